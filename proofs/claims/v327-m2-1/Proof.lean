import JvmDerived
import JvmDerived.Pilot.@@N@@Statement
import JvmDerived.Pilot.@@N@@Code
set_option linter.unusedVariables false
set_option linter.unusedSimpArgs false
namespace Jvm.Pilot.@@N@@
open Jvm Jvm.ClassFile Sem Op Lib Jvm.Free Jvm.Stand Jvm.LawKit Jvm.RoadKit Bundle Jvm.Pilot.@@N@@.Jvm.D
/-! the walk's goal in continuation style -/
def own_Ends (p : Program) (e : Env) (below : List Frame) (s : State) (Q : Option Value → Heap → List Loc → Prop) (k n : Nat) (t : State) : Prop :=
  ∃ s₂ o, Steps p.tables e below t s₂ ∧ s₂.status = .running ∧ Ended s₂ below o ∧ ∃ v L, o = .returned v ∧ Q v s₂.heap L ∧ FrameEnd s o s₂ L k n
section OwnEnds
variable {p : Program} {l : Launch} {e : Env} {R : Room} {s : State} {m : MethodId} {args : Array Value} {below : List Frame} {meth : Method} {c : Code} {T : State} {locs : List Loc} {cells slots : Nat} {Q : Option Value → Heap → List Loc → Prop} {k n : Nat}
theorem own_go {t t' : State} (h : ∀ u, Steps p.tables e below t' u → Steps p.tables e below t u) (g : own_Ends p e below s Q k n t') : own_Ends p e below s Q k n t := by
  obtain ⟨s₂, o, h1, h2⟩ := g
  exact ⟨s₂, o, h _ h1, h2⟩
theorem own_retN (X : Stand p l e R s m args below meth c T locs cells slots) (hx : p.tables.exec = Jvm.exec) {pc : Nat} {Ls : Array Slot} {z w : Int32} {t : FieldType} {rest : List Value} (hret : meth.sig.returnType = some t) (ht : t = .boolean ∨ t = .byte ∨ t = .char ∨ t = .short)
    (hd : decode c.code pc = .ok (.ireturn, 1)) (hlk : meth.locks = false) (hz : nar t z = w) (hQ : Q (some (.int w)) T.heap locs) (hk : cells ≤ k) (hn : slots ≤ n) : own_Ends p e below s Q k n (T.setTop (mkF m pc Ls (.int z :: rest))) := by
  subst hz
  obtain ⟨fs, hr, hrun, hended, hW, hsame⟩ := X.leave (v := some (.int (nar t z))) (fun h => by rw [hret] at h; cases h) hlk
  exact ⟨_, _, retN X hx hret ht hd hr, hrun, hended, _, _, rfl, hQ, ⟨_, rfl⟩, hW, hsame.mono hk hn⟩
theorem own_ret (X : Stand p l e R s m args below meth c T locs cells slots) (hx : p.tables.exec = Jvm.exec) {pc : Nat} {Ls : Array Slot} {w : Value} {t : FieldType} {i : Instr} {rest : List Value} (hret : meth.sig.returnType = some t) (hn' : narrow t w = w)
    (hi : (i = .ireturn ∧ (t = .int ∨ t = .boolean ∨ t = .byte ∨ t = .char ∨ t = .short) ∧ ∃ z, w = .int z) ∨ (i = .lreturn ∧ t = .long ∧ ∃ z, w = .long z) ∨ (i = .dreturn ∧ t = .double ∧ ∃ z, w = .double z) ∨ (i = .freturn ∧ t = .float ∧ ∃ z, w = .float z) ∨ (i = .areturn ∧ t.isReference = true ∧ w.isRef = true))
    (hd : decode c.code pc = .ok (i, 1)) (hlk : meth.locks = false) (hQ : Q (some w) T.heap locs) (hk : cells ≤ k) (hn : slots ≤ n) : own_Ends p e below s Q k n (T.setTop (mkF m pc Ls (w :: rest))) := by
  obtain ⟨fs, hr, hrun, hended, hW, hsame⟩ := X.leave (v := some w) (fun h => by rw [hret] at h; cases h) hlk
  exact ⟨_, _, retOut X hx hret hn' hi hd hr, hrun, hended, _, _, rfl, hQ, ⟨_, rfl⟩, hW, hsame.mono hk hn⟩
theorem own_ret0 (X : Stand p l e R s m args below meth c T locs cells slots) (hx : p.tables.exec = Jvm.exec) {pc : Nat} {Ls : Array Slot} (hret : meth.sig.returnType = none)
    (hd : decode c.code pc = .ok (.return_, 1)) (hlk : meth.locks = false) (hQ : Q none T.heap locs) (hk : cells ≤ k) (hn : slots ≤ n) : own_Ends p e below s Q k n (T.setTop (mkF m pc Ls [])) := by
  obtain ⟨fs, hr, hrun, hended, hW, hsame⟩ := X.leave (v := none) (fun _ => rfl) hlk
  exact ⟨_, _, X.returnOut hx hret hd hr, hrun, hended, _, _, rfl, hQ, ⟨_, rfl⟩, hW, hsame.mono hk hn⟩
end OwnEnds
theorem pd_0 : parseMethodDescriptor "(IJIC)C" = some ⟨[.int, .long, .int, .char], some .char⟩ := by decide +kernel
theorem pd_1 : parseMethodDescriptor "([C)V" = some ⟨[(.array .char)], none⟩ := by decide +kernel
theorem pd_2 : parseMethodDescriptor "([CIILjava/lang/Void;)V" = some ⟨[(.array .char), .int, .int, (.object "java/lang/Void")], none⟩ := by decide +kernel
theorem pd_3 : parseMethodDescriptor "()V" = some ⟨[], none⟩ := by decide +kernel
theorem pd_4 : parseMethodDescriptor "([CII)[B" = some ⟨[(.array .char), .int, .int], some (.array .byte)⟩ := by decide +kernel
theorem pd_5 : parseMethodDescriptor "([CI[BII)I" = some ⟨[(.array .char), .int, (.array .byte), .int, .int], some .int⟩ := by decide +kernel
theorem pd_6 : parseMethodDescriptor "([BI)B" = some ⟨[(.array .byte), .int], some .byte⟩ := by decide +kernel
theorem pd_7 : parseMethodDescriptor "([CIICI)I" = some ⟨[(.array .char), .int, .int, .char, .int], some .int⟩ := by decide +kernel
theorem pd_8 : parseMethodDescriptor "(Ljava/lang/String;IC)I" = some ⟨[(.object "java/lang/String"), .int, .char], some .int⟩ := by decide +kernel
theorem pd_9 : parseMethodDescriptor "()I" = some ⟨[], some .int⟩ := by decide +kernel
theorem pd_10 : parseMethodDescriptor "()B" = some ⟨[], some .byte⟩ := by decide +kernel
theorem pd_11 : parseMethodDescriptor "(I)C" = some ⟨[.int], some .char⟩ := by decide +kernel
theorem pd_12 : parseMethodDescriptor "()Z" = some ⟨[], some .boolean⟩ := by decide +kernel
theorem pd_13 : parseMethodDescriptor "([BI)C" = some ⟨[(.array .byte), .int], some .char⟩ := by decide +kernel
theorem pd_14 : parseMethodDescriptor "(II)V" = some ⟨[.int, .int], none⟩ := by decide +kernel
theorem pd_15 : parseMethodDescriptor "(IILjava/util/function/BiFunction;)I" = some ⟨[.int, .int, (.object "java/util/function/BiFunction")], some .int⟩ := by decide +kernel
theorem pd_16 : parseMethodDescriptor "(I)[B" = some ⟨[.int], some (.array .byte)⟩ := by decide +kernel
theorem pd_17 : parseMethodDescriptor "(I)I" = some ⟨[.int], some .int⟩ := by decide +kernel
theorem pd_18 : parseMethodDescriptor "([BII)V" = some ⟨[(.array .byte), .int, .int], none⟩ := by decide +kernel
theorem pd_19 : parseMethodDescriptor "(I[B)V" = some ⟨[.int, (.array .byte)], none⟩ := by decide +kernel
theorem pd_20 : parseMethodDescriptor "([B)I" = some ⟨[(.array .byte)], some .int⟩ := by decide +kernel
theorem own_ofNat_lt {i n : Nat} (hi : i < 2 ^ 31) (hn : n < 2 ^ 31) : (Int32.ofNat i < Int32.ofNat n) ↔ i < n := by
  rw [Int32.lt_iff_toInt_lt, Int32.toInt_ofNat_small hi, Int32.toInt_ofNat_small hn]; omega
theorem own_nneg {i : Nat} (hi : i < 2 ^ 31) : ¬ Int32.ofNat i < 0 := by
  have := own_ofNat_lt (i := i) (n := 0) hi (by decide)
  intro h
  exact absurd (this.mp h) (Nat.not_lt_zero _)
theorem own_clamp {i : Nat} (hi : i < 2 ^ 31) : (Int32.ofNat i).toNatClampNeg = i := by
  show (Int32.ofNat i).toInt.toNat = i
  rw [Int32.toInt_ofNat_small hi]; exact Int.toNat_natCast i
theorem own_up (i : Nat) : Int32.ofNat i + (1 : Int32) = Int32.ofNat (i + 1) := (Int32.ofNat_add i 1).symm
theorem own_getD (xs : List Int32) {j : Nat} (hj : j < 2 ^ 31) : (xs.map Value.int).getD (Int32.ofNat j).toNatClampNeg (.int (0 : Int32)) = .int (xs.getD j 0) := by
  rw [own_clamp hj, List.getD_eq_getElem?_getD, List.getElem?_map, List.getD_eq_getElem?_getD]
  cases xs[j]? <;> rfl
theorem own_e0 : ((0:Int32) &&& 31) = 0 := by decide
theorem own_e8 : ((8:Int32) &&& 31) = 8 := by decide
theorem own_bb (x : BitVec 32) : (BitVec.setWidth 32 (BitVec.setWidth 16 (((BitVec.signExtend 32 (BitVec.signExtend 8 (BitVec.signExtend 32 (BitVec.signExtend 8 x)))) &&& 255#32) ||| (((BitVec.signExtend 32 (BitVec.signExtend 8 (BitVec.signExtend 32 (BitVec.signExtend 8 (x.sshiftRight 8))))) &&& 255#32) <<< 8)))) = BitVec.setWidth 32 (BitVec.setWidth 16 x) := by
  have h255 : ∀ i, (255#32).getLsbD i = decide (i < 8) := by
    intro i
    by_cases h : i < 32
    · revert i; decide
    · rw [BitVec.getLsbD_of_ge _ _ (by omega)]; simp; omega
  apply BitVec.eq_of_getLsbD_eq
  intro i hi
  simp only [BitVec.getLsbD_setWidth, BitVec.getLsbD_or, BitVec.getLsbD_and, BitVec.getLsbD_shiftLeft, BitVec.getLsbD_signExtend, BitVec.getLsbD_sshiftRight, h255]
  by_cases h8 : i < 8
  · simp [h8, hi, show i < 16 by omega]
  · by_cases h16 : i < 16
    · simp [h8, hi, h16, show i - 8 < 8 by omega, show i - 8 < 32 by omega, show 8 + (i - 8) = i by omega]
    · simp [h16]
theorem own_r8 (x : Int32) : (x >>> (8 : Int32)).toBitVec = x.toBitVec.sshiftRight 8 := by
  rw [Int32.toBitVec_shiftRight]; rfl
theorem own_l8 (x : Int32) : (x <<< (8 : Int32)).toBitVec = x.toBitVec <<< 8 := by
  rw [Int32.toBitVec_shiftLeft]; rfl
def own_loI (c : Int32) : Int32 := nar .byte ((c >>> ((0 : Int32) &&& 31)).toInt8.toInt32)
def own_hiI (c : Int32) : Int32 := nar .byte ((c >>> ((8 : Int32) &&& 31)).toInt8.toInt32)
def own_laI (c : Int32) : Int32 := nar .byte (c.toInt8.toInt32)
theorem own_u16 (c : Int32) : (((own_loI c &&& (255 : Int32)) <<< ((0:Int32) &&& 31)) ||| ((own_hiI c &&& (255 : Int32)) <<< ((8:Int32) &&& 31))).toUInt32.toUInt16.toUInt32.toInt32 = nar .char c := by
  unfold own_loI own_hiI
  rw [own_e0, own_e8]
  apply Int32.toBitVec_inj.mp
  have h := own_bb c.toBitVec
  have s0 : ∀ x : Int32, x >>> (0 : Int32) = x := fun x => Int32.shiftRight_zero
  have l0 : ∀ x : Int32, x <<< (0 : Int32) = x := fun x => Int32.shiftLeft_zero
  rw [s0, l0]
  show BitVec.setWidth 32 (BitVec.setWidth 16 (((BitVec.signExtend 32 (BitVec.signExtend 8 (BitVec.signExtend 32 (BitVec.signExtend 8 c.toBitVec)))) &&& 255#32) ||| ((nar .byte ((c >>> (8 : Int32)).toInt8.toInt32) &&& (255 : Int32)) <<< (8 : Int32)).toBitVec)) = BitVec.setWidth 32 (BitVec.setWidth 16 c.toBitVec)
  rw [own_l8]
  show BitVec.setWidth 32 (BitVec.setWidth 16 (((BitVec.signExtend 32 (BitVec.signExtend 8 (BitVec.signExtend 32 (BitVec.signExtend 8 c.toBitVec)))) &&& 255#32) ||| (((BitVec.signExtend 32 (BitVec.signExtend 8 (BitVec.signExtend 32 (BitVec.signExtend 8 (c >>> (8 : Int32)).toBitVec)))) &&& 255#32) <<< 8))) = BitVec.setWidth 32 (BitVec.setWidth 16 c.toBitVec)
  rw [own_r8]
  exact h
theorem own_lat0 : ∀ k : Fin 256, (own_laI (Int32.ofNat k.val) &&& (255 : Int32)).toUInt32.toUInt16.toUInt32.toInt32 = Int32.ofNat k.val := by decide +kernel
theorem own_chn (x : Int32) : 0 ≤ (nar .char x).toInt ∧ (nar .char x).toInt ≤ 65535 := by
  have h := fits_nar_char x
  simpa [fits, Int32.le_iff_toInt_le, show (0 : Int32).toInt = 0 from by decide, show (65535 : Int32).toInt = 65535 from by decide] using h
theorem own_charid {c : Int32} (h : 0 ≤ c.toInt ∧ c.toInt ≤ 65535) : nar .char c = c := by
  apply Int32.toBitVec_inj.mp
  apply BitVec.eq_of_toNat_eq
  show (BitVec.setWidth 32 (BitVec.setWidth 16 c.toBitVec)).toNat = _
  rw [BitVec.toNat_setWidth, BitVec.toNat_setWidth]
  have h1 : (c.toInt : Int) = c.toBitVec.toInt := rfl
  rw [BitVec.toInt_eq_toNat_cond] at h1
  split at h1 <;> omega
theorem own_nn (x : Int32) : nar .char (nar .char x) = nar .char x := own_charid (own_chn x)
theorem own_gc {c : Int32} (h : nar .char c = c) : nar .char ((((own_loI c &&& (255 : Int32)) <<< ((0:Int32) &&& 31)) ||| ((own_hiI c &&& (255 : Int32)) <<< ((8:Int32) &&& 31))).toUInt32.toUInt16.toUInt32.toInt32) = c := by
  rw [own_u16, h, h]
theorem own_back (c : Int32) (h : 0 ≤ c.toInt) : c = Int32.ofNat c.toInt.toNat := by
  rw [← Int32.toInt_inj]
  have := rng32 c
  rw [Int32.toInt_ofNat_small (by omega)]
  omega
theorem own_lat {c : Int32} (h : nar .char c = c) (hl : ¬ (255 : Int32) < c) : nar .char ((own_laI c &&& (255 : Int32)).toUInt32.toUInt16.toUInt32.toInt32) = c := by
  have h1 := own_chn c
  rw [h] at h1
  have e : (255 : Int32).toInt = 255 := by decide
  rw [Int32.lt_iff_toInt_lt, e] at hl
  have q := own_lat0 ⟨c.toInt.toNat, by omega⟩
  dsimp only at q
  rw [← own_back c h1.1] at q
  rw [q, h]
theorem own_dbl {n : Nat} (h : n < 2 ^ 20) : Int32.ofNat n <<< ((1 : Int32) &&& 31) = Int32.ofNat (2 * n) := by
  have e1 : ((1:Int32) &&& 31) = 1 := by decide
  rw [e1]
  apply Int32.toBitVec_inj.mp
  rw [Int32.toBitVec_shiftLeft]
  apply BitVec.eq_of_toNat_eq
  show ((Int32.ofNat n).toBitVec <<< 1).toNat = (Int32.ofNat (2 * n)).toBitVec.toNat
  rw [BitVec.toNat_shiftLeft]
  show ((n % 2 ^ 32) <<< 1) % 2 ^ 32 = (2 * n) % 2 ^ 32
  rw [Nat.shiftLeft_eq]
  omega
def own_lh (c : Int32) : List Value := [.int (own_loI c), .int (own_hiI c)]
def own_bv (c : Int32) : Value := .int (own_laI c)
def own_zz (kc : Int32) (n : Nat) : Int32 := if kc = 0 then Int32.ofNat n else Int32.ofNat (2 * n)
def own_vs (kc : Int32) (cs : List Int32) : List Value := if kc = 0 then cs.map own_bv else cs.flatMap own_lh
def own_KC (kc : Int32) (cs : List Int32) : Prop := (kc = 0 ∧ ∀ c ∈ cs, ¬ (255 : Int32) < c) ∨ kc = 1
def own_Ch (cs : List Int32) : Prop := ∀ c ∈ cs, nar .char c = c
theorem own_mem {cs : List Int32} {i : Nat} (h : i < cs.length) : cs.getD i 0 ∈ cs := by
  rw [List.getD_eq_getElem?_getD, List.getElem?_eq_getElem h]
  exact List.getElem_mem h
theorem own_take (cs : List Int32) {i : Nat} (h : i < cs.length) : cs.take (i + 1) = cs.take i ++ [cs.getD i 0] := by
  rw [List.take_add_one, List.getElem?_eq_getElem h, List.getD_eq_getElem?_getD, List.getElem?_eq_getElem h]; rfl
theorem own_fm (cs : List Int32) {i : Nat} (h : i < cs.length) : (cs.take i).flatMap own_lh ++ [.int (own_loI (cs.getD i 0))] ++ [.int (own_hiI (cs.getD i 0))] = (cs.take (i + 1)).flatMap own_lh := by
  rw [own_take cs h, List.flatMap_append]; simp [own_lh]
theorem own_fml (cs : List Int32) : (cs.flatMap own_lh).length = 2 * cs.length := by
  induction cs with
  | nil => rfl
  | cons c cs ih => rw [List.flatMap_cons, List.length_append, ih]; simp [own_lh]; omega
theorem own_fmt (cs : List Int32) {i : Nat} (h : i ≤ cs.length) : ((cs.take i).flatMap own_lh).length = 2 * i := by
  rw [own_fml, List.length_take]; omega
theorem own_fm0 (cs : List Int32) : ∀ {i : Nat}, i < cs.length → (cs.flatMap own_lh).getD (2 * i) (.int (0 : Int32)) = .int (own_loI (cs.getD i 0)) ∧ (cs.flatMap own_lh).getD (2 * i + 1) (.int (0 : Int32)) = .int (own_hiI (cs.getD i 0)) := by
  induction cs with
  | nil => intro i h; exact absurd h (Nat.not_lt_zero _)
  | cons c cs ih =>
    intro i h
    cases i with
    | zero => exact ⟨rfl, rfl⟩
    | succ i =>
      have q := ih (i := i) (by simpa using h)
      rw [show 2 * (i + 1) = 2 * i + 2 by omega, show 2 * i + 2 + 1 = 2 * i + 1 + 2 by omega]
      exact q
theorem own_la (cs : List Int32) {i : Nat} (h : i < cs.length) : (cs.map own_bv).getD i (.int (0 : Int32)) = .int (own_laI (cs.getD i 0)) := by
  rw [List.getD_eq_getElem?_getD, List.getElem?_map, List.getElem?_eq_getElem h, List.getD_eq_getElem?_getD, List.getElem?_eq_getElem h]; rfl
theorem own_snoc {Z : State} {h h' : Heap} {a : Addr} {k : ClassId} {ty : FieldType} {z j : Int32} {vs : List Value} {dv v : Value} {c : Cell} (A : Arr Z h a c ty) (q1 : c.cls = k) (S : c.slots.size = z.toNatClampNeg) (q3 : ¬ z < 0) (H : Has c vs dv) (G : ∀ i, i < c.slots.size → fits ty (vs.getD i dv) = true) (hv : fits ty v = true) (W : Wr h h' a j.toNatClampNeg v) (hj : j.toNatClampNeg = vs.length) : Arv Z h' a k ty z (vs ++ [v]) dv := by
  have P := pad_rep vs dv 1
  have r := Arv.set (vs := vs ++ List.replicate 1 dv) A q1 S q3 (fun i hi => by rw [P]; exact H i hi) (fun i hi => by rw [P]; exact G i hi) hv W vs.length hj (by simp)
  have e : (vs ++ List.replicate 1 dv).set vs.length v = vs ++ [v] := by simp [List.set_append]
  rw [e] at r
  exact r
def own_cal (n z : Int32) : Int32 := nar .byte ((((n - z).toUInt32 >>> ((31 : Int32) &&& 31).toUInt32).toInt32).toInt8.toInt32)
theorem own_cal1 : ∀ n : Fin 64, (own_cal (Int32.ofNat n.val) (Int32.ofNat n.val) = 0 ∧ (1 ≤ n.val → own_cal (Int32.ofNat n.val) (Int32.ofNat (2 * n.val)) = 1)) := by decide +kernel
theorem own_calk {kc : Int32} {cs : List Int32} (h : own_KC kc cs) (h1 : 1 ≤ cs.length) (h2 : cs.length < 64) : own_cal (Int32.ofNat cs.length) (own_zz kc cs.length) = kc := by
  have q := own_cal1 ⟨cs.length, h2⟩
  rcases h with ⟨rfl, -⟩ | rfl
  · exact q.1
  · exact q.2 h1
theorem own_kcb {kc : Int32} {cs : List Int32} (h : own_KC kc cs) : nar .byte kc = kc := by
  rcases h with ⟨rfl, -⟩ | rfl <;> decide
theorem own_zz0 {kc : Int32} {n : Nat} (h1 : 1 ≤ n) (h2 : n < 64) : ¬ own_zz kc n = 0 := by
  unfold own_zz
  split
  · intro h
    have q := congrArg Int32.toInt h
    rw [Int32.toInt_ofNat_small (by omega)] at q
    have e : (0 : Int32).toInt = 0 := by decide
    omega
  · intro h
    have q := congrArg Int32.toInt h
    rw [Int32.toInt_ofNat_small (by omega)] at q
    have e : (0 : Int32).toInt = 0 := by decide
    omega
theorem own_len1 : ∀ n : Fin 64, Int32.ofNat n.val >>> ((0 : Int32) &&& 31) = Int32.ofNat n.val ∧ Int32.ofNat (2 * n.val) >>> ((1 : Int32) &&& 31) = Int32.ofNat n.val := by decide +kernel
theorem own_lenk {kc : Int32} {cs : List Int32} (h : own_KC kc cs) (h2 : cs.length < 64) : own_zz kc cs.length >>> (kc &&& 31) = Int32.ofNat cs.length := by
  have q := own_len1 ⟨cs.length, h2⟩
  rcases h with ⟨rfl, -⟩ | rfl
  · exact q.1
  · exact q.2
def own_St (Z : State) (vc : Int32) (vf : Value) : Prop := ¬ vc = 0 ∧ Sta Z Z.heap "java/lang/String" "COMPACT_STRINGS" "Z" (.int vc) ∧ Sta Z Z.heap "java/lang/StringUTF16" "$assertionsDisabled" "Z" (.int (1 : Int32)) ∧ Sta Z Z.heap "java/lang/StringUTF16" "HI_BYTE_SHIFT" "I" (.int (0 : Int32)) ∧ Sta Z Z.heap "java/lang/StringUTF16" "LO_BYTE_SHIFT" "I" (.int (8 : Int32)) ∧ Sta Z Z.heap "jdk/internal/util/Preconditions" "SIOOBE_FORMATTER" "Ljava/util/function/BiFunction;" vf ∧ vf.isRef = true
theorem d19_0 : decode jdk_52_method_3_code 0 = .ok (.iload_n 0, 1) := by decide +kernel
theorem d19_1 : decode jdk_52_method_3_code 1 = .ok (.ifCond .ge 11, 3) := by decide +kernel
theorem d19_4 : decode jdk_52_method_3_code 4 = .ok (.new 17, 3) := by decide +kernel
theorem d19_7 : decode jdk_52_method_3_code 7 = .ok (.dup, 1) := by decide +kernel
theorem d19_8 : decode jdk_52_method_3_code 8 = .ok (.invokespecial 19, 3) := by decide +kernel
theorem d19_11 : decode jdk_52_method_3_code 11 = .ok (.athrow, 1) := by decide +kernel
theorem d19_12 : decode jdk_52_method_3_code 12 = .ok (.iload_n 0, 1) := by decide +kernel
theorem d19_13 : decode jdk_52_method_3_code 13 = .ok (.ldc 20, 2) := by decide +kernel
theorem d19_15 : decode jdk_52_method_3_code 15 = .ok (.if_icmp .lt 40, 3) := by decide +kernel
theorem d19_18 : decode jdk_52_method_3_code 18 = .ok (.new 21, 3) := by decide +kernel
theorem d19_21 : decode jdk_52_method_3_code 21 = .ok (.dup, 1) := by decide +kernel
theorem d19_22 : decode jdk_52_method_3_code 22 = .ok (.new 23, 3) := by decide +kernel
theorem d19_25 : decode jdk_52_method_3_code 25 = .ok (.dup, 1) := by decide +kernel
theorem d19_26 : decode jdk_52_method_3_code 26 = .ok (.invokespecial 25, 3) := by decide +kernel
theorem d19_29 : decode jdk_52_method_3_code 29 = .ok (.ldc 26, 2) := by decide +kernel
theorem d19_31 : decode jdk_52_method_3_code 31 = .ok (.invokevirtual 28, 3) := by decide +kernel
theorem d19_34 : decode jdk_52_method_3_code 34 = .ok (.iload_n 0, 1) := by decide +kernel
theorem d19_35 : decode jdk_52_method_3_code 35 = .ok (.invokevirtual 32, 3) := by decide +kernel
theorem d19_38 : decode jdk_52_method_3_code 38 = .ok (.ldc 35, 2) := by decide +kernel
theorem d19_40 : decode jdk_52_method_3_code 40 = .ok (.invokevirtual 28, 3) := by decide +kernel
theorem d19_43 : decode jdk_52_method_3_code 43 = .ok (.ldc 20, 2) := by decide +kernel
theorem d19_45 : decode jdk_52_method_3_code 45 = .ok (.invokevirtual 32, 3) := by decide +kernel
theorem d19_48 : decode jdk_52_method_3_code 48 = .ok (.invokevirtual 37, 3) := by decide +kernel
theorem d19_51 : decode jdk_52_method_3_code 51 = .ok (.invokespecial 41, 3) := by decide +kernel
theorem d19_54 : decode jdk_52_method_3_code 54 = .ok (.athrow, 1) := by decide +kernel
theorem d19_55 : decode jdk_52_method_3_code 55 = .ok (.iload_n 0, 1) := by decide +kernel
theorem d19_56 : decode jdk_52_method_3_code 56 = .ok (.iconst 1, 1) := by decide +kernel
theorem d19_57 : decode jdk_52_method_3_code 57 = .ok (.ishl, 1) := by decide +kernel
theorem d19_58 : decode jdk_52_method_3_code 58 = .ok (.ireturn, 1) := by decide +kernel
theorem pn_0 : plainName "java/lang/StringUTF16" = true := by first | (simp [plainName, overriddenIn]; done) | decide +kernel
theorem ef_19 (m : MethodId) (x0 : Int32) : entryFrame m #[(.int x0)] 1 = mkF m 0 #[.val (.int x0)] [] := by first | (simp [entryFrame, mkF, argsToLocals, Value.category]; done) | rfl
def Q19 (n : Nat) (h0 : Heap) (n0 : Nat) (Z : State) (v : Option Value) (h : Heap) (L : List Loc) : Prop := v = some (.int (Int32.ofNat (2 * n))) ∧ Fr n0 L ∧ h = h0
set_option maxRecDepth 65536 in
set_option maxHeartbeats 40000000 in
theorem rm19 (l : Launch) (Z : State) (a0 : Array Value) (hw : ∀ d ∈ tables_1, d.before a0 Z = true) (ws : List Jvm.Cond) (n : Nat) (h0 : Heap) (n0 : Nat) (Z0 : n0 ≤ h0.size) (hN : n ≤ 5) :
    MetFree l (⟨"java/lang/StringUTF16", "newBytesLength", "(I)I"⟩ : MethodName) (head1 (Jvm.Cond.code (⟨"java/lang/StringUTF16", "newBytesLength", "(I)I"⟩ : MethodName) jdk_52_method_3_code 1 (some .int) :: ws) ({ frames := 0, cells := 0, slots := 0, locals := 0 } : Room)) (fun a U => a = #[(.int (Int32.ofNat n))] ∧ Z.Warmed39 U.vm ∧ U.heap = h0) (fun _ _ _ _ _ => True) (fun _ U o U' => ∃ v L, o = .returned v ∧ Q19 n h0 n0 Z v U'.heap L ∧ FrameEnd U o U' L ({ frames := 0, cells := 0, slots := 0, locals := 0 } : Room).cells ({ frames := 0, cells := 0, slots := 0, locals := 0 } : Room).slots) := by
  refine MetFree.of_bodySF (plainFor_of_name pn_0) hisR ?_
  intro p e s m args below meth c s₁ Bd hml0 hP hK
  obtain ⟨rfl, hZ, hh⟩ := hP
  have hx := Bd.exec
  have hby := Bd.bytes
  have hml : c.maxLocals = 1 := hml0
  have hown : s.vm.findClass "java/lang/StringUTF16" = some m.cls := findClass_of_methodNamed Bd.named
  have hnm := (name_of_methodNamed Bd.named Bd.method).1
  have hlk := Bd.notSynchronized
  have hrt := Bd.returns
  have X0 : Stand p l e ({ frames := 0, cells := 0, slots := 0, locals := 0 } : Room) s m #[(.int (Int32.ofNat n))] below meth c s₁ [] 0 0 := Stand.of_body Bd
  have e0 : s₁.heap = h0 := by rw [← hh, Bd.state]; rfl
  have N0 := Fr.nil n0
  show own_Ends p e below s (Q19 n h0 n0 Z) ({ frames := 0, cells := 0, slots := 0, locals := 0 } : Room).cells ({ frames := 0, cells := 0, slots := 0, locals := 0 } : Room).slots (s₁.setTop (entryFrame m #[(.int (Int32.ofNat n))] 1))
  rw [ef_19]
  refine own_go (fun _ k => XS.iloadN X0.here hx rfl (hb hby d19_0) rfl <| XS.ifYes X0.here hx rfl (pc0 := 1) (pc' := 12) rfl (hb hby d19_1) rfl ((if0 _ _).trans (flt (own_nneg (by omega))).2.1) (by decide) (by decide) <| XS.iloadN X0.here hx rfl (hb hby d19_12) rfl <| X0.ldcI hx hown (mvT hZ (hw _ (List.mem_of_getElem? (i := 84) rfl))) rfl (hb hby d19_13) <| XS.icmpYes X0.here hx rfl (pc0 := 15) (pc' := 55) rfl (hb hby d19_15) rfl (tlt ((own_ofNat_lt (n := 1073741823) (by omega) (by decide)).mpr (by omega))).1 (by decide) (by decide) <| XS.iloadN X0.here hx rfl (hb hby d19_55) rfl <| XT.iconstV X0.here hx rfl (1 : Int32) (hb hby d19_56) rfl <| XS.ishl X0.here hx rfl (hb hby d19_57) rfl <| k) ?_
  show own_Ends p e below s _ _ _ (s₁.setTop (mkF m 58 #[.val (.int (Int32.ofNat n))] [(.int ((Int32.ofNat n) <<< ((1 : Int32) &&& 31)))]))
  exact own_ret X0 hx hrt rfl (Or.inl ⟨rfl, Or.inl rfl, _, rfl⟩) (hb hby d19_58) hlk (by rw [e0]; exact ⟨by rw [own_dbl (by omega)], N0, rfl⟩) (by decide) (by decide)
theorem d18_0 : decode jdk_52_method_2_code 0 = .ok (.iload_n 0, 1) := by decide +kernel
theorem d18_1 : decode jdk_52_method_2_code 1 = .ok (.invokestatic 11, 3) := by decide +kernel
theorem d18_4 : decode jdk_52_method_2_code 4 = .ok (.newarray .byte, 2) := by decide +kernel
theorem d18_6 : decode jdk_52_method_2_code 6 = .ok (.areturn, 1) := by decide +kernel
theorem ef_18 (m : MethodId) (x0 : Int32) : entryFrame m #[(.int x0)] 1 = mkF m 0 #[.val (.int x0)] [] := by first | (simp [entryFrame, mkF, argsToLocals, Value.category]; done) | rfl
def Q18 (n : Nat) (h0 : Heap) (n0 : Nat) (Z : State) (v : Option Value) (h : Heap) (L : List Loc) : Prop := ∃ b k, v = some (.ref b) ∧ Fr n0 L ∧ Keep h0 h [] ∧ n0 ≤ b ∧ h0.size ≤ b ∧ Arv Z h b k .byte (Int32.ofNat (2 * n)) [] (.int (0 : Int32))
set_option maxRecDepth 65536 in
set_option maxHeartbeats 40000000 in
theorem rm18 (l : Launch) (Z : State) (a0 : Array Value) (hw : ∀ d ∈ tables_1, d.before a0 Z = true) (ws : List Jvm.Cond) (n : Nat) (h0 : Heap) (n0 : Nat) (Z0 : n0 ≤ h0.size) (hN : n ≤ 5) :
    MetFree l (⟨"java/lang/StringUTF16", "newBytesFor", "(I)[B"⟩ : MethodName) (head1 (Jvm.Cond.code (⟨"java/lang/StringUTF16", "newBytesFor", "(I)[B"⟩ : MethodName) jdk_52_method_2_code 1 (some (.array .byte)) :: ws) ({ frames := 1, cells := 1, slots := 10, locals := 12 } : Room)) (fun a U => a = #[(.int (Int32.ofNat n))] ∧ Z.Warmed39 U.vm ∧ U.heap = h0) (fun _ _ _ _ _ => True) (fun _ U o U' => ∃ v L, o = .returned v ∧ Q18 n h0 n0 Z v U'.heap L ∧ FrameEnd U o U' L ({ frames := 1, cells := 1, slots := 10, locals := 12 } : Room).cells ({ frames := 1, cells := 1, slots := 10, locals := 12 } : Room).slots) := by
  refine MetFree.of_bodySF (plainFor_of_name pn_0) hisR ?_
  intro p e s m args below meth c s₁ Bd hml0 hP hK
  obtain ⟨rfl, hZ, hh⟩ := hP
  have hx := Bd.exec
  have hby := Bd.bytes
  have hml : c.maxLocals = 1 := hml0
  have hown : s.vm.findClass "java/lang/StringUTF16" = some m.cls := findClass_of_methodNamed Bd.named
  have hnm := (name_of_methodNamed Bd.named Bd.method).1
  have hlk := Bd.notSynchronized
  have hrt := Bd.returns
  have X0 : Stand p l e ({ frames := 1, cells := 1, slots := 10, locals := 12 } : Room) s m #[(.int (Int32.ofNat n))] below meth c s₁ [] 0 0 := Stand.of_body Bd
  have e0 : s₁.heap = h0 := by rw [← hh, Bd.state]; rfl
  have N0 := Fr.nil n0
  show own_Ends p e below s (Q18 n h0 n0 Z) ({ frames := 1, cells := 1, slots := 10, locals := 12 } : Room).cells ({ frames := 1, cells := 1, slots := 10, locals := 12 } : Room).slots (s₁.setTop (entryFrame m #[(.int (Int32.ofNat n))] 1))
  rw [ef_18]
  have K0 : Keep h0 h0 [] := Keep.refl h0 []
  refine own_go (fun _ k => XS.iloadN X0.here hx rfl (hb hby d18_0) rfl <| k) ?_
  show own_Ends p e below s _ _ _ (s₁.setTop (mkF m 1 #[.val (.int (Int32.ofNat n))] [(.int (Int32.ofNat n))]))
  obtain ⟨_, _, ⟨T1, L1, k1, n1⟩, -, X1, ⟨Lc1, hQ1, l1, y1, z1⟩, st1⟩ := Jvm.LawKit.callS X0 hx (y := (⟨"java/lang/StringUTF16", "newBytesLength", "(I)I"⟩ : MethodName)) hown (mvT hZ (hw _ (List.mem_of_getElem? (i := 81) rfl))) (mvT hZ (hw _ (List.mem_of_getElem? (i := 82) rfl))) (mvT hZ (hw _ (List.mem_of_getElem? (i := 22) rfl))) (mvT hZ (hw _ (List.mem_of_getElem? (i := 83) rfl))) (by decide) (backOf (W := 0) (rm19 l Z a0 hw [] n h0 n0 Z0 hN) hZ (hw _ (List.mem_of_getElem? (i := 83) rfl)) (hw _ (List.mem_of_getElem? (i := 22) rfl)) (by decide) (by decide)) (g := (mkF m 1 #[.val (.int (Int32.ofNat n))] [(.int (Int32.ofNat n))])) rfl (by rw [hml]; rfl) (argsL := [(.int (Int32.ofNat n))]) (rest := []) (lenOf pd_17 rfl) rfl (by show 2 * 0 + _ ≤ _; exact Nat.le_of_eq rfl) (hb hby d18_1) (fun _ _ => ⟨rfl, e0, Nat.le_of_ble_eq_true rfl, Nat.le_of_ble_eq_true rfl⟩)
  dsimp only [Pt.U, Pt.locs, Pt.cells, Pt.slots] at X1 l1 y1 z1 st1 hQ1
  subst l1 y1 z1
  obtain ⟨rfl, N1q, e1⟩ := hQ1
  have N1 := Fr.app N0 N1q
  refine own_go (fun _ k => st1 _ k) ?_
  show own_Ends p e below s _ _ _ (T1.setTop (mkF m 4 #[.val (.int (Int32.ofNat n))] [(.int (Int32.ofNat (2 * n)))]))
  obtain ⟨T2, h2, k2, X2, e2, E2, A2, st2⟩ := newP X1 hx hZ (hw _ (List.mem_of_getElem? (i := 24) rfl)) e1 (g := (mkF m 4 #[.val (.int (Int32.ofNat n))] [(.int (Int32.ofNat (2 * n)))])) rfl (hb hby d18_4) rfl (own_nneg (by omega)) (cap := 10) (by rw [own_clamp (by omega)]; omega) (by decide) (by decide) (by decide)
  obtain ⟨b2, g2⟩ : ∃ z, z = h0.size := ⟨_, rfl⟩
  rw [← g2] at A2 st2
  refine own_go st2 ?_
  have g_b2 : n0 ≤ b2 := Nat.le_trans Z0 (Nat.le_of_eq g2.symm)
  have sz_b2 : h0.size ≤ b2 := Nat.le_trans K0.1 (Nat.le_of_eq g2.symm)
  have Z2 := Nat.le_trans Z0 E2.1
  have K2' := K0.ext E2
  have V_b2 : Arv Z h2 b2 k2 .byte (Int32.ofNat (2 * n)) [] (.int (0 : Int32)) := Arv.new A2 (own_nneg (by omega))
  show own_Ends p e below s _ _ _ (T2.setTop (mkF m 6 #[.val (.int (Int32.ofNat n))] [(.ref b2)]))
  exact own_ret X2 hx hrt rfl (Or.inr (Or.inr (Or.inr (Or.inr ⟨rfl, rfl, rfl⟩)))) (hb hby d18_6) hlk (by rw [e2]; exact ⟨_, _, rfl, N1, K2', g_b2, sz_b2, V_b2⟩) (by decide) (by decide)
theorem d20_0 : decode jdk_52_method_4_code 0 = .ok (.getstatic 44, 3) := by decide +kernel
theorem d20_3 : decode jdk_52_method_4_code 3 = .ok (.ifCond .ne 25, 3) := by decide +kernel
theorem d20_6 : decode jdk_52_method_4_code 6 = .ok (.iload_n 1, 1) := by decide +kernel
theorem d20_7 : decode jdk_52_method_4_code 7 = .ok (.ifCond .lt 11, 3) := by decide +kernel
theorem d20_10 : decode jdk_52_method_4_code 10 = .ok (.iload_n 1, 1) := by decide +kernel
theorem d20_11 : decode jdk_52_method_4_code 11 = .ok (.aload_n 0, 1) := by decide +kernel
theorem d20_12 : decode jdk_52_method_4_code 12 = .ok (.invokestatic 48, 3) := by decide +kernel
theorem d20_15 : decode jdk_52_method_4_code 15 = .ok (.if_icmp .lt 13, 3) := by decide +kernel
theorem d20_18 : decode jdk_52_method_4_code 18 = .ok (.new 52, 3) := by decide +kernel
theorem d20_21 : decode jdk_52_method_4_code 21 = .ok (.dup, 1) := by decide +kernel
theorem d20_22 : decode jdk_52_method_4_code 22 = .ok (.ldc 54, 2) := by decide +kernel
theorem d20_24 : decode jdk_52_method_4_code 24 = .ok (.invokespecial 56, 3) := by decide +kernel
theorem d20_27 : decode jdk_52_method_4_code 27 = .ok (.athrow, 1) := by decide +kernel
theorem d20_28 : decode jdk_52_method_4_code 28 = .ok (.iload_n 1, 1) := by decide +kernel
theorem d20_29 : decode jdk_52_method_4_code 29 = .ok (.iconst 1, 1) := by decide +kernel
theorem d20_30 : decode jdk_52_method_4_code 30 = .ok (.ishl, 1) := by decide +kernel
theorem d20_31 : decode jdk_52_method_4_code 31 = .ok (.istore_n 1, 1) := by decide +kernel
theorem d20_32 : decode jdk_52_method_4_code 32 = .ok (.aload_n 0, 1) := by decide +kernel
theorem d20_33 : decode jdk_52_method_4_code 33 = .ok (.iload_n 1, 1) := by decide +kernel
theorem d20_34 : decode jdk_52_method_4_code 34 = .ok (.iinc 1 1, 3) := by decide +kernel
theorem d20_37 : decode jdk_52_method_4_code 37 = .ok (.iload_n 2, 1) := by decide +kernel
theorem d20_38 : decode jdk_52_method_4_code 38 = .ok (.getstatic 59, 3) := by decide +kernel
theorem d20_41 : decode jdk_52_method_4_code 41 = .ok (.ishr, 1) := by decide +kernel
theorem d20_42 : decode jdk_52_method_4_code 42 = .ok (.i2b, 1) := by decide +kernel
theorem d20_43 : decode jdk_52_method_4_code 43 = .ok (.bastore, 1) := by decide +kernel
theorem d20_44 : decode jdk_52_method_4_code 44 = .ok (.aload_n 0, 1) := by decide +kernel
theorem d20_45 : decode jdk_52_method_4_code 45 = .ok (.iload_n 1, 1) := by decide +kernel
theorem d20_46 : decode jdk_52_method_4_code 46 = .ok (.iload_n 2, 1) := by decide +kernel
theorem d20_47 : decode jdk_52_method_4_code 47 = .ok (.getstatic 63, 3) := by decide +kernel
theorem d20_50 : decode jdk_52_method_4_code 50 = .ok (.ishr, 1) := by decide +kernel
theorem d20_51 : decode jdk_52_method_4_code 51 = .ok (.i2b, 1) := by decide +kernel
theorem d20_52 : decode jdk_52_method_4_code 52 = .ok (.bastore, 1) := by decide +kernel
theorem d20_53 : decode jdk_52_method_4_code 53 = .ok (.return_, 1) := by decide +kernel
theorem ef_20 (m : MethodId) (x0 : Addr) (x1 : Int32) (x2 : Int32) : entryFrame m #[(.ref x0), (.int x1), (.int x2)] 3 = mkF m 0 #[.val (.ref x0), .val (.int x1), .val (.int x2)] [] := by first | (simp [entryFrame, mkF, argsToLocals, Value.category]; done) | rfl
def Q20 (a1 : Addr) (p3 : Int32) (vc : Int32) (vf : Value) (i n : Nat) (ka1 : ClassId) (vs : List Value) (h0 : Heap) (n0 : Nat) (Z : State) (v : Option Value) (h : Heap) (L : List Loc) : Prop := v = none ∧ Fr n0 L ∧ Keep h0 h [a1] ∧ Arv Z h a1 ka1 .byte (Int32.ofNat (2 * n)) (vs ++ [.int (own_loI p3)] ++ [.int (own_hiI p3)]) (.int (0 : Int32))
set_option maxRecDepth 65536 in
set_option maxHeartbeats 40000000 in
theorem rm20 (l : Launch) (Z : State) (a0 : Array Value) (hw : ∀ d ∈ tables_1, d.before a0 Z = true) (ws : List Jvm.Cond) (a1 : Addr) (p3 : Int32) (vc : Int32) (vf : Value) (i n : Nat) (ka1 : ClassId) (vs : List Value) (h0 : Heap) (n0 : Nat) (Z0 : n0 ≤ h0.size) (O0 : Old Z n0 h0) (ST : own_St Z vc vf) (hN : n ≤ 5) (hi : i < n) (hl : vs.length = 2 * i) (V1 : Arv Z h0 a1 ka1 .byte (Int32.ofNat (2 * n)) vs (.int (0 : Int32))) (g1 : n0 ≤ a1) :
    MetFree l (⟨"java/lang/StringUTF16", "putChar", "([BII)V"⟩ : MethodName) (head1 (Jvm.Cond.code (⟨"java/lang/StringUTF16", "putChar", "([BII)V"⟩ : MethodName) jdk_52_method_4_code 3 none :: ws) ({ frames := 0, cells := 0, slots := 0, locals := 0 } : Room)) (fun a U => a = #[(.ref a1), (.int (Int32.ofNat i)), (.int p3)] ∧ Z.Warmed39 U.vm ∧ U.heap = h0) (fun _ _ _ _ _ => True) (fun _ U o U' => ∃ v L, o = .returned v ∧ Q20 a1 p3 vc vf i n ka1 vs h0 n0 Z v U'.heap L ∧ FrameEnd U o U' L ({ frames := 0, cells := 0, slots := 0, locals := 0 } : Room).cells ({ frames := 0, cells := 0, slots := 0, locals := 0 } : Room).slots) := by
  refine MetFree.of_bodySF (plainFor_of_name pn_0) hisR ?_
  intro p e s m args below meth c s₁ Bd hml0 hP hK
  obtain ⟨rfl, hZ, hh⟩ := hP
  have hx := Bd.exec
  have hby := Bd.bytes
  have hml : c.maxLocals = 3 := hml0
  have hown : s.vm.findClass "java/lang/StringUTF16" = some m.cls := findClass_of_methodNamed Bd.named
  have hnm := (name_of_methodNamed Bd.named Bd.method).1
  have hlk := Bd.notSynchronized
  have hrt := Bd.returns
  have X0 : Stand p l e ({ frames := 0, cells := 0, slots := 0, locals := 0 } : Room) s m #[(.ref a1), (.int (Int32.ofNat i)), (.int p3)] below meth c s₁ [] 0 0 := Stand.of_body Bd
  have e0 : s₁.heap = h0 := by rw [← hh, Bd.state]; rfl
  have N0 := Fr.nil n0
  show own_Ends p e below s (Q20 a1 p3 vc vf i n ka1 vs h0 n0 Z) ({ frames := 0, cells := 0, slots := 0, locals := 0 } : Room).cells ({ frames := 0, cells := 0, slots := 0, locals := 0 } : Room).slots (s₁.setTop (entryFrame m #[(.ref a1), (.int (Int32.ofNat i)), (.int p3)] 3))
  rw [ef_20]
  have K0 : Keep h0 h0 [a1] := Keep.refl h0 [a1]
  obtain ⟨HVC, SCS, SAD, SHI, SLO, SIO, HVF⟩ := id ST
  obtain ⟨T1, X1, e1, st1⟩ := getS2 X0 hx hZ hown (host := "") (Or.inl (hw _ (List.mem_of_getElem? (i := 88) rfl))) Via.refl e0 (SAD.ext O0.2) (g := (mkF m 0 #[.val (.ref a1), .val (.int (Int32.ofNat i)), .val (.int p3)] [])) rfl (hb hby d20_0)
  refine own_go st1 ?_
  show own_Ends p e below s _ _ _ (T1.setTop (mkF m 3 #[.val (.ref a1), .val (.int (Int32.ofNat i)), .val (.int p3)] [(.int (1 : Int32))]))
  refine own_go (fun _ k => XS.ifYes X1.here hx rfl (pc0 := 3) (pc' := 28) rfl (hb hby d20_3) rfl ((if0 _ _).trans (feq (by decide)).2) (by decide) (by decide) <| XS.iloadN X1.here hx rfl (hb hby d20_28) rfl <| XT.iconstV X1.here hx rfl (1 : Int32) (hb hby d20_29) rfl <| XS.ishl X1.here hx rfl (hb hby d20_30) rfl <| XS.istoreN X1.here hx rfl (hb hby d20_31) rfl (l' := #[.val (.ref a1), .val (.int ((Int32.ofNat i) <<< ((1 : Int32) &&& 31))), .val (.int p3)]) rfl <| k) ?_
  show own_Ends p e below s _ _ _ (T1.setTop (mkF m 32 #[.val (.ref a1), .val (.int ((Int32.ofNat i) <<< ((1 : Int32) &&& 31))), .val (.int p3)] []))
  rw [own_dbl (by omega)]
  show own_Ends p e below s _ _ _ (T1.setTop (mkF m 32 #[.val (.ref a1), .val (.int (Int32.ofNat (2 * i))), .val (.int p3)] []))
  refine own_go (fun _ k => XS.aloadN X1.here hx rfl (hb hby d20_32) rfl rfl <| XS.iloadN X1.here hx rfl (hb hby d20_33) rfl <| XT.iincV X1.here hx rfl (1 : Int32) (hb hby d20_34) rfl rfl (l' := #[.val (.ref a1), .val (.int ((Int32.ofNat (2 * i)) + (1 : Int32))), .val (.int p3)]) rfl <| k) ?_
  show own_Ends p e below s _ _ _ (T1.setTop (mkF m 37 #[.val (.ref a1), .val (.int ((Int32.ofNat (2 * i)) + (1 : Int32))), .val (.int p3)] [(.int (Int32.ofNat (2 * i))), (.ref a1)]))
  rw [own_up]
  show own_Ends p e below s _ _ _ (T1.setTop (mkF m 37 #[.val (.ref a1), .val (.int (Int32.ofNat (2 * i + 1))), .val (.int p3)] [(.int (Int32.ofNat (2 * i))), (.ref a1)]))
  refine own_go (fun _ k => XS.iloadN X1.here hx rfl (hb hby d20_37) rfl <| k) ?_
  show own_Ends p e below s _ _ _ (T1.setTop (mkF m 38 #[.val (.ref a1), .val (.int (Int32.ofNat (2 * i + 1))), .val (.int p3)] [(.int p3), (.int (Int32.ofNat (2 * i))), (.ref a1)]))
  obtain ⟨T2, X2, e2, st2⟩ := getS2 X1 hx hZ hown (host := "") (Or.inl (hw _ (List.mem_of_getElem? (i := 89) rfl))) Via.refl e1 (SHI.ext O0.2) (g := (mkF m 38 #[.val (.ref a1), .val (.int (Int32.ofNat (2 * i + 1))), .val (.int p3)] [(.int p3), (.int (Int32.ofNat (2 * i))), (.ref a1)])) rfl (hb hby d20_38)
  refine own_go st2 ?_
  show own_Ends p e below s _ _ _ (T2.setTop (mkF m 41 #[.val (.ref a1), .val (.int (Int32.ofNat (2 * i + 1))), .val (.int p3)] [(.int (0 : Int32)), (.int p3), (.int (Int32.ofNat (2 * i))), (.ref a1)]))
  refine own_go (fun _ k => XS.ishr X2.here hx rfl (hb hby d20_41) rfl <| XS.i2b X2.here hx rfl (hb hby d20_42) rfl <| k) ?_
  show own_Ends p e below s _ _ _ (T2.setTop (mkF m 43 #[.val (.ref a1), .val (.int (Int32.ofNat (2 * i + 1))), .val (.int p3)] [(.int ((p3 >>> ((0 : Int32) &&& 31)).toInt8.toInt32)), (.int (Int32.ofNat (2 * i))), (.ref a1)]))
  obtain ⟨cla1_43_3, Ara1_43_3, qqa1_43_3, Sza1_43_3, Nga1_43_3, Hsa1_43_3, Gfa1_43_3⟩ := id V1
  have hina1_43_3 : ¬ ((Int32.ofNat (2 * i)) < 0 ∨ cla1_43_3.slots.size ≤ ((Int32.ofNat (2 * i))).toNatClampNeg) := inb_of Sza1_43_3 ⟨own_nneg (by omega), (own_ofNat_lt (by omega) (by omega)).mpr (by omega)⟩
  obtain ⟨T4, h4, X4, e4, W4, st4⟩ := stB X2 hx hZ e2 Ara1_43_3 (j := (Int32.ofNat (2 * i))) hina1_43_3 (g := (mkF m 43 #[.val (.ref a1), .val (.int (Int32.ofNat (2 * i + 1))), .val (.int p3)] [(.int ((p3 >>> ((0 : Int32) &&& 31)).toInt8.toInt32)), (.int (Int32.ofNat (2 * i))), (.ref a1)])) rfl rfl (hb hby d20_43)
  refine own_go st4 ?_
  have Z4 := Nat.le_trans Z0 (Keep.of_wr W4).1
  have O4 := O0.wr W4 g1
  have K4' := K0.wr W4 (Or.inl (List.mem_of_getElem? (i := 0) rfl))
  have N4 := Fr.snoc X4 N0 g1
  have V1'4 : Arv Z h4 a1 ka1 .byte (Int32.ofNat (2 * n)) (vs ++ [.int (own_loI p3)]) (.int (0 : Int32)) := own_snoc Ara1_43_3 qqa1_43_3 Sza1_43_3 Nga1_43_3 Hsa1_43_3 Gfa1_43_3 (fits_nar_byte _) W4 (by rw [own_clamp (by omega)]; first | exact hl.symm | (rw [List.length_append, hl]; rfl))
  show own_Ends p e below s _ _ _ (T4.setTop (mkF m 44 #[.val (.ref a1), .val (.int (Int32.ofNat (2 * i + 1))), .val (.int p3)] []))
  refine own_go (fun _ k => XS.aloadN X4.here hx rfl (hb hby d20_44) rfl rfl <| XS.iloadN X4.here hx rfl (hb hby d20_45) rfl <| XS.iloadN X4.here hx rfl (hb hby d20_46) rfl <| k) ?_
  show own_Ends p e below s _ _ _ (T4.setTop (mkF m 47 #[.val (.ref a1), .val (.int (Int32.ofNat (2 * i + 1))), .val (.int p3)] [(.int p3), (.int (Int32.ofNat (2 * i + 1))), (.ref a1)]))
  obtain ⟨T5, X5, e5, st5⟩ := getS2 X4 hx hZ hown (host := "") (Or.inl (hw _ (List.mem_of_getElem? (i := 90) rfl))) Via.refl e4 (SLO.ext O4.2) (g := (mkF m 47 #[.val (.ref a1), .val (.int (Int32.ofNat (2 * i + 1))), .val (.int p3)] [(.int p3), (.int (Int32.ofNat (2 * i + 1))), (.ref a1)])) rfl (hb hby d20_47)
  refine own_go st5 ?_
  show own_Ends p e below s _ _ _ (T5.setTop (mkF m 50 #[.val (.ref a1), .val (.int (Int32.ofNat (2 * i + 1))), .val (.int p3)] [(.int (8 : Int32)), (.int p3), (.int (Int32.ofNat (2 * i + 1))), (.ref a1)]))
  refine own_go (fun _ k => XS.ishr X5.here hx rfl (hb hby d20_50) rfl <| XS.i2b X5.here hx rfl (hb hby d20_51) rfl <| k) ?_
  show own_Ends p e below s _ _ _ (T5.setTop (mkF m 52 #[.val (.ref a1), .val (.int (Int32.ofNat (2 * i + 1))), .val (.int p3)] [(.int ((p3 >>> ((8 : Int32) &&& 31)).toInt8.toInt32)), (.int (Int32.ofNat (2 * i + 1))), (.ref a1)]))
  obtain ⟨cla1_52_6, Ara1_52_6, qqa1_52_6, Sza1_52_6, Nga1_52_6, Hsa1_52_6, Gfa1_52_6⟩ := id V1'4
  have hina1_52_6 : ¬ ((Int32.ofNat (2 * i + 1)) < 0 ∨ cla1_52_6.slots.size ≤ ((Int32.ofNat (2 * i + 1))).toNatClampNeg) := inb_of Sza1_52_6 ⟨own_nneg (by omega), (own_ofNat_lt (by omega) (by omega)).mpr (by omega)⟩
  obtain ⟨T7, h7, X7, e7, W7, st7⟩ := stB X5 hx hZ e5 Ara1_52_6 (j := (Int32.ofNat (2 * i + 1))) hina1_52_6 (g := (mkF m 52 #[.val (.ref a1), .val (.int (Int32.ofNat (2 * i + 1))), .val (.int p3)] [(.int ((p3 >>> ((8 : Int32) &&& 31)).toInt8.toInt32)), (.int (Int32.ofNat (2 * i + 1))), (.ref a1)])) rfl rfl (hb hby d20_52)
  refine own_go st7 ?_
  have Z7 := Nat.le_trans Z4 (Keep.of_wr W7).1
  have O7 := O4.wr W7 g1
  have K7' := K4'.wr W7 (Or.inl (List.mem_of_getElem? (i := 0) rfl))
  have N7 := Fr.snoc X7 N4 g1
  have V1'7 : Arv Z h7 a1 ka1 .byte (Int32.ofNat (2 * n)) ((vs ++ [.int (own_loI p3)]) ++ [.int (own_hiI p3)]) (.int (0 : Int32)) := own_snoc Ara1_52_6 qqa1_52_6 Sza1_52_6 Nga1_52_6 Hsa1_52_6 Gfa1_52_6 (fits_nar_byte _) W7 (by rw [own_clamp (by omega)]; first | exact hl.symm | (rw [List.length_append, hl]; rfl))
  show own_Ends p e below s _ _ _ (T7.setTop (mkF m 53 #[.val (.ref a1), .val (.int (Int32.ofNat (2 * i + 1))), .val (.int p3)] []))
  exact own_ret0 X7 hx hrt (hb hby d20_53) hlk (by rw [e7]; exact ⟨rfl, N7, K7', V1'7⟩) (by decide) (by decide)
theorem d17_0 : decode jdk_52_method_14_code 0 = .ok (.iload_n 2, 1) := by decide +kernel
theorem d17_1 : decode jdk_52_method_14_code 1 = .ok (.invokestatic 107, 3) := by decide +kernel
theorem d17_4 : decode jdk_52_method_14_code 4 = .ok (.astore_n 3, 1) := by decide +kernel
theorem d17_5 : decode jdk_52_method_14_code 5 = .ok (.iconst 0, 1) := by decide +kernel
theorem d17_6 : decode jdk_52_method_14_code 6 = .ok (.istore 4, 2) := by decide +kernel
theorem d17_8 : decode jdk_52_method_14_code 8 = .ok (.iload 4, 2) := by decide +kernel
theorem d17_10 : decode jdk_52_method_14_code 10 = .ok (.iload_n 2, 1) := by decide +kernel
theorem d17_11 : decode jdk_52_method_14_code 11 = .ok (.if_icmp .ge 21, 3) := by decide +kernel
theorem d17_14 : decode jdk_52_method_14_code 14 = .ok (.aload_n 3, 1) := by decide +kernel
theorem d17_15 : decode jdk_52_method_14_code 15 = .ok (.iload 4, 2) := by decide +kernel
theorem d17_17 : decode jdk_52_method_14_code 17 = .ok (.aload_n 0, 1) := by decide +kernel
theorem d17_18 : decode jdk_52_method_14_code 18 = .ok (.iload_n 1, 1) := by decide +kernel
theorem d17_19 : decode jdk_52_method_14_code 19 = .ok (.caload, 1) := by decide +kernel
theorem d17_20 : decode jdk_52_method_14_code 20 = .ok (.invokestatic 111, 3) := by decide +kernel
theorem d17_23 : decode jdk_52_method_14_code 23 = .ok (.iinc 1 1, 3) := by decide +kernel
theorem d17_26 : decode jdk_52_method_14_code 26 = .ok (.iinc 4 1, 3) := by decide +kernel
theorem d17_29 : decode jdk_52_method_14_code 29 = .ok (.goto (-21), 3) := by decide +kernel
theorem d17_32 : decode jdk_52_method_14_code 32 = .ok (.aload_n 3, 1) := by decide +kernel
theorem d17_33 : decode jdk_52_method_14_code 33 = .ok (.areturn, 1) := by decide +kernel
theorem ef_17 (m : MethodId) (x0 : Addr) (x1 : Int32) (x2 : Int32) : entryFrame m #[(.ref x0), (.int x1), (.int x2)] 5 = mkF m 0 #[.val (.ref x0), .val (.int x1), .val (.int x2), .unset, .unset] [] := by first | (simp [entryFrame, mkF, argsToLocals, Value.category]; done) | rfl
def Q17 (a1 : Addr) (vc : Int32) (vf : Value) (ka1 : ClassId) (cs : List Int32) (h0 : Heap) (n0 : Nat) (Z : State) (v : Option Value) (h : Heap) (L : List Loc) : Prop := ∃ b k, v = some (.ref b) ∧ Fr n0 L ∧ Keep h0 h [] ∧ n0 ≤ b ∧ h0.size ≤ b ∧ Arv Z h b k .byte (Int32.ofNat (2 * cs.length)) (cs.flatMap own_lh) (.int (0 : Int32))
set_option maxRecDepth 65536 in
set_option maxHeartbeats 40000000 in
theorem rm17 (l : Launch) (Z : State) (a0 : Array Value) (hw : ∀ d ∈ tables_1, d.before a0 Z = true) (ws : List Jvm.Cond) (a1 : Addr) (vc : Int32) (vf : Value) (ka1 : ClassId) (cs : List Int32) (h0 : Heap) (n0 : Nat) (Z0 : n0 ≤ h0.size) (O0 : Old Z n0 h0) (ST : own_St Z vc vf) (hN : cs.length ≤ 5) (V1 : Arv Z h0 a1 ka1 .char (Int32.ofNat cs.length) (cs.map Value.int) (.int (0 : Int32))) :
    MetFree l (⟨"java/lang/StringUTF16", "toBytes", "([CII)[B"⟩ : MethodName) (head1 (Jvm.Cond.code (⟨"java/lang/StringUTF16", "toBytes", "([CII)[B"⟩ : MethodName) jdk_52_method_14_code 5 (some (.array .byte)) :: ws) ({ frames := 2, cells := 1, slots := 10, locals := 24 } : Room)) (fun a U => a = #[(.ref a1), (.int (0 : Int32)), (.int (Int32.ofNat cs.length))] ∧ Z.Warmed39 U.vm ∧ U.heap = h0) (fun _ _ _ _ _ => True) (fun _ U o U' => ∃ v L, o = .returned v ∧ Q17 a1 vc vf ka1 cs h0 n0 Z v U'.heap L ∧ FrameEnd U o U' L ({ frames := 2, cells := 1, slots := 10, locals := 24 } : Room).cells ({ frames := 2, cells := 1, slots := 10, locals := 24 } : Room).slots) := by
  refine MetFree.of_bodySF (plainFor_of_name pn_0) hisR ?_
  intro p e s m args below meth c s₁ Bd hml0 hP hK
  obtain ⟨rfl, hZ, hh⟩ := hP
  have hx := Bd.exec
  have hby := Bd.bytes
  have hml : c.maxLocals = 5 := hml0
  have hown : s.vm.findClass "java/lang/StringUTF16" = some m.cls := findClass_of_methodNamed Bd.named
  have hnm := (name_of_methodNamed Bd.named Bd.method).1
  have hlk := Bd.notSynchronized
  have hrt := Bd.returns
  have X0 : Stand p l e ({ frames := 2, cells := 1, slots := 10, locals := 24 } : Room) s m #[(.ref a1), (.int (0 : Int32)), (.int (Int32.ofNat cs.length))] below meth c s₁ [] 0 0 := Stand.of_body Bd
  have e0 : s₁.heap = h0 := by rw [← hh, Bd.state]; rfl
  have N0 := Fr.nil n0
  show own_Ends p e below s (Q17 a1 vc vf ka1 cs h0 n0 Z) ({ frames := 2, cells := 1, slots := 10, locals := 24 } : Room).cells ({ frames := 2, cells := 1, slots := 10, locals := 24 } : Room).slots (s₁.setTop (entryFrame m #[(.ref a1), (.int (0 : Int32)), (.int (Int32.ofNat cs.length))] 5))
  rw [ef_17]
  have K0 : Keep h0 h0 [] := Keep.refl h0 []
  obtain ⟨HVC, SCS, SAD, SHI, SLO, SIO, HVF⟩ := id ST
  refine own_go (fun _ k => XS.iloadN X0.here hx rfl (hb hby d17_0) rfl <| k) ?_
  show own_Ends p e below s _ _ _ (s₁.setTop (mkF m 1 #[.val (.ref a1), .val (.int (0 : Int32)), .val (.int (Int32.ofNat cs.length)), .unset, .unset] [(.int (Int32.ofNat cs.length))]))
  obtain ⟨_, _, ⟨T1, L1, k1, n1⟩, -, X1, ⟨Lc1, hQ1, l1, y1, z1⟩, st1⟩ := Jvm.LawKit.callS X0 hx (y := (⟨"java/lang/StringUTF16", "newBytesFor", "(I)[B"⟩ : MethodName)) hown (mvT hZ (hw _ (List.mem_of_getElem? (i := 78) rfl))) (mvT hZ (hw _ (List.mem_of_getElem? (i := 79) rfl))) (mvT hZ (hw _ (List.mem_of_getElem? (i := 22) rfl))) (mvT hZ (hw _ (List.mem_of_getElem? (i := 80) rfl))) (by decide) (backOf (W := 0) (rm18 l Z a0 hw [] cs.length h0 n0 Z0 hN) hZ (hw _ (List.mem_of_getElem? (i := 80) rfl)) (hw _ (List.mem_of_getElem? (i := 22) rfl)) (by decide) (by decide)) (g := (mkF m 1 #[.val (.ref a1), .val (.int (0 : Int32)), .val (.int (Int32.ofNat cs.length)), .unset, .unset] [(.int (Int32.ofNat cs.length))])) rfl (by rw [hml]; rfl) (argsL := [(.int (Int32.ofNat cs.length))]) (rest := []) (lenOf pd_16 rfl) rfl (by show 2 * 0 + _ ≤ _; exact Nat.le_of_eq rfl) (hb hby d17_1) (fun _ _ => ⟨rfl, e0, Nat.le_of_ble_eq_true rfl, Nat.le_of_ble_eq_true rfl⟩)
  dsimp only [Pt.U, Pt.locs, Pt.cells, Pt.slots] at X1 l1 y1 z1 st1 hQ1
  subst l1 y1 z1
  obtain ⟨b1, kb1, rfl, N1q, K1, g1, sz1, Vb1⟩ := hQ1
  have N1 := Fr.app N0 N1q
  refine own_go (fun _ k => st1 _ k) ?_
  have V1'1 := V1.keep K1 nin0
  have Z1 := Nat.le_trans Z0 K1.1
  have O1 := O0.keep K1 all0
  have K1' := K0.trans K1 all0
  show own_Ends p e below s _ _ _ (T1.setTop (mkF m 4 #[.val (.ref a1), .val (.int (0 : Int32)), .val (.int (Int32.ofNat cs.length)), .unset, .unset] [(.ref b1)]))
  have ne_a1_b1 : a1 ≠ b1 := Nat.ne_of_lt (Nat.lt_of_lt_of_le V1.lt sz1)
  have szk1 : h0.size ≤ b1 := Nat.le_trans K0.1 sz1
  refine own_go (fun _ k => XS.astoreN X1.here hx rfl (hb hby d17_4) rfl rfl (l' := #[.val (.ref a1), .val (.int (0 : Int32)), .val (.int (Int32.ofNat cs.length)), .val (.ref b1), .unset]) rfl <| XT.iconstV X1.here hx rfl (0 : Int32) (hb hby d17_5) rfl <| XS.istore X1.here hx rfl (hb hby d17_6) rfl (l' := #[.val (.ref a1), .val (.int (0 : Int32)), .val (.int (Int32.ofNat cs.length)), .val (.ref b1), .val (.int (0 : Int32))]) rfl <| k) ?_
  show own_Ends p e below s _ _ _ (T1.setTop (mkF m 8 #[.val (.ref a1), .val (.int (0 : Int32)), .val (.int (Int32.ofNat cs.length)), .val (.ref b1), .val (.int (0 : Int32))] []))
  have XN2 : Stand p l e ({ frames := 2, cells := 1, slots := 10, locals := 24 } : Room) s m #[(.ref a1), (.int (0 : Int32)), (.int (Int32.ofNat cs.length))] below meth c T1 _ 1 10 := X1
  have loop : ∀ (k i : Nat), i + k = cs.length → ∀ (T : State) (h : Heap) (locs : List Loc), Stand p l e ({ frames := 2, cells := 1, slots := 10, locals := 24 } : Room) s m #[(.ref a1), (.int (0 : Int32)), (.int (Int32.ofNat cs.length))] below meth c T locs 1 10 → T.heap = h → Fr n0 locs → Keep h0 h [] → Arv Z h b1 kb1 .byte (Int32.ofNat (2 * cs.length)) ((cs.take i).flatMap own_lh) (.int (0 : Int32)) → own_Ends p e below s (Q17 a1 vc vf ka1 cs h0 n0 Z) ({ frames := 2, cells := 1, slots := 10, locals := 24 } : Room).cells ({ frames := 2, cells := 1, slots := 10, locals := 24 } : Room).slots (T.setTop (mkF m 8 #[.val (.ref a1), .val (.int (Int32.ofNat i)), .val (.int (Int32.ofNat cs.length)), .val (.ref b1), .val (.int (Int32.ofNat i))] [])) := by
    intro k
    induction k with
    | zero =>
      intro i hi T h locs XM eM NM KM VM
      have V1 := V1.keep KM nin0
      have ZM := Nat.le_trans Z0 KM.1
      have OM := O0.keep KM all0
      obtain rfl : i = cs.length := by omega
      rw [List.take_length] at VM
      show own_Ends p e below s _ _ _ (T.setTop (mkF m 8 #[.val (.ref a1), .val (.int (Int32.ofNat cs.length)), .val (.int (Int32.ofNat cs.length)), .val (.ref b1), .val (.int (Int32.ofNat cs.length))] []))
      refine own_go (fun _ k => XS.iload XM.here hx rfl (hb hby d17_8) rfl <| XS.iloadN XM.here hx rfl (hb hby d17_10) rfl <| XS.icmpYes XM.here hx rfl (pc0 := 11) (pc' := 32) rfl (hb hby d17_11) rfl (flt (fun q => absurd ((own_ofNat_lt (by omega) (by omega)).mp q) (Nat.lt_irrefl _))).2.1 (by decide) (by decide) <| XS.aloadN XM.here hx rfl (hb hby d17_32) rfl rfl <| k) ?_
      show own_Ends p e below s _ _ _ (T.setTop (mkF m 33 #[.val (.ref a1), .val (.int (Int32.ofNat cs.length)), .val (.int (Int32.ofNat cs.length)), .val (.ref b1), .val (.int (Int32.ofNat cs.length))] [(.ref b1)]))
      exact own_ret XM hx hrt rfl (Or.inr (Or.inr (Or.inr (Or.inr ⟨rfl, rfl, rfl⟩)))) (hb hby d17_33) hlk (by rw [eM]; exact ⟨_, _, rfl, NM, KM, g1, szk1, VM⟩) (by decide) (by decide)
    | succ k ih =>
      intro i hi T h locs XM eM NM KM VM
      have V1 := V1.keep KM nin0
      have ZM := Nat.le_trans Z0 KM.1
      have OM := O0.keep KM all0
      refine own_go (fun _ k => XS.iload XM.here hx rfl (hb hby d17_8) rfl <| XS.iloadN XM.here hx rfl (hb hby d17_10) rfl <| XS.icmpNo XM.here hx rfl (hb hby d17_11) rfl (tlt ((own_ofNat_lt (by omega) (by omega)).mpr (by omega))).2.1 <| XS.aloadN XM.here hx rfl (hb hby d17_14) rfl rfl <| XS.iload XM.here hx rfl (hb hby d17_15) rfl <| XS.aloadN XM.here hx rfl (hb hby d17_17) rfl rfl <| XS.iloadN XM.here hx rfl (hb hby d17_18) rfl <| k) ?_
      show own_Ends p e below s _ _ _ (T.setTop (mkF m 19 #[.val (.ref a1), .val (.int (Int32.ofNat i)), .val (.int (Int32.ofNat cs.length)), .val (.ref b1), .val (.int (Int32.ofNat i))] [(.int (Int32.ofNat i)), (.ref a1), (.int (Int32.ofNat i)), (.ref b1)]))
      obtain ⟨cla1_19_3, Ara1_19_3, qqa1_19_3, Sza1_19_3, Nga1_19_3, Hsa1_19_3, Gfa1_19_3⟩ := id V1
      have hina1_19_3 : ¬ ((Int32.ofNat i) < 0 ∨ cla1_19_3.slots.size ≤ ((Int32.ofNat i)).toNatClampNeg) := inb_of Sza1_19_3 ⟨own_nneg (by omega), (own_ofNat_lt (by omega) (by omega)).mpr (by omega)⟩
      have hata1_19_3 : cla1_19_3.slots[((Int32.ofNat i)).toNatClampNeg]? = some (.int (cs.getD i 0)) := Hsa1_19_3.at hina1_19_3 (own_getD cs (by omega))
      refine own_go (fun _ k => XM.caload hx (j := (Int32.ofNat i)) (v := (.int (cs.getD i 0))) (by first | exact Ara1_19_3.1 | (rw [eM]; exact Ara1_19_3.1)) (State.isArrayOf_alike hZ.alike Ara1_19_3.2.1) Ara1_19_3.2.2 hina1_19_3 hata1_19_3 (g := (mkF m 19 #[.val (.ref a1), .val (.int (Int32.ofNat i)), .val (.int (Int32.ofNat cs.length)), .val (.ref b1), .val (.int (Int32.ofNat i))] [(.int (Int32.ofNat i)), (.ref a1), (.int (Int32.ofNat i)), (.ref b1)])) rfl rfl (hb hby d17_19) _ k) ?_
      show own_Ends p e below s _ _ _ (T.setTop (mkF m 20 #[.val (.ref a1), .val (.int (Int32.ofNat i)), .val (.int (Int32.ofNat cs.length)), .val (.ref b1), .val (.int (Int32.ofNat i))] [(.int (cs.getD i 0)), (.int (Int32.ofNat i)), (.ref b1)]))
      obtain ⟨_, _, ⟨T4, L4, k4, n4⟩, -, X4, ⟨Lc4, hQ4, l4, y4, z4⟩, st4⟩ := Jvm.LawKit.callS XM hx (y := (⟨"java/lang/StringUTF16", "putChar", "([BII)V"⟩ : MethodName)) hown (mvT hZ (hw _ (List.mem_of_getElem? (i := 85) rfl))) (mvT hZ (hw _ (List.mem_of_getElem? (i := 86) rfl))) (mvT hZ (hw _ (List.mem_of_getElem? (i := 22) rfl))) (mvT hZ (hw _ (List.mem_of_getElem? (i := 87) rfl))) (by decide) (backOf (W := 0) (rm20 l Z a0 hw [] b1 (cs.getD i 0) vc vf i cs.length kb1 ((cs.take i).flatMap own_lh) h n0 ZM OM ST hN (by omega) (own_fmt cs (by omega)) VM g1) hZ (hw _ (List.mem_of_getElem? (i := 87) rfl)) (hw _ (List.mem_of_getElem? (i := 22) rfl)) (by decide) (by decide)) (g := (mkF m 20 #[.val (.ref a1), .val (.int (Int32.ofNat i)), .val (.int (Int32.ofNat cs.length)), .val (.ref b1), .val (.int (Int32.ofNat i))] [(.int (cs.getD i 0)), (.int (Int32.ofNat i)), (.ref b1)])) rfl (by rw [hml]; rfl) (argsL := [(.ref b1), (.int (Int32.ofNat i)), (.int (cs.getD i 0))]) (rest := []) (lenOf pd_18 rfl) rfl (by show 2 * 0 + _ ≤ _; exact Nat.le_of_eq rfl) (hb hby d17_20) (fun _ _ => ⟨rfl, eM, Nat.le_of_ble_eq_true rfl, Nat.le_of_ble_eq_true rfl⟩)
      dsimp only [Pt.U, Pt.locs, Pt.cells, Pt.slots] at X4 l4 y4 z4 st4 hQ4
      subst l4 y4 z4
      obtain ⟨rfl, N4q, K4, Vp4⟩ := hQ4
      have N4 := Fr.app NM N4q
      refine own_go (fun _ k => st4 _ k) ?_
      have V1'4 := V1.keep K4 (ninS ne_a1_b1 nin0)
      have Z4 := Nat.le_trans ZM K4.1
      have O4 := OM.keep K4 (allS g1 all0)
      have K4' := KM.trans K4 (allS (Or.inr szk1) all0)
      show own_Ends p e below s _ _ _ (T4.setTop (mkF m 23 #[.val (.ref a1), .val (.int (Int32.ofNat i)), .val (.int (Int32.ofNat cs.length)), .val (.ref b1), .val (.int (Int32.ofNat i))] []))
      refine own_go (fun _ k => XT.iincV X4.here hx rfl (1 : Int32) (hb hby d17_23) rfl rfl (l' := #[.val (.ref a1), .val (.int ((Int32.ofNat i) + (1 : Int32))), .val (.int (Int32.ofNat cs.length)), .val (.ref b1), .val (.int (Int32.ofNat i))]) rfl <| XT.iincV X4.here hx rfl (1 : Int32) (hb hby d17_26) rfl rfl (l' := #[.val (.ref a1), .val (.int ((Int32.ofNat i) + (1 : Int32))), .val (.int (Int32.ofNat cs.length)), .val (.ref b1), .val (.int ((Int32.ofNat i) + (1 : Int32)))]) rfl <| XS.goto X4.here hx rfl (pc0 := 29) (pc' := 8) rfl (hb hby d17_29) (by decide) (by decide) <| k) ?_
      show own_Ends p e below s _ _ _ (T4.setTop (mkF m 8 #[.val (.ref a1), .val (.int ((Int32.ofNat i) + (1 : Int32))), .val (.int (Int32.ofNat cs.length)), .val (.ref b1), .val (.int ((Int32.ofNat i) + (1 : Int32)))] []))
      rw [own_fm cs (by omega)] at Vp4
      rw [own_up]
      exact ih (i + 1) (by omega) _ _ _ X4 rfl N4 K4' Vp4
  exact loop cs.length 0 (by omega) _ _ _ XN2 rfl N1 K1' Vb1
theorem d21_0 : decode jdk_52_method_5_code 0 = .ok (.getstatic 44, 3) := by decide +kernel
theorem d21_3 : decode jdk_52_method_5_code 3 = .ok (.ifCond .ne 25, 3) := by decide +kernel
theorem d21_6 : decode jdk_52_method_5_code 6 = .ok (.iload_n 1, 1) := by decide +kernel
theorem d21_7 : decode jdk_52_method_5_code 7 = .ok (.ifCond .lt 11, 3) := by decide +kernel
theorem d21_10 : decode jdk_52_method_5_code 10 = .ok (.iload_n 1, 1) := by decide +kernel
theorem d21_11 : decode jdk_52_method_5_code 11 = .ok (.aload_n 0, 1) := by decide +kernel
theorem d21_12 : decode jdk_52_method_5_code 12 = .ok (.invokestatic 48, 3) := by decide +kernel
theorem d21_15 : decode jdk_52_method_5_code 15 = .ok (.if_icmp .lt 13, 3) := by decide +kernel
theorem d21_18 : decode jdk_52_method_5_code 18 = .ok (.new 52, 3) := by decide +kernel
theorem d21_21 : decode jdk_52_method_5_code 21 = .ok (.dup, 1) := by decide +kernel
theorem d21_22 : decode jdk_52_method_5_code 22 = .ok (.ldc 54, 2) := by decide +kernel
theorem d21_24 : decode jdk_52_method_5_code 24 = .ok (.invokespecial 56, 3) := by decide +kernel
theorem d21_27 : decode jdk_52_method_5_code 27 = .ok (.athrow, 1) := by decide +kernel
theorem d21_28 : decode jdk_52_method_5_code 28 = .ok (.iload_n 1, 1) := by decide +kernel
theorem d21_29 : decode jdk_52_method_5_code 29 = .ok (.iconst 1, 1) := by decide +kernel
theorem d21_30 : decode jdk_52_method_5_code 30 = .ok (.ishl, 1) := by decide +kernel
theorem d21_31 : decode jdk_52_method_5_code 31 = .ok (.istore_n 1, 1) := by decide +kernel
theorem d21_32 : decode jdk_52_method_5_code 32 = .ok (.aload_n 0, 1) := by decide +kernel
theorem d21_33 : decode jdk_52_method_5_code 33 = .ok (.iload_n 1, 1) := by decide +kernel
theorem d21_34 : decode jdk_52_method_5_code 34 = .ok (.iinc 1 1, 3) := by decide +kernel
theorem d21_37 : decode jdk_52_method_5_code 37 = .ok (.baload, 1) := by decide +kernel
theorem d21_38 : decode jdk_52_method_5_code 38 = .ok (.sipush 255, 3) := by decide +kernel
theorem d21_41 : decode jdk_52_method_5_code 41 = .ok (.iand, 1) := by decide +kernel
theorem d21_42 : decode jdk_52_method_5_code 42 = .ok (.getstatic 59, 3) := by decide +kernel
theorem d21_45 : decode jdk_52_method_5_code 45 = .ok (.ishl, 1) := by decide +kernel
theorem d21_46 : decode jdk_52_method_5_code 46 = .ok (.aload_n 0, 1) := by decide +kernel
theorem d21_47 : decode jdk_52_method_5_code 47 = .ok (.iload_n 1, 1) := by decide +kernel
theorem d21_48 : decode jdk_52_method_5_code 48 = .ok (.baload, 1) := by decide +kernel
theorem d21_49 : decode jdk_52_method_5_code 49 = .ok (.sipush 255, 3) := by decide +kernel
theorem d21_52 : decode jdk_52_method_5_code 52 = .ok (.iand, 1) := by decide +kernel
theorem d21_53 : decode jdk_52_method_5_code 53 = .ok (.getstatic 63, 3) := by decide +kernel
theorem d21_56 : decode jdk_52_method_5_code 56 = .ok (.ishl, 1) := by decide +kernel
theorem d21_57 : decode jdk_52_method_5_code 57 = .ok (.ior, 1) := by decide +kernel
theorem d21_58 : decode jdk_52_method_5_code 58 = .ok (.i2c, 1) := by decide +kernel
theorem d21_59 : decode jdk_52_method_5_code 59 = .ok (.ireturn, 1) := by decide +kernel
theorem ef_21 (m : MethodId) (x0 : Addr) (x1 : Int32) : entryFrame m #[(.ref x0), (.int x1)] 2 = mkF m 0 #[.val (.ref x0), .val (.int x1)] [] := by first | (simp [entryFrame, mkF, argsToLocals, Value.category]; done) | rfl
def Q21 (a1 : Addr) (vc : Int32) (vf : Value) (ka1 : ClassId) (cs : List Int32) (i : Nat) (h0 : Heap) (n0 : Nat) (Z : State) (v : Option Value) (h : Heap) (L : List Loc) : Prop := v = some (.int (cs.getD i 0)) ∧ Fr n0 L ∧ h = h0
set_option maxRecDepth 65536 in
set_option maxHeartbeats 40000000 in
theorem rm21 (l : Launch) (Z : State) (a0 : Array Value) (hw : ∀ d ∈ tables_1, d.before a0 Z = true) (ws : List Jvm.Cond) (a1 : Addr) (vc : Int32) (vf : Value) (ka1 : ClassId) (cs : List Int32) (i : Nat) (h0 : Heap) (n0 : Nat) (Z0 : n0 ≤ h0.size) (O0 : Old Z n0 h0) (ST : own_St Z vc vf) (hN : cs.length ≤ 5) (hC : own_Ch cs) (hi : i < cs.length) (V1 : Arv Z h0 a1 ka1 .byte (Int32.ofNat (2 * cs.length)) (cs.flatMap own_lh) (.int (0 : Int32))) :
    MetFree l (⟨"java/lang/StringUTF16", "getChar", "([BI)C"⟩ : MethodName) (head1 (Jvm.Cond.code (⟨"java/lang/StringUTF16", "getChar", "([BI)C"⟩ : MethodName) jdk_52_method_5_code 2 (some .char) :: ws) ({ frames := 0, cells := 0, slots := 0, locals := 0 } : Room)) (fun a U => a = #[(.ref a1), (.int (Int32.ofNat i))] ∧ Z.Warmed39 U.vm ∧ U.heap = h0) (fun _ _ _ _ _ => True) (fun _ U o U' => ∃ v L, o = .returned v ∧ Q21 a1 vc vf ka1 cs i h0 n0 Z v U'.heap L ∧ FrameEnd U o U' L ({ frames := 0, cells := 0, slots := 0, locals := 0 } : Room).cells ({ frames := 0, cells := 0, slots := 0, locals := 0 } : Room).slots) := by
  refine MetFree.of_bodySF (plainFor_of_name pn_0) hisR ?_
  intro p e s m args below meth c s₁ Bd hml0 hP hK
  obtain ⟨rfl, hZ, hh⟩ := hP
  have hx := Bd.exec
  have hby := Bd.bytes
  have hml : c.maxLocals = 2 := hml0
  have hown : s.vm.findClass "java/lang/StringUTF16" = some m.cls := findClass_of_methodNamed Bd.named
  have hnm := (name_of_methodNamed Bd.named Bd.method).1
  have hlk := Bd.notSynchronized
  have hrt := Bd.returns
  have X0 : Stand p l e ({ frames := 0, cells := 0, slots := 0, locals := 0 } : Room) s m #[(.ref a1), (.int (Int32.ofNat i))] below meth c s₁ [] 0 0 := Stand.of_body Bd
  have e0 : s₁.heap = h0 := by rw [← hh, Bd.state]; rfl
  have N0 := Fr.nil n0
  show own_Ends p e below s (Q21 a1 vc vf ka1 cs i h0 n0 Z) ({ frames := 0, cells := 0, slots := 0, locals := 0 } : Room).cells ({ frames := 0, cells := 0, slots := 0, locals := 0 } : Room).slots (s₁.setTop (entryFrame m #[(.ref a1), (.int (Int32.ofNat i))] 2))
  rw [ef_21]
  obtain ⟨HVC, SCS, SAD, SHI, SLO, SIO, HVF⟩ := id ST
  obtain ⟨T1, X1, e1, st1⟩ := getS2 X0 hx hZ hown (host := "") (Or.inl (hw _ (List.mem_of_getElem? (i := 88) rfl))) Via.refl e0 (SAD.ext O0.2) (g := (mkF m 0 #[.val (.ref a1), .val (.int (Int32.ofNat i))] [])) rfl (hb hby d21_0)
  refine own_go st1 ?_
  show own_Ends p e below s _ _ _ (T1.setTop (mkF m 3 #[.val (.ref a1), .val (.int (Int32.ofNat i))] [(.int (1 : Int32))]))
  refine own_go (fun _ k => XS.ifYes X1.here hx rfl (pc0 := 3) (pc' := 28) rfl (hb hby d21_3) rfl ((if0 _ _).trans (feq (by decide)).2) (by decide) (by decide) <| XS.iloadN X1.here hx rfl (hb hby d21_28) rfl <| XT.iconstV X1.here hx rfl (1 : Int32) (hb hby d21_29) rfl <| XS.ishl X1.here hx rfl (hb hby d21_30) rfl <| XS.istoreN X1.here hx rfl (hb hby d21_31) rfl (l' := #[.val (.ref a1), .val (.int ((Int32.ofNat i) <<< ((1 : Int32) &&& 31)))]) rfl <| k) ?_
  show own_Ends p e below s _ _ _ (T1.setTop (mkF m 32 #[.val (.ref a1), .val (.int ((Int32.ofNat i) <<< ((1 : Int32) &&& 31)))] []))
  rw [own_dbl (by omega)]
  show own_Ends p e below s _ _ _ (T1.setTop (mkF m 32 #[.val (.ref a1), .val (.int (Int32.ofNat (2 * i)))] []))
  refine own_go (fun _ k => XS.aloadN X1.here hx rfl (hb hby d21_32) rfl rfl <| XS.iloadN X1.here hx rfl (hb hby d21_33) rfl <| XT.iincV X1.here hx rfl (1 : Int32) (hb hby d21_34) rfl rfl (l' := #[.val (.ref a1), .val (.int ((Int32.ofNat (2 * i)) + (1 : Int32)))]) rfl <| k) ?_
  show own_Ends p e below s _ _ _ (T1.setTop (mkF m 37 #[.val (.ref a1), .val (.int ((Int32.ofNat (2 * i)) + (1 : Int32)))] [(.int (Int32.ofNat (2 * i))), (.ref a1)]))
  rw [own_up]
  show own_Ends p e below s _ _ _ (T1.setTop (mkF m 37 #[.val (.ref a1), .val (.int (Int32.ofNat (2 * i + 1)))] [(.int (Int32.ofNat (2 * i))), (.ref a1)]))
  obtain ⟨cla1_37_2, Ara1_37_2, qqa1_37_2, Sza1_37_2, Nga1_37_2, Hsa1_37_2, Gfa1_37_2⟩ := id V1
  have hina1_37_2 : ¬ ((Int32.ofNat (2 * i)) < 0 ∨ cla1_37_2.slots.size ≤ ((Int32.ofNat (2 * i))).toNatClampNeg) := inb_of Sza1_37_2 ⟨own_nneg (by omega), (own_ofNat_lt (by omega) (by omega)).mpr (by omega)⟩
  have hata1_37_2 : cla1_37_2.slots[((Int32.ofNat (2 * i))).toNatClampNeg]? = some (.int (own_loI (cs.getD i 0))) := Hsa1_37_2.at hina1_37_2 (by rw [own_clamp (by omega)]; exact (own_fm0 cs hi).1)
  refine own_go (fun _ k => X1.baloadBytes hx (j := (Int32.ofNat (2 * i))) (v := (.int (own_loI (cs.getD i 0)))) (by first | exact Ara1_37_2.1 | (rw [e1]; exact Ara1_37_2.1)) (State.isArrayOf_alike hZ.alike Ara1_37_2.2.1) Ara1_37_2.2.2 hina1_37_2 hata1_37_2 (g := (mkF m 37 #[.val (.ref a1), .val (.int (Int32.ofNat (2 * i + 1)))] [(.int (Int32.ofNat (2 * i))), (.ref a1)])) rfl rfl (hb hby d21_37) _ k) ?_
  show own_Ends p e below s _ _ _ (T1.setTop (mkF m 38 #[.val (.ref a1), .val (.int (Int32.ofNat (2 * i + 1)))] [(.int (own_loI (cs.getD i 0)))]))
  refine own_go (fun _ k => XT.sipushV X1.here hx rfl (255 : Int32) (hb hby d21_38) rfl <| XS.iand X1.here hx rfl (hb hby d21_41) rfl <| k) ?_
  show own_Ends p e below s _ _ _ (T1.setTop (mkF m 42 #[.val (.ref a1), .val (.int (Int32.ofNat (2 * i + 1)))] [(.int ((own_loI (cs.getD i 0)) &&& (255 : Int32)))]))
  obtain ⟨T3, X3, e3, st3⟩ := getS2 X1 hx hZ hown (host := "") (Or.inl (hw _ (List.mem_of_getElem? (i := 89) rfl))) Via.refl e1 (SHI.ext O0.2) (g := (mkF m 42 #[.val (.ref a1), .val (.int (Int32.ofNat (2 * i + 1)))] [(.int ((own_loI (cs.getD i 0)) &&& (255 : Int32)))])) rfl (hb hby d21_42)
  refine own_go st3 ?_
  show own_Ends p e below s _ _ _ (T3.setTop (mkF m 45 #[.val (.ref a1), .val (.int (Int32.ofNat (2 * i + 1)))] [(.int (0 : Int32)), (.int ((own_loI (cs.getD i 0)) &&& (255 : Int32)))]))
  refine own_go (fun _ k => XS.ishl X3.here hx rfl (hb hby d21_45) rfl <| XS.aloadN X3.here hx rfl (hb hby d21_46) rfl rfl <| XS.iloadN X3.here hx rfl (hb hby d21_47) rfl <| k) ?_
  show own_Ends p e below s _ _ _ (T3.setTop (mkF m 48 #[.val (.ref a1), .val (.int (Int32.ofNat (2 * i + 1)))] [(.int (Int32.ofNat (2 * i + 1))), (.ref a1), (.int (((own_loI (cs.getD i 0)) &&& (255 : Int32)) <<< ((0 : Int32) &&& 31)))]))
  obtain ⟨cla1_48_4, Ara1_48_4, qqa1_48_4, Sza1_48_4, Nga1_48_4, Hsa1_48_4, Gfa1_48_4⟩ := id V1
  have hina1_48_4 : ¬ ((Int32.ofNat (2 * i + 1)) < 0 ∨ cla1_48_4.slots.size ≤ ((Int32.ofNat (2 * i + 1))).toNatClampNeg) := inb_of Sza1_48_4 ⟨own_nneg (by omega), (own_ofNat_lt (by omega) (by omega)).mpr (by omega)⟩
  have hata1_48_4 : cla1_48_4.slots[((Int32.ofNat (2 * i + 1))).toNatClampNeg]? = some (.int (own_hiI (cs.getD i 0))) := Hsa1_48_4.at hina1_48_4 (by rw [own_clamp (by omega)]; exact (own_fm0 cs hi).2)
  refine own_go (fun _ k => X3.baloadBytes hx (j := (Int32.ofNat (2 * i + 1))) (v := (.int (own_hiI (cs.getD i 0)))) (by first | exact Ara1_48_4.1 | (rw [e3]; exact Ara1_48_4.1)) (State.isArrayOf_alike hZ.alike Ara1_48_4.2.1) Ara1_48_4.2.2 hina1_48_4 hata1_48_4 (g := (mkF m 48 #[.val (.ref a1), .val (.int (Int32.ofNat (2 * i + 1)))] [(.int (Int32.ofNat (2 * i + 1))), (.ref a1), (.int (((own_loI (cs.getD i 0)) &&& (255 : Int32)) <<< ((0 : Int32) &&& 31)))])) rfl rfl (hb hby d21_48) _ k) ?_
  show own_Ends p e below s _ _ _ (T3.setTop (mkF m 49 #[.val (.ref a1), .val (.int (Int32.ofNat (2 * i + 1)))] [(.int (own_hiI (cs.getD i 0))), (.int (((own_loI (cs.getD i 0)) &&& (255 : Int32)) <<< ((0 : Int32) &&& 31)))]))
  refine own_go (fun _ k => XT.sipushV X3.here hx rfl (255 : Int32) (hb hby d21_49) rfl <| XS.iand X3.here hx rfl (hb hby d21_52) rfl <| k) ?_
  show own_Ends p e below s _ _ _ (T3.setTop (mkF m 53 #[.val (.ref a1), .val (.int (Int32.ofNat (2 * i + 1)))] [(.int ((own_hiI (cs.getD i 0)) &&& (255 : Int32))), (.int (((own_loI (cs.getD i 0)) &&& (255 : Int32)) <<< ((0 : Int32) &&& 31)))]))
  obtain ⟨T5, X5, e5, st5⟩ := getS2 X3 hx hZ hown (host := "") (Or.inl (hw _ (List.mem_of_getElem? (i := 90) rfl))) Via.refl e3 (SLO.ext O0.2) (g := (mkF m 53 #[.val (.ref a1), .val (.int (Int32.ofNat (2 * i + 1)))] [(.int ((own_hiI (cs.getD i 0)) &&& (255 : Int32))), (.int (((own_loI (cs.getD i 0)) &&& (255 : Int32)) <<< ((0 : Int32) &&& 31)))])) rfl (hb hby d21_53)
  refine own_go st5 ?_
  show own_Ends p e below s _ _ _ (T5.setTop (mkF m 56 #[.val (.ref a1), .val (.int (Int32.ofNat (2 * i + 1)))] [(.int (8 : Int32)), (.int ((own_hiI (cs.getD i 0)) &&& (255 : Int32))), (.int (((own_loI (cs.getD i 0)) &&& (255 : Int32)) <<< ((0 : Int32) &&& 31)))]))
  refine own_go (fun _ k => XS.ishl X5.here hx rfl (hb hby d21_56) rfl <| XS.ior X5.here hx rfl (hb hby d21_57) rfl <| XS.i2c X5.here hx rfl (hb hby d21_58) rfl <| k) ?_
  show own_Ends p e below s _ _ _ (T5.setTop (mkF m 59 #[.val (.ref a1), .val (.int (Int32.ofNat (2 * i + 1)))] [(.int (((((own_loI (cs.getD i 0)) &&& (255 : Int32)) <<< ((0 : Int32) &&& 31)) ||| (((own_hiI (cs.getD i 0)) &&& (255 : Int32)) <<< ((8 : Int32) &&& 31))).toUInt32.toUInt16.toUInt32.toInt32))]))
  exact own_retN X5 hx (t := .char) hrt (by simp) (hb hby d21_59) hlk (show nar .char (((((own_loI (cs.getD i 0)) &&& (255 : Int32)) <<< ((0 : Int32) &&& 31)) ||| (((own_hiI (cs.getD i 0)) &&& (255 : Int32)) <<< ((8 : Int32) &&& 31))).toUInt32.toUInt16.toUInt32.toInt32) = cs.getD i 0 from own_gc (hC _ (own_mem hi))) (by rw [e5]; exact ⟨rfl, N0, rfl⟩) (by decide) (by decide)
theorem d6_0 : decode jdk_52_method_21_code 0 = .ok (.iconst 0, 1) := by decide +kernel
theorem d6_1 : decode jdk_52_method_21_code 1 = .ok (.istore 5, 2) := by decide +kernel
theorem d6_3 : decode jdk_52_method_21_code 3 = .ok (.iload 5, 2) := by decide +kernel
theorem d6_5 : decode jdk_52_method_21_code 5 = .ok (.iload 4, 2) := by decide +kernel
theorem d6_7 : decode jdk_52_method_21_code 7 = .ok (.if_icmp .ge 37, 3) := by decide +kernel
theorem d6_10 : decode jdk_52_method_21_code 10 = .ok (.aload_n 0, 1) := by decide +kernel
theorem d6_11 : decode jdk_52_method_21_code 11 = .ok (.iload_n 1, 1) := by decide +kernel
theorem d6_12 : decode jdk_52_method_21_code 12 = .ok (.caload, 1) := by decide +kernel
theorem d6_13 : decode jdk_52_method_21_code 13 = .ok (.istore 6, 2) := by decide +kernel
theorem d6_15 : decode jdk_52_method_21_code 15 = .ok (.iload 6, 2) := by decide +kernel
theorem d6_17 : decode jdk_52_method_21_code 17 = .ok (.sipush 255, 3) := by decide +kernel
theorem d6_20 : decode jdk_52_method_21_code 20 = .ok (.if_icmp .le 6, 3) := by decide +kernel
theorem d6_23 : decode jdk_52_method_21_code 23 = .ok (.iload 5, 2) := by decide +kernel
theorem d6_25 : decode jdk_52_method_21_code 25 = .ok (.ireturn, 1) := by decide +kernel
theorem d6_26 : decode jdk_52_method_21_code 26 = .ok (.aload_n 2, 1) := by decide +kernel
theorem d6_27 : decode jdk_52_method_21_code 27 = .ok (.iload_n 3, 1) := by decide +kernel
theorem d6_28 : decode jdk_52_method_21_code 28 = .ok (.iload 6, 2) := by decide +kernel
theorem d6_30 : decode jdk_52_method_21_code 30 = .ok (.i2b, 1) := by decide +kernel
theorem d6_31 : decode jdk_52_method_21_code 31 = .ok (.bastore, 1) := by decide +kernel
theorem d6_32 : decode jdk_52_method_21_code 32 = .ok (.iinc 1 1, 3) := by decide +kernel
theorem d6_35 : decode jdk_52_method_21_code 35 = .ok (.iinc 3 1, 3) := by decide +kernel
theorem d6_38 : decode jdk_52_method_21_code 38 = .ok (.iinc 5 1, 3) := by decide +kernel
theorem d6_41 : decode jdk_52_method_21_code 41 = .ok (.goto (-38), 3) := by decide +kernel
theorem d6_44 : decode jdk_52_method_21_code 44 = .ok (.iload 4, 2) := by decide +kernel
theorem d6_46 : decode jdk_52_method_21_code 46 = .ok (.ireturn, 1) := by decide +kernel
theorem ef_6 (m : MethodId) (x0 : Addr) (x1 : Int32) (x2 : Addr) (x3 : Int32) (x4 : Int32) : entryFrame m #[(.ref x0), (.int x1), (.ref x2), (.int x3), (.int x4)] 7 = mkF m 0 #[.val (.ref x0), .val (.int x1), .val (.ref x2), .val (.int x3), .val (.int x4), .unset, .unset] [] := by first | (simp [entryFrame, mkF, argsToLocals, Value.category]; done) | rfl
def Q6 (a1 : Addr) (a3 : Addr) (ka1 ka3 : ClassId) (cs : List Int32) (h0 : Heap) (n0 : Nat) (Z : State) (v : Option Value) (h : Heap) (L : List Loc) : Prop := ∃ r : Nat, v = some (.int (Int32.ofNat r)) ∧ Fr n0 L ∧ Keep h0 h [a3] ∧ ((r = cs.length ∧ (∀ c ∈ cs, ¬ (255 : Int32) < c) ∧ Arv Z h a3 ka3 .byte (Int32.ofNat cs.length) (cs.map own_bv) (.int (0 : Int32))) ∨ (r < cs.length ∧ (255 : Int32) < cs.getD r 0))
set_option maxRecDepth 65536 in
set_option maxHeartbeats 40000000 in
theorem rm6 (l : Launch) (Z : State) (a0 : Array Value) (hw : ∀ d ∈ tables_1, d.before a0 Z = true) (ws : List Jvm.Cond) (a1 : Addr) (a3 : Addr) (ka1 ka3 : ClassId) (cs : List Int32) (h0 : Heap) (n0 : Nat) (Z0 : n0 ≤ h0.size) (hN : cs.length ≤ 5) (V1 : Arv Z h0 a1 ka1 .char (Int32.ofNat cs.length) (cs.map Value.int) (.int (0 : Int32))) (V3 : Arv Z h0 a3 ka3 .byte (Int32.ofNat cs.length) [] (.int (0 : Int32))) (ne13 : a1 ≠ a3) (g3 : n0 ≤ a3) :
    MetFree l (⟨"java/lang/StringUTF16", "compress", "([CI[BII)I"⟩ : MethodName) (head1 (Jvm.Cond.code (⟨"java/lang/StringUTF16", "compress", "([CI[BII)I"⟩ : MethodName) jdk_52_method_21_code 7 (some .int) :: ws) ({ frames := 0, cells := 0, slots := 0, locals := 0 } : Room)) (fun a U => a = #[(.ref a1), (.int (0 : Int32)), (.ref a3), (.int (0 : Int32)), (.int (Int32.ofNat cs.length))] ∧ Z.Warmed39 U.vm ∧ U.heap = h0) (fun _ _ _ _ _ => True) (fun _ U o U' => ∃ v L, o = .returned v ∧ Q6 a1 a3 ka1 ka3 cs h0 n0 Z v U'.heap L ∧ FrameEnd U o U' L ({ frames := 0, cells := 0, slots := 0, locals := 0 } : Room).cells ({ frames := 0, cells := 0, slots := 0, locals := 0 } : Room).slots) := by
  refine MetFree.of_bodySF (plainFor_of_name pn_0) hisR ?_
  intro p e s m args below meth c s₁ Bd hml0 hP hK
  obtain ⟨rfl, hZ, hh⟩ := hP
  have hx := Bd.exec
  have hby := Bd.bytes
  have hml : c.maxLocals = 7 := hml0
  have hown : s.vm.findClass "java/lang/StringUTF16" = some m.cls := findClass_of_methodNamed Bd.named
  have hnm := (name_of_methodNamed Bd.named Bd.method).1
  have hlk := Bd.notSynchronized
  have hrt := Bd.returns
  have X0 : Stand p l e ({ frames := 0, cells := 0, slots := 0, locals := 0 } : Room) s m #[(.ref a1), (.int (0 : Int32)), (.ref a3), (.int (0 : Int32)), (.int (Int32.ofNat cs.length))] below meth c s₁ [] 0 0 := Stand.of_body Bd
  have e0 : s₁.heap = h0 := by rw [← hh, Bd.state]; rfl
  have N0 := Fr.nil n0
  show own_Ends p e below s (Q6 a1 a3 ka1 ka3 cs h0 n0 Z) ({ frames := 0, cells := 0, slots := 0, locals := 0 } : Room).cells ({ frames := 0, cells := 0, slots := 0, locals := 0 } : Room).slots (s₁.setTop (entryFrame m #[(.ref a1), (.int (0 : Int32)), (.ref a3), (.int (0 : Int32)), (.int (Int32.ofNat cs.length))] 7))
  rw [ef_6]
  have K0 : Keep h0 h0 [a3] := Keep.refl h0 [a3]
  refine own_go (fun _ k => XT.iconstV X0.here hx rfl (0 : Int32) (hb hby d6_0) rfl <| XS.istore X0.here hx rfl (hb hby d6_1) rfl (l' := #[.val (.ref a1), .val (.int (0 : Int32)), .val (.ref a3), .val (.int (0 : Int32)), .val (.int (Int32.ofNat cs.length)), .val (.int (0 : Int32)), .unset]) rfl <| k) ?_
  show own_Ends p e below s _ _ _ (s₁.setTop (mkF m 3 #[.val (.ref a1), .val (.int (0 : Int32)), .val (.ref a3), .val (.int (0 : Int32)), .val (.int (Int32.ofNat cs.length)), .val (.int (0 : Int32)), .unset] []))
  have loop : ∀ (k i : Nat), i + k = cs.length → (∀ c ∈ cs.take i, ¬ (255 : Int32) < c) → ∀ (T : State) (h : Heap) (locs : List Loc) (s6 : Slot), One s6 → Stand p l e ({ frames := 0, cells := 0, slots := 0, locals := 0 } : Room) s m #[(.ref a1), (.int (0 : Int32)), (.ref a3), (.int (0 : Int32)), (.int (Int32.ofNat cs.length))] below meth c T locs 0 0 → T.heap = h → Fr n0 locs → Keep h0 h [a3] → Arv Z h a3 ka3 .byte (Int32.ofNat cs.length) ((cs.take i).map own_bv) (.int (0 : Int32)) → own_Ends p e below s (Q6 a1 a3 ka1 ka3 cs h0 n0 Z) ({ frames := 0, cells := 0, slots := 0, locals := 0 } : Room).cells ({ frames := 0, cells := 0, slots := 0, locals := 0 } : Room).slots (T.setTop (mkF m 3 #[.val (.ref a1), .val (.int (Int32.ofNat i)), .val (.ref a3), .val (.int (Int32.ofNat i)), .val (.int (Int32.ofNat cs.length)), .val (.int (Int32.ofNat i)), s6] [])) := by
    intro k
    induction k with
    | zero =>
      intro i hi hlo T h locs s6 hs6 XM eM NM KM VM
      have V1 := V1.keep KM (ninS ne13 nin0)
      have ZM := Nat.le_trans Z0 KM.1
      obtain rfl : i = cs.length := by omega
      rw [List.take_length] at VM hlo
      show own_Ends p e below s _ _ _ (T.setTop (mkF m 3 #[.val (.ref a1), .val (.int (Int32.ofNat cs.length)), .val (.ref a3), .val (.int (Int32.ofNat cs.length)), .val (.int (Int32.ofNat cs.length)), .val (.int (Int32.ofNat cs.length)), s6] []))
      refine own_go (fun _ k => XS.iload XM.here hx rfl (hb hby d6_3) rfl <| XS.iload XM.here hx rfl (hb hby d6_5) rfl <| XS.icmpYes XM.here hx rfl (pc0 := 7) (pc' := 44) rfl (hb hby d6_7) rfl (flt (fun q => absurd ((own_ofNat_lt (by omega) (by omega)).mp q) (Nat.lt_irrefl _))).2.1 (by decide) (by decide) <| XS.iload XM.here hx rfl (hb hby d6_44) rfl <| k) ?_
      show own_Ends p e below s _ _ _ (T.setTop (mkF m 46 #[.val (.ref a1), .val (.int (Int32.ofNat cs.length)), .val (.ref a3), .val (.int (Int32.ofNat cs.length)), .val (.int (Int32.ofNat cs.length)), .val (.int (Int32.ofNat cs.length)), s6] [(.int (Int32.ofNat cs.length))]))
      exact own_ret XM hx hrt rfl (Or.inl ⟨rfl, Or.inl rfl, _, rfl⟩) (hb hby d6_46) hlk (by rw [eM]; exact ⟨_, rfl, NM, KM, Or.inl ⟨rfl, hlo, VM⟩⟩) (by decide) (by decide)
    | succ k ih =>
      intro i hi hlo T h locs s6 hs6 XM eM NM KM VM
      have V1 := V1.keep KM (ninS ne13 nin0)
      have ZM := Nat.le_trans Z0 KM.1
      refine own_go (fun _ k => XS.iload XM.here hx rfl (hb hby d6_3) rfl <| XS.iload XM.here hx rfl (hb hby d6_5) rfl <| XS.icmpNo XM.here hx rfl (hb hby d6_7) rfl (tlt ((own_ofNat_lt (by omega) (by omega)).mpr (by omega))).2.1 <| XS.aloadN XM.here hx rfl (hb hby d6_10) rfl rfl <| XS.iloadN XM.here hx rfl (hb hby d6_11) rfl <| k) ?_
      show own_Ends p e below s _ _ _ (T.setTop (mkF m 12 #[.val (.ref a1), .val (.int (Int32.ofNat i)), .val (.ref a3), .val (.int (Int32.ofNat i)), .val (.int (Int32.ofNat cs.length)), .val (.int (Int32.ofNat i)), s6] [(.int (Int32.ofNat i)), (.ref a1)]))
      obtain ⟨cla1_12_1, Ara1_12_1, qqa1_12_1, Sza1_12_1, Nga1_12_1, Hsa1_12_1, Gfa1_12_1⟩ := id V1
      have hina1_12_1 : ¬ ((Int32.ofNat i) < 0 ∨ cla1_12_1.slots.size ≤ ((Int32.ofNat i)).toNatClampNeg) := inb_of Sza1_12_1 ⟨own_nneg (by omega), (own_ofNat_lt (by omega) (by omega)).mpr (by omega)⟩
      have hata1_12_1 : cla1_12_1.slots[((Int32.ofNat i)).toNatClampNeg]? = some (.int (cs.getD i 0)) := Hsa1_12_1.at hina1_12_1 (own_getD cs (by omega))
      refine own_go (fun _ k => XM.caload hx (j := (Int32.ofNat i)) (v := (.int (cs.getD i 0))) (by first | exact Ara1_12_1.1 | (rw [eM]; exact Ara1_12_1.1)) (State.isArrayOf_alike hZ.alike Ara1_12_1.2.1) Ara1_12_1.2.2 hina1_12_1 hata1_12_1 (g := (mkF m 12 #[.val (.ref a1), .val (.int (Int32.ofNat i)), .val (.ref a3), .val (.int (Int32.ofNat i)), .val (.int (Int32.ofNat cs.length)), .val (.int (Int32.ofNat i)), s6] [(.int (Int32.ofNat i)), (.ref a1)])) rfl rfl (hb hby d6_12) _ k) ?_
      show own_Ends p e below s _ _ _ (T.setTop (mkF m 13 #[.val (.ref a1), .val (.int (Int32.ofNat i)), .val (.ref a3), .val (.int (Int32.ofNat i)), .val (.int (Int32.ofNat cs.length)), .val (.int (Int32.ofNat i)), s6] [(.int (cs.getD i 0))]))
      refine own_go (fun _ k => XS.istoreS XM.here hx rfl (hb hby d6_13) rfl rfl hs6 <| k) ?_
      show own_Ends p e below s _ _ _ (T.setTop (mkF m 15 #[.val (.ref a1), .val (.int (Int32.ofNat i)), .val (.ref a3), .val (.int (Int32.ofNat i)), .val (.int (Int32.ofNat cs.length)), .val (.int (Int32.ofNat i)), .val (.int (cs.getD i 0))] []))
      refine own_go (fun _ k => XS.iload XM.here hx rfl (hb hby d6_15) rfl <| XT.sipushV XM.here hx rfl (255 : Int32) (hb hby d6_17) rfl <| k) ?_
      show own_Ends p e below s _ _ _ (T.setTop (mkF m 20 #[.val (.ref a1), .val (.int (Int32.ofNat i)), .val (.ref a3), .val (.int (Int32.ofNat i)), .val (.int (Int32.ofNat cs.length)), .val (.int (Int32.ofNat i)), .val (.int (cs.getD i 0))] [(.int (255 : Int32)), (.int (cs.getD i 0))]))
      by_cases hc20_2 : (255 : Int32) < (cs.getD i 0)
      · -- true
        refine own_go (fun _ k => XS.icmpNo XM.here hx rfl (hb hby d6_20) rfl (tlt hc20_2).2.2.2 <| XS.iload XM.here hx rfl (hb hby d6_23) rfl <| k) ?_
        show own_Ends p e below s _ _ _ (T.setTop (mkF m 25 #[.val (.ref a1), .val (.int (Int32.ofNat i)), .val (.ref a3), .val (.int (Int32.ofNat i)), .val (.int (Int32.ofNat cs.length)), .val (.int (Int32.ofNat i)), .val (.int (cs.getD i 0))] [(.int (Int32.ofNat i))]))
        exact own_ret XM hx hrt rfl (Or.inl ⟨rfl, Or.inl rfl, _, rfl⟩) (hb hby d6_25) hlk (by rw [eM]; exact ⟨_, rfl, NM, KM, Or.inr ⟨by omega, hc20_2⟩⟩) (by decide) (by decide)
      · -- false
        refine own_go (fun _ k => XS.icmpYes XM.here hx rfl (pc0 := 20) (pc' := 26) rfl (hb hby d6_20) rfl (flt hc20_2).2.2.2 (by decide) (by decide) <| XS.aloadN XM.here hx rfl (hb hby d6_26) rfl rfl <| XS.iloadN XM.here hx rfl (hb hby d6_27) rfl <| XS.iload XM.here hx rfl (hb hby d6_28) rfl <| XS.i2b XM.here hx rfl (hb hby d6_30) rfl <| k) ?_
        show own_Ends p e below s _ _ _ (T.setTop (mkF m 31 #[.val (.ref a1), .val (.int (Int32.ofNat i)), .val (.ref a3), .val (.int (Int32.ofNat i)), .val (.int (Int32.ofNat cs.length)), .val (.int (Int32.ofNat i)), .val (.int (cs.getD i 0))] [(.int ((cs.getD i 0).toInt8.toInt32)), (.int (Int32.ofNat i)), (.ref a3)]))
        obtain ⟨cla3_31_3, Ara3_31_3, qqa3_31_3, Sza3_31_3, Nga3_31_3, Hsa3_31_3, Gfa3_31_3⟩ := id VM
        have hina3_31_3 : ¬ ((Int32.ofNat i) < 0 ∨ cla3_31_3.slots.size ≤ ((Int32.ofNat i)).toNatClampNeg) := inb_of Sza3_31_3 ⟨own_nneg (by omega), (own_ofNat_lt (by omega) (by omega)).mpr (by omega)⟩
        obtain ⟨T4, h4, X4, e4, W4, st4⟩ := stB XM hx hZ eM Ara3_31_3 (j := (Int32.ofNat i)) hina3_31_3 (g := (mkF m 31 #[.val (.ref a1), .val (.int (Int32.ofNat i)), .val (.ref a3), .val (.int (Int32.ofNat i)), .val (.int (Int32.ofNat cs.length)), .val (.int (Int32.ofNat i)), .val (.int (cs.getD i 0))] [(.int ((cs.getD i 0).toInt8.toInt32)), (.int (Int32.ofNat i)), (.ref a3)])) rfl rfl (hb hby d6_31)
        refine own_go st4 ?_
        have V1'4 := V1.other W4 ne13
        have Z4 := Nat.le_trans ZM (Keep.of_wr W4).1
        have K4' := KM.wr W4 (Or.inl (List.mem_of_getElem? (i := 0) rfl))
        have N4 := Fr.snoc X4 NM g3
        have VM'4 : Arv Z h4 a3 ka3 .byte (Int32.ofNat cs.length) ((cs.take i).map own_bv ++ [own_bv (cs.getD i 0)]) (.int (0 : Int32)) := own_snoc Ara3_31_3 qqa3_31_3 Sza3_31_3 Nga3_31_3 Hsa3_31_3 Gfa3_31_3 (fits_nar_byte _) W4 (by rw [own_clamp (by omega), List.length_map, List.length_take]; omega)
        show own_Ends p e below s _ _ _ (T4.setTop (mkF m 32 #[.val (.ref a1), .val (.int (Int32.ofNat i)), .val (.ref a3), .val (.int (Int32.ofNat i)), .val (.int (Int32.ofNat cs.length)), .val (.int (Int32.ofNat i)), .val (.int (cs.getD i 0))] []))
        refine own_go (fun _ k => XT.iincV X4.here hx rfl (1 : Int32) (hb hby d6_32) rfl rfl (l' := #[.val (.ref a1), .val (.int ((Int32.ofNat i) + (1 : Int32))), .val (.ref a3), .val (.int (Int32.ofNat i)), .val (.int (Int32.ofNat cs.length)), .val (.int (Int32.ofNat i)), .val (.int (cs.getD i 0))]) rfl <| XT.iincV X4.here hx rfl (1 : Int32) (hb hby d6_35) rfl rfl (l' := #[.val (.ref a1), .val (.int ((Int32.ofNat i) + (1 : Int32))), .val (.ref a3), .val (.int ((Int32.ofNat i) + (1 : Int32))), .val (.int (Int32.ofNat cs.length)), .val (.int (Int32.ofNat i)), .val (.int (cs.getD i 0))]) rfl <| XT.iincV X4.here hx rfl (1 : Int32) (hb hby d6_38) rfl rfl (l' := #[.val (.ref a1), .val (.int ((Int32.ofNat i) + (1 : Int32))), .val (.ref a3), .val (.int ((Int32.ofNat i) + (1 : Int32))), .val (.int (Int32.ofNat cs.length)), .val (.int ((Int32.ofNat i) + (1 : Int32))), .val (.int (cs.getD i 0))]) rfl <| XS.goto X4.here hx rfl (pc0 := 41) (pc' := 3) rfl (hb hby d6_41) (by decide) (by decide) <| k) ?_
        show own_Ends p e below s _ _ _ (T4.setTop (mkF m 3 #[.val (.ref a1), .val (.int ((Int32.ofNat i) + (1 : Int32))), .val (.ref a3), .val (.int ((Int32.ofNat i) + (1 : Int32))), .val (.int (Int32.ofNat cs.length)), .val (.int ((Int32.ofNat i) + (1 : Int32))), .val (.int (cs.getD i 0))] []))
        have hlo' : ∀ c ∈ cs.take (i + 1), ¬ (255 : Int32) < c := by
          rw [own_take cs (by omega)]; intro c hc; rcases List.mem_append.mp hc with q | q
          · exact hlo c q
          · rw [List.mem_singleton.mp q]; exact hc20_2
        rw [show (cs.take i).map own_bv ++ [own_bv (cs.getD i 0)] = (cs.take (i + 1)).map own_bv by rw [own_take cs (by omega), List.map_append]; rfl] at VM'4
        rw [own_up]
        exact ih (i + 1) (by omega) hlo' _ _ _ _ (One.val rfl) X4 e4 N4 K4' VM'4
  exact loop cs.length 0 (by omega) (fun c hc => absurd hc (by simp)) _ _ _ _ One.u X0 e0 N0 K0 V3
theorem d5_0 : decode jdk_52_method_16_code 0 = .ok (.iload_n 2, 1) := by decide +kernel
theorem d5_1 : decode jdk_52_method_16_code 1 = .ok (.newarray .byte, 2) := by decide +kernel
theorem d5_3 : decode jdk_52_method_16_code 3 = .ok (.astore_n 3, 1) := by decide +kernel
theorem d5_4 : decode jdk_52_method_16_code 4 = .ok (.aload_n 0, 1) := by decide +kernel
theorem d5_5 : decode jdk_52_method_16_code 5 = .ok (.iload_n 1, 1) := by decide +kernel
theorem d5_6 : decode jdk_52_method_16_code 6 = .ok (.aload_n 3, 1) := by decide +kernel
theorem d5_7 : decode jdk_52_method_16_code 7 = .ok (.iconst 0, 1) := by decide +kernel
theorem d5_8 : decode jdk_52_method_16_code 8 = .ok (.iload_n 2, 1) := by decide +kernel
theorem d5_9 : decode jdk_52_method_16_code 9 = .ok (.invokestatic 115, 3) := by decide +kernel
theorem d5_12 : decode jdk_52_method_16_code 12 = .ok (.istore 4, 2) := by decide +kernel
theorem d5_14 : decode jdk_52_method_16_code 14 = .ok (.iload 4, 2) := by decide +kernel
theorem d5_16 : decode jdk_52_method_16_code 16 = .ok (.iload_n 2, 1) := by decide +kernel
theorem d5_17 : decode jdk_52_method_16_code 17 = .ok (.if_icmp .eq 40, 3) := by decide +kernel
theorem d5_20 : decode jdk_52_method_16_code 20 = .ok (.aload_n 0, 1) := by decide +kernel
theorem d5_21 : decode jdk_52_method_16_code 21 = .ok (.iload_n 1, 1) := by decide +kernel
theorem d5_22 : decode jdk_52_method_16_code 22 = .ok (.iload_n 2, 1) := by decide +kernel
theorem d5_23 : decode jdk_52_method_16_code 23 = .ok (.invokestatic 119, 3) := by decide +kernel
theorem d5_26 : decode jdk_52_method_16_code 26 = .ok (.astore 5, 2) := by decide +kernel
theorem d5_28 : decode jdk_52_method_16_code 28 = .ok (.aload 5, 2) := by decide +kernel
theorem d5_30 : decode jdk_52_method_16_code 30 = .ok (.iload 4, 2) := by decide +kernel
theorem d5_32 : decode jdk_52_method_16_code 32 = .ok (.invokestatic 71, 3) := by decide +kernel
theorem d5_35 : decode jdk_52_method_16_code 35 = .ok (.sipush 255, 3) := by decide +kernel
theorem d5_38 : decode jdk_52_method_16_code 38 = .ok (.if_icmp .gt 16, 3) := by decide +kernel
theorem d5_41 : decode jdk_52_method_16_code 41 = .ok (.aload 5, 2) := by decide +kernel
theorem d5_43 : decode jdk_52_method_16_code 43 = .ok (.iconst 0, 1) := by decide +kernel
theorem d5_44 : decode jdk_52_method_16_code 44 = .ok (.aload_n 3, 1) := by decide +kernel
theorem d5_45 : decode jdk_52_method_16_code 45 = .ok (.iconst 0, 1) := by decide +kernel
theorem d5_46 : decode jdk_52_method_16_code 46 = .ok (.iload_n 2, 1) := by decide +kernel
theorem d5_47 : decode jdk_52_method_16_code 47 = .ok (.invokestatic 123, 3) := by decide +kernel
theorem d5_50 : decode jdk_52_method_16_code 50 = .ok (.iload_n 2, 1) := by decide +kernel
theorem d5_51 : decode jdk_52_method_16_code 51 = .ok (.if_icmp .eq 6, 3) := by decide +kernel
theorem d5_54 : decode jdk_52_method_16_code 54 = .ok (.aload 5, 2) := by decide +kernel
theorem d5_56 : decode jdk_52_method_16_code 56 = .ok (.areturn, 1) := by decide +kernel
theorem d5_57 : decode jdk_52_method_16_code 57 = .ok (.aload_n 3, 1) := by decide +kernel
theorem d5_58 : decode jdk_52_method_16_code 58 = .ok (.areturn, 1) := by decide +kernel
theorem ef_5 (m : MethodId) (x0 : Addr) (x1 : Int32) (x2 : Int32) : entryFrame m #[(.ref x0), (.int x1), (.int x2)] 6 = mkF m 0 #[.val (.ref x0), .val (.int x1), .val (.int x2), .unset, .unset, .unset] [] := by first | (simp [entryFrame, mkF, argsToLocals, Value.category]; done) | rfl
def Q5 (a1 : Addr) (vc : Int32) (vf : Value) (ka1 : ClassId) (cs : List Int32) (h0 : Heap) (n0 : Nat) (Z : State) (v : Option Value) (h : Heap) (L : List Loc) : Prop := ∃ b k kc, v = some (.ref b) ∧ Fr n0 L ∧ Keep h0 h [] ∧ n0 ≤ b ∧ h0.size ≤ b ∧ own_KC kc cs ∧ Arv Z h b k .byte (own_zz kc cs.length) (own_vs kc cs) (.int (0 : Int32))
set_option maxRecDepth 65536 in
set_option maxHeartbeats 40000000 in
theorem rm5 (l : Launch) (Z : State) (a0 : Array Value) (hw : ∀ d ∈ tables_1, d.before a0 Z = true) (ws : List Jvm.Cond) (a1 : Addr) (vc : Int32) (vf : Value) (ka1 : ClassId) (cs : List Int32) (h0 : Heap) (n0 : Nat) (Z0 : n0 ≤ h0.size) (O0 : Old Z n0 h0) (ST : own_St Z vc vf) (hN : cs.length ≤ 5) (hC : own_Ch cs) (V1 : Arv Z h0 a1 ka1 .char (Int32.ofNat cs.length) (cs.map Value.int) (.int (0 : Int32))) :
    MetFree l (⟨"java/lang/StringUTF16", "compress", "([CII)[B"⟩ : MethodName) (head1 (Jvm.Cond.code (⟨"java/lang/StringUTF16", "compress", "([CII)[B"⟩ : MethodName) jdk_52_method_16_code 6 (some (.array .byte)) :: ws) ({ frames := 3, cells := 2, slots := 15, locals := 40 } : Room)) (fun a U => a = #[(.ref a1), (.int (0 : Int32)), (.int (Int32.ofNat cs.length))] ∧ Z.Warmed39 U.vm ∧ U.heap = h0) (fun _ _ _ _ _ => True) (fun _ U o U' => ∃ v L, o = .returned v ∧ Q5 a1 vc vf ka1 cs h0 n0 Z v U'.heap L ∧ FrameEnd U o U' L ({ frames := 3, cells := 2, slots := 15, locals := 40 } : Room).cells ({ frames := 3, cells := 2, slots := 15, locals := 40 } : Room).slots) := by
  refine MetFree.of_bodySF (plainFor_of_name pn_0) hisR ?_
  intro p e s m args below meth c s₁ Bd hml0 hP hK
  obtain ⟨rfl, hZ, hh⟩ := hP
  have hx := Bd.exec
  have hby := Bd.bytes
  have hml : c.maxLocals = 6 := hml0
  have hown : s.vm.findClass "java/lang/StringUTF16" = some m.cls := findClass_of_methodNamed Bd.named
  have hnm := (name_of_methodNamed Bd.named Bd.method).1
  have hlk := Bd.notSynchronized
  have hrt := Bd.returns
  have X0 : Stand p l e ({ frames := 3, cells := 2, slots := 15, locals := 40 } : Room) s m #[(.ref a1), (.int (0 : Int32)), (.int (Int32.ofNat cs.length))] below meth c s₁ [] 0 0 := Stand.of_body Bd
  have e0 : s₁.heap = h0 := by rw [← hh, Bd.state]; rfl
  have N0 := Fr.nil n0
  show own_Ends p e below s (Q5 a1 vc vf ka1 cs h0 n0 Z) ({ frames := 3, cells := 2, slots := 15, locals := 40 } : Room).cells ({ frames := 3, cells := 2, slots := 15, locals := 40 } : Room).slots (s₁.setTop (entryFrame m #[(.ref a1), (.int (0 : Int32)), (.int (Int32.ofNat cs.length))] 6))
  rw [ef_5]
  have K0 : Keep h0 h0 [] := Keep.refl h0 []
  obtain ⟨HVC, SCS, SAD, SHI, SLO, SIO, HVF⟩ := id ST
  refine own_go (fun _ k => XS.iloadN X0.here hx rfl (hb hby d5_0) rfl <| k) ?_
  show own_Ends p e below s _ _ _ (s₁.setTop (mkF m 1 #[.val (.ref a1), .val (.int (0 : Int32)), .val (.int (Int32.ofNat cs.length)), .unset, .unset, .unset] [(.int (Int32.ofNat cs.length))]))
  obtain ⟨T1, h1, k1, X1, e1, E1, A1, st1⟩ := newP X0 hx hZ (hw _ (List.mem_of_getElem? (i := 24) rfl)) e0 (g := (mkF m 1 #[.val (.ref a1), .val (.int (0 : Int32)), .val (.int (Int32.ofNat cs.length)), .unset, .unset, .unset] [(.int (Int32.ofNat cs.length))])) rfl (hb hby d5_1) rfl (own_nneg (by omega)) (cap := 5) (by rw [own_clamp (by omega)]; omega) (by decide) (by decide) (by decide)
  obtain ⟨b1, g1⟩ : ∃ z, z = h0.size := ⟨_, rfl⟩
  rw [← g1] at A1 st1
  refine own_go st1 ?_
  have ne_a1_b1 : a1 ≠ b1 := Nat.ne_of_lt (Nat.lt_of_lt_of_le V1.lt (Nat.le_of_eq g1.symm))
  have g_b1 : n0 ≤ b1 := Nat.le_trans Z0 (Nat.le_of_eq g1.symm)
  have sz_b1 : h0.size ≤ b1 := Nat.le_trans K0.1 (Nat.le_of_eq g1.symm)
  have V1'1 := V1.ext E1
  have Z1 := Nat.le_trans Z0 E1.1
  have O1 := O0.ext E1
  have K1' := K0.ext E1
  have V_b1 : Arv Z h1 b1 k1 .byte (Int32.ofNat cs.length) [] (.int (0 : Int32)) := Arv.new A1 (own_nneg (by omega))
  show own_Ends p e below s _ _ _ (T1.setTop (mkF m 3 #[.val (.ref a1), .val (.int (0 : Int32)), .val (.int (Int32.ofNat cs.length)), .unset, .unset, .unset] [(.ref b1)]))
  refine own_go (fun _ k => XS.astoreN X1.here hx rfl (hb hby d5_3) rfl rfl (l' := #[.val (.ref a1), .val (.int (0 : Int32)), .val (.int (Int32.ofNat cs.length)), .val (.ref b1), .unset, .unset]) rfl <| XS.aloadN X1.here hx rfl (hb hby d5_4) rfl rfl <| XS.iloadN X1.here hx rfl (hb hby d5_5) rfl <| XS.aloadN X1.here hx rfl (hb hby d5_6) rfl rfl <| XT.iconstV X1.here hx rfl (0 : Int32) (hb hby d5_7) rfl <| XS.iloadN X1.here hx rfl (hb hby d5_8) rfl <| k) ?_
  show own_Ends p e below s _ _ _ (T1.setTop (mkF m 9 #[.val (.ref a1), .val (.int (0 : Int32)), .val (.int (Int32.ofNat cs.length)), .val (.ref b1), .unset, .unset] [(.int (Int32.ofNat cs.length)), (.int (0 : Int32)), (.ref b1), (.int (0 : Int32)), (.ref a1)]))
  obtain ⟨_, _, ⟨T2, L2, k2, n2⟩, -, X2, ⟨Lc2, hQ2, l2, y2, z2⟩, st2⟩ := Jvm.LawKit.callS X1 hx (y := (⟨"java/lang/StringUTF16", "compress", "([CI[BII)I"⟩ : MethodName)) hown (mvT hZ (hw _ (List.mem_of_getElem? (i := 25) rfl))) (mvT hZ (hw _ (List.mem_of_getElem? (i := 26) rfl))) (mvT hZ (hw _ (List.mem_of_getElem? (i := 22) rfl))) (mvT hZ (hw _ (List.mem_of_getElem? (i := 27) rfl))) (by decide) (backOf (W := 0) (rm6 l Z a0 hw [] a1 b1 ka1 k1 cs h1 n0 Z1 hN V1'1 V_b1 ne_a1_b1 g_b1) hZ (hw _ (List.mem_of_getElem? (i := 27) rfl)) (hw _ (List.mem_of_getElem? (i := 22) rfl)) (by decide) (by decide)) (g := (mkF m 9 #[.val (.ref a1), .val (.int (0 : Int32)), .val (.int (Int32.ofNat cs.length)), .val (.ref b1), .unset, .unset] [(.int (Int32.ofNat cs.length)), (.int (0 : Int32)), (.ref b1), (.int (0 : Int32)), (.ref a1)])) rfl (by rw [hml]; rfl) (argsL := [(.ref a1), (.int (0 : Int32)), (.ref b1), (.int (0 : Int32)), (.int (Int32.ofNat cs.length))]) (rest := []) (lenOf pd_5 rfl) rfl (by show 2 * 0 + _ ≤ _; exact Nat.le_of_eq rfl) (hb hby d5_9) (fun _ _ => ⟨rfl, e1, Nat.le_of_ble_eq_true rfl, Nat.le_of_ble_eq_true rfl⟩)
  dsimp only [Pt.U, Pt.locs, Pt.cells, Pt.slots] at X2 l2 y2 z2 st2 hQ2
  subst l2 y2 z2
  obtain ⟨r, rfl, N2q, K2, hor⟩ := hQ2
  have N2 := Fr.app N0 N2q
  refine own_go (fun _ k => st2 _ k) ?_
  have V1'2 := V1'1.keep K2 (ninS ne_a1_b1 nin0)
  have Z2 := Nat.le_trans Z1 K2.1
  have O2 := O1.keep K2 (allS g_b1 all0)
  have K2' := K1'.trans K2 (allS (Or.inr sz_b1) all0)
  show own_Ends p e below s _ _ _ (T2.setTop (mkF m 12 #[.val (.ref a1), .val (.int (0 : Int32)), .val (.int (Int32.ofNat cs.length)), .val (.ref b1), .unset, .unset] [(.int (Int32.ofNat r))]))
  refine own_go (fun _ k => XS.istore X2.here hx rfl (hb hby d5_12) rfl (l' := #[.val (.ref a1), .val (.int (0 : Int32)), .val (.int (Int32.ofNat cs.length)), .val (.ref b1), .val (.int (Int32.ofNat r)), .unset]) rfl <| k) ?_
  show own_Ends p e below s _ _ _ (T2.setTop (mkF m 14 #[.val (.ref a1), .val (.int (0 : Int32)), .val (.int (Int32.ofNat cs.length)), .val (.ref b1), .val (.int (Int32.ofNat r)), .unset] []))
  rcases hor with ⟨rfl, hlo, Vc⟩ | ⟨hr, hgt⟩
  ·
    refine own_go (fun _ k => XS.iload X2.here hx rfl (hb hby d5_14) rfl <| XS.iloadN X2.here hx rfl (hb hby d5_16) rfl <| XS.icmpYes X2.here hx rfl (pc0 := 17) (pc' := 57) rfl (hb hby d5_17) rfl (teq rfl).1 (by decide) (by decide) <| XS.aloadN X2.here hx rfl (hb hby d5_57) rfl rfl <| k) ?_
    show own_Ends p e below s _ _ _ (T2.setTop (mkF m 58 #[.val (.ref a1), .val (.int (0 : Int32)), .val (.int (Int32.ofNat cs.length)), .val (.ref b1), .val (.int (Int32.ofNat cs.length)), .unset] [(.ref b1)]))
    exact own_ret X2 hx hrt rfl (Or.inr (Or.inr (Or.inr (Or.inr ⟨rfl, rfl, rfl⟩)))) (hb hby d5_58) hlk (by exact ⟨_, _, (0 : Int32), rfl, N2, K2', g_b1, sz_b1, Or.inl ⟨rfl, hlo⟩, Vc⟩) (by decide) (by decide)
  ·
    refine own_go (fun _ k => XS.iload X2.here hx rfl (hb hby d5_14) rfl <| XS.iloadN X2.here hx rfl (hb hby d5_16) rfl <| XS.icmpNo X2.here hx rfl (hb hby d5_17) rfl (feq (fun q => absurd ((congrArg Int32.toNatClampNeg q)) (by rw [own_clamp (by omega), own_clamp (by omega)]; omega))).1 <| XS.aloadN X2.here hx rfl (hb hby d5_20) rfl rfl <| XS.iloadN X2.here hx rfl (hb hby d5_21) rfl <| XS.iloadN X2.here hx rfl (hb hby d5_22) rfl <| k) ?_
    show own_Ends p e below s _ _ _ (T2.setTop (mkF m 23 #[.val (.ref a1), .val (.int (0 : Int32)), .val (.int (Int32.ofNat cs.length)), .val (.ref b1), .val (.int (Int32.ofNat r)), .unset] [(.int (Int32.ofNat cs.length)), (.int (0 : Int32)), (.ref a1)]))
    obtain ⟨_, _, ⟨T3, L3, k3, n3⟩, -, X3, ⟨Lc3, hQ3, l3, y3, z3⟩, st3⟩ := Jvm.LawKit.callS X2 hx (y := (⟨"java/lang/StringUTF16", "toBytes", "([CII)[B"⟩ : MethodName)) hown (mvT hZ (hw _ (List.mem_of_getElem? (i := 75) rfl))) (mvT hZ (hw _ (List.mem_of_getElem? (i := 76) rfl))) (mvT hZ (hw _ (List.mem_of_getElem? (i := 22) rfl))) (mvT hZ (hw _ (List.mem_of_getElem? (i := 77) rfl))) (by decide) (backOf (W := 0) (rm17 l Z a0 hw [] a1 vc vf ka1 cs T2.heap n0 Z2 O2 ST hN V1'2) hZ (hw _ (List.mem_of_getElem? (i := 77) rfl)) (hw _ (List.mem_of_getElem? (i := 22) rfl)) (by decide) (by decide)) (g := (mkF m 23 #[.val (.ref a1), .val (.int (0 : Int32)), .val (.int (Int32.ofNat cs.length)), .val (.ref b1), .val (.int (Int32.ofNat r)), .unset] [(.int (Int32.ofNat cs.length)), (.int (0 : Int32)), (.ref a1)])) rfl (by rw [hml]; rfl) (argsL := [(.ref a1), (.int (0 : Int32)), (.int (Int32.ofNat cs.length))]) (rest := []) (lenOf pd_4 rfl) rfl (by show 2 * 0 + _ ≤ _; exact Nat.le_of_eq rfl) (hb hby d5_23) (fun _ _ => ⟨rfl, rfl, Nat.le_of_ble_eq_true rfl, Nat.le_of_ble_eq_true rfl⟩)
    dsimp only [Pt.U, Pt.locs, Pt.cells, Pt.slots] at X3 l3 y3 z3 st3 hQ3
    subst l3 y3 z3
    obtain ⟨b3, kb3, rfl, N3q, K3, g3, sz3, Vb3⟩ := hQ3
    have N3 := Fr.app N2 N3q
    refine own_go (fun _ k => st3 _ k) ?_
    have V1'3 := V1'2.keep K3 nin0
    have Z3 := Nat.le_trans Z2 K3.1
    have O3 := O2.keep K3 all0
    have K3' := K2'.trans K3 all0
    show own_Ends p e below s _ _ _ (T3.setTop (mkF m 26 #[.val (.ref a1), .val (.int (0 : Int32)), .val (.int (Int32.ofNat cs.length)), .val (.ref b1), .val (.int (Int32.ofNat r)), .unset] [(.ref b3)]))
    have ne_a1_b3 : a1 ≠ b3 := Nat.ne_of_lt (Nat.lt_of_lt_of_le V1'2.lt sz3)
    have szk3 : h0.size ≤ b3 := Nat.le_trans K2'.1 sz3
    refine own_go (fun _ k => XS.astore X3.here hx rfl (hb hby d5_26) rfl rfl (l' := #[.val (.ref a1), .val (.int (0 : Int32)), .val (.int (Int32.ofNat cs.length)), .val (.ref b1), .val (.int (Int32.ofNat r)), .val (.ref b3)]) rfl <| XS.aload X3.here hx rfl (hb hby d5_28) rfl rfl <| XS.iload X3.here hx rfl (hb hby d5_30) rfl <| k) ?_
    show own_Ends p e below s _ _ _ (T3.setTop (mkF m 32 #[.val (.ref a1), .val (.int (0 : Int32)), .val (.int (Int32.ofNat cs.length)), .val (.ref b1), .val (.int (Int32.ofNat r)), .val (.ref b3)] [(.int (Int32.ofNat r)), (.ref b3)]))
    obtain ⟨_, _, ⟨T4, L4, k4, n4⟩, -, X4, ⟨Lc4, hQ4, l4, y4, z4⟩, st4⟩ := Jvm.LawKit.callS X3 hx (y := (⟨"java/lang/StringUTF16", "getChar", "([BI)C"⟩ : MethodName)) hown (mvT hZ (hw _ (List.mem_of_getElem? (i := 91) rfl))) (mvT hZ (hw _ (List.mem_of_getElem? (i := 92) rfl))) (mvT hZ (hw _ (List.mem_of_getElem? (i := 22) rfl))) (mvT hZ (hw _ (List.mem_of_getElem? (i := 93) rfl))) (by decide) (backOf (W := 0) (rm21 l Z a0 hw [] b3 vc vf kb3 cs r T3.heap n0 Z3 O3 ST hN hC hr Vb3) hZ (hw _ (List.mem_of_getElem? (i := 93) rfl)) (hw _ (List.mem_of_getElem? (i := 22) rfl)) (by decide) (by decide)) (g := (mkF m 32 #[.val (.ref a1), .val (.int (0 : Int32)), .val (.int (Int32.ofNat cs.length)), .val (.ref b1), .val (.int (Int32.ofNat r)), .val (.ref b3)] [(.int (Int32.ofNat r)), (.ref b3)])) rfl (by rw [hml]; rfl) (argsL := [(.ref b3), (.int (Int32.ofNat r))]) (rest := []) (lenOf pd_13 rfl) rfl (by show 2 * 0 + _ ≤ _; exact Nat.le_of_eq rfl) (hb hby d5_32) (fun _ _ => ⟨rfl, rfl, Nat.le_of_ble_eq_true rfl, Nat.le_of_ble_eq_true rfl⟩)
    dsimp only [Pt.U, Pt.locs, Pt.cells, Pt.slots] at X4 l4 y4 z4 st4 hQ4
    subst l4 y4 z4
    obtain ⟨rfl, N4q, e4⟩ := hQ4
    have N4 := Fr.app N3 N4q
    refine own_go (fun _ k => st4 _ k) ?_
    show own_Ends p e below s _ _ _ (T4.setTop (mkF m 35 #[.val (.ref a1), .val (.int (0 : Int32)), .val (.int (Int32.ofNat cs.length)), .val (.ref b1), .val (.int (Int32.ofNat r)), .val (.ref b3)] [(.int (cs.getD r 0))]))
    refine own_go (fun _ k => XT.sipushV X4.here hx rfl (255 : Int32) (hb hby d5_35) rfl <| XS.icmpYes X4.here hx rfl (pc0 := 38) (pc' := 54) rfl (hb hby d5_38) rfl (tlt hgt).2.2.1 (by decide) (by decide) <| XS.aload X4.here hx rfl (hb hby d5_54) rfl rfl <| k) ?_
    show own_Ends p e below s _ _ _ (T4.setTop (mkF m 56 #[.val (.ref a1), .val (.int (0 : Int32)), .val (.int (Int32.ofNat cs.length)), .val (.ref b1), .val (.int (Int32.ofNat r)), .val (.ref b3)] [(.ref b3)]))
    exact own_ret X4 hx hrt rfl (Or.inr (Or.inr (Or.inr (Or.inr ⟨rfl, rfl, rfl⟩)))) (hb hby d5_56) hlk (by rw [e4]; exact ⟨_, _, (1 : Int32), rfl, N4, K3', g3, szk3, Or.inr rfl, Vb3⟩) (by decide) (by decide)
theorem d7_0 : decode jdk_52_method_15_code 0 = .ok (.iload_n 1, 1) := by decide +kernel
theorem d7_1 : decode jdk_52_method_15_code 1 = .ok (.aload_n 0, 1) := by decide +kernel
theorem d7_2 : decode jdk_52_method_15_code 2 = .ok (.arraylength, 1) := by decide +kernel
theorem d7_3 : decode jdk_52_method_15_code 3 = .ok (.isub, 1) := by decide +kernel
theorem d7_4 : decode jdk_52_method_15_code 4 = .ok (.bipush 31, 2) := by decide +kernel
theorem d7_6 : decode jdk_52_method_15_code 6 = .ok (.iushr, 1) := by decide +kernel
theorem d7_7 : decode jdk_52_method_15_code 7 = .ok (.i2b, 1) := by decide +kernel
theorem d7_8 : decode jdk_52_method_15_code 8 = .ok (.ireturn, 1) := by decide +kernel
theorem ef_7 (m : MethodId) (x0 : Addr) (x1 : Int32) : entryFrame m #[(.ref x0), (.int x1)] 2 = mkF m 0 #[.val (.ref x0), .val (.int x1)] [] := by first | (simp [entryFrame, mkF, argsToLocals, Value.category]; done) | rfl
def Q7 (a1 : Addr) (p2 : Int32) (ka1 : ClassId) (z : Int32) (vs : List Value) (h0 : Heap) (n0 : Nat) (Z : State) (v : Option Value) (h : Heap) (L : List Loc) : Prop := v = some (.int (own_cal p2 z)) ∧ Fr n0 L ∧ h = h0
set_option maxRecDepth 65536 in
set_option maxHeartbeats 40000000 in
theorem rm7 (l : Launch) (Z : State) (a0 : Array Value) (hw : ∀ d ∈ tables_1, d.before a0 Z = true) (ws : List Jvm.Cond) (a1 : Addr) (p2 : Int32) (ka1 : ClassId) (z : Int32) (vs : List Value) (h0 : Heap) (n0 : Nat) (Z0 : n0 ≤ h0.size) (V1 : Arv Z h0 a1 ka1 .byte z vs (.int (0 : Int32))) :
    MetFree l (⟨"java/lang/StringUTF16", "coderFromArrayLen", "([BI)B"⟩ : MethodName) (head1 (Jvm.Cond.code (⟨"java/lang/StringUTF16", "coderFromArrayLen", "([BI)B"⟩ : MethodName) jdk_52_method_15_code 2 (some .byte) :: ws) ({ frames := 0, cells := 0, slots := 0, locals := 0 } : Room)) (fun a U => a = #[(.ref a1), (.int p2)] ∧ Z.Warmed39 U.vm ∧ U.heap = h0) (fun _ _ _ _ _ => True) (fun _ U o U' => ∃ v L, o = .returned v ∧ Q7 a1 p2 ka1 z vs h0 n0 Z v U'.heap L ∧ FrameEnd U o U' L ({ frames := 0, cells := 0, slots := 0, locals := 0 } : Room).cells ({ frames := 0, cells := 0, slots := 0, locals := 0 } : Room).slots) := by
  refine MetFree.of_bodySF (plainFor_of_name pn_0) hisR ?_
  intro p e s m args below meth c s₁ Bd hml0 hP hK
  obtain ⟨rfl, hZ, hh⟩ := hP
  have hx := Bd.exec
  have hby := Bd.bytes
  have hml : c.maxLocals = 2 := hml0
  have hown : s.vm.findClass "java/lang/StringUTF16" = some m.cls := findClass_of_methodNamed Bd.named
  have hnm := (name_of_methodNamed Bd.named Bd.method).1
  have hlk := Bd.notSynchronized
  have hrt := Bd.returns
  have X0 : Stand p l e ({ frames := 0, cells := 0, slots := 0, locals := 0 } : Room) s m #[(.ref a1), (.int p2)] below meth c s₁ [] 0 0 := Stand.of_body Bd
  have e0 : s₁.heap = h0 := by rw [← hh, Bd.state]; rfl
  have N0 := Fr.nil n0
  show own_Ends p e below s (Q7 a1 p2 ka1 z vs h0 n0 Z) ({ frames := 0, cells := 0, slots := 0, locals := 0 } : Room).cells ({ frames := 0, cells := 0, slots := 0, locals := 0 } : Room).slots (s₁.setTop (entryFrame m #[(.ref a1), (.int p2)] 2))
  rw [ef_7]
  refine own_go (fun _ k => XS.iloadN X0.here hx rfl (hb hby d7_0) rfl <| XS.aloadN X0.here hx rfl (hb hby d7_1) rfl rfl <| k) ?_
  show own_Ends p e below s _ _ _ (s₁.setTop (mkF m 2 #[.val (.ref a1), .val (.int p2)] [(.ref a1), (.int p2)]))
  obtain ⟨cla1_2_1, Ara1_2_1, qqa1_2_1, Sza1_2_1, Nga1_2_1, Hsa1_2_1, Gfa1_2_1⟩ := id V1
  refine own_go (fun _ k => X0.arraylength hx (by first | exact Ara1_2_1.1 | (rw [e0]; exact Ara1_2_1.1)) (State.isArrayOf_alike hZ.alike Ara1_2_1.2.1) (g := (mkF m 2 #[.val (.ref a1), .val (.int p2)] [(.ref a1), (.int p2)])) rfl rfl (hb hby d7_2) _ k) ?_
  rw [len_of Sza1_2_1 Nga1_2_1]
  show own_Ends p e below s _ _ _ (s₁.setTop (mkF m 3 #[.val (.ref a1), .val (.int p2)] [(.int z), (.int p2)]))
  refine own_go (fun _ k => XS.isub X0.here hx rfl (hb hby d7_3) rfl <| XT.bipushV X0.here hx rfl (31 : Int32) (hb hby d7_4) rfl <| XS.iushr X0.here hx rfl (hb hby d7_6) rfl <| XS.i2b X0.here hx rfl (hb hby d7_7) rfl <| k) ?_
  show own_Ends p e below s _ _ _ (s₁.setTop (mkF m 8 #[.val (.ref a1), .val (.int p2)] [(.int ((((p2 - z).toUInt32 >>> ((31 : Int32) &&& 31).toUInt32).toInt32).toInt8.toInt32))]))
  exact own_retN X0 hx (t := .byte) hrt (by simp) (hb hby d7_8) hlk rfl (by rw [e0]; exact ⟨rfl, N0, rfl⟩) (by decide) (by decide)
theorem d3_0 : decode jdk_42_method_149_code 0 = .ok (.aload_n 0, 1) := by decide +kernel
theorem d3_1 : decode jdk_42_method_149_code 1 = .ok (.invokespecial 1, 3) := by decide +kernel
theorem d3_4 : decode jdk_42_method_149_code 4 = .ok (.iload_n 3, 1) := by decide +kernel
theorem d3_5 : decode jdk_42_method_149_code 5 = .ok (.ifCond .ne 22, 3) := by decide +kernel
theorem d3_8 : decode jdk_42_method_149_code 8 = .ok (.aload_n 0, 1) := by decide +kernel
theorem d3_9 : decode jdk_42_method_149_code 9 = .ok (.ldc 7, 2) := by decide +kernel
theorem d3_11 : decode jdk_42_method_149_code 11 = .ok (.getfield 9, 3) := by decide +kernel
theorem d3_14 : decode jdk_42_method_149_code 14 = .ok (.putfield 9, 3) := by decide +kernel
theorem d3_17 : decode jdk_42_method_149_code 17 = .ok (.aload_n 0, 1) := by decide +kernel
theorem d3_18 : decode jdk_42_method_149_code 18 = .ok (.ldc 7, 2) := by decide +kernel
theorem d3_20 : decode jdk_42_method_149_code 20 = .ok (.getfield 15, 3) := by decide +kernel
theorem d3_23 : decode jdk_42_method_149_code 23 = .ok (.putfield 15, 3) := by decide +kernel
theorem d3_26 : decode jdk_42_method_149_code 26 = .ok (.return_, 1) := by decide +kernel
theorem d3_27 : decode jdk_42_method_149_code 27 = .ok (.getstatic 38, 3) := by decide +kernel
theorem d3_30 : decode jdk_42_method_149_code 30 = .ok (.ifCond .eq 28, 3) := by decide +kernel
theorem d3_33 : decode jdk_42_method_149_code 33 = .ok (.aload_n 1, 1) := by decide +kernel
theorem d3_34 : decode jdk_42_method_149_code 34 = .ok (.iload_n 2, 1) := by decide +kernel
theorem d3_35 : decode jdk_42_method_149_code 35 = .ok (.iload_n 3, 1) := by decide +kernel
theorem d3_36 : decode jdk_42_method_149_code 36 = .ok (.invokestatic 177, 3) := by decide +kernel
theorem d3_39 : decode jdk_42_method_149_code 39 = .ok (.astore 5, 2) := by decide +kernel
theorem d3_41 : decode jdk_42_method_149_code 41 = .ok (.aload_n 0, 1) := by decide +kernel
theorem d3_42 : decode jdk_42_method_149_code 42 = .ok (.aload 5, 2) := by decide +kernel
theorem d3_44 : decode jdk_42_method_149_code 44 = .ok (.iload_n 3, 1) := by decide +kernel
theorem d3_45 : decode jdk_42_method_149_code 45 = .ok (.invokestatic 47, 3) := by decide +kernel
theorem d3_48 : decode jdk_42_method_149_code 48 = .ok (.putfield 15, 3) := by decide +kernel
theorem d3_51 : decode jdk_42_method_149_code 51 = .ok (.aload_n 0, 1) := by decide +kernel
theorem d3_52 : decode jdk_42_method_149_code 52 = .ok (.aload 5, 2) := by decide +kernel
theorem d3_54 : decode jdk_42_method_149_code 54 = .ok (.putfield 9, 3) := by decide +kernel
theorem d3_57 : decode jdk_42_method_149_code 57 = .ok (.return_, 1) := by decide +kernel
theorem d3_58 : decode jdk_42_method_149_code 58 = .ok (.aload_n 0, 1) := by decide +kernel
theorem d3_59 : decode jdk_42_method_149_code 59 = .ok (.iconst 1, 1) := by decide +kernel
theorem d3_60 : decode jdk_42_method_149_code 60 = .ok (.putfield 15, 3) := by decide +kernel
theorem d3_63 : decode jdk_42_method_149_code 63 = .ok (.aload_n 0, 1) := by decide +kernel
theorem d3_64 : decode jdk_42_method_149_code 64 = .ok (.aload_n 1, 1) := by decide +kernel
theorem d3_65 : decode jdk_42_method_149_code 65 = .ok (.iload_n 2, 1) := by decide +kernel
theorem d3_66 : decode jdk_42_method_149_code 66 = .ok (.iload_n 3, 1) := by decide +kernel
theorem d3_67 : decode jdk_42_method_149_code 67 = .ok (.invokestatic 180, 3) := by decide +kernel
theorem d3_70 : decode jdk_42_method_149_code 70 = .ok (.putfield 9, 3) := by decide +kernel
theorem d3_73 : decode jdk_42_method_149_code 73 = .ok (.return_, 1) := by decide +kernel
theorem pn_1 : plainName "java/lang/String" = true := by first | (simp [plainName, overriddenIn]; done) | decide +kernel
theorem ef_3 (m : MethodId) (x0 : Addr) (x1 : Addr) (x2 : Int32) (x3 : Int32) : entryFrame m #[(.ref x0), (.ref x1), (.int x2), (.int x3), .null] 6 = mkF m 0 #[.val (.ref x0), .val (.ref x1), .val (.int x2), .val (.int x3), .val .null, .unset] [] := by first | (simp [entryFrame, mkF, argsToLocals, Value.category]; done) | rfl
def Q3 (a1 : Addr) (a2 : Addr) (vc : Int32) (vf : Value) (ka1 : ClassId) (cs : List Int32) (h0 : Heap) (n0 : Nat) (Z : State) (v : Option Value) (h : Heap) (L : List Loc) : Prop := ∃ b k kc, v = none ∧ Fr n0 L ∧ Keep h0 h [a1] ∧ n0 ≤ b ∧ h0.size ≤ b ∧ own_KC kc cs ∧ Fld Z h a1 "java/lang/String" "value" "[B" (.ref b) ∧ Fld Z h a1 "java/lang/String" "coder" "B" (.int kc) ∧ Arv Z h b k .byte (own_zz kc cs.length) (own_vs kc cs) (.int (0 : Int32))
set_option maxRecDepth 65536 in
set_option maxHeartbeats 40000000 in
theorem rm3 (l : Launch) (Z : State) (a0 : Array Value) (hw : ∀ d ∈ tables_1, d.before a0 Z = true) (ws : List Jvm.Cond) (a1 : Addr) (a2 : Addr) (vc : Int32) (vf : Value) (ka1 : ClassId) (cs : List Int32) (h0 : Heap) (n0 : Nat) (Z0 : n0 ≤ h0.size) (O0 : Old Z n0 h0) (ST : own_St Z vc vf) (hN : cs.length ≤ 5) (hC : own_Ch cs) (hone : 1 ≤ cs.length) (V2 : Arv Z h0 a2 ka1 .char (Int32.ofNat cs.length) (cs.map Value.int) (.int (0 : Int32))) (E1 : Exa Z h0 a1 "java/lang/String") (F1 : Fld Z h0 a1 "java/lang/String" "value" "[B" .null) (F2 : Fld Z h0 a1 "java/lang/String" "coder" "B" (.int (0 : Int32))) (ne12 : a1 ≠ a2) (g1 : n0 ≤ a1) :
    MetFree l (⟨"java/lang/String", "<init>", "([CIILjava/lang/Void;)V"⟩ : MethodName) (head1 (Jvm.Cond.code (⟨"java/lang/String", "<init>", "([CIILjava/lang/Void;)V"⟩ : MethodName) jdk_42_method_149_code 6 none :: ws) ({ frames := 4, cells := 2, slots := 15, locals := 60 } : Room)) (fun a U => a = #[(.ref a1), (.ref a2), (.int (0 : Int32)), (.int (Int32.ofNat cs.length)), .null] ∧ Z.Warmed39 U.vm ∧ U.heap = h0) (fun _ _ _ _ _ => True) (fun _ U o U' => ∃ v L, o = .returned v ∧ Q3 a1 a2 vc vf ka1 cs h0 n0 Z v U'.heap L ∧ FrameEnd U o U' L ({ frames := 4, cells := 2, slots := 15, locals := 60 } : Room).cells ({ frames := 4, cells := 2, slots := 15, locals := 60 } : Room).slots) := by
  refine MetFree.of_bodySF (plainFor_of_name pn_1) hisR ?_
  intro p e s m args below meth c s₁ Bd hml0 hP hK
  obtain ⟨rfl, hZ, hh⟩ := hP
  have hx := Bd.exec
  have hby := Bd.bytes
  have hml : c.maxLocals = 6 := hml0
  have hown : s.vm.findClass "java/lang/String" = some m.cls := findClass_of_methodNamed Bd.named
  have hnm := (name_of_methodNamed Bd.named Bd.method).1
  have hlk := Bd.notSynchronized
  have hrt := Bd.returns
  have X0 : Stand p l e ({ frames := 4, cells := 2, slots := 15, locals := 60 } : Room) s m #[(.ref a1), (.ref a2), (.int (0 : Int32)), (.int (Int32.ofNat cs.length)), .null] below meth c s₁ [] 0 0 := Stand.of_body Bd
  have e0 : s₁.heap = h0 := by rw [← hh, Bd.state]; rfl
  have N0 := Fr.nil n0
  show own_Ends p e below s (Q3 a1 a2 vc vf ka1 cs h0 n0 Z) ({ frames := 4, cells := 2, slots := 15, locals := 60 } : Room).cells ({ frames := 4, cells := 2, slots := 15, locals := 60 } : Room).slots (s₁.setTop (entryFrame m #[(.ref a1), (.ref a2), (.int (0 : Int32)), (.int (Int32.ofNat cs.length)), .null] 6))
  rw [ef_3]
  have K0 : Keep h0 h0 [a1] := Keep.refl h0 [a1]
  obtain ⟨HVC, SCS, SAD, SHI, SLO, SIO, HVF⟩ := id ST
  refine own_go (fun _ k => XS.aloadN X0.here hx rfl (hb hby d3_0) rfl rfl <| k) ?_
  show own_Ends p e below s _ _ _ (s₁.setTop (mkF m 1 #[.val (.ref a1), .val (.ref a2), .val (.int (0 : Int32)), .val (.int (Int32.ofNat cs.length)), .val .null, .unset] [(.ref a1)]))
  obtain ⟨T1, X1, e1, st1⟩ := initO X0 hx hZ hown (hw _ (List.mem_of_getElem? (i := 16) rfl)) (hw _ (List.mem_of_getElem? (i := 17) rfl)) (hw _ (List.mem_of_getElem? (i := 18) rfl)) e0 (g := (mkF m 1 #[.val (.ref a1), .val (.ref a2), .val (.int (0 : Int32)), .val (.int (Int32.ofNat cs.length)), .val .null, .unset] [(.ref a1)])) rfl (by rw [hml]; rfl) rfl (hb hby d3_1) (by decide) (W := 0) (by show 2 * 0 + _ ≤ _; exact Nat.le_of_eq rfl) (by decide)
  refine own_go st1 ?_
  show own_Ends p e below s _ _ _ (T1.setTop (mkF m 4 #[.val (.ref a1), .val (.ref a2), .val (.int (0 : Int32)), .val (.int (Int32.ofNat cs.length)), .val .null, .unset] []))
  refine own_go (fun _ k => XS.iloadN X1.here hx rfl (hb hby d3_4) rfl <| XS.ifYes X1.here hx rfl (pc0 := 5) (pc' := 27) rfl (hb hby d3_5) rfl ((if0 _ _).trans (feq (fun q => absurd (congrArg Int32.toNatClampNeg q) (by rw [own_clamp (by omega)]; show ¬ cs.length = 0; omega))).2) (by decide) (by decide) <| k) ?_
  show own_Ends p e below s _ _ _ (T1.setTop (mkF m 27 #[.val (.ref a1), .val (.ref a2), .val (.int (0 : Int32)), .val (.int (Int32.ofNat cs.length)), .val .null, .unset] []))
  obtain ⟨T2, X2, e2, st2⟩ := getS2 X1 hx hZ hown (host := "") (Or.inl (hw _ (List.mem_of_getElem? (i := 19) rfl))) Via.refl e1 (SCS.ext O0.2) (g := (mkF m 27 #[.val (.ref a1), .val (.ref a2), .val (.int (0 : Int32)), .val (.int (Int32.ofNat cs.length)), .val .null, .unset] [])) rfl (hb hby d3_27)
  refine own_go st2 ?_
  show own_Ends p e below s _ _ _ (T2.setTop (mkF m 30 #[.val (.ref a1), .val (.ref a2), .val (.int (0 : Int32)), .val (.int (Int32.ofNat cs.length)), .val .null, .unset] [(.int vc)]))
  refine own_go (fun _ k => XS.ifNo X2.here hx rfl (hb hby d3_30) rfl ((if0 _ _).trans (feq HVC).1) <| XS.aloadN X2.here hx rfl (hb hby d3_33) rfl rfl <| XS.iloadN X2.here hx rfl (hb hby d3_34) rfl <| XS.iloadN X2.here hx rfl (hb hby d3_35) rfl <| k) ?_
  show own_Ends p e below s _ _ _ (T2.setTop (mkF m 36 #[.val (.ref a1), .val (.ref a2), .val (.int (0 : Int32)), .val (.int (Int32.ofNat cs.length)), .val .null, .unset] [(.int (Int32.ofNat cs.length)), (.int (0 : Int32)), (.ref a2)]))
  obtain ⟨_, _, ⟨T3, L3, k3, n3⟩, -, X3, ⟨Lc3, hQ3, l3, y3, z3⟩, st3⟩ := Jvm.LawKit.callS X2 hx (y := (⟨"java/lang/StringUTF16", "compress", "([CII)[B"⟩ : MethodName)) hown (mvT hZ (hw _ (List.mem_of_getElem? (i := 20) rfl))) (mvT hZ (hw _ (List.mem_of_getElem? (i := 21) rfl))) (mvT hZ (hw _ (List.mem_of_getElem? (i := 22) rfl))) (mvT hZ (hw _ (List.mem_of_getElem? (i := 23) rfl))) (by decide) (backOf (W := 0) (rm5 l Z a0 hw [] a2 vc vf ka1 cs h0 n0 Z0 O0 ST hN hC V2) hZ (hw _ (List.mem_of_getElem? (i := 23) rfl)) (hw _ (List.mem_of_getElem? (i := 22) rfl)) (by decide) (by decide)) (g := (mkF m 36 #[.val (.ref a1), .val (.ref a2), .val (.int (0 : Int32)), .val (.int (Int32.ofNat cs.length)), .val .null, .unset] [(.int (Int32.ofNat cs.length)), (.int (0 : Int32)), (.ref a2)])) rfl (by rw [hml]; rfl) (argsL := [(.ref a2), (.int (0 : Int32)), (.int (Int32.ofNat cs.length))]) (rest := []) (lenOf pd_4 rfl) rfl (by show 2 * 0 + _ ≤ _; exact Nat.le_of_eq rfl) (hb hby d3_36) (fun _ _ => ⟨rfl, e2, Nat.le_of_ble_eq_true rfl, Nat.le_of_ble_eq_true rfl⟩)
  dsimp only [Pt.U, Pt.locs, Pt.cells, Pt.slots] at X3 l3 y3 z3 st3 hQ3
  subst l3 y3 z3
  obtain ⟨b3, kb3, kc, rfl, N3q, K3, g3, sz3, hkc, Vb3⟩ := hQ3
  have N3 := Fr.app N0 N3q
  refine own_go (fun _ k => st3 _ k) ?_
  have V2'3 := V2.keep K3 nin0
  have E1'3 := E1.keep K3
  have F1'3 := F1.keep K3 nin0
  have F2'3 := F2.keep K3 nin0
  have Z3 := Nat.le_trans Z0 K3.1
  have O3 := O0.keep K3 all0
  have K3' := K0.trans K3 all0
  show own_Ends p e below s _ _ _ (T3.setTop (mkF m 39 #[.val (.ref a1), .val (.ref a2), .val (.int (0 : Int32)), .val (.int (Int32.ofNat cs.length)), .val .null, .unset] [(.ref b3)]))
  have ne_a2_b3 : a2 ≠ b3 := Nat.ne_of_lt (Nat.lt_of_lt_of_le V2.lt sz3)
  have ne_a1_b3 : a1 ≠ b3 := Nat.ne_of_lt (Nat.lt_of_lt_of_le E1.lt sz3)
  have szk3 : h0.size ≤ b3 := Nat.le_trans K0.1 sz3
  refine own_go (fun _ k => XS.astore X3.here hx rfl (hb hby d3_39) rfl rfl (l' := #[.val (.ref a1), .val (.ref a2), .val (.int (0 : Int32)), .val (.int (Int32.ofNat cs.length)), .val .null, .val (.ref b3)]) rfl <| XS.aloadN X3.here hx rfl (hb hby d3_41) rfl rfl <| XS.aload X3.here hx rfl (hb hby d3_42) rfl rfl <| XS.iloadN X3.here hx rfl (hb hby d3_44) rfl <| k) ?_
  show own_Ends p e below s _ _ _ (T3.setTop (mkF m 45 #[.val (.ref a1), .val (.ref a2), .val (.int (0 : Int32)), .val (.int (Int32.ofNat cs.length)), .val .null, .val (.ref b3)] [(.int (Int32.ofNat cs.length)), (.ref b3), (.ref a1)]))
  obtain ⟨_, _, ⟨T4, L4, k4, n4⟩, -, X4, ⟨Lc4, hQ4, l4, y4, z4⟩, st4⟩ := Jvm.LawKit.callS X3 hx (y := (⟨"java/lang/StringUTF16", "coderFromArrayLen", "([BI)B"⟩ : MethodName)) hown (mvT hZ (hw _ (List.mem_of_getElem? (i := 28) rfl))) (mvT hZ (hw _ (List.mem_of_getElem? (i := 29) rfl))) (mvT hZ (hw _ (List.mem_of_getElem? (i := 22) rfl))) (mvT hZ (hw _ (List.mem_of_getElem? (i := 30) rfl))) (by decide) (backOf (W := 1) (rm7 l Z a0 hw [] b3 (Int32.ofNat cs.length) kb3 (own_zz kc cs.length) (own_vs kc cs) T3.heap n0 Z3 Vb3) hZ (hw _ (List.mem_of_getElem? (i := 30) rfl)) (hw _ (List.mem_of_getElem? (i := 22) rfl)) (by decide) (by decide)) (g := (mkF m 45 #[.val (.ref a1), .val (.ref a2), .val (.int (0 : Int32)), .val (.int (Int32.ofNat cs.length)), .val .null, .val (.ref b3)] [(.int (Int32.ofNat cs.length)), (.ref b3), (.ref a1)])) rfl (by rw [hml]; rfl) (argsL := [(.ref b3), (.int (Int32.ofNat cs.length))]) (rest := [(.ref a1)]) (lenOf pd_6 rfl) rfl (by show 2 * 0 + _ ≤ _; exact Nat.le_of_eq rfl) (hb hby d3_45) (fun _ _ => ⟨rfl, rfl, Nat.le_of_ble_eq_true rfl, Nat.le_of_ble_eq_true rfl⟩)
  dsimp only [Pt.U, Pt.locs, Pt.cells, Pt.slots] at X4 l4 y4 z4 st4 hQ4
  subst l4 y4 z4
  obtain ⟨rfl, N4q, e4⟩ := hQ4
  have N4 := Fr.app N3 N4q
  refine own_go (fun _ k => st4 _ k) ?_
  show own_Ends p e below s _ _ _ (T4.setTop (mkF m 48 #[.val (.ref a1), .val (.ref a2), .val (.int (0 : Int32)), .val (.int (Int32.ofNat cs.length)), .val .null, .val (.ref b3)] [(.int (own_cal (Int32.ofNat cs.length) (own_zz kc cs.length))), (.ref a1)]))
  obtain ⟨T5, h5, X5, e5, W5, st5⟩ := putFN X4 hx hZ hown (hw _ (List.mem_of_getElem? (i := 31) rfl)) Via.refl e4 F2'3 E1'3 (Or.inr ⟨(hw _ (List.mem_of_getElem? (i := 32) rfl)), rfl, hnm⟩) (hw _ (List.mem_of_getElem? (i := 7) rfl)) (ty := .byte) (v' := (.int (nar .byte (own_cal (Int32.ofNat cs.length) (own_zz kc cs.length))))) (by decide) rfl (fits_nar_byte _) (g := (mkF m 48 #[.val (.ref a1), .val (.ref a2), .val (.int (0 : Int32)), .val (.int (Int32.ofNat cs.length)), .val .null, .val (.ref b3)] [(.int (own_cal (Int32.ofNat cs.length) (own_zz kc cs.length))), (.ref a1)])) rfl rfl (hb hby d3_48)
  refine own_go st5 ?_
  have V2'5 := V2'3.other W5 (Ne.symm ne12)
  have E1'5 := E1'3.wr W5
  have F1'5 := F1'3.other W5 (Or.inr (slot_ne (Or.inr (hw _ (List.mem_of_getElem? (i := 34) rfl))) (Or.inr (hw _ (List.mem_of_getElem? (i := 32) rfl))) (by decide) (t := (.array .byte)) (t' := .byte) (by decide) (by decide)))
  have Vb3'5 := Vb3.other W5 (Ne.symm ne_a1_b3)
  have Z5 := Nat.le_trans Z3 (Keep.of_wr W5).1
  have O5 := O3.wr W5 g1
  have K5' := K3'.wr W5 (Or.inl (List.mem_of_getElem? (i := 0) rfl))
  have N5 := Fr.snoc X5 N4 g1
  have F2'5 := F2'3.same W5
  show own_Ends p e below s _ _ _ (T5.setTop (mkF m 51 #[.val (.ref a1), .val (.ref a2), .val (.int (0 : Int32)), .val (.int (Int32.ofNat cs.length)), .val .null, .val (.ref b3)] []))
  refine own_go (fun _ k => XS.aloadN X5.here hx rfl (hb hby d3_51) rfl rfl <| XS.aload X5.here hx rfl (hb hby d3_52) rfl rfl <| k) ?_
  show own_Ends p e below s _ _ _ (T5.setTop (mkF m 54 #[.val (.ref a1), .val (.ref a2), .val (.int (0 : Int32)), .val (.int (Int32.ofNat cs.length)), .val .null, .val (.ref b3)] [(.ref b3), (.ref a1)]))
  obtain ⟨T6, h6, X6, e6, W6, st6⟩ := putF X5 hx hZ hown (host := "") (Or.inl (hw _ (List.mem_of_getElem? (i := 33) rfl))) Via.refl e5 F1'5 E1'5 (Or.inr ⟨(hw _ (List.mem_of_getElem? (i := 34) rfl)), rfl, hnm⟩) (hw _ (List.mem_of_getElem? (i := 7) rfl)) (ty := (.array .byte)) (by decide) rfl rfl (g := (mkF m 54 #[.val (.ref a1), .val (.ref a2), .val (.int (0 : Int32)), .val (.int (Int32.ofNat cs.length)), .val .null, .val (.ref b3)] [(.ref b3), (.ref a1)])) rfl rfl (hb hby d3_54)
  refine own_go st6 ?_
  have V2'6 := V2'5.other W6 (Ne.symm ne12)
  have E1'6 := E1'5.wr W6
  have Vb3'6 := Vb3'5.other W6 (Ne.symm ne_a1_b3)
  have F2'6 := F2'5.other W6 (Or.inr (slot_ne (Or.inr (hw _ (List.mem_of_getElem? (i := 32) rfl))) (Or.inr (hw _ (List.mem_of_getElem? (i := 34) rfl))) (by decide) (t := .byte) (t' := (.array .byte)) (by decide) (by decide)))
  have Z6 := Nat.le_trans Z5 (Keep.of_wr W6).1
  have O6 := O5.wr W6 g1
  have K6' := K5'.wr W6 (Or.inl (List.mem_of_getElem? (i := 0) rfl))
  have N6 := Fr.snoc X6 N5 g1
  have F1'6 := F1'5.same W6
  show own_Ends p e below s _ _ _ (T6.setTop (mkF m 57 #[.val (.ref a1), .val (.ref a2), .val (.int (0 : Int32)), .val (.int (Int32.ofNat cs.length)), .val .null, .val (.ref b3)] []))
  exact own_ret0 X6 hx hrt (hb hby d3_57) hlk (by rw [e6]; exact ⟨_, _, _, rfl, N6, K6', g3, szk3, hkc, F1'6, (by have q := F2'6; rw [own_calk hkc hone (by omega), own_kcb hkc] at q; exact q), Vb3'6⟩) (by decide) (by decide)
theorem d2_0 : decode jdk_42_method_3_code 0 = .ok (.aload_n 0, 1) := by decide +kernel
theorem d2_1 : decode jdk_42_method_3_code 1 = .ok (.aload_n 1, 1) := by decide +kernel
theorem d2_2 : decode jdk_42_method_3_code 2 = .ok (.iconst 0, 1) := by decide +kernel
theorem d2_3 : decode jdk_42_method_3_code 3 = .ok (.aload_n 1, 1) := by decide +kernel
theorem d2_4 : decode jdk_42_method_3_code 4 = .ok (.arraylength, 1) := by decide +kernel
theorem d2_5 : decode jdk_42_method_3_code 5 = .ok (.aconst_null, 1) := by decide +kernel
theorem d2_6 : decode jdk_42_method_3_code 6 = .ok (.invokespecial 27, 3) := by decide +kernel
theorem d2_9 : decode jdk_42_method_3_code 9 = .ok (.return_, 1) := by decide +kernel
theorem ef_2 (m : MethodId) (x0 : Addr) (x1 : Addr) : entryFrame m #[(.ref x0), (.ref x1)] 2 = mkF m 0 #[.val (.ref x0), .val (.ref x1)] [] := by first | (simp [entryFrame, mkF, argsToLocals, Value.category]; done) | rfl
def Q2 (a1 : Addr) (a2 : Addr) (vc : Int32) (vf : Value) (ka1 : ClassId) (cs : List Int32) (h0 : Heap) (n0 : Nat) (Z : State) (v : Option Value) (h : Heap) (L : List Loc) : Prop := ∃ b k kc, v = none ∧ Fr n0 L ∧ Keep h0 h [a1] ∧ n0 ≤ b ∧ h0.size ≤ b ∧ own_KC kc cs ∧ Fld Z h a1 "java/lang/String" "value" "[B" (.ref b) ∧ Fld Z h a1 "java/lang/String" "coder" "B" (.int kc) ∧ Arv Z h b k .byte (own_zz kc cs.length) (own_vs kc cs) (.int (0 : Int32))
set_option maxRecDepth 65536 in
set_option maxHeartbeats 40000000 in
theorem rm2 (l : Launch) (Z : State) (a0 : Array Value) (hw : ∀ d ∈ tables_1, d.before a0 Z = true) (ws : List Jvm.Cond) (a1 : Addr) (a2 : Addr) (vc : Int32) (vf : Value) (ka1 : ClassId) (cs : List Int32) (h0 : Heap) (n0 : Nat) (Z0 : n0 ≤ h0.size) (O0 : Old Z n0 h0) (ST : own_St Z vc vf) (hN : cs.length ≤ 5) (hC : own_Ch cs) (hone : 1 ≤ cs.length) (V2 : Arv Z h0 a2 ka1 .char (Int32.ofNat cs.length) (cs.map Value.int) (.int (0 : Int32))) (E1 : Exa Z h0 a1 "java/lang/String") (F1 : Fld Z h0 a1 "java/lang/String" "value" "[B" .null) (F2 : Fld Z h0 a1 "java/lang/String" "coder" "B" (.int (0 : Int32))) (ne12 : a1 ≠ a2) (g1 : n0 ≤ a1) :
    MetFree l (⟨"java/lang/String", "<init>", "([C)V"⟩ : MethodName) (head1 (Jvm.Cond.code (⟨"java/lang/String", "<init>", "([C)V"⟩ : MethodName) jdk_42_method_3_code 2 none :: ws) ({ frames := 5, cells := 2, slots := 15, locals := 80 } : Room)) (fun a U => a = #[(.ref a1), (.ref a2)] ∧ Z.Warmed39 U.vm ∧ U.heap = h0) (fun _ _ _ _ _ => True) (fun _ U o U' => ∃ v L, o = .returned v ∧ Q2 a1 a2 vc vf ka1 cs h0 n0 Z v U'.heap L ∧ FrameEnd U o U' L ({ frames := 5, cells := 2, slots := 15, locals := 80 } : Room).cells ({ frames := 5, cells := 2, slots := 15, locals := 80 } : Room).slots) := by
  refine MetFree.of_bodySF (plainFor_of_name pn_1) hisR ?_
  intro p e s m args below meth c s₁ Bd hml0 hP hK
  obtain ⟨rfl, hZ, hh⟩ := hP
  have hx := Bd.exec
  have hby := Bd.bytes
  have hml : c.maxLocals = 2 := hml0
  have hown : s.vm.findClass "java/lang/String" = some m.cls := findClass_of_methodNamed Bd.named
  have hnm := (name_of_methodNamed Bd.named Bd.method).1
  have hlk := Bd.notSynchronized
  have hrt := Bd.returns
  have X0 : Stand p l e ({ frames := 5, cells := 2, slots := 15, locals := 80 } : Room) s m #[(.ref a1), (.ref a2)] below meth c s₁ [] 0 0 := Stand.of_body Bd
  have e0 : s₁.heap = h0 := by rw [← hh, Bd.state]; rfl
  have N0 := Fr.nil n0
  show own_Ends p e below s (Q2 a1 a2 vc vf ka1 cs h0 n0 Z) ({ frames := 5, cells := 2, slots := 15, locals := 80 } : Room).cells ({ frames := 5, cells := 2, slots := 15, locals := 80 } : Room).slots (s₁.setTop (entryFrame m #[(.ref a1), (.ref a2)] 2))
  rw [ef_2]
  have K0 : Keep h0 h0 [a1] := Keep.refl h0 [a1]
  obtain ⟨HVC, SCS, SAD, SHI, SLO, SIO, HVF⟩ := id ST
  refine own_go (fun _ k => XS.aloadN X0.here hx rfl (hb hby d2_0) rfl rfl <| XS.aloadN X0.here hx rfl (hb hby d2_1) rfl rfl <| XT.iconstV X0.here hx rfl (0 : Int32) (hb hby d2_2) rfl <| XS.aloadN X0.here hx rfl (hb hby d2_3) rfl rfl <| k) ?_
  show own_Ends p e below s _ _ _ (s₁.setTop (mkF m 4 #[.val (.ref a1), .val (.ref a2)] [(.ref a2), (.int (0 : Int32)), (.ref a2), (.ref a1)]))
  obtain ⟨cla2_4_1, Ara2_4_1, qqa2_4_1, Sza2_4_1, Nga2_4_1, Hsa2_4_1, Gfa2_4_1⟩ := id V2
  refine own_go (fun _ k => X0.arraylength hx (by first | exact Ara2_4_1.1 | (rw [e0]; exact Ara2_4_1.1)) (State.isArrayOf_alike hZ.alike Ara2_4_1.2.1) (g := (mkF m 4 #[.val (.ref a1), .val (.ref a2)] [(.ref a2), (.int (0 : Int32)), (.ref a2), (.ref a1)])) rfl rfl (hb hby d2_4) _ k) ?_
  rw [len_of Sza2_4_1 Nga2_4_1]
  show own_Ends p e below s _ _ _ (s₁.setTop (mkF m 5 #[.val (.ref a1), .val (.ref a2)] [(.int (Int32.ofNat cs.length)), (.int (0 : Int32)), (.ref a2), (.ref a1)]))
  refine own_go (fun _ k => XS.aconstNull X0.here hx rfl (hb hby d2_5) <| k) ?_
  show own_Ends p e below s _ _ _ (s₁.setTop (mkF m 6 #[.val (.ref a1), .val (.ref a2)] [.null, (.int (Int32.ofNat cs.length)), (.int (0 : Int32)), (.ref a2), (.ref a1)]))
  obtain ⟨_, _, ⟨T2, L2, k2, n2⟩, -, X2, ⟨Lc2, hQ2, l2, y2, z2⟩, st2⟩ := X0.specialBack hx (y := (⟨"java/lang/String", "<init>", "([CIILjava/lang/Void;)V"⟩ : MethodName)) rfl hown (mvT hZ (hw _ (List.mem_of_getElem? (i := 12) rfl))) (mvT hZ (hw _ (List.mem_of_getElem? (i := 13) rfl))) (mvT hZ (hw _ (List.mem_of_getElem? (i := 15) rfl))) (by decide) (backOf (W := 0) (rm3 l Z a0 hw [] a1 a2 vc vf ka1 cs h0 n0 Z0 O0 ST hN hC hone V2 E1 F1 F2 ne12 g1) hZ (hw _ (List.mem_of_getElem? (i := 15) rfl)) (hw _ (List.mem_of_getElem? (i := 8) rfl)) (by decide) (by decide)) (g := (mkF m 6 #[.val (.ref a1), .val (.ref a2)] [.null, (.int (Int32.ofNat cs.length)), (.int (0 : Int32)), (.ref a2), (.ref a1)])) rfl (by rw [hml]; rfl) (Steps.refl _) (a := a1) (argsL := [(.ref a2), (.int (0 : Int32)), (.int (Int32.ofNat cs.length)), .null]) (rest := []) (lenOf pd_2 rfl) rfl (by show 2 * 0 + _ ≤ _; exact Nat.le_of_eq rfl) (hb hby d2_6) (fun _ _ => ⟨rfl, e0, Nat.le_of_ble_eq_true rfl, Nat.le_of_ble_eq_true rfl⟩)
  dsimp only [Pt.U, Pt.locs, Pt.cells, Pt.slots] at X2 l2 y2 z2 st2 hQ2
  subst l2 y2 z2
  obtain ⟨b2, kb2, kc2, rfl, N2q, K2, g2, sz2, hkc2, Fv2, Fc2, Vb2⟩ := hQ2
  have N2 := Fr.app N0 N2q
  refine own_go (fun _ k => st2.trans k) ?_
  have V2'2 := V2.keep K2 (ninS (Ne.symm ne12) nin0)
  have E1'2 := E1.keep K2
  have Z2 := Nat.le_trans Z0 K2.1
  have O2 := O0.keep K2 (allS g1 all0)
  have K2' := K0.trans K2 (allS (Or.inl (List.mem_of_getElem? (i := 0) rfl)) all0)
  show own_Ends p e below s _ _ _ (T2.setTop (mkF m 9 #[.val (.ref a1), .val (.ref a2)] []))
  have ne_a2_b2 : a2 ≠ b2 := Nat.ne_of_lt (Nat.lt_of_lt_of_le V2.lt sz2)
  have ne_a1_b2 : a1 ≠ b2 := Nat.ne_of_lt (Nat.lt_of_lt_of_le E1.lt sz2)
  have szk2 : h0.size ≤ b2 := Nat.le_trans K0.1 sz2
  exact own_ret0 X2 hx hrt (hb hby d2_9) hlk (by exact ⟨_, _, _, rfl, N2, K2', g2, szk2, hkc2, Fv2, Fc2, Vb2⟩) (by decide) (by decide)
def own_isl (kc : Int32) : Int32 := if kc = 0 then 1 else 0
theorem own_zz_0 (n : Nat) : own_zz 0 n = Int32.ofNat n := if_pos rfl
theorem own_zz_1 (n : Nat) : own_zz 1 n = Int32.ofNat (2 * n) := if_neg (by decide)
theorem own_vs_0 (cs : List Int32) : own_vs 0 cs = cs.map own_bv := if_pos rfl
theorem own_vs_1 (cs : List Int32) : own_vs 1 cs = cs.flatMap own_lh := if_neg (by decide)
theorem own_h2 {n : Nat} (h : n < 64) : Int32.ofNat (2 * n) >>> ((1 : Int32) &&& 31) = Int32.ofNat n := (own_len1 ⟨n, h⟩).2
theorem d16_0 : decode jdk_41_method_11_code 0 = .ok (.iload_n 0, 1) := by decide +kernel
theorem d16_1 : decode jdk_41_method_11_code 1 = .ok (.ifCond .lt 8, 3) := by decide +kernel
theorem d16_4 : decode jdk_41_method_11_code 4 = .ok (.iload_n 0, 1) := by decide +kernel
theorem d16_5 : decode jdk_41_method_11_code 5 = .ok (.iload_n 1, 1) := by decide +kernel
theorem d16_6 : decode jdk_41_method_11_code 6 = .ok (.if_icmp .lt 10, 3) := by decide +kernel
theorem d16_9 : decode jdk_41_method_11_code 9 = .ok (.aload_n 2, 1) := by decide +kernel
theorem d16_10 : decode jdk_41_method_11_code 10 = .ok (.iload_n 0, 1) := by decide +kernel
theorem d16_11 : decode jdk_41_method_11_code 11 = .ok (.iload_n 1, 1) := by decide +kernel
theorem d16_12 : decode jdk_41_method_11_code 12 = .ok (.invokestatic 95, 3) := by decide +kernel
theorem d16_15 : decode jdk_41_method_11_code 15 = .ok (.athrow, 1) := by decide +kernel
theorem d16_16 : decode jdk_41_method_11_code 16 = .ok (.iload_n 0, 1) := by decide +kernel
theorem d16_17 : decode jdk_41_method_11_code 17 = .ok (.ireturn, 1) := by decide +kernel
theorem pn_2 : plainName "jdk/internal/util/Preconditions" = true := by first | (simp [plainName, overriddenIn]; done) | decide +kernel
theorem ef_PN (m : MethodId) (x0 : Int32) (x1 : Int32) : entryFrame m #[(.int x0), (.int x1), .null] 3 = mkF m 0 #[.val (.int x0), .val (.int x1), .val .null] [] := by first | (simp [entryFrame, mkF, argsToLocals, Value.category]; done) | rfl
def QPN (p1 : Int32) (p2 : Int32) (h0 : Heap) (n0 : Nat) (Z : State) (v : Option Value) (h : Heap) (L : List Loc) : Prop := v = some (.int p1) ∧ Fr n0 L ∧ h = h0
set_option maxRecDepth 65536 in
set_option maxHeartbeats 40000000 in
theorem rmPN (l : Launch) (Z : State) (a0 : Array Value) (hw : ∀ d ∈ tables_1, d.before a0 Z = true) (ws : List Jvm.Cond) (p1 : Int32) (p2 : Int32) (h0 : Heap) (n0 : Nat) (Z0 : n0 ≤ h0.size) (h1i : ¬ p1 < 0) (h2i : p1 < p2) :
    MetFree l (⟨"jdk/internal/util/Preconditions", "checkIndex", "(IILjava/util/function/BiFunction;)I"⟩ : MethodName) (head1 (Jvm.Cond.code (⟨"jdk/internal/util/Preconditions", "checkIndex", "(IILjava/util/function/BiFunction;)I"⟩ : MethodName) jdk_41_method_11_code 3 (some .int) :: ws) ({ frames := 0, cells := 0, slots := 0, locals := 0 } : Room)) (fun a U => a = #[(.int p1), (.int p2), .null] ∧ Z.Warmed39 U.vm ∧ U.heap = h0) (fun _ _ _ _ _ => True) (fun _ U o U' => ∃ v L, o = .returned v ∧ QPN p1 p2 h0 n0 Z v U'.heap L ∧ FrameEnd U o U' L ({ frames := 0, cells := 0, slots := 0, locals := 0 } : Room).cells ({ frames := 0, cells := 0, slots := 0, locals := 0 } : Room).slots) := by
  refine MetFree.of_bodySF (plainFor_of_name pn_2) hisR ?_
  intro p e s m args below meth c s₁ Bd hml0 hP hK
  obtain ⟨rfl, hZ, hh⟩ := hP
  have hx := Bd.exec
  have hby := Bd.bytes
  have hml : c.maxLocals = 3 := hml0
  have hown : s.vm.findClass "jdk/internal/util/Preconditions" = some m.cls := findClass_of_methodNamed Bd.named
  have hnm := (name_of_methodNamed Bd.named Bd.method).1
  have hlk := Bd.notSynchronized
  have hrt := Bd.returns
  have X0 : Stand p l e ({ frames := 0, cells := 0, slots := 0, locals := 0 } : Room) s m #[(.int p1), (.int p2), .null] below meth c s₁ [] 0 0 := Stand.of_body Bd
  have e0 : s₁.heap = h0 := by rw [← hh, Bd.state]; rfl
  have N0 := Fr.nil n0
  show own_Ends p e below s (QPN p1 p2 h0 n0 Z) ({ frames := 0, cells := 0, slots := 0, locals := 0 } : Room).cells ({ frames := 0, cells := 0, slots := 0, locals := 0 } : Room).slots (s₁.setTop (entryFrame m #[(.int p1), (.int p2), .null] 3))
  rw [ef_PN]
  refine own_go (fun _ k => XS.iloadN X0.here hx rfl (hb hby d16_0) rfl <| XS.ifNo X0.here hx rfl (hb hby d16_1) rfl ((if0 _ _).trans (flt h1i).1) <| XS.iloadN X0.here hx rfl (hb hby d16_4) rfl <| XS.iloadN X0.here hx rfl (hb hby d16_5) rfl <| XS.icmpYes X0.here hx rfl (pc0 := 6) (pc' := 16) rfl (hb hby d16_6) rfl (tlt h2i).1 (by decide) (by decide) <| XS.iloadN X0.here hx rfl (hb hby d16_16) rfl <| k) ?_
  show own_Ends p e below s _ _ _ (s₁.setTop (mkF m 17 #[.val (.int p1), .val (.int p2), .val .null] [(.int p1)]))
  exact own_ret X0 hx hrt rfl (Or.inl ⟨rfl, Or.inl rfl, _, rfl⟩) (hb hby d16_17) hlk (by rw [e0]; exact ⟨rfl, N0, rfl⟩) (by decide) (by decide)
theorem ef_PR (m : MethodId) (x0 : Int32) (x1 : Int32) (x2 : Addr) : entryFrame m #[(.int x0), (.int x1), (.ref x2)] 3 = mkF m 0 #[.val (.int x0), .val (.int x1), .val (.ref x2)] [] := by first | (simp [entryFrame, mkF, argsToLocals, Value.category]; done) | rfl
def QPR (p1 : Int32) (p2 : Int32) (a3 : Addr) (h0 : Heap) (n0 : Nat) (Z : State) (v : Option Value) (h : Heap) (L : List Loc) : Prop := v = some (.int p1) ∧ Fr n0 L ∧ h = h0
set_option maxRecDepth 65536 in
set_option maxHeartbeats 40000000 in
theorem rmPR (l : Launch) (Z : State) (a0 : Array Value) (hw : ∀ d ∈ tables_1, d.before a0 Z = true) (ws : List Jvm.Cond) (p1 : Int32) (p2 : Int32) (a3 : Addr) (h0 : Heap) (n0 : Nat) (Z0 : n0 ≤ h0.size) (h1i : ¬ p1 < 0) (h2i : p1 < p2) :
    MetFree l (⟨"jdk/internal/util/Preconditions", "checkIndex", "(IILjava/util/function/BiFunction;)I"⟩ : MethodName) (head1 (Jvm.Cond.code (⟨"jdk/internal/util/Preconditions", "checkIndex", "(IILjava/util/function/BiFunction;)I"⟩ : MethodName) jdk_41_method_11_code 3 (some .int) :: ws) ({ frames := 0, cells := 0, slots := 0, locals := 0 } : Room)) (fun a U => a = #[(.int p1), (.int p2), (.ref a3)] ∧ Z.Warmed39 U.vm ∧ U.heap = h0) (fun _ _ _ _ _ => True) (fun _ U o U' => ∃ v L, o = .returned v ∧ QPR p1 p2 a3 h0 n0 Z v U'.heap L ∧ FrameEnd U o U' L ({ frames := 0, cells := 0, slots := 0, locals := 0 } : Room).cells ({ frames := 0, cells := 0, slots := 0, locals := 0 } : Room).slots) := by
  refine MetFree.of_bodySF (plainFor_of_name pn_2) hisR ?_
  intro p e s m args below meth c s₁ Bd hml0 hP hK
  obtain ⟨rfl, hZ, hh⟩ := hP
  have hx := Bd.exec
  have hby := Bd.bytes
  have hml : c.maxLocals = 3 := hml0
  have hown : s.vm.findClass "jdk/internal/util/Preconditions" = some m.cls := findClass_of_methodNamed Bd.named
  have hnm := (name_of_methodNamed Bd.named Bd.method).1
  have hlk := Bd.notSynchronized
  have hrt := Bd.returns
  have X0 : Stand p l e ({ frames := 0, cells := 0, slots := 0, locals := 0 } : Room) s m #[(.int p1), (.int p2), (.ref a3)] below meth c s₁ [] 0 0 := Stand.of_body Bd
  have e0 : s₁.heap = h0 := by rw [← hh, Bd.state]; rfl
  have N0 := Fr.nil n0
  show own_Ends p e below s (QPR p1 p2 a3 h0 n0 Z) ({ frames := 0, cells := 0, slots := 0, locals := 0 } : Room).cells ({ frames := 0, cells := 0, slots := 0, locals := 0 } : Room).slots (s₁.setTop (entryFrame m #[(.int p1), (.int p2), (.ref a3)] 3))
  rw [ef_PR]
  refine own_go (fun _ k => XS.iloadN X0.here hx rfl (hb hby d16_0) rfl <| XS.ifNo X0.here hx rfl (hb hby d16_1) rfl ((if0 _ _).trans (flt h1i).1) <| XS.iloadN X0.here hx rfl (hb hby d16_4) rfl <| XS.iloadN X0.here hx rfl (hb hby d16_5) rfl <| XS.icmpYes X0.here hx rfl (pc0 := 6) (pc' := 16) rfl (hb hby d16_6) rfl (tlt h2i).1 (by decide) (by decide) <| XS.iloadN X0.here hx rfl (hb hby d16_16) rfl <| k) ?_
  show own_Ends p e below s _ _ _ (s₁.setTop (mkF m 17 #[.val (.int p1), .val (.int p2), .val (.ref a3)] [(.int p1)]))
  exact own_ret X0 hx hrt rfl (Or.inl ⟨rfl, Or.inl rfl, _, rfl⟩) (hb hby d16_17) hlk (by rw [e0]; exact ⟨rfl, N0, rfl⟩) (by decide) (by decide)
theorem d15_0 : decode jdk_42_method_155_code 0 = .ok (.iload_n 0, 1) := by decide +kernel
theorem d15_1 : decode jdk_42_method_155_code 1 = .ok (.iload_n 1, 1) := by decide +kernel
theorem d15_2 : decode jdk_42_method_155_code 2 = .ok (.getstatic 1053, 3) := by decide +kernel
theorem d15_5 : decode jdk_42_method_155_code 5 = .ok (.invokestatic 1059, 3) := by decide +kernel
theorem d15_8 : decode jdk_42_method_155_code 8 = .ok (.pop, 1) := by decide +kernel
theorem d15_9 : decode jdk_42_method_155_code 9 = .ok (.return_, 1) := by decide +kernel
theorem ef_15 (m : MethodId) (x0 : Int32) (x1 : Int32) : entryFrame m #[(.int x0), (.int x1)] 2 = mkF m 0 #[.val (.int x0), .val (.int x1)] [] := by first | (simp [entryFrame, mkF, argsToLocals, Value.category]; done) | rfl
def Q15 (p1 : Int32) (p2 : Int32) (vc : Int32) (vf : Value) (h0 : Heap) (n0 : Nat) (Z : State) (v : Option Value) (h : Heap) (L : List Loc) : Prop := v = none ∧ Fr n0 L ∧ h = h0
set_option maxRecDepth 65536 in
set_option maxHeartbeats 40000000 in
theorem rm15 (l : Launch) (Z : State) (a0 : Array Value) (hw : ∀ d ∈ tables_1, d.before a0 Z = true) (ws : List Jvm.Cond) (p1 : Int32) (p2 : Int32) (vc : Int32) (vf : Value) (h0 : Heap) (n0 : Nat) (Z0 : n0 ≤ h0.size) (O0 : Old Z n0 h0) (ST : own_St Z vc vf) (h1i : ¬ p1 < 0) (h2i : p1 < p2) :
    MetFree l (⟨"java/lang/String", "checkIndex", "(II)V"⟩ : MethodName) (head1 (Jvm.Cond.code (⟨"java/lang/String", "checkIndex", "(II)V"⟩ : MethodName) jdk_42_method_155_code 2 none :: ws) ({ frames := 1, cells := 0, slots := 0, locals := 16 } : Room)) (fun a U => a = #[(.int p1), (.int p2)] ∧ Z.Warmed39 U.vm ∧ U.heap = h0) (fun _ _ _ _ _ => True) (fun _ U o U' => ∃ v L, o = .returned v ∧ Q15 p1 p2 vc vf h0 n0 Z v U'.heap L ∧ FrameEnd U o U' L ({ frames := 1, cells := 0, slots := 0, locals := 16 } : Room).cells ({ frames := 1, cells := 0, slots := 0, locals := 16 } : Room).slots) := by
  refine MetFree.of_bodySF (plainFor_of_name pn_1) hisR ?_
  intro p e s m args below meth c s₁ Bd hml0 hP hK
  obtain ⟨rfl, hZ, hh⟩ := hP
  have hx := Bd.exec
  have hby := Bd.bytes
  have hml : c.maxLocals = 2 := hml0
  have hown : s.vm.findClass "java/lang/String" = some m.cls := findClass_of_methodNamed Bd.named
  have hnm := (name_of_methodNamed Bd.named Bd.method).1
  have hlk := Bd.notSynchronized
  have hrt := Bd.returns
  have X0 : Stand p l e ({ frames := 1, cells := 0, slots := 0, locals := 16 } : Room) s m #[(.int p1), (.int p2)] below meth c s₁ [] 0 0 := Stand.of_body Bd
  have e0 : s₁.heap = h0 := by rw [← hh, Bd.state]; rfl
  have N0 := Fr.nil n0
  show own_Ends p e below s (Q15 p1 p2 vc vf h0 n0 Z) ({ frames := 1, cells := 0, slots := 0, locals := 16 } : Room).cells ({ frames := 1, cells := 0, slots := 0, locals := 16 } : Room).slots (s₁.setTop (entryFrame m #[(.int p1), (.int p2)] 2))
  rw [ef_15]
  obtain ⟨HVC, SCS, SAD, SHI, SLO, SIO, HVF⟩ := id ST
  rcases ref_cases HVF with rfl | ⟨af, rfl⟩
  ·
    refine own_go (fun _ k => XS.iloadN X0.here hx rfl (hb hby d15_0) rfl <| XS.iloadN X0.here hx rfl (hb hby d15_1) rfl <| k) ?_
    show own_Ends p e below s _ _ _ (s₁.setTop (mkF m 2 #[.val (.int p1), .val (.int p2)] [(.int p2), (.int p1)]))
    obtain ⟨T1, X1, e1, st1⟩ := getS2 X0 hx hZ hown (host := "") (Or.inl (hw _ (List.mem_of_getElem? (i := 69) rfl))) Via.refl e0 (SIO.ext O0.2) (g := (mkF m 2 #[.val (.int p1), .val (.int p2)] [(.int p2), (.int p1)])) rfl (hb hby d15_2)
    refine own_go st1 ?_
    show own_Ends p e below s _ _ _ (T1.setTop (mkF m 5 #[.val (.int p1), .val (.int p2)] [.null, (.int p2), (.int p1)]))
    obtain ⟨_, _, ⟨T2, L2, k2, n2⟩, -, X2, ⟨Lc2, hQ2, l2, y2, z2⟩, st2⟩ := Jvm.LawKit.callS X1 hx (y := (⟨"jdk/internal/util/Preconditions", "checkIndex", "(IILjava/util/function/BiFunction;)I"⟩ : MethodName)) hown (mvT hZ (hw _ (List.mem_of_getElem? (i := 71) rfl))) (mvT hZ (hw _ (List.mem_of_getElem? (i := 72) rfl))) (mvT hZ (hw _ (List.mem_of_getElem? (i := 70) rfl))) (mvT hZ (hw _ (List.mem_of_getElem? (i := 73) rfl))) (by decide) (backOf (W := 0) (rmPN l Z a0 hw [] p1 p2 h0 n0 Z0 h1i h2i) hZ (hw _ (List.mem_of_getElem? (i := 73) rfl)) (hw _ (List.mem_of_getElem? (i := 70) rfl)) (by decide) (by decide)) (g := (mkF m 5 #[.val (.int p1), .val (.int p2)] [.null, (.int p2), (.int p1)])) rfl (by rw [hml]; rfl) (argsL := [(.int p1), (.int p2), .null]) (rest := []) (lenOf pd_15 rfl) rfl (by show 2 * 0 + _ ≤ _; exact Nat.le_of_eq rfl) (hb hby d15_5) (fun _ _ => ⟨rfl, e1, Nat.le_of_ble_eq_true rfl, Nat.le_of_ble_eq_true rfl⟩)
    dsimp only [Pt.U, Pt.locs, Pt.cells, Pt.slots] at X2 l2 y2 z2 st2 hQ2
    subst l2 y2 z2
    obtain ⟨rfl, N2q, e2⟩ := hQ2
    have N2 := Fr.app N0 N2q
    refine own_go (fun _ k => st2 _ k) ?_
    show own_Ends p e below s _ _ _ (T2.setTop (mkF m 8 #[.val (.int p1), .val (.int p2)] [(.int p1)]))
    refine own_go (fun _ k => XS.pop X2.here hx rfl (hb hby d15_8) rfl rfl <| k) ?_
    show own_Ends p e below s _ _ _ (T2.setTop (mkF m 9 #[.val (.int p1), .val (.int p2)] []))
    exact own_ret0 X2 hx hrt (hb hby d15_9) hlk (by rw [e2]; exact ⟨rfl, N2, rfl⟩) (by decide) (by decide)
  ·
    refine own_go (fun _ k => XS.iloadN X0.here hx rfl (hb hby d15_0) rfl <| XS.iloadN X0.here hx rfl (hb hby d15_1) rfl <| k) ?_
    show own_Ends p e below s _ _ _ (s₁.setTop (mkF m 2 #[.val (.int p1), .val (.int p2)] [(.int p2), (.int p1)]))
    obtain ⟨T3, X3, e3, st3⟩ := getS2 X0 hx hZ hown (host := "") (Or.inl (hw _ (List.mem_of_getElem? (i := 69) rfl))) Via.refl e0 (SIO.ext O0.2) (g := (mkF m 2 #[.val (.int p1), .val (.int p2)] [(.int p2), (.int p1)])) rfl (hb hby d15_2)
    refine own_go st3 ?_
    show own_Ends p e below s _ _ _ (T3.setTop (mkF m 5 #[.val (.int p1), .val (.int p2)] [(.ref af), (.int p2), (.int p1)]))
    obtain ⟨_, _, ⟨T4, L4, k4, n4⟩, -, X4, ⟨Lc4, hQ4, l4, y4, z4⟩, st4⟩ := Jvm.LawKit.callS X3 hx (y := (⟨"jdk/internal/util/Preconditions", "checkIndex", "(IILjava/util/function/BiFunction;)I"⟩ : MethodName)) hown (mvT hZ (hw _ (List.mem_of_getElem? (i := 71) rfl))) (mvT hZ (hw _ (List.mem_of_getElem? (i := 72) rfl))) (mvT hZ (hw _ (List.mem_of_getElem? (i := 70) rfl))) (mvT hZ (hw _ (List.mem_of_getElem? (i := 73) rfl))) (by decide) (backOf (W := 0) (rmPR l Z a0 hw [] p1 p2 af h0 n0 Z0 h1i h2i) hZ (hw _ (List.mem_of_getElem? (i := 73) rfl)) (hw _ (List.mem_of_getElem? (i := 70) rfl)) (by decide) (by decide)) (g := (mkF m 5 #[.val (.int p1), .val (.int p2)] [(.ref af), (.int p2), (.int p1)])) rfl (by rw [hml]; rfl) (argsL := [(.int p1), (.int p2), (.ref af)]) (rest := []) (lenOf pd_15 rfl) rfl (by show 2 * 0 + _ ≤ _; exact Nat.le_of_eq rfl) (hb hby d15_5) (fun _ _ => ⟨rfl, e3, Nat.le_of_ble_eq_true rfl, Nat.le_of_ble_eq_true rfl⟩)
    dsimp only [Pt.U, Pt.locs, Pt.cells, Pt.slots] at X4 l4 y4 z4 st4 hQ4
    subst l4 y4 z4
    obtain ⟨rfl, N4q, e4⟩ := hQ4
    have N4 := Fr.app N0 N4q
    refine own_go (fun _ k => st4 _ k) ?_
    show own_Ends p e below s _ _ _ (T4.setTop (mkF m 8 #[.val (.int p1), .val (.int p2)] [(.int p1)]))
    refine own_go (fun _ k => XS.pop X4.here hx rfl (hb hby d15_8) rfl rfl <| k) ?_
    show own_Ends p e below s _ _ _ (T4.setTop (mkF m 9 #[.val (.int p1), .val (.int p2)] []))
    exact own_ret0 X4 hx hrt (hb hby d15_9) hlk (by rw [e4]; exact ⟨rfl, N4, rfl⟩) (by decide) (by decide)
theorem d24_0 : decode jdk_52_method_6_code 0 = .ok (.aload_n 0, 1) := by decide +kernel
theorem d24_1 : decode jdk_52_method_6_code 1 = .ok (.arraylength, 1) := by decide +kernel
theorem d24_2 : decode jdk_52_method_6_code 2 = .ok (.iconst 1, 1) := by decide +kernel
theorem d24_3 : decode jdk_52_method_6_code 3 = .ok (.ishr, 1) := by decide +kernel
theorem d24_4 : decode jdk_52_method_6_code 4 = .ok (.ireturn, 1) := by decide +kernel
theorem ef_24 (m : MethodId) (x0 : Addr) : entryFrame m #[(.ref x0)] 1 = mkF m 0 #[.val (.ref x0)] [] := by first | (simp [entryFrame, mkF, argsToLocals, Value.category]; done) | rfl
def Q24 (a1 : Addr) (ka1 : ClassId) (z : Int32) (vs : List Value) (h0 : Heap) (n0 : Nat) (Z : State) (v : Option Value) (h : Heap) (L : List Loc) : Prop := v = some (.int (z >>> ((1 : Int32) &&& 31))) ∧ Fr n0 L ∧ h = h0
set_option maxRecDepth 65536 in
set_option maxHeartbeats 40000000 in
theorem rm24 (l : Launch) (Z : State) (a0 : Array Value) (hw : ∀ d ∈ tables_1, d.before a0 Z = true) (ws : List Jvm.Cond) (a1 : Addr) (ka1 : ClassId) (z : Int32) (vs : List Value) (h0 : Heap) (n0 : Nat) (Z0 : n0 ≤ h0.size) (V1 : Arv Z h0 a1 ka1 .byte z vs (.int (0 : Int32))) :
    MetFree l (⟨"java/lang/StringUTF16", "length", "([B)I"⟩ : MethodName) (head1 (Jvm.Cond.code (⟨"java/lang/StringUTF16", "length", "([B)I"⟩ : MethodName) jdk_52_method_6_code 1 (some .int) :: ws) ({ frames := 0, cells := 0, slots := 0, locals := 0 } : Room)) (fun a U => a = #[(.ref a1)] ∧ Z.Warmed39 U.vm ∧ U.heap = h0) (fun _ _ _ _ _ => True) (fun _ U o U' => ∃ v L, o = .returned v ∧ Q24 a1 ka1 z vs h0 n0 Z v U'.heap L ∧ FrameEnd U o U' L ({ frames := 0, cells := 0, slots := 0, locals := 0 } : Room).cells ({ frames := 0, cells := 0, slots := 0, locals := 0 } : Room).slots) := by
  refine MetFree.of_bodySF (plainFor_of_name pn_0) hisR ?_
  intro p e s m args below meth c s₁ Bd hml0 hP hK
  obtain ⟨rfl, hZ, hh⟩ := hP
  have hx := Bd.exec
  have hby := Bd.bytes
  have hml : c.maxLocals = 1 := hml0
  have hown : s.vm.findClass "java/lang/StringUTF16" = some m.cls := findClass_of_methodNamed Bd.named
  have hnm := (name_of_methodNamed Bd.named Bd.method).1
  have hlk := Bd.notSynchronized
  have hrt := Bd.returns
  have X0 : Stand p l e ({ frames := 0, cells := 0, slots := 0, locals := 0 } : Room) s m #[(.ref a1)] below meth c s₁ [] 0 0 := Stand.of_body Bd
  have e0 : s₁.heap = h0 := by rw [← hh, Bd.state]; rfl
  have N0 := Fr.nil n0
  show own_Ends p e below s (Q24 a1 ka1 z vs h0 n0 Z) ({ frames := 0, cells := 0, slots := 0, locals := 0 } : Room).cells ({ frames := 0, cells := 0, slots := 0, locals := 0 } : Room).slots (s₁.setTop (entryFrame m #[(.ref a1)] 1))
  rw [ef_24]
  refine own_go (fun _ k => XS.aloadN X0.here hx rfl (hb hby d24_0) rfl rfl <| k) ?_
  show own_Ends p e below s _ _ _ (s₁.setTop (mkF m 1 #[.val (.ref a1)] [(.ref a1)]))
  obtain ⟨cla1_1_1, Ara1_1_1, qqa1_1_1, Sza1_1_1, Nga1_1_1, Hsa1_1_1, Gfa1_1_1⟩ := id V1
  refine own_go (fun _ k => X0.arraylength hx (by first | exact Ara1_1_1.1 | (rw [e0]; exact Ara1_1_1.1)) (State.isArrayOf_alike hZ.alike Ara1_1_1.2.1) (g := (mkF m 1 #[.val (.ref a1)] [(.ref a1)])) rfl rfl (hb hby d24_1) _ k) ?_
  rw [len_of Sza1_1_1 Nga1_1_1]
  show own_Ends p e below s _ _ _ (s₁.setTop (mkF m 2 #[.val (.ref a1)] [(.int z)]))
  refine own_go (fun _ k => XT.iconstV X0.here hx rfl (1 : Int32) (hb hby d24_2) rfl <| XS.ishr X0.here hx rfl (hb hby d24_3) rfl <| k) ?_
  show own_Ends p e below s _ _ _ (s₁.setTop (mkF m 4 #[.val (.ref a1)] [(.int (z >>> ((1 : Int32) &&& 31)))]))
  exact own_ret X0 hx hrt rfl (Or.inl ⟨rfl, Or.inl rfl, _, rfl⟩) (hb hby d24_4) hlk (by rw [e0]; exact ⟨rfl, N0, rfl⟩) (by decide) (by decide)
theorem d23_0 : decode jdk_52_method_91_code 0 = .ok (.iload_n 0, 1) := by decide +kernel
theorem d23_1 : decode jdk_52_method_91_code 1 = .ok (.aload_n 1, 1) := by decide +kernel
theorem d23_2 : decode jdk_52_method_91_code 2 = .ok (.invokestatic 48, 3) := by decide +kernel
theorem d23_5 : decode jdk_52_method_91_code 5 = .ok (.invokestatic 414, 3) := by decide +kernel
theorem d23_8 : decode jdk_52_method_91_code 8 = .ok (.return_, 1) := by decide +kernel
theorem ef_23 (m : MethodId) (x0 : Int32) (x1 : Addr) : entryFrame m #[(.int x0), (.ref x1)] 2 = mkF m 0 #[.val (.int x0), .val (.ref x1)] [] := by first | (simp [entryFrame, mkF, argsToLocals, Value.category]; done) | rfl
def Q23 (a2 : Addr) (vc : Int32) (vf : Value) (ka1 : ClassId) (cs : List Int32) (i : Nat) (h0 : Heap) (n0 : Nat) (Z : State) (v : Option Value) (h : Heap) (L : List Loc) : Prop := v = none ∧ Fr n0 L ∧ h = h0
set_option maxRecDepth 65536 in
set_option maxHeartbeats 40000000 in
theorem rm23 (l : Launch) (Z : State) (a0 : Array Value) (hw : ∀ d ∈ tables_1, d.before a0 Z = true) (ws : List Jvm.Cond) (a2 : Addr) (vc : Int32) (vf : Value) (ka1 : ClassId) (cs : List Int32) (i : Nat) (h0 : Heap) (n0 : Nat) (Z0 : n0 ≤ h0.size) (O0 : Old Z n0 h0) (ST : own_St Z vc vf) (hN : cs.length ≤ 5) (hi : i < cs.length) (V1 : Arv Z h0 a2 ka1 .byte (Int32.ofNat (2 * cs.length)) (cs.flatMap own_lh) (.int (0 : Int32))) :
    MetFree l (⟨"java/lang/StringUTF16", "checkIndex", "(I[B)V"⟩ : MethodName) (head1 (Jvm.Cond.code (⟨"java/lang/StringUTF16", "checkIndex", "(I[B)V"⟩ : MethodName) jdk_52_method_91_code 2 none :: ws) ({ frames := 2, cells := 0, slots := 0, locals := 32 } : Room)) (fun a U => a = #[(.int (Int32.ofNat i)), (.ref a2)] ∧ Z.Warmed39 U.vm ∧ U.heap = h0) (fun _ _ _ _ _ => True) (fun _ U o U' => ∃ v L, o = .returned v ∧ Q23 a2 vc vf ka1 cs i h0 n0 Z v U'.heap L ∧ FrameEnd U o U' L ({ frames := 2, cells := 0, slots := 0, locals := 32 } : Room).cells ({ frames := 2, cells := 0, slots := 0, locals := 32 } : Room).slots) := by
  refine MetFree.of_bodySF (plainFor_of_name pn_0) hisR ?_
  intro p e s m args below meth c s₁ Bd hml0 hP hK
  obtain ⟨rfl, hZ, hh⟩ := hP
  have hx := Bd.exec
  have hby := Bd.bytes
  have hml : c.maxLocals = 2 := hml0
  have hown : s.vm.findClass "java/lang/StringUTF16" = some m.cls := findClass_of_methodNamed Bd.named
  have hnm := (name_of_methodNamed Bd.named Bd.method).1
  have hlk := Bd.notSynchronized
  have hrt := Bd.returns
  have X0 : Stand p l e ({ frames := 2, cells := 0, slots := 0, locals := 32 } : Room) s m #[(.int (Int32.ofNat i)), (.ref a2)] below meth c s₁ [] 0 0 := Stand.of_body Bd
  have e0 : s₁.heap = h0 := by rw [← hh, Bd.state]; rfl
  have N0 := Fr.nil n0
  show own_Ends p e below s (Q23 a2 vc vf ka1 cs i h0 n0 Z) ({ frames := 2, cells := 0, slots := 0, locals := 32 } : Room).cells ({ frames := 2, cells := 0, slots := 0, locals := 32 } : Room).slots (s₁.setTop (entryFrame m #[(.int (Int32.ofNat i)), (.ref a2)] 2))
  rw [ef_23]
  obtain ⟨HVC, SCS, SAD, SHI, SLO, SIO, HVF⟩ := id ST
  refine own_go (fun _ k => XS.iloadN X0.here hx rfl (hb hby d23_0) rfl <| XS.aloadN X0.here hx rfl (hb hby d23_1) rfl rfl <| k) ?_
  show own_Ends p e below s _ _ _ (s₁.setTop (mkF m 2 #[.val (.int (Int32.ofNat i)), .val (.ref a2)] [(.ref a2), (.int (Int32.ofNat i))]))
  obtain ⟨_, _, ⟨T1, L1, k1, n1⟩, -, X1, ⟨Lc1, hQ1, l1, y1, z1⟩, st1⟩ := Jvm.LawKit.callS X0 hx (y := (⟨"java/lang/StringUTF16", "length", "([B)I"⟩ : MethodName)) hown (mvT hZ (hw _ (List.mem_of_getElem? (i := 100) rfl))) (mvT hZ (hw _ (List.mem_of_getElem? (i := 101) rfl))) (mvT hZ (hw _ (List.mem_of_getElem? (i := 22) rfl))) (mvT hZ (hw _ (List.mem_of_getElem? (i := 102) rfl))) (by decide) (backOf (W := 1) (rm24 l Z a0 hw [] a2 ka1 (Int32.ofNat (2 * cs.length)) (cs.flatMap own_lh) h0 n0 Z0 V1) hZ (hw _ (List.mem_of_getElem? (i := 102) rfl)) (hw _ (List.mem_of_getElem? (i := 22) rfl)) (by decide) (by decide)) (g := (mkF m 2 #[.val (.int (Int32.ofNat i)), .val (.ref a2)] [(.ref a2), (.int (Int32.ofNat i))])) rfl (by rw [hml]; rfl) (argsL := [(.ref a2)]) (rest := [(.int (Int32.ofNat i))]) (lenOf pd_20 rfl) rfl (by show 2 * 0 + _ ≤ _; exact Nat.le_of_eq rfl) (hb hby d23_2) (fun _ _ => ⟨rfl, e0, Nat.le_of_ble_eq_true rfl, Nat.le_of_ble_eq_true rfl⟩)
  dsimp only [Pt.U, Pt.locs, Pt.cells, Pt.slots] at X1 l1 y1 z1 st1 hQ1
  subst l1 y1 z1
  obtain ⟨rfl, N1q, e1⟩ := hQ1
  have N1 := Fr.app N0 N1q
  refine own_go (fun _ k => st1 _ k) ?_
  show own_Ends p e below s _ _ _ (T1.setTop (mkF m 5 #[.val (.int (Int32.ofNat i)), .val (.ref a2)] [(.int ((Int32.ofNat (2 * cs.length)) >>> ((1 : Int32) &&& 31))), (.int (Int32.ofNat i))]))
  rw [own_h2 (by omega)]
  show own_Ends p e below s _ _ _ (T1.setTop (mkF m 5 #[.val (.int (Int32.ofNat i)), .val (.ref a2)] [(.int (Int32.ofNat cs.length)), (.int (Int32.ofNat i))]))
  obtain ⟨_, _, ⟨T2, L2, k2, n2⟩, -, X2, ⟨Lc2, hQ2, l2, y2, z2⟩, st2⟩ := Jvm.LawKit.callS X1 hx (y := (⟨"java/lang/String", "checkIndex", "(II)V"⟩ : MethodName)) hown (mvT hZ (hw _ (List.mem_of_getElem? (i := 103) rfl))) (mvT hZ (hw _ (List.mem_of_getElem? (i := 67) rfl))) (mvT hZ (hw _ (List.mem_of_getElem? (i := 8) rfl))) (mvT hZ (hw _ (List.mem_of_getElem? (i := 68) rfl))) (by decide) (backOf (W := 0) (rm15 l Z a0 hw [] (Int32.ofNat i) (Int32.ofNat cs.length) vc vf h0 n0 Z0 O0 ST (own_nneg (by omega)) ((own_ofNat_lt (by omega) (by omega)).mpr hi)) hZ (hw _ (List.mem_of_getElem? (i := 68) rfl)) (hw _ (List.mem_of_getElem? (i := 8) rfl)) (by decide) (by decide)) (g := (mkF m 5 #[.val (.int (Int32.ofNat i)), .val (.ref a2)] [(.int (Int32.ofNat cs.length)), (.int (Int32.ofNat i))])) rfl (by rw [hml]; rfl) (argsL := [(.int (Int32.ofNat i)), (.int (Int32.ofNat cs.length))]) (rest := []) (lenOf pd_14 rfl) rfl (by show 2 * 0 + _ ≤ _; exact Nat.le_of_eq rfl) (hb hby d23_5) (fun _ _ => ⟨rfl, e1, Nat.le_of_ble_eq_true rfl, Nat.le_of_ble_eq_true rfl⟩)
  dsimp only [Pt.U, Pt.locs, Pt.cells, Pt.slots] at X2 l2 y2 z2 st2 hQ2
  subst l2 y2 z2
  obtain ⟨rfl, N2q, e2⟩ := hQ2
  have N2 := Fr.app N1 N2q
  refine own_go (fun _ k => st2 _ k) ?_
  show own_Ends p e below s _ _ _ (T2.setTop (mkF m 8 #[.val (.int (Int32.ofNat i)), .val (.ref a2)] []))
  exact own_ret0 X2 hx hrt (hb hby d23_8) hlk (by rw [e2]; exact ⟨rfl, N2, rfl⟩) (by decide) (by decide)
theorem d22_0 : decode jdk_52_method_83_code 0 = .ok (.iload_n 1, 1) := by decide +kernel
theorem d22_1 : decode jdk_52_method_83_code 1 = .ok (.aload_n 0, 1) := by decide +kernel
theorem d22_2 : decode jdk_52_method_83_code 2 = .ok (.invokestatic 67, 3) := by decide +kernel
theorem d22_5 : decode jdk_52_method_83_code 5 = .ok (.aload_n 0, 1) := by decide +kernel
theorem d22_6 : decode jdk_52_method_83_code 6 = .ok (.iload_n 1, 1) := by decide +kernel
theorem d22_7 : decode jdk_52_method_83_code 7 = .ok (.invokestatic 71, 3) := by decide +kernel
theorem d22_10 : decode jdk_52_method_83_code 10 = .ok (.ireturn, 1) := by decide +kernel
theorem ef_22 (m : MethodId) (x0 : Addr) (x1 : Int32) : entryFrame m #[(.ref x0), (.int x1)] 2 = mkF m 0 #[.val (.ref x0), .val (.int x1)] [] := by first | (simp [entryFrame, mkF, argsToLocals, Value.category]; done) | rfl
def Q22 (a1 : Addr) (vc : Int32) (vf : Value) (ka1 : ClassId) (cs : List Int32) (i : Nat) (h0 : Heap) (n0 : Nat) (Z : State) (v : Option Value) (h : Heap) (L : List Loc) : Prop := v = some (.int (cs.getD i 0)) ∧ Fr n0 L ∧ h = h0
set_option maxRecDepth 65536 in
set_option maxHeartbeats 40000000 in
theorem rm22 (l : Launch) (Z : State) (a0 : Array Value) (hw : ∀ d ∈ tables_1, d.before a0 Z = true) (ws : List Jvm.Cond) (a1 : Addr) (vc : Int32) (vf : Value) (ka1 : ClassId) (cs : List Int32) (i : Nat) (h0 : Heap) (n0 : Nat) (Z0 : n0 ≤ h0.size) (O0 : Old Z n0 h0) (ST : own_St Z vc vf) (hN : cs.length ≤ 5) (hi : i < cs.length) (hC : own_Ch cs) (V1 : Arv Z h0 a1 ka1 .byte (Int32.ofNat (2 * cs.length)) (cs.flatMap own_lh) (.int (0 : Int32))) :
    MetFree l (⟨"java/lang/StringUTF16", "charAt", "([BI)C"⟩ : MethodName) (head1 (Jvm.Cond.code (⟨"java/lang/StringUTF16", "charAt", "([BI)C"⟩ : MethodName) jdk_52_method_83_code 2 (some .char) :: ws) ({ frames := 3, cells := 0, slots := 0, locals := 48 } : Room)) (fun a U => a = #[(.ref a1), (.int (Int32.ofNat i))] ∧ Z.Warmed39 U.vm ∧ U.heap = h0) (fun _ _ _ _ _ => True) (fun _ U o U' => ∃ v L, o = .returned v ∧ Q22 a1 vc vf ka1 cs i h0 n0 Z v U'.heap L ∧ FrameEnd U o U' L ({ frames := 3, cells := 0, slots := 0, locals := 48 } : Room).cells ({ frames := 3, cells := 0, slots := 0, locals := 48 } : Room).slots) := by
  refine MetFree.of_bodySF (plainFor_of_name pn_0) hisR ?_
  intro p e s m args below meth c s₁ Bd hml0 hP hK
  obtain ⟨rfl, hZ, hh⟩ := hP
  have hx := Bd.exec
  have hby := Bd.bytes
  have hml : c.maxLocals = 2 := hml0
  have hown : s.vm.findClass "java/lang/StringUTF16" = some m.cls := findClass_of_methodNamed Bd.named
  have hnm := (name_of_methodNamed Bd.named Bd.method).1
  have hlk := Bd.notSynchronized
  have hrt := Bd.returns
  have X0 : Stand p l e ({ frames := 3, cells := 0, slots := 0, locals := 48 } : Room) s m #[(.ref a1), (.int (Int32.ofNat i))] below meth c s₁ [] 0 0 := Stand.of_body Bd
  have e0 : s₁.heap = h0 := by rw [← hh, Bd.state]; rfl
  have N0 := Fr.nil n0
  show own_Ends p e below s (Q22 a1 vc vf ka1 cs i h0 n0 Z) ({ frames := 3, cells := 0, slots := 0, locals := 48 } : Room).cells ({ frames := 3, cells := 0, slots := 0, locals := 48 } : Room).slots (s₁.setTop (entryFrame m #[(.ref a1), (.int (Int32.ofNat i))] 2))
  rw [ef_22]
  obtain ⟨HVC, SCS, SAD, SHI, SLO, SIO, HVF⟩ := id ST
  refine own_go (fun _ k => XS.iloadN X0.here hx rfl (hb hby d22_0) rfl <| XS.aloadN X0.here hx rfl (hb hby d22_1) rfl rfl <| k) ?_
  show own_Ends p e below s _ _ _ (s₁.setTop (mkF m 2 #[.val (.ref a1), .val (.int (Int32.ofNat i))] [(.ref a1), (.int (Int32.ofNat i))]))
  obtain ⟨_, _, ⟨T1, L1, k1, n1⟩, -, X1, ⟨Lc1, hQ1, l1, y1, z1⟩, st1⟩ := Jvm.LawKit.callS X0 hx (y := (⟨"java/lang/StringUTF16", "checkIndex", "(I[B)V"⟩ : MethodName)) hown (mvT hZ (hw _ (List.mem_of_getElem? (i := 97) rfl))) (mvT hZ (hw _ (List.mem_of_getElem? (i := 98) rfl))) (mvT hZ (hw _ (List.mem_of_getElem? (i := 22) rfl))) (mvT hZ (hw _ (List.mem_of_getElem? (i := 99) rfl))) (by decide) (backOf (W := 0) (rm23 l Z a0 hw [] a1 vc vf ka1 cs i h0 n0 Z0 O0 ST hN hi V1) hZ (hw _ (List.mem_of_getElem? (i := 99) rfl)) (hw _ (List.mem_of_getElem? (i := 22) rfl)) (by decide) (by decide)) (g := (mkF m 2 #[.val (.ref a1), .val (.int (Int32.ofNat i))] [(.ref a1), (.int (Int32.ofNat i))])) rfl (by rw [hml]; rfl) (argsL := [(.int (Int32.ofNat i)), (.ref a1)]) (rest := []) (lenOf pd_19 rfl) rfl (by show 2 * 0 + _ ≤ _; exact Nat.le_of_eq rfl) (hb hby d22_2) (fun _ _ => ⟨rfl, e0, Nat.le_of_ble_eq_true rfl, Nat.le_of_ble_eq_true rfl⟩)
  dsimp only [Pt.U, Pt.locs, Pt.cells, Pt.slots] at X1 l1 y1 z1 st1 hQ1
  subst l1 y1 z1
  obtain ⟨rfl, N1q, e1⟩ := hQ1
  have N1 := Fr.app N0 N1q
  refine own_go (fun _ k => st1 _ k) ?_
  show own_Ends p e below s _ _ _ (T1.setTop (mkF m 5 #[.val (.ref a1), .val (.int (Int32.ofNat i))] []))
  refine own_go (fun _ k => XS.aloadN X1.here hx rfl (hb hby d22_5) rfl rfl <| XS.iloadN X1.here hx rfl (hb hby d22_6) rfl <| k) ?_
  show own_Ends p e below s _ _ _ (T1.setTop (mkF m 7 #[.val (.ref a1), .val (.int (Int32.ofNat i))] [(.int (Int32.ofNat i)), (.ref a1)]))
  obtain ⟨_, _, ⟨T2, L2, k2, n2⟩, -, X2, ⟨Lc2, hQ2, l2, y2, z2⟩, st2⟩ := Jvm.LawKit.callS X1 hx (y := (⟨"java/lang/StringUTF16", "getChar", "([BI)C"⟩ : MethodName)) hown (mvT hZ (hw _ (List.mem_of_getElem? (i := 91) rfl))) (mvT hZ (hw _ (List.mem_of_getElem? (i := 92) rfl))) (mvT hZ (hw _ (List.mem_of_getElem? (i := 22) rfl))) (mvT hZ (hw _ (List.mem_of_getElem? (i := 93) rfl))) (by decide) (backOf (W := 0) (rm21 l Z a0 hw [] a1 vc vf ka1 cs i h0 n0 Z0 O0 ST hN hC hi V1) hZ (hw _ (List.mem_of_getElem? (i := 93) rfl)) (hw _ (List.mem_of_getElem? (i := 22) rfl)) (by decide) (by decide)) (g := (mkF m 7 #[.val (.ref a1), .val (.int (Int32.ofNat i))] [(.int (Int32.ofNat i)), (.ref a1)])) rfl (by rw [hml]; rfl) (argsL := [(.ref a1), (.int (Int32.ofNat i))]) (rest := []) (lenOf pd_13 rfl) rfl (by show 2 * 0 + _ ≤ _; exact Nat.le_of_eq rfl) (hb hby d22_7) (fun _ _ => ⟨rfl, e1, Nat.le_of_ble_eq_true rfl, Nat.le_of_ble_eq_true rfl⟩)
  dsimp only [Pt.U, Pt.locs, Pt.cells, Pt.slots] at X2 l2 y2 z2 st2 hQ2
  subst l2 y2 z2
  obtain ⟨rfl, N2q, e2⟩ := hQ2
  have N2 := Fr.app N1 N2q
  refine own_go (fun _ k => st2 _ k) ?_
  show own_Ends p e below s _ _ _ (T2.setTop (mkF m 10 #[.val (.ref a1), .val (.int (Int32.ofNat i))] [(.int (cs.getD i 0))]))
  exact own_retN X2 hx (t := .char) hrt (by simp) (hb hby d22_10) hlk (show nar .char (cs.getD i 0) = cs.getD i 0 from hC _ (own_mem hi)) (by rw [e2]; exact ⟨rfl, N2, rfl⟩) (by decide) (by decide)
theorem d14_0 : decode jdk_43_method_2_code 0 = .ok (.iload_n 1, 1) := by decide +kernel
theorem d14_1 : decode jdk_43_method_2_code 1 = .ok (.aload_n 0, 1) := by decide +kernel
theorem d14_2 : decode jdk_43_method_2_code 2 = .ok (.arraylength, 1) := by decide +kernel
theorem d14_3 : decode jdk_43_method_2_code 3 = .ok (.invokestatic 9, 3) := by decide +kernel
theorem d14_6 : decode jdk_43_method_2_code 6 = .ok (.aload_n 0, 1) := by decide +kernel
theorem d14_7 : decode jdk_43_method_2_code 7 = .ok (.iload_n 1, 1) := by decide +kernel
theorem d14_8 : decode jdk_43_method_2_code 8 = .ok (.baload, 1) := by decide +kernel
theorem d14_9 : decode jdk_43_method_2_code 9 = .ok (.sipush 255, 3) := by decide +kernel
theorem d14_12 : decode jdk_43_method_2_code 12 = .ok (.iand, 1) := by decide +kernel
theorem d14_13 : decode jdk_43_method_2_code 13 = .ok (.i2c, 1) := by decide +kernel
theorem d14_14 : decode jdk_43_method_2_code 14 = .ok (.ireturn, 1) := by decide +kernel
theorem pn_3 : plainName "java/lang/StringLatin1" = true := by first | (simp [plainName, overriddenIn]; done) | decide +kernel
theorem ef_14 (m : MethodId) (x0 : Addr) (x1 : Int32) : entryFrame m #[(.ref x0), (.int x1)] 2 = mkF m 0 #[.val (.ref x0), .val (.int x1)] [] := by first | (simp [entryFrame, mkF, argsToLocals, Value.category]; done) | rfl
def Q14 (a1 : Addr) (vc : Int32) (vf : Value) (ka1 : ClassId) (cs : List Int32) (i : Nat) (h0 : Heap) (n0 : Nat) (Z : State) (v : Option Value) (h : Heap) (L : List Loc) : Prop := v = some (.int (cs.getD i 0)) ∧ Fr n0 L ∧ h = h0
set_option maxRecDepth 65536 in
set_option maxHeartbeats 40000000 in
theorem rm14 (l : Launch) (Z : State) (a0 : Array Value) (hw : ∀ d ∈ tables_1, d.before a0 Z = true) (ws : List Jvm.Cond) (a1 : Addr) (vc : Int32) (vf : Value) (ka1 : ClassId) (cs : List Int32) (i : Nat) (h0 : Heap) (n0 : Nat) (Z0 : n0 ≤ h0.size) (O0 : Old Z n0 h0) (ST : own_St Z vc vf) (hN : cs.length ≤ 5) (hi : i < cs.length) (hC : own_Ch cs) (hlo : ∀ c ∈ cs, ¬ (255 : Int32) < c) (V1 : Arv Z h0 a1 ka1 .byte (Int32.ofNat cs.length) (cs.map own_bv) (.int (0 : Int32))) :
    MetFree l (⟨"java/lang/StringLatin1", "charAt", "([BI)C"⟩ : MethodName) (head1 (Jvm.Cond.code (⟨"java/lang/StringLatin1", "charAt", "([BI)C"⟩ : MethodName) jdk_43_method_2_code 2 (some .char) :: ws) ({ frames := 2, cells := 0, slots := 0, locals := 32 } : Room)) (fun a U => a = #[(.ref a1), (.int (Int32.ofNat i))] ∧ Z.Warmed39 U.vm ∧ U.heap = h0) (fun _ _ _ _ _ => True) (fun _ U o U' => ∃ v L, o = .returned v ∧ Q14 a1 vc vf ka1 cs i h0 n0 Z v U'.heap L ∧ FrameEnd U o U' L ({ frames := 2, cells := 0, slots := 0, locals := 32 } : Room).cells ({ frames := 2, cells := 0, slots := 0, locals := 32 } : Room).slots) := by
  refine MetFree.of_bodySF (plainFor_of_name pn_3) hisR ?_
  intro p e s m args below meth c s₁ Bd hml0 hP hK
  obtain ⟨rfl, hZ, hh⟩ := hP
  have hx := Bd.exec
  have hby := Bd.bytes
  have hml : c.maxLocals = 2 := hml0
  have hown : s.vm.findClass "java/lang/StringLatin1" = some m.cls := findClass_of_methodNamed Bd.named
  have hnm := (name_of_methodNamed Bd.named Bd.method).1
  have hlk := Bd.notSynchronized
  have hrt := Bd.returns
  have X0 : Stand p l e ({ frames := 2, cells := 0, slots := 0, locals := 32 } : Room) s m #[(.ref a1), (.int (Int32.ofNat i))] below meth c s₁ [] 0 0 := Stand.of_body Bd
  have e0 : s₁.heap = h0 := by rw [← hh, Bd.state]; rfl
  have N0 := Fr.nil n0
  show own_Ends p e below s (Q14 a1 vc vf ka1 cs i h0 n0 Z) ({ frames := 2, cells := 0, slots := 0, locals := 32 } : Room).cells ({ frames := 2, cells := 0, slots := 0, locals := 32 } : Room).slots (s₁.setTop (entryFrame m #[(.ref a1), (.int (Int32.ofNat i))] 2))
  rw [ef_14]
  obtain ⟨HVC, SCS, SAD, SHI, SLO, SIO, HVF⟩ := id ST
  refine own_go (fun _ k => XS.iloadN X0.here hx rfl (hb hby d14_0) rfl <| XS.aloadN X0.here hx rfl (hb hby d14_1) rfl rfl <| k) ?_
  show own_Ends p e below s _ _ _ (s₁.setTop (mkF m 2 #[.val (.ref a1), .val (.int (Int32.ofNat i))] [(.ref a1), (.int (Int32.ofNat i))]))
  obtain ⟨cla1_2_1, Ara1_2_1, qqa1_2_1, Sza1_2_1, Nga1_2_1, Hsa1_2_1, Gfa1_2_1⟩ := id V1
  refine own_go (fun _ k => X0.arraylength hx (by first | exact Ara1_2_1.1 | (rw [e0]; exact Ara1_2_1.1)) (State.isArrayOf_alike hZ.alike Ara1_2_1.2.1) (g := (mkF m 2 #[.val (.ref a1), .val (.int (Int32.ofNat i))] [(.ref a1), (.int (Int32.ofNat i))])) rfl rfl (hb hby d14_2) _ k) ?_
  rw [len_of Sza1_2_1 Nga1_2_1]
  show own_Ends p e below s _ _ _ (s₁.setTop (mkF m 3 #[.val (.ref a1), .val (.int (Int32.ofNat i))] [(.int (Int32.ofNat cs.length)), (.int (Int32.ofNat i))]))
  obtain ⟨_, _, ⟨T2, L2, k2, n2⟩, -, X2, ⟨Lc2, hQ2, l2, y2, z2⟩, st2⟩ := Jvm.LawKit.callS X0 hx (y := (⟨"java/lang/String", "checkIndex", "(II)V"⟩ : MethodName)) hown (mvT hZ (hw _ (List.mem_of_getElem? (i := 66) rfl))) (mvT hZ (hw _ (List.mem_of_getElem? (i := 67) rfl))) (mvT hZ (hw _ (List.mem_of_getElem? (i := 8) rfl))) (mvT hZ (hw _ (List.mem_of_getElem? (i := 68) rfl))) (by decide) (backOf (W := 0) (rm15 l Z a0 hw [] (Int32.ofNat i) (Int32.ofNat cs.length) vc vf h0 n0 Z0 O0 ST (own_nneg (by omega)) ((own_ofNat_lt (by omega) (by omega)).mpr hi)) hZ (hw _ (List.mem_of_getElem? (i := 68) rfl)) (hw _ (List.mem_of_getElem? (i := 8) rfl)) (by decide) (by decide)) (g := (mkF m 3 #[.val (.ref a1), .val (.int (Int32.ofNat i))] [(.int (Int32.ofNat cs.length)), (.int (Int32.ofNat i))])) rfl (by rw [hml]; rfl) (argsL := [(.int (Int32.ofNat i)), (.int (Int32.ofNat cs.length))]) (rest := []) (lenOf pd_14 rfl) rfl (by show 2 * 0 + _ ≤ _; exact Nat.le_of_eq rfl) (hb hby d14_3) (fun _ _ => ⟨rfl, e0, Nat.le_of_ble_eq_true rfl, Nat.le_of_ble_eq_true rfl⟩)
  dsimp only [Pt.U, Pt.locs, Pt.cells, Pt.slots] at X2 l2 y2 z2 st2 hQ2
  subst l2 y2 z2
  obtain ⟨rfl, N2q, e2⟩ := hQ2
  have N2 := Fr.app N0 N2q
  refine own_go (fun _ k => st2 _ k) ?_
  show own_Ends p e below s _ _ _ (T2.setTop (mkF m 6 #[.val (.ref a1), .val (.int (Int32.ofNat i))] []))
  refine own_go (fun _ k => XS.aloadN X2.here hx rfl (hb hby d14_6) rfl rfl <| XS.iloadN X2.here hx rfl (hb hby d14_7) rfl <| k) ?_
  show own_Ends p e below s _ _ _ (T2.setTop (mkF m 8 #[.val (.ref a1), .val (.int (Int32.ofNat i))] [(.int (Int32.ofNat i)), (.ref a1)]))
  obtain ⟨cla1_8_3, Ara1_8_3, qqa1_8_3, Sza1_8_3, Nga1_8_3, Hsa1_8_3, Gfa1_8_3⟩ := id V1
  have hina1_8_3 : ¬ ((Int32.ofNat i) < 0 ∨ cla1_8_3.slots.size ≤ ((Int32.ofNat i)).toNatClampNeg) := inb_of Sza1_8_3 ⟨own_nneg (by omega), (own_ofNat_lt (by omega) (by omega)).mpr hi⟩
  have hata1_8_3 : cla1_8_3.slots[((Int32.ofNat i)).toNatClampNeg]? = some (.int (own_laI (cs.getD i 0))) := Hsa1_8_3.at hina1_8_3 (by rw [own_clamp (by omega)]; exact own_la cs hi)
  refine own_go (fun _ k => X2.baloadBytes hx (j := (Int32.ofNat i)) (v := (.int (own_laI (cs.getD i 0)))) (by first | exact Ara1_8_3.1 | (rw [e2]; exact Ara1_8_3.1)) (State.isArrayOf_alike hZ.alike Ara1_8_3.2.1) Ara1_8_3.2.2 hina1_8_3 hata1_8_3 (g := (mkF m 8 #[.val (.ref a1), .val (.int (Int32.ofNat i))] [(.int (Int32.ofNat i)), (.ref a1)])) rfl rfl (hb hby d14_8) _ k) ?_
  show own_Ends p e below s _ _ _ (T2.setTop (mkF m 9 #[.val (.ref a1), .val (.int (Int32.ofNat i))] [(.int (own_laI (cs.getD i 0)))]))
  refine own_go (fun _ k => XT.sipushV X2.here hx rfl (255 : Int32) (hb hby d14_9) rfl <| XS.iand X2.here hx rfl (hb hby d14_12) rfl <| XS.i2c X2.here hx rfl (hb hby d14_13) rfl <| k) ?_
  show own_Ends p e below s _ _ _ (T2.setTop (mkF m 14 #[.val (.ref a1), .val (.int (Int32.ofNat i))] [(.int (((own_laI (cs.getD i 0)) &&& (255 : Int32)).toUInt32.toUInt16.toUInt32.toInt32))]))
  exact own_retN X2 hx (t := .char) hrt (by simp) (hb hby d14_14) hlk (show nar .char (((own_laI (cs.getD i 0)) &&& (255 : Int32)).toUInt32.toUInt16.toUInt32.toInt32) = cs.getD i 0 from own_lat (hC _ (own_mem hi)) (hlo _ (own_mem hi))) (by rw [e2]; exact ⟨rfl, N2, rfl⟩) (by decide) (by decide)
theorem d13_0 : decode jdk_42_method_154_code 0 = .ok (.getstatic 38, 3) := by decide +kernel
theorem d13_3 : decode jdk_42_method_154_code 3 = .ok (.ifCond .eq 14, 3) := by decide +kernel
theorem d13_6 : decode jdk_42_method_154_code 6 = .ok (.aload_n 0, 1) := by decide +kernel
theorem d13_7 : decode jdk_42_method_154_code 7 = .ok (.getfield 15, 3) := by decide +kernel
theorem d13_10 : decode jdk_42_method_154_code 10 = .ok (.ifCond .ne 7, 3) := by decide +kernel
theorem d13_13 : decode jdk_42_method_154_code 13 = .ok (.iconst 1, 1) := by decide +kernel
theorem d13_14 : decode jdk_42_method_154_code 14 = .ok (.goto 4, 3) := by decide +kernel
theorem d13_17 : decode jdk_42_method_154_code 17 = .ok (.iconst 0, 1) := by decide +kernel
theorem d13_18 : decode jdk_42_method_154_code 18 = .ok (.ireturn, 1) := by decide +kernel
theorem ef_13 (m : MethodId) (x0 : Addr) : entryFrame m #[(.ref x0)] 1 = mkF m 0 #[.val (.ref x0)] [] := by first | (simp [entryFrame, mkF, argsToLocals, Value.category]; done) | rfl
def Q13 (a1 : Addr) (vc : Int32) (vf : Value) (kc : Int32) (h0 : Heap) (n0 : Nat) (Z : State) (v : Option Value) (h : Heap) (L : List Loc) : Prop := v = some (.int (own_isl kc)) ∧ Fr n0 L ∧ h = h0
set_option maxRecDepth 65536 in
set_option maxHeartbeats 40000000 in
theorem rm13 (l : Launch) (Z : State) (a0 : Array Value) (hw : ∀ d ∈ tables_1, d.before a0 Z = true) (ws : List Jvm.Cond) (a1 : Addr) (vc : Int32) (vf : Value) (kc : Int32) (h0 : Heap) (n0 : Nat) (Z0 : n0 ≤ h0.size) (O0 : Old Z n0 h0) (ST : own_St Z vc vf) (F1 : Fld Z h0 a1 "java/lang/String" "coder" "B" (.int kc)) :
    MetFree l (⟨"java/lang/String", "isLatin1", "()Z"⟩ : MethodName) (head1 (Jvm.Cond.code (⟨"java/lang/String", "isLatin1", "()Z"⟩ : MethodName) jdk_42_method_154_code 1 (some .boolean) :: ws) ({ frames := 0, cells := 0, slots := 0, locals := 0 } : Room)) (fun a U => a = #[(.ref a1)] ∧ Z.Warmed39 U.vm ∧ U.heap = h0) (fun _ _ _ _ _ => True) (fun _ U o U' => ∃ v L, o = .returned v ∧ Q13 a1 vc vf kc h0 n0 Z v U'.heap L ∧ FrameEnd U o U' L ({ frames := 0, cells := 0, slots := 0, locals := 0 } : Room).cells ({ frames := 0, cells := 0, slots := 0, locals := 0 } : Room).slots) := by
  refine MetFree.of_bodySF (plainFor_of_name pn_1) hisR ?_
  intro p e s m args below meth c s₁ Bd hml0 hP hK
  obtain ⟨rfl, hZ, hh⟩ := hP
  have hx := Bd.exec
  have hby := Bd.bytes
  have hml : c.maxLocals = 1 := hml0
  have hown : s.vm.findClass "java/lang/String" = some m.cls := findClass_of_methodNamed Bd.named
  have hnm := (name_of_methodNamed Bd.named Bd.method).1
  have hlk := Bd.notSynchronized
  have hrt := Bd.returns
  have X0 : Stand p l e ({ frames := 0, cells := 0, slots := 0, locals := 0 } : Room) s m #[(.ref a1)] below meth c s₁ [] 0 0 := Stand.of_body Bd
  have e0 : s₁.heap = h0 := by rw [← hh, Bd.state]; rfl
  have N0 := Fr.nil n0
  show own_Ends p e below s (Q13 a1 vc vf kc h0 n0 Z) ({ frames := 0, cells := 0, slots := 0, locals := 0 } : Room).cells ({ frames := 0, cells := 0, slots := 0, locals := 0 } : Room).slots (s₁.setTop (entryFrame m #[(.ref a1)] 1))
  rw [ef_13]
  obtain ⟨HVC, SCS, SAD, SHI, SLO, SIO, HVF⟩ := id ST
  obtain ⟨T1, X1, e1, st1⟩ := getS2 X0 hx hZ hown (host := "") (Or.inl (hw _ (List.mem_of_getElem? (i := 19) rfl))) Via.refl e0 (SCS.ext O0.2) (g := (mkF m 0 #[.val (.ref a1)] [])) rfl (hb hby d13_0)
  refine own_go st1 ?_
  show own_Ends p e below s _ _ _ (T1.setTop (mkF m 3 #[.val (.ref a1)] [(.int vc)]))
  refine own_go (fun _ k => XS.ifNo X1.here hx rfl (hb hby d13_3) rfl ((if0 _ _).trans (feq HVC).1) <| XS.aloadN X1.here hx rfl (hb hby d13_6) rfl rfl <| k) ?_
  show own_Ends p e below s _ _ _ (T1.setTop (mkF m 7 #[.val (.ref a1)] [(.ref a1)]))
  obtain ⟨T2, X2, e2, st2⟩ := getF X1 hx hZ hown (host := "") (Or.inl (hw _ (List.mem_of_getElem? (i := 31) rfl))) Via.refl e1 F1 (g := (mkF m 7 #[.val (.ref a1)] [(.ref a1)])) rfl rfl (hb hby d13_7)
  refine own_go st2 ?_
  show own_Ends p e below s _ _ _ (T2.setTop (mkF m 10 #[.val (.ref a1)] [(.int kc)]))
  by_cases hc10_3 : kc = (0 : Int32)
  · -- true
    refine own_go (fun _ k => XS.ifNo X2.here hx rfl (hb hby d13_10) rfl ((if0 _ _).trans (teq hc10_3).2) <| XT.iconstV X2.here hx rfl (1 : Int32) (hb hby d13_13) rfl <| XS.goto X2.here hx rfl (pc0 := 14) (pc' := 18) rfl (hb hby d13_14) (by decide) (by decide) <| k) ?_
    show own_Ends p e below s _ _ _ (T2.setTop (mkF m 18 #[.val (.ref a1)] [(.int (1 : Int32))]))
    exact own_retN X2 hx (t := .boolean) hrt (by simp) (hb hby d13_18) hlk (show nar .boolean (1 : Int32) = (1 : Int32) from by decide) (by rw [e2]; exact ⟨by unfold own_isl; rw [if_pos hc10_3], N0, rfl⟩) (by decide) (by decide)
  · -- false
    refine own_go (fun _ k => XS.ifYes X2.here hx rfl (pc0 := 10) (pc' := 17) rfl (hb hby d13_10) rfl ((if0 _ _).trans (feq hc10_3).2) (by decide) (by decide) <| XT.iconstV X2.here hx rfl (0 : Int32) (hb hby d13_17) rfl <| k) ?_
    show own_Ends p e below s _ _ _ (T2.setTop (mkF m 18 #[.val (.ref a1)] [(.int (0 : Int32))]))
    exact own_retN X2 hx (t := .boolean) hrt (by simp) (hb hby d13_18) hlk (show nar .boolean (0 : Int32) = (0 : Int32) from by decide) (by rw [e2]; exact ⟨by unfold own_isl; rw [if_neg hc10_3], N0, rfl⟩) (by decide) (by decide)
theorem d11_0 : decode jdk_42_method_152_code 0 = .ok (.getstatic 38, 3) := by decide +kernel
theorem d11_3 : decode jdk_42_method_152_code 3 = .ok (.ifCond .eq 10, 3) := by decide +kernel
theorem d11_6 : decode jdk_42_method_152_code 6 = .ok (.aload_n 0, 1) := by decide +kernel
theorem d11_7 : decode jdk_42_method_152_code 7 = .ok (.getfield 15, 3) := by decide +kernel
theorem d11_10 : decode jdk_42_method_152_code 10 = .ok (.goto 4, 3) := by decide +kernel
theorem d11_13 : decode jdk_42_method_152_code 13 = .ok (.iconst 1, 1) := by decide +kernel
theorem d11_14 : decode jdk_42_method_152_code 14 = .ok (.ireturn, 1) := by decide +kernel
theorem ef_11 (m : MethodId) (x0 : Addr) : entryFrame m #[(.ref x0)] 1 = mkF m 0 #[.val (.ref x0)] [] := by first | (simp [entryFrame, mkF, argsToLocals, Value.category]; done) | rfl
def Q11 (a1 : Addr) (vc : Int32) (vf : Value) (kc : Int32) (h0 : Heap) (n0 : Nat) (Z : State) (v : Option Value) (h : Heap) (L : List Loc) : Prop := v = some (.int kc) ∧ Fr n0 L ∧ h = h0
set_option maxRecDepth 65536 in
set_option maxHeartbeats 40000000 in
theorem rm11 (l : Launch) (Z : State) (a0 : Array Value) (hw : ∀ d ∈ tables_1, d.before a0 Z = true) (ws : List Jvm.Cond) (a1 : Addr) (vc : Int32) (vf : Value) (kc : Int32) (h0 : Heap) (n0 : Nat) (Z0 : n0 ≤ h0.size) (O0 : Old Z n0 h0) (ST : own_St Z vc vf) (F1 : Fld Z h0 a1 "java/lang/String" "coder" "B" (.int kc)) (hb1 : nar .byte kc = kc) :
    MetFree l (⟨"java/lang/String", "coder", "()B"⟩ : MethodName) (head1 (Jvm.Cond.code (⟨"java/lang/String", "coder", "()B"⟩ : MethodName) jdk_42_method_152_code 1 (some .byte) :: ws) ({ frames := 0, cells := 0, slots := 0, locals := 0 } : Room)) (fun a U => a = #[(.ref a1)] ∧ Z.Warmed39 U.vm ∧ U.heap = h0) (fun _ _ _ _ _ => True) (fun _ U o U' => ∃ v L, o = .returned v ∧ Q11 a1 vc vf kc h0 n0 Z v U'.heap L ∧ FrameEnd U o U' L ({ frames := 0, cells := 0, slots := 0, locals := 0 } : Room).cells ({ frames := 0, cells := 0, slots := 0, locals := 0 } : Room).slots) := by
  refine MetFree.of_bodySF (plainFor_of_name pn_1) hisR ?_
  intro p e s m args below meth c s₁ Bd hml0 hP hK
  obtain ⟨rfl, hZ, hh⟩ := hP
  have hx := Bd.exec
  have hby := Bd.bytes
  have hml : c.maxLocals = 1 := hml0
  have hown : s.vm.findClass "java/lang/String" = some m.cls := findClass_of_methodNamed Bd.named
  have hnm := (name_of_methodNamed Bd.named Bd.method).1
  have hlk := Bd.notSynchronized
  have hrt := Bd.returns
  have X0 : Stand p l e ({ frames := 0, cells := 0, slots := 0, locals := 0 } : Room) s m #[(.ref a1)] below meth c s₁ [] 0 0 := Stand.of_body Bd
  have e0 : s₁.heap = h0 := by rw [← hh, Bd.state]; rfl
  have N0 := Fr.nil n0
  show own_Ends p e below s (Q11 a1 vc vf kc h0 n0 Z) ({ frames := 0, cells := 0, slots := 0, locals := 0 } : Room).cells ({ frames := 0, cells := 0, slots := 0, locals := 0 } : Room).slots (s₁.setTop (entryFrame m #[(.ref a1)] 1))
  rw [ef_11]
  obtain ⟨HVC, SCS, SAD, SHI, SLO, SIO, HVF⟩ := id ST
  obtain ⟨T1, X1, e1, st1⟩ := getS2 X0 hx hZ hown (host := "") (Or.inl (hw _ (List.mem_of_getElem? (i := 19) rfl))) Via.refl e0 (SCS.ext O0.2) (g := (mkF m 0 #[.val (.ref a1)] [])) rfl (hb hby d11_0)
  refine own_go st1 ?_
  show own_Ends p e below s _ _ _ (T1.setTop (mkF m 3 #[.val (.ref a1)] [(.int vc)]))
  refine own_go (fun _ k => XS.ifNo X1.here hx rfl (hb hby d11_3) rfl ((if0 _ _).trans (feq HVC).1) <| XS.aloadN X1.here hx rfl (hb hby d11_6) rfl rfl <| k) ?_
  show own_Ends p e below s _ _ _ (T1.setTop (mkF m 7 #[.val (.ref a1)] [(.ref a1)]))
  obtain ⟨T2, X2, e2, st2⟩ := getF X1 hx hZ hown (host := "") (Or.inl (hw _ (List.mem_of_getElem? (i := 31) rfl))) Via.refl e1 F1 (g := (mkF m 7 #[.val (.ref a1)] [(.ref a1)])) rfl rfl (hb hby d11_7)
  refine own_go st2 ?_
  show own_Ends p e below s _ _ _ (T2.setTop (mkF m 10 #[.val (.ref a1)] [(.int kc)]))
  refine own_go (fun _ k => XS.goto X2.here hx rfl (pc0 := 10) (pc' := 14) rfl (hb hby d11_10) (by decide) (by decide) <| k) ?_
  show own_Ends p e below s _ _ _ (T2.setTop (mkF m 14 #[.val (.ref a1)] [(.int kc)]))
  exact own_retN X2 hx (t := .byte) hrt (by simp) (hb hby d11_14) hlk (show nar .byte kc = kc from hb1) (by rw [e2]; exact ⟨rfl, N0, rfl⟩) (by decide) (by decide)
theorem d10_0 : decode jdk_42_method_54_code 0 = .ok (.aload_n 0, 1) := by decide +kernel
theorem d10_1 : decode jdk_42_method_54_code 1 = .ok (.getfield 9, 3) := by decide +kernel
theorem d10_4 : decode jdk_42_method_54_code 4 = .ok (.arraylength, 1) := by decide +kernel
theorem d10_5 : decode jdk_42_method_54_code 5 = .ok (.aload_n 0, 1) := by decide +kernel
theorem d10_6 : decode jdk_42_method_54_code 6 = .ok (.invokevirtual 335, 3) := by decide +kernel
theorem d10_9 : decode jdk_42_method_54_code 9 = .ok (.ishr, 1) := by decide +kernel
theorem d10_10 : decode jdk_42_method_54_code 10 = .ok (.ireturn, 1) := by decide +kernel
theorem ef_10 (m : MethodId) (x0 : Addr) : entryFrame m #[(.ref x0)] 1 = mkF m 0 #[.val (.ref x0)] [] := by first | (simp [entryFrame, mkF, argsToLocals, Value.category]; done) | rfl
def Q10 (a1 : Addr) (vc : Int32) (vf : Value) (b : Addr) (kb : ClassId) (kc : Int32) (cs : List Int32) (h0 : Heap) (n0 : Nat) (Z : State) (v : Option Value) (h : Heap) (L : List Loc) : Prop := v = some (.int (Int32.ofNat cs.length)) ∧ Fr n0 L ∧ h = h0
set_option maxRecDepth 65536 in
set_option maxHeartbeats 40000000 in
theorem rm10 (l : Launch) (Z : State) (a0 : Array Value) (hw : ∀ d ∈ tables_1, d.before a0 Z = true) (ws : List Jvm.Cond) (a1 : Addr) (vc : Int32) (vf : Value) (b : Addr) (kb : ClassId) (kc : Int32) (cs : List Int32) (h0 : Heap) (n0 : Nat) (Z0 : n0 ≤ h0.size) (O0 : Old Z n0 h0) (ST : own_St Z vc vf) (hN : cs.length ≤ 5) (E_a1 : Exa Z h0 a1 "java/lang/String") (Fv_a1 : Fld Z h0 a1 "java/lang/String" "value" "[B" (.ref b)) (Fc_a1 : Fld Z h0 a1 "java/lang/String" "coder" "B" (.int kc)) (V_a1 : Arv Z h0 b kb .byte (own_zz kc (cs).length) (own_vs kc cs) (.int (0 : Int32))) (hk_a1 : own_KC kc cs) :
    MetFree l (⟨"java/lang/String", "length", "()I"⟩ : MethodName) (head1 (Jvm.Cond.code (⟨"java/lang/String", "length", "()I"⟩ : MethodName) jdk_42_method_54_code 1 (some .int) :: ws) ({ frames := 1, cells := 0, slots := 0, locals := 16 } : Room)) (fun a U => a = #[(.ref a1)] ∧ Z.Warmed39 U.vm ∧ U.heap = h0) (fun _ _ _ _ _ => True) (fun _ U o U' => ∃ v L, o = .returned v ∧ Q10 a1 vc vf b kb kc cs h0 n0 Z v U'.heap L ∧ FrameEnd U o U' L ({ frames := 1, cells := 0, slots := 0, locals := 16 } : Room).cells ({ frames := 1, cells := 0, slots := 0, locals := 16 } : Room).slots) := by
  refine MetFree.of_bodySF (plainFor_of_name pn_1) hisR ?_
  intro p e s m args below meth c s₁ Bd hml0 hP hK
  obtain ⟨rfl, hZ, hh⟩ := hP
  have hx := Bd.exec
  have hby := Bd.bytes
  have hml : c.maxLocals = 1 := hml0
  have hown : s.vm.findClass "java/lang/String" = some m.cls := findClass_of_methodNamed Bd.named
  have hnm := (name_of_methodNamed Bd.named Bd.method).1
  have hlk := Bd.notSynchronized
  have hrt := Bd.returns
  have X0 : Stand p l e ({ frames := 1, cells := 0, slots := 0, locals := 16 } : Room) s m #[(.ref a1)] below meth c s₁ [] 0 0 := Stand.of_body Bd
  have e0 : s₁.heap = h0 := by rw [← hh, Bd.state]; rfl
  have N0 := Fr.nil n0
  show own_Ends p e below s (Q10 a1 vc vf b kb kc cs h0 n0 Z) ({ frames := 1, cells := 0, slots := 0, locals := 16 } : Room).cells ({ frames := 1, cells := 0, slots := 0, locals := 16 } : Room).slots (s₁.setTop (entryFrame m #[(.ref a1)] 1))
  rw [ef_10]
  obtain ⟨HVC, SCS, SAD, SHI, SLO, SIO, HVF⟩ := id ST
  refine own_go (fun _ k => XS.aloadN X0.here hx rfl (hb hby d10_0) rfl rfl <| k) ?_
  show own_Ends p e below s _ _ _ (s₁.setTop (mkF m 1 #[.val (.ref a1)] [(.ref a1)]))
  obtain ⟨T1, X1, e1, st1⟩ := getF X0 hx hZ hown (host := "") (Or.inl (hw _ (List.mem_of_getElem? (i := 33) rfl))) Via.refl e0 Fv_a1 (g := (mkF m 1 #[.val (.ref a1)] [(.ref a1)])) rfl rfl (hb hby d10_1)
  refine own_go st1 ?_
  show own_Ends p e below s _ _ _ (T1.setTop (mkF m 4 #[.val (.ref a1)] [(.ref b)]))
  obtain ⟨clb_4_2, Arb_4_2, qqb_4_2, Szb_4_2, Ngb_4_2, Hsb_4_2, Gfb_4_2⟩ := id V_a1
  refine own_go (fun _ k => X1.arraylength hx (by first | exact Arb_4_2.1 | (rw [e1]; exact Arb_4_2.1)) (State.isArrayOf_alike hZ.alike Arb_4_2.2.1) (g := (mkF m 4 #[.val (.ref a1)] [(.ref b)])) rfl rfl (hb hby d10_4) _ k) ?_
  rw [len_of Szb_4_2 Ngb_4_2]
  show own_Ends p e below s _ _ _ (T1.setTop (mkF m 5 #[.val (.ref a1)] [(.int (own_zz kc (cs).length))]))
  refine own_go (fun _ k => XS.aloadN X1.here hx rfl (hb hby d10_5) rfl rfl <| k) ?_
  show own_Ends p e below s _ _ _ (T1.setTop (mkF m 6 #[.val (.ref a1)] [(.ref a1), (.int (own_zz kc (cs).length))]))
  obtain ⟨cq3, kq3, q3a, q3b, q3c⟩ := isOf hZ e1 E_a1
  obtain ⟨_, _, ⟨T3, L3, k3, n3⟩, -, X3, ⟨Lc3, hQ3, l3, y3, z3⟩, st3⟩ := X1.virtualBack hx (y := (⟨"java/lang/String", "coder", "()B"⟩ : MethodName)) (z := (⟨"java/lang/String", "coder", "()B"⟩ : MethodName)) hown (mvT hZ (hw _ (List.mem_of_getElem? (i := 47) rfl))) (mvT hZ (hw _ (List.mem_of_getElem? (i := 48) rfl))) (notFace_of_selects (args := #[]) (mvT hZ (hw _ (List.mem_of_getElem? (i := 50) rfl)))) (mvT hZ (hw _ (List.mem_of_getElem? (i := 50) rfl))) (mvT hZ (hw _ (List.mem_of_getElem? (i := 49) rfl))) (by decide) (backOf (W := 1) (rm11 l Z a0 hw [] a1 vc vf kc h0 n0 Z0 O0 ST Fc_a1 (own_kcb hk_a1)) hZ (hw _ (List.mem_of_getElem? (i := 51) rfl)) (hw _ (List.mem_of_getElem? (i := 8) rfl)) (by decide) (by decide)) q3a q3c (g := (mkF m 6 #[.val (.ref a1)] [(.ref a1), (.int (own_zz kc (cs).length))])) rfl (by rw [hml]; rfl) (Steps.refl _) (argsL := []) (rest := [(.int (own_zz kc (cs).length))]) (lenOf pd_10 rfl) rfl (by show 2 * 0 + _ ≤ _; exact Nat.le_of_eq rfl) (hb hby d10_6) (fun _ _ => ⟨rfl, e1, Nat.le_of_ble_eq_true rfl, Nat.le_of_ble_eq_true rfl⟩)
  dsimp only [Pt.U, Pt.locs, Pt.cells, Pt.slots] at X3 l3 y3 z3 st3 hQ3
  subst l3 y3 z3
  obtain ⟨rfl, N3q, e3⟩ := hQ3
  have N3 := Fr.app N0 N3q
  refine own_go (fun _ k => st3.trans k) ?_
  show own_Ends p e below s _ _ _ (T3.setTop (mkF m 9 #[.val (.ref a1)] [(.int kc), (.int (own_zz kc (cs).length))]))
  refine own_go (fun _ k => XS.ishr X3.here hx rfl (hb hby d10_9) rfl <| k) ?_
  show own_Ends p e below s _ _ _ (T3.setTop (mkF m 10 #[.val (.ref a1)] [(.int ((own_zz kc (cs).length) >>> (kc &&& 31)))]))
  exact own_ret X3 hx hrt rfl (Or.inl ⟨rfl, Or.inl rfl, _, rfl⟩) (hb hby d10_10) hlk (by rw [e3]; exact ⟨by rw [own_lenk hk_a1 (by omega)], N3, rfl⟩) (by decide) (by decide)
theorem d12_0 : decode jdk_42_method_56_code 0 = .ok (.aload_n 0, 1) := by decide +kernel
theorem d12_1 : decode jdk_42_method_56_code 1 = .ok (.invokevirtual 492, 3) := by decide +kernel
theorem d12_4 : decode jdk_42_method_56_code 4 = .ok (.ifCond .eq 12, 3) := by decide +kernel
theorem d12_7 : decode jdk_42_method_56_code 7 = .ok (.aload_n 0, 1) := by decide +kernel
theorem d12_8 : decode jdk_42_method_56_code 8 = .ok (.getfield 9, 3) := by decide +kernel
theorem d12_11 : decode jdk_42_method_56_code 11 = .ok (.iload_n 1, 1) := by decide +kernel
theorem d12_12 : decode jdk_42_method_56_code 12 = .ok (.invokestatic 495, 3) := by decide +kernel
theorem d12_15 : decode jdk_42_method_56_code 15 = .ok (.ireturn, 1) := by decide +kernel
theorem d12_16 : decode jdk_42_method_56_code 16 = .ok (.aload_n 0, 1) := by decide +kernel
theorem d12_17 : decode jdk_42_method_56_code 17 = .ok (.getfield 9, 3) := by decide +kernel
theorem d12_20 : decode jdk_42_method_56_code 20 = .ok (.iload_n 1, 1) := by decide +kernel
theorem d12_21 : decode jdk_42_method_56_code 21 = .ok (.invokestatic 498, 3) := by decide +kernel
theorem d12_24 : decode jdk_42_method_56_code 24 = .ok (.ireturn, 1) := by decide +kernel
theorem ef_12 (m : MethodId) (x0 : Addr) (x1 : Int32) : entryFrame m #[(.ref x0), (.int x1)] 2 = mkF m 0 #[.val (.ref x0), .val (.int x1)] [] := by first | (simp [entryFrame, mkF, argsToLocals, Value.category]; done) | rfl
def Q12 (a1 : Addr) (vc : Int32) (vf : Value) (b : Addr) (kb : ClassId) (kc : Int32) (cs : List Int32) (i : Nat) (h0 : Heap) (n0 : Nat) (Z : State) (v : Option Value) (h : Heap) (L : List Loc) : Prop := v = some (.int (cs.getD i 0)) ∧ Fr n0 L ∧ h = h0
set_option maxRecDepth 65536 in
set_option maxHeartbeats 40000000 in
theorem rm12 (l : Launch) (Z : State) (a0 : Array Value) (hw : ∀ d ∈ tables_1, d.before a0 Z = true) (ws : List Jvm.Cond) (a1 : Addr) (vc : Int32) (vf : Value) (b : Addr) (kb : ClassId) (kc : Int32) (cs : List Int32) (i : Nat) (h0 : Heap) (n0 : Nat) (Z0 : n0 ≤ h0.size) (O0 : Old Z n0 h0) (ST : own_St Z vc vf) (hN : cs.length ≤ 5) (hC : own_Ch cs) (hi : i < cs.length) (E_a1 : Exa Z h0 a1 "java/lang/String") (Fv_a1 : Fld Z h0 a1 "java/lang/String" "value" "[B" (.ref b)) (Fc_a1 : Fld Z h0 a1 "java/lang/String" "coder" "B" (.int kc)) (V_a1 : Arv Z h0 b kb .byte (own_zz kc (cs).length) (own_vs kc cs) (.int (0 : Int32))) (hk_a1 : own_KC kc cs) :
    MetFree l (⟨"java/lang/String", "charAt", "(I)C"⟩ : MethodName) (head1 (Jvm.Cond.code (⟨"java/lang/String", "charAt", "(I)C"⟩ : MethodName) jdk_42_method_56_code 2 (some .char) :: ws) ({ frames := 4, cells := 0, slots := 0, locals := 64 } : Room)) (fun a U => a = #[(.ref a1), (.int (Int32.ofNat i))] ∧ Z.Warmed39 U.vm ∧ U.heap = h0) (fun _ _ _ _ _ => True) (fun _ U o U' => ∃ v L, o = .returned v ∧ Q12 a1 vc vf b kb kc cs i h0 n0 Z v U'.heap L ∧ FrameEnd U o U' L ({ frames := 4, cells := 0, slots := 0, locals := 64 } : Room).cells ({ frames := 4, cells := 0, slots := 0, locals := 64 } : Room).slots) := by
  refine MetFree.of_bodySF (plainFor_of_name pn_1) hisR ?_
  intro p e s m args below meth c s₁ Bd hml0 hP hK
  obtain ⟨rfl, hZ, hh⟩ := hP
  have hx := Bd.exec
  have hby := Bd.bytes
  have hml : c.maxLocals = 2 := hml0
  have hown : s.vm.findClass "java/lang/String" = some m.cls := findClass_of_methodNamed Bd.named
  have hnm := (name_of_methodNamed Bd.named Bd.method).1
  have hlk := Bd.notSynchronized
  have hrt := Bd.returns
  have X0 : Stand p l e ({ frames := 4, cells := 0, slots := 0, locals := 64 } : Room) s m #[(.ref a1), (.int (Int32.ofNat i))] below meth c s₁ [] 0 0 := Stand.of_body Bd
  have e0 : s₁.heap = h0 := by rw [← hh, Bd.state]; rfl
  have N0 := Fr.nil n0
  show own_Ends p e below s (Q12 a1 vc vf b kb kc cs i h0 n0 Z) ({ frames := 4, cells := 0, slots := 0, locals := 64 } : Room).cells ({ frames := 4, cells := 0, slots := 0, locals := 64 } : Room).slots (s₁.setTop (entryFrame m #[(.ref a1), (.int (Int32.ofNat i))] 2))
  rw [ef_12]
  obtain ⟨HVC, SCS, SAD, SHI, SLO, SIO, HVF⟩ := id ST
  rcases id hk_a1 with ⟨rfl, hlo⟩ | rfl
  ·
    rw [own_zz_0, own_vs_0] at V_a1
    refine own_go (fun _ k => XS.aloadN X0.here hx rfl (hb hby d12_0) rfl rfl <| k) ?_
    show own_Ends p e below s _ _ _ (s₁.setTop (mkF m 1 #[.val (.ref a1), .val (.int (Int32.ofNat i))] [(.ref a1)]))
    obtain ⟨cq1, kq1, q1a, q1b, q1c⟩ := isOf hZ e0 E_a1
    obtain ⟨_, _, ⟨T1, L1, k1, n1⟩, -, X1, ⟨Lc1, hQ1, l1, y1, z1⟩, st1⟩ := X0.virtualBack hx (y := (⟨"java/lang/String", "isLatin1", "()Z"⟩ : MethodName)) (z := (⟨"java/lang/String", "isLatin1", "()Z"⟩ : MethodName)) hown (mvT hZ (hw _ (List.mem_of_getElem? (i := 57) rfl))) (mvT hZ (hw _ (List.mem_of_getElem? (i := 58) rfl))) (notFace_of_selects (args := #[]) (mvT hZ (hw _ (List.mem_of_getElem? (i := 60) rfl)))) (mvT hZ (hw _ (List.mem_of_getElem? (i := 60) rfl))) (mvT hZ (hw _ (List.mem_of_getElem? (i := 59) rfl))) (by decide) (backOf (W := 0) (rm13 l Z a0 hw [] a1 vc vf (0 : Int32) h0 n0 Z0 O0 ST Fc_a1) hZ (hw _ (List.mem_of_getElem? (i := 61) rfl)) (hw _ (List.mem_of_getElem? (i := 8) rfl)) (by decide) (by decide)) q1a q1c (g := (mkF m 1 #[.val (.ref a1), .val (.int (Int32.ofNat i))] [(.ref a1)])) rfl (by rw [hml]; rfl) (Steps.refl _) (argsL := []) (rest := []) (lenOf pd_12 rfl) rfl (by show 2 * 0 + _ ≤ _; exact Nat.le_of_eq rfl) (hb hby d12_1) (fun _ _ => ⟨rfl, e0, Nat.le_of_ble_eq_true rfl, Nat.le_of_ble_eq_true rfl⟩)
    dsimp only [Pt.U, Pt.locs, Pt.cells, Pt.slots] at X1 l1 y1 z1 st1 hQ1
    subst l1 y1 z1
    obtain ⟨rfl, N1q, e1⟩ := hQ1
    have N1 := Fr.app N0 N1q
    refine own_go (fun _ k => st1.trans k) ?_
    show own_Ends p e below s _ _ _ (T1.setTop (mkF m 4 #[.val (.ref a1), .val (.int (Int32.ofNat i))] [(.int (own_isl (0 : Int32)))]))
    refine own_go (fun _ k => XS.ifNo X1.here hx rfl (hb hby d12_4) rfl ((if0 _ _).trans (feq (by decide)).1) <| XS.aloadN X1.here hx rfl (hb hby d12_7) rfl rfl <| k) ?_
    show own_Ends p e below s _ _ _ (T1.setTop (mkF m 8 #[.val (.ref a1), .val (.int (Int32.ofNat i))] [(.ref a1)]))
    obtain ⟨T2, X2, e2, st2⟩ := getF X1 hx hZ hown (host := "") (Or.inl (hw _ (List.mem_of_getElem? (i := 33) rfl))) Via.refl e1 Fv_a1 (g := (mkF m 8 #[.val (.ref a1), .val (.int (Int32.ofNat i))] [(.ref a1)])) rfl rfl (hb hby d12_8)
    refine own_go st2 ?_
    show own_Ends p e below s _ _ _ (T2.setTop (mkF m 11 #[.val (.ref a1), .val (.int (Int32.ofNat i))] [(.ref b)]))
    refine own_go (fun _ k => XS.iloadN X2.here hx rfl (hb hby d12_11) rfl <| k) ?_
    show own_Ends p e below s _ _ _ (T2.setTop (mkF m 12 #[.val (.ref a1), .val (.int (Int32.ofNat i))] [(.int (Int32.ofNat i)), (.ref b)]))
    obtain ⟨_, _, ⟨T3, L3, k3, n3⟩, -, X3, ⟨Lc3, hQ3, l3, y3, z3⟩, st3⟩ := Jvm.LawKit.callS X2 hx (y := (⟨"java/lang/StringLatin1", "charAt", "([BI)C"⟩ : MethodName)) hown (mvT hZ (hw _ (List.mem_of_getElem? (i := 62) rfl))) (mvT hZ (hw _ (List.mem_of_getElem? (i := 63) rfl))) (mvT hZ (hw _ (List.mem_of_getElem? (i := 64) rfl))) (mvT hZ (hw _ (List.mem_of_getElem? (i := 65) rfl))) (by decide) (backOf (W := 0) (rm14 l Z a0 hw [] b vc vf kb cs i h0 n0 Z0 O0 ST hN hi hC hlo V_a1) hZ (hw _ (List.mem_of_getElem? (i := 65) rfl)) (hw _ (List.mem_of_getElem? (i := 64) rfl)) (by decide) (by decide)) (g := (mkF m 12 #[.val (.ref a1), .val (.int (Int32.ofNat i))] [(.int (Int32.ofNat i)), (.ref b)])) rfl (by rw [hml]; rfl) (argsL := [(.ref b), (.int (Int32.ofNat i))]) (rest := []) (lenOf pd_13 rfl) rfl (by show 2 * 0 + _ ≤ _; exact Nat.le_of_eq rfl) (hb hby d12_12) (fun _ _ => ⟨rfl, e2, Nat.le_of_ble_eq_true rfl, Nat.le_of_ble_eq_true rfl⟩)
    dsimp only [Pt.U, Pt.locs, Pt.cells, Pt.slots] at X3 l3 y3 z3 st3 hQ3
    subst l3 y3 z3
    obtain ⟨rfl, N3q, e3⟩ := hQ3
    have N3 := Fr.app N1 N3q
    refine own_go (fun _ k => st3 _ k) ?_
    show own_Ends p e below s _ _ _ (T3.setTop (mkF m 15 #[.val (.ref a1), .val (.int (Int32.ofNat i))] [(.int (cs.getD i 0))]))
    exact own_retN X3 hx (t := .char) hrt (by simp) (hb hby d12_15) hlk (show nar .char (cs.getD i 0) = cs.getD i 0 from hC _ (own_mem hi)) (by rw [e3]; exact ⟨rfl, N3, rfl⟩) (by decide) (by decide)
  ·
    rw [own_zz_1, own_vs_1] at V_a1
    refine own_go (fun _ k => XS.aloadN X0.here hx rfl (hb hby d12_0) rfl rfl <| k) ?_
    show own_Ends p e below s _ _ _ (s₁.setTop (mkF m 1 #[.val (.ref a1), .val (.int (Int32.ofNat i))] [(.ref a1)]))
    obtain ⟨cq4, kq4, q4a, q4b, q4c⟩ := isOf hZ e0 E_a1
    obtain ⟨_, _, ⟨T4, L4, k4, n4⟩, -, X4, ⟨Lc4, hQ4, l4, y4, z4⟩, st4⟩ := X0.virtualBack hx (y := (⟨"java/lang/String", "isLatin1", "()Z"⟩ : MethodName)) (z := (⟨"java/lang/String", "isLatin1", "()Z"⟩ : MethodName)) hown (mvT hZ (hw _ (List.mem_of_getElem? (i := 57) rfl))) (mvT hZ (hw _ (List.mem_of_getElem? (i := 58) rfl))) (notFace_of_selects (args := #[]) (mvT hZ (hw _ (List.mem_of_getElem? (i := 60) rfl)))) (mvT hZ (hw _ (List.mem_of_getElem? (i := 60) rfl))) (mvT hZ (hw _ (List.mem_of_getElem? (i := 59) rfl))) (by decide) (backOf (W := 0) (rm13 l Z a0 hw [] a1 vc vf (1 : Int32) h0 n0 Z0 O0 ST Fc_a1) hZ (hw _ (List.mem_of_getElem? (i := 61) rfl)) (hw _ (List.mem_of_getElem? (i := 8) rfl)) (by decide) (by decide)) q4a q4c (g := (mkF m 1 #[.val (.ref a1), .val (.int (Int32.ofNat i))] [(.ref a1)])) rfl (by rw [hml]; rfl) (Steps.refl _) (argsL := []) (rest := []) (lenOf pd_12 rfl) rfl (by show 2 * 0 + _ ≤ _; exact Nat.le_of_eq rfl) (hb hby d12_1) (fun _ _ => ⟨rfl, e0, Nat.le_of_ble_eq_true rfl, Nat.le_of_ble_eq_true rfl⟩)
    dsimp only [Pt.U, Pt.locs, Pt.cells, Pt.slots] at X4 l4 y4 z4 st4 hQ4
    subst l4 y4 z4
    obtain ⟨rfl, N4q, e4⟩ := hQ4
    have N4 := Fr.app N0 N4q
    refine own_go (fun _ k => st4.trans k) ?_
    show own_Ends p e below s _ _ _ (T4.setTop (mkF m 4 #[.val (.ref a1), .val (.int (Int32.ofNat i))] [(.int (own_isl (1 : Int32)))]))
    refine own_go (fun _ k => XS.ifYes X4.here hx rfl (pc0 := 4) (pc' := 16) rfl (hb hby d12_4) rfl ((if0 _ _).trans (teq (by decide)).1) (by decide) (by decide) <| XS.aloadN X4.here hx rfl (hb hby d12_16) rfl rfl <| k) ?_
    show own_Ends p e below s _ _ _ (T4.setTop (mkF m 17 #[.val (.ref a1), .val (.int (Int32.ofNat i))] [(.ref a1)]))
    obtain ⟨T5, X5, e5, st5⟩ := getF X4 hx hZ hown (host := "") (Or.inl (hw _ (List.mem_of_getElem? (i := 33) rfl))) Via.refl e4 Fv_a1 (g := (mkF m 17 #[.val (.ref a1), .val (.int (Int32.ofNat i))] [(.ref a1)])) rfl rfl (hb hby d12_17)
    refine own_go st5 ?_
    show own_Ends p e below s _ _ _ (T5.setTop (mkF m 20 #[.val (.ref a1), .val (.int (Int32.ofNat i))] [(.ref b)]))
    refine own_go (fun _ k => XS.iloadN X5.here hx rfl (hb hby d12_20) rfl <| k) ?_
    show own_Ends p e below s _ _ _ (T5.setTop (mkF m 21 #[.val (.ref a1), .val (.int (Int32.ofNat i))] [(.int (Int32.ofNat i)), (.ref b)]))
    obtain ⟨_, _, ⟨T6, L6, k6, n6⟩, -, X6, ⟨Lc6, hQ6, l6, y6, z6⟩, st6⟩ := Jvm.LawKit.callS X5 hx (y := (⟨"java/lang/StringUTF16", "charAt", "([BI)C"⟩ : MethodName)) hown (mvT hZ (hw _ (List.mem_of_getElem? (i := 94) rfl))) (mvT hZ (hw _ (List.mem_of_getElem? (i := 95) rfl))) (mvT hZ (hw _ (List.mem_of_getElem? (i := 22) rfl))) (mvT hZ (hw _ (List.mem_of_getElem? (i := 96) rfl))) (by decide) (backOf (W := 0) (rm22 l Z a0 hw [] b vc vf kb cs i h0 n0 Z0 O0 ST hN hi hC V_a1) hZ (hw _ (List.mem_of_getElem? (i := 96) rfl)) (hw _ (List.mem_of_getElem? (i := 22) rfl)) (by decide) (by decide)) (g := (mkF m 21 #[.val (.ref a1), .val (.int (Int32.ofNat i))] [(.int (Int32.ofNat i)), (.ref b)])) rfl (by rw [hml]; rfl) (argsL := [(.ref b), (.int (Int32.ofNat i))]) (rest := []) (lenOf pd_13 rfl) rfl (by show 2 * 0 + _ ≤ _; exact Nat.le_of_eq rfl) (hb hby d12_21) (fun _ _ => ⟨rfl, e5, Nat.le_of_ble_eq_true rfl, Nat.le_of_ble_eq_true rfl⟩)
    dsimp only [Pt.U, Pt.locs, Pt.cells, Pt.slots] at X6 l6 y6 z6 st6 hQ6
    subst l6 y6 z6
    obtain ⟨rfl, N6q, e6⟩ := hQ6
    have N6 := Fr.app N4 N6q
    refine own_go (fun _ k => st6 _ k) ?_
    show own_Ends p e below s _ _ _ (T6.setTop (mkF m 24 #[.val (.ref a1), .val (.int (Int32.ofNat i))] [(.int (cs.getD i 0))]))
    exact own_retN X6 hx (t := .char) hrt (by simp) (hb hby d12_24) hlk (show nar .char (cs.getD i 0) = cs.getD i 0 from hC _ (own_mem hi)) (by rw [e6]; exact ⟨rfl, N6, rfl⟩) (by decide) (by decide)
theorem own_not0 {Z : State} {args : Array Value} {X : Term} {y : Int32} (hX : X.eval args Z none [] Z = some (.int y)) (h : (Cond.not (Cond.eq X (.int 0))).value args Z none Z [] = some true) : ¬ y = 0 := by
  intro e
  subst e
  have q := eq_i hX (Term.int_eval 0 (args := args) (first := Z) (o := none) (idx := []) (s := Z)) rfl
  simp [Cond.value, hX, Term.eval] at h
theorem own_isref {Z : State} {args : Array Value} {X : Term} (h : (Cond.isRef X).value args Z none Z [] = some true) : ∃ v, X.eval args Z none [] Z = some v ∧ v.isRef = true := by
  simp only [Cond.value] at h
  cases q : X.eval args Z none [] Z with
  | none => simp [q] at h
  | some v => exact ⟨v, rfl, by cases v <;> simp_all [Value.isRef]⟩
def own_stp (c i from_ sep st : Int32) : Int32 := if st < 0 then st else if i < from_ then st else if st &&& 1 = 0 then (if st &&& 2 = 0 then (if c = 34 then 1 else if c = sep then -(i + 1) else st) else st &&& 1) else (if st &&& 2 = 0 then (if c = 92 then 3 else if c = 34 then 0 else st) else st &&& 1)
def own_end (cs : List Int32) (sep : Int32) : Nat → Bool → Nat → Nat
  | 0, _, _ => cs.length
  | k + 1, q, i => if i < cs.length then (if q = true then (if cs.getD i 0 = 92 then own_end cs sep k true (i + 1 + 1) else if cs.getD i 0 = 34 then own_end cs sep k false (i + 1) else own_end cs sep k true (i + 1)) else (if cs.getD i 0 = 34 then own_end cs sep k true (i + 1) else if cs.getD i 0 = sep then i else own_end cs sep k false (i + 1))) else cs.length
def own_q : Bool → Int32
  | false => 0
  | true => 1
def own_run (cs : List Int32) (sep : Int32) (f : Nat) : Nat → Nat → Int32 → Int32
  | 0, _, st => st
  | k + 1, i, st => own_run cs sep f k (i + 1) (own_stp (cs.getD i 0) (Int32.ofNat i) (Int32.ofNat f) sep st)
def own_exp (st : Int32) : Int32 := if st < 0 then -st - 1 else 5
theorem own_run_neg (cs : List Int32) (sep : Int32) (f : Nat) : ∀ (k i : Nat) (st : Int32), st < 0 → own_run cs sep f k i st = st := by
  intro k
  induction k with
  | zero => intro i st h; rfl
  | succ k ih =>
    intro i st h
    have e : own_stp (cs.getD i 0) (Int32.ofNat i) (Int32.ofNat f) sep st = st := by unfold own_stp; rw [if_pos h]
    rw [own_run, e]
    exact ih (i + 1) st h
theorem own_neg5 : ∀ i : Fin 5, (-(Int32.ofNat i.val + 1) : Int32) < 0 ∧ own_exp (-(Int32.ofNat i.val + 1)) = Int32.ofNat i.val := by decide +kernel
theorem own_stop {cs : List Int32} (hl : cs.length = 5) (sep : Int32) (K : Nat) (q : Bool) {i : Nat} (h : 5 ≤ i) : own_end cs sep K q i = 5 := by
  cases K with
  | zero => exact hl
  | succ K => rw [own_end, if_neg (by omega), hl]
theorem own_st0 {c i f sep : Int32} (h : ¬ i < f) : own_stp c i f sep 0 = if c = 34 then 1 else if c = sep then -(i + 1) else 0 := by
  unfold own_stp; rw [if_neg (by decide), if_neg h, if_pos (by decide), if_pos (by decide)]
theorem own_st1 {c i f sep : Int32} (h : ¬ i < f) : own_stp c i f sep 1 = if c = 92 then 3 else if c = 34 then 0 else 1 := by
  unfold own_stp; rw [if_neg (by decide), if_neg h, if_neg (by decide), if_pos (by decide)]
theorem own_st3 {c i f sep : Int32} (h : ¬ i < f) : own_stp c i f sep 3 = 1 := by
  unfold own_stp; rw [if_neg (by decide), if_neg h, if_neg (by decide), if_neg (by decide)]; decide
theorem own_B {cs : List Int32} (hl : cs.length = 5) (sep : Int32) {f : Nat} : ∀ (k i : Nat), i + k = 5 → f ≤ i → ∀ K, 5 ≤ i + K →
    own_exp (own_run cs sep f k i 0) = Int32.ofNat (own_end cs sep K false i) ∧ own_exp (own_run cs sep f k i 1) = Int32.ofNat (own_end cs sep K true i) ∧ own_exp (own_run cs sep f k i 3) = Int32.ofNat (own_end cs sep K true (i + 1)) := by
  intro k
  induction k with
  | zero =>
    intro i hi hf K hK
    rw [own_stop hl sep K false (by omega), own_stop hl sep K true (by omega), own_stop hl sep K true (by omega)]
    exact ⟨by show own_exp 0 = _; decide, by show own_exp 1 = _; decide, by show own_exp 3 = _; decide⟩
  | succ k ih =>
    intro i hi hf K hK
    obtain ⟨K, rfl⟩ : ∃ j, K = j + 1 := ⟨K - 1, by omega⟩
    have hni : ¬ Int32.ofNat i < Int32.ofNat f := fun q => absurd ((own_ofNat_lt (by omega) (by omega)).mp q) (by omega)
    have hlen : i < cs.length := by omega
    have I := ih (i + 1) (by omega) (by omega) K (by omega)
    refine ⟨?_, ?_, ?_⟩
    · rw [own_run, own_st0 hni, own_end, if_pos hlen, if_neg Bool.false_ne_true]
      by_cases h1 : cs.getD i 0 = 34
      · rw [if_pos h1, if_pos h1]; exact I.2.1
      · rw [if_neg h1, if_neg h1]
        by_cases h2 : cs.getD i 0 = sep
        · rw [if_pos h2, if_pos h2, own_run_neg _ _ _ _ _ _ (own_neg5 ⟨i, by omega⟩).1]
          exact (own_neg5 ⟨i, by omega⟩).2
        · rw [if_neg h2, if_neg h2]; exact I.1
    · rw [own_run, own_st1 hni, own_end, if_pos hlen, if_pos rfl]
      by_cases h1 : cs.getD i 0 = 92
      · rw [if_pos h1, if_pos h1]; exact I.2.2
      · rw [if_neg h1, if_neg h1]
        by_cases h2 : cs.getD i 0 = 34
        · rw [if_pos h2, if_pos h2]; exact I.1
        · rw [if_neg h2, if_neg h2]; exact I.2.1
    · rw [own_run, own_st3 hni]
      exact (ih (i + 1) (by omega) (by omega) (K + 1) (by omega)).2.1
theorem own_C {cs : List Int32} (hl : cs.length = 5) (sep : Int32) {f : Nat} (hf7 : f ≤ 7) : ∀ (k i : Nat), i + k = 5 → i ≤ f → own_exp (own_run cs sep f k i 0) = Int32.ofNat (own_end cs sep 9 false f) := by
  intro k
  induction k with
  | zero =>
    intro i hi hf
    rw [own_stop hl sep 9 false (by omega)]
    show own_exp 0 = _
    decide
  | succ k ih =>
    intro i hi hf
    by_cases e : i = f
    · subst e; exact (own_B hl sep (k + 1) i hi (Nat.le_refl _) 9 (by omega)).1
    · have hlt : Int32.ofNat i < Int32.ofNat f := (own_ofNat_lt (by omega) (by omega)).mpr (by omega)
      have e0 : own_stp (cs.getD i 0) (Int32.ofNat i) (Int32.ofNat f) sep 0 = 0 := by unfold own_stp; rw [if_neg (by decide), if_pos hlt]
      rw [own_run, e0]
      exact ih (i + 1) (by omega) (by omega)
theorem own_and7 (p : Int32) : ∃ f : Nat, p &&& 7 = Int32.ofNat f ∧ f ≤ 7 := by
  have h := c_mask p 7 3 (by decide) (by decide)
  refine ⟨(p &&& 7).toInt.toNat, own_back _ (by omega), by omega⟩
theorem d1_0 : decode method_3_code 0 = .ok (.iload_n 0, 1) := by decide +kernel
theorem d1_1 : decode method_3_code 1 = .ok (.iconst 2, 1) := by decide +kernel
theorem d1_2 : decode method_3_code 2 = .ok (.iload_n 3, 1) := by decide +kernel
theorem d1_3 : decode method_3_code 3 = .ok (.imul, 1) := by decide +kernel
theorem d1_4 : decode method_3_code 4 = .ok (.iushr, 1) := by decide +kernel
theorem d1_5 : decode method_3_code 5 = .ok (.iconst 3, 1) := by decide +kernel
theorem d1_6 : decode method_3_code 6 = .ok (.iand, 1) := by decide +kernel
theorem d1_7 : decode method_3_code 7 = .ok (.istore 5, 2) := by decide +kernel
theorem d1_9 : decode method_3_code 9 = .ok (.iload 5, 2) := by decide +kernel
theorem d1_11 : decode method_3_code 11 = .ok (.ifCond .ne 6, 3) := by decide +kernel
theorem d1_14 : decode method_3_code 14 = .ok (.bipush 34, 2) := by decide +kernel
theorem d1_16 : decode method_3_code 16 = .ok (.ireturn, 1) := by decide +kernel
theorem d1_17 : decode method_3_code 17 = .ok (.iload 5, 2) := by decide +kernel
theorem d1_19 : decode method_3_code 19 = .ok (.iconst 1, 1) := by decide +kernel
theorem d1_20 : decode method_3_code 20 = .ok (.if_icmp .ne 6, 3) := by decide +kernel
theorem d1_23 : decode method_3_code 23 = .ok (.bipush 92, 2) := by decide +kernel
theorem d1_25 : decode method_3_code 25 = .ok (.ireturn, 1) := by decide +kernel
theorem d1_26 : decode method_3_code 26 = .ok (.iload 5, 2) := by decide +kernel
theorem d1_28 : decode method_3_code 28 = .ok (.iconst 2, 1) := by decide +kernel
theorem d1_29 : decode method_3_code 29 = .ok (.if_icmp .ne 6, 3) := by decide +kernel
theorem d1_32 : decode method_3_code 32 = .ok (.iload 4, 2) := by decide +kernel
theorem d1_34 : decode method_3_code 34 = .ok (.ireturn, 1) := by decide +kernel
theorem d1_35 : decode method_3_code 35 = .ok (.lload_n 1, 1) := by decide +kernel
theorem d1_36 : decode method_3_code 36 = .ok (.bipush 8, 2) := by decide +kernel
theorem d1_38 : decode method_3_code 38 = .ok (.iload_n 3, 1) := by decide +kernel
theorem d1_39 : decode method_3_code 39 = .ok (.imul, 1) := by decide +kernel
theorem d1_40 : decode method_3_code 40 = .ok (.lushr, 1) := by decide +kernel
theorem d1_41 : decode method_3_code 41 = .ok (.ldc2_w 29, 3) := by decide +kernel
theorem d1_44 : decode method_3_code 44 = .ok (.land, 1) := by decide +kernel
theorem d1_45 : decode method_3_code 45 = .ok (.l2i, 1) := by decide +kernel
theorem d1_46 : decode method_3_code 46 = .ok (.i2c, 1) := by decide +kernel
theorem d1_47 : decode method_3_code 47 = .ok (.ireturn, 1) := by decide +kernel
theorem pn_4 : plainName "com/example/pagra/pagra/core/HeaderSyntaxEndPinLaw" = true := by first | (simp [plainName, overriddenIn]; done) | decide +kernel
theorem ef_1 (m : MethodId) (x0 : Int32) (x1 : Int64) (x2 : Int32) (x3 : Int32) : entryFrame m #[(.int x0), (.long x1), (.int x2), (.int x3)] 6 = mkF m 0 #[.val (.int x0), .val (.long x1), .second, .val (.int x2), .val (.int x3), .unset] [] := by first | (simp [entryFrame, mkF, argsToLocals, Value.category]; done) | rfl
def Q1 (p1 : Int32) (q2 : Int64) (p3 : Int32) (p4 : Int32) (h0 : Heap) (n0 : Nat) (Z : State) (v : Option Value) (h : Heap) (L : List Loc) : Prop := ∃ c : Int32, v = some (.int c) ∧ nar .char c = c ∧ Fr n0 L ∧ h = h0
set_option maxRecDepth 65536 in
set_option maxHeartbeats 40000000 in
theorem rm1 (l : Launch) (Z : State) (a0 : Array Value) (hw : ∀ d ∈ tables_1, d.before a0 Z = true) (ws : List Jvm.Cond) (p1 : Int32) (q2 : Int64) (p3 : Int32) (p4 : Int32) (h0 : Heap) (n0 : Nat) (Z0 : n0 ≤ h0.size) :
    MetFree l (⟨"com/example/pagra/pagra/core/HeaderSyntaxEndPinLaw", "pick", "(IJIC)C"⟩ : MethodName) (head1 (Jvm.Cond.code (⟨"com/example/pagra/pagra/core/HeaderSyntaxEndPinLaw", "pick", "(IJIC)C"⟩ : MethodName) method_3_code 6 (some .char) :: ws) ({ frames := 0, cells := 0, slots := 0, locals := 0 } : Room)) (fun a U => a = #[(.int p1), (.long q2), (.int p3), (.int p4)] ∧ Z.Warmed39 U.vm ∧ U.heap = h0) (fun _ _ _ _ _ => True) (fun _ U o U' => ∃ v L, o = .returned v ∧ Q1 p1 q2 p3 p4 h0 n0 Z v U'.heap L ∧ FrameEnd U o U' L ({ frames := 0, cells := 0, slots := 0, locals := 0 } : Room).cells ({ frames := 0, cells := 0, slots := 0, locals := 0 } : Room).slots) := by
  refine MetFree.of_bodySF (plainFor_of_name pn_4) hisR ?_
  intro p e s m args below meth c s₁ Bd hml0 hP hK
  obtain ⟨rfl, hZ, hh⟩ := hP
  have hx := Bd.exec
  have hby := Bd.bytes
  have hml : c.maxLocals = 6 := hml0
  have hown : s.vm.findClass "com/example/pagra/pagra/core/HeaderSyntaxEndPinLaw" = some m.cls := findClass_of_methodNamed Bd.named
  have hnm := (name_of_methodNamed Bd.named Bd.method).1
  have hlk := Bd.notSynchronized
  have hrt := Bd.returns
  have X0 : Stand p l e ({ frames := 0, cells := 0, slots := 0, locals := 0 } : Room) s m #[(.int p1), (.long q2), (.int p3), (.int p4)] below meth c s₁ [] 0 0 := Stand.of_body Bd
  have e0 : s₁.heap = h0 := by rw [← hh, Bd.state]; rfl
  have N0 := Fr.nil n0
  show own_Ends p e below s (Q1 p1 q2 p3 p4 h0 n0 Z) ({ frames := 0, cells := 0, slots := 0, locals := 0 } : Room).cells ({ frames := 0, cells := 0, slots := 0, locals := 0 } : Room).slots (s₁.setTop (entryFrame m #[(.int p1), (.long q2), (.int p3), (.int p4)] 6))
  rw [ef_1]
  refine own_go (fun _ k => XS.iloadN X0.here hx rfl (hb hby d1_0) rfl <| XT.iconstV X0.here hx rfl (2 : Int32) (hb hby d1_1) rfl <| XS.iloadN X0.here hx rfl (hb hby d1_2) rfl <| XS.imul X0.here hx rfl (hb hby d1_3) rfl <| XS.iushr X0.here hx rfl (hb hby d1_4) rfl <| XT.iconstV X0.here hx rfl (3 : Int32) (hb hby d1_5) rfl <| XS.iand X0.here hx rfl (hb hby d1_6) rfl <| XS.istore X0.here hx rfl (hb hby d1_7) rfl (l' := #[.val (.int p1), .val (.long q2), .second, .val (.int p3), .val (.int p4), .val (.int (((p1.toUInt32 >>> (((2 : Int32) * p3) &&& 31).toUInt32).toInt32) &&& (3 : Int32)))]) rfl <| XS.iload X0.here hx rfl (hb hby d1_9) rfl <| k) ?_
  show own_Ends p e below s _ _ _ (s₁.setTop (mkF m 11 #[.val (.int p1), .val (.long q2), .second, .val (.int p3), .val (.int p4), .val (.int (((p1.toUInt32 >>> (((2 : Int32) * p3) &&& 31).toUInt32).toInt32) &&& (3 : Int32)))] [(.int (((p1.toUInt32 >>> (((2 : Int32) * p3) &&& 31).toUInt32).toInt32) &&& (3 : Int32)))]))
  by_cases hc11_1 : (((p1.toUInt32 >>> (((2 : Int32) * p3) &&& 31).toUInt32).toInt32) &&& (3 : Int32)) = (0 : Int32)
  · -- true
    refine own_go (fun _ k => XS.ifNo X0.here hx rfl (hb hby d1_11) rfl ((if0 _ _).trans (teq hc11_1).2) <| XT.bipushV X0.here hx rfl (34 : Int32) (hb hby d1_14) rfl <| k) ?_
    show own_Ends p e below s _ _ _ (s₁.setTop (mkF m 16 #[.val (.int p1), .val (.long q2), .second, .val (.int p3), .val (.int p4), .val (.int (((p1.toUInt32 >>> (((2 : Int32) * p3) &&& 31).toUInt32).toInt32) &&& (3 : Int32)))] [(.int (34 : Int32))]))
    exact own_retN X0 hx (t := .char) hrt (by simp) (hb hby d1_16) hlk (show nar .char (34 : Int32) = (34 : Int32) from by decide) (by rw [e0]; exact ⟨_, rfl, by first | decide | exact own_nn _, N0, rfl⟩) (by decide) (by decide)
  · -- false
    refine own_go (fun _ k => XS.ifYes X0.here hx rfl (pc0 := 11) (pc' := 17) rfl (hb hby d1_11) rfl ((if0 _ _).trans (feq hc11_1).2) (by decide) (by decide) <| XS.iload X0.here hx rfl (hb hby d1_17) rfl <| XT.iconstV X0.here hx rfl (1 : Int32) (hb hby d1_19) rfl <| k) ?_
    show own_Ends p e below s _ _ _ (s₁.setTop (mkF m 20 #[.val (.int p1), .val (.long q2), .second, .val (.int p3), .val (.int p4), .val (.int (((p1.toUInt32 >>> (((2 : Int32) * p3) &&& 31).toUInt32).toInt32) &&& (3 : Int32)))] [(.int (1 : Int32)), (.int (((p1.toUInt32 >>> (((2 : Int32) * p3) &&& 31).toUInt32).toInt32) &&& (3 : Int32)))]))
    by_cases hc20_2 : (((p1.toUInt32 >>> (((2 : Int32) * p3) &&& 31).toUInt32).toInt32) &&& (3 : Int32)) = (1 : Int32)
    · -- true
      refine own_go (fun _ k => XS.icmpNo X0.here hx rfl (hb hby d1_20) rfl (teq hc20_2).2 <| XT.bipushV X0.here hx rfl (92 : Int32) (hb hby d1_23) rfl <| k) ?_
      show own_Ends p e below s _ _ _ (s₁.setTop (mkF m 25 #[.val (.int p1), .val (.long q2), .second, .val (.int p3), .val (.int p4), .val (.int (((p1.toUInt32 >>> (((2 : Int32) * p3) &&& 31).toUInt32).toInt32) &&& (3 : Int32)))] [(.int (92 : Int32))]))
      exact own_retN X0 hx (t := .char) hrt (by simp) (hb hby d1_25) hlk (show nar .char (92 : Int32) = (92 : Int32) from by decide) (by rw [e0]; exact ⟨_, rfl, by first | decide | exact own_nn _, N0, rfl⟩) (by decide) (by decide)
    · -- false
      refine own_go (fun _ k => XS.icmpYes X0.here hx rfl (pc0 := 20) (pc' := 26) rfl (hb hby d1_20) rfl (feq hc20_2).2 (by decide) (by decide) <| XS.iload X0.here hx rfl (hb hby d1_26) rfl <| XT.iconstV X0.here hx rfl (2 : Int32) (hb hby d1_28) rfl <| k) ?_
      show own_Ends p e below s _ _ _ (s₁.setTop (mkF m 29 #[.val (.int p1), .val (.long q2), .second, .val (.int p3), .val (.int p4), .val (.int (((p1.toUInt32 >>> (((2 : Int32) * p3) &&& 31).toUInt32).toInt32) &&& (3 : Int32)))] [(.int (2 : Int32)), (.int (((p1.toUInt32 >>> (((2 : Int32) * p3) &&& 31).toUInt32).toInt32) &&& (3 : Int32)))]))
      by_cases hc29_3 : (((p1.toUInt32 >>> (((2 : Int32) * p3) &&& 31).toUInt32).toInt32) &&& (3 : Int32)) = (2 : Int32)
      · -- true
        refine own_go (fun _ k => XS.icmpNo X0.here hx rfl (hb hby d1_29) rfl (teq hc29_3).2 <| XS.iload X0.here hx rfl (hb hby d1_32) rfl <| k) ?_
        show own_Ends p e below s _ _ _ (s₁.setTop (mkF m 34 #[.val (.int p1), .val (.long q2), .second, .val (.int p3), .val (.int p4), .val (.int (((p1.toUInt32 >>> (((2 : Int32) * p3) &&& 31).toUInt32).toInt32) &&& (3 : Int32)))] [(.int p4)]))
        exact own_retN X0 hx (t := .char) hrt (by simp) (hb hby d1_34) hlk rfl (by rw [e0]; exact ⟨_, rfl, by first | decide | exact own_nn _, N0, rfl⟩) (by decide) (by decide)
      · -- false
        refine own_go (fun _ k => XS.icmpYes X0.here hx rfl (pc0 := 29) (pc' := 35) rfl (hb hby d1_29) rfl (feq hc29_3).2 (by decide) (by decide) <| XS.lloadN X0.here hx rfl (hb hby d1_35) rfl <| XT.bipushV X0.here hx rfl (8 : Int32) (hb hby d1_36) rfl <| XS.iloadN X0.here hx rfl (hb hby d1_38) rfl <| XS.imul X0.here hx rfl (hb hby d1_39) rfl <| XS.lushr X0.here hx rfl (hb hby d1_40) rfl <| X0.ldc2J hx hown (mvT hZ (hw _ (List.mem_of_getElem? (i := 74) rfl))) rfl (hb hby d1_41) <| XS.land X0.here hx rfl (hb hby d1_44) rfl <| XS.l2i X0.here hx rfl (hb hby d1_45) rfl <| XS.i2c X0.here hx rfl (hb hby d1_46) rfl <| k) ?_
        show own_Ends p e below s _ _ _ (s₁.setTop (mkF m 47 #[.val (.int p1), .val (.long q2), .second, .val (.int p3), .val (.int p4), .val (.int (((p1.toUInt32 >>> (((2 : Int32) * p3) &&& 31).toUInt32).toInt32) &&& (3 : Int32)))] [(.int (((((q2.toUInt64 >>> (((8 : Int32) * p3) &&& 0x3f).toInt64.toUInt64).toInt64) &&& (255 : Int64)).toInt32).toUInt32.toUInt16.toUInt32.toInt32))]))
        exact own_retN X0 hx (t := .char) hrt (by simp) (hb hby d1_47) hlk rfl (by rw [e0]; exact ⟨_, rfl, by first | decide | exact own_nn _, N0, rfl⟩) (by decide) (by decide)
theorem d8_0 : decode method_4_code 0 = .ok (.iload 4, 2) := by decide +kernel
theorem d8_2 : decode method_4_code 2 = .ok (.ifCond .lt 8, 3) := by decide +kernel
theorem d8_5 : decode method_4_code 5 = .ok (.iload_n 1, 1) := by decide +kernel
theorem d8_6 : decode method_4_code 6 = .ok (.iload_n 2, 1) := by decide +kernel
theorem d8_7 : decode method_4_code 7 = .ok (.if_icmp .ge 6, 3) := by decide +kernel
theorem d8_10 : decode method_4_code 10 = .ok (.iload 4, 2) := by decide +kernel
theorem d8_12 : decode method_4_code 12 = .ok (.ireturn, 1) := by decide +kernel
theorem d8_13 : decode method_4_code 13 = .ok (.iload 4, 2) := by decide +kernel
theorem d8_15 : decode method_4_code 15 = .ok (.iconst 1, 1) := by decide +kernel
theorem d8_16 : decode method_4_code 16 = .ok (.iand, 1) := by decide +kernel
theorem d8_17 : decode method_4_code 17 = .ok (.ifCond .eq 7, 3) := by decide +kernel
theorem d8_20 : decode method_4_code 20 = .ok (.iconst 1, 1) := by decide +kernel
theorem d8_21 : decode method_4_code 21 = .ok (.goto 4, 3) := by decide +kernel
theorem d8_24 : decode method_4_code 24 = .ok (.iconst 0, 1) := by decide +kernel
theorem d8_25 : decode method_4_code 25 = .ok (.istore 5, 2) := by decide +kernel
theorem d8_27 : decode method_4_code 27 = .ok (.iload 4, 2) := by decide +kernel
theorem d8_29 : decode method_4_code 29 = .ok (.iconst 2, 1) := by decide +kernel
theorem d8_30 : decode method_4_code 30 = .ok (.iand, 1) := by decide +kernel
theorem d8_31 : decode method_4_code 31 = .ok (.ifCond .eq 7, 3) := by decide +kernel
theorem d8_34 : decode method_4_code 34 = .ok (.iconst 1, 1) := by decide +kernel
theorem d8_35 : decode method_4_code 35 = .ok (.goto 4, 3) := by decide +kernel
theorem d8_38 : decode method_4_code 38 = .ok (.iconst 0, 1) := by decide +kernel
theorem d8_39 : decode method_4_code 39 = .ok (.istore 6, 2) := by decide +kernel
theorem d8_41 : decode method_4_code 41 = .ok (.iload 6, 2) := by decide +kernel
theorem d8_43 : decode method_4_code 43 = .ok (.ifCond .eq 8, 3) := by decide +kernel
theorem d8_46 : decode method_4_code 46 = .ok (.iload 4, 2) := by decide +kernel
theorem d8_48 : decode method_4_code 48 = .ok (.iconst 1, 1) := by decide +kernel
theorem d8_49 : decode method_4_code 49 = .ok (.iand, 1) := by decide +kernel
theorem d8_50 : decode method_4_code 50 = .ok (.ireturn, 1) := by decide +kernel
theorem d8_51 : decode method_4_code 51 = .ok (.aload_n 0, 1) := by decide +kernel
theorem d8_52 : decode method_4_code 52 = .ok (.iload_n 1, 1) := by decide +kernel
theorem d8_53 : decode method_4_code 53 = .ok (.caload, 1) := by decide +kernel
theorem d8_54 : decode method_4_code 54 = .ok (.istore 7, 2) := by decide +kernel
theorem d8_56 : decode method_4_code 56 = .ok (.iload 5, 2) := by decide +kernel
theorem d8_58 : decode method_4_code 58 = .ok (.ifCond .eq 12, 3) := by decide +kernel
theorem d8_61 : decode method_4_code 61 = .ok (.iload 7, 2) := by decide +kernel
theorem d8_63 : decode method_4_code 63 = .ok (.bipush 92, 2) := by decide +kernel
theorem d8_65 : decode method_4_code 65 = .ok (.if_icmp .ne 5, 3) := by decide +kernel
theorem d8_68 : decode method_4_code 68 = .ok (.iconst 3, 1) := by decide +kernel
theorem d8_69 : decode method_4_code 69 = .ok (.ireturn, 1) := by decide +kernel
theorem d8_70 : decode method_4_code 70 = .ok (.iload 7, 2) := by decide +kernel
theorem d8_72 : decode method_4_code 72 = .ok (.bipush 34, 2) := by decide +kernel
theorem d8_74 : decode method_4_code 74 = .ok (.if_icmp .ne 14, 3) := by decide +kernel
theorem d8_77 : decode method_4_code 77 = .ok (.iload 5, 2) := by decide +kernel
theorem d8_79 : decode method_4_code 79 = .ok (.ifCond .eq 7, 3) := by decide +kernel
theorem d8_82 : decode method_4_code 82 = .ok (.iconst 0, 1) := by decide +kernel
theorem d8_83 : decode method_4_code 83 = .ok (.goto 4, 3) := by decide +kernel
theorem d8_86 : decode method_4_code 86 = .ok (.iconst 1, 1) := by decide +kernel
theorem d8_87 : decode method_4_code 87 = .ok (.ireturn, 1) := by decide +kernel
theorem d8_88 : decode method_4_code 88 = .ok (.iload 5, 2) := by decide +kernel
theorem d8_90 : decode method_4_code 90 = .ok (.ifCond .ne 14, 3) := by decide +kernel
theorem d8_93 : decode method_4_code 93 = .ok (.iload 7, 2) := by decide +kernel
theorem d8_95 : decode method_4_code 95 = .ok (.iload_n 3, 1) := by decide +kernel
theorem d8_96 : decode method_4_code 96 = .ok (.if_icmp .ne 8, 3) := by decide +kernel
theorem d8_99 : decode method_4_code 99 = .ok (.iload_n 1, 1) := by decide +kernel
theorem d8_100 : decode method_4_code 100 = .ok (.iconst 1, 1) := by decide +kernel
theorem d8_101 : decode method_4_code 101 = .ok (.iadd, 1) := by decide +kernel
theorem d8_102 : decode method_4_code 102 = .ok (.ineg, 1) := by decide +kernel
theorem d8_103 : decode method_4_code 103 = .ok (.ireturn, 1) := by decide +kernel
theorem d8_104 : decode method_4_code 104 = .ok (.iload 4, 2) := by decide +kernel
theorem d8_106 : decode method_4_code 106 = .ok (.ireturn, 1) := by decide +kernel
theorem ef_8 (m : MethodId) (x0 : Addr) (x1 : Int32) (x2 : Int32) (x3 : Int32) (x4 : Int32) : entryFrame m #[(.ref x0), (.int x1), (.int x2), (.int x3), (.int x4)] 8 = mkF m 0 #[.val (.ref x0), .val (.int x1), .val (.int x2), .val (.int x3), .val (.int x4), .unset, .unset, .unset] [] := by first | (simp [entryFrame, mkF, argsToLocals, Value.category]; done) | rfl
def Q8 (a1 : Addr) (p3 : Int32) (p4 : Int32) (p5 : Int32) (ka1 : ClassId) (cs : List Int32) (i : Nat) (h0 : Heap) (n0 : Nat) (Z : State) (v : Option Value) (h : Heap) (L : List Loc) : Prop := v = some (.int (own_stp (cs.getD i 0) (Int32.ofNat i) p3 p4 p5)) ∧ Fr n0 L ∧ h = h0
set_option maxRecDepth 65536 in
set_option maxHeartbeats 40000000 in
theorem rm8 (l : Launch) (Z : State) (a0 : Array Value) (hw : ∀ d ∈ tables_1, d.before a0 Z = true) (ws : List Jvm.Cond) (a1 : Addr) (p3 : Int32) (p4 : Int32) (p5 : Int32) (ka1 : ClassId) (cs : List Int32) (i : Nat) (h0 : Heap) (n0 : Nat) (Z0 : n0 ≤ h0.size) (hN : cs.length ≤ 5) (hi : i < cs.length) (V1 : Arv Z h0 a1 ka1 .char (Int32.ofNat cs.length) (cs.map Value.int) (.int (0 : Int32))) :
    MetFree l (⟨"com/example/pagra/pagra/core/HeaderSyntaxEndPinLaw", "step", "([CIICI)I"⟩ : MethodName) (head1 (Jvm.Cond.code (⟨"com/example/pagra/pagra/core/HeaderSyntaxEndPinLaw", "step", "([CIICI)I"⟩ : MethodName) method_4_code 8 (some .int) :: ws) ({ frames := 0, cells := 0, slots := 0, locals := 0 } : Room)) (fun a U => a = #[(.ref a1), (.int (Int32.ofNat i)), (.int p3), (.int p4), (.int p5)] ∧ Z.Warmed39 U.vm ∧ U.heap = h0) (fun _ _ _ _ _ => True) (fun _ U o U' => ∃ v L, o = .returned v ∧ Q8 a1 p3 p4 p5 ka1 cs i h0 n0 Z v U'.heap L ∧ FrameEnd U o U' L ({ frames := 0, cells := 0, slots := 0, locals := 0 } : Room).cells ({ frames := 0, cells := 0, slots := 0, locals := 0 } : Room).slots) := by
  refine MetFree.of_bodySF (plainFor_of_name pn_4) hisR ?_
  intro p e s m args below meth c s₁ Bd hml0 hP hK
  obtain ⟨rfl, hZ, hh⟩ := hP
  have hx := Bd.exec
  have hby := Bd.bytes
  have hml : c.maxLocals = 8 := hml0
  have hown : s.vm.findClass "com/example/pagra/pagra/core/HeaderSyntaxEndPinLaw" = some m.cls := findClass_of_methodNamed Bd.named
  have hnm := (name_of_methodNamed Bd.named Bd.method).1
  have hlk := Bd.notSynchronized
  have hrt := Bd.returns
  have X0 : Stand p l e ({ frames := 0, cells := 0, slots := 0, locals := 0 } : Room) s m #[(.ref a1), (.int (Int32.ofNat i)), (.int p3), (.int p4), (.int p5)] below meth c s₁ [] 0 0 := Stand.of_body Bd
  have e0 : s₁.heap = h0 := by rw [← hh, Bd.state]; rfl
  have N0 := Fr.nil n0
  show own_Ends p e below s (Q8 a1 p3 p4 p5 ka1 cs i h0 n0 Z) ({ frames := 0, cells := 0, slots := 0, locals := 0 } : Room).cells ({ frames := 0, cells := 0, slots := 0, locals := 0 } : Room).slots (s₁.setTop (entryFrame m #[(.ref a1), (.int (Int32.ofNat i)), (.int p3), (.int p4), (.int p5)] 8))
  rw [ef_8]
  refine own_go (fun _ k => XS.iload X0.here hx rfl (hb hby d8_0) rfl <| k) ?_
  show own_Ends p e below s _ _ _ (s₁.setTop (mkF m 2 #[.val (.ref a1), .val (.int (Int32.ofNat i)), .val (.int p3), .val (.int p4), .val (.int p5), .unset, .unset, .unset] [(.int p5)]))
  by_cases hc2_1 : p5 < (0 : Int32)
  · -- true
    refine own_go (fun _ k => XS.ifYes X0.here hx rfl (pc0 := 2) (pc' := 10) rfl (hb hby d8_2) rfl ((if0 _ _).trans (tlt hc2_1).1) (by decide) (by decide) <| XS.iload X0.here hx rfl (hb hby d8_10) rfl <| k) ?_
    show own_Ends p e below s _ _ _ (s₁.setTop (mkF m 12 #[.val (.ref a1), .val (.int (Int32.ofNat i)), .val (.int p3), .val (.int p4), .val (.int p5), .unset, .unset, .unset] [(.int p5)]))
    exact own_ret X0 hx hrt rfl (Or.inl ⟨rfl, Or.inl rfl, _, rfl⟩) (hb hby d8_12) hlk (by rw [e0]; exact ⟨by unfold own_stp; rw [if_pos hc2_1], N0, rfl⟩) (by decide) (by decide)
  · -- false
    refine own_go (fun _ k => XS.ifNo X0.here hx rfl (hb hby d8_2) rfl ((if0 _ _).trans (flt hc2_1).1) <| XS.iloadN X0.here hx rfl (hb hby d8_5) rfl <| XS.iloadN X0.here hx rfl (hb hby d8_6) rfl <| k) ?_
    show own_Ends p e below s _ _ _ (s₁.setTop (mkF m 7 #[.val (.ref a1), .val (.int (Int32.ofNat i)), .val (.int p3), .val (.int p4), .val (.int p5), .unset, .unset, .unset] [(.int p3), (.int (Int32.ofNat i))]))
    by_cases hc7_2 : (Int32.ofNat i) < p3
    · -- true
      refine own_go (fun _ k => XS.icmpNo X0.here hx rfl (hb hby d8_7) rfl (tlt hc7_2).2.1 <| XS.iload X0.here hx rfl (hb hby d8_10) rfl <| k) ?_
      show own_Ends p e below s _ _ _ (s₁.setTop (mkF m 12 #[.val (.ref a1), .val (.int (Int32.ofNat i)), .val (.int p3), .val (.int p4), .val (.int p5), .unset, .unset, .unset] [(.int p5)]))
      exact own_ret X0 hx hrt rfl (Or.inl ⟨rfl, Or.inl rfl, _, rfl⟩) (hb hby d8_12) hlk (by rw [e0]; exact ⟨by unfold own_stp; rw [if_neg hc2_1, if_pos hc7_2], N0, rfl⟩) (by decide) (by decide)
    · -- false
      refine own_go (fun _ k => XS.icmpYes X0.here hx rfl (pc0 := 7) (pc' := 13) rfl (hb hby d8_7) rfl (flt hc7_2).2.1 (by decide) (by decide) <| XS.iload X0.here hx rfl (hb hby d8_13) rfl <| XT.iconstV X0.here hx rfl (1 : Int32) (hb hby d8_15) rfl <| XS.iand X0.here hx rfl (hb hby d8_16) rfl <| k) ?_
      show own_Ends p e below s _ _ _ (s₁.setTop (mkF m 17 #[.val (.ref a1), .val (.int (Int32.ofNat i)), .val (.int p3), .val (.int p4), .val (.int p5), .unset, .unset, .unset] [(.int (p5 &&& (1 : Int32)))]))
      by_cases hc17_3 : (p5 &&& (1 : Int32)) = (0 : Int32)
      · -- true
        refine own_go (fun _ k => XS.ifYes X0.here hx rfl (pc0 := 17) (pc' := 24) rfl (hb hby d8_17) rfl ((if0 _ _).trans (teq hc17_3).1) (by decide) (by decide) <| XT.iconstV X0.here hx rfl (0 : Int32) (hb hby d8_24) rfl <| XS.istore X0.here hx rfl (hb hby d8_25) rfl (l' := #[.val (.ref a1), .val (.int (Int32.ofNat i)), .val (.int p3), .val (.int p4), .val (.int p5), .val (.int (0 : Int32)), .unset, .unset]) rfl <| XS.iload X0.here hx rfl (hb hby d8_27) rfl <| XT.iconstV X0.here hx rfl (2 : Int32) (hb hby d8_29) rfl <| XS.iand X0.here hx rfl (hb hby d8_30) rfl <| k) ?_
        show own_Ends p e below s _ _ _ (s₁.setTop (mkF m 31 #[.val (.ref a1), .val (.int (Int32.ofNat i)), .val (.int p3), .val (.int p4), .val (.int p5), .val (.int (0 : Int32)), .unset, .unset] [(.int (p5 &&& (2 : Int32)))]))
        by_cases hc31_4 : (p5 &&& (2 : Int32)) = (0 : Int32)
        · -- true
          refine own_go (fun _ k => XS.ifYes X0.here hx rfl (pc0 := 31) (pc' := 38) rfl (hb hby d8_31) rfl ((if0 _ _).trans (teq hc31_4).1) (by decide) (by decide) <| XT.iconstV X0.here hx rfl (0 : Int32) (hb hby d8_38) rfl <| XS.istore X0.here hx rfl (hb hby d8_39) rfl (l' := #[.val (.ref a1), .val (.int (Int32.ofNat i)), .val (.int p3), .val (.int p4), .val (.int p5), .val (.int (0 : Int32)), .val (.int (0 : Int32)), .unset]) rfl <| XS.iload X0.here hx rfl (hb hby d8_41) rfl <| XS.ifYes X0.here hx rfl (pc0 := 43) (pc' := 51) rfl (hb hby d8_43) rfl ((if0 _ _).trans (teq (by decide)).1) (by decide) (by decide) <| XS.aloadN X0.here hx rfl (hb hby d8_51) rfl rfl <| XS.iloadN X0.here hx rfl (hb hby d8_52) rfl <| k) ?_
          show own_Ends p e below s _ _ _ (s₁.setTop (mkF m 53 #[.val (.ref a1), .val (.int (Int32.ofNat i)), .val (.int p3), .val (.int p4), .val (.int p5), .val (.int (0 : Int32)), .val (.int (0 : Int32)), .unset] [(.int (Int32.ofNat i)), (.ref a1)]))
          obtain ⟨cla1_53_5, Ara1_53_5, qqa1_53_5, Sza1_53_5, Nga1_53_5, Hsa1_53_5, Gfa1_53_5⟩ := id V1
          have hina1_53_5 : ¬ ((Int32.ofNat i) < 0 ∨ cla1_53_5.slots.size ≤ ((Int32.ofNat i)).toNatClampNeg) := inb_of Sza1_53_5 ⟨own_nneg (by omega), (own_ofNat_lt (by omega) (by omega)).mpr hi⟩
          have hata1_53_5 : cla1_53_5.slots[((Int32.ofNat i)).toNatClampNeg]? = some (.int (cs.getD i 0)) := Hsa1_53_5.at hina1_53_5 (own_getD cs (by omega))
          refine own_go (fun _ k => X0.caload hx (j := (Int32.ofNat i)) (v := (.int (cs.getD i 0))) (by first | exact Ara1_53_5.1 | (rw [e0]; exact Ara1_53_5.1)) (State.isArrayOf_alike hZ.alike Ara1_53_5.2.1) Ara1_53_5.2.2 hina1_53_5 hata1_53_5 (g := (mkF m 53 #[.val (.ref a1), .val (.int (Int32.ofNat i)), .val (.int p3), .val (.int p4), .val (.int p5), .val (.int (0 : Int32)), .val (.int (0 : Int32)), .unset] [(.int (Int32.ofNat i)), (.ref a1)])) rfl rfl (hb hby d8_53) _ k) ?_
          show own_Ends p e below s _ _ _ (s₁.setTop (mkF m 54 #[.val (.ref a1), .val (.int (Int32.ofNat i)), .val (.int p3), .val (.int p4), .val (.int p5), .val (.int (0 : Int32)), .val (.int (0 : Int32)), .unset] [(.int (cs.getD i 0))]))
          refine own_go (fun _ k => XS.istore X0.here hx rfl (hb hby d8_54) rfl (l' := #[.val (.ref a1), .val (.int (Int32.ofNat i)), .val (.int p3), .val (.int p4), .val (.int p5), .val (.int (0 : Int32)), .val (.int (0 : Int32)), .val (.int (cs.getD i 0))]) rfl <| XS.iload X0.here hx rfl (hb hby d8_56) rfl <| XS.ifYes X0.here hx rfl (pc0 := 58) (pc' := 70) rfl (hb hby d8_58) rfl ((if0 _ _).trans (teq (by decide)).1) (by decide) (by decide) <| XS.iload X0.here hx rfl (hb hby d8_70) rfl <| XT.bipushV X0.here hx rfl (34 : Int32) (hb hby d8_72) rfl <| k) ?_
          show own_Ends p e below s _ _ _ (s₁.setTop (mkF m 74 #[.val (.ref a1), .val (.int (Int32.ofNat i)), .val (.int p3), .val (.int p4), .val (.int p5), .val (.int (0 : Int32)), .val (.int (0 : Int32)), .val (.int (cs.getD i 0))] [(.int (34 : Int32)), (.int (cs.getD i 0))]))
          by_cases hc74_6 : (cs.getD i 0) = (34 : Int32)
          · -- true
            refine own_go (fun _ k => XS.icmpNo X0.here hx rfl (hb hby d8_74) rfl (teq hc74_6).2 <| XS.iload X0.here hx rfl (hb hby d8_77) rfl <| XS.ifYes X0.here hx rfl (pc0 := 79) (pc' := 86) rfl (hb hby d8_79) rfl ((if0 _ _).trans (teq (by decide)).1) (by decide) (by decide) <| XT.iconstV X0.here hx rfl (1 : Int32) (hb hby d8_86) rfl <| k) ?_
            show own_Ends p e below s _ _ _ (s₁.setTop (mkF m 87 #[.val (.ref a1), .val (.int (Int32.ofNat i)), .val (.int p3), .val (.int p4), .val (.int p5), .val (.int (0 : Int32)), .val (.int (0 : Int32)), .val (.int (cs.getD i 0))] [(.int (1 : Int32))]))
            exact own_ret X0 hx hrt rfl (Or.inl ⟨rfl, Or.inl rfl, _, rfl⟩) (hb hby d8_87) hlk (by rw [e0]; exact ⟨by unfold own_stp; rw [if_neg hc2_1, if_neg hc7_2, if_pos hc17_3, if_pos hc31_4, if_pos hc74_6], N0, rfl⟩) (by decide) (by decide)
          · -- false
            refine own_go (fun _ k => XS.icmpYes X0.here hx rfl (pc0 := 74) (pc' := 88) rfl (hb hby d8_74) rfl (feq hc74_6).2 (by decide) (by decide) <| XS.iload X0.here hx rfl (hb hby d8_88) rfl <| XS.ifNo X0.here hx rfl (hb hby d8_90) rfl ((if0 _ _).trans (teq (by decide)).2) <| XS.iload X0.here hx rfl (hb hby d8_93) rfl <| XS.iloadN X0.here hx rfl (hb hby d8_95) rfl <| k) ?_
            show own_Ends p e below s _ _ _ (s₁.setTop (mkF m 96 #[.val (.ref a1), .val (.int (Int32.ofNat i)), .val (.int p3), .val (.int p4), .val (.int p5), .val (.int (0 : Int32)), .val (.int (0 : Int32)), .val (.int (cs.getD i 0))] [(.int p4), (.int (cs.getD i 0))]))
            by_cases hc96_7 : (cs.getD i 0) = p4
            · -- true
              refine own_go (fun _ k => XS.icmpNo X0.here hx rfl (hb hby d8_96) rfl (teq hc96_7).2 <| XS.iloadN X0.here hx rfl (hb hby d8_99) rfl <| XT.iconstV X0.here hx rfl (1 : Int32) (hb hby d8_100) rfl <| XS.iadd X0.here hx rfl (hb hby d8_101) rfl <| XS.ineg X0.here hx rfl (hb hby d8_102) rfl <| k) ?_
              show own_Ends p e below s _ _ _ (s₁.setTop (mkF m 103 #[.val (.ref a1), .val (.int (Int32.ofNat i)), .val (.int p3), .val (.int p4), .val (.int p5), .val (.int (0 : Int32)), .val (.int (0 : Int32)), .val (.int (cs.getD i 0))] [(.int (-((Int32.ofNat i) + (1 : Int32))))]))
              exact own_ret X0 hx hrt rfl (Or.inl ⟨rfl, Or.inl rfl, _, rfl⟩) (hb hby d8_103) hlk (by rw [e0]; exact ⟨by unfold own_stp; rw [if_neg hc2_1, if_neg hc7_2, if_pos hc17_3, if_pos hc31_4, if_neg hc74_6, if_pos hc96_7], N0, rfl⟩) (by decide) (by decide)
            · -- false
              refine own_go (fun _ k => XS.icmpYes X0.here hx rfl (pc0 := 96) (pc' := 104) rfl (hb hby d8_96) rfl (feq hc96_7).2 (by decide) (by decide) <| XS.iload X0.here hx rfl (hb hby d8_104) rfl <| k) ?_
              show own_Ends p e below s _ _ _ (s₁.setTop (mkF m 106 #[.val (.ref a1), .val (.int (Int32.ofNat i)), .val (.int p3), .val (.int p4), .val (.int p5), .val (.int (0 : Int32)), .val (.int (0 : Int32)), .val (.int (cs.getD i 0))] [(.int p5)]))
              exact own_ret X0 hx hrt rfl (Or.inl ⟨rfl, Or.inl rfl, _, rfl⟩) (hb hby d8_106) hlk (by rw [e0]; exact ⟨by unfold own_stp; rw [if_neg hc2_1, if_neg hc7_2, if_pos hc17_3, if_pos hc31_4, if_neg hc74_6, if_neg hc96_7], N0, rfl⟩) (by decide) (by decide)
        · -- false
          refine own_go (fun _ k => XS.ifNo X0.here hx rfl (hb hby d8_31) rfl ((if0 _ _).trans (feq hc31_4).1) <| XT.iconstV X0.here hx rfl (1 : Int32) (hb hby d8_34) rfl <| XS.goto X0.here hx rfl (pc0 := 35) (pc' := 39) rfl (hb hby d8_35) (by decide) (by decide) <| XS.istore X0.here hx rfl (hb hby d8_39) rfl (l' := #[.val (.ref a1), .val (.int (Int32.ofNat i)), .val (.int p3), .val (.int p4), .val (.int p5), .val (.int (0 : Int32)), .val (.int (1 : Int32)), .unset]) rfl <| XS.iload X0.here hx rfl (hb hby d8_41) rfl <| XS.ifNo X0.here hx rfl (hb hby d8_43) rfl ((if0 _ _).trans (feq (by decide)).1) <| XS.iload X0.here hx rfl (hb hby d8_46) rfl <| XT.iconstV X0.here hx rfl (1 : Int32) (hb hby d8_48) rfl <| XS.iand X0.here hx rfl (hb hby d8_49) rfl <| k) ?_
          show own_Ends p e below s _ _ _ (s₁.setTop (mkF m 50 #[.val (.ref a1), .val (.int (Int32.ofNat i)), .val (.int p3), .val (.int p4), .val (.int p5), .val (.int (0 : Int32)), .val (.int (1 : Int32)), .unset] [(.int (p5 &&& (1 : Int32)))]))
          exact own_ret X0 hx hrt rfl (Or.inl ⟨rfl, Or.inl rfl, _, rfl⟩) (hb hby d8_50) hlk (by rw [e0]; exact ⟨by unfold own_stp; rw [if_neg hc2_1, if_neg hc7_2, if_pos hc17_3, if_neg hc31_4], N0, rfl⟩) (by decide) (by decide)
      · -- false
        refine own_go (fun _ k => XS.ifNo X0.here hx rfl (hb hby d8_17) rfl ((if0 _ _).trans (feq hc17_3).1) <| XT.iconstV X0.here hx rfl (1 : Int32) (hb hby d8_20) rfl <| XS.goto X0.here hx rfl (pc0 := 21) (pc' := 25) rfl (hb hby d8_21) (by decide) (by decide) <| XS.istore X0.here hx rfl (hb hby d8_25) rfl (l' := #[.val (.ref a1), .val (.int (Int32.ofNat i)), .val (.int p3), .val (.int p4), .val (.int p5), .val (.int (1 : Int32)), .unset, .unset]) rfl <| XS.iload X0.here hx rfl (hb hby d8_27) rfl <| XT.iconstV X0.here hx rfl (2 : Int32) (hb hby d8_29) rfl <| XS.iand X0.here hx rfl (hb hby d8_30) rfl <| k) ?_
        show own_Ends p e below s _ _ _ (s₁.setTop (mkF m 31 #[.val (.ref a1), .val (.int (Int32.ofNat i)), .val (.int p3), .val (.int p4), .val (.int p5), .val (.int (1 : Int32)), .unset, .unset] [(.int (p5 &&& (2 : Int32)))]))
        by_cases hc31_8 : (p5 &&& (2 : Int32)) = (0 : Int32)
        · -- true
          refine own_go (fun _ k => XS.ifYes X0.here hx rfl (pc0 := 31) (pc' := 38) rfl (hb hby d8_31) rfl ((if0 _ _).trans (teq hc31_8).1) (by decide) (by decide) <| XT.iconstV X0.here hx rfl (0 : Int32) (hb hby d8_38) rfl <| XS.istore X0.here hx rfl (hb hby d8_39) rfl (l' := #[.val (.ref a1), .val (.int (Int32.ofNat i)), .val (.int p3), .val (.int p4), .val (.int p5), .val (.int (1 : Int32)), .val (.int (0 : Int32)), .unset]) rfl <| XS.iload X0.here hx rfl (hb hby d8_41) rfl <| XS.ifYes X0.here hx rfl (pc0 := 43) (pc' := 51) rfl (hb hby d8_43) rfl ((if0 _ _).trans (teq (by decide)).1) (by decide) (by decide) <| XS.aloadN X0.here hx rfl (hb hby d8_51) rfl rfl <| XS.iloadN X0.here hx rfl (hb hby d8_52) rfl <| k) ?_
          show own_Ends p e below s _ _ _ (s₁.setTop (mkF m 53 #[.val (.ref a1), .val (.int (Int32.ofNat i)), .val (.int p3), .val (.int p4), .val (.int p5), .val (.int (1 : Int32)), .val (.int (0 : Int32)), .unset] [(.int (Int32.ofNat i)), (.ref a1)]))
          obtain ⟨cla1_53_9, Ara1_53_9, qqa1_53_9, Sza1_53_9, Nga1_53_9, Hsa1_53_9, Gfa1_53_9⟩ := id V1
          have hina1_53_9 : ¬ ((Int32.ofNat i) < 0 ∨ cla1_53_9.slots.size ≤ ((Int32.ofNat i)).toNatClampNeg) := inb_of Sza1_53_9 ⟨own_nneg (by omega), (own_ofNat_lt (by omega) (by omega)).mpr hi⟩
          have hata1_53_9 : cla1_53_9.slots[((Int32.ofNat i)).toNatClampNeg]? = some (.int (cs.getD i 0)) := Hsa1_53_9.at hina1_53_9 (own_getD cs (by omega))
          refine own_go (fun _ k => X0.caload hx (j := (Int32.ofNat i)) (v := (.int (cs.getD i 0))) (by first | exact Ara1_53_9.1 | (rw [e0]; exact Ara1_53_9.1)) (State.isArrayOf_alike hZ.alike Ara1_53_9.2.1) Ara1_53_9.2.2 hina1_53_9 hata1_53_9 (g := (mkF m 53 #[.val (.ref a1), .val (.int (Int32.ofNat i)), .val (.int p3), .val (.int p4), .val (.int p5), .val (.int (1 : Int32)), .val (.int (0 : Int32)), .unset] [(.int (Int32.ofNat i)), (.ref a1)])) rfl rfl (hb hby d8_53) _ k) ?_
          show own_Ends p e below s _ _ _ (s₁.setTop (mkF m 54 #[.val (.ref a1), .val (.int (Int32.ofNat i)), .val (.int p3), .val (.int p4), .val (.int p5), .val (.int (1 : Int32)), .val (.int (0 : Int32)), .unset] [(.int (cs.getD i 0))]))
          refine own_go (fun _ k => XS.istore X0.here hx rfl (hb hby d8_54) rfl (l' := #[.val (.ref a1), .val (.int (Int32.ofNat i)), .val (.int p3), .val (.int p4), .val (.int p5), .val (.int (1 : Int32)), .val (.int (0 : Int32)), .val (.int (cs.getD i 0))]) rfl <| XS.iload X0.here hx rfl (hb hby d8_56) rfl <| XS.ifNo X0.here hx rfl (hb hby d8_58) rfl ((if0 _ _).trans (feq (by decide)).1) <| XS.iload X0.here hx rfl (hb hby d8_61) rfl <| XT.bipushV X0.here hx rfl (92 : Int32) (hb hby d8_63) rfl <| k) ?_
          show own_Ends p e below s _ _ _ (s₁.setTop (mkF m 65 #[.val (.ref a1), .val (.int (Int32.ofNat i)), .val (.int p3), .val (.int p4), .val (.int p5), .val (.int (1 : Int32)), .val (.int (0 : Int32)), .val (.int (cs.getD i 0))] [(.int (92 : Int32)), (.int (cs.getD i 0))]))
          by_cases hc65_10 : (cs.getD i 0) = (92 : Int32)
          · -- true
            refine own_go (fun _ k => XS.icmpNo X0.here hx rfl (hb hby d8_65) rfl (teq hc65_10).2 <| XT.iconstV X0.here hx rfl (3 : Int32) (hb hby d8_68) rfl <| k) ?_
            show own_Ends p e below s _ _ _ (s₁.setTop (mkF m 69 #[.val (.ref a1), .val (.int (Int32.ofNat i)), .val (.int p3), .val (.int p4), .val (.int p5), .val (.int (1 : Int32)), .val (.int (0 : Int32)), .val (.int (cs.getD i 0))] [(.int (3 : Int32))]))
            exact own_ret X0 hx hrt rfl (Or.inl ⟨rfl, Or.inl rfl, _, rfl⟩) (hb hby d8_69) hlk (by rw [e0]; exact ⟨by unfold own_stp; rw [if_neg hc2_1, if_neg hc7_2, if_neg hc17_3, if_pos hc31_8, if_pos hc65_10], N0, rfl⟩) (by decide) (by decide)
          · -- false
            refine own_go (fun _ k => XS.icmpYes X0.here hx rfl (pc0 := 65) (pc' := 70) rfl (hb hby d8_65) rfl (feq hc65_10).2 (by decide) (by decide) <| XS.iload X0.here hx rfl (hb hby d8_70) rfl <| XT.bipushV X0.here hx rfl (34 : Int32) (hb hby d8_72) rfl <| k) ?_
            show own_Ends p e below s _ _ _ (s₁.setTop (mkF m 74 #[.val (.ref a1), .val (.int (Int32.ofNat i)), .val (.int p3), .val (.int p4), .val (.int p5), .val (.int (1 : Int32)), .val (.int (0 : Int32)), .val (.int (cs.getD i 0))] [(.int (34 : Int32)), (.int (cs.getD i 0))]))
            by_cases hc74_11 : (cs.getD i 0) = (34 : Int32)
            · -- true
              refine own_go (fun _ k => XS.icmpNo X0.here hx rfl (hb hby d8_74) rfl (teq hc74_11).2 <| XS.iload X0.here hx rfl (hb hby d8_77) rfl <| XS.ifNo X0.here hx rfl (hb hby d8_79) rfl ((if0 _ _).trans (feq (by decide)).1) <| XT.iconstV X0.here hx rfl (0 : Int32) (hb hby d8_82) rfl <| XS.goto X0.here hx rfl (pc0 := 83) (pc' := 87) rfl (hb hby d8_83) (by decide) (by decide) <| k) ?_
              show own_Ends p e below s _ _ _ (s₁.setTop (mkF m 87 #[.val (.ref a1), .val (.int (Int32.ofNat i)), .val (.int p3), .val (.int p4), .val (.int p5), .val (.int (1 : Int32)), .val (.int (0 : Int32)), .val (.int (cs.getD i 0))] [(.int (0 : Int32))]))
              exact own_ret X0 hx hrt rfl (Or.inl ⟨rfl, Or.inl rfl, _, rfl⟩) (hb hby d8_87) hlk (by rw [e0]; exact ⟨by unfold own_stp; rw [if_neg hc2_1, if_neg hc7_2, if_neg hc17_3, if_pos hc31_8, if_neg hc65_10, if_pos hc74_11], N0, rfl⟩) (by decide) (by decide)
            · -- false
              refine own_go (fun _ k => XS.icmpYes X0.here hx rfl (pc0 := 74) (pc' := 88) rfl (hb hby d8_74) rfl (feq hc74_11).2 (by decide) (by decide) <| XS.iload X0.here hx rfl (hb hby d8_88) rfl <| XS.ifYes X0.here hx rfl (pc0 := 90) (pc' := 104) rfl (hb hby d8_90) rfl ((if0 _ _).trans (feq (by decide)).2) (by decide) (by decide) <| XS.iload X0.here hx rfl (hb hby d8_104) rfl <| k) ?_
              show own_Ends p e below s _ _ _ (s₁.setTop (mkF m 106 #[.val (.ref a1), .val (.int (Int32.ofNat i)), .val (.int p3), .val (.int p4), .val (.int p5), .val (.int (1 : Int32)), .val (.int (0 : Int32)), .val (.int (cs.getD i 0))] [(.int p5)]))
              exact own_ret X0 hx hrt rfl (Or.inl ⟨rfl, Or.inl rfl, _, rfl⟩) (hb hby d8_106) hlk (by rw [e0]; exact ⟨by unfold own_stp; rw [if_neg hc2_1, if_neg hc7_2, if_neg hc17_3, if_pos hc31_8, if_neg hc65_10, if_neg hc74_11], N0, rfl⟩) (by decide) (by decide)
        · -- false
          refine own_go (fun _ k => XS.ifNo X0.here hx rfl (hb hby d8_31) rfl ((if0 _ _).trans (feq hc31_8).1) <| XT.iconstV X0.here hx rfl (1 : Int32) (hb hby d8_34) rfl <| XS.goto X0.here hx rfl (pc0 := 35) (pc' := 39) rfl (hb hby d8_35) (by decide) (by decide) <| XS.istore X0.here hx rfl (hb hby d8_39) rfl (l' := #[.val (.ref a1), .val (.int (Int32.ofNat i)), .val (.int p3), .val (.int p4), .val (.int p5), .val (.int (1 : Int32)), .val (.int (1 : Int32)), .unset]) rfl <| XS.iload X0.here hx rfl (hb hby d8_41) rfl <| XS.ifNo X0.here hx rfl (hb hby d8_43) rfl ((if0 _ _).trans (feq (by decide)).1) <| XS.iload X0.here hx rfl (hb hby d8_46) rfl <| XT.iconstV X0.here hx rfl (1 : Int32) (hb hby d8_48) rfl <| XS.iand X0.here hx rfl (hb hby d8_49) rfl <| k) ?_
          show own_Ends p e below s _ _ _ (s₁.setTop (mkF m 50 #[.val (.ref a1), .val (.int (Int32.ofNat i)), .val (.int p3), .val (.int p4), .val (.int p5), .val (.int (1 : Int32)), .val (.int (1 : Int32)), .unset] [(.int (p5 &&& (1 : Int32)))]))
          exact own_ret X0 hx hrt rfl (Or.inl ⟨rfl, Or.inl rfl, _, rfl⟩) (hb hby d8_50) hlk (by rw [e0]; exact ⟨by unfold own_stp; rw [if_neg hc2_1, if_neg hc7_2, if_neg hc17_3, if_neg hc31_8], N0, rfl⟩) (by decide) (by decide)
theorem d9_0 : decode prog_12_method_3_code 0 = .ok (.iconst 0, 1) := by decide +kernel
theorem d9_1 : decode prog_12_method_3_code 1 = .ok (.istore_n 3, 1) := by decide +kernel
theorem d9_2 : decode prog_12_method_3_code 2 = .ok (.iload_n 1, 1) := by decide +kernel
theorem d9_3 : decode prog_12_method_3_code 3 = .ok (.istore 4, 2) := by decide +kernel
theorem d9_5 : decode prog_12_method_3_code 5 = .ok (.iload 4, 2) := by decide +kernel
theorem d9_7 : decode prog_12_method_3_code 7 = .ok (.aload_n 0, 1) := by decide +kernel
theorem d9_8 : decode prog_12_method_3_code 8 = .ok (.invokevirtual 16, 3) := by decide +kernel
theorem d9_11 : decode prog_12_method_3_code 11 = .ok (.if_icmp .ge 67, 3) := by decide +kernel
theorem d9_14 : decode prog_12_method_3_code 14 = .ok (.aload_n 0, 1) := by decide +kernel
theorem d9_15 : decode prog_12_method_3_code 15 = .ok (.iload 4, 2) := by decide +kernel
theorem d9_17 : decode prog_12_method_3_code 17 = .ok (.invokevirtual 35, 3) := by decide +kernel
theorem d9_20 : decode prog_12_method_3_code 20 = .ok (.istore 5, 2) := by decide +kernel
theorem d9_22 : decode prog_12_method_3_code 22 = .ok (.iload_n 3, 1) := by decide +kernel
theorem d9_23 : decode prog_12_method_3_code 23 = .ok (.ifCond .eq 16, 3) := by decide +kernel
theorem d9_26 : decode prog_12_method_3_code 26 = .ok (.iload 5, 2) := by decide +kernel
theorem d9_28 : decode prog_12_method_3_code 28 = .ok (.bipush 92, 2) := by decide +kernel
theorem d9_30 : decode prog_12_method_3_code 30 = .ok (.if_icmp .ne 9, 3) := by decide +kernel
theorem d9_33 : decode prog_12_method_3_code 33 = .ok (.iinc 4 1, 3) := by decide +kernel
theorem d9_36 : decode prog_12_method_3_code 36 = .ok (.goto 36, 3) := by decide +kernel
theorem d9_39 : decode prog_12_method_3_code 39 = .ok (.iload 5, 2) := by decide +kernel
theorem d9_41 : decode prog_12_method_3_code 41 = .ok (.bipush 34, 2) := by decide +kernel
theorem d9_43 : decode prog_12_method_3_code 43 = .ok (.if_icmp .ne 16, 3) := by decide +kernel
theorem d9_46 : decode prog_12_method_3_code 46 = .ok (.iload_n 3, 1) := by decide +kernel
theorem d9_47 : decode prog_12_method_3_code 47 = .ok (.ifCond .ne 7, 3) := by decide +kernel
theorem d9_50 : decode prog_12_method_3_code 50 = .ok (.iconst 1, 1) := by decide +kernel
theorem d9_51 : decode prog_12_method_3_code 51 = .ok (.goto 4, 3) := by decide +kernel
theorem d9_54 : decode prog_12_method_3_code 54 = .ok (.iconst 0, 1) := by decide +kernel
theorem d9_55 : decode prog_12_method_3_code 55 = .ok (.istore_n 3, 1) := by decide +kernel
theorem d9_56 : decode prog_12_method_3_code 56 = .ok (.goto 16, 3) := by decide +kernel
theorem d9_59 : decode prog_12_method_3_code 59 = .ok (.iload_n 3, 1) := by decide +kernel
theorem d9_60 : decode prog_12_method_3_code 60 = .ok (.ifCond .ne 12, 3) := by decide +kernel
theorem d9_63 : decode prog_12_method_3_code 63 = .ok (.iload 5, 2) := by decide +kernel
theorem d9_65 : decode prog_12_method_3_code 65 = .ok (.iload_n 2, 1) := by decide +kernel
theorem d9_66 : decode prog_12_method_3_code 66 = .ok (.if_icmp .ne 6, 3) := by decide +kernel
theorem d9_69 : decode prog_12_method_3_code 69 = .ok (.iload 4, 2) := by decide +kernel
theorem d9_71 : decode prog_12_method_3_code 71 = .ok (.ireturn, 1) := by decide +kernel
theorem d9_72 : decode prog_12_method_3_code 72 = .ok (.iinc 4 1, 3) := by decide +kernel
theorem d9_75 : decode prog_12_method_3_code 75 = .ok (.goto (-70), 3) := by decide +kernel
theorem d9_78 : decode prog_12_method_3_code 78 = .ok (.aload_n 0, 1) := by decide +kernel
theorem d9_79 : decode prog_12_method_3_code 79 = .ok (.invokevirtual 16, 3) := by decide +kernel
theorem d9_82 : decode prog_12_method_3_code 82 = .ok (.ireturn, 1) := by decide +kernel
theorem pn_5 : plainName "com/example/pagra/pagra/core/HeaderSyntax" = true := by first | (simp [plainName, overriddenIn]; done) | decide +kernel
theorem ef_9 (m : MethodId) (x0 : Addr) (x1 : Int32) (x2 : Int32) : entryFrame m #[(.ref x0), (.int x1), (.int x2)] 6 = mkF m 0 #[.val (.ref x0), .val (.int x1), .val (.int x2), .unset, .unset, .unset] [] := by first | (simp [entryFrame, mkF, argsToLocals, Value.category]; done) | rfl
def Q9 (a1 : Addr) (p3 : Int32) (vc : Int32) (vf : Value) (b : Addr) (kb : ClassId) (kc : Int32) (cs : List Int32) (f : Nat) (h0 : Heap) (n0 : Nat) (Z : State) (v : Option Value) (h : Heap) (L : List Loc) : Prop := v = some (.int (Int32.ofNat (own_end cs p3 9 false f))) ∧ Fr n0 L ∧ h = h0
set_option maxRecDepth 65536 in
set_option maxHeartbeats 40000000 in
theorem rm9 (l : Launch) (Z : State) (a0 : Array Value) (hw : ∀ d ∈ tables_1, d.before a0 Z = true) (ws : List Jvm.Cond) (a1 : Addr) (p3 : Int32) (vc : Int32) (vf : Value) (b : Addr) (kb : ClassId) (kc : Int32) (cs : List Int32) (f : Nat) (h0 : Heap) (n0 : Nat) (Z0 : n0 ≤ h0.size) (O0 : Old Z n0 h0) (ST : own_St Z vc vf) (hN : cs.length ≤ 5) (hC : own_Ch cs) (hf : f ≤ 7) (E_a1 : Exa Z h0 a1 "java/lang/String") (Fv_a1 : Fld Z h0 a1 "java/lang/String" "value" "[B" (.ref b)) (Fc_a1 : Fld Z h0 a1 "java/lang/String" "coder" "B" (.int kc)) (V_a1 : Arv Z h0 b kb .byte (own_zz kc (cs).length) (own_vs kc cs) (.int (0 : Int32))) (hk_a1 : own_KC kc cs) :
    MetFree l (⟨"com/example/pagra/pagra/core/HeaderSyntax", "end", "(Ljava/lang/String;IC)I"⟩ : MethodName) (head1 (Jvm.Cond.code (⟨"com/example/pagra/pagra/core/HeaderSyntax", "end", "(Ljava/lang/String;IC)I"⟩ : MethodName) prog_12_method_3_code 6 (some .int) :: ws) ({ frames := 5, cells := 0, slots := 0, locals := 80 } : Room)) (fun a U => a = #[(.ref a1), (.int (Int32.ofNat f)), (.int p3)] ∧ Z.Warmed39 U.vm ∧ U.heap = h0) (fun _ _ _ _ _ => True) (fun _ U o U' => ∃ v L, o = .returned v ∧ Q9 a1 p3 vc vf b kb kc cs f h0 n0 Z v U'.heap L ∧ FrameEnd U o U' L ({ frames := 5, cells := 0, slots := 0, locals := 80 } : Room).cells ({ frames := 5, cells := 0, slots := 0, locals := 80 } : Room).slots) := by
  refine MetFree.of_bodySF (plainFor_of_name pn_5) hisR ?_
  intro p e s m args below meth c s₁ Bd hml0 hP hK
  obtain ⟨rfl, hZ, hh⟩ := hP
  have hx := Bd.exec
  have hby := Bd.bytes
  have hml : c.maxLocals = 6 := hml0
  have hown : s.vm.findClass "com/example/pagra/pagra/core/HeaderSyntax" = some m.cls := findClass_of_methodNamed Bd.named
  have hnm := (name_of_methodNamed Bd.named Bd.method).1
  have hlk := Bd.notSynchronized
  have hrt := Bd.returns
  have X0 : Stand p l e ({ frames := 5, cells := 0, slots := 0, locals := 80 } : Room) s m #[(.ref a1), (.int (Int32.ofNat f)), (.int p3)] below meth c s₁ [] 0 0 := Stand.of_body Bd
  have e0 : s₁.heap = h0 := by rw [← hh, Bd.state]; rfl
  have N0 := Fr.nil n0
  show own_Ends p e below s (Q9 a1 p3 vc vf b kb kc cs f h0 n0 Z) ({ frames := 5, cells := 0, slots := 0, locals := 80 } : Room).cells ({ frames := 5, cells := 0, slots := 0, locals := 80 } : Room).slots (s₁.setTop (entryFrame m #[(.ref a1), (.int (Int32.ofNat f)), (.int p3)] 6))
  rw [ef_9]
  obtain ⟨HVC, SCS, SAD, SHI, SLO, SIO, HVF⟩ := id ST
  refine own_go (fun _ k => XT.iconstV X0.here hx rfl (0 : Int32) (hb hby d9_0) rfl <| XS.istoreN X0.here hx rfl (hb hby d9_1) rfl (l' := #[.val (.ref a1), .val (.int (Int32.ofNat f)), .val (.int p3), .val (.int (0 : Int32)), .unset, .unset]) rfl <| XS.iloadN X0.here hx rfl (hb hby d9_2) rfl <| XS.istore X0.here hx rfl (hb hby d9_3) rfl (l' := #[.val (.ref a1), .val (.int (Int32.ofNat f)), .val (.int p3), .val (.int (0 : Int32)), .val (.int (Int32.ofNat f)), .unset]) rfl <| k) ?_
  show own_Ends p e below s _ _ _ (s₁.setTop (mkF m 5 #[.val (.ref a1), .val (.int (Int32.ofNat f)), .val (.int p3), .val (.int (0 : Int32)), .val (.int (Int32.ofNat f)), .unset] []))
  have loop : ∀ (k i : Nat) (q : Bool), cs.length ≤ i + k ∧ i ≤ 7 + 2 * (9 - k) ∧ k ≤ 9 → own_end cs p3 k q i = own_end cs p3 9 false f → ∀ (T : State) (locs : List Loc) (s5 : Slot), One s5 → Stand p l e ({ frames := 5, cells := 0, slots := 0, locals := 80 } : Room) s m #[(.ref a1), (.int (Int32.ofNat f)), (.int p3)] below meth c T locs 0 0 → T.heap = h0 → Fr n0 locs → own_Ends p e below s (Q9 a1 p3 vc vf b kb kc cs f h0 n0 Z) ({ frames := 5, cells := 0, slots := 0, locals := 80 } : Room).cells ({ frames := 5, cells := 0, slots := 0, locals := 80 } : Room).slots (T.setTop (mkF m 5 #[.val (.ref a1), .val (.int (Int32.ofNat f)), .val (.int p3), .val (.int (own_q q)), .val (.int (Int32.ofNat i)), s5] [])) := by
    intro k
    induction k with
    | zero =>
      intro i q hi hr T locs s5 hs5 XM eM NM
      have hr2 : cs.length = own_end cs p3 9 false f := hr
      refine own_go (fun _ k => XS.iload XM.here hx rfl (hb hby d9_5) rfl <| XS.aloadN XM.here hx rfl (hb hby d9_7) rfl rfl <| k) ?_
      show own_Ends p e below s _ _ _ (T.setTop (mkF m 8 #[.val (.ref a1), .val (.int (Int32.ofNat f)), .val (.int p3), .val (.int (own_q q)), .val (.int (Int32.ofNat i)), s5] [(.ref a1), (.int (Int32.ofNat i))]))
      obtain ⟨cq1, kq1, q1a, q1b, q1c⟩ := isOf hZ eM E_a1
      obtain ⟨_, _, ⟨T1, L1, k1, n1⟩, -, X1, ⟨Lc1, hQ1, l1, y1, z1⟩, st1⟩ := XM.virtualBack hx (y := (⟨"java/lang/String", "length", "()I"⟩ : MethodName)) (z := (⟨"java/lang/String", "length", "()I"⟩ : MethodName)) hown (mvT hZ (hw _ (List.mem_of_getElem? (i := 42) rfl))) (mvT hZ (hw _ (List.mem_of_getElem? (i := 43) rfl))) (notFace_of_selects (args := #[]) (mvT hZ (hw _ (List.mem_of_getElem? (i := 45) rfl)))) (mvT hZ (hw _ (List.mem_of_getElem? (i := 45) rfl))) (mvT hZ (hw _ (List.mem_of_getElem? (i := 44) rfl))) (by decide) (backOf (W := 1) (rm10 l Z a0 hw [] a1 vc vf b kb kc cs h0 n0 Z0 O0 ST hN E_a1 Fv_a1 Fc_a1 V_a1 hk_a1) hZ (hw _ (List.mem_of_getElem? (i := 46) rfl)) (hw _ (List.mem_of_getElem? (i := 8) rfl)) (by decide) (by decide)) q1a q1c (g := (mkF m 8 #[.val (.ref a1), .val (.int (Int32.ofNat f)), .val (.int p3), .val (.int (own_q q)), .val (.int (Int32.ofNat i)), s5] [(.ref a1), (.int (Int32.ofNat i))])) rfl (by rw [hml]; rfl) (Steps.refl _) (argsL := []) (rest := [(.int (Int32.ofNat i))]) (lenOf pd_9 rfl) rfl (by show 2 * 0 + _ ≤ _; exact Nat.le_of_eq rfl) (hb hby d9_8) (fun _ _ => ⟨rfl, eM, Nat.le_of_ble_eq_true rfl, Nat.le_of_ble_eq_true rfl⟩)
      dsimp only [Pt.U, Pt.locs, Pt.cells, Pt.slots] at X1 l1 y1 z1 st1 hQ1
      subst l1 y1 z1
      obtain ⟨rfl, N1q, e1⟩ := hQ1
      have N1 := Fr.app NM N1q
      refine own_go (fun _ k => st1.trans k) ?_
      show own_Ends p e below s _ _ _ (T1.setTop (mkF m 11 #[.val (.ref a1), .val (.int (Int32.ofNat f)), .val (.int p3), .val (.int (own_q q)), .val (.int (Int32.ofNat i)), s5] [(.int (Int32.ofNat cs.length)), (.int (Int32.ofNat i))]))
      refine own_go (fun _ k => XS.icmpYes X1.here hx rfl (pc0 := 11) (pc' := 78) rfl (hb hby d9_11) rfl (flt (fun z => absurd ((own_ofNat_lt (by omega) (by omega)).mp z) (by omega))).2.1 (by decide) (by decide) <| XS.aloadN X1.here hx rfl (hb hby d9_78) rfl rfl <| k) ?_
      show own_Ends p e below s _ _ _ (T1.setTop (mkF m 79 #[.val (.ref a1), .val (.int (Int32.ofNat f)), .val (.int p3), .val (.int (own_q q)), .val (.int (Int32.ofNat i)), s5] [(.ref a1)]))
      obtain ⟨cq2, kq2, q2a, q2b, q2c⟩ := isOf hZ e1 E_a1
      obtain ⟨_, _, ⟨T2, L2, k2, n2⟩, -, X2, ⟨Lc2, hQ2, l2, y2, z2⟩, st2⟩ := X1.virtualBack hx (y := (⟨"java/lang/String", "length", "()I"⟩ : MethodName)) (z := (⟨"java/lang/String", "length", "()I"⟩ : MethodName)) hown (mvT hZ (hw _ (List.mem_of_getElem? (i := 42) rfl))) (mvT hZ (hw _ (List.mem_of_getElem? (i := 43) rfl))) (notFace_of_selects (args := #[]) (mvT hZ (hw _ (List.mem_of_getElem? (i := 45) rfl)))) (mvT hZ (hw _ (List.mem_of_getElem? (i := 45) rfl))) (mvT hZ (hw _ (List.mem_of_getElem? (i := 44) rfl))) (by decide) (backOf (W := 0) (rm10 l Z a0 hw [] a1 vc vf b kb kc cs h0 n0 Z0 O0 ST hN E_a1 Fv_a1 Fc_a1 V_a1 hk_a1) hZ (hw _ (List.mem_of_getElem? (i := 46) rfl)) (hw _ (List.mem_of_getElem? (i := 8) rfl)) (by decide) (by decide)) q2a q2c (g := (mkF m 79 #[.val (.ref a1), .val (.int (Int32.ofNat f)), .val (.int p3), .val (.int (own_q q)), .val (.int (Int32.ofNat i)), s5] [(.ref a1)])) rfl (by rw [hml]; rfl) (Steps.refl _) (argsL := []) (rest := []) (lenOf pd_9 rfl) rfl (by show 2 * 0 + _ ≤ _; exact Nat.le_of_eq rfl) (hb hby d9_79) (fun _ _ => ⟨rfl, e1, Nat.le_of_ble_eq_true rfl, Nat.le_of_ble_eq_true rfl⟩)
      dsimp only [Pt.U, Pt.locs, Pt.cells, Pt.slots] at X2 l2 y2 z2 st2 hQ2
      subst l2 y2 z2
      obtain ⟨rfl, N2q, e2⟩ := hQ2
      have N2 := Fr.app N1 N2q
      refine own_go (fun _ k => st2.trans k) ?_
      show own_Ends p e below s _ _ _ (T2.setTop (mkF m 82 #[.val (.ref a1), .val (.int (Int32.ofNat f)), .val (.int p3), .val (.int (own_q q)), .val (.int (Int32.ofNat i)), s5] [(.int (Int32.ofNat cs.length))]))
      exact own_ret X2 hx hrt rfl (Or.inl ⟨rfl, Or.inl rfl, _, rfl⟩) (hb hby d9_82) hlk (by rw [e2]; exact ⟨by rw [← hr2], N2, rfl⟩) (by decide) (by decide)
    | succ k ih =>
      intro i q hi hr T locs s5 hs5 XM eM NM
      by_cases hlen : i < cs.length
      ·
        cases q with
        | false =>
          show own_Ends p e below s _ _ _ (T.setTop (mkF m 5 #[.val (.ref a1), .val (.int (Int32.ofNat f)), .val (.int p3), .val (.int (0 : Int32)), .val (.int (Int32.ofNat i)), s5] []))
          refine own_go (fun _ k => XS.iload XM.here hx rfl (hb hby d9_5) rfl <| XS.aloadN XM.here hx rfl (hb hby d9_7) rfl rfl <| k) ?_
          show own_Ends p e below s _ _ _ (T.setTop (mkF m 8 #[.val (.ref a1), .val (.int (Int32.ofNat f)), .val (.int p3), .val (.int (0 : Int32)), .val (.int (Int32.ofNat i)), s5] [(.ref a1), (.int (Int32.ofNat i))]))
          obtain ⟨cq3, kq3, q3a, q3b, q3c⟩ := isOf hZ eM E_a1
          obtain ⟨_, _, ⟨T3, L3, k3, n3⟩, -, X3, ⟨Lc3, hQ3, l3, y3, z3⟩, st3⟩ := XM.virtualBack hx (y := (⟨"java/lang/String", "length", "()I"⟩ : MethodName)) (z := (⟨"java/lang/String", "length", "()I"⟩ : MethodName)) hown (mvT hZ (hw _ (List.mem_of_getElem? (i := 42) rfl))) (mvT hZ (hw _ (List.mem_of_getElem? (i := 43) rfl))) (notFace_of_selects (args := #[]) (mvT hZ (hw _ (List.mem_of_getElem? (i := 45) rfl)))) (mvT hZ (hw _ (List.mem_of_getElem? (i := 45) rfl))) (mvT hZ (hw _ (List.mem_of_getElem? (i := 44) rfl))) (by decide) (backOf (W := 1) (rm10 l Z a0 hw [] a1 vc vf b kb kc cs h0 n0 Z0 O0 ST hN E_a1 Fv_a1 Fc_a1 V_a1 hk_a1) hZ (hw _ (List.mem_of_getElem? (i := 46) rfl)) (hw _ (List.mem_of_getElem? (i := 8) rfl)) (by decide) (by decide)) q3a q3c (g := (mkF m 8 #[.val (.ref a1), .val (.int (Int32.ofNat f)), .val (.int p3), .val (.int (0 : Int32)), .val (.int (Int32.ofNat i)), s5] [(.ref a1), (.int (Int32.ofNat i))])) rfl (by rw [hml]; rfl) (Steps.refl _) (argsL := []) (rest := [(.int (Int32.ofNat i))]) (lenOf pd_9 rfl) rfl (by show 2 * 0 + _ ≤ _; exact Nat.le_of_eq rfl) (hb hby d9_8) (fun _ _ => ⟨rfl, eM, Nat.le_of_ble_eq_true rfl, Nat.le_of_ble_eq_true rfl⟩)
          dsimp only [Pt.U, Pt.locs, Pt.cells, Pt.slots] at X3 l3 y3 z3 st3 hQ3
          subst l3 y3 z3
          obtain ⟨rfl, N3q, e3⟩ := hQ3
          have N3 := Fr.app NM N3q
          refine own_go (fun _ k => st3.trans k) ?_
          show own_Ends p e below s _ _ _ (T3.setTop (mkF m 11 #[.val (.ref a1), .val (.int (Int32.ofNat f)), .val (.int p3), .val (.int (0 : Int32)), .val (.int (Int32.ofNat i)), s5] [(.int (Int32.ofNat cs.length)), (.int (Int32.ofNat i))]))
          refine own_go (fun _ k => XS.icmpNo X3.here hx rfl (hb hby d9_11) rfl (tlt ((own_ofNat_lt (by omega) (by omega)).mpr hlen)).2.1 <| XS.aloadN X3.here hx rfl (hb hby d9_14) rfl rfl <| XS.iload X3.here hx rfl (hb hby d9_15) rfl <| k) ?_
          show own_Ends p e below s _ _ _ (T3.setTop (mkF m 17 #[.val (.ref a1), .val (.int (Int32.ofNat f)), .val (.int p3), .val (.int (0 : Int32)), .val (.int (Int32.ofNat i)), s5] [(.int (Int32.ofNat i)), (.ref a1)]))
          obtain ⟨cq4, kq4, q4a, q4b, q4c⟩ := isOf hZ e3 E_a1
          obtain ⟨_, _, ⟨T4, L4, k4, n4⟩, -, X4, ⟨Lc4, hQ4, l4, y4, z4⟩, st4⟩ := X3.virtualBack hx (y := (⟨"java/lang/String", "charAt", "(I)C"⟩ : MethodName)) (z := (⟨"java/lang/String", "charAt", "(I)C"⟩ : MethodName)) hown (mvT hZ (hw _ (List.mem_of_getElem? (i := 52) rfl))) (mvT hZ (hw _ (List.mem_of_getElem? (i := 53) rfl))) (notFace_of_selects (args := #[]) (mvT hZ (hw _ (List.mem_of_getElem? (i := 55) rfl)))) (mvT hZ (hw _ (List.mem_of_getElem? (i := 55) rfl))) (mvT hZ (hw _ (List.mem_of_getElem? (i := 54) rfl))) (by decide) (backOf (W := 0) (rm12 l Z a0 hw [] a1 vc vf b kb kc cs i h0 n0 Z0 O0 ST hN hC hlen E_a1 Fv_a1 Fc_a1 V_a1 hk_a1) hZ (hw _ (List.mem_of_getElem? (i := 56) rfl)) (hw _ (List.mem_of_getElem? (i := 8) rfl)) (by decide) (by decide)) q4a q4c (g := (mkF m 17 #[.val (.ref a1), .val (.int (Int32.ofNat f)), .val (.int p3), .val (.int (0 : Int32)), .val (.int (Int32.ofNat i)), s5] [(.int (Int32.ofNat i)), (.ref a1)])) rfl (by rw [hml]; rfl) (Steps.refl _) (argsL := [(.int (Int32.ofNat i))]) (rest := []) (lenOf pd_11 rfl) rfl (by show 2 * 0 + _ ≤ _; exact Nat.le_of_eq rfl) (hb hby d9_17) (fun _ _ => ⟨rfl, e3, Nat.le_of_ble_eq_true rfl, Nat.le_of_ble_eq_true rfl⟩)
          dsimp only [Pt.U, Pt.locs, Pt.cells, Pt.slots] at X4 l4 y4 z4 st4 hQ4
          subst l4 y4 z4
          obtain ⟨rfl, N4q, e4⟩ := hQ4
          have N4 := Fr.app N3 N4q
          refine own_go (fun _ k => st4.trans k) ?_
          show own_Ends p e below s _ _ _ (T4.setTop (mkF m 20 #[.val (.ref a1), .val (.int (Int32.ofNat f)), .val (.int p3), .val (.int (0 : Int32)), .val (.int (Int32.ofNat i)), s5] [(.int (cs.getD i 0))]))
          refine own_go (fun _ k => XS.istoreS X4.here hx rfl (hb hby d9_20) rfl rfl hs5 <| k) ?_
          show own_Ends p e below s _ _ _ (T4.setTop (mkF m 22 #[.val (.ref a1), .val (.int (Int32.ofNat f)), .val (.int p3), .val (.int (0 : Int32)), .val (.int (Int32.ofNat i)), .val (.int (cs.getD i 0))] []))
          refine own_go (fun _ k => XS.iloadN X4.here hx rfl (hb hby d9_22) rfl <| XS.ifYes X4.here hx rfl (pc0 := 23) (pc' := 39) rfl (hb hby d9_23) rfl ((if0 _ _).trans (teq (by decide)).1) (by decide) (by decide) <| XS.iload X4.here hx rfl (hb hby d9_39) rfl <| XT.bipushV X4.here hx rfl (34 : Int32) (hb hby d9_41) rfl <| k) ?_
          show own_Ends p e below s _ _ _ (T4.setTop (mkF m 43 #[.val (.ref a1), .val (.int (Int32.ofNat f)), .val (.int p3), .val (.int (0 : Int32)), .val (.int (Int32.ofNat i)), .val (.int (cs.getD i 0))] [(.int (34 : Int32)), (.int (cs.getD i 0))]))
          by_cases hc43_5 : (cs.getD i 0) = (34 : Int32)
          · -- true
            refine own_go (fun _ k => XS.icmpNo X4.here hx rfl (hb hby d9_43) rfl (teq hc43_5).2 <| XS.iloadN X4.here hx rfl (hb hby d9_46) rfl <| XS.ifNo X4.here hx rfl (hb hby d9_47) rfl ((if0 _ _).trans (teq (by decide)).2) <| XT.iconstV X4.here hx rfl (1 : Int32) (hb hby d9_50) rfl <| XS.goto X4.here hx rfl (pc0 := 51) (pc' := 55) rfl (hb hby d9_51) (by decide) (by decide) <| XS.istoreN X4.here hx rfl (hb hby d9_55) rfl (l' := #[.val (.ref a1), .val (.int (Int32.ofNat f)), .val (.int p3), .val (.int (1 : Int32)), .val (.int (Int32.ofNat i)), .val (.int (cs.getD i 0))]) rfl <| XS.goto X4.here hx rfl (pc0 := 56) (pc' := 72) rfl (hb hby d9_56) (by decide) (by decide) <| XT.iincV X4.here hx rfl (1 : Int32) (hb hby d9_72) rfl rfl (l' := #[.val (.ref a1), .val (.int (Int32.ofNat f)), .val (.int p3), .val (.int (1 : Int32)), .val (.int ((Int32.ofNat i) + (1 : Int32))), .val (.int (cs.getD i 0))]) rfl <| XS.goto X4.here hx rfl (pc0 := 75) (pc' := 5) rfl (hb hby d9_75) (by decide) (by decide) <| k) ?_
            show own_Ends p e below s _ _ _ (T4.setTop (mkF m 5 #[.val (.ref a1), .val (.int (Int32.ofNat f)), .val (.int p3), .val (.int (1 : Int32)), .val (.int ((Int32.ofNat i) + (1 : Int32))), .val (.int (cs.getD i 0))] []))
            have hr2 := hr
            rw [own_end, if_pos hlen, if_neg Bool.false_ne_true, if_pos hc43_5] at hr2
            rw [own_up]
            exact ih (i + 1) true (by omega) hr2 _ _ _ (One.val rfl) X4 e4 N4
          · -- false
            refine own_go (fun _ k => XS.icmpYes X4.here hx rfl (pc0 := 43) (pc' := 59) rfl (hb hby d9_43) rfl (feq hc43_5).2 (by decide) (by decide) <| XS.iloadN X4.here hx rfl (hb hby d9_59) rfl <| XS.ifNo X4.here hx rfl (hb hby d9_60) rfl ((if0 _ _).trans (teq (by decide)).2) <| XS.iload X4.here hx rfl (hb hby d9_63) rfl <| XS.iloadN X4.here hx rfl (hb hby d9_65) rfl <| k) ?_
            show own_Ends p e below s _ _ _ (T4.setTop (mkF m 66 #[.val (.ref a1), .val (.int (Int32.ofNat f)), .val (.int p3), .val (.int (0 : Int32)), .val (.int (Int32.ofNat i)), .val (.int (cs.getD i 0))] [(.int p3), (.int (cs.getD i 0))]))
            by_cases hc66_6 : (cs.getD i 0) = p3
            · -- true
              refine own_go (fun _ k => XS.icmpNo X4.here hx rfl (hb hby d9_66) rfl (teq hc66_6).2 <| k) ?_
              show own_Ends p e below s _ _ _ (T4.setTop (mkF m 69 #[.val (.ref a1), .val (.int (Int32.ofNat f)), .val (.int p3), .val (.int (0 : Int32)), .val (.int (Int32.ofNat i)), .val (.int (cs.getD i 0))] []))
              have hr2 := hr
              rw [own_end, if_pos hlen, if_neg Bool.false_ne_true, if_neg hc43_5, if_pos hc66_6] at hr2
              refine own_go (fun _ k => XS.iload X4.here hx rfl (hb hby d9_69) rfl <| k) ?_
              show own_Ends p e below s _ _ _ (T4.setTop (mkF m 71 #[.val (.ref a1), .val (.int (Int32.ofNat f)), .val (.int p3), .val (.int (0 : Int32)), .val (.int (Int32.ofNat i)), .val (.int (cs.getD i 0))] [(.int (Int32.ofNat i))]))
              exact own_ret X4 hx hrt rfl (Or.inl ⟨rfl, Or.inl rfl, _, rfl⟩) (hb hby d9_71) hlk (by rw [e4]; exact ⟨by rw [← hr2], N4, rfl⟩) (by decide) (by decide)
            · -- false
              refine own_go (fun _ k => XS.icmpYes X4.here hx rfl (pc0 := 66) (pc' := 72) rfl (hb hby d9_66) rfl (feq hc66_6).2 (by decide) (by decide) <| XT.iincV X4.here hx rfl (1 : Int32) (hb hby d9_72) rfl rfl (l' := #[.val (.ref a1), .val (.int (Int32.ofNat f)), .val (.int p3), .val (.int (0 : Int32)), .val (.int ((Int32.ofNat i) + (1 : Int32))), .val (.int (cs.getD i 0))]) rfl <| XS.goto X4.here hx rfl (pc0 := 75) (pc' := 5) rfl (hb hby d9_75) (by decide) (by decide) <| k) ?_
              show own_Ends p e below s _ _ _ (T4.setTop (mkF m 5 #[.val (.ref a1), .val (.int (Int32.ofNat f)), .val (.int p3), .val (.int (0 : Int32)), .val (.int ((Int32.ofNat i) + (1 : Int32))), .val (.int (cs.getD i 0))] []))
              have hr2 := hr
              rw [own_end, if_pos hlen, if_neg Bool.false_ne_true, if_neg hc43_5, if_neg hc66_6] at hr2
              rw [own_up]
              exact ih (i + 1) false (by omega) hr2 _ _ _ (One.val rfl) X4 e4 N4
        | true =>
          show own_Ends p e below s _ _ _ (T.setTop (mkF m 5 #[.val (.ref a1), .val (.int (Int32.ofNat f)), .val (.int p3), .val (.int (1 : Int32)), .val (.int (Int32.ofNat i)), s5] []))
          refine own_go (fun _ k => XS.iload XM.here hx rfl (hb hby d9_5) rfl <| XS.aloadN XM.here hx rfl (hb hby d9_7) rfl rfl <| k) ?_
          show own_Ends p e below s _ _ _ (T.setTop (mkF m 8 #[.val (.ref a1), .val (.int (Int32.ofNat f)), .val (.int p3), .val (.int (1 : Int32)), .val (.int (Int32.ofNat i)), s5] [(.ref a1), (.int (Int32.ofNat i))]))
          obtain ⟨cq7, kq7, q7a, q7b, q7c⟩ := isOf hZ eM E_a1
          obtain ⟨_, _, ⟨T7, L7, k7, n7⟩, -, X7, ⟨Lc7, hQ7, l7, y7, z7⟩, st7⟩ := XM.virtualBack hx (y := (⟨"java/lang/String", "length", "()I"⟩ : MethodName)) (z := (⟨"java/lang/String", "length", "()I"⟩ : MethodName)) hown (mvT hZ (hw _ (List.mem_of_getElem? (i := 42) rfl))) (mvT hZ (hw _ (List.mem_of_getElem? (i := 43) rfl))) (notFace_of_selects (args := #[]) (mvT hZ (hw _ (List.mem_of_getElem? (i := 45) rfl)))) (mvT hZ (hw _ (List.mem_of_getElem? (i := 45) rfl))) (mvT hZ (hw _ (List.mem_of_getElem? (i := 44) rfl))) (by decide) (backOf (W := 1) (rm10 l Z a0 hw [] a1 vc vf b kb kc cs h0 n0 Z0 O0 ST hN E_a1 Fv_a1 Fc_a1 V_a1 hk_a1) hZ (hw _ (List.mem_of_getElem? (i := 46) rfl)) (hw _ (List.mem_of_getElem? (i := 8) rfl)) (by decide) (by decide)) q7a q7c (g := (mkF m 8 #[.val (.ref a1), .val (.int (Int32.ofNat f)), .val (.int p3), .val (.int (1 : Int32)), .val (.int (Int32.ofNat i)), s5] [(.ref a1), (.int (Int32.ofNat i))])) rfl (by rw [hml]; rfl) (Steps.refl _) (argsL := []) (rest := [(.int (Int32.ofNat i))]) (lenOf pd_9 rfl) rfl (by show 2 * 0 + _ ≤ _; exact Nat.le_of_eq rfl) (hb hby d9_8) (fun _ _ => ⟨rfl, eM, Nat.le_of_ble_eq_true rfl, Nat.le_of_ble_eq_true rfl⟩)
          dsimp only [Pt.U, Pt.locs, Pt.cells, Pt.slots] at X7 l7 y7 z7 st7 hQ7
          subst l7 y7 z7
          obtain ⟨rfl, N7q, e7⟩ := hQ7
          have N7 := Fr.app NM N7q
          refine own_go (fun _ k => st7.trans k) ?_
          show own_Ends p e below s _ _ _ (T7.setTop (mkF m 11 #[.val (.ref a1), .val (.int (Int32.ofNat f)), .val (.int p3), .val (.int (1 : Int32)), .val (.int (Int32.ofNat i)), s5] [(.int (Int32.ofNat cs.length)), (.int (Int32.ofNat i))]))
          refine own_go (fun _ k => XS.icmpNo X7.here hx rfl (hb hby d9_11) rfl (tlt ((own_ofNat_lt (by omega) (by omega)).mpr hlen)).2.1 <| XS.aloadN X7.here hx rfl (hb hby d9_14) rfl rfl <| XS.iload X7.here hx rfl (hb hby d9_15) rfl <| k) ?_
          show own_Ends p e below s _ _ _ (T7.setTop (mkF m 17 #[.val (.ref a1), .val (.int (Int32.ofNat f)), .val (.int p3), .val (.int (1 : Int32)), .val (.int (Int32.ofNat i)), s5] [(.int (Int32.ofNat i)), (.ref a1)]))
          obtain ⟨cq8, kq8, q8a, q8b, q8c⟩ := isOf hZ e7 E_a1
          obtain ⟨_, _, ⟨T8, L8, k8, n8⟩, -, X8, ⟨Lc8, hQ8, l8, y8, z8⟩, st8⟩ := X7.virtualBack hx (y := (⟨"java/lang/String", "charAt", "(I)C"⟩ : MethodName)) (z := (⟨"java/lang/String", "charAt", "(I)C"⟩ : MethodName)) hown (mvT hZ (hw _ (List.mem_of_getElem? (i := 52) rfl))) (mvT hZ (hw _ (List.mem_of_getElem? (i := 53) rfl))) (notFace_of_selects (args := #[]) (mvT hZ (hw _ (List.mem_of_getElem? (i := 55) rfl)))) (mvT hZ (hw _ (List.mem_of_getElem? (i := 55) rfl))) (mvT hZ (hw _ (List.mem_of_getElem? (i := 54) rfl))) (by decide) (backOf (W := 0) (rm12 l Z a0 hw [] a1 vc vf b kb kc cs i h0 n0 Z0 O0 ST hN hC hlen E_a1 Fv_a1 Fc_a1 V_a1 hk_a1) hZ (hw _ (List.mem_of_getElem? (i := 56) rfl)) (hw _ (List.mem_of_getElem? (i := 8) rfl)) (by decide) (by decide)) q8a q8c (g := (mkF m 17 #[.val (.ref a1), .val (.int (Int32.ofNat f)), .val (.int p3), .val (.int (1 : Int32)), .val (.int (Int32.ofNat i)), s5] [(.int (Int32.ofNat i)), (.ref a1)])) rfl (by rw [hml]; rfl) (Steps.refl _) (argsL := [(.int (Int32.ofNat i))]) (rest := []) (lenOf pd_11 rfl) rfl (by show 2 * 0 + _ ≤ _; exact Nat.le_of_eq rfl) (hb hby d9_17) (fun _ _ => ⟨rfl, e7, Nat.le_of_ble_eq_true rfl, Nat.le_of_ble_eq_true rfl⟩)
          dsimp only [Pt.U, Pt.locs, Pt.cells, Pt.slots] at X8 l8 y8 z8 st8 hQ8
          subst l8 y8 z8
          obtain ⟨rfl, N8q, e8⟩ := hQ8
          have N8 := Fr.app N7 N8q
          refine own_go (fun _ k => st8.trans k) ?_
          show own_Ends p e below s _ _ _ (T8.setTop (mkF m 20 #[.val (.ref a1), .val (.int (Int32.ofNat f)), .val (.int p3), .val (.int (1 : Int32)), .val (.int (Int32.ofNat i)), s5] [(.int (cs.getD i 0))]))
          refine own_go (fun _ k => XS.istoreS X8.here hx rfl (hb hby d9_20) rfl rfl hs5 <| k) ?_
          show own_Ends p e below s _ _ _ (T8.setTop (mkF m 22 #[.val (.ref a1), .val (.int (Int32.ofNat f)), .val (.int p3), .val (.int (1 : Int32)), .val (.int (Int32.ofNat i)), .val (.int (cs.getD i 0))] []))
          refine own_go (fun _ k => XS.iloadN X8.here hx rfl (hb hby d9_22) rfl <| XS.ifNo X8.here hx rfl (hb hby d9_23) rfl ((if0 _ _).trans (feq (by decide)).1) <| XS.iload X8.here hx rfl (hb hby d9_26) rfl <| XT.bipushV X8.here hx rfl (92 : Int32) (hb hby d9_28) rfl <| k) ?_
          show own_Ends p e below s _ _ _ (T8.setTop (mkF m 30 #[.val (.ref a1), .val (.int (Int32.ofNat f)), .val (.int p3), .val (.int (1 : Int32)), .val (.int (Int32.ofNat i)), .val (.int (cs.getD i 0))] [(.int (92 : Int32)), (.int (cs.getD i 0))]))
          by_cases hc30_9 : (cs.getD i 0) = (92 : Int32)
          · -- true
            refine own_go (fun _ k => XS.icmpNo X8.here hx rfl (hb hby d9_30) rfl (teq hc30_9).2 <| XT.iincV X8.here hx rfl (1 : Int32) (hb hby d9_33) rfl rfl (l' := #[.val (.ref a1), .val (.int (Int32.ofNat f)), .val (.int p3), .val (.int (1 : Int32)), .val (.int ((Int32.ofNat i) + (1 : Int32))), .val (.int (cs.getD i 0))]) rfl <| XS.goto X8.here hx rfl (pc0 := 36) (pc' := 72) rfl (hb hby d9_36) (by decide) (by decide) <| XT.iincV X8.here hx rfl (1 : Int32) (hb hby d9_72) rfl rfl (l' := #[.val (.ref a1), .val (.int (Int32.ofNat f)), .val (.int p3), .val (.int (1 : Int32)), .val (.int (((Int32.ofNat i) + (1 : Int32)) + (1 : Int32))), .val (.int (cs.getD i 0))]) rfl <| XS.goto X8.here hx rfl (pc0 := 75) (pc' := 5) rfl (hb hby d9_75) (by decide) (by decide) <| k) ?_
            show own_Ends p e below s _ _ _ (T8.setTop (mkF m 5 #[.val (.ref a1), .val (.int (Int32.ofNat f)), .val (.int p3), .val (.int (1 : Int32)), .val (.int (((Int32.ofNat i) + (1 : Int32)) + (1 : Int32))), .val (.int (cs.getD i 0))] []))
            have hr2 := hr
            rw [own_end, if_pos hlen, if_pos rfl, if_pos hc30_9] at hr2
            rw [own_up, own_up]
            exact ih (i + 1 + 1) true (by omega) hr2 _ _ _ (One.val rfl) X8 e8 N8
          · -- false
            refine own_go (fun _ k => XS.icmpYes X8.here hx rfl (pc0 := 30) (pc' := 39) rfl (hb hby d9_30) rfl (feq hc30_9).2 (by decide) (by decide) <| XS.iload X8.here hx rfl (hb hby d9_39) rfl <| XT.bipushV X8.here hx rfl (34 : Int32) (hb hby d9_41) rfl <| k) ?_
            show own_Ends p e below s _ _ _ (T8.setTop (mkF m 43 #[.val (.ref a1), .val (.int (Int32.ofNat f)), .val (.int p3), .val (.int (1 : Int32)), .val (.int (Int32.ofNat i)), .val (.int (cs.getD i 0))] [(.int (34 : Int32)), (.int (cs.getD i 0))]))
            by_cases hc43_10 : (cs.getD i 0) = (34 : Int32)
            · -- true
              refine own_go (fun _ k => XS.icmpNo X8.here hx rfl (hb hby d9_43) rfl (teq hc43_10).2 <| XS.iloadN X8.here hx rfl (hb hby d9_46) rfl <| XS.ifYes X8.here hx rfl (pc0 := 47) (pc' := 54) rfl (hb hby d9_47) rfl ((if0 _ _).trans (feq (by decide)).2) (by decide) (by decide) <| XT.iconstV X8.here hx rfl (0 : Int32) (hb hby d9_54) rfl <| XS.istoreN X8.here hx rfl (hb hby d9_55) rfl (l' := #[.val (.ref a1), .val (.int (Int32.ofNat f)), .val (.int p3), .val (.int (0 : Int32)), .val (.int (Int32.ofNat i)), .val (.int (cs.getD i 0))]) rfl <| XS.goto X8.here hx rfl (pc0 := 56) (pc' := 72) rfl (hb hby d9_56) (by decide) (by decide) <| XT.iincV X8.here hx rfl (1 : Int32) (hb hby d9_72) rfl rfl (l' := #[.val (.ref a1), .val (.int (Int32.ofNat f)), .val (.int p3), .val (.int (0 : Int32)), .val (.int ((Int32.ofNat i) + (1 : Int32))), .val (.int (cs.getD i 0))]) rfl <| XS.goto X8.here hx rfl (pc0 := 75) (pc' := 5) rfl (hb hby d9_75) (by decide) (by decide) <| k) ?_
              show own_Ends p e below s _ _ _ (T8.setTop (mkF m 5 #[.val (.ref a1), .val (.int (Int32.ofNat f)), .val (.int p3), .val (.int (0 : Int32)), .val (.int ((Int32.ofNat i) + (1 : Int32))), .val (.int (cs.getD i 0))] []))
              have hr2 := hr
              rw [own_end, if_pos hlen, if_pos rfl, if_neg hc30_9, if_pos hc43_10] at hr2
              rw [own_up]
              exact ih (i + 1) false (by omega) hr2 _ _ _ (One.val rfl) X8 e8 N8
            · -- false
              refine own_go (fun _ k => XS.icmpYes X8.here hx rfl (pc0 := 43) (pc' := 59) rfl (hb hby d9_43) rfl (feq hc43_10).2 (by decide) (by decide) <| XS.iloadN X8.here hx rfl (hb hby d9_59) rfl <| XS.ifYes X8.here hx rfl (pc0 := 60) (pc' := 72) rfl (hb hby d9_60) rfl ((if0 _ _).trans (feq (by decide)).2) (by decide) (by decide) <| XT.iincV X8.here hx rfl (1 : Int32) (hb hby d9_72) rfl rfl (l' := #[.val (.ref a1), .val (.int (Int32.ofNat f)), .val (.int p3), .val (.int (1 : Int32)), .val (.int ((Int32.ofNat i) + (1 : Int32))), .val (.int (cs.getD i 0))]) rfl <| XS.goto X8.here hx rfl (pc0 := 75) (pc' := 5) rfl (hb hby d9_75) (by decide) (by decide) <| k) ?_
              show own_Ends p e below s _ _ _ (T8.setTop (mkF m 5 #[.val (.ref a1), .val (.int (Int32.ofNat f)), .val (.int p3), .val (.int (1 : Int32)), .val (.int ((Int32.ofNat i) + (1 : Int32))), .val (.int (cs.getD i 0))] []))
              have hr2 := hr
              rw [own_end, if_pos hlen, if_pos rfl, if_neg hc30_9, if_neg hc43_10] at hr2
              rw [own_up]
              exact ih (i + 1) true (by omega) hr2 _ _ _ (One.val rfl) X8 e8 N8
      ·
        have hr2 : cs.length = own_end cs p3 9 false f := by rw [← hr, own_end, if_neg hlen]
        refine own_go (fun _ k => XS.iload XM.here hx rfl (hb hby d9_5) rfl <| XS.aloadN XM.here hx rfl (hb hby d9_7) rfl rfl <| k) ?_
        show own_Ends p e below s _ _ _ (T.setTop (mkF m 8 #[.val (.ref a1), .val (.int (Int32.ofNat f)), .val (.int p3), .val (.int (own_q q)), .val (.int (Int32.ofNat i)), s5] [(.ref a1), (.int (Int32.ofNat i))]))
        obtain ⟨cq11, kq11, q11a, q11b, q11c⟩ := isOf hZ eM E_a1
        obtain ⟨_, _, ⟨T11, L11, k11, n11⟩, -, X11, ⟨Lc11, hQ11, l11, y11, z11⟩, st11⟩ := XM.virtualBack hx (y := (⟨"java/lang/String", "length", "()I"⟩ : MethodName)) (z := (⟨"java/lang/String", "length", "()I"⟩ : MethodName)) hown (mvT hZ (hw _ (List.mem_of_getElem? (i := 42) rfl))) (mvT hZ (hw _ (List.mem_of_getElem? (i := 43) rfl))) (notFace_of_selects (args := #[]) (mvT hZ (hw _ (List.mem_of_getElem? (i := 45) rfl)))) (mvT hZ (hw _ (List.mem_of_getElem? (i := 45) rfl))) (mvT hZ (hw _ (List.mem_of_getElem? (i := 44) rfl))) (by decide) (backOf (W := 1) (rm10 l Z a0 hw [] a1 vc vf b kb kc cs h0 n0 Z0 O0 ST hN E_a1 Fv_a1 Fc_a1 V_a1 hk_a1) hZ (hw _ (List.mem_of_getElem? (i := 46) rfl)) (hw _ (List.mem_of_getElem? (i := 8) rfl)) (by decide) (by decide)) q11a q11c (g := (mkF m 8 #[.val (.ref a1), .val (.int (Int32.ofNat f)), .val (.int p3), .val (.int (own_q q)), .val (.int (Int32.ofNat i)), s5] [(.ref a1), (.int (Int32.ofNat i))])) rfl (by rw [hml]; rfl) (Steps.refl _) (argsL := []) (rest := [(.int (Int32.ofNat i))]) (lenOf pd_9 rfl) rfl (by show 2 * 0 + _ ≤ _; exact Nat.le_of_eq rfl) (hb hby d9_8) (fun _ _ => ⟨rfl, eM, Nat.le_of_ble_eq_true rfl, Nat.le_of_ble_eq_true rfl⟩)
        dsimp only [Pt.U, Pt.locs, Pt.cells, Pt.slots] at X11 l11 y11 z11 st11 hQ11
        subst l11 y11 z11
        obtain ⟨rfl, N11q, e11⟩ := hQ11
        have N11 := Fr.app NM N11q
        refine own_go (fun _ k => st11.trans k) ?_
        show own_Ends p e below s _ _ _ (T11.setTop (mkF m 11 #[.val (.ref a1), .val (.int (Int32.ofNat f)), .val (.int p3), .val (.int (own_q q)), .val (.int (Int32.ofNat i)), s5] [(.int (Int32.ofNat cs.length)), (.int (Int32.ofNat i))]))
        refine own_go (fun _ k => XS.icmpYes X11.here hx rfl (pc0 := 11) (pc' := 78) rfl (hb hby d9_11) rfl (flt (fun z => absurd ((own_ofNat_lt (by omega) (by omega)).mp z) (by omega))).2.1 (by decide) (by decide) <| XS.aloadN X11.here hx rfl (hb hby d9_78) rfl rfl <| k) ?_
        show own_Ends p e below s _ _ _ (T11.setTop (mkF m 79 #[.val (.ref a1), .val (.int (Int32.ofNat f)), .val (.int p3), .val (.int (own_q q)), .val (.int (Int32.ofNat i)), s5] [(.ref a1)]))
        obtain ⟨cq12, kq12, q12a, q12b, q12c⟩ := isOf hZ e11 E_a1
        obtain ⟨_, _, ⟨T12, L12, k12, n12⟩, -, X12, ⟨Lc12, hQ12, l12, y12, z12⟩, st12⟩ := X11.virtualBack hx (y := (⟨"java/lang/String", "length", "()I"⟩ : MethodName)) (z := (⟨"java/lang/String", "length", "()I"⟩ : MethodName)) hown (mvT hZ (hw _ (List.mem_of_getElem? (i := 42) rfl))) (mvT hZ (hw _ (List.mem_of_getElem? (i := 43) rfl))) (notFace_of_selects (args := #[]) (mvT hZ (hw _ (List.mem_of_getElem? (i := 45) rfl)))) (mvT hZ (hw _ (List.mem_of_getElem? (i := 45) rfl))) (mvT hZ (hw _ (List.mem_of_getElem? (i := 44) rfl))) (by decide) (backOf (W := 0) (rm10 l Z a0 hw [] a1 vc vf b kb kc cs h0 n0 Z0 O0 ST hN E_a1 Fv_a1 Fc_a1 V_a1 hk_a1) hZ (hw _ (List.mem_of_getElem? (i := 46) rfl)) (hw _ (List.mem_of_getElem? (i := 8) rfl)) (by decide) (by decide)) q12a q12c (g := (mkF m 79 #[.val (.ref a1), .val (.int (Int32.ofNat f)), .val (.int p3), .val (.int (own_q q)), .val (.int (Int32.ofNat i)), s5] [(.ref a1)])) rfl (by rw [hml]; rfl) (Steps.refl _) (argsL := []) (rest := []) (lenOf pd_9 rfl) rfl (by show 2 * 0 + _ ≤ _; exact Nat.le_of_eq rfl) (hb hby d9_79) (fun _ _ => ⟨rfl, e11, Nat.le_of_ble_eq_true rfl, Nat.le_of_ble_eq_true rfl⟩)
        dsimp only [Pt.U, Pt.locs, Pt.cells, Pt.slots] at X12 l12 y12 z12 st12 hQ12
        subst l12 y12 z12
        obtain ⟨rfl, N12q, e12⟩ := hQ12
        have N12 := Fr.app N11 N12q
        refine own_go (fun _ k => st12.trans k) ?_
        show own_Ends p e below s _ _ _ (T12.setTop (mkF m 82 #[.val (.ref a1), .val (.int (Int32.ofNat f)), .val (.int p3), .val (.int (own_q q)), .val (.int (Int32.ofNat i)), s5] [(.int (Int32.ofNat cs.length))]))
        exact own_ret X12 hx hrt rfl (Or.inl ⟨rfl, Or.inl rfl, _, rfl⟩) (hb hby d9_82) hlk (by rw [e12]; exact ⟨by rw [← hr2], N12, rfl⟩) (by decide) (by decide)
  exact loop 9 f false (by omega) rfl _ _ _ One.u X0 e0 N0
theorem ef_0 (m : MethodId) (x0 : Int32) (x1 : Int32) (x2 : Int32) (x3 : Int64) : entryFrame m #[(.int x0), (.int x1), (.int x2), (.long x3)] maxLocals = mkF m 0 #[.val (.int x0), .val (.int x1), .val (.int x2), .val (.long x3), .second, .unset, .unset, .unset, .unset, .unset, .unset] [] := by first | (simp [entryFrame, mkF, argsToLocals, Value.category, maxLocals]; done) | rfl
def Q0 (p1 : Int32) (p2 : Int32) (p3 : Int32) (q4 : Int64) (vc : Int32) (vf : Value) (h0 : Heap) (n0 : Nat) (Z : State) (v : Option Value) (h : Heap) (L : List Loc) : Prop := v = some (.int 1) ∧ Fr n0 L
set_option maxRecDepth 65536 in
set_option maxHeartbeats 40000000 in
theorem rm0 (l : Launch) (Z : State) (a0 : Array Value) (hw : ∀ d ∈ tables_1, d.before a0 Z = true) (ws : List Jvm.Cond) (p1 : Int32) (p2 : Int32) (p3 : Int32) (q4 : Int64) (vc : Int32) (vf : Value) (h0 : Heap) (n0 : Nat) (Z0 : n0 ≤ h0.size) (O0 : Old Z n0 h0) (ST : own_St Z vc vf) :
    MetFree l x (head1 (Jvm.Cond.code x code maxLocals ret :: ws) room_1) (fun a U => a = #[(.int p1), (.int p2), (.int p3), (.long q4)] ∧ Z.Warmed39 U.vm ∧ U.heap = h0) (fun _ _ _ _ _ => True) (fun _ U o U' => ∃ v L, o = .returned v ∧ Q0 p1 p2 p3 q4 vc vf h0 n0 Z v U'.heap L ∧ FrameEnd U o U' L room_1.cells room_1.slots) := by
  refine MetFree.of_bodySF (plainFor_of_name pn_4) hisR ?_
  intro p e s m args below meth c s₁ Bd hml0 hP hK
  obtain ⟨rfl, hZ, hh⟩ := hP
  have hx := Bd.exec
  have hby := Bd.bytes
  have hml : c.maxLocals = 11 := hml0
  have hown : s.vm.findClass "com/example/pagra/pagra/core/HeaderSyntaxEndPinLaw" = some m.cls := findClass_of_methodNamed Bd.named
  have hnm := (name_of_methodNamed Bd.named Bd.method).1
  have hlk := Bd.notSynchronized
  have hrt := Bd.returns
  have X0 : Stand p l e room_1 s m #[(.int p1), (.int p2), (.int p3), (.long q4)] below meth c s₁ [] 0 0 := Stand.of_body Bd
  have e0 : s₁.heap = h0 := by rw [← hh, Bd.state]; rfl
  have N0 := Fr.nil n0
  show own_Ends p e below s (Q0 p1 p2 p3 q4 vc vf h0 n0 Z) room_1.cells room_1.slots (s₁.setTop (entryFrame m #[(.int p1), (.int p2), (.int p3), (.long q4)] maxLocals))
  rw [ef_0]
  obtain ⟨HVC, SCS, SAD, SHI, SLO, SIO, HVF⟩ := id ST
  refine own_go (fun _ k => XS.iloadN X0.here hx rfl (hb hby at_0) rfl <| XT.bipushV X0.here hx rfl (7 : Int32) (hb hby at_1) rfl <| XS.iand X0.here hx rfl (hb hby at_3) rfl <| XS.istore X0.here hx rfl (hb hby at_4) rfl (l' := #[.val (.int p1), .val (.int p2), .val (.int p3), .val (.long q4), .second, .val (.int (p1 &&& (7 : Int32))), .unset, .unset, .unset, .unset, .unset]) rfl <| k) ?_
  show own_Ends p e below s _ _ _ (s₁.setTop (mkF m 6 #[.val (.int p1), .val (.int p2), .val (.int p3), .val (.long q4), .second, .val (.int (p1 &&& (7 : Int32))), .unset, .unset, .unset, .unset, .unset] []))
  obtain ⟨f, hf, hf8⟩ := own_and7 p1
  rw [hf]
  show own_Ends p e below s _ _ _ (s₁.setTop (mkF m 6 #[.val (.int p1), .val (.int p2), .val (.int p3), .val (.long q4), .second, .val (.int (Int32.ofNat f)), .unset, .unset, .unset, .unset, .unset] []))
  refine own_go (fun _ k => XS.iloadN X0.here hx rfl (hb hby at_6) rfl <| X0.ldcI hx hown (mvT hZ (hw _ (List.mem_of_getElem? (i := 0) rfl))) rfl (hb hby at_7) <| XS.iand X0.here hx rfl (hb hby at_9) rfl <| XS.i2c X0.here hx rfl (hb hby at_10) rfl <| XS.istore X0.here hx rfl (hb hby at_11) rfl (l' := #[.val (.int p1), .val (.int p2), .val (.int p3), .val (.long q4), .second, .val (.int (Int32.ofNat f)), .val (.int ((p2 &&& (65535 : Int32)).toUInt32.toUInt16.toUInt32.toInt32)), .unset, .unset, .unset, .unset]) rfl <| k) ?_
  show own_Ends p e below s _ _ _ (s₁.setTop (mkF m 13 #[.val (.int p1), .val (.int p2), .val (.int p3), .val (.long q4), .second, .val (.int (Int32.ofNat f)), .val (.int ((p2 &&& (65535 : Int32)).toUInt32.toUInt16.toUInt32.toInt32)), .unset, .unset, .unset, .unset] []))
  generalize hsp : ((p2 &&& (65535 : Int32)).toUInt32.toUInt16.toUInt32.toInt32) = sp
  show own_Ends p e below s _ _ _ (s₁.setTop (mkF m 13 #[.val (.int p1), .val (.int p2), .val (.int p3), .val (.long q4), .second, .val (.int (Int32.ofNat f)), .val (.int sp), .unset, .unset, .unset, .unset] []))
  refine own_go (fun _ k => XT.iconstV X0.here hx rfl (5 : Int32) (hb hby at_13) rfl <| k) ?_
  show own_Ends p e below s _ _ _ (s₁.setTop (mkF m 14 #[.val (.int p1), .val (.int p2), .val (.int p3), .val (.long q4), .second, .val (.int (Int32.ofNat f)), .val (.int sp), .unset, .unset, .unset, .unset] [(.int (5 : Int32))]))
  obtain ⟨T1, h1, k1, X1, e1, E1, A1, st1⟩ := newP X0 hx hZ (hw _ (List.mem_of_getElem? (i := 1) rfl)) e0 (g := (mkF m 14 #[.val (.int p1), .val (.int p2), .val (.int p3), .val (.long q4), .second, .val (.int (Int32.ofNat f)), .val (.int sp), .unset, .unset, .unset, .unset] [(.int (5 : Int32))])) rfl (hb hby at_14) rfl (by decide) (cap := 5) (by decide) (by decide) (by decide) (by decide)
  obtain ⟨b1, g1⟩ : ∃ z, z = h0.size := ⟨_, rfl⟩
  rw [← g1] at A1 st1
  refine own_go st1 ?_
  have g_b1 : n0 ≤ b1 := Nat.le_trans Z0 (Nat.le_of_eq g1.symm)
  have Z1 := Nat.le_trans Z0 E1.1
  have O1 := O0.ext E1
  have V_b1 : Arv Z h1 b1 k1 .char (5 : Int32) [(.int (0 : Int32)), (.int (0 : Int32)), (.int (0 : Int32)), (.int (0 : Int32)), (.int (0 : Int32))] (.int (0 : Int32)) := (Arv.new A1 (by decide)).pad (pad_rep [] (.int (0 : Int32)) 5)
  show own_Ends p e below s _ _ _ (T1.setTop (mkF m 16 #[.val (.int p1), .val (.int p2), .val (.int p3), .val (.long q4), .second, .val (.int (Int32.ofNat f)), .val (.int sp), .unset, .unset, .unset, .unset] [(.ref b1)]))
  refine own_go (fun _ k => XS.astore X1.here hx rfl (hb hby at_16) rfl rfl (l' := #[.val (.int p1), .val (.int p2), .val (.int p3), .val (.long q4), .second, .val (.int (Int32.ofNat f)), .val (.int sp), .val (.ref b1), .unset, .unset, .unset]) rfl <| XS.aload X1.here hx rfl (hb hby at_18) rfl rfl <| XT.iconstV X1.here hx rfl (0 : Int32) (hb hby at_20) rfl <| XS.iloadN X1.here hx rfl (hb hby at_21) rfl <| XS.lloadN X1.here hx rfl (hb hby at_22) rfl <| XT.iconstV X1.here hx rfl (0 : Int32) (hb hby at_23) rfl <| XS.iload X1.here hx rfl (hb hby at_24) rfl <| k) ?_
  show own_Ends p e below s _ _ _ (T1.setTop (mkF m 26 #[.val (.int p1), .val (.int p2), .val (.int p3), .val (.long q4), .second, .val (.int (Int32.ofNat f)), .val (.int sp), .val (.ref b1), .unset, .unset, .unset] [(.int sp), (.int (0 : Int32)), (.long q4), (.int p3), (.int (0 : Int32)), (.ref b1)]))
  obtain ⟨_, _, ⟨T2, L2, k2, n2⟩, -, X2, ⟨Lc2, hQ2, l2, y2, z2⟩, st2⟩ := Jvm.LawKit.callS X1 hx (y := (⟨"com/example/pagra/pagra/core/HeaderSyntaxEndPinLaw", "pick", "(IJIC)C"⟩ : MethodName)) hown (mvT hZ (hw _ (List.mem_of_getElem? (i := 2) rfl))) (mvT hZ (hw _ (List.mem_of_getElem? (i := 3) rfl))) (mvT hZ (hw _ (List.mem_of_getElem? (i := 4) rfl))) (mvT hZ (hw _ (List.mem_of_getElem? (i := 5) rfl))) (by decide) (backOf (W := 2) (rm1 l Z a0 hw [] p3 q4 (0 : Int32) sp h1 n0 Z1) hZ (hw _ (List.mem_of_getElem? (i := 5) rfl)) (hw _ (List.mem_of_getElem? (i := 4) rfl)) (by decide) (by decide)) (g := (mkF m 26 #[.val (.int p1), .val (.int p2), .val (.int p3), .val (.long q4), .second, .val (.int (Int32.ofNat f)), .val (.int sp), .val (.ref b1), .unset, .unset, .unset] [(.int sp), (.int (0 : Int32)), (.long q4), (.int p3), (.int (0 : Int32)), (.ref b1)])) rfl (by rw [hml]; rfl) (argsL := [(.int p3), (.long q4), (.int (0 : Int32)), (.int sp)]) (rest := [(.int (0 : Int32)), (.ref b1)]) (lenOf pd_0 rfl) rfl (by show 2 * 0 + _ ≤ _; exact Nat.le_of_eq rfl) (hb hby at_26) (fun _ _ => ⟨rfl, e1, Nat.le_of_ble_eq_true rfl, Nat.le_of_ble_eq_true rfl⟩)
  dsimp only [Pt.U, Pt.locs, Pt.cells, Pt.slots] at X2 l2 y2 z2 st2 hQ2
  subst l2 y2 z2
  obtain ⟨c2, rfl, hc2, N2q, e2⟩ := hQ2
  have N2 := Fr.app N0 N2q
  refine own_go (fun _ k => st2 _ k) ?_
  show own_Ends p e below s _ _ _ (T2.setTop (mkF m 29 #[.val (.int p1), .val (.int p2), .val (.int p3), .val (.long q4), .second, .val (.int (Int32.ofNat f)), .val (.int sp), .val (.ref b1), .unset, .unset, .unset] [(.int c2), (.int (0 : Int32)), (.ref b1)]))
  obtain ⟨clb1_29_3, Arb1_29_3, qqb1_29_3, Szb1_29_3, Ngb1_29_3, Hsb1_29_3, Gfb1_29_3⟩ := id V_b1
  have hinb1_29_3 : ¬ ((0 : Int32) < 0 ∨ clb1_29_3.slots.size ≤ ((0 : Int32)).toNatClampNeg) := inb_of Szb1_29_3 ⟨by decide, by decide⟩
  obtain ⟨T4, h4, X4, e4, W4, st4⟩ := stC X2 hx hZ e2 Arb1_29_3 (j := (0 : Int32)) hinb1_29_3 (g := (mkF m 29 #[.val (.int p1), .val (.int p2), .val (.int p3), .val (.long q4), .second, .val (.int (Int32.ofNat f)), .val (.int sp), .val (.ref b1), .unset, .unset, .unset] [(.int c2), (.int (0 : Int32)), (.ref b1)])) rfl rfl (hb hby at_29)
  refine own_go st4 ?_
  have Z4 := Nat.le_trans Z1 (Keep.of_wr W4).1
  have O4 := O1.wr W4 g_b1
  have N4 := Fr.snoc X4 N2 g_b1
  have V_b1'4 : Arv Z h4 b1 k1 .char (5 : Int32) [(.int (nar .char c2)), (.int (0 : Int32)), (.int (0 : Int32)), (.int (0 : Int32)), (.int (0 : Int32))] (.int (0 : Int32)) := Arv.set Arb1_29_3 qqb1_29_3 Szb1_29_3 Ngb1_29_3 Hsb1_29_3 Gfb1_29_3 (fits_nar_char _) W4 0 rfl (Nat.le_of_ble_eq_true rfl)
  show own_Ends p e below s _ _ _ (T4.setTop (mkF m 30 #[.val (.int p1), .val (.int p2), .val (.int p3), .val (.long q4), .second, .val (.int (Int32.ofNat f)), .val (.int sp), .val (.ref b1), .unset, .unset, .unset] []))
  refine own_go (fun _ k => XS.aload X4.here hx rfl (hb hby at_30) rfl rfl <| XT.iconstV X4.here hx rfl (1 : Int32) (hb hby at_32) rfl <| XS.iloadN X4.here hx rfl (hb hby at_33) rfl <| XS.lloadN X4.here hx rfl (hb hby at_34) rfl <| XT.iconstV X4.here hx rfl (1 : Int32) (hb hby at_35) rfl <| XS.iload X4.here hx rfl (hb hby at_36) rfl <| k) ?_
  show own_Ends p e below s _ _ _ (T4.setTop (mkF m 38 #[.val (.int p1), .val (.int p2), .val (.int p3), .val (.long q4), .second, .val (.int (Int32.ofNat f)), .val (.int sp), .val (.ref b1), .unset, .unset, .unset] [(.int sp), (.int (1 : Int32)), (.long q4), (.int p3), (.int (1 : Int32)), (.ref b1)]))
  obtain ⟨_, _, ⟨T5, L5, k5, n5⟩, -, X5, ⟨Lc5, hQ5, l5, y5, z5⟩, st5⟩ := Jvm.LawKit.callS X4 hx (y := (⟨"com/example/pagra/pagra/core/HeaderSyntaxEndPinLaw", "pick", "(IJIC)C"⟩ : MethodName)) hown (mvT hZ (hw _ (List.mem_of_getElem? (i := 2) rfl))) (mvT hZ (hw _ (List.mem_of_getElem? (i := 3) rfl))) (mvT hZ (hw _ (List.mem_of_getElem? (i := 4) rfl))) (mvT hZ (hw _ (List.mem_of_getElem? (i := 5) rfl))) (by decide) (backOf (W := 2) (rm1 l Z a0 hw [] p3 q4 (1 : Int32) sp h4 n0 Z4) hZ (hw _ (List.mem_of_getElem? (i := 5) rfl)) (hw _ (List.mem_of_getElem? (i := 4) rfl)) (by decide) (by decide)) (g := (mkF m 38 #[.val (.int p1), .val (.int p2), .val (.int p3), .val (.long q4), .second, .val (.int (Int32.ofNat f)), .val (.int sp), .val (.ref b1), .unset, .unset, .unset] [(.int sp), (.int (1 : Int32)), (.long q4), (.int p3), (.int (1 : Int32)), (.ref b1)])) rfl (by rw [hml]; rfl) (argsL := [(.int p3), (.long q4), (.int (1 : Int32)), (.int sp)]) (rest := [(.int (1 : Int32)), (.ref b1)]) (lenOf pd_0 rfl) rfl (by show 2 * 0 + _ ≤ _; exact Nat.le_of_eq rfl) (hb hby at_38) (fun _ _ => ⟨rfl, e4, Nat.le_of_ble_eq_true rfl, Nat.le_of_ble_eq_true rfl⟩)
  dsimp only [Pt.U, Pt.locs, Pt.cells, Pt.slots] at X5 l5 y5 z5 st5 hQ5
  subst l5 y5 z5
  obtain ⟨c5, rfl, hc5, N5q, e5⟩ := hQ5
  have N5 := Fr.app N4 N5q
  refine own_go (fun _ k => st5 _ k) ?_
  show own_Ends p e below s _ _ _ (T5.setTop (mkF m 41 #[.val (.int p1), .val (.int p2), .val (.int p3), .val (.long q4), .second, .val (.int (Int32.ofNat f)), .val (.int sp), .val (.ref b1), .unset, .unset, .unset] [(.int c5), (.int (1 : Int32)), (.ref b1)]))
  obtain ⟨clb1_41_6, Arb1_41_6, qqb1_41_6, Szb1_41_6, Ngb1_41_6, Hsb1_41_6, Gfb1_41_6⟩ := id V_b1'4
  have hinb1_41_6 : ¬ ((1 : Int32) < 0 ∨ clb1_41_6.slots.size ≤ ((1 : Int32)).toNatClampNeg) := inb_of Szb1_41_6 ⟨by decide, by decide⟩
  obtain ⟨T7, h7, X7, e7, W7, st7⟩ := stC X5 hx hZ e5 Arb1_41_6 (j := (1 : Int32)) hinb1_41_6 (g := (mkF m 41 #[.val (.int p1), .val (.int p2), .val (.int p3), .val (.long q4), .second, .val (.int (Int32.ofNat f)), .val (.int sp), .val (.ref b1), .unset, .unset, .unset] [(.int c5), (.int (1 : Int32)), (.ref b1)])) rfl rfl (hb hby at_41)
  refine own_go st7 ?_
  have Z7 := Nat.le_trans Z4 (Keep.of_wr W7).1
  have O7 := O4.wr W7 g_b1
  have N7 := Fr.snoc X7 N5 g_b1
  have V_b1'7 : Arv Z h7 b1 k1 .char (5 : Int32) [(.int (nar .char c2)), (.int (nar .char c5)), (.int (0 : Int32)), (.int (0 : Int32)), (.int (0 : Int32))] (.int (0 : Int32)) := Arv.set Arb1_41_6 qqb1_41_6 Szb1_41_6 Ngb1_41_6 Hsb1_41_6 Gfb1_41_6 (fits_nar_char _) W7 1 rfl (Nat.le_of_ble_eq_true rfl)
  show own_Ends p e below s _ _ _ (T7.setTop (mkF m 42 #[.val (.int p1), .val (.int p2), .val (.int p3), .val (.long q4), .second, .val (.int (Int32.ofNat f)), .val (.int sp), .val (.ref b1), .unset, .unset, .unset] []))
  refine own_go (fun _ k => XS.aload X7.here hx rfl (hb hby at_42) rfl rfl <| XT.iconstV X7.here hx rfl (2 : Int32) (hb hby at_44) rfl <| XS.iloadN X7.here hx rfl (hb hby at_45) rfl <| XS.lloadN X7.here hx rfl (hb hby at_46) rfl <| XT.iconstV X7.here hx rfl (2 : Int32) (hb hby at_47) rfl <| XS.iload X7.here hx rfl (hb hby at_48) rfl <| k) ?_
  show own_Ends p e below s _ _ _ (T7.setTop (mkF m 50 #[.val (.int p1), .val (.int p2), .val (.int p3), .val (.long q4), .second, .val (.int (Int32.ofNat f)), .val (.int sp), .val (.ref b1), .unset, .unset, .unset] [(.int sp), (.int (2 : Int32)), (.long q4), (.int p3), (.int (2 : Int32)), (.ref b1)]))
  obtain ⟨_, _, ⟨T8, L8, k8, n8⟩, -, X8, ⟨Lc8, hQ8, l8, y8, z8⟩, st8⟩ := Jvm.LawKit.callS X7 hx (y := (⟨"com/example/pagra/pagra/core/HeaderSyntaxEndPinLaw", "pick", "(IJIC)C"⟩ : MethodName)) hown (mvT hZ (hw _ (List.mem_of_getElem? (i := 2) rfl))) (mvT hZ (hw _ (List.mem_of_getElem? (i := 3) rfl))) (mvT hZ (hw _ (List.mem_of_getElem? (i := 4) rfl))) (mvT hZ (hw _ (List.mem_of_getElem? (i := 5) rfl))) (by decide) (backOf (W := 2) (rm1 l Z a0 hw [] p3 q4 (2 : Int32) sp h7 n0 Z7) hZ (hw _ (List.mem_of_getElem? (i := 5) rfl)) (hw _ (List.mem_of_getElem? (i := 4) rfl)) (by decide) (by decide)) (g := (mkF m 50 #[.val (.int p1), .val (.int p2), .val (.int p3), .val (.long q4), .second, .val (.int (Int32.ofNat f)), .val (.int sp), .val (.ref b1), .unset, .unset, .unset] [(.int sp), (.int (2 : Int32)), (.long q4), (.int p3), (.int (2 : Int32)), (.ref b1)])) rfl (by rw [hml]; rfl) (argsL := [(.int p3), (.long q4), (.int (2 : Int32)), (.int sp)]) (rest := [(.int (2 : Int32)), (.ref b1)]) (lenOf pd_0 rfl) rfl (by show 2 * 0 + _ ≤ _; exact Nat.le_of_eq rfl) (hb hby at_50) (fun _ _ => ⟨rfl, e7, Nat.le_of_ble_eq_true rfl, Nat.le_of_ble_eq_true rfl⟩)
  dsimp only [Pt.U, Pt.locs, Pt.cells, Pt.slots] at X8 l8 y8 z8 st8 hQ8
  subst l8 y8 z8
  obtain ⟨c8, rfl, hc8, N8q, e8⟩ := hQ8
  have N8 := Fr.app N7 N8q
  refine own_go (fun _ k => st8 _ k) ?_
  show own_Ends p e below s _ _ _ (T8.setTop (mkF m 53 #[.val (.int p1), .val (.int p2), .val (.int p3), .val (.long q4), .second, .val (.int (Int32.ofNat f)), .val (.int sp), .val (.ref b1), .unset, .unset, .unset] [(.int c8), (.int (2 : Int32)), (.ref b1)]))
  obtain ⟨clb1_53_9, Arb1_53_9, qqb1_53_9, Szb1_53_9, Ngb1_53_9, Hsb1_53_9, Gfb1_53_9⟩ := id V_b1'7
  have hinb1_53_9 : ¬ ((2 : Int32) < 0 ∨ clb1_53_9.slots.size ≤ ((2 : Int32)).toNatClampNeg) := inb_of Szb1_53_9 ⟨by decide, by decide⟩
  obtain ⟨T10, h10, X10, e10, W10, st10⟩ := stC X8 hx hZ e8 Arb1_53_9 (j := (2 : Int32)) hinb1_53_9 (g := (mkF m 53 #[.val (.int p1), .val (.int p2), .val (.int p3), .val (.long q4), .second, .val (.int (Int32.ofNat f)), .val (.int sp), .val (.ref b1), .unset, .unset, .unset] [(.int c8), (.int (2 : Int32)), (.ref b1)])) rfl rfl (hb hby at_53)
  refine own_go st10 ?_
  have Z10 := Nat.le_trans Z7 (Keep.of_wr W10).1
  have O10 := O7.wr W10 g_b1
  have N10 := Fr.snoc X10 N8 g_b1
  have V_b1'10 : Arv Z h10 b1 k1 .char (5 : Int32) [(.int (nar .char c2)), (.int (nar .char c5)), (.int (nar .char c8)), (.int (0 : Int32)), (.int (0 : Int32))] (.int (0 : Int32)) := Arv.set Arb1_53_9 qqb1_53_9 Szb1_53_9 Ngb1_53_9 Hsb1_53_9 Gfb1_53_9 (fits_nar_char _) W10 2 rfl (Nat.le_of_ble_eq_true rfl)
  show own_Ends p e below s _ _ _ (T10.setTop (mkF m 54 #[.val (.int p1), .val (.int p2), .val (.int p3), .val (.long q4), .second, .val (.int (Int32.ofNat f)), .val (.int sp), .val (.ref b1), .unset, .unset, .unset] []))
  refine own_go (fun _ k => XS.aload X10.here hx rfl (hb hby at_54) rfl rfl <| XT.iconstV X10.here hx rfl (3 : Int32) (hb hby at_56) rfl <| XS.iloadN X10.here hx rfl (hb hby at_57) rfl <| XS.lloadN X10.here hx rfl (hb hby at_58) rfl <| XT.iconstV X10.here hx rfl (3 : Int32) (hb hby at_59) rfl <| XS.iload X10.here hx rfl (hb hby at_60) rfl <| k) ?_
  show own_Ends p e below s _ _ _ (T10.setTop (mkF m 62 #[.val (.int p1), .val (.int p2), .val (.int p3), .val (.long q4), .second, .val (.int (Int32.ofNat f)), .val (.int sp), .val (.ref b1), .unset, .unset, .unset] [(.int sp), (.int (3 : Int32)), (.long q4), (.int p3), (.int (3 : Int32)), (.ref b1)]))
  obtain ⟨_, _, ⟨T11, L11, k11, n11⟩, -, X11, ⟨Lc11, hQ11, l11, y11, z11⟩, st11⟩ := Jvm.LawKit.callS X10 hx (y := (⟨"com/example/pagra/pagra/core/HeaderSyntaxEndPinLaw", "pick", "(IJIC)C"⟩ : MethodName)) hown (mvT hZ (hw _ (List.mem_of_getElem? (i := 2) rfl))) (mvT hZ (hw _ (List.mem_of_getElem? (i := 3) rfl))) (mvT hZ (hw _ (List.mem_of_getElem? (i := 4) rfl))) (mvT hZ (hw _ (List.mem_of_getElem? (i := 5) rfl))) (by decide) (backOf (W := 2) (rm1 l Z a0 hw [] p3 q4 (3 : Int32) sp h10 n0 Z10) hZ (hw _ (List.mem_of_getElem? (i := 5) rfl)) (hw _ (List.mem_of_getElem? (i := 4) rfl)) (by decide) (by decide)) (g := (mkF m 62 #[.val (.int p1), .val (.int p2), .val (.int p3), .val (.long q4), .second, .val (.int (Int32.ofNat f)), .val (.int sp), .val (.ref b1), .unset, .unset, .unset] [(.int sp), (.int (3 : Int32)), (.long q4), (.int p3), (.int (3 : Int32)), (.ref b1)])) rfl (by rw [hml]; rfl) (argsL := [(.int p3), (.long q4), (.int (3 : Int32)), (.int sp)]) (rest := [(.int (3 : Int32)), (.ref b1)]) (lenOf pd_0 rfl) rfl (by show 2 * 0 + _ ≤ _; exact Nat.le_of_eq rfl) (hb hby at_62) (fun _ _ => ⟨rfl, e10, Nat.le_of_ble_eq_true rfl, Nat.le_of_ble_eq_true rfl⟩)
  dsimp only [Pt.U, Pt.locs, Pt.cells, Pt.slots] at X11 l11 y11 z11 st11 hQ11
  subst l11 y11 z11
  obtain ⟨c11, rfl, hc11, N11q, e11⟩ := hQ11
  have N11 := Fr.app N10 N11q
  refine own_go (fun _ k => st11 _ k) ?_
  show own_Ends p e below s _ _ _ (T11.setTop (mkF m 65 #[.val (.int p1), .val (.int p2), .val (.int p3), .val (.long q4), .second, .val (.int (Int32.ofNat f)), .val (.int sp), .val (.ref b1), .unset, .unset, .unset] [(.int c11), (.int (3 : Int32)), (.ref b1)]))
  obtain ⟨clb1_65_12, Arb1_65_12, qqb1_65_12, Szb1_65_12, Ngb1_65_12, Hsb1_65_12, Gfb1_65_12⟩ := id V_b1'10
  have hinb1_65_12 : ¬ ((3 : Int32) < 0 ∨ clb1_65_12.slots.size ≤ ((3 : Int32)).toNatClampNeg) := inb_of Szb1_65_12 ⟨by decide, by decide⟩
  obtain ⟨T13, h13, X13, e13, W13, st13⟩ := stC X11 hx hZ e11 Arb1_65_12 (j := (3 : Int32)) hinb1_65_12 (g := (mkF m 65 #[.val (.int p1), .val (.int p2), .val (.int p3), .val (.long q4), .second, .val (.int (Int32.ofNat f)), .val (.int sp), .val (.ref b1), .unset, .unset, .unset] [(.int c11), (.int (3 : Int32)), (.ref b1)])) rfl rfl (hb hby at_65)
  refine own_go st13 ?_
  have Z13 := Nat.le_trans Z10 (Keep.of_wr W13).1
  have O13 := O10.wr W13 g_b1
  have N13 := Fr.snoc X13 N11 g_b1
  have V_b1'13 : Arv Z h13 b1 k1 .char (5 : Int32) [(.int (nar .char c2)), (.int (nar .char c5)), (.int (nar .char c8)), (.int (nar .char c11)), (.int (0 : Int32))] (.int (0 : Int32)) := Arv.set Arb1_65_12 qqb1_65_12 Szb1_65_12 Ngb1_65_12 Hsb1_65_12 Gfb1_65_12 (fits_nar_char _) W13 3 rfl (Nat.le_of_ble_eq_true rfl)
  show own_Ends p e below s _ _ _ (T13.setTop (mkF m 66 #[.val (.int p1), .val (.int p2), .val (.int p3), .val (.long q4), .second, .val (.int (Int32.ofNat f)), .val (.int sp), .val (.ref b1), .unset, .unset, .unset] []))
  refine own_go (fun _ k => XS.aload X13.here hx rfl (hb hby at_66) rfl rfl <| XT.iconstV X13.here hx rfl (4 : Int32) (hb hby at_68) rfl <| XS.iloadN X13.here hx rfl (hb hby at_69) rfl <| XS.lloadN X13.here hx rfl (hb hby at_70) rfl <| XT.iconstV X13.here hx rfl (4 : Int32) (hb hby at_71) rfl <| XS.iload X13.here hx rfl (hb hby at_72) rfl <| k) ?_
  show own_Ends p e below s _ _ _ (T13.setTop (mkF m 74 #[.val (.int p1), .val (.int p2), .val (.int p3), .val (.long q4), .second, .val (.int (Int32.ofNat f)), .val (.int sp), .val (.ref b1), .unset, .unset, .unset] [(.int sp), (.int (4 : Int32)), (.long q4), (.int p3), (.int (4 : Int32)), (.ref b1)]))
  obtain ⟨_, _, ⟨T14, L14, k14, n14⟩, -, X14, ⟨Lc14, hQ14, l14, y14, z14⟩, st14⟩ := Jvm.LawKit.callS X13 hx (y := (⟨"com/example/pagra/pagra/core/HeaderSyntaxEndPinLaw", "pick", "(IJIC)C"⟩ : MethodName)) hown (mvT hZ (hw _ (List.mem_of_getElem? (i := 2) rfl))) (mvT hZ (hw _ (List.mem_of_getElem? (i := 3) rfl))) (mvT hZ (hw _ (List.mem_of_getElem? (i := 4) rfl))) (mvT hZ (hw _ (List.mem_of_getElem? (i := 5) rfl))) (by decide) (backOf (W := 2) (rm1 l Z a0 hw [] p3 q4 (4 : Int32) sp h13 n0 Z13) hZ (hw _ (List.mem_of_getElem? (i := 5) rfl)) (hw _ (List.mem_of_getElem? (i := 4) rfl)) (by decide) (by decide)) (g := (mkF m 74 #[.val (.int p1), .val (.int p2), .val (.int p3), .val (.long q4), .second, .val (.int (Int32.ofNat f)), .val (.int sp), .val (.ref b1), .unset, .unset, .unset] [(.int sp), (.int (4 : Int32)), (.long q4), (.int p3), (.int (4 : Int32)), (.ref b1)])) rfl (by rw [hml]; rfl) (argsL := [(.int p3), (.long q4), (.int (4 : Int32)), (.int sp)]) (rest := [(.int (4 : Int32)), (.ref b1)]) (lenOf pd_0 rfl) rfl (by show 2 * 0 + _ ≤ _; exact Nat.le_of_eq rfl) (hb hby at_74) (fun _ _ => ⟨rfl, e13, Nat.le_of_ble_eq_true rfl, Nat.le_of_ble_eq_true rfl⟩)
  dsimp only [Pt.U, Pt.locs, Pt.cells, Pt.slots] at X14 l14 y14 z14 st14 hQ14
  subst l14 y14 z14
  obtain ⟨c14, rfl, hc14, N14q, e14⟩ := hQ14
  have N14 := Fr.app N13 N14q
  refine own_go (fun _ k => st14 _ k) ?_
  show own_Ends p e below s _ _ _ (T14.setTop (mkF m 77 #[.val (.int p1), .val (.int p2), .val (.int p3), .val (.long q4), .second, .val (.int (Int32.ofNat f)), .val (.int sp), .val (.ref b1), .unset, .unset, .unset] [(.int c14), (.int (4 : Int32)), (.ref b1)]))
  obtain ⟨clb1_77_15, Arb1_77_15, qqb1_77_15, Szb1_77_15, Ngb1_77_15, Hsb1_77_15, Gfb1_77_15⟩ := id V_b1'13
  have hinb1_77_15 : ¬ ((4 : Int32) < 0 ∨ clb1_77_15.slots.size ≤ ((4 : Int32)).toNatClampNeg) := inb_of Szb1_77_15 ⟨by decide, by decide⟩
  obtain ⟨T16, h16, X16, e16, W16, st16⟩ := stC X14 hx hZ e14 Arb1_77_15 (j := (4 : Int32)) hinb1_77_15 (g := (mkF m 77 #[.val (.int p1), .val (.int p2), .val (.int p3), .val (.long q4), .second, .val (.int (Int32.ofNat f)), .val (.int sp), .val (.ref b1), .unset, .unset, .unset] [(.int c14), (.int (4 : Int32)), (.ref b1)])) rfl rfl (hb hby at_77)
  refine own_go st16 ?_
  have Z16 := Nat.le_trans Z13 (Keep.of_wr W16).1
  have O16 := O13.wr W16 g_b1
  have N16 := Fr.snoc X16 N14 g_b1
  have V_b1'16 : Arv Z h16 b1 k1 .char (5 : Int32) [(.int (nar .char c2)), (.int (nar .char c5)), (.int (nar .char c8)), (.int (nar .char c11)), (.int (nar .char c14))] (.int (0 : Int32)) := Arv.set Arb1_77_15 qqb1_77_15 Szb1_77_15 Ngb1_77_15 Hsb1_77_15 Gfb1_77_15 (fits_nar_char _) W16 4 rfl (Nat.le_of_ble_eq_true rfl)
  show own_Ends p e below s _ _ _ (T16.setTop (mkF m 78 #[.val (.int p1), .val (.int p2), .val (.int p3), .val (.long q4), .second, .val (.int (Int32.ofNat f)), .val (.int sp), .val (.ref b1), .unset, .unset, .unset] []))
  obtain ⟨cs, hcs⟩ : ∃ cs : List Int32, cs = [(nar .char c2), (nar .char c5), (nar .char c8), (nar .char c11), (nar .char c14)] := ⟨_, rfl⟩
  have hl5 : cs.length = 5 := by rw [hcs]; rfl
  have hC : own_Ch cs := by rw [hcs]; exact (by intro c hc; simp only [List.mem_cons, List.not_mem_nil, or_false] at hc; rcases hc with rfl | rfl | rfl | rfl | rfl <;> exact own_nn _)
  have VC : Arv Z h16 b1 k1 .char (Int32.ofNat cs.length) (cs.map Value.int) (.int (0 : Int32)) := by rw [hcs]; exact V_b1'16
  obtain ⟨T17, h17, X17, e17, E17, A17, D17, -, st17⟩ := newO X16 hx hZ hown (hw _ (List.mem_of_getElem? (i := 6) rfl)) (hw _ (List.mem_of_getElem? (i := 7) rfl)) (hw _ (List.mem_of_getElem? (i := 8) rfl)) e16 (g := (mkF m 78 #[.val (.int p1), .val (.int p2), .val (.int p3), .val (.long q4), .second, .val (.int (Int32.ofNat f)), .val (.int sp), .val (.ref b1), .unset, .unset, .unset] [])) rfl (hb hby at_78) (by decide) (by decide)
  obtain ⟨b17, g17⟩ : ∃ z, z = h16.size := ⟨_, rfl⟩
  rw [← g17] at A17 D17 st17
  refine own_go st17 ?_
  have ne_b1_b17 : b1 ≠ b17 := Nat.ne_of_lt (Nat.lt_of_lt_of_le VC.lt (Nat.le_of_eq g17.symm))
  have g_b17 : n0 ≤ b17 := Nat.le_trans Z16 (Nat.le_of_eq g17.symm)
  have VC'17 := VC.ext E17
  have Z17 := Nat.le_trans Z16 E17.1
  have O17 := O16.ext E17
  have F_coder_b17 : Fld Z h17 b17 "java/lang/String" "coder" "B" (.int (0 : Int32)) := D17 (Or.inr (hw _ (List.mem_of_getElem? (i := 32) rfl))) (ty := .byte) (by decide)
  have F_value_b17 : Fld Z h17 b17 "java/lang/String" "value" "[B" .null := D17 (Or.inr (hw _ (List.mem_of_getElem? (i := 34) rfl))) (ty := (.array .byte)) (by decide)
  show own_Ends p e below s _ _ _ (T17.setTop (mkF m 81 #[.val (.int p1), .val (.int p2), .val (.int p3), .val (.long q4), .second, .val (.int (Int32.ofNat f)), .val (.int sp), .val (.ref b1), .unset, .unset, .unset] [(.ref b17)]))
  refine own_go (fun _ k => XS.dup X17.here hx rfl (hb hby at_81) rfl rfl <| XS.aload X17.here hx rfl (hb hby at_82) rfl rfl <| k) ?_
  show own_Ends p e below s _ _ _ (T17.setTop (mkF m 84 #[.val (.int p1), .val (.int p2), .val (.int p3), .val (.long q4), .second, .val (.int (Int32.ofNat f)), .val (.int sp), .val (.ref b1), .unset, .unset, .unset] [(.ref b1), (.ref b17), (.ref b17)]))
  obtain ⟨_, _, ⟨T18, L18, k18, n18⟩, -, X18, ⟨Lc18, hQ18, l18, y18, z18⟩, st18⟩ := X17.specialBack hx (y := (⟨"java/lang/String", "<init>", "([C)V"⟩ : MethodName)) rfl hown (mvT hZ (hw _ (List.mem_of_getElem? (i := 9) rfl))) (mvT hZ (hw _ (List.mem_of_getElem? (i := 10) rfl))) (mvT hZ (hw _ (List.mem_of_getElem? (i := 11) rfl))) (by decide) (backOf (W := 1) (rm2 l Z a0 hw [] b17 b1 vc vf k1 cs h17 n0 Z17 O17 ST (by omega) hC (by omega) VC'17 A17 F_value_b17 F_coder_b17 (Ne.symm ne_b1_b17) g_b17) hZ (hw _ (List.mem_of_getElem? (i := 11) rfl)) (hw _ (List.mem_of_getElem? (i := 8) rfl)) (by decide) (by decide)) (g := (mkF m 84 #[.val (.int p1), .val (.int p2), .val (.int p3), .val (.long q4), .second, .val (.int (Int32.ofNat f)), .val (.int sp), .val (.ref b1), .unset, .unset, .unset] [(.ref b1), (.ref b17), (.ref b17)])) rfl (by rw [hml]; rfl) (Steps.refl _) (a := b17) (argsL := [(.ref b1)]) (rest := [(.ref b17)]) (lenOf pd_1 rfl) rfl (by show 2 * 0 + _ ≤ _; exact Nat.le_of_eq rfl) (hb hby at_84) (fun _ _ => ⟨rfl, e17, Nat.le_of_ble_eq_true rfl, Nat.le_of_ble_eq_true rfl⟩)
  dsimp only [Pt.U, Pt.locs, Pt.cells, Pt.slots] at X18 l18 y18 z18 st18 hQ18
  subst l18 y18 z18
  obtain ⟨b18, kb18, kc18, rfl, N18q, K18, g18, sz18, hkc18, Fv18, Fc18, Vb18⟩ := hQ18
  have N18 := Fr.app N16 N18q
  refine own_go (fun _ k => st18.trans k) ?_
  have VC'18 := VC'17.keep K18 (ninS ne_b1_b17 nin0)
  have A17'18 := A17.keep K18
  have Z18 := Nat.le_trans Z17 K18.1
  have O18 := O17.keep K18 (allS g_b17 all0)
  show own_Ends p e below s _ _ _ (T18.setTop (mkF m 87 #[.val (.int p1), .val (.int p2), .val (.int p3), .val (.long q4), .second, .val (.int (Int32.ofNat f)), .val (.int sp), .val (.ref b1), .unset, .unset, .unset] [(.ref b17)]))
  have ne_b1_b18 : b1 ≠ b18 := Nat.ne_of_lt (Nat.lt_of_lt_of_le VC'17.lt sz18)
  have ne_b17_b18 : b17 ≠ b18 := Nat.ne_of_lt (Nat.lt_of_lt_of_le A17.lt sz18)
  refine own_go (fun _ k => XS.astore X18.here hx rfl (hb hby at_87) rfl rfl (l' := #[.val (.int p1), .val (.int p2), .val (.int p3), .val (.long q4), .second, .val (.int (Int32.ofNat f)), .val (.int sp), .val (.ref b1), .val (.ref b17), .unset, .unset]) rfl <| XT.iconstV X18.here hx rfl (0 : Int32) (hb hby at_89) rfl <| XS.istore X18.here hx rfl (hb hby at_90) rfl (l' := #[.val (.int p1), .val (.int p2), .val (.int p3), .val (.long q4), .second, .val (.int (Int32.ofNat f)), .val (.int sp), .val (.ref b1), .val (.ref b17), .val (.int (0 : Int32)), .unset]) rfl <| XS.aload X18.here hx rfl (hb hby at_92) rfl rfl <| XT.iconstV X18.here hx rfl (0 : Int32) (hb hby at_94) rfl <| XS.iload X18.here hx rfl (hb hby at_95) rfl <| XS.iload X18.here hx rfl (hb hby at_97) rfl <| XS.iload X18.here hx rfl (hb hby at_99) rfl <| k) ?_
  show own_Ends p e below s _ _ _ (T18.setTop (mkF m 101 #[.val (.int p1), .val (.int p2), .val (.int p3), .val (.long q4), .second, .val (.int (Int32.ofNat f)), .val (.int sp), .val (.ref b1), .val (.ref b17), .val (.int (0 : Int32)), .unset] [(.int (0 : Int32)), (.int sp), (.int (Int32.ofNat f)), (.int (0 : Int32)), (.ref b1)]))
  obtain ⟨_, _, ⟨T19, L19, k19, n19⟩, -, X19, ⟨Lc19, hQ19, l19, y19, z19⟩, st19⟩ := Jvm.LawKit.callS X18 hx (y := (⟨"com/example/pagra/pagra/core/HeaderSyntaxEndPinLaw", "step", "([CIICI)I"⟩ : MethodName)) hown (mvT hZ (hw _ (List.mem_of_getElem? (i := 35) rfl))) (mvT hZ (hw _ (List.mem_of_getElem? (i := 36) rfl))) (mvT hZ (hw _ (List.mem_of_getElem? (i := 4) rfl))) (mvT hZ (hw _ (List.mem_of_getElem? (i := 37) rfl))) (by decide) (backOf (W := 0) (rm8 l Z a0 hw [] b1 (Int32.ofNat f) sp (0 : Int32) k1 cs 0 T18.heap n0 Z18 (by omega) (by omega) VC'18) hZ (hw _ (List.mem_of_getElem? (i := 37) rfl)) (hw _ (List.mem_of_getElem? (i := 4) rfl)) (by decide) (by decide)) (g := (mkF m 101 #[.val (.int p1), .val (.int p2), .val (.int p3), .val (.long q4), .second, .val (.int (Int32.ofNat f)), .val (.int sp), .val (.ref b1), .val (.ref b17), .val (.int (0 : Int32)), .unset] [(.int (0 : Int32)), (.int sp), (.int (Int32.ofNat f)), (.int (0 : Int32)), (.ref b1)])) rfl (by rw [hml]; rfl) (argsL := [(.ref b1), (.int (0 : Int32)), (.int (Int32.ofNat f)), (.int sp), (.int (0 : Int32))]) (rest := []) (lenOf pd_7 rfl) rfl (by show 2 * 0 + _ ≤ _; exact Nat.le_of_eq rfl) (hb hby at_101) (fun _ _ => ⟨rfl, rfl, Nat.le_of_ble_eq_true rfl, Nat.le_of_ble_eq_true rfl⟩)
  dsimp only [Pt.U, Pt.locs, Pt.cells, Pt.slots] at X19 l19 y19 z19 st19 hQ19
  subst l19 y19 z19
  obtain ⟨rfl, N19q, e19⟩ := hQ19
  have N19 := Fr.app N18 N19q
  refine own_go (fun _ k => st19 _ k) ?_
  show own_Ends p e below s _ _ _ (T19.setTop (mkF m 104 #[.val (.int p1), .val (.int p2), .val (.int p3), .val (.long q4), .second, .val (.int (Int32.ofNat f)), .val (.int sp), .val (.ref b1), .val (.ref b17), .val (.int (0 : Int32)), .unset] [(.int (own_stp (cs.getD 0 0) (Int32.ofNat 0) (Int32.ofNat f) sp (0 : Int32)))]))
  refine own_go (fun _ k => XS.istore X19.here hx rfl (hb hby at_104) rfl (l' := #[.val (.int p1), .val (.int p2), .val (.int p3), .val (.long q4), .second, .val (.int (Int32.ofNat f)), .val (.int sp), .val (.ref b1), .val (.ref b17), .val (.int (own_stp (cs.getD 0 0) (Int32.ofNat 0) (Int32.ofNat f) sp (0 : Int32))), .unset]) rfl <| XS.aload X19.here hx rfl (hb hby at_106) rfl rfl <| XT.iconstV X19.here hx rfl (1 : Int32) (hb hby at_108) rfl <| XS.iload X19.here hx rfl (hb hby at_109) rfl <| XS.iload X19.here hx rfl (hb hby at_111) rfl <| XS.iload X19.here hx rfl (hb hby at_113) rfl <| k) ?_
  show own_Ends p e below s _ _ _ (T19.setTop (mkF m 115 #[.val (.int p1), .val (.int p2), .val (.int p3), .val (.long q4), .second, .val (.int (Int32.ofNat f)), .val (.int sp), .val (.ref b1), .val (.ref b17), .val (.int (own_stp (cs.getD 0 0) (Int32.ofNat 0) (Int32.ofNat f) sp (0 : Int32))), .unset] [(.int (own_stp (cs.getD 0 0) (Int32.ofNat 0) (Int32.ofNat f) sp (0 : Int32))), (.int sp), (.int (Int32.ofNat f)), (.int (1 : Int32)), (.ref b1)]))
  obtain ⟨_, _, ⟨T20, L20, k20, n20⟩, -, X20, ⟨Lc20, hQ20, l20, y20, z20⟩, st20⟩ := Jvm.LawKit.callS X19 hx (y := (⟨"com/example/pagra/pagra/core/HeaderSyntaxEndPinLaw", "step", "([CIICI)I"⟩ : MethodName)) hown (mvT hZ (hw _ (List.mem_of_getElem? (i := 35) rfl))) (mvT hZ (hw _ (List.mem_of_getElem? (i := 36) rfl))) (mvT hZ (hw _ (List.mem_of_getElem? (i := 4) rfl))) (mvT hZ (hw _ (List.mem_of_getElem? (i := 37) rfl))) (by decide) (backOf (W := 0) (rm8 l Z a0 hw [] b1 (Int32.ofNat f) sp (own_stp (cs.getD 0 0) (Int32.ofNat 0) (Int32.ofNat f) sp (0 : Int32)) k1 cs 1 T18.heap n0 Z18 (by omega) (by omega) VC'18) hZ (hw _ (List.mem_of_getElem? (i := 37) rfl)) (hw _ (List.mem_of_getElem? (i := 4) rfl)) (by decide) (by decide)) (g := (mkF m 115 #[.val (.int p1), .val (.int p2), .val (.int p3), .val (.long q4), .second, .val (.int (Int32.ofNat f)), .val (.int sp), .val (.ref b1), .val (.ref b17), .val (.int (own_stp (cs.getD 0 0) (Int32.ofNat 0) (Int32.ofNat f) sp (0 : Int32))), .unset] [(.int (own_stp (cs.getD 0 0) (Int32.ofNat 0) (Int32.ofNat f) sp (0 : Int32))), (.int sp), (.int (Int32.ofNat f)), (.int (1 : Int32)), (.ref b1)])) rfl (by rw [hml]; rfl) (argsL := [(.ref b1), (.int (1 : Int32)), (.int (Int32.ofNat f)), (.int sp), (.int (own_stp (cs.getD 0 0) (Int32.ofNat 0) (Int32.ofNat f) sp (0 : Int32)))]) (rest := []) (lenOf pd_7 rfl) rfl (by show 2 * 0 + _ ≤ _; exact Nat.le_of_eq rfl) (hb hby at_115) (fun _ _ => ⟨rfl, e19, Nat.le_of_ble_eq_true rfl, Nat.le_of_ble_eq_true rfl⟩)
  dsimp only [Pt.U, Pt.locs, Pt.cells, Pt.slots] at X20 l20 y20 z20 st20 hQ20
  subst l20 y20 z20
  obtain ⟨rfl, N20q, e20⟩ := hQ20
  have N20 := Fr.app N19 N20q
  refine own_go (fun _ k => st20 _ k) ?_
  show own_Ends p e below s _ _ _ (T20.setTop (mkF m 118 #[.val (.int p1), .val (.int p2), .val (.int p3), .val (.long q4), .second, .val (.int (Int32.ofNat f)), .val (.int sp), .val (.ref b1), .val (.ref b17), .val (.int (own_stp (cs.getD 0 0) (Int32.ofNat 0) (Int32.ofNat f) sp (0 : Int32))), .unset] [(.int (own_stp (cs.getD 1 0) (Int32.ofNat 1) (Int32.ofNat f) sp (own_stp (cs.getD 0 0) (Int32.ofNat 0) (Int32.ofNat f) sp (0 : Int32))))]))
  refine own_go (fun _ k => XS.istore X20.here hx rfl (hb hby at_118) rfl (l' := #[.val (.int p1), .val (.int p2), .val (.int p3), .val (.long q4), .second, .val (.int (Int32.ofNat f)), .val (.int sp), .val (.ref b1), .val (.ref b17), .val (.int (own_stp (cs.getD 1 0) (Int32.ofNat 1) (Int32.ofNat f) sp (own_stp (cs.getD 0 0) (Int32.ofNat 0) (Int32.ofNat f) sp (0 : Int32)))), .unset]) rfl <| XS.aload X20.here hx rfl (hb hby at_120) rfl rfl <| XT.iconstV X20.here hx rfl (2 : Int32) (hb hby at_122) rfl <| XS.iload X20.here hx rfl (hb hby at_123) rfl <| XS.iload X20.here hx rfl (hb hby at_125) rfl <| XS.iload X20.here hx rfl (hb hby at_127) rfl <| k) ?_
  show own_Ends p e below s _ _ _ (T20.setTop (mkF m 129 #[.val (.int p1), .val (.int p2), .val (.int p3), .val (.long q4), .second, .val (.int (Int32.ofNat f)), .val (.int sp), .val (.ref b1), .val (.ref b17), .val (.int (own_stp (cs.getD 1 0) (Int32.ofNat 1) (Int32.ofNat f) sp (own_stp (cs.getD 0 0) (Int32.ofNat 0) (Int32.ofNat f) sp (0 : Int32)))), .unset] [(.int (own_stp (cs.getD 1 0) (Int32.ofNat 1) (Int32.ofNat f) sp (own_stp (cs.getD 0 0) (Int32.ofNat 0) (Int32.ofNat f) sp (0 : Int32)))), (.int sp), (.int (Int32.ofNat f)), (.int (2 : Int32)), (.ref b1)]))
  obtain ⟨_, _, ⟨T21, L21, k21, n21⟩, -, X21, ⟨Lc21, hQ21, l21, y21, z21⟩, st21⟩ := Jvm.LawKit.callS X20 hx (y := (⟨"com/example/pagra/pagra/core/HeaderSyntaxEndPinLaw", "step", "([CIICI)I"⟩ : MethodName)) hown (mvT hZ (hw _ (List.mem_of_getElem? (i := 35) rfl))) (mvT hZ (hw _ (List.mem_of_getElem? (i := 36) rfl))) (mvT hZ (hw _ (List.mem_of_getElem? (i := 4) rfl))) (mvT hZ (hw _ (List.mem_of_getElem? (i := 37) rfl))) (by decide) (backOf (W := 0) (rm8 l Z a0 hw [] b1 (Int32.ofNat f) sp (own_stp (cs.getD 1 0) (Int32.ofNat 1) (Int32.ofNat f) sp (own_stp (cs.getD 0 0) (Int32.ofNat 0) (Int32.ofNat f) sp (0 : Int32))) k1 cs 2 T18.heap n0 Z18 (by omega) (by omega) VC'18) hZ (hw _ (List.mem_of_getElem? (i := 37) rfl)) (hw _ (List.mem_of_getElem? (i := 4) rfl)) (by decide) (by decide)) (g := (mkF m 129 #[.val (.int p1), .val (.int p2), .val (.int p3), .val (.long q4), .second, .val (.int (Int32.ofNat f)), .val (.int sp), .val (.ref b1), .val (.ref b17), .val (.int (own_stp (cs.getD 1 0) (Int32.ofNat 1) (Int32.ofNat f) sp (own_stp (cs.getD 0 0) (Int32.ofNat 0) (Int32.ofNat f) sp (0 : Int32)))), .unset] [(.int (own_stp (cs.getD 1 0) (Int32.ofNat 1) (Int32.ofNat f) sp (own_stp (cs.getD 0 0) (Int32.ofNat 0) (Int32.ofNat f) sp (0 : Int32)))), (.int sp), (.int (Int32.ofNat f)), (.int (2 : Int32)), (.ref b1)])) rfl (by rw [hml]; rfl) (argsL := [(.ref b1), (.int (2 : Int32)), (.int (Int32.ofNat f)), (.int sp), (.int (own_stp (cs.getD 1 0) (Int32.ofNat 1) (Int32.ofNat f) sp (own_stp (cs.getD 0 0) (Int32.ofNat 0) (Int32.ofNat f) sp (0 : Int32))))]) (rest := []) (lenOf pd_7 rfl) rfl (by show 2 * 0 + _ ≤ _; exact Nat.le_of_eq rfl) (hb hby at_129) (fun _ _ => ⟨rfl, e20, Nat.le_of_ble_eq_true rfl, Nat.le_of_ble_eq_true rfl⟩)
  dsimp only [Pt.U, Pt.locs, Pt.cells, Pt.slots] at X21 l21 y21 z21 st21 hQ21
  subst l21 y21 z21
  obtain ⟨rfl, N21q, e21⟩ := hQ21
  have N21 := Fr.app N20 N21q
  refine own_go (fun _ k => st21 _ k) ?_
  show own_Ends p e below s _ _ _ (T21.setTop (mkF m 132 #[.val (.int p1), .val (.int p2), .val (.int p3), .val (.long q4), .second, .val (.int (Int32.ofNat f)), .val (.int sp), .val (.ref b1), .val (.ref b17), .val (.int (own_stp (cs.getD 1 0) (Int32.ofNat 1) (Int32.ofNat f) sp (own_stp (cs.getD 0 0) (Int32.ofNat 0) (Int32.ofNat f) sp (0 : Int32)))), .unset] [(.int (own_stp (cs.getD 2 0) (Int32.ofNat 2) (Int32.ofNat f) sp (own_stp (cs.getD 1 0) (Int32.ofNat 1) (Int32.ofNat f) sp (own_stp (cs.getD 0 0) (Int32.ofNat 0) (Int32.ofNat f) sp (0 : Int32)))))]))
  refine own_go (fun _ k => XS.istore X21.here hx rfl (hb hby at_132) rfl (l' := #[.val (.int p1), .val (.int p2), .val (.int p3), .val (.long q4), .second, .val (.int (Int32.ofNat f)), .val (.int sp), .val (.ref b1), .val (.ref b17), .val (.int (own_stp (cs.getD 2 0) (Int32.ofNat 2) (Int32.ofNat f) sp (own_stp (cs.getD 1 0) (Int32.ofNat 1) (Int32.ofNat f) sp (own_stp (cs.getD 0 0) (Int32.ofNat 0) (Int32.ofNat f) sp (0 : Int32))))), .unset]) rfl <| XS.aload X21.here hx rfl (hb hby at_134) rfl rfl <| XT.iconstV X21.here hx rfl (3 : Int32) (hb hby at_136) rfl <| XS.iload X21.here hx rfl (hb hby at_137) rfl <| XS.iload X21.here hx rfl (hb hby at_139) rfl <| XS.iload X21.here hx rfl (hb hby at_141) rfl <| k) ?_
  show own_Ends p e below s _ _ _ (T21.setTop (mkF m 143 #[.val (.int p1), .val (.int p2), .val (.int p3), .val (.long q4), .second, .val (.int (Int32.ofNat f)), .val (.int sp), .val (.ref b1), .val (.ref b17), .val (.int (own_stp (cs.getD 2 0) (Int32.ofNat 2) (Int32.ofNat f) sp (own_stp (cs.getD 1 0) (Int32.ofNat 1) (Int32.ofNat f) sp (own_stp (cs.getD 0 0) (Int32.ofNat 0) (Int32.ofNat f) sp (0 : Int32))))), .unset] [(.int (own_stp (cs.getD 2 0) (Int32.ofNat 2) (Int32.ofNat f) sp (own_stp (cs.getD 1 0) (Int32.ofNat 1) (Int32.ofNat f) sp (own_stp (cs.getD 0 0) (Int32.ofNat 0) (Int32.ofNat f) sp (0 : Int32))))), (.int sp), (.int (Int32.ofNat f)), (.int (3 : Int32)), (.ref b1)]))
  obtain ⟨_, _, ⟨T22, L22, k22, n22⟩, -, X22, ⟨Lc22, hQ22, l22, y22, z22⟩, st22⟩ := Jvm.LawKit.callS X21 hx (y := (⟨"com/example/pagra/pagra/core/HeaderSyntaxEndPinLaw", "step", "([CIICI)I"⟩ : MethodName)) hown (mvT hZ (hw _ (List.mem_of_getElem? (i := 35) rfl))) (mvT hZ (hw _ (List.mem_of_getElem? (i := 36) rfl))) (mvT hZ (hw _ (List.mem_of_getElem? (i := 4) rfl))) (mvT hZ (hw _ (List.mem_of_getElem? (i := 37) rfl))) (by decide) (backOf (W := 0) (rm8 l Z a0 hw [] b1 (Int32.ofNat f) sp (own_stp (cs.getD 2 0) (Int32.ofNat 2) (Int32.ofNat f) sp (own_stp (cs.getD 1 0) (Int32.ofNat 1) (Int32.ofNat f) sp (own_stp (cs.getD 0 0) (Int32.ofNat 0) (Int32.ofNat f) sp (0 : Int32)))) k1 cs 3 T18.heap n0 Z18 (by omega) (by omega) VC'18) hZ (hw _ (List.mem_of_getElem? (i := 37) rfl)) (hw _ (List.mem_of_getElem? (i := 4) rfl)) (by decide) (by decide)) (g := (mkF m 143 #[.val (.int p1), .val (.int p2), .val (.int p3), .val (.long q4), .second, .val (.int (Int32.ofNat f)), .val (.int sp), .val (.ref b1), .val (.ref b17), .val (.int (own_stp (cs.getD 2 0) (Int32.ofNat 2) (Int32.ofNat f) sp (own_stp (cs.getD 1 0) (Int32.ofNat 1) (Int32.ofNat f) sp (own_stp (cs.getD 0 0) (Int32.ofNat 0) (Int32.ofNat f) sp (0 : Int32))))), .unset] [(.int (own_stp (cs.getD 2 0) (Int32.ofNat 2) (Int32.ofNat f) sp (own_stp (cs.getD 1 0) (Int32.ofNat 1) (Int32.ofNat f) sp (own_stp (cs.getD 0 0) (Int32.ofNat 0) (Int32.ofNat f) sp (0 : Int32))))), (.int sp), (.int (Int32.ofNat f)), (.int (3 : Int32)), (.ref b1)])) rfl (by rw [hml]; rfl) (argsL := [(.ref b1), (.int (3 : Int32)), (.int (Int32.ofNat f)), (.int sp), (.int (own_stp (cs.getD 2 0) (Int32.ofNat 2) (Int32.ofNat f) sp (own_stp (cs.getD 1 0) (Int32.ofNat 1) (Int32.ofNat f) sp (own_stp (cs.getD 0 0) (Int32.ofNat 0) (Int32.ofNat f) sp (0 : Int32)))))]) (rest := []) (lenOf pd_7 rfl) rfl (by show 2 * 0 + _ ≤ _; exact Nat.le_of_eq rfl) (hb hby at_143) (fun _ _ => ⟨rfl, e21, Nat.le_of_ble_eq_true rfl, Nat.le_of_ble_eq_true rfl⟩)
  dsimp only [Pt.U, Pt.locs, Pt.cells, Pt.slots] at X22 l22 y22 z22 st22 hQ22
  subst l22 y22 z22
  obtain ⟨rfl, N22q, e22⟩ := hQ22
  have N22 := Fr.app N21 N22q
  refine own_go (fun _ k => st22 _ k) ?_
  show own_Ends p e below s _ _ _ (T22.setTop (mkF m 146 #[.val (.int p1), .val (.int p2), .val (.int p3), .val (.long q4), .second, .val (.int (Int32.ofNat f)), .val (.int sp), .val (.ref b1), .val (.ref b17), .val (.int (own_stp (cs.getD 2 0) (Int32.ofNat 2) (Int32.ofNat f) sp (own_stp (cs.getD 1 0) (Int32.ofNat 1) (Int32.ofNat f) sp (own_stp (cs.getD 0 0) (Int32.ofNat 0) (Int32.ofNat f) sp (0 : Int32))))), .unset] [(.int (own_stp (cs.getD 3 0) (Int32.ofNat 3) (Int32.ofNat f) sp (own_stp (cs.getD 2 0) (Int32.ofNat 2) (Int32.ofNat f) sp (own_stp (cs.getD 1 0) (Int32.ofNat 1) (Int32.ofNat f) sp (own_stp (cs.getD 0 0) (Int32.ofNat 0) (Int32.ofNat f) sp (0 : Int32))))))]))
  refine own_go (fun _ k => XS.istore X22.here hx rfl (hb hby at_146) rfl (l' := #[.val (.int p1), .val (.int p2), .val (.int p3), .val (.long q4), .second, .val (.int (Int32.ofNat f)), .val (.int sp), .val (.ref b1), .val (.ref b17), .val (.int (own_stp (cs.getD 3 0) (Int32.ofNat 3) (Int32.ofNat f) sp (own_stp (cs.getD 2 0) (Int32.ofNat 2) (Int32.ofNat f) sp (own_stp (cs.getD 1 0) (Int32.ofNat 1) (Int32.ofNat f) sp (own_stp (cs.getD 0 0) (Int32.ofNat 0) (Int32.ofNat f) sp (0 : Int32)))))), .unset]) rfl <| XS.aload X22.here hx rfl (hb hby at_148) rfl rfl <| XT.iconstV X22.here hx rfl (4 : Int32) (hb hby at_150) rfl <| XS.iload X22.here hx rfl (hb hby at_151) rfl <| XS.iload X22.here hx rfl (hb hby at_153) rfl <| XS.iload X22.here hx rfl (hb hby at_155) rfl <| k) ?_
  show own_Ends p e below s _ _ _ (T22.setTop (mkF m 157 #[.val (.int p1), .val (.int p2), .val (.int p3), .val (.long q4), .second, .val (.int (Int32.ofNat f)), .val (.int sp), .val (.ref b1), .val (.ref b17), .val (.int (own_stp (cs.getD 3 0) (Int32.ofNat 3) (Int32.ofNat f) sp (own_stp (cs.getD 2 0) (Int32.ofNat 2) (Int32.ofNat f) sp (own_stp (cs.getD 1 0) (Int32.ofNat 1) (Int32.ofNat f) sp (own_stp (cs.getD 0 0) (Int32.ofNat 0) (Int32.ofNat f) sp (0 : Int32)))))), .unset] [(.int (own_stp (cs.getD 3 0) (Int32.ofNat 3) (Int32.ofNat f) sp (own_stp (cs.getD 2 0) (Int32.ofNat 2) (Int32.ofNat f) sp (own_stp (cs.getD 1 0) (Int32.ofNat 1) (Int32.ofNat f) sp (own_stp (cs.getD 0 0) (Int32.ofNat 0) (Int32.ofNat f) sp (0 : Int32)))))), (.int sp), (.int (Int32.ofNat f)), (.int (4 : Int32)), (.ref b1)]))
  obtain ⟨_, _, ⟨T23, L23, k23, n23⟩, -, X23, ⟨Lc23, hQ23, l23, y23, z23⟩, st23⟩ := Jvm.LawKit.callS X22 hx (y := (⟨"com/example/pagra/pagra/core/HeaderSyntaxEndPinLaw", "step", "([CIICI)I"⟩ : MethodName)) hown (mvT hZ (hw _ (List.mem_of_getElem? (i := 35) rfl))) (mvT hZ (hw _ (List.mem_of_getElem? (i := 36) rfl))) (mvT hZ (hw _ (List.mem_of_getElem? (i := 4) rfl))) (mvT hZ (hw _ (List.mem_of_getElem? (i := 37) rfl))) (by decide) (backOf (W := 0) (rm8 l Z a0 hw [] b1 (Int32.ofNat f) sp (own_stp (cs.getD 3 0) (Int32.ofNat 3) (Int32.ofNat f) sp (own_stp (cs.getD 2 0) (Int32.ofNat 2) (Int32.ofNat f) sp (own_stp (cs.getD 1 0) (Int32.ofNat 1) (Int32.ofNat f) sp (own_stp (cs.getD 0 0) (Int32.ofNat 0) (Int32.ofNat f) sp (0 : Int32))))) k1 cs 4 T18.heap n0 Z18 (by omega) (by omega) VC'18) hZ (hw _ (List.mem_of_getElem? (i := 37) rfl)) (hw _ (List.mem_of_getElem? (i := 4) rfl)) (by decide) (by decide)) (g := (mkF m 157 #[.val (.int p1), .val (.int p2), .val (.int p3), .val (.long q4), .second, .val (.int (Int32.ofNat f)), .val (.int sp), .val (.ref b1), .val (.ref b17), .val (.int (own_stp (cs.getD 3 0) (Int32.ofNat 3) (Int32.ofNat f) sp (own_stp (cs.getD 2 0) (Int32.ofNat 2) (Int32.ofNat f) sp (own_stp (cs.getD 1 0) (Int32.ofNat 1) (Int32.ofNat f) sp (own_stp (cs.getD 0 0) (Int32.ofNat 0) (Int32.ofNat f) sp (0 : Int32)))))), .unset] [(.int (own_stp (cs.getD 3 0) (Int32.ofNat 3) (Int32.ofNat f) sp (own_stp (cs.getD 2 0) (Int32.ofNat 2) (Int32.ofNat f) sp (own_stp (cs.getD 1 0) (Int32.ofNat 1) (Int32.ofNat f) sp (own_stp (cs.getD 0 0) (Int32.ofNat 0) (Int32.ofNat f) sp (0 : Int32)))))), (.int sp), (.int (Int32.ofNat f)), (.int (4 : Int32)), (.ref b1)])) rfl (by rw [hml]; rfl) (argsL := [(.ref b1), (.int (4 : Int32)), (.int (Int32.ofNat f)), (.int sp), (.int (own_stp (cs.getD 3 0) (Int32.ofNat 3) (Int32.ofNat f) sp (own_stp (cs.getD 2 0) (Int32.ofNat 2) (Int32.ofNat f) sp (own_stp (cs.getD 1 0) (Int32.ofNat 1) (Int32.ofNat f) sp (own_stp (cs.getD 0 0) (Int32.ofNat 0) (Int32.ofNat f) sp (0 : Int32))))))]) (rest := []) (lenOf pd_7 rfl) rfl (by show 2 * 0 + _ ≤ _; exact Nat.le_of_eq rfl) (hb hby at_157) (fun _ _ => ⟨rfl, e22, Nat.le_of_ble_eq_true rfl, Nat.le_of_ble_eq_true rfl⟩)
  dsimp only [Pt.U, Pt.locs, Pt.cells, Pt.slots] at X23 l23 y23 z23 st23 hQ23
  subst l23 y23 z23
  obtain ⟨rfl, N23q, e23⟩ := hQ23
  have N23 := Fr.app N22 N23q
  refine own_go (fun _ k => st23 _ k) ?_
  show own_Ends p e below s _ _ _ (T23.setTop (mkF m 160 #[.val (.int p1), .val (.int p2), .val (.int p3), .val (.long q4), .second, .val (.int (Int32.ofNat f)), .val (.int sp), .val (.ref b1), .val (.ref b17), .val (.int (own_stp (cs.getD 3 0) (Int32.ofNat 3) (Int32.ofNat f) sp (own_stp (cs.getD 2 0) (Int32.ofNat 2) (Int32.ofNat f) sp (own_stp (cs.getD 1 0) (Int32.ofNat 1) (Int32.ofNat f) sp (own_stp (cs.getD 0 0) (Int32.ofNat 0) (Int32.ofNat f) sp (0 : Int32)))))), .unset] [(.int (own_stp (cs.getD 4 0) (Int32.ofNat 4) (Int32.ofNat f) sp (own_stp (cs.getD 3 0) (Int32.ofNat 3) (Int32.ofNat f) sp (own_stp (cs.getD 2 0) (Int32.ofNat 2) (Int32.ofNat f) sp (own_stp (cs.getD 1 0) (Int32.ofNat 1) (Int32.ofNat f) sp (own_stp (cs.getD 0 0) (Int32.ofNat 0) (Int32.ofNat f) sp (0 : Int32)))))))]))
  refine own_go (fun _ k => XS.istore X23.here hx rfl (hb hby at_160) rfl (l' := #[.val (.int p1), .val (.int p2), .val (.int p3), .val (.long q4), .second, .val (.int (Int32.ofNat f)), .val (.int sp), .val (.ref b1), .val (.ref b17), .val (.int (own_stp (cs.getD 4 0) (Int32.ofNat 4) (Int32.ofNat f) sp (own_stp (cs.getD 3 0) (Int32.ofNat 3) (Int32.ofNat f) sp (own_stp (cs.getD 2 0) (Int32.ofNat 2) (Int32.ofNat f) sp (own_stp (cs.getD 1 0) (Int32.ofNat 1) (Int32.ofNat f) sp (own_stp (cs.getD 0 0) (Int32.ofNat 0) (Int32.ofNat f) sp (0 : Int32))))))), .unset]) rfl <| k) ?_
  show own_Ends p e below s _ _ _ (T23.setTop (mkF m 162 #[.val (.int p1), .val (.int p2), .val (.int p3), .val (.long q4), .second, .val (.int (Int32.ofNat f)), .val (.int sp), .val (.ref b1), .val (.ref b17), .val (.int (own_stp (cs.getD 4 0) (Int32.ofNat 4) (Int32.ofNat f) sp (own_stp (cs.getD 3 0) (Int32.ofNat 3) (Int32.ofNat f) sp (own_stp (cs.getD 2 0) (Int32.ofNat 2) (Int32.ofNat f) sp (own_stp (cs.getD 1 0) (Int32.ofNat 1) (Int32.ofNat f) sp (own_stp (cs.getD 0 0) (Int32.ofNat 0) (Int32.ofNat f) sp (0 : Int32))))))), .unset] []))
  refine own_go (fun _ k => XS.iload X23.here hx rfl (hb hby at_162) rfl <| k) ?_
  show own_Ends p e below s _ _ _ (T23.setTop (mkF m 164 #[.val (.int p1), .val (.int p2), .val (.int p3), .val (.long q4), .second, .val (.int (Int32.ofNat f)), .val (.int sp), .val (.ref b1), .val (.ref b17), .val (.int (own_stp (cs.getD 4 0) (Int32.ofNat 4) (Int32.ofNat f) sp (own_stp (cs.getD 3 0) (Int32.ofNat 3) (Int32.ofNat f) sp (own_stp (cs.getD 2 0) (Int32.ofNat 2) (Int32.ofNat f) sp (own_stp (cs.getD 1 0) (Int32.ofNat 1) (Int32.ofNat f) sp (own_stp (cs.getD 0 0) (Int32.ofNat 0) (Int32.ofNat f) sp (0 : Int32))))))), .unset] [(.int (own_stp (cs.getD 4 0) (Int32.ofNat 4) (Int32.ofNat f) sp (own_stp (cs.getD 3 0) (Int32.ofNat 3) (Int32.ofNat f) sp (own_stp (cs.getD 2 0) (Int32.ofNat 2) (Int32.ofNat f) sp (own_stp (cs.getD 1 0) (Int32.ofNat 1) (Int32.ofNat f) sp (own_stp (cs.getD 0 0) (Int32.ofNat 0) (Int32.ofNat f) sp (0 : Int32)))))))]))
  by_cases hc164_24 : (own_stp (cs.getD 4 0) (Int32.ofNat 4) (Int32.ofNat f) sp (own_stp (cs.getD 3 0) (Int32.ofNat 3) (Int32.ofNat f) sp (own_stp (cs.getD 2 0) (Int32.ofNat 2) (Int32.ofNat f) sp (own_stp (cs.getD 1 0) (Int32.ofNat 1) (Int32.ofNat f) sp (own_stp (cs.getD 0 0) (Int32.ofNat 0) (Int32.ofNat f) sp (0 : Int32)))))) < (0 : Int32)
  · -- true
    refine own_go (fun _ k => XS.ifNo X23.here hx rfl (hb hby at_164) rfl ((if0 _ _).trans (tlt hc164_24).2.1) <| XS.iload X23.here hx rfl (hb hby at_167) rfl <| XS.ineg X23.here hx rfl (hb hby at_169) rfl <| XT.iconstV X23.here hx rfl (1 : Int32) (hb hby at_170) rfl <| XS.isub X23.here hx rfl (hb hby at_171) rfl <| XS.goto X23.here hx rfl (pc0 := 172) (pc' := 176) rfl (hb hby at_172) (by decide) (by decide) <| XS.istore X23.here hx rfl (hb hby at_176) rfl (l' := #[.val (.int p1), .val (.int p2), .val (.int p3), .val (.long q4), .second, .val (.int (Int32.ofNat f)), .val (.int sp), .val (.ref b1), .val (.ref b17), .val (.int (own_stp (cs.getD 4 0) (Int32.ofNat 4) (Int32.ofNat f) sp (own_stp (cs.getD 3 0) (Int32.ofNat 3) (Int32.ofNat f) sp (own_stp (cs.getD 2 0) (Int32.ofNat 2) (Int32.ofNat f) sp (own_stp (cs.getD 1 0) (Int32.ofNat 1) (Int32.ofNat f) sp (own_stp (cs.getD 0 0) (Int32.ofNat 0) (Int32.ofNat f) sp (0 : Int32))))))), .val (.int ((-(own_stp (cs.getD 4 0) (Int32.ofNat 4) (Int32.ofNat f) sp (own_stp (cs.getD 3 0) (Int32.ofNat 3) (Int32.ofNat f) sp (own_stp (cs.getD 2 0) (Int32.ofNat 2) (Int32.ofNat f) sp (own_stp (cs.getD 1 0) (Int32.ofNat 1) (Int32.ofNat f) sp (own_stp (cs.getD 0 0) (Int32.ofNat 0) (Int32.ofNat f) sp (0 : Int32))))))) - (1 : Int32)))]) rfl <| XS.aload X23.here hx rfl (hb hby at_178) rfl rfl <| XS.iload X23.here hx rfl (hb hby at_180) rfl <| XS.iload X23.here hx rfl (hb hby at_182) rfl <| k) ?_
    show own_Ends p e below s _ _ _ (T23.setTop (mkF m 184 #[.val (.int p1), .val (.int p2), .val (.int p3), .val (.long q4), .second, .val (.int (Int32.ofNat f)), .val (.int sp), .val (.ref b1), .val (.ref b17), .val (.int (own_stp (cs.getD 4 0) (Int32.ofNat 4) (Int32.ofNat f) sp (own_stp (cs.getD 3 0) (Int32.ofNat 3) (Int32.ofNat f) sp (own_stp (cs.getD 2 0) (Int32.ofNat 2) (Int32.ofNat f) sp (own_stp (cs.getD 1 0) (Int32.ofNat 1) (Int32.ofNat f) sp (own_stp (cs.getD 0 0) (Int32.ofNat 0) (Int32.ofNat f) sp (0 : Int32))))))), .val (.int ((-(own_stp (cs.getD 4 0) (Int32.ofNat 4) (Int32.ofNat f) sp (own_stp (cs.getD 3 0) (Int32.ofNat 3) (Int32.ofNat f) sp (own_stp (cs.getD 2 0) (Int32.ofNat 2) (Int32.ofNat f) sp (own_stp (cs.getD 1 0) (Int32.ofNat 1) (Int32.ofNat f) sp (own_stp (cs.getD 0 0) (Int32.ofNat 0) (Int32.ofNat f) sp (0 : Int32))))))) - (1 : Int32)))] [(.int sp), (.int (Int32.ofNat f)), (.ref b17)]))
    obtain ⟨_, _, ⟨T25, L25, k25, n25⟩, -, X25, ⟨Lc25, hQ25, l25, y25, z25⟩, st25⟩ := Jvm.LawKit.callS X23 hx (y := (⟨"com/example/pagra/pagra/core/HeaderSyntax", "end", "(Ljava/lang/String;IC)I"⟩ : MethodName)) hown (mvT hZ (hw _ (List.mem_of_getElem? (i := 38) rfl))) (mvT hZ (hw _ (List.mem_of_getElem? (i := 39) rfl))) (mvT hZ (hw _ (List.mem_of_getElem? (i := 40) rfl))) (mvT hZ (hw _ (List.mem_of_getElem? (i := 41) rfl))) (by decide) (backOf (W := 0) (rm9 l Z a0 hw [] b17 sp vc vf b18 kb18 kc18 cs f T18.heap n0 Z18 O18 ST (by omega) hC hf8 A17'18 Fv18 Fc18 Vb18 hkc18) hZ (hw _ (List.mem_of_getElem? (i := 41) rfl)) (hw _ (List.mem_of_getElem? (i := 40) rfl)) (by decide) (by decide)) (g := (mkF m 184 #[.val (.int p1), .val (.int p2), .val (.int p3), .val (.long q4), .second, .val (.int (Int32.ofNat f)), .val (.int sp), .val (.ref b1), .val (.ref b17), .val (.int (own_stp (cs.getD 4 0) (Int32.ofNat 4) (Int32.ofNat f) sp (own_stp (cs.getD 3 0) (Int32.ofNat 3) (Int32.ofNat f) sp (own_stp (cs.getD 2 0) (Int32.ofNat 2) (Int32.ofNat f) sp (own_stp (cs.getD 1 0) (Int32.ofNat 1) (Int32.ofNat f) sp (own_stp (cs.getD 0 0) (Int32.ofNat 0) (Int32.ofNat f) sp (0 : Int32))))))), .val (.int ((-(own_stp (cs.getD 4 0) (Int32.ofNat 4) (Int32.ofNat f) sp (own_stp (cs.getD 3 0) (Int32.ofNat 3) (Int32.ofNat f) sp (own_stp (cs.getD 2 0) (Int32.ofNat 2) (Int32.ofNat f) sp (own_stp (cs.getD 1 0) (Int32.ofNat 1) (Int32.ofNat f) sp (own_stp (cs.getD 0 0) (Int32.ofNat 0) (Int32.ofNat f) sp (0 : Int32))))))) - (1 : Int32)))] [(.int sp), (.int (Int32.ofNat f)), (.ref b17)])) rfl (by rw [hml]; rfl) (argsL := [(.ref b17), (.int (Int32.ofNat f)), (.int sp)]) (rest := []) (lenOf pd_8 rfl) rfl (by show 2 * 0 + _ ≤ _; exact Nat.le_of_eq rfl) (hb hby at_184) (fun _ _ => ⟨rfl, e23, Nat.le_of_ble_eq_true rfl, Nat.le_of_ble_eq_true rfl⟩)
    dsimp only [Pt.U, Pt.locs, Pt.cells, Pt.slots] at X25 l25 y25 z25 st25 hQ25
    subst l25 y25 z25
    obtain ⟨rfl, N25q, e25⟩ := hQ25
    have N25 := Fr.app N23 N25q
    refine own_go (fun _ k => st25 _ k) ?_
    show own_Ends p e below s _ _ _ (T25.setTop (mkF m 187 #[.val (.int p1), .val (.int p2), .val (.int p3), .val (.long q4), .second, .val (.int (Int32.ofNat f)), .val (.int sp), .val (.ref b1), .val (.ref b17), .val (.int (own_stp (cs.getD 4 0) (Int32.ofNat 4) (Int32.ofNat f) sp (own_stp (cs.getD 3 0) (Int32.ofNat 3) (Int32.ofNat f) sp (own_stp (cs.getD 2 0) (Int32.ofNat 2) (Int32.ofNat f) sp (own_stp (cs.getD 1 0) (Int32.ofNat 1) (Int32.ofNat f) sp (own_stp (cs.getD 0 0) (Int32.ofNat 0) (Int32.ofNat f) sp (0 : Int32))))))), .val (.int ((-(own_stp (cs.getD 4 0) (Int32.ofNat 4) (Int32.ofNat f) sp (own_stp (cs.getD 3 0) (Int32.ofNat 3) (Int32.ofNat f) sp (own_stp (cs.getD 2 0) (Int32.ofNat 2) (Int32.ofNat f) sp (own_stp (cs.getD 1 0) (Int32.ofNat 1) (Int32.ofNat f) sp (own_stp (cs.getD 0 0) (Int32.ofNat 0) (Int32.ofNat f) sp (0 : Int32))))))) - (1 : Int32)))] [(.int (Int32.ofNat (own_end cs sp 9 false f)))]))
    refine own_go (fun _ k => XS.iload X25.here hx rfl (hb hby at_187) rfl <| XS.icmpNo X25.here hx rfl (hb hby at_189) rfl (teq (by rw [← own_C hl5 sp hf8 5 0 rfl (Nat.zero_le _)]; show own_exp (own_stp (cs.getD 4 0) (Int32.ofNat 4) (Int32.ofNat f) sp (own_stp (cs.getD 3 0) (Int32.ofNat 3) (Int32.ofNat f) sp (own_stp (cs.getD 2 0) (Int32.ofNat 2) (Int32.ofNat f) sp (own_stp (cs.getD 1 0) (Int32.ofNat 1) (Int32.ofNat f) sp (own_stp (cs.getD 0 0) (Int32.ofNat 0) (Int32.ofNat f) sp (0 : Int32)))))) = _; unfold own_exp; rw [if_pos hc164_24])).2 <| XT.iconstV X25.here hx rfl (1 : Int32) (hb hby at_192) rfl <| XS.goto X25.here hx rfl (pc0 := 193) (pc' := 197) rfl (hb hby at_193) (by decide) (by decide) <| k) ?_
    show own_Ends p e below s _ _ _ (T25.setTop (mkF m 197 #[.val (.int p1), .val (.int p2), .val (.int p3), .val (.long q4), .second, .val (.int (Int32.ofNat f)), .val (.int sp), .val (.ref b1), .val (.ref b17), .val (.int (own_stp (cs.getD 4 0) (Int32.ofNat 4) (Int32.ofNat f) sp (own_stp (cs.getD 3 0) (Int32.ofNat 3) (Int32.ofNat f) sp (own_stp (cs.getD 2 0) (Int32.ofNat 2) (Int32.ofNat f) sp (own_stp (cs.getD 1 0) (Int32.ofNat 1) (Int32.ofNat f) sp (own_stp (cs.getD 0 0) (Int32.ofNat 0) (Int32.ofNat f) sp (0 : Int32))))))), .val (.int ((-(own_stp (cs.getD 4 0) (Int32.ofNat 4) (Int32.ofNat f) sp (own_stp (cs.getD 3 0) (Int32.ofNat 3) (Int32.ofNat f) sp (own_stp (cs.getD 2 0) (Int32.ofNat 2) (Int32.ofNat f) sp (own_stp (cs.getD 1 0) (Int32.ofNat 1) (Int32.ofNat f) sp (own_stp (cs.getD 0 0) (Int32.ofNat 0) (Int32.ofNat f) sp (0 : Int32))))))) - (1 : Int32)))] [(.int (1 : Int32))]))
    exact own_retN X25 hx (t := .boolean) hrt (by simp) (hb hby at_197) hlk (show nar .boolean (1 : Int32) = (1 : Int32) from by decide) (by rw [e25]; exact ⟨rfl, N25⟩) (by decide) (by decide)
  · -- false
    refine own_go (fun _ k => XS.ifYes X23.here hx rfl (pc0 := 164) (pc' := 175) rfl (hb hby at_164) rfl ((if0 _ _).trans (flt hc164_24).2.1) (by decide) (by decide) <| XT.iconstV X23.here hx rfl (5 : Int32) (hb hby at_175) rfl <| XS.istore X23.here hx rfl (hb hby at_176) rfl (l' := #[.val (.int p1), .val (.int p2), .val (.int p3), .val (.long q4), .second, .val (.int (Int32.ofNat f)), .val (.int sp), .val (.ref b1), .val (.ref b17), .val (.int (own_stp (cs.getD 4 0) (Int32.ofNat 4) (Int32.ofNat f) sp (own_stp (cs.getD 3 0) (Int32.ofNat 3) (Int32.ofNat f) sp (own_stp (cs.getD 2 0) (Int32.ofNat 2) (Int32.ofNat f) sp (own_stp (cs.getD 1 0) (Int32.ofNat 1) (Int32.ofNat f) sp (own_stp (cs.getD 0 0) (Int32.ofNat 0) (Int32.ofNat f) sp (0 : Int32))))))), .val (.int (5 : Int32))]) rfl <| XS.aload X23.here hx rfl (hb hby at_178) rfl rfl <| XS.iload X23.here hx rfl (hb hby at_180) rfl <| XS.iload X23.here hx rfl (hb hby at_182) rfl <| k) ?_
    show own_Ends p e below s _ _ _ (T23.setTop (mkF m 184 #[.val (.int p1), .val (.int p2), .val (.int p3), .val (.long q4), .second, .val (.int (Int32.ofNat f)), .val (.int sp), .val (.ref b1), .val (.ref b17), .val (.int (own_stp (cs.getD 4 0) (Int32.ofNat 4) (Int32.ofNat f) sp (own_stp (cs.getD 3 0) (Int32.ofNat 3) (Int32.ofNat f) sp (own_stp (cs.getD 2 0) (Int32.ofNat 2) (Int32.ofNat f) sp (own_stp (cs.getD 1 0) (Int32.ofNat 1) (Int32.ofNat f) sp (own_stp (cs.getD 0 0) (Int32.ofNat 0) (Int32.ofNat f) sp (0 : Int32))))))), .val (.int (5 : Int32))] [(.int sp), (.int (Int32.ofNat f)), (.ref b17)]))
    obtain ⟨_, _, ⟨T26, L26, k26, n26⟩, -, X26, ⟨Lc26, hQ26, l26, y26, z26⟩, st26⟩ := Jvm.LawKit.callS X23 hx (y := (⟨"com/example/pagra/pagra/core/HeaderSyntax", "end", "(Ljava/lang/String;IC)I"⟩ : MethodName)) hown (mvT hZ (hw _ (List.mem_of_getElem? (i := 38) rfl))) (mvT hZ (hw _ (List.mem_of_getElem? (i := 39) rfl))) (mvT hZ (hw _ (List.mem_of_getElem? (i := 40) rfl))) (mvT hZ (hw _ (List.mem_of_getElem? (i := 41) rfl))) (by decide) (backOf (W := 0) (rm9 l Z a0 hw [] b17 sp vc vf b18 kb18 kc18 cs f T18.heap n0 Z18 O18 ST (by omega) hC hf8 A17'18 Fv18 Fc18 Vb18 hkc18) hZ (hw _ (List.mem_of_getElem? (i := 41) rfl)) (hw _ (List.mem_of_getElem? (i := 40) rfl)) (by decide) (by decide)) (g := (mkF m 184 #[.val (.int p1), .val (.int p2), .val (.int p3), .val (.long q4), .second, .val (.int (Int32.ofNat f)), .val (.int sp), .val (.ref b1), .val (.ref b17), .val (.int (own_stp (cs.getD 4 0) (Int32.ofNat 4) (Int32.ofNat f) sp (own_stp (cs.getD 3 0) (Int32.ofNat 3) (Int32.ofNat f) sp (own_stp (cs.getD 2 0) (Int32.ofNat 2) (Int32.ofNat f) sp (own_stp (cs.getD 1 0) (Int32.ofNat 1) (Int32.ofNat f) sp (own_stp (cs.getD 0 0) (Int32.ofNat 0) (Int32.ofNat f) sp (0 : Int32))))))), .val (.int (5 : Int32))] [(.int sp), (.int (Int32.ofNat f)), (.ref b17)])) rfl (by rw [hml]; rfl) (argsL := [(.ref b17), (.int (Int32.ofNat f)), (.int sp)]) (rest := []) (lenOf pd_8 rfl) rfl (by show 2 * 0 + _ ≤ _; exact Nat.le_of_eq rfl) (hb hby at_184) (fun _ _ => ⟨rfl, e23, Nat.le_of_ble_eq_true rfl, Nat.le_of_ble_eq_true rfl⟩)
    dsimp only [Pt.U, Pt.locs, Pt.cells, Pt.slots] at X26 l26 y26 z26 st26 hQ26
    subst l26 y26 z26
    obtain ⟨rfl, N26q, e26⟩ := hQ26
    have N26 := Fr.app N23 N26q
    refine own_go (fun _ k => st26 _ k) ?_
    show own_Ends p e below s _ _ _ (T26.setTop (mkF m 187 #[.val (.int p1), .val (.int p2), .val (.int p3), .val (.long q4), .second, .val (.int (Int32.ofNat f)), .val (.int sp), .val (.ref b1), .val (.ref b17), .val (.int (own_stp (cs.getD 4 0) (Int32.ofNat 4) (Int32.ofNat f) sp (own_stp (cs.getD 3 0) (Int32.ofNat 3) (Int32.ofNat f) sp (own_stp (cs.getD 2 0) (Int32.ofNat 2) (Int32.ofNat f) sp (own_stp (cs.getD 1 0) (Int32.ofNat 1) (Int32.ofNat f) sp (own_stp (cs.getD 0 0) (Int32.ofNat 0) (Int32.ofNat f) sp (0 : Int32))))))), .val (.int (5 : Int32))] [(.int (Int32.ofNat (own_end cs sp 9 false f)))]))
    refine own_go (fun _ k => XS.iload X26.here hx rfl (hb hby at_187) rfl <| XS.icmpNo X26.here hx rfl (hb hby at_189) rfl (teq (by rw [← own_C hl5 sp hf8 5 0 rfl (Nat.zero_le _)]; show own_exp (own_stp (cs.getD 4 0) (Int32.ofNat 4) (Int32.ofNat f) sp (own_stp (cs.getD 3 0) (Int32.ofNat 3) (Int32.ofNat f) sp (own_stp (cs.getD 2 0) (Int32.ofNat 2) (Int32.ofNat f) sp (own_stp (cs.getD 1 0) (Int32.ofNat 1) (Int32.ofNat f) sp (own_stp (cs.getD 0 0) (Int32.ofNat 0) (Int32.ofNat f) sp (0 : Int32)))))) = _; unfold own_exp; rw [if_neg hc164_24])).2 <| XT.iconstV X26.here hx rfl (1 : Int32) (hb hby at_192) rfl <| XS.goto X26.here hx rfl (pc0 := 193) (pc' := 197) rfl (hb hby at_193) (by decide) (by decide) <| k) ?_
    show own_Ends p e below s _ _ _ (T26.setTop (mkF m 197 #[.val (.int p1), .val (.int p2), .val (.int p3), .val (.long q4), .second, .val (.int (Int32.ofNat f)), .val (.int sp), .val (.ref b1), .val (.ref b17), .val (.int (own_stp (cs.getD 4 0) (Int32.ofNat 4) (Int32.ofNat f) sp (own_stp (cs.getD 3 0) (Int32.ofNat 3) (Int32.ofNat f) sp (own_stp (cs.getD 2 0) (Int32.ofNat 2) (Int32.ofNat f) sp (own_stp (cs.getD 1 0) (Int32.ofNat 1) (Int32.ofNat f) sp (own_stp (cs.getD 0 0) (Int32.ofNat 0) (Int32.ofNat f) sp (0 : Int32))))))), .val (.int (5 : Int32))] [(.int (1 : Int32))]))
    exact own_retN X26 hx (t := .boolean) hrt (by simp) (hb hby at_197) hlk (show nar .boolean (1 : Int32) = (1 : Int32) from by decide) (by rw [e26]; exact ⟨rfl, N26⟩) (by decide) (by decide)
set_option maxRecDepth 65536 in
set_option maxHeartbeats 40000000 in
theorem comes_1 {Post : Tables → Env → Array Value → State → Outcome → State → Prop} (hpost : ∀ tb e args s v u, (limb_1_1.after args s (.returned v) u = true ∧ limb_1_2.after args s (.returned v) u = true ∧ True) → FrameEnd s (.returned v) u (Jvm.fieldLocs frame_1_writes args s ++ Jvm.arrayLocs frame_1_arrays args s ++ Jvm.staticLocs frame_1_statics s) 16 128 → Post tb e args s (.returned v) u) :
    ArmFor flags0 classFile x code maxLocals ret World_1 tables_1 room_1 Calls_1 rest_1 Pre_1 Post := by
  intro l hfl _ _ p e ha hc hk s m args below hf hA hF happ hP
  obtain ⟨hcalls, hrest, hpre⟩ := hP
  obtain ⟨-, -, -, hnamed, -, -, -, hat⟩ := (Spec.applies_iff hf).mp happ
  obtain ⟨hg, hn⟩ := and_e (Cond.before_iff.mp (show (Jvm.Cond.and given_1 narrow_1).before args s = true from hpre))
  obtain ⟨g1, g2⟩ := and_e hg
  obtain ⟨g3, g4⟩ := and_e g2
  obtain ⟨g5, g6⟩ := and_e g4
  obtain ⟨g7, g8⟩ := and_e g6
  obtain ⟨w0, w1, w2, w3, rfl⟩ : ∃ w0 w1 w2 w3 : Value, args = #[w0, w1, w2, w3] := by
    have hs : args.size = 4 := by simpa [Cond.value, given_1] using g1
    obtain ⟨L⟩ := args
    match L, hs with
    | [w0, w1, w2, w3], _ => exact ⟨w0, w1, w2, w3, rfl⟩
  have hw := fun d (hd : d ∈ tables_1) => atoms_spec (ws := Jvm.Cond.code x code maxLocals ret :: tables_1) hat d (List.mem_cons_of_mem _ hd)
  have hfit : Fit s := fun {y c} hc i hi => by
    obtain ⟨ha, rfl⟩ := Array.getElem?_eq_some_iff.mp hc
    have q := List.all_eq_true.mp ((Array.all_eq_true_iff_forall_mem.mp hF) _ (Array.getElem_mem ha)) i (List.mem_range.mpr hi)
    simpa [Array.getElem?_eq_getElem hi] using q
  obtain ⟨hsets, hown0⟩ := atoms_of _ (rest_1_c_eq ▸ (show rest_1_c.before _ s = true from hrest))
  have hr0 := Cond.before_iff.mp hown0
  obtain ⟨i0, ei0⟩ := is_v g3
  obtain rfl : w0 = (.int i0) := Option.some.inj ei0
  obtain ⟨i1, ei1⟩ := is_v g5
  obtain rfl : w1 = (.int i1) := Option.some.inj ei1
  obtain ⟨i2, ei2⟩ := is_v g7
  obtain rfl : w2 = (.int i2) := Option.some.inj ei2
  obtain ⟨i3, ei3⟩ := isL_v g8
  obtain rfl : w3 = (.long i3) := Option.some.inj ei3
  obtain ⟨vc, evc⟩ := is_v (Cond.before_iff.mp (hsets _ (List.mem_of_getElem? (i := 1) rfl)))
  have SCS := Sta.start evc (Or.inl (hsets _ (List.mem_of_getElem? (i := 0) rfl)))
  have HVC : ¬ vc = 0 := own_not0 evc (Cond.before_iff.mp (hsets _ (List.mem_of_getElem? (i := 2) rfl)))
  have evSAD := eqv_i (Term.int_eval (1 : Int32)) (Cond.before_iff.mp (hsets _ (List.mem_of_getElem? (i := 12) rfl)))
  have SAD := Sta.start evSAD (Or.inl (hsets _ (List.mem_of_getElem? (i := 11) rfl)))
  have evSHI := eqv_i (Term.int_eval (0 : Int32)) (Cond.before_iff.mp (hsets _ (List.mem_of_getElem? (i := 15) rfl)))
  have SHI := Sta.start evSHI (Or.inl (hsets _ (List.mem_of_getElem? (i := 14) rfl)))
  have evSLO := eqv_i (Term.int_eval (8 : Int32)) (Cond.before_iff.mp (hsets _ (List.mem_of_getElem? (i := 18) rfl)))
  have SLO := Sta.start evSLO (Or.inl (hsets _ (List.mem_of_getElem? (i := 17) rfl)))
  obtain ⟨vf, evf, HVF⟩ := own_isref (Cond.before_iff.mp (hsets _ (List.mem_of_getElem? (i := 8) rfl)))
  have SIO := Sta.start evf (Or.inl (hsets _ (List.mem_of_getElem? (i := 7) rfl)))
  have ST : own_St s vc vf := ⟨HVC, SCS, SAD, SHI, SLO, SIO, HVF⟩
  obtain ⟨n, o, h1, h2, h3, _, L, rfl, ⟨rfl, N⟩, hq⟩ := rm0 l s _ hw tables_1 i0 i1 i2 i3 vc vf s.heap s.heap.size (Nat.le_refl _) (Old.start s) ST p e ha hc hk s m _ below hf ((Spec.applies_iff_loose hf).mp happ).1 ⟨rfl, State.Warmed39.refl s, rfl⟩ trivial
  refine ⟨n, _, h1, h2, h3, hpost _ _ _ _ _ _ ⟨Cond.after_iff.mpr rfl, Cond.after_iff.mpr (eq_i res_at (Term.int_eval (1)) rfl), trivial⟩ ⟨hq.1, hq.2.1, (hq.2.2.sift fun y hy => Or.inr (N y hy)).mono (by decide) (by decide)⟩⟩
theorem main_1_1 : Claimed_1_1 := comes_1 fun _ _ _ _ _ _ h hF => ⟨h.1, hF⟩
theorem main_1_2 : Claimed_1_2 := comes_1 fun _ _ _ _ _ _ h hF => ⟨h.2.1, hF⟩
end Jvm.Pilot.@@N@@
namespace Jvm.Pilot.@@N@@
open Jvm Jvm.ClassFile Sem Op Lib Jvm.Free Jvm.Stand Jvm.Pilot.@@N@@.Jvm.D
/-! MADE BY PROGRAM (witnessworld.py) out of the Statement's table words and the real class files: 20 classes; the members and pool entries that the words name. The judged class is class 1, her method 1. -/
namespace start1
open Jvm.ClassFile
def u (s : String) : CpInfo := .utf8 (stringToUtf16 s)
/-- a pool by its gaps: so many unusable entries, then the entry; so many at the end -/
def gap : Nat → List CpInfo → List CpInfo
  | 0, r => r
  | n + 1, r => .unusable :: gap n r
def poolList (es : List (Nat × CpInfo)) (last : Nat) : List CpInfo := es.foldr (fun e r => gap e.1 (e.2 :: r)) (gap last [])
def pool (es : List (Nat × CpInfo)) (last : Nat) : Array CpInfo := ⟨poolList es last⟩
def fileOf (pool : Array CpInfo) (this : Nat) (attrs : Array Attribute := #[]) (ms : Array MethodInfo := #[]) (fl : Nat := 33) (sup : Nat := 0) (ifs : Array Nat := #[]) (fds : Array FieldInfo := #[]) : ClassFile where
  minorVersion := 0
  majorVersion := 65
  constantPool := pool
  accessFlags := fl
  thisClass := this
  superClass := sup
  interfaces := ifs
  fields := fds
  methods := ms
  attributes := attrs
def plain (name : String) (sup : Option ClassId) : Class where
  name := name
  kind := .ordinary
  loader := none
  accessFlags := 33
  super := sup
  interfaces := #[]
  cf := none
  fields := #[]
  methods := #[]
  instanceTypes := #[]
  staticTypes := #[]
  resolved := #[]
  callSites := []
  init := .initialized
  statics := none
  mirror := none

def pool0 : Array CpInfo := pool [(5, u "<init>"), (0, u "()V"), (1, .class_ 10), (1, u "java/lang/Object")] 113

def k0c0 : Code := { maxStack := 0, maxLocals := 1, code := object_method_1_code, exceptionTable := #[], attributes := #[] }
def k0m0 : Method := { name := "<init>", desc := "()V", sig := { parameters := [], returnType := none }, accessFlags := 1, code := some k0c0 }
/-- java/lang/Object -/
def k0 : Class := { plain "java/lang/Object" none with
  accessFlags := 33
  interfaces := #[]
  cf := some (fileOf pool0 8 #[] #[{ accessFlags := 1, nameIndex := 5, descriptorIndex := 6, attributes := #[] }] 33 0 #[] #[])
  fields := #[]
  methods := #[k0m0]
  instanceTypes := #[]
  staticTypes := #[]
  resolved := Array.replicate 124 none
  statics := none }

def pool1 : Array CpInfo := pool [(2, .class_ 4), (1, u "java/lang/Object"), (0, u "<init>"), (0, u "()V"), (0, .integer 65535), (0, .methodref 9 10), (0, .class_ 11), (0, .nameAndType 12 13), (0, u "com/example/pagra/pagra/core/HeaderSyntaxEndPinLaw"), (0, u "pick"), (0, u "(IJIC)C"), (0, .class_ 15), (0, u "java/lang/String"), (0, .methodref 14 17), (0, .nameAndType 5 18), (0, u "([C)V"), (0, .methodref 9 20), (0, .nameAndType 21 22), (0, u "step"), (0, u "([CIICI)I"), (0, .methodref 24 25), (0, .class_ 26), (0, .nameAndType 27 28), (0, u "com/example/pagra/pagra/core/HeaderSyntax"), (0, u "end"), (0, u "(Ljava/lang/String;IC)I"), (0, .long 255), (3, u "law"), (0, u "(IIIJ)Z")] 5

def k1m0 : Method := { name := "<init>", desc := "()V", sig := { parameters := [], returnType := none }, accessFlags := 1, code := none }
def k1c1 : Code := { maxStack := 7, maxLocals := 11, code := code, exceptionTable := #[], attributes := #[] }
def k1m1 : Method := { name := "law", desc := "(IIIJ)Z", sig := { parameters := [.int, .int, .int, .long], returnType := some .boolean }, accessFlags := 9, code := some k1c1 }
def k1c2 : Code := { maxStack := 4, maxLocals := 6, code := method_3_code, exceptionTable := #[], attributes := #[] }
def k1m2 : Method := { name := "pick", desc := "(IJIC)C", sig := { parameters := [.int, .long, .int, .char], returnType := some .char }, accessFlags := 10, code := some k1c2 }
def k1c3 : Code := { maxStack := 2, maxLocals := 8, code := method_4_code, exceptionTable := #[], attributes := #[] }
def k1m3 : Method := { name := "step", desc := "([CIICI)I", sig := { parameters := [(.array .char), .int, .int, .char, .int], returnType := some .int }, accessFlags := 10, code := some k1c3 }
/-- com/example/pagra/pagra/core/HeaderSyntaxEndPinLaw -/
def k1 : Class := { plain "com/example/pagra/pagra/core/HeaderSyntaxEndPinLaw" (some 0) with
  accessFlags := 49
  interfaces := #[]
  cf := some (fileOf pool1 9 #[] #[{ accessFlags := 1, nameIndex := 5, descriptorIndex := 6, attributes := #[] }, { accessFlags := 9, nameIndex := 33, descriptorIndex := 34, attributes := #[] }, { accessFlags := 10, nameIndex := 12, descriptorIndex := 13, attributes := #[] }, { accessFlags := 10, nameIndex := 21, descriptorIndex := 22, attributes := #[] }] 49 2 #[] #[])
  fields := #[]
  methods := #[k1m0, k1m1, k1m2, k1m3]
  instanceTypes := #[]
  staticTypes := #[]
  resolved := Array.replicate 40 none
  statics := none }

def pool2 : Array CpInfo := pool [(1, .class_ 2), (0, u "java/io/Serializable"), (0, .class_ 4), (0, u "java/lang/Object")] 2

/-- java/io/Serializable -/
def k2 : Class := { plain "java/io/Serializable" (some 0) with
  accessFlags := 1537
  interfaces := #[]
  cf := some (fileOf pool2 1 #[] #[] 1537 3 #[] #[])
  fields := #[]
  methods := #[]
  instanceTypes := #[]
  staticTypes := #[]
  resolved := Array.replicate 7 none
  statics := none }

def pool3 : Array CpInfo := pool [(1, .class_ 2), (0, u "java/lang/Comparable"), (0, .class_ 4), (0, u "java/lang/Object")] 7

/-- java/lang/Comparable -/
def k3 : Class := { plain "java/lang/Comparable" (some 0) with
  accessFlags := 1537
  interfaces := #[]
  cf := some (fileOf pool3 1 #[] #[] 1537 3 #[] #[])
  fields := #[]
  methods := #[]
  instanceTypes := #[]
  staticTypes := #[]
  resolved := Array.replicate 12 none
  statics := none }

def pool4 : Array CpInfo := pool [(2, .class_ 4), (1, u "java/lang/CharSequence"), (42, .class_ 48), (0, u "java/lang/CharSequence$1CodePointIterator"), (10, .class_ 60), (0, u "java/lang/CharSequence$1CharIterator"), (5, .class_ 67), (0, u "java/lang/Object")] 63

/-- java/lang/CharSequence -/
def k4 : Class := { plain "java/lang/CharSequence" (some 0) with
  accessFlags := 1537
  interfaces := #[]
  cf := some (fileOf pool4 2 #[.nestMembers #[47, 59]] #[] 1537 66 #[] #[])
  fields := #[]
  methods := #[]
  instanceTypes := #[]
  staticTypes := #[]
  resolved := Array.replicate 131 none
  statics := none }

def pool5 : Array CpInfo := pool [(1, .class_ 2), (0, u "java/lang/constant/Constable"), (0, .class_ 4), (0, u "java/lang/Object")] 6

/-- java/lang/constant/Constable -/
def k5 : Class := { plain "java/lang/constant/Constable" (some 0) with
  accessFlags := 1537
  interfaces := #[]
  cf := some (fileOf pool5 1 #[] #[] 1537 3 #[] #[])
  fields := #[]
  methods := #[]
  instanceTypes := #[]
  staticTypes := #[]
  resolved := Array.replicate 11 none
  statics := none }

def pool6 : Array CpInfo := pool [(1, .class_ 2), (0, u "java/lang/constant/ConstantDesc"), (0, .class_ 4), (0, u "java/lang/Object")] 32

/-- java/lang/constant/ConstantDesc -/
def k6 : Class := { plain "java/lang/constant/ConstantDesc" (some 0) with
  accessFlags := 1537
  interfaces := #[]
  cf := some (fileOf pool6 1 #[] #[] 1537 3 #[] #[])
  fields := #[]
  methods := #[]
  instanceTypes := #[]
  staticTypes := #[]
  resolved := Array.replicate 37 none
  statics := none }

def pool7 : Array CpInfo := pool [(1, .methodref 2 3), (0, .class_ 4), (0, .nameAndType 5 6), (0, u "java/lang/Object"), (0, u "<init>"), (0, u "()V"), (2, .fieldref 10 11), (0, .class_ 12), (0, .nameAndType 13 14), (0, u "java/lang/String"), (0, u "value"), (0, u "[B"), (0, .fieldref 10 16), (0, .nameAndType 17 18), (0, u "coder"), (0, u "B"), (2, u "hash"), (0, u "I"), (2, u "hashIsZero"), (0, u "Z"), (0, .methodref 10 28), (0, .nameAndType 5 29), (0, u "([CIILjava/lang/Void;)V"), (8, .fieldref 10 39), (0, .nameAndType 40 26), (0, u "COMPACT_STRINGS"), (1, .class_ 44), (1, u "java/lang/StringUTF16"), (0, u "compress"), (1, .methodref 42 48), (0, .nameAndType 49 50), (0, u "coderFromArrayLen"), (0, u "([BI)B"), (56, .class_ 109), (1, u "java/lang/StringLatin1"), (32, u "()Z"), (34, .methodref 42 178), (0, .nameAndType 45 179), (0, u "([CII)[B"), (154, u "()I"), (0, .methodref 10 336), (0, .nameAndType 17 337), (0, u "()B"), (25, u "([BI)C"), (27, u "(II)V"), (35, u "(I)C"), (64, .methodref 10 493), (0, .nameAndType 494 142), (0, u "isLatin1"), (0, .methodref 107 496), (0, .nameAndType 497 363), (0, u "charAt"), (0, .methodref 42 496), (2, u "checkIndex"), (5, u "length"), (67, .class_ 576), (0, u "java/lang/CharSequence"), (22, u "CASE_INSENSITIVE_ORDER"), (0, u "Ljava/util/Comparator;"), (409, u "([C)V"), (42, .fieldref 1054 1055), (0, .class_ 1056), (0, .nameAndType 1057 1058), (0, u "jdk/internal/util/Preconditions"), (0, u "SIOOBE_FORMATTER"), (0, u "Ljava/util/function/BiFunction;"), (0, .methodref 1054 1060), (0, .nameAndType 501 1061), (0, u "(IILjava/util/function/BiFunction;)I"), (39, u "serialPersistentFields"), (0, u "[Ljava/io/ObjectStreamField;"), (0, .class_ 1104), (0, u "java/lang/String$CaseInsensitiveComparator"), (1, .class_ 1107), (0, u "java/io/Serializable"), (0, .class_ 1109), (0, u "java/lang/Comparable"), (0, .class_ 1111), (0, u "java/lang/constant/Constable"), (0, .class_ 1113), (0, u "java/lang/constant/ConstantDesc"), (2, u "serialVersionUID"), (0, u "J"), (3, u "REPL"), (0, u "C"), (2, u "LATIN1"), (1, u "UTF16")] 323

def k7m0 : Method := { name := "<init>", desc := "()V", sig := { parameters := [], returnType := none }, accessFlags := 1, code := none }
def k7c1 : Code := { maxStack := 5, maxLocals := 2, code := jdk_42_method_3_code, exceptionTable := #[], attributes := #[] }
def k7m1 : Method := { name := "<init>", desc := "([C)V", sig := { parameters := [(.array .char)], returnType := none }, accessFlags := 1, code := some k7c1 }
def k7c2 : Code := { maxStack := 2, maxLocals := 1, code := jdk_42_method_54_code, exceptionTable := #[], attributes := #[] }
def k7m2 : Method := { name := "length", desc := "()I", sig := { parameters := [], returnType := some .int }, accessFlags := 1, code := some k7c2 }
def k7c3 : Code := { maxStack := 2, maxLocals := 2, code := jdk_42_method_56_code, exceptionTable := #[], attributes := #[] }
def k7m3 : Method := { name := "charAt", desc := "(I)C", sig := { parameters := [.int], returnType := some .char }, accessFlags := 1, code := some k7c3 }
def k7c4 : Code := { maxStack := 4, maxLocals := 6, code := jdk_42_method_149_code, exceptionTable := #[], attributes := #[] }
def k7m4 : Method := { name := "<init>", desc := "([CIILjava/lang/Void;)V", sig := { parameters := [(.array .char), .int, .int, (.object "java/lang/Void")], returnType := none }, accessFlags := 2, code := some k7c4 }
def k7c5 : Code := { maxStack := 1, maxLocals := 1, code := jdk_42_method_152_code, exceptionTable := #[], attributes := #[] }
def k7m5 : Method := { name := "coder", desc := "()B", sig := { parameters := [], returnType := some .byte }, accessFlags := 0, code := some k7c5 }
def k7c6 : Code := { maxStack := 1, maxLocals := 1, code := jdk_42_method_154_code, exceptionTable := #[], attributes := #[] }
def k7m6 : Method := { name := "isLatin1", desc := "()Z", sig := { parameters := [], returnType := some .boolean }, accessFlags := 0, code := some k7c6 }
def k7c7 : Code := { maxStack := 3, maxLocals := 2, code := jdk_42_method_155_code, exceptionTable := #[], attributes := #[] }
def k7m7 : Method := { name := "checkIndex", desc := "(II)V", sig := { parameters := [.int, .int], returnType := none }, accessFlags := 8, code := some k7c7 }
/-- java/lang/String -/
def k7 : Class := { plain "java/lang/String" (some 0) with
  accessFlags := 49
  interfaces := #[2, 3, 4, 5, 6]
  cf := some (fileOf pool7 10 #[.nestMembers #[1103]] #[{ accessFlags := 1, nameIndex := 5, descriptorIndex := 6, attributes := #[] }, { accessFlags := 1, nameIndex := 5, descriptorIndex := 1010, attributes := #[] }, { accessFlags := 1, nameIndex := 507, descriptorIndex := 334, attributes := #[] }, { accessFlags := 1, nameIndex := 497, descriptorIndex := 427, attributes := #[] }, { accessFlags := 2, nameIndex := 5, descriptorIndex := 29, attributes := #[] }, { accessFlags := 0, nameIndex := 17, descriptorIndex := 337, attributes := #[] }, { accessFlags := 0, nameIndex := 494, descriptorIndex := 142, attributes := #[] }, { accessFlags := 8, nameIndex := 501, descriptorIndex := 391, attributes := #[] }] 49 2 #[1106, 1108, 575, 1110, 1112] #[{ accessFlags := 18, nameIndex := 13, descriptorIndex := 14, attributes := #[] }, { accessFlags := 18, nameIndex := 17, descriptorIndex := 18, attributes := #[] }, { accessFlags := 2, nameIndex := 21, descriptorIndex := 22, attributes := #[] }, { accessFlags := 2, nameIndex := 25, descriptorIndex := 26, attributes := #[] }, { accessFlags := 26, nameIndex := 1116, descriptorIndex := 1117, attributes := #[] }, { accessFlags := 24, nameIndex := 40, descriptorIndex := 26, attributes := #[] }, { accessFlags := 26, nameIndex := 1101, descriptorIndex := 1102, attributes := #[] }, { accessFlags := 26, nameIndex := 1121, descriptorIndex := 1122, attributes := #[] }, { accessFlags := 25, nameIndex := 599, descriptorIndex := 600, attributes := #[] }, { accessFlags := 24, nameIndex := 1125, descriptorIndex := 18, attributes := #[] }, { accessFlags := 24, nameIndex := 1127, descriptorIndex := 18, attributes := #[] }])
  fields := #[{ name := "value", type := (.array .byte), accessFlags := 18, slot := 0, constantValue := 0 }, { name := "coder", type := .byte, accessFlags := 18, slot := 1, constantValue := 0 }, { name := "hash", type := .int, accessFlags := 2, slot := 2, constantValue := 0 }, { name := "hashIsZero", type := .boolean, accessFlags := 2, slot := 3, constantValue := 0 }, { name := "serialVersionUID", type := .long, accessFlags := 26, slot := 0, constantValue := 0 }, { name := "COMPACT_STRINGS", type := .boolean, accessFlags := 24, slot := 1, constantValue := 0 }, { name := "serialPersistentFields", type := (.array (.object "java/io/ObjectStreamField")), accessFlags := 26, slot := 2, constantValue := 0 }, { name := "REPL", type := .char, accessFlags := 26, slot := 3, constantValue := 0 }, { name := "CASE_INSENSITIVE_ORDER", type := (.object "java/util/Comparator"), accessFlags := 25, slot := 4, constantValue := 0 }, { name := "LATIN1", type := .byte, accessFlags := 24, slot := 5, constantValue := 0 }, { name := "UTF16", type := .byte, accessFlags := 24, slot := 6, constantValue := 0 }]
  methods := #[k7m0, k7m1, k7m2, k7m3, k7m4, k7m5, k7m6, k7m7]
  instanceTypes := #[(.array .byte), .byte, .int, .boolean]
  staticTypes := #[.long, .boolean, (.array (.object "java/io/ObjectStreamField")), .char, (.object "java/util/Comparator"), .byte, .byte]
  resolved := Array.replicate 1451 none
  statics := some 0 }

def pool8 : Array CpInfo := pool [(3, .class_ 4), (0, u "java/lang/String"), (1, .class_ 8), (1, u "java/lang/Object"), (0, u "<init>"), (0, u "()V"), (0, .methodref 12 13), (0, .class_ 14), (0, .nameAndType 15 16), (0, u "java/lang/StringUTF16"), (0, u "newBytesLength"), (0, u "(I)I"), (3, .integer 1073741823), (23, .fieldref 12 45), (0, .nameAndType 46 47), (0, u "$assertionsDisabled"), (0, u "Z"), (0, .methodref 12 49), (0, .nameAndType 50 51), (0, u "length"), (0, u "([B)I"), (7, .fieldref 12 60), (0, .nameAndType 61 62), (0, u "HI_BYTE_SHIFT"), (0, u "I"), (0, .fieldref 12 64), (0, .nameAndType 65 62), (0, u "LO_BYTE_SHIFT"), (1, .methodref 12 68), (0, .nameAndType 69 70), (0, u "checkIndex"), (0, u "(I[B)V"), (0, .methodref 12 72), (0, .nameAndType 73 74), (0, u "getChar"), (0, u "([BI)C"), (32, .methodref 12 108), (0, .nameAndType 109 110), (0, u "newBytesFor"), (0, u "(I)[B"), (0, .methodref 12 112), (0, .nameAndType 113 114), (0, u "putChar"), (0, u "([BII)V"), (0, .methodref 12 116), (0, .nameAndType 117 118), (0, u "compress"), (0, u "([CI[BII)I"), (0, .methodref 12 120), (0, .nameAndType 121 122), (0, u "toBytes"), (0, u "([CII)[B"), (138, u "coderFromArrayLen"), (0, u "([BI)B"), (106, .class_ 371), (1, u "java/lang/StringUTF16$LinesSpliterator"), (20, u "charAt"), (21, .methodref 3 415), (0, .nameAndType 69 416), (0, u "(II)V"), (13, u "MAX_LENGTH"), (196, .class_ 628), (0, u "java/lang/StringUTF16$CodePointsSpliterator"), (0, .class_ 630), (0, u "java/lang/StringUTF16$CharsSpliterator")] 4

def k8m0 : Method := { name := "<init>", desc := "()V", sig := { parameters := [], returnType := none }, accessFlags := 0, code := none }
def k8c1 : Code := { maxStack := 1, maxLocals := 1, code := jdk_52_method_2_code, exceptionTable := #[], attributes := #[] }
def k8m1 : Method := { name := "newBytesFor", desc := "(I)[B", sig := { parameters := [.int], returnType := some (.array .byte) }, accessFlags := 9, code := some k8c1 }
def k8c2 : Code := { maxStack := 4, maxLocals := 1, code := jdk_52_method_3_code, exceptionTable := #[], attributes := #[] }
def k8m2 : Method := { name := "newBytesLength", desc := "(I)I", sig := { parameters := [.int], returnType := some .int }, accessFlags := 9, code := some k8c2 }
def k8c3 : Code := { maxStack := 4, maxLocals := 3, code := jdk_52_method_4_code, exceptionTable := #[], attributes := #[] }
def k8m3 : Method := { name := "putChar", desc := "([BII)V", sig := { parameters := [(.array .byte), .int, .int], returnType := none }, accessFlags := 8, code := some k8c3 }
def k8c4 : Code := { maxStack := 3, maxLocals := 2, code := jdk_52_method_5_code, exceptionTable := #[], attributes := #[] }
def k8m4 : Method := { name := "getChar", desc := "([BI)C", sig := { parameters := [(.array .byte), .int], returnType := some .char }, accessFlags := 8, code := some k8c4 }
def k8c5 : Code := { maxStack := 2, maxLocals := 1, code := jdk_52_method_6_code, exceptionTable := #[], attributes := #[] }
def k8m5 : Method := { name := "length", desc := "([B)I", sig := { parameters := [(.array .byte)], returnType := some .int }, accessFlags := 9, code := some k8c5 }
def k8c6 : Code := { maxStack := 4, maxLocals := 5, code := jdk_52_method_14_code, exceptionTable := #[], attributes := #[] }
def k8m6 : Method := { name := "toBytes", desc := "([CII)[B", sig := { parameters := [(.array .char), .int, .int], returnType := some (.array .byte) }, accessFlags := 9, code := some k8c6 }
def k8c7 : Code := { maxStack := 2, maxLocals := 2, code := jdk_52_method_15_code, exceptionTable := #[], attributes := #[] }
def k8m7 : Method := { name := "coderFromArrayLen", desc := "([BI)B", sig := { parameters := [(.array .byte), .int], returnType := some .byte }, accessFlags := 8, code := some k8c7 }
def k8c8 : Code := { maxStack := 5, maxLocals := 6, code := jdk_52_method_16_code, exceptionTable := #[], attributes := #[] }
def k8m8 : Method := { name := "compress", desc := "([CII)[B", sig := { parameters := [(.array .char), .int, .int], returnType := some (.array .byte) }, accessFlags := 9, code := some k8c8 }
def k8c9 : Code := { maxStack := 3, maxLocals := 7, code := jdk_52_method_21_code, exceptionTable := #[], attributes := #[] }
def k8m9 : Method := { name := "compress", desc := "([CI[BII)I", sig := { parameters := [(.array .char), .int, (.array .byte), .int, .int], returnType := some .int }, accessFlags := 9, code := some k8c9 }
def k8c10 : Code := { maxStack := 2, maxLocals := 2, code := jdk_52_method_83_code, exceptionTable := #[], attributes := #[] }
def k8m10 : Method := { name := "charAt", desc := "([BI)C", sig := { parameters := [(.array .byte), .int], returnType := some .char }, accessFlags := 9, code := some k8c10 }
def k8c11 : Code := { maxStack := 2, maxLocals := 2, code := jdk_52_method_91_code, exceptionTable := #[], attributes := #[] }
def k8m11 : Method := { name := "checkIndex", desc := "(I[B)V", sig := { parameters := [.int, (.array .byte)], returnType := none }, accessFlags := 9, code := some k8c11 }
/-- java/lang/StringUTF16 -/
def k8 : Class := { plain "java/lang/StringUTF16" (some 0) with
  accessFlags := 48
  interfaces := #[]
  cf := some (fileOf pool8 12 #[.nestMembers #[627, 629, 369]] #[{ accessFlags := 0, nameIndex := 9, descriptorIndex := 10, attributes := #[] }, { accessFlags := 9, nameIndex := 109, descriptorIndex := 110, attributes := #[] }, { accessFlags := 9, nameIndex := 15, descriptorIndex := 16, attributes := #[] }, { accessFlags := 8, nameIndex := 113, descriptorIndex := 114, attributes := #[] }, { accessFlags := 8, nameIndex := 73, descriptorIndex := 74, attributes := #[] }, { accessFlags := 9, nameIndex := 50, descriptorIndex := 51, attributes := #[] }, { accessFlags := 9, nameIndex := 121, descriptorIndex := 122, attributes := #[] }, { accessFlags := 8, nameIndex := 261, descriptorIndex := 262, attributes := #[] }, { accessFlags := 9, nameIndex := 117, descriptorIndex := 122, attributes := #[] }, { accessFlags := 9, nameIndex := 117, descriptorIndex := 118, attributes := #[] }, { accessFlags := 9, nameIndex := 392, descriptorIndex := 74, attributes := #[] }, { accessFlags := 9, nameIndex := 69, descriptorIndex := 70, attributes := #[] }] 48 6 #[] #[{ accessFlags := 26, nameIndex := 61, descriptorIndex := 62, attributes := #[] }, { accessFlags := 26, nameIndex := 65, descriptorIndex := 62, attributes := #[] }, { accessFlags := 24, nameIndex := 430, descriptorIndex := 62, attributes := #[] }, { accessFlags := 4120, nameIndex := 46, descriptorIndex := 47, attributes := #[] }])
  fields := #[{ name := "HI_BYTE_SHIFT", type := .int, accessFlags := 26, slot := 0, constantValue := 0 }, { name := "LO_BYTE_SHIFT", type := .int, accessFlags := 26, slot := 1, constantValue := 0 }, { name := "MAX_LENGTH", type := .int, accessFlags := 24, slot := 2, constantValue := 0 }, { name := "$assertionsDisabled", type := .boolean, accessFlags := 4120, slot := 3, constantValue := 0 }]
  methods := #[k8m0, k8m1, k8m2, k8m3, k8m4, k8m5, k8m6, k8m7, k8m8, k8m9, k8m10, k8m11]
  instanceTypes := #[]
  staticTypes := #[.int, .int, .int, .boolean]
  resolved := Array.replicate 635 none
  statics := some 1 }

def pool9 : Array CpInfo := pool [(2, .class_ 4), (1, u "java/lang/Object"), (0, u "<init>"), (0, u "()V"), (4, .class_ 13), (1, u "com/example/pagra/pagra/core/HeaderSyntax"), (0, u "end"), (0, u "(Ljava/lang/String;IC)I"), (0, .methodref 17 18), (0, .class_ 19), (0, .nameAndType 20 21), (0, u "java/lang/String"), (0, u "length"), (0, u "()I"), (13, .methodref 17 36), (0, .nameAndType 37 38), (0, u "charAt"), (0, u "(I)C"), (16, u "TOKEN"), (0, u "Ljava/util/regex/Pattern;")] 95

def k9m0 : Method := { name := "<init>", desc := "()V", sig := { parameters := [], returnType := none }, accessFlags := 2, code := none }
def k9c1 : Code := { maxStack := 2, maxLocals := 6, code := prog_12_method_3_code, exceptionTable := #[], attributes := #[] }
def k9m1 : Method := { name := "end", desc := "(Ljava/lang/String;IC)I", sig := { parameters := [(.object "java/lang/String"), .int, .char], returnType := some .int }, accessFlags := 8, code := some k9c1 }
/-- com/example/pagra/pagra/core/HeaderSyntax -/
def k9 : Class := { plain "com/example/pagra/pagra/core/HeaderSyntax" (some 0) with
  accessFlags := 48
  interfaces := #[]
  cf := some (fileOf pool9 11 #[] #[{ accessFlags := 2, nameIndex := 5, descriptorIndex := 6, attributes := #[] }, { accessFlags := 8, nameIndex := 14, descriptorIndex := 15, attributes := #[] }] 48 2 #[] #[{ accessFlags := 26, nameIndex := 55, descriptorIndex := 56, attributes := #[] }])
  fields := #[{ name := "TOKEN", type := (.object "java/util/regex/Pattern"), accessFlags := 26, slot := 0, constantValue := 0 }]
  methods := #[k9m0, k9m1]
  instanceTypes := #[]
  staticTypes := #[(.object "java/util/regex/Pattern")]
  resolved := Array.replicate 152 none
  statics := none }

def pool10 : Array CpInfo := pool [(1, .class_ 2), (0, u "java/lang/String"), (1, .class_ 6), (1, u "java/lang/Object"), (0, u "<init>"), (0, u "()V"), (0, .methodref 1 10), (0, .nameAndType 11 12), (0, u "checkIndex"), (0, u "(II)V"), (1, .class_ 16), (1, u "java/lang/StringLatin1"), (36, u "([BI)C"), (67, u "$assertionsDisabled"), (0, u "Z"), (98, .class_ 223), (1, u "java/lang/StringLatin1$LinesSpliterator"), (28, u "charAt"), (137, .class_ 391), (0, u "java/lang/StringLatin1$CharsSpliterator")] 3

def k10m0 : Method := { name := "<init>", desc := "()V", sig := { parameters := [], returnType := none }, accessFlags := 0, code := none }
def k10c1 : Code := { maxStack := 2, maxLocals := 2, code := jdk_43_method_2_code, exceptionTable := #[], attributes := #[] }
def k10m1 : Method := { name := "charAt", desc := "([BI)C", sig := { parameters := [(.array .byte), .int], returnType := some .char }, accessFlags := 9, code := some k10c1 }
/-- java/lang/StringLatin1 -/
def k10 : Class := { plain "java/lang/StringLatin1" (some 0) with
  accessFlags := 48
  interfaces := #[]
  cf := some (fileOf pool10 14 #[.nestMembers #[390, 221]] #[{ accessFlags := 0, nameIndex := 7, descriptorIndex := 8, attributes := #[] }, { accessFlags := 9, nameIndex := 252, descriptorIndex := 53, attributes := #[] }] 48 4 #[] #[{ accessFlags := 4120, nameIndex := 121, descriptorIndex := 122, attributes := #[] }])
  fields := #[{ name := "$assertionsDisabled", type := .boolean, accessFlags := 4120, slot := 0, constantValue := 0 }]
  methods := #[k10m0, k10m1]
  instanceTypes := #[]
  staticTypes := #[.boolean]
  resolved := Array.replicate 395 none
  statics := none }

def pool11 : Array CpInfo := pool [(2, .class_ 4), (1, u "java/lang/Object"), (0, u "<init>"), (0, u "()V"), (17, .class_ 26), (1, u "jdk/internal/util/Preconditions"), (6, u "checkIndex"), (21, .class_ 56), (0, u "jdk/internal/util/Preconditions$4"), (57, .class_ 115), (0, u "jdk/internal/util/Preconditions$1"), (7, u "SIOOBE_FORMATTER"), (0, u "Ljava/util/function/BiFunction;"), (0, .class_ 126), (0, u "jdk/internal/util/Preconditions$2"), (3, u "AIOOBE_FORMATTER"), (0, .class_ 132), (0, u "jdk/internal/util/Preconditions$3"), (3, u "IOOBE_FORMATTER"), (41, u "(IILjava/util/function/BiFunction;)I")] 15

def k11m0 : Method := { name := "<init>", desc := "()V", sig := { parameters := [], returnType := none }, accessFlags := 1, code := none }
def k11c1 : Code := { maxStack := 3, maxLocals := 3, code := jdk_41_method_11_code, exceptionTable := #[], attributes := #[] }
def k11m1 : Method := { name := "checkIndex", desc := "(IILjava/util/function/BiFunction;)I", sig := { parameters := [.int, .int, (.object "java/util/function/BiFunction")], returnType := some .int }, accessFlags := 9, code := some k11c1 }
/-- jdk/internal/util/Preconditions -/
def k11 : Class := { plain "jdk/internal/util/Preconditions" (some 0) with
  accessFlags := 33
  interfaces := #[]
  cf := some (fileOf pool11 24 #[.nestMembers #[55, 131, 125, 114]] #[{ accessFlags := 1, nameIndex := 5, descriptorIndex := 6, attributes := #[] }, { accessFlags := 9, nameIndex := 33, descriptorIndex := 178, attributes := #[] }] 33 2 #[] #[{ accessFlags := 25, nameIndex := 123, descriptorIndex := 124, attributes := #[] }, { accessFlags := 25, nameIndex := 130, descriptorIndex := 124, attributes := #[] }, { accessFlags := 25, nameIndex := 136, descriptorIndex := 124, attributes := #[] }])
  fields := #[{ name := "SIOOBE_FORMATTER", type := (.object "java/util/function/BiFunction"), accessFlags := 25, slot := 0, constantValue := 0 }, { name := "AIOOBE_FORMATTER", type := (.object "java/util/function/BiFunction"), accessFlags := 25, slot := 1, constantValue := 0 }, { name := "IOOBE_FORMATTER", type := (.object "java/util/function/BiFunction"), accessFlags := 25, slot := 2, constantValue := 0 }]
  methods := #[k11m0, k11m1]
  instanceTypes := #[]
  staticTypes := #[(.object "java/util/function/BiFunction"), (.object "java/util/function/BiFunction"), (.object "java/util/function/BiFunction")]
  resolved := Array.replicate 194 none
  statics := some 2 }

def pool12 : Array CpInfo := pool [(9, u "<init>"), (6, .class_ 18), (1, u "java/lang/Object"), (0, u "()V"), (1, .class_ 23), (1, u "jdk/internal/util/ArraysSupport"), (0, u "LOG2_ARRAY_LONG_INDEX_SCALE"), (0, u "I"), (2, u "U"), (0, u "Ljdk/internal/misc/Unsafe;"), (8, u "BIG_ENDIAN"), (0, u "Z"), (8, u "LOG2_BYTE_BIT_SIZE"), (4, u "LOG2_ARRAY_INT_INDEX_SCALE"), (54, u "JLA"), (0, u "Ljdk/internal/access/JavaLangAccess;"), (11, u "LOG2_ARRAY_BOOLEAN_INDEX_SCALE"), (9, u "LOG2_ARRAY_BYTE_INDEX_SCALE"), (5, u "LOG2_ARRAY_CHAR_INDEX_SCALE"), (5, u "LOG2_ARRAY_SHORT_INDEX_SCALE"), (18, u "LOG2_ARRAY_FLOAT_INDEX_SCALE"), (24, u "LOG2_ARRAY_DOUBLE_INDEX_SCALE"), (89, u "T_BOOLEAN"), (2, u "T_CHAR"), (1, u "T_FLOAT"), (1, u "T_DOUBLE"), (1, u "T_BYTE"), (1, u "T_SHORT"), (1, u "T_INT"), (1, u "T_LONG"), (1, u "SOFT_MAX_ARRAY_LENGTH")] 83

def k12m0 : Method := { name := "<init>", desc := "()V", sig := { parameters := [], returnType := none }, accessFlags := 2, code := none }
/-- jdk/internal/util/ArraysSupport -/
def k12 : Class := { plain "jdk/internal/util/ArraysSupport" (some 0) with
  accessFlags := 33
  interfaces := #[]
  cf := some (fileOf pool12 21 #[] #[{ accessFlags := 2, nameIndex := 9, descriptorIndex := 19, attributes := #[] }] 33 16 #[] #[{ accessFlags := 24, nameIndex := 28, descriptorIndex := 29, attributes := #[] }, { accessFlags := 26, nameIndex := 38, descriptorIndex := 39, attributes := #[] }, { accessFlags := 25, nameIndex := 121, descriptorIndex := 25, attributes := #[] }, { accessFlags := 25, nameIndex := 131, descriptorIndex := 25, attributes := #[] }, { accessFlags := 25, nameIndex := 137, descriptorIndex := 25, attributes := #[] }, { accessFlags := 25, nameIndex := 143, descriptorIndex := 25, attributes := #[] }, { accessFlags := 25, nameIndex := 53, descriptorIndex := 25, attributes := #[] }, { accessFlags := 25, nameIndex := 24, descriptorIndex := 25, attributes := #[] }, { accessFlags := 25, nameIndex := 162, descriptorIndex := 25, attributes := #[] }, { accessFlags := 25, nameIndex := 187, descriptorIndex := 25, attributes := #[] }, { accessFlags := 26, nameIndex := 48, descriptorIndex := 25, attributes := #[] }, { accessFlags := 25, nameIndex := 277, descriptorIndex := 25, attributes := #[] }, { accessFlags := 25, nameIndex := 280, descriptorIndex := 25, attributes := #[] }, { accessFlags := 25, nameIndex := 282, descriptorIndex := 25, attributes := #[] }, { accessFlags := 25, nameIndex := 284, descriptorIndex := 25, attributes := #[] }, { accessFlags := 25, nameIndex := 286, descriptorIndex := 25, attributes := #[] }, { accessFlags := 25, nameIndex := 288, descriptorIndex := 25, attributes := #[] }, { accessFlags := 25, nameIndex := 290, descriptorIndex := 25, attributes := #[] }, { accessFlags := 25, nameIndex := 292, descriptorIndex := 25, attributes := #[] }, { accessFlags := 26, nameIndex := 108, descriptorIndex := 109, attributes := #[] }, { accessFlags := 25, nameIndex := 294, descriptorIndex := 25, attributes := #[] }])
  fields := #[{ name := "U", type := (.object "jdk/internal/misc/Unsafe"), accessFlags := 24, slot := 0, constantValue := 0 }, { name := "BIG_ENDIAN", type := .boolean, accessFlags := 26, slot := 1, constantValue := 0 }, { name := "LOG2_ARRAY_BOOLEAN_INDEX_SCALE", type := .int, accessFlags := 25, slot := 2, constantValue := 0 }, { name := "LOG2_ARRAY_BYTE_INDEX_SCALE", type := .int, accessFlags := 25, slot := 3, constantValue := 0 }, { name := "LOG2_ARRAY_CHAR_INDEX_SCALE", type := .int, accessFlags := 25, slot := 4, constantValue := 0 }, { name := "LOG2_ARRAY_SHORT_INDEX_SCALE", type := .int, accessFlags := 25, slot := 5, constantValue := 0 }, { name := "LOG2_ARRAY_INT_INDEX_SCALE", type := .int, accessFlags := 25, slot := 6, constantValue := 0 }, { name := "LOG2_ARRAY_LONG_INDEX_SCALE", type := .int, accessFlags := 25, slot := 7, constantValue := 0 }, { name := "LOG2_ARRAY_FLOAT_INDEX_SCALE", type := .int, accessFlags := 25, slot := 8, constantValue := 0 }, { name := "LOG2_ARRAY_DOUBLE_INDEX_SCALE", type := .int, accessFlags := 25, slot := 9, constantValue := 0 }, { name := "LOG2_BYTE_BIT_SIZE", type := .int, accessFlags := 26, slot := 10, constantValue := 0 }, { name := "T_BOOLEAN", type := .int, accessFlags := 25, slot := 11, constantValue := 0 }, { name := "T_CHAR", type := .int, accessFlags := 25, slot := 12, constantValue := 0 }, { name := "T_FLOAT", type := .int, accessFlags := 25, slot := 13, constantValue := 0 }, { name := "T_DOUBLE", type := .int, accessFlags := 25, slot := 14, constantValue := 0 }, { name := "T_BYTE", type := .int, accessFlags := 25, slot := 15, constantValue := 0 }, { name := "T_SHORT", type := .int, accessFlags := 25, slot := 16, constantValue := 0 }, { name := "T_INT", type := .int, accessFlags := 25, slot := 17, constantValue := 0 }, { name := "T_LONG", type := .int, accessFlags := 25, slot := 18, constantValue := 0 }, { name := "JLA", type := (.object "jdk/internal/access/JavaLangAccess"), accessFlags := 26, slot := 19, constantValue := 0 }, { name := "SOFT_MAX_ARRAY_LENGTH", type := .int, accessFlags := 25, slot := 20, constantValue := 0 }]
  methods := #[k12m0]
  instanceTypes := #[]
  staticTypes := #[(.object "jdk/internal/misc/Unsafe"), .boolean, .int, .int, .int, .int, .int, .int, .int, .int, .int, .int, .int, .int, .int, .int, .int, .int, .int, (.object "jdk/internal/access/JavaLangAccess"), .int]
  resolved := Array.replicate 378 none
  statics := none }

def pool13 : Array CpInfo := pool [(1, u "java/lang/Cloneable"), (0, .class_ 1), (0, u "java/lang/Object"), (0, .class_ 3)] 3

/-- java/lang/Cloneable -/
def k13 : Class := { plain "java/lang/Cloneable" (some 0) with
  accessFlags := 1537
  interfaces := #[]
  cf := some (fileOf pool13 2 #[] #[] 1537 4 #[] #[])
  fields := #[]
  methods := #[]
  instanceTypes := #[]
  staticTypes := #[]
  resolved := Array.replicate 8 none
  statics := none }

/-- the primitive byte -/
def k14 : Class := { plain "byte" none with kind := .primitive 'B', accessFlags := 0x411 }
/-- [B -/
def k15 : Class := { plain "[B" (some 0) with kind := .array 14 .byte, interfaces := #[13, 2], accessFlags := 1041 }

/-- the primitive char -/
def k16 : Class := { plain "char" none with kind := .primitive 'C', accessFlags := 0x411 }
/-- [C -/
def k17 : Class := { plain "[C" (some 0) with kind := .array 16 .char, interfaces := #[13, 2], accessFlags := 1041 }

/-- the primitive int -/
def k18 : Class := { plain "int" none with kind := .primitive 'I', accessFlags := 0x411 }
/-- [I -/
def k19 : Class := { plain "[I" (some 0) with kind := .array 18 .int, interfaces := #[13, 2], accessFlags := 1041 }

def heap : Heap := #[{ cls := 7, slots := #[.long 0, .int 1, .null, .int 0, .null, .int 0, .int 0], vm := .statics 7 },
  { cls := 8, slots := #[.int 0, .int 8, .int 0, .int 1], vm := .statics 8 },
  { cls := 11, slots := #[.null, .null, .null], vm := .statics 11 }]
def classes : Array Class := #[k0, k1, k2, k3, k4, k5, k6, k7, k8, k9, k10, k11, k12, k13, k14, k15, k16, k17, k18, k19]
def interned : List (Array UInt16 × Addr) := []
def slotsUsed : Nat := 14
def theMethod : MethodId := ⟨1, 1⟩
def args0 : Array Value := #[.int 5, .int 6, .int 7, .long 8]
def aboutOver (below : List Frame) : State where
  vm := { classes := classes, interned := interned.toArray }
  heap := heap
  slotsUsed := slotsUsed
  threads := #[{ frames := .invoking theMethod args0 :: below }]
def below0 : List Frame := [.native { method := ⟨0, 0⟩, args := #[] }]
def about1 : State := aboutOver below0
def p0 : Program := .bare "" "" ""
def e0 : Env := launch0.env 0 0 0
theorem w_frames : about1.frames = Frame.invoking theMethod args0 :: below0 := rfl
set_option maxRecDepth 65536 in
theorem w_args : argsFit about1.vm theMethod args0 = true := by decide +kernel
set_option maxRecDepth 65536 in
theorem w_heap : heapFits about1 = true := by decide +kernel
set_option maxRecDepth 65536 in
theorem w_runnable : about1.curStatus? = some .runnable := by decide +kernel
set_option maxRecDepth 65536 in
theorem w_alone : about1.alone = true := by decide +kernel
set_option maxRecDepth 65536 in
theorem w_named : about1.methodNamed? x = some theMethod := by decide +kernel
set_option maxRecDepth 65536 in
theorem w_hears : about1.hears theMethod below0 = true := by decide +kernel
set_option maxRecDepth 65536 in
theorem w_ripe : about1.ripe theMethod args0 below0 = true := by decide +kernel
theorem w_running : about1.status = .running := rfl
set_option maxRecDepth 65536 in
theorem w_room : about1.hasRoom e0.platform room_1 = true :=
  launch0.hasRoom_least _ room_1 (by decide +kernel) (by decide +kernel) (by decide +kernel) (by decide +kernel) (by decide +kernel) (by decide +kernel)
theorem allAtoms_all (ts : List Jvm.Cond) (a : Array Jvm.Value) (st : Jvm.State) : (allAtoms ts).before a st = ts.all (fun c => c.before a st) := by
  induction ts with
  | nil => rfl
  | cons c t ih =>
    show (Jvm.Cond.and c (allAtoms t)).before a st = _
    rw [Jvm.Cond.before_and, ih, List.all_cons]
def words1 : List Jvm.Cond := Jvm.Cond.code x code maxLocals ret :: tables_1
/-- a 'code' word, met by the world's own term for the bytes: nothing is compared byte by byte -/
theorem code_word {y : MethodName} {bytes : ByteArray} {mx : Nat} {rt : Option FieldType} {a : Array Value} {s : State} {m : MethodId} {meth : Method} {c : Code} (h1 : s.methodNamed? y = some m) (h2 : s.vm.method? m = some meth) (h3 : meth.code = some c) (h4 : c.code = bytes)
    (h5 : (c.maxLocals == mx && c.exceptionTable.isEmpty && decide (c.maxStack ≤ mostOperands) && decide (meth.sig.returnType = rt) && !meth.locks && decide (parseMethodDescriptor y.desc = some meth.sig)) = true) : (Jvm.Cond.code y bytes mx rt).before a s = true := by
  simp only [Bool.and_eq_true, beq_iff_eq, Bool.not_eq_true', decide_eq_true_eq] at h5
  obtain ⟨⟨⟨⟨⟨g1, g2⟩, g3⟩, g4⟩, g5⟩, g6⟩ := h5
  simp [Cond.before, Cond.holds, Cond.value, h1, h2, h3, h4, g1, g2, g3, g4, g5, g6]
def isCode : Jvm.Cond → Bool
  | .code _ _ _ _ => true
  | _ => false
theorem all_split {L : List Jvm.Cond} {P : Jvm.Cond → Bool} (h1 : L.all (fun c => isCode c || P c) = true) (h2 : ∀ c ∈ L.filter isCode, P c = true) : L.all P = true := by
  refine List.all_eq_true.mpr fun c hc => ?_
  have h := List.all_eq_true.mp h1 c hc
  rcases Bool.eq_false_or_eq_true (isCode c) with hi | hi
  · exact h2 c (List.mem_filter.mpr ⟨hc, hi⟩)
  · simpa [hi] using h
set_option maxRecDepth 65536 in
theorem w_c0 : (Jvm.Cond.code x code maxLocals ret).before args0 about1 = true := code_word (m := ⟨1, 1⟩) (meth := k1m1) (c := k1c1) (by decide +kernel) rfl rfl rfl (by decide +kernel)
set_option maxRecDepth 65536 in
theorem w_c1 : (Jvm.Cond.code ({ cls := "com/example/pagra/pagra/core/HeaderSyntaxEndPinLaw", name := "pick", desc := "(IJIC)C" } : Jvm.MethodName) method_3_code (6 : Nat) (Option.some Jvm.ClassFile.FieldType.char)).before args0 about1 = true := code_word (m := ⟨1, 2⟩) (meth := k1m2) (c := k1c2) (by decide +kernel) rfl rfl rfl (by decide +kernel)
set_option maxRecDepth 65536 in
theorem w_c2 : (Jvm.Cond.code ({ cls := "java/lang/String", name := "<init>", desc := "([C)V" } : Jvm.MethodName) jdk_42_method_3_code (2 : Nat) (Option.none : Option Jvm.ClassFile.FieldType)).before args0 about1 = true := code_word (m := ⟨7, 1⟩) (meth := k7m1) (c := k7c1) (by decide +kernel) rfl rfl rfl (by decide +kernel)
set_option maxRecDepth 65536 in
theorem w_c3 : (Jvm.Cond.code ({ cls := "java/lang/String", name := "<init>", desc := "([CIILjava/lang/Void;)V" } : Jvm.MethodName) jdk_42_method_149_code (6 : Nat) (Option.none : Option Jvm.ClassFile.FieldType)).before args0 about1 = true := code_word (m := ⟨7, 4⟩) (meth := k7m4) (c := k7c4) (by decide +kernel) rfl rfl rfl (by decide +kernel)
set_option maxRecDepth 65536 in
theorem w_c4 : (Jvm.Cond.code ({ cls := "java/lang/Object", name := "<init>", desc := "()V" } : Jvm.MethodName) object_method_1_code (1 : Nat) (Option.none : Option Jvm.ClassFile.FieldType)).before args0 about1 = true := code_word (m := ⟨0, 0⟩) (meth := k0m0) (c := k0c0) (by decide +kernel) rfl rfl rfl (by decide +kernel)
set_option maxRecDepth 65536 in
theorem w_c5 : (Jvm.Cond.code ({ cls := "java/lang/StringUTF16", name := "compress", desc := "([CII)[B" } : Jvm.MethodName) jdk_52_method_16_code (6 : Nat) (Option.some (Jvm.ClassFile.FieldType.array Jvm.ClassFile.FieldType.byte))).before args0 about1 = true := code_word (m := ⟨8, 8⟩) (meth := k8m8) (c := k8c8) (by decide +kernel) rfl rfl rfl (by decide +kernel)
set_option maxRecDepth 65536 in
theorem w_c6 : (Jvm.Cond.code ({ cls := "java/lang/StringUTF16", name := "compress", desc := "([CI[BII)I" } : Jvm.MethodName) jdk_52_method_21_code (7 : Nat) (Option.some Jvm.ClassFile.FieldType.int)).before args0 about1 = true := code_word (m := ⟨8, 9⟩) (meth := k8m9) (c := k8c9) (by decide +kernel) rfl rfl rfl (by decide +kernel)
set_option maxRecDepth 65536 in
theorem w_c7 : (Jvm.Cond.code ({ cls := "java/lang/StringUTF16", name := "coderFromArrayLen", desc := "([BI)B" } : Jvm.MethodName) jdk_52_method_15_code (2 : Nat) (Option.some Jvm.ClassFile.FieldType.byte)).before args0 about1 = true := code_word (m := ⟨8, 7⟩) (meth := k8m7) (c := k8c7) (by decide +kernel) rfl rfl rfl (by decide +kernel)
set_option maxRecDepth 65536 in
theorem w_c8 : (Jvm.Cond.code ({ cls := "com/example/pagra/pagra/core/HeaderSyntaxEndPinLaw", name := "step", desc := "([CIICI)I" } : Jvm.MethodName) method_4_code (8 : Nat) (Option.some Jvm.ClassFile.FieldType.int)).before args0 about1 = true := code_word (m := ⟨1, 3⟩) (meth := k1m3) (c := k1c3) (by decide +kernel) rfl rfl rfl (by decide +kernel)
set_option maxRecDepth 65536 in
theorem w_c9 : (Jvm.Cond.code ({ cls := "com/example/pagra/pagra/core/HeaderSyntax", name := "end", desc := "(Ljava/lang/String;IC)I" } : Jvm.MethodName) prog_12_method_3_code (6 : Nat) (Option.some Jvm.ClassFile.FieldType.int)).before args0 about1 = true := code_word (m := ⟨9, 1⟩) (meth := k9m1) (c := k9c1) (by decide +kernel) rfl rfl rfl (by decide +kernel)
set_option maxRecDepth 65536 in
theorem w_c10 : (Jvm.Cond.code ({ cls := "java/lang/String", name := "length", desc := "()I" } : Jvm.MethodName) jdk_42_method_54_code (1 : Nat) (Option.some Jvm.ClassFile.FieldType.int)).before args0 about1 = true := code_word (m := ⟨7, 2⟩) (meth := k7m2) (c := k7c2) (by decide +kernel) rfl rfl rfl (by decide +kernel)
set_option maxRecDepth 65536 in
theorem w_c11 : (Jvm.Cond.code ({ cls := "java/lang/String", name := "coder", desc := "()B" } : Jvm.MethodName) jdk_42_method_152_code (1 : Nat) (Option.some Jvm.ClassFile.FieldType.byte)).before args0 about1 = true := code_word (m := ⟨7, 5⟩) (meth := k7m5) (c := k7c5) (by decide +kernel) rfl rfl rfl (by decide +kernel)
set_option maxRecDepth 65536 in
theorem w_c12 : (Jvm.Cond.code ({ cls := "java/lang/String", name := "charAt", desc := "(I)C" } : Jvm.MethodName) jdk_42_method_56_code (2 : Nat) (Option.some Jvm.ClassFile.FieldType.char)).before args0 about1 = true := code_word (m := ⟨7, 3⟩) (meth := k7m3) (c := k7c3) (by decide +kernel) rfl rfl rfl (by decide +kernel)
set_option maxRecDepth 65536 in
theorem w_c13 : (Jvm.Cond.code ({ cls := "java/lang/String", name := "isLatin1", desc := "()Z" } : Jvm.MethodName) jdk_42_method_154_code (1 : Nat) (Option.some Jvm.ClassFile.FieldType.boolean)).before args0 about1 = true := code_word (m := ⟨7, 6⟩) (meth := k7m6) (c := k7c6) (by decide +kernel) rfl rfl rfl (by decide +kernel)
set_option maxRecDepth 65536 in
theorem w_c14 : (Jvm.Cond.code ({ cls := "java/lang/StringLatin1", name := "charAt", desc := "([BI)C" } : Jvm.MethodName) jdk_43_method_2_code (2 : Nat) (Option.some Jvm.ClassFile.FieldType.char)).before args0 about1 = true := code_word (m := ⟨10, 1⟩) (meth := k10m1) (c := k10c1) (by decide +kernel) rfl rfl rfl (by decide +kernel)
set_option maxRecDepth 65536 in
theorem w_c15 : (Jvm.Cond.code ({ cls := "java/lang/String", name := "checkIndex", desc := "(II)V" } : Jvm.MethodName) jdk_42_method_155_code (2 : Nat) (Option.none : Option Jvm.ClassFile.FieldType)).before args0 about1 = true := code_word (m := ⟨7, 7⟩) (meth := k7m7) (c := k7c7) (by decide +kernel) rfl rfl rfl (by decide +kernel)
set_option maxRecDepth 65536 in
theorem w_c16 : (Jvm.Cond.code ({ cls := "jdk/internal/util/Preconditions", name := "checkIndex", desc := "(IILjava/util/function/BiFunction;)I" } : Jvm.MethodName) jdk_41_method_11_code (3 : Nat) (Option.some Jvm.ClassFile.FieldType.int)).before args0 about1 = true := code_word (m := ⟨11, 1⟩) (meth := k11m1) (c := k11c1) (by decide +kernel) rfl rfl rfl (by decide +kernel)
set_option maxRecDepth 65536 in
theorem w_c17 : (Jvm.Cond.code ({ cls := "java/lang/StringUTF16", name := "toBytes", desc := "([CII)[B" } : Jvm.MethodName) jdk_52_method_14_code (5 : Nat) (Option.some (Jvm.ClassFile.FieldType.array Jvm.ClassFile.FieldType.byte))).before args0 about1 = true := code_word (m := ⟨8, 6⟩) (meth := k8m6) (c := k8c6) (by decide +kernel) rfl rfl rfl (by decide +kernel)
set_option maxRecDepth 65536 in
theorem w_c18 : (Jvm.Cond.code ({ cls := "java/lang/StringUTF16", name := "newBytesFor", desc := "(I)[B" } : Jvm.MethodName) jdk_52_method_2_code (1 : Nat) (Option.some (Jvm.ClassFile.FieldType.array Jvm.ClassFile.FieldType.byte))).before args0 about1 = true := code_word (m := ⟨8, 1⟩) (meth := k8m1) (c := k8c1) (by decide +kernel) rfl rfl rfl (by decide +kernel)
set_option maxRecDepth 65536 in
theorem w_c19 : (Jvm.Cond.code ({ cls := "java/lang/StringUTF16", name := "newBytesLength", desc := "(I)I" } : Jvm.MethodName) jdk_52_method_3_code (1 : Nat) (Option.some Jvm.ClassFile.FieldType.int)).before args0 about1 = true := code_word (m := ⟨8, 2⟩) (meth := k8m2) (c := k8c2) (by decide +kernel) rfl rfl rfl (by decide +kernel)
set_option maxRecDepth 65536 in
theorem w_c20 : (Jvm.Cond.code ({ cls := "java/lang/StringUTF16", name := "putChar", desc := "([BII)V" } : Jvm.MethodName) jdk_52_method_4_code (3 : Nat) (Option.none : Option Jvm.ClassFile.FieldType)).before args0 about1 = true := code_word (m := ⟨8, 3⟩) (meth := k8m3) (c := k8c3) (by decide +kernel) rfl rfl rfl (by decide +kernel)
set_option maxRecDepth 65536 in
theorem w_c21 : (Jvm.Cond.code ({ cls := "java/lang/StringUTF16", name := "getChar", desc := "([BI)C" } : Jvm.MethodName) jdk_52_method_5_code (2 : Nat) (Option.some Jvm.ClassFile.FieldType.char)).before args0 about1 = true := code_word (m := ⟨8, 4⟩) (meth := k8m4) (c := k8c4) (by decide +kernel) rfl rfl rfl (by decide +kernel)
set_option maxRecDepth 65536 in
theorem w_c22 : (Jvm.Cond.code ({ cls := "java/lang/StringUTF16", name := "charAt", desc := "([BI)C" } : Jvm.MethodName) jdk_52_method_83_code (2 : Nat) (Option.some Jvm.ClassFile.FieldType.char)).before args0 about1 = true := code_word (m := ⟨8, 10⟩) (meth := k8m10) (c := k8c10) (by decide +kernel) rfl rfl rfl (by decide +kernel)
set_option maxRecDepth 65536 in
theorem w_c23 : (Jvm.Cond.code ({ cls := "java/lang/StringUTF16", name := "checkIndex", desc := "(I[B)V" } : Jvm.MethodName) jdk_52_method_91_code (2 : Nat) (Option.none : Option Jvm.ClassFile.FieldType)).before args0 about1 = true := code_word (m := ⟨8, 11⟩) (meth := k8m11) (c := k8c11) (by decide +kernel) rfl rfl rfl (by decide +kernel)
set_option maxRecDepth 65536 in
theorem w_c24 : (Jvm.Cond.code ({ cls := "java/lang/StringUTF16", name := "length", desc := "([B)I" } : Jvm.MethodName) jdk_52_method_6_code (1 : Nat) (Option.some Jvm.ClassFile.FieldType.int)).before args0 about1 = true := code_word (m := ⟨8, 5⟩) (meth := k8m5) (c := k8c5) (by decide +kernel) rfl rfl rfl (by decide +kernel)
def codes1 : List Jvm.Cond := [Jvm.Cond.code x code maxLocals ret, Jvm.Cond.code ({ cls := "com/example/pagra/pagra/core/HeaderSyntaxEndPinLaw", name := "pick", desc := "(IJIC)C" } : Jvm.MethodName) method_3_code (6 : Nat) (Option.some Jvm.ClassFile.FieldType.char), Jvm.Cond.code ({ cls := "java/lang/String", name := "<init>", desc := "([C)V" } : Jvm.MethodName) jdk_42_method_3_code (2 : Nat) (Option.none : Option Jvm.ClassFile.FieldType), Jvm.Cond.code ({ cls := "java/lang/String", name := "<init>", desc := "([CIILjava/lang/Void;)V" } : Jvm.MethodName) jdk_42_method_149_code (6 : Nat) (Option.none : Option Jvm.ClassFile.FieldType), Jvm.Cond.code ({ cls := "java/lang/Object", name := "<init>", desc := "()V" } : Jvm.MethodName) object_method_1_code (1 : Nat) (Option.none : Option Jvm.ClassFile.FieldType), Jvm.Cond.code ({ cls := "java/lang/StringUTF16", name := "compress", desc := "([CII)[B" } : Jvm.MethodName) jdk_52_method_16_code (6 : Nat) (Option.some (Jvm.ClassFile.FieldType.array Jvm.ClassFile.FieldType.byte)), Jvm.Cond.code ({ cls := "java/lang/StringUTF16", name := "compress", desc := "([CI[BII)I" } : Jvm.MethodName) jdk_52_method_21_code (7 : Nat) (Option.some Jvm.ClassFile.FieldType.int), Jvm.Cond.code ({ cls := "java/lang/StringUTF16", name := "coderFromArrayLen", desc := "([BI)B" } : Jvm.MethodName) jdk_52_method_15_code (2 : Nat) (Option.some Jvm.ClassFile.FieldType.byte), Jvm.Cond.code ({ cls := "com/example/pagra/pagra/core/HeaderSyntaxEndPinLaw", name := "step", desc := "([CIICI)I" } : Jvm.MethodName) method_4_code (8 : Nat) (Option.some Jvm.ClassFile.FieldType.int), Jvm.Cond.code ({ cls := "com/example/pagra/pagra/core/HeaderSyntax", name := "end", desc := "(Ljava/lang/String;IC)I" } : Jvm.MethodName) prog_12_method_3_code (6 : Nat) (Option.some Jvm.ClassFile.FieldType.int), Jvm.Cond.code ({ cls := "java/lang/String", name := "length", desc := "()I" } : Jvm.MethodName) jdk_42_method_54_code (1 : Nat) (Option.some Jvm.ClassFile.FieldType.int), Jvm.Cond.code ({ cls := "java/lang/String", name := "coder", desc := "()B" } : Jvm.MethodName) jdk_42_method_152_code (1 : Nat) (Option.some Jvm.ClassFile.FieldType.byte), Jvm.Cond.code ({ cls := "java/lang/String", name := "charAt", desc := "(I)C" } : Jvm.MethodName) jdk_42_method_56_code (2 : Nat) (Option.some Jvm.ClassFile.FieldType.char), Jvm.Cond.code ({ cls := "java/lang/String", name := "isLatin1", desc := "()Z" } : Jvm.MethodName) jdk_42_method_154_code (1 : Nat) (Option.some Jvm.ClassFile.FieldType.boolean), Jvm.Cond.code ({ cls := "java/lang/StringLatin1", name := "charAt", desc := "([BI)C" } : Jvm.MethodName) jdk_43_method_2_code (2 : Nat) (Option.some Jvm.ClassFile.FieldType.char), Jvm.Cond.code ({ cls := "java/lang/String", name := "checkIndex", desc := "(II)V" } : Jvm.MethodName) jdk_42_method_155_code (2 : Nat) (Option.none : Option Jvm.ClassFile.FieldType), Jvm.Cond.code ({ cls := "jdk/internal/util/Preconditions", name := "checkIndex", desc := "(IILjava/util/function/BiFunction;)I" } : Jvm.MethodName) jdk_41_method_11_code (3 : Nat) (Option.some Jvm.ClassFile.FieldType.int), Jvm.Cond.code ({ cls := "java/lang/StringUTF16", name := "toBytes", desc := "([CII)[B" } : Jvm.MethodName) jdk_52_method_14_code (5 : Nat) (Option.some (Jvm.ClassFile.FieldType.array Jvm.ClassFile.FieldType.byte)), Jvm.Cond.code ({ cls := "java/lang/StringUTF16", name := "newBytesFor", desc := "(I)[B" } : Jvm.MethodName) jdk_52_method_2_code (1 : Nat) (Option.some (Jvm.ClassFile.FieldType.array Jvm.ClassFile.FieldType.byte)), Jvm.Cond.code ({ cls := "java/lang/StringUTF16", name := "newBytesLength", desc := "(I)I" } : Jvm.MethodName) jdk_52_method_3_code (1 : Nat) (Option.some Jvm.ClassFile.FieldType.int), Jvm.Cond.code ({ cls := "java/lang/StringUTF16", name := "putChar", desc := "([BII)V" } : Jvm.MethodName) jdk_52_method_4_code (3 : Nat) (Option.none : Option Jvm.ClassFile.FieldType), Jvm.Cond.code ({ cls := "java/lang/StringUTF16", name := "getChar", desc := "([BI)C" } : Jvm.MethodName) jdk_52_method_5_code (2 : Nat) (Option.some Jvm.ClassFile.FieldType.char), Jvm.Cond.code ({ cls := "java/lang/StringUTF16", name := "charAt", desc := "([BI)C" } : Jvm.MethodName) jdk_52_method_83_code (2 : Nat) (Option.some Jvm.ClassFile.FieldType.char), Jvm.Cond.code ({ cls := "java/lang/StringUTF16", name := "checkIndex", desc := "(I[B)V" } : Jvm.MethodName) jdk_52_method_91_code (2 : Nat) (Option.none : Option Jvm.ClassFile.FieldType), Jvm.Cond.code ({ cls := "java/lang/StringUTF16", name := "length", desc := "([B)I" } : Jvm.MethodName) jdk_52_method_6_code (1 : Nat) (Option.some Jvm.ClassFile.FieldType.int)]
set_option maxRecDepth 65536 in
theorem codes_eq : words1.filter isCode = codes1 := rfl
theorem w_codes : ∀ c ∈ words1.filter isCode, c.before args0 about1 = true := by
  rw [codes_eq]
  intro c hc
  simp only [codes1, List.mem_cons, List.not_mem_nil, or_false] at hc
  rcases hc with rfl | rfl | rfl | rfl | rfl | rfl | rfl | rfl | rfl | rfl | rfl | rfl | rfl | rfl | rfl | rfl | rfl | rfl | rfl | rfl | rfl | rfl | rfl | rfl | rfl
  · exact w_c0
  · exact w_c1
  · exact w_c2
  · exact w_c3
  · exact w_c4
  · exact w_c5
  · exact w_c6
  · exact w_c7
  · exact w_c8
  · exact w_c9
  · exact w_c10
  · exact w_c11
  · exact w_c12
  · exact w_c13
  · exact w_c14
  · exact w_c15
  · exact w_c16
  · exact w_c17
  · exact w_c18
  · exact w_c19
  · exact w_c20
  · exact w_c21
  · exact w_c22
  · exact w_c23
  · exact w_c24
set_option maxRecDepth 65536 in
theorem w_t1 : (words1.take 24).all (fun c => isCode c || c.before args0 about1) = true := by decide +kernel
set_option maxRecDepth 65536 in
theorem w_t2 : ((words1.drop 24).take 24).all (fun c => isCode c || c.before args0 about1) = true := by decide +kernel
set_option maxRecDepth 65536 in
theorem w_t3 : (((words1.drop 24).drop 24).take 24).all (fun c => isCode c || c.before args0 about1) = true := by decide +kernel
set_option maxRecDepth 65536 in
theorem w_t4 : ((((words1.drop 24).drop 24).drop 24).take 24).all (fun c => isCode c || c.before args0 about1) = true := by decide +kernel
set_option maxRecDepth 65536 in
theorem w_t5 : ((((words1.drop 24).drop 24).drop 24).drop 24).all (fun c => isCode c || c.before args0 about1) = true := by decide +kernel
theorem w_tables : (allAtoms (Jvm.Cond.code x code maxLocals ret :: tables_1)).before args0 about1 = true := by
  rw [allAtoms_all]
  show words1.all (fun c => c.before args0 about1) = true
  refine all_split ?_ w_codes
  rw [← List.take_append_drop 24 words1, List.all_append, w_t1, ← List.take_append_drop 24 (words1.drop 24), List.all_append, w_t2, ← List.take_append_drop 24 ((words1.drop 24).drop 24), List.all_append, w_t3, ← List.take_append_drop 24 (((words1.drop 24).drop 24).drop 24), List.all_append, w_t4, w_t5]
  rfl
set_option maxRecDepth 65536 in
theorem w_rest : rest_1_c.before args0 about1 = true := by decide +kernel
set_option maxRecDepth 65536 in
theorem w_case : (Jvm.Cond.and given_1 narrow_1).before args0 about1 = true := by decide +kernel
theorem w_applies : (headSpec (Jvm.Cond.code x code maxLocals ret :: tables_1) room_1).applies x e0.platform about1 = true :=
  (Spec.applies_iff w_frames).mpr ⟨w_running, w_runnable, w_alone, w_named, w_hears, w_ripe, w_room, w_tables⟩
theorem atStart : AtStart classFile x code maxLocals ret World_1 tables_1 room_1 Calls_1 rest_1 Pre_1 launch0 p0 e0 about1 theMethod args0 below0 :=
  ⟨lists_1, trivial, launch0.admits_env _ _ _, launch0.least_env, fairChoices_fair.cas, fairChoices_fair.clock, w_frames, w_args, w_heap, w_applies, trivial, w_rest, w_case⟩
end start1
theorem witness_1 : WitnessClaimed_1 := ⟨start1.p0, start1.e0, start1.about1, start1.theMethod, start1.args0, start1.below0, start1.atStart⟩
end Jvm.Pilot.@@N@@
