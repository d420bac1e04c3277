import JvmDerived
import JvmDerived.Pilot.@@N@@Statement
import JvmDerived.Pilot.@@N@@Code
set_option linter.unusedVariables false
set_option linter.unusedSimpArgs false
namespace Jvm.Pilot.@@N@@
open Jvm Jvm.ClassFile Sem Op Lib Jvm.Free Jvm.Stand Jvm.LawKit Jvm.RoadKit Bundle Jvm.Pilot.@@N@@.Jvm.D
/-! the walk's goal in continuation style -/
def own_Ends (p : Program) (e : Env) (below : List Frame) (s : State) (Q : Option Value → Heap → List Loc → Prop) (k n : Nat) (t : State) : Prop :=
  ∃ s₂ o, Steps p.tables e below t s₂ ∧ s₂.status = .running ∧ Ended s₂ below o ∧ ∃ v L, o = .returned v ∧ Q v s₂.heap L ∧ FrameEnd s o s₂ L k n
section OwnEnds
variable {p : Program} {l : Launch} {e : Env} {R : Room} {s : State} {m : MethodId} {args : Array Value} {below : List Frame} {meth : Method} {c : Code} {T : State} {locs : List Loc} {cells slots : Nat} {Q : Option Value → Heap → List Loc → Prop} {k n : Nat}
theorem own_go {t t' : State} (h : ∀ u, Steps p.tables e below t' u → Steps p.tables e below t u) (g : own_Ends p e below s Q k n t') : own_Ends p e below s Q k n t := by
  obtain ⟨s₂, o, h1, h2⟩ := g
  exact ⟨s₂, o, h _ h1, h2⟩
theorem own_retN (X : Stand p l e R s m args below meth c T locs cells slots) (hx : p.tables.exec = Jvm.exec) {pc : Nat} {Ls : Array Slot} {z w : Int32} {t : FieldType} {rest : List Value} (hret : meth.sig.returnType = some t) (ht : t = .boolean ∨ t = .byte ∨ t = .char ∨ t = .short)
    (hd : decode c.code pc = .ok (.ireturn, 1)) (hlk : meth.locks = false) (hz : nar t z = w) (hQ : Q (some (.int w)) T.heap locs) (hk : cells ≤ k) (hn : slots ≤ n) : own_Ends p e below s Q k n (T.setTop (mkF m pc Ls (.int z :: rest))) := by
  subst hz
  obtain ⟨fs, hr, hrun, hended, hW, hsame⟩ := X.leave (v := some (.int (nar t z))) (fun h => by rw [hret] at h; cases h) hlk
  exact ⟨_, _, retN X hx hret ht hd hr, hrun, hended, _, _, rfl, hQ, ⟨_, rfl⟩, hW, hsame.mono hk hn⟩
theorem own_ret (X : Stand p l e R s m args below meth c T locs cells slots) (hx : p.tables.exec = Jvm.exec) {pc : Nat} {Ls : Array Slot} {w : Value} {t : FieldType} {i : Instr} {rest : List Value} (hret : meth.sig.returnType = some t) (hn' : narrow t w = w)
    (hi : (i = .ireturn ∧ (t = .int ∨ t = .boolean ∨ t = .byte ∨ t = .char ∨ t = .short) ∧ ∃ z, w = .int z) ∨ (i = .lreturn ∧ t = .long ∧ ∃ z, w = .long z) ∨ (i = .dreturn ∧ t = .double ∧ ∃ z, w = .double z) ∨ (i = .freturn ∧ t = .float ∧ ∃ z, w = .float z) ∨ (i = .areturn ∧ t.isReference = true ∧ w.isRef = true))
    (hd : decode c.code pc = .ok (i, 1)) (hlk : meth.locks = false) (hQ : Q (some w) T.heap locs) (hk : cells ≤ k) (hn : slots ≤ n) : own_Ends p e below s Q k n (T.setTop (mkF m pc Ls (w :: rest))) := by
  obtain ⟨fs, hr, hrun, hended, hW, hsame⟩ := X.leave (v := some w) (fun h => by rw [hret] at h; cases h) hlk
  exact ⟨_, _, retOut X hx hret hn' hi hd hr, hrun, hended, _, _, rfl, hQ, ⟨_, rfl⟩, hW, hsame.mono hk hn⟩
theorem own_ret0 (X : Stand p l e R s m args below meth c T locs cells slots) (hx : p.tables.exec = Jvm.exec) {pc : Nat} {Ls : Array Slot} (hret : meth.sig.returnType = none)
    (hd : decode c.code pc = .ok (.return_, 1)) (hlk : meth.locks = false) (hQ : Q none T.heap locs) (hk : cells ≤ k) (hn : slots ≤ n) : own_Ends p e below s Q k n (T.setTop (mkF m pc Ls [])) := by
  obtain ⟨fs, hr, hrun, hended, hW, hsame⟩ := X.leave (v := none) (fun _ => rfl) hlk
  exact ⟨_, _, X.returnOut hx hret hd hr, hrun, hended, _, _, rfl, hQ, ⟨_, rfl⟩, hW, hsame.mono hk hn⟩
end OwnEnds
theorem pd_0 : parseMethodDescriptor "(J)V" = some ⟨[.long], none⟩ := by decide +kernel
theorem pd_1 : parseMethodDescriptor "()V" = some ⟨[], none⟩ := by decide +kernel
theorem pd_2 : parseMethodDescriptor "(JJ)J" = some ⟨[.long, .long], some .long⟩ := by decide +kernel
theorem pd_3 : parseMethodDescriptor "(I)V" = some ⟨[.int], none⟩ := by decide +kernel
theorem pd_4 : parseMethodDescriptor "(JZJ)V" = some ⟨[.long, .boolean, .long], none⟩ := by decide +kernel
theorem pd_5 : parseMethodDescriptor "(J)I" = some ⟨[.long], some .int⟩ := by decide +kernel
theorem pd_6 : parseMethodDescriptor "(II)I" = some ⟨[.int, .int], some .int⟩ := by decide +kernel
theorem pd_7 : parseMethodDescriptor "(I)I" = some ⟨[.int], some .int⟩ := by decide +kernel
theorem pd_8 : parseMethodDescriptor "(IJ)J" = some ⟨[.int, .long], some .long⟩ := by decide +kernel
theorem own_selp {s : State} {args : Array Value} {y : MethodName} {n : Nat} (hins : (Jvm.Cond.instantiable y.cls n).before args s = true) (hpriv : (Jvm.Cond.privateMethod y).before args s = true) (hinst : (Jvm.Cond.instanceMethod y).before args s = true)
    (hy : y.cls ≠ "java/lang/invoke/MethodHandle" ∧ y.cls ≠ "java/lang/invoke/VarHandle") : (Jvm.Cond.selects y.cls y y).before args s = true := by
  obtain ⟨c, k, hc, hk, -, hniab, -, -⟩ := Cond.instantiable_spec hins
  exact selects_self_of_private hc hk (Bool.or_eq_false_iff.mp hniab).1 (Cond.privateMethod_at hpriv) hinst hy
def own_minL (x y : Int64) : Int64 := if y < x then y else x
def own_maxL (x y : Int64) : Int64 := if x < y then y else x
def own_maxI (x y : Int32) : Int32 := if x < y then y else x
def own_fp (q : Int64) : Int32 := if ((((q * (-4417276706812531889 : Int64)).toUInt64 >>> ((49 : Int32) &&& 0x3f).toInt64.toUInt64).toInt64).toInt32) = 0 then 1 else ((((q * (-4417276706812531889 : Int64)).toUInt64 >>> ((49 : Int32) &&& 0x3f).toInt64.toUInt64).toInt64).toInt32)
def own_fo (p : Int32) : Int32 := ((p.toUInt32 >>> ((16 : Int32) &&& 31).toUInt32).toInt32) &&& (32767 : Int32)
def own_sta (now u : Int64) : Int32 := ((now / u).toInt32) &&& (65535 : Int32)
def own_i1 (q : Int64) (z : Int32) : Int32 := (q.toInt32) &&& (z - (1 : Int32))
def own_i2 (q : Int64) (z : Int32) : Int32 := (((q.toUInt64 >>> ((32 : Int32) &&& 0x3f).toInt64.toUInt64).toInt64).toInt32) &&& (z - (1 : Int32))
def own_age (p : Int32) (now u : Int64) : Int64 := ((own_sta now u - p) &&& (65535 : Int32)).toInt64 * u
def own_rec (r f s : Int32) : Int32 := ((if r = 0 then (0 : Int32) else (-2147483648 : Int32)) ||| (f <<< ((16 : Int32) &&& 31))) ||| s
def own_tk (rc : Int32) (now u : Int64) : Int64 := own_age rc now u * (2 : Int64) + ((rc.toUInt32 >>> ((31 : Int32) &&& 31).toUInt32).toInt32).toInt64
theorem own_e0 : (0 : Int32).toInt = 0 := by decide
theorem own_e1 : (1 : Int32).toInt = 1 := by decide
theorem own_pos_ne {z : Int32} (h : 0 < z) : ¬ z = 0 := by
  intro e
  subst e
  exact absurd h (by decide)
theorem own_and_in (x : Int32) {z : Int32} (h : 0 < z) : ¬ (x &&& (z - (1 : Int32))) < 0 ∧ (x &&& (z - (1 : Int32))) < z := by
  rw [Int32.lt_iff_toInt_lt, own_e0] at h
  have h1 := c_isub z 1
  have h2 := rng32 z
  have h3 := rng32 (z - 1)
  rw [own_e1] at h1
  have h4 : (z - 1).toInt = z.toInt - 1 := by omega
  have h5 := c_and x (z - 1) (by omega)
  rw [Int32.lt_iff_toInt_lt, Int32.lt_iff_toInt_lt, own_e0]
  omega
theorem own_i1_in (q : Int64) {z : Int32} (h : 0 < z) : ¬ own_i1 q z < 0 ∧ own_i1 q z < z := own_and_in _ h
theorem own_i2_in (q : Int64) {z : Int32} (h : 0 < z) : ¬ own_i2 q z < 0 ∧ own_i2 q z < z := own_and_in _ h
theorem own_fp_rng (q : Int64) : 1 ≤ (own_fp q).toInt ∧ (own_fp q).toInt ≤ 32767 := by
  have h := c_lushr (q * (-4417276706812531889 : Int64)) 49 49 (by decide) (by decide)
  have h2 := c_l2i (((q * (-4417276706812531889 : Int64)).toUInt64 >>> ((49 : Int32) &&& 0x3f).toInt64.toUInt64).toInt64)
  have h3 := rng32 ((((q * (-4417276706812531889 : Int64)).toUInt64 >>> ((49 : Int32) &&& 0x3f).toInt64.toUInt64).toInt64).toInt32)
  have h4 := rng64 (q * (-4417276706812531889 : Int64))
  unfold own_fp
  generalize (((q * (-4417276706812531889 : Int64)).toUInt64 >>> ((49 : Int32) &&& 0x3f).toInt64.toUInt64).toInt64) = y at *
  generalize (q * (-4417276706812531889 : Int64)).toInt = x at *
  have e : ((2 ^ 49 : Nat) : Int) = 562949953421312 := by decide
  rw [e] at h
  by_cases hz : y.toInt32 = 0
  · rw [if_pos hz, own_e1]; decide
  · rw [if_neg hz]
    rw [← Int32.toInt_inj, own_e0] at hz
    omega
theorem own_sta_rng (now u : Int64) : 0 ≤ (own_sta now u).toInt ∧ (own_sta now u).toInt ≤ 65535 := by
  have h := c_and ((now / u).toInt32) 65535 (by decide)
  have e : (65535 : Int32).toInt = 65535 := by decide
  rw [e] at h
  exact h
theorem own_rec_val (r f s : Int32) (hf : 1 ≤ f.toInt ∧ f.toInt ≤ 32767) (hs : 0 ≤ s.toInt ∧ s.toInt ≤ 65535) : (own_rec r f s).toInt = (if r = 0 then 0 else -2147483648) + f.toInt * 65536 + s.toInt := by
  have e16 : ((2 ^ 16 : Nat) : Int) = 65536 := by decide
  have h1 := c_ishl f 16 16 (by decide)
  rw [e16] at h1
  have h2 := rng32 (f <<< ((16 : Int32) &&& 31))
  have h3 : (f <<< ((16 : Int32) &&& 31)).toInt = f.toInt * 65536 := by omega
  have em : (-2147483648 : Int32).toInt = -2147483648 := by decide
  unfold own_rec
  generalize f <<< ((16 : Int32) &&& 31) = g at *
  by_cases hr : r = 0
  · rw [if_pos hr, if_pos hr]
    have q1 := c_or (0 : Int32) g 31 (by decide) 2147483648 (by decide) (by rw [own_e0]; decide) (by omega) (by omega)
    have q2 := rng32 ((0 : Int32) ||| g)
    rw [own_e0] at q1
    have q3 : ((0 : Int32) ||| g).toInt = f.toInt * 65536 := by omega
    have q4 := c_or ((0 : Int32) ||| g) s 16 (by decide) 65536 (by decide) (by omega) (by omega) (by omega)
    have q5 := rng32 (((0 : Int32) ||| g) ||| s)
    omega
  · rw [if_neg hr, if_neg hr]
    have q1 := c_or (-2147483648 : Int32) g 31 (by decide) 2147483648 (by decide) (by rw [em]; decide) (by omega) (by omega)
    have q2 := rng32 ((-2147483648 : Int32) ||| g)
    rw [em] at q1
    have q3 : ((-2147483648 : Int32) ||| g).toInt = -2147483648 + f.toInt * 65536 := by omega
    have q4 := c_or ((-2147483648 : Int32) ||| g) s 16 (by decide) 65536 (by decide) (by omega) (by omega) (by omega)
    have q5 := rng32 (((-2147483648 : Int32) ||| g) ||| s)
    omega
theorem own_rec_ne (r : Int32) (q now u : Int64) : ¬ own_rec r (own_fp q) (own_sta now u) = 0 := by
  have h := own_rec_val r _ _ (own_fp_rng q) (own_sta_rng now u)
  have h1 := own_fp_rng q
  have h2 := own_sta_rng now u
  rw [← Int32.toInt_inj, own_e0]
  split at h <;> omega
theorem own_rec_fo (r : Int32) (q now u : Int64) : own_fo (own_rec r (own_fp q) (own_sta now u)) = own_fp q := by
  have h := own_rec_val r _ _ (own_fp_rng q) (own_sta_rng now u)
  have h1 := own_fp_rng q
  have h2 := own_sta_rng now u
  unfold own_fo
  generalize own_rec r (own_fp q) (own_sta now u) = x at *
  have e16 : ((2 ^ 16 : Nat) : Int) = 65536 := by decide
  have e15 : ((2 ^ 15 : Nat) : Int) = 32768 := by decide
  have h3 := c_iushr x 16 16 (by decide) (by decide)
  have h4 := c_mask ((x.toUInt32 >>> ((16 : Int32) &&& 31).toUInt32).toInt32) 32767 15 (by decide) (by decide)
  rw [e16] at h3
  rw [e15] at h4
  rw [← Int32.toInt_inj, h4, h3]
  split at h <;> omega
theorem own_rec_age (r : Int32) (q now u : Int64) : own_age (own_rec r (own_fp q) (own_sta now u)) now u = 0 := by
  have h := own_rec_val r _ _ (own_fp_rng q) (own_sta_rng now u)
  have h1 := own_fp_rng q
  have h2 := own_sta_rng now u
  unfold own_age
  generalize own_rec r (own_fp q) (own_sta now u) = x at *
  have e16 : ((2 ^ 16 : Nat) : Int) = 65536 := by decide
  have h3 := c_isub (own_sta now u) x
  have h4 := c_mask (own_sta now u - x) 65535 16 (by decide) (by decide)
  rw [e16] at h4
  have h5 : (own_sta now u - x) &&& (65535 : Int32) = 0 := by
    rw [← Int32.toInt_inj, h4, own_e0]
    split at h <;> omega
  rw [h5, show (0 : Int32).toInt64 = 0 from by decide, Int64.zero_mul]
theorem own_tk_rec (r : Int32) (q now u : Int64) : own_tk (own_rec r (own_fp q) (own_sta now u)) now u = if r = 0 then 0 else 1 := by
  unfold own_tk
  rw [own_rec_age, Int64.zero_mul, Int64.zero_add]
  have h := own_rec_val r _ _ (own_fp_rng q) (own_sta_rng now u)
  have h1 := own_fp_rng q
  have h2 := own_sta_rng now u
  generalize own_rec r (own_fp q) (own_sta now u) = x at *
  have e31 : ((2 ^ 31 : Nat) : Int) = 2147483648 := by decide
  have h3 := c_iushr x 31 31 (by decide) (by decide)
  rw [e31] at h3
  rw [← Int64.toInt_inj, c_i2l, h3]
  by_cases hr : r = 0
  · rw [if_pos hr] at h ⊢
    rw [show (0 : Int64).toInt = 0 from by decide]
    omega
  · rw [if_neg hr] at h ⊢
    rw [show (1 : Int64).toInt = 1 from by decide]
    omega
theorem own_max1 (x : Int64) : 1 ≤ (own_maxL 1 x).toInt := by
  have e : (1 : Int64).toInt = 1 := by decide
  unfold own_maxL
  by_cases h : (1 : Int64) < x
  · rw [if_pos h]; rw [Int64.lt_iff_toInt_lt, e] at h; omega
  · rw [if_neg h, e]; decide
theorem own_max_ne (x : Int64) : ¬ own_maxL 1 x = 0 := by
  have h := own_max1 x
  rw [← Int64.toInt_inj, show (0 : Int64).toInt = 0 from by decide]
  omega
theorem own_max_age (r : Int32) (x q now u : Int64) : ¬ own_maxL 1 x < own_age (own_rec r (own_fp q) (own_sta now u)) now u := by
  have h := own_max1 x
  rw [own_rec_age, Int64.lt_iff_toInt_lt, show (0 : Int64).toInt = 0 from by decide]
  omega
def own_p (e : Nat) : Int32 := Int32.ofNat (2 ^ e)
def own_P (z : Int32) : Prop := ∃ e : Fin 16, z = own_p e.val
theorem own_w_P (a : Int32) : own_P ((1 : Int32) <<< ((a &&& (15 : Int32)) &&& 31)) := by
  have h := c_mask a 15 4 (by decide) (by decide)
  have e4 : ((2 ^ 4 : Nat) : Int) = 16 := by decide
  rw [e4] at h
  have hk : (a &&& 15).toInt.toNat < 16 := by omega
  have hc : Int32.ofNat (a &&& 15).toInt.toNat = a &&& 15 := by
    rw [← Int32.toInt_inj, Int32.toInt_ofNat_small (by omega)]
    omega
  have hd : ∀ k : Fin 16, (1 : Int32) <<< ((Int32.ofNat k.val) &&& 31) = own_p k.val := by decide +kernel
  have hq := hd ⟨_, hk⟩
  simp only [hc] at hq
  exact ⟨⟨_, hk⟩, hq⟩
theorem own_P_pos {z : Int32} (h : own_P z) : 0 < z := by
  obtain ⟨e, rfl⟩ := h
  have : ∀ k : Fin 16, 0 < own_p k.val := by decide +kernel
  exact this e
theorem own_P_cap {z : Int32} (h : own_P z) : ¬ z < 0 ∧ z.toNatClampNeg ≤ 32768 := by
  obtain ⟨e, rfl⟩ := h
  have : ∀ k : Fin 16, ¬ own_p k.val < 0 ∧ (own_p k.val).toNatClampNeg ≤ 32768 := by decide +kernel
  exact this e
theorem own_P_half {z : Int32} (h : own_P z) (g : ¬ z < 2) : ¬ ((((z >>> ((1 : Int32) &&& 31)).toInt64 <<< ((32 : Int32) &&& 0x3f).toInt64) ||| (z >>> ((1 : Int32) &&& 31)).toInt64).toInt32 &&& (z - (1 : Int32))) = 0 := by
  obtain ⟨e, rfl⟩ := h
  have : ∀ k : Fin 16, ¬ own_p k.val < 2 → ¬ ((((own_p k.val >>> ((1 : Int32) &&& 31)).toInt64 <<< ((32 : Int32) &&& 0x3f).toInt64) ||| (own_p k.val >>> ((1 : Int32) &&& 31)).toInt64).toInt32 &&& (own_p k.val - (1 : Int32))) = 0 := by decide +kernel
  exact this e g
theorem own_P_low {z : Int32} (h : own_P z) : ((z - (1 : Int32)).toInt64).toInt32 = z - (1 : Int32) := by
  obtain ⟨e, rfl⟩ := h
  have : ∀ k : Fin 16, ((own_p k.val - (1 : Int32)).toInt64).toInt32 = own_p k.val - (1 : Int32) := by decide +kernel
  exact this e
theorem own_or_and (x m : Int32) : (x ||| m) &&& m = m := by
  rw [← Int32.toBitVec_inj, Int32.toBitVec_and, Int32.toBitVec_or]
  ext i hi
  simp only [BitVec.getElem_and, BitVec.getElem_or]
  cases x.toBitVec[i] <;> cases m.toBitVec[i] <;> rfl
theorem own_xor_and (x y m : Int32) : (x ^^^ y) &&& m = (x &&& m) ^^^ (y &&& m) := by
  rw [← Int32.toBitVec_inj, Int32.toBitVec_and, Int32.toBitVec_xor, Int32.toBitVec_xor, Int32.toBitVec_and, Int32.toBitVec_and]
  ext i hi
  simp only [BitVec.getElem_and, BitVec.getElem_xor]
  cases x.toBitVec[i] <;> cases y.toBitVec[i] <;> cases m.toBitVec[i] <;> rfl
theorem own_xor_ne (x y : Int32) (h : ¬ y = 0) : ¬ x ^^^ y = x := by
  intro e
  apply h
  have : x ^^^ (x ^^^ y) = 0 := by rw [e, Int32.xor_self]
  rwa [← Int32.xor_assoc, Int32.xor_self, Int32.zero_xor] at this
theorem own_iA (q s : Int64) {z : Int32} (h : own_P z) : own_i1 ((q ||| s) ||| (z - (1 : Int32)).toInt64) z = z - 1 := by
  unfold own_i1
  rw [Int64.toInt32_or, own_P_low h, own_or_and]
theorem own_iB (q s : Int64) {z : Int32} (h : own_P z) (g : ¬ z < 2) :
    ¬ own_i1 (((q ||| s) ||| (z - (1 : Int32)).toInt64) ^^^ (((z >>> ((1 : Int32) &&& 31)).toInt64 <<< ((32 : Int32) &&& 0x3f).toInt64) ||| (z >>> ((1 : Int32) &&& 31)).toInt64)) z = own_i1 ((q ||| s) ||| (z - (1 : Int32)).toInt64) z := by
  unfold own_i1
  rw [Int64.toInt32_xor, own_xor_and]
  exact own_xor_ne _ _ (own_P_half h g)
theorem own_h0 (j : Nat) : getH [] [] (.int (0 : Int32)) j = .int 0 := rfl
theorem own_h2 {i j : Int32} {v : Value} (hj : ¬ j < 0) : getH [(i, .int (0 : Int32)), (i, v)] [] (.int (0 : Int32)) j.toNatClampNeg = .int 0 := by
  by_cases e : j = i
  · exact getH_hit hj e
  · exact getH_miss hj e (getH_miss hj e rfl)
theorem d3_0 : decode jdk_29_method_66_code 0 = .ok (.lload_n 0, 1) := by decide +kernel
theorem d3_1 : decode jdk_29_method_66_code 1 = .ok (.lload_n 2, 1) := by decide +kernel
theorem d3_2 : decode jdk_29_method_66_code 2 = .ok (.lcmp, 1) := by decide +kernel
theorem d3_3 : decode jdk_29_method_66_code 3 = .ok (.ifCond .lt 7, 3) := by decide +kernel
theorem d3_6 : decode jdk_29_method_66_code 6 = .ok (.lload_n 0, 1) := by decide +kernel
theorem d3_7 : decode jdk_29_method_66_code 7 = .ok (.goto 4, 3) := by decide +kernel
theorem d3_10 : decode jdk_29_method_66_code 10 = .ok (.lload_n 2, 1) := by decide +kernel
theorem d3_11 : decode jdk_29_method_66_code 11 = .ok (.lreturn, 1) := by decide +kernel
theorem ef_3 (m : MethodId) (x0 : Int64) (x1 : Int64) : entryFrame m #[(.long x0), (.long x1)] 4 = mkF m 0 #[.val (.long x0), .second, .val (.long x1), .second] [] := by first | (simp [entryFrame, mkF, argsToLocals, Value.category]; done) | rfl
def Q3 (x1 : Int64) (x2 : Int64) (h0 : Heap) (n0 : Nat) (Z : State) (v : Option Value) (h : Heap) (L : List Loc) : Prop := v = some (.long (own_maxL x1 x2)) ∧ Fr n0 L ∧ h = h0
set_option maxRecDepth 65536 in
set_option maxHeartbeats 40000000 in
theorem rm3 (l : Launch) (Z : State) (a0 : Array Value) (hw : ∀ d ∈ tables_1, d.before a0 Z = true) (ws : List Jvm.Cond) (x1 : Int64) (x2 : Int64) (h0 : Heap) (n0 : Nat) (Z0 : n0 ≤ h0.size) :
    MetFree l (⟨"java/lang/Math", "max", "(JJ)J"⟩ : MethodName) (head1 (Jvm.Cond.code (⟨"java/lang/Math", "max", "(JJ)J"⟩ : MethodName) jdk_29_method_66_code 4 (some .long) :: ws) ({ frames := 0, cells := 0, slots := 0, locals := 0 } : Room)) (fun a U => a = #[(.long x1), (.long x2)] ∧ Z.Warmed39 U.vm ∧ U.heap = h0) (fun _ _ _ _ _ => True) (fun _ U o U' => ∃ v L, o = .returned v ∧ Q3 x1 x2 h0 n0 Z v U'.heap L ∧ FrameEnd U o U' L ({ frames := 0, cells := 0, slots := 0, locals := 0 } : Room).cells ({ frames := 0, cells := 0, slots := 0, locals := 0 } : Room).slots) := by
  refine MetFree.of_bodySF (Jvm.Free.JP.mathPlain rfl (by decide +kernel)) hisR ?_
  intro p e s m args below meth c s₁ Bd hml0 hP hK
  obtain ⟨rfl, hZ, hh⟩ := hP
  have hx := Bd.exec
  have hby := Bd.bytes
  have hml : c.maxLocals = 4 := hml0
  have hown : s.vm.findClass "java/lang/Math" = some m.cls := findClass_of_methodNamed Bd.named
  have hnm := (name_of_methodNamed Bd.named Bd.method).1
  have hlk := Bd.notSynchronized
  have hrt := Bd.returns
  have X0 : Stand p l e ({ frames := 0, cells := 0, slots := 0, locals := 0 } : Room) s m #[(.long x1), (.long x2)] below meth c s₁ [] 0 0 := Stand.of_body Bd
  have e0 : s₁.heap = h0 := by rw [← hh, Bd.state]; rfl
  have N0 := Fr.nil n0
  show own_Ends p e below s (Q3 x1 x2 h0 n0 Z) ({ frames := 0, cells := 0, slots := 0, locals := 0 } : Room).cells ({ frames := 0, cells := 0, slots := 0, locals := 0 } : Room).slots (s₁.setTop (entryFrame m #[(.long x1), (.long x2)] 4))
  rw [ef_3]
  refine own_go (fun _ k => XS.lloadN X0.here hx rfl (hb hby d3_0) rfl <| XS.lloadN X0.here hx rfl (hb hby d3_1) rfl <| XS.lcmp X0.here hx rfl (hb hby d3_2) rfl <| k) ?_
  show own_Ends p e below s _ _ _ (s₁.setTop (mkF m 3 #[.val (.long x1), .second, .val (.long x2), .second] [(.int (lcmpW x1 x2))]))
  by_cases hc3_1 : x1 < x2
  · -- true
    refine own_go (fun _ k => XS.ifYes X0.here hx rfl (pc0 := 3) (pc' := 10) rfl (hb hby d3_3) rfl ((if0 _ _).trans (tlt ((lw_lt _ _).mpr hc3_1)).1) (by decide) (by decide) <| XS.lloadN X0.here hx rfl (hb hby d3_10) rfl <| k) ?_
    show own_Ends p e below s _ _ _ (s₁.setTop (mkF m 11 #[.val (.long x1), .second, .val (.long x2), .second] [(.long x2)]))
    exact own_ret X0 hx hrt rfl (Or.inr (Or.inl ⟨rfl, rfl, _, rfl⟩)) (hb hby d3_11) hlk (by rw [e0]; exact ⟨by unfold own_maxL; rw [if_pos hc3_1], N0, rfl⟩) (by decide) (by decide)
  · -- false
    refine own_go (fun _ k => XS.ifNo X0.here hx rfl (hb hby d3_3) rfl ((if0 _ _).trans (flt (fun q => hc3_1 ((lw_lt _ _).mp q))).1) <| XS.lloadN X0.here hx rfl (hb hby d3_6) rfl <| XS.goto X0.here hx rfl (pc0 := 7) (pc' := 11) rfl (hb hby d3_7) (by decide) (by decide) <| k) ?_
    show own_Ends p e below s _ _ _ (s₁.setTop (mkF m 11 #[.val (.long x1), .second, .val (.long x2), .second] [(.long x1)]))
    exact own_ret X0 hx hrt rfl (Or.inr (Or.inl ⟨rfl, rfl, _, rfl⟩)) (hb hby d3_11) hlk (by rw [e0]; exact ⟨by unfold own_maxL; rw [if_neg hc3_1], N0, rfl⟩) (by decide) (by decide)
theorem d11_0 : decode jdk_29_method_65_code 0 = .ok (.iload_n 0, 1) := by decide +kernel
theorem d11_1 : decode jdk_29_method_65_code 1 = .ok (.iload_n 1, 1) := by decide +kernel
theorem d11_2 : decode jdk_29_method_65_code 2 = .ok (.if_icmp .lt 7, 3) := by decide +kernel
theorem d11_5 : decode jdk_29_method_65_code 5 = .ok (.iload_n 0, 1) := by decide +kernel
theorem d11_6 : decode jdk_29_method_65_code 6 = .ok (.goto 4, 3) := by decide +kernel
theorem d11_9 : decode jdk_29_method_65_code 9 = .ok (.iload_n 1, 1) := by decide +kernel
theorem d11_10 : decode jdk_29_method_65_code 10 = .ok (.ireturn, 1) := by decide +kernel
theorem ef_11 (m : MethodId) (x0 : Int32) (x1 : Int32) : entryFrame m #[(.int x0), (.int x1)] 2 = mkF m 0 #[.val (.int x0), .val (.int x1)] [] := by first | (simp [entryFrame, mkF, argsToLocals, Value.category]; done) | rfl
def Q11 (x1 : Int32) (x2 : Int32) (h0 : Heap) (n0 : Nat) (Z : State) (v : Option Value) (h : Heap) (L : List Loc) : Prop := v = some (.int (own_maxI x1 x2)) ∧ Fr n0 L ∧ h = h0
set_option maxRecDepth 65536 in
set_option maxHeartbeats 40000000 in
theorem rm11 (l : Launch) (Z : State) (a0 : Array Value) (hw : ∀ d ∈ tables_1, d.before a0 Z = true) (ws : List Jvm.Cond) (x1 : Int32) (x2 : Int32) (h0 : Heap) (n0 : Nat) (Z0 : n0 ≤ h0.size) :
    MetFree l (⟨"java/lang/Math", "max", "(II)I"⟩ : MethodName) (head1 (Jvm.Cond.code (⟨"java/lang/Math", "max", "(II)I"⟩ : MethodName) jdk_29_method_65_code 2 (some .int) :: ws) ({ frames := 0, cells := 0, slots := 0, locals := 0 } : Room)) (fun a U => a = #[(.int x1), (.int x2)] ∧ Z.Warmed39 U.vm ∧ U.heap = h0) (fun _ _ _ _ _ => True) (fun _ U o U' => ∃ v L, o = .returned v ∧ Q11 x1 x2 h0 n0 Z v U'.heap L ∧ FrameEnd U o U' L ({ frames := 0, cells := 0, slots := 0, locals := 0 } : Room).cells ({ frames := 0, cells := 0, slots := 0, locals := 0 } : Room).slots) := by
  refine MetFree.of_bodySF (Jvm.Free.JP.mathPlain rfl (by decide +kernel)) hisR ?_
  intro p e s m args below meth c s₁ Bd hml0 hP hK
  obtain ⟨rfl, hZ, hh⟩ := hP
  have hx := Bd.exec
  have hby := Bd.bytes
  have hml : c.maxLocals = 2 := hml0
  have hown : s.vm.findClass "java/lang/Math" = some m.cls := findClass_of_methodNamed Bd.named
  have hnm := (name_of_methodNamed Bd.named Bd.method).1
  have hlk := Bd.notSynchronized
  have hrt := Bd.returns
  have X0 : Stand p l e ({ frames := 0, cells := 0, slots := 0, locals := 0 } : Room) s m #[(.int x1), (.int x2)] below meth c s₁ [] 0 0 := Stand.of_body Bd
  have e0 : s₁.heap = h0 := by rw [← hh, Bd.state]; rfl
  have N0 := Fr.nil n0
  show own_Ends p e below s (Q11 x1 x2 h0 n0 Z) ({ frames := 0, cells := 0, slots := 0, locals := 0 } : Room).cells ({ frames := 0, cells := 0, slots := 0, locals := 0 } : Room).slots (s₁.setTop (entryFrame m #[(.int x1), (.int x2)] 2))
  rw [ef_11]
  refine own_go (fun _ k => XS.iloadN X0.here hx rfl (hb hby d11_0) rfl <| XS.iloadN X0.here hx rfl (hb hby d11_1) rfl <| k) ?_
  show own_Ends p e below s _ _ _ (s₁.setTop (mkF m 2 #[.val (.int x1), .val (.int x2)] [(.int x2), (.int x1)]))
  by_cases hc2_1 : x1 < x2
  · -- true
    refine own_go (fun _ k => XS.icmpYes X0.here hx rfl (pc0 := 2) (pc' := 9) rfl (hb hby d11_2) rfl (tlt hc2_1).1 (by decide) (by decide) <| XS.iloadN X0.here hx rfl (hb hby d11_9) rfl <| k) ?_
    show own_Ends p e below s _ _ _ (s₁.setTop (mkF m 10 #[.val (.int x1), .val (.int x2)] [(.int x2)]))
    exact own_ret X0 hx hrt rfl (Or.inl ⟨rfl, Or.inl rfl, _, rfl⟩) (hb hby d11_10) hlk (by rw [e0]; exact ⟨by unfold own_maxI; rw [if_pos hc2_1], N0, rfl⟩) (by decide) (by decide)
  · -- false
    refine own_go (fun _ k => XS.icmpNo X0.here hx rfl (hb hby d11_2) rfl (flt hc2_1).1 <| XS.iloadN X0.here hx rfl (hb hby d11_5) rfl <| XS.goto X0.here hx rfl (pc0 := 6) (pc' := 10) rfl (hb hby d11_6) (by decide) (by decide) <| k) ?_
    show own_Ends p e below s _ _ _ (s₁.setTop (mkF m 10 #[.val (.int x1), .val (.int x2)] [(.int x1)]))
    exact own_ret X0 hx hrt rfl (Or.inl ⟨rfl, Or.inl rfl, _, rfl⟩) (hb hby d11_10) hlk (by rw [e0]; exact ⟨by unfold own_maxI; rw [if_neg hc2_1], N0, rfl⟩) (by decide) (by decide)
theorem d1_0 : decode prog_23_method_1_code 0 = .ok (.aload_n 0, 1) := by decide +kernel
theorem d1_1 : decode prog_23_method_1_code 1 = .ok (.invokespecial 3, 3) := by decide +kernel
theorem d1_4 : decode prog_23_method_1_code 4 = .ok (.aload_n 0, 1) := by decide +kernel
theorem d1_5 : decode prog_23_method_1_code 5 = .ok (.lconst 1, 1) := by decide +kernel
theorem d1_6 : decode prog_23_method_1_code 6 = .ok (.lload_n 1, 1) := by decide +kernel
theorem d1_7 : decode prog_23_method_1_code 7 = .ok (.ldc2_w 9, 3) := by decide +kernel
theorem d1_10 : decode prog_23_method_1_code 10 = .ok (.ldiv, 1) := by decide +kernel
theorem d1_11 : decode prog_23_method_1_code 11 = .ok (.invokestatic 11, 3) := by decide +kernel
theorem d1_14 : decode prog_23_method_1_code 14 = .ok (.putfield 17, 3) := by decide +kernel
theorem d1_17 : decode prog_23_method_1_code 17 = .ok (.aload_n 0, 1) := by decide +kernel
theorem d1_18 : decode prog_23_method_1_code 18 = .ok (.lconst 1, 1) := by decide +kernel
theorem d1_19 : decode prog_23_method_1_code 19 = .ok (.lload_n 1, 1) := by decide +kernel
theorem d1_20 : decode prog_23_method_1_code 20 = .ok (.invokestatic 11, 3) := by decide +kernel
theorem d1_23 : decode prog_23_method_1_code 23 = .ok (.putfield 21, 3) := by decide +kernel
theorem d1_26 : decode prog_23_method_1_code 26 = .ok (.aload_n 0, 1) := by decide +kernel
theorem d1_27 : decode prog_23_method_1_code 27 = .ok (.iconst 0, 1) := by decide +kernel
theorem d1_28 : decode prog_23_method_1_code 28 = .ok (.newarray .int, 2) := by decide +kernel
theorem d1_30 : decode prog_23_method_1_code 30 = .ok (.putfield 24, 3) := by decide +kernel
theorem d1_33 : decode prog_23_method_1_code 33 = .ok (.return_, 1) := by decide +kernel
theorem pn_0 : plainName "com/example/unutkan/unutkan/core/RecentEvictions" = true := by first | (simp [plainName, overriddenIn]; done) | decide +kernel
theorem ef_1 (m : MethodId) (x0 : Addr) (x1 : Int64) : entryFrame m #[(.ref x0), (.long x1)] 3 = mkF m 0 #[.val (.ref x0), .val (.long x1), .second] [] := by first | (simp [entryFrame, mkF, argsToLocals, Value.category]; done) | rfl
def Q1 (a1 : Addr) (q2 : Int64) (h0 : Heap) (n0 : Nat) (Z : State) (v : Option Value) (h : Heap) (L : List Loc) : Prop := v = none ∧ Fr n0 L ∧ Keep h0 h [a1] ∧ Fld Z h a1 "com/example/unutkan/unutkan/core/RecentEvictions" "unit" "J" (.long (own_maxL (1 : Int64) (q2 / (4096 : Int64)))) ∧ Fld Z h a1 "com/example/unutkan/unutkan/core/RecentEvictions" "horizon" "J" (.long (own_maxL (1 : Int64) q2)) ∧ Fld Z h a1 "com/example/unutkan/unutkan/core/RecentEvictions" "sweep" "I" (.int (0 : Int32)) ∧ ∃ b k2, n0 ≤ b ∧ h0.size ≤ b ∧ Fld Z h a1 "com/example/unutkan/unutkan/core/RecentEvictions" "slots" "[I" (.ref b) ∧ Arh Z h b k2 .int (0 : Int32) [] [] (.int (0 : Int32))
set_option maxRecDepth 65536 in
set_option maxHeartbeats 40000000 in
theorem rm1 (l : Launch) (Z : State) (a0 : Array Value) (hw : ∀ d ∈ tables_1, d.before a0 Z = true) (ws : List Jvm.Cond) (a1 : Addr) (q2 : Int64) (h0 : Heap) (n0 : Nat) (Z0 : n0 ≤ h0.size) (E1 : Exa Z h0 a1 "com/example/unutkan/unutkan/core/RecentEvictions") (F1 : Fld Z h0 a1 "com/example/unutkan/unutkan/core/RecentEvictions" "unit" "J" (.long (0 : Int64))) (F2 : Fld Z h0 a1 "com/example/unutkan/unutkan/core/RecentEvictions" "horizon" "J" (.long (0 : Int64))) (F3 : Fld Z h0 a1 "com/example/unutkan/unutkan/core/RecentEvictions" "slots" "[I" .null) (F4 : Fld Z h0 a1 "com/example/unutkan/unutkan/core/RecentEvictions" "sweep" "I" (.int (0 : Int32))) (g1 : n0 ≤ a1) :
    MetFree l (⟨"com/example/unutkan/unutkan/core/RecentEvictions", "<init>", "(J)V"⟩ : MethodName) (head1 (Jvm.Cond.code (⟨"com/example/unutkan/unutkan/core/RecentEvictions", "<init>", "(J)V"⟩ : MethodName) prog_23_method_1_code 3 none :: ws) ({ frames := 1, cells := 1, slots := 0, locals := 30 } : Room)) (fun a U => a = #[(.ref a1), (.long q2)] ∧ Z.Warmed39 U.vm ∧ U.heap = h0) (fun _ _ _ _ _ => True) (fun _ U o U' => ∃ v L, o = .returned v ∧ Q1 a1 q2 h0 n0 Z v U'.heap L ∧ FrameEnd U o U' L ({ frames := 1, cells := 1, slots := 0, locals := 30 } : Room).cells ({ frames := 1, cells := 1, slots := 0, locals := 30 } : Room).slots) := by
  refine MetFree.of_bodySF (plainFor_of_name pn_0) hisR ?_
  intro p e s m args below meth c s₁ Bd hml0 hP hK
  obtain ⟨rfl, hZ, hh⟩ := hP
  have hx := Bd.exec
  have hby := Bd.bytes
  have hml : c.maxLocals = 3 := hml0
  have hown : s.vm.findClass "com/example/unutkan/unutkan/core/RecentEvictions" = some m.cls := findClass_of_methodNamed Bd.named
  have hnm := (name_of_methodNamed Bd.named Bd.method).1
  have hlk := Bd.notSynchronized
  have hrt := Bd.returns
  have X0 : Stand p l e ({ frames := 1, cells := 1, slots := 0, locals := 30 } : Room) s m #[(.ref a1), (.long q2)] below meth c s₁ [] 0 0 := Stand.of_body Bd
  have e0 : s₁.heap = h0 := by rw [← hh, Bd.state]; rfl
  have N0 := Fr.nil n0
  show own_Ends p e below s (Q1 a1 q2 h0 n0 Z) ({ frames := 1, cells := 1, slots := 0, locals := 30 } : Room).cells ({ frames := 1, cells := 1, slots := 0, locals := 30 } : Room).slots (s₁.setTop (entryFrame m #[(.ref a1), (.long q2)] 3))
  rw [ef_1]
  have K0 : Keep h0 h0 [a1] := Keep.refl h0 [a1]
  refine own_go (fun _ k => XS.aloadN X0.here hx rfl (hb hby d1_0) rfl rfl <| k) ?_
  show own_Ends p e below s _ _ _ (s₁.setTop (mkF m 1 #[.val (.ref a1), .val (.long q2), .second] [(.ref a1)]))
  obtain ⟨T1, X1, e1, st1⟩ := initO X0 hx hZ hown (hw _ (List.mem_of_getElem? (i := 7) rfl)) (hw _ (List.mem_of_getElem? (i := 8) rfl)) (hw _ (List.mem_of_getElem? (i := 9) rfl)) e0 (g := (mkF m 1 #[.val (.ref a1), .val (.long q2), .second] [(.ref a1)])) rfl (by rw [hml]; rfl) rfl (hb hby d1_1) (by decide) (W := 0) (by show 2 * 0 + _ ≤ _; exact Nat.le_of_eq rfl) (by decide)
  refine own_go st1 ?_
  show own_Ends p e below s _ _ _ (T1.setTop (mkF m 4 #[.val (.ref a1), .val (.long q2), .second] []))
  refine own_go (fun _ k => XS.aloadN X1.here hx rfl (hb hby d1_4) rfl rfl <| XT.lconstV X1.here hx rfl (1 : Int64) (hb hby d1_5) rfl <| XS.lloadN X1.here hx rfl (hb hby d1_6) rfl <| X1.ldc2J hx hown (mvT hZ (hw _ (List.mem_of_getElem? (i := 10) rfl))) rfl (hb hby d1_7) <| XS.ldiv X1.here hx rfl (hb hby d1_10) rfl (by decide) <| k) ?_
  show own_Ends p e below s _ _ _ (T1.setTop (mkF m 11 #[.val (.ref a1), .val (.long q2), .second] [(.long (q2 / (4096 : Int64))), (.long (1 : Int64)), (.ref a1)]))
  obtain ⟨_, _, ⟨T2, L2, k2, n2⟩, -, X2, ⟨Lc2, hQ2, l2, y2, z2⟩, st2⟩ := Jvm.LawKit.callS X1 hx (y := (⟨"java/lang/Math", "max", "(JJ)J"⟩ : MethodName)) hown (mvT hZ (hw _ (List.mem_of_getElem? (i := 11) rfl))) (mvT hZ (hw _ (List.mem_of_getElem? (i := 12) rfl))) (mvT hZ (hw _ (List.mem_of_getElem? (i := 13) rfl))) (mvT hZ (hw _ (List.mem_of_getElem? (i := 14) rfl))) (by decide) (backOf (W := 1) (rm3 l Z a0 hw [] (1 : Int64) (q2 / (4096 : Int64)) h0 n0 Z0) hZ (hw _ (List.mem_of_getElem? (i := 14) rfl)) (hw _ (List.mem_of_getElem? (i := 13) rfl)) (by decide) (by decide)) (g := (mkF m 11 #[.val (.ref a1), .val (.long q2), .second] [(.long (q2 / (4096 : Int64))), (.long (1 : Int64)), (.ref a1)])) rfl (by rw [hml]; rfl) (argsL := [(.long (1 : Int64)), (.long (q2 / (4096 : Int64)))]) (rest := [(.ref a1)]) (lenOf pd_2 rfl) rfl (by show 2 * 0 + _ ≤ _; exact Nat.le_of_eq rfl) (hb hby d1_11) (fun _ _ => ⟨rfl, e1, Nat.le_of_ble_eq_true rfl, Nat.le_of_ble_eq_true rfl⟩)
  dsimp only [Pt.U, Pt.locs, Pt.cells, Pt.slots] at X2 l2 y2 z2 st2 hQ2
  subst l2 y2 z2
  obtain ⟨rfl, N2q, e2⟩ := hQ2
  have N2 := Fr.app N0 N2q
  refine own_go (fun _ k => st2 _ k) ?_
  show own_Ends p e below s _ _ _ (T2.setTop (mkF m 14 #[.val (.ref a1), .val (.long q2), .second] [(.long (own_maxL (1 : Int64) (q2 / (4096 : Int64)))), (.ref a1)]))
  obtain ⟨T3, h3, X3, e3, W3, st3⟩ := putF X2 hx hZ hown (host := "") (Or.inl (hw _ (List.mem_of_getElem? (i := 15) rfl))) Via.refl e2 F1 E1 (Or.inr ⟨(hw _ (List.mem_of_getElem? (i := 16) rfl)), rfl, hnm⟩) (hw _ (List.mem_of_getElem? (i := 2) rfl)) (ty := .long) (by decide) rfl rfl (g := (mkF m 14 #[.val (.ref a1), .val (.long q2), .second] [(.long (own_maxL (1 : Int64) (q2 / (4096 : Int64)))), (.ref a1)])) rfl rfl (hb hby d1_14)
  refine own_go st3 ?_
  have E1'3 := E1.wr W3
  have F2'3 := F2.other W3 (Or.inr (slot_ne (Or.inr (hw _ (List.mem_of_getElem? (i := 18) rfl))) (Or.inr (hw _ (List.mem_of_getElem? (i := 16) rfl))) (by decide) (t := .long) (t' := .long) (by decide) (by decide)))
  have F3'3 := F3.other W3 (Or.inr (slot_ne (Or.inl (hw _ (List.mem_of_getElem? (i := 21) rfl))) (Or.inr (hw _ (List.mem_of_getElem? (i := 16) rfl))) (by decide) (t := (.array .int)) (t' := .long) (by decide) (by decide)))
  have F4'3 := F4.other W3 (Or.inr (slot_ne (Or.inl (hw _ (List.mem_of_getElem? (i := 28) rfl))) (Or.inr (hw _ (List.mem_of_getElem? (i := 16) rfl))) (by decide) (t := .int) (t' := .long) (by decide) (by decide)))
  have Z3 := Nat.le_trans Z0 (Keep.of_wr W3).1
  have K3' := K0.wr W3 (Or.inl (List.mem_of_getElem? (i := 0) rfl))
  have N3 := Fr.snoc X3 N2 g1
  have F1'3 := F1.same W3
  show own_Ends p e below s _ _ _ (T3.setTop (mkF m 17 #[.val (.ref a1), .val (.long q2), .second] []))
  refine own_go (fun _ k => XS.aloadN X3.here hx rfl (hb hby d1_17) rfl rfl <| XT.lconstV X3.here hx rfl (1 : Int64) (hb hby d1_18) rfl <| XS.lloadN X3.here hx rfl (hb hby d1_19) rfl <| k) ?_
  show own_Ends p e below s _ _ _ (T3.setTop (mkF m 20 #[.val (.ref a1), .val (.long q2), .second] [(.long q2), (.long (1 : Int64)), (.ref a1)]))
  obtain ⟨_, _, ⟨T4, L4, k4, n4⟩, -, X4, ⟨Lc4, hQ4, l4, y4, z4⟩, st4⟩ := Jvm.LawKit.callS X3 hx (y := (⟨"java/lang/Math", "max", "(JJ)J"⟩ : MethodName)) hown (mvT hZ (hw _ (List.mem_of_getElem? (i := 11) rfl))) (mvT hZ (hw _ (List.mem_of_getElem? (i := 12) rfl))) (mvT hZ (hw _ (List.mem_of_getElem? (i := 13) rfl))) (mvT hZ (hw _ (List.mem_of_getElem? (i := 14) rfl))) (by decide) (backOf (W := 1) (rm3 l Z a0 hw [] (1 : Int64) q2 h3 n0 Z3) hZ (hw _ (List.mem_of_getElem? (i := 14) rfl)) (hw _ (List.mem_of_getElem? (i := 13) rfl)) (by decide) (by decide)) (g := (mkF m 20 #[.val (.ref a1), .val (.long q2), .second] [(.long q2), (.long (1 : Int64)), (.ref a1)])) rfl (by rw [hml]; rfl) (argsL := [(.long (1 : Int64)), (.long q2)]) (rest := [(.ref a1)]) (lenOf pd_2 rfl) rfl (by show 2 * 0 + _ ≤ _; exact Nat.le_of_eq rfl) (hb hby d1_20) (fun _ _ => ⟨rfl, e3, Nat.le_of_ble_eq_true rfl, Nat.le_of_ble_eq_true rfl⟩)
  dsimp only [Pt.U, Pt.locs, Pt.cells, Pt.slots] at X4 l4 y4 z4 st4 hQ4
  subst l4 y4 z4
  obtain ⟨rfl, N4q, e4⟩ := hQ4
  have N4 := Fr.app N3 N4q
  refine own_go (fun _ k => st4 _ k) ?_
  show own_Ends p e below s _ _ _ (T4.setTop (mkF m 23 #[.val (.ref a1), .val (.long q2), .second] [(.long (own_maxL (1 : Int64) q2)), (.ref a1)]))
  obtain ⟨T5, h5, X5, e5, W5, st5⟩ := putF X4 hx hZ hown (host := "") (Or.inl (hw _ (List.mem_of_getElem? (i := 17) rfl))) Via.refl e4 F2'3 E1'3 (Or.inr ⟨(hw _ (List.mem_of_getElem? (i := 18) rfl)), rfl, hnm⟩) (hw _ (List.mem_of_getElem? (i := 2) rfl)) (ty := .long) (by decide) rfl rfl (g := (mkF m 23 #[.val (.ref a1), .val (.long q2), .second] [(.long (own_maxL (1 : Int64) q2)), (.ref a1)])) rfl rfl (hb hby d1_23)
  refine own_go st5 ?_
  have E1'5 := E1'3.wr W5
  have F3'5 := F3'3.other W5 (Or.inr (slot_ne (Or.inl (hw _ (List.mem_of_getElem? (i := 21) rfl))) (Or.inr (hw _ (List.mem_of_getElem? (i := 18) rfl))) (by decide) (t := (.array .int)) (t' := .long) (by decide) (by decide)))
  have F4'5 := F4'3.other W5 (Or.inr (slot_ne (Or.inl (hw _ (List.mem_of_getElem? (i := 28) rfl))) (Or.inr (hw _ (List.mem_of_getElem? (i := 18) rfl))) (by decide) (t := .int) (t' := .long) (by decide) (by decide)))
  have F1'5 := F1'3.other W5 (Or.inr (slot_ne (Or.inr (hw _ (List.mem_of_getElem? (i := 16) rfl))) (Or.inr (hw _ (List.mem_of_getElem? (i := 18) rfl))) (by decide) (t := .long) (t' := .long) (by decide) (by decide)))
  have Z5 := Nat.le_trans Z3 (Keep.of_wr W5).1
  have K5' := K3'.wr W5 (Or.inl (List.mem_of_getElem? (i := 0) rfl))
  have N5 := Fr.snoc X5 N4 g1
  have F2'5 := F2'3.same W5
  show own_Ends p e below s _ _ _ (T5.setTop (mkF m 26 #[.val (.ref a1), .val (.long q2), .second] []))
  refine own_go (fun _ k => XS.aloadN X5.here hx rfl (hb hby d1_26) rfl rfl <| XT.iconstV X5.here hx rfl (0 : Int32) (hb hby d1_27) rfl <| k) ?_
  show own_Ends p e below s _ _ _ (T5.setTop (mkF m 28 #[.val (.ref a1), .val (.long q2), .second] [(.int (0 : Int32)), (.ref a1)]))
  obtain ⟨T6, h6, k6, X6, e6, E6, A6, st6⟩ := newP X5 hx hZ (hw _ (List.mem_of_getElem? (i := 19) rfl)) e5 (g := (mkF m 28 #[.val (.ref a1), .val (.long q2), .second] [(.int (0 : Int32)), (.ref a1)])) rfl (hb hby d1_28) rfl (by decide) (cap := 0) (by decide) (by decide) (by decide) (by decide)
  obtain ⟨b6, g6⟩ : ∃ z, z = h5.size := ⟨_, rfl⟩
  rw [← g6] at A6 st6
  refine own_go st6 ?_
  have ne_a1_b6 : a1 ≠ b6 := Nat.ne_of_lt (Nat.lt_of_lt_of_le E1'5.lt (Nat.le_of_eq g6.symm))
  have g_b6 : n0 ≤ b6 := Nat.le_trans Z5 (Nat.le_of_eq g6.symm)
  have sz_b6 : h0.size ≤ b6 := Nat.le_trans K5'.1 (Nat.le_of_eq g6.symm)
  have E1'6 := E1'5.ext E6
  have F3'6 := F3'5.ext E6
  have F4'6 := F4'5.ext E6
  have F1'6 := F1'5.ext E6
  have F2'6 := F2'5.ext E6
  have Z6 := Nat.le_trans Z5 E6.1
  have K6' := K5'.ext E6
  have V_b6 : Arv Z h6 b6 k6 .int (0 : Int32) [] (.int (0 : Int32)) := Arv.new A6 (by decide)
  show own_Ends p e below s _ _ _ (T6.setTop (mkF m 30 #[.val (.ref a1), .val (.long q2), .second] [(.ref b6), (.ref a1)]))
  have H_b6 : Arh Z h6 b6 k6 .int (0 : Int32) [] [] (.int (0 : Int32)) := (Arv.new A6 (by decide)).arh
  obtain ⟨T7, h7, X7, e7, W7, st7⟩ := putF X6 hx hZ hown (host := "") (Or.inl (hw _ (List.mem_of_getElem? (i := 20) rfl))) Via.refl e6 F3'6 E1'6 (Or.inl (hw _ (List.mem_of_getElem? (i := 21) rfl))) (hw _ (List.mem_of_getElem? (i := 2) rfl)) (ty := (.array .int)) (by decide) rfl rfl (g := (mkF m 30 #[.val (.ref a1), .val (.long q2), .second] [(.ref b6), (.ref a1)])) rfl rfl (hb hby d1_30)
  refine own_go st7 ?_
  have H_b6'7 := H_b6.other W7 (Ne.symm ne_a1_b6)
  have E1'7 := E1'6.wr W7
  have F4'7 := F4'6.other W7 (Or.inr (slot_ne (Or.inl (hw _ (List.mem_of_getElem? (i := 28) rfl))) (Or.inl (hw _ (List.mem_of_getElem? (i := 21) rfl))) (by decide) (t := .int) (t' := (.array .int)) (by decide) (by decide)))
  have F1'7 := F1'6.other W7 (Or.inr (slot_ne (Or.inr (hw _ (List.mem_of_getElem? (i := 16) rfl))) (Or.inl (hw _ (List.mem_of_getElem? (i := 21) rfl))) (by decide) (t := .long) (t' := (.array .int)) (by decide) (by decide)))
  have F2'7 := F2'6.other W7 (Or.inr (slot_ne (Or.inr (hw _ (List.mem_of_getElem? (i := 18) rfl))) (Or.inl (hw _ (List.mem_of_getElem? (i := 21) rfl))) (by decide) (t := .long) (t' := (.array .int)) (by decide) (by decide)))
  have Z7 := Nat.le_trans Z6 (Keep.of_wr W7).1
  have K7' := K6'.wr W7 (Or.inl (List.mem_of_getElem? (i := 0) rfl))
  have N7 := Fr.snoc X7 N5 g1
  have F3'7 := F3'6.same W7
  show own_Ends p e below s _ _ _ (T7.setTop (mkF m 33 #[.val (.ref a1), .val (.long q2), .second] []))
  exact own_ret0 X7 hx hrt (hb hby d1_33) hlk (by rw [e7]; exact ⟨rfl, N7, K7', F1'7, F2'7, F4'7, _, _, g_b6, sz_b6, F3'7, H_b6'7⟩) (by decide) (by decide)
theorem d4_0 : decode prog_23_method_2_code 0 = .ok (.iload_n 1, 1) := by decide +kernel
theorem d4_1 : decode prog_23_method_2_code 1 = .ok (.aload_n 0, 1) := by decide +kernel
theorem d4_2 : decode prog_23_method_2_code 2 = .ok (.getfield 24, 3) := by decide +kernel
theorem d4_5 : decode prog_23_method_2_code 5 = .ok (.arraylength, 1) := by decide +kernel
theorem d4_6 : decode prog_23_method_2_code 6 = .ok (.if_icmp .le 15, 3) := by decide +kernel
theorem d4_9 : decode prog_23_method_2_code 9 = .ok (.aload_n 0, 1) := by decide +kernel
theorem d4_10 : decode prog_23_method_2_code 10 = .ok (.iload_n 1, 1) := by decide +kernel
theorem d4_11 : decode prog_23_method_2_code 11 = .ok (.newarray .int, 2) := by decide +kernel
theorem d4_13 : decode prog_23_method_2_code 13 = .ok (.putfield 24, 3) := by decide +kernel
theorem d4_16 : decode prog_23_method_2_code 16 = .ok (.aload_n 0, 1) := by decide +kernel
theorem d4_17 : decode prog_23_method_2_code 17 = .ok (.iconst 0, 1) := by decide +kernel
theorem d4_18 : decode prog_23_method_2_code 18 = .ok (.putfield 28, 3) := by decide +kernel
theorem d4_21 : decode prog_23_method_2_code 21 = .ok (.return_, 1) := by decide +kernel
theorem ef_Grow (m : MethodId) (x0 : Addr) (x1 : Int32) : entryFrame m #[(.ref x0), (.int x1)] 2 = mkF m 0 #[.val (.ref x0), .val (.int x1)] [] := by first | (simp [entryFrame, mkF, argsToLocals, Value.category]; done) | rfl
def QGrow (a1 : Addr) (p2 : Int32) (x3 : Addr) (k3 : ClassId) (z3 : Int32) (hs : List (Int32 × Value)) (u4 : Int32) (u h9 : Int64) (h0 : Heap) (n0 : Nat) (Z : State) (v : Option Value) (h : Heap) (L : List Loc) : Prop := v = none ∧ Fr n0 L ∧ Keep h0 h [a1] ∧ Fld Z h a1 "com/example/unutkan/unutkan/core/RecentEvictions" "unit" "J" (.long u) ∧ Fld Z h a1 "com/example/unutkan/unutkan/core/RecentEvictions" "horizon" "J" (.long h9) ∧ ∃ b k2, n0 ≤ b ∧ h0.size ≤ b ∧ Fld Z h a1 "com/example/unutkan/unutkan/core/RecentEvictions" "slots" "[I" (.ref b) ∧ Fld Z h a1 "com/example/unutkan/unutkan/core/RecentEvictions" "sweep" "I" (.int (0 : Int32)) ∧ Arh Z h b k2 .int p2 [] [] (.int (0 : Int32))
set_option maxRecDepth 65536 in
set_option maxHeartbeats 40000000 in
theorem rmGrow (l : Launch) (Z : State) (a0 : Array Value) (hw : ∀ d ∈ tables_1, d.before a0 Z = true) (ws : List Jvm.Cond) (a1 : Addr) (p2 : Int32) (x3 : Addr) (k3 : ClassId) (z3 : Int32) (hs : List (Int32 × Value)) (u4 : Int32) (u h9 : Int64) (h0 : Heap) (n0 : Nat) (Z0 : n0 ≤ h0.size) (E1 : Exa Z h0 a1 "com/example/unutkan/unutkan/core/RecentEvictions") (F1 : Fld Z h0 a1 "com/example/unutkan/unutkan/core/RecentEvictions" "unit" "J" (.long u)) (F2 : Fld Z h0 a1 "com/example/unutkan/unutkan/core/RecentEvictions" "horizon" "J" (.long h9)) (F3 : Fld Z h0 a1 "com/example/unutkan/unutkan/core/RecentEvictions" "slots" "[I" (.ref x3)) (F4 : Fld Z h0 a1 "com/example/unutkan/unutkan/core/RecentEvictions" "sweep" "I" (.int u4)) (H3 : Arh Z h0 x3 k3 .int z3 hs [] (.int (0 : Int32))) (g1 : n0 ≤ a1) (hne : a1 ≠ x3) (hlt : z3 < p2) (hcap : ¬ p2 < 0 ∧ p2.toNatClampNeg ≤ 32768) :
    MetFree l (⟨"com/example/unutkan/unutkan/core/RecentEvictions", "ensureCapacity", "(I)V"⟩ : MethodName) (head1 (Jvm.Cond.code (⟨"com/example/unutkan/unutkan/core/RecentEvictions", "ensureCapacity", "(I)V"⟩ : MethodName) prog_23_method_2_code 2 none :: ws) ({ frames := 0, cells := 1, slots := 32768, locals := 0 } : Room)) (fun a U => a = #[(.ref a1), (.int p2)] ∧ Z.Warmed39 U.vm ∧ U.heap = h0) (fun _ _ _ _ _ => True) (fun _ U o U' => ∃ v L, o = .returned v ∧ QGrow a1 p2 x3 k3 z3 hs u4 u h9 h0 n0 Z v U'.heap L ∧ FrameEnd U o U' L ({ frames := 0, cells := 1, slots := 32768, locals := 0 } : Room).cells ({ frames := 0, cells := 1, slots := 32768, locals := 0 } : Room).slots) := by
  refine MetFree.of_bodySF (plainFor_of_name pn_0) hisR ?_
  intro p e s m args below meth c s₁ Bd hml0 hP hK
  obtain ⟨rfl, hZ, hh⟩ := hP
  have hx := Bd.exec
  have hby := Bd.bytes
  have hml : c.maxLocals = 2 := hml0
  have hown : s.vm.findClass "com/example/unutkan/unutkan/core/RecentEvictions" = some m.cls := findClass_of_methodNamed Bd.named
  have hnm := (name_of_methodNamed Bd.named Bd.method).1
  have hlk := Bd.notSynchronized
  have hrt := Bd.returns
  have X0 : Stand p l e ({ frames := 0, cells := 1, slots := 32768, locals := 0 } : Room) s m #[(.ref a1), (.int p2)] below meth c s₁ [] 0 0 := Stand.of_body Bd
  have e0 : s₁.heap = h0 := by rw [← hh, Bd.state]; rfl
  have N0 := Fr.nil n0
  show own_Ends p e below s (QGrow a1 p2 x3 k3 z3 hs u4 u h9 h0 n0 Z) ({ frames := 0, cells := 1, slots := 32768, locals := 0 } : Room).cells ({ frames := 0, cells := 1, slots := 32768, locals := 0 } : Room).slots (s₁.setTop (entryFrame m #[(.ref a1), (.int p2)] 2))
  rw [ef_Grow]
  have K0 : Keep h0 h0 [a1] := Keep.refl h0 [a1]
  refine own_go (fun _ k => XS.iloadN X0.here hx rfl (hb hby d4_0) rfl <| XS.aloadN X0.here hx rfl (hb hby d4_1) rfl rfl <| k) ?_
  show own_Ends p e below s _ _ _ (s₁.setTop (mkF m 2 #[.val (.ref a1), .val (.int p2)] [(.ref a1), (.int p2)]))
  obtain ⟨T1, X1, e1, st1⟩ := getF X0 hx hZ hown (host := "") (Or.inl (hw _ (List.mem_of_getElem? (i := 20) rfl))) Via.refl e0 F3 (g := (mkF m 2 #[.val (.ref a1), .val (.int p2)] [(.ref a1), (.int p2)])) rfl rfl (hb hby d4_2)
  refine own_go st1 ?_
  show own_Ends p e below s _ _ _ (T1.setTop (mkF m 5 #[.val (.ref a1), .val (.int p2)] [(.ref x3), (.int p2)]))
  obtain ⟨clx3_5_2, Arx3_5_2, qqx3_5_2, Szx3_5_2, Ngx3_5_2, Hsx3_5_2, Gfx3_5_2⟩ := id H3
  refine own_go (fun _ k => X1.arraylength hx (by first | exact Arx3_5_2.1 | (rw [e1]; exact Arx3_5_2.1)) (State.isArrayOf_alike hZ.alike Arx3_5_2.2.1) (g := (mkF m 5 #[.val (.ref a1), .val (.int p2)] [(.ref x3), (.int p2)])) rfl rfl (hb hby d4_5) _ k) ?_
  rw [len_of Szx3_5_2 Ngx3_5_2]
  show own_Ends p e below s _ _ _ (T1.setTop (mkF m 6 #[.val (.ref a1), .val (.int p2)] [(.int z3), (.int p2)]))
  refine own_go (fun _ k => XS.icmpNo X1.here hx rfl (hb hby d4_6) rfl (tlt hlt).2.2.2 <| XS.aloadN X1.here hx rfl (hb hby d4_9) rfl rfl <| XS.iloadN X1.here hx rfl (hb hby d4_10) rfl <| k) ?_
  show own_Ends p e below s _ _ _ (T1.setTop (mkF m 11 #[.val (.ref a1), .val (.int p2)] [(.int p2), (.ref a1)]))
  obtain ⟨T3, h3, k3, X3, e3, E3, A3, st3⟩ := newP X1 hx hZ (hw _ (List.mem_of_getElem? (i := 19) rfl)) e1 (g := (mkF m 11 #[.val (.ref a1), .val (.int p2)] [(.int p2), (.ref a1)])) rfl (hb hby d4_11) rfl hcap.1 (cap := 32768) hcap.2 (by decide) (by decide) (by decide)
  obtain ⟨b3, g3⟩ : ∃ z, z = h0.size := ⟨_, rfl⟩
  rw [← g3] at A3 st3
  refine own_go st3 ?_
  have ne_a1_b3 : a1 ≠ b3 := Nat.ne_of_lt (Nat.lt_of_lt_of_le E1.lt (Nat.le_of_eq g3.symm))
  have ne_x3_b3 : x3 ≠ b3 := Nat.ne_of_lt (Nat.lt_of_lt_of_le H3.lt (Nat.le_of_eq g3.symm))
  have g_b3 : n0 ≤ b3 := Nat.le_trans Z0 (Nat.le_of_eq g3.symm)
  have sz_b3 : h0.size ≤ b3 := Nat.le_trans K0.1 (Nat.le_of_eq g3.symm)
  have H3'3 := H3.ext E3
  have E1'3 := E1.ext E3
  have F3'3 := F3.ext E3
  have F4'3 := F4.ext E3
  have F1'3 := F1.ext E3
  have F2'3 := F2.ext E3
  have Z3 := Nat.le_trans Z0 E3.1
  have K3' := K0.ext E3
  have V_b3 : Arv Z h3 b3 k3 .int p2 [] (.int (0 : Int32)) := Arv.new A3 hcap.1
  show own_Ends p e below s _ _ _ (T3.setTop (mkF m 13 #[.val (.ref a1), .val (.int p2)] [(.ref b3), (.ref a1)]))
  have H_b3 : Arh Z h3 b3 k3 .int p2 [] [] (.int (0 : Int32)) := (Arv.new A3 hcap.1).arh
  obtain ⟨T4, h4, X4, e4, W4, st4⟩ := putF X3 hx hZ hown (host := "") (Or.inl (hw _ (List.mem_of_getElem? (i := 20) rfl))) Via.refl e3 F3'3 E1'3 (Or.inl (hw _ (List.mem_of_getElem? (i := 21) rfl))) (hw _ (List.mem_of_getElem? (i := 2) rfl)) (ty := (.array .int)) (by decide) rfl rfl (g := (mkF m 13 #[.val (.ref a1), .val (.int p2)] [(.ref b3), (.ref a1)])) rfl rfl (hb hby d4_13)
  refine own_go st4 ?_
  have H3'4 := H3'3.other W4 (Ne.symm hne)
  have H_b3'4 := H_b3.other W4 (Ne.symm ne_a1_b3)
  have E1'4 := E1'3.wr W4
  have F4'4 := F4'3.other W4 (Or.inr (slot_ne (Or.inl (hw _ (List.mem_of_getElem? (i := 28) rfl))) (Or.inl (hw _ (List.mem_of_getElem? (i := 21) rfl))) (by decide) (t := .int) (t' := (.array .int)) (by decide) (by decide)))
  have F1'4 := F1'3.other W4 (Or.inr (slot_ne (Or.inr (hw _ (List.mem_of_getElem? (i := 16) rfl))) (Or.inl (hw _ (List.mem_of_getElem? (i := 21) rfl))) (by decide) (t := .long) (t' := (.array .int)) (by decide) (by decide)))
  have F2'4 := F2'3.other W4 (Or.inr (slot_ne (Or.inr (hw _ (List.mem_of_getElem? (i := 18) rfl))) (Or.inl (hw _ (List.mem_of_getElem? (i := 21) rfl))) (by decide) (t := .long) (t' := (.array .int)) (by decide) (by decide)))
  have Z4 := Nat.le_trans Z3 (Keep.of_wr W4).1
  have K4' := K3'.wr W4 (Or.inl (List.mem_of_getElem? (i := 0) rfl))
  have N4 := Fr.snoc X4 N0 g1
  have F3'4 := F3'3.same W4
  show own_Ends p e below s _ _ _ (T4.setTop (mkF m 16 #[.val (.ref a1), .val (.int p2)] []))
  refine own_go (fun _ k => XS.aloadN X4.here hx rfl (hb hby d4_16) rfl rfl <| XT.iconstV X4.here hx rfl (0 : Int32) (hb hby d4_17) rfl <| k) ?_
  show own_Ends p e below s _ _ _ (T4.setTop (mkF m 18 #[.val (.ref a1), .val (.int p2)] [(.int (0 : Int32)), (.ref a1)]))
  obtain ⟨T5, h5, X5, e5, W5, st5⟩ := putF X4 hx hZ hown (host := "") (Or.inl (hw _ (List.mem_of_getElem? (i := 27) rfl))) Via.refl e4 F4'4 E1'4 (Or.inl (hw _ (List.mem_of_getElem? (i := 28) rfl))) (hw _ (List.mem_of_getElem? (i := 2) rfl)) (ty := .int) (by decide) rfl rfl (g := (mkF m 18 #[.val (.ref a1), .val (.int p2)] [(.int (0 : Int32)), (.ref a1)])) rfl rfl (hb hby d4_18)
  refine own_go st5 ?_
  have H3'5 := H3'4.other W5 (Ne.symm hne)
  have H_b3'5 := H_b3'4.other W5 (Ne.symm ne_a1_b3)
  have E1'5 := E1'4.wr W5
  have F1'5 := F1'4.other W5 (Or.inr (slot_ne (Or.inr (hw _ (List.mem_of_getElem? (i := 16) rfl))) (Or.inl (hw _ (List.mem_of_getElem? (i := 28) rfl))) (by decide) (t := .long) (t' := .int) (by decide) (by decide)))
  have F2'5 := F2'4.other W5 (Or.inr (slot_ne (Or.inr (hw _ (List.mem_of_getElem? (i := 18) rfl))) (Or.inl (hw _ (List.mem_of_getElem? (i := 28) rfl))) (by decide) (t := .long) (t' := .int) (by decide) (by decide)))
  have F3'5 := F3'4.other W5 (Or.inr (slot_ne (Or.inl (hw _ (List.mem_of_getElem? (i := 21) rfl))) (Or.inl (hw _ (List.mem_of_getElem? (i := 28) rfl))) (by decide) (t := (.array .int)) (t' := .int) (by decide) (by decide)))
  have Z5 := Nat.le_trans Z4 (Keep.of_wr W5).1
  have K5' := K4'.wr W5 (Or.inl (List.mem_of_getElem? (i := 0) rfl))
  have N5 := Fr.snoc X5 N4 g1
  have F4'5 := F4'4.same W5
  show own_Ends p e below s _ _ _ (T5.setTop (mkF m 21 #[.val (.ref a1), .val (.int p2)] []))
  exact own_ret0 X5 hx hrt (hb hby d4_21) hlk (by rw [e5]; exact ⟨rfl, N5, K5', F1'5, F2'5, _, _, g_b3, sz_b3, F3'5, F4'5, H_b3'5⟩) (by decide) (by decide)
theorem ef_Stay (m : MethodId) (x0 : Addr) (x1 : Int32) : entryFrame m #[(.ref x0), (.int x1)] 2 = mkF m 0 #[.val (.ref x0), .val (.int x1)] [] := by first | (simp [entryFrame, mkF, argsToLocals, Value.category]; done) | rfl
def QStay (a1 : Addr) (p2 : Int32) (x3 : Addr) (k3 : ClassId) (z3 : Int32) (hs : List (Int32 × Value)) (h0 : Heap) (n0 : Nat) (Z : State) (v : Option Value) (h : Heap) (L : List Loc) : Prop := v = none ∧ Fr n0 L ∧ h = h0
set_option maxRecDepth 65536 in
set_option maxHeartbeats 40000000 in
theorem rmStay (l : Launch) (Z : State) (a0 : Array Value) (hw : ∀ d ∈ tables_1, d.before a0 Z = true) (ws : List Jvm.Cond) (a1 : Addr) (p2 : Int32) (x3 : Addr) (k3 : ClassId) (z3 : Int32) (hs : List (Int32 × Value)) (h0 : Heap) (n0 : Nat) (Z0 : n0 ≤ h0.size) (F3 : Fld Z h0 a1 "com/example/unutkan/unutkan/core/RecentEvictions" "slots" "[I" (.ref x3)) (H3 : Arh Z h0 x3 k3 .int z3 hs [] (.int (0 : Int32))) (hlt : ¬ z3 < p2) :
    MetFree l (⟨"com/example/unutkan/unutkan/core/RecentEvictions", "ensureCapacity", "(I)V"⟩ : MethodName) (head1 (Jvm.Cond.code (⟨"com/example/unutkan/unutkan/core/RecentEvictions", "ensureCapacity", "(I)V"⟩ : MethodName) prog_23_method_2_code 2 none :: ws) ({ frames := 0, cells := 0, slots := 0, locals := 0 } : Room)) (fun a U => a = #[(.ref a1), (.int p2)] ∧ Z.Warmed39 U.vm ∧ U.heap = h0) (fun _ _ _ _ _ => True) (fun _ U o U' => ∃ v L, o = .returned v ∧ QStay a1 p2 x3 k3 z3 hs h0 n0 Z v U'.heap L ∧ FrameEnd U o U' L ({ frames := 0, cells := 0, slots := 0, locals := 0 } : Room).cells ({ frames := 0, cells := 0, slots := 0, locals := 0 } : Room).slots) := by
  refine MetFree.of_bodySF (plainFor_of_name pn_0) hisR ?_
  intro p e s m args below meth c s₁ Bd hml0 hP hK
  obtain ⟨rfl, hZ, hh⟩ := hP
  have hx := Bd.exec
  have hby := Bd.bytes
  have hml : c.maxLocals = 2 := hml0
  have hown : s.vm.findClass "com/example/unutkan/unutkan/core/RecentEvictions" = some m.cls := findClass_of_methodNamed Bd.named
  have hnm := (name_of_methodNamed Bd.named Bd.method).1
  have hlk := Bd.notSynchronized
  have hrt := Bd.returns
  have X0 : Stand p l e ({ frames := 0, cells := 0, slots := 0, locals := 0 } : Room) s m #[(.ref a1), (.int p2)] below meth c s₁ [] 0 0 := Stand.of_body Bd
  have e0 : s₁.heap = h0 := by rw [← hh, Bd.state]; rfl
  have N0 := Fr.nil n0
  show own_Ends p e below s (QStay a1 p2 x3 k3 z3 hs h0 n0 Z) ({ frames := 0, cells := 0, slots := 0, locals := 0 } : Room).cells ({ frames := 0, cells := 0, slots := 0, locals := 0 } : Room).slots (s₁.setTop (entryFrame m #[(.ref a1), (.int p2)] 2))
  rw [ef_Stay]
  refine own_go (fun _ k => XS.iloadN X0.here hx rfl (hb hby d4_0) rfl <| XS.aloadN X0.here hx rfl (hb hby d4_1) rfl rfl <| k) ?_
  show own_Ends p e below s _ _ _ (s₁.setTop (mkF m 2 #[.val (.ref a1), .val (.int p2)] [(.ref a1), (.int p2)]))
  obtain ⟨T1, X1, e1, st1⟩ := getF X0 hx hZ hown (host := "") (Or.inl (hw _ (List.mem_of_getElem? (i := 20) rfl))) Via.refl e0 F3 (g := (mkF m 2 #[.val (.ref a1), .val (.int p2)] [(.ref a1), (.int p2)])) rfl rfl (hb hby d4_2)
  refine own_go st1 ?_
  show own_Ends p e below s _ _ _ (T1.setTop (mkF m 5 #[.val (.ref a1), .val (.int p2)] [(.ref x3), (.int p2)]))
  obtain ⟨clx3_5_2, Arx3_5_2, qqx3_5_2, Szx3_5_2, Ngx3_5_2, Hsx3_5_2, Gfx3_5_2⟩ := id H3
  refine own_go (fun _ k => X1.arraylength hx (by first | exact Arx3_5_2.1 | (rw [e1]; exact Arx3_5_2.1)) (State.isArrayOf_alike hZ.alike Arx3_5_2.2.1) (g := (mkF m 5 #[.val (.ref a1), .val (.int p2)] [(.ref x3), (.int p2)])) rfl rfl (hb hby d4_5) _ k) ?_
  rw [len_of Szx3_5_2 Ngx3_5_2]
  show own_Ends p e below s _ _ _ (T1.setTop (mkF m 6 #[.val (.ref a1), .val (.int p2)] [(.int z3), (.int p2)]))
  refine own_go (fun _ k => XS.icmpYes X1.here hx rfl (pc0 := 6) (pc' := 21) rfl (hb hby d4_6) rfl (flt hlt).2.2.2 (by decide) (by decide) <| k) ?_
  show own_Ends p e below s _ _ _ (T1.setTop (mkF m 21 #[.val (.ref a1), .val (.int p2)] []))
  exact own_ret0 X1 hx hrt (hb hby d4_21) hlk (by rw [e1]; exact ⟨rfl, N0, rfl⟩) (by decide) (by decide)
theorem d6_0 : decode prog_23_method_12_code 0 = .ok (.lload_n 0, 1) := by decide +kernel
theorem d6_1 : decode prog_23_method_12_code 1 = .ok (.ldc2_w 71, 3) := by decide +kernel
theorem d6_4 : decode prog_23_method_12_code 4 = .ok (.lmul, 1) := by decide +kernel
theorem d6_5 : decode prog_23_method_12_code 5 = .ok (.bipush 49, 2) := by decide +kernel
theorem d6_7 : decode prog_23_method_12_code 7 = .ok (.lushr, 1) := by decide +kernel
theorem d6_8 : decode prog_23_method_12_code 8 = .ok (.l2i, 1) := by decide +kernel
theorem d6_9 : decode prog_23_method_12_code 9 = .ok (.istore_n 2, 1) := by decide +kernel
theorem d6_10 : decode prog_23_method_12_code 10 = .ok (.iload_n 2, 1) := by decide +kernel
theorem d6_11 : decode prog_23_method_12_code 11 = .ok (.ifCond .ne 7, 3) := by decide +kernel
theorem d6_14 : decode prog_23_method_12_code 14 = .ok (.iconst 1, 1) := by decide +kernel
theorem d6_15 : decode prog_23_method_12_code 15 = .ok (.goto 4, 3) := by decide +kernel
theorem d6_18 : decode prog_23_method_12_code 18 = .ok (.iload_n 2, 1) := by decide +kernel
theorem d6_19 : decode prog_23_method_12_code 19 = .ok (.ireturn, 1) := by decide +kernel
theorem ef_6 (m : MethodId) (x0 : Int64) : entryFrame m #[(.long x0)] 3 = mkF m 0 #[.val (.long x0), .second, .unset] [] := by first | (simp [entryFrame, mkF, argsToLocals, Value.category]; done) | rfl
def Q6 (q1 : Int64) (h0 : Heap) (n0 : Nat) (Z : State) (v : Option Value) (h : Heap) (L : List Loc) : Prop := v = some (.int (own_fp q1)) ∧ Fr n0 L ∧ h = h0
set_option maxRecDepth 65536 in
set_option maxHeartbeats 40000000 in
theorem rm6 (l : Launch) (Z : State) (a0 : Array Value) (hw : ∀ d ∈ tables_1, d.before a0 Z = true) (ws : List Jvm.Cond) (q1 : Int64) (h0 : Heap) (n0 : Nat) (Z0 : n0 ≤ h0.size) :
    MetFree l (⟨"com/example/unutkan/unutkan/core/RecentEvictions", "fingerprint", "(J)I"⟩ : MethodName) (head1 (Jvm.Cond.code (⟨"com/example/unutkan/unutkan/core/RecentEvictions", "fingerprint", "(J)I"⟩ : MethodName) prog_23_method_12_code 3 (some .int) :: ws) ({ frames := 0, cells := 0, slots := 0, locals := 0 } : Room)) (fun a U => a = #[(.long q1)] ∧ Z.Warmed39 U.vm ∧ U.heap = h0) (fun _ _ _ _ _ => True) (fun _ U o U' => ∃ v L, o = .returned v ∧ Q6 q1 h0 n0 Z v U'.heap L ∧ FrameEnd U o U' L ({ frames := 0, cells := 0, slots := 0, locals := 0 } : Room).cells ({ frames := 0, cells := 0, slots := 0, locals := 0 } : Room).slots) := by
  refine MetFree.of_bodySF (plainFor_of_name pn_0) hisR ?_
  intro p e s m args below meth c s₁ Bd hml0 hP hK
  obtain ⟨rfl, hZ, hh⟩ := hP
  have hx := Bd.exec
  have hby := Bd.bytes
  have hml : c.maxLocals = 3 := hml0
  have hown : s.vm.findClass "com/example/unutkan/unutkan/core/RecentEvictions" = some m.cls := findClass_of_methodNamed Bd.named
  have hnm := (name_of_methodNamed Bd.named Bd.method).1
  have hlk := Bd.notSynchronized
  have hrt := Bd.returns
  have X0 : Stand p l e ({ frames := 0, cells := 0, slots := 0, locals := 0 } : Room) s m #[(.long q1)] below meth c s₁ [] 0 0 := Stand.of_body Bd
  have e0 : s₁.heap = h0 := by rw [← hh, Bd.state]; rfl
  have N0 := Fr.nil n0
  show own_Ends p e below s (Q6 q1 h0 n0 Z) ({ frames := 0, cells := 0, slots := 0, locals := 0 } : Room).cells ({ frames := 0, cells := 0, slots := 0, locals := 0 } : Room).slots (s₁.setTop (entryFrame m #[(.long q1)] 3))
  rw [ef_6]
  refine own_go (fun _ k => XS.lloadN X0.here hx rfl (hb hby d6_0) rfl <| X0.ldc2J hx hown (mvT hZ (hw _ (List.mem_of_getElem? (i := 37) rfl))) rfl (hb hby d6_1) <| XS.lmul X0.here hx rfl (hb hby d6_4) rfl <| XT.bipushV X0.here hx rfl (49 : Int32) (hb hby d6_5) rfl <| XS.lushr X0.here hx rfl (hb hby d6_7) rfl <| XS.l2i X0.here hx rfl (hb hby d6_8) rfl <| XS.istoreN X0.here hx rfl (hb hby d6_9) rfl (l' := #[.val (.long q1), .second, .val (.int ((((q1 * (-4417276706812531889 : Int64)).toUInt64 >>> ((49 : Int32) &&& 0x3f).toInt64.toUInt64).toInt64).toInt32))]) rfl <| XS.iloadN X0.here hx rfl (hb hby d6_10) rfl <| k) ?_
  show own_Ends p e below s _ _ _ (s₁.setTop (mkF m 11 #[.val (.long q1), .second, .val (.int ((((q1 * (-4417276706812531889 : Int64)).toUInt64 >>> ((49 : Int32) &&& 0x3f).toInt64.toUInt64).toInt64).toInt32))] [(.int ((((q1 * (-4417276706812531889 : Int64)).toUInt64 >>> ((49 : Int32) &&& 0x3f).toInt64.toUInt64).toInt64).toInt32))]))
  by_cases hc11_1 : ((((q1 * (-4417276706812531889 : Int64)).toUInt64 >>> ((49 : Int32) &&& 0x3f).toInt64.toUInt64).toInt64).toInt32) = (0 : Int32)
  · -- true
    refine own_go (fun _ k => XS.ifNo X0.here hx rfl (hb hby d6_11) rfl ((if0 _ _).trans (teq hc11_1).2) <| XT.iconstV X0.here hx rfl (1 : Int32) (hb hby d6_14) rfl <| XS.goto X0.here hx rfl (pc0 := 15) (pc' := 19) rfl (hb hby d6_15) (by decide) (by decide) <| k) ?_
    show own_Ends p e below s _ _ _ (s₁.setTop (mkF m 19 #[.val (.long q1), .second, .val (.int ((((q1 * (-4417276706812531889 : Int64)).toUInt64 >>> ((49 : Int32) &&& 0x3f).toInt64.toUInt64).toInt64).toInt32))] [(.int (1 : Int32))]))
    exact own_ret X0 hx hrt rfl (Or.inl ⟨rfl, Or.inl rfl, _, rfl⟩) (hb hby d6_19) hlk (by rw [e0]; exact ⟨by unfold own_fp; rw [if_pos hc11_1], N0, rfl⟩) (by decide) (by decide)
  · -- false
    refine own_go (fun _ k => XS.ifYes X0.here hx rfl (pc0 := 11) (pc' := 18) rfl (hb hby d6_11) rfl ((if0 _ _).trans (feq hc11_1).2) (by decide) (by decide) <| XS.iloadN X0.here hx rfl (hb hby d6_18) rfl <| k) ?_
    show own_Ends p e below s _ _ _ (s₁.setTop (mkF m 19 #[.val (.long q1), .second, .val (.int ((((q1 * (-4417276706812531889 : Int64)).toUInt64 >>> ((49 : Int32) &&& 0x3f).toInt64.toUInt64).toInt64).toInt32))] [(.int ((((q1 * (-4417276706812531889 : Int64)).toUInt64 >>> ((49 : Int32) &&& 0x3f).toInt64.toUInt64).toInt64).toInt32))]))
    exact own_ret X0 hx hrt rfl (Or.inl ⟨rfl, Or.inl rfl, _, rfl⟩) (hb hby d6_19) hlk (by rw [e0]; exact ⟨by unfold own_fp; rw [if_neg hc11_1], N0, rfl⟩) (by decide) (by decide)
theorem d12_0 : decode prog_23_method_13_code 0 = .ok (.iload_n 0, 1) := by decide +kernel
theorem d12_1 : decode prog_23_method_13_code 1 = .ok (.bipush 16, 2) := by decide +kernel
theorem d12_3 : decode prog_23_method_13_code 3 = .ok (.iushr, 1) := by decide +kernel
theorem d12_4 : decode prog_23_method_13_code 4 = .ok (.sipush 32767, 3) := by decide +kernel
theorem d12_7 : decode prog_23_method_13_code 7 = .ok (.iand, 1) := by decide +kernel
theorem d12_8 : decode prog_23_method_13_code 8 = .ok (.ireturn, 1) := by decide +kernel
theorem ef_12 (m : MethodId) (x0 : Int32) : entryFrame m #[(.int x0)] 1 = mkF m 0 #[.val (.int x0)] [] := by first | (simp [entryFrame, mkF, argsToLocals, Value.category]; done) | rfl
def Q12 (p1 : Int32) (h0 : Heap) (n0 : Nat) (Z : State) (v : Option Value) (h : Heap) (L : List Loc) : Prop := v = some (.int (own_fo p1)) ∧ Fr n0 L ∧ h = h0
set_option maxRecDepth 65536 in
set_option maxHeartbeats 40000000 in
theorem rm12 (l : Launch) (Z : State) (a0 : Array Value) (hw : ∀ d ∈ tables_1, d.before a0 Z = true) (ws : List Jvm.Cond) (p1 : Int32) (h0 : Heap) (n0 : Nat) (Z0 : n0 ≤ h0.size) :
    MetFree l (⟨"com/example/unutkan/unutkan/core/RecentEvictions", "fingerprintOf", "(I)I"⟩ : MethodName) (head1 (Jvm.Cond.code (⟨"com/example/unutkan/unutkan/core/RecentEvictions", "fingerprintOf", "(I)I"⟩ : MethodName) prog_23_method_13_code 1 (some .int) :: ws) ({ frames := 0, cells := 0, slots := 0, locals := 0 } : Room)) (fun a U => a = #[(.int p1)] ∧ Z.Warmed39 U.vm ∧ U.heap = h0) (fun _ _ _ _ _ => True) (fun _ U o U' => ∃ v L, o = .returned v ∧ Q12 p1 h0 n0 Z v U'.heap L ∧ FrameEnd U o U' L ({ frames := 0, cells := 0, slots := 0, locals := 0 } : Room).cells ({ frames := 0, cells := 0, slots := 0, locals := 0 } : Room).slots) := by
  refine MetFree.of_bodySF (plainFor_of_name pn_0) hisR ?_
  intro p e s m args below meth c s₁ Bd hml0 hP hK
  obtain ⟨rfl, hZ, hh⟩ := hP
  have hx := Bd.exec
  have hby := Bd.bytes
  have hml : c.maxLocals = 1 := hml0
  have hown : s.vm.findClass "com/example/unutkan/unutkan/core/RecentEvictions" = some m.cls := findClass_of_methodNamed Bd.named
  have hnm := (name_of_methodNamed Bd.named Bd.method).1
  have hlk := Bd.notSynchronized
  have hrt := Bd.returns
  have X0 : Stand p l e ({ frames := 0, cells := 0, slots := 0, locals := 0 } : Room) s m #[(.int p1)] below meth c s₁ [] 0 0 := Stand.of_body Bd
  have e0 : s₁.heap = h0 := by rw [← hh, Bd.state]; rfl
  have N0 := Fr.nil n0
  show own_Ends p e below s (Q12 p1 h0 n0 Z) ({ frames := 0, cells := 0, slots := 0, locals := 0 } : Room).cells ({ frames := 0, cells := 0, slots := 0, locals := 0 } : Room).slots (s₁.setTop (entryFrame m #[(.int p1)] 1))
  rw [ef_12]
  refine own_go (fun _ k => XS.iloadN X0.here hx rfl (hb hby d12_0) rfl <| XT.bipushV X0.here hx rfl (16 : Int32) (hb hby d12_1) rfl <| XS.iushr X0.here hx rfl (hb hby d12_3) rfl <| XT.sipushV X0.here hx rfl (32767 : Int32) (hb hby d12_4) rfl <| XS.iand X0.here hx rfl (hb hby d12_7) rfl <| k) ?_
  show own_Ends p e below s _ _ _ (s₁.setTop (mkF m 8 #[.val (.int p1)] [(.int (((p1.toUInt32 >>> ((16 : Int32) &&& 31).toUInt32).toInt32) &&& (32767 : Int32)))]))
  exact own_ret X0 hx hrt rfl (Or.inl ⟨rfl, Or.inl rfl, _, rfl⟩) (hb hby d12_8) hlk (by rw [e0]; exact ⟨rfl, N0, rfl⟩) (by decide) (by decide)
theorem d7_0 : decode prog_23_method_8_code 0 = .ok (.lload_n 1, 1) := by decide +kernel
theorem d7_1 : decode prog_23_method_8_code 1 = .ok (.aload_n 0, 1) := by decide +kernel
theorem d7_2 : decode prog_23_method_8_code 2 = .ok (.getfield 17, 3) := by decide +kernel
theorem d7_5 : decode prog_23_method_8_code 5 = .ok (.ldiv, 1) := by decide +kernel
theorem d7_6 : decode prog_23_method_8_code 6 = .ok (.l2i, 1) := by decide +kernel
theorem d7_7 : decode prog_23_method_8_code 7 = .ok (.ldc 70, 2) := by decide +kernel
theorem d7_9 : decode prog_23_method_8_code 9 = .ok (.iand, 1) := by decide +kernel
theorem d7_10 : decode prog_23_method_8_code 10 = .ok (.ireturn, 1) := by decide +kernel
theorem ef_7 (m : MethodId) (x0 : Addr) (x1 : Int64) : entryFrame m #[(.ref x0), (.long x1)] 3 = mkF m 0 #[.val (.ref x0), .val (.long x1), .second] [] := by first | (simp [entryFrame, mkF, argsToLocals, Value.category]; done) | rfl
def Q7 (a1 : Addr) (q2 : Int64) (u : Int64) (h0 : Heap) (n0 : Nat) (Z : State) (v : Option Value) (h : Heap) (L : List Loc) : Prop := v = some (.int (own_sta q2 u)) ∧ Fr n0 L ∧ h = h0
set_option maxRecDepth 65536 in
set_option maxHeartbeats 40000000 in
theorem rm7 (l : Launch) (Z : State) (a0 : Array Value) (hw : ∀ d ∈ tables_1, d.before a0 Z = true) (ws : List Jvm.Cond) (a1 : Addr) (q2 : Int64) (u : Int64) (h0 : Heap) (n0 : Nat) (Z0 : n0 ≤ h0.size) (F1 : Fld Z h0 a1 "com/example/unutkan/unutkan/core/RecentEvictions" "unit" "J" (.long u)) (hu : ¬ u = 0) :
    MetFree l (⟨"com/example/unutkan/unutkan/core/RecentEvictions", "stamp", "(J)I"⟩ : MethodName) (head1 (Jvm.Cond.code (⟨"com/example/unutkan/unutkan/core/RecentEvictions", "stamp", "(J)I"⟩ : MethodName) prog_23_method_8_code 3 (some .int) :: ws) ({ frames := 0, cells := 0, slots := 0, locals := 0 } : Room)) (fun a U => a = #[(.ref a1), (.long q2)] ∧ Z.Warmed39 U.vm ∧ U.heap = h0) (fun _ _ _ _ _ => True) (fun _ U o U' => ∃ v L, o = .returned v ∧ Q7 a1 q2 u h0 n0 Z v U'.heap L ∧ FrameEnd U o U' L ({ frames := 0, cells := 0, slots := 0, locals := 0 } : Room).cells ({ frames := 0, cells := 0, slots := 0, locals := 0 } : Room).slots) := by
  refine MetFree.of_bodySF (plainFor_of_name pn_0) hisR ?_
  intro p e s m args below meth c s₁ Bd hml0 hP hK
  obtain ⟨rfl, hZ, hh⟩ := hP
  have hx := Bd.exec
  have hby := Bd.bytes
  have hml : c.maxLocals = 3 := hml0
  have hown : s.vm.findClass "com/example/unutkan/unutkan/core/RecentEvictions" = some m.cls := findClass_of_methodNamed Bd.named
  have hnm := (name_of_methodNamed Bd.named Bd.method).1
  have hlk := Bd.notSynchronized
  have hrt := Bd.returns
  have X0 : Stand p l e ({ frames := 0, cells := 0, slots := 0, locals := 0 } : Room) s m #[(.ref a1), (.long q2)] below meth c s₁ [] 0 0 := Stand.of_body Bd
  have e0 : s₁.heap = h0 := by rw [← hh, Bd.state]; rfl
  have N0 := Fr.nil n0
  show own_Ends p e below s (Q7 a1 q2 u h0 n0 Z) ({ frames := 0, cells := 0, slots := 0, locals := 0 } : Room).cells ({ frames := 0, cells := 0, slots := 0, locals := 0 } : Room).slots (s₁.setTop (entryFrame m #[(.ref a1), (.long q2)] 3))
  rw [ef_7]
  refine own_go (fun _ k => XS.lloadN X0.here hx rfl (hb hby d7_0) rfl <| XS.aloadN X0.here hx rfl (hb hby d7_1) rfl rfl <| k) ?_
  show own_Ends p e below s _ _ _ (s₁.setTop (mkF m 2 #[.val (.ref a1), .val (.long q2), .second] [(.ref a1), (.long q2)]))
  obtain ⟨T1, X1, e1, st1⟩ := getF X0 hx hZ hown (host := "") (Or.inl (hw _ (List.mem_of_getElem? (i := 15) rfl))) Via.refl e0 F1 (g := (mkF m 2 #[.val (.ref a1), .val (.long q2), .second] [(.ref a1), (.long q2)])) rfl rfl (hb hby d7_2)
  refine own_go st1 ?_
  show own_Ends p e below s _ _ _ (T1.setTop (mkF m 5 #[.val (.ref a1), .val (.long q2), .second] [(.long u), (.long q2)]))
  refine own_go (fun _ k => XS.ldiv X1.here hx rfl (hb hby d7_5) rfl hu <| XS.l2i X1.here hx rfl (hb hby d7_6) rfl <| X1.ldcI hx hown (mvT hZ (hw _ (List.mem_of_getElem? (i := 42) rfl))) rfl (hb hby d7_7) <| XS.iand X1.here hx rfl (hb hby d7_9) rfl <| k) ?_
  show own_Ends p e below s _ _ _ (T1.setTop (mkF m 10 #[.val (.ref a1), .val (.long q2), .second] [(.int (((q2 / u).toInt32) &&& (65535 : Int32)))]))
  exact own_ret X1 hx hrt rfl (Or.inl ⟨rfl, Or.inl rfl, _, rfl⟩) (hb hby d7_10) hlk (by rw [e1]; exact ⟨rfl, N0, rfl⟩) (by decide) (by decide)
theorem d8_0 : decode prog_23_method_10_code 0 = .ok (.lload_n 1, 1) := by decide +kernel
theorem d8_1 : decode prog_23_method_10_code 1 = .ok (.l2i, 1) := by decide +kernel
theorem d8_2 : decode prog_23_method_10_code 2 = .ok (.aload_n 0, 1) := by decide +kernel
theorem d8_3 : decode prog_23_method_10_code 3 = .ok (.getfield 24, 3) := by decide +kernel
theorem d8_6 : decode prog_23_method_10_code 6 = .ok (.arraylength, 1) := by decide +kernel
theorem d8_7 : decode prog_23_method_10_code 7 = .ok (.iconst 1, 1) := by decide +kernel
theorem d8_8 : decode prog_23_method_10_code 8 = .ok (.isub, 1) := by decide +kernel
theorem d8_9 : decode prog_23_method_10_code 9 = .ok (.iand, 1) := by decide +kernel
theorem d8_10 : decode prog_23_method_10_code 10 = .ok (.ireturn, 1) := by decide +kernel
theorem ef_8 (m : MethodId) (x0 : Addr) (x1 : Int64) : entryFrame m #[(.ref x0), (.long x1)] 3 = mkF m 0 #[.val (.ref x0), .val (.long x1), .second] [] := by first | (simp [entryFrame, mkF, argsToLocals, Value.category]; done) | rfl
def Q8 (a1 : Addr) (q2 : Int64) (x3 : Addr) (k3 : ClassId) (z3 : Int32) (hs : List (Int32 × Value)) (h0 : Heap) (n0 : Nat) (Z : State) (v : Option Value) (h : Heap) (L : List Loc) : Prop := v = some (.int (own_i1 q2 z3)) ∧ Fr n0 L ∧ h = h0
set_option maxRecDepth 65536 in
set_option maxHeartbeats 40000000 in
theorem rm8 (l : Launch) (Z : State) (a0 : Array Value) (hw : ∀ d ∈ tables_1, d.before a0 Z = true) (ws : List Jvm.Cond) (a1 : Addr) (q2 : Int64) (x3 : Addr) (k3 : ClassId) (z3 : Int32) (hs : List (Int32 × Value)) (h0 : Heap) (n0 : Nat) (Z0 : n0 ≤ h0.size) (F3 : Fld Z h0 a1 "com/example/unutkan/unutkan/core/RecentEvictions" "slots" "[I" (.ref x3)) (H3 : Arh Z h0 x3 k3 .int z3 hs [] (.int (0 : Int32))) :
    MetFree l (⟨"com/example/unutkan/unutkan/core/RecentEvictions", "first", "(J)I"⟩ : MethodName) (head1 (Jvm.Cond.code (⟨"com/example/unutkan/unutkan/core/RecentEvictions", "first", "(J)I"⟩ : MethodName) prog_23_method_10_code 3 (some .int) :: ws) ({ frames := 0, cells := 0, slots := 0, locals := 0 } : Room)) (fun a U => a = #[(.ref a1), (.long q2)] ∧ Z.Warmed39 U.vm ∧ U.heap = h0) (fun _ _ _ _ _ => True) (fun _ U o U' => ∃ v L, o = .returned v ∧ Q8 a1 q2 x3 k3 z3 hs h0 n0 Z v U'.heap L ∧ FrameEnd U o U' L ({ frames := 0, cells := 0, slots := 0, locals := 0 } : Room).cells ({ frames := 0, cells := 0, slots := 0, locals := 0 } : Room).slots) := by
  refine MetFree.of_bodySF (plainFor_of_name pn_0) hisR ?_
  intro p e s m args below meth c s₁ Bd hml0 hP hK
  obtain ⟨rfl, hZ, hh⟩ := hP
  have hx := Bd.exec
  have hby := Bd.bytes
  have hml : c.maxLocals = 3 := hml0
  have hown : s.vm.findClass "com/example/unutkan/unutkan/core/RecentEvictions" = some m.cls := findClass_of_methodNamed Bd.named
  have hnm := (name_of_methodNamed Bd.named Bd.method).1
  have hlk := Bd.notSynchronized
  have hrt := Bd.returns
  have X0 : Stand p l e ({ frames := 0, cells := 0, slots := 0, locals := 0 } : Room) s m #[(.ref a1), (.long q2)] below meth c s₁ [] 0 0 := Stand.of_body Bd
  have e0 : s₁.heap = h0 := by rw [← hh, Bd.state]; rfl
  have N0 := Fr.nil n0
  show own_Ends p e below s (Q8 a1 q2 x3 k3 z3 hs h0 n0 Z) ({ frames := 0, cells := 0, slots := 0, locals := 0 } : Room).cells ({ frames := 0, cells := 0, slots := 0, locals := 0 } : Room).slots (s₁.setTop (entryFrame m #[(.ref a1), (.long q2)] 3))
  rw [ef_8]
  refine own_go (fun _ k => XS.lloadN X0.here hx rfl (hb hby d8_0) rfl <| XS.l2i X0.here hx rfl (hb hby d8_1) rfl <| XS.aloadN X0.here hx rfl (hb hby d8_2) rfl rfl <| k) ?_
  show own_Ends p e below s _ _ _ (s₁.setTop (mkF m 3 #[.val (.ref a1), .val (.long q2), .second] [(.ref a1), (.int (q2.toInt32))]))
  obtain ⟨T1, X1, e1, st1⟩ := getF X0 hx hZ hown (host := "") (Or.inl (hw _ (List.mem_of_getElem? (i := 20) rfl))) Via.refl e0 F3 (g := (mkF m 3 #[.val (.ref a1), .val (.long q2), .second] [(.ref a1), (.int (q2.toInt32))])) rfl rfl (hb hby d8_3)
  refine own_go st1 ?_
  show own_Ends p e below s _ _ _ (T1.setTop (mkF m 6 #[.val (.ref a1), .val (.long q2), .second] [(.ref x3), (.int (q2.toInt32))]))
  obtain ⟨clx3_6_2, Arx3_6_2, qqx3_6_2, Szx3_6_2, Ngx3_6_2, Hsx3_6_2, Gfx3_6_2⟩ := id H3
  refine own_go (fun _ k => X1.arraylength hx (by first | exact Arx3_6_2.1 | (rw [e1]; exact Arx3_6_2.1)) (State.isArrayOf_alike hZ.alike Arx3_6_2.2.1) (g := (mkF m 6 #[.val (.ref a1), .val (.long q2), .second] [(.ref x3), (.int (q2.toInt32))])) rfl rfl (hb hby d8_6) _ k) ?_
  rw [len_of Szx3_6_2 Ngx3_6_2]
  show own_Ends p e below s _ _ _ (T1.setTop (mkF m 7 #[.val (.ref a1), .val (.long q2), .second] [(.int z3), (.int (q2.toInt32))]))
  refine own_go (fun _ k => XT.iconstV X1.here hx rfl (1 : Int32) (hb hby d8_7) rfl <| XS.isub X1.here hx rfl (hb hby d8_8) rfl <| XS.iand X1.here hx rfl (hb hby d8_9) rfl <| k) ?_
  show own_Ends p e below s _ _ _ (T1.setTop (mkF m 10 #[.val (.ref a1), .val (.long q2), .second] [(.int ((q2.toInt32) &&& (z3 - (1 : Int32))))]))
  exact own_ret X1 hx hrt rfl (Or.inl ⟨rfl, Or.inl rfl, _, rfl⟩) (hb hby d8_10) hlk (by rw [e1]; exact ⟨rfl, N0, rfl⟩) (by decide) (by decide)
theorem d9_0 : decode prog_23_method_11_code 0 = .ok (.lload_n 1, 1) := by decide +kernel
theorem d9_1 : decode prog_23_method_11_code 1 = .ok (.bipush 32, 2) := by decide +kernel
theorem d9_3 : decode prog_23_method_11_code 3 = .ok (.lushr, 1) := by decide +kernel
theorem d9_4 : decode prog_23_method_11_code 4 = .ok (.l2i, 1) := by decide +kernel
theorem d9_5 : decode prog_23_method_11_code 5 = .ok (.aload_n 0, 1) := by decide +kernel
theorem d9_6 : decode prog_23_method_11_code 6 = .ok (.getfield 24, 3) := by decide +kernel
theorem d9_9 : decode prog_23_method_11_code 9 = .ok (.arraylength, 1) := by decide +kernel
theorem d9_10 : decode prog_23_method_11_code 10 = .ok (.iconst 1, 1) := by decide +kernel
theorem d9_11 : decode prog_23_method_11_code 11 = .ok (.isub, 1) := by decide +kernel
theorem d9_12 : decode prog_23_method_11_code 12 = .ok (.iand, 1) := by decide +kernel
theorem d9_13 : decode prog_23_method_11_code 13 = .ok (.ireturn, 1) := by decide +kernel
theorem ef_9 (m : MethodId) (x0 : Addr) (x1 : Int64) : entryFrame m #[(.ref x0), (.long x1)] 3 = mkF m 0 #[.val (.ref x0), .val (.long x1), .second] [] := by first | (simp [entryFrame, mkF, argsToLocals, Value.category]; done) | rfl
def Q9 (a1 : Addr) (q2 : Int64) (x3 : Addr) (k3 : ClassId) (z3 : Int32) (hs : List (Int32 × Value)) (h0 : Heap) (n0 : Nat) (Z : State) (v : Option Value) (h : Heap) (L : List Loc) : Prop := v = some (.int (own_i2 q2 z3)) ∧ Fr n0 L ∧ h = h0
set_option maxRecDepth 65536 in
set_option maxHeartbeats 40000000 in
theorem rm9 (l : Launch) (Z : State) (a0 : Array Value) (hw : ∀ d ∈ tables_1, d.before a0 Z = true) (ws : List Jvm.Cond) (a1 : Addr) (q2 : Int64) (x3 : Addr) (k3 : ClassId) (z3 : Int32) (hs : List (Int32 × Value)) (h0 : Heap) (n0 : Nat) (Z0 : n0 ≤ h0.size) (F3 : Fld Z h0 a1 "com/example/unutkan/unutkan/core/RecentEvictions" "slots" "[I" (.ref x3)) (H3 : Arh Z h0 x3 k3 .int z3 hs [] (.int (0 : Int32))) :
    MetFree l (⟨"com/example/unutkan/unutkan/core/RecentEvictions", "second", "(J)I"⟩ : MethodName) (head1 (Jvm.Cond.code (⟨"com/example/unutkan/unutkan/core/RecentEvictions", "second", "(J)I"⟩ : MethodName) prog_23_method_11_code 3 (some .int) :: ws) ({ frames := 0, cells := 0, slots := 0, locals := 0 } : Room)) (fun a U => a = #[(.ref a1), (.long q2)] ∧ Z.Warmed39 U.vm ∧ U.heap = h0) (fun _ _ _ _ _ => True) (fun _ U o U' => ∃ v L, o = .returned v ∧ Q9 a1 q2 x3 k3 z3 hs h0 n0 Z v U'.heap L ∧ FrameEnd U o U' L ({ frames := 0, cells := 0, slots := 0, locals := 0 } : Room).cells ({ frames := 0, cells := 0, slots := 0, locals := 0 } : Room).slots) := by
  refine MetFree.of_bodySF (plainFor_of_name pn_0) hisR ?_
  intro p e s m args below meth c s₁ Bd hml0 hP hK
  obtain ⟨rfl, hZ, hh⟩ := hP
  have hx := Bd.exec
  have hby := Bd.bytes
  have hml : c.maxLocals = 3 := hml0
  have hown : s.vm.findClass "com/example/unutkan/unutkan/core/RecentEvictions" = some m.cls := findClass_of_methodNamed Bd.named
  have hnm := (name_of_methodNamed Bd.named Bd.method).1
  have hlk := Bd.notSynchronized
  have hrt := Bd.returns
  have X0 : Stand p l e ({ frames := 0, cells := 0, slots := 0, locals := 0 } : Room) s m #[(.ref a1), (.long q2)] below meth c s₁ [] 0 0 := Stand.of_body Bd
  have e0 : s₁.heap = h0 := by rw [← hh, Bd.state]; rfl
  have N0 := Fr.nil n0
  show own_Ends p e below s (Q9 a1 q2 x3 k3 z3 hs h0 n0 Z) ({ frames := 0, cells := 0, slots := 0, locals := 0 } : Room).cells ({ frames := 0, cells := 0, slots := 0, locals := 0 } : Room).slots (s₁.setTop (entryFrame m #[(.ref a1), (.long q2)] 3))
  rw [ef_9]
  refine own_go (fun _ k => XS.lloadN X0.here hx rfl (hb hby d9_0) rfl <| XT.bipushV X0.here hx rfl (32 : Int32) (hb hby d9_1) rfl <| XS.lushr X0.here hx rfl (hb hby d9_3) rfl <| XS.l2i X0.here hx rfl (hb hby d9_4) rfl <| XS.aloadN X0.here hx rfl (hb hby d9_5) rfl rfl <| k) ?_
  show own_Ends p e below s _ _ _ (s₁.setTop (mkF m 6 #[.val (.ref a1), .val (.long q2), .second] [(.ref a1), (.int (((q2.toUInt64 >>> ((32 : Int32) &&& 0x3f).toInt64.toUInt64).toInt64).toInt32))]))
  obtain ⟨T1, X1, e1, st1⟩ := getF X0 hx hZ hown (host := "") (Or.inl (hw _ (List.mem_of_getElem? (i := 20) rfl))) Via.refl e0 F3 (g := (mkF m 6 #[.val (.ref a1), .val (.long q2), .second] [(.ref a1), (.int (((q2.toUInt64 >>> ((32 : Int32) &&& 0x3f).toInt64.toUInt64).toInt64).toInt32))])) rfl rfl (hb hby d9_6)
  refine own_go st1 ?_
  show own_Ends p e below s _ _ _ (T1.setTop (mkF m 9 #[.val (.ref a1), .val (.long q2), .second] [(.ref x3), (.int (((q2.toUInt64 >>> ((32 : Int32) &&& 0x3f).toInt64.toUInt64).toInt64).toInt32))]))
  obtain ⟨clx3_9_2, Arx3_9_2, qqx3_9_2, Szx3_9_2, Ngx3_9_2, Hsx3_9_2, Gfx3_9_2⟩ := id H3
  refine own_go (fun _ k => X1.arraylength hx (by first | exact Arx3_9_2.1 | (rw [e1]; exact Arx3_9_2.1)) (State.isArrayOf_alike hZ.alike Arx3_9_2.2.1) (g := (mkF m 9 #[.val (.ref a1), .val (.long q2), .second] [(.ref x3), (.int (((q2.toUInt64 >>> ((32 : Int32) &&& 0x3f).toInt64.toUInt64).toInt64).toInt32))])) rfl rfl (hb hby d9_9) _ k) ?_
  rw [len_of Szx3_9_2 Ngx3_9_2]
  show own_Ends p e below s _ _ _ (T1.setTop (mkF m 10 #[.val (.ref a1), .val (.long q2), .second] [(.int z3), (.int (((q2.toUInt64 >>> ((32 : Int32) &&& 0x3f).toInt64.toUInt64).toInt64).toInt32))]))
  refine own_go (fun _ k => XT.iconstV X1.here hx rfl (1 : Int32) (hb hby d9_10) rfl <| XS.isub X1.here hx rfl (hb hby d9_11) rfl <| XS.iand X1.here hx rfl (hb hby d9_12) rfl <| k) ?_
  show own_Ends p e below s _ _ _ (T1.setTop (mkF m 13 #[.val (.ref a1), .val (.long q2), .second] [(.int ((((q2.toUInt64 >>> ((32 : Int32) &&& 0x3f).toInt64.toUInt64).toInt64).toInt32) &&& (z3 - (1 : Int32))))]))
  exact own_ret X1 hx hrt rfl (Or.inl ⟨rfl, Or.inl rfl, _, rfl⟩) (hb hby d9_13) hlk (by rw [e1]; exact ⟨rfl, N0, rfl⟩) (by decide) (by decide)
theorem d13_0 : decode prog_23_method_9_code 0 = .ok (.aload_n 0, 1) := by decide +kernel
theorem d13_1 : decode prog_23_method_9_code 1 = .ok (.lload_n 2, 1) := by decide +kernel
theorem d13_2 : decode prog_23_method_9_code 2 = .ok (.invokevirtual 37, 3) := by decide +kernel
theorem d13_5 : decode prog_23_method_9_code 5 = .ok (.iload_n 1, 1) := by decide +kernel
theorem d13_6 : decode prog_23_method_9_code 6 = .ok (.isub, 1) := by decide +kernel
theorem d13_7 : decode prog_23_method_9_code 7 = .ok (.ldc 70, 2) := by decide +kernel
theorem d13_9 : decode prog_23_method_9_code 9 = .ok (.iand, 1) := by decide +kernel
theorem d13_10 : decode prog_23_method_9_code 10 = .ok (.i2l, 1) := by decide +kernel
theorem d13_11 : decode prog_23_method_9_code 11 = .ok (.aload_n 0, 1) := by decide +kernel
theorem d13_12 : decode prog_23_method_9_code 12 = .ok (.getfield 17, 3) := by decide +kernel
theorem d13_15 : decode prog_23_method_9_code 15 = .ok (.lmul, 1) := by decide +kernel
theorem d13_16 : decode prog_23_method_9_code 16 = .ok (.lreturn, 1) := by decide +kernel
theorem ef_13 (m : MethodId) (x0 : Addr) (x1 : Int32) (x2 : Int64) : entryFrame m #[(.ref x0), (.int x1), (.long x2)] 4 = mkF m 0 #[.val (.ref x0), .val (.int x1), .val (.long x2), .second] [] := by first | (simp [entryFrame, mkF, argsToLocals, Value.category]; done) | rfl
def Q13 (a1 : Addr) (p2 : Int32) (q3 : Int64) (u : Int64) (h0 : Heap) (n0 : Nat) (Z : State) (v : Option Value) (h : Heap) (L : List Loc) : Prop := v = some (.long (own_age p2 q3 u)) ∧ Fr n0 L ∧ h = h0
set_option maxRecDepth 65536 in
set_option maxHeartbeats 40000000 in
theorem rm13 (l : Launch) (Z : State) (a0 : Array Value) (hw : ∀ d ∈ tables_1, d.before a0 Z = true) (ws : List Jvm.Cond) (a1 : Addr) (p2 : Int32) (q3 : Int64) (u : Int64) (h0 : Heap) (n0 : Nat) (Z0 : n0 ≤ h0.size) (E1 : Exa Z h0 a1 "com/example/unutkan/unutkan/core/RecentEvictions") (F1 : Fld Z h0 a1 "com/example/unutkan/unutkan/core/RecentEvictions" "unit" "J" (.long u)) (hu : ¬ u = 0) :
    MetFree l (⟨"com/example/unutkan/unutkan/core/RecentEvictions", "ageOf", "(IJ)J"⟩ : MethodName) (head1 (Jvm.Cond.code (⟨"com/example/unutkan/unutkan/core/RecentEvictions", "ageOf", "(IJ)J"⟩ : MethodName) prog_23_method_9_code 4 (some .long) :: ws) ({ frames := 1, cells := 0, slots := 0, locals := 30 } : Room)) (fun a U => a = #[(.ref a1), (.int p2), (.long q3)] ∧ Z.Warmed39 U.vm ∧ U.heap = h0) (fun _ _ _ _ _ => True) (fun _ U o U' => ∃ v L, o = .returned v ∧ Q13 a1 p2 q3 u h0 n0 Z v U'.heap L ∧ FrameEnd U o U' L ({ frames := 1, cells := 0, slots := 0, locals := 30 } : Room).cells ({ frames := 1, cells := 0, slots := 0, locals := 30 } : Room).slots) := by
  refine MetFree.of_bodySF (plainFor_of_name pn_0) hisR ?_
  intro p e s m args below meth c s₁ Bd hml0 hP hK
  obtain ⟨rfl, hZ, hh⟩ := hP
  have hx := Bd.exec
  have hby := Bd.bytes
  have hml : c.maxLocals = 4 := hml0
  have hown : s.vm.findClass "com/example/unutkan/unutkan/core/RecentEvictions" = some m.cls := findClass_of_methodNamed Bd.named
  have hnm := (name_of_methodNamed Bd.named Bd.method).1
  have hlk := Bd.notSynchronized
  have hrt := Bd.returns
  have X0 : Stand p l e ({ frames := 1, cells := 0, slots := 0, locals := 30 } : Room) s m #[(.ref a1), (.int p2), (.long q3)] below meth c s₁ [] 0 0 := Stand.of_body Bd
  have e0 : s₁.heap = h0 := by rw [← hh, Bd.state]; rfl
  have N0 := Fr.nil n0
  show own_Ends p e below s (Q13 a1 p2 q3 u h0 n0 Z) ({ frames := 1, cells := 0, slots := 0, locals := 30 } : Room).cells ({ frames := 1, cells := 0, slots := 0, locals := 30 } : Room).slots (s₁.setTop (entryFrame m #[(.ref a1), (.int p2), (.long q3)] 4))
  rw [ef_13]
  refine own_go (fun _ k => XS.aloadN X0.here hx rfl (hb hby d13_0) rfl rfl <| XS.lloadN X0.here hx rfl (hb hby d13_1) rfl <| k) ?_
  show own_Ends p e below s _ _ _ (s₁.setTop (mkF m 2 #[.val (.ref a1), .val (.int p2), .val (.long q3), .second] [(.long q3), (.ref a1)]))
  obtain ⟨cq1, uq1, uq1'⟩ := E1.cell
  obtain ⟨_, _, ⟨T1, L1, k1, n1⟩, -, X1, ⟨Lc1, hQ1, l1, y1, z1⟩, st1⟩ := X0.privateBack hx (y := (⟨"com/example/unutkan/unutkan/core/RecentEvictions", "stamp", "(J)I"⟩ : MethodName)) hown (mvT hZ (hw _ (List.mem_of_getElem? (i := 38) rfl))) (mvT hZ (hw _ (List.mem_of_getElem? (i := 39) rfl))) (own_selp (mvT hZ (hw _ (List.mem_of_getElem? (i := 2) rfl))) (mvP hZ (hw _ (List.mem_of_getElem? (i := 40) rfl))) (mvT hZ (hw _ (List.mem_of_getElem? (i := 39) rfl))) (by decide)) (Cond.privateMethod_at (mvP hZ (hw _ (List.mem_of_getElem? (i := 40) rfl)) (args := #[]))) (mvT hZ (hw _ (List.mem_of_getElem? (i := 41) rfl))) (by decide) (backOf (W := 0) (rm7 l Z a0 hw [] a1 q3 u h0 n0 Z0 F1 hu) hZ (hw _ (List.mem_of_getElem? (i := 41) rfl)) (hw _ (List.mem_of_getElem? (i := 3) rfl)) (by decide) (by decide)) (g := (mkF m 2 #[.val (.ref a1), .val (.int p2), .val (.long q3), .second] [(.long q3), (.ref a1)])) rfl (by rw [hml]; rfl) (Steps.refl _) (a := a1) (by rw [e0]; exact uq1) uq1' (argsL := [(.long q3)]) (rest := []) (lenOf pd_5 rfl) rfl (by show 2 * 0 + _ ≤ _; exact Nat.le_of_eq rfl) (hb hby d13_2) (fun _ _ => ⟨rfl, e0, Nat.le_of_ble_eq_true rfl, Nat.le_of_ble_eq_true rfl⟩)
  dsimp only [Pt.U, Pt.locs, Pt.cells, Pt.slots] at X1 l1 y1 z1 st1 hQ1
  subst l1 y1 z1
  obtain ⟨rfl, N1q, e1⟩ := hQ1
  have N1 := Fr.app N0 N1q
  refine own_go (fun _ k => st1.trans k) ?_
  show own_Ends p e below s _ _ _ (T1.setTop (mkF m 5 #[.val (.ref a1), .val (.int p2), .val (.long q3), .second] [(.int (own_sta q3 u))]))
  refine own_go (fun _ k => XS.iloadN X1.here hx rfl (hb hby d13_5) rfl <| XS.isub X1.here hx rfl (hb hby d13_6) rfl <| X1.ldcI hx hown (mvT hZ (hw _ (List.mem_of_getElem? (i := 42) rfl))) rfl (hb hby d13_7) <| XS.iand X1.here hx rfl (hb hby d13_9) rfl <| XS.i2l X1.here hx rfl (hb hby d13_10) rfl <| XS.aloadN X1.here hx rfl (hb hby d13_11) rfl rfl <| k) ?_
  show own_Ends p e below s _ _ _ (T1.setTop (mkF m 12 #[.val (.ref a1), .val (.int p2), .val (.long q3), .second] [(.ref a1), (.long ((((own_sta q3 u) - p2) &&& (65535 : Int32)).toInt64))]))
  obtain ⟨T2, X2, e2, st2⟩ := getF X1 hx hZ hown (host := "") (Or.inl (hw _ (List.mem_of_getElem? (i := 15) rfl))) Via.refl e1 F1 (g := (mkF m 12 #[.val (.ref a1), .val (.int p2), .val (.long q3), .second] [(.ref a1), (.long ((((own_sta q3 u) - p2) &&& (65535 : Int32)).toInt64))])) rfl rfl (hb hby d13_12)
  refine own_go st2 ?_
  show own_Ends p e below s _ _ _ (T2.setTop (mkF m 15 #[.val (.ref a1), .val (.int p2), .val (.long q3), .second] [(.long u), (.long ((((own_sta q3 u) - p2) &&& (65535 : Int32)).toInt64))]))
  refine own_go (fun _ k => XS.lmul X2.here hx rfl (hb hby d13_15) rfl <| k) ?_
  show own_Ends p e below s _ _ _ (T2.setTop (mkF m 16 #[.val (.ref a1), .val (.int p2), .val (.long q3), .second] [(.long (((((own_sta q3 u) - p2) &&& (65535 : Int32)).toInt64) * u))]))
  exact own_ret X2 hx hrt rfl (Or.inr (Or.inl ⟨rfl, rfl, _, rfl⟩)) (hb hby d13_16) hlk (by rw [e2]; exact ⟨rfl, N1, rfl⟩) (by decide) (by decide)
theorem d5_0 : decode prog_23_method_3_code 0 = .ok (.lload_n 1, 1) := by decide +kernel
theorem d5_1 : decode prog_23_method_3_code 1 = .ok (.invokestatic 32, 3) := by decide +kernel
theorem d5_4 : decode prog_23_method_3_code 4 = .ok (.istore 6, 2) := by decide +kernel
theorem d5_6 : decode prog_23_method_3_code 6 = .ok (.iload_n 3, 1) := by decide +kernel
theorem d5_7 : decode prog_23_method_3_code 7 = .ok (.ifCond .eq 8, 3) := by decide +kernel
theorem d5_10 : decode prog_23_method_3_code 10 = .ok (.ldc 36, 2) := by decide +kernel
theorem d5_12 : decode prog_23_method_3_code 12 = .ok (.goto 4, 3) := by decide +kernel
theorem d5_15 : decode prog_23_method_3_code 15 = .ok (.iconst 0, 1) := by decide +kernel
theorem d5_16 : decode prog_23_method_3_code 16 = .ok (.iload 6, 2) := by decide +kernel
theorem d5_18 : decode prog_23_method_3_code 18 = .ok (.bipush 16, 2) := by decide +kernel
theorem d5_20 : decode prog_23_method_3_code 20 = .ok (.ishl, 1) := by decide +kernel
theorem d5_21 : decode prog_23_method_3_code 21 = .ok (.ior, 1) := by decide +kernel
theorem d5_22 : decode prog_23_method_3_code 22 = .ok (.aload_n 0, 1) := by decide +kernel
theorem d5_23 : decode prog_23_method_3_code 23 = .ok (.lload 4, 2) := by decide +kernel
theorem d5_25 : decode prog_23_method_3_code 25 = .ok (.invokevirtual 37, 3) := by decide +kernel
theorem d5_28 : decode prog_23_method_3_code 28 = .ok (.ior, 1) := by decide +kernel
theorem d5_29 : decode prog_23_method_3_code 29 = .ok (.istore 7, 2) := by decide +kernel
theorem d5_31 : decode prog_23_method_3_code 31 = .ok (.aload_n 0, 1) := by decide +kernel
theorem d5_32 : decode prog_23_method_3_code 32 = .ok (.lload_n 1, 1) := by decide +kernel
theorem d5_33 : decode prog_23_method_3_code 33 = .ok (.invokevirtual 40, 3) := by decide +kernel
theorem d5_36 : decode prog_23_method_3_code 36 = .ok (.istore 8, 2) := by decide +kernel
theorem d5_38 : decode prog_23_method_3_code 38 = .ok (.aload_n 0, 1) := by decide +kernel
theorem d5_39 : decode prog_23_method_3_code 39 = .ok (.lload_n 1, 1) := by decide +kernel
theorem d5_40 : decode prog_23_method_3_code 40 = .ok (.invokevirtual 43, 3) := by decide +kernel
theorem d5_43 : decode prog_23_method_3_code 43 = .ok (.istore 9, 2) := by decide +kernel
theorem d5_45 : decode prog_23_method_3_code 45 = .ok (.aload_n 0, 1) := by decide +kernel
theorem d5_46 : decode prog_23_method_3_code 46 = .ok (.getfield 24, 3) := by decide +kernel
theorem d5_49 : decode prog_23_method_3_code 49 = .ok (.iload 8, 2) := by decide +kernel
theorem d5_51 : decode prog_23_method_3_code 51 = .ok (.iaload, 1) := by decide +kernel
theorem d5_52 : decode prog_23_method_3_code 52 = .ok (.ifCond .eq 18, 3) := by decide +kernel
theorem d5_55 : decode prog_23_method_3_code 55 = .ok (.aload_n 0, 1) := by decide +kernel
theorem d5_56 : decode prog_23_method_3_code 56 = .ok (.getfield 24, 3) := by decide +kernel
theorem d5_59 : decode prog_23_method_3_code 59 = .ok (.iload 8, 2) := by decide +kernel
theorem d5_61 : decode prog_23_method_3_code 61 = .ok (.iaload, 1) := by decide +kernel
theorem d5_62 : decode prog_23_method_3_code 62 = .ok (.invokestatic 46, 3) := by decide +kernel
theorem d5_65 : decode prog_23_method_3_code 65 = .ok (.iload 6, 2) := by decide +kernel
theorem d5_67 : decode prog_23_method_3_code 67 = .ok (.if_icmp .ne 15, 3) := by decide +kernel
theorem d5_70 : decode prog_23_method_3_code 70 = .ok (.aload_n 0, 1) := by decide +kernel
theorem d5_71 : decode prog_23_method_3_code 71 = .ok (.getfield 24, 3) := by decide +kernel
theorem d5_74 : decode prog_23_method_3_code 74 = .ok (.iload 8, 2) := by decide +kernel
theorem d5_76 : decode prog_23_method_3_code 76 = .ok (.iload 7, 2) := by decide +kernel
theorem d5_78 : decode prog_23_method_3_code 78 = .ok (.iastore, 1) := by decide +kernel
theorem d5_79 : decode prog_23_method_3_code 79 = .ok (.goto 91, 3) := by decide +kernel
theorem d5_82 : decode prog_23_method_3_code 82 = .ok (.aload_n 0, 1) := by decide +kernel
theorem d5_83 : decode prog_23_method_3_code 83 = .ok (.getfield 24, 3) := by decide +kernel
theorem d5_86 : decode prog_23_method_3_code 86 = .ok (.iload 9, 2) := by decide +kernel
theorem d5_88 : decode prog_23_method_3_code 88 = .ok (.iaload, 1) := by decide +kernel
theorem d5_89 : decode prog_23_method_3_code 89 = .ok (.ifCond .eq 18, 3) := by decide +kernel
theorem d5_92 : decode prog_23_method_3_code 92 = .ok (.aload_n 0, 1) := by decide +kernel
theorem d5_93 : decode prog_23_method_3_code 93 = .ok (.getfield 24, 3) := by decide +kernel
theorem d5_96 : decode prog_23_method_3_code 96 = .ok (.iload 9, 2) := by decide +kernel
theorem d5_98 : decode prog_23_method_3_code 98 = .ok (.iaload, 1) := by decide +kernel
theorem d5_99 : decode prog_23_method_3_code 99 = .ok (.invokestatic 46, 3) := by decide +kernel
theorem d5_102 : decode prog_23_method_3_code 102 = .ok (.iload 6, 2) := by decide +kernel
theorem d5_104 : decode prog_23_method_3_code 104 = .ok (.if_icmp .ne 15, 3) := by decide +kernel
theorem d5_107 : decode prog_23_method_3_code 107 = .ok (.aload_n 0, 1) := by decide +kernel
theorem d5_108 : decode prog_23_method_3_code 108 = .ok (.getfield 24, 3) := by decide +kernel
theorem d5_111 : decode prog_23_method_3_code 111 = .ok (.iload 9, 2) := by decide +kernel
theorem d5_113 : decode prog_23_method_3_code 113 = .ok (.iload 7, 2) := by decide +kernel
theorem d5_115 : decode prog_23_method_3_code 115 = .ok (.iastore, 1) := by decide +kernel
theorem d5_116 : decode prog_23_method_3_code 116 = .ok (.goto 54, 3) := by decide +kernel
theorem d5_119 : decode prog_23_method_3_code 119 = .ok (.aload_n 0, 1) := by decide +kernel
theorem d5_120 : decode prog_23_method_3_code 120 = .ok (.aload_n 0, 1) := by decide +kernel
theorem d5_121 : decode prog_23_method_3_code 121 = .ok (.getfield 24, 3) := by decide +kernel
theorem d5_124 : decode prog_23_method_3_code 124 = .ok (.iload 8, 2) := by decide +kernel
theorem d5_126 : decode prog_23_method_3_code 126 = .ok (.iaload, 1) := by decide +kernel
theorem d5_127 : decode prog_23_method_3_code 127 = .ok (.lload 4, 2) := by decide +kernel
theorem d5_129 : decode prog_23_method_3_code 129 = .ok (.invokevirtual 50, 3) := by decide +kernel
theorem d5_132 : decode prog_23_method_3_code 132 = .ok (.aload_n 0, 1) := by decide +kernel
theorem d5_133 : decode prog_23_method_3_code 133 = .ok (.aload_n 0, 1) := by decide +kernel
theorem d5_134 : decode prog_23_method_3_code 134 = .ok (.getfield 24, 3) := by decide +kernel
theorem d5_137 : decode prog_23_method_3_code 137 = .ok (.iload 9, 2) := by decide +kernel
theorem d5_139 : decode prog_23_method_3_code 139 = .ok (.iaload, 1) := by decide +kernel
theorem d5_140 : decode prog_23_method_3_code 140 = .ok (.lload 4, 2) := by decide +kernel
theorem d5_142 : decode prog_23_method_3_code 142 = .ok (.invokevirtual 50, 3) := by decide +kernel
theorem d5_145 : decode prog_23_method_3_code 145 = .ok (.lcmp, 1) := by decide +kernel
theorem d5_146 : decode prog_23_method_3_code 146 = .ok (.ifCond .lt 15, 3) := by decide +kernel
theorem d5_149 : decode prog_23_method_3_code 149 = .ok (.aload_n 0, 1) := by decide +kernel
theorem d5_150 : decode prog_23_method_3_code 150 = .ok (.getfield 24, 3) := by decide +kernel
theorem d5_153 : decode prog_23_method_3_code 153 = .ok (.iload 8, 2) := by decide +kernel
theorem d5_155 : decode prog_23_method_3_code 155 = .ok (.iload 7, 2) := by decide +kernel
theorem d5_157 : decode prog_23_method_3_code 157 = .ok (.iastore, 1) := by decide +kernel
theorem d5_158 : decode prog_23_method_3_code 158 = .ok (.goto 12, 3) := by decide +kernel
theorem d5_161 : decode prog_23_method_3_code 161 = .ok (.aload_n 0, 1) := by decide +kernel
theorem d5_162 : decode prog_23_method_3_code 162 = .ok (.getfield 24, 3) := by decide +kernel
theorem d5_165 : decode prog_23_method_3_code 165 = .ok (.iload 9, 2) := by decide +kernel
theorem d5_167 : decode prog_23_method_3_code 167 = .ok (.iload 7, 2) := by decide +kernel
theorem d5_169 : decode prog_23_method_3_code 169 = .ok (.iastore, 1) := by decide +kernel
theorem d5_170 : decode prog_23_method_3_code 170 = .ok (.return_, 1) := by decide +kernel
theorem ef_5 (m : MethodId) (x0 : Addr) (x1 : Int64) (x2 : Int32) (x3 : Int64) : entryFrame m #[(.ref x0), (.long x1), (.int x2), (.long x3)] 10 = mkF m 0 #[.val (.ref x0), .val (.long x1), .second, .val (.int x2), .val (.long x3), .second, .unset, .unset, .unset, .unset] [] := by first | (simp [entryFrame, mkF, argsToLocals, Value.category]; done) | rfl
def Q5 (a1 : Addr) (q2 : Int64) (p3 : Int32) (q4 : Int64) (x3 : Addr) (k3 : ClassId) (z3 : Int32) (hs : List (Int32 × Value)) (u : Int64) (h0 : Heap) (n0 : Nat) (Z : State) (v : Option Value) (h : Heap) (L : List Loc) : Prop := v = none ∧ Fr n0 L ∧ Keep h0 h [x3] ∧ Arh Z h x3 k3 .int z3 (((own_i1 q2 z3), (.int (own_rec p3 (own_fp q2) (own_sta q4 u)))) :: hs) [] (.int (0 : Int32))
set_option maxRecDepth 65536 in
set_option maxHeartbeats 40000000 in
theorem rm5 (l : Launch) (Z : State) (a0 : Array Value) (hw : ∀ d ∈ tables_1, d.before a0 Z = true) (ws : List Jvm.Cond) (a1 : Addr) (q2 : Int64) (p3 : Int32) (q4 : Int64) (x3 : Addr) (k3 : ClassId) (z3 : Int32) (hs : List (Int32 × Value)) (u : Int64) (h0 : Heap) (n0 : Nat) (Z0 : n0 ≤ h0.size) (E1 : Exa Z h0 a1 "com/example/unutkan/unutkan/core/RecentEvictions") (F1 : Fld Z h0 a1 "com/example/unutkan/unutkan/core/RecentEvictions" "unit" "J" (.long u)) (F3 : Fld Z h0 a1 "com/example/unutkan/unutkan/core/RecentEvictions" "slots" "[I" (.ref x3)) (H3 : Arh Z h0 x3 k3 .int z3 hs [] (.int (0 : Int32))) (g3 : n0 ≤ x3) (hne : a1 ≠ x3) (hu : ¬ u = 0) (hz : 0 < z3) (h1 : getH hs [] (.int (0 : Int32)) (own_i1 q2 z3).toNatClampNeg = .int 0) :
    MetFree l (⟨"com/example/unutkan/unutkan/core/RecentEvictions", "record", "(JZJ)V"⟩ : MethodName) (head1 (Jvm.Cond.code (⟨"com/example/unutkan/unutkan/core/RecentEvictions", "record", "(JZJ)V"⟩ : MethodName) prog_23_method_3_code 10 none :: ws) ({ frames := 2, cells := 0, slots := 0, locals := 60 } : Room)) (fun a U => a = #[(.ref a1), (.long q2), (.int p3), (.long q4)] ∧ Z.Warmed39 U.vm ∧ U.heap = h0) (fun _ _ _ _ _ => True) (fun _ U o U' => ∃ v L, o = .returned v ∧ Q5 a1 q2 p3 q4 x3 k3 z3 hs u h0 n0 Z v U'.heap L ∧ FrameEnd U o U' L ({ frames := 2, cells := 0, slots := 0, locals := 60 } : Room).cells ({ frames := 2, cells := 0, slots := 0, locals := 60 } : Room).slots) := by
  refine MetFree.of_bodySF (plainFor_of_name pn_0) hisR ?_
  intro p e s m args below meth c s₁ Bd hml0 hP hK
  obtain ⟨rfl, hZ, hh⟩ := hP
  have hx := Bd.exec
  have hby := Bd.bytes
  have hml : c.maxLocals = 10 := hml0
  have hown : s.vm.findClass "com/example/unutkan/unutkan/core/RecentEvictions" = some m.cls := findClass_of_methodNamed Bd.named
  have hnm := (name_of_methodNamed Bd.named Bd.method).1
  have hlk := Bd.notSynchronized
  have hrt := Bd.returns
  have X0 : Stand p l e ({ frames := 2, cells := 0, slots := 0, locals := 60 } : Room) s m #[(.ref a1), (.long q2), (.int p3), (.long q4)] below meth c s₁ [] 0 0 := Stand.of_body Bd
  have e0 : s₁.heap = h0 := by rw [← hh, Bd.state]; rfl
  have N0 := Fr.nil n0
  show own_Ends p e below s (Q5 a1 q2 p3 q4 x3 k3 z3 hs u h0 n0 Z) ({ frames := 2, cells := 0, slots := 0, locals := 60 } : Room).cells ({ frames := 2, cells := 0, slots := 0, locals := 60 } : Room).slots (s₁.setTop (entryFrame m #[(.ref a1), (.long q2), (.int p3), (.long q4)] 10))
  rw [ef_5]
  have K0 : Keep h0 h0 [x3] := Keep.refl h0 [x3]
  refine own_go (fun _ k => XS.lloadN X0.here hx rfl (hb hby d5_0) rfl <| k) ?_
  show own_Ends p e below s _ _ _ (s₁.setTop (mkF m 1 #[.val (.ref a1), .val (.long q2), .second, .val (.int p3), .val (.long q4), .second, .unset, .unset, .unset, .unset] [(.long q2)]))
  obtain ⟨_, _, ⟨T1, L1, k1, n1⟩, -, X1, ⟨Lc1, hQ1, l1, y1, z1⟩, st1⟩ := Jvm.LawKit.callS X0 hx (y := (⟨"com/example/unutkan/unutkan/core/RecentEvictions", "fingerprint", "(J)I"⟩ : MethodName)) hown (mvT hZ (hw _ (List.mem_of_getElem? (i := 34) rfl))) (mvT hZ (hw _ (List.mem_of_getElem? (i := 35) rfl))) (mvT hZ (hw _ (List.mem_of_getElem? (i := 3) rfl))) (mvT hZ (hw _ (List.mem_of_getElem? (i := 36) rfl))) (by decide) (backOf (W := 0) (rm6 l Z a0 hw [] q2 h0 n0 Z0) hZ (hw _ (List.mem_of_getElem? (i := 36) rfl)) (hw _ (List.mem_of_getElem? (i := 3) rfl)) (by decide) (by decide)) (g := (mkF m 1 #[.val (.ref a1), .val (.long q2), .second, .val (.int p3), .val (.long q4), .second, .unset, .unset, .unset, .unset] [(.long q2)])) rfl (by rw [hml]; rfl) (argsL := [(.long q2)]) (rest := []) (lenOf pd_5 rfl) rfl (by show 2 * 0 + _ ≤ _; exact Nat.le_of_eq rfl) (hb hby d5_1) (fun _ _ => ⟨rfl, e0, Nat.le_of_ble_eq_true rfl, Nat.le_of_ble_eq_true rfl⟩)
  dsimp only [Pt.U, Pt.locs, Pt.cells, Pt.slots] at X1 l1 y1 z1 st1 hQ1
  subst l1 y1 z1
  obtain ⟨rfl, N1q, e1⟩ := hQ1
  have N1 := Fr.app N0 N1q
  refine own_go (fun _ k => st1 _ k) ?_
  show own_Ends p e below s _ _ _ (T1.setTop (mkF m 4 #[.val (.ref a1), .val (.long q2), .second, .val (.int p3), .val (.long q4), .second, .unset, .unset, .unset, .unset] [(.int (own_fp q2))]))
  refine own_go (fun _ k => XS.istore X1.here hx rfl (hb hby d5_4) rfl (l' := #[.val (.ref a1), .val (.long q2), .second, .val (.int p3), .val (.long q4), .second, .val (.int (own_fp q2)), .unset, .unset, .unset]) rfl <| XS.iloadN X1.here hx rfl (hb hby d5_6) rfl <| k) ?_
  show own_Ends p e below s _ _ _ (T1.setTop (mkF m 7 #[.val (.ref a1), .val (.long q2), .second, .val (.int p3), .val (.long q4), .second, .val (.int (own_fp q2)), .unset, .unset, .unset] [(.int p3)]))
  by_cases hc7_2 : p3 = (0 : Int32)
  · -- true
    refine own_go (fun _ k => XS.ifYes X1.here hx rfl (pc0 := 7) (pc' := 15) rfl (hb hby d5_7) rfl ((if0 _ _).trans (teq hc7_2).1) (by decide) (by decide) <| XT.iconstV X1.here hx rfl (0 : Int32) (hb hby d5_15) rfl <| XS.iload X1.here hx rfl (hb hby d5_16) rfl <| XT.bipushV X1.here hx rfl (16 : Int32) (hb hby d5_18) rfl <| XS.ishl X1.here hx rfl (hb hby d5_20) rfl <| XS.ior X1.here hx rfl (hb hby d5_21) rfl <| XS.aloadN X1.here hx rfl (hb hby d5_22) rfl rfl <| XS.lload X1.here hx rfl (hb hby d5_23) rfl <| k) ?_
    show own_Ends p e below s _ _ _ (T1.setTop (mkF m 25 #[.val (.ref a1), .val (.long q2), .second, .val (.int p3), .val (.long q4), .second, .val (.int (own_fp q2)), .unset, .unset, .unset] [(.long q4), (.ref a1), (.int ((0 : Int32) ||| ((own_fp q2) <<< ((16 : Int32) &&& 31))))]))
    obtain ⟨cq3, uq3, uq3'⟩ := E1.cell
    obtain ⟨_, _, ⟨T3, L3, k3, n3⟩, -, X3, ⟨Lc3, hQ3, l3, y3, z3⟩, st3⟩ := X1.privateBack hx (y := (⟨"com/example/unutkan/unutkan/core/RecentEvictions", "stamp", "(J)I"⟩ : MethodName)) hown (mvT hZ (hw _ (List.mem_of_getElem? (i := 38) rfl))) (mvT hZ (hw _ (List.mem_of_getElem? (i := 39) rfl))) (own_selp (mvT hZ (hw _ (List.mem_of_getElem? (i := 2) rfl))) (mvP hZ (hw _ (List.mem_of_getElem? (i := 40) rfl))) (mvT hZ (hw _ (List.mem_of_getElem? (i := 39) rfl))) (by decide)) (Cond.privateMethod_at (mvP hZ (hw _ (List.mem_of_getElem? (i := 40) rfl)) (args := #[]))) (mvT hZ (hw _ (List.mem_of_getElem? (i := 41) rfl))) (by decide) (backOf (W := 1) (rm7 l Z a0 hw [] a1 q4 u h0 n0 Z0 F1 hu) hZ (hw _ (List.mem_of_getElem? (i := 41) rfl)) (hw _ (List.mem_of_getElem? (i := 3) rfl)) (by decide) (by decide)) (g := (mkF m 25 #[.val (.ref a1), .val (.long q2), .second, .val (.int p3), .val (.long q4), .second, .val (.int (own_fp q2)), .unset, .unset, .unset] [(.long q4), (.ref a1), (.int ((0 : Int32) ||| ((own_fp q2) <<< ((16 : Int32) &&& 31))))])) rfl (by rw [hml]; rfl) (Steps.refl _) (a := a1) (by rw [e1]; exact uq3) uq3' (argsL := [(.long q4)]) (rest := [(.int ((0 : Int32) ||| ((own_fp q2) <<< ((16 : Int32) &&& 31))))]) (lenOf pd_5 rfl) rfl (by show 2 * 0 + _ ≤ _; exact Nat.le_of_eq rfl) (hb hby d5_25) (fun _ _ => ⟨rfl, e1, Nat.le_of_ble_eq_true rfl, Nat.le_of_ble_eq_true rfl⟩)
    dsimp only [Pt.U, Pt.locs, Pt.cells, Pt.slots] at X3 l3 y3 z3 st3 hQ3
    subst l3 y3 z3
    obtain ⟨rfl, N3q, e3⟩ := hQ3
    have N3 := Fr.app N1 N3q
    refine own_go (fun _ k => st3.trans k) ?_
    show own_Ends p e below s _ _ _ (T3.setTop (mkF m 28 #[.val (.ref a1), .val (.long q2), .second, .val (.int p3), .val (.long q4), .second, .val (.int (own_fp q2)), .unset, .unset, .unset] [(.int (own_sta q4 u)), (.int ((0 : Int32) ||| ((own_fp q2) <<< ((16 : Int32) &&& 31))))]))
    refine own_go (fun _ k => XS.ior X3.here hx rfl (hb hby d5_28) rfl <| k) ?_
    show own_Ends p e below s _ _ _ (T3.setTop (mkF m 29 #[.val (.ref a1), .val (.long q2), .second, .val (.int p3), .val (.long q4), .second, .val (.int (own_fp q2)), .unset, .unset, .unset] [(.int (((0 : Int32) ||| ((own_fp q2) <<< ((16 : Int32) &&& 31))) ||| (own_sta q4 u)))]))
    rw [show (((0 : Int32) ||| ((own_fp q2) <<< ((16 : Int32) &&& 31))) ||| (own_sta q4 u)) = (own_rec p3 (own_fp q2) (own_sta q4 u)) from by unfold own_rec; rw [if_pos hc7_2]]
    show own_Ends p e below s _ _ _ (T3.setTop (mkF m 29 #[.val (.ref a1), .val (.long q2), .second, .val (.int p3), .val (.long q4), .second, .val (.int (own_fp q2)), .unset, .unset, .unset] [(.int (own_rec p3 (own_fp q2) (own_sta q4 u)))]))
    refine own_go (fun _ k => XS.istore X3.here hx rfl (hb hby d5_29) rfl (l' := #[.val (.ref a1), .val (.long q2), .second, .val (.int p3), .val (.long q4), .second, .val (.int (own_fp q2)), .val (.int (own_rec p3 (own_fp q2) (own_sta q4 u))), .unset, .unset]) rfl <| XS.aloadN X3.here hx rfl (hb hby d5_31) rfl rfl <| XS.lloadN X3.here hx rfl (hb hby d5_32) rfl <| k) ?_
    show own_Ends p e below s _ _ _ (T3.setTop (mkF m 33 #[.val (.ref a1), .val (.long q2), .second, .val (.int p3), .val (.long q4), .second, .val (.int (own_fp q2)), .val (.int (own_rec p3 (own_fp q2) (own_sta q4 u))), .unset, .unset] [(.long q2), (.ref a1)]))
    obtain ⟨cq4, uq4, uq4'⟩ := E1.cell
    obtain ⟨_, _, ⟨T4, L4, k4, n4⟩, -, X4, ⟨Lc4, hQ4, l4, y4, z4⟩, st4⟩ := X3.privateBack hx (y := (⟨"com/example/unutkan/unutkan/core/RecentEvictions", "first", "(J)I"⟩ : MethodName)) hown (mvT hZ (hw _ (List.mem_of_getElem? (i := 43) rfl))) (mvT hZ (hw _ (List.mem_of_getElem? (i := 44) rfl))) (own_selp (mvT hZ (hw _ (List.mem_of_getElem? (i := 2) rfl))) (mvP hZ (hw _ (List.mem_of_getElem? (i := 45) rfl))) (mvT hZ (hw _ (List.mem_of_getElem? (i := 44) rfl))) (by decide)) (Cond.privateMethod_at (mvP hZ (hw _ (List.mem_of_getElem? (i := 45) rfl)) (args := #[]))) (mvT hZ (hw _ (List.mem_of_getElem? (i := 46) rfl))) (by decide) (backOf (W := 0) (rm8 l Z a0 hw [] a1 q2 x3 k3 z3 hs h0 n0 Z0 F3 H3) hZ (hw _ (List.mem_of_getElem? (i := 46) rfl)) (hw _ (List.mem_of_getElem? (i := 3) rfl)) (by decide) (by decide)) (g := (mkF m 33 #[.val (.ref a1), .val (.long q2), .second, .val (.int p3), .val (.long q4), .second, .val (.int (own_fp q2)), .val (.int (own_rec p3 (own_fp q2) (own_sta q4 u))), .unset, .unset] [(.long q2), (.ref a1)])) rfl (by rw [hml]; rfl) (Steps.refl _) (a := a1) (by rw [e3]; exact uq4) uq4' (argsL := [(.long q2)]) (rest := []) (lenOf pd_5 rfl) rfl (by show 2 * 0 + _ ≤ _; exact Nat.le_of_eq rfl) (hb hby d5_33) (fun _ _ => ⟨rfl, e3, Nat.le_of_ble_eq_true rfl, Nat.le_of_ble_eq_true rfl⟩)
    dsimp only [Pt.U, Pt.locs, Pt.cells, Pt.slots] at X4 l4 y4 z4 st4 hQ4
    subst l4 y4 z4
    obtain ⟨rfl, N4q, e4⟩ := hQ4
    have N4 := Fr.app N3 N4q
    refine own_go (fun _ k => st4.trans k) ?_
    show own_Ends p e below s _ _ _ (T4.setTop (mkF m 36 #[.val (.ref a1), .val (.long q2), .second, .val (.int p3), .val (.long q4), .second, .val (.int (own_fp q2)), .val (.int (own_rec p3 (own_fp q2) (own_sta q4 u))), .unset, .unset] [(.int (own_i1 q2 z3))]))
    refine own_go (fun _ k => XS.istore X4.here hx rfl (hb hby d5_36) rfl (l' := #[.val (.ref a1), .val (.long q2), .second, .val (.int p3), .val (.long q4), .second, .val (.int (own_fp q2)), .val (.int (own_rec p3 (own_fp q2) (own_sta q4 u))), .val (.int (own_i1 q2 z3)), .unset]) rfl <| XS.aloadN X4.here hx rfl (hb hby d5_38) rfl rfl <| XS.lloadN X4.here hx rfl (hb hby d5_39) rfl <| k) ?_
    show own_Ends p e below s _ _ _ (T4.setTop (mkF m 40 #[.val (.ref a1), .val (.long q2), .second, .val (.int p3), .val (.long q4), .second, .val (.int (own_fp q2)), .val (.int (own_rec p3 (own_fp q2) (own_sta q4 u))), .val (.int (own_i1 q2 z3)), .unset] [(.long q2), (.ref a1)]))
    obtain ⟨cq5, uq5, uq5'⟩ := E1.cell
    obtain ⟨_, _, ⟨T5, L5, k5, n5⟩, -, X5, ⟨Lc5, hQ5, l5, y5, z5⟩, st5⟩ := X4.privateBack hx (y := (⟨"com/example/unutkan/unutkan/core/RecentEvictions", "second", "(J)I"⟩ : MethodName)) hown (mvT hZ (hw _ (List.mem_of_getElem? (i := 47) rfl))) (mvT hZ (hw _ (List.mem_of_getElem? (i := 48) rfl))) (own_selp (mvT hZ (hw _ (List.mem_of_getElem? (i := 2) rfl))) (mvP hZ (hw _ (List.mem_of_getElem? (i := 49) rfl))) (mvT hZ (hw _ (List.mem_of_getElem? (i := 48) rfl))) (by decide)) (Cond.privateMethod_at (mvP hZ (hw _ (List.mem_of_getElem? (i := 49) rfl)) (args := #[]))) (mvT hZ (hw _ (List.mem_of_getElem? (i := 50) rfl))) (by decide) (backOf (W := 0) (rm9 l Z a0 hw [] a1 q2 x3 k3 z3 hs h0 n0 Z0 F3 H3) hZ (hw _ (List.mem_of_getElem? (i := 50) rfl)) (hw _ (List.mem_of_getElem? (i := 3) rfl)) (by decide) (by decide)) (g := (mkF m 40 #[.val (.ref a1), .val (.long q2), .second, .val (.int p3), .val (.long q4), .second, .val (.int (own_fp q2)), .val (.int (own_rec p3 (own_fp q2) (own_sta q4 u))), .val (.int (own_i1 q2 z3)), .unset] [(.long q2), (.ref a1)])) rfl (by rw [hml]; rfl) (Steps.refl _) (a := a1) (by rw [e4]; exact uq5) uq5' (argsL := [(.long q2)]) (rest := []) (lenOf pd_5 rfl) rfl (by show 2 * 0 + _ ≤ _; exact Nat.le_of_eq rfl) (hb hby d5_40) (fun _ _ => ⟨rfl, e4, Nat.le_of_ble_eq_true rfl, Nat.le_of_ble_eq_true rfl⟩)
    dsimp only [Pt.U, Pt.locs, Pt.cells, Pt.slots] at X5 l5 y5 z5 st5 hQ5
    subst l5 y5 z5
    obtain ⟨rfl, N5q, e5⟩ := hQ5
    have N5 := Fr.app N4 N5q
    refine own_go (fun _ k => st5.trans k) ?_
    show own_Ends p e below s _ _ _ (T5.setTop (mkF m 43 #[.val (.ref a1), .val (.long q2), .second, .val (.int p3), .val (.long q4), .second, .val (.int (own_fp q2)), .val (.int (own_rec p3 (own_fp q2) (own_sta q4 u))), .val (.int (own_i1 q2 z3)), .unset] [(.int (own_i2 q2 z3))]))
    refine own_go (fun _ k => XS.istore X5.here hx rfl (hb hby d5_43) rfl (l' := #[.val (.ref a1), .val (.long q2), .second, .val (.int p3), .val (.long q4), .second, .val (.int (own_fp q2)), .val (.int (own_rec p3 (own_fp q2) (own_sta q4 u))), .val (.int (own_i1 q2 z3)), .val (.int (own_i2 q2 z3))]) rfl <| XS.aloadN X5.here hx rfl (hb hby d5_45) rfl rfl <| k) ?_
    show own_Ends p e below s _ _ _ (T5.setTop (mkF m 46 #[.val (.ref a1), .val (.long q2), .second, .val (.int p3), .val (.long q4), .second, .val (.int (own_fp q2)), .val (.int (own_rec p3 (own_fp q2) (own_sta q4 u))), .val (.int (own_i1 q2 z3)), .val (.int (own_i2 q2 z3))] [(.ref a1)]))
    obtain ⟨T6, X6, e6, st6⟩ := getF X5 hx hZ hown (host := "") (Or.inl (hw _ (List.mem_of_getElem? (i := 20) rfl))) Via.refl e5 F3 (g := (mkF m 46 #[.val (.ref a1), .val (.long q2), .second, .val (.int p3), .val (.long q4), .second, .val (.int (own_fp q2)), .val (.int (own_rec p3 (own_fp q2) (own_sta q4 u))), .val (.int (own_i1 q2 z3)), .val (.int (own_i2 q2 z3))] [(.ref a1)])) rfl rfl (hb hby d5_46)
    refine own_go st6 ?_
    show own_Ends p e below s _ _ _ (T6.setTop (mkF m 49 #[.val (.ref a1), .val (.long q2), .second, .val (.int p3), .val (.long q4), .second, .val (.int (own_fp q2)), .val (.int (own_rec p3 (own_fp q2) (own_sta q4 u))), .val (.int (own_i1 q2 z3)), .val (.int (own_i2 q2 z3))] [(.ref x3)]))
    refine own_go (fun _ k => XS.iload X6.here hx rfl (hb hby d5_49) rfl <| k) ?_
    show own_Ends p e below s _ _ _ (T6.setTop (mkF m 51 #[.val (.ref a1), .val (.long q2), .second, .val (.int p3), .val (.long q4), .second, .val (.int (own_fp q2)), .val (.int (own_rec p3 (own_fp q2) (own_sta q4 u))), .val (.int (own_i1 q2 z3)), .val (.int (own_i2 q2 z3))] [(.int (own_i1 q2 z3)), (.ref x3)]))
    obtain ⟨clx3_51_7, Arx3_51_7, qqx3_51_7, Szx3_51_7, Ngx3_51_7, Hsx3_51_7, Gfx3_51_7⟩ := id H3
    have hinx3_51_7 : ¬ ((own_i1 q2 z3) < 0 ∨ clx3_51_7.slots.size ≤ ((own_i1 q2 z3)).toNatClampNeg) := inb_of Szx3_51_7 (own_i1_in q2 hz)
    have hatx3_51_7 : clx3_51_7.slots[((own_i1 q2 z3)).toNatClampNeg]? = some (.int (0 : Int32)) := atH Hsx3_51_7 hinx3_51_7 h1
    refine own_go (fun _ k => X6.iaload hx (j := (own_i1 q2 z3)) (v := (.int (0 : Int32))) (by first | exact Arx3_51_7.1 | (rw [e6]; exact Arx3_51_7.1)) (State.isArrayOf_alike hZ.alike Arx3_51_7.2.1) Arx3_51_7.2.2 hinx3_51_7 hatx3_51_7 (g := (mkF m 51 #[.val (.ref a1), .val (.long q2), .second, .val (.int p3), .val (.long q4), .second, .val (.int (own_fp q2)), .val (.int (own_rec p3 (own_fp q2) (own_sta q4 u))), .val (.int (own_i1 q2 z3)), .val (.int (own_i2 q2 z3))] [(.int (own_i1 q2 z3)), (.ref x3)])) rfl rfl (hb hby d5_51) _ k) ?_
    show own_Ends p e below s _ _ _ (T6.setTop (mkF m 52 #[.val (.ref a1), .val (.long q2), .second, .val (.int p3), .val (.long q4), .second, .val (.int (own_fp q2)), .val (.int (own_rec p3 (own_fp q2) (own_sta q4 u))), .val (.int (own_i1 q2 z3)), .val (.int (own_i2 q2 z3))] [(.int (0 : Int32))]))
    refine own_go (fun _ k => XS.ifYes X6.here hx rfl (pc0 := 52) (pc' := 70) rfl (hb hby d5_52) rfl ((if0 _ _).trans (teq (by decide)).1) (by decide) (by decide) <| XS.aloadN X6.here hx rfl (hb hby d5_70) rfl rfl <| k) ?_
    show own_Ends p e below s _ _ _ (T6.setTop (mkF m 71 #[.val (.ref a1), .val (.long q2), .second, .val (.int p3), .val (.long q4), .second, .val (.int (own_fp q2)), .val (.int (own_rec p3 (own_fp q2) (own_sta q4 u))), .val (.int (own_i1 q2 z3)), .val (.int (own_i2 q2 z3))] [(.ref a1)]))
    obtain ⟨T8, X8, e8, st8⟩ := getF X6 hx hZ hown (host := "") (Or.inl (hw _ (List.mem_of_getElem? (i := 20) rfl))) Via.refl e6 F3 (g := (mkF m 71 #[.val (.ref a1), .val (.long q2), .second, .val (.int p3), .val (.long q4), .second, .val (.int (own_fp q2)), .val (.int (own_rec p3 (own_fp q2) (own_sta q4 u))), .val (.int (own_i1 q2 z3)), .val (.int (own_i2 q2 z3))] [(.ref a1)])) rfl rfl (hb hby d5_71)
    refine own_go st8 ?_
    show own_Ends p e below s _ _ _ (T8.setTop (mkF m 74 #[.val (.ref a1), .val (.long q2), .second, .val (.int p3), .val (.long q4), .second, .val (.int (own_fp q2)), .val (.int (own_rec p3 (own_fp q2) (own_sta q4 u))), .val (.int (own_i1 q2 z3)), .val (.int (own_i2 q2 z3))] [(.ref x3)]))
    refine own_go (fun _ k => XS.iload X8.here hx rfl (hb hby d5_74) rfl <| XS.iload X8.here hx rfl (hb hby d5_76) rfl <| k) ?_
    show own_Ends p e below s _ _ _ (T8.setTop (mkF m 78 #[.val (.ref a1), .val (.long q2), .second, .val (.int p3), .val (.long q4), .second, .val (.int (own_fp q2)), .val (.int (own_rec p3 (own_fp q2) (own_sta q4 u))), .val (.int (own_i1 q2 z3)), .val (.int (own_i2 q2 z3))] [(.int (own_rec p3 (own_fp q2) (own_sta q4 u))), (.int (own_i1 q2 z3)), (.ref x3)]))
    obtain ⟨clx3_78_9, Arx3_78_9, qqx3_78_9, Szx3_78_9, Ngx3_78_9, Hsx3_78_9, Gfx3_78_9⟩ := id H3
    have hinx3_78_9 : ¬ ((own_i1 q2 z3) < 0 ∨ clx3_78_9.slots.size ≤ ((own_i1 q2 z3)).toNatClampNeg) := inb_of Szx3_78_9 (own_i1_in q2 hz)
    obtain ⟨T10, h10, X10, e10, W10, st10⟩ := stI X8 hx hZ e8 Arx3_78_9 (j := (own_i1 q2 z3)) hinx3_78_9 (g := (mkF m 78 #[.val (.ref a1), .val (.long q2), .second, .val (.int p3), .val (.long q4), .second, .val (.int (own_fp q2)), .val (.int (own_rec p3 (own_fp q2) (own_sta q4 u))), .val (.int (own_i1 q2 z3)), .val (.int (own_i2 q2 z3))] [(.int (own_rec p3 (own_fp q2) (own_sta q4 u))), (.int (own_i1 q2 z3)), (.ref x3)])) rfl rfl (hb hby d5_78)
    refine own_go st10 ?_
    have E1'10 := E1.wr W10
    have F1'10 := F1.other W10 (Or.inl hne)
    have F3'10 := F3.other W10 (Or.inl hne)
    have Z10 := Nat.le_trans Z0 (Keep.of_wr W10).1
    have K10' := K0.wr W10 (Or.inl (List.mem_of_getElem? (i := 0) rfl))
    have N10 := Fr.snoc X10 N5 g3
    have H3'10 : Arh Z h10 x3 k3 .int z3 (((own_i1 q2 z3), (.int (own_rec p3 (own_fp q2) (own_sta q4 u)))) :: hs) [] (.int (0 : Int32)) := Arh.push Arx3_78_9 qqx3_78_9 Szx3_78_9 Ngx3_78_9 Hsx3_78_9 Gfx3_78_9 rfl W10 hinx3_78_9
    show own_Ends p e below s _ _ _ (T10.setTop (mkF m 79 #[.val (.ref a1), .val (.long q2), .second, .val (.int p3), .val (.long q4), .second, .val (.int (own_fp q2)), .val (.int (own_rec p3 (own_fp q2) (own_sta q4 u))), .val (.int (own_i1 q2 z3)), .val (.int (own_i2 q2 z3))] []))
    refine own_go (fun _ k => XS.goto X10.here hx rfl (pc0 := 79) (pc' := 170) rfl (hb hby d5_79) (by decide) (by decide) <| k) ?_
    show own_Ends p e below s _ _ _ (T10.setTop (mkF m 170 #[.val (.ref a1), .val (.long q2), .second, .val (.int p3), .val (.long q4), .second, .val (.int (own_fp q2)), .val (.int (own_rec p3 (own_fp q2) (own_sta q4 u))), .val (.int (own_i1 q2 z3)), .val (.int (own_i2 q2 z3))] []))
    exact own_ret0 X10 hx hrt (hb hby d5_170) hlk (by rw [e10]; exact ⟨rfl, N10, K10', H3'10⟩) (by decide) (by decide)
  · -- false
    refine own_go (fun _ k => XS.ifNo X1.here hx rfl (hb hby d5_7) rfl ((if0 _ _).trans (feq hc7_2).1) <| X1.ldcI hx hown (mvT hZ (hw _ (List.mem_of_getElem? (i := 69) rfl))) rfl (hb hby d5_10) <| XS.goto X1.here hx rfl (pc0 := 12) (pc' := 16) rfl (hb hby d5_12) (by decide) (by decide) <| XS.iload X1.here hx rfl (hb hby d5_16) rfl <| XT.bipushV X1.here hx rfl (16 : Int32) (hb hby d5_18) rfl <| XS.ishl X1.here hx rfl (hb hby d5_20) rfl <| XS.ior X1.here hx rfl (hb hby d5_21) rfl <| XS.aloadN X1.here hx rfl (hb hby d5_22) rfl rfl <| XS.lload X1.here hx rfl (hb hby d5_23) rfl <| k) ?_
    show own_Ends p e below s _ _ _ (T1.setTop (mkF m 25 #[.val (.ref a1), .val (.long q2), .second, .val (.int p3), .val (.long q4), .second, .val (.int (own_fp q2)), .unset, .unset, .unset] [(.long q4), (.ref a1), (.int ((-2147483648 : Int32) ||| ((own_fp q2) <<< ((16 : Int32) &&& 31))))]))
    obtain ⟨cq11, uq11, uq11'⟩ := E1.cell
    obtain ⟨_, _, ⟨T11, L11, k11, n11⟩, -, X11, ⟨Lc11, hQ11, l11, y11, z11⟩, st11⟩ := X1.privateBack hx (y := (⟨"com/example/unutkan/unutkan/core/RecentEvictions", "stamp", "(J)I"⟩ : MethodName)) hown (mvT hZ (hw _ (List.mem_of_getElem? (i := 38) rfl))) (mvT hZ (hw _ (List.mem_of_getElem? (i := 39) rfl))) (own_selp (mvT hZ (hw _ (List.mem_of_getElem? (i := 2) rfl))) (mvP hZ (hw _ (List.mem_of_getElem? (i := 40) rfl))) (mvT hZ (hw _ (List.mem_of_getElem? (i := 39) rfl))) (by decide)) (Cond.privateMethod_at (mvP hZ (hw _ (List.mem_of_getElem? (i := 40) rfl)) (args := #[]))) (mvT hZ (hw _ (List.mem_of_getElem? (i := 41) rfl))) (by decide) (backOf (W := 1) (rm7 l Z a0 hw [] a1 q4 u h0 n0 Z0 F1 hu) hZ (hw _ (List.mem_of_getElem? (i := 41) rfl)) (hw _ (List.mem_of_getElem? (i := 3) rfl)) (by decide) (by decide)) (g := (mkF m 25 #[.val (.ref a1), .val (.long q2), .second, .val (.int p3), .val (.long q4), .second, .val (.int (own_fp q2)), .unset, .unset, .unset] [(.long q4), (.ref a1), (.int ((-2147483648 : Int32) ||| ((own_fp q2) <<< ((16 : Int32) &&& 31))))])) rfl (by rw [hml]; rfl) (Steps.refl _) (a := a1) (by rw [e1]; exact uq11) uq11' (argsL := [(.long q4)]) (rest := [(.int ((-2147483648 : Int32) ||| ((own_fp q2) <<< ((16 : Int32) &&& 31))))]) (lenOf pd_5 rfl) rfl (by show 2 * 0 + _ ≤ _; exact Nat.le_of_eq rfl) (hb hby d5_25) (fun _ _ => ⟨rfl, e1, Nat.le_of_ble_eq_true rfl, Nat.le_of_ble_eq_true rfl⟩)
    dsimp only [Pt.U, Pt.locs, Pt.cells, Pt.slots] at X11 l11 y11 z11 st11 hQ11
    subst l11 y11 z11
    obtain ⟨rfl, N11q, e11⟩ := hQ11
    have N11 := Fr.app N1 N11q
    refine own_go (fun _ k => st11.trans k) ?_
    show own_Ends p e below s _ _ _ (T11.setTop (mkF m 28 #[.val (.ref a1), .val (.long q2), .second, .val (.int p3), .val (.long q4), .second, .val (.int (own_fp q2)), .unset, .unset, .unset] [(.int (own_sta q4 u)), (.int ((-2147483648 : Int32) ||| ((own_fp q2) <<< ((16 : Int32) &&& 31))))]))
    refine own_go (fun _ k => XS.ior X11.here hx rfl (hb hby d5_28) rfl <| k) ?_
    show own_Ends p e below s _ _ _ (T11.setTop (mkF m 29 #[.val (.ref a1), .val (.long q2), .second, .val (.int p3), .val (.long q4), .second, .val (.int (own_fp q2)), .unset, .unset, .unset] [(.int (((-2147483648 : Int32) ||| ((own_fp q2) <<< ((16 : Int32) &&& 31))) ||| (own_sta q4 u)))]))
    rw [show (((-2147483648 : Int32) ||| ((own_fp q2) <<< ((16 : Int32) &&& 31))) ||| (own_sta q4 u)) = (own_rec p3 (own_fp q2) (own_sta q4 u)) from by unfold own_rec; rw [if_neg hc7_2]]
    show own_Ends p e below s _ _ _ (T11.setTop (mkF m 29 #[.val (.ref a1), .val (.long q2), .second, .val (.int p3), .val (.long q4), .second, .val (.int (own_fp q2)), .unset, .unset, .unset] [(.int (own_rec p3 (own_fp q2) (own_sta q4 u)))]))
    refine own_go (fun _ k => XS.istore X11.here hx rfl (hb hby d5_29) rfl (l' := #[.val (.ref a1), .val (.long q2), .second, .val (.int p3), .val (.long q4), .second, .val (.int (own_fp q2)), .val (.int (own_rec p3 (own_fp q2) (own_sta q4 u))), .unset, .unset]) rfl <| XS.aloadN X11.here hx rfl (hb hby d5_31) rfl rfl <| XS.lloadN X11.here hx rfl (hb hby d5_32) rfl <| k) ?_
    show own_Ends p e below s _ _ _ (T11.setTop (mkF m 33 #[.val (.ref a1), .val (.long q2), .second, .val (.int p3), .val (.long q4), .second, .val (.int (own_fp q2)), .val (.int (own_rec p3 (own_fp q2) (own_sta q4 u))), .unset, .unset] [(.long q2), (.ref a1)]))
    obtain ⟨cq12, uq12, uq12'⟩ := E1.cell
    obtain ⟨_, _, ⟨T12, L12, k12, n12⟩, -, X12, ⟨Lc12, hQ12, l12, y12, z12⟩, st12⟩ := X11.privateBack hx (y := (⟨"com/example/unutkan/unutkan/core/RecentEvictions", "first", "(J)I"⟩ : MethodName)) hown (mvT hZ (hw _ (List.mem_of_getElem? (i := 43) rfl))) (mvT hZ (hw _ (List.mem_of_getElem? (i := 44) rfl))) (own_selp (mvT hZ (hw _ (List.mem_of_getElem? (i := 2) rfl))) (mvP hZ (hw _ (List.mem_of_getElem? (i := 45) rfl))) (mvT hZ (hw _ (List.mem_of_getElem? (i := 44) rfl))) (by decide)) (Cond.privateMethod_at (mvP hZ (hw _ (List.mem_of_getElem? (i := 45) rfl)) (args := #[]))) (mvT hZ (hw _ (List.mem_of_getElem? (i := 46) rfl))) (by decide) (backOf (W := 0) (rm8 l Z a0 hw [] a1 q2 x3 k3 z3 hs h0 n0 Z0 F3 H3) hZ (hw _ (List.mem_of_getElem? (i := 46) rfl)) (hw _ (List.mem_of_getElem? (i := 3) rfl)) (by decide) (by decide)) (g := (mkF m 33 #[.val (.ref a1), .val (.long q2), .second, .val (.int p3), .val (.long q4), .second, .val (.int (own_fp q2)), .val (.int (own_rec p3 (own_fp q2) (own_sta q4 u))), .unset, .unset] [(.long q2), (.ref a1)])) rfl (by rw [hml]; rfl) (Steps.refl _) (a := a1) (by rw [e11]; exact uq12) uq12' (argsL := [(.long q2)]) (rest := []) (lenOf pd_5 rfl) rfl (by show 2 * 0 + _ ≤ _; exact Nat.le_of_eq rfl) (hb hby d5_33) (fun _ _ => ⟨rfl, e11, Nat.le_of_ble_eq_true rfl, Nat.le_of_ble_eq_true rfl⟩)
    dsimp only [Pt.U, Pt.locs, Pt.cells, Pt.slots] at X12 l12 y12 z12 st12 hQ12
    subst l12 y12 z12
    obtain ⟨rfl, N12q, e12⟩ := hQ12
    have N12 := Fr.app N11 N12q
    refine own_go (fun _ k => st12.trans k) ?_
    show own_Ends p e below s _ _ _ (T12.setTop (mkF m 36 #[.val (.ref a1), .val (.long q2), .second, .val (.int p3), .val (.long q4), .second, .val (.int (own_fp q2)), .val (.int (own_rec p3 (own_fp q2) (own_sta q4 u))), .unset, .unset] [(.int (own_i1 q2 z3))]))
    refine own_go (fun _ k => XS.istore X12.here hx rfl (hb hby d5_36) rfl (l' := #[.val (.ref a1), .val (.long q2), .second, .val (.int p3), .val (.long q4), .second, .val (.int (own_fp q2)), .val (.int (own_rec p3 (own_fp q2) (own_sta q4 u))), .val (.int (own_i1 q2 z3)), .unset]) rfl <| XS.aloadN X12.here hx rfl (hb hby d5_38) rfl rfl <| XS.lloadN X12.here hx rfl (hb hby d5_39) rfl <| k) ?_
    show own_Ends p e below s _ _ _ (T12.setTop (mkF m 40 #[.val (.ref a1), .val (.long q2), .second, .val (.int p3), .val (.long q4), .second, .val (.int (own_fp q2)), .val (.int (own_rec p3 (own_fp q2) (own_sta q4 u))), .val (.int (own_i1 q2 z3)), .unset] [(.long q2), (.ref a1)]))
    obtain ⟨cq13, uq13, uq13'⟩ := E1.cell
    obtain ⟨_, _, ⟨T13, L13, k13, n13⟩, -, X13, ⟨Lc13, hQ13, l13, y13, z13⟩, st13⟩ := X12.privateBack hx (y := (⟨"com/example/unutkan/unutkan/core/RecentEvictions", "second", "(J)I"⟩ : MethodName)) hown (mvT hZ (hw _ (List.mem_of_getElem? (i := 47) rfl))) (mvT hZ (hw _ (List.mem_of_getElem? (i := 48) rfl))) (own_selp (mvT hZ (hw _ (List.mem_of_getElem? (i := 2) rfl))) (mvP hZ (hw _ (List.mem_of_getElem? (i := 49) rfl))) (mvT hZ (hw _ (List.mem_of_getElem? (i := 48) rfl))) (by decide)) (Cond.privateMethod_at (mvP hZ (hw _ (List.mem_of_getElem? (i := 49) rfl)) (args := #[]))) (mvT hZ (hw _ (List.mem_of_getElem? (i := 50) rfl))) (by decide) (backOf (W := 0) (rm9 l Z a0 hw [] a1 q2 x3 k3 z3 hs h0 n0 Z0 F3 H3) hZ (hw _ (List.mem_of_getElem? (i := 50) rfl)) (hw _ (List.mem_of_getElem? (i := 3) rfl)) (by decide) (by decide)) (g := (mkF m 40 #[.val (.ref a1), .val (.long q2), .second, .val (.int p3), .val (.long q4), .second, .val (.int (own_fp q2)), .val (.int (own_rec p3 (own_fp q2) (own_sta q4 u))), .val (.int (own_i1 q2 z3)), .unset] [(.long q2), (.ref a1)])) rfl (by rw [hml]; rfl) (Steps.refl _) (a := a1) (by rw [e12]; exact uq13) uq13' (argsL := [(.long q2)]) (rest := []) (lenOf pd_5 rfl) rfl (by show 2 * 0 + _ ≤ _; exact Nat.le_of_eq rfl) (hb hby d5_40) (fun _ _ => ⟨rfl, e12, Nat.le_of_ble_eq_true rfl, Nat.le_of_ble_eq_true rfl⟩)
    dsimp only [Pt.U, Pt.locs, Pt.cells, Pt.slots] at X13 l13 y13 z13 st13 hQ13
    subst l13 y13 z13
    obtain ⟨rfl, N13q, e13⟩ := hQ13
    have N13 := Fr.app N12 N13q
    refine own_go (fun _ k => st13.trans k) ?_
    show own_Ends p e below s _ _ _ (T13.setTop (mkF m 43 #[.val (.ref a1), .val (.long q2), .second, .val (.int p3), .val (.long q4), .second, .val (.int (own_fp q2)), .val (.int (own_rec p3 (own_fp q2) (own_sta q4 u))), .val (.int (own_i1 q2 z3)), .unset] [(.int (own_i2 q2 z3))]))
    refine own_go (fun _ k => XS.istore X13.here hx rfl (hb hby d5_43) rfl (l' := #[.val (.ref a1), .val (.long q2), .second, .val (.int p3), .val (.long q4), .second, .val (.int (own_fp q2)), .val (.int (own_rec p3 (own_fp q2) (own_sta q4 u))), .val (.int (own_i1 q2 z3)), .val (.int (own_i2 q2 z3))]) rfl <| XS.aloadN X13.here hx rfl (hb hby d5_45) rfl rfl <| k) ?_
    show own_Ends p e below s _ _ _ (T13.setTop (mkF m 46 #[.val (.ref a1), .val (.long q2), .second, .val (.int p3), .val (.long q4), .second, .val (.int (own_fp q2)), .val (.int (own_rec p3 (own_fp q2) (own_sta q4 u))), .val (.int (own_i1 q2 z3)), .val (.int (own_i2 q2 z3))] [(.ref a1)]))
    obtain ⟨T14, X14, e14, st14⟩ := getF X13 hx hZ hown (host := "") (Or.inl (hw _ (List.mem_of_getElem? (i := 20) rfl))) Via.refl e13 F3 (g := (mkF m 46 #[.val (.ref a1), .val (.long q2), .second, .val (.int p3), .val (.long q4), .second, .val (.int (own_fp q2)), .val (.int (own_rec p3 (own_fp q2) (own_sta q4 u))), .val (.int (own_i1 q2 z3)), .val (.int (own_i2 q2 z3))] [(.ref a1)])) rfl rfl (hb hby d5_46)
    refine own_go st14 ?_
    show own_Ends p e below s _ _ _ (T14.setTop (mkF m 49 #[.val (.ref a1), .val (.long q2), .second, .val (.int p3), .val (.long q4), .second, .val (.int (own_fp q2)), .val (.int (own_rec p3 (own_fp q2) (own_sta q4 u))), .val (.int (own_i1 q2 z3)), .val (.int (own_i2 q2 z3))] [(.ref x3)]))
    refine own_go (fun _ k => XS.iload X14.here hx rfl (hb hby d5_49) rfl <| k) ?_
    show own_Ends p e below s _ _ _ (T14.setTop (mkF m 51 #[.val (.ref a1), .val (.long q2), .second, .val (.int p3), .val (.long q4), .second, .val (.int (own_fp q2)), .val (.int (own_rec p3 (own_fp q2) (own_sta q4 u))), .val (.int (own_i1 q2 z3)), .val (.int (own_i2 q2 z3))] [(.int (own_i1 q2 z3)), (.ref x3)]))
    obtain ⟨clx3_51_15, Arx3_51_15, qqx3_51_15, Szx3_51_15, Ngx3_51_15, Hsx3_51_15, Gfx3_51_15⟩ := id H3
    have hinx3_51_15 : ¬ ((own_i1 q2 z3) < 0 ∨ clx3_51_15.slots.size ≤ ((own_i1 q2 z3)).toNatClampNeg) := inb_of Szx3_51_15 (own_i1_in q2 hz)
    have hatx3_51_15 : clx3_51_15.slots[((own_i1 q2 z3)).toNatClampNeg]? = some (.int (0 : Int32)) := atH Hsx3_51_15 hinx3_51_15 h1
    refine own_go (fun _ k => X14.iaload hx (j := (own_i1 q2 z3)) (v := (.int (0 : Int32))) (by first | exact Arx3_51_15.1 | (rw [e14]; exact Arx3_51_15.1)) (State.isArrayOf_alike hZ.alike Arx3_51_15.2.1) Arx3_51_15.2.2 hinx3_51_15 hatx3_51_15 (g := (mkF m 51 #[.val (.ref a1), .val (.long q2), .second, .val (.int p3), .val (.long q4), .second, .val (.int (own_fp q2)), .val (.int (own_rec p3 (own_fp q2) (own_sta q4 u))), .val (.int (own_i1 q2 z3)), .val (.int (own_i2 q2 z3))] [(.int (own_i1 q2 z3)), (.ref x3)])) rfl rfl (hb hby d5_51) _ k) ?_
    show own_Ends p e below s _ _ _ (T14.setTop (mkF m 52 #[.val (.ref a1), .val (.long q2), .second, .val (.int p3), .val (.long q4), .second, .val (.int (own_fp q2)), .val (.int (own_rec p3 (own_fp q2) (own_sta q4 u))), .val (.int (own_i1 q2 z3)), .val (.int (own_i2 q2 z3))] [(.int (0 : Int32))]))
    refine own_go (fun _ k => XS.ifYes X14.here hx rfl (pc0 := 52) (pc' := 70) rfl (hb hby d5_52) rfl ((if0 _ _).trans (teq (by decide)).1) (by decide) (by decide) <| XS.aloadN X14.here hx rfl (hb hby d5_70) rfl rfl <| k) ?_
    show own_Ends p e below s _ _ _ (T14.setTop (mkF m 71 #[.val (.ref a1), .val (.long q2), .second, .val (.int p3), .val (.long q4), .second, .val (.int (own_fp q2)), .val (.int (own_rec p3 (own_fp q2) (own_sta q4 u))), .val (.int (own_i1 q2 z3)), .val (.int (own_i2 q2 z3))] [(.ref a1)]))
    obtain ⟨T16, X16, e16, st16⟩ := getF X14 hx hZ hown (host := "") (Or.inl (hw _ (List.mem_of_getElem? (i := 20) rfl))) Via.refl e14 F3 (g := (mkF m 71 #[.val (.ref a1), .val (.long q2), .second, .val (.int p3), .val (.long q4), .second, .val (.int (own_fp q2)), .val (.int (own_rec p3 (own_fp q2) (own_sta q4 u))), .val (.int (own_i1 q2 z3)), .val (.int (own_i2 q2 z3))] [(.ref a1)])) rfl rfl (hb hby d5_71)
    refine own_go st16 ?_
    show own_Ends p e below s _ _ _ (T16.setTop (mkF m 74 #[.val (.ref a1), .val (.long q2), .second, .val (.int p3), .val (.long q4), .second, .val (.int (own_fp q2)), .val (.int (own_rec p3 (own_fp q2) (own_sta q4 u))), .val (.int (own_i1 q2 z3)), .val (.int (own_i2 q2 z3))] [(.ref x3)]))
    refine own_go (fun _ k => XS.iload X16.here hx rfl (hb hby d5_74) rfl <| XS.iload X16.here hx rfl (hb hby d5_76) rfl <| k) ?_
    show own_Ends p e below s _ _ _ (T16.setTop (mkF m 78 #[.val (.ref a1), .val (.long q2), .second, .val (.int p3), .val (.long q4), .second, .val (.int (own_fp q2)), .val (.int (own_rec p3 (own_fp q2) (own_sta q4 u))), .val (.int (own_i1 q2 z3)), .val (.int (own_i2 q2 z3))] [(.int (own_rec p3 (own_fp q2) (own_sta q4 u))), (.int (own_i1 q2 z3)), (.ref x3)]))
    obtain ⟨clx3_78_17, Arx3_78_17, qqx3_78_17, Szx3_78_17, Ngx3_78_17, Hsx3_78_17, Gfx3_78_17⟩ := id H3
    have hinx3_78_17 : ¬ ((own_i1 q2 z3) < 0 ∨ clx3_78_17.slots.size ≤ ((own_i1 q2 z3)).toNatClampNeg) := inb_of Szx3_78_17 (own_i1_in q2 hz)
    obtain ⟨T18, h18, X18, e18, W18, st18⟩ := stI X16 hx hZ e16 Arx3_78_17 (j := (own_i1 q2 z3)) hinx3_78_17 (g := (mkF m 78 #[.val (.ref a1), .val (.long q2), .second, .val (.int p3), .val (.long q4), .second, .val (.int (own_fp q2)), .val (.int (own_rec p3 (own_fp q2) (own_sta q4 u))), .val (.int (own_i1 q2 z3)), .val (.int (own_i2 q2 z3))] [(.int (own_rec p3 (own_fp q2) (own_sta q4 u))), (.int (own_i1 q2 z3)), (.ref x3)])) rfl rfl (hb hby d5_78)
    refine own_go st18 ?_
    have E1'18 := E1.wr W18
    have F1'18 := F1.other W18 (Or.inl hne)
    have F3'18 := F3.other W18 (Or.inl hne)
    have Z18 := Nat.le_trans Z0 (Keep.of_wr W18).1
    have K18' := K0.wr W18 (Or.inl (List.mem_of_getElem? (i := 0) rfl))
    have N18 := Fr.snoc X18 N13 g3
    have H3'18 : Arh Z h18 x3 k3 .int z3 (((own_i1 q2 z3), (.int (own_rec p3 (own_fp q2) (own_sta q4 u)))) :: hs) [] (.int (0 : Int32)) := Arh.push Arx3_78_17 qqx3_78_17 Szx3_78_17 Ngx3_78_17 Hsx3_78_17 Gfx3_78_17 rfl W18 hinx3_78_17
    show own_Ends p e below s _ _ _ (T18.setTop (mkF m 79 #[.val (.ref a1), .val (.long q2), .second, .val (.int p3), .val (.long q4), .second, .val (.int (own_fp q2)), .val (.int (own_rec p3 (own_fp q2) (own_sta q4 u))), .val (.int (own_i1 q2 z3)), .val (.int (own_i2 q2 z3))] []))
    refine own_go (fun _ k => XS.goto X18.here hx rfl (pc0 := 79) (pc' := 170) rfl (hb hby d5_79) (by decide) (by decide) <| k) ?_
    show own_Ends p e below s _ _ _ (T18.setTop (mkF m 170 #[.val (.ref a1), .val (.long q2), .second, .val (.int p3), .val (.long q4), .second, .val (.int (own_fp q2)), .val (.int (own_rec p3 (own_fp q2) (own_sta q4 u))), .val (.int (own_i1 q2 z3)), .val (.int (own_i2 q2 z3))] []))
    exact own_ret0 X18 hx hrt (hb hby d5_170) hlk (by rw [e18]; exact ⟨rfl, N18, K18', H3'18⟩) (by decide) (by decide)
theorem d10_0 : decode prog_23_method_4_code 0 = .ok (.aload_n 0, 1) := by decide +kernel
theorem d10_1 : decode prog_23_method_4_code 1 = .ok (.getfield 24, 3) := by decide +kernel
theorem d10_4 : decode prog_23_method_4_code 4 = .ok (.arraylength, 1) := by decide +kernel
theorem d10_5 : decode prog_23_method_4_code 5 = .ok (.ifCond .ne 7, 3) := by decide +kernel
theorem d10_8 : decode prog_23_method_4_code 8 = .ok (.ldc2_w 54, 3) := by decide +kernel
theorem d10_11 : decode prog_23_method_4_code 11 = .ok (.lreturn, 1) := by decide +kernel
theorem d10_12 : decode prog_23_method_4_code 12 = .ok (.lload_n 1, 1) := by decide +kernel
theorem d10_13 : decode prog_23_method_4_code 13 = .ok (.invokestatic 32, 3) := by decide +kernel
theorem d10_16 : decode prog_23_method_4_code 16 = .ok (.istore 5, 2) := by decide +kernel
theorem d10_18 : decode prog_23_method_4_code 18 = .ok (.iconst 0, 1) := by decide +kernel
theorem d10_19 : decode prog_23_method_4_code 19 = .ok (.istore 6, 2) := by decide +kernel
theorem d10_21 : decode prog_23_method_4_code 21 = .ok (.iload 6, 2) := by decide +kernel
theorem d10_23 : decode prog_23_method_4_code 23 = .ok (.iconst 2, 1) := by decide +kernel
theorem d10_24 : decode prog_23_method_4_code 24 = .ok (.if_icmp .ge 98, 3) := by decide +kernel
theorem d10_27 : decode prog_23_method_4_code 27 = .ok (.iload 6, 2) := by decide +kernel
theorem d10_29 : decode prog_23_method_4_code 29 = .ok (.ifCond .ne 11, 3) := by decide +kernel
theorem d10_32 : decode prog_23_method_4_code 32 = .ok (.aload_n 0, 1) := by decide +kernel
theorem d10_33 : decode prog_23_method_4_code 33 = .ok (.lload_n 1, 1) := by decide +kernel
theorem d10_34 : decode prog_23_method_4_code 34 = .ok (.invokevirtual 40, 3) := by decide +kernel
theorem d10_37 : decode prog_23_method_4_code 37 = .ok (.goto 8, 3) := by decide +kernel
theorem d10_40 : decode prog_23_method_4_code 40 = .ok (.aload_n 0, 1) := by decide +kernel
theorem d10_41 : decode prog_23_method_4_code 41 = .ok (.lload_n 1, 1) := by decide +kernel
theorem d10_42 : decode prog_23_method_4_code 42 = .ok (.invokevirtual 43, 3) := by decide +kernel
theorem d10_45 : decode prog_23_method_4_code 45 = .ok (.istore 7, 2) := by decide +kernel
theorem d10_47 : decode prog_23_method_4_code 47 = .ok (.aload_n 0, 1) := by decide +kernel
theorem d10_48 : decode prog_23_method_4_code 48 = .ok (.getfield 24, 3) := by decide +kernel
theorem d10_51 : decode prog_23_method_4_code 51 = .ok (.iload 7, 2) := by decide +kernel
theorem d10_53 : decode prog_23_method_4_code 53 = .ok (.iaload, 1) := by decide +kernel
theorem d10_54 : decode prog_23_method_4_code 54 = .ok (.istore 8, 2) := by decide +kernel
theorem d10_56 : decode prog_23_method_4_code 56 = .ok (.iload 8, 2) := by decide +kernel
theorem d10_58 : decode prog_23_method_4_code 58 = .ok (.ifCond .eq 58, 3) := by decide +kernel
theorem d10_61 : decode prog_23_method_4_code 61 = .ok (.iload 8, 2) := by decide +kernel
theorem d10_63 : decode prog_23_method_4_code 63 = .ok (.invokestatic 46, 3) := by decide +kernel
theorem d10_66 : decode prog_23_method_4_code 66 = .ok (.iload 5, 2) := by decide +kernel
theorem d10_68 : decode prog_23_method_4_code 68 = .ok (.if_icmp .ne 48, 3) := by decide +kernel
theorem d10_71 : decode prog_23_method_4_code 71 = .ok (.aload_n 0, 1) := by decide +kernel
theorem d10_72 : decode prog_23_method_4_code 72 = .ok (.getfield 24, 3) := by decide +kernel
theorem d10_75 : decode prog_23_method_4_code 75 = .ok (.iload 7, 2) := by decide +kernel
theorem d10_77 : decode prog_23_method_4_code 77 = .ok (.iconst 0, 1) := by decide +kernel
theorem d10_78 : decode prog_23_method_4_code 78 = .ok (.iastore, 1) := by decide +kernel
theorem d10_79 : decode prog_23_method_4_code 79 = .ok (.aload_n 0, 1) := by decide +kernel
theorem d10_80 : decode prog_23_method_4_code 80 = .ok (.iload 8, 2) := by decide +kernel
theorem d10_82 : decode prog_23_method_4_code 82 = .ok (.lload_n 3, 1) := by decide +kernel
theorem d10_83 : decode prog_23_method_4_code 83 = .ok (.invokevirtual 50, 3) := by decide +kernel
theorem d10_86 : decode prog_23_method_4_code 86 = .ok (.lstore 9, 2) := by decide +kernel
theorem d10_88 : decode prog_23_method_4_code 88 = .ok (.lload 9, 2) := by decide +kernel
theorem d10_90 : decode prog_23_method_4_code 90 = .ok (.aload_n 0, 1) := by decide +kernel
theorem d10_91 : decode prog_23_method_4_code 91 = .ok (.getfield 21, 3) := by decide +kernel
theorem d10_94 : decode prog_23_method_4_code 94 = .ok (.lcmp, 1) := by decide +kernel
theorem d10_95 : decode prog_23_method_4_code 95 = .ok (.ifCond .le 7, 3) := by decide +kernel
theorem d10_98 : decode prog_23_method_4_code 98 = .ok (.ldc2_w 54, 3) := by decide +kernel
theorem d10_101 : decode prog_23_method_4_code 101 = .ok (.lreturn, 1) := by decide +kernel
theorem d10_102 : decode prog_23_method_4_code 102 = .ok (.lload 9, 2) := by decide +kernel
theorem d10_104 : decode prog_23_method_4_code 104 = .ok (.ldc2_w 56, 3) := by decide +kernel
theorem d10_107 : decode prog_23_method_4_code 107 = .ok (.lmul, 1) := by decide +kernel
theorem d10_108 : decode prog_23_method_4_code 108 = .ok (.iload 8, 2) := by decide +kernel
theorem d10_110 : decode prog_23_method_4_code 110 = .ok (.bipush 31, 2) := by decide +kernel
theorem d10_112 : decode prog_23_method_4_code 112 = .ok (.iushr, 1) := by decide +kernel
theorem d10_113 : decode prog_23_method_4_code 113 = .ok (.i2l, 1) := by decide +kernel
theorem d10_114 : decode prog_23_method_4_code 114 = .ok (.ladd, 1) := by decide +kernel
theorem d10_115 : decode prog_23_method_4_code 115 = .ok (.lreturn, 1) := by decide +kernel
theorem d10_116 : decode prog_23_method_4_code 116 = .ok (.iinc 6 1, 3) := by decide +kernel
theorem d10_119 : decode prog_23_method_4_code 119 = .ok (.goto (-98), 3) := by decide +kernel
theorem d10_122 : decode prog_23_method_4_code 122 = .ok (.ldc2_w 54, 3) := by decide +kernel
theorem d10_125 : decode prog_23_method_4_code 125 = .ok (.lreturn, 1) := by decide +kernel
theorem ef_Hit (m : MethodId) (x0 : Addr) (x1 : Int64) (x2 : Int64) : entryFrame m #[(.ref x0), (.long x1), (.long x2)] 11 = mkF m 0 #[.val (.ref x0), .val (.long x1), .second, .val (.long x2), .second, .unset, .unset, .unset, .unset, .unset, .unset] [] := by first | (simp [entryFrame, mkF, argsToLocals, Value.category]; done) | rfl
def QHit (a1 : Addr) (q2 : Int64) (q3 : Int64) (x3 : Addr) (k3 : ClassId) (z3 : Int32) (hs : List (Int32 × Value)) (u : Int64) (hz0 : Int64) (rc : Int32) (h0 : Heap) (n0 : Nat) (Z : State) (v : Option Value) (h : Heap) (L : List Loc) : Prop := v = some (.long (own_tk rc q3 u)) ∧ Fr n0 L ∧ Keep h0 h [x3] ∧ Arh Z h x3 k3 .int z3 (((own_i1 q2 z3), (.int (0 : Int32))) :: hs) [] (.int (0 : Int32))
set_option maxRecDepth 65536 in
set_option maxHeartbeats 40000000 in
theorem rmHit (l : Launch) (Z : State) (a0 : Array Value) (hw : ∀ d ∈ tables_1, d.before a0 Z = true) (ws : List Jvm.Cond) (a1 : Addr) (q2 : Int64) (q3 : Int64) (x3 : Addr) (k3 : ClassId) (z3 : Int32) (hs : List (Int32 × Value)) (u : Int64) (hz0 : Int64) (rc : Int32) (h0 : Heap) (n0 : Nat) (Z0 : n0 ≤ h0.size) (E1 : Exa Z h0 a1 "com/example/unutkan/unutkan/core/RecentEvictions") (F1 : Fld Z h0 a1 "com/example/unutkan/unutkan/core/RecentEvictions" "unit" "J" (.long u)) (F3 : Fld Z h0 a1 "com/example/unutkan/unutkan/core/RecentEvictions" "slots" "[I" (.ref x3)) (H3 : Arh Z h0 x3 k3 .int z3 hs [] (.int (0 : Int32))) (g3 : n0 ≤ x3) (hne : a1 ≠ x3) (hu : ¬ u = 0) (hz : 0 < z3) (F2 : Fld Z h0 a1 "com/example/unutkan/unutkan/core/RecentEvictions" "horizon" "J" (.long hz0)) (h1 : getH hs [] (.int (0 : Int32)) (own_i1 q2 z3).toNatClampNeg = .int rc) (hr0 : ¬ rc = 0) (hrf : own_fo rc = own_fp q2) (hra : ¬ hz0 < own_age rc q3 u) :
    MetFree l (⟨"com/example/unutkan/unutkan/core/RecentEvictions", "take", "(JJ)J"⟩ : MethodName) (head1 (Jvm.Cond.code (⟨"com/example/unutkan/unutkan/core/RecentEvictions", "take", "(JJ)J"⟩ : MethodName) prog_23_method_4_code 11 (some .long) :: ws) ({ frames := 2, cells := 0, slots := 0, locals := 60 } : Room)) (fun a U => a = #[(.ref a1), (.long q2), (.long q3)] ∧ Z.Warmed39 U.vm ∧ U.heap = h0) (fun _ _ _ _ _ => True) (fun _ U o U' => ∃ v L, o = .returned v ∧ QHit a1 q2 q3 x3 k3 z3 hs u hz0 rc h0 n0 Z v U'.heap L ∧ FrameEnd U o U' L ({ frames := 2, cells := 0, slots := 0, locals := 60 } : Room).cells ({ frames := 2, cells := 0, slots := 0, locals := 60 } : Room).slots) := by
  refine MetFree.of_bodySF (plainFor_of_name pn_0) hisR ?_
  intro p e s m args below meth c s₁ Bd hml0 hP hK
  obtain ⟨rfl, hZ, hh⟩ := hP
  have hx := Bd.exec
  have hby := Bd.bytes
  have hml : c.maxLocals = 11 := hml0
  have hown : s.vm.findClass "com/example/unutkan/unutkan/core/RecentEvictions" = some m.cls := findClass_of_methodNamed Bd.named
  have hnm := (name_of_methodNamed Bd.named Bd.method).1
  have hlk := Bd.notSynchronized
  have hrt := Bd.returns
  have X0 : Stand p l e ({ frames := 2, cells := 0, slots := 0, locals := 60 } : Room) s m #[(.ref a1), (.long q2), (.long q3)] below meth c s₁ [] 0 0 := Stand.of_body Bd
  have e0 : s₁.heap = h0 := by rw [← hh, Bd.state]; rfl
  have N0 := Fr.nil n0
  show own_Ends p e below s (QHit a1 q2 q3 x3 k3 z3 hs u hz0 rc h0 n0 Z) ({ frames := 2, cells := 0, slots := 0, locals := 60 } : Room).cells ({ frames := 2, cells := 0, slots := 0, locals := 60 } : Room).slots (s₁.setTop (entryFrame m #[(.ref a1), (.long q2), (.long q3)] 11))
  rw [ef_Hit]
  have K0 : Keep h0 h0 [x3] := Keep.refl h0 [x3]
  refine own_go (fun _ k => XS.aloadN X0.here hx rfl (hb hby d10_0) rfl rfl <| k) ?_
  show own_Ends p e below s _ _ _ (s₁.setTop (mkF m 1 #[.val (.ref a1), .val (.long q2), .second, .val (.long q3), .second, .unset, .unset, .unset, .unset, .unset, .unset] [(.ref a1)]))
  obtain ⟨T1, X1, e1, st1⟩ := getF X0 hx hZ hown (host := "") (Or.inl (hw _ (List.mem_of_getElem? (i := 20) rfl))) Via.refl e0 F3 (g := (mkF m 1 #[.val (.ref a1), .val (.long q2), .second, .val (.long q3), .second, .unset, .unset, .unset, .unset, .unset, .unset] [(.ref a1)])) rfl rfl (hb hby d10_1)
  refine own_go st1 ?_
  show own_Ends p e below s _ _ _ (T1.setTop (mkF m 4 #[.val (.ref a1), .val (.long q2), .second, .val (.long q3), .second, .unset, .unset, .unset, .unset, .unset, .unset] [(.ref x3)]))
  obtain ⟨clx3_4_2, Arx3_4_2, qqx3_4_2, Szx3_4_2, Ngx3_4_2, Hsx3_4_2, Gfx3_4_2⟩ := id H3
  refine own_go (fun _ k => X1.arraylength hx (by first | exact Arx3_4_2.1 | (rw [e1]; exact Arx3_4_2.1)) (State.isArrayOf_alike hZ.alike Arx3_4_2.2.1) (g := (mkF m 4 #[.val (.ref a1), .val (.long q2), .second, .val (.long q3), .second, .unset, .unset, .unset, .unset, .unset, .unset] [(.ref x3)])) rfl rfl (hb hby d10_4) _ k) ?_
  rw [len_of Szx3_4_2 Ngx3_4_2]
  show own_Ends p e below s _ _ _ (T1.setTop (mkF m 5 #[.val (.ref a1), .val (.long q2), .second, .val (.long q3), .second, .unset, .unset, .unset, .unset, .unset, .unset] [(.int z3)]))
  refine own_go (fun _ k => XS.ifYes X1.here hx rfl (pc0 := 5) (pc' := 12) rfl (hb hby d10_5) rfl ((if0 _ _).trans (feq (own_pos_ne hz)).2) (by decide) (by decide) <| XS.lloadN X1.here hx rfl (hb hby d10_12) rfl <| k) ?_
  show own_Ends p e below s _ _ _ (T1.setTop (mkF m 13 #[.val (.ref a1), .val (.long q2), .second, .val (.long q3), .second, .unset, .unset, .unset, .unset, .unset, .unset] [(.long q2)]))
  obtain ⟨_, _, ⟨T3, L3, k3, n3⟩, -, X3, ⟨Lc3, hQ3, l3, y3, z3⟩, st3⟩ := Jvm.LawKit.callS X1 hx (y := (⟨"com/example/unutkan/unutkan/core/RecentEvictions", "fingerprint", "(J)I"⟩ : MethodName)) hown (mvT hZ (hw _ (List.mem_of_getElem? (i := 34) rfl))) (mvT hZ (hw _ (List.mem_of_getElem? (i := 35) rfl))) (mvT hZ (hw _ (List.mem_of_getElem? (i := 3) rfl))) (mvT hZ (hw _ (List.mem_of_getElem? (i := 36) rfl))) (by decide) (backOf (W := 0) (rm6 l Z a0 hw [] q2 h0 n0 Z0) hZ (hw _ (List.mem_of_getElem? (i := 36) rfl)) (hw _ (List.mem_of_getElem? (i := 3) rfl)) (by decide) (by decide)) (g := (mkF m 13 #[.val (.ref a1), .val (.long q2), .second, .val (.long q3), .second, .unset, .unset, .unset, .unset, .unset, .unset] [(.long q2)])) rfl (by rw [hml]; rfl) (argsL := [(.long q2)]) (rest := []) (lenOf pd_5 rfl) rfl (by show 2 * 0 + _ ≤ _; exact Nat.le_of_eq rfl) (hb hby d10_13) (fun _ _ => ⟨rfl, e1, Nat.le_of_ble_eq_true rfl, Nat.le_of_ble_eq_true rfl⟩)
  dsimp only [Pt.U, Pt.locs, Pt.cells, Pt.slots] at X3 l3 y3 z3 st3 hQ3
  subst l3 y3 z3
  obtain ⟨rfl, N3q, e3⟩ := hQ3
  have N3 := Fr.app N0 N3q
  refine own_go (fun _ k => st3 _ k) ?_
  show own_Ends p e below s _ _ _ (T3.setTop (mkF m 16 #[.val (.ref a1), .val (.long q2), .second, .val (.long q3), .second, .unset, .unset, .unset, .unset, .unset, .unset] [(.int (own_fp q2))]))
  refine own_go (fun _ k => XS.istore X3.here hx rfl (hb hby d10_16) rfl (l' := #[.val (.ref a1), .val (.long q2), .second, .val (.long q3), .second, .val (.int (own_fp q2)), .unset, .unset, .unset, .unset, .unset]) rfl <| XT.iconstV X3.here hx rfl (0 : Int32) (hb hby d10_18) rfl <| XS.istore X3.here hx rfl (hb hby d10_19) rfl (l' := #[.val (.ref a1), .val (.long q2), .second, .val (.long q3), .second, .val (.int (own_fp q2)), .val (.int (0 : Int32)), .unset, .unset, .unset, .unset]) rfl <| XS.iload X3.here hx rfl (hb hby d10_21) rfl <| XT.iconstV X3.here hx rfl (2 : Int32) (hb hby d10_23) rfl <| XS.icmpNo X3.here hx rfl (hb hby d10_24) rfl (tlt (by decide)).2.1 <| XS.iload X3.here hx rfl (hb hby d10_27) rfl <| XS.ifNo X3.here hx rfl (hb hby d10_29) rfl ((if0 _ _).trans (teq (by decide)).2) <| XS.aloadN X3.here hx rfl (hb hby d10_32) rfl rfl <| XS.lloadN X3.here hx rfl (hb hby d10_33) rfl <| k) ?_
  show own_Ends p e below s _ _ _ (T3.setTop (mkF m 34 #[.val (.ref a1), .val (.long q2), .second, .val (.long q3), .second, .val (.int (own_fp q2)), .val (.int (0 : Int32)), .unset, .unset, .unset, .unset] [(.long q2), (.ref a1)]))
  obtain ⟨cq4, uq4, uq4'⟩ := E1.cell
  obtain ⟨_, _, ⟨T4, L4, k4, n4⟩, -, X4, ⟨Lc4, hQ4, l4, y4, z4⟩, st4⟩ := X3.privateBack hx (y := (⟨"com/example/unutkan/unutkan/core/RecentEvictions", "first", "(J)I"⟩ : MethodName)) hown (mvT hZ (hw _ (List.mem_of_getElem? (i := 43) rfl))) (mvT hZ (hw _ (List.mem_of_getElem? (i := 44) rfl))) (own_selp (mvT hZ (hw _ (List.mem_of_getElem? (i := 2) rfl))) (mvP hZ (hw _ (List.mem_of_getElem? (i := 45) rfl))) (mvT hZ (hw _ (List.mem_of_getElem? (i := 44) rfl))) (by decide)) (Cond.privateMethod_at (mvP hZ (hw _ (List.mem_of_getElem? (i := 45) rfl)) (args := #[]))) (mvT hZ (hw _ (List.mem_of_getElem? (i := 46) rfl))) (by decide) (backOf (W := 0) (rm8 l Z a0 hw [] a1 q2 x3 k3 z3 hs h0 n0 Z0 F3 H3) hZ (hw _ (List.mem_of_getElem? (i := 46) rfl)) (hw _ (List.mem_of_getElem? (i := 3) rfl)) (by decide) (by decide)) (g := (mkF m 34 #[.val (.ref a1), .val (.long q2), .second, .val (.long q3), .second, .val (.int (own_fp q2)), .val (.int (0 : Int32)), .unset, .unset, .unset, .unset] [(.long q2), (.ref a1)])) rfl (by rw [hml]; rfl) (Steps.refl _) (a := a1) (by rw [e3]; exact uq4) uq4' (argsL := [(.long q2)]) (rest := []) (lenOf pd_5 rfl) rfl (by show 2 * 0 + _ ≤ _; exact Nat.le_of_eq rfl) (hb hby d10_34) (fun _ _ => ⟨rfl, e3, Nat.le_of_ble_eq_true rfl, Nat.le_of_ble_eq_true rfl⟩)
  dsimp only [Pt.U, Pt.locs, Pt.cells, Pt.slots] at X4 l4 y4 z4 st4 hQ4
  subst l4 y4 z4
  obtain ⟨rfl, N4q, e4⟩ := hQ4
  have N4 := Fr.app N3 N4q
  refine own_go (fun _ k => st4.trans k) ?_
  show own_Ends p e below s _ _ _ (T4.setTop (mkF m 37 #[.val (.ref a1), .val (.long q2), .second, .val (.long q3), .second, .val (.int (own_fp q2)), .val (.int (0 : Int32)), .unset, .unset, .unset, .unset] [(.int (own_i1 q2 z3))]))
  refine own_go (fun _ k => XS.goto X4.here hx rfl (pc0 := 37) (pc' := 45) rfl (hb hby d10_37) (by decide) (by decide) <| XS.istore X4.here hx rfl (hb hby d10_45) rfl (l' := #[.val (.ref a1), .val (.long q2), .second, .val (.long q3), .second, .val (.int (own_fp q2)), .val (.int (0 : Int32)), .val (.int (own_i1 q2 z3)), .unset, .unset, .unset]) rfl <| XS.aloadN X4.here hx rfl (hb hby d10_47) rfl rfl <| k) ?_
  show own_Ends p e below s _ _ _ (T4.setTop (mkF m 48 #[.val (.ref a1), .val (.long q2), .second, .val (.long q3), .second, .val (.int (own_fp q2)), .val (.int (0 : Int32)), .val (.int (own_i1 q2 z3)), .unset, .unset, .unset] [(.ref a1)]))
  obtain ⟨T5, X5, e5, st5⟩ := getF X4 hx hZ hown (host := "") (Or.inl (hw _ (List.mem_of_getElem? (i := 20) rfl))) Via.refl e4 F3 (g := (mkF m 48 #[.val (.ref a1), .val (.long q2), .second, .val (.long q3), .second, .val (.int (own_fp q2)), .val (.int (0 : Int32)), .val (.int (own_i1 q2 z3)), .unset, .unset, .unset] [(.ref a1)])) rfl rfl (hb hby d10_48)
  refine own_go st5 ?_
  show own_Ends p e below s _ _ _ (T5.setTop (mkF m 51 #[.val (.ref a1), .val (.long q2), .second, .val (.long q3), .second, .val (.int (own_fp q2)), .val (.int (0 : Int32)), .val (.int (own_i1 q2 z3)), .unset, .unset, .unset] [(.ref x3)]))
  refine own_go (fun _ k => XS.iload X5.here hx rfl (hb hby d10_51) rfl <| k) ?_
  show own_Ends p e below s _ _ _ (T5.setTop (mkF m 53 #[.val (.ref a1), .val (.long q2), .second, .val (.long q3), .second, .val (.int (own_fp q2)), .val (.int (0 : Int32)), .val (.int (own_i1 q2 z3)), .unset, .unset, .unset] [(.int (own_i1 q2 z3)), (.ref x3)]))
  obtain ⟨clx3_53_6, Arx3_53_6, qqx3_53_6, Szx3_53_6, Ngx3_53_6, Hsx3_53_6, Gfx3_53_6⟩ := id H3
  have hinx3_53_6 : ¬ ((own_i1 q2 z3) < 0 ∨ clx3_53_6.slots.size ≤ ((own_i1 q2 z3)).toNatClampNeg) := inb_of Szx3_53_6 (own_i1_in q2 hz)
  have hatx3_53_6 : clx3_53_6.slots[((own_i1 q2 z3)).toNatClampNeg]? = some (.int rc) := atH Hsx3_53_6 hinx3_53_6 h1
  refine own_go (fun _ k => X5.iaload hx (j := (own_i1 q2 z3)) (v := (.int rc)) (by first | exact Arx3_53_6.1 | (rw [e5]; exact Arx3_53_6.1)) (State.isArrayOf_alike hZ.alike Arx3_53_6.2.1) Arx3_53_6.2.2 hinx3_53_6 hatx3_53_6 (g := (mkF m 53 #[.val (.ref a1), .val (.long q2), .second, .val (.long q3), .second, .val (.int (own_fp q2)), .val (.int (0 : Int32)), .val (.int (own_i1 q2 z3)), .unset, .unset, .unset] [(.int (own_i1 q2 z3)), (.ref x3)])) rfl rfl (hb hby d10_53) _ k) ?_
  show own_Ends p e below s _ _ _ (T5.setTop (mkF m 54 #[.val (.ref a1), .val (.long q2), .second, .val (.long q3), .second, .val (.int (own_fp q2)), .val (.int (0 : Int32)), .val (.int (own_i1 q2 z3)), .unset, .unset, .unset] [(.int rc)]))
  refine own_go (fun _ k => XS.istore X5.here hx rfl (hb hby d10_54) rfl (l' := #[.val (.ref a1), .val (.long q2), .second, .val (.long q3), .second, .val (.int (own_fp q2)), .val (.int (0 : Int32)), .val (.int (own_i1 q2 z3)), .val (.int rc), .unset, .unset]) rfl <| XS.iload X5.here hx rfl (hb hby d10_56) rfl <| XS.ifNo X5.here hx rfl (hb hby d10_58) rfl ((if0 _ _).trans (feq hr0).1) <| XS.iload X5.here hx rfl (hb hby d10_61) rfl <| k) ?_
  show own_Ends p e below s _ _ _ (T5.setTop (mkF m 63 #[.val (.ref a1), .val (.long q2), .second, .val (.long q3), .second, .val (.int (own_fp q2)), .val (.int (0 : Int32)), .val (.int (own_i1 q2 z3)), .val (.int rc), .unset, .unset] [(.int rc)]))
  obtain ⟨_, _, ⟨T7, L7, k7, n7⟩, -, X7, ⟨Lc7, hQ7, l7, y7, z7⟩, st7⟩ := Jvm.LawKit.callS X5 hx (y := (⟨"com/example/unutkan/unutkan/core/RecentEvictions", "fingerprintOf", "(I)I"⟩ : MethodName)) hown (mvT hZ (hw _ (List.mem_of_getElem? (i := 61) rfl))) (mvT hZ (hw _ (List.mem_of_getElem? (i := 62) rfl))) (mvT hZ (hw _ (List.mem_of_getElem? (i := 3) rfl))) (mvT hZ (hw _ (List.mem_of_getElem? (i := 63) rfl))) (by decide) (backOf (W := 0) (rm12 l Z a0 hw [] rc h0 n0 Z0) hZ (hw _ (List.mem_of_getElem? (i := 63) rfl)) (hw _ (List.mem_of_getElem? (i := 3) rfl)) (by decide) (by decide)) (g := (mkF m 63 #[.val (.ref a1), .val (.long q2), .second, .val (.long q3), .second, .val (.int (own_fp q2)), .val (.int (0 : Int32)), .val (.int (own_i1 q2 z3)), .val (.int rc), .unset, .unset] [(.int rc)])) rfl (by rw [hml]; rfl) (argsL := [(.int rc)]) (rest := []) (lenOf pd_7 rfl) rfl (by show 2 * 0 + _ ≤ _; exact Nat.le_of_eq rfl) (hb hby d10_63) (fun _ _ => ⟨rfl, e5, Nat.le_of_ble_eq_true rfl, Nat.le_of_ble_eq_true rfl⟩)
  dsimp only [Pt.U, Pt.locs, Pt.cells, Pt.slots] at X7 l7 y7 z7 st7 hQ7
  subst l7 y7 z7
  obtain ⟨rfl, N7q, e7⟩ := hQ7
  have N7 := Fr.app N4 N7q
  refine own_go (fun _ k => st7 _ k) ?_
  show own_Ends p e below s _ _ _ (T7.setTop (mkF m 66 #[.val (.ref a1), .val (.long q2), .second, .val (.long q3), .second, .val (.int (own_fp q2)), .val (.int (0 : Int32)), .val (.int (own_i1 q2 z3)), .val (.int rc), .unset, .unset] [(.int (own_fo rc))]))
  refine own_go (fun _ k => XS.iload X7.here hx rfl (hb hby d10_66) rfl <| XS.icmpNo X7.here hx rfl (hb hby d10_68) rfl (teq hrf).2 <| XS.aloadN X7.here hx rfl (hb hby d10_71) rfl rfl <| k) ?_
  show own_Ends p e below s _ _ _ (T7.setTop (mkF m 72 #[.val (.ref a1), .val (.long q2), .second, .val (.long q3), .second, .val (.int (own_fp q2)), .val (.int (0 : Int32)), .val (.int (own_i1 q2 z3)), .val (.int rc), .unset, .unset] [(.ref a1)]))
  obtain ⟨T8, X8, e8, st8⟩ := getF X7 hx hZ hown (host := "") (Or.inl (hw _ (List.mem_of_getElem? (i := 20) rfl))) Via.refl e7 F3 (g := (mkF m 72 #[.val (.ref a1), .val (.long q2), .second, .val (.long q3), .second, .val (.int (own_fp q2)), .val (.int (0 : Int32)), .val (.int (own_i1 q2 z3)), .val (.int rc), .unset, .unset] [(.ref a1)])) rfl rfl (hb hby d10_72)
  refine own_go st8 ?_
  show own_Ends p e below s _ _ _ (T8.setTop (mkF m 75 #[.val (.ref a1), .val (.long q2), .second, .val (.long q3), .second, .val (.int (own_fp q2)), .val (.int (0 : Int32)), .val (.int (own_i1 q2 z3)), .val (.int rc), .unset, .unset] [(.ref x3)]))
  refine own_go (fun _ k => XS.iload X8.here hx rfl (hb hby d10_75) rfl <| XT.iconstV X8.here hx rfl (0 : Int32) (hb hby d10_77) rfl <| k) ?_
  show own_Ends p e below s _ _ _ (T8.setTop (mkF m 78 #[.val (.ref a1), .val (.long q2), .second, .val (.long q3), .second, .val (.int (own_fp q2)), .val (.int (0 : Int32)), .val (.int (own_i1 q2 z3)), .val (.int rc), .unset, .unset] [(.int (0 : Int32)), (.int (own_i1 q2 z3)), (.ref x3)]))
  obtain ⟨clx3_78_9, Arx3_78_9, qqx3_78_9, Szx3_78_9, Ngx3_78_9, Hsx3_78_9, Gfx3_78_9⟩ := id H3
  have hinx3_78_9 : ¬ ((own_i1 q2 z3) < 0 ∨ clx3_78_9.slots.size ≤ ((own_i1 q2 z3)).toNatClampNeg) := inb_of Szx3_78_9 (own_i1_in q2 hz)
  obtain ⟨T10, h10, X10, e10, W10, st10⟩ := stI X8 hx hZ e8 Arx3_78_9 (j := (own_i1 q2 z3)) hinx3_78_9 (g := (mkF m 78 #[.val (.ref a1), .val (.long q2), .second, .val (.long q3), .second, .val (.int (own_fp q2)), .val (.int (0 : Int32)), .val (.int (own_i1 q2 z3)), .val (.int rc), .unset, .unset] [(.int (0 : Int32)), (.int (own_i1 q2 z3)), (.ref x3)])) rfl rfl (hb hby d10_78)
  refine own_go st10 ?_
  have E1'10 := E1.wr W10
  have F1'10 := F1.other W10 (Or.inl hne)
  have F3'10 := F3.other W10 (Or.inl hne)
  have F2'10 := F2.other W10 (Or.inl hne)
  have Z10 := Nat.le_trans Z0 (Keep.of_wr W10).1
  have K10' := K0.wr W10 (Or.inl (List.mem_of_getElem? (i := 0) rfl))
  have N10 := Fr.snoc X10 N7 g3
  have H3'10 : Arh Z h10 x3 k3 .int z3 (((own_i1 q2 z3), (.int (0 : Int32))) :: hs) [] (.int (0 : Int32)) := Arh.push Arx3_78_9 qqx3_78_9 Szx3_78_9 Ngx3_78_9 Hsx3_78_9 Gfx3_78_9 rfl W10 hinx3_78_9
  show own_Ends p e below s _ _ _ (T10.setTop (mkF m 79 #[.val (.ref a1), .val (.long q2), .second, .val (.long q3), .second, .val (.int (own_fp q2)), .val (.int (0 : Int32)), .val (.int (own_i1 q2 z3)), .val (.int rc), .unset, .unset] []))
  refine own_go (fun _ k => XS.aloadN X10.here hx rfl (hb hby d10_79) rfl rfl <| XS.iload X10.here hx rfl (hb hby d10_80) rfl <| XS.lloadN X10.here hx rfl (hb hby d10_82) rfl <| k) ?_
  show own_Ends p e below s _ _ _ (T10.setTop (mkF m 83 #[.val (.ref a1), .val (.long q2), .second, .val (.long q3), .second, .val (.int (own_fp q2)), .val (.int (0 : Int32)), .val (.int (own_i1 q2 z3)), .val (.int rc), .unset, .unset] [(.long q3), (.int rc), (.ref a1)]))
  obtain ⟨cq11, uq11, uq11'⟩ := E1'10.cell
  obtain ⟨_, _, ⟨T11, L11, k11, n11⟩, -, X11, ⟨Lc11, hQ11, l11, y11, z11⟩, st11⟩ := X10.privateBack hx (y := (⟨"com/example/unutkan/unutkan/core/RecentEvictions", "ageOf", "(IJ)J"⟩ : MethodName)) hown (mvT hZ (hw _ (List.mem_of_getElem? (i := 64) rfl))) (mvT hZ (hw _ (List.mem_of_getElem? (i := 65) rfl))) (own_selp (mvT hZ (hw _ (List.mem_of_getElem? (i := 2) rfl))) (mvP hZ (hw _ (List.mem_of_getElem? (i := 66) rfl))) (mvT hZ (hw _ (List.mem_of_getElem? (i := 65) rfl))) (by decide)) (Cond.privateMethod_at (mvP hZ (hw _ (List.mem_of_getElem? (i := 66) rfl)) (args := #[]))) (mvT hZ (hw _ (List.mem_of_getElem? (i := 67) rfl))) (by decide) (backOf (W := 0) (rm13 l Z a0 hw [] a1 rc q3 u h10 n0 Z10 E1'10 F1'10 hu) hZ (hw _ (List.mem_of_getElem? (i := 67) rfl)) (hw _ (List.mem_of_getElem? (i := 3) rfl)) (by decide) (by decide)) (g := (mkF m 83 #[.val (.ref a1), .val (.long q2), .second, .val (.long q3), .second, .val (.int (own_fp q2)), .val (.int (0 : Int32)), .val (.int (own_i1 q2 z3)), .val (.int rc), .unset, .unset] [(.long q3), (.int rc), (.ref a1)])) rfl (by rw [hml]; rfl) (Steps.refl _) (a := a1) (by rw [e10]; exact uq11) uq11' (argsL := [(.int rc), (.long q3)]) (rest := []) (lenOf pd_8 rfl) rfl (by show 2 * 0 + _ ≤ _; exact Nat.le_of_eq rfl) (hb hby d10_83) (fun _ _ => ⟨rfl, e10, Nat.le_of_ble_eq_true rfl, Nat.le_of_ble_eq_true rfl⟩)
  dsimp only [Pt.U, Pt.locs, Pt.cells, Pt.slots] at X11 l11 y11 z11 st11 hQ11
  subst l11 y11 z11
  obtain ⟨rfl, N11q, e11⟩ := hQ11
  have N11 := Fr.app N10 N11q
  refine own_go (fun _ k => st11.trans k) ?_
  show own_Ends p e below s _ _ _ (T11.setTop (mkF m 86 #[.val (.ref a1), .val (.long q2), .second, .val (.long q3), .second, .val (.int (own_fp q2)), .val (.int (0 : Int32)), .val (.int (own_i1 q2 z3)), .val (.int rc), .unset, .unset] [(.long (own_age rc q3 u))]))
  refine own_go (fun _ k => XS.lstore X11.here hx rfl (hb hby d10_86) rfl (l' := #[.val (.ref a1), .val (.long q2), .second, .val (.long q3), .second, .val (.int (own_fp q2)), .val (.int (0 : Int32)), .val (.int (own_i1 q2 z3)), .val (.int rc), .val (.long (own_age rc q3 u)), .second]) rfl <| XS.lload X11.here hx rfl (hb hby d10_88) rfl <| XS.aloadN X11.here hx rfl (hb hby d10_90) rfl rfl <| k) ?_
  show own_Ends p e below s _ _ _ (T11.setTop (mkF m 91 #[.val (.ref a1), .val (.long q2), .second, .val (.long q3), .second, .val (.int (own_fp q2)), .val (.int (0 : Int32)), .val (.int (own_i1 q2 z3)), .val (.int rc), .val (.long (own_age rc q3 u)), .second] [(.ref a1), (.long (own_age rc q3 u))]))
  obtain ⟨T12, X12, e12, st12⟩ := getF X11 hx hZ hown (host := "") (Or.inl (hw _ (List.mem_of_getElem? (i := 17) rfl))) Via.refl e11 F2'10 (g := (mkF m 91 #[.val (.ref a1), .val (.long q2), .second, .val (.long q3), .second, .val (.int (own_fp q2)), .val (.int (0 : Int32)), .val (.int (own_i1 q2 z3)), .val (.int rc), .val (.long (own_age rc q3 u)), .second] [(.ref a1), (.long (own_age rc q3 u))])) rfl rfl (hb hby d10_91)
  refine own_go st12 ?_
  show own_Ends p e below s _ _ _ (T12.setTop (mkF m 94 #[.val (.ref a1), .val (.long q2), .second, .val (.long q3), .second, .val (.int (own_fp q2)), .val (.int (0 : Int32)), .val (.int (own_i1 q2 z3)), .val (.int rc), .val (.long (own_age rc q3 u)), .second] [(.long hz0), (.long (own_age rc q3 u))]))
  refine own_go (fun _ k => XS.lcmp X12.here hx rfl (hb hby d10_94) rfl <| XS.ifYes X12.here hx rfl (pc0 := 95) (pc' := 102) rfl (hb hby d10_95) rfl ((if0 _ _).trans (flt (fun q => hra ((lw_gt _ _).mp q))).2.2.2) (by decide) (by decide) <| XS.lload X12.here hx rfl (hb hby d10_102) rfl <| X12.ldc2J hx hown (mvT hZ (hw _ (List.mem_of_getElem? (i := 68) rfl))) rfl (hb hby d10_104) <| XS.lmul X12.here hx rfl (hb hby d10_107) rfl <| XS.iload X12.here hx rfl (hb hby d10_108) rfl <| XT.bipushV X12.here hx rfl (31 : Int32) (hb hby d10_110) rfl <| XS.iushr X12.here hx rfl (hb hby d10_112) rfl <| XS.i2l X12.here hx rfl (hb hby d10_113) rfl <| XS.ladd X12.here hx rfl (hb hby d10_114) rfl <| k) ?_
  show own_Ends p e below s _ _ _ (T12.setTop (mkF m 115 #[.val (.ref a1), .val (.long q2), .second, .val (.long q3), .second, .val (.int (own_fp q2)), .val (.int (0 : Int32)), .val (.int (own_i1 q2 z3)), .val (.int rc), .val (.long (own_age rc q3 u)), .second] [(.long (((own_age rc q3 u) * (2 : Int64)) + (((rc.toUInt32 >>> ((31 : Int32) &&& 31).toUInt32).toInt32).toInt64)))]))
  exact own_ret X12 hx hrt rfl (Or.inr (Or.inl ⟨rfl, rfl, _, rfl⟩)) (hb hby d10_115) hlk (by rw [e12]; exact ⟨rfl, N11, K10', H3'10⟩) (by decide) (by decide)
theorem ef_Miss (m : MethodId) (x0 : Addr) (x1 : Int64) (x2 : Int64) : entryFrame m #[(.ref x0), (.long x1), (.long x2)] 11 = mkF m 0 #[.val (.ref x0), .val (.long x1), .second, .val (.long x2), .second, .unset, .unset, .unset, .unset, .unset, .unset] [] := by first | (simp [entryFrame, mkF, argsToLocals, Value.category]; done) | rfl
def QMiss (a1 : Addr) (q2 : Int64) (q3 : Int64) (x3 : Addr) (k3 : ClassId) (z3 : Int32) (hs : List (Int32 × Value)) (u : Int64) (h0 : Heap) (n0 : Nat) (Z : State) (v : Option Value) (h : Heap) (L : List Loc) : Prop := v = some (.long (-1 : Int64)) ∧ Fr n0 L ∧ h = h0
set_option maxRecDepth 65536 in
set_option maxHeartbeats 40000000 in
theorem rmMiss (l : Launch) (Z : State) (a0 : Array Value) (hw : ∀ d ∈ tables_1, d.before a0 Z = true) (ws : List Jvm.Cond) (a1 : Addr) (q2 : Int64) (q3 : Int64) (x3 : Addr) (k3 : ClassId) (z3 : Int32) (hs : List (Int32 × Value)) (u : Int64) (h0 : Heap) (n0 : Nat) (Z0 : n0 ≤ h0.size) (E1 : Exa Z h0 a1 "com/example/unutkan/unutkan/core/RecentEvictions") (F1 : Fld Z h0 a1 "com/example/unutkan/unutkan/core/RecentEvictions" "unit" "J" (.long u)) (F3 : Fld Z h0 a1 "com/example/unutkan/unutkan/core/RecentEvictions" "slots" "[I" (.ref x3)) (H3 : Arh Z h0 x3 k3 .int z3 hs [] (.int (0 : Int32))) (g3 : n0 ≤ x3) (hne : a1 ≠ x3) (hu : ¬ u = 0) (hz : 0 < z3) (h1 : getH hs [] (.int (0 : Int32)) (own_i1 q2 z3).toNatClampNeg = .int 0) (h2 : getH hs [] (.int (0 : Int32)) (own_i2 q2 z3).toNatClampNeg = .int 0) :
    MetFree l (⟨"com/example/unutkan/unutkan/core/RecentEvictions", "take", "(JJ)J"⟩ : MethodName) (head1 (Jvm.Cond.code (⟨"com/example/unutkan/unutkan/core/RecentEvictions", "take", "(JJ)J"⟩ : MethodName) prog_23_method_4_code 11 (some .long) :: ws) ({ frames := 2, cells := 0, slots := 0, locals := 60 } : Room)) (fun a U => a = #[(.ref a1), (.long q2), (.long q3)] ∧ Z.Warmed39 U.vm ∧ U.heap = h0) (fun _ _ _ _ _ => True) (fun _ U o U' => ∃ v L, o = .returned v ∧ QMiss a1 q2 q3 x3 k3 z3 hs u h0 n0 Z v U'.heap L ∧ FrameEnd U o U' L ({ frames := 2, cells := 0, slots := 0, locals := 60 } : Room).cells ({ frames := 2, cells := 0, slots := 0, locals := 60 } : Room).slots) := by
  refine MetFree.of_bodySF (plainFor_of_name pn_0) hisR ?_
  intro p e s m args below meth c s₁ Bd hml0 hP hK
  obtain ⟨rfl, hZ, hh⟩ := hP
  have hx := Bd.exec
  have hby := Bd.bytes
  have hml : c.maxLocals = 11 := hml0
  have hown : s.vm.findClass "com/example/unutkan/unutkan/core/RecentEvictions" = some m.cls := findClass_of_methodNamed Bd.named
  have hnm := (name_of_methodNamed Bd.named Bd.method).1
  have hlk := Bd.notSynchronized
  have hrt := Bd.returns
  have X0 : Stand p l e ({ frames := 2, cells := 0, slots := 0, locals := 60 } : Room) s m #[(.ref a1), (.long q2), (.long q3)] below meth c s₁ [] 0 0 := Stand.of_body Bd
  have e0 : s₁.heap = h0 := by rw [← hh, Bd.state]; rfl
  have N0 := Fr.nil n0
  show own_Ends p e below s (QMiss a1 q2 q3 x3 k3 z3 hs u h0 n0 Z) ({ frames := 2, cells := 0, slots := 0, locals := 60 } : Room).cells ({ frames := 2, cells := 0, slots := 0, locals := 60 } : Room).slots (s₁.setTop (entryFrame m #[(.ref a1), (.long q2), (.long q3)] 11))
  rw [ef_Miss]
  refine own_go (fun _ k => XS.aloadN X0.here hx rfl (hb hby d10_0) rfl rfl <| k) ?_
  show own_Ends p e below s _ _ _ (s₁.setTop (mkF m 1 #[.val (.ref a1), .val (.long q2), .second, .val (.long q3), .second, .unset, .unset, .unset, .unset, .unset, .unset] [(.ref a1)]))
  obtain ⟨T1, X1, e1, st1⟩ := getF X0 hx hZ hown (host := "") (Or.inl (hw _ (List.mem_of_getElem? (i := 20) rfl))) Via.refl e0 F3 (g := (mkF m 1 #[.val (.ref a1), .val (.long q2), .second, .val (.long q3), .second, .unset, .unset, .unset, .unset, .unset, .unset] [(.ref a1)])) rfl rfl (hb hby d10_1)
  refine own_go st1 ?_
  show own_Ends p e below s _ _ _ (T1.setTop (mkF m 4 #[.val (.ref a1), .val (.long q2), .second, .val (.long q3), .second, .unset, .unset, .unset, .unset, .unset, .unset] [(.ref x3)]))
  obtain ⟨clx3_4_2, Arx3_4_2, qqx3_4_2, Szx3_4_2, Ngx3_4_2, Hsx3_4_2, Gfx3_4_2⟩ := id H3
  refine own_go (fun _ k => X1.arraylength hx (by first | exact Arx3_4_2.1 | (rw [e1]; exact Arx3_4_2.1)) (State.isArrayOf_alike hZ.alike Arx3_4_2.2.1) (g := (mkF m 4 #[.val (.ref a1), .val (.long q2), .second, .val (.long q3), .second, .unset, .unset, .unset, .unset, .unset, .unset] [(.ref x3)])) rfl rfl (hb hby d10_4) _ k) ?_
  rw [len_of Szx3_4_2 Ngx3_4_2]
  show own_Ends p e below s _ _ _ (T1.setTop (mkF m 5 #[.val (.ref a1), .val (.long q2), .second, .val (.long q3), .second, .unset, .unset, .unset, .unset, .unset, .unset] [(.int z3)]))
  refine own_go (fun _ k => XS.ifYes X1.here hx rfl (pc0 := 5) (pc' := 12) rfl (hb hby d10_5) rfl ((if0 _ _).trans (feq (own_pos_ne hz)).2) (by decide) (by decide) <| XS.lloadN X1.here hx rfl (hb hby d10_12) rfl <| k) ?_
  show own_Ends p e below s _ _ _ (T1.setTop (mkF m 13 #[.val (.ref a1), .val (.long q2), .second, .val (.long q3), .second, .unset, .unset, .unset, .unset, .unset, .unset] [(.long q2)]))
  obtain ⟨_, _, ⟨T3, L3, k3, n3⟩, -, X3, ⟨Lc3, hQ3, l3, y3, z3⟩, st3⟩ := Jvm.LawKit.callS X1 hx (y := (⟨"com/example/unutkan/unutkan/core/RecentEvictions", "fingerprint", "(J)I"⟩ : MethodName)) hown (mvT hZ (hw _ (List.mem_of_getElem? (i := 34) rfl))) (mvT hZ (hw _ (List.mem_of_getElem? (i := 35) rfl))) (mvT hZ (hw _ (List.mem_of_getElem? (i := 3) rfl))) (mvT hZ (hw _ (List.mem_of_getElem? (i := 36) rfl))) (by decide) (backOf (W := 0) (rm6 l Z a0 hw [] q2 h0 n0 Z0) hZ (hw _ (List.mem_of_getElem? (i := 36) rfl)) (hw _ (List.mem_of_getElem? (i := 3) rfl)) (by decide) (by decide)) (g := (mkF m 13 #[.val (.ref a1), .val (.long q2), .second, .val (.long q3), .second, .unset, .unset, .unset, .unset, .unset, .unset] [(.long q2)])) rfl (by rw [hml]; rfl) (argsL := [(.long q2)]) (rest := []) (lenOf pd_5 rfl) rfl (by show 2 * 0 + _ ≤ _; exact Nat.le_of_eq rfl) (hb hby d10_13) (fun _ _ => ⟨rfl, e1, Nat.le_of_ble_eq_true rfl, Nat.le_of_ble_eq_true rfl⟩)
  dsimp only [Pt.U, Pt.locs, Pt.cells, Pt.slots] at X3 l3 y3 z3 st3 hQ3
  subst l3 y3 z3
  obtain ⟨rfl, N3q, e3⟩ := hQ3
  have N3 := Fr.app N0 N3q
  refine own_go (fun _ k => st3 _ k) ?_
  show own_Ends p e below s _ _ _ (T3.setTop (mkF m 16 #[.val (.ref a1), .val (.long q2), .second, .val (.long q3), .second, .unset, .unset, .unset, .unset, .unset, .unset] [(.int (own_fp q2))]))
  refine own_go (fun _ k => XS.istore X3.here hx rfl (hb hby d10_16) rfl (l' := #[.val (.ref a1), .val (.long q2), .second, .val (.long q3), .second, .val (.int (own_fp q2)), .unset, .unset, .unset, .unset, .unset]) rfl <| XT.iconstV X3.here hx rfl (0 : Int32) (hb hby d10_18) rfl <| XS.istore X3.here hx rfl (hb hby d10_19) rfl (l' := #[.val (.ref a1), .val (.long q2), .second, .val (.long q3), .second, .val (.int (own_fp q2)), .val (.int (0 : Int32)), .unset, .unset, .unset, .unset]) rfl <| XS.iload X3.here hx rfl (hb hby d10_21) rfl <| XT.iconstV X3.here hx rfl (2 : Int32) (hb hby d10_23) rfl <| XS.icmpNo X3.here hx rfl (hb hby d10_24) rfl (tlt (by decide)).2.1 <| XS.iload X3.here hx rfl (hb hby d10_27) rfl <| XS.ifNo X3.here hx rfl (hb hby d10_29) rfl ((if0 _ _).trans (teq (by decide)).2) <| XS.aloadN X3.here hx rfl (hb hby d10_32) rfl rfl <| XS.lloadN X3.here hx rfl (hb hby d10_33) rfl <| k) ?_
  show own_Ends p e below s _ _ _ (T3.setTop (mkF m 34 #[.val (.ref a1), .val (.long q2), .second, .val (.long q3), .second, .val (.int (own_fp q2)), .val (.int (0 : Int32)), .unset, .unset, .unset, .unset] [(.long q2), (.ref a1)]))
  obtain ⟨cq4, uq4, uq4'⟩ := E1.cell
  obtain ⟨_, _, ⟨T4, L4, k4, n4⟩, -, X4, ⟨Lc4, hQ4, l4, y4, z4⟩, st4⟩ := X3.privateBack hx (y := (⟨"com/example/unutkan/unutkan/core/RecentEvictions", "first", "(J)I"⟩ : MethodName)) hown (mvT hZ (hw _ (List.mem_of_getElem? (i := 43) rfl))) (mvT hZ (hw _ (List.mem_of_getElem? (i := 44) rfl))) (own_selp (mvT hZ (hw _ (List.mem_of_getElem? (i := 2) rfl))) (mvP hZ (hw _ (List.mem_of_getElem? (i := 45) rfl))) (mvT hZ (hw _ (List.mem_of_getElem? (i := 44) rfl))) (by decide)) (Cond.privateMethod_at (mvP hZ (hw _ (List.mem_of_getElem? (i := 45) rfl)) (args := #[]))) (mvT hZ (hw _ (List.mem_of_getElem? (i := 46) rfl))) (by decide) (backOf (W := 0) (rm8 l Z a0 hw [] a1 q2 x3 k3 z3 hs h0 n0 Z0 F3 H3) hZ (hw _ (List.mem_of_getElem? (i := 46) rfl)) (hw _ (List.mem_of_getElem? (i := 3) rfl)) (by decide) (by decide)) (g := (mkF m 34 #[.val (.ref a1), .val (.long q2), .second, .val (.long q3), .second, .val (.int (own_fp q2)), .val (.int (0 : Int32)), .unset, .unset, .unset, .unset] [(.long q2), (.ref a1)])) rfl (by rw [hml]; rfl) (Steps.refl _) (a := a1) (by rw [e3]; exact uq4) uq4' (argsL := [(.long q2)]) (rest := []) (lenOf pd_5 rfl) rfl (by show 2 * 0 + _ ≤ _; exact Nat.le_of_eq rfl) (hb hby d10_34) (fun _ _ => ⟨rfl, e3, Nat.le_of_ble_eq_true rfl, Nat.le_of_ble_eq_true rfl⟩)
  dsimp only [Pt.U, Pt.locs, Pt.cells, Pt.slots] at X4 l4 y4 z4 st4 hQ4
  subst l4 y4 z4
  obtain ⟨rfl, N4q, e4⟩ := hQ4
  have N4 := Fr.app N3 N4q
  refine own_go (fun _ k => st4.trans k) ?_
  show own_Ends p e below s _ _ _ (T4.setTop (mkF m 37 #[.val (.ref a1), .val (.long q2), .second, .val (.long q3), .second, .val (.int (own_fp q2)), .val (.int (0 : Int32)), .unset, .unset, .unset, .unset] [(.int (own_i1 q2 z3))]))
  refine own_go (fun _ k => XS.goto X4.here hx rfl (pc0 := 37) (pc' := 45) rfl (hb hby d10_37) (by decide) (by decide) <| XS.istore X4.here hx rfl (hb hby d10_45) rfl (l' := #[.val (.ref a1), .val (.long q2), .second, .val (.long q3), .second, .val (.int (own_fp q2)), .val (.int (0 : Int32)), .val (.int (own_i1 q2 z3)), .unset, .unset, .unset]) rfl <| XS.aloadN X4.here hx rfl (hb hby d10_47) rfl rfl <| k) ?_
  show own_Ends p e below s _ _ _ (T4.setTop (mkF m 48 #[.val (.ref a1), .val (.long q2), .second, .val (.long q3), .second, .val (.int (own_fp q2)), .val (.int (0 : Int32)), .val (.int (own_i1 q2 z3)), .unset, .unset, .unset] [(.ref a1)]))
  obtain ⟨T5, X5, e5, st5⟩ := getF X4 hx hZ hown (host := "") (Or.inl (hw _ (List.mem_of_getElem? (i := 20) rfl))) Via.refl e4 F3 (g := (mkF m 48 #[.val (.ref a1), .val (.long q2), .second, .val (.long q3), .second, .val (.int (own_fp q2)), .val (.int (0 : Int32)), .val (.int (own_i1 q2 z3)), .unset, .unset, .unset] [(.ref a1)])) rfl rfl (hb hby d10_48)
  refine own_go st5 ?_
  show own_Ends p e below s _ _ _ (T5.setTop (mkF m 51 #[.val (.ref a1), .val (.long q2), .second, .val (.long q3), .second, .val (.int (own_fp q2)), .val (.int (0 : Int32)), .val (.int (own_i1 q2 z3)), .unset, .unset, .unset] [(.ref x3)]))
  refine own_go (fun _ k => XS.iload X5.here hx rfl (hb hby d10_51) rfl <| k) ?_
  show own_Ends p e below s _ _ _ (T5.setTop (mkF m 53 #[.val (.ref a1), .val (.long q2), .second, .val (.long q3), .second, .val (.int (own_fp q2)), .val (.int (0 : Int32)), .val (.int (own_i1 q2 z3)), .unset, .unset, .unset] [(.int (own_i1 q2 z3)), (.ref x3)]))
  obtain ⟨clx3_53_6, Arx3_53_6, qqx3_53_6, Szx3_53_6, Ngx3_53_6, Hsx3_53_6, Gfx3_53_6⟩ := id H3
  have hinx3_53_6 : ¬ ((own_i1 q2 z3) < 0 ∨ clx3_53_6.slots.size ≤ ((own_i1 q2 z3)).toNatClampNeg) := inb_of Szx3_53_6 (own_i1_in q2 hz)
  have hatx3_53_6 : clx3_53_6.slots[((own_i1 q2 z3)).toNatClampNeg]? = some (.int (0 : Int32)) := atH Hsx3_53_6 hinx3_53_6 h1
  refine own_go (fun _ k => X5.iaload hx (j := (own_i1 q2 z3)) (v := (.int (0 : Int32))) (by first | exact Arx3_53_6.1 | (rw [e5]; exact Arx3_53_6.1)) (State.isArrayOf_alike hZ.alike Arx3_53_6.2.1) Arx3_53_6.2.2 hinx3_53_6 hatx3_53_6 (g := (mkF m 53 #[.val (.ref a1), .val (.long q2), .second, .val (.long q3), .second, .val (.int (own_fp q2)), .val (.int (0 : Int32)), .val (.int (own_i1 q2 z3)), .unset, .unset, .unset] [(.int (own_i1 q2 z3)), (.ref x3)])) rfl rfl (hb hby d10_53) _ k) ?_
  show own_Ends p e below s _ _ _ (T5.setTop (mkF m 54 #[.val (.ref a1), .val (.long q2), .second, .val (.long q3), .second, .val (.int (own_fp q2)), .val (.int (0 : Int32)), .val (.int (own_i1 q2 z3)), .unset, .unset, .unset] [(.int (0 : Int32))]))
  refine own_go (fun _ k => XS.istore X5.here hx rfl (hb hby d10_54) rfl (l' := #[.val (.ref a1), .val (.long q2), .second, .val (.long q3), .second, .val (.int (own_fp q2)), .val (.int (0 : Int32)), .val (.int (own_i1 q2 z3)), .val (.int (0 : Int32)), .unset, .unset]) rfl <| XS.iload X5.here hx rfl (hb hby d10_56) rfl <| XS.ifYes X5.here hx rfl (pc0 := 58) (pc' := 116) rfl (hb hby d10_58) rfl ((if0 _ _).trans (teq (by decide)).1) (by decide) (by decide) <| XT.iincV X5.here hx rfl (1 : Int32) (hb hby d10_116) rfl rfl (l' := #[.val (.ref a1), .val (.long q2), .second, .val (.long q3), .second, .val (.int (own_fp q2)), .val (.int (1 : Int32)), .val (.int (own_i1 q2 z3)), .val (.int (0 : Int32)), .unset, .unset]) rfl <| XS.goto X5.here hx rfl (pc0 := 119) (pc' := 21) rfl (hb hby d10_119) (by decide) (by decide) <| XS.iload X5.here hx rfl (hb hby d10_21) rfl <| XT.iconstV X5.here hx rfl (2 : Int32) (hb hby d10_23) rfl <| XS.icmpNo X5.here hx rfl (hb hby d10_24) rfl (tlt (by decide)).2.1 <| XS.iload X5.here hx rfl (hb hby d10_27) rfl <| XS.ifYes X5.here hx rfl (pc0 := 29) (pc' := 40) rfl (hb hby d10_29) rfl ((if0 _ _).trans (feq (by decide)).2) (by decide) (by decide) <| XS.aloadN X5.here hx rfl (hb hby d10_40) rfl rfl <| k) ?_
  show own_Ends p e below s _ _ _ (T5.setTop (mkF m 41 #[.val (.ref a1), .val (.long q2), .second, .val (.long q3), .second, .val (.int (own_fp q2)), .val (.int (1 : Int32)), .val (.int (own_i1 q2 z3)), .val (.int (0 : Int32)), .unset, .unset] [(.ref a1)]))
  refine own_go (fun _ k => XS.lloadN X5.here hx rfl (hb hby d10_41) rfl <| k) ?_
  show own_Ends p e below s _ _ _ (T5.setTop (mkF m 42 #[.val (.ref a1), .val (.long q2), .second, .val (.long q3), .second, .val (.int (own_fp q2)), .val (.int (1 : Int32)), .val (.int (own_i1 q2 z3)), .val (.int (0 : Int32)), .unset, .unset] [(.long q2), (.ref a1)]))
  obtain ⟨cq7, uq7, uq7'⟩ := E1.cell
  obtain ⟨_, _, ⟨T7, L7, k7, n7⟩, -, X7, ⟨Lc7, hQ7, l7, y7, z7⟩, st7⟩ := X5.privateBack hx (y := (⟨"com/example/unutkan/unutkan/core/RecentEvictions", "second", "(J)I"⟩ : MethodName)) hown (mvT hZ (hw _ (List.mem_of_getElem? (i := 47) rfl))) (mvT hZ (hw _ (List.mem_of_getElem? (i := 48) rfl))) (own_selp (mvT hZ (hw _ (List.mem_of_getElem? (i := 2) rfl))) (mvP hZ (hw _ (List.mem_of_getElem? (i := 49) rfl))) (mvT hZ (hw _ (List.mem_of_getElem? (i := 48) rfl))) (by decide)) (Cond.privateMethod_at (mvP hZ (hw _ (List.mem_of_getElem? (i := 49) rfl)) (args := #[]))) (mvT hZ (hw _ (List.mem_of_getElem? (i := 50) rfl))) (by decide) (backOf (W := 0) (rm9 l Z a0 hw [] a1 q2 x3 k3 z3 hs h0 n0 Z0 F3 H3) hZ (hw _ (List.mem_of_getElem? (i := 50) rfl)) (hw _ (List.mem_of_getElem? (i := 3) rfl)) (by decide) (by decide)) (g := (mkF m 42 #[.val (.ref a1), .val (.long q2), .second, .val (.long q3), .second, .val (.int (own_fp q2)), .val (.int (1 : Int32)), .val (.int (own_i1 q2 z3)), .val (.int (0 : Int32)), .unset, .unset] [(.long q2), (.ref a1)])) rfl (by rw [hml]; rfl) (Steps.refl _) (a := a1) (by rw [e5]; exact uq7) uq7' (argsL := [(.long q2)]) (rest := []) (lenOf pd_5 rfl) rfl (by show 2 * 0 + _ ≤ _; exact Nat.le_of_eq rfl) (hb hby d10_42) (fun _ _ => ⟨rfl, e5, Nat.le_of_ble_eq_true rfl, Nat.le_of_ble_eq_true rfl⟩)
  dsimp only [Pt.U, Pt.locs, Pt.cells, Pt.slots] at X7 l7 y7 z7 st7 hQ7
  subst l7 y7 z7
  obtain ⟨rfl, N7q, e7⟩ := hQ7
  have N7 := Fr.app N4 N7q
  refine own_go (fun _ k => st7.trans k) ?_
  show own_Ends p e below s _ _ _ (T7.setTop (mkF m 45 #[.val (.ref a1), .val (.long q2), .second, .val (.long q3), .second, .val (.int (own_fp q2)), .val (.int (1 : Int32)), .val (.int (own_i1 q2 z3)), .val (.int (0 : Int32)), .unset, .unset] [(.int (own_i2 q2 z3))]))
  refine own_go (fun _ k => XS.istore X7.here hx rfl (hb hby d10_45) rfl (l' := #[.val (.ref a1), .val (.long q2), .second, .val (.long q3), .second, .val (.int (own_fp q2)), .val (.int (1 : Int32)), .val (.int (own_i2 q2 z3)), .val (.int (0 : Int32)), .unset, .unset]) rfl <| XS.aloadN X7.here hx rfl (hb hby d10_47) rfl rfl <| k) ?_
  show own_Ends p e below s _ _ _ (T7.setTop (mkF m 48 #[.val (.ref a1), .val (.long q2), .second, .val (.long q3), .second, .val (.int (own_fp q2)), .val (.int (1 : Int32)), .val (.int (own_i2 q2 z3)), .val (.int (0 : Int32)), .unset, .unset] [(.ref a1)]))
  obtain ⟨T8, X8, e8, st8⟩ := getF X7 hx hZ hown (host := "") (Or.inl (hw _ (List.mem_of_getElem? (i := 20) rfl))) Via.refl e7 F3 (g := (mkF m 48 #[.val (.ref a1), .val (.long q2), .second, .val (.long q3), .second, .val (.int (own_fp q2)), .val (.int (1 : Int32)), .val (.int (own_i2 q2 z3)), .val (.int (0 : Int32)), .unset, .unset] [(.ref a1)])) rfl rfl (hb hby d10_48)
  refine own_go st8 ?_
  show own_Ends p e below s _ _ _ (T8.setTop (mkF m 51 #[.val (.ref a1), .val (.long q2), .second, .val (.long q3), .second, .val (.int (own_fp q2)), .val (.int (1 : Int32)), .val (.int (own_i2 q2 z3)), .val (.int (0 : Int32)), .unset, .unset] [(.ref x3)]))
  refine own_go (fun _ k => XS.iload X8.here hx rfl (hb hby d10_51) rfl <| k) ?_
  show own_Ends p e below s _ _ _ (T8.setTop (mkF m 53 #[.val (.ref a1), .val (.long q2), .second, .val (.long q3), .second, .val (.int (own_fp q2)), .val (.int (1 : Int32)), .val (.int (own_i2 q2 z3)), .val (.int (0 : Int32)), .unset, .unset] [(.int (own_i2 q2 z3)), (.ref x3)]))
  obtain ⟨clx3_53_9, Arx3_53_9, qqx3_53_9, Szx3_53_9, Ngx3_53_9, Hsx3_53_9, Gfx3_53_9⟩ := id H3
  have hinx3_53_9 : ¬ ((own_i2 q2 z3) < 0 ∨ clx3_53_9.slots.size ≤ ((own_i2 q2 z3)).toNatClampNeg) := inb_of Szx3_53_9 (own_i2_in q2 hz)
  have hatx3_53_9 : clx3_53_9.slots[((own_i2 q2 z3)).toNatClampNeg]? = some (.int (0 : Int32)) := atH Hsx3_53_9 hinx3_53_9 h2
  refine own_go (fun _ k => X8.iaload hx (j := (own_i2 q2 z3)) (v := (.int (0 : Int32))) (by first | exact Arx3_53_9.1 | (rw [e8]; exact Arx3_53_9.1)) (State.isArrayOf_alike hZ.alike Arx3_53_9.2.1) Arx3_53_9.2.2 hinx3_53_9 hatx3_53_9 (g := (mkF m 53 #[.val (.ref a1), .val (.long q2), .second, .val (.long q3), .second, .val (.int (own_fp q2)), .val (.int (1 : Int32)), .val (.int (own_i2 q2 z3)), .val (.int (0 : Int32)), .unset, .unset] [(.int (own_i2 q2 z3)), (.ref x3)])) rfl rfl (hb hby d10_53) _ k) ?_
  show own_Ends p e below s _ _ _ (T8.setTop (mkF m 54 #[.val (.ref a1), .val (.long q2), .second, .val (.long q3), .second, .val (.int (own_fp q2)), .val (.int (1 : Int32)), .val (.int (own_i2 q2 z3)), .val (.int (0 : Int32)), .unset, .unset] [(.int (0 : Int32))]))
  refine own_go (fun _ k => XS.istore X8.here hx rfl (hb hby d10_54) rfl (l' := #[.val (.ref a1), .val (.long q2), .second, .val (.long q3), .second, .val (.int (own_fp q2)), .val (.int (1 : Int32)), .val (.int (own_i2 q2 z3)), .val (.int (0 : Int32)), .unset, .unset]) rfl <| XS.iload X8.here hx rfl (hb hby d10_56) rfl <| XS.ifYes X8.here hx rfl (pc0 := 58) (pc' := 116) rfl (hb hby d10_58) rfl ((if0 _ _).trans (teq (by decide)).1) (by decide) (by decide) <| XT.iincV X8.here hx rfl (1 : Int32) (hb hby d10_116) rfl rfl (l' := #[.val (.ref a1), .val (.long q2), .second, .val (.long q3), .second, .val (.int (own_fp q2)), .val (.int (2 : Int32)), .val (.int (own_i2 q2 z3)), .val (.int (0 : Int32)), .unset, .unset]) rfl <| XS.goto X8.here hx rfl (pc0 := 119) (pc' := 21) rfl (hb hby d10_119) (by decide) (by decide) <| XS.iload X8.here hx rfl (hb hby d10_21) rfl <| XT.iconstV X8.here hx rfl (2 : Int32) (hb hby d10_23) rfl <| XS.icmpYes X8.here hx rfl (pc0 := 24) (pc' := 122) rfl (hb hby d10_24) rfl (flt (by decide)).2.1 (by decide) (by decide) <| X8.ldc2J hx hown (mvT hZ (hw _ (List.mem_of_getElem? (i := 56) rfl))) rfl (hb hby d10_122) <| k) ?_
  show own_Ends p e below s _ _ _ (T8.setTop (mkF m 125 #[.val (.ref a1), .val (.long q2), .second, .val (.long q3), .second, .val (.int (own_fp q2)), .val (.int (2 : Int32)), .val (.int (own_i2 q2 z3)), .val (.int (0 : Int32)), .unset, .unset] [(.long (-1 : Int64))]))
  exact own_ret X8 hx hrt rfl (Or.inr (Or.inl ⟨rfl, rfl, _, rfl⟩)) (hb hby d10_125) hlk (by rw [e8]; exact ⟨rfl, N7, rfl⟩) (by decide) (by decide)
theorem pn_1 : plainName "com/example/unutkan/unutkan/core/RecentEvictionsEnsureCapacityPinLaw" = true := by first | (simp [plainName, overriddenIn]; done) | decide +kernel
theorem ef_0 (m : MethodId) (x0 : Int32) (x1 : Int32) (x2 : Int64) (x3 : Int32) (x4 : Int64) (x5 : Int64) : entryFrame m #[(.int x0), (.int x1), (.long x2), (.int x3), (.long x4), (.long x5)] maxLocals = mkF m 0 #[.val (.int x0), .val (.int x1), .val (.long x2), .second, .val (.int x3), .val (.long x4), .second, .val (.long x5), .second, .unset, .unset, .unset, .unset, .unset, .unset, .unset, .unset, .unset, .unset, .unset, .unset, .unset, .unset, .unset, .unset, .unset, .unset, .unset, .unset, .unset, .unset, .unset, .unset] [] := by first | (simp [entryFrame, mkF, argsToLocals, Value.category, maxLocals]; done) | rfl
def Q0 (p1 : Int32) (p2 : Int32) (q3 : Int64) (p4 : Int32) (q5 : Int64) (q6 : Int64) (h0 : Heap) (n0 : Nat) (Z : State) (v : Option Value) (h : Heap) (L : List Loc) : Prop := v = some (.int 1) ∧ Fr n0 L
set_option maxRecDepth 65536 in
set_option maxHeartbeats 40000000 in
theorem rm0 (l : Launch) (Z : State) (a0 : Array Value) (hw : ∀ d ∈ tables_1, d.before a0 Z = true) (ws : List Jvm.Cond) (p1 : Int32) (p2 : Int32) (q3 : Int64) (p4 : Int32) (q5 : Int64) (q6 : Int64) (h0 : Heap) (n0 : Nat) (Z0 : n0 ≤ h0.size) :
    MetFree l x (head1 (Jvm.Cond.code x code maxLocals ret :: ws) room_1) (fun a U => a = #[(.int p1), (.int p2), (.long q3), (.int p4), (.long q5), (.long q6)] ∧ Z.Warmed39 U.vm ∧ U.heap = h0) (fun _ _ _ _ _ => True) (fun _ U o U' => ∃ v L, o = .returned v ∧ Q0 p1 p2 q3 p4 q5 q6 h0 n0 Z v U'.heap L ∧ FrameEnd U o U' L room_1.cells room_1.slots) := by
  refine MetFree.of_bodySF (plainFor_of_name pn_1) hisR ?_
  intro p e s m args below meth c s₁ Bd hml0 hP hK
  obtain ⟨rfl, hZ, hh⟩ := hP
  have hx := Bd.exec
  have hby := Bd.bytes
  have hml : c.maxLocals = 33 := hml0
  have hown : s.vm.findClass "com/example/unutkan/unutkan/core/RecentEvictionsEnsureCapacityPinLaw" = some m.cls := findClass_of_methodNamed Bd.named
  have hnm := (name_of_methodNamed Bd.named Bd.method).1
  have hlk := Bd.notSynchronized
  have hrt := Bd.returns
  have X0 : Stand p l e room_1 s m #[(.int p1), (.int p2), (.long q3), (.int p4), (.long q5), (.long q6)] below meth c s₁ [] 0 0 := Stand.of_body Bd
  have e0 : s₁.heap = h0 := by rw [← hh, Bd.state]; rfl
  have N0 := Fr.nil n0
  show own_Ends p e below s (Q0 p1 p2 q3 p4 q5 q6 h0 n0 Z) room_1.cells room_1.slots (s₁.setTop (entryFrame m #[(.int p1), (.int p2), (.long q3), (.int p4), (.long q5), (.long q6)] maxLocals))
  rw [ef_0]
  refine own_go (fun _ k => XT.iconstV X0.here hx rfl (1 : Int32) (hb hby at_0) rfl <| XS.iloadN X0.here hx rfl (hb hby at_1) rfl <| XT.bipushV X0.here hx rfl (15 : Int32) (hb hby at_2) rfl <| XS.iand X0.here hx rfl (hb hby at_4) rfl <| k) ?_
  show own_Ends p e below s _ _ _ (s₁.setTop (mkF m 5 #[.val (.int p1), .val (.int p2), .val (.long q3), .second, .val (.int p4), .val (.long q5), .second, .val (.long q6), .second, .unset, .unset, .unset, .unset, .unset, .unset, .unset, .unset, .unset, .unset, .unset, .unset, .unset, .unset, .unset, .unset, .unset, .unset, .unset, .unset, .unset, .unset, .unset, .unset] [(.int (p1 &&& (15 : Int32))), (.int (1 : Int32))]))
  refine own_go (fun _ k => XS.ishl X0.here hx rfl (hb hby at_5) rfl <| k) ?_
  show own_Ends p e below s _ _ _ (s₁.setTop (mkF m 6 #[.val (.int p1), .val (.int p2), .val (.long q3), .second, .val (.int p4), .val (.long q5), .second, .val (.long q6), .second, .unset, .unset, .unset, .unset, .unset, .unset, .unset, .unset, .unset, .unset, .unset, .unset, .unset, .unset, .unset, .unset, .unset, .unset, .unset, .unset, .unset, .unset, .unset, .unset] [(.int ((1 : Int32) <<< ((p1 &&& (15 : Int32)) &&& 31)))]))
  have hPw1 := own_w_P p1
  generalize ((1 : Int32) <<< ((p1 &&& (15 : Int32)) &&& 31)) = w1 at hPw1 ⊢
  show own_Ends p e below s _ _ _ (s₁.setTop (mkF m 6 #[.val (.int p1), .val (.int p2), .val (.long q3), .second, .val (.int p4), .val (.long q5), .second, .val (.long q6), .second, .unset, .unset, .unset, .unset, .unset, .unset, .unset, .unset, .unset, .unset, .unset, .unset, .unset, .unset, .unset, .unset, .unset, .unset, .unset, .unset, .unset, .unset, .unset, .unset] [(.int w1)]))
  refine own_go (fun _ k => XS.istore X0.here hx rfl (hb hby at_6) rfl (l' := #[.val (.int p1), .val (.int p2), .val (.long q3), .second, .val (.int p4), .val (.long q5), .second, .val (.long q6), .second, .val (.int w1), .unset, .unset, .unset, .unset, .unset, .unset, .unset, .unset, .unset, .unset, .unset, .unset, .unset, .unset, .unset, .unset, .unset, .unset, .unset, .unset, .unset, .unset, .unset]) rfl <| XT.iconstV X0.here hx rfl (1 : Int32) (hb hby at_8) rfl <| XS.iloadN X0.here hx rfl (hb hby at_9) rfl <| XT.bipushV X0.here hx rfl (15 : Int32) (hb hby at_10) rfl <| k) ?_
  show own_Ends p e below s _ _ _ (s₁.setTop (mkF m 12 #[.val (.int p1), .val (.int p2), .val (.long q3), .second, .val (.int p4), .val (.long q5), .second, .val (.long q6), .second, .val (.int w1), .unset, .unset, .unset, .unset, .unset, .unset, .unset, .unset, .unset, .unset, .unset, .unset, .unset, .unset, .unset, .unset, .unset, .unset, .unset, .unset, .unset, .unset, .unset] [(.int (15 : Int32)), (.int p2), (.int (1 : Int32))]))
  refine own_go (fun _ k => XS.iand X0.here hx rfl (hb hby at_12) rfl <| XS.ishl X0.here hx rfl (hb hby at_13) rfl <| k) ?_
  show own_Ends p e below s _ _ _ (s₁.setTop (mkF m 14 #[.val (.int p1), .val (.int p2), .val (.long q3), .second, .val (.int p4), .val (.long q5), .second, .val (.long q6), .second, .val (.int w1), .unset, .unset, .unset, .unset, .unset, .unset, .unset, .unset, .unset, .unset, .unset, .unset, .unset, .unset, .unset, .unset, .unset, .unset, .unset, .unset, .unset, .unset, .unset] [(.int ((1 : Int32) <<< ((p2 &&& (15 : Int32)) &&& 31)))]))
  have hPw2 := own_w_P p2
  generalize ((1 : Int32) <<< ((p2 &&& (15 : Int32)) &&& 31)) = w2 at hPw2 ⊢
  show own_Ends p e below s _ _ _ (s₁.setTop (mkF m 14 #[.val (.int p1), .val (.int p2), .val (.long q3), .second, .val (.int p4), .val (.long q5), .second, .val (.long q6), .second, .val (.int w1), .unset, .unset, .unset, .unset, .unset, .unset, .unset, .unset, .unset, .unset, .unset, .unset, .unset, .unset, .unset, .unset, .unset, .unset, .unset, .unset, .unset, .unset, .unset] [(.int w2)]))
  refine own_go (fun _ k => XS.istore X0.here hx rfl (hb hby at_14) rfl (l' := #[.val (.int p1), .val (.int p2), .val (.long q3), .second, .val (.int p4), .val (.long q5), .second, .val (.long q6), .second, .val (.int w1), .val (.int w2), .unset, .unset, .unset, .unset, .unset, .unset, .unset, .unset, .unset, .unset, .unset, .unset, .unset, .unset, .unset, .unset, .unset, .unset, .unset, .unset, .unset, .unset]) rfl <| k) ?_
  show own_Ends p e below s _ _ _ (s₁.setTop (mkF m 16 #[.val (.int p1), .val (.int p2), .val (.long q3), .second, .val (.int p4), .val (.long q5), .second, .val (.long q6), .second, .val (.int w1), .val (.int w2), .unset, .unset, .unset, .unset, .unset, .unset, .unset, .unset, .unset, .unset, .unset, .unset, .unset, .unset, .unset, .unset, .unset, .unset, .unset, .unset, .unset, .unset] []))
  have J28 : ∀ r1 : Int32, (r1 = 0 ∨ r1 = 1) → own_Ends p e below s (Q0 p1 p2 q3 p4 q5 q6 h0 n0 Z) room_1.cells room_1.slots (s₁.setTop (mkF m 28 #[.val (.int p1), .val (.int p2), .val (.long q3), .second, .val (.int p4), .val (.long q5), .second, .val (.long q6), .second, .val (.int w1), .val (.int w2), .unset, .unset, .unset, .unset, .unset, .unset, .unset, .unset, .unset, .unset, .unset, .unset, .unset, .unset, .unset, .unset, .unset, .unset, .unset, .unset, .unset, .unset] [(.int r1)])) := by
    intro r1 hr1
    refine own_go (fun _ k => XS.istore X0.here hx rfl (hb hby at_28) rfl (l' := #[.val (.int p1), .val (.int p2), .val (.long q3), .second, .val (.int p4), .val (.long q5), .second, .val (.long q6), .second, .val (.int w1), .val (.int w2), .val (.int r1), .unset, .unset, .unset, .unset, .unset, .unset, .unset, .unset, .unset, .unset, .unset, .unset, .unset, .unset, .unset, .unset, .unset, .unset, .unset, .unset, .unset]) rfl <| k) ?_
    show own_Ends p e below s _ _ _ (s₁.setTop (mkF m 30 #[.val (.int p1), .val (.int p2), .val (.long q3), .second, .val (.int p4), .val (.long q5), .second, .val (.long q6), .second, .val (.int w1), .val (.int w2), .val (.int r1), .unset, .unset, .unset, .unset, .unset, .unset, .unset, .unset, .unset, .unset, .unset, .unset, .unset, .unset, .unset, .unset, .unset, .unset, .unset, .unset, .unset] []))
    have J42 : ∀ rA : Int32, (rA = 0 ∨ rA = 1) → own_Ends p e below s (Q0 p1 p2 q3 p4 q5 q6 h0 n0 Z) room_1.cells room_1.slots (s₁.setTop (mkF m 42 #[.val (.int p1), .val (.int p2), .val (.long q3), .second, .val (.int p4), .val (.long q5), .second, .val (.long q6), .second, .val (.int w1), .val (.int w2), .val (.int r1), .unset, .unset, .unset, .unset, .unset, .unset, .unset, .unset, .unset, .unset, .unset, .unset, .unset, .unset, .unset, .unset, .unset, .unset, .unset, .unset, .unset] [(.int rA)])) := by
      intro rA hrA
      refine own_go (fun _ k => XS.istore X0.here hx rfl (hb hby at_42) rfl (l' := #[.val (.int p1), .val (.int p2), .val (.long q3), .second, .val (.int p4), .val (.long q5), .second, .val (.long q6), .second, .val (.int w1), .val (.int w2), .val (.int r1), .val (.int rA), .unset, .unset, .unset, .unset, .unset, .unset, .unset, .unset, .unset, .unset, .unset, .unset, .unset, .unset, .unset, .unset, .unset, .unset, .unset, .unset]) rfl <| k) ?_
      show own_Ends p e below s _ _ _ (s₁.setTop (mkF m 44 #[.val (.int p1), .val (.int p2), .val (.long q3), .second, .val (.int p4), .val (.long q5), .second, .val (.long q6), .second, .val (.int w1), .val (.int w2), .val (.int r1), .val (.int rA), .unset, .unset, .unset, .unset, .unset, .unset, .unset, .unset, .unset, .unset, .unset, .unset, .unset, .unset, .unset, .unset, .unset, .unset, .unset, .unset] []))
      have J56 : ∀ rB : Int32, (rB = 0 ∨ rB = 1) → own_Ends p e below s (Q0 p1 p2 q3 p4 q5 q6 h0 n0 Z) room_1.cells room_1.slots (s₁.setTop (mkF m 56 #[.val (.int p1), .val (.int p2), .val (.long q3), .second, .val (.int p4), .val (.long q5), .second, .val (.long q6), .second, .val (.int w1), .val (.int w2), .val (.int r1), .val (.int rA), .unset, .unset, .unset, .unset, .unset, .unset, .unset, .unset, .unset, .unset, .unset, .unset, .unset, .unset, .unset, .unset, .unset, .unset, .unset, .unset] [(.int rB)])) := by
        intro rB hrB
        refine own_go (fun _ k => XS.istore X0.here hx rfl (hb hby at_56) rfl (l' := #[.val (.int p1), .val (.int p2), .val (.long q3), .second, .val (.int p4), .val (.long q5), .second, .val (.long q6), .second, .val (.int w1), .val (.int w2), .val (.int r1), .val (.int rA), .val (.int rB), .unset, .unset, .unset, .unset, .unset, .unset, .unset, .unset, .unset, .unset, .unset, .unset, .unset, .unset, .unset, .unset, .unset, .unset, .unset]) rfl <| XS.lload X0.here hx rfl (hb hby at_58) rfl <| X0.ldc2J hx hown (mvT hZ (hw _ (List.mem_of_getElem? (i := 0) rfl))) rfl (hb hby at_60) <| XS.land X0.here hx rfl (hb hby at_63) rfl <| k) ?_
        show own_Ends p e below s _ _ _ (s₁.setTop (mkF m 64 #[.val (.int p1), .val (.int p2), .val (.long q3), .second, .val (.int p4), .val (.long q5), .second, .val (.long q6), .second, .val (.int w1), .val (.int w2), .val (.int r1), .val (.int rA), .val (.int rB), .unset, .unset, .unset, .unset, .unset, .unset, .unset, .unset, .unset, .unset, .unset, .unset, .unset, .unset, .unset, .unset, .unset, .unset, .unset] [(.long (q6 &&& (9223372036854775807 : Int64)))]))
        generalize (q6 &&& (9223372036854775807 : Int64)) = mm
        show own_Ends p e below s _ _ _ (s₁.setTop (mkF m 64 #[.val (.int p1), .val (.int p2), .val (.long q3), .second, .val (.int p4), .val (.long q5), .second, .val (.long q6), .second, .val (.int w1), .val (.int w2), .val (.int r1), .val (.int rA), .val (.int rB), .unset, .unset, .unset, .unset, .unset, .unset, .unset, .unset, .unset, .unset, .unset, .unset, .unset, .unset, .unset, .unset, .unset, .unset, .unset] [(.long mm)]))
        refine own_go (fun _ k => XS.lstore X0.here hx rfl (hb hby at_64) rfl (l' := #[.val (.int p1), .val (.int p2), .val (.long q3), .second, .val (.int p4), .val (.long q5), .second, .val (.long q6), .second, .val (.int w1), .val (.int w2), .val (.int r1), .val (.int rA), .val (.int rB), .val (.long mm), .second, .unset, .unset, .unset, .unset, .unset, .unset, .unset, .unset, .unset, .unset, .unset, .unset, .unset, .unset, .unset, .unset, .unset]) rfl <| k) ?_
        show own_Ends p e below s _ _ _ (s₁.setTop (mkF m 66 #[.val (.int p1), .val (.int p2), .val (.long q3), .second, .val (.int p4), .val (.long q5), .second, .val (.long q6), .second, .val (.int w1), .val (.int w2), .val (.int r1), .val (.int rA), .val (.int rB), .val (.long mm), .second, .unset, .unset, .unset, .unset, .unset, .unset, .unset, .unset, .unset, .unset, .unset, .unset, .unset, .unset, .unset, .unset, .unset] []))
        obtain ⟨T1, h1, X1, e1, E1, A1, D1, -, st1⟩ := newO X0 hx hZ hown (hw _ (List.mem_of_getElem? (i := 1) rfl)) (hw _ (List.mem_of_getElem? (i := 2) rfl)) (hw _ (List.mem_of_getElem? (i := 3) rfl)) e0 (g := (mkF m 66 #[.val (.int p1), .val (.int p2), .val (.long q3), .second, .val (.int p4), .val (.long q5), .second, .val (.long q6), .second, .val (.int w1), .val (.int w2), .val (.int r1), .val (.int rA), .val (.int rB), .val (.long mm), .second, .unset, .unset, .unset, .unset, .unset, .unset, .unset, .unset, .unset, .unset, .unset, .unset, .unset, .unset, .unset, .unset, .unset] [])) rfl (hb hby at_66) (by decide) (by decide)
        obtain ⟨b1, g1⟩ : ∃ z, z = h0.size := ⟨_, rfl⟩
        rw [← g1] at A1 D1 st1
        refine own_go st1 ?_
        have g_b1 : n0 ≤ b1 := Nat.le_trans Z0 (Nat.le_of_eq g1.symm)
        have Z1 := Nat.le_trans Z0 E1.1
        have F_unit_b1 : Fld Z h1 b1 "com/example/unutkan/unutkan/core/RecentEvictions" "unit" "J" (.long (0 : Int64)) := D1 (Or.inr (hw _ (List.mem_of_getElem? (i := 16) rfl))) (ty := .long) (by decide)
        have F_horizon_b1 : Fld Z h1 b1 "com/example/unutkan/unutkan/core/RecentEvictions" "horizon" "J" (.long (0 : Int64)) := D1 (Or.inr (hw _ (List.mem_of_getElem? (i := 18) rfl))) (ty := .long) (by decide)
        have F_slots_b1 : Fld Z h1 b1 "com/example/unutkan/unutkan/core/RecentEvictions" "slots" "[I" .null := D1 (Or.inl (hw _ (List.mem_of_getElem? (i := 21) rfl))) (ty := (.array .int)) (by decide)
        have F_sweep_b1 : Fld Z h1 b1 "com/example/unutkan/unutkan/core/RecentEvictions" "sweep" "I" (.int (0 : Int32)) := D1 (Or.inl (hw _ (List.mem_of_getElem? (i := 28) rfl))) (ty := .int) (by decide)
        show own_Ends p e below s _ _ _ (T1.setTop (mkF m 69 #[.val (.int p1), .val (.int p2), .val (.long q3), .second, .val (.int p4), .val (.long q5), .second, .val (.long q6), .second, .val (.int w1), .val (.int w2), .val (.int r1), .val (.int rA), .val (.int rB), .val (.long mm), .second, .unset, .unset, .unset, .unset, .unset, .unset, .unset, .unset, .unset, .unset, .unset, .unset, .unset, .unset, .unset, .unset, .unset] [(.ref b1)]))
        refine own_go (fun _ k => XS.dup X1.here hx rfl (hb hby at_69) rfl rfl <| XS.lload X1.here hx rfl (hb hby at_70) rfl <| k) ?_
        show own_Ends p e below s _ _ _ (T1.setTop (mkF m 72 #[.val (.int p1), .val (.int p2), .val (.long q3), .second, .val (.int p4), .val (.long q5), .second, .val (.long q6), .second, .val (.int w1), .val (.int w2), .val (.int r1), .val (.int rA), .val (.int rB), .val (.long mm), .second, .unset, .unset, .unset, .unset, .unset, .unset, .unset, .unset, .unset, .unset, .unset, .unset, .unset, .unset, .unset, .unset, .unset] [(.long mm), (.ref b1), (.ref b1)]))
        obtain ⟨_, _, ⟨T2, L2, k2, n2⟩, -, X2, ⟨Lc2, hQ2, l2, y2, z2⟩, st2⟩ := X1.specialBack hx (y := (⟨"com/example/unutkan/unutkan/core/RecentEvictions", "<init>", "(J)V"⟩ : MethodName)) rfl hown (mvT hZ (hw _ (List.mem_of_getElem? (i := 4) rfl))) (mvT hZ (hw _ (List.mem_of_getElem? (i := 5) rfl))) (mvT hZ (hw _ (List.mem_of_getElem? (i := 6) rfl))) (by decide) (backOf (W := 1) (rm1 l Z a0 hw [] b1 mm h1 n0 Z1 A1 F_unit_b1 F_horizon_b1 F_slots_b1 F_sweep_b1 g_b1) hZ (hw _ (List.mem_of_getElem? (i := 6) rfl)) (hw _ (List.mem_of_getElem? (i := 3) rfl)) (by decide) (by decide)) (g := (mkF m 72 #[.val (.int p1), .val (.int p2), .val (.long q3), .second, .val (.int p4), .val (.long q5), .second, .val (.long q6), .second, .val (.int w1), .val (.int w2), .val (.int r1), .val (.int rA), .val (.int rB), .val (.long mm), .second, .unset, .unset, .unset, .unset, .unset, .unset, .unset, .unset, .unset, .unset, .unset, .unset, .unset, .unset, .unset, .unset, .unset] [(.long mm), (.ref b1), (.ref b1)])) rfl (by rw [hml]; rfl) (Steps.refl _) (a := b1) (argsL := [(.long mm)]) (rest := [(.ref b1)]) (lenOf pd_0 rfl) rfl (by show 2 * 0 + _ ≤ _; exact Nat.le_of_eq rfl) (hb hby at_72) (fun _ _ => ⟨rfl, e1, Nat.le_of_ble_eq_true rfl, Nat.le_of_ble_eq_true rfl⟩)
        dsimp only [Pt.U, Pt.locs, Pt.cells, Pt.slots] at X2 l2 y2 z2 st2 hQ2
        subst l2 y2 z2
        obtain ⟨rfl, N2q, K2, Fu2, Fh2, Fs2, b2, kb2, g2, sz2, Fl2, H2⟩ := hQ2
        have N2 := Fr.app N0 N2q
        refine own_go (fun _ k => st2.trans k) ?_
        have A1'2 := A1.keep K2
        have Z2 := Nat.le_trans Z1 K2.1
        show own_Ends p e below s _ _ _ (T2.setTop (mkF m 75 #[.val (.int p1), .val (.int p2), .val (.long q3), .second, .val (.int p4), .val (.long q5), .second, .val (.long q6), .second, .val (.int w1), .val (.int w2), .val (.int r1), .val (.int rA), .val (.int rB), .val (.long mm), .second, .unset, .unset, .unset, .unset, .unset, .unset, .unset, .unset, .unset, .unset, .unset, .unset, .unset, .unset, .unset, .unset, .unset] [(.ref b1)]))
        have ne_b1_b2 : b1 ≠ b2 := Nat.ne_of_lt (Nat.lt_of_lt_of_le A1.lt sz2)
        refine own_go (fun _ k => XS.astore X2.here hx rfl (hb hby at_75) rfl rfl (l' := #[.val (.int p1), .val (.int p2), .val (.long q3), .second, .val (.int p4), .val (.long q5), .second, .val (.long q6), .second, .val (.int w1), .val (.int w2), .val (.int r1), .val (.int rA), .val (.int rB), .val (.long mm), .second, .val (.ref b1), .unset, .unset, .unset, .unset, .unset, .unset, .unset, .unset, .unset, .unset, .unset, .unset, .unset, .unset, .unset, .unset]) rfl <| XS.aload X2.here hx rfl (hb hby at_77) rfl rfl <| XS.iload X2.here hx rfl (hb hby at_79) rfl <| k) ?_
        show own_Ends p e below s _ _ _ (T2.setTop (mkF m 81 #[.val (.int p1), .val (.int p2), .val (.long q3), .second, .val (.int p4), .val (.long q5), .second, .val (.long q6), .second, .val (.int w1), .val (.int w2), .val (.int r1), .val (.int rA), .val (.int rB), .val (.long mm), .second, .val (.ref b1), .unset, .unset, .unset, .unset, .unset, .unset, .unset, .unset, .unset, .unset, .unset, .unset, .unset, .unset, .unset, .unset] [(.int w1), (.ref b1)]))
        obtain ⟨cq3, kq3, q3a, q3b, q3c⟩ := isOf hZ rfl A1'2
        obtain ⟨_, _, ⟨T3, L3, k3, n3⟩, -, X3, ⟨Lc3, hQ3, l3, y3, z3⟩, st3⟩ := X2.virtualBack hx (y := (⟨"com/example/unutkan/unutkan/core/RecentEvictions", "ensureCapacity", "(I)V"⟩ : MethodName)) (z := (⟨"com/example/unutkan/unutkan/core/RecentEvictions", "ensureCapacity", "(I)V"⟩ : MethodName)) hown (mvT hZ (hw _ (List.mem_of_getElem? (i := 22) rfl))) (mvT hZ (hw _ (List.mem_of_getElem? (i := 23) rfl))) (notFace_of_selects (args := #[]) (mvT hZ (hw _ (List.mem_of_getElem? (i := 25) rfl)))) (mvT hZ (hw _ (List.mem_of_getElem? (i := 25) rfl))) (mvT hZ (hw _ (List.mem_of_getElem? (i := 24) rfl))) (by decide) (backOf (W := 0) (rmGrow l Z a0 hw [] b1 w1 b2 kb2 (0 : Int32) [] (0 : Int32) (own_maxL (1 : Int64) (mm / (4096 : Int64))) (own_maxL (1 : Int64) mm) T2.heap n0 Z2 A1'2 Fu2 Fh2 Fl2 Fs2 H2 g_b1 ne_b1_b2 (own_P_pos hPw1) (own_P_cap hPw1)) hZ (hw _ (List.mem_of_getElem? (i := 26) rfl)) (hw _ (List.mem_of_getElem? (i := 3) rfl)) (by decide) (by decide)) q3a q3c (g := (mkF m 81 #[.val (.int p1), .val (.int p2), .val (.long q3), .second, .val (.int p4), .val (.long q5), .second, .val (.long q6), .second, .val (.int w1), .val (.int w2), .val (.int r1), .val (.int rA), .val (.int rB), .val (.long mm), .second, .val (.ref b1), .unset, .unset, .unset, .unset, .unset, .unset, .unset, .unset, .unset, .unset, .unset, .unset, .unset, .unset, .unset, .unset] [(.int w1), (.ref b1)])) rfl (by rw [hml]; rfl) (Steps.refl _) (argsL := [(.int w1)]) (rest := []) (lenOf pd_3 rfl) rfl (by show 2 * 0 + _ ≤ _; exact Nat.le_of_eq rfl) (hb hby at_81) (fun _ _ => ⟨rfl, rfl, Nat.le_of_ble_eq_true rfl, Nat.le_of_ble_eq_true rfl⟩)
        dsimp only [Pt.U, Pt.locs, Pt.cells, Pt.slots] at X3 l3 y3 z3 st3 hQ3
        subst l3 y3 z3
        obtain ⟨rfl, N3q, K3, Fu3, Fh3, b3, kb3, g3, sz3, Fl3, Fs3, H3⟩ := hQ3
        have N3 := Fr.app N2 N3q
        refine own_go (fun _ k => st3.trans k) ?_
        have H2'3 := H2.keep K3 (ninS (Ne.symm ne_b1_b2) nin0)
        have A1'3 := A1'2.keep K3
        have Z3 := Nat.le_trans Z2 K3.1
        show own_Ends p e below s _ _ _ (T3.setTop (mkF m 84 #[.val (.int p1), .val (.int p2), .val (.long q3), .second, .val (.int p4), .val (.long q5), .second, .val (.long q6), .second, .val (.int w1), .val (.int w2), .val (.int r1), .val (.int rA), .val (.int rB), .val (.long mm), .second, .val (.ref b1), .unset, .unset, .unset, .unset, .unset, .unset, .unset, .unset, .unset, .unset, .unset, .unset, .unset, .unset, .unset, .unset] []))
        have ne_b1_b3 : b1 ≠ b3 := Nat.ne_of_lt (Nat.lt_of_lt_of_le A1'2.lt sz3)
        have ne_b2_b3 : b2 ≠ b3 := Nat.ne_of_lt (Nat.lt_of_lt_of_le H2.lt sz3)
        refine own_go (fun _ k => XS.aload X3.here hx rfl (hb hby at_84) rfl rfl <| XS.lloadN X3.here hx rfl (hb hby at_86) rfl <| XS.iload X3.here hx rfl (hb hby at_87) rfl <| XS.lload X3.here hx rfl (hb hby at_89) rfl <| k) ?_
        show own_Ends p e below s _ _ _ (T3.setTop (mkF m 91 #[.val (.int p1), .val (.int p2), .val (.long q3), .second, .val (.int p4), .val (.long q5), .second, .val (.long q6), .second, .val (.int w1), .val (.int w2), .val (.int r1), .val (.int rA), .val (.int rB), .val (.long mm), .second, .val (.ref b1), .unset, .unset, .unset, .unset, .unset, .unset, .unset, .unset, .unset, .unset, .unset, .unset, .unset, .unset, .unset, .unset] [(.long q5), (.int r1), (.long q3), (.ref b1)]))
        obtain ⟨cq4, kq4, q4a, q4b, q4c⟩ := isOf hZ rfl A1'3
        obtain ⟨_, _, ⟨T4, L4, k4, n4⟩, -, X4, ⟨Lc4, hQ4, l4, y4, z4⟩, st4⟩ := X3.virtualBack hx (y := (⟨"com/example/unutkan/unutkan/core/RecentEvictions", "record", "(JZJ)V"⟩ : MethodName)) (z := (⟨"com/example/unutkan/unutkan/core/RecentEvictions", "record", "(JZJ)V"⟩ : MethodName)) hown (mvT hZ (hw _ (List.mem_of_getElem? (i := 29) rfl))) (mvT hZ (hw _ (List.mem_of_getElem? (i := 30) rfl))) (notFace_of_selects (args := #[]) (mvT hZ (hw _ (List.mem_of_getElem? (i := 32) rfl)))) (mvT hZ (hw _ (List.mem_of_getElem? (i := 32) rfl))) (mvT hZ (hw _ (List.mem_of_getElem? (i := 31) rfl))) (by decide) (backOf (W := 0) (rm5 l Z a0 hw [] b1 q3 r1 q5 b3 kb3 w1 [] (own_maxL (1 : Int64) (mm / (4096 : Int64))) T3.heap n0 Z3 A1'3 Fu3 Fl3 H3 g3 ne_b1_b3 (own_max_ne _) (own_P_pos hPw1) (own_h0 _)) hZ (hw _ (List.mem_of_getElem? (i := 33) rfl)) (hw _ (List.mem_of_getElem? (i := 3) rfl)) (by decide) (by decide)) q4a q4c (g := (mkF m 91 #[.val (.int p1), .val (.int p2), .val (.long q3), .second, .val (.int p4), .val (.long q5), .second, .val (.long q6), .second, .val (.int w1), .val (.int w2), .val (.int r1), .val (.int rA), .val (.int rB), .val (.long mm), .second, .val (.ref b1), .unset, .unset, .unset, .unset, .unset, .unset, .unset, .unset, .unset, .unset, .unset, .unset, .unset, .unset, .unset, .unset] [(.long q5), (.int r1), (.long q3), (.ref b1)])) rfl (by rw [hml]; rfl) (Steps.refl _) (argsL := [(.long q3), (.int r1), (.long q5)]) (rest := []) (lenOf pd_4 rfl) rfl (by show 2 * 0 + _ ≤ _; exact Nat.le_of_eq rfl) (hb hby at_91) (fun _ _ => ⟨rfl, rfl, Nat.le_of_ble_eq_true rfl, Nat.le_of_ble_eq_true rfl⟩)
        dsimp only [Pt.U, Pt.locs, Pt.cells, Pt.slots] at X4 l4 y4 z4 st4 hQ4
        subst l4 y4 z4
        obtain ⟨rfl, N4q, K4, H4⟩ := hQ4
        have N4 := Fr.app N3 N4q
        refine own_go (fun _ k => st4.trans k) ?_
        have H2'4 := H2'3.keep K4 (ninS ne_b2_b3 nin0)
        have A1'4 := A1'3.keep K4
        have Fu3'4 := Fu3.keep K4 (ninS ne_b1_b3 nin0)
        have Fh3'4 := Fh3.keep K4 (ninS ne_b1_b3 nin0)
        have Fs3'4 := Fs3.keep K4 (ninS ne_b1_b3 nin0)
        have Fl3'4 := Fl3.keep K4 (ninS ne_b1_b3 nin0)
        have Z4 := Nat.le_trans Z3 K4.1
        show own_Ends p e below s _ _ _ (T4.setTop (mkF m 94 #[.val (.int p1), .val (.int p2), .val (.long q3), .second, .val (.int p4), .val (.long q5), .second, .val (.long q6), .second, .val (.int w1), .val (.int w2), .val (.int r1), .val (.int rA), .val (.int rB), .val (.long mm), .second, .val (.ref b1), .unset, .unset, .unset, .unset, .unset, .unset, .unset, .unset, .unset, .unset, .unset, .unset, .unset, .unset, .unset, .unset] []))
        by_cases hlt : w1 < w2
        · -- G
          refine own_go (fun _ k => XS.aload X4.here hx rfl (hb hby at_94) rfl rfl <| XS.iload X4.here hx rfl (hb hby at_96) rfl <| k) ?_
          show own_Ends p e below s _ _ _ (T4.setTop (mkF m 98 #[.val (.int p1), .val (.int p2), .val (.long q3), .second, .val (.int p4), .val (.long q5), .second, .val (.long q6), .second, .val (.int w1), .val (.int w2), .val (.int r1), .val (.int rA), .val (.int rB), .val (.long mm), .second, .val (.ref b1), .unset, .unset, .unset, .unset, .unset, .unset, .unset, .unset, .unset, .unset, .unset, .unset, .unset, .unset, .unset, .unset] [(.int w2), (.ref b1)]))
          obtain ⟨cq5, kq5, q5a, q5b, q5c⟩ := isOf hZ rfl A1'4
          obtain ⟨_, _, ⟨T5, L5, k5, n5⟩, -, X5, ⟨Lc5, hQ5, l5, y5, z5⟩, st5⟩ := X4.virtualBack hx (y := (⟨"com/example/unutkan/unutkan/core/RecentEvictions", "ensureCapacity", "(I)V"⟩ : MethodName)) (z := (⟨"com/example/unutkan/unutkan/core/RecentEvictions", "ensureCapacity", "(I)V"⟩ : MethodName)) hown (mvT hZ (hw _ (List.mem_of_getElem? (i := 22) rfl))) (mvT hZ (hw _ (List.mem_of_getElem? (i := 23) rfl))) (notFace_of_selects (args := #[]) (mvT hZ (hw _ (List.mem_of_getElem? (i := 25) rfl)))) (mvT hZ (hw _ (List.mem_of_getElem? (i := 25) rfl))) (mvT hZ (hw _ (List.mem_of_getElem? (i := 24) rfl))) (by decide) (backOf (W := 0) (rmGrow l Z a0 hw [] b1 w2 b3 kb3 w1 (((own_i1 q3 w1), (.int (own_rec r1 (own_fp q3) (own_sta q5 (own_maxL (1 : Int64) (mm / (4096 : Int64))))))) :: []) (0 : Int32) (own_maxL (1 : Int64) (mm / (4096 : Int64))) (own_maxL (1 : Int64) mm) T4.heap n0 Z4 A1'4 Fu3'4 Fh3'4 Fl3'4 Fs3'4 H4 g_b1 ne_b1_b3 hlt (own_P_cap hPw2)) hZ (hw _ (List.mem_of_getElem? (i := 26) rfl)) (hw _ (List.mem_of_getElem? (i := 3) rfl)) (by decide) (by decide)) q5a q5c (g := (mkF m 98 #[.val (.int p1), .val (.int p2), .val (.long q3), .second, .val (.int p4), .val (.long q5), .second, .val (.long q6), .second, .val (.int w1), .val (.int w2), .val (.int r1), .val (.int rA), .val (.int rB), .val (.long mm), .second, .val (.ref b1), .unset, .unset, .unset, .unset, .unset, .unset, .unset, .unset, .unset, .unset, .unset, .unset, .unset, .unset, .unset, .unset] [(.int w2), (.ref b1)])) rfl (by rw [hml]; rfl) (Steps.refl _) (argsL := [(.int w2)]) (rest := []) (lenOf pd_3 rfl) rfl (by show 2 * 0 + _ ≤ _; exact Nat.le_of_eq rfl) (hb hby at_98) (fun _ _ => ⟨rfl, rfl, Nat.le_of_ble_eq_true rfl, Nat.le_of_ble_eq_true rfl⟩)
          dsimp only [Pt.U, Pt.locs, Pt.cells, Pt.slots] at X5 l5 y5 z5 st5 hQ5
          subst l5 y5 z5
          obtain ⟨rfl, N5q, K5, Fu5, Fh5, b5, kb5, g5, sz5, Fl5, Fs5, H5⟩ := hQ5
          have N5 := Fr.app N4 N5q
          refine own_go (fun _ k => st5.trans k) ?_
          have H2'5 := H2'4.keep K5 (ninS (Ne.symm ne_b1_b2) nin0)
          have H4'5 := H4.keep K5 (ninS (Ne.symm ne_b1_b3) nin0)
          have A1'5 := A1'4.keep K5
          have Z5 := Nat.le_trans Z4 K5.1
          show own_Ends p e below s _ _ _ (T5.setTop (mkF m 101 #[.val (.int p1), .val (.int p2), .val (.long q3), .second, .val (.int p4), .val (.long q5), .second, .val (.long q6), .second, .val (.int w1), .val (.int w2), .val (.int r1), .val (.int rA), .val (.int rB), .val (.long mm), .second, .val (.ref b1), .unset, .unset, .unset, .unset, .unset, .unset, .unset, .unset, .unset, .unset, .unset, .unset, .unset, .unset, .unset, .unset] []))
          have ne_b1_b5 : b1 ≠ b5 := Nat.ne_of_lt (Nat.lt_of_lt_of_le A1'4.lt sz5)
          have ne_b2_b5 : b2 ≠ b5 := Nat.ne_of_lt (Nat.lt_of_lt_of_le H2'4.lt sz5)
          have ne_b3_b5 : b3 ≠ b5 := Nat.ne_of_lt (Nat.lt_of_lt_of_le H4.lt sz5)
          refine own_go (fun _ k => XS.aload X5.here hx rfl (hb hby at_101) rfl rfl <| XS.lloadN X5.here hx rfl (hb hby at_103) rfl <| XS.lload X5.here hx rfl (hb hby at_104) rfl <| k) ?_
          show own_Ends p e below s _ _ _ (T5.setTop (mkF m 106 #[.val (.int p1), .val (.int p2), .val (.long q3), .second, .val (.int p4), .val (.long q5), .second, .val (.long q6), .second, .val (.int w1), .val (.int w2), .val (.int r1), .val (.int rA), .val (.int rB), .val (.long mm), .second, .val (.ref b1), .unset, .unset, .unset, .unset, .unset, .unset, .unset, .unset, .unset, .unset, .unset, .unset, .unset, .unset, .unset, .unset] [(.long q5), (.long q3), (.ref b1)]))
          obtain ⟨cq6, kq6, q6a, q6b, q6c⟩ := isOf hZ rfl A1'5
          obtain ⟨_, _, ⟨T6, L6, k6, n6⟩, -, X6, ⟨Lc6, hQ6, l6, y6, z6⟩, st6⟩ := X5.virtualBack hx (y := (⟨"com/example/unutkan/unutkan/core/RecentEvictions", "take", "(JJ)J"⟩ : MethodName)) (z := (⟨"com/example/unutkan/unutkan/core/RecentEvictions", "take", "(JJ)J"⟩ : MethodName)) hown (mvT hZ (hw _ (List.mem_of_getElem? (i := 51) rfl))) (mvT hZ (hw _ (List.mem_of_getElem? (i := 52) rfl))) (notFace_of_selects (args := #[]) (mvT hZ (hw _ (List.mem_of_getElem? (i := 54) rfl)))) (mvT hZ (hw _ (List.mem_of_getElem? (i := 54) rfl))) (mvT hZ (hw _ (List.mem_of_getElem? (i := 53) rfl))) (by decide) (backOf (W := 0) (rmMiss l Z a0 hw [] b1 q3 q5 b5 kb5 w2 [] (own_maxL (1 : Int64) (mm / (4096 : Int64)))  T5.heap n0 Z5 A1'5 Fu5 Fl5 H5 g5 ne_b1_b5 (own_max_ne _) (own_P_pos hPw2) (own_h0 _) (own_h0 _)) hZ (hw _ (List.mem_of_getElem? (i := 55) rfl)) (hw _ (List.mem_of_getElem? (i := 3) rfl)) (by decide) (by decide)) q6a q6c (g := (mkF m 106 #[.val (.int p1), .val (.int p2), .val (.long q3), .second, .val (.int p4), .val (.long q5), .second, .val (.long q6), .second, .val (.int w1), .val (.int w2), .val (.int r1), .val (.int rA), .val (.int rB), .val (.long mm), .second, .val (.ref b1), .unset, .unset, .unset, .unset, .unset, .unset, .unset, .unset, .unset, .unset, .unset, .unset, .unset, .unset, .unset, .unset] [(.long q5), (.long q3), (.ref b1)])) rfl (by rw [hml]; rfl) (Steps.refl _) (argsL := [(.long q3), (.long q5)]) (rest := []) (lenOf pd_2 rfl) rfl (by show 2 * 0 + _ ≤ _; exact Nat.le_of_eq rfl) (hb hby at_106) (fun _ _ => ⟨rfl, rfl, Nat.le_of_ble_eq_true rfl, Nat.le_of_ble_eq_true rfl⟩)
          dsimp only [Pt.U, Pt.locs, Pt.cells, Pt.slots] at X6 l6 y6 z6 st6 hQ6
          subst l6 y6 z6
          obtain ⟨rfl, N6q, e6⟩ := hQ6
          have N6 := Fr.app N5 N6q
          refine own_go (fun _ k => st6.trans k) ?_
          show own_Ends p e below s _ _ _ (T6.setTop (mkF m 109 #[.val (.int p1), .val (.int p2), .val (.long q3), .second, .val (.int p4), .val (.long q5), .second, .val (.long q6), .second, .val (.int w1), .val (.int w2), .val (.int r1), .val (.int rA), .val (.int rB), .val (.long mm), .second, .val (.ref b1), .unset, .unset, .unset, .unset, .unset, .unset, .unset, .unset, .unset, .unset, .unset, .unset, .unset, .unset, .unset, .unset] [(.long (-1 : Int64))]))
          refine own_go (fun _ k => XS.lstore X6.here hx rfl (hb hby at_109) rfl (l' := #[.val (.int p1), .val (.int p2), .val (.long q3), .second, .val (.int p4), .val (.long q5), .second, .val (.long q6), .second, .val (.int w1), .val (.int w2), .val (.int r1), .val (.int rA), .val (.int rB), .val (.long mm), .second, .val (.ref b1), .val (.long (-1 : Int64)), .second, .unset, .unset, .unset, .unset, .unset, .unset, .unset, .unset, .unset, .unset, .unset, .unset, .unset, .unset]) rfl <| k) ?_
          show own_Ends p e below s _ _ _ (T6.setTop (mkF m 111 #[.val (.int p1), .val (.int p2), .val (.long q3), .second, .val (.int p4), .val (.long q5), .second, .val (.long q6), .second, .val (.int w1), .val (.int w2), .val (.int r1), .val (.int rA), .val (.int rB), .val (.long mm), .second, .val (.ref b1), .val (.long (-1 : Int64)), .second, .unset, .unset, .unset, .unset, .unset, .unset, .unset, .unset, .unset, .unset, .unset, .unset, .unset, .unset] []))
          refine own_go (fun _ k => XS.iload X6.here hx rfl (hb hby at_111) rfl <| XS.iload X6.here hx rfl (hb hby at_113) rfl <| XS.icmpNo X6.here hx rfl (hb hby at_115) rfl (tlt hlt).2.2.2 <| k) ?_
          show own_Ends p e below s _ _ _ (T6.setTop (mkF m 118 #[.val (.int p1), .val (.int p2), .val (.long q3), .second, .val (.int p4), .val (.long q5), .second, .val (.long q6), .second, .val (.int w1), .val (.int w2), .val (.int r1), .val (.int rA), .val (.int rB), .val (.long mm), .second, .val (.ref b1), .val (.long (-1 : Int64)), .second, .unset, .unset, .unset, .unset, .unset, .unset, .unset, .unset, .unset, .unset, .unset, .unset, .unset, .unset] []))
          refine own_go (fun _ k => X6.ldc2J hx hown (mvT hZ (hw _ (List.mem_of_getElem? (i := 57) rfl))) rfl (hb hby at_118) <| XS.goto X6.here hx rfl (pc0 := 121) (pc' := 134) rfl (hb hby at_121) (by decide) (by decide) <| k) ?_
          show own_Ends p e below s _ _ _ (T6.setTop (mkF m 134 #[.val (.int p1), .val (.int p2), .val (.long q3), .second, .val (.int p4), .val (.long q5), .second, .val (.long q6), .second, .val (.int w1), .val (.int w2), .val (.int r1), .val (.int rA), .val (.int rB), .val (.long mm), .second, .val (.ref b1), .val (.long (-1 : Int64)), .second, .unset, .unset, .unset, .unset, .unset, .unset, .unset, .unset, .unset, .unset, .unset, .unset, .unset, .unset] [(.long (-1 : Int64))]))
          refine own_go (fun _ k => XS.lstore X6.here hx rfl (hb hby at_134) rfl (l' := #[.val (.int p1), .val (.int p2), .val (.long q3), .second, .val (.int p4), .val (.long q5), .second, .val (.long q6), .second, .val (.int w1), .val (.int w2), .val (.int r1), .val (.int rA), .val (.int rB), .val (.long mm), .second, .val (.ref b1), .val (.long (-1 : Int64)), .second, .val (.long (-1 : Int64)), .second, .unset, .unset, .unset, .unset, .unset, .unset, .unset, .unset, .unset, .unset, .unset, .unset]) rfl <| k) ?_
          show own_Ends p e below s _ _ _ (T6.setTop (mkF m 136 #[.val (.int p1), .val (.int p2), .val (.long q3), .second, .val (.int p4), .val (.long q5), .second, .val (.long q6), .second, .val (.int w1), .val (.int w2), .val (.int r1), .val (.int rA), .val (.int rB), .val (.long mm), .second, .val (.ref b1), .val (.long (-1 : Int64)), .second, .val (.long (-1 : Int64)), .second, .unset, .unset, .unset, .unset, .unset, .unset, .unset, .unset, .unset, .unset, .unset, .unset] []))
          refine own_go (fun _ k => XS.lload X6.here hx rfl (hb hby at_136) rfl <| XS.lload X6.here hx rfl (hb hby at_138) rfl <| XS.lcmp X6.here hx rfl (hb hby at_140) rfl <| XS.ifYes X6.here hx rfl (pc0 := 141) (pc' := 146) rfl (hb hby at_141) rfl ((if0 _ _).trans (teq ((lw_eq _ _).mpr (by decide))).1) (by decide) (by decide) <| XS.iload X6.here hx rfl (hb hby at_146) rfl <| k) ?_
          show own_Ends p e below s _ _ _ (T6.setTop (mkF m 148 #[.val (.int p1), .val (.int p2), .val (.long q3), .second, .val (.int p4), .val (.long q5), .second, .val (.long q6), .second, .val (.int w1), .val (.int w2), .val (.int r1), .val (.int rA), .val (.int rB), .val (.long mm), .second, .val (.ref b1), .val (.long (-1 : Int64)), .second, .val (.long (-1 : Int64)), .second, .unset, .unset, .unset, .unset, .unset, .unset, .unset, .unset, .unset, .unset, .unset, .unset] [(.int w1)]))
          refine own_go (fun _ k => XS.iload X6.here hx rfl (hb hby at_148) rfl <| k) ?_
          show own_Ends p e below s _ _ _ (T6.setTop (mkF m 150 #[.val (.int p1), .val (.int p2), .val (.long q3), .second, .val (.int p4), .val (.long q5), .second, .val (.long q6), .second, .val (.int w1), .val (.int w2), .val (.int r1), .val (.int rA), .val (.int rB), .val (.long mm), .second, .val (.ref b1), .val (.long (-1 : Int64)), .second, .val (.long (-1 : Int64)), .second, .unset, .unset, .unset, .unset, .unset, .unset, .unset, .unset, .unset, .unset, .unset, .unset] [(.int w2), (.int w1)]))
          obtain ⟨_, _, ⟨T7, L7, k7, n7⟩, -, X7, ⟨Lc7, hQ7, l7, y7, z7⟩, st7⟩ := Jvm.LawKit.callS X6 hx (y := (⟨"java/lang/Math", "max", "(II)I"⟩ : MethodName)) hown (mvT hZ (hw _ (List.mem_of_getElem? (i := 58) rfl))) (mvT hZ (hw _ (List.mem_of_getElem? (i := 59) rfl))) (mvT hZ (hw _ (List.mem_of_getElem? (i := 13) rfl))) (mvT hZ (hw _ (List.mem_of_getElem? (i := 60) rfl))) (by decide) (backOf (W := 0) (rm11 l Z a0 hw [] w1 w2 T5.heap n0 Z5) hZ (hw _ (List.mem_of_getElem? (i := 60) rfl)) (hw _ (List.mem_of_getElem? (i := 13) rfl)) (by decide) (by decide)) (g := (mkF m 150 #[.val (.int p1), .val (.int p2), .val (.long q3), .second, .val (.int p4), .val (.long q5), .second, .val (.long q6), .second, .val (.int w1), .val (.int w2), .val (.int r1), .val (.int rA), .val (.int rB), .val (.long mm), .second, .val (.ref b1), .val (.long (-1 : Int64)), .second, .val (.long (-1 : Int64)), .second, .unset, .unset, .unset, .unset, .unset, .unset, .unset, .unset, .unset, .unset, .unset, .unset] [(.int w2), (.int w1)])) rfl (by rw [hml]; rfl) (argsL := [(.int w1), (.int w2)]) (rest := []) (lenOf pd_6 rfl) rfl (by show 2 * 0 + _ ≤ _; exact Nat.le_of_eq rfl) (hb hby at_150) (fun _ _ => ⟨rfl, e6, Nat.le_of_ble_eq_true rfl, Nat.le_of_ble_eq_true rfl⟩)
          dsimp only [Pt.U, Pt.locs, Pt.cells, Pt.slots] at X7 l7 y7 z7 st7 hQ7
          subst l7 y7 z7
          obtain ⟨rfl, N7q, e7⟩ := hQ7
          have N7 := Fr.app N6 N7q
          refine own_go (fun _ k => st7 _ k) ?_
          show own_Ends p e below s _ _ _ (T7.setTop (mkF m 153 #[.val (.int p1), .val (.int p2), .val (.long q3), .second, .val (.int p4), .val (.long q5), .second, .val (.long q6), .second, .val (.int w1), .val (.int w2), .val (.int r1), .val (.int rA), .val (.int rB), .val (.long mm), .second, .val (.ref b1), .val (.long (-1 : Int64)), .second, .val (.long (-1 : Int64)), .second, .unset, .unset, .unset, .unset, .unset, .unset, .unset, .unset, .unset, .unset, .unset, .unset] [(.int (own_maxI w1 w2))]))
          rw [show (own_maxI w1 w2) = w2 from by unfold own_maxI; rw [if_pos hlt]]
          show own_Ends p e below s _ _ _ (T7.setTop (mkF m 153 #[.val (.int p1), .val (.int p2), .val (.long q3), .second, .val (.int p4), .val (.long q5), .second, .val (.long q6), .second, .val (.int w1), .val (.int w2), .val (.int r1), .val (.int rA), .val (.int rB), .val (.long mm), .second, .val (.ref b1), .val (.long (-1 : Int64)), .second, .val (.long (-1 : Int64)), .second, .unset, .unset, .unset, .unset, .unset, .unset, .unset, .unset, .unset, .unset, .unset, .unset] [(.int w2)]))
          refine own_go (fun _ k => XS.istore X7.here hx rfl (hb hby at_153) rfl (l' := #[.val (.int p1), .val (.int p2), .val (.long q3), .second, .val (.int p4), .val (.long q5), .second, .val (.long q6), .second, .val (.int w1), .val (.int w2), .val (.int r1), .val (.int rA), .val (.int rB), .val (.long mm), .second, .val (.ref b1), .val (.long (-1 : Int64)), .second, .val (.long (-1 : Int64)), .second, .val (.int w2), .unset, .unset, .unset, .unset, .unset, .unset, .unset, .unset, .unset, .unset, .unset]) rfl <| XS.iload X7.here hx rfl (hb hby at_155) rfl <| XT.iconstV X7.here hx rfl (2 : Int32) (hb hby at_157) rfl <| k) ?_
          show own_Ends p e below s _ _ _ (T7.setTop (mkF m 158 #[.val (.int p1), .val (.int p2), .val (.long q3), .second, .val (.int p4), .val (.long q5), .second, .val (.long q6), .second, .val (.int w1), .val (.int w2), .val (.int r1), .val (.int rA), .val (.int rB), .val (.long mm), .second, .val (.ref b1), .val (.long (-1 : Int64)), .second, .val (.long (-1 : Int64)), .second, .val (.int w2), .unset, .unset, .unset, .unset, .unset, .unset, .unset, .unset, .unset, .unset, .unset] [(.int (2 : Int32)), (.int w2)]))
          by_cases hc158_8 : w2 < (2 : Int32)
          · -- true
            refine own_go (fun _ k => XS.icmpNo X7.here hx rfl (hb hby at_158) rfl (tlt hc158_8).2.1 <| XT.iconstV X7.here hx rfl (1 : Int32) (hb hby at_161) rfl <| k) ?_
            show own_Ends p e below s _ _ _ (T7.setTop (mkF m 162 #[.val (.int p1), .val (.int p2), .val (.long q3), .second, .val (.int p4), .val (.long q5), .second, .val (.long q6), .second, .val (.int w1), .val (.int w2), .val (.int r1), .val (.int rA), .val (.int rB), .val (.long mm), .second, .val (.ref b1), .val (.long (-1 : Int64)), .second, .val (.long (-1 : Int64)), .second, .val (.int w2), .unset, .unset, .unset, .unset, .unset, .unset, .unset, .unset, .unset, .unset, .unset] [(.int (1 : Int32))]))
            exact own_retN X7 hx (t := .boolean) hrt (by simp) (hb hby at_162) hlk (show nar .boolean (1 : Int32) = (1 : Int32) from by decide) (by rw [e7]; exact ⟨rfl, N7⟩) (by decide) (by decide)
          · -- false
            refine own_go (fun _ k => XS.icmpYes X7.here hx rfl (pc0 := 158) (pc' := 163) rfl (hb hby at_158) rfl (flt hc158_8).2.1 (by decide) (by decide) <| XS.iload X7.here hx rfl (hb hby at_163) rfl <| XT.iconstV X7.here hx rfl (1 : Int32) (hb hby at_165) rfl <| XS.ishr X7.here hx rfl (hb hby at_166) rfl <| k) ?_
            show own_Ends p e below s _ _ _ (T7.setTop (mkF m 167 #[.val (.int p1), .val (.int p2), .val (.long q3), .second, .val (.int p4), .val (.long q5), .second, .val (.long q6), .second, .val (.int w1), .val (.int w2), .val (.int r1), .val (.int rA), .val (.int rB), .val (.long mm), .second, .val (.ref b1), .val (.long (-1 : Int64)), .second, .val (.long (-1 : Int64)), .second, .val (.int w2), .unset, .unset, .unset, .unset, .unset, .unset, .unset, .unset, .unset, .unset, .unset] [(.int (w2 >>> ((1 : Int32) &&& 31)))]))
            refine own_go (fun _ k => XS.istore X7.here hx rfl (hb hby at_167) rfl (l' := #[.val (.int p1), .val (.int p2), .val (.long q3), .second, .val (.int p4), .val (.long q5), .second, .val (.long q6), .second, .val (.int w1), .val (.int w2), .val (.int r1), .val (.int rA), .val (.int rB), .val (.long mm), .second, .val (.ref b1), .val (.long (-1 : Int64)), .second, .val (.long (-1 : Int64)), .second, .val (.int w2), .val (.int (w2 >>> ((1 : Int32) &&& 31))), .unset, .unset, .unset, .unset, .unset, .unset, .unset, .unset, .unset, .unset]) rfl <| XS.iload X7.here hx rfl (hb hby at_169) rfl <| XT.iconstV X7.here hx rfl (1 : Int32) (hb hby at_171) rfl <| XS.isub X7.here hx rfl (hb hby at_172) rfl <| k) ?_
            show own_Ends p e below s _ _ _ (T7.setTop (mkF m 173 #[.val (.int p1), .val (.int p2), .val (.long q3), .second, .val (.int p4), .val (.long q5), .second, .val (.long q6), .second, .val (.int w1), .val (.int w2), .val (.int r1), .val (.int rA), .val (.int rB), .val (.long mm), .second, .val (.ref b1), .val (.long (-1 : Int64)), .second, .val (.long (-1 : Int64)), .second, .val (.int w2), .val (.int (w2 >>> ((1 : Int32) &&& 31))), .unset, .unset, .unset, .unset, .unset, .unset, .unset, .unset, .unset, .unset] [(.int (w2 - (1 : Int32)))]))
            refine own_go (fun _ k => XS.i2l X7.here hx rfl (hb hby at_173) rfl <| XS.lstore X7.here hx rfl (hb hby at_174) rfl (l' := #[.val (.int p1), .val (.int p2), .val (.long q3), .second, .val (.int p4), .val (.long q5), .second, .val (.long q6), .second, .val (.int w1), .val (.int w2), .val (.int r1), .val (.int rA), .val (.int rB), .val (.long mm), .second, .val (.ref b1), .val (.long (-1 : Int64)), .second, .val (.long (-1 : Int64)), .second, .val (.int w2), .val (.int (w2 >>> ((1 : Int32) &&& 31))), .val (.long ((w2 - (1 : Int32)).toInt64)), .second, .unset, .unset, .unset, .unset, .unset, .unset, .unset, .unset]) rfl <| XS.lloadN X7.here hx rfl (hb hby at_176) rfl <| XS.lload X7.here hx rfl (hb hby at_177) rfl <| k) ?_
            show own_Ends p e below s _ _ _ (T7.setTop (mkF m 179 #[.val (.int p1), .val (.int p2), .val (.long q3), .second, .val (.int p4), .val (.long q5), .second, .val (.long q6), .second, .val (.int w1), .val (.int w2), .val (.int r1), .val (.int rA), .val (.int rB), .val (.long mm), .second, .val (.ref b1), .val (.long (-1 : Int64)), .second, .val (.long (-1 : Int64)), .second, .val (.int w2), .val (.int (w2 >>> ((1 : Int32) &&& 31))), .val (.long ((w2 - (1 : Int32)).toInt64)), .second, .unset, .unset, .unset, .unset, .unset, .unset, .unset, .unset] [(.long ((w2 - (1 : Int32)).toInt64)), (.long q3)]))
            refine own_go (fun _ k => XT.bipushV X7.here hx rfl (32 : Int32) (hb hby at_179) rfl <| XS.lshl X7.here hx rfl (hb hby at_181) rfl <| XS.lor X7.here hx rfl (hb hby at_182) rfl <| XS.lload X7.here hx rfl (hb hby at_183) rfl <| k) ?_
            show own_Ends p e below s _ _ _ (T7.setTop (mkF m 185 #[.val (.int p1), .val (.int p2), .val (.long q3), .second, .val (.int p4), .val (.long q5), .second, .val (.long q6), .second, .val (.int w1), .val (.int w2), .val (.int r1), .val (.int rA), .val (.int rB), .val (.long mm), .second, .val (.ref b1), .val (.long (-1 : Int64)), .second, .val (.long (-1 : Int64)), .second, .val (.int w2), .val (.int (w2 >>> ((1 : Int32) &&& 31))), .val (.long ((w2 - (1 : Int32)).toInt64)), .second, .unset, .unset, .unset, .unset, .unset, .unset, .unset, .unset] [(.long ((w2 - (1 : Int32)).toInt64)), (.long (q3 ||| (((w2 - (1 : Int32)).toInt64) <<< ((32 : Int32) &&& 0x3f).toInt64)))]))
            refine own_go (fun _ k => XS.lor X7.here hx rfl (hb hby at_185) rfl <| k) ?_
            show own_Ends p e below s _ _ _ (T7.setTop (mkF m 186 #[.val (.int p1), .val (.int p2), .val (.long q3), .second, .val (.int p4), .val (.long q5), .second, .val (.long q6), .second, .val (.int w1), .val (.int w2), .val (.int r1), .val (.int rA), .val (.int rB), .val (.long mm), .second, .val (.ref b1), .val (.long (-1 : Int64)), .second, .val (.long (-1 : Int64)), .second, .val (.int w2), .val (.int (w2 >>> ((1 : Int32) &&& 31))), .val (.long ((w2 - (1 : Int32)).toInt64)), .second, .unset, .unset, .unset, .unset, .unset, .unset, .unset, .unset] [(.long ((q3 ||| (((w2 - (1 : Int32)).toInt64) <<< ((32 : Int32) &&& 0x3f).toInt64)) ||| ((w2 - (1 : Int32)).toInt64)))]))
            have hiB := own_iB q3 ((w2 - (1 : Int32)).toInt64 <<< ((32 : Int32) &&& 0x3f).toInt64) hPw2 hc158_8
            generalize ((q3 ||| (((w2 - (1 : Int32)).toInt64) <<< ((32 : Int32) &&& 0x3f).toInt64)) ||| ((w2 - (1 : Int32)).toInt64)) = kA at hiB ⊢
            show own_Ends p e below s _ _ _ (T7.setTop (mkF m 186 #[.val (.int p1), .val (.int p2), .val (.long q3), .second, .val (.int p4), .val (.long q5), .second, .val (.long q6), .second, .val (.int w1), .val (.int w2), .val (.int r1), .val (.int rA), .val (.int rB), .val (.long mm), .second, .val (.ref b1), .val (.long (-1 : Int64)), .second, .val (.long (-1 : Int64)), .second, .val (.int w2), .val (.int (w2 >>> ((1 : Int32) &&& 31))), .val (.long ((w2 - (1 : Int32)).toInt64)), .second, .unset, .unset, .unset, .unset, .unset, .unset, .unset, .unset] [(.long kA)]))
            refine own_go (fun _ k => XS.lstore X7.here hx rfl (hb hby at_186) rfl (l' := #[.val (.int p1), .val (.int p2), .val (.long q3), .second, .val (.int p4), .val (.long q5), .second, .val (.long q6), .second, .val (.int w1), .val (.int w2), .val (.int r1), .val (.int rA), .val (.int rB), .val (.long mm), .second, .val (.ref b1), .val (.long (-1 : Int64)), .second, .val (.long (-1 : Int64)), .second, .val (.int w2), .val (.int (w2 >>> ((1 : Int32) &&& 31))), .val (.long ((w2 - (1 : Int32)).toInt64)), .second, .val (.long kA), .second, .unset, .unset, .unset, .unset, .unset, .unset]) rfl <| XS.lload X7.here hx rfl (hb hby at_188) rfl <| XS.iload X7.here hx rfl (hb hby at_190) rfl <| XS.i2l X7.here hx rfl (hb hby at_192) rfl <| k) ?_
            show own_Ends p e below s _ _ _ (T7.setTop (mkF m 193 #[.val (.int p1), .val (.int p2), .val (.long q3), .second, .val (.int p4), .val (.long q5), .second, .val (.long q6), .second, .val (.int w1), .val (.int w2), .val (.int r1), .val (.int rA), .val (.int rB), .val (.long mm), .second, .val (.ref b1), .val (.long (-1 : Int64)), .second, .val (.long (-1 : Int64)), .second, .val (.int w2), .val (.int (w2 >>> ((1 : Int32) &&& 31))), .val (.long ((w2 - (1 : Int32)).toInt64)), .second, .val (.long kA), .second, .unset, .unset, .unset, .unset, .unset, .unset] [(.long ((w2 >>> ((1 : Int32) &&& 31)).toInt64)), (.long kA)]))
            refine own_go (fun _ k => XT.bipushV X7.here hx rfl (32 : Int32) (hb hby at_193) rfl <| XS.lshl X7.here hx rfl (hb hby at_195) rfl <| XS.iload X7.here hx rfl (hb hby at_196) rfl <| XS.i2l X7.here hx rfl (hb hby at_198) rfl <| k) ?_
            show own_Ends p e below s _ _ _ (T7.setTop (mkF m 199 #[.val (.int p1), .val (.int p2), .val (.long q3), .second, .val (.int p4), .val (.long q5), .second, .val (.long q6), .second, .val (.int w1), .val (.int w2), .val (.int r1), .val (.int rA), .val (.int rB), .val (.long mm), .second, .val (.ref b1), .val (.long (-1 : Int64)), .second, .val (.long (-1 : Int64)), .second, .val (.int w2), .val (.int (w2 >>> ((1 : Int32) &&& 31))), .val (.long ((w2 - (1 : Int32)).toInt64)), .second, .val (.long kA), .second, .unset, .unset, .unset, .unset, .unset, .unset] [(.long ((w2 >>> ((1 : Int32) &&& 31)).toInt64)), (.long (((w2 >>> ((1 : Int32) &&& 31)).toInt64) <<< ((32 : Int32) &&& 0x3f).toInt64)), (.long kA)]))
            refine own_go (fun _ k => XS.lor X7.here hx rfl (hb hby at_199) rfl <| XS.lxor X7.here hx rfl (hb hby at_200) rfl <| k) ?_
            show own_Ends p e below s _ _ _ (T7.setTop (mkF m 201 #[.val (.int p1), .val (.int p2), .val (.long q3), .second, .val (.int p4), .val (.long q5), .second, .val (.long q6), .second, .val (.int w1), .val (.int w2), .val (.int r1), .val (.int rA), .val (.int rB), .val (.long mm), .second, .val (.ref b1), .val (.long (-1 : Int64)), .second, .val (.long (-1 : Int64)), .second, .val (.int w2), .val (.int (w2 >>> ((1 : Int32) &&& 31))), .val (.long ((w2 - (1 : Int32)).toInt64)), .second, .val (.long kA), .second, .unset, .unset, .unset, .unset, .unset, .unset] [(.long (kA ^^^ ((((w2 >>> ((1 : Int32) &&& 31)).toInt64) <<< ((32 : Int32) &&& 0x3f).toInt64) ||| ((w2 >>> ((1 : Int32) &&& 31)).toInt64))))]))
            generalize (kA ^^^ ((((w2 >>> ((1 : Int32) &&& 31)).toInt64) <<< ((32 : Int32) &&& 0x3f).toInt64) ||| ((w2 >>> ((1 : Int32) &&& 31)).toInt64))) = kB at hiB ⊢
            show own_Ends p e below s _ _ _ (T7.setTop (mkF m 201 #[.val (.int p1), .val (.int p2), .val (.long q3), .second, .val (.int p4), .val (.long q5), .second, .val (.long q6), .second, .val (.int w1), .val (.int w2), .val (.int r1), .val (.int rA), .val (.int rB), .val (.long mm), .second, .val (.ref b1), .val (.long (-1 : Int64)), .second, .val (.long (-1 : Int64)), .second, .val (.int w2), .val (.int (w2 >>> ((1 : Int32) &&& 31))), .val (.long ((w2 - (1 : Int32)).toInt64)), .second, .val (.long kA), .second, .unset, .unset, .unset, .unset, .unset, .unset] [(.long kB)]))
            refine own_go (fun _ k => XS.lstore X7.here hx rfl (hb hby at_201) rfl (l' := #[.val (.int p1), .val (.int p2), .val (.long q3), .second, .val (.int p4), .val (.long q5), .second, .val (.long q6), .second, .val (.int w1), .val (.int w2), .val (.int r1), .val (.int rA), .val (.int rB), .val (.long mm), .second, .val (.ref b1), .val (.long (-1 : Int64)), .second, .val (.long (-1 : Int64)), .second, .val (.int w2), .val (.int (w2 >>> ((1 : Int32) &&& 31))), .val (.long ((w2 - (1 : Int32)).toInt64)), .second, .val (.long kA), .second, .val (.long kB), .second, .unset, .unset, .unset, .unset]) rfl <| XS.aload X7.here hx rfl (hb hby at_203) rfl rfl <| XS.lload X7.here hx rfl (hb hby at_205) rfl <| XS.iload X7.here hx rfl (hb hby at_207) rfl <| k) ?_
            show own_Ends p e below s _ _ _ (T7.setTop (mkF m 209 #[.val (.int p1), .val (.int p2), .val (.long q3), .second, .val (.int p4), .val (.long q5), .second, .val (.long q6), .second, .val (.int w1), .val (.int w2), .val (.int r1), .val (.int rA), .val (.int rB), .val (.long mm), .second, .val (.ref b1), .val (.long (-1 : Int64)), .second, .val (.long (-1 : Int64)), .second, .val (.int w2), .val (.int (w2 >>> ((1 : Int32) &&& 31))), .val (.long ((w2 - (1 : Int32)).toInt64)), .second, .val (.long kA), .second, .val (.long kB), .second, .unset, .unset, .unset, .unset] [(.int rA), (.long kA), (.ref b1)]))
            refine own_go (fun _ k => XS.lload X7.here hx rfl (hb hby at_209) rfl <| k) ?_
            show own_Ends p e below s _ _ _ (T7.setTop (mkF m 211 #[.val (.int p1), .val (.int p2), .val (.long q3), .second, .val (.int p4), .val (.long q5), .second, .val (.long q6), .second, .val (.int w1), .val (.int w2), .val (.int r1), .val (.int rA), .val (.int rB), .val (.long mm), .second, .val (.ref b1), .val (.long (-1 : Int64)), .second, .val (.long (-1 : Int64)), .second, .val (.int w2), .val (.int (w2 >>> ((1 : Int32) &&& 31))), .val (.long ((w2 - (1 : Int32)).toInt64)), .second, .val (.long kA), .second, .val (.long kB), .second, .unset, .unset, .unset, .unset] [(.long q5), (.int rA), (.long kA), (.ref b1)]))
            obtain ⟨cq9, kq9, q9a, q9b, q9c⟩ := isOf hZ e7 A1'5
            obtain ⟨_, _, ⟨T9, L9, k9, n9⟩, -, X9, ⟨Lc9, hQ9, l9, y9, z9⟩, st9⟩ := X7.virtualBack hx (y := (⟨"com/example/unutkan/unutkan/core/RecentEvictions", "record", "(JZJ)V"⟩ : MethodName)) (z := (⟨"com/example/unutkan/unutkan/core/RecentEvictions", "record", "(JZJ)V"⟩ : MethodName)) hown (mvT hZ (hw _ (List.mem_of_getElem? (i := 29) rfl))) (mvT hZ (hw _ (List.mem_of_getElem? (i := 30) rfl))) (notFace_of_selects (args := #[]) (mvT hZ (hw _ (List.mem_of_getElem? (i := 32) rfl)))) (mvT hZ (hw _ (List.mem_of_getElem? (i := 32) rfl))) (mvT hZ (hw _ (List.mem_of_getElem? (i := 31) rfl))) (by decide) (backOf (W := 0) (rm5 l Z a0 hw [] b1 kA rA q5 b5 kb5 w2 [] (own_maxL (1 : Int64) (mm / (4096 : Int64))) T5.heap n0 Z5 A1'5 Fu5 Fl5 H5 g5 ne_b1_b5 (own_max_ne _) (own_P_pos hPw2) (own_h0 _)) hZ (hw _ (List.mem_of_getElem? (i := 33) rfl)) (hw _ (List.mem_of_getElem? (i := 3) rfl)) (by decide) (by decide)) q9a q9c (g := (mkF m 211 #[.val (.int p1), .val (.int p2), .val (.long q3), .second, .val (.int p4), .val (.long q5), .second, .val (.long q6), .second, .val (.int w1), .val (.int w2), .val (.int r1), .val (.int rA), .val (.int rB), .val (.long mm), .second, .val (.ref b1), .val (.long (-1 : Int64)), .second, .val (.long (-1 : Int64)), .second, .val (.int w2), .val (.int (w2 >>> ((1 : Int32) &&& 31))), .val (.long ((w2 - (1 : Int32)).toInt64)), .second, .val (.long kA), .second, .val (.long kB), .second, .unset, .unset, .unset, .unset] [(.long q5), (.int rA), (.long kA), (.ref b1)])) rfl (by rw [hml]; rfl) (Steps.refl _) (argsL := [(.long kA), (.int rA), (.long q5)]) (rest := []) (lenOf pd_4 rfl) rfl (by show 2 * 0 + _ ≤ _; exact Nat.le_of_eq rfl) (hb hby at_211) (fun _ _ => ⟨rfl, e7, Nat.le_of_ble_eq_true rfl, Nat.le_of_ble_eq_true rfl⟩)
            dsimp only [Pt.U, Pt.locs, Pt.cells, Pt.slots] at X9 l9 y9 z9 st9 hQ9
            subst l9 y9 z9
            obtain ⟨rfl, N9q, K9, H9⟩ := hQ9
            have N9 := Fr.app N7 N9q
            refine own_go (fun _ k => st9.trans k) ?_
            have H2'9 := H2'5.keep K9 (ninS ne_b2_b5 nin0)
            have H4'9 := H4'5.keep K9 (ninS ne_b3_b5 nin0)
            have A1'9 := A1'5.keep K9
            have Fu5'9 := Fu5.keep K9 (ninS ne_b1_b5 nin0)
            have Fh5'9 := Fh5.keep K9 (ninS ne_b1_b5 nin0)
            have Fs5'9 := Fs5.keep K9 (ninS ne_b1_b5 nin0)
            have Fl5'9 := Fl5.keep K9 (ninS ne_b1_b5 nin0)
            have Z9 := Nat.le_trans Z5 K9.1
            show own_Ends p e below s _ _ _ (T9.setTop (mkF m 214 #[.val (.int p1), .val (.int p2), .val (.long q3), .second, .val (.int p4), .val (.long q5), .second, .val (.long q6), .second, .val (.int w1), .val (.int w2), .val (.int r1), .val (.int rA), .val (.int rB), .val (.long mm), .second, .val (.ref b1), .val (.long (-1 : Int64)), .second, .val (.long (-1 : Int64)), .second, .val (.int w2), .val (.int (w2 >>> ((1 : Int32) &&& 31))), .val (.long ((w2 - (1 : Int32)).toInt64)), .second, .val (.long kA), .second, .val (.long kB), .second, .unset, .unset, .unset, .unset] []))
            refine own_go (fun _ k => XS.aload X9.here hx rfl (hb hby at_214) rfl rfl <| XS.lload X9.here hx rfl (hb hby at_216) rfl <| XS.iload X9.here hx rfl (hb hby at_218) rfl <| XS.lload X9.here hx rfl (hb hby at_220) rfl <| k) ?_
            show own_Ends p e below s _ _ _ (T9.setTop (mkF m 222 #[.val (.int p1), .val (.int p2), .val (.long q3), .second, .val (.int p4), .val (.long q5), .second, .val (.long q6), .second, .val (.int w1), .val (.int w2), .val (.int r1), .val (.int rA), .val (.int rB), .val (.long mm), .second, .val (.ref b1), .val (.long (-1 : Int64)), .second, .val (.long (-1 : Int64)), .second, .val (.int w2), .val (.int (w2 >>> ((1 : Int32) &&& 31))), .val (.long ((w2 - (1 : Int32)).toInt64)), .second, .val (.long kA), .second, .val (.long kB), .second, .unset, .unset, .unset, .unset] [(.long q5), (.int rB), (.long kB), (.ref b1)]))
            obtain ⟨cq10, kq10, q10a, q10b, q10c⟩ := isOf hZ rfl A1'9
            obtain ⟨_, _, ⟨T10, L10, k10, n10⟩, -, X10, ⟨Lc10, hQ10, l10, y10, z10⟩, st10⟩ := X9.virtualBack hx (y := (⟨"com/example/unutkan/unutkan/core/RecentEvictions", "record", "(JZJ)V"⟩ : MethodName)) (z := (⟨"com/example/unutkan/unutkan/core/RecentEvictions", "record", "(JZJ)V"⟩ : MethodName)) hown (mvT hZ (hw _ (List.mem_of_getElem? (i := 29) rfl))) (mvT hZ (hw _ (List.mem_of_getElem? (i := 30) rfl))) (notFace_of_selects (args := #[]) (mvT hZ (hw _ (List.mem_of_getElem? (i := 32) rfl)))) (mvT hZ (hw _ (List.mem_of_getElem? (i := 32) rfl))) (mvT hZ (hw _ (List.mem_of_getElem? (i := 31) rfl))) (by decide) (backOf (W := 0) (rm5 l Z a0 hw [] b1 kB rB q5 b5 kb5 w2 (((own_i1 kA w2), (.int (own_rec rA (own_fp kA) (own_sta q5 (own_maxL (1 : Int64) (mm / (4096 : Int64))))))) :: []) (own_maxL (1 : Int64) (mm / (4096 : Int64))) T9.heap n0 Z9 A1'9 Fu5'9 Fl5'9 H9 g5 ne_b1_b5 (own_max_ne _) (own_P_pos hPw2) (getH_miss (own_i1_in kB (own_P_pos hPw2)).1 hiB (own_h0 _))) hZ (hw _ (List.mem_of_getElem? (i := 33) rfl)) (hw _ (List.mem_of_getElem? (i := 3) rfl)) (by decide) (by decide)) q10a q10c (g := (mkF m 222 #[.val (.int p1), .val (.int p2), .val (.long q3), .second, .val (.int p4), .val (.long q5), .second, .val (.long q6), .second, .val (.int w1), .val (.int w2), .val (.int r1), .val (.int rA), .val (.int rB), .val (.long mm), .second, .val (.ref b1), .val (.long (-1 : Int64)), .second, .val (.long (-1 : Int64)), .second, .val (.int w2), .val (.int (w2 >>> ((1 : Int32) &&& 31))), .val (.long ((w2 - (1 : Int32)).toInt64)), .second, .val (.long kA), .second, .val (.long kB), .second, .unset, .unset, .unset, .unset] [(.long q5), (.int rB), (.long kB), (.ref b1)])) rfl (by rw [hml]; rfl) (Steps.refl _) (argsL := [(.long kB), (.int rB), (.long q5)]) (rest := []) (lenOf pd_4 rfl) rfl (by show 2 * 0 + _ ≤ _; exact Nat.le_of_eq rfl) (hb hby at_222) (fun _ _ => ⟨rfl, rfl, Nat.le_of_ble_eq_true rfl, Nat.le_of_ble_eq_true rfl⟩)
            dsimp only [Pt.U, Pt.locs, Pt.cells, Pt.slots] at X10 l10 y10 z10 st10 hQ10
            subst l10 y10 z10
            obtain ⟨rfl, N10q, K10, H10⟩ := hQ10
            have N10 := Fr.app N9 N10q
            refine own_go (fun _ k => st10.trans k) ?_
            have H2'10 := H2'9.keep K10 (ninS ne_b2_b5 nin0)
            have H4'10 := H4'9.keep K10 (ninS ne_b3_b5 nin0)
            have A1'10 := A1'9.keep K10
            have Fu5'10 := Fu5'9.keep K10 (ninS ne_b1_b5 nin0)
            have Fh5'10 := Fh5'9.keep K10 (ninS ne_b1_b5 nin0)
            have Fs5'10 := Fs5'9.keep K10 (ninS ne_b1_b5 nin0)
            have Fl5'10 := Fl5'9.keep K10 (ninS ne_b1_b5 nin0)
            have Z10 := Nat.le_trans Z9 K10.1
            show own_Ends p e below s _ _ _ (T10.setTop (mkF m 225 #[.val (.int p1), .val (.int p2), .val (.long q3), .second, .val (.int p4), .val (.long q5), .second, .val (.long q6), .second, .val (.int w1), .val (.int w2), .val (.int r1), .val (.int rA), .val (.int rB), .val (.long mm), .second, .val (.ref b1), .val (.long (-1 : Int64)), .second, .val (.long (-1 : Int64)), .second, .val (.int w2), .val (.int (w2 >>> ((1 : Int32) &&& 31))), .val (.long ((w2 - (1 : Int32)).toInt64)), .second, .val (.long kA), .second, .val (.long kB), .second, .unset, .unset, .unset, .unset] []))
            refine own_go (fun _ k => XS.aload X10.here hx rfl (hb hby at_225) rfl rfl <| XS.lload X10.here hx rfl (hb hby at_227) rfl <| XS.lload X10.here hx rfl (hb hby at_229) rfl <| k) ?_
            show own_Ends p e below s _ _ _ (T10.setTop (mkF m 231 #[.val (.int p1), .val (.int p2), .val (.long q3), .second, .val (.int p4), .val (.long q5), .second, .val (.long q6), .second, .val (.int w1), .val (.int w2), .val (.int r1), .val (.int rA), .val (.int rB), .val (.long mm), .second, .val (.ref b1), .val (.long (-1 : Int64)), .second, .val (.long (-1 : Int64)), .second, .val (.int w2), .val (.int (w2 >>> ((1 : Int32) &&& 31))), .val (.long ((w2 - (1 : Int32)).toInt64)), .second, .val (.long kA), .second, .val (.long kB), .second, .unset, .unset, .unset, .unset] [(.long q5), (.long kA), (.ref b1)]))
            obtain ⟨cq11, kq11, q11a, q11b, q11c⟩ := isOf hZ rfl A1'10
            obtain ⟨_, _, ⟨T11, L11, k11, n11⟩, -, X11, ⟨Lc11, hQ11, l11, y11, z11⟩, st11⟩ := X10.virtualBack hx (y := (⟨"com/example/unutkan/unutkan/core/RecentEvictions", "take", "(JJ)J"⟩ : MethodName)) (z := (⟨"com/example/unutkan/unutkan/core/RecentEvictions", "take", "(JJ)J"⟩ : MethodName)) hown (mvT hZ (hw _ (List.mem_of_getElem? (i := 51) rfl))) (mvT hZ (hw _ (List.mem_of_getElem? (i := 52) rfl))) (notFace_of_selects (args := #[]) (mvT hZ (hw _ (List.mem_of_getElem? (i := 54) rfl)))) (mvT hZ (hw _ (List.mem_of_getElem? (i := 54) rfl))) (mvT hZ (hw _ (List.mem_of_getElem? (i := 53) rfl))) (by decide) (backOf (W := 0) (rmHit l Z a0 hw [] b1 kA q5 b5 kb5 w2 (((own_i1 kB w2), (.int (own_rec rB (own_fp kB) (own_sta q5 (own_maxL (1 : Int64) (mm / (4096 : Int64))))))) :: (((own_i1 kA w2), (.int (own_rec rA (own_fp kA) (own_sta q5 (own_maxL (1 : Int64) (mm / (4096 : Int64))))))) :: [])) (own_maxL (1 : Int64) (mm / (4096 : Int64))) (own_maxL (1 : Int64) mm) (own_rec rA (own_fp kA) (own_sta q5 (own_maxL (1 : Int64) (mm / (4096 : Int64))))) T10.heap n0 Z10 A1'10 Fu5'10 Fl5'10 H10 g5 ne_b1_b5 (own_max_ne _) (own_P_pos hPw2) Fh5'10 (getH_miss (own_i1_in kA (own_P_pos hPw2)).1 (fun q => hiB q.symm) (getH_hit (own_i1_in kA (own_P_pos hPw2)).1 rfl)) (own_rec_ne _ _ _ _) (own_rec_fo _ _ _ _) (own_max_age _ _ _ _ _)) hZ (hw _ (List.mem_of_getElem? (i := 55) rfl)) (hw _ (List.mem_of_getElem? (i := 3) rfl)) (by decide) (by decide)) q11a q11c (g := (mkF m 231 #[.val (.int p1), .val (.int p2), .val (.long q3), .second, .val (.int p4), .val (.long q5), .second, .val (.long q6), .second, .val (.int w1), .val (.int w2), .val (.int r1), .val (.int rA), .val (.int rB), .val (.long mm), .second, .val (.ref b1), .val (.long (-1 : Int64)), .second, .val (.long (-1 : Int64)), .second, .val (.int w2), .val (.int (w2 >>> ((1 : Int32) &&& 31))), .val (.long ((w2 - (1 : Int32)).toInt64)), .second, .val (.long kA), .second, .val (.long kB), .second, .unset, .unset, .unset, .unset] [(.long q5), (.long kA), (.ref b1)])) rfl (by rw [hml]; rfl) (Steps.refl _) (argsL := [(.long kA), (.long q5)]) (rest := []) (lenOf pd_2 rfl) rfl (by show 2 * 0 + _ ≤ _; exact Nat.le_of_eq rfl) (hb hby at_231) (fun _ _ => ⟨rfl, rfl, Nat.le_of_ble_eq_true rfl, Nat.le_of_ble_eq_true rfl⟩)
            dsimp only [Pt.U, Pt.locs, Pt.cells, Pt.slots] at X11 l11 y11 z11 st11 hQ11
            subst l11 y11 z11
            obtain ⟨rfl, N11q, K11, H11⟩ := hQ11
            have N11 := Fr.app N10 N11q
            refine own_go (fun _ k => st11.trans k) ?_
            have H2'11 := H2'10.keep K11 (ninS ne_b2_b5 nin0)
            have H4'11 := H4'10.keep K11 (ninS ne_b3_b5 nin0)
            have A1'11 := A1'10.keep K11
            have Fu5'11 := Fu5'10.keep K11 (ninS ne_b1_b5 nin0)
            have Fh5'11 := Fh5'10.keep K11 (ninS ne_b1_b5 nin0)
            have Fs5'11 := Fs5'10.keep K11 (ninS ne_b1_b5 nin0)
            have Fl5'11 := Fl5'10.keep K11 (ninS ne_b1_b5 nin0)
            have Z11 := Nat.le_trans Z10 K11.1
            show own_Ends p e below s _ _ _ (T11.setTop (mkF m 234 #[.val (.int p1), .val (.int p2), .val (.long q3), .second, .val (.int p4), .val (.long q5), .second, .val (.long q6), .second, .val (.int w1), .val (.int w2), .val (.int r1), .val (.int rA), .val (.int rB), .val (.long mm), .second, .val (.ref b1), .val (.long (-1 : Int64)), .second, .val (.long (-1 : Int64)), .second, .val (.int w2), .val (.int (w2 >>> ((1 : Int32) &&& 31))), .val (.long ((w2 - (1 : Int32)).toInt64)), .second, .val (.long kA), .second, .val (.long kB), .second, .unset, .unset, .unset, .unset] [(.long (own_tk (own_rec rA (own_fp kA) (own_sta q5 (own_maxL (1 : Int64) (mm / (4096 : Int64))))) q5 (own_maxL (1 : Int64) (mm / (4096 : Int64)))))]))
            refine own_go (fun _ k => XS.lstore X11.here hx rfl (hb hby at_234) rfl (l' := #[.val (.int p1), .val (.int p2), .val (.long q3), .second, .val (.int p4), .val (.long q5), .second, .val (.long q6), .second, .val (.int w1), .val (.int w2), .val (.int r1), .val (.int rA), .val (.int rB), .val (.long mm), .second, .val (.ref b1), .val (.long (-1 : Int64)), .second, .val (.long (-1 : Int64)), .second, .val (.int w2), .val (.int (w2 >>> ((1 : Int32) &&& 31))), .val (.long ((w2 - (1 : Int32)).toInt64)), .second, .val (.long kA), .second, .val (.long kB), .second, .val (.long (own_tk (own_rec rA (own_fp kA) (own_sta q5 (own_maxL (1 : Int64) (mm / (4096 : Int64))))) q5 (own_maxL (1 : Int64) (mm / (4096 : Int64))))), .second, .unset, .unset]) rfl <| XS.aload X11.here hx rfl (hb hby at_236) rfl rfl <| XS.lload X11.here hx rfl (hb hby at_238) rfl <| XS.lload X11.here hx rfl (hb hby at_240) rfl <| k) ?_
            show own_Ends p e below s _ _ _ (T11.setTop (mkF m 242 #[.val (.int p1), .val (.int p2), .val (.long q3), .second, .val (.int p4), .val (.long q5), .second, .val (.long q6), .second, .val (.int w1), .val (.int w2), .val (.int r1), .val (.int rA), .val (.int rB), .val (.long mm), .second, .val (.ref b1), .val (.long (-1 : Int64)), .second, .val (.long (-1 : Int64)), .second, .val (.int w2), .val (.int (w2 >>> ((1 : Int32) &&& 31))), .val (.long ((w2 - (1 : Int32)).toInt64)), .second, .val (.long kA), .second, .val (.long kB), .second, .val (.long (own_tk (own_rec rA (own_fp kA) (own_sta q5 (own_maxL (1 : Int64) (mm / (4096 : Int64))))) q5 (own_maxL (1 : Int64) (mm / (4096 : Int64))))), .second, .unset, .unset] [(.long q5), (.long kB), (.ref b1)]))
            obtain ⟨cq12, kq12, q12a, q12b, q12c⟩ := isOf hZ rfl A1'11
            obtain ⟨_, _, ⟨T12, L12, k12, n12⟩, -, X12, ⟨Lc12, hQ12, l12, y12, z12⟩, st12⟩ := X11.virtualBack hx (y := (⟨"com/example/unutkan/unutkan/core/RecentEvictions", "take", "(JJ)J"⟩ : MethodName)) (z := (⟨"com/example/unutkan/unutkan/core/RecentEvictions", "take", "(JJ)J"⟩ : MethodName)) hown (mvT hZ (hw _ (List.mem_of_getElem? (i := 51) rfl))) (mvT hZ (hw _ (List.mem_of_getElem? (i := 52) rfl))) (notFace_of_selects (args := #[]) (mvT hZ (hw _ (List.mem_of_getElem? (i := 54) rfl)))) (mvT hZ (hw _ (List.mem_of_getElem? (i := 54) rfl))) (mvT hZ (hw _ (List.mem_of_getElem? (i := 53) rfl))) (by decide) (backOf (W := 0) (rmHit l Z a0 hw [] b1 kB q5 b5 kb5 w2 (((own_i1 kA w2), (.int (0 : Int32))) :: (((own_i1 kB w2), (.int (own_rec rB (own_fp kB) (own_sta q5 (own_maxL (1 : Int64) (mm / (4096 : Int64))))))) :: (((own_i1 kA w2), (.int (own_rec rA (own_fp kA) (own_sta q5 (own_maxL (1 : Int64) (mm / (4096 : Int64))))))) :: []))) (own_maxL (1 : Int64) (mm / (4096 : Int64))) (own_maxL (1 : Int64) mm) (own_rec rB (own_fp kB) (own_sta q5 (own_maxL (1 : Int64) (mm / (4096 : Int64))))) T11.heap n0 Z11 A1'11 Fu5'11 Fl5'11 H11 g5 ne_b1_b5 (own_max_ne _) (own_P_pos hPw2) Fh5'11 (getH_miss (own_i1_in kB (own_P_pos hPw2)).1 hiB (getH_hit (own_i1_in kB (own_P_pos hPw2)).1 rfl)) (own_rec_ne _ _ _ _) (own_rec_fo _ _ _ _) (own_max_age _ _ _ _ _)) hZ (hw _ (List.mem_of_getElem? (i := 55) rfl)) (hw _ (List.mem_of_getElem? (i := 3) rfl)) (by decide) (by decide)) q12a q12c (g := (mkF m 242 #[.val (.int p1), .val (.int p2), .val (.long q3), .second, .val (.int p4), .val (.long q5), .second, .val (.long q6), .second, .val (.int w1), .val (.int w2), .val (.int r1), .val (.int rA), .val (.int rB), .val (.long mm), .second, .val (.ref b1), .val (.long (-1 : Int64)), .second, .val (.long (-1 : Int64)), .second, .val (.int w2), .val (.int (w2 >>> ((1 : Int32) &&& 31))), .val (.long ((w2 - (1 : Int32)).toInt64)), .second, .val (.long kA), .second, .val (.long kB), .second, .val (.long (own_tk (own_rec rA (own_fp kA) (own_sta q5 (own_maxL (1 : Int64) (mm / (4096 : Int64))))) q5 (own_maxL (1 : Int64) (mm / (4096 : Int64))))), .second, .unset, .unset] [(.long q5), (.long kB), (.ref b1)])) rfl (by rw [hml]; rfl) (Steps.refl _) (argsL := [(.long kB), (.long q5)]) (rest := []) (lenOf pd_2 rfl) rfl (by show 2 * 0 + _ ≤ _; exact Nat.le_of_eq rfl) (hb hby at_242) (fun _ _ => ⟨rfl, rfl, Nat.le_of_ble_eq_true rfl, Nat.le_of_ble_eq_true rfl⟩)
            dsimp only [Pt.U, Pt.locs, Pt.cells, Pt.slots] at X12 l12 y12 z12 st12 hQ12
            subst l12 y12 z12
            obtain ⟨rfl, N12q, K12, H12⟩ := hQ12
            have N12 := Fr.app N11 N12q
            refine own_go (fun _ k => st12.trans k) ?_
            have H2'12 := H2'11.keep K12 (ninS ne_b2_b5 nin0)
            have H4'12 := H4'11.keep K12 (ninS ne_b3_b5 nin0)
            have A1'12 := A1'11.keep K12
            have Fu5'12 := Fu5'11.keep K12 (ninS ne_b1_b5 nin0)
            have Fh5'12 := Fh5'11.keep K12 (ninS ne_b1_b5 nin0)
            have Fs5'12 := Fs5'11.keep K12 (ninS ne_b1_b5 nin0)
            have Fl5'12 := Fl5'11.keep K12 (ninS ne_b1_b5 nin0)
            have Z12 := Nat.le_trans Z11 K12.1
            show own_Ends p e below s _ _ _ (T12.setTop (mkF m 245 #[.val (.int p1), .val (.int p2), .val (.long q3), .second, .val (.int p4), .val (.long q5), .second, .val (.long q6), .second, .val (.int w1), .val (.int w2), .val (.int r1), .val (.int rA), .val (.int rB), .val (.long mm), .second, .val (.ref b1), .val (.long (-1 : Int64)), .second, .val (.long (-1 : Int64)), .second, .val (.int w2), .val (.int (w2 >>> ((1 : Int32) &&& 31))), .val (.long ((w2 - (1 : Int32)).toInt64)), .second, .val (.long kA), .second, .val (.long kB), .second, .val (.long (own_tk (own_rec rA (own_fp kA) (own_sta q5 (own_maxL (1 : Int64) (mm / (4096 : Int64))))) q5 (own_maxL (1 : Int64) (mm / (4096 : Int64))))), .second, .unset, .unset] [(.long (own_tk (own_rec rB (own_fp kB) (own_sta q5 (own_maxL (1 : Int64) (mm / (4096 : Int64))))) q5 (own_maxL (1 : Int64) (mm / (4096 : Int64)))))]))
            refine own_go (fun _ k => XS.lstore X12.here hx rfl (hb hby at_245) rfl (l' := #[.val (.int p1), .val (.int p2), .val (.long q3), .second, .val (.int p4), .val (.long q5), .second, .val (.long q6), .second, .val (.int w1), .val (.int w2), .val (.int r1), .val (.int rA), .val (.int rB), .val (.long mm), .second, .val (.ref b1), .val (.long (-1 : Int64)), .second, .val (.long (-1 : Int64)), .second, .val (.int w2), .val (.int (w2 >>> ((1 : Int32) &&& 31))), .val (.long ((w2 - (1 : Int32)).toInt64)), .second, .val (.long kA), .second, .val (.long kB), .second, .val (.long (own_tk (own_rec rA (own_fp kA) (own_sta q5 (own_maxL (1 : Int64) (mm / (4096 : Int64))))) q5 (own_maxL (1 : Int64) (mm / (4096 : Int64))))), .second, .val (.long (own_tk (own_rec rB (own_fp kB) (own_sta q5 (own_maxL (1 : Int64) (mm / (4096 : Int64))))) q5 (own_maxL (1 : Int64) (mm / (4096 : Int64))))), .second]) rfl <| XS.lload X12.here hx rfl (hb hby at_247) rfl <| XS.iload X12.here hx rfl (hb hby at_249) rfl <| k) ?_
            show own_Ends p e below s _ _ _ (T12.setTop (mkF m 251 #[.val (.int p1), .val (.int p2), .val (.long q3), .second, .val (.int p4), .val (.long q5), .second, .val (.long q6), .second, .val (.int w1), .val (.int w2), .val (.int r1), .val (.int rA), .val (.int rB), .val (.long mm), .second, .val (.ref b1), .val (.long (-1 : Int64)), .second, .val (.long (-1 : Int64)), .second, .val (.int w2), .val (.int (w2 >>> ((1 : Int32) &&& 31))), .val (.long ((w2 - (1 : Int32)).toInt64)), .second, .val (.long kA), .second, .val (.long kB), .second, .val (.long (own_tk (own_rec rA (own_fp kA) (own_sta q5 (own_maxL (1 : Int64) (mm / (4096 : Int64))))) q5 (own_maxL (1 : Int64) (mm / (4096 : Int64))))), .second, .val (.long (own_tk (own_rec rB (own_fp kB) (own_sta q5 (own_maxL (1 : Int64) (mm / (4096 : Int64))))) q5 (own_maxL (1 : Int64) (mm / (4096 : Int64))))), .second] [(.int rA), (.long (own_tk (own_rec rA (own_fp kA) (own_sta q5 (own_maxL (1 : Int64) (mm / (4096 : Int64))))) q5 (own_maxL (1 : Int64) (mm / (4096 : Int64)))))]))
            by_cases hc251_13 : rA = (0 : Int32)
            · -- true
              refine own_go (fun _ k => XS.ifYes X12.here hx rfl (pc0 := 251) (pc' := 258) rfl (hb hby at_251) rfl ((if0 _ _).trans (teq hc251_13).1) (by decide) (by decide) <| XT.lconstV X12.here hx rfl (0 : Int64) (hb hby at_258) rfl <| XS.lcmp X12.here hx rfl (hb hby at_259) rfl <| XS.ifNo X12.here hx rfl (hb hby at_260) rfl ((if0 _ _).trans (teq ((lw_eq _ _).mpr (by rw [own_tk_rec, if_pos hc251_13]))).2) <| XS.lload X12.here hx rfl (hb hby at_263) rfl <| k) ?_
              show own_Ends p e below s _ _ _ (T12.setTop (mkF m 265 #[.val (.int p1), .val (.int p2), .val (.long q3), .second, .val (.int p4), .val (.long q5), .second, .val (.long q6), .second, .val (.int w1), .val (.int w2), .val (.int r1), .val (.int rA), .val (.int rB), .val (.long mm), .second, .val (.ref b1), .val (.long (-1 : Int64)), .second, .val (.long (-1 : Int64)), .second, .val (.int w2), .val (.int (w2 >>> ((1 : Int32) &&& 31))), .val (.long ((w2 - (1 : Int32)).toInt64)), .second, .val (.long kA), .second, .val (.long kB), .second, .val (.long (own_tk (own_rec rA (own_fp kA) (own_sta q5 (own_maxL (1 : Int64) (mm / (4096 : Int64))))) q5 (own_maxL (1 : Int64) (mm / (4096 : Int64))))), .second, .val (.long (own_tk (own_rec rB (own_fp kB) (own_sta q5 (own_maxL (1 : Int64) (mm / (4096 : Int64))))) q5 (own_maxL (1 : Int64) (mm / (4096 : Int64))))), .second] [(.long (own_tk (own_rec rB (own_fp kB) (own_sta q5 (own_maxL (1 : Int64) (mm / (4096 : Int64))))) q5 (own_maxL (1 : Int64) (mm / (4096 : Int64)))))]))
              refine own_go (fun _ k => XS.iload X12.here hx rfl (hb hby at_265) rfl <| k) ?_
              show own_Ends p e below s _ _ _ (T12.setTop (mkF m 267 #[.val (.int p1), .val (.int p2), .val (.long q3), .second, .val (.int p4), .val (.long q5), .second, .val (.long q6), .second, .val (.int w1), .val (.int w2), .val (.int r1), .val (.int rA), .val (.int rB), .val (.long mm), .second, .val (.ref b1), .val (.long (-1 : Int64)), .second, .val (.long (-1 : Int64)), .second, .val (.int w2), .val (.int (w2 >>> ((1 : Int32) &&& 31))), .val (.long ((w2 - (1 : Int32)).toInt64)), .second, .val (.long kA), .second, .val (.long kB), .second, .val (.long (own_tk (own_rec rA (own_fp kA) (own_sta q5 (own_maxL (1 : Int64) (mm / (4096 : Int64))))) q5 (own_maxL (1 : Int64) (mm / (4096 : Int64))))), .second, .val (.long (own_tk (own_rec rB (own_fp kB) (own_sta q5 (own_maxL (1 : Int64) (mm / (4096 : Int64))))) q5 (own_maxL (1 : Int64) (mm / (4096 : Int64))))), .second] [(.int rB), (.long (own_tk (own_rec rB (own_fp kB) (own_sta q5 (own_maxL (1 : Int64) (mm / (4096 : Int64))))) q5 (own_maxL (1 : Int64) (mm / (4096 : Int64)))))]))
              by_cases hc267_14 : rB = (0 : Int32)
              · -- true
                refine own_go (fun _ k => XS.ifYes X12.here hx rfl (pc0 := 267) (pc' := 274) rfl (hb hby at_267) rfl ((if0 _ _).trans (teq hc267_14).1) (by decide) (by decide) <| XT.lconstV X12.here hx rfl (0 : Int64) (hb hby at_274) rfl <| XS.lcmp X12.here hx rfl (hb hby at_275) rfl <| XS.ifNo X12.here hx rfl (hb hby at_276) rfl ((if0 _ _).trans (teq ((lw_eq _ _).mpr (by rw [own_tk_rec, if_pos hc267_14]))).2) <| XT.iconstV X12.here hx rfl (1 : Int32) (hb hby at_279) rfl <| k) ?_
                show own_Ends p e below s _ _ _ (T12.setTop (mkF m 280 #[.val (.int p1), .val (.int p2), .val (.long q3), .second, .val (.int p4), .val (.long q5), .second, .val (.long q6), .second, .val (.int w1), .val (.int w2), .val (.int r1), .val (.int rA), .val (.int rB), .val (.long mm), .second, .val (.ref b1), .val (.long (-1 : Int64)), .second, .val (.long (-1 : Int64)), .second, .val (.int w2), .val (.int (w2 >>> ((1 : Int32) &&& 31))), .val (.long ((w2 - (1 : Int32)).toInt64)), .second, .val (.long kA), .second, .val (.long kB), .second, .val (.long (own_tk (own_rec rA (own_fp kA) (own_sta q5 (own_maxL (1 : Int64) (mm / (4096 : Int64))))) q5 (own_maxL (1 : Int64) (mm / (4096 : Int64))))), .second, .val (.long (own_tk (own_rec rB (own_fp kB) (own_sta q5 (own_maxL (1 : Int64) (mm / (4096 : Int64))))) q5 (own_maxL (1 : Int64) (mm / (4096 : Int64))))), .second] [(.int (1 : Int32))]))
                refine own_go (fun _ k => XS.goto X12.here hx rfl (pc0 := 280) (pc' := 284) rfl (hb hby at_280) (by decide) (by decide) <| k) ?_
                show own_Ends p e below s _ _ _ (T12.setTop (mkF m 284 #[.val (.int p1), .val (.int p2), .val (.long q3), .second, .val (.int p4), .val (.long q5), .second, .val (.long q6), .second, .val (.int w1), .val (.int w2), .val (.int r1), .val (.int rA), .val (.int rB), .val (.long mm), .second, .val (.ref b1), .val (.long (-1 : Int64)), .second, .val (.long (-1 : Int64)), .second, .val (.int w2), .val (.int (w2 >>> ((1 : Int32) &&& 31))), .val (.long ((w2 - (1 : Int32)).toInt64)), .second, .val (.long kA), .second, .val (.long kB), .second, .val (.long (own_tk (own_rec rA (own_fp kA) (own_sta q5 (own_maxL (1 : Int64) (mm / (4096 : Int64))))) q5 (own_maxL (1 : Int64) (mm / (4096 : Int64))))), .second, .val (.long (own_tk (own_rec rB (own_fp kB) (own_sta q5 (own_maxL (1 : Int64) (mm / (4096 : Int64))))) q5 (own_maxL (1 : Int64) (mm / (4096 : Int64))))), .second] [(.int (1 : Int32))]))
                exact own_retN X12 hx (t := .boolean) hrt (by simp) (hb hby at_284) hlk (show nar .boolean (1 : Int32) = (1 : Int32) from by decide) (by exact ⟨rfl, N12⟩) (by decide) (by decide)
              · -- false
                refine own_go (fun _ k => XS.ifNo X12.here hx rfl (hb hby at_267) rfl ((if0 _ _).trans (feq hc267_14).1) <| XT.lconstV X12.here hx rfl (1 : Int64) (hb hby at_270) rfl <| XS.goto X12.here hx rfl (pc0 := 271) (pc' := 275) rfl (hb hby at_271) (by decide) (by decide) <| XS.lcmp X12.here hx rfl (hb hby at_275) rfl <| k) ?_
                show own_Ends p e below s _ _ _ (T12.setTop (mkF m 276 #[.val (.int p1), .val (.int p2), .val (.long q3), .second, .val (.int p4), .val (.long q5), .second, .val (.long q6), .second, .val (.int w1), .val (.int w2), .val (.int r1), .val (.int rA), .val (.int rB), .val (.long mm), .second, .val (.ref b1), .val (.long (-1 : Int64)), .second, .val (.long (-1 : Int64)), .second, .val (.int w2), .val (.int (w2 >>> ((1 : Int32) &&& 31))), .val (.long ((w2 - (1 : Int32)).toInt64)), .second, .val (.long kA), .second, .val (.long kB), .second, .val (.long (own_tk (own_rec rA (own_fp kA) (own_sta q5 (own_maxL (1 : Int64) (mm / (4096 : Int64))))) q5 (own_maxL (1 : Int64) (mm / (4096 : Int64))))), .second, .val (.long (own_tk (own_rec rB (own_fp kB) (own_sta q5 (own_maxL (1 : Int64) (mm / (4096 : Int64))))) q5 (own_maxL (1 : Int64) (mm / (4096 : Int64))))), .second] [(.int (lcmpW (own_tk (own_rec rB (own_fp kB) (own_sta q5 (own_maxL (1 : Int64) (mm / (4096 : Int64))))) q5 (own_maxL (1 : Int64) (mm / (4096 : Int64)))) (1 : Int64)))]))
                refine own_go (fun _ k => XS.ifNo X12.here hx rfl (hb hby at_276) rfl ((if0 _ _).trans (teq ((lw_eq _ _).mpr (by rw [own_tk_rec, if_neg hc267_14]))).2) <| XT.iconstV X12.here hx rfl (1 : Int32) (hb hby at_279) rfl <| XS.goto X12.here hx rfl (pc0 := 280) (pc' := 284) rfl (hb hby at_280) (by decide) (by decide) <| k) ?_
                show own_Ends p e below s _ _ _ (T12.setTop (mkF m 284 #[.val (.int p1), .val (.int p2), .val (.long q3), .second, .val (.int p4), .val (.long q5), .second, .val (.long q6), .second, .val (.int w1), .val (.int w2), .val (.int r1), .val (.int rA), .val (.int rB), .val (.long mm), .second, .val (.ref b1), .val (.long (-1 : Int64)), .second, .val (.long (-1 : Int64)), .second, .val (.int w2), .val (.int (w2 >>> ((1 : Int32) &&& 31))), .val (.long ((w2 - (1 : Int32)).toInt64)), .second, .val (.long kA), .second, .val (.long kB), .second, .val (.long (own_tk (own_rec rA (own_fp kA) (own_sta q5 (own_maxL (1 : Int64) (mm / (4096 : Int64))))) q5 (own_maxL (1 : Int64) (mm / (4096 : Int64))))), .second, .val (.long (own_tk (own_rec rB (own_fp kB) (own_sta q5 (own_maxL (1 : Int64) (mm / (4096 : Int64))))) q5 (own_maxL (1 : Int64) (mm / (4096 : Int64))))), .second] [(.int (1 : Int32))]))
                exact own_retN X12 hx (t := .boolean) hrt (by simp) (hb hby at_284) hlk (show nar .boolean (1 : Int32) = (1 : Int32) from by decide) (by exact ⟨rfl, N12⟩) (by decide) (by decide)
            · -- false
              refine own_go (fun _ k => XS.ifNo X12.here hx rfl (hb hby at_251) rfl ((if0 _ _).trans (feq hc251_13).1) <| XT.lconstV X12.here hx rfl (1 : Int64) (hb hby at_254) rfl <| XS.goto X12.here hx rfl (pc0 := 255) (pc' := 259) rfl (hb hby at_255) (by decide) (by decide) <| XS.lcmp X12.here hx rfl (hb hby at_259) rfl <| k) ?_
              show own_Ends p e below s _ _ _ (T12.setTop (mkF m 260 #[.val (.int p1), .val (.int p2), .val (.long q3), .second, .val (.int p4), .val (.long q5), .second, .val (.long q6), .second, .val (.int w1), .val (.int w2), .val (.int r1), .val (.int rA), .val (.int rB), .val (.long mm), .second, .val (.ref b1), .val (.long (-1 : Int64)), .second, .val (.long (-1 : Int64)), .second, .val (.int w2), .val (.int (w2 >>> ((1 : Int32) &&& 31))), .val (.long ((w2 - (1 : Int32)).toInt64)), .second, .val (.long kA), .second, .val (.long kB), .second, .val (.long (own_tk (own_rec rA (own_fp kA) (own_sta q5 (own_maxL (1 : Int64) (mm / (4096 : Int64))))) q5 (own_maxL (1 : Int64) (mm / (4096 : Int64))))), .second, .val (.long (own_tk (own_rec rB (own_fp kB) (own_sta q5 (own_maxL (1 : Int64) (mm / (4096 : Int64))))) q5 (own_maxL (1 : Int64) (mm / (4096 : Int64))))), .second] [(.int (lcmpW (own_tk (own_rec rA (own_fp kA) (own_sta q5 (own_maxL (1 : Int64) (mm / (4096 : Int64))))) q5 (own_maxL (1 : Int64) (mm / (4096 : Int64)))) (1 : Int64)))]))
              refine own_go (fun _ k => XS.ifNo X12.here hx rfl (hb hby at_260) rfl ((if0 _ _).trans (teq ((lw_eq _ _).mpr (by rw [own_tk_rec, if_neg hc251_13]))).2) <| XS.lload X12.here hx rfl (hb hby at_263) rfl <| XS.iload X12.here hx rfl (hb hby at_265) rfl <| k) ?_
              show own_Ends p e below s _ _ _ (T12.setTop (mkF m 267 #[.val (.int p1), .val (.int p2), .val (.long q3), .second, .val (.int p4), .val (.long q5), .second, .val (.long q6), .second, .val (.int w1), .val (.int w2), .val (.int r1), .val (.int rA), .val (.int rB), .val (.long mm), .second, .val (.ref b1), .val (.long (-1 : Int64)), .second, .val (.long (-1 : Int64)), .second, .val (.int w2), .val (.int (w2 >>> ((1 : Int32) &&& 31))), .val (.long ((w2 - (1 : Int32)).toInt64)), .second, .val (.long kA), .second, .val (.long kB), .second, .val (.long (own_tk (own_rec rA (own_fp kA) (own_sta q5 (own_maxL (1 : Int64) (mm / (4096 : Int64))))) q5 (own_maxL (1 : Int64) (mm / (4096 : Int64))))), .second, .val (.long (own_tk (own_rec rB (own_fp kB) (own_sta q5 (own_maxL (1 : Int64) (mm / (4096 : Int64))))) q5 (own_maxL (1 : Int64) (mm / (4096 : Int64))))), .second] [(.int rB), (.long (own_tk (own_rec rB (own_fp kB) (own_sta q5 (own_maxL (1 : Int64) (mm / (4096 : Int64))))) q5 (own_maxL (1 : Int64) (mm / (4096 : Int64)))))]))
              by_cases hc267_15 : rB = (0 : Int32)
              · -- true
                refine own_go (fun _ k => XS.ifYes X12.here hx rfl (pc0 := 267) (pc' := 274) rfl (hb hby at_267) rfl ((if0 _ _).trans (teq hc267_15).1) (by decide) (by decide) <| XT.lconstV X12.here hx rfl (0 : Int64) (hb hby at_274) rfl <| XS.lcmp X12.here hx rfl (hb hby at_275) rfl <| XS.ifNo X12.here hx rfl (hb hby at_276) rfl ((if0 _ _).trans (teq ((lw_eq _ _).mpr (by rw [own_tk_rec, if_pos hc267_15]))).2) <| XT.iconstV X12.here hx rfl (1 : Int32) (hb hby at_279) rfl <| k) ?_
                show own_Ends p e below s _ _ _ (T12.setTop (mkF m 280 #[.val (.int p1), .val (.int p2), .val (.long q3), .second, .val (.int p4), .val (.long q5), .second, .val (.long q6), .second, .val (.int w1), .val (.int w2), .val (.int r1), .val (.int rA), .val (.int rB), .val (.long mm), .second, .val (.ref b1), .val (.long (-1 : Int64)), .second, .val (.long (-1 : Int64)), .second, .val (.int w2), .val (.int (w2 >>> ((1 : Int32) &&& 31))), .val (.long ((w2 - (1 : Int32)).toInt64)), .second, .val (.long kA), .second, .val (.long kB), .second, .val (.long (own_tk (own_rec rA (own_fp kA) (own_sta q5 (own_maxL (1 : Int64) (mm / (4096 : Int64))))) q5 (own_maxL (1 : Int64) (mm / (4096 : Int64))))), .second, .val (.long (own_tk (own_rec rB (own_fp kB) (own_sta q5 (own_maxL (1 : Int64) (mm / (4096 : Int64))))) q5 (own_maxL (1 : Int64) (mm / (4096 : Int64))))), .second] [(.int (1 : Int32))]))
                refine own_go (fun _ k => XS.goto X12.here hx rfl (pc0 := 280) (pc' := 284) rfl (hb hby at_280) (by decide) (by decide) <| k) ?_
                show own_Ends p e below s _ _ _ (T12.setTop (mkF m 284 #[.val (.int p1), .val (.int p2), .val (.long q3), .second, .val (.int p4), .val (.long q5), .second, .val (.long q6), .second, .val (.int w1), .val (.int w2), .val (.int r1), .val (.int rA), .val (.int rB), .val (.long mm), .second, .val (.ref b1), .val (.long (-1 : Int64)), .second, .val (.long (-1 : Int64)), .second, .val (.int w2), .val (.int (w2 >>> ((1 : Int32) &&& 31))), .val (.long ((w2 - (1 : Int32)).toInt64)), .second, .val (.long kA), .second, .val (.long kB), .second, .val (.long (own_tk (own_rec rA (own_fp kA) (own_sta q5 (own_maxL (1 : Int64) (mm / (4096 : Int64))))) q5 (own_maxL (1 : Int64) (mm / (4096 : Int64))))), .second, .val (.long (own_tk (own_rec rB (own_fp kB) (own_sta q5 (own_maxL (1 : Int64) (mm / (4096 : Int64))))) q5 (own_maxL (1 : Int64) (mm / (4096 : Int64))))), .second] [(.int (1 : Int32))]))
                exact own_retN X12 hx (t := .boolean) hrt (by simp) (hb hby at_284) hlk (show nar .boolean (1 : Int32) = (1 : Int32) from by decide) (by exact ⟨rfl, N12⟩) (by decide) (by decide)
              · -- false
                refine own_go (fun _ k => XS.ifNo X12.here hx rfl (hb hby at_267) rfl ((if0 _ _).trans (feq hc267_15).1) <| XT.lconstV X12.here hx rfl (1 : Int64) (hb hby at_270) rfl <| XS.goto X12.here hx rfl (pc0 := 271) (pc' := 275) rfl (hb hby at_271) (by decide) (by decide) <| XS.lcmp X12.here hx rfl (hb hby at_275) rfl <| k) ?_
                show own_Ends p e below s _ _ _ (T12.setTop (mkF m 276 #[.val (.int p1), .val (.int p2), .val (.long q3), .second, .val (.int p4), .val (.long q5), .second, .val (.long q6), .second, .val (.int w1), .val (.int w2), .val (.int r1), .val (.int rA), .val (.int rB), .val (.long mm), .second, .val (.ref b1), .val (.long (-1 : Int64)), .second, .val (.long (-1 : Int64)), .second, .val (.int w2), .val (.int (w2 >>> ((1 : Int32) &&& 31))), .val (.long ((w2 - (1 : Int32)).toInt64)), .second, .val (.long kA), .second, .val (.long kB), .second, .val (.long (own_tk (own_rec rA (own_fp kA) (own_sta q5 (own_maxL (1 : Int64) (mm / (4096 : Int64))))) q5 (own_maxL (1 : Int64) (mm / (4096 : Int64))))), .second, .val (.long (own_tk (own_rec rB (own_fp kB) (own_sta q5 (own_maxL (1 : Int64) (mm / (4096 : Int64))))) q5 (own_maxL (1 : Int64) (mm / (4096 : Int64))))), .second] [(.int (lcmpW (own_tk (own_rec rB (own_fp kB) (own_sta q5 (own_maxL (1 : Int64) (mm / (4096 : Int64))))) q5 (own_maxL (1 : Int64) (mm / (4096 : Int64)))) (1 : Int64)))]))
                refine own_go (fun _ k => XS.ifNo X12.here hx rfl (hb hby at_276) rfl ((if0 _ _).trans (teq ((lw_eq _ _).mpr (by rw [own_tk_rec, if_neg hc267_15]))).2) <| XT.iconstV X12.here hx rfl (1 : Int32) (hb hby at_279) rfl <| XS.goto X12.here hx rfl (pc0 := 280) (pc' := 284) rfl (hb hby at_280) (by decide) (by decide) <| k) ?_
                show own_Ends p e below s _ _ _ (T12.setTop (mkF m 284 #[.val (.int p1), .val (.int p2), .val (.long q3), .second, .val (.int p4), .val (.long q5), .second, .val (.long q6), .second, .val (.int w1), .val (.int w2), .val (.int r1), .val (.int rA), .val (.int rB), .val (.long mm), .second, .val (.ref b1), .val (.long (-1 : Int64)), .second, .val (.long (-1 : Int64)), .second, .val (.int w2), .val (.int (w2 >>> ((1 : Int32) &&& 31))), .val (.long ((w2 - (1 : Int32)).toInt64)), .second, .val (.long kA), .second, .val (.long kB), .second, .val (.long (own_tk (own_rec rA (own_fp kA) (own_sta q5 (own_maxL (1 : Int64) (mm / (4096 : Int64))))) q5 (own_maxL (1 : Int64) (mm / (4096 : Int64))))), .second, .val (.long (own_tk (own_rec rB (own_fp kB) (own_sta q5 (own_maxL (1 : Int64) (mm / (4096 : Int64))))) q5 (own_maxL (1 : Int64) (mm / (4096 : Int64))))), .second] [(.int (1 : Int32))]))
                exact own_retN X12 hx (t := .boolean) hrt (by simp) (hb hby at_284) hlk (show nar .boolean (1 : Int32) = (1 : Int32) from by decide) (by exact ⟨rfl, N12⟩) (by decide) (by decide)
        · -- S
          refine own_go (fun _ k => XS.aload X4.here hx rfl (hb hby at_94) rfl rfl <| XS.iload X4.here hx rfl (hb hby at_96) rfl <| k) ?_
          show own_Ends p e below s _ _ _ (T4.setTop (mkF m 98 #[.val (.int p1), .val (.int p2), .val (.long q3), .second, .val (.int p4), .val (.long q5), .second, .val (.long q6), .second, .val (.int w1), .val (.int w2), .val (.int r1), .val (.int rA), .val (.int rB), .val (.long mm), .second, .val (.ref b1), .unset, .unset, .unset, .unset, .unset, .unset, .unset, .unset, .unset, .unset, .unset, .unset, .unset, .unset, .unset, .unset] [(.int w2), (.ref b1)]))
          obtain ⟨cq16, kq16, q16a, q16b, q16c⟩ := isOf hZ rfl A1'4
          obtain ⟨_, _, ⟨T16, L16, k16, n16⟩, -, X16, ⟨Lc16, hQ16, l16, y16, z16⟩, st16⟩ := X4.virtualBack hx (y := (⟨"com/example/unutkan/unutkan/core/RecentEvictions", "ensureCapacity", "(I)V"⟩ : MethodName)) (z := (⟨"com/example/unutkan/unutkan/core/RecentEvictions", "ensureCapacity", "(I)V"⟩ : MethodName)) hown (mvT hZ (hw _ (List.mem_of_getElem? (i := 22) rfl))) (mvT hZ (hw _ (List.mem_of_getElem? (i := 23) rfl))) (notFace_of_selects (args := #[]) (mvT hZ (hw _ (List.mem_of_getElem? (i := 25) rfl)))) (mvT hZ (hw _ (List.mem_of_getElem? (i := 25) rfl))) (mvT hZ (hw _ (List.mem_of_getElem? (i := 24) rfl))) (by decide) (backOf (W := 0) (rmStay l Z a0 hw [] b1 w2 b3 kb3 w1 (((own_i1 q3 w1), (.int (own_rec r1 (own_fp q3) (own_sta q5 (own_maxL (1 : Int64) (mm / (4096 : Int64))))))) :: []) T4.heap n0 Z4 Fl3'4 H4 hlt) hZ (hw _ (List.mem_of_getElem? (i := 26) rfl)) (hw _ (List.mem_of_getElem? (i := 3) rfl)) (by decide) (by decide)) q16a q16c (g := (mkF m 98 #[.val (.int p1), .val (.int p2), .val (.long q3), .second, .val (.int p4), .val (.long q5), .second, .val (.long q6), .second, .val (.int w1), .val (.int w2), .val (.int r1), .val (.int rA), .val (.int rB), .val (.long mm), .second, .val (.ref b1), .unset, .unset, .unset, .unset, .unset, .unset, .unset, .unset, .unset, .unset, .unset, .unset, .unset, .unset, .unset, .unset] [(.int w2), (.ref b1)])) rfl (by rw [hml]; rfl) (Steps.refl _) (argsL := [(.int w2)]) (rest := []) (lenOf pd_3 rfl) rfl (by show 2 * 0 + _ ≤ _; exact Nat.le_of_eq rfl) (hb hby at_98) (fun _ _ => ⟨rfl, rfl, Nat.le_of_ble_eq_true rfl, Nat.le_of_ble_eq_true rfl⟩)
          dsimp only [Pt.U, Pt.locs, Pt.cells, Pt.slots] at X16 l16 y16 z16 st16 hQ16
          subst l16 y16 z16
          obtain ⟨rfl, N16q, e16⟩ := hQ16
          have N16 := Fr.app N4 N16q
          refine own_go (fun _ k => st16.trans k) ?_
          show own_Ends p e below s _ _ _ (T16.setTop (mkF m 101 #[.val (.int p1), .val (.int p2), .val (.long q3), .second, .val (.int p4), .val (.long q5), .second, .val (.long q6), .second, .val (.int w1), .val (.int w2), .val (.int r1), .val (.int rA), .val (.int rB), .val (.long mm), .second, .val (.ref b1), .unset, .unset, .unset, .unset, .unset, .unset, .unset, .unset, .unset, .unset, .unset, .unset, .unset, .unset, .unset, .unset] []))
          refine own_go (fun _ k => XS.aload X16.here hx rfl (hb hby at_101) rfl rfl <| XS.lloadN X16.here hx rfl (hb hby at_103) rfl <| XS.lload X16.here hx rfl (hb hby at_104) rfl <| k) ?_
          show own_Ends p e below s _ _ _ (T16.setTop (mkF m 106 #[.val (.int p1), .val (.int p2), .val (.long q3), .second, .val (.int p4), .val (.long q5), .second, .val (.long q6), .second, .val (.int w1), .val (.int w2), .val (.int r1), .val (.int rA), .val (.int rB), .val (.long mm), .second, .val (.ref b1), .unset, .unset, .unset, .unset, .unset, .unset, .unset, .unset, .unset, .unset, .unset, .unset, .unset, .unset, .unset, .unset] [(.long q5), (.long q3), (.ref b1)]))
          obtain ⟨cq17, kq17, q17a, q17b, q17c⟩ := isOf hZ e16 A1'4
          obtain ⟨_, _, ⟨T17, L17, k17, n17⟩, -, X17, ⟨Lc17, hQ17, l17, y17, z17⟩, st17⟩ := X16.virtualBack hx (y := (⟨"com/example/unutkan/unutkan/core/RecentEvictions", "take", "(JJ)J"⟩ : MethodName)) (z := (⟨"com/example/unutkan/unutkan/core/RecentEvictions", "take", "(JJ)J"⟩ : MethodName)) hown (mvT hZ (hw _ (List.mem_of_getElem? (i := 51) rfl))) (mvT hZ (hw _ (List.mem_of_getElem? (i := 52) rfl))) (notFace_of_selects (args := #[]) (mvT hZ (hw _ (List.mem_of_getElem? (i := 54) rfl)))) (mvT hZ (hw _ (List.mem_of_getElem? (i := 54) rfl))) (mvT hZ (hw _ (List.mem_of_getElem? (i := 53) rfl))) (by decide) (backOf (W := 0) (rmHit l Z a0 hw [] b1 q3 q5 b3 kb3 w1 (((own_i1 q3 w1), (.int (own_rec r1 (own_fp q3) (own_sta q5 (own_maxL (1 : Int64) (mm / (4096 : Int64))))))) :: []) (own_maxL (1 : Int64) (mm / (4096 : Int64))) (own_maxL (1 : Int64) mm) (own_rec r1 (own_fp q3) (own_sta q5 (own_maxL (1 : Int64) (mm / (4096 : Int64))))) T4.heap n0 Z4 A1'4 Fu3'4 Fl3'4 H4 g3 ne_b1_b3 (own_max_ne _) (own_P_pos hPw1) Fh3'4 (getH_hit (own_i1_in q3 (own_P_pos hPw1)).1 rfl) (own_rec_ne _ _ _ _) (own_rec_fo _ _ _ _) (own_max_age _ _ _ _ _)) hZ (hw _ (List.mem_of_getElem? (i := 55) rfl)) (hw _ (List.mem_of_getElem? (i := 3) rfl)) (by decide) (by decide)) q17a q17c (g := (mkF m 106 #[.val (.int p1), .val (.int p2), .val (.long q3), .second, .val (.int p4), .val (.long q5), .second, .val (.long q6), .second, .val (.int w1), .val (.int w2), .val (.int r1), .val (.int rA), .val (.int rB), .val (.long mm), .second, .val (.ref b1), .unset, .unset, .unset, .unset, .unset, .unset, .unset, .unset, .unset, .unset, .unset, .unset, .unset, .unset, .unset, .unset] [(.long q5), (.long q3), (.ref b1)])) rfl (by rw [hml]; rfl) (Steps.refl _) (argsL := [(.long q3), (.long q5)]) (rest := []) (lenOf pd_2 rfl) rfl (by show 2 * 0 + _ ≤ _; exact Nat.le_of_eq rfl) (hb hby at_106) (fun _ _ => ⟨rfl, e16, Nat.le_of_ble_eq_true rfl, Nat.le_of_ble_eq_true rfl⟩)
          dsimp only [Pt.U, Pt.locs, Pt.cells, Pt.slots] at X17 l17 y17 z17 st17 hQ17
          subst l17 y17 z17
          obtain ⟨rfl, N17q, K17, H17⟩ := hQ17
          have N17 := Fr.app N16 N17q
          refine own_go (fun _ k => st17.trans k) ?_
          have H2'17 := H2'4.keep K17 (ninS ne_b2_b3 nin0)
          have A1'17 := A1'4.keep K17
          have Fu3'17 := Fu3'4.keep K17 (ninS ne_b1_b3 nin0)
          have Fh3'17 := Fh3'4.keep K17 (ninS ne_b1_b3 nin0)
          have Fs3'17 := Fs3'4.keep K17 (ninS ne_b1_b3 nin0)
          have Fl3'17 := Fl3'4.keep K17 (ninS ne_b1_b3 nin0)
          have Z17 := Nat.le_trans Z4 K17.1
          show own_Ends p e below s _ _ _ (T17.setTop (mkF m 109 #[.val (.int p1), .val (.int p2), .val (.long q3), .second, .val (.int p4), .val (.long q5), .second, .val (.long q6), .second, .val (.int w1), .val (.int w2), .val (.int r1), .val (.int rA), .val (.int rB), .val (.long mm), .second, .val (.ref b1), .unset, .unset, .unset, .unset, .unset, .unset, .unset, .unset, .unset, .unset, .unset, .unset, .unset, .unset, .unset, .unset] [(.long (own_tk (own_rec r1 (own_fp q3) (own_sta q5 (own_maxL (1 : Int64) (mm / (4096 : Int64))))) q5 (own_maxL (1 : Int64) (mm / (4096 : Int64)))))]))
          refine own_go (fun _ k => XS.lstore X17.here hx rfl (hb hby at_109) rfl (l' := #[.val (.int p1), .val (.int p2), .val (.long q3), .second, .val (.int p4), .val (.long q5), .second, .val (.long q6), .second, .val (.int w1), .val (.int w2), .val (.int r1), .val (.int rA), .val (.int rB), .val (.long mm), .second, .val (.ref b1), .val (.long (own_tk (own_rec r1 (own_fp q3) (own_sta q5 (own_maxL (1 : Int64) (mm / (4096 : Int64))))) q5 (own_maxL (1 : Int64) (mm / (4096 : Int64))))), .second, .unset, .unset, .unset, .unset, .unset, .unset, .unset, .unset, .unset, .unset, .unset, .unset, .unset, .unset]) rfl <| k) ?_
          show own_Ends p e below s _ _ _ (T17.setTop (mkF m 111 #[.val (.int p1), .val (.int p2), .val (.long q3), .second, .val (.int p4), .val (.long q5), .second, .val (.long q6), .second, .val (.int w1), .val (.int w2), .val (.int r1), .val (.int rA), .val (.int rB), .val (.long mm), .second, .val (.ref b1), .val (.long (own_tk (own_rec r1 (own_fp q3) (own_sta q5 (own_maxL (1 : Int64) (mm / (4096 : Int64))))) q5 (own_maxL (1 : Int64) (mm / (4096 : Int64))))), .second, .unset, .unset, .unset, .unset, .unset, .unset, .unset, .unset, .unset, .unset, .unset, .unset, .unset, .unset] []))
          refine own_go (fun _ k => XS.iload X17.here hx rfl (hb hby at_111) rfl <| XS.iload X17.here hx rfl (hb hby at_113) rfl <| XS.icmpYes X17.here hx rfl (pc0 := 115) (pc' := 124) rfl (hb hby at_115) rfl (flt hlt).2.2.2 (by decide) (by decide) <| XS.iload X17.here hx rfl (hb hby at_124) rfl <| k) ?_
          show own_Ends p e below s _ _ _ (T17.setTop (mkF m 126 #[.val (.int p1), .val (.int p2), .val (.long q3), .second, .val (.int p4), .val (.long q5), .second, .val (.long q6), .second, .val (.int w1), .val (.int w2), .val (.int r1), .val (.int rA), .val (.int rB), .val (.long mm), .second, .val (.ref b1), .val (.long (own_tk (own_rec r1 (own_fp q3) (own_sta q5 (own_maxL (1 : Int64) (mm / (4096 : Int64))))) q5 (own_maxL (1 : Int64) (mm / (4096 : Int64))))), .second, .unset, .unset, .unset, .unset, .unset, .unset, .unset, .unset, .unset, .unset, .unset, .unset, .unset, .unset] [(.int r1)]))
          by_cases hc126_18 : r1 = (0 : Int32)
          · -- true
            refine own_go (fun _ k => XS.ifYes X17.here hx rfl (pc0 := 126) (pc' := 133) rfl (hb hby at_126) rfl ((if0 _ _).trans (teq hc126_18).1) (by decide) (by decide) <| XT.lconstV X17.here hx rfl (0 : Int64) (hb hby at_133) rfl <| k) ?_
            show own_Ends p e below s _ _ _ (T17.setTop (mkF m 134 #[.val (.int p1), .val (.int p2), .val (.long q3), .second, .val (.int p4), .val (.long q5), .second, .val (.long q6), .second, .val (.int w1), .val (.int w2), .val (.int r1), .val (.int rA), .val (.int rB), .val (.long mm), .second, .val (.ref b1), .val (.long (own_tk (own_rec r1 (own_fp q3) (own_sta q5 (own_maxL (1 : Int64) (mm / (4096 : Int64))))) q5 (own_maxL (1 : Int64) (mm / (4096 : Int64))))), .second, .unset, .unset, .unset, .unset, .unset, .unset, .unset, .unset, .unset, .unset, .unset, .unset, .unset, .unset] [(.long (0 : Int64))]))
            refine own_go (fun _ k => XS.lstore X17.here hx rfl (hb hby at_134) rfl (l' := #[.val (.int p1), .val (.int p2), .val (.long q3), .second, .val (.int p4), .val (.long q5), .second, .val (.long q6), .second, .val (.int w1), .val (.int w2), .val (.int r1), .val (.int rA), .val (.int rB), .val (.long mm), .second, .val (.ref b1), .val (.long (own_tk (own_rec r1 (own_fp q3) (own_sta q5 (own_maxL (1 : Int64) (mm / (4096 : Int64))))) q5 (own_maxL (1 : Int64) (mm / (4096 : Int64))))), .second, .val (.long (0 : Int64)), .second, .unset, .unset, .unset, .unset, .unset, .unset, .unset, .unset, .unset, .unset, .unset, .unset]) rfl <| k) ?_
            show own_Ends p e below s _ _ _ (T17.setTop (mkF m 136 #[.val (.int p1), .val (.int p2), .val (.long q3), .second, .val (.int p4), .val (.long q5), .second, .val (.long q6), .second, .val (.int w1), .val (.int w2), .val (.int r1), .val (.int rA), .val (.int rB), .val (.long mm), .second, .val (.ref b1), .val (.long (own_tk (own_rec r1 (own_fp q3) (own_sta q5 (own_maxL (1 : Int64) (mm / (4096 : Int64))))) q5 (own_maxL (1 : Int64) (mm / (4096 : Int64))))), .second, .val (.long (0 : Int64)), .second, .unset, .unset, .unset, .unset, .unset, .unset, .unset, .unset, .unset, .unset, .unset, .unset] []))
            refine own_go (fun _ k => XS.lload X17.here hx rfl (hb hby at_136) rfl <| XS.lload X17.here hx rfl (hb hby at_138) rfl <| XS.lcmp X17.here hx rfl (hb hby at_140) rfl <| XS.ifYes X17.here hx rfl (pc0 := 141) (pc' := 146) rfl (hb hby at_141) rfl ((if0 _ _).trans (teq ((lw_eq _ _).mpr (by rw [own_tk_rec, if_pos hc126_18]))).1) (by decide) (by decide) <| XS.iload X17.here hx rfl (hb hby at_146) rfl <| k) ?_
            show own_Ends p e below s _ _ _ (T17.setTop (mkF m 148 #[.val (.int p1), .val (.int p2), .val (.long q3), .second, .val (.int p4), .val (.long q5), .second, .val (.long q6), .second, .val (.int w1), .val (.int w2), .val (.int r1), .val (.int rA), .val (.int rB), .val (.long mm), .second, .val (.ref b1), .val (.long (own_tk (own_rec r1 (own_fp q3) (own_sta q5 (own_maxL (1 : Int64) (mm / (4096 : Int64))))) q5 (own_maxL (1 : Int64) (mm / (4096 : Int64))))), .second, .val (.long (0 : Int64)), .second, .unset, .unset, .unset, .unset, .unset, .unset, .unset, .unset, .unset, .unset, .unset, .unset] [(.int w1)]))
            refine own_go (fun _ k => XS.iload X17.here hx rfl (hb hby at_148) rfl <| k) ?_
            show own_Ends p e below s _ _ _ (T17.setTop (mkF m 150 #[.val (.int p1), .val (.int p2), .val (.long q3), .second, .val (.int p4), .val (.long q5), .second, .val (.long q6), .second, .val (.int w1), .val (.int w2), .val (.int r1), .val (.int rA), .val (.int rB), .val (.long mm), .second, .val (.ref b1), .val (.long (own_tk (own_rec r1 (own_fp q3) (own_sta q5 (own_maxL (1 : Int64) (mm / (4096 : Int64))))) q5 (own_maxL (1 : Int64) (mm / (4096 : Int64))))), .second, .val (.long (0 : Int64)), .second, .unset, .unset, .unset, .unset, .unset, .unset, .unset, .unset, .unset, .unset, .unset, .unset] [(.int w2), (.int w1)]))
            obtain ⟨_, _, ⟨T19, L19, k19, n19⟩, -, X19, ⟨Lc19, hQ19, l19, y19, z19⟩, st19⟩ := Jvm.LawKit.callS X17 hx (y := (⟨"java/lang/Math", "max", "(II)I"⟩ : MethodName)) hown (mvT hZ (hw _ (List.mem_of_getElem? (i := 58) rfl))) (mvT hZ (hw _ (List.mem_of_getElem? (i := 59) rfl))) (mvT hZ (hw _ (List.mem_of_getElem? (i := 13) rfl))) (mvT hZ (hw _ (List.mem_of_getElem? (i := 60) rfl))) (by decide) (backOf (W := 0) (rm11 l Z a0 hw [] w1 w2 T17.heap n0 Z17) hZ (hw _ (List.mem_of_getElem? (i := 60) rfl)) (hw _ (List.mem_of_getElem? (i := 13) rfl)) (by decide) (by decide)) (g := (mkF m 150 #[.val (.int p1), .val (.int p2), .val (.long q3), .second, .val (.int p4), .val (.long q5), .second, .val (.long q6), .second, .val (.int w1), .val (.int w2), .val (.int r1), .val (.int rA), .val (.int rB), .val (.long mm), .second, .val (.ref b1), .val (.long (own_tk (own_rec r1 (own_fp q3) (own_sta q5 (own_maxL (1 : Int64) (mm / (4096 : Int64))))) q5 (own_maxL (1 : Int64) (mm / (4096 : Int64))))), .second, .val (.long (0 : Int64)), .second, .unset, .unset, .unset, .unset, .unset, .unset, .unset, .unset, .unset, .unset, .unset, .unset] [(.int w2), (.int w1)])) rfl (by rw [hml]; rfl) (argsL := [(.int w1), (.int w2)]) (rest := []) (lenOf pd_6 rfl) rfl (by show 2 * 0 + _ ≤ _; exact Nat.le_of_eq rfl) (hb hby at_150) (fun _ _ => ⟨rfl, rfl, Nat.le_of_ble_eq_true rfl, Nat.le_of_ble_eq_true rfl⟩)
            dsimp only [Pt.U, Pt.locs, Pt.cells, Pt.slots] at X19 l19 y19 z19 st19 hQ19
            subst l19 y19 z19
            obtain ⟨rfl, N19q, e19⟩ := hQ19
            have N19 := Fr.app N17 N19q
            refine own_go (fun _ k => st19 _ k) ?_
            show own_Ends p e below s _ _ _ (T19.setTop (mkF m 153 #[.val (.int p1), .val (.int p2), .val (.long q3), .second, .val (.int p4), .val (.long q5), .second, .val (.long q6), .second, .val (.int w1), .val (.int w2), .val (.int r1), .val (.int rA), .val (.int rB), .val (.long mm), .second, .val (.ref b1), .val (.long (own_tk (own_rec r1 (own_fp q3) (own_sta q5 (own_maxL (1 : Int64) (mm / (4096 : Int64))))) q5 (own_maxL (1 : Int64) (mm / (4096 : Int64))))), .second, .val (.long (0 : Int64)), .second, .unset, .unset, .unset, .unset, .unset, .unset, .unset, .unset, .unset, .unset, .unset, .unset] [(.int (own_maxI w1 w2))]))
            rw [show (own_maxI w1 w2) = w1 from by unfold own_maxI; rw [if_neg hlt]]
            show own_Ends p e below s _ _ _ (T19.setTop (mkF m 153 #[.val (.int p1), .val (.int p2), .val (.long q3), .second, .val (.int p4), .val (.long q5), .second, .val (.long q6), .second, .val (.int w1), .val (.int w2), .val (.int r1), .val (.int rA), .val (.int rB), .val (.long mm), .second, .val (.ref b1), .val (.long (own_tk (own_rec r1 (own_fp q3) (own_sta q5 (own_maxL (1 : Int64) (mm / (4096 : Int64))))) q5 (own_maxL (1 : Int64) (mm / (4096 : Int64))))), .second, .val (.long (0 : Int64)), .second, .unset, .unset, .unset, .unset, .unset, .unset, .unset, .unset, .unset, .unset, .unset, .unset] [(.int w1)]))
            refine own_go (fun _ k => XS.istore X19.here hx rfl (hb hby at_153) rfl (l' := #[.val (.int p1), .val (.int p2), .val (.long q3), .second, .val (.int p4), .val (.long q5), .second, .val (.long q6), .second, .val (.int w1), .val (.int w2), .val (.int r1), .val (.int rA), .val (.int rB), .val (.long mm), .second, .val (.ref b1), .val (.long (own_tk (own_rec r1 (own_fp q3) (own_sta q5 (own_maxL (1 : Int64) (mm / (4096 : Int64))))) q5 (own_maxL (1 : Int64) (mm / (4096 : Int64))))), .second, .val (.long (0 : Int64)), .second, .val (.int w1), .unset, .unset, .unset, .unset, .unset, .unset, .unset, .unset, .unset, .unset, .unset]) rfl <| XS.iload X19.here hx rfl (hb hby at_155) rfl <| XT.iconstV X19.here hx rfl (2 : Int32) (hb hby at_157) rfl <| k) ?_
            show own_Ends p e below s _ _ _ (T19.setTop (mkF m 158 #[.val (.int p1), .val (.int p2), .val (.long q3), .second, .val (.int p4), .val (.long q5), .second, .val (.long q6), .second, .val (.int w1), .val (.int w2), .val (.int r1), .val (.int rA), .val (.int rB), .val (.long mm), .second, .val (.ref b1), .val (.long (own_tk (own_rec r1 (own_fp q3) (own_sta q5 (own_maxL (1 : Int64) (mm / (4096 : Int64))))) q5 (own_maxL (1 : Int64) (mm / (4096 : Int64))))), .second, .val (.long (0 : Int64)), .second, .val (.int w1), .unset, .unset, .unset, .unset, .unset, .unset, .unset, .unset, .unset, .unset, .unset] [(.int (2 : Int32)), (.int w1)]))
            by_cases hc158_20 : w1 < (2 : Int32)
            · -- true
              refine own_go (fun _ k => XS.icmpNo X19.here hx rfl (hb hby at_158) rfl (tlt hc158_20).2.1 <| XT.iconstV X19.here hx rfl (1 : Int32) (hb hby at_161) rfl <| k) ?_
              show own_Ends p e below s _ _ _ (T19.setTop (mkF m 162 #[.val (.int p1), .val (.int p2), .val (.long q3), .second, .val (.int p4), .val (.long q5), .second, .val (.long q6), .second, .val (.int w1), .val (.int w2), .val (.int r1), .val (.int rA), .val (.int rB), .val (.long mm), .second, .val (.ref b1), .val (.long (own_tk (own_rec r1 (own_fp q3) (own_sta q5 (own_maxL (1 : Int64) (mm / (4096 : Int64))))) q5 (own_maxL (1 : Int64) (mm / (4096 : Int64))))), .second, .val (.long (0 : Int64)), .second, .val (.int w1), .unset, .unset, .unset, .unset, .unset, .unset, .unset, .unset, .unset, .unset, .unset] [(.int (1 : Int32))]))
              exact own_retN X19 hx (t := .boolean) hrt (by simp) (hb hby at_162) hlk (show nar .boolean (1 : Int32) = (1 : Int32) from by decide) (by rw [e19]; exact ⟨rfl, N19⟩) (by decide) (by decide)
            · -- false
              refine own_go (fun _ k => XS.icmpYes X19.here hx rfl (pc0 := 158) (pc' := 163) rfl (hb hby at_158) rfl (flt hc158_20).2.1 (by decide) (by decide) <| XS.iload X19.here hx rfl (hb hby at_163) rfl <| XT.iconstV X19.here hx rfl (1 : Int32) (hb hby at_165) rfl <| XS.ishr X19.here hx rfl (hb hby at_166) rfl <| k) ?_
              show own_Ends p e below s _ _ _ (T19.setTop (mkF m 167 #[.val (.int p1), .val (.int p2), .val (.long q3), .second, .val (.int p4), .val (.long q5), .second, .val (.long q6), .second, .val (.int w1), .val (.int w2), .val (.int r1), .val (.int rA), .val (.int rB), .val (.long mm), .second, .val (.ref b1), .val (.long (own_tk (own_rec r1 (own_fp q3) (own_sta q5 (own_maxL (1 : Int64) (mm / (4096 : Int64))))) q5 (own_maxL (1 : Int64) (mm / (4096 : Int64))))), .second, .val (.long (0 : Int64)), .second, .val (.int w1), .unset, .unset, .unset, .unset, .unset, .unset, .unset, .unset, .unset, .unset, .unset] [(.int (w1 >>> ((1 : Int32) &&& 31)))]))
              refine own_go (fun _ k => XS.istore X19.here hx rfl (hb hby at_167) rfl (l' := #[.val (.int p1), .val (.int p2), .val (.long q3), .second, .val (.int p4), .val (.long q5), .second, .val (.long q6), .second, .val (.int w1), .val (.int w2), .val (.int r1), .val (.int rA), .val (.int rB), .val (.long mm), .second, .val (.ref b1), .val (.long (own_tk (own_rec r1 (own_fp q3) (own_sta q5 (own_maxL (1 : Int64) (mm / (4096 : Int64))))) q5 (own_maxL (1 : Int64) (mm / (4096 : Int64))))), .second, .val (.long (0 : Int64)), .second, .val (.int w1), .val (.int (w1 >>> ((1 : Int32) &&& 31))), .unset, .unset, .unset, .unset, .unset, .unset, .unset, .unset, .unset, .unset]) rfl <| XS.iload X19.here hx rfl (hb hby at_169) rfl <| XT.iconstV X19.here hx rfl (1 : Int32) (hb hby at_171) rfl <| XS.isub X19.here hx rfl (hb hby at_172) rfl <| k) ?_
              show own_Ends p e below s _ _ _ (T19.setTop (mkF m 173 #[.val (.int p1), .val (.int p2), .val (.long q3), .second, .val (.int p4), .val (.long q5), .second, .val (.long q6), .second, .val (.int w1), .val (.int w2), .val (.int r1), .val (.int rA), .val (.int rB), .val (.long mm), .second, .val (.ref b1), .val (.long (own_tk (own_rec r1 (own_fp q3) (own_sta q5 (own_maxL (1 : Int64) (mm / (4096 : Int64))))) q5 (own_maxL (1 : Int64) (mm / (4096 : Int64))))), .second, .val (.long (0 : Int64)), .second, .val (.int w1), .val (.int (w1 >>> ((1 : Int32) &&& 31))), .unset, .unset, .unset, .unset, .unset, .unset, .unset, .unset, .unset, .unset] [(.int (w1 - (1 : Int32)))]))
              refine own_go (fun _ k => XS.i2l X19.here hx rfl (hb hby at_173) rfl <| XS.lstore X19.here hx rfl (hb hby at_174) rfl (l' := #[.val (.int p1), .val (.int p2), .val (.long q3), .second, .val (.int p4), .val (.long q5), .second, .val (.long q6), .second, .val (.int w1), .val (.int w2), .val (.int r1), .val (.int rA), .val (.int rB), .val (.long mm), .second, .val (.ref b1), .val (.long (own_tk (own_rec r1 (own_fp q3) (own_sta q5 (own_maxL (1 : Int64) (mm / (4096 : Int64))))) q5 (own_maxL (1 : Int64) (mm / (4096 : Int64))))), .second, .val (.long (0 : Int64)), .second, .val (.int w1), .val (.int (w1 >>> ((1 : Int32) &&& 31))), .val (.long ((w1 - (1 : Int32)).toInt64)), .second, .unset, .unset, .unset, .unset, .unset, .unset, .unset, .unset]) rfl <| XS.lloadN X19.here hx rfl (hb hby at_176) rfl <| XS.lload X19.here hx rfl (hb hby at_177) rfl <| k) ?_
              show own_Ends p e below s _ _ _ (T19.setTop (mkF m 179 #[.val (.int p1), .val (.int p2), .val (.long q3), .second, .val (.int p4), .val (.long q5), .second, .val (.long q6), .second, .val (.int w1), .val (.int w2), .val (.int r1), .val (.int rA), .val (.int rB), .val (.long mm), .second, .val (.ref b1), .val (.long (own_tk (own_rec r1 (own_fp q3) (own_sta q5 (own_maxL (1 : Int64) (mm / (4096 : Int64))))) q5 (own_maxL (1 : Int64) (mm / (4096 : Int64))))), .second, .val (.long (0 : Int64)), .second, .val (.int w1), .val (.int (w1 >>> ((1 : Int32) &&& 31))), .val (.long ((w1 - (1 : Int32)).toInt64)), .second, .unset, .unset, .unset, .unset, .unset, .unset, .unset, .unset] [(.long ((w1 - (1 : Int32)).toInt64)), (.long q3)]))
              refine own_go (fun _ k => XT.bipushV X19.here hx rfl (32 : Int32) (hb hby at_179) rfl <| XS.lshl X19.here hx rfl (hb hby at_181) rfl <| XS.lor X19.here hx rfl (hb hby at_182) rfl <| XS.lload X19.here hx rfl (hb hby at_183) rfl <| k) ?_
              show own_Ends p e below s _ _ _ (T19.setTop (mkF m 185 #[.val (.int p1), .val (.int p2), .val (.long q3), .second, .val (.int p4), .val (.long q5), .second, .val (.long q6), .second, .val (.int w1), .val (.int w2), .val (.int r1), .val (.int rA), .val (.int rB), .val (.long mm), .second, .val (.ref b1), .val (.long (own_tk (own_rec r1 (own_fp q3) (own_sta q5 (own_maxL (1 : Int64) (mm / (4096 : Int64))))) q5 (own_maxL (1 : Int64) (mm / (4096 : Int64))))), .second, .val (.long (0 : Int64)), .second, .val (.int w1), .val (.int (w1 >>> ((1 : Int32) &&& 31))), .val (.long ((w1 - (1 : Int32)).toInt64)), .second, .unset, .unset, .unset, .unset, .unset, .unset, .unset, .unset] [(.long ((w1 - (1 : Int32)).toInt64)), (.long (q3 ||| (((w1 - (1 : Int32)).toInt64) <<< ((32 : Int32) &&& 0x3f).toInt64)))]))
              refine own_go (fun _ k => XS.lor X19.here hx rfl (hb hby at_185) rfl <| k) ?_
              show own_Ends p e below s _ _ _ (T19.setTop (mkF m 186 #[.val (.int p1), .val (.int p2), .val (.long q3), .second, .val (.int p4), .val (.long q5), .second, .val (.long q6), .second, .val (.int w1), .val (.int w2), .val (.int r1), .val (.int rA), .val (.int rB), .val (.long mm), .second, .val (.ref b1), .val (.long (own_tk (own_rec r1 (own_fp q3) (own_sta q5 (own_maxL (1 : Int64) (mm / (4096 : Int64))))) q5 (own_maxL (1 : Int64) (mm / (4096 : Int64))))), .second, .val (.long (0 : Int64)), .second, .val (.int w1), .val (.int (w1 >>> ((1 : Int32) &&& 31))), .val (.long ((w1 - (1 : Int32)).toInt64)), .second, .unset, .unset, .unset, .unset, .unset, .unset, .unset, .unset] [(.long ((q3 ||| (((w1 - (1 : Int32)).toInt64) <<< ((32 : Int32) &&& 0x3f).toInt64)) ||| ((w1 - (1 : Int32)).toInt64)))]))
              have hiB := own_iB q3 ((w1 - (1 : Int32)).toInt64 <<< ((32 : Int32) &&& 0x3f).toInt64) hPw1 hc158_20
              generalize ((q3 ||| (((w1 - (1 : Int32)).toInt64) <<< ((32 : Int32) &&& 0x3f).toInt64)) ||| ((w1 - (1 : Int32)).toInt64)) = kA at hiB ⊢
              show own_Ends p e below s _ _ _ (T19.setTop (mkF m 186 #[.val (.int p1), .val (.int p2), .val (.long q3), .second, .val (.int p4), .val (.long q5), .second, .val (.long q6), .second, .val (.int w1), .val (.int w2), .val (.int r1), .val (.int rA), .val (.int rB), .val (.long mm), .second, .val (.ref b1), .val (.long (own_tk (own_rec r1 (own_fp q3) (own_sta q5 (own_maxL (1 : Int64) (mm / (4096 : Int64))))) q5 (own_maxL (1 : Int64) (mm / (4096 : Int64))))), .second, .val (.long (0 : Int64)), .second, .val (.int w1), .val (.int (w1 >>> ((1 : Int32) &&& 31))), .val (.long ((w1 - (1 : Int32)).toInt64)), .second, .unset, .unset, .unset, .unset, .unset, .unset, .unset, .unset] [(.long kA)]))
              refine own_go (fun _ k => XS.lstore X19.here hx rfl (hb hby at_186) rfl (l' := #[.val (.int p1), .val (.int p2), .val (.long q3), .second, .val (.int p4), .val (.long q5), .second, .val (.long q6), .second, .val (.int w1), .val (.int w2), .val (.int r1), .val (.int rA), .val (.int rB), .val (.long mm), .second, .val (.ref b1), .val (.long (own_tk (own_rec r1 (own_fp q3) (own_sta q5 (own_maxL (1 : Int64) (mm / (4096 : Int64))))) q5 (own_maxL (1 : Int64) (mm / (4096 : Int64))))), .second, .val (.long (0 : Int64)), .second, .val (.int w1), .val (.int (w1 >>> ((1 : Int32) &&& 31))), .val (.long ((w1 - (1 : Int32)).toInt64)), .second, .val (.long kA), .second, .unset, .unset, .unset, .unset, .unset, .unset]) rfl <| XS.lload X19.here hx rfl (hb hby at_188) rfl <| XS.iload X19.here hx rfl (hb hby at_190) rfl <| XS.i2l X19.here hx rfl (hb hby at_192) rfl <| k) ?_
              show own_Ends p e below s _ _ _ (T19.setTop (mkF m 193 #[.val (.int p1), .val (.int p2), .val (.long q3), .second, .val (.int p4), .val (.long q5), .second, .val (.long q6), .second, .val (.int w1), .val (.int w2), .val (.int r1), .val (.int rA), .val (.int rB), .val (.long mm), .second, .val (.ref b1), .val (.long (own_tk (own_rec r1 (own_fp q3) (own_sta q5 (own_maxL (1 : Int64) (mm / (4096 : Int64))))) q5 (own_maxL (1 : Int64) (mm / (4096 : Int64))))), .second, .val (.long (0 : Int64)), .second, .val (.int w1), .val (.int (w1 >>> ((1 : Int32) &&& 31))), .val (.long ((w1 - (1 : Int32)).toInt64)), .second, .val (.long kA), .second, .unset, .unset, .unset, .unset, .unset, .unset] [(.long ((w1 >>> ((1 : Int32) &&& 31)).toInt64)), (.long kA)]))
              refine own_go (fun _ k => XT.bipushV X19.here hx rfl (32 : Int32) (hb hby at_193) rfl <| XS.lshl X19.here hx rfl (hb hby at_195) rfl <| XS.iload X19.here hx rfl (hb hby at_196) rfl <| XS.i2l X19.here hx rfl (hb hby at_198) rfl <| k) ?_
              show own_Ends p e below s _ _ _ (T19.setTop (mkF m 199 #[.val (.int p1), .val (.int p2), .val (.long q3), .second, .val (.int p4), .val (.long q5), .second, .val (.long q6), .second, .val (.int w1), .val (.int w2), .val (.int r1), .val (.int rA), .val (.int rB), .val (.long mm), .second, .val (.ref b1), .val (.long (own_tk (own_rec r1 (own_fp q3) (own_sta q5 (own_maxL (1 : Int64) (mm / (4096 : Int64))))) q5 (own_maxL (1 : Int64) (mm / (4096 : Int64))))), .second, .val (.long (0 : Int64)), .second, .val (.int w1), .val (.int (w1 >>> ((1 : Int32) &&& 31))), .val (.long ((w1 - (1 : Int32)).toInt64)), .second, .val (.long kA), .second, .unset, .unset, .unset, .unset, .unset, .unset] [(.long ((w1 >>> ((1 : Int32) &&& 31)).toInt64)), (.long (((w1 >>> ((1 : Int32) &&& 31)).toInt64) <<< ((32 : Int32) &&& 0x3f).toInt64)), (.long kA)]))
              refine own_go (fun _ k => XS.lor X19.here hx rfl (hb hby at_199) rfl <| XS.lxor X19.here hx rfl (hb hby at_200) rfl <| k) ?_
              show own_Ends p e below s _ _ _ (T19.setTop (mkF m 201 #[.val (.int p1), .val (.int p2), .val (.long q3), .second, .val (.int p4), .val (.long q5), .second, .val (.long q6), .second, .val (.int w1), .val (.int w2), .val (.int r1), .val (.int rA), .val (.int rB), .val (.long mm), .second, .val (.ref b1), .val (.long (own_tk (own_rec r1 (own_fp q3) (own_sta q5 (own_maxL (1 : Int64) (mm / (4096 : Int64))))) q5 (own_maxL (1 : Int64) (mm / (4096 : Int64))))), .second, .val (.long (0 : Int64)), .second, .val (.int w1), .val (.int (w1 >>> ((1 : Int32) &&& 31))), .val (.long ((w1 - (1 : Int32)).toInt64)), .second, .val (.long kA), .second, .unset, .unset, .unset, .unset, .unset, .unset] [(.long (kA ^^^ ((((w1 >>> ((1 : Int32) &&& 31)).toInt64) <<< ((32 : Int32) &&& 0x3f).toInt64) ||| ((w1 >>> ((1 : Int32) &&& 31)).toInt64))))]))
              generalize (kA ^^^ ((((w1 >>> ((1 : Int32) &&& 31)).toInt64) <<< ((32 : Int32) &&& 0x3f).toInt64) ||| ((w1 >>> ((1 : Int32) &&& 31)).toInt64))) = kB at hiB ⊢
              show own_Ends p e below s _ _ _ (T19.setTop (mkF m 201 #[.val (.int p1), .val (.int p2), .val (.long q3), .second, .val (.int p4), .val (.long q5), .second, .val (.long q6), .second, .val (.int w1), .val (.int w2), .val (.int r1), .val (.int rA), .val (.int rB), .val (.long mm), .second, .val (.ref b1), .val (.long (own_tk (own_rec r1 (own_fp q3) (own_sta q5 (own_maxL (1 : Int64) (mm / (4096 : Int64))))) q5 (own_maxL (1 : Int64) (mm / (4096 : Int64))))), .second, .val (.long (0 : Int64)), .second, .val (.int w1), .val (.int (w1 >>> ((1 : Int32) &&& 31))), .val (.long ((w1 - (1 : Int32)).toInt64)), .second, .val (.long kA), .second, .unset, .unset, .unset, .unset, .unset, .unset] [(.long kB)]))
              refine own_go (fun _ k => XS.lstore X19.here hx rfl (hb hby at_201) rfl (l' := #[.val (.int p1), .val (.int p2), .val (.long q3), .second, .val (.int p4), .val (.long q5), .second, .val (.long q6), .second, .val (.int w1), .val (.int w2), .val (.int r1), .val (.int rA), .val (.int rB), .val (.long mm), .second, .val (.ref b1), .val (.long (own_tk (own_rec r1 (own_fp q3) (own_sta q5 (own_maxL (1 : Int64) (mm / (4096 : Int64))))) q5 (own_maxL (1 : Int64) (mm / (4096 : Int64))))), .second, .val (.long (0 : Int64)), .second, .val (.int w1), .val (.int (w1 >>> ((1 : Int32) &&& 31))), .val (.long ((w1 - (1 : Int32)).toInt64)), .second, .val (.long kA), .second, .val (.long kB), .second, .unset, .unset, .unset, .unset]) rfl <| XS.aload X19.here hx rfl (hb hby at_203) rfl rfl <| XS.lload X19.here hx rfl (hb hby at_205) rfl <| XS.iload X19.here hx rfl (hb hby at_207) rfl <| k) ?_
              show own_Ends p e below s _ _ _ (T19.setTop (mkF m 209 #[.val (.int p1), .val (.int p2), .val (.long q3), .second, .val (.int p4), .val (.long q5), .second, .val (.long q6), .second, .val (.int w1), .val (.int w2), .val (.int r1), .val (.int rA), .val (.int rB), .val (.long mm), .second, .val (.ref b1), .val (.long (own_tk (own_rec r1 (own_fp q3) (own_sta q5 (own_maxL (1 : Int64) (mm / (4096 : Int64))))) q5 (own_maxL (1 : Int64) (mm / (4096 : Int64))))), .second, .val (.long (0 : Int64)), .second, .val (.int w1), .val (.int (w1 >>> ((1 : Int32) &&& 31))), .val (.long ((w1 - (1 : Int32)).toInt64)), .second, .val (.long kA), .second, .val (.long kB), .second, .unset, .unset, .unset, .unset] [(.int rA), (.long kA), (.ref b1)]))
              refine own_go (fun _ k => XS.lload X19.here hx rfl (hb hby at_209) rfl <| k) ?_
              show own_Ends p e below s _ _ _ (T19.setTop (mkF m 211 #[.val (.int p1), .val (.int p2), .val (.long q3), .second, .val (.int p4), .val (.long q5), .second, .val (.long q6), .second, .val (.int w1), .val (.int w2), .val (.int r1), .val (.int rA), .val (.int rB), .val (.long mm), .second, .val (.ref b1), .val (.long (own_tk (own_rec r1 (own_fp q3) (own_sta q5 (own_maxL (1 : Int64) (mm / (4096 : Int64))))) q5 (own_maxL (1 : Int64) (mm / (4096 : Int64))))), .second, .val (.long (0 : Int64)), .second, .val (.int w1), .val (.int (w1 >>> ((1 : Int32) &&& 31))), .val (.long ((w1 - (1 : Int32)).toInt64)), .second, .val (.long kA), .second, .val (.long kB), .second, .unset, .unset, .unset, .unset] [(.long q5), (.int rA), (.long kA), (.ref b1)]))
              obtain ⟨cq21, kq21, q21a, q21b, q21c⟩ := isOf hZ e19 A1'17
              obtain ⟨_, _, ⟨T21, L21, k21, n21⟩, -, X21, ⟨Lc21, hQ21, l21, y21, z21⟩, st21⟩ := X19.virtualBack hx (y := (⟨"com/example/unutkan/unutkan/core/RecentEvictions", "record", "(JZJ)V"⟩ : MethodName)) (z := (⟨"com/example/unutkan/unutkan/core/RecentEvictions", "record", "(JZJ)V"⟩ : MethodName)) hown (mvT hZ (hw _ (List.mem_of_getElem? (i := 29) rfl))) (mvT hZ (hw _ (List.mem_of_getElem? (i := 30) rfl))) (notFace_of_selects (args := #[]) (mvT hZ (hw _ (List.mem_of_getElem? (i := 32) rfl)))) (mvT hZ (hw _ (List.mem_of_getElem? (i := 32) rfl))) (mvT hZ (hw _ (List.mem_of_getElem? (i := 31) rfl))) (by decide) (backOf (W := 0) (rm5 l Z a0 hw [] b1 kA rA q5 b3 kb3 w1 (((own_i1 q3 w1), (.int (0 : Int32))) :: (((own_i1 q3 w1), (.int (own_rec r1 (own_fp q3) (own_sta q5 (own_maxL (1 : Int64) (mm / (4096 : Int64))))))) :: [])) (own_maxL (1 : Int64) (mm / (4096 : Int64))) T17.heap n0 Z17 A1'17 Fu3'17 Fl3'17 H17 g3 ne_b1_b3 (own_max_ne _) (own_P_pos hPw1) (own_h2 (own_i1_in kA (own_P_pos hPw1)).1)) hZ (hw _ (List.mem_of_getElem? (i := 33) rfl)) (hw _ (List.mem_of_getElem? (i := 3) rfl)) (by decide) (by decide)) q21a q21c (g := (mkF m 211 #[.val (.int p1), .val (.int p2), .val (.long q3), .second, .val (.int p4), .val (.long q5), .second, .val (.long q6), .second, .val (.int w1), .val (.int w2), .val (.int r1), .val (.int rA), .val (.int rB), .val (.long mm), .second, .val (.ref b1), .val (.long (own_tk (own_rec r1 (own_fp q3) (own_sta q5 (own_maxL (1 : Int64) (mm / (4096 : Int64))))) q5 (own_maxL (1 : Int64) (mm / (4096 : Int64))))), .second, .val (.long (0 : Int64)), .second, .val (.int w1), .val (.int (w1 >>> ((1 : Int32) &&& 31))), .val (.long ((w1 - (1 : Int32)).toInt64)), .second, .val (.long kA), .second, .val (.long kB), .second, .unset, .unset, .unset, .unset] [(.long q5), (.int rA), (.long kA), (.ref b1)])) rfl (by rw [hml]; rfl) (Steps.refl _) (argsL := [(.long kA), (.int rA), (.long q5)]) (rest := []) (lenOf pd_4 rfl) rfl (by show 2 * 0 + _ ≤ _; exact Nat.le_of_eq rfl) (hb hby at_211) (fun _ _ => ⟨rfl, e19, Nat.le_of_ble_eq_true rfl, Nat.le_of_ble_eq_true rfl⟩)
              dsimp only [Pt.U, Pt.locs, Pt.cells, Pt.slots] at X21 l21 y21 z21 st21 hQ21
              subst l21 y21 z21
              obtain ⟨rfl, N21q, K21, H21⟩ := hQ21
              have N21 := Fr.app N19 N21q
              refine own_go (fun _ k => st21.trans k) ?_
              have H2'21 := H2'17.keep K21 (ninS ne_b2_b3 nin0)
              have A1'21 := A1'17.keep K21
              have Fu3'21 := Fu3'17.keep K21 (ninS ne_b1_b3 nin0)
              have Fh3'21 := Fh3'17.keep K21 (ninS ne_b1_b3 nin0)
              have Fs3'21 := Fs3'17.keep K21 (ninS ne_b1_b3 nin0)
              have Fl3'21 := Fl3'17.keep K21 (ninS ne_b1_b3 nin0)
              have Z21 := Nat.le_trans Z17 K21.1
              show own_Ends p e below s _ _ _ (T21.setTop (mkF m 214 #[.val (.int p1), .val (.int p2), .val (.long q3), .second, .val (.int p4), .val (.long q5), .second, .val (.long q6), .second, .val (.int w1), .val (.int w2), .val (.int r1), .val (.int rA), .val (.int rB), .val (.long mm), .second, .val (.ref b1), .val (.long (own_tk (own_rec r1 (own_fp q3) (own_sta q5 (own_maxL (1 : Int64) (mm / (4096 : Int64))))) q5 (own_maxL (1 : Int64) (mm / (4096 : Int64))))), .second, .val (.long (0 : Int64)), .second, .val (.int w1), .val (.int (w1 >>> ((1 : Int32) &&& 31))), .val (.long ((w1 - (1 : Int32)).toInt64)), .second, .val (.long kA), .second, .val (.long kB), .second, .unset, .unset, .unset, .unset] []))
              refine own_go (fun _ k => XS.aload X21.here hx rfl (hb hby at_214) rfl rfl <| XS.lload X21.here hx rfl (hb hby at_216) rfl <| XS.iload X21.here hx rfl (hb hby at_218) rfl <| XS.lload X21.here hx rfl (hb hby at_220) rfl <| k) ?_
              show own_Ends p e below s _ _ _ (T21.setTop (mkF m 222 #[.val (.int p1), .val (.int p2), .val (.long q3), .second, .val (.int p4), .val (.long q5), .second, .val (.long q6), .second, .val (.int w1), .val (.int w2), .val (.int r1), .val (.int rA), .val (.int rB), .val (.long mm), .second, .val (.ref b1), .val (.long (own_tk (own_rec r1 (own_fp q3) (own_sta q5 (own_maxL (1 : Int64) (mm / (4096 : Int64))))) q5 (own_maxL (1 : Int64) (mm / (4096 : Int64))))), .second, .val (.long (0 : Int64)), .second, .val (.int w1), .val (.int (w1 >>> ((1 : Int32) &&& 31))), .val (.long ((w1 - (1 : Int32)).toInt64)), .second, .val (.long kA), .second, .val (.long kB), .second, .unset, .unset, .unset, .unset] [(.long q5), (.int rB), (.long kB), (.ref b1)]))
              obtain ⟨cq22, kq22, q22a, q22b, q22c⟩ := isOf hZ rfl A1'21
              obtain ⟨_, _, ⟨T22, L22, k22, n22⟩, -, X22, ⟨Lc22, hQ22, l22, y22, z22⟩, st22⟩ := X21.virtualBack hx (y := (⟨"com/example/unutkan/unutkan/core/RecentEvictions", "record", "(JZJ)V"⟩ : MethodName)) (z := (⟨"com/example/unutkan/unutkan/core/RecentEvictions", "record", "(JZJ)V"⟩ : MethodName)) hown (mvT hZ (hw _ (List.mem_of_getElem? (i := 29) rfl))) (mvT hZ (hw _ (List.mem_of_getElem? (i := 30) rfl))) (notFace_of_selects (args := #[]) (mvT hZ (hw _ (List.mem_of_getElem? (i := 32) rfl)))) (mvT hZ (hw _ (List.mem_of_getElem? (i := 32) rfl))) (mvT hZ (hw _ (List.mem_of_getElem? (i := 31) rfl))) (by decide) (backOf (W := 0) (rm5 l Z a0 hw [] b1 kB rB q5 b3 kb3 w1 (((own_i1 kA w1), (.int (own_rec rA (own_fp kA) (own_sta q5 (own_maxL (1 : Int64) (mm / (4096 : Int64))))))) :: (((own_i1 q3 w1), (.int (0 : Int32))) :: (((own_i1 q3 w1), (.int (own_rec r1 (own_fp q3) (own_sta q5 (own_maxL (1 : Int64) (mm / (4096 : Int64))))))) :: []))) (own_maxL (1 : Int64) (mm / (4096 : Int64))) T21.heap n0 Z21 A1'21 Fu3'21 Fl3'21 H21 g3 ne_b1_b3 (own_max_ne _) (own_P_pos hPw1) (getH_miss (own_i1_in kB (own_P_pos hPw1)).1 hiB (own_h2 (own_i1_in kB (own_P_pos hPw1)).1))) hZ (hw _ (List.mem_of_getElem? (i := 33) rfl)) (hw _ (List.mem_of_getElem? (i := 3) rfl)) (by decide) (by decide)) q22a q22c (g := (mkF m 222 #[.val (.int p1), .val (.int p2), .val (.long q3), .second, .val (.int p4), .val (.long q5), .second, .val (.long q6), .second, .val (.int w1), .val (.int w2), .val (.int r1), .val (.int rA), .val (.int rB), .val (.long mm), .second, .val (.ref b1), .val (.long (own_tk (own_rec r1 (own_fp q3) (own_sta q5 (own_maxL (1 : Int64) (mm / (4096 : Int64))))) q5 (own_maxL (1 : Int64) (mm / (4096 : Int64))))), .second, .val (.long (0 : Int64)), .second, .val (.int w1), .val (.int (w1 >>> ((1 : Int32) &&& 31))), .val (.long ((w1 - (1 : Int32)).toInt64)), .second, .val (.long kA), .second, .val (.long kB), .second, .unset, .unset, .unset, .unset] [(.long q5), (.int rB), (.long kB), (.ref b1)])) rfl (by rw [hml]; rfl) (Steps.refl _) (argsL := [(.long kB), (.int rB), (.long q5)]) (rest := []) (lenOf pd_4 rfl) rfl (by show 2 * 0 + _ ≤ _; exact Nat.le_of_eq rfl) (hb hby at_222) (fun _ _ => ⟨rfl, rfl, Nat.le_of_ble_eq_true rfl, Nat.le_of_ble_eq_true rfl⟩)
              dsimp only [Pt.U, Pt.locs, Pt.cells, Pt.slots] at X22 l22 y22 z22 st22 hQ22
              subst l22 y22 z22
              obtain ⟨rfl, N22q, K22, H22⟩ := hQ22
              have N22 := Fr.app N21 N22q
              refine own_go (fun _ k => st22.trans k) ?_
              have H2'22 := H2'21.keep K22 (ninS ne_b2_b3 nin0)
              have A1'22 := A1'21.keep K22
              have Fu3'22 := Fu3'21.keep K22 (ninS ne_b1_b3 nin0)
              have Fh3'22 := Fh3'21.keep K22 (ninS ne_b1_b3 nin0)
              have Fs3'22 := Fs3'21.keep K22 (ninS ne_b1_b3 nin0)
              have Fl3'22 := Fl3'21.keep K22 (ninS ne_b1_b3 nin0)
              have Z22 := Nat.le_trans Z21 K22.1
              show own_Ends p e below s _ _ _ (T22.setTop (mkF m 225 #[.val (.int p1), .val (.int p2), .val (.long q3), .second, .val (.int p4), .val (.long q5), .second, .val (.long q6), .second, .val (.int w1), .val (.int w2), .val (.int r1), .val (.int rA), .val (.int rB), .val (.long mm), .second, .val (.ref b1), .val (.long (own_tk (own_rec r1 (own_fp q3) (own_sta q5 (own_maxL (1 : Int64) (mm / (4096 : Int64))))) q5 (own_maxL (1 : Int64) (mm / (4096 : Int64))))), .second, .val (.long (0 : Int64)), .second, .val (.int w1), .val (.int (w1 >>> ((1 : Int32) &&& 31))), .val (.long ((w1 - (1 : Int32)).toInt64)), .second, .val (.long kA), .second, .val (.long kB), .second, .unset, .unset, .unset, .unset] []))
              refine own_go (fun _ k => XS.aload X22.here hx rfl (hb hby at_225) rfl rfl <| XS.lload X22.here hx rfl (hb hby at_227) rfl <| XS.lload X22.here hx rfl (hb hby at_229) rfl <| k) ?_
              show own_Ends p e below s _ _ _ (T22.setTop (mkF m 231 #[.val (.int p1), .val (.int p2), .val (.long q3), .second, .val (.int p4), .val (.long q5), .second, .val (.long q6), .second, .val (.int w1), .val (.int w2), .val (.int r1), .val (.int rA), .val (.int rB), .val (.long mm), .second, .val (.ref b1), .val (.long (own_tk (own_rec r1 (own_fp q3) (own_sta q5 (own_maxL (1 : Int64) (mm / (4096 : Int64))))) q5 (own_maxL (1 : Int64) (mm / (4096 : Int64))))), .second, .val (.long (0 : Int64)), .second, .val (.int w1), .val (.int (w1 >>> ((1 : Int32) &&& 31))), .val (.long ((w1 - (1 : Int32)).toInt64)), .second, .val (.long kA), .second, .val (.long kB), .second, .unset, .unset, .unset, .unset] [(.long q5), (.long kA), (.ref b1)]))
              obtain ⟨cq23, kq23, q23a, q23b, q23c⟩ := isOf hZ rfl A1'22
              obtain ⟨_, _, ⟨T23, L23, k23, n23⟩, -, X23, ⟨Lc23, hQ23, l23, y23, z23⟩, st23⟩ := X22.virtualBack hx (y := (⟨"com/example/unutkan/unutkan/core/RecentEvictions", "take", "(JJ)J"⟩ : MethodName)) (z := (⟨"com/example/unutkan/unutkan/core/RecentEvictions", "take", "(JJ)J"⟩ : MethodName)) hown (mvT hZ (hw _ (List.mem_of_getElem? (i := 51) rfl))) (mvT hZ (hw _ (List.mem_of_getElem? (i := 52) rfl))) (notFace_of_selects (args := #[]) (mvT hZ (hw _ (List.mem_of_getElem? (i := 54) rfl)))) (mvT hZ (hw _ (List.mem_of_getElem? (i := 54) rfl))) (mvT hZ (hw _ (List.mem_of_getElem? (i := 53) rfl))) (by decide) (backOf (W := 0) (rmHit l Z a0 hw [] b1 kA q5 b3 kb3 w1 (((own_i1 kB w1), (.int (own_rec rB (own_fp kB) (own_sta q5 (own_maxL (1 : Int64) (mm / (4096 : Int64))))))) :: (((own_i1 kA w1), (.int (own_rec rA (own_fp kA) (own_sta q5 (own_maxL (1 : Int64) (mm / (4096 : Int64))))))) :: (((own_i1 q3 w1), (.int (0 : Int32))) :: (((own_i1 q3 w1), (.int (own_rec r1 (own_fp q3) (own_sta q5 (own_maxL (1 : Int64) (mm / (4096 : Int64))))))) :: [])))) (own_maxL (1 : Int64) (mm / (4096 : Int64))) (own_maxL (1 : Int64) mm) (own_rec rA (own_fp kA) (own_sta q5 (own_maxL (1 : Int64) (mm / (4096 : Int64))))) T22.heap n0 Z22 A1'22 Fu3'22 Fl3'22 H22 g3 ne_b1_b3 (own_max_ne _) (own_P_pos hPw1) Fh3'22 (getH_miss (own_i1_in kA (own_P_pos hPw1)).1 (fun q => hiB q.symm) (getH_hit (own_i1_in kA (own_P_pos hPw1)).1 rfl)) (own_rec_ne _ _ _ _) (own_rec_fo _ _ _ _) (own_max_age _ _ _ _ _)) hZ (hw _ (List.mem_of_getElem? (i := 55) rfl)) (hw _ (List.mem_of_getElem? (i := 3) rfl)) (by decide) (by decide)) q23a q23c (g := (mkF m 231 #[.val (.int p1), .val (.int p2), .val (.long q3), .second, .val (.int p4), .val (.long q5), .second, .val (.long q6), .second, .val (.int w1), .val (.int w2), .val (.int r1), .val (.int rA), .val (.int rB), .val (.long mm), .second, .val (.ref b1), .val (.long (own_tk (own_rec r1 (own_fp q3) (own_sta q5 (own_maxL (1 : Int64) (mm / (4096 : Int64))))) q5 (own_maxL (1 : Int64) (mm / (4096 : Int64))))), .second, .val (.long (0 : Int64)), .second, .val (.int w1), .val (.int (w1 >>> ((1 : Int32) &&& 31))), .val (.long ((w1 - (1 : Int32)).toInt64)), .second, .val (.long kA), .second, .val (.long kB), .second, .unset, .unset, .unset, .unset] [(.long q5), (.long kA), (.ref b1)])) rfl (by rw [hml]; rfl) (Steps.refl _) (argsL := [(.long kA), (.long q5)]) (rest := []) (lenOf pd_2 rfl) rfl (by show 2 * 0 + _ ≤ _; exact Nat.le_of_eq rfl) (hb hby at_231) (fun _ _ => ⟨rfl, rfl, Nat.le_of_ble_eq_true rfl, Nat.le_of_ble_eq_true rfl⟩)
              dsimp only [Pt.U, Pt.locs, Pt.cells, Pt.slots] at X23 l23 y23 z23 st23 hQ23
              subst l23 y23 z23
              obtain ⟨rfl, N23q, K23, H23⟩ := hQ23
              have N23 := Fr.app N22 N23q
              refine own_go (fun _ k => st23.trans k) ?_
              have H2'23 := H2'22.keep K23 (ninS ne_b2_b3 nin0)
              have A1'23 := A1'22.keep K23
              have Fu3'23 := Fu3'22.keep K23 (ninS ne_b1_b3 nin0)
              have Fh3'23 := Fh3'22.keep K23 (ninS ne_b1_b3 nin0)
              have Fs3'23 := Fs3'22.keep K23 (ninS ne_b1_b3 nin0)
              have Fl3'23 := Fl3'22.keep K23 (ninS ne_b1_b3 nin0)
              have Z23 := Nat.le_trans Z22 K23.1
              show own_Ends p e below s _ _ _ (T23.setTop (mkF m 234 #[.val (.int p1), .val (.int p2), .val (.long q3), .second, .val (.int p4), .val (.long q5), .second, .val (.long q6), .second, .val (.int w1), .val (.int w2), .val (.int r1), .val (.int rA), .val (.int rB), .val (.long mm), .second, .val (.ref b1), .val (.long (own_tk (own_rec r1 (own_fp q3) (own_sta q5 (own_maxL (1 : Int64) (mm / (4096 : Int64))))) q5 (own_maxL (1 : Int64) (mm / (4096 : Int64))))), .second, .val (.long (0 : Int64)), .second, .val (.int w1), .val (.int (w1 >>> ((1 : Int32) &&& 31))), .val (.long ((w1 - (1 : Int32)).toInt64)), .second, .val (.long kA), .second, .val (.long kB), .second, .unset, .unset, .unset, .unset] [(.long (own_tk (own_rec rA (own_fp kA) (own_sta q5 (own_maxL (1 : Int64) (mm / (4096 : Int64))))) q5 (own_maxL (1 : Int64) (mm / (4096 : Int64)))))]))
              refine own_go (fun _ k => XS.lstore X23.here hx rfl (hb hby at_234) rfl (l' := #[.val (.int p1), .val (.int p2), .val (.long q3), .second, .val (.int p4), .val (.long q5), .second, .val (.long q6), .second, .val (.int w1), .val (.int w2), .val (.int r1), .val (.int rA), .val (.int rB), .val (.long mm), .second, .val (.ref b1), .val (.long (own_tk (own_rec r1 (own_fp q3) (own_sta q5 (own_maxL (1 : Int64) (mm / (4096 : Int64))))) q5 (own_maxL (1 : Int64) (mm / (4096 : Int64))))), .second, .val (.long (0 : Int64)), .second, .val (.int w1), .val (.int (w1 >>> ((1 : Int32) &&& 31))), .val (.long ((w1 - (1 : Int32)).toInt64)), .second, .val (.long kA), .second, .val (.long kB), .second, .val (.long (own_tk (own_rec rA (own_fp kA) (own_sta q5 (own_maxL (1 : Int64) (mm / (4096 : Int64))))) q5 (own_maxL (1 : Int64) (mm / (4096 : Int64))))), .second, .unset, .unset]) rfl <| XS.aload X23.here hx rfl (hb hby at_236) rfl rfl <| XS.lload X23.here hx rfl (hb hby at_238) rfl <| XS.lload X23.here hx rfl (hb hby at_240) rfl <| k) ?_
              show own_Ends p e below s _ _ _ (T23.setTop (mkF m 242 #[.val (.int p1), .val (.int p2), .val (.long q3), .second, .val (.int p4), .val (.long q5), .second, .val (.long q6), .second, .val (.int w1), .val (.int w2), .val (.int r1), .val (.int rA), .val (.int rB), .val (.long mm), .second, .val (.ref b1), .val (.long (own_tk (own_rec r1 (own_fp q3) (own_sta q5 (own_maxL (1 : Int64) (mm / (4096 : Int64))))) q5 (own_maxL (1 : Int64) (mm / (4096 : Int64))))), .second, .val (.long (0 : Int64)), .second, .val (.int w1), .val (.int (w1 >>> ((1 : Int32) &&& 31))), .val (.long ((w1 - (1 : Int32)).toInt64)), .second, .val (.long kA), .second, .val (.long kB), .second, .val (.long (own_tk (own_rec rA (own_fp kA) (own_sta q5 (own_maxL (1 : Int64) (mm / (4096 : Int64))))) q5 (own_maxL (1 : Int64) (mm / (4096 : Int64))))), .second, .unset, .unset] [(.long q5), (.long kB), (.ref b1)]))
              obtain ⟨cq24, kq24, q24a, q24b, q24c⟩ := isOf hZ rfl A1'23
              obtain ⟨_, _, ⟨T24, L24, k24, n24⟩, -, X24, ⟨Lc24, hQ24, l24, y24, z24⟩, st24⟩ := X23.virtualBack hx (y := (⟨"com/example/unutkan/unutkan/core/RecentEvictions", "take", "(JJ)J"⟩ : MethodName)) (z := (⟨"com/example/unutkan/unutkan/core/RecentEvictions", "take", "(JJ)J"⟩ : MethodName)) hown (mvT hZ (hw _ (List.mem_of_getElem? (i := 51) rfl))) (mvT hZ (hw _ (List.mem_of_getElem? (i := 52) rfl))) (notFace_of_selects (args := #[]) (mvT hZ (hw _ (List.mem_of_getElem? (i := 54) rfl)))) (mvT hZ (hw _ (List.mem_of_getElem? (i := 54) rfl))) (mvT hZ (hw _ (List.mem_of_getElem? (i := 53) rfl))) (by decide) (backOf (W := 0) (rmHit l Z a0 hw [] b1 kB q5 b3 kb3 w1 (((own_i1 kA w1), (.int (0 : Int32))) :: (((own_i1 kB w1), (.int (own_rec rB (own_fp kB) (own_sta q5 (own_maxL (1 : Int64) (mm / (4096 : Int64))))))) :: (((own_i1 kA w1), (.int (own_rec rA (own_fp kA) (own_sta q5 (own_maxL (1 : Int64) (mm / (4096 : Int64))))))) :: (((own_i1 q3 w1), (.int (0 : Int32))) :: (((own_i1 q3 w1), (.int (own_rec r1 (own_fp q3) (own_sta q5 (own_maxL (1 : Int64) (mm / (4096 : Int64))))))) :: []))))) (own_maxL (1 : Int64) (mm / (4096 : Int64))) (own_maxL (1 : Int64) mm) (own_rec rB (own_fp kB) (own_sta q5 (own_maxL (1 : Int64) (mm / (4096 : Int64))))) T23.heap n0 Z23 A1'23 Fu3'23 Fl3'23 H23 g3 ne_b1_b3 (own_max_ne _) (own_P_pos hPw1) Fh3'23 (getH_miss (own_i1_in kB (own_P_pos hPw1)).1 hiB (getH_hit (own_i1_in kB (own_P_pos hPw1)).1 rfl)) (own_rec_ne _ _ _ _) (own_rec_fo _ _ _ _) (own_max_age _ _ _ _ _)) hZ (hw _ (List.mem_of_getElem? (i := 55) rfl)) (hw _ (List.mem_of_getElem? (i := 3) rfl)) (by decide) (by decide)) q24a q24c (g := (mkF m 242 #[.val (.int p1), .val (.int p2), .val (.long q3), .second, .val (.int p4), .val (.long q5), .second, .val (.long q6), .second, .val (.int w1), .val (.int w2), .val (.int r1), .val (.int rA), .val (.int rB), .val (.long mm), .second, .val (.ref b1), .val (.long (own_tk (own_rec r1 (own_fp q3) (own_sta q5 (own_maxL (1 : Int64) (mm / (4096 : Int64))))) q5 (own_maxL (1 : Int64) (mm / (4096 : Int64))))), .second, .val (.long (0 : Int64)), .second, .val (.int w1), .val (.int (w1 >>> ((1 : Int32) &&& 31))), .val (.long ((w1 - (1 : Int32)).toInt64)), .second, .val (.long kA), .second, .val (.long kB), .second, .val (.long (own_tk (own_rec rA (own_fp kA) (own_sta q5 (own_maxL (1 : Int64) (mm / (4096 : Int64))))) q5 (own_maxL (1 : Int64) (mm / (4096 : Int64))))), .second, .unset, .unset] [(.long q5), (.long kB), (.ref b1)])) rfl (by rw [hml]; rfl) (Steps.refl _) (argsL := [(.long kB), (.long q5)]) (rest := []) (lenOf pd_2 rfl) rfl (by show 2 * 0 + _ ≤ _; exact Nat.le_of_eq rfl) (hb hby at_242) (fun _ _ => ⟨rfl, rfl, Nat.le_of_ble_eq_true rfl, Nat.le_of_ble_eq_true rfl⟩)
              dsimp only [Pt.U, Pt.locs, Pt.cells, Pt.slots] at X24 l24 y24 z24 st24 hQ24
              subst l24 y24 z24
              obtain ⟨rfl, N24q, K24, H24⟩ := hQ24
              have N24 := Fr.app N23 N24q
              refine own_go (fun _ k => st24.trans k) ?_
              have H2'24 := H2'23.keep K24 (ninS ne_b2_b3 nin0)
              have A1'24 := A1'23.keep K24
              have Fu3'24 := Fu3'23.keep K24 (ninS ne_b1_b3 nin0)
              have Fh3'24 := Fh3'23.keep K24 (ninS ne_b1_b3 nin0)
              have Fs3'24 := Fs3'23.keep K24 (ninS ne_b1_b3 nin0)
              have Fl3'24 := Fl3'23.keep K24 (ninS ne_b1_b3 nin0)
              have Z24 := Nat.le_trans Z23 K24.1
              show own_Ends p e below s _ _ _ (T24.setTop (mkF m 245 #[.val (.int p1), .val (.int p2), .val (.long q3), .second, .val (.int p4), .val (.long q5), .second, .val (.long q6), .second, .val (.int w1), .val (.int w2), .val (.int r1), .val (.int rA), .val (.int rB), .val (.long mm), .second, .val (.ref b1), .val (.long (own_tk (own_rec r1 (own_fp q3) (own_sta q5 (own_maxL (1 : Int64) (mm / (4096 : Int64))))) q5 (own_maxL (1 : Int64) (mm / (4096 : Int64))))), .second, .val (.long (0 : Int64)), .second, .val (.int w1), .val (.int (w1 >>> ((1 : Int32) &&& 31))), .val (.long ((w1 - (1 : Int32)).toInt64)), .second, .val (.long kA), .second, .val (.long kB), .second, .val (.long (own_tk (own_rec rA (own_fp kA) (own_sta q5 (own_maxL (1 : Int64) (mm / (4096 : Int64))))) q5 (own_maxL (1 : Int64) (mm / (4096 : Int64))))), .second, .unset, .unset] [(.long (own_tk (own_rec rB (own_fp kB) (own_sta q5 (own_maxL (1 : Int64) (mm / (4096 : Int64))))) q5 (own_maxL (1 : Int64) (mm / (4096 : Int64)))))]))
              refine own_go (fun _ k => XS.lstore X24.here hx rfl (hb hby at_245) rfl (l' := #[.val (.int p1), .val (.int p2), .val (.long q3), .second, .val (.int p4), .val (.long q5), .second, .val (.long q6), .second, .val (.int w1), .val (.int w2), .val (.int r1), .val (.int rA), .val (.int rB), .val (.long mm), .second, .val (.ref b1), .val (.long (own_tk (own_rec r1 (own_fp q3) (own_sta q5 (own_maxL (1 : Int64) (mm / (4096 : Int64))))) q5 (own_maxL (1 : Int64) (mm / (4096 : Int64))))), .second, .val (.long (0 : Int64)), .second, .val (.int w1), .val (.int (w1 >>> ((1 : Int32) &&& 31))), .val (.long ((w1 - (1 : Int32)).toInt64)), .second, .val (.long kA), .second, .val (.long kB), .second, .val (.long (own_tk (own_rec rA (own_fp kA) (own_sta q5 (own_maxL (1 : Int64) (mm / (4096 : Int64))))) q5 (own_maxL (1 : Int64) (mm / (4096 : Int64))))), .second, .val (.long (own_tk (own_rec rB (own_fp kB) (own_sta q5 (own_maxL (1 : Int64) (mm / (4096 : Int64))))) q5 (own_maxL (1 : Int64) (mm / (4096 : Int64))))), .second]) rfl <| XS.lload X24.here hx rfl (hb hby at_247) rfl <| XS.iload X24.here hx rfl (hb hby at_249) rfl <| k) ?_
              show own_Ends p e below s _ _ _ (T24.setTop (mkF m 251 #[.val (.int p1), .val (.int p2), .val (.long q3), .second, .val (.int p4), .val (.long q5), .second, .val (.long q6), .second, .val (.int w1), .val (.int w2), .val (.int r1), .val (.int rA), .val (.int rB), .val (.long mm), .second, .val (.ref b1), .val (.long (own_tk (own_rec r1 (own_fp q3) (own_sta q5 (own_maxL (1 : Int64) (mm / (4096 : Int64))))) q5 (own_maxL (1 : Int64) (mm / (4096 : Int64))))), .second, .val (.long (0 : Int64)), .second, .val (.int w1), .val (.int (w1 >>> ((1 : Int32) &&& 31))), .val (.long ((w1 - (1 : Int32)).toInt64)), .second, .val (.long kA), .second, .val (.long kB), .second, .val (.long (own_tk (own_rec rA (own_fp kA) (own_sta q5 (own_maxL (1 : Int64) (mm / (4096 : Int64))))) q5 (own_maxL (1 : Int64) (mm / (4096 : Int64))))), .second, .val (.long (own_tk (own_rec rB (own_fp kB) (own_sta q5 (own_maxL (1 : Int64) (mm / (4096 : Int64))))) q5 (own_maxL (1 : Int64) (mm / (4096 : Int64))))), .second] [(.int rA), (.long (own_tk (own_rec rA (own_fp kA) (own_sta q5 (own_maxL (1 : Int64) (mm / (4096 : Int64))))) q5 (own_maxL (1 : Int64) (mm / (4096 : Int64)))))]))
              by_cases hc251_25 : rA = (0 : Int32)
              · -- true
                refine own_go (fun _ k => XS.ifYes X24.here hx rfl (pc0 := 251) (pc' := 258) rfl (hb hby at_251) rfl ((if0 _ _).trans (teq hc251_25).1) (by decide) (by decide) <| XT.lconstV X24.here hx rfl (0 : Int64) (hb hby at_258) rfl <| XS.lcmp X24.here hx rfl (hb hby at_259) rfl <| XS.ifNo X24.here hx rfl (hb hby at_260) rfl ((if0 _ _).trans (teq ((lw_eq _ _).mpr (by rw [own_tk_rec, if_pos hc251_25]))).2) <| XS.lload X24.here hx rfl (hb hby at_263) rfl <| k) ?_
                show own_Ends p e below s _ _ _ (T24.setTop (mkF m 265 #[.val (.int p1), .val (.int p2), .val (.long q3), .second, .val (.int p4), .val (.long q5), .second, .val (.long q6), .second, .val (.int w1), .val (.int w2), .val (.int r1), .val (.int rA), .val (.int rB), .val (.long mm), .second, .val (.ref b1), .val (.long (own_tk (own_rec r1 (own_fp q3) (own_sta q5 (own_maxL (1 : Int64) (mm / (4096 : Int64))))) q5 (own_maxL (1 : Int64) (mm / (4096 : Int64))))), .second, .val (.long (0 : Int64)), .second, .val (.int w1), .val (.int (w1 >>> ((1 : Int32) &&& 31))), .val (.long ((w1 - (1 : Int32)).toInt64)), .second, .val (.long kA), .second, .val (.long kB), .second, .val (.long (own_tk (own_rec rA (own_fp kA) (own_sta q5 (own_maxL (1 : Int64) (mm / (4096 : Int64))))) q5 (own_maxL (1 : Int64) (mm / (4096 : Int64))))), .second, .val (.long (own_tk (own_rec rB (own_fp kB) (own_sta q5 (own_maxL (1 : Int64) (mm / (4096 : Int64))))) q5 (own_maxL (1 : Int64) (mm / (4096 : Int64))))), .second] [(.long (own_tk (own_rec rB (own_fp kB) (own_sta q5 (own_maxL (1 : Int64) (mm / (4096 : Int64))))) q5 (own_maxL (1 : Int64) (mm / (4096 : Int64)))))]))
                refine own_go (fun _ k => XS.iload X24.here hx rfl (hb hby at_265) rfl <| k) ?_
                show own_Ends p e below s _ _ _ (T24.setTop (mkF m 267 #[.val (.int p1), .val (.int p2), .val (.long q3), .second, .val (.int p4), .val (.long q5), .second, .val (.long q6), .second, .val (.int w1), .val (.int w2), .val (.int r1), .val (.int rA), .val (.int rB), .val (.long mm), .second, .val (.ref b1), .val (.long (own_tk (own_rec r1 (own_fp q3) (own_sta q5 (own_maxL (1 : Int64) (mm / (4096 : Int64))))) q5 (own_maxL (1 : Int64) (mm / (4096 : Int64))))), .second, .val (.long (0 : Int64)), .second, .val (.int w1), .val (.int (w1 >>> ((1 : Int32) &&& 31))), .val (.long ((w1 - (1 : Int32)).toInt64)), .second, .val (.long kA), .second, .val (.long kB), .second, .val (.long (own_tk (own_rec rA (own_fp kA) (own_sta q5 (own_maxL (1 : Int64) (mm / (4096 : Int64))))) q5 (own_maxL (1 : Int64) (mm / (4096 : Int64))))), .second, .val (.long (own_tk (own_rec rB (own_fp kB) (own_sta q5 (own_maxL (1 : Int64) (mm / (4096 : Int64))))) q5 (own_maxL (1 : Int64) (mm / (4096 : Int64))))), .second] [(.int rB), (.long (own_tk (own_rec rB (own_fp kB) (own_sta q5 (own_maxL (1 : Int64) (mm / (4096 : Int64))))) q5 (own_maxL (1 : Int64) (mm / (4096 : Int64)))))]))
                by_cases hc267_26 : rB = (0 : Int32)
                · -- true
                  refine own_go (fun _ k => XS.ifYes X24.here hx rfl (pc0 := 267) (pc' := 274) rfl (hb hby at_267) rfl ((if0 _ _).trans (teq hc267_26).1) (by decide) (by decide) <| XT.lconstV X24.here hx rfl (0 : Int64) (hb hby at_274) rfl <| XS.lcmp X24.here hx rfl (hb hby at_275) rfl <| XS.ifNo X24.here hx rfl (hb hby at_276) rfl ((if0 _ _).trans (teq ((lw_eq _ _).mpr (by rw [own_tk_rec, if_pos hc267_26]))).2) <| XT.iconstV X24.here hx rfl (1 : Int32) (hb hby at_279) rfl <| k) ?_
                  show own_Ends p e below s _ _ _ (T24.setTop (mkF m 280 #[.val (.int p1), .val (.int p2), .val (.long q3), .second, .val (.int p4), .val (.long q5), .second, .val (.long q6), .second, .val (.int w1), .val (.int w2), .val (.int r1), .val (.int rA), .val (.int rB), .val (.long mm), .second, .val (.ref b1), .val (.long (own_tk (own_rec r1 (own_fp q3) (own_sta q5 (own_maxL (1 : Int64) (mm / (4096 : Int64))))) q5 (own_maxL (1 : Int64) (mm / (4096 : Int64))))), .second, .val (.long (0 : Int64)), .second, .val (.int w1), .val (.int (w1 >>> ((1 : Int32) &&& 31))), .val (.long ((w1 - (1 : Int32)).toInt64)), .second, .val (.long kA), .second, .val (.long kB), .second, .val (.long (own_tk (own_rec rA (own_fp kA) (own_sta q5 (own_maxL (1 : Int64) (mm / (4096 : Int64))))) q5 (own_maxL (1 : Int64) (mm / (4096 : Int64))))), .second, .val (.long (own_tk (own_rec rB (own_fp kB) (own_sta q5 (own_maxL (1 : Int64) (mm / (4096 : Int64))))) q5 (own_maxL (1 : Int64) (mm / (4096 : Int64))))), .second] [(.int (1 : Int32))]))
                  refine own_go (fun _ k => XS.goto X24.here hx rfl (pc0 := 280) (pc' := 284) rfl (hb hby at_280) (by decide) (by decide) <| k) ?_
                  show own_Ends p e below s _ _ _ (T24.setTop (mkF m 284 #[.val (.int p1), .val (.int p2), .val (.long q3), .second, .val (.int p4), .val (.long q5), .second, .val (.long q6), .second, .val (.int w1), .val (.int w2), .val (.int r1), .val (.int rA), .val (.int rB), .val (.long mm), .second, .val (.ref b1), .val (.long (own_tk (own_rec r1 (own_fp q3) (own_sta q5 (own_maxL (1 : Int64) (mm / (4096 : Int64))))) q5 (own_maxL (1 : Int64) (mm / (4096 : Int64))))), .second, .val (.long (0 : Int64)), .second, .val (.int w1), .val (.int (w1 >>> ((1 : Int32) &&& 31))), .val (.long ((w1 - (1 : Int32)).toInt64)), .second, .val (.long kA), .second, .val (.long kB), .second, .val (.long (own_tk (own_rec rA (own_fp kA) (own_sta q5 (own_maxL (1 : Int64) (mm / (4096 : Int64))))) q5 (own_maxL (1 : Int64) (mm / (4096 : Int64))))), .second, .val (.long (own_tk (own_rec rB (own_fp kB) (own_sta q5 (own_maxL (1 : Int64) (mm / (4096 : Int64))))) q5 (own_maxL (1 : Int64) (mm / (4096 : Int64))))), .second] [(.int (1 : Int32))]))
                  exact own_retN X24 hx (t := .boolean) hrt (by simp) (hb hby at_284) hlk (show nar .boolean (1 : Int32) = (1 : Int32) from by decide) (by exact ⟨rfl, N24⟩) (by decide) (by decide)
                · -- false
                  refine own_go (fun _ k => XS.ifNo X24.here hx rfl (hb hby at_267) rfl ((if0 _ _).trans (feq hc267_26).1) <| XT.lconstV X24.here hx rfl (1 : Int64) (hb hby at_270) rfl <| XS.goto X24.here hx rfl (pc0 := 271) (pc' := 275) rfl (hb hby at_271) (by decide) (by decide) <| XS.lcmp X24.here hx rfl (hb hby at_275) rfl <| k) ?_
                  show own_Ends p e below s _ _ _ (T24.setTop (mkF m 276 #[.val (.int p1), .val (.int p2), .val (.long q3), .second, .val (.int p4), .val (.long q5), .second, .val (.long q6), .second, .val (.int w1), .val (.int w2), .val (.int r1), .val (.int rA), .val (.int rB), .val (.long mm), .second, .val (.ref b1), .val (.long (own_tk (own_rec r1 (own_fp q3) (own_sta q5 (own_maxL (1 : Int64) (mm / (4096 : Int64))))) q5 (own_maxL (1 : Int64) (mm / (4096 : Int64))))), .second, .val (.long (0 : Int64)), .second, .val (.int w1), .val (.int (w1 >>> ((1 : Int32) &&& 31))), .val (.long ((w1 - (1 : Int32)).toInt64)), .second, .val (.long kA), .second, .val (.long kB), .second, .val (.long (own_tk (own_rec rA (own_fp kA) (own_sta q5 (own_maxL (1 : Int64) (mm / (4096 : Int64))))) q5 (own_maxL (1 : Int64) (mm / (4096 : Int64))))), .second, .val (.long (own_tk (own_rec rB (own_fp kB) (own_sta q5 (own_maxL (1 : Int64) (mm / (4096 : Int64))))) q5 (own_maxL (1 : Int64) (mm / (4096 : Int64))))), .second] [(.int (lcmpW (own_tk (own_rec rB (own_fp kB) (own_sta q5 (own_maxL (1 : Int64) (mm / (4096 : Int64))))) q5 (own_maxL (1 : Int64) (mm / (4096 : Int64)))) (1 : Int64)))]))
                  refine own_go (fun _ k => XS.ifNo X24.here hx rfl (hb hby at_276) rfl ((if0 _ _).trans (teq ((lw_eq _ _).mpr (by rw [own_tk_rec, if_neg hc267_26]))).2) <| XT.iconstV X24.here hx rfl (1 : Int32) (hb hby at_279) rfl <| XS.goto X24.here hx rfl (pc0 := 280) (pc' := 284) rfl (hb hby at_280) (by decide) (by decide) <| k) ?_
                  show own_Ends p e below s _ _ _ (T24.setTop (mkF m 284 #[.val (.int p1), .val (.int p2), .val (.long q3), .second, .val (.int p4), .val (.long q5), .second, .val (.long q6), .second, .val (.int w1), .val (.int w2), .val (.int r1), .val (.int rA), .val (.int rB), .val (.long mm), .second, .val (.ref b1), .val (.long (own_tk (own_rec r1 (own_fp q3) (own_sta q5 (own_maxL (1 : Int64) (mm / (4096 : Int64))))) q5 (own_maxL (1 : Int64) (mm / (4096 : Int64))))), .second, .val (.long (0 : Int64)), .second, .val (.int w1), .val (.int (w1 >>> ((1 : Int32) &&& 31))), .val (.long ((w1 - (1 : Int32)).toInt64)), .second, .val (.long kA), .second, .val (.long kB), .second, .val (.long (own_tk (own_rec rA (own_fp kA) (own_sta q5 (own_maxL (1 : Int64) (mm / (4096 : Int64))))) q5 (own_maxL (1 : Int64) (mm / (4096 : Int64))))), .second, .val (.long (own_tk (own_rec rB (own_fp kB) (own_sta q5 (own_maxL (1 : Int64) (mm / (4096 : Int64))))) q5 (own_maxL (1 : Int64) (mm / (4096 : Int64))))), .second] [(.int (1 : Int32))]))
                  exact own_retN X24 hx (t := .boolean) hrt (by simp) (hb hby at_284) hlk (show nar .boolean (1 : Int32) = (1 : Int32) from by decide) (by exact ⟨rfl, N24⟩) (by decide) (by decide)
              · -- false
                refine own_go (fun _ k => XS.ifNo X24.here hx rfl (hb hby at_251) rfl ((if0 _ _).trans (feq hc251_25).1) <| XT.lconstV X24.here hx rfl (1 : Int64) (hb hby at_254) rfl <| XS.goto X24.here hx rfl (pc0 := 255) (pc' := 259) rfl (hb hby at_255) (by decide) (by decide) <| XS.lcmp X24.here hx rfl (hb hby at_259) rfl <| k) ?_
                show own_Ends p e below s _ _ _ (T24.setTop (mkF m 260 #[.val (.int p1), .val (.int p2), .val (.long q3), .second, .val (.int p4), .val (.long q5), .second, .val (.long q6), .second, .val (.int w1), .val (.int w2), .val (.int r1), .val (.int rA), .val (.int rB), .val (.long mm), .second, .val (.ref b1), .val (.long (own_tk (own_rec r1 (own_fp q3) (own_sta q5 (own_maxL (1 : Int64) (mm / (4096 : Int64))))) q5 (own_maxL (1 : Int64) (mm / (4096 : Int64))))), .second, .val (.long (0 : Int64)), .second, .val (.int w1), .val (.int (w1 >>> ((1 : Int32) &&& 31))), .val (.long ((w1 - (1 : Int32)).toInt64)), .second, .val (.long kA), .second, .val (.long kB), .second, .val (.long (own_tk (own_rec rA (own_fp kA) (own_sta q5 (own_maxL (1 : Int64) (mm / (4096 : Int64))))) q5 (own_maxL (1 : Int64) (mm / (4096 : Int64))))), .second, .val (.long (own_tk (own_rec rB (own_fp kB) (own_sta q5 (own_maxL (1 : Int64) (mm / (4096 : Int64))))) q5 (own_maxL (1 : Int64) (mm / (4096 : Int64))))), .second] [(.int (lcmpW (own_tk (own_rec rA (own_fp kA) (own_sta q5 (own_maxL (1 : Int64) (mm / (4096 : Int64))))) q5 (own_maxL (1 : Int64) (mm / (4096 : Int64)))) (1 : Int64)))]))
                refine own_go (fun _ k => XS.ifNo X24.here hx rfl (hb hby at_260) rfl ((if0 _ _).trans (teq ((lw_eq _ _).mpr (by rw [own_tk_rec, if_neg hc251_25]))).2) <| XS.lload X24.here hx rfl (hb hby at_263) rfl <| XS.iload X24.here hx rfl (hb hby at_265) rfl <| k) ?_
                show own_Ends p e below s _ _ _ (T24.setTop (mkF m 267 #[.val (.int p1), .val (.int p2), .val (.long q3), .second, .val (.int p4), .val (.long q5), .second, .val (.long q6), .second, .val (.int w1), .val (.int w2), .val (.int r1), .val (.int rA), .val (.int rB), .val (.long mm), .second, .val (.ref b1), .val (.long (own_tk (own_rec r1 (own_fp q3) (own_sta q5 (own_maxL (1 : Int64) (mm / (4096 : Int64))))) q5 (own_maxL (1 : Int64) (mm / (4096 : Int64))))), .second, .val (.long (0 : Int64)), .second, .val (.int w1), .val (.int (w1 >>> ((1 : Int32) &&& 31))), .val (.long ((w1 - (1 : Int32)).toInt64)), .second, .val (.long kA), .second, .val (.long kB), .second, .val (.long (own_tk (own_rec rA (own_fp kA) (own_sta q5 (own_maxL (1 : Int64) (mm / (4096 : Int64))))) q5 (own_maxL (1 : Int64) (mm / (4096 : Int64))))), .second, .val (.long (own_tk (own_rec rB (own_fp kB) (own_sta q5 (own_maxL (1 : Int64) (mm / (4096 : Int64))))) q5 (own_maxL (1 : Int64) (mm / (4096 : Int64))))), .second] [(.int rB), (.long (own_tk (own_rec rB (own_fp kB) (own_sta q5 (own_maxL (1 : Int64) (mm / (4096 : Int64))))) q5 (own_maxL (1 : Int64) (mm / (4096 : Int64)))))]))
                by_cases hc267_27 : rB = (0 : Int32)
                · -- true
                  refine own_go (fun _ k => XS.ifYes X24.here hx rfl (pc0 := 267) (pc' := 274) rfl (hb hby at_267) rfl ((if0 _ _).trans (teq hc267_27).1) (by decide) (by decide) <| XT.lconstV X24.here hx rfl (0 : Int64) (hb hby at_274) rfl <| XS.lcmp X24.here hx rfl (hb hby at_275) rfl <| XS.ifNo X24.here hx rfl (hb hby at_276) rfl ((if0 _ _).trans (teq ((lw_eq _ _).mpr (by rw [own_tk_rec, if_pos hc267_27]))).2) <| XT.iconstV X24.here hx rfl (1 : Int32) (hb hby at_279) rfl <| k) ?_
                  show own_Ends p e below s _ _ _ (T24.setTop (mkF m 280 #[.val (.int p1), .val (.int p2), .val (.long q3), .second, .val (.int p4), .val (.long q5), .second, .val (.long q6), .second, .val (.int w1), .val (.int w2), .val (.int r1), .val (.int rA), .val (.int rB), .val (.long mm), .second, .val (.ref b1), .val (.long (own_tk (own_rec r1 (own_fp q3) (own_sta q5 (own_maxL (1 : Int64) (mm / (4096 : Int64))))) q5 (own_maxL (1 : Int64) (mm / (4096 : Int64))))), .second, .val (.long (0 : Int64)), .second, .val (.int w1), .val (.int (w1 >>> ((1 : Int32) &&& 31))), .val (.long ((w1 - (1 : Int32)).toInt64)), .second, .val (.long kA), .second, .val (.long kB), .second, .val (.long (own_tk (own_rec rA (own_fp kA) (own_sta q5 (own_maxL (1 : Int64) (mm / (4096 : Int64))))) q5 (own_maxL (1 : Int64) (mm / (4096 : Int64))))), .second, .val (.long (own_tk (own_rec rB (own_fp kB) (own_sta q5 (own_maxL (1 : Int64) (mm / (4096 : Int64))))) q5 (own_maxL (1 : Int64) (mm / (4096 : Int64))))), .second] [(.int (1 : Int32))]))
                  refine own_go (fun _ k => XS.goto X24.here hx rfl (pc0 := 280) (pc' := 284) rfl (hb hby at_280) (by decide) (by decide) <| k) ?_
                  show own_Ends p e below s _ _ _ (T24.setTop (mkF m 284 #[.val (.int p1), .val (.int p2), .val (.long q3), .second, .val (.int p4), .val (.long q5), .second, .val (.long q6), .second, .val (.int w1), .val (.int w2), .val (.int r1), .val (.int rA), .val (.int rB), .val (.long mm), .second, .val (.ref b1), .val (.long (own_tk (own_rec r1 (own_fp q3) (own_sta q5 (own_maxL (1 : Int64) (mm / (4096 : Int64))))) q5 (own_maxL (1 : Int64) (mm / (4096 : Int64))))), .second, .val (.long (0 : Int64)), .second, .val (.int w1), .val (.int (w1 >>> ((1 : Int32) &&& 31))), .val (.long ((w1 - (1 : Int32)).toInt64)), .second, .val (.long kA), .second, .val (.long kB), .second, .val (.long (own_tk (own_rec rA (own_fp kA) (own_sta q5 (own_maxL (1 : Int64) (mm / (4096 : Int64))))) q5 (own_maxL (1 : Int64) (mm / (4096 : Int64))))), .second, .val (.long (own_tk (own_rec rB (own_fp kB) (own_sta q5 (own_maxL (1 : Int64) (mm / (4096 : Int64))))) q5 (own_maxL (1 : Int64) (mm / (4096 : Int64))))), .second] [(.int (1 : Int32))]))
                  exact own_retN X24 hx (t := .boolean) hrt (by simp) (hb hby at_284) hlk (show nar .boolean (1 : Int32) = (1 : Int32) from by decide) (by exact ⟨rfl, N24⟩) (by decide) (by decide)
                · -- false
                  refine own_go (fun _ k => XS.ifNo X24.here hx rfl (hb hby at_267) rfl ((if0 _ _).trans (feq hc267_27).1) <| XT.lconstV X24.here hx rfl (1 : Int64) (hb hby at_270) rfl <| XS.goto X24.here hx rfl (pc0 := 271) (pc' := 275) rfl (hb hby at_271) (by decide) (by decide) <| XS.lcmp X24.here hx rfl (hb hby at_275) rfl <| k) ?_
                  show own_Ends p e below s _ _ _ (T24.setTop (mkF m 276 #[.val (.int p1), .val (.int p2), .val (.long q3), .second, .val (.int p4), .val (.long q5), .second, .val (.long q6), .second, .val (.int w1), .val (.int w2), .val (.int r1), .val (.int rA), .val (.int rB), .val (.long mm), .second, .val (.ref b1), .val (.long (own_tk (own_rec r1 (own_fp q3) (own_sta q5 (own_maxL (1 : Int64) (mm / (4096 : Int64))))) q5 (own_maxL (1 : Int64) (mm / (4096 : Int64))))), .second, .val (.long (0 : Int64)), .second, .val (.int w1), .val (.int (w1 >>> ((1 : Int32) &&& 31))), .val (.long ((w1 - (1 : Int32)).toInt64)), .second, .val (.long kA), .second, .val (.long kB), .second, .val (.long (own_tk (own_rec rA (own_fp kA) (own_sta q5 (own_maxL (1 : Int64) (mm / (4096 : Int64))))) q5 (own_maxL (1 : Int64) (mm / (4096 : Int64))))), .second, .val (.long (own_tk (own_rec rB (own_fp kB) (own_sta q5 (own_maxL (1 : Int64) (mm / (4096 : Int64))))) q5 (own_maxL (1 : Int64) (mm / (4096 : Int64))))), .second] [(.int (lcmpW (own_tk (own_rec rB (own_fp kB) (own_sta q5 (own_maxL (1 : Int64) (mm / (4096 : Int64))))) q5 (own_maxL (1 : Int64) (mm / (4096 : Int64)))) (1 : Int64)))]))
                  refine own_go (fun _ k => XS.ifNo X24.here hx rfl (hb hby at_276) rfl ((if0 _ _).trans (teq ((lw_eq _ _).mpr (by rw [own_tk_rec, if_neg hc267_27]))).2) <| XT.iconstV X24.here hx rfl (1 : Int32) (hb hby at_279) rfl <| XS.goto X24.here hx rfl (pc0 := 280) (pc' := 284) rfl (hb hby at_280) (by decide) (by decide) <| k) ?_
                  show own_Ends p e below s _ _ _ (T24.setTop (mkF m 284 #[.val (.int p1), .val (.int p2), .val (.long q3), .second, .val (.int p4), .val (.long q5), .second, .val (.long q6), .second, .val (.int w1), .val (.int w2), .val (.int r1), .val (.int rA), .val (.int rB), .val (.long mm), .second, .val (.ref b1), .val (.long (own_tk (own_rec r1 (own_fp q3) (own_sta q5 (own_maxL (1 : Int64) (mm / (4096 : Int64))))) q5 (own_maxL (1 : Int64) (mm / (4096 : Int64))))), .second, .val (.long (0 : Int64)), .second, .val (.int w1), .val (.int (w1 >>> ((1 : Int32) &&& 31))), .val (.long ((w1 - (1 : Int32)).toInt64)), .second, .val (.long kA), .second, .val (.long kB), .second, .val (.long (own_tk (own_rec rA (own_fp kA) (own_sta q5 (own_maxL (1 : Int64) (mm / (4096 : Int64))))) q5 (own_maxL (1 : Int64) (mm / (4096 : Int64))))), .second, .val (.long (own_tk (own_rec rB (own_fp kB) (own_sta q5 (own_maxL (1 : Int64) (mm / (4096 : Int64))))) q5 (own_maxL (1 : Int64) (mm / (4096 : Int64))))), .second] [(.int (1 : Int32))]))
                  exact own_retN X24 hx (t := .boolean) hrt (by simp) (hb hby at_284) hlk (show nar .boolean (1 : Int32) = (1 : Int32) from by decide) (by exact ⟨rfl, N24⟩) (by decide) (by decide)
          · -- false
            refine own_go (fun _ k => XS.ifNo X17.here hx rfl (hb hby at_126) rfl ((if0 _ _).trans (feq hc126_18).1) <| XT.lconstV X17.here hx rfl (1 : Int64) (hb hby at_129) rfl <| XS.goto X17.here hx rfl (pc0 := 130) (pc' := 134) rfl (hb hby at_130) (by decide) (by decide) <| k) ?_
            show own_Ends p e below s _ _ _ (T17.setTop (mkF m 134 #[.val (.int p1), .val (.int p2), .val (.long q3), .second, .val (.int p4), .val (.long q5), .second, .val (.long q6), .second, .val (.int w1), .val (.int w2), .val (.int r1), .val (.int rA), .val (.int rB), .val (.long mm), .second, .val (.ref b1), .val (.long (own_tk (own_rec r1 (own_fp q3) (own_sta q5 (own_maxL (1 : Int64) (mm / (4096 : Int64))))) q5 (own_maxL (1 : Int64) (mm / (4096 : Int64))))), .second, .unset, .unset, .unset, .unset, .unset, .unset, .unset, .unset, .unset, .unset, .unset, .unset, .unset, .unset] [(.long (1 : Int64))]))
            refine own_go (fun _ k => XS.lstore X17.here hx rfl (hb hby at_134) rfl (l' := #[.val (.int p1), .val (.int p2), .val (.long q3), .second, .val (.int p4), .val (.long q5), .second, .val (.long q6), .second, .val (.int w1), .val (.int w2), .val (.int r1), .val (.int rA), .val (.int rB), .val (.long mm), .second, .val (.ref b1), .val (.long (own_tk (own_rec r1 (own_fp q3) (own_sta q5 (own_maxL (1 : Int64) (mm / (4096 : Int64))))) q5 (own_maxL (1 : Int64) (mm / (4096 : Int64))))), .second, .val (.long (1 : Int64)), .second, .unset, .unset, .unset, .unset, .unset, .unset, .unset, .unset, .unset, .unset, .unset, .unset]) rfl <| k) ?_
            show own_Ends p e below s _ _ _ (T17.setTop (mkF m 136 #[.val (.int p1), .val (.int p2), .val (.long q3), .second, .val (.int p4), .val (.long q5), .second, .val (.long q6), .second, .val (.int w1), .val (.int w2), .val (.int r1), .val (.int rA), .val (.int rB), .val (.long mm), .second, .val (.ref b1), .val (.long (own_tk (own_rec r1 (own_fp q3) (own_sta q5 (own_maxL (1 : Int64) (mm / (4096 : Int64))))) q5 (own_maxL (1 : Int64) (mm / (4096 : Int64))))), .second, .val (.long (1 : Int64)), .second, .unset, .unset, .unset, .unset, .unset, .unset, .unset, .unset, .unset, .unset, .unset, .unset] []))
            refine own_go (fun _ k => XS.lload X17.here hx rfl (hb hby at_136) rfl <| XS.lload X17.here hx rfl (hb hby at_138) rfl <| XS.lcmp X17.here hx rfl (hb hby at_140) rfl <| XS.ifYes X17.here hx rfl (pc0 := 141) (pc' := 146) rfl (hb hby at_141) rfl ((if0 _ _).trans (teq ((lw_eq _ _).mpr (by rw [own_tk_rec, if_neg hc126_18]))).1) (by decide) (by decide) <| XS.iload X17.here hx rfl (hb hby at_146) rfl <| k) ?_
            show own_Ends p e below s _ _ _ (T17.setTop (mkF m 148 #[.val (.int p1), .val (.int p2), .val (.long q3), .second, .val (.int p4), .val (.long q5), .second, .val (.long q6), .second, .val (.int w1), .val (.int w2), .val (.int r1), .val (.int rA), .val (.int rB), .val (.long mm), .second, .val (.ref b1), .val (.long (own_tk (own_rec r1 (own_fp q3) (own_sta q5 (own_maxL (1 : Int64) (mm / (4096 : Int64))))) q5 (own_maxL (1 : Int64) (mm / (4096 : Int64))))), .second, .val (.long (1 : Int64)), .second, .unset, .unset, .unset, .unset, .unset, .unset, .unset, .unset, .unset, .unset, .unset, .unset] [(.int w1)]))
            refine own_go (fun _ k => XS.iload X17.here hx rfl (hb hby at_148) rfl <| k) ?_
            show own_Ends p e below s _ _ _ (T17.setTop (mkF m 150 #[.val (.int p1), .val (.int p2), .val (.long q3), .second, .val (.int p4), .val (.long q5), .second, .val (.long q6), .second, .val (.int w1), .val (.int w2), .val (.int r1), .val (.int rA), .val (.int rB), .val (.long mm), .second, .val (.ref b1), .val (.long (own_tk (own_rec r1 (own_fp q3) (own_sta q5 (own_maxL (1 : Int64) (mm / (4096 : Int64))))) q5 (own_maxL (1 : Int64) (mm / (4096 : Int64))))), .second, .val (.long (1 : Int64)), .second, .unset, .unset, .unset, .unset, .unset, .unset, .unset, .unset, .unset, .unset, .unset, .unset] [(.int w2), (.int w1)]))
            obtain ⟨_, _, ⟨T28, L28, k28, n28⟩, -, X28, ⟨Lc28, hQ28, l28, y28, z28⟩, st28⟩ := Jvm.LawKit.callS X17 hx (y := (⟨"java/lang/Math", "max", "(II)I"⟩ : MethodName)) hown (mvT hZ (hw _ (List.mem_of_getElem? (i := 58) rfl))) (mvT hZ (hw _ (List.mem_of_getElem? (i := 59) rfl))) (mvT hZ (hw _ (List.mem_of_getElem? (i := 13) rfl))) (mvT hZ (hw _ (List.mem_of_getElem? (i := 60) rfl))) (by decide) (backOf (W := 0) (rm11 l Z a0 hw [] w1 w2 T17.heap n0 Z17) hZ (hw _ (List.mem_of_getElem? (i := 60) rfl)) (hw _ (List.mem_of_getElem? (i := 13) rfl)) (by decide) (by decide)) (g := (mkF m 150 #[.val (.int p1), .val (.int p2), .val (.long q3), .second, .val (.int p4), .val (.long q5), .second, .val (.long q6), .second, .val (.int w1), .val (.int w2), .val (.int r1), .val (.int rA), .val (.int rB), .val (.long mm), .second, .val (.ref b1), .val (.long (own_tk (own_rec r1 (own_fp q3) (own_sta q5 (own_maxL (1 : Int64) (mm / (4096 : Int64))))) q5 (own_maxL (1 : Int64) (mm / (4096 : Int64))))), .second, .val (.long (1 : Int64)), .second, .unset, .unset, .unset, .unset, .unset, .unset, .unset, .unset, .unset, .unset, .unset, .unset] [(.int w2), (.int w1)])) rfl (by rw [hml]; rfl) (argsL := [(.int w1), (.int w2)]) (rest := []) (lenOf pd_6 rfl) rfl (by show 2 * 0 + _ ≤ _; exact Nat.le_of_eq rfl) (hb hby at_150) (fun _ _ => ⟨rfl, rfl, Nat.le_of_ble_eq_true rfl, Nat.le_of_ble_eq_true rfl⟩)
            dsimp only [Pt.U, Pt.locs, Pt.cells, Pt.slots] at X28 l28 y28 z28 st28 hQ28
            subst l28 y28 z28
            obtain ⟨rfl, N28q, e28⟩ := hQ28
            have N28 := Fr.app N17 N28q
            refine own_go (fun _ k => st28 _ k) ?_
            show own_Ends p e below s _ _ _ (T28.setTop (mkF m 153 #[.val (.int p1), .val (.int p2), .val (.long q3), .second, .val (.int p4), .val (.long q5), .second, .val (.long q6), .second, .val (.int w1), .val (.int w2), .val (.int r1), .val (.int rA), .val (.int rB), .val (.long mm), .second, .val (.ref b1), .val (.long (own_tk (own_rec r1 (own_fp q3) (own_sta q5 (own_maxL (1 : Int64) (mm / (4096 : Int64))))) q5 (own_maxL (1 : Int64) (mm / (4096 : Int64))))), .second, .val (.long (1 : Int64)), .second, .unset, .unset, .unset, .unset, .unset, .unset, .unset, .unset, .unset, .unset, .unset, .unset] [(.int (own_maxI w1 w2))]))
            rw [show (own_maxI w1 w2) = w1 from by unfold own_maxI; rw [if_neg hlt]]
            show own_Ends p e below s _ _ _ (T28.setTop (mkF m 153 #[.val (.int p1), .val (.int p2), .val (.long q3), .second, .val (.int p4), .val (.long q5), .second, .val (.long q6), .second, .val (.int w1), .val (.int w2), .val (.int r1), .val (.int rA), .val (.int rB), .val (.long mm), .second, .val (.ref b1), .val (.long (own_tk (own_rec r1 (own_fp q3) (own_sta q5 (own_maxL (1 : Int64) (mm / (4096 : Int64))))) q5 (own_maxL (1 : Int64) (mm / (4096 : Int64))))), .second, .val (.long (1 : Int64)), .second, .unset, .unset, .unset, .unset, .unset, .unset, .unset, .unset, .unset, .unset, .unset, .unset] [(.int w1)]))
            refine own_go (fun _ k => XS.istore X28.here hx rfl (hb hby at_153) rfl (l' := #[.val (.int p1), .val (.int p2), .val (.long q3), .second, .val (.int p4), .val (.long q5), .second, .val (.long q6), .second, .val (.int w1), .val (.int w2), .val (.int r1), .val (.int rA), .val (.int rB), .val (.long mm), .second, .val (.ref b1), .val (.long (own_tk (own_rec r1 (own_fp q3) (own_sta q5 (own_maxL (1 : Int64) (mm / (4096 : Int64))))) q5 (own_maxL (1 : Int64) (mm / (4096 : Int64))))), .second, .val (.long (1 : Int64)), .second, .val (.int w1), .unset, .unset, .unset, .unset, .unset, .unset, .unset, .unset, .unset, .unset, .unset]) rfl <| XS.iload X28.here hx rfl (hb hby at_155) rfl <| XT.iconstV X28.here hx rfl (2 : Int32) (hb hby at_157) rfl <| k) ?_
            show own_Ends p e below s _ _ _ (T28.setTop (mkF m 158 #[.val (.int p1), .val (.int p2), .val (.long q3), .second, .val (.int p4), .val (.long q5), .second, .val (.long q6), .second, .val (.int w1), .val (.int w2), .val (.int r1), .val (.int rA), .val (.int rB), .val (.long mm), .second, .val (.ref b1), .val (.long (own_tk (own_rec r1 (own_fp q3) (own_sta q5 (own_maxL (1 : Int64) (mm / (4096 : Int64))))) q5 (own_maxL (1 : Int64) (mm / (4096 : Int64))))), .second, .val (.long (1 : Int64)), .second, .val (.int w1), .unset, .unset, .unset, .unset, .unset, .unset, .unset, .unset, .unset, .unset, .unset] [(.int (2 : Int32)), (.int w1)]))
            by_cases hc158_29 : w1 < (2 : Int32)
            · -- true
              refine own_go (fun _ k => XS.icmpNo X28.here hx rfl (hb hby at_158) rfl (tlt hc158_29).2.1 <| XT.iconstV X28.here hx rfl (1 : Int32) (hb hby at_161) rfl <| k) ?_
              show own_Ends p e below s _ _ _ (T28.setTop (mkF m 162 #[.val (.int p1), .val (.int p2), .val (.long q3), .second, .val (.int p4), .val (.long q5), .second, .val (.long q6), .second, .val (.int w1), .val (.int w2), .val (.int r1), .val (.int rA), .val (.int rB), .val (.long mm), .second, .val (.ref b1), .val (.long (own_tk (own_rec r1 (own_fp q3) (own_sta q5 (own_maxL (1 : Int64) (mm / (4096 : Int64))))) q5 (own_maxL (1 : Int64) (mm / (4096 : Int64))))), .second, .val (.long (1 : Int64)), .second, .val (.int w1), .unset, .unset, .unset, .unset, .unset, .unset, .unset, .unset, .unset, .unset, .unset] [(.int (1 : Int32))]))
              exact own_retN X28 hx (t := .boolean) hrt (by simp) (hb hby at_162) hlk (show nar .boolean (1 : Int32) = (1 : Int32) from by decide) (by rw [e28]; exact ⟨rfl, N28⟩) (by decide) (by decide)
            · -- false
              refine own_go (fun _ k => XS.icmpYes X28.here hx rfl (pc0 := 158) (pc' := 163) rfl (hb hby at_158) rfl (flt hc158_29).2.1 (by decide) (by decide) <| XS.iload X28.here hx rfl (hb hby at_163) rfl <| XT.iconstV X28.here hx rfl (1 : Int32) (hb hby at_165) rfl <| XS.ishr X28.here hx rfl (hb hby at_166) rfl <| k) ?_
              show own_Ends p e below s _ _ _ (T28.setTop (mkF m 167 #[.val (.int p1), .val (.int p2), .val (.long q3), .second, .val (.int p4), .val (.long q5), .second, .val (.long q6), .second, .val (.int w1), .val (.int w2), .val (.int r1), .val (.int rA), .val (.int rB), .val (.long mm), .second, .val (.ref b1), .val (.long (own_tk (own_rec r1 (own_fp q3) (own_sta q5 (own_maxL (1 : Int64) (mm / (4096 : Int64))))) q5 (own_maxL (1 : Int64) (mm / (4096 : Int64))))), .second, .val (.long (1 : Int64)), .second, .val (.int w1), .unset, .unset, .unset, .unset, .unset, .unset, .unset, .unset, .unset, .unset, .unset] [(.int (w1 >>> ((1 : Int32) &&& 31)))]))
              refine own_go (fun _ k => XS.istore X28.here hx rfl (hb hby at_167) rfl (l' := #[.val (.int p1), .val (.int p2), .val (.long q3), .second, .val (.int p4), .val (.long q5), .second, .val (.long q6), .second, .val (.int w1), .val (.int w2), .val (.int r1), .val (.int rA), .val (.int rB), .val (.long mm), .second, .val (.ref b1), .val (.long (own_tk (own_rec r1 (own_fp q3) (own_sta q5 (own_maxL (1 : Int64) (mm / (4096 : Int64))))) q5 (own_maxL (1 : Int64) (mm / (4096 : Int64))))), .second, .val (.long (1 : Int64)), .second, .val (.int w1), .val (.int (w1 >>> ((1 : Int32) &&& 31))), .unset, .unset, .unset, .unset, .unset, .unset, .unset, .unset, .unset, .unset]) rfl <| XS.iload X28.here hx rfl (hb hby at_169) rfl <| XT.iconstV X28.here hx rfl (1 : Int32) (hb hby at_171) rfl <| XS.isub X28.here hx rfl (hb hby at_172) rfl <| k) ?_
              show own_Ends p e below s _ _ _ (T28.setTop (mkF m 173 #[.val (.int p1), .val (.int p2), .val (.long q3), .second, .val (.int p4), .val (.long q5), .second, .val (.long q6), .second, .val (.int w1), .val (.int w2), .val (.int r1), .val (.int rA), .val (.int rB), .val (.long mm), .second, .val (.ref b1), .val (.long (own_tk (own_rec r1 (own_fp q3) (own_sta q5 (own_maxL (1 : Int64) (mm / (4096 : Int64))))) q5 (own_maxL (1 : Int64) (mm / (4096 : Int64))))), .second, .val (.long (1 : Int64)), .second, .val (.int w1), .val (.int (w1 >>> ((1 : Int32) &&& 31))), .unset, .unset, .unset, .unset, .unset, .unset, .unset, .unset, .unset, .unset] [(.int (w1 - (1 : Int32)))]))
              refine own_go (fun _ k => XS.i2l X28.here hx rfl (hb hby at_173) rfl <| XS.lstore X28.here hx rfl (hb hby at_174) rfl (l' := #[.val (.int p1), .val (.int p2), .val (.long q3), .second, .val (.int p4), .val (.long q5), .second, .val (.long q6), .second, .val (.int w1), .val (.int w2), .val (.int r1), .val (.int rA), .val (.int rB), .val (.long mm), .second, .val (.ref b1), .val (.long (own_tk (own_rec r1 (own_fp q3) (own_sta q5 (own_maxL (1 : Int64) (mm / (4096 : Int64))))) q5 (own_maxL (1 : Int64) (mm / (4096 : Int64))))), .second, .val (.long (1 : Int64)), .second, .val (.int w1), .val (.int (w1 >>> ((1 : Int32) &&& 31))), .val (.long ((w1 - (1 : Int32)).toInt64)), .second, .unset, .unset, .unset, .unset, .unset, .unset, .unset, .unset]) rfl <| XS.lloadN X28.here hx rfl (hb hby at_176) rfl <| XS.lload X28.here hx rfl (hb hby at_177) rfl <| k) ?_
              show own_Ends p e below s _ _ _ (T28.setTop (mkF m 179 #[.val (.int p1), .val (.int p2), .val (.long q3), .second, .val (.int p4), .val (.long q5), .second, .val (.long q6), .second, .val (.int w1), .val (.int w2), .val (.int r1), .val (.int rA), .val (.int rB), .val (.long mm), .second, .val (.ref b1), .val (.long (own_tk (own_rec r1 (own_fp q3) (own_sta q5 (own_maxL (1 : Int64) (mm / (4096 : Int64))))) q5 (own_maxL (1 : Int64) (mm / (4096 : Int64))))), .second, .val (.long (1 : Int64)), .second, .val (.int w1), .val (.int (w1 >>> ((1 : Int32) &&& 31))), .val (.long ((w1 - (1 : Int32)).toInt64)), .second, .unset, .unset, .unset, .unset, .unset, .unset, .unset, .unset] [(.long ((w1 - (1 : Int32)).toInt64)), (.long q3)]))
              refine own_go (fun _ k => XT.bipushV X28.here hx rfl (32 : Int32) (hb hby at_179) rfl <| XS.lshl X28.here hx rfl (hb hby at_181) rfl <| XS.lor X28.here hx rfl (hb hby at_182) rfl <| XS.lload X28.here hx rfl (hb hby at_183) rfl <| k) ?_
              show own_Ends p e below s _ _ _ (T28.setTop (mkF m 185 #[.val (.int p1), .val (.int p2), .val (.long q3), .second, .val (.int p4), .val (.long q5), .second, .val (.long q6), .second, .val (.int w1), .val (.int w2), .val (.int r1), .val (.int rA), .val (.int rB), .val (.long mm), .second, .val (.ref b1), .val (.long (own_tk (own_rec r1 (own_fp q3) (own_sta q5 (own_maxL (1 : Int64) (mm / (4096 : Int64))))) q5 (own_maxL (1 : Int64) (mm / (4096 : Int64))))), .second, .val (.long (1 : Int64)), .second, .val (.int w1), .val (.int (w1 >>> ((1 : Int32) &&& 31))), .val (.long ((w1 - (1 : Int32)).toInt64)), .second, .unset, .unset, .unset, .unset, .unset, .unset, .unset, .unset] [(.long ((w1 - (1 : Int32)).toInt64)), (.long (q3 ||| (((w1 - (1 : Int32)).toInt64) <<< ((32 : Int32) &&& 0x3f).toInt64)))]))
              refine own_go (fun _ k => XS.lor X28.here hx rfl (hb hby at_185) rfl <| k) ?_
              show own_Ends p e below s _ _ _ (T28.setTop (mkF m 186 #[.val (.int p1), .val (.int p2), .val (.long q3), .second, .val (.int p4), .val (.long q5), .second, .val (.long q6), .second, .val (.int w1), .val (.int w2), .val (.int r1), .val (.int rA), .val (.int rB), .val (.long mm), .second, .val (.ref b1), .val (.long (own_tk (own_rec r1 (own_fp q3) (own_sta q5 (own_maxL (1 : Int64) (mm / (4096 : Int64))))) q5 (own_maxL (1 : Int64) (mm / (4096 : Int64))))), .second, .val (.long (1 : Int64)), .second, .val (.int w1), .val (.int (w1 >>> ((1 : Int32) &&& 31))), .val (.long ((w1 - (1 : Int32)).toInt64)), .second, .unset, .unset, .unset, .unset, .unset, .unset, .unset, .unset] [(.long ((q3 ||| (((w1 - (1 : Int32)).toInt64) <<< ((32 : Int32) &&& 0x3f).toInt64)) ||| ((w1 - (1 : Int32)).toInt64)))]))
              have hiB := own_iB q3 ((w1 - (1 : Int32)).toInt64 <<< ((32 : Int32) &&& 0x3f).toInt64) hPw1 hc158_29
              generalize ((q3 ||| (((w1 - (1 : Int32)).toInt64) <<< ((32 : Int32) &&& 0x3f).toInt64)) ||| ((w1 - (1 : Int32)).toInt64)) = kA at hiB ⊢
              show own_Ends p e below s _ _ _ (T28.setTop (mkF m 186 #[.val (.int p1), .val (.int p2), .val (.long q3), .second, .val (.int p4), .val (.long q5), .second, .val (.long q6), .second, .val (.int w1), .val (.int w2), .val (.int r1), .val (.int rA), .val (.int rB), .val (.long mm), .second, .val (.ref b1), .val (.long (own_tk (own_rec r1 (own_fp q3) (own_sta q5 (own_maxL (1 : Int64) (mm / (4096 : Int64))))) q5 (own_maxL (1 : Int64) (mm / (4096 : Int64))))), .second, .val (.long (1 : Int64)), .second, .val (.int w1), .val (.int (w1 >>> ((1 : Int32) &&& 31))), .val (.long ((w1 - (1 : Int32)).toInt64)), .second, .unset, .unset, .unset, .unset, .unset, .unset, .unset, .unset] [(.long kA)]))
              refine own_go (fun _ k => XS.lstore X28.here hx rfl (hb hby at_186) rfl (l' := #[.val (.int p1), .val (.int p2), .val (.long q3), .second, .val (.int p4), .val (.long q5), .second, .val (.long q6), .second, .val (.int w1), .val (.int w2), .val (.int r1), .val (.int rA), .val (.int rB), .val (.long mm), .second, .val (.ref b1), .val (.long (own_tk (own_rec r1 (own_fp q3) (own_sta q5 (own_maxL (1 : Int64) (mm / (4096 : Int64))))) q5 (own_maxL (1 : Int64) (mm / (4096 : Int64))))), .second, .val (.long (1 : Int64)), .second, .val (.int w1), .val (.int (w1 >>> ((1 : Int32) &&& 31))), .val (.long ((w1 - (1 : Int32)).toInt64)), .second, .val (.long kA), .second, .unset, .unset, .unset, .unset, .unset, .unset]) rfl <| XS.lload X28.here hx rfl (hb hby at_188) rfl <| XS.iload X28.here hx rfl (hb hby at_190) rfl <| XS.i2l X28.here hx rfl (hb hby at_192) rfl <| k) ?_
              show own_Ends p e below s _ _ _ (T28.setTop (mkF m 193 #[.val (.int p1), .val (.int p2), .val (.long q3), .second, .val (.int p4), .val (.long q5), .second, .val (.long q6), .second, .val (.int w1), .val (.int w2), .val (.int r1), .val (.int rA), .val (.int rB), .val (.long mm), .second, .val (.ref b1), .val (.long (own_tk (own_rec r1 (own_fp q3) (own_sta q5 (own_maxL (1 : Int64) (mm / (4096 : Int64))))) q5 (own_maxL (1 : Int64) (mm / (4096 : Int64))))), .second, .val (.long (1 : Int64)), .second, .val (.int w1), .val (.int (w1 >>> ((1 : Int32) &&& 31))), .val (.long ((w1 - (1 : Int32)).toInt64)), .second, .val (.long kA), .second, .unset, .unset, .unset, .unset, .unset, .unset] [(.long ((w1 >>> ((1 : Int32) &&& 31)).toInt64)), (.long kA)]))
              refine own_go (fun _ k => XT.bipushV X28.here hx rfl (32 : Int32) (hb hby at_193) rfl <| XS.lshl X28.here hx rfl (hb hby at_195) rfl <| XS.iload X28.here hx rfl (hb hby at_196) rfl <| XS.i2l X28.here hx rfl (hb hby at_198) rfl <| k) ?_
              show own_Ends p e below s _ _ _ (T28.setTop (mkF m 199 #[.val (.int p1), .val (.int p2), .val (.long q3), .second, .val (.int p4), .val (.long q5), .second, .val (.long q6), .second, .val (.int w1), .val (.int w2), .val (.int r1), .val (.int rA), .val (.int rB), .val (.long mm), .second, .val (.ref b1), .val (.long (own_tk (own_rec r1 (own_fp q3) (own_sta q5 (own_maxL (1 : Int64) (mm / (4096 : Int64))))) q5 (own_maxL (1 : Int64) (mm / (4096 : Int64))))), .second, .val (.long (1 : Int64)), .second, .val (.int w1), .val (.int (w1 >>> ((1 : Int32) &&& 31))), .val (.long ((w1 - (1 : Int32)).toInt64)), .second, .val (.long kA), .second, .unset, .unset, .unset, .unset, .unset, .unset] [(.long ((w1 >>> ((1 : Int32) &&& 31)).toInt64)), (.long (((w1 >>> ((1 : Int32) &&& 31)).toInt64) <<< ((32 : Int32) &&& 0x3f).toInt64)), (.long kA)]))
              refine own_go (fun _ k => XS.lor X28.here hx rfl (hb hby at_199) rfl <| XS.lxor X28.here hx rfl (hb hby at_200) rfl <| k) ?_
              show own_Ends p e below s _ _ _ (T28.setTop (mkF m 201 #[.val (.int p1), .val (.int p2), .val (.long q3), .second, .val (.int p4), .val (.long q5), .second, .val (.long q6), .second, .val (.int w1), .val (.int w2), .val (.int r1), .val (.int rA), .val (.int rB), .val (.long mm), .second, .val (.ref b1), .val (.long (own_tk (own_rec r1 (own_fp q3) (own_sta q5 (own_maxL (1 : Int64) (mm / (4096 : Int64))))) q5 (own_maxL (1 : Int64) (mm / (4096 : Int64))))), .second, .val (.long (1 : Int64)), .second, .val (.int w1), .val (.int (w1 >>> ((1 : Int32) &&& 31))), .val (.long ((w1 - (1 : Int32)).toInt64)), .second, .val (.long kA), .second, .unset, .unset, .unset, .unset, .unset, .unset] [(.long (kA ^^^ ((((w1 >>> ((1 : Int32) &&& 31)).toInt64) <<< ((32 : Int32) &&& 0x3f).toInt64) ||| ((w1 >>> ((1 : Int32) &&& 31)).toInt64))))]))
              generalize (kA ^^^ ((((w1 >>> ((1 : Int32) &&& 31)).toInt64) <<< ((32 : Int32) &&& 0x3f).toInt64) ||| ((w1 >>> ((1 : Int32) &&& 31)).toInt64))) = kB at hiB ⊢
              show own_Ends p e below s _ _ _ (T28.setTop (mkF m 201 #[.val (.int p1), .val (.int p2), .val (.long q3), .second, .val (.int p4), .val (.long q5), .second, .val (.long q6), .second, .val (.int w1), .val (.int w2), .val (.int r1), .val (.int rA), .val (.int rB), .val (.long mm), .second, .val (.ref b1), .val (.long (own_tk (own_rec r1 (own_fp q3) (own_sta q5 (own_maxL (1 : Int64) (mm / (4096 : Int64))))) q5 (own_maxL (1 : Int64) (mm / (4096 : Int64))))), .second, .val (.long (1 : Int64)), .second, .val (.int w1), .val (.int (w1 >>> ((1 : Int32) &&& 31))), .val (.long ((w1 - (1 : Int32)).toInt64)), .second, .val (.long kA), .second, .unset, .unset, .unset, .unset, .unset, .unset] [(.long kB)]))
              refine own_go (fun _ k => XS.lstore X28.here hx rfl (hb hby at_201) rfl (l' := #[.val (.int p1), .val (.int p2), .val (.long q3), .second, .val (.int p4), .val (.long q5), .second, .val (.long q6), .second, .val (.int w1), .val (.int w2), .val (.int r1), .val (.int rA), .val (.int rB), .val (.long mm), .second, .val (.ref b1), .val (.long (own_tk (own_rec r1 (own_fp q3) (own_sta q5 (own_maxL (1 : Int64) (mm / (4096 : Int64))))) q5 (own_maxL (1 : Int64) (mm / (4096 : Int64))))), .second, .val (.long (1 : Int64)), .second, .val (.int w1), .val (.int (w1 >>> ((1 : Int32) &&& 31))), .val (.long ((w1 - (1 : Int32)).toInt64)), .second, .val (.long kA), .second, .val (.long kB), .second, .unset, .unset, .unset, .unset]) rfl <| XS.aload X28.here hx rfl (hb hby at_203) rfl rfl <| XS.lload X28.here hx rfl (hb hby at_205) rfl <| XS.iload X28.here hx rfl (hb hby at_207) rfl <| k) ?_
              show own_Ends p e below s _ _ _ (T28.setTop (mkF m 209 #[.val (.int p1), .val (.int p2), .val (.long q3), .second, .val (.int p4), .val (.long q5), .second, .val (.long q6), .second, .val (.int w1), .val (.int w2), .val (.int r1), .val (.int rA), .val (.int rB), .val (.long mm), .second, .val (.ref b1), .val (.long (own_tk (own_rec r1 (own_fp q3) (own_sta q5 (own_maxL (1 : Int64) (mm / (4096 : Int64))))) q5 (own_maxL (1 : Int64) (mm / (4096 : Int64))))), .second, .val (.long (1 : Int64)), .second, .val (.int w1), .val (.int (w1 >>> ((1 : Int32) &&& 31))), .val (.long ((w1 - (1 : Int32)).toInt64)), .second, .val (.long kA), .second, .val (.long kB), .second, .unset, .unset, .unset, .unset] [(.int rA), (.long kA), (.ref b1)]))
              refine own_go (fun _ k => XS.lload X28.here hx rfl (hb hby at_209) rfl <| k) ?_
              show own_Ends p e below s _ _ _ (T28.setTop (mkF m 211 #[.val (.int p1), .val (.int p2), .val (.long q3), .second, .val (.int p4), .val (.long q5), .second, .val (.long q6), .second, .val (.int w1), .val (.int w2), .val (.int r1), .val (.int rA), .val (.int rB), .val (.long mm), .second, .val (.ref b1), .val (.long (own_tk (own_rec r1 (own_fp q3) (own_sta q5 (own_maxL (1 : Int64) (mm / (4096 : Int64))))) q5 (own_maxL (1 : Int64) (mm / (4096 : Int64))))), .second, .val (.long (1 : Int64)), .second, .val (.int w1), .val (.int (w1 >>> ((1 : Int32) &&& 31))), .val (.long ((w1 - (1 : Int32)).toInt64)), .second, .val (.long kA), .second, .val (.long kB), .second, .unset, .unset, .unset, .unset] [(.long q5), (.int rA), (.long kA), (.ref b1)]))
              obtain ⟨cq30, kq30, q30a, q30b, q30c⟩ := isOf hZ e28 A1'17
              obtain ⟨_, _, ⟨T30, L30, k30, n30⟩, -, X30, ⟨Lc30, hQ30, l30, y30, z30⟩, st30⟩ := X28.virtualBack hx (y := (⟨"com/example/unutkan/unutkan/core/RecentEvictions", "record", "(JZJ)V"⟩ : MethodName)) (z := (⟨"com/example/unutkan/unutkan/core/RecentEvictions", "record", "(JZJ)V"⟩ : MethodName)) hown (mvT hZ (hw _ (List.mem_of_getElem? (i := 29) rfl))) (mvT hZ (hw _ (List.mem_of_getElem? (i := 30) rfl))) (notFace_of_selects (args := #[]) (mvT hZ (hw _ (List.mem_of_getElem? (i := 32) rfl)))) (mvT hZ (hw _ (List.mem_of_getElem? (i := 32) rfl))) (mvT hZ (hw _ (List.mem_of_getElem? (i := 31) rfl))) (by decide) (backOf (W := 0) (rm5 l Z a0 hw [] b1 kA rA q5 b3 kb3 w1 (((own_i1 q3 w1), (.int (0 : Int32))) :: (((own_i1 q3 w1), (.int (own_rec r1 (own_fp q3) (own_sta q5 (own_maxL (1 : Int64) (mm / (4096 : Int64))))))) :: [])) (own_maxL (1 : Int64) (mm / (4096 : Int64))) T17.heap n0 Z17 A1'17 Fu3'17 Fl3'17 H17 g3 ne_b1_b3 (own_max_ne _) (own_P_pos hPw1) (own_h2 (own_i1_in kA (own_P_pos hPw1)).1)) hZ (hw _ (List.mem_of_getElem? (i := 33) rfl)) (hw _ (List.mem_of_getElem? (i := 3) rfl)) (by decide) (by decide)) q30a q30c (g := (mkF m 211 #[.val (.int p1), .val (.int p2), .val (.long q3), .second, .val (.int p4), .val (.long q5), .second, .val (.long q6), .second, .val (.int w1), .val (.int w2), .val (.int r1), .val (.int rA), .val (.int rB), .val (.long mm), .second, .val (.ref b1), .val (.long (own_tk (own_rec r1 (own_fp q3) (own_sta q5 (own_maxL (1 : Int64) (mm / (4096 : Int64))))) q5 (own_maxL (1 : Int64) (mm / (4096 : Int64))))), .second, .val (.long (1 : Int64)), .second, .val (.int w1), .val (.int (w1 >>> ((1 : Int32) &&& 31))), .val (.long ((w1 - (1 : Int32)).toInt64)), .second, .val (.long kA), .second, .val (.long kB), .second, .unset, .unset, .unset, .unset] [(.long q5), (.int rA), (.long kA), (.ref b1)])) rfl (by rw [hml]; rfl) (Steps.refl _) (argsL := [(.long kA), (.int rA), (.long q5)]) (rest := []) (lenOf pd_4 rfl) rfl (by show 2 * 0 + _ ≤ _; exact Nat.le_of_eq rfl) (hb hby at_211) (fun _ _ => ⟨rfl, e28, Nat.le_of_ble_eq_true rfl, Nat.le_of_ble_eq_true rfl⟩)
              dsimp only [Pt.U, Pt.locs, Pt.cells, Pt.slots] at X30 l30 y30 z30 st30 hQ30
              subst l30 y30 z30
              obtain ⟨rfl, N30q, K30, H30⟩ := hQ30
              have N30 := Fr.app N28 N30q
              refine own_go (fun _ k => st30.trans k) ?_
              have H2'30 := H2'17.keep K30 (ninS ne_b2_b3 nin0)
              have A1'30 := A1'17.keep K30
              have Fu3'30 := Fu3'17.keep K30 (ninS ne_b1_b3 nin0)
              have Fh3'30 := Fh3'17.keep K30 (ninS ne_b1_b3 nin0)
              have Fs3'30 := Fs3'17.keep K30 (ninS ne_b1_b3 nin0)
              have Fl3'30 := Fl3'17.keep K30 (ninS ne_b1_b3 nin0)
              have Z30 := Nat.le_trans Z17 K30.1
              show own_Ends p e below s _ _ _ (T30.setTop (mkF m 214 #[.val (.int p1), .val (.int p2), .val (.long q3), .second, .val (.int p4), .val (.long q5), .second, .val (.long q6), .second, .val (.int w1), .val (.int w2), .val (.int r1), .val (.int rA), .val (.int rB), .val (.long mm), .second, .val (.ref b1), .val (.long (own_tk (own_rec r1 (own_fp q3) (own_sta q5 (own_maxL (1 : Int64) (mm / (4096 : Int64))))) q5 (own_maxL (1 : Int64) (mm / (4096 : Int64))))), .second, .val (.long (1 : Int64)), .second, .val (.int w1), .val (.int (w1 >>> ((1 : Int32) &&& 31))), .val (.long ((w1 - (1 : Int32)).toInt64)), .second, .val (.long kA), .second, .val (.long kB), .second, .unset, .unset, .unset, .unset] []))
              refine own_go (fun _ k => XS.aload X30.here hx rfl (hb hby at_214) rfl rfl <| XS.lload X30.here hx rfl (hb hby at_216) rfl <| XS.iload X30.here hx rfl (hb hby at_218) rfl <| XS.lload X30.here hx rfl (hb hby at_220) rfl <| k) ?_
              show own_Ends p e below s _ _ _ (T30.setTop (mkF m 222 #[.val (.int p1), .val (.int p2), .val (.long q3), .second, .val (.int p4), .val (.long q5), .second, .val (.long q6), .second, .val (.int w1), .val (.int w2), .val (.int r1), .val (.int rA), .val (.int rB), .val (.long mm), .second, .val (.ref b1), .val (.long (own_tk (own_rec r1 (own_fp q3) (own_sta q5 (own_maxL (1 : Int64) (mm / (4096 : Int64))))) q5 (own_maxL (1 : Int64) (mm / (4096 : Int64))))), .second, .val (.long (1 : Int64)), .second, .val (.int w1), .val (.int (w1 >>> ((1 : Int32) &&& 31))), .val (.long ((w1 - (1 : Int32)).toInt64)), .second, .val (.long kA), .second, .val (.long kB), .second, .unset, .unset, .unset, .unset] [(.long q5), (.int rB), (.long kB), (.ref b1)]))
              obtain ⟨cq31, kq31, q31a, q31b, q31c⟩ := isOf hZ rfl A1'30
              obtain ⟨_, _, ⟨T31, L31, k31, n31⟩, -, X31, ⟨Lc31, hQ31, l31, y31, z31⟩, st31⟩ := X30.virtualBack hx (y := (⟨"com/example/unutkan/unutkan/core/RecentEvictions", "record", "(JZJ)V"⟩ : MethodName)) (z := (⟨"com/example/unutkan/unutkan/core/RecentEvictions", "record", "(JZJ)V"⟩ : MethodName)) hown (mvT hZ (hw _ (List.mem_of_getElem? (i := 29) rfl))) (mvT hZ (hw _ (List.mem_of_getElem? (i := 30) rfl))) (notFace_of_selects (args := #[]) (mvT hZ (hw _ (List.mem_of_getElem? (i := 32) rfl)))) (mvT hZ (hw _ (List.mem_of_getElem? (i := 32) rfl))) (mvT hZ (hw _ (List.mem_of_getElem? (i := 31) rfl))) (by decide) (backOf (W := 0) (rm5 l Z a0 hw [] b1 kB rB q5 b3 kb3 w1 (((own_i1 kA w1), (.int (own_rec rA (own_fp kA) (own_sta q5 (own_maxL (1 : Int64) (mm / (4096 : Int64))))))) :: (((own_i1 q3 w1), (.int (0 : Int32))) :: (((own_i1 q3 w1), (.int (own_rec r1 (own_fp q3) (own_sta q5 (own_maxL (1 : Int64) (mm / (4096 : Int64))))))) :: []))) (own_maxL (1 : Int64) (mm / (4096 : Int64))) T30.heap n0 Z30 A1'30 Fu3'30 Fl3'30 H30 g3 ne_b1_b3 (own_max_ne _) (own_P_pos hPw1) (getH_miss (own_i1_in kB (own_P_pos hPw1)).1 hiB (own_h2 (own_i1_in kB (own_P_pos hPw1)).1))) hZ (hw _ (List.mem_of_getElem? (i := 33) rfl)) (hw _ (List.mem_of_getElem? (i := 3) rfl)) (by decide) (by decide)) q31a q31c (g := (mkF m 222 #[.val (.int p1), .val (.int p2), .val (.long q3), .second, .val (.int p4), .val (.long q5), .second, .val (.long q6), .second, .val (.int w1), .val (.int w2), .val (.int r1), .val (.int rA), .val (.int rB), .val (.long mm), .second, .val (.ref b1), .val (.long (own_tk (own_rec r1 (own_fp q3) (own_sta q5 (own_maxL (1 : Int64) (mm / (4096 : Int64))))) q5 (own_maxL (1 : Int64) (mm / (4096 : Int64))))), .second, .val (.long (1 : Int64)), .second, .val (.int w1), .val (.int (w1 >>> ((1 : Int32) &&& 31))), .val (.long ((w1 - (1 : Int32)).toInt64)), .second, .val (.long kA), .second, .val (.long kB), .second, .unset, .unset, .unset, .unset] [(.long q5), (.int rB), (.long kB), (.ref b1)])) rfl (by rw [hml]; rfl) (Steps.refl _) (argsL := [(.long kB), (.int rB), (.long q5)]) (rest := []) (lenOf pd_4 rfl) rfl (by show 2 * 0 + _ ≤ _; exact Nat.le_of_eq rfl) (hb hby at_222) (fun _ _ => ⟨rfl, rfl, Nat.le_of_ble_eq_true rfl, Nat.le_of_ble_eq_true rfl⟩)
              dsimp only [Pt.U, Pt.locs, Pt.cells, Pt.slots] at X31 l31 y31 z31 st31 hQ31
              subst l31 y31 z31
              obtain ⟨rfl, N31q, K31, H31⟩ := hQ31
              have N31 := Fr.app N30 N31q
              refine own_go (fun _ k => st31.trans k) ?_
              have H2'31 := H2'30.keep K31 (ninS ne_b2_b3 nin0)
              have A1'31 := A1'30.keep K31
              have Fu3'31 := Fu3'30.keep K31 (ninS ne_b1_b3 nin0)
              have Fh3'31 := Fh3'30.keep K31 (ninS ne_b1_b3 nin0)
              have Fs3'31 := Fs3'30.keep K31 (ninS ne_b1_b3 nin0)
              have Fl3'31 := Fl3'30.keep K31 (ninS ne_b1_b3 nin0)
              have Z31 := Nat.le_trans Z30 K31.1
              show own_Ends p e below s _ _ _ (T31.setTop (mkF m 225 #[.val (.int p1), .val (.int p2), .val (.long q3), .second, .val (.int p4), .val (.long q5), .second, .val (.long q6), .second, .val (.int w1), .val (.int w2), .val (.int r1), .val (.int rA), .val (.int rB), .val (.long mm), .second, .val (.ref b1), .val (.long (own_tk (own_rec r1 (own_fp q3) (own_sta q5 (own_maxL (1 : Int64) (mm / (4096 : Int64))))) q5 (own_maxL (1 : Int64) (mm / (4096 : Int64))))), .second, .val (.long (1 : Int64)), .second, .val (.int w1), .val (.int (w1 >>> ((1 : Int32) &&& 31))), .val (.long ((w1 - (1 : Int32)).toInt64)), .second, .val (.long kA), .second, .val (.long kB), .second, .unset, .unset, .unset, .unset] []))
              refine own_go (fun _ k => XS.aload X31.here hx rfl (hb hby at_225) rfl rfl <| XS.lload X31.here hx rfl (hb hby at_227) rfl <| XS.lload X31.here hx rfl (hb hby at_229) rfl <| k) ?_
              show own_Ends p e below s _ _ _ (T31.setTop (mkF m 231 #[.val (.int p1), .val (.int p2), .val (.long q3), .second, .val (.int p4), .val (.long q5), .second, .val (.long q6), .second, .val (.int w1), .val (.int w2), .val (.int r1), .val (.int rA), .val (.int rB), .val (.long mm), .second, .val (.ref b1), .val (.long (own_tk (own_rec r1 (own_fp q3) (own_sta q5 (own_maxL (1 : Int64) (mm / (4096 : Int64))))) q5 (own_maxL (1 : Int64) (mm / (4096 : Int64))))), .second, .val (.long (1 : Int64)), .second, .val (.int w1), .val (.int (w1 >>> ((1 : Int32) &&& 31))), .val (.long ((w1 - (1 : Int32)).toInt64)), .second, .val (.long kA), .second, .val (.long kB), .second, .unset, .unset, .unset, .unset] [(.long q5), (.long kA), (.ref b1)]))
              obtain ⟨cq32, kq32, q32a, q32b, q32c⟩ := isOf hZ rfl A1'31
              obtain ⟨_, _, ⟨T32, L32, k32, n32⟩, -, X32, ⟨Lc32, hQ32, l32, y32, z32⟩, st32⟩ := X31.virtualBack hx (y := (⟨"com/example/unutkan/unutkan/core/RecentEvictions", "take", "(JJ)J"⟩ : MethodName)) (z := (⟨"com/example/unutkan/unutkan/core/RecentEvictions", "take", "(JJ)J"⟩ : MethodName)) hown (mvT hZ (hw _ (List.mem_of_getElem? (i := 51) rfl))) (mvT hZ (hw _ (List.mem_of_getElem? (i := 52) rfl))) (notFace_of_selects (args := #[]) (mvT hZ (hw _ (List.mem_of_getElem? (i := 54) rfl)))) (mvT hZ (hw _ (List.mem_of_getElem? (i := 54) rfl))) (mvT hZ (hw _ (List.mem_of_getElem? (i := 53) rfl))) (by decide) (backOf (W := 0) (rmHit l Z a0 hw [] b1 kA q5 b3 kb3 w1 (((own_i1 kB w1), (.int (own_rec rB (own_fp kB) (own_sta q5 (own_maxL (1 : Int64) (mm / (4096 : Int64))))))) :: (((own_i1 kA w1), (.int (own_rec rA (own_fp kA) (own_sta q5 (own_maxL (1 : Int64) (mm / (4096 : Int64))))))) :: (((own_i1 q3 w1), (.int (0 : Int32))) :: (((own_i1 q3 w1), (.int (own_rec r1 (own_fp q3) (own_sta q5 (own_maxL (1 : Int64) (mm / (4096 : Int64))))))) :: [])))) (own_maxL (1 : Int64) (mm / (4096 : Int64))) (own_maxL (1 : Int64) mm) (own_rec rA (own_fp kA) (own_sta q5 (own_maxL (1 : Int64) (mm / (4096 : Int64))))) T31.heap n0 Z31 A1'31 Fu3'31 Fl3'31 H31 g3 ne_b1_b3 (own_max_ne _) (own_P_pos hPw1) Fh3'31 (getH_miss (own_i1_in kA (own_P_pos hPw1)).1 (fun q => hiB q.symm) (getH_hit (own_i1_in kA (own_P_pos hPw1)).1 rfl)) (own_rec_ne _ _ _ _) (own_rec_fo _ _ _ _) (own_max_age _ _ _ _ _)) hZ (hw _ (List.mem_of_getElem? (i := 55) rfl)) (hw _ (List.mem_of_getElem? (i := 3) rfl)) (by decide) (by decide)) q32a q32c (g := (mkF m 231 #[.val (.int p1), .val (.int p2), .val (.long q3), .second, .val (.int p4), .val (.long q5), .second, .val (.long q6), .second, .val (.int w1), .val (.int w2), .val (.int r1), .val (.int rA), .val (.int rB), .val (.long mm), .second, .val (.ref b1), .val (.long (own_tk (own_rec r1 (own_fp q3) (own_sta q5 (own_maxL (1 : Int64) (mm / (4096 : Int64))))) q5 (own_maxL (1 : Int64) (mm / (4096 : Int64))))), .second, .val (.long (1 : Int64)), .second, .val (.int w1), .val (.int (w1 >>> ((1 : Int32) &&& 31))), .val (.long ((w1 - (1 : Int32)).toInt64)), .second, .val (.long kA), .second, .val (.long kB), .second, .unset, .unset, .unset, .unset] [(.long q5), (.long kA), (.ref b1)])) rfl (by rw [hml]; rfl) (Steps.refl _) (argsL := [(.long kA), (.long q5)]) (rest := []) (lenOf pd_2 rfl) rfl (by show 2 * 0 + _ ≤ _; exact Nat.le_of_eq rfl) (hb hby at_231) (fun _ _ => ⟨rfl, rfl, Nat.le_of_ble_eq_true rfl, Nat.le_of_ble_eq_true rfl⟩)
              dsimp only [Pt.U, Pt.locs, Pt.cells, Pt.slots] at X32 l32 y32 z32 st32 hQ32
              subst l32 y32 z32
              obtain ⟨rfl, N32q, K32, H32⟩ := hQ32
              have N32 := Fr.app N31 N32q
              refine own_go (fun _ k => st32.trans k) ?_
              have H2'32 := H2'31.keep K32 (ninS ne_b2_b3 nin0)
              have A1'32 := A1'31.keep K32
              have Fu3'32 := Fu3'31.keep K32 (ninS ne_b1_b3 nin0)
              have Fh3'32 := Fh3'31.keep K32 (ninS ne_b1_b3 nin0)
              have Fs3'32 := Fs3'31.keep K32 (ninS ne_b1_b3 nin0)
              have Fl3'32 := Fl3'31.keep K32 (ninS ne_b1_b3 nin0)
              have Z32 := Nat.le_trans Z31 K32.1
              show own_Ends p e below s _ _ _ (T32.setTop (mkF m 234 #[.val (.int p1), .val (.int p2), .val (.long q3), .second, .val (.int p4), .val (.long q5), .second, .val (.long q6), .second, .val (.int w1), .val (.int w2), .val (.int r1), .val (.int rA), .val (.int rB), .val (.long mm), .second, .val (.ref b1), .val (.long (own_tk (own_rec r1 (own_fp q3) (own_sta q5 (own_maxL (1 : Int64) (mm / (4096 : Int64))))) q5 (own_maxL (1 : Int64) (mm / (4096 : Int64))))), .second, .val (.long (1 : Int64)), .second, .val (.int w1), .val (.int (w1 >>> ((1 : Int32) &&& 31))), .val (.long ((w1 - (1 : Int32)).toInt64)), .second, .val (.long kA), .second, .val (.long kB), .second, .unset, .unset, .unset, .unset] [(.long (own_tk (own_rec rA (own_fp kA) (own_sta q5 (own_maxL (1 : Int64) (mm / (4096 : Int64))))) q5 (own_maxL (1 : Int64) (mm / (4096 : Int64)))))]))
              refine own_go (fun _ k => XS.lstore X32.here hx rfl (hb hby at_234) rfl (l' := #[.val (.int p1), .val (.int p2), .val (.long q3), .second, .val (.int p4), .val (.long q5), .second, .val (.long q6), .second, .val (.int w1), .val (.int w2), .val (.int r1), .val (.int rA), .val (.int rB), .val (.long mm), .second, .val (.ref b1), .val (.long (own_tk (own_rec r1 (own_fp q3) (own_sta q5 (own_maxL (1 : Int64) (mm / (4096 : Int64))))) q5 (own_maxL (1 : Int64) (mm / (4096 : Int64))))), .second, .val (.long (1 : Int64)), .second, .val (.int w1), .val (.int (w1 >>> ((1 : Int32) &&& 31))), .val (.long ((w1 - (1 : Int32)).toInt64)), .second, .val (.long kA), .second, .val (.long kB), .second, .val (.long (own_tk (own_rec rA (own_fp kA) (own_sta q5 (own_maxL (1 : Int64) (mm / (4096 : Int64))))) q5 (own_maxL (1 : Int64) (mm / (4096 : Int64))))), .second, .unset, .unset]) rfl <| XS.aload X32.here hx rfl (hb hby at_236) rfl rfl <| XS.lload X32.here hx rfl (hb hby at_238) rfl <| XS.lload X32.here hx rfl (hb hby at_240) rfl <| k) ?_
              show own_Ends p e below s _ _ _ (T32.setTop (mkF m 242 #[.val (.int p1), .val (.int p2), .val (.long q3), .second, .val (.int p4), .val (.long q5), .second, .val (.long q6), .second, .val (.int w1), .val (.int w2), .val (.int r1), .val (.int rA), .val (.int rB), .val (.long mm), .second, .val (.ref b1), .val (.long (own_tk (own_rec r1 (own_fp q3) (own_sta q5 (own_maxL (1 : Int64) (mm / (4096 : Int64))))) q5 (own_maxL (1 : Int64) (mm / (4096 : Int64))))), .second, .val (.long (1 : Int64)), .second, .val (.int w1), .val (.int (w1 >>> ((1 : Int32) &&& 31))), .val (.long ((w1 - (1 : Int32)).toInt64)), .second, .val (.long kA), .second, .val (.long kB), .second, .val (.long (own_tk (own_rec rA (own_fp kA) (own_sta q5 (own_maxL (1 : Int64) (mm / (4096 : Int64))))) q5 (own_maxL (1 : Int64) (mm / (4096 : Int64))))), .second, .unset, .unset] [(.long q5), (.long kB), (.ref b1)]))
              obtain ⟨cq33, kq33, q33a, q33b, q33c⟩ := isOf hZ rfl A1'32
              obtain ⟨_, _, ⟨T33, L33, k33, n33⟩, -, X33, ⟨Lc33, hQ33, l33, y33, z33⟩, st33⟩ := X32.virtualBack hx (y := (⟨"com/example/unutkan/unutkan/core/RecentEvictions", "take", "(JJ)J"⟩ : MethodName)) (z := (⟨"com/example/unutkan/unutkan/core/RecentEvictions", "take", "(JJ)J"⟩ : MethodName)) hown (mvT hZ (hw _ (List.mem_of_getElem? (i := 51) rfl))) (mvT hZ (hw _ (List.mem_of_getElem? (i := 52) rfl))) (notFace_of_selects (args := #[]) (mvT hZ (hw _ (List.mem_of_getElem? (i := 54) rfl)))) (mvT hZ (hw _ (List.mem_of_getElem? (i := 54) rfl))) (mvT hZ (hw _ (List.mem_of_getElem? (i := 53) rfl))) (by decide) (backOf (W := 0) (rmHit l Z a0 hw [] b1 kB q5 b3 kb3 w1 (((own_i1 kA w1), (.int (0 : Int32))) :: (((own_i1 kB w1), (.int (own_rec rB (own_fp kB) (own_sta q5 (own_maxL (1 : Int64) (mm / (4096 : Int64))))))) :: (((own_i1 kA w1), (.int (own_rec rA (own_fp kA) (own_sta q5 (own_maxL (1 : Int64) (mm / (4096 : Int64))))))) :: (((own_i1 q3 w1), (.int (0 : Int32))) :: (((own_i1 q3 w1), (.int (own_rec r1 (own_fp q3) (own_sta q5 (own_maxL (1 : Int64) (mm / (4096 : Int64))))))) :: []))))) (own_maxL (1 : Int64) (mm / (4096 : Int64))) (own_maxL (1 : Int64) mm) (own_rec rB (own_fp kB) (own_sta q5 (own_maxL (1 : Int64) (mm / (4096 : Int64))))) T32.heap n0 Z32 A1'32 Fu3'32 Fl3'32 H32 g3 ne_b1_b3 (own_max_ne _) (own_P_pos hPw1) Fh3'32 (getH_miss (own_i1_in kB (own_P_pos hPw1)).1 hiB (getH_hit (own_i1_in kB (own_P_pos hPw1)).1 rfl)) (own_rec_ne _ _ _ _) (own_rec_fo _ _ _ _) (own_max_age _ _ _ _ _)) hZ (hw _ (List.mem_of_getElem? (i := 55) rfl)) (hw _ (List.mem_of_getElem? (i := 3) rfl)) (by decide) (by decide)) q33a q33c (g := (mkF m 242 #[.val (.int p1), .val (.int p2), .val (.long q3), .second, .val (.int p4), .val (.long q5), .second, .val (.long q6), .second, .val (.int w1), .val (.int w2), .val (.int r1), .val (.int rA), .val (.int rB), .val (.long mm), .second, .val (.ref b1), .val (.long (own_tk (own_rec r1 (own_fp q3) (own_sta q5 (own_maxL (1 : Int64) (mm / (4096 : Int64))))) q5 (own_maxL (1 : Int64) (mm / (4096 : Int64))))), .second, .val (.long (1 : Int64)), .second, .val (.int w1), .val (.int (w1 >>> ((1 : Int32) &&& 31))), .val (.long ((w1 - (1 : Int32)).toInt64)), .second, .val (.long kA), .second, .val (.long kB), .second, .val (.long (own_tk (own_rec rA (own_fp kA) (own_sta q5 (own_maxL (1 : Int64) (mm / (4096 : Int64))))) q5 (own_maxL (1 : Int64) (mm / (4096 : Int64))))), .second, .unset, .unset] [(.long q5), (.long kB), (.ref b1)])) rfl (by rw [hml]; rfl) (Steps.refl _) (argsL := [(.long kB), (.long q5)]) (rest := []) (lenOf pd_2 rfl) rfl (by show 2 * 0 + _ ≤ _; exact Nat.le_of_eq rfl) (hb hby at_242) (fun _ _ => ⟨rfl, rfl, Nat.le_of_ble_eq_true rfl, Nat.le_of_ble_eq_true rfl⟩)
              dsimp only [Pt.U, Pt.locs, Pt.cells, Pt.slots] at X33 l33 y33 z33 st33 hQ33
              subst l33 y33 z33
              obtain ⟨rfl, N33q, K33, H33⟩ := hQ33
              have N33 := Fr.app N32 N33q
              refine own_go (fun _ k => st33.trans k) ?_
              have H2'33 := H2'32.keep K33 (ninS ne_b2_b3 nin0)
              have A1'33 := A1'32.keep K33
              have Fu3'33 := Fu3'32.keep K33 (ninS ne_b1_b3 nin0)
              have Fh3'33 := Fh3'32.keep K33 (ninS ne_b1_b3 nin0)
              have Fs3'33 := Fs3'32.keep K33 (ninS ne_b1_b3 nin0)
              have Fl3'33 := Fl3'32.keep K33 (ninS ne_b1_b3 nin0)
              have Z33 := Nat.le_trans Z32 K33.1
              show own_Ends p e below s _ _ _ (T33.setTop (mkF m 245 #[.val (.int p1), .val (.int p2), .val (.long q3), .second, .val (.int p4), .val (.long q5), .second, .val (.long q6), .second, .val (.int w1), .val (.int w2), .val (.int r1), .val (.int rA), .val (.int rB), .val (.long mm), .second, .val (.ref b1), .val (.long (own_tk (own_rec r1 (own_fp q3) (own_sta q5 (own_maxL (1 : Int64) (mm / (4096 : Int64))))) q5 (own_maxL (1 : Int64) (mm / (4096 : Int64))))), .second, .val (.long (1 : Int64)), .second, .val (.int w1), .val (.int (w1 >>> ((1 : Int32) &&& 31))), .val (.long ((w1 - (1 : Int32)).toInt64)), .second, .val (.long kA), .second, .val (.long kB), .second, .val (.long (own_tk (own_rec rA (own_fp kA) (own_sta q5 (own_maxL (1 : Int64) (mm / (4096 : Int64))))) q5 (own_maxL (1 : Int64) (mm / (4096 : Int64))))), .second, .unset, .unset] [(.long (own_tk (own_rec rB (own_fp kB) (own_sta q5 (own_maxL (1 : Int64) (mm / (4096 : Int64))))) q5 (own_maxL (1 : Int64) (mm / (4096 : Int64)))))]))
              refine own_go (fun _ k => XS.lstore X33.here hx rfl (hb hby at_245) rfl (l' := #[.val (.int p1), .val (.int p2), .val (.long q3), .second, .val (.int p4), .val (.long q5), .second, .val (.long q6), .second, .val (.int w1), .val (.int w2), .val (.int r1), .val (.int rA), .val (.int rB), .val (.long mm), .second, .val (.ref b1), .val (.long (own_tk (own_rec r1 (own_fp q3) (own_sta q5 (own_maxL (1 : Int64) (mm / (4096 : Int64))))) q5 (own_maxL (1 : Int64) (mm / (4096 : Int64))))), .second, .val (.long (1 : Int64)), .second, .val (.int w1), .val (.int (w1 >>> ((1 : Int32) &&& 31))), .val (.long ((w1 - (1 : Int32)).toInt64)), .second, .val (.long kA), .second, .val (.long kB), .second, .val (.long (own_tk (own_rec rA (own_fp kA) (own_sta q5 (own_maxL (1 : Int64) (mm / (4096 : Int64))))) q5 (own_maxL (1 : Int64) (mm / (4096 : Int64))))), .second, .val (.long (own_tk (own_rec rB (own_fp kB) (own_sta q5 (own_maxL (1 : Int64) (mm / (4096 : Int64))))) q5 (own_maxL (1 : Int64) (mm / (4096 : Int64))))), .second]) rfl <| XS.lload X33.here hx rfl (hb hby at_247) rfl <| XS.iload X33.here hx rfl (hb hby at_249) rfl <| k) ?_
              show own_Ends p e below s _ _ _ (T33.setTop (mkF m 251 #[.val (.int p1), .val (.int p2), .val (.long q3), .second, .val (.int p4), .val (.long q5), .second, .val (.long q6), .second, .val (.int w1), .val (.int w2), .val (.int r1), .val (.int rA), .val (.int rB), .val (.long mm), .second, .val (.ref b1), .val (.long (own_tk (own_rec r1 (own_fp q3) (own_sta q5 (own_maxL (1 : Int64) (mm / (4096 : Int64))))) q5 (own_maxL (1 : Int64) (mm / (4096 : Int64))))), .second, .val (.long (1 : Int64)), .second, .val (.int w1), .val (.int (w1 >>> ((1 : Int32) &&& 31))), .val (.long ((w1 - (1 : Int32)).toInt64)), .second, .val (.long kA), .second, .val (.long kB), .second, .val (.long (own_tk (own_rec rA (own_fp kA) (own_sta q5 (own_maxL (1 : Int64) (mm / (4096 : Int64))))) q5 (own_maxL (1 : Int64) (mm / (4096 : Int64))))), .second, .val (.long (own_tk (own_rec rB (own_fp kB) (own_sta q5 (own_maxL (1 : Int64) (mm / (4096 : Int64))))) q5 (own_maxL (1 : Int64) (mm / (4096 : Int64))))), .second] [(.int rA), (.long (own_tk (own_rec rA (own_fp kA) (own_sta q5 (own_maxL (1 : Int64) (mm / (4096 : Int64))))) q5 (own_maxL (1 : Int64) (mm / (4096 : Int64)))))]))
              by_cases hc251_34 : rA = (0 : Int32)
              · -- true
                refine own_go (fun _ k => XS.ifYes X33.here hx rfl (pc0 := 251) (pc' := 258) rfl (hb hby at_251) rfl ((if0 _ _).trans (teq hc251_34).1) (by decide) (by decide) <| XT.lconstV X33.here hx rfl (0 : Int64) (hb hby at_258) rfl <| XS.lcmp X33.here hx rfl (hb hby at_259) rfl <| XS.ifNo X33.here hx rfl (hb hby at_260) rfl ((if0 _ _).trans (teq ((lw_eq _ _).mpr (by rw [own_tk_rec, if_pos hc251_34]))).2) <| XS.lload X33.here hx rfl (hb hby at_263) rfl <| k) ?_
                show own_Ends p e below s _ _ _ (T33.setTop (mkF m 265 #[.val (.int p1), .val (.int p2), .val (.long q3), .second, .val (.int p4), .val (.long q5), .second, .val (.long q6), .second, .val (.int w1), .val (.int w2), .val (.int r1), .val (.int rA), .val (.int rB), .val (.long mm), .second, .val (.ref b1), .val (.long (own_tk (own_rec r1 (own_fp q3) (own_sta q5 (own_maxL (1 : Int64) (mm / (4096 : Int64))))) q5 (own_maxL (1 : Int64) (mm / (4096 : Int64))))), .second, .val (.long (1 : Int64)), .second, .val (.int w1), .val (.int (w1 >>> ((1 : Int32) &&& 31))), .val (.long ((w1 - (1 : Int32)).toInt64)), .second, .val (.long kA), .second, .val (.long kB), .second, .val (.long (own_tk (own_rec rA (own_fp kA) (own_sta q5 (own_maxL (1 : Int64) (mm / (4096 : Int64))))) q5 (own_maxL (1 : Int64) (mm / (4096 : Int64))))), .second, .val (.long (own_tk (own_rec rB (own_fp kB) (own_sta q5 (own_maxL (1 : Int64) (mm / (4096 : Int64))))) q5 (own_maxL (1 : Int64) (mm / (4096 : Int64))))), .second] [(.long (own_tk (own_rec rB (own_fp kB) (own_sta q5 (own_maxL (1 : Int64) (mm / (4096 : Int64))))) q5 (own_maxL (1 : Int64) (mm / (4096 : Int64)))))]))
                refine own_go (fun _ k => XS.iload X33.here hx rfl (hb hby at_265) rfl <| k) ?_
                show own_Ends p e below s _ _ _ (T33.setTop (mkF m 267 #[.val (.int p1), .val (.int p2), .val (.long q3), .second, .val (.int p4), .val (.long q5), .second, .val (.long q6), .second, .val (.int w1), .val (.int w2), .val (.int r1), .val (.int rA), .val (.int rB), .val (.long mm), .second, .val (.ref b1), .val (.long (own_tk (own_rec r1 (own_fp q3) (own_sta q5 (own_maxL (1 : Int64) (mm / (4096 : Int64))))) q5 (own_maxL (1 : Int64) (mm / (4096 : Int64))))), .second, .val (.long (1 : Int64)), .second, .val (.int w1), .val (.int (w1 >>> ((1 : Int32) &&& 31))), .val (.long ((w1 - (1 : Int32)).toInt64)), .second, .val (.long kA), .second, .val (.long kB), .second, .val (.long (own_tk (own_rec rA (own_fp kA) (own_sta q5 (own_maxL (1 : Int64) (mm / (4096 : Int64))))) q5 (own_maxL (1 : Int64) (mm / (4096 : Int64))))), .second, .val (.long (own_tk (own_rec rB (own_fp kB) (own_sta q5 (own_maxL (1 : Int64) (mm / (4096 : Int64))))) q5 (own_maxL (1 : Int64) (mm / (4096 : Int64))))), .second] [(.int rB), (.long (own_tk (own_rec rB (own_fp kB) (own_sta q5 (own_maxL (1 : Int64) (mm / (4096 : Int64))))) q5 (own_maxL (1 : Int64) (mm / (4096 : Int64)))))]))
                by_cases hc267_35 : rB = (0 : Int32)
                · -- true
                  refine own_go (fun _ k => XS.ifYes X33.here hx rfl (pc0 := 267) (pc' := 274) rfl (hb hby at_267) rfl ((if0 _ _).trans (teq hc267_35).1) (by decide) (by decide) <| XT.lconstV X33.here hx rfl (0 : Int64) (hb hby at_274) rfl <| XS.lcmp X33.here hx rfl (hb hby at_275) rfl <| XS.ifNo X33.here hx rfl (hb hby at_276) rfl ((if0 _ _).trans (teq ((lw_eq _ _).mpr (by rw [own_tk_rec, if_pos hc267_35]))).2) <| XT.iconstV X33.here hx rfl (1 : Int32) (hb hby at_279) rfl <| k) ?_
                  show own_Ends p e below s _ _ _ (T33.setTop (mkF m 280 #[.val (.int p1), .val (.int p2), .val (.long q3), .second, .val (.int p4), .val (.long q5), .second, .val (.long q6), .second, .val (.int w1), .val (.int w2), .val (.int r1), .val (.int rA), .val (.int rB), .val (.long mm), .second, .val (.ref b1), .val (.long (own_tk (own_rec r1 (own_fp q3) (own_sta q5 (own_maxL (1 : Int64) (mm / (4096 : Int64))))) q5 (own_maxL (1 : Int64) (mm / (4096 : Int64))))), .second, .val (.long (1 : Int64)), .second, .val (.int w1), .val (.int (w1 >>> ((1 : Int32) &&& 31))), .val (.long ((w1 - (1 : Int32)).toInt64)), .second, .val (.long kA), .second, .val (.long kB), .second, .val (.long (own_tk (own_rec rA (own_fp kA) (own_sta q5 (own_maxL (1 : Int64) (mm / (4096 : Int64))))) q5 (own_maxL (1 : Int64) (mm / (4096 : Int64))))), .second, .val (.long (own_tk (own_rec rB (own_fp kB) (own_sta q5 (own_maxL (1 : Int64) (mm / (4096 : Int64))))) q5 (own_maxL (1 : Int64) (mm / (4096 : Int64))))), .second] [(.int (1 : Int32))]))
                  refine own_go (fun _ k => XS.goto X33.here hx rfl (pc0 := 280) (pc' := 284) rfl (hb hby at_280) (by decide) (by decide) <| k) ?_
                  show own_Ends p e below s _ _ _ (T33.setTop (mkF m 284 #[.val (.int p1), .val (.int p2), .val (.long q3), .second, .val (.int p4), .val (.long q5), .second, .val (.long q6), .second, .val (.int w1), .val (.int w2), .val (.int r1), .val (.int rA), .val (.int rB), .val (.long mm), .second, .val (.ref b1), .val (.long (own_tk (own_rec r1 (own_fp q3) (own_sta q5 (own_maxL (1 : Int64) (mm / (4096 : Int64))))) q5 (own_maxL (1 : Int64) (mm / (4096 : Int64))))), .second, .val (.long (1 : Int64)), .second, .val (.int w1), .val (.int (w1 >>> ((1 : Int32) &&& 31))), .val (.long ((w1 - (1 : Int32)).toInt64)), .second, .val (.long kA), .second, .val (.long kB), .second, .val (.long (own_tk (own_rec rA (own_fp kA) (own_sta q5 (own_maxL (1 : Int64) (mm / (4096 : Int64))))) q5 (own_maxL (1 : Int64) (mm / (4096 : Int64))))), .second, .val (.long (own_tk (own_rec rB (own_fp kB) (own_sta q5 (own_maxL (1 : Int64) (mm / (4096 : Int64))))) q5 (own_maxL (1 : Int64) (mm / (4096 : Int64))))), .second] [(.int (1 : Int32))]))
                  exact own_retN X33 hx (t := .boolean) hrt (by simp) (hb hby at_284) hlk (show nar .boolean (1 : Int32) = (1 : Int32) from by decide) (by exact ⟨rfl, N33⟩) (by decide) (by decide)
                · -- false
                  refine own_go (fun _ k => XS.ifNo X33.here hx rfl (hb hby at_267) rfl ((if0 _ _).trans (feq hc267_35).1) <| XT.lconstV X33.here hx rfl (1 : Int64) (hb hby at_270) rfl <| XS.goto X33.here hx rfl (pc0 := 271) (pc' := 275) rfl (hb hby at_271) (by decide) (by decide) <| XS.lcmp X33.here hx rfl (hb hby at_275) rfl <| k) ?_
                  show own_Ends p e below s _ _ _ (T33.setTop (mkF m 276 #[.val (.int p1), .val (.int p2), .val (.long q3), .second, .val (.int p4), .val (.long q5), .second, .val (.long q6), .second, .val (.int w1), .val (.int w2), .val (.int r1), .val (.int rA), .val (.int rB), .val (.long mm), .second, .val (.ref b1), .val (.long (own_tk (own_rec r1 (own_fp q3) (own_sta q5 (own_maxL (1 : Int64) (mm / (4096 : Int64))))) q5 (own_maxL (1 : Int64) (mm / (4096 : Int64))))), .second, .val (.long (1 : Int64)), .second, .val (.int w1), .val (.int (w1 >>> ((1 : Int32) &&& 31))), .val (.long ((w1 - (1 : Int32)).toInt64)), .second, .val (.long kA), .second, .val (.long kB), .second, .val (.long (own_tk (own_rec rA (own_fp kA) (own_sta q5 (own_maxL (1 : Int64) (mm / (4096 : Int64))))) q5 (own_maxL (1 : Int64) (mm / (4096 : Int64))))), .second, .val (.long (own_tk (own_rec rB (own_fp kB) (own_sta q5 (own_maxL (1 : Int64) (mm / (4096 : Int64))))) q5 (own_maxL (1 : Int64) (mm / (4096 : Int64))))), .second] [(.int (lcmpW (own_tk (own_rec rB (own_fp kB) (own_sta q5 (own_maxL (1 : Int64) (mm / (4096 : Int64))))) q5 (own_maxL (1 : Int64) (mm / (4096 : Int64)))) (1 : Int64)))]))
                  refine own_go (fun _ k => XS.ifNo X33.here hx rfl (hb hby at_276) rfl ((if0 _ _).trans (teq ((lw_eq _ _).mpr (by rw [own_tk_rec, if_neg hc267_35]))).2) <| XT.iconstV X33.here hx rfl (1 : Int32) (hb hby at_279) rfl <| XS.goto X33.here hx rfl (pc0 := 280) (pc' := 284) rfl (hb hby at_280) (by decide) (by decide) <| k) ?_
                  show own_Ends p e below s _ _ _ (T33.setTop (mkF m 284 #[.val (.int p1), .val (.int p2), .val (.long q3), .second, .val (.int p4), .val (.long q5), .second, .val (.long q6), .second, .val (.int w1), .val (.int w2), .val (.int r1), .val (.int rA), .val (.int rB), .val (.long mm), .second, .val (.ref b1), .val (.long (own_tk (own_rec r1 (own_fp q3) (own_sta q5 (own_maxL (1 : Int64) (mm / (4096 : Int64))))) q5 (own_maxL (1 : Int64) (mm / (4096 : Int64))))), .second, .val (.long (1 : Int64)), .second, .val (.int w1), .val (.int (w1 >>> ((1 : Int32) &&& 31))), .val (.long ((w1 - (1 : Int32)).toInt64)), .second, .val (.long kA), .second, .val (.long kB), .second, .val (.long (own_tk (own_rec rA (own_fp kA) (own_sta q5 (own_maxL (1 : Int64) (mm / (4096 : Int64))))) q5 (own_maxL (1 : Int64) (mm / (4096 : Int64))))), .second, .val (.long (own_tk (own_rec rB (own_fp kB) (own_sta q5 (own_maxL (1 : Int64) (mm / (4096 : Int64))))) q5 (own_maxL (1 : Int64) (mm / (4096 : Int64))))), .second] [(.int (1 : Int32))]))
                  exact own_retN X33 hx (t := .boolean) hrt (by simp) (hb hby at_284) hlk (show nar .boolean (1 : Int32) = (1 : Int32) from by decide) (by exact ⟨rfl, N33⟩) (by decide) (by decide)
              · -- false
                refine own_go (fun _ k => XS.ifNo X33.here hx rfl (hb hby at_251) rfl ((if0 _ _).trans (feq hc251_34).1) <| XT.lconstV X33.here hx rfl (1 : Int64) (hb hby at_254) rfl <| XS.goto X33.here hx rfl (pc0 := 255) (pc' := 259) rfl (hb hby at_255) (by decide) (by decide) <| XS.lcmp X33.here hx rfl (hb hby at_259) rfl <| k) ?_
                show own_Ends p e below s _ _ _ (T33.setTop (mkF m 260 #[.val (.int p1), .val (.int p2), .val (.long q3), .second, .val (.int p4), .val (.long q5), .second, .val (.long q6), .second, .val (.int w1), .val (.int w2), .val (.int r1), .val (.int rA), .val (.int rB), .val (.long mm), .second, .val (.ref b1), .val (.long (own_tk (own_rec r1 (own_fp q3) (own_sta q5 (own_maxL (1 : Int64) (mm / (4096 : Int64))))) q5 (own_maxL (1 : Int64) (mm / (4096 : Int64))))), .second, .val (.long (1 : Int64)), .second, .val (.int w1), .val (.int (w1 >>> ((1 : Int32) &&& 31))), .val (.long ((w1 - (1 : Int32)).toInt64)), .second, .val (.long kA), .second, .val (.long kB), .second, .val (.long (own_tk (own_rec rA (own_fp kA) (own_sta q5 (own_maxL (1 : Int64) (mm / (4096 : Int64))))) q5 (own_maxL (1 : Int64) (mm / (4096 : Int64))))), .second, .val (.long (own_tk (own_rec rB (own_fp kB) (own_sta q5 (own_maxL (1 : Int64) (mm / (4096 : Int64))))) q5 (own_maxL (1 : Int64) (mm / (4096 : Int64))))), .second] [(.int (lcmpW (own_tk (own_rec rA (own_fp kA) (own_sta q5 (own_maxL (1 : Int64) (mm / (4096 : Int64))))) q5 (own_maxL (1 : Int64) (mm / (4096 : Int64)))) (1 : Int64)))]))
                refine own_go (fun _ k => XS.ifNo X33.here hx rfl (hb hby at_260) rfl ((if0 _ _).trans (teq ((lw_eq _ _).mpr (by rw [own_tk_rec, if_neg hc251_34]))).2) <| XS.lload X33.here hx rfl (hb hby at_263) rfl <| XS.iload X33.here hx rfl (hb hby at_265) rfl <| k) ?_
                show own_Ends p e below s _ _ _ (T33.setTop (mkF m 267 #[.val (.int p1), .val (.int p2), .val (.long q3), .second, .val (.int p4), .val (.long q5), .second, .val (.long q6), .second, .val (.int w1), .val (.int w2), .val (.int r1), .val (.int rA), .val (.int rB), .val (.long mm), .second, .val (.ref b1), .val (.long (own_tk (own_rec r1 (own_fp q3) (own_sta q5 (own_maxL (1 : Int64) (mm / (4096 : Int64))))) q5 (own_maxL (1 : Int64) (mm / (4096 : Int64))))), .second, .val (.long (1 : Int64)), .second, .val (.int w1), .val (.int (w1 >>> ((1 : Int32) &&& 31))), .val (.long ((w1 - (1 : Int32)).toInt64)), .second, .val (.long kA), .second, .val (.long kB), .second, .val (.long (own_tk (own_rec rA (own_fp kA) (own_sta q5 (own_maxL (1 : Int64) (mm / (4096 : Int64))))) q5 (own_maxL (1 : Int64) (mm / (4096 : Int64))))), .second, .val (.long (own_tk (own_rec rB (own_fp kB) (own_sta q5 (own_maxL (1 : Int64) (mm / (4096 : Int64))))) q5 (own_maxL (1 : Int64) (mm / (4096 : Int64))))), .second] [(.int rB), (.long (own_tk (own_rec rB (own_fp kB) (own_sta q5 (own_maxL (1 : Int64) (mm / (4096 : Int64))))) q5 (own_maxL (1 : Int64) (mm / (4096 : Int64)))))]))
                by_cases hc267_36 : rB = (0 : Int32)
                · -- true
                  refine own_go (fun _ k => XS.ifYes X33.here hx rfl (pc0 := 267) (pc' := 274) rfl (hb hby at_267) rfl ((if0 _ _).trans (teq hc267_36).1) (by decide) (by decide) <| XT.lconstV X33.here hx rfl (0 : Int64) (hb hby at_274) rfl <| XS.lcmp X33.here hx rfl (hb hby at_275) rfl <| XS.ifNo X33.here hx rfl (hb hby at_276) rfl ((if0 _ _).trans (teq ((lw_eq _ _).mpr (by rw [own_tk_rec, if_pos hc267_36]))).2) <| XT.iconstV X33.here hx rfl (1 : Int32) (hb hby at_279) rfl <| k) ?_
                  show own_Ends p e below s _ _ _ (T33.setTop (mkF m 280 #[.val (.int p1), .val (.int p2), .val (.long q3), .second, .val (.int p4), .val (.long q5), .second, .val (.long q6), .second, .val (.int w1), .val (.int w2), .val (.int r1), .val (.int rA), .val (.int rB), .val (.long mm), .second, .val (.ref b1), .val (.long (own_tk (own_rec r1 (own_fp q3) (own_sta q5 (own_maxL (1 : Int64) (mm / (4096 : Int64))))) q5 (own_maxL (1 : Int64) (mm / (4096 : Int64))))), .second, .val (.long (1 : Int64)), .second, .val (.int w1), .val (.int (w1 >>> ((1 : Int32) &&& 31))), .val (.long ((w1 - (1 : Int32)).toInt64)), .second, .val (.long kA), .second, .val (.long kB), .second, .val (.long (own_tk (own_rec rA (own_fp kA) (own_sta q5 (own_maxL (1 : Int64) (mm / (4096 : Int64))))) q5 (own_maxL (1 : Int64) (mm / (4096 : Int64))))), .second, .val (.long (own_tk (own_rec rB (own_fp kB) (own_sta q5 (own_maxL (1 : Int64) (mm / (4096 : Int64))))) q5 (own_maxL (1 : Int64) (mm / (4096 : Int64))))), .second] [(.int (1 : Int32))]))
                  refine own_go (fun _ k => XS.goto X33.here hx rfl (pc0 := 280) (pc' := 284) rfl (hb hby at_280) (by decide) (by decide) <| k) ?_
                  show own_Ends p e below s _ _ _ (T33.setTop (mkF m 284 #[.val (.int p1), .val (.int p2), .val (.long q3), .second, .val (.int p4), .val (.long q5), .second, .val (.long q6), .second, .val (.int w1), .val (.int w2), .val (.int r1), .val (.int rA), .val (.int rB), .val (.long mm), .second, .val (.ref b1), .val (.long (own_tk (own_rec r1 (own_fp q3) (own_sta q5 (own_maxL (1 : Int64) (mm / (4096 : Int64))))) q5 (own_maxL (1 : Int64) (mm / (4096 : Int64))))), .second, .val (.long (1 : Int64)), .second, .val (.int w1), .val (.int (w1 >>> ((1 : Int32) &&& 31))), .val (.long ((w1 - (1 : Int32)).toInt64)), .second, .val (.long kA), .second, .val (.long kB), .second, .val (.long (own_tk (own_rec rA (own_fp kA) (own_sta q5 (own_maxL (1 : Int64) (mm / (4096 : Int64))))) q5 (own_maxL (1 : Int64) (mm / (4096 : Int64))))), .second, .val (.long (own_tk (own_rec rB (own_fp kB) (own_sta q5 (own_maxL (1 : Int64) (mm / (4096 : Int64))))) q5 (own_maxL (1 : Int64) (mm / (4096 : Int64))))), .second] [(.int (1 : Int32))]))
                  exact own_retN X33 hx (t := .boolean) hrt (by simp) (hb hby at_284) hlk (show nar .boolean (1 : Int32) = (1 : Int32) from by decide) (by exact ⟨rfl, N33⟩) (by decide) (by decide)
                · -- false
                  refine own_go (fun _ k => XS.ifNo X33.here hx rfl (hb hby at_267) rfl ((if0 _ _).trans (feq hc267_36).1) <| XT.lconstV X33.here hx rfl (1 : Int64) (hb hby at_270) rfl <| XS.goto X33.here hx rfl (pc0 := 271) (pc' := 275) rfl (hb hby at_271) (by decide) (by decide) <| XS.lcmp X33.here hx rfl (hb hby at_275) rfl <| k) ?_
                  show own_Ends p e below s _ _ _ (T33.setTop (mkF m 276 #[.val (.int p1), .val (.int p2), .val (.long q3), .second, .val (.int p4), .val (.long q5), .second, .val (.long q6), .second, .val (.int w1), .val (.int w2), .val (.int r1), .val (.int rA), .val (.int rB), .val (.long mm), .second, .val (.ref b1), .val (.long (own_tk (own_rec r1 (own_fp q3) (own_sta q5 (own_maxL (1 : Int64) (mm / (4096 : Int64))))) q5 (own_maxL (1 : Int64) (mm / (4096 : Int64))))), .second, .val (.long (1 : Int64)), .second, .val (.int w1), .val (.int (w1 >>> ((1 : Int32) &&& 31))), .val (.long ((w1 - (1 : Int32)).toInt64)), .second, .val (.long kA), .second, .val (.long kB), .second, .val (.long (own_tk (own_rec rA (own_fp kA) (own_sta q5 (own_maxL (1 : Int64) (mm / (4096 : Int64))))) q5 (own_maxL (1 : Int64) (mm / (4096 : Int64))))), .second, .val (.long (own_tk (own_rec rB (own_fp kB) (own_sta q5 (own_maxL (1 : Int64) (mm / (4096 : Int64))))) q5 (own_maxL (1 : Int64) (mm / (4096 : Int64))))), .second] [(.int (lcmpW (own_tk (own_rec rB (own_fp kB) (own_sta q5 (own_maxL (1 : Int64) (mm / (4096 : Int64))))) q5 (own_maxL (1 : Int64) (mm / (4096 : Int64)))) (1 : Int64)))]))
                  refine own_go (fun _ k => XS.ifNo X33.here hx rfl (hb hby at_276) rfl ((if0 _ _).trans (teq ((lw_eq _ _).mpr (by rw [own_tk_rec, if_neg hc267_36]))).2) <| XT.iconstV X33.here hx rfl (1 : Int32) (hb hby at_279) rfl <| XS.goto X33.here hx rfl (pc0 := 280) (pc' := 284) rfl (hb hby at_280) (by decide) (by decide) <| k) ?_
                  show own_Ends p e below s _ _ _ (T33.setTop (mkF m 284 #[.val (.int p1), .val (.int p2), .val (.long q3), .second, .val (.int p4), .val (.long q5), .second, .val (.long q6), .second, .val (.int w1), .val (.int w2), .val (.int r1), .val (.int rA), .val (.int rB), .val (.long mm), .second, .val (.ref b1), .val (.long (own_tk (own_rec r1 (own_fp q3) (own_sta q5 (own_maxL (1 : Int64) (mm / (4096 : Int64))))) q5 (own_maxL (1 : Int64) (mm / (4096 : Int64))))), .second, .val (.long (1 : Int64)), .second, .val (.int w1), .val (.int (w1 >>> ((1 : Int32) &&& 31))), .val (.long ((w1 - (1 : Int32)).toInt64)), .second, .val (.long kA), .second, .val (.long kB), .second, .val (.long (own_tk (own_rec rA (own_fp kA) (own_sta q5 (own_maxL (1 : Int64) (mm / (4096 : Int64))))) q5 (own_maxL (1 : Int64) (mm / (4096 : Int64))))), .second, .val (.long (own_tk (own_rec rB (own_fp kB) (own_sta q5 (own_maxL (1 : Int64) (mm / (4096 : Int64))))) q5 (own_maxL (1 : Int64) (mm / (4096 : Int64))))), .second] [(.int (1 : Int32))]))
                  exact own_retN X33 hx (t := .boolean) hrt (by simp) (hb hby at_284) hlk (show nar .boolean (1 : Int32) = (1 : Int32) from by decide) (by exact ⟨rfl, N33⟩) (by decide) (by decide)
      refine own_go (fun _ k => XS.iload X0.here hx rfl (hb hby at_44) rfl <| XT.iconstV X0.here hx rfl (4 : Int32) (hb hby at_46) rfl <| XS.iand X0.here hx rfl (hb hby at_47) rfl <| k) ?_
      show own_Ends p e below s _ _ _ (s₁.setTop (mkF m 48 #[.val (.int p1), .val (.int p2), .val (.long q3), .second, .val (.int p4), .val (.long q5), .second, .val (.long q6), .second, .val (.int w1), .val (.int w2), .val (.int r1), .val (.int rA), .unset, .unset, .unset, .unset, .unset, .unset, .unset, .unset, .unset, .unset, .unset, .unset, .unset, .unset, .unset, .unset, .unset, .unset, .unset, .unset] [(.int (p4 &&& (4 : Int32)))]))
      by_cases hc48_37 : (p4 &&& (4 : Int32)) = (0 : Int32)
      · -- true
        refine own_go (fun _ k => XS.ifYes X0.here hx rfl (pc0 := 48) (pc' := 55) rfl (hb hby at_48) rfl ((if0 _ _).trans (teq hc48_37).1) (by decide) (by decide) <| XT.iconstV X0.here hx rfl (0 : Int32) (hb hby at_55) rfl <| k) ?_
        show own_Ends p e below s _ _ _ (s₁.setTop (mkF m 56 #[.val (.int p1), .val (.int p2), .val (.long q3), .second, .val (.int p4), .val (.long q5), .second, .val (.long q6), .second, .val (.int w1), .val (.int w2), .val (.int r1), .val (.int rA), .unset, .unset, .unset, .unset, .unset, .unset, .unset, .unset, .unset, .unset, .unset, .unset, .unset, .unset, .unset, .unset, .unset, .unset, .unset, .unset] [(.int (0 : Int32))]))
        exact J56 _ (Or.inl rfl)
      · -- false
        refine own_go (fun _ k => XS.ifNo X0.here hx rfl (hb hby at_48) rfl ((if0 _ _).trans (feq hc48_37).1) <| XT.iconstV X0.here hx rfl (1 : Int32) (hb hby at_51) rfl <| XS.goto X0.here hx rfl (pc0 := 52) (pc' := 56) rfl (hb hby at_52) (by decide) (by decide) <| k) ?_
        show own_Ends p e below s _ _ _ (s₁.setTop (mkF m 56 #[.val (.int p1), .val (.int p2), .val (.long q3), .second, .val (.int p4), .val (.long q5), .second, .val (.long q6), .second, .val (.int w1), .val (.int w2), .val (.int r1), .val (.int rA), .unset, .unset, .unset, .unset, .unset, .unset, .unset, .unset, .unset, .unset, .unset, .unset, .unset, .unset, .unset, .unset, .unset, .unset, .unset, .unset] [(.int (1 : Int32))]))
        exact J56 _ (Or.inr rfl)
    refine own_go (fun _ k => XS.iload X0.here hx rfl (hb hby at_30) rfl <| XT.iconstV X0.here hx rfl (2 : Int32) (hb hby at_32) rfl <| XS.iand X0.here hx rfl (hb hby at_33) rfl <| k) ?_
    show own_Ends p e below s _ _ _ (s₁.setTop (mkF m 34 #[.val (.int p1), .val (.int p2), .val (.long q3), .second, .val (.int p4), .val (.long q5), .second, .val (.long q6), .second, .val (.int w1), .val (.int w2), .val (.int r1), .unset, .unset, .unset, .unset, .unset, .unset, .unset, .unset, .unset, .unset, .unset, .unset, .unset, .unset, .unset, .unset, .unset, .unset, .unset, .unset, .unset] [(.int (p4 &&& (2 : Int32)))]))
    by_cases hc34_38 : (p4 &&& (2 : Int32)) = (0 : Int32)
    · -- true
      refine own_go (fun _ k => XS.ifYes X0.here hx rfl (pc0 := 34) (pc' := 41) rfl (hb hby at_34) rfl ((if0 _ _).trans (teq hc34_38).1) (by decide) (by decide) <| XT.iconstV X0.here hx rfl (0 : Int32) (hb hby at_41) rfl <| k) ?_
      show own_Ends p e below s _ _ _ (s₁.setTop (mkF m 42 #[.val (.int p1), .val (.int p2), .val (.long q3), .second, .val (.int p4), .val (.long q5), .second, .val (.long q6), .second, .val (.int w1), .val (.int w2), .val (.int r1), .unset, .unset, .unset, .unset, .unset, .unset, .unset, .unset, .unset, .unset, .unset, .unset, .unset, .unset, .unset, .unset, .unset, .unset, .unset, .unset, .unset] [(.int (0 : Int32))]))
      exact J42 _ (Or.inl rfl)
    · -- false
      refine own_go (fun _ k => XS.ifNo X0.here hx rfl (hb hby at_34) rfl ((if0 _ _).trans (feq hc34_38).1) <| XT.iconstV X0.here hx rfl (1 : Int32) (hb hby at_37) rfl <| XS.goto X0.here hx rfl (pc0 := 38) (pc' := 42) rfl (hb hby at_38) (by decide) (by decide) <| k) ?_
      show own_Ends p e below s _ _ _ (s₁.setTop (mkF m 42 #[.val (.int p1), .val (.int p2), .val (.long q3), .second, .val (.int p4), .val (.long q5), .second, .val (.long q6), .second, .val (.int w1), .val (.int w2), .val (.int r1), .unset, .unset, .unset, .unset, .unset, .unset, .unset, .unset, .unset, .unset, .unset, .unset, .unset, .unset, .unset, .unset, .unset, .unset, .unset, .unset, .unset] [(.int (1 : Int32))]))
      exact J42 _ (Or.inr rfl)
  refine own_go (fun _ k => XS.iload X0.here hx rfl (hb hby at_16) rfl <| XT.iconstV X0.here hx rfl (1 : Int32) (hb hby at_18) rfl <| XS.iand X0.here hx rfl (hb hby at_19) rfl <| k) ?_
  show own_Ends p e below s _ _ _ (s₁.setTop (mkF m 20 #[.val (.int p1), .val (.int p2), .val (.long q3), .second, .val (.int p4), .val (.long q5), .second, .val (.long q6), .second, .val (.int w1), .val (.int w2), .unset, .unset, .unset, .unset, .unset, .unset, .unset, .unset, .unset, .unset, .unset, .unset, .unset, .unset, .unset, .unset, .unset, .unset, .unset, .unset, .unset, .unset] [(.int (p4 &&& (1 : Int32)))]))
  by_cases hc20_39 : (p4 &&& (1 : Int32)) = (0 : Int32)
  · -- true
    refine own_go (fun _ k => XS.ifYes X0.here hx rfl (pc0 := 20) (pc' := 27) rfl (hb hby at_20) rfl ((if0 _ _).trans (teq hc20_39).1) (by decide) (by decide) <| XT.iconstV X0.here hx rfl (0 : Int32) (hb hby at_27) rfl <| k) ?_
    show own_Ends p e below s _ _ _ (s₁.setTop (mkF m 28 #[.val (.int p1), .val (.int p2), .val (.long q3), .second, .val (.int p4), .val (.long q5), .second, .val (.long q6), .second, .val (.int w1), .val (.int w2), .unset, .unset, .unset, .unset, .unset, .unset, .unset, .unset, .unset, .unset, .unset, .unset, .unset, .unset, .unset, .unset, .unset, .unset, .unset, .unset, .unset, .unset] [(.int (0 : Int32))]))
    exact J28 _ (Or.inl rfl)
  · -- false
    refine own_go (fun _ k => XS.ifNo X0.here hx rfl (hb hby at_20) rfl ((if0 _ _).trans (feq hc20_39).1) <| XT.iconstV X0.here hx rfl (1 : Int32) (hb hby at_23) rfl <| XS.goto X0.here hx rfl (pc0 := 24) (pc' := 28) rfl (hb hby at_24) (by decide) (by decide) <| k) ?_
    show own_Ends p e below s _ _ _ (s₁.setTop (mkF m 28 #[.val (.int p1), .val (.int p2), .val (.long q3), .second, .val (.int p4), .val (.long q5), .second, .val (.long q6), .second, .val (.int w1), .val (.int w2), .unset, .unset, .unset, .unset, .unset, .unset, .unset, .unset, .unset, .unset, .unset, .unset, .unset, .unset, .unset, .unset, .unset, .unset, .unset, .unset, .unset, .unset] [(.int (1 : Int32))]))
    exact J28 _ (Or.inr rfl)
set_option maxRecDepth 65536 in
set_option maxHeartbeats 40000000 in
theorem comes_1 {Post : Tables → Env → Array Value → State → Outcome → State → Prop} (hpost : ∀ tb e args s v u, (limb_1_1.after args s (.returned v) u = true ∧ limb_1_2.after args s (.returned v) u = true ∧ True) → FrameEnd s (.returned v) u (Jvm.fieldLocs frame_1_writes args s ++ Jvm.arrayLocs frame_1_arrays args s ++ Jvm.staticLocs frame_1_statics s) 16 98432 → Post tb e args s (.returned v) u) :
    ArmFor flags0 classFile x code maxLocals ret World_1 tables_1 room_1 Calls_1 rest_1 Pre_1 Post := by
  intro l hfl _ _ p e ha hc hk s m args below hf hA hF happ hP
  obtain ⟨hcalls, hrest, hpre⟩ := hP
  obtain ⟨-, -, -, hnamed, -, -, -, hat⟩ := (Spec.applies_iff hf).mp happ
  obtain ⟨hg, hn⟩ := and_e (Cond.before_iff.mp (show (Jvm.Cond.and given_1 narrow_1).before args s = true from hpre))
  obtain ⟨g1, g2⟩ := and_e hg
  obtain ⟨g3, g4⟩ := and_e g2
  obtain ⟨g5, g6⟩ := and_e g4
  obtain ⟨g7, g8⟩ := and_e g6
  obtain ⟨g9, g10⟩ := and_e g8
  obtain ⟨g11, g12⟩ := and_e g10
  obtain ⟨w0, w1, w2, w3, w4, w5, rfl⟩ : ∃ w0 w1 w2 w3 w4 w5 : Value, args = #[w0, w1, w2, w3, w4, w5] := by
    have hs : args.size = 6 := by simpa [Cond.value, given_1] using g1
    obtain ⟨L⟩ := args
    match L, hs with
    | [w0, w1, w2, w3, w4, w5], _ => exact ⟨w0, w1, w2, w3, w4, w5, rfl⟩
  have hw := fun d (hd : d ∈ tables_1) => atoms_spec (ws := Jvm.Cond.code x code maxLocals ret :: tables_1) hat d (List.mem_cons_of_mem _ hd)
  have hfit : Fit s := fun {y c} hc i hi => by
    obtain ⟨ha, rfl⟩ := Array.getElem?_eq_some_iff.mp hc
    have q := List.all_eq_true.mp ((Array.all_eq_true_iff_forall_mem.mp hF) _ (Array.getElem_mem ha)) i (List.mem_range.mpr hi)
    simpa [Array.getElem?_eq_getElem hi] using q
  obtain ⟨i0, ei0⟩ := is_v g3
  obtain rfl : w0 = (.int i0) := Option.some.inj ei0
  obtain ⟨i1, ei1⟩ := is_v g5
  obtain rfl : w1 = (.int i1) := Option.some.inj ei1
  obtain ⟨i2, ei2⟩ := isL_v g7
  obtain rfl : w2 = (.long i2) := Option.some.inj ei2
  obtain ⟨i3, ei3⟩ := is_v g9
  obtain rfl : w3 = (.int i3) := Option.some.inj ei3
  obtain ⟨i4, ei4⟩ := isL_v g11
  obtain rfl : w4 = (.long i4) := Option.some.inj ei4
  obtain ⟨i5, ei5⟩ := isL_v g12
  obtain rfl : w5 = (.long i5) := Option.some.inj ei5
  obtain ⟨n, o, h1, h2, h3, _, L, rfl, ⟨rfl, N⟩, hq⟩ := rm0 l s _ hw tables_1 i0 i1 i2 i3 i4 i5  s.heap s.heap.size (Nat.le_refl _)  p e ha hc hk s m _ below hf ((Spec.applies_iff_loose hf).mp happ).1 ⟨rfl, State.Warmed39.refl s, rfl⟩ trivial
  refine ⟨n, _, h1, h2, h3, hpost _ _ _ _ _ _ ⟨Cond.after_iff.mpr rfl, Cond.after_iff.mpr (eq_i res_at (Term.int_eval (1)) rfl), trivial⟩ ⟨hq.1, hq.2.1, (hq.2.2.sift fun y hy => Or.inr (N y hy)).mono (by decide) (by decide)⟩⟩
theorem main_1_1 : Claimed_1_1 := comes_1 fun _ _ _ _ _ _ h hF => ⟨h.1, hF⟩
theorem main_1_2 : Claimed_1_2 := comes_1 fun _ _ _ _ _ _ h hF => ⟨h.2.1, hF⟩
end Jvm.Pilot.@@N@@
namespace Jvm.Pilot.@@N@@
open Jvm Jvm.ClassFile Sem Op Lib Jvm.Free Jvm.Stand Jvm.Pilot.@@N@@.Jvm.D
/-! MADE BY PROGRAM (witnessworld.py) out of the Statement's table words and the real class files: 10 classes; the members and pool entries that the words name. The judged class is class 1, her method 1. -/
namespace start1
open Jvm.ClassFile
def u (s : String) : CpInfo := .utf8 (stringToUtf16 s)
/-- a pool by its gaps: so many unusable entries, then the entry; so many at the end -/
def gap : Nat → List CpInfo → List CpInfo
  | 0, r => r
  | n + 1, r => .unusable :: gap n r
def poolList (es : List (Nat × CpInfo)) (last : Nat) : List CpInfo := es.foldr (fun e r => gap e.1 (e.2 :: r)) (gap last [])
def pool (es : List (Nat × CpInfo)) (last : Nat) : Array CpInfo := ⟨poolList es last⟩
def fileOf (pool : Array CpInfo) (this : Nat) (attrs : Array Attribute := #[]) (ms : Array MethodInfo := #[]) (fl : Nat := 33) (sup : Nat := 0) (ifs : Array Nat := #[]) (fds : Array FieldInfo := #[]) : ClassFile where
  minorVersion := 0
  majorVersion := 65
  constantPool := pool
  accessFlags := fl
  thisClass := this
  superClass := sup
  interfaces := ifs
  fields := fds
  methods := ms
  attributes := attrs
def plain (name : String) (sup : Option ClassId) : Class where
  name := name
  kind := .ordinary
  loader := none
  accessFlags := 33
  super := sup
  interfaces := #[]
  cf := none
  fields := #[]
  methods := #[]
  instanceTypes := #[]
  staticTypes := #[]
  resolved := #[]
  callSites := []
  init := .initialized
  statics := none
  mirror := none

def pool0 : Array CpInfo := pool [(5, u "<init>"), (0, u "()V"), (1, .class_ 10), (1, u "java/lang/Object")] 113

def k0c0 : Code := { maxStack := 0, maxLocals := 1, code := object_method_1_code, exceptionTable := #[], attributes := #[] }
def k0m0 : Method := { name := "<init>", desc := "()V", sig := { parameters := [], returnType := none }, accessFlags := 1, code := some k0c0 }
/-- java/lang/Object -/
def k0 : Class := { plain "java/lang/Object" none with
  accessFlags := 33
  interfaces := #[]
  cf := some (fileOf pool0 8 #[] #[{ accessFlags := 1, nameIndex := 5, descriptorIndex := 6, attributes := #[] }] 33 0 #[] #[])
  fields := #[]
  methods := #[k0m0]
  instanceTypes := #[]
  staticTypes := #[]
  resolved := Array.replicate 124 none
  statics := none }

def pool1 : Array CpInfo := pool [(2, .class_ 4), (1, u "java/lang/Object"), (0, u "<init>"), (0, u "()V"), (2, .long 9223372036854775807), (1, .class_ 12), (0, u "com/example/unutkan/unutkan/core/RecentEvictions"), (0, .methodref 11 14), (0, .nameAndType 5 15), (0, u "(J)V"), (0, .methodref 11 17), (0, .nameAndType 18 19), (0, u "ensureCapacity"), (0, u "(I)V"), (0, .methodref 11 21), (0, .nameAndType 22 23), (0, u "record"), (0, u "(JZJ)V"), (0, .methodref 11 25), (0, .nameAndType 26 27), (0, u "take"), (0, u "(JJ)J"), (0, .long 18446744073709551615), (1, .methodref 31 32), (0, .class_ 33), (0, .nameAndType 34 35), (0, u "java/lang/Math"), (0, u "max"), (0, u "(II)I"), (0, .class_ 37), (0, u "com/example/unutkan/unutkan/core/RecentEvictionsEnsureCapacityPinLaw"), (2, u "law"), (0, u "(IIJIJJ)Z")] 3

def k1m0 : Method := { name := "<init>", desc := "()V", sig := { parameters := [], returnType := none }, accessFlags := 1, code := none }
def k1c1 : Code := { maxStack := 6, maxLocals := 33, code := code, exceptionTable := #[], attributes := #[] }
def k1m1 : Method := { name := "law", desc := "(IIJIJJ)Z", sig := { parameters := [.int, .int, .long, .int, .long, .long], returnType := some .boolean }, accessFlags := 9, code := some k1c1 }
/-- com/example/unutkan/unutkan/core/RecentEvictionsEnsureCapacityPinLaw -/
def k1 : Class := { plain "com/example/unutkan/unutkan/core/RecentEvictionsEnsureCapacityPinLaw" (some 0) with
  accessFlags := 49
  interfaces := #[]
  cf := some (fileOf pool1 36 #[] #[{ accessFlags := 1, nameIndex := 5, descriptorIndex := 6, attributes := #[] }, { accessFlags := 9, nameIndex := 40, descriptorIndex := 41, attributes := #[] }] 49 2 #[] #[])
  fields := #[]
  methods := #[k1m0, k1m1]
  instanceTypes := #[]
  staticTypes := #[]
  resolved := Array.replicate 45 none
  statics := none }

def pool2 : Array CpInfo := pool [(1, .class_ 2), (0, u "com/example/unutkan/unutkan/core/RecentEvictions"), (0, .methodref 4 5), (0, .class_ 6), (0, .nameAndType 7 8), (0, u "java/lang/Object"), (0, u "<init>"), (0, u "()V"), (0, .long 4096), (1, .methodref 12 13), (0, .class_ 14), (0, .nameAndType 15 16), (0, u "java/lang/Math"), (0, u "max"), (0, u "(JJ)J"), (0, .fieldref 1 18), (0, .nameAndType 19 20), (0, u "unit"), (0, u "J"), (0, .fieldref 1 22), (0, .nameAndType 23 20), (0, u "horizon"), (0, .fieldref 1 25), (0, .nameAndType 26 27), (0, u "slots"), (0, u "[I"), (0, .fieldref 1 29), (0, .nameAndType 30 31), (0, u "sweep"), (0, u "I"), (0, .methodref 1 33), (0, .nameAndType 34 35), (0, u "fingerprint"), (0, u "(J)I"), (0, .integer 2147483648), (0, .methodref 1 38), (0, .nameAndType 39 35), (0, u "stamp"), (0, .methodref 1 41), (0, .nameAndType 42 35), (0, u "first"), (0, .methodref 1 44), (0, .nameAndType 45 35), (0, u "second"), (0, .methodref 1 47), (0, .nameAndType 48 49), (0, u "fingerprintOf"), (0, u "(I)I"), (0, .methodref 1 51), (0, .nameAndType 52 53), (0, u "ageOf"), (0, u "(IJ)J"), (0, .long 18446744073709551615), (1, .long 2), (3, u "sweptAt"), (9, .integer 65535), (0, .long 14029467366897019727), (1, u "NOT_FOUND"), (1, u "UNITS_PER_BOUND"), (1, u "STAMP_BITS"), (1, u "STAMP_MASK"), (0, u "FINGERPRINT_MASK"), (1, u "REJECTED_BIT"), (0, u "SWEPT_PER_TICK"), (1, u "(J)V"), (2, u "ensureCapacity"), (0, u "(I)V"), (1, u "record"), (0, u "(JZJ)V"), (0, u "take")] 6

def k2c0 : Code := { maxStack := 7, maxLocals := 3, code := prog_23_method_1_code, exceptionTable := #[], attributes := #[] }
def k2m0 : Method := { name := "<init>", desc := "(J)V", sig := { parameters := [.long], returnType := none }, accessFlags := 0, code := some k2c0 }
def k2c1 : Code := { maxStack := 2, maxLocals := 2, code := prog_23_method_2_code, exceptionTable := #[], attributes := #[] }
def k2m1 : Method := { name := "ensureCapacity", desc := "(I)V", sig := { parameters := [.int], returnType := none }, accessFlags := 0, code := some k2c1 }
def k2c2 : Code := { maxStack := 6, maxLocals := 10, code := prog_23_method_3_code, exceptionTable := #[], attributes := #[] }
def k2m2 : Method := { name := "record", desc := "(JZJ)V", sig := { parameters := [.long, .boolean, .long], returnType := none }, accessFlags := 0, code := some k2c2 }
def k2c3 : Code := { maxStack := 4, maxLocals := 11, code := prog_23_method_4_code, exceptionTable := #[], attributes := #[] }
def k2m3 : Method := { name := "take", desc := "(JJ)J", sig := { parameters := [.long, .long], returnType := some .long }, accessFlags := 0, code := some k2c3 }
def k2c4 : Code := { maxStack := 4, maxLocals := 3, code := prog_23_method_8_code, exceptionTable := #[], attributes := #[] }
def k2m4 : Method := { name := "stamp", desc := "(J)I", sig := { parameters := [.long], returnType := some .int }, accessFlags := 2, code := some k2c4 }
def k2c5 : Code := { maxStack := 4, maxLocals := 4, code := prog_23_method_9_code, exceptionTable := #[], attributes := #[] }
def k2m5 : Method := { name := "ageOf", desc := "(IJ)J", sig := { parameters := [.int, .long], returnType := some .long }, accessFlags := 2, code := some k2c5 }
def k2c6 : Code := { maxStack := 3, maxLocals := 3, code := prog_23_method_10_code, exceptionTable := #[], attributes := #[] }
def k2m6 : Method := { name := "first", desc := "(J)I", sig := { parameters := [.long], returnType := some .int }, accessFlags := 2, code := some k2c6 }
def k2c7 : Code := { maxStack := 3, maxLocals := 3, code := prog_23_method_11_code, exceptionTable := #[], attributes := #[] }
def k2m7 : Method := { name := "second", desc := "(J)I", sig := { parameters := [.long], returnType := some .int }, accessFlags := 2, code := some k2c7 }
def k2c8 : Code := { maxStack := 4, maxLocals := 3, code := prog_23_method_12_code, exceptionTable := #[], attributes := #[] }
def k2m8 : Method := { name := "fingerprint", desc := "(J)I", sig := { parameters := [.long], returnType := some .int }, accessFlags := 10, code := some k2c8 }
def k2c9 : Code := { maxStack := 2, maxLocals := 1, code := prog_23_method_13_code, exceptionTable := #[], attributes := #[] }
def k2m9 : Method := { name := "fingerprintOf", desc := "(I)I", sig := { parameters := [.int], returnType := some .int }, accessFlags := 10, code := some k2c9 }
/-- com/example/unutkan/unutkan/core/RecentEvictions -/
def k2 : Class := { plain "com/example/unutkan/unutkan/core/RecentEvictions" (some 0) with
  accessFlags := 48
  interfaces := #[]
  cf := some (fileOf pool2 1 #[] #[{ accessFlags := 0, nameIndex := 7, descriptorIndex := 85, attributes := #[] }, { accessFlags := 0, nameIndex := 88, descriptorIndex := 89, attributes := #[] }, { accessFlags := 0, nameIndex := 91, descriptorIndex := 92, attributes := #[] }, { accessFlags := 0, nameIndex := 93, descriptorIndex := 16, attributes := #[] }, { accessFlags := 2, nameIndex := 39, descriptorIndex := 35, attributes := #[] }, { accessFlags := 2, nameIndex := 52, descriptorIndex := 53, attributes := #[] }, { accessFlags := 2, nameIndex := 42, descriptorIndex := 35, attributes := #[] }, { accessFlags := 2, nameIndex := 45, descriptorIndex := 35, attributes := #[] }, { accessFlags := 10, nameIndex := 34, descriptorIndex := 35, attributes := #[] }, { accessFlags := 10, nameIndex := 48, descriptorIndex := 49, attributes := #[] }] 48 4 #[] #[{ accessFlags := 24, nameIndex := 73, descriptorIndex := 20, attributes := #[] }, { accessFlags := 26, nameIndex := 75, descriptorIndex := 31, attributes := #[] }, { accessFlags := 26, nameIndex := 77, descriptorIndex := 31, attributes := #[] }, { accessFlags := 26, nameIndex := 79, descriptorIndex := 31, attributes := #[] }, { accessFlags := 26, nameIndex := 80, descriptorIndex := 31, attributes := #[] }, { accessFlags := 26, nameIndex := 82, descriptorIndex := 31, attributes := #[] }, { accessFlags := 26, nameIndex := 83, descriptorIndex := 31, attributes := #[] }, { accessFlags := 18, nameIndex := 19, descriptorIndex := 20, attributes := #[] }, { accessFlags := 18, nameIndex := 23, descriptorIndex := 20, attributes := #[] }, { accessFlags := 2, nameIndex := 26, descriptorIndex := 27, attributes := #[] }, { accessFlags := 2, nameIndex := 30, descriptorIndex := 31, attributes := #[] }, { accessFlags := 2, nameIndex := 60, descriptorIndex := 20, attributes := #[] }])
  fields := #[{ name := "NOT_FOUND", type := .long, accessFlags := 24, slot := 0, constantValue := 0 }, { name := "UNITS_PER_BOUND", type := .int, accessFlags := 26, slot := 1, constantValue := 0 }, { name := "STAMP_BITS", type := .int, accessFlags := 26, slot := 2, constantValue := 0 }, { name := "STAMP_MASK", type := .int, accessFlags := 26, slot := 3, constantValue := 0 }, { name := "FINGERPRINT_MASK", type := .int, accessFlags := 26, slot := 4, constantValue := 0 }, { name := "REJECTED_BIT", type := .int, accessFlags := 26, slot := 5, constantValue := 0 }, { name := "SWEPT_PER_TICK", type := .int, accessFlags := 26, slot := 6, constantValue := 0 }, { name := "unit", type := .long, accessFlags := 18, slot := 0, constantValue := 0 }, { name := "horizon", type := .long, accessFlags := 18, slot := 1, constantValue := 0 }, { name := "slots", type := (.array .int), accessFlags := 2, slot := 2, constantValue := 0 }, { name := "sweep", type := .int, accessFlags := 2, slot := 3, constantValue := 0 }, { name := "sweptAt", type := .long, accessFlags := 2, slot := 4, constantValue := 0 }]
  methods := #[k2m0, k2m1, k2m2, k2m3, k2m4, k2m5, k2m6, k2m7, k2m8, k2m9]
  instanceTypes := #[.long, .long, (.array .int), .int, .long]
  staticTypes := #[.long, .int, .int, .int, .int, .int, .int]
  resolved := Array.replicate 100 none
  statics := none }

def pool3 : Array CpInfo := pool [(1, .class_ 2), (0, u "java/lang/Math"), (1, .class_ 6), (1, u "java/lang/Object"), (0, u "<init>"), (0, u "()V"), (89, .class_ 100), (1, u "java/lang/Math$RandomNumberGeneratorHolder"), (20, u "(JJ)J"), (50, u "negativeZeroFloatBits"), (0, u "J"), (2, u "negativeZeroDoubleBits"), (21, u "max"), (46, u "$assertionsDisabled"), (0, u "Z"), (88, u "(II)I"), (2, u "twoToTheDoubleScaleDown"), (0, u "D"), (4, u "twoToTheDoubleScaleUp"), (9, u "E"), (3, u "PI"), (2, u "TAU"), (2, u "DEGREES_TO_RADIANS"), (0, u "RADIANS_TO_DEGREES")] 94

def k3m0 : Method := { name := "<init>", desc := "()V", sig := { parameters := [], returnType := none }, accessFlags := 2, code := none }
def k3c1 : Code := { maxStack := 2, maxLocals := 2, code := jdk_29_method_65_code, exceptionTable := #[], attributes := #[] }
def k3m1 : Method := { name := "max", desc := "(II)I", sig := { parameters := [.int, .int], returnType := some .int }, accessFlags := 9, code := some k3c1 }
def k3c2 : Code := { maxStack := 4, maxLocals := 4, code := jdk_29_method_66_code, exceptionTable := #[], attributes := #[] }
def k3m2 : Method := { name := "max", desc := "(JJ)J", sig := { parameters := [.long, .long], returnType := some .long }, accessFlags := 9, code := some k3c2 }
/-- java/lang/Math -/
def k3 : Class := { plain "java/lang/Math" (some 0) with
  accessFlags := 49
  interfaces := #[]
  cf := some (fileOf pool3 1 #[.nestMembers #[98]] #[{ accessFlags := 2, nameIndex := 7, descriptorIndex := 8, attributes := #[] }, { accessFlags := 9, nameIndex := 198, descriptorIndex := 335, attributes := #[] }, { accessFlags := 9, nameIndex := 198, descriptorIndex := 121, attributes := #[] }] 49 4 #[] #[{ accessFlags := 25, nameIndex := 354, descriptorIndex := 339, attributes := #[] }, { accessFlags := 25, nameIndex := 358, descriptorIndex := 339, attributes := #[] }, { accessFlags := 25, nameIndex := 361, descriptorIndex := 339, attributes := #[] }, { accessFlags := 26, nameIndex := 364, descriptorIndex := 339, attributes := #[] }, { accessFlags := 26, nameIndex := 365, descriptorIndex := 339, attributes := #[] }, { accessFlags := 26, nameIndex := 172, descriptorIndex := 173, attributes := #[] }, { accessFlags := 26, nameIndex := 176, descriptorIndex := 173, attributes := #[] }, { accessFlags := 8, nameIndex := 344, descriptorIndex := 339, attributes := #[] }, { accessFlags := 8, nameIndex := 338, descriptorIndex := 339, attributes := #[] }, { accessFlags := 4120, nameIndex := 245, descriptorIndex := 246, attributes := #[] }])
  fields := #[{ name := "E", type := .double, accessFlags := 25, slot := 0, constantValue := 0 }, { name := "PI", type := .double, accessFlags := 25, slot := 1, constantValue := 0 }, { name := "TAU", type := .double, accessFlags := 25, slot := 2, constantValue := 0 }, { name := "DEGREES_TO_RADIANS", type := .double, accessFlags := 26, slot := 3, constantValue := 0 }, { name := "RADIANS_TO_DEGREES", type := .double, accessFlags := 26, slot := 4, constantValue := 0 }, { name := "negativeZeroFloatBits", type := .long, accessFlags := 26, slot := 5, constantValue := 0 }, { name := "negativeZeroDoubleBits", type := .long, accessFlags := 26, slot := 6, constantValue := 0 }, { name := "twoToTheDoubleScaleUp", type := .double, accessFlags := 8, slot := 7, constantValue := 0 }, { name := "twoToTheDoubleScaleDown", type := .double, accessFlags := 8, slot := 8, constantValue := 0 }, { name := "$assertionsDisabled", type := .boolean, accessFlags := 4120, slot := 9, constantValue := 0 }]
  methods := #[k3m0, k3m1, k3m2]
  instanceTypes := #[]
  staticTypes := #[.double, .double, .double, .double, .double, .long, .long, .double, .double, .boolean]
  resolved := Array.replicate 460 none
  statics := none }

def pool4 : Array CpInfo := pool [(1, u "java/lang/Cloneable"), (0, .class_ 1), (0, u "java/lang/Object"), (0, .class_ 3)] 3

/-- java/lang/Cloneable -/
def k4 : Class := { plain "java/lang/Cloneable" (some 0) with
  accessFlags := 1537
  interfaces := #[]
  cf := some (fileOf pool4 2 #[] #[] 1537 4 #[] #[])
  fields := #[]
  methods := #[]
  instanceTypes := #[]
  staticTypes := #[]
  resolved := Array.replicate 8 none
  statics := none }

def pool5 : Array CpInfo := pool [(1, u "java/io/Serializable"), (0, .class_ 1), (0, u "java/lang/Object"), (0, .class_ 3)] 3

/-- java/io/Serializable -/
def k5 : Class := { plain "java/io/Serializable" (some 0) with
  accessFlags := 1537
  interfaces := #[]
  cf := some (fileOf pool5 2 #[] #[] 1537 4 #[] #[])
  fields := #[]
  methods := #[]
  instanceTypes := #[]
  staticTypes := #[]
  resolved := Array.replicate 8 none
  statics := none }

/-- the primitive byte -/
def k6 : Class := { plain "byte" none with kind := .primitive 'B', accessFlags := 0x411 }
/-- [B -/
def k7 : Class := { plain "[B" (some 0) with kind := .array 6 .byte, interfaces := #[4, 5], accessFlags := 1041 }

/-- the primitive int -/
def k8 : Class := { plain "int" none with kind := .primitive 'I', accessFlags := 0x411 }
/-- [I -/
def k9 : Class := { plain "[I" (some 0) with kind := .array 8 .int, interfaces := #[4, 5], accessFlags := 1041 }

def heap : Heap := #[]
def classes : Array Class := #[k0, k1, k2, k3, k4, k5, k6, k7, k8, k9]
def interned : List (Array UInt16 × Addr) := []
def slotsUsed : Nat := 0
def theMethod : MethodId := ⟨1, 1⟩
def args0 : Array Value := #[.int 5, .int 6, .long 7, .int 8, .long 8, .long 9]
def aboutOver (below : List Frame) : State where
  vm := { classes := classes, interned := interned.toArray }
  heap := heap
  slotsUsed := slotsUsed
  threads := #[{ frames := .invoking theMethod args0 :: below }]
def below0 : List Frame := [.native { method := ⟨0, 0⟩, args := #[] }]
def about1 : State := aboutOver below0
def p0 : Program := .bare "" "" ""
def e0 : Env := launch0.env 0 0 0
theorem w_frames : about1.frames = Frame.invoking theMethod args0 :: below0 := rfl
set_option maxRecDepth 65536 in
theorem w_args : argsFit about1.vm theMethod args0 = true := by decide +kernel
set_option maxRecDepth 65536 in
theorem w_heap : heapFits about1 = true := by decide +kernel
set_option maxRecDepth 65536 in
theorem w_runnable : about1.curStatus? = some .runnable := by decide +kernel
set_option maxRecDepth 65536 in
theorem w_alone : about1.alone = true := by decide +kernel
set_option maxRecDepth 65536 in
theorem w_named : about1.methodNamed? x = some theMethod := by decide +kernel
set_option maxRecDepth 65536 in
theorem w_hears : about1.hears theMethod below0 = true := by decide +kernel
set_option maxRecDepth 65536 in
theorem w_ripe : about1.ripe theMethod args0 below0 = true := by decide +kernel
theorem w_running : about1.status = .running := rfl
set_option maxRecDepth 65536 in
theorem w_room : about1.hasRoom e0.platform room_1 = true :=
  launch0.hasRoom_least _ room_1 (by decide +kernel) (by decide +kernel) (by decide +kernel) (by decide +kernel) (by decide +kernel) (by decide +kernel)
theorem allAtoms_all (ts : List Jvm.Cond) (a : Array Jvm.Value) (st : Jvm.State) : (allAtoms ts).before a st = ts.all (fun c => c.before a st) := by
  induction ts with
  | nil => rfl
  | cons c t ih =>
    show (Jvm.Cond.and c (allAtoms t)).before a st = _
    rw [Jvm.Cond.before_and, ih, List.all_cons]
def words1 : List Jvm.Cond := Jvm.Cond.code x code maxLocals ret :: tables_1
/-- a 'code' word, met by the world's own term for the bytes: nothing is compared byte by byte -/
theorem code_word {y : MethodName} {bytes : ByteArray} {mx : Nat} {rt : Option FieldType} {a : Array Value} {s : State} {m : MethodId} {meth : Method} {c : Code} (h1 : s.methodNamed? y = some m) (h2 : s.vm.method? m = some meth) (h3 : meth.code = some c) (h4 : c.code = bytes)
    (h5 : (c.maxLocals == mx && c.exceptionTable.isEmpty && decide (c.maxStack ≤ mostOperands) && decide (meth.sig.returnType = rt) && !meth.locks && decide (parseMethodDescriptor y.desc = some meth.sig)) = true) : (Jvm.Cond.code y bytes mx rt).before a s = true := by
  simp only [Bool.and_eq_true, beq_iff_eq, Bool.not_eq_true', decide_eq_true_eq] at h5
  obtain ⟨⟨⟨⟨⟨g1, g2⟩, g3⟩, g4⟩, g5⟩, g6⟩ := h5
  simp [Cond.before, Cond.holds, Cond.value, h1, h2, h3, h4, g1, g2, g3, g4, g5, g6]
def isCode : Jvm.Cond → Bool
  | .code _ _ _ _ => true
  | _ => false
theorem all_split {L : List Jvm.Cond} {P : Jvm.Cond → Bool} (h1 : L.all (fun c => isCode c || P c) = true) (h2 : ∀ c ∈ L.filter isCode, P c = true) : L.all P = true := by
  refine List.all_eq_true.mpr fun c hc => ?_
  have h := List.all_eq_true.mp h1 c hc
  rcases Bool.eq_false_or_eq_true (isCode c) with hi | hi
  · exact h2 c (List.mem_filter.mpr ⟨hc, hi⟩)
  · simpa [hi] using h
set_option maxRecDepth 65536 in
theorem w_c0 : (Jvm.Cond.code x code maxLocals ret).before args0 about1 = true := code_word (m := ⟨1, 1⟩) (meth := k1m1) (c := k1c1) (by decide +kernel) rfl rfl rfl (by decide +kernel)
set_option maxRecDepth 65536 in
theorem w_c1 : (Jvm.Cond.code ({ cls := "com/example/unutkan/unutkan/core/RecentEvictions", name := "<init>", desc := "(J)V" } : Jvm.MethodName) prog_23_method_1_code (3 : Nat) (Option.none : Option Jvm.ClassFile.FieldType)).before args0 about1 = true := code_word (m := ⟨2, 0⟩) (meth := k2m0) (c := k2c0) (by decide +kernel) rfl rfl rfl (by decide +kernel)
set_option maxRecDepth 65536 in
theorem w_c2 : (Jvm.Cond.code ({ cls := "java/lang/Object", name := "<init>", desc := "()V" } : Jvm.MethodName) object_method_1_code (1 : Nat) (Option.none : Option Jvm.ClassFile.FieldType)).before args0 about1 = true := code_word (m := ⟨0, 0⟩) (meth := k0m0) (c := k0c0) (by decide +kernel) rfl rfl rfl (by decide +kernel)
set_option maxRecDepth 65536 in
theorem w_c3 : (Jvm.Cond.code ({ cls := "java/lang/Math", name := "max", desc := "(JJ)J" } : Jvm.MethodName) jdk_29_method_66_code (4 : Nat) (Option.some Jvm.ClassFile.FieldType.long)).before args0 about1 = true := code_word (m := ⟨3, 2⟩) (meth := k3m2) (c := k3c2) (by decide +kernel) rfl rfl rfl (by decide +kernel)
set_option maxRecDepth 65536 in
theorem w_c4 : (Jvm.Cond.code ({ cls := "com/example/unutkan/unutkan/core/RecentEvictions", name := "ensureCapacity", desc := "(I)V" } : Jvm.MethodName) prog_23_method_2_code (2 : Nat) (Option.none : Option Jvm.ClassFile.FieldType)).before args0 about1 = true := code_word (m := ⟨2, 1⟩) (meth := k2m1) (c := k2c1) (by decide +kernel) rfl rfl rfl (by decide +kernel)
set_option maxRecDepth 65536 in
theorem w_c5 : (Jvm.Cond.code ({ cls := "com/example/unutkan/unutkan/core/RecentEvictions", name := "record", desc := "(JZJ)V" } : Jvm.MethodName) prog_23_method_3_code (10 : Nat) (Option.none : Option Jvm.ClassFile.FieldType)).before args0 about1 = true := code_word (m := ⟨2, 2⟩) (meth := k2m2) (c := k2c2) (by decide +kernel) rfl rfl rfl (by decide +kernel)
set_option maxRecDepth 65536 in
theorem w_c6 : (Jvm.Cond.code ({ cls := "com/example/unutkan/unutkan/core/RecentEvictions", name := "fingerprint", desc := "(J)I" } : Jvm.MethodName) prog_23_method_12_code (3 : Nat) (Option.some Jvm.ClassFile.FieldType.int)).before args0 about1 = true := code_word (m := ⟨2, 8⟩) (meth := k2m8) (c := k2c8) (by decide +kernel) rfl rfl rfl (by decide +kernel)
set_option maxRecDepth 65536 in
theorem w_c7 : (Jvm.Cond.code ({ cls := "com/example/unutkan/unutkan/core/RecentEvictions", name := "stamp", desc := "(J)I" } : Jvm.MethodName) prog_23_method_8_code (3 : Nat) (Option.some Jvm.ClassFile.FieldType.int)).before args0 about1 = true := code_word (m := ⟨2, 4⟩) (meth := k2m4) (c := k2c4) (by decide +kernel) rfl rfl rfl (by decide +kernel)
set_option maxRecDepth 65536 in
theorem w_c8 : (Jvm.Cond.code ({ cls := "com/example/unutkan/unutkan/core/RecentEvictions", name := "first", desc := "(J)I" } : Jvm.MethodName) prog_23_method_10_code (3 : Nat) (Option.some Jvm.ClassFile.FieldType.int)).before args0 about1 = true := code_word (m := ⟨2, 6⟩) (meth := k2m6) (c := k2c6) (by decide +kernel) rfl rfl rfl (by decide +kernel)
set_option maxRecDepth 65536 in
theorem w_c9 : (Jvm.Cond.code ({ cls := "com/example/unutkan/unutkan/core/RecentEvictions", name := "second", desc := "(J)I" } : Jvm.MethodName) prog_23_method_11_code (3 : Nat) (Option.some Jvm.ClassFile.FieldType.int)).before args0 about1 = true := code_word (m := ⟨2, 7⟩) (meth := k2m7) (c := k2c7) (by decide +kernel) rfl rfl rfl (by decide +kernel)
set_option maxRecDepth 65536 in
theorem w_c10 : (Jvm.Cond.code ({ cls := "com/example/unutkan/unutkan/core/RecentEvictions", name := "take", desc := "(JJ)J" } : Jvm.MethodName) prog_23_method_4_code (11 : Nat) (Option.some Jvm.ClassFile.FieldType.long)).before args0 about1 = true := code_word (m := ⟨2, 3⟩) (meth := k2m3) (c := k2c3) (by decide +kernel) rfl rfl rfl (by decide +kernel)
set_option maxRecDepth 65536 in
theorem w_c11 : (Jvm.Cond.code ({ cls := "java/lang/Math", name := "max", desc := "(II)I" } : Jvm.MethodName) jdk_29_method_65_code (2 : Nat) (Option.some Jvm.ClassFile.FieldType.int)).before args0 about1 = true := code_word (m := ⟨3, 1⟩) (meth := k3m1) (c := k3c1) (by decide +kernel) rfl rfl rfl (by decide +kernel)
set_option maxRecDepth 65536 in
theorem w_c12 : (Jvm.Cond.code ({ cls := "com/example/unutkan/unutkan/core/RecentEvictions", name := "fingerprintOf", desc := "(I)I" } : Jvm.MethodName) prog_23_method_13_code (1 : Nat) (Option.some Jvm.ClassFile.FieldType.int)).before args0 about1 = true := code_word (m := ⟨2, 9⟩) (meth := k2m9) (c := k2c9) (by decide +kernel) rfl rfl rfl (by decide +kernel)
set_option maxRecDepth 65536 in
theorem w_c13 : (Jvm.Cond.code ({ cls := "com/example/unutkan/unutkan/core/RecentEvictions", name := "ageOf", desc := "(IJ)J" } : Jvm.MethodName) prog_23_method_9_code (4 : Nat) (Option.some Jvm.ClassFile.FieldType.long)).before args0 about1 = true := code_word (m := ⟨2, 5⟩) (meth := k2m5) (c := k2c5) (by decide +kernel) rfl rfl rfl (by decide +kernel)
def codes1 : List Jvm.Cond := [Jvm.Cond.code x code maxLocals ret, Jvm.Cond.code ({ cls := "com/example/unutkan/unutkan/core/RecentEvictions", name := "<init>", desc := "(J)V" } : Jvm.MethodName) prog_23_method_1_code (3 : Nat) (Option.none : Option Jvm.ClassFile.FieldType), Jvm.Cond.code ({ cls := "java/lang/Object", name := "<init>", desc := "()V" } : Jvm.MethodName) object_method_1_code (1 : Nat) (Option.none : Option Jvm.ClassFile.FieldType), Jvm.Cond.code ({ cls := "java/lang/Math", name := "max", desc := "(JJ)J" } : Jvm.MethodName) jdk_29_method_66_code (4 : Nat) (Option.some Jvm.ClassFile.FieldType.long), Jvm.Cond.code ({ cls := "com/example/unutkan/unutkan/core/RecentEvictions", name := "ensureCapacity", desc := "(I)V" } : Jvm.MethodName) prog_23_method_2_code (2 : Nat) (Option.none : Option Jvm.ClassFile.FieldType), Jvm.Cond.code ({ cls := "com/example/unutkan/unutkan/core/RecentEvictions", name := "record", desc := "(JZJ)V" } : Jvm.MethodName) prog_23_method_3_code (10 : Nat) (Option.none : Option Jvm.ClassFile.FieldType), Jvm.Cond.code ({ cls := "com/example/unutkan/unutkan/core/RecentEvictions", name := "fingerprint", desc := "(J)I" } : Jvm.MethodName) prog_23_method_12_code (3 : Nat) (Option.some Jvm.ClassFile.FieldType.int), Jvm.Cond.code ({ cls := "com/example/unutkan/unutkan/core/RecentEvictions", name := "stamp", desc := "(J)I" } : Jvm.MethodName) prog_23_method_8_code (3 : Nat) (Option.some Jvm.ClassFile.FieldType.int), Jvm.Cond.code ({ cls := "com/example/unutkan/unutkan/core/RecentEvictions", name := "first", desc := "(J)I" } : Jvm.MethodName) prog_23_method_10_code (3 : Nat) (Option.some Jvm.ClassFile.FieldType.int), Jvm.Cond.code ({ cls := "com/example/unutkan/unutkan/core/RecentEvictions", name := "second", desc := "(J)I" } : Jvm.MethodName) prog_23_method_11_code (3 : Nat) (Option.some Jvm.ClassFile.FieldType.int), Jvm.Cond.code ({ cls := "com/example/unutkan/unutkan/core/RecentEvictions", name := "take", desc := "(JJ)J" } : Jvm.MethodName) prog_23_method_4_code (11 : Nat) (Option.some Jvm.ClassFile.FieldType.long), Jvm.Cond.code ({ cls := "java/lang/Math", name := "max", desc := "(II)I" } : Jvm.MethodName) jdk_29_method_65_code (2 : Nat) (Option.some Jvm.ClassFile.FieldType.int), Jvm.Cond.code ({ cls := "com/example/unutkan/unutkan/core/RecentEvictions", name := "fingerprintOf", desc := "(I)I" } : Jvm.MethodName) prog_23_method_13_code (1 : Nat) (Option.some Jvm.ClassFile.FieldType.int), Jvm.Cond.code ({ cls := "com/example/unutkan/unutkan/core/RecentEvictions", name := "ageOf", desc := "(IJ)J" } : Jvm.MethodName) prog_23_method_9_code (4 : Nat) (Option.some Jvm.ClassFile.FieldType.long)]
set_option maxRecDepth 65536 in
theorem codes_eq : words1.filter isCode = codes1 := rfl
theorem w_codes : ∀ c ∈ words1.filter isCode, c.before args0 about1 = true := by
  rw [codes_eq]
  intro c hc
  simp only [codes1, List.mem_cons, List.not_mem_nil, or_false] at hc
  rcases hc with rfl | rfl | rfl | rfl | rfl | rfl | rfl | rfl | rfl | rfl | rfl | rfl | rfl | rfl
  · exact w_c0
  · exact w_c1
  · exact w_c2
  · exact w_c3
  · exact w_c4
  · exact w_c5
  · exact w_c6
  · exact w_c7
  · exact w_c8
  · exact w_c9
  · exact w_c10
  · exact w_c11
  · exact w_c12
  · exact w_c13
set_option maxRecDepth 65536 in
theorem w_t1 : (words1.take 24).all (fun c => isCode c || c.before args0 about1) = true := by decide +kernel
set_option maxRecDepth 65536 in
theorem w_t2 : ((words1.drop 24).take 24).all (fun c => isCode c || c.before args0 about1) = true := by decide +kernel
set_option maxRecDepth 65536 in
theorem w_t3 : ((words1.drop 24).drop 24).all (fun c => isCode c || c.before args0 about1) = true := by decide +kernel
theorem w_tables : (allAtoms (Jvm.Cond.code x code maxLocals ret :: tables_1)).before args0 about1 = true := by
  rw [allAtoms_all]
  show words1.all (fun c => c.before args0 about1) = true
  refine all_split ?_ w_codes
  rw [← List.take_append_drop 24 words1, List.all_append, w_t1, ← List.take_append_drop 24 (words1.drop 24), List.all_append, w_t2, w_t3]
  rfl
set_option maxRecDepth 65536 in
theorem w_case : (Jvm.Cond.and given_1 narrow_1).before args0 about1 = true := by decide +kernel
theorem w_applies : (headSpec (Jvm.Cond.code x code maxLocals ret :: tables_1) room_1).applies x e0.platform about1 = true :=
  (Spec.applies_iff w_frames).mpr ⟨w_running, w_runnable, w_alone, w_named, w_hears, w_ripe, w_room, w_tables⟩
theorem atStart : AtStart classFile x code maxLocals ret World_1 tables_1 room_1 Calls_1 rest_1 Pre_1 launch0 p0 e0 about1 theMethod args0 below0 :=
  ⟨lists_1, trivial, launch0.admits_env _ _ _, launch0.least_env, fairChoices_fair.cas, fairChoices_fair.clock, w_frames, w_args, w_heap, w_applies, trivial, trivial, w_case⟩
end start1
theorem witness_1 : WitnessClaimed_1 := ⟨start1.p0, start1.e0, start1.about1, start1.theMethod, start1.args0, start1.below0, start1.atStart⟩
end Jvm.Pilot.@@N@@
