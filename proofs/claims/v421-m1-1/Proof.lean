import JvmDerived
import JvmDerived.Pilot.@@N@@Statement
import JvmDerived.Pilot.@@N@@Code
set_option linter.unusedVariables false
set_option linter.unusedSimpArgs false
namespace Jvm.Pilot.@@N@@
open Jvm Jvm.ClassFile Sem Op Lib Jvm.Free Jvm.Stand Jvm.LawKit Jvm.RoadKit Bundle Jvm.Pilot.@@N@@.Jvm.D
/-! the walk's goal in continuation style -/
def own_Ends (p : Program) (e : Env) (below : List Frame) (s : State) (Q : Option Value → Heap → List Loc → Prop) (k n : Nat) (t : State) : Prop :=
  ∃ s₂ o, Steps p.tables e below t s₂ ∧ s₂.status = .running ∧ Ended s₂ below o ∧ ∃ v L, o = .returned v ∧ Q v s₂.heap L ∧ FrameEnd s o s₂ L k n
section OwnEnds
variable {p : Program} {l : Launch} {e : Env} {R : Room} {s : State} {m : MethodId} {args : Array Value} {below : List Frame} {meth : Method} {c : Code} {T : State} {locs : List Loc} {cells slots : Nat} {Q : Option Value → Heap → List Loc → Prop} {k n : Nat}
theorem own_go {t t' : State} (h : ∀ u, Steps p.tables e below t' u → Steps p.tables e below t u) (g : own_Ends p e below s Q k n t') : own_Ends p e below s Q k n t := by
  obtain ⟨s₂, o, h1, h2⟩ := g
  exact ⟨s₂, o, h _ h1, h2⟩
theorem own_retN (X : Stand p l e R s m args below meth c T locs cells slots) (hx : p.tables.exec = Jvm.exec) {pc : Nat} {Ls : Array Slot} {z w : Int32} {t : FieldType} {rest : List Value} (hret : meth.sig.returnType = some t) (ht : t = .boolean ∨ t = .byte ∨ t = .char ∨ t = .short)
    (hd : decode c.code pc = .ok (.ireturn, 1)) (hlk : meth.locks = false) (hz : nar t z = w) (hQ : Q (some (.int w)) T.heap locs) (hk : cells ≤ k) (hn : slots ≤ n) : own_Ends p e below s Q k n (T.setTop (mkF m pc Ls (.int z :: rest))) := by
  subst hz
  obtain ⟨fs, hr, hrun, hended, hW, hsame⟩ := X.leave (v := some (.int (nar t z))) (fun h => by rw [hret] at h; cases h) hlk
  exact ⟨_, _, retN X hx hret ht hd hr, hrun, hended, _, _, rfl, hQ, ⟨_, rfl⟩, hW, hsame.mono hk hn⟩
theorem own_ret (X : Stand p l e R s m args below meth c T locs cells slots) (hx : p.tables.exec = Jvm.exec) {pc : Nat} {Ls : Array Slot} {w : Value} {t : FieldType} {i : Instr} {rest : List Value} (hret : meth.sig.returnType = some t) (hn' : narrow t w = w)
    (hi : (i = .ireturn ∧ (t = .int ∨ t = .boolean ∨ t = .byte ∨ t = .char ∨ t = .short) ∧ ∃ z, w = .int z) ∨ (i = .lreturn ∧ t = .long ∧ ∃ z, w = .long z) ∨ (i = .dreturn ∧ t = .double ∧ ∃ z, w = .double z) ∨ (i = .freturn ∧ t = .float ∧ ∃ z, w = .float z) ∨ (i = .areturn ∧ t.isReference = true ∧ w.isRef = true))
    (hd : decode c.code pc = .ok (i, 1)) (hlk : meth.locks = false) (hQ : Q (some w) T.heap locs) (hk : cells ≤ k) (hn : slots ≤ n) : own_Ends p e below s Q k n (T.setTop (mkF m pc Ls (w :: rest))) := by
  obtain ⟨fs, hr, hrun, hended, hW, hsame⟩ := X.leave (v := some w) (fun h => by rw [hret] at h; cases h) hlk
  exact ⟨_, _, retOut X hx hret hn' hi hd hr, hrun, hended, _, _, rfl, hQ, ⟨_, rfl⟩, hW, hsame.mono hk hn⟩
theorem own_ret0 (X : Stand p l e R s m args below meth c T locs cells slots) (hx : p.tables.exec = Jvm.exec) {pc : Nat} {Ls : Array Slot} (hret : meth.sig.returnType = none)
    (hd : decode c.code pc = .ok (.return_, 1)) (hlk : meth.locks = false) (hQ : Q none T.heap locs) (hk : cells ≤ k) (hn : slots ≤ n) : own_Ends p e below s Q k n (T.setTop (mkF m pc Ls [])) := by
  obtain ⟨fs, hr, hrun, hended, hW, hsame⟩ := X.leave (v := none) (fun _ => rfl) hlk
  exact ⟨_, _, X.returnOut hx hret hd hr, hrun, hended, _, _, rfl, hQ, ⟨_, rfl⟩, hW, hsame.mono hk hn⟩
end OwnEnds
theorem pd_0 : parseMethodDescriptor "([I)[I" = some ⟨[(.array .int)], some (.array .int)⟩ := by decide +kernel
def own_c (xs : List Int32) : Nat → Nat
  | 0 => 0
  | j + 1 => if xs.getD j 0 < 0 then own_c xs j else own_c xs j + 1
def own_v (xs : List Int32) (n : Nat) : Nat → List Value
  | 0 => List.replicate n (.int (0 : Int32))
  | j + 1 => if xs.getD j 0 < 0 then own_v xs n j else (own_v xs n j).set (own_c xs j) (.int (Int32.ofNat j))
theorem own_c_neg {xs : List Int32} {j : Nat} (h : xs.getD j 0 < 0) : own_c xs (j + 1) = own_c xs j := by show (if _ then _ else _) = _; rw [if_pos h]
theorem own_c_pos {xs : List Int32} {j : Nat} (h : ¬ xs.getD j 0 < 0) : own_c xs (j + 1) = own_c xs j + 1 := by show (if _ then _ else _) = _; rw [if_neg h]
theorem own_v_neg {xs : List Int32} {n j : Nat} (h : xs.getD j 0 < 0) : own_v xs n (j + 1) = own_v xs n j := by show (if _ then _ else _) = _; rw [if_pos h]
theorem own_v_pos {xs : List Int32} {n j : Nat} (h : ¬ xs.getD j 0 < 0) : own_v xs n (j + 1) = (own_v xs n j).set (own_c xs j) (.int (Int32.ofNat j)) := by show (if _ then _ else _) = _; rw [if_neg h]
theorem own_c_le (xs : List Int32) (j : Nat) : own_c xs j ≤ j := by
  induction j with
  | zero => exact Nat.le_refl _
  | succ j ih =>
    by_cases h : xs.getD j 0 < 0
    · rw [own_c_neg h]; omega
    · rw [own_c_pos h]; omega
theorem own_c_step (xs : List Int32) (j : Nat) : own_c xs j ≤ own_c xs (j + 1) := by
  by_cases h : xs.getD j 0 < 0
  · rw [own_c_neg h]; exact Nat.le_refl _
  · rw [own_c_pos h]; omega
theorem own_c_mono (xs : List Int32) {i j : Nat} (h : i ≤ j) : own_c xs i ≤ own_c xs j := by
  induction j with
  | zero => rw [Nat.le_zero.mp h]; exact Nat.le_refl _
  | succ j ih =>
    rcases Nat.lt_or_ge i (j + 1) with g | g
    · exact Nat.le_trans (ih (by omega)) (own_c_step xs j)
    · rw [Nat.le_antisymm h g]; exact Nat.le_refl _
theorem own_c_lt {xs : List Int32} {j n : Nat} (h : ¬ xs.getD j 0 < 0) (g : j < n) : own_c xs j < own_c xs n := by
  have := own_c_mono xs (show j + 1 ≤ n from g)
  rw [own_c_pos h] at this
  omega
theorem own_v_len (xs : List Int32) (n j : Nat) : (own_v xs n j).length = n := by
  induction j with
  | zero => exact List.length_replicate
  | succ j ih =>
    by_cases h : xs.getD j 0 < 0
    · rw [own_v_neg h, ih]
    · rw [own_v_pos h, List.length_set, ih]
theorem own_v_at {xs : List Int32} {n i : Nat} (h : ¬ xs.getD i 0 < 0) (hn : own_c xs i < n) (j : Nat) (g : i < j) : (own_v xs n j).getD (own_c xs i) (.int (0 : Int32)) = .int (Int32.ofNat i) := by
  induction j with
  | zero => omega
  | succ j ih =>
    by_cases q : xs.getD j 0 < 0
    · rw [own_v_neg q]
      refine ih ?_
      rcases Nat.lt_or_ge i j with r | r
      · exact r
      · have : i = j := by omega
        subst this; exact absurd q h
    · rw [own_v_pos q, List.getD_eq_getElem?_getD, List.getElem?_set]
      rcases Nat.lt_or_ge i j with r | r
      · have ne : own_c xs j ≠ own_c xs i := Nat.ne_of_gt (own_c_lt h r)
        rw [if_neg ne, ← List.getD_eq_getElem?_getD]
        exact ih r
      · have : i = j := by omega
        subst this
        rw [if_pos rfl, if_pos (by rw [own_v_len]; exact hn)]
        rfl
theorem own_ofNat_lt {i n : Nat} (hi : i < 2 ^ 31) (hn : n < 2 ^ 31) : (Int32.ofNat i < Int32.ofNat n) ↔ i < n := by
  rw [Int32.lt_iff_toInt_lt, Int32.toInt_ofNat_small hi, Int32.toInt_ofNat_small hn]; omega
theorem own_nneg {i : Nat} (hi : i < 2 ^ 31) : ¬ Int32.ofNat i < 0 := by
  have := own_ofNat_lt (i := i) (n := 0) hi (by decide)
  intro h
  exact absurd (this.mp h) (Nat.not_lt_zero _)
theorem own_clamp {i : Nat} (hi : i < 2 ^ 31) : (Int32.ofNat i).toNatClampNeg = i := by
  show (Int32.ofNat i).toInt.toNat = i
  rw [Int32.toInt_ofNat_small hi]; exact Int.toNat_natCast i
theorem own_up (i : Nat) : Int32.ofNat i + (1 : Int32) = Int32.ofNat (i + 1) := (Int32.ofNat_add i 1).symm
theorem own_getD (xs : List Int32) {j : Nat} (hj : j < 2 ^ 31) : (xs.map Value.int).getD (Int32.ofNat j).toNatClampNeg (.int (0 : Int32)) = .int (xs.getD j 0) := by
  rw [own_clamp hj, List.getD_eq_getElem?_getD, List.getElem?_map, List.getD_eq_getElem?_getD]
  cases xs[j]? <;> rfl
theorem d1_0 : decode prog_150_method_6_code 0 = .ok (.iconst 0, 1) := by decide +kernel
theorem d1_1 : decode prog_150_method_6_code 1 = .ok (.istore_n 1, 1) := by decide +kernel
theorem d1_2 : decode prog_150_method_6_code 2 = .ok (.aload_n 0, 1) := by decide +kernel
theorem d1_3 : decode prog_150_method_6_code 3 = .ok (.astore_n 2, 1) := by decide +kernel
theorem d1_4 : decode prog_150_method_6_code 4 = .ok (.aload_n 2, 1) := by decide +kernel
theorem d1_5 : decode prog_150_method_6_code 5 = .ok (.arraylength, 1) := by decide +kernel
theorem d1_6 : decode prog_150_method_6_code 6 = .ok (.istore_n 3, 1) := by decide +kernel
theorem d1_7 : decode prog_150_method_6_code 7 = .ok (.iconst 0, 1) := by decide +kernel
theorem d1_8 : decode prog_150_method_6_code 8 = .ok (.istore 4, 2) := by decide +kernel
theorem d1_10 : decode prog_150_method_6_code 10 = .ok (.iload 4, 2) := by decide +kernel
theorem d1_12 : decode prog_150_method_6_code 12 = .ok (.iload_n 3, 1) := by decide +kernel
theorem d1_13 : decode prog_150_method_6_code 13 = .ok (.if_icmp .ge 28, 3) := by decide +kernel
theorem d1_16 : decode prog_150_method_6_code 16 = .ok (.aload_n 2, 1) := by decide +kernel
theorem d1_17 : decode prog_150_method_6_code 17 = .ok (.iload 4, 2) := by decide +kernel
theorem d1_19 : decode prog_150_method_6_code 19 = .ok (.iaload, 1) := by decide +kernel
theorem d1_20 : decode prog_150_method_6_code 20 = .ok (.istore 5, 2) := by decide +kernel
theorem d1_22 : decode prog_150_method_6_code 22 = .ok (.iload_n 1, 1) := by decide +kernel
theorem d1_23 : decode prog_150_method_6_code 23 = .ok (.iload 5, 2) := by decide +kernel
theorem d1_25 : decode prog_150_method_6_code 25 = .ok (.ifCond .lt 7, 3) := by decide +kernel
theorem d1_28 : decode prog_150_method_6_code 28 = .ok (.iconst 1, 1) := by decide +kernel
theorem d1_29 : decode prog_150_method_6_code 29 = .ok (.goto 4, 3) := by decide +kernel
theorem d1_32 : decode prog_150_method_6_code 32 = .ok (.iconst 0, 1) := by decide +kernel
theorem d1_33 : decode prog_150_method_6_code 33 = .ok (.iadd, 1) := by decide +kernel
theorem d1_34 : decode prog_150_method_6_code 34 = .ok (.istore_n 1, 1) := by decide +kernel
theorem d1_35 : decode prog_150_method_6_code 35 = .ok (.iinc 4 1, 3) := by decide +kernel
theorem d1_38 : decode prog_150_method_6_code 38 = .ok (.goto (-28), 3) := by decide +kernel
theorem d1_41 : decode prog_150_method_6_code 41 = .ok (.iload_n 1, 1) := by decide +kernel
theorem d1_42 : decode prog_150_method_6_code 42 = .ok (.newarray .int, 2) := by decide +kernel
theorem d1_44 : decode prog_150_method_6_code 44 = .ok (.astore_n 2, 1) := by decide +kernel
theorem d1_45 : decode prog_150_method_6_code 45 = .ok (.iconst 0, 1) := by decide +kernel
theorem d1_46 : decode prog_150_method_6_code 46 = .ok (.istore_n 3, 1) := by decide +kernel
theorem d1_47 : decode prog_150_method_6_code 47 = .ok (.iconst 0, 1) := by decide +kernel
theorem d1_48 : decode prog_150_method_6_code 48 = .ok (.istore 4, 2) := by decide +kernel
theorem d1_50 : decode prog_150_method_6_code 50 = .ok (.iload 4, 2) := by decide +kernel
theorem d1_52 : decode prog_150_method_6_code 52 = .ok (.aload_n 0, 1) := by decide +kernel
theorem d1_53 : decode prog_150_method_6_code 53 = .ok (.arraylength, 1) := by decide +kernel
theorem d1_54 : decode prog_150_method_6_code 54 = .ok (.if_icmp .ge 24, 3) := by decide +kernel
theorem d1_57 : decode prog_150_method_6_code 57 = .ok (.aload_n 0, 1) := by decide +kernel
theorem d1_58 : decode prog_150_method_6_code 58 = .ok (.iload 4, 2) := by decide +kernel
theorem d1_60 : decode prog_150_method_6_code 60 = .ok (.iaload, 1) := by decide +kernel
theorem d1_61 : decode prog_150_method_6_code 61 = .ok (.ifCond .lt 11, 3) := by decide +kernel
theorem d1_64 : decode prog_150_method_6_code 64 = .ok (.aload_n 2, 1) := by decide +kernel
theorem d1_65 : decode prog_150_method_6_code 65 = .ok (.iload_n 3, 1) := by decide +kernel
theorem d1_66 : decode prog_150_method_6_code 66 = .ok (.iinc 3 1, 3) := by decide +kernel
theorem d1_69 : decode prog_150_method_6_code 69 = .ok (.iload 4, 2) := by decide +kernel
theorem d1_71 : decode prog_150_method_6_code 71 = .ok (.iastore, 1) := by decide +kernel
theorem d1_72 : decode prog_150_method_6_code 72 = .ok (.iinc 4 1, 3) := by decide +kernel
theorem d1_75 : decode prog_150_method_6_code 75 = .ok (.goto (-25), 3) := by decide +kernel
theorem d1_78 : decode prog_150_method_6_code 78 = .ok (.aload_n 2, 1) := by decide +kernel
theorem d1_79 : decode prog_150_method_6_code 79 = .ok (.areturn, 1) := by decide +kernel
theorem pn_0 : plainName "com/example/weftbind/weftbind/Routes" = true := by first | (simp [plainName, overriddenIn]; done) | decide +kernel
theorem ef_1 (m : MethodId) (x0 : Addr) : entryFrame m #[(.ref x0)] 6 = mkF m 0 #[.val (.ref x0), .unset, .unset, .unset, .unset, .unset] [] := by first | (simp [entryFrame, mkF, argsToLocals, Value.category]; done) | rfl
def Q1 (a1 : Addr) (k1 : ClassId) (xs : List Int32) (h0 : Heap) (n0 : Nat) (Z : State) (v : Option Value) (h : Heap) (L : List Loc) : Prop := ∃ b k2, v = some (.ref b) ∧ Fr n0 L ∧ Keep h0 h [] ∧ n0 ≤ b ∧ h0.size ≤ b ∧ Arv Z h b k2 .int (Int32.ofNat (own_c xs 5)) (own_v xs (own_c xs 5) 5) (.int (0 : Int32))
set_option maxRecDepth 65536 in
set_option maxHeartbeats 40000000 in
theorem rm1 (l : Launch) (Z : State) (a0 : Array Value) (hw : ∀ d ∈ tables_1, d.before a0 Z = true) (ws : List Jvm.Cond) (a1 : Addr) (k1 : ClassId) (xs : List Int32) (h0 : Heap) (n0 : Nat) (Z0 : n0 ≤ h0.size) (V1 : Arv Z h0 a1 k1 .int (5 : Int32) (xs.map Value.int) (.int (0 : Int32))) :
    MetFree l (⟨"com/example/weftbind/weftbind/Routes", "boundTasks", "([I)[I"⟩ : MethodName) (head1 (Jvm.Cond.code (⟨"com/example/weftbind/weftbind/Routes", "boundTasks", "([I)[I"⟩ : MethodName) prog_150_method_6_code 6 (some (.array .int)) :: ws) ({ frames := 0, cells := 1, slots := 5, locals := 0 } : Room)) (fun a U => a = #[(.ref a1)] ∧ Z.Warmed39 U.vm ∧ U.heap = h0) (fun _ _ _ _ _ => True) (fun _ U o U' => ∃ v L, o = .returned v ∧ Q1 a1 k1 xs h0 n0 Z v U'.heap L ∧ FrameEnd U o U' L ({ frames := 0, cells := 1, slots := 5, locals := 0 } : Room).cells ({ frames := 0, cells := 1, slots := 5, locals := 0 } : Room).slots) := by
  refine MetFree.of_bodySF (plainFor_of_name pn_0) hisR ?_
  intro p e s m args below meth c s₁ Bd hml0 hP hK
  obtain ⟨rfl, hZ, hh⟩ := hP
  have hx := Bd.exec
  have hby := Bd.bytes
  have hml : c.maxLocals = 6 := hml0
  have hown : s.vm.findClass "com/example/weftbind/weftbind/Routes" = some m.cls := findClass_of_methodNamed Bd.named
  have hnm := (name_of_methodNamed Bd.named Bd.method).1
  have hlk := Bd.notSynchronized
  have hrt := Bd.returns
  have X0 : Stand p l e ({ frames := 0, cells := 1, slots := 5, locals := 0 } : Room) s m #[(.ref a1)] below meth c s₁ [] 0 0 := Stand.of_body Bd
  have e0 : s₁.heap = h0 := by rw [← hh, Bd.state]; rfl
  have N0 := Fr.nil n0
  show own_Ends p e below s (Q1 a1 k1 xs h0 n0 Z) ({ frames := 0, cells := 1, slots := 5, locals := 0 } : Room).cells ({ frames := 0, cells := 1, slots := 5, locals := 0 } : Room).slots (s₁.setTop (entryFrame m #[(.ref a1)] 6))
  rw [ef_1]
  have K0 : Keep h0 h0 [] := Keep.refl h0 []
  refine own_go (fun _ k => XT.iconstV X0.here hx rfl (0 : Int32) (hb hby d1_0) rfl <| XS.istoreN X0.here hx rfl (hb hby d1_1) rfl (l' := #[.val (.ref a1), .val (.int (0 : Int32)), .unset, .unset, .unset, .unset]) rfl <| XS.aloadN X0.here hx rfl (hb hby d1_2) rfl rfl <| XS.astoreN X0.here hx rfl (hb hby d1_3) rfl rfl (l' := #[.val (.ref a1), .val (.int (0 : Int32)), .val (.ref a1), .unset, .unset, .unset]) rfl <| XS.aloadN X0.here hx rfl (hb hby d1_4) rfl rfl <| k) ?_
  show own_Ends p e below s _ _ _ (s₁.setTop (mkF m 5 #[.val (.ref a1), .val (.int (0 : Int32)), .val (.ref a1), .unset, .unset, .unset] [(.ref a1)]))
  obtain ⟨cla1_5_1, Ara1_5_1, qqa1_5_1, Sza1_5_1, Nga1_5_1, Hsa1_5_1, Gfa1_5_1⟩ := id V1
  refine own_go (fun _ k => X0.arraylength hx (by first | exact Ara1_5_1.1 | (rw [e0]; exact Ara1_5_1.1)) (State.isArrayOf_alike hZ.alike Ara1_5_1.2.1) (g := (mkF m 5 #[.val (.ref a1), .val (.int (0 : Int32)), .val (.ref a1), .unset, .unset, .unset] [(.ref a1)])) rfl rfl (hb hby d1_5) _ k) ?_
  rw [len_of Sza1_5_1 Nga1_5_1]
  show own_Ends p e below s _ _ _ (s₁.setTop (mkF m 6 #[.val (.ref a1), .val (.int (0 : Int32)), .val (.ref a1), .unset, .unset, .unset] [(.int (5 : Int32))]))
  refine own_go (fun _ k => XS.istoreN X0.here hx rfl (hb hby d1_6) rfl (l' := #[.val (.ref a1), .val (.int (0 : Int32)), .val (.ref a1), .val (.int (5 : Int32)), .unset, .unset]) rfl <| XT.iconstV X0.here hx rfl (0 : Int32) (hb hby d1_7) rfl <| XS.istore X0.here hx rfl (hb hby d1_8) rfl (l' := #[.val (.ref a1), .val (.int (0 : Int32)), .val (.ref a1), .val (.int (5 : Int32)), .val (.int (0 : Int32)), .unset]) rfl <| k) ?_
  show own_Ends p e below s _ _ _ (s₁.setTop (mkF m 10 #[.val (.ref a1), .val (.int (0 : Int32)), .val (.ref a1), .val (.int (5 : Int32)), .val (.int (0 : Int32)), .unset] []))
  have loop1 : ∀ (k j : Nat), j + k = 5 → ∀ (T : State) (s5 : Slot), One s5 → Stand p l e ({ frames := 0, cells := 1, slots := 5, locals := 0 } : Room) s m #[(.ref a1)] below meth c T [] 0 0 → T.heap = h0 → own_Ends p e below s (Q1 a1 k1 xs h0 n0 Z) ({ frames := 0, cells := 1, slots := 5, locals := 0 } : Room).cells ({ frames := 0, cells := 1, slots := 5, locals := 0 } : Room).slots (T.setTop (mkF m 10 #[.val (.ref a1), .val (.int (Int32.ofNat (own_c xs j))), .val (.ref a1), .val (.int (5 : Int32)), .val (.int (Int32.ofNat j)), s5] [])) := by
    intro k
    induction k with
    | zero =>
      intro j hj T s5 hs5 XL eL
      obtain rfl : j = 5 := by omega
      show own_Ends p e below s _ _ _ (T.setTop (mkF m 10 #[.val (.ref a1), .val (.int (Int32.ofNat (own_c xs 5))), .val (.ref a1), .val (.int (5 : Int32)), .val (.int (Int32.ofNat 5)), s5] []))
      refine own_go (fun _ k => XS.iload XL.here hx rfl (hb hby d1_10) rfl <| XS.iloadN XL.here hx rfl (hb hby d1_12) rfl <| XS.icmpYes XL.here hx rfl (pc0 := 13) (pc' := 41) rfl (hb hby d1_13) rfl (flt (by decide)).2.1 (by decide) (by decide) <| XS.iloadN XL.here hx rfl (hb hby d1_41) rfl <| k) ?_
      show own_Ends p e below s _ _ _ (T.setTop (mkF m 42 #[.val (.ref a1), .val (.int (Int32.ofNat (own_c xs 5))), .val (.ref a1), .val (.int (5 : Int32)), .val (.int (Int32.ofNat 5)), s5] [(.int (Int32.ofNat (own_c xs 5)))]))
      obtain ⟨T2, h2, k2, X2, e2, E2, A2, st2⟩ := newP XL hx hZ (hw _ (List.mem_of_getElem? (i := 0) rfl)) eL (g := (mkF m 42 #[.val (.ref a1), .val (.int (Int32.ofNat (own_c xs 5))), .val (.ref a1), .val (.int (5 : Int32)), .val (.int (Int32.ofNat 5)), s5] [(.int (Int32.ofNat (own_c xs 5)))])) rfl (hb hby d1_42) rfl (own_nneg (Nat.lt_of_le_of_lt (own_c_le xs 5) (by decide))) (cap := 5) (by rw [own_clamp (Nat.lt_of_le_of_lt (own_c_le xs 5) (by decide))]; exact own_c_le xs 5) (by decide) (by decide) (by decide)
      obtain ⟨b2, g2⟩ : ∃ z, z = h0.size := ⟨_, rfl⟩
      rw [← g2] at A2 st2
      refine own_go st2 ?_
      have ne_a1_b2 : a1 ≠ b2 := Nat.ne_of_lt (Nat.lt_of_lt_of_le V1.lt (Nat.le_of_eq g2.symm))
      have g_b2 : n0 ≤ b2 := Nat.le_trans Z0 (Nat.le_of_eq g2.symm)
      have sz_b2 : h0.size ≤ b2 := Nat.le_trans K0.1 (Nat.le_of_eq g2.symm)
      have V1'2 := V1.ext E2
      have Z2 := Nat.le_trans Z0 E2.1
      have K2' := K0.ext E2
      have V_b2 : Arv Z h2 b2 k2 .int (Int32.ofNat (own_c xs 5)) [] (.int (0 : Int32)) := Arv.new A2 (own_nneg (Nat.lt_of_le_of_lt (own_c_le xs 5) (by decide)))
      show own_Ends p e below s _ _ _ (T2.setTop (mkF m 44 #[.val (.ref a1), .val (.int (Int32.ofNat (own_c xs 5))), .val (.ref a1), .val (.int (5 : Int32)), .val (.int (Int32.ofNat 5)), s5] [(.ref b2)]))
      refine own_go (fun _ k => XS.astoreN X2.here hx rfl (hb hby d1_44) rfl rfl (l' := #[.val (.ref a1), .val (.int (Int32.ofNat (own_c xs 5))), .val (.ref b2), .val (.int (5 : Int32)), .val (.int (Int32.ofNat 5)), s5]) rfl <| XT.iconstV X2.here hx rfl (0 : Int32) (hb hby d1_45) rfl <| XS.istoreN X2.here hx rfl (hb hby d1_46) rfl (l' := #[.val (.ref a1), .val (.int (Int32.ofNat (own_c xs 5))), .val (.ref b2), .val (.int (0 : Int32)), .val (.int (Int32.ofNat 5)), s5]) rfl <| XT.iconstV X2.here hx rfl (0 : Int32) (hb hby d1_47) rfl <| XS.istore X2.here hx rfl (hb hby d1_48) rfl (l' := #[.val (.ref a1), .val (.int (Int32.ofNat (own_c xs 5))), .val (.ref b2), .val (.int (0 : Int32)), .val (.int (0 : Int32)), s5]) rfl <| k) ?_
      show own_Ends p e below s _ _ _ (T2.setTop (mkF m 50 #[.val (.ref a1), .val (.int (Int32.ofNat (own_c xs 5))), .val (.ref b2), .val (.int (0 : Int32)), .val (.int (0 : Int32)), s5] []))
      have loop2 : ∀ (k j : Nat), j + k = 5 → ∀ (T : State) (h : Heap) (locs : List Loc), Stand p l e ({ frames := 0, cells := 1, slots := 5, locals := 0 } : Room) s m #[(.ref a1)] below meth c T locs (0 + 1) (0 + 5) → T.heap = h → Fr n0 locs → Keep h0 h [] → Arv Z h b2 k2 .int (Int32.ofNat (own_c xs 5)) (own_v xs (own_c xs 5) j) (.int (0 : Int32)) → own_Ends p e below s (Q1 a1 k1 xs h0 n0 Z) ({ frames := 0, cells := 1, slots := 5, locals := 0 } : Room).cells ({ frames := 0, cells := 1, slots := 5, locals := 0 } : Room).slots (T.setTop (mkF m 50 #[.val (.ref a1), .val (.int (Int32.ofNat (own_c xs 5))), .val (.ref b2), .val (.int (Int32.ofNat (own_c xs j))), .val (.int (Int32.ofNat j)), s5] [])) := by
        intro k
        induction k with
        | zero =>
          intro j hj T h locs XM eM NM KM VM
          have V1 : Arv Z h a1 k1 .int (5 : Int32) (xs.map Value.int) (.int (0 : Int32)) := V1.keep KM nin0
          have ZM := Nat.le_trans Z0 KM.1
          obtain rfl : j = 5 := by omega
          show own_Ends p e below s _ _ _ (T.setTop (mkF m 50 #[.val (.ref a1), .val (.int (Int32.ofNat (own_c xs 5))), .val (.ref b2), .val (.int (Int32.ofNat (own_c xs 5))), .val (.int (Int32.ofNat 5)), s5] []))
          refine own_go (fun _ k => XS.iload XM.here hx rfl (hb hby d1_50) rfl <| XS.aloadN XM.here hx rfl (hb hby d1_52) rfl rfl <| k) ?_
          show own_Ends p e below s _ _ _ (T.setTop (mkF m 53 #[.val (.ref a1), .val (.int (Int32.ofNat (own_c xs 5))), .val (.ref b2), .val (.int (Int32.ofNat (own_c xs 5))), .val (.int (Int32.ofNat 5)), s5] [(.ref a1), (.int (Int32.ofNat 5))]))
          obtain ⟨cla1_53_3, Ara1_53_3, qqa1_53_3, Sza1_53_3, Nga1_53_3, Hsa1_53_3, Gfa1_53_3⟩ := id V1
          refine own_go (fun _ k => XM.arraylength hx (by first | exact Ara1_53_3.1 | (rw [eM]; exact Ara1_53_3.1)) (State.isArrayOf_alike hZ.alike Ara1_53_3.2.1) (g := (mkF m 53 #[.val (.ref a1), .val (.int (Int32.ofNat (own_c xs 5))), .val (.ref b2), .val (.int (Int32.ofNat (own_c xs 5))), .val (.int (Int32.ofNat 5)), s5] [(.ref a1), (.int (Int32.ofNat 5))])) rfl rfl (hb hby d1_53) _ k) ?_
          rw [len_of Sza1_53_3 Nga1_53_3]
          show own_Ends p e below s _ _ _ (T.setTop (mkF m 54 #[.val (.ref a1), .val (.int (Int32.ofNat (own_c xs 5))), .val (.ref b2), .val (.int (Int32.ofNat (own_c xs 5))), .val (.int (Int32.ofNat 5)), s5] [(.int (5 : Int32)), (.int (Int32.ofNat 5))]))
          refine own_go (fun _ k => XS.icmpYes XM.here hx rfl (pc0 := 54) (pc' := 78) rfl (hb hby d1_54) rfl (flt (by decide)).2.1 (by decide) (by decide) <| XS.aloadN XM.here hx rfl (hb hby d1_78) rfl rfl <| k) ?_
          show own_Ends p e below s _ _ _ (T.setTop (mkF m 79 #[.val (.ref a1), .val (.int (Int32.ofNat (own_c xs 5))), .val (.ref b2), .val (.int (Int32.ofNat (own_c xs 5))), .val (.int (Int32.ofNat 5)), s5] [(.ref b2)]))
          exact own_ret XM hx hrt rfl (Or.inr (Or.inr (Or.inr (Or.inr ⟨rfl, rfl, rfl⟩)))) (hb hby d1_79) hlk (by rw [eM]; exact ⟨_, _, rfl, NM, KM, g_b2, sz_b2, VM⟩) (by decide) (by decide)
        | succ k ih =>
          intro j hj T h locs XM eM NM KM VM
          have V1 : Arv Z h a1 k1 .int (5 : Int32) (xs.map Value.int) (.int (0 : Int32)) := V1.keep KM nin0
          have ZM := Nat.le_trans Z0 KM.1
          refine own_go (fun _ k => XS.iload XM.here hx rfl (hb hby d1_50) rfl <| XS.aloadN XM.here hx rfl (hb hby d1_52) rfl rfl <| k) ?_
          show own_Ends p e below s _ _ _ (T.setTop (mkF m 53 #[.val (.ref a1), .val (.int (Int32.ofNat (own_c xs 5))), .val (.ref b2), .val (.int (Int32.ofNat (own_c xs j))), .val (.int (Int32.ofNat j)), s5] [(.ref a1), (.int (Int32.ofNat j))]))
          obtain ⟨cla1_53_4, Ara1_53_4, qqa1_53_4, Sza1_53_4, Nga1_53_4, Hsa1_53_4, Gfa1_53_4⟩ := id V1
          refine own_go (fun _ k => XM.arraylength hx (by first | exact Ara1_53_4.1 | (rw [eM]; exact Ara1_53_4.1)) (State.isArrayOf_alike hZ.alike Ara1_53_4.2.1) (g := (mkF m 53 #[.val (.ref a1), .val (.int (Int32.ofNat (own_c xs 5))), .val (.ref b2), .val (.int (Int32.ofNat (own_c xs j))), .val (.int (Int32.ofNat j)), s5] [(.ref a1), (.int (Int32.ofNat j))])) rfl rfl (hb hby d1_53) _ k) ?_
          rw [len_of Sza1_53_4 Nga1_53_4]
          show own_Ends p e below s _ _ _ (T.setTop (mkF m 54 #[.val (.ref a1), .val (.int (Int32.ofNat (own_c xs 5))), .val (.ref b2), .val (.int (Int32.ofNat (own_c xs j))), .val (.int (Int32.ofNat j)), s5] [(.int (5 : Int32)), (.int (Int32.ofNat j))]))
          refine own_go (fun _ k => XS.icmpNo XM.here hx rfl (hb hby d1_54) rfl (tlt ((own_ofNat_lt (n := 5) (by omega) (by decide)).mpr (by omega))).2.1 <| XS.aloadN XM.here hx rfl (hb hby d1_57) rfl rfl <| XS.iload XM.here hx rfl (hb hby d1_58) rfl <| k) ?_
          show own_Ends p e below s _ _ _ (T.setTop (mkF m 60 #[.val (.ref a1), .val (.int (Int32.ofNat (own_c xs 5))), .val (.ref b2), .val (.int (Int32.ofNat (own_c xs j))), .val (.int (Int32.ofNat j)), s5] [(.int (Int32.ofNat j)), (.ref a1)]))
          obtain ⟨cla1_60_5, Ara1_60_5, qqa1_60_5, Sza1_60_5, Nga1_60_5, Hsa1_60_5, Gfa1_60_5⟩ := id V1
          have hina1_60_5 : ¬ ((Int32.ofNat j) < 0 ∨ cla1_60_5.slots.size ≤ ((Int32.ofNat j)).toNatClampNeg) := inb_of Sza1_60_5 ⟨own_nneg (by omega), (own_ofNat_lt (n := 5) (by omega) (by decide)).mpr (by omega)⟩
          have hata1_60_5 : cla1_60_5.slots[((Int32.ofNat j)).toNatClampNeg]? = some (.int (xs.getD j 0)) := Hsa1_60_5.at hina1_60_5 (own_getD xs (by omega))
          refine own_go (fun _ k => XM.iaload hx (j := (Int32.ofNat j)) (v := (.int (xs.getD j 0))) (by first | exact Ara1_60_5.1 | (rw [eM]; exact Ara1_60_5.1)) (State.isArrayOf_alike hZ.alike Ara1_60_5.2.1) Ara1_60_5.2.2 hina1_60_5 hata1_60_5 (g := (mkF m 60 #[.val (.ref a1), .val (.int (Int32.ofNat (own_c xs 5))), .val (.ref b2), .val (.int (Int32.ofNat (own_c xs j))), .val (.int (Int32.ofNat j)), s5] [(.int (Int32.ofNat j)), (.ref a1)])) rfl rfl (hb hby d1_60) _ k) ?_
          show own_Ends p e below s _ _ _ (T.setTop (mkF m 61 #[.val (.ref a1), .val (.int (Int32.ofNat (own_c xs 5))), .val (.ref b2), .val (.int (Int32.ofNat (own_c xs j))), .val (.int (Int32.ofNat j)), s5] [(.int (xs.getD j 0))]))
          by_cases hc61_6 : (xs.getD j 0) < (0 : Int32)
          · -- true
            refine own_go (fun _ k => XS.ifYes XM.here hx rfl (pc0 := 61) (pc' := 72) rfl (hb hby d1_61) rfl ((if0 _ _).trans (tlt hc61_6).1) (by decide) (by decide) <| XT.iincV XM.here hx rfl (1 : Int32) (hb hby d1_72) rfl rfl (l' := #[.val (.ref a1), .val (.int (Int32.ofNat (own_c xs 5))), .val (.ref b2), .val (.int (Int32.ofNat (own_c xs j))), .val (.int ((Int32.ofNat j) + (1 : Int32))), s5]) rfl <| XS.goto XM.here hx rfl (pc0 := 75) (pc' := 50) rfl (hb hby d1_75) (by decide) (by decide) <| k) ?_
            show own_Ends p e below s _ _ _ (T.setTop (mkF m 50 #[.val (.ref a1), .val (.int (Int32.ofNat (own_c xs 5))), .val (.ref b2), .val (.int (Int32.ofNat (own_c xs j))), .val (.int ((Int32.ofNat j) + (1 : Int32))), s5] []))
            have hcj := own_c_neg hc61_6
            have hvj := own_v_neg (n := own_c xs 5) hc61_6
            rw [← hvj] at VM
            have q := ih (j + 1) (by omega) _ _ _ XM eM NM KM VM
            rw [hcj] at q
            rw [own_up]
            exact q
          · -- false
            refine own_go (fun _ k => XS.ifNo XM.here hx rfl (hb hby d1_61) rfl ((if0 _ _).trans (flt hc61_6).1) <| XS.aloadN XM.here hx rfl (hb hby d1_64) rfl rfl <| XS.iloadN XM.here hx rfl (hb hby d1_65) rfl <| XT.iincV XM.here hx rfl (1 : Int32) (hb hby d1_66) rfl rfl (l' := #[.val (.ref a1), .val (.int (Int32.ofNat (own_c xs 5))), .val (.ref b2), .val (.int ((Int32.ofNat (own_c xs j)) + (1 : Int32))), .val (.int (Int32.ofNat j)), s5]) rfl <| XS.iload XM.here hx rfl (hb hby d1_69) rfl <| k) ?_
            show own_Ends p e below s _ _ _ (T.setTop (mkF m 71 #[.val (.ref a1), .val (.int (Int32.ofNat (own_c xs 5))), .val (.ref b2), .val (.int ((Int32.ofNat (own_c xs j)) + (1 : Int32))), .val (.int (Int32.ofNat j)), s5] [(.int (Int32.ofNat j)), (.int (Int32.ofNat (own_c xs j))), (.ref b2)]))
            obtain ⟨clb2_71_7, Arb2_71_7, qqb2_71_7, Szb2_71_7, Ngb2_71_7, Hsb2_71_7, Gfb2_71_7⟩ := id VM
            have hinb2_71_7 : ¬ ((Int32.ofNat (own_c xs j)) < 0 ∨ clb2_71_7.slots.size ≤ ((Int32.ofNat (own_c xs j))).toNatClampNeg) := inb_of Szb2_71_7 ⟨own_nneg (Nat.lt_of_le_of_lt (own_c_le xs j) (by omega)), (own_ofNat_lt (Nat.lt_of_le_of_lt (own_c_le xs j) (by omega)) (Nat.lt_of_le_of_lt (own_c_le xs 5) (by decide))).mpr (own_c_lt hc61_6 (by omega))⟩
            obtain ⟨T8, h8, X8, e8, W8, st8⟩ := stI XM hx hZ eM Arb2_71_7 (j := (Int32.ofNat (own_c xs j))) hinb2_71_7 (g := (mkF m 71 #[.val (.ref a1), .val (.int (Int32.ofNat (own_c xs 5))), .val (.ref b2), .val (.int ((Int32.ofNat (own_c xs j)) + (1 : Int32))), .val (.int (Int32.ofNat j)), s5] [(.int (Int32.ofNat j)), (.int (Int32.ofNat (own_c xs j))), (.ref b2)])) rfl rfl (hb hby d1_71)
            refine own_go st8 ?_
            have V1'8 := V1.other W8 ne_a1_b2
            have Z8 := Nat.le_trans ZM (Keep.of_wr W8).1
            have K8' := KM.wr W8 (Or.inr sz_b2)
            have N8 := Fr.snoc X8 NM g_b2
            have VM'8 : Arv Z h8 b2 k2 .int (Int32.ofNat (own_c xs 5)) ((own_v xs (own_c xs 5) j).set (own_c xs j) (.int (Int32.ofNat j))) (.int (0 : Int32)) := Arv.set Arb2_71_7 qqb2_71_7 Szb2_71_7 Ngb2_71_7 Hsb2_71_7 Gfb2_71_7 rfl W8 (own_c xs j) (own_clamp (Nat.lt_of_le_of_lt (own_c_le xs j) (by omega))) (by rw [own_v_len]; exact own_c_lt hc61_6 (by omega))
            show own_Ends p e below s _ _ _ (T8.setTop (mkF m 72 #[.val (.ref a1), .val (.int (Int32.ofNat (own_c xs 5))), .val (.ref b2), .val (.int ((Int32.ofNat (own_c xs j)) + (1 : Int32))), .val (.int (Int32.ofNat j)), s5] []))
            refine own_go (fun _ k => XT.iincV X8.here hx rfl (1 : Int32) (hb hby d1_72) rfl rfl (l' := #[.val (.ref a1), .val (.int (Int32.ofNat (own_c xs 5))), .val (.ref b2), .val (.int ((Int32.ofNat (own_c xs j)) + (1 : Int32))), .val (.int ((Int32.ofNat j) + (1 : Int32))), s5]) rfl <| XS.goto X8.here hx rfl (pc0 := 75) (pc' := 50) rfl (hb hby d1_75) (by decide) (by decide) <| k) ?_
            show own_Ends p e below s _ _ _ (T8.setTop (mkF m 50 #[.val (.ref a1), .val (.int (Int32.ofNat (own_c xs 5))), .val (.ref b2), .val (.int ((Int32.ofNat (own_c xs j)) + (1 : Int32))), .val (.int ((Int32.ofNat j) + (1 : Int32))), s5] []))
            have hcj := own_c_pos hc61_6
            have hvj := own_v_pos (n := own_c xs 5) hc61_6
            rw [← hvj] at VM'8
            have q := ih (j + 1) (by omega) _ _ _ X8 e8 N8 K8' VM'8
            rw [hcj] at q
            rw [own_up]
            rw [own_up]; exact q
      exact loop2 5 0 rfl _ _ _ X2 e2 N0 K2' (V_b2.pad (fun i => by rw [show own_v xs (own_c xs 5) 0 = [] ++ List.replicate (own_c xs 5) (.int (0 : Int32)) from (List.nil_append _).symm]; exact pad_rep [] _ _ i))
    | succ k ih =>
      intro j hj T s5 hs5 XL eL
      refine own_go (fun _ k => XS.iload XL.here hx rfl (hb hby d1_10) rfl <| XS.iloadN XL.here hx rfl (hb hby d1_12) rfl <| XS.icmpNo XL.here hx rfl (hb hby d1_13) rfl (tlt ((own_ofNat_lt (n := 5) (by omega) (by decide)).mpr (by omega))).2.1 <| XS.aloadN XL.here hx rfl (hb hby d1_16) rfl rfl <| XS.iload XL.here hx rfl (hb hby d1_17) rfl <| k) ?_
      show own_Ends p e below s _ _ _ (T.setTop (mkF m 19 #[.val (.ref a1), .val (.int (Int32.ofNat (own_c xs j))), .val (.ref a1), .val (.int (5 : Int32)), .val (.int (Int32.ofNat j)), s5] [(.int (Int32.ofNat j)), (.ref a1)]))
      obtain ⟨cla1_19_9, Ara1_19_9, qqa1_19_9, Sza1_19_9, Nga1_19_9, Hsa1_19_9, Gfa1_19_9⟩ := id V1
      have hina1_19_9 : ¬ ((Int32.ofNat j) < 0 ∨ cla1_19_9.slots.size ≤ ((Int32.ofNat j)).toNatClampNeg) := inb_of Sza1_19_9 ⟨own_nneg (by omega), (own_ofNat_lt (n := 5) (by omega) (by decide)).mpr (by omega)⟩
      have hata1_19_9 : cla1_19_9.slots[((Int32.ofNat j)).toNatClampNeg]? = some (.int (xs.getD j 0)) := Hsa1_19_9.at hina1_19_9 (own_getD xs (by omega))
      refine own_go (fun _ k => XL.iaload hx (j := (Int32.ofNat j)) (v := (.int (xs.getD j 0))) (by first | exact Ara1_19_9.1 | (rw [eL]; exact Ara1_19_9.1)) (State.isArrayOf_alike hZ.alike Ara1_19_9.2.1) Ara1_19_9.2.2 hina1_19_9 hata1_19_9 (g := (mkF m 19 #[.val (.ref a1), .val (.int (Int32.ofNat (own_c xs j))), .val (.ref a1), .val (.int (5 : Int32)), .val (.int (Int32.ofNat j)), s5] [(.int (Int32.ofNat j)), (.ref a1)])) rfl rfl (hb hby d1_19) _ k) ?_
      show own_Ends p e below s _ _ _ (T.setTop (mkF m 20 #[.val (.ref a1), .val (.int (Int32.ofNat (own_c xs j))), .val (.ref a1), .val (.int (5 : Int32)), .val (.int (Int32.ofNat j)), s5] [(.int (xs.getD j 0))]))
      refine own_go (fun _ k => XS.istoreS XL.here hx rfl (hb hby d1_20) rfl rfl hs5 <| k) ?_
      show own_Ends p e below s _ _ _ (T.setTop (mkF m 22 #[.val (.ref a1), .val (.int (Int32.ofNat (own_c xs j))), .val (.ref a1), .val (.int (5 : Int32)), .val (.int (Int32.ofNat j)), .val (.int (xs.getD j 0))] []))
      refine own_go (fun _ k => XS.iloadN XL.here hx rfl (hb hby d1_22) rfl <| XS.iload XL.here hx rfl (hb hby d1_23) rfl <| k) ?_
      show own_Ends p e below s _ _ _ (T.setTop (mkF m 25 #[.val (.ref a1), .val (.int (Int32.ofNat (own_c xs j))), .val (.ref a1), .val (.int (5 : Int32)), .val (.int (Int32.ofNat j)), .val (.int (xs.getD j 0))] [(.int (xs.getD j 0)), (.int (Int32.ofNat (own_c xs j)))]))
      by_cases hc25_10 : (xs.getD j 0) < (0 : Int32)
      · -- true
        refine own_go (fun _ k => XS.ifYes XL.here hx rfl (pc0 := 25) (pc' := 32) rfl (hb hby d1_25) rfl ((if0 _ _).trans (tlt hc25_10).1) (by decide) (by decide) <| XT.iconstV XL.here hx rfl (0 : Int32) (hb hby d1_32) rfl <| XS.iadd XL.here hx rfl (hb hby d1_33) rfl <| XS.istoreN XL.here hx rfl (hb hby d1_34) rfl (l' := #[.val (.ref a1), .val (.int ((Int32.ofNat (own_c xs j)) + (0 : Int32))), .val (.ref a1), .val (.int (5 : Int32)), .val (.int (Int32.ofNat j)), .val (.int (xs.getD j 0))]) rfl <| XT.iincV XL.here hx rfl (1 : Int32) (hb hby d1_35) rfl rfl (l' := #[.val (.ref a1), .val (.int ((Int32.ofNat (own_c xs j)) + (0 : Int32))), .val (.ref a1), .val (.int (5 : Int32)), .val (.int ((Int32.ofNat j) + (1 : Int32))), .val (.int (xs.getD j 0))]) rfl <| XS.goto XL.here hx rfl (pc0 := 38) (pc' := 10) rfl (hb hby d1_38) (by decide) (by decide) <| k) ?_
        show own_Ends p e below s _ _ _ (T.setTop (mkF m 10 #[.val (.ref a1), .val (.int ((Int32.ofNat (own_c xs j)) + (0 : Int32))), .val (.ref a1), .val (.int (5 : Int32)), .val (.int ((Int32.ofNat j) + (1 : Int32))), .val (.int (xs.getD j 0))] []))
        have hcj := own_c_neg hc25_10
        have q := ih (j + 1) (by omega) _ (.val (.int (xs.getD j 0))) (One.val rfl) XL eL
        rw [hcj] at q
        rw [own_up]
        rw [Int32.add_zero]; exact q
      · -- false
        refine own_go (fun _ k => XS.ifNo XL.here hx rfl (hb hby d1_25) rfl ((if0 _ _).trans (flt hc25_10).1) <| XT.iconstV XL.here hx rfl (1 : Int32) (hb hby d1_28) rfl <| XS.goto XL.here hx rfl (pc0 := 29) (pc' := 33) rfl (hb hby d1_29) (by decide) (by decide) <| XS.iadd XL.here hx rfl (hb hby d1_33) rfl <| XS.istoreN XL.here hx rfl (hb hby d1_34) rfl (l' := #[.val (.ref a1), .val (.int ((Int32.ofNat (own_c xs j)) + (1 : Int32))), .val (.ref a1), .val (.int (5 : Int32)), .val (.int (Int32.ofNat j)), .val (.int (xs.getD j 0))]) rfl <| XT.iincV XL.here hx rfl (1 : Int32) (hb hby d1_35) rfl rfl (l' := #[.val (.ref a1), .val (.int ((Int32.ofNat (own_c xs j)) + (1 : Int32))), .val (.ref a1), .val (.int (5 : Int32)), .val (.int ((Int32.ofNat j) + (1 : Int32))), .val (.int (xs.getD j 0))]) rfl <| XS.goto XL.here hx rfl (pc0 := 38) (pc' := 10) rfl (hb hby d1_38) (by decide) (by decide) <| k) ?_
        show own_Ends p e below s _ _ _ (T.setTop (mkF m 10 #[.val (.ref a1), .val (.int ((Int32.ofNat (own_c xs j)) + (1 : Int32))), .val (.ref a1), .val (.int (5 : Int32)), .val (.int ((Int32.ofNat j) + (1 : Int32))), .val (.int (xs.getD j 0))] []))
        have hcj := own_c_pos hc25_10
        have q := ih (j + 1) (by omega) _ (.val (.int (xs.getD j 0))) (One.val rfl) XL eL
        rw [hcj] at q
        rw [own_up]
        rw [own_up]; exact q
  exact loop1 5 0 rfl _ _ One.u X0 e0
theorem pn_1 : plainName "com/example/weftbind/weftbind/RoutesBoundTasksPinLaw" = true := by first | (simp [plainName, overriddenIn]; done) | decide +kernel
theorem ef_0 (m : MethodId) (x0 : Int32) (x1 : Int32) (x2 : Int32) (x3 : Int32) (x4 : Int32) : entryFrame m #[(.int x0), (.int x1), (.int x2), (.int x3), (.int x4)] maxLocals = mkF m 0 #[.val (.int x0), .val (.int x1), .val (.int x2), .val (.int x3), .val (.int x4), .unset, .unset, .unset, .unset] [] := by first | (simp [entryFrame, mkF, argsToLocals, Value.category, maxLocals]; done) | rfl
def Q0 (p1 : Int32) (p2 : Int32) (p3 : Int32) (p4 : Int32) (p5 : Int32) (h0 : Heap) (n0 : Nat) (Z : State) (v : Option Value) (h : Heap) (L : List Loc) : Prop := v = some (.int 1) ∧ Fr n0 L
set_option maxRecDepth 65536 in
set_option maxHeartbeats 40000000 in
theorem rm0 (l : Launch) (Z : State) (a0 : Array Value) (hw : ∀ d ∈ tables_1, d.before a0 Z = true) (ws : List Jvm.Cond) (p1 : Int32) (p2 : Int32) (p3 : Int32) (p4 : Int32) (p5 : Int32) (h0 : Heap) (n0 : Nat) (Z0 : n0 ≤ h0.size) :
    MetFree l x (head1 (Jvm.Cond.code x code maxLocals ret :: ws) room_1) (fun a U => a = #[(.int p1), (.int p2), (.int p3), (.int p4), (.int p5)] ∧ Z.Warmed39 U.vm ∧ U.heap = h0) (fun _ _ _ _ _ => True) (fun _ U o U' => ∃ v L, o = .returned v ∧ Q0 p1 p2 p3 p4 p5 h0 n0 Z v U'.heap L ∧ FrameEnd U o U' L room_1.cells room_1.slots) := by
  refine MetFree.of_bodySF (plainFor_of_name pn_1) hisR ?_
  intro p e s m args below meth c s₁ Bd hml0 hP hK
  obtain ⟨rfl, hZ, hh⟩ := hP
  have hx := Bd.exec
  have hby := Bd.bytes
  have hml : c.maxLocals = 9 := hml0
  have hown : s.vm.findClass "com/example/weftbind/weftbind/RoutesBoundTasksPinLaw" = some m.cls := findClass_of_methodNamed Bd.named
  have hnm := (name_of_methodNamed Bd.named Bd.method).1
  have hlk := Bd.notSynchronized
  have hrt := Bd.returns
  have X0 : Stand p l e room_1 s m #[(.int p1), (.int p2), (.int p3), (.int p4), (.int p5)] below meth c s₁ [] 0 0 := Stand.of_body Bd
  have e0 : s₁.heap = h0 := by rw [← hh, Bd.state]; rfl
  have N0 := Fr.nil n0
  show own_Ends p e below s (Q0 p1 p2 p3 p4 p5 h0 n0 Z) room_1.cells room_1.slots (s₁.setTop (entryFrame m #[(.int p1), (.int p2), (.int p3), (.int p4), (.int p5)] maxLocals))
  rw [ef_0]
  refine own_go (fun _ k => XT.iconstV X0.here hx rfl (5 : Int32) (hb hby at_0) rfl <| k) ?_
  show own_Ends p e below s _ _ _ (s₁.setTop (mkF m 1 #[.val (.int p1), .val (.int p2), .val (.int p3), .val (.int p4), .val (.int p5), .unset, .unset, .unset, .unset] [(.int (5 : Int32))]))
  obtain ⟨T1, h1, k1, X1, e1, E1, A1, st1⟩ := newP X0 hx hZ (hw _ (List.mem_of_getElem? (i := 0) rfl)) e0 (g := (mkF m 1 #[.val (.int p1), .val (.int p2), .val (.int p3), .val (.int p4), .val (.int p5), .unset, .unset, .unset, .unset] [(.int (5 : Int32))])) rfl (hb hby at_1) rfl (by decide) (cap := 5) (by decide) (by decide) (by decide) (by decide)
  obtain ⟨b1, g1⟩ : ∃ z, z = h0.size := ⟨_, rfl⟩
  rw [← g1] at A1 st1
  refine own_go st1 ?_
  have g_b1 : n0 ≤ b1 := Nat.le_trans Z0 (Nat.le_of_eq g1.symm)
  have Z1 := Nat.le_trans Z0 E1.1
  have V_b1 : Arv Z h1 b1 k1 .int (5 : Int32) [(.int (0 : Int32)), (.int (0 : Int32)), (.int (0 : Int32)), (.int (0 : Int32)), (.int (0 : Int32))] (.int (0 : Int32)) := (Arv.new A1 (by decide)).pad (pad_rep [] (.int (0 : Int32)) 5)
  show own_Ends p e below s _ _ _ (T1.setTop (mkF m 3 #[.val (.int p1), .val (.int p2), .val (.int p3), .val (.int p4), .val (.int p5), .unset, .unset, .unset, .unset] [(.ref b1)]))
  refine own_go (fun _ k => XS.astore X1.here hx rfl (hb hby at_3) rfl rfl (l' := #[.val (.int p1), .val (.int p2), .val (.int p3), .val (.int p4), .val (.int p5), .val (.ref b1), .unset, .unset, .unset]) rfl <| XS.aload X1.here hx rfl (hb hby at_5) rfl rfl <| XT.iconstV X1.here hx rfl (0 : Int32) (hb hby at_7) rfl <| XS.iloadN X1.here hx rfl (hb hby at_8) rfl <| k) ?_
  show own_Ends p e below s _ _ _ (T1.setTop (mkF m 9 #[.val (.int p1), .val (.int p2), .val (.int p3), .val (.int p4), .val (.int p5), .val (.ref b1), .unset, .unset, .unset] [(.int p1), (.int (0 : Int32)), (.ref b1)]))
  obtain ⟨clb1_9_2, Arb1_9_2, qqb1_9_2, Szb1_9_2, Ngb1_9_2, Hsb1_9_2, Gfb1_9_2⟩ := id V_b1
  have hinb1_9_2 : ¬ ((0 : Int32) < 0 ∨ clb1_9_2.slots.size ≤ ((0 : Int32)).toNatClampNeg) := inb_of Szb1_9_2 ⟨by decide, by decide⟩
  obtain ⟨T3, h3, X3, e3, W3, st3⟩ := stI X1 hx hZ e1 Arb1_9_2 (j := (0 : Int32)) hinb1_9_2 (g := (mkF m 9 #[.val (.int p1), .val (.int p2), .val (.int p3), .val (.int p4), .val (.int p5), .val (.ref b1), .unset, .unset, .unset] [(.int p1), (.int (0 : Int32)), (.ref b1)])) rfl rfl (hb hby at_9)
  refine own_go st3 ?_
  have Z3 := Nat.le_trans Z1 (Keep.of_wr W3).1
  have N3 := Fr.snoc X3 N0 g_b1
  have V_b1'3 : Arv Z h3 b1 k1 .int (5 : Int32) [(.int p1), (.int (0 : Int32)), (.int (0 : Int32)), (.int (0 : Int32)), (.int (0 : Int32))] (.int (0 : Int32)) := Arv.set Arb1_9_2 qqb1_9_2 Szb1_9_2 Ngb1_9_2 Hsb1_9_2 Gfb1_9_2 rfl W3 0 rfl (Nat.le_of_ble_eq_true rfl)
  show own_Ends p e below s _ _ _ (T3.setTop (mkF m 10 #[.val (.int p1), .val (.int p2), .val (.int p3), .val (.int p4), .val (.int p5), .val (.ref b1), .unset, .unset, .unset] []))
  refine own_go (fun _ k => XS.aload X3.here hx rfl (hb hby at_10) rfl rfl <| XT.iconstV X3.here hx rfl (1 : Int32) (hb hby at_12) rfl <| XS.iloadN X3.here hx rfl (hb hby at_13) rfl <| k) ?_
  show own_Ends p e below s _ _ _ (T3.setTop (mkF m 14 #[.val (.int p1), .val (.int p2), .val (.int p3), .val (.int p4), .val (.int p5), .val (.ref b1), .unset, .unset, .unset] [(.int p2), (.int (1 : Int32)), (.ref b1)]))
  obtain ⟨clb1_14_4, Arb1_14_4, qqb1_14_4, Szb1_14_4, Ngb1_14_4, Hsb1_14_4, Gfb1_14_4⟩ := id V_b1'3
  have hinb1_14_4 : ¬ ((1 : Int32) < 0 ∨ clb1_14_4.slots.size ≤ ((1 : Int32)).toNatClampNeg) := inb_of Szb1_14_4 ⟨by decide, by decide⟩
  obtain ⟨T5, h5, X5, e5, W5, st5⟩ := stI X3 hx hZ e3 Arb1_14_4 (j := (1 : Int32)) hinb1_14_4 (g := (mkF m 14 #[.val (.int p1), .val (.int p2), .val (.int p3), .val (.int p4), .val (.int p5), .val (.ref b1), .unset, .unset, .unset] [(.int p2), (.int (1 : Int32)), (.ref b1)])) rfl rfl (hb hby at_14)
  refine own_go st5 ?_
  have Z5 := Nat.le_trans Z3 (Keep.of_wr W5).1
  have N5 := Fr.snoc X5 N3 g_b1
  have V_b1'5 : Arv Z h5 b1 k1 .int (5 : Int32) [(.int p1), (.int p2), (.int (0 : Int32)), (.int (0 : Int32)), (.int (0 : Int32))] (.int (0 : Int32)) := Arv.set Arb1_14_4 qqb1_14_4 Szb1_14_4 Ngb1_14_4 Hsb1_14_4 Gfb1_14_4 rfl W5 1 rfl (Nat.le_of_ble_eq_true rfl)
  show own_Ends p e below s _ _ _ (T5.setTop (mkF m 15 #[.val (.int p1), .val (.int p2), .val (.int p3), .val (.int p4), .val (.int p5), .val (.ref b1), .unset, .unset, .unset] []))
  refine own_go (fun _ k => XS.aload X5.here hx rfl (hb hby at_15) rfl rfl <| XT.iconstV X5.here hx rfl (2 : Int32) (hb hby at_17) rfl <| XS.iloadN X5.here hx rfl (hb hby at_18) rfl <| k) ?_
  show own_Ends p e below s _ _ _ (T5.setTop (mkF m 19 #[.val (.int p1), .val (.int p2), .val (.int p3), .val (.int p4), .val (.int p5), .val (.ref b1), .unset, .unset, .unset] [(.int p3), (.int (2 : Int32)), (.ref b1)]))
  obtain ⟨clb1_19_6, Arb1_19_6, qqb1_19_6, Szb1_19_6, Ngb1_19_6, Hsb1_19_6, Gfb1_19_6⟩ := id V_b1'5
  have hinb1_19_6 : ¬ ((2 : Int32) < 0 ∨ clb1_19_6.slots.size ≤ ((2 : Int32)).toNatClampNeg) := inb_of Szb1_19_6 ⟨by decide, by decide⟩
  obtain ⟨T7, h7, X7, e7, W7, st7⟩ := stI X5 hx hZ e5 Arb1_19_6 (j := (2 : Int32)) hinb1_19_6 (g := (mkF m 19 #[.val (.int p1), .val (.int p2), .val (.int p3), .val (.int p4), .val (.int p5), .val (.ref b1), .unset, .unset, .unset] [(.int p3), (.int (2 : Int32)), (.ref b1)])) rfl rfl (hb hby at_19)
  refine own_go st7 ?_
  have Z7 := Nat.le_trans Z5 (Keep.of_wr W7).1
  have N7 := Fr.snoc X7 N5 g_b1
  have V_b1'7 : Arv Z h7 b1 k1 .int (5 : Int32) [(.int p1), (.int p2), (.int p3), (.int (0 : Int32)), (.int (0 : Int32))] (.int (0 : Int32)) := Arv.set Arb1_19_6 qqb1_19_6 Szb1_19_6 Ngb1_19_6 Hsb1_19_6 Gfb1_19_6 rfl W7 2 rfl (Nat.le_of_ble_eq_true rfl)
  show own_Ends p e below s _ _ _ (T7.setTop (mkF m 20 #[.val (.int p1), .val (.int p2), .val (.int p3), .val (.int p4), .val (.int p5), .val (.ref b1), .unset, .unset, .unset] []))
  refine own_go (fun _ k => XS.aload X7.here hx rfl (hb hby at_20) rfl rfl <| XT.iconstV X7.here hx rfl (3 : Int32) (hb hby at_22) rfl <| XS.iloadN X7.here hx rfl (hb hby at_23) rfl <| k) ?_
  show own_Ends p e below s _ _ _ (T7.setTop (mkF m 24 #[.val (.int p1), .val (.int p2), .val (.int p3), .val (.int p4), .val (.int p5), .val (.ref b1), .unset, .unset, .unset] [(.int p4), (.int (3 : Int32)), (.ref b1)]))
  obtain ⟨clb1_24_8, Arb1_24_8, qqb1_24_8, Szb1_24_8, Ngb1_24_8, Hsb1_24_8, Gfb1_24_8⟩ := id V_b1'7
  have hinb1_24_8 : ¬ ((3 : Int32) < 0 ∨ clb1_24_8.slots.size ≤ ((3 : Int32)).toNatClampNeg) := inb_of Szb1_24_8 ⟨by decide, by decide⟩
  obtain ⟨T9, h9, X9, e9, W9, st9⟩ := stI X7 hx hZ e7 Arb1_24_8 (j := (3 : Int32)) hinb1_24_8 (g := (mkF m 24 #[.val (.int p1), .val (.int p2), .val (.int p3), .val (.int p4), .val (.int p5), .val (.ref b1), .unset, .unset, .unset] [(.int p4), (.int (3 : Int32)), (.ref b1)])) rfl rfl (hb hby at_24)
  refine own_go st9 ?_
  have Z9 := Nat.le_trans Z7 (Keep.of_wr W9).1
  have N9 := Fr.snoc X9 N7 g_b1
  have V_b1'9 : Arv Z h9 b1 k1 .int (5 : Int32) [(.int p1), (.int p2), (.int p3), (.int p4), (.int (0 : Int32))] (.int (0 : Int32)) := Arv.set Arb1_24_8 qqb1_24_8 Szb1_24_8 Ngb1_24_8 Hsb1_24_8 Gfb1_24_8 rfl W9 3 rfl (Nat.le_of_ble_eq_true rfl)
  show own_Ends p e below s _ _ _ (T9.setTop (mkF m 25 #[.val (.int p1), .val (.int p2), .val (.int p3), .val (.int p4), .val (.int p5), .val (.ref b1), .unset, .unset, .unset] []))
  refine own_go (fun _ k => XS.aload X9.here hx rfl (hb hby at_25) rfl rfl <| XT.iconstV X9.here hx rfl (4 : Int32) (hb hby at_27) rfl <| XS.iload X9.here hx rfl (hb hby at_28) rfl <| k) ?_
  show own_Ends p e below s _ _ _ (T9.setTop (mkF m 30 #[.val (.int p1), .val (.int p2), .val (.int p3), .val (.int p4), .val (.int p5), .val (.ref b1), .unset, .unset, .unset] [(.int p5), (.int (4 : Int32)), (.ref b1)]))
  obtain ⟨clb1_30_10, Arb1_30_10, qqb1_30_10, Szb1_30_10, Ngb1_30_10, Hsb1_30_10, Gfb1_30_10⟩ := id V_b1'9
  have hinb1_30_10 : ¬ ((4 : Int32) < 0 ∨ clb1_30_10.slots.size ≤ ((4 : Int32)).toNatClampNeg) := inb_of Szb1_30_10 ⟨by decide, by decide⟩
  obtain ⟨T11, h11, X11, e11, W11, st11⟩ := stI X9 hx hZ e9 Arb1_30_10 (j := (4 : Int32)) hinb1_30_10 (g := (mkF m 30 #[.val (.int p1), .val (.int p2), .val (.int p3), .val (.int p4), .val (.int p5), .val (.ref b1), .unset, .unset, .unset] [(.int p5), (.int (4 : Int32)), (.ref b1)])) rfl rfl (hb hby at_30)
  refine own_go st11 ?_
  have Z11 := Nat.le_trans Z9 (Keep.of_wr W11).1
  have N11 := Fr.snoc X11 N9 g_b1
  have V_b1'11 : Arv Z h11 b1 k1 .int (5 : Int32) [(.int p1), (.int p2), (.int p3), (.int p4), (.int p5)] (.int (0 : Int32)) := Arv.set Arb1_30_10 qqb1_30_10 Szb1_30_10 Ngb1_30_10 Hsb1_30_10 Gfb1_30_10 rfl W11 4 rfl (Nat.le_of_ble_eq_true rfl)
  show own_Ends p e below s _ _ _ (T11.setTop (mkF m 31 #[.val (.int p1), .val (.int p2), .val (.int p3), .val (.int p4), .val (.int p5), .val (.ref b1), .unset, .unset, .unset] []))
  refine own_go (fun _ k => XS.aload X11.here hx rfl (hb hby at_31) rfl rfl <| k) ?_
  show own_Ends p e below s _ _ _ (T11.setTop (mkF m 33 #[.val (.int p1), .val (.int p2), .val (.int p3), .val (.int p4), .val (.int p5), .val (.ref b1), .unset, .unset, .unset] [(.ref b1)]))
  obtain ⟨_, _, ⟨T12, L12, k12, n12⟩, -, X12, ⟨Lc12, hQ12, l12, y12, z12⟩, st12⟩ := Jvm.LawKit.callS X11 hx (y := (⟨"com/example/weftbind/weftbind/Routes", "boundTasks", "([I)[I"⟩ : MethodName)) hown (mvT hZ (hw _ (List.mem_of_getElem? (i := 1) rfl))) (mvT hZ (hw _ (List.mem_of_getElem? (i := 2) rfl))) (mvT hZ (hw _ (List.mem_of_getElem? (i := 3) rfl))) (mvT hZ (hw _ (List.mem_of_getElem? (i := 4) rfl))) (by decide) (backOf (W := 0) (rm1 l Z a0 hw [] b1 k1 [p1, p2, p3, p4, p5] h11 n0 Z11 V_b1'11) hZ (hw _ (List.mem_of_getElem? (i := 4) rfl)) (hw _ (List.mem_of_getElem? (i := 3) rfl)) (by decide) (by decide)) (g := (mkF m 33 #[.val (.int p1), .val (.int p2), .val (.int p3), .val (.int p4), .val (.int p5), .val (.ref b1), .unset, .unset, .unset] [(.ref b1)])) rfl (by rw [hml]; rfl) (argsL := [(.ref b1)]) (rest := []) (lenOf pd_0 rfl) rfl (by show 2 * 0 + _ ≤ _; exact Nat.le_of_eq rfl) (hb hby at_33) (fun _ _ => ⟨rfl, e11, Nat.le_of_ble_eq_true rfl, Nat.le_of_ble_eq_true rfl⟩)
  dsimp only [Pt.U, Pt.locs, Pt.cells, Pt.slots] at X12 l12 y12 z12 st12 hQ12
  subst l12 y12 z12
  obtain ⟨b12, kb12, rfl, N12q, K12, g12, sz12, Vb12⟩ := hQ12
  have N12 := Fr.app N11 N12q
  refine own_go (fun _ k => st12 _ k) ?_
  have V_b1'12 := V_b1'11.keep K12 nin0
  have Z12 := Nat.le_trans Z11 K12.1
  obtain ⟨xs, hxs⟩ : ∃ xs, xs = [p1, p2, p3, p4, p5] := ⟨_, rfl⟩
  rw [← hxs] at Vb12
  have hx0 : xs.getD 0 0 = p1 := by rw [hxs]; rfl
  have hx1 : xs.getD 1 0 = p2 := by rw [hxs]; rfl
  have hx2 : xs.getD 2 0 = p3 := by rw [hxs]; rfl
  have hx3 : xs.getD 3 0 = p4 := by rw [hxs]; rfl
  have hx4 : xs.getD 4 0 = p5 := by rw [hxs]; rfl
  have hk5 : own_c xs 5 < 2 ^ 31 := Nat.lt_of_le_of_lt (own_c_le xs 5) (by decide)
  have hk0 : own_c xs 0 < 2 ^ 31 := Nat.lt_of_le_of_lt (own_c_le xs 0) (by decide)
  have hk1 : own_c xs 1 < 2 ^ 31 := Nat.lt_of_le_of_lt (own_c_le xs 1) (by decide)
  have hk2 : own_c xs 2 < 2 ^ 31 := Nat.lt_of_le_of_lt (own_c_le xs 2) (by decide)
  have hk3 : own_c xs 3 < 2 ^ 31 := Nat.lt_of_le_of_lt (own_c_le xs 3) (by decide)
  have hk4 : own_c xs 4 < 2 ^ 31 := Nat.lt_of_le_of_lt (own_c_le xs 4) (by decide)
  show own_Ends p e below s _ _ _ (T12.setTop (mkF m 36 #[.val (.int p1), .val (.int p2), .val (.int p3), .val (.int p4), .val (.int p5), .val (.ref b1), .unset, .unset, .unset] [(.ref b12)]))
  refine own_go (fun _ k => XS.astore X12.here hx rfl (hb hby at_36) rfl rfl (l' := #[.val (.int p1), .val (.int p2), .val (.int p3), .val (.int p4), .val (.int p5), .val (.ref b1), .val (.ref b12), .unset, .unset]) rfl <| XS.aload X12.here hx rfl (hb hby at_38) rfl rfl <| XS.ifnullNo X12.here hx rfl (hb hby at_40) rfl <| XT.iconstV X12.here hx rfl (1 : Int32) (hb hby at_43) rfl <| XS.goto X12.here hx rfl (pc0 := 44) (pc' := 48) rfl (hb hby at_44) (by decide) (by decide) <| XS.istore X12.here hx rfl (hb hby at_48) rfl (l' := #[.val (.int p1), .val (.int p2), .val (.int p3), .val (.int p4), .val (.int p5), .val (.ref b1), .val (.ref b12), .val (.int (1 : Int32)), .unset]) rfl <| XT.iconstV X12.here hx rfl (0 : Int32) (hb hby at_50) rfl <| XS.istore X12.here hx rfl (hb hby at_51) rfl (l' := #[.val (.int p1), .val (.int p2), .val (.int p3), .val (.int p4), .val (.int p5), .val (.ref b1), .val (.ref b12), .val (.int (1 : Int32)), .val (.int (0 : Int32))]) rfl <| k) ?_
  show own_Ends p e below s _ _ _ (T12.setTop (mkF m 53 #[.val (.int p1), .val (.int p2), .val (.int p3), .val (.int p4), .val (.int p5), .val (.ref b1), .val (.ref b12), .val (.int (1 : Int32)), .val (.int (0 : Int32))] []))
  show own_Ends p e below s _ _ _ (T12.setTop (mkF m 53 #[.val (.int p1), .val (.int p2), .val (.int p3), .val (.int p4), .val (.int p5), .val (.ref b1), .val (.ref b12), .val (.int (1 : Int32)), .val (.int (Int32.ofNat (own_c xs 0)))] []))
  have J88 : own_Ends p e below s (Q0 p1 p2 p3 p4 p5 h0 n0 Z) room_1.cells room_1.slots (T12.setTop (mkF m 88 #[.val (.int p1), .val (.int p2), .val (.int p3), .val (.int p4), .val (.int p5), .val (.ref b1), .val (.ref b12), .val (.int (1 : Int32)), .val (.int (Int32.ofNat (own_c xs 1)))] [])) := by
    have J124 : own_Ends p e below s (Q0 p1 p2 p3 p4 p5 h0 n0 Z) room_1.cells room_1.slots (T12.setTop (mkF m 124 #[.val (.int p1), .val (.int p2), .val (.int p3), .val (.int p4), .val (.int p5), .val (.ref b1), .val (.ref b12), .val (.int (1 : Int32)), .val (.int (Int32.ofNat (own_c xs 2)))] [])) := by
      have J160 : own_Ends p e below s (Q0 p1 p2 p3 p4 p5 h0 n0 Z) room_1.cells room_1.slots (T12.setTop (mkF m 160 #[.val (.int p1), .val (.int p2), .val (.int p3), .val (.int p4), .val (.int p5), .val (.ref b1), .val (.ref b12), .val (.int (1 : Int32)), .val (.int (Int32.ofNat (own_c xs 3)))] [])) := by
        have J196 : own_Ends p e below s (Q0 p1 p2 p3 p4 p5 h0 n0 Z) room_1.cells room_1.slots (T12.setTop (mkF m 196 #[.val (.int p1), .val (.int p2), .val (.int p3), .val (.int p4), .val (.int p5), .val (.ref b1), .val (.ref b12), .val (.int (1 : Int32)), .val (.int (Int32.ofNat (own_c xs 4)))] [])) := by
          have J233 : own_Ends p e below s (Q0 p1 p2 p3 p4 p5 h0 n0 Z) room_1.cells room_1.slots (T12.setTop (mkF m 233 #[.val (.int p1), .val (.int p2), .val (.int p3), .val (.int p4), .val (.int p5), .val (.ref b1), .val (.ref b12), .val (.int (1 : Int32)), .val (.int (Int32.ofNat (own_c xs 5)))] [])) := by
            refine own_go (fun _ k => XS.iload X12.here hx rfl (hb hby at_233) rfl <| XS.ifNo X12.here hx rfl (hb hby at_235) rfl ((if0 _ _).trans (feq (by decide)).1) <| XS.aload X12.here hx rfl (hb hby at_238) rfl rfl <| k) ?_
            show own_Ends p e below s _ _ _ (T12.setTop (mkF m 240 #[.val (.int p1), .val (.int p2), .val (.int p3), .val (.int p4), .val (.int p5), .val (.ref b1), .val (.ref b12), .val (.int (1 : Int32)), .val (.int (Int32.ofNat (own_c xs 5)))] [(.ref b12)]))
            obtain ⟨clb12_240_13, Arb12_240_13, qqb12_240_13, Szb12_240_13, Ngb12_240_13, Hsb12_240_13, Gfb12_240_13⟩ := id Vb12
            refine own_go (fun _ k => X12.arraylength hx (by first | exact Arb12_240_13.1 | (rw [rfl]; exact Arb12_240_13.1)) (State.isArrayOf_alike hZ.alike Arb12_240_13.2.1) (g := (mkF m 240 #[.val (.int p1), .val (.int p2), .val (.int p3), .val (.int p4), .val (.int p5), .val (.ref b1), .val (.ref b12), .val (.int (1 : Int32)), .val (.int (Int32.ofNat (own_c xs 5)))] [(.ref b12)])) rfl rfl (hb hby at_240) _ k) ?_
            rw [len_of Szb12_240_13 Ngb12_240_13]
            show own_Ends p e below s _ _ _ (T12.setTop (mkF m 241 #[.val (.int p1), .val (.int p2), .val (.int p3), .val (.int p4), .val (.int p5), .val (.ref b1), .val (.ref b12), .val (.int (1 : Int32)), .val (.int (Int32.ofNat (own_c xs 5)))] [(.int (Int32.ofNat (own_c xs 5)))]))
            refine own_go (fun _ k => XS.iload X12.here hx rfl (hb hby at_241) rfl <| XS.icmpNo X12.here hx rfl (hb hby at_243) rfl (teq rfl).2 <| XT.iconstV X12.here hx rfl (1 : Int32) (hb hby at_246) rfl <| XS.goto X12.here hx rfl (pc0 := 247) (pc' := 251) rfl (hb hby at_247) (by decide) (by decide) <| XS.istore X12.here hx rfl (hb hby at_251) rfl (l' := #[.val (.int p1), .val (.int p2), .val (.int p3), .val (.int p4), .val (.int p5), .val (.ref b1), .val (.ref b12), .val (.int (1 : Int32)), .val (.int (Int32.ofNat (own_c xs 5)))]) rfl <| XS.iload X12.here hx rfl (hb hby at_253) rfl <| XS.ifNo X12.here hx rfl (hb hby at_255) rfl ((if0 _ _).trans (feq (by decide)).1) <| XS.aload X12.here hx rfl (hb hby at_258) rfl rfl <| XT.iconstV X12.here hx rfl (0 : Int32) (hb hby at_260) rfl <| k) ?_
            show own_Ends p e below s _ _ _ (T12.setTop (mkF m 261 #[.val (.int p1), .val (.int p2), .val (.int p3), .val (.int p4), .val (.int p5), .val (.ref b1), .val (.ref b12), .val (.int (1 : Int32)), .val (.int (Int32.ofNat (own_c xs 5)))] [(.int (0 : Int32)), (.ref b1)]))
            obtain ⟨clb1_261_14, Arb1_261_14, qqb1_261_14, Szb1_261_14, Ngb1_261_14, Hsb1_261_14, Gfb1_261_14⟩ := id V_b1'12
            have hinb1_261_14 : ¬ ((0 : Int32) < 0 ∨ clb1_261_14.slots.size ≤ ((0 : Int32)).toNatClampNeg) := inb_of Szb1_261_14 ⟨by decide, by decide⟩
            have hatb1_261_14 : clb1_261_14.slots[((0 : Int32)).toNatClampNeg]? = some (.int p1) := Hsb1_261_14.at hinb1_261_14 rfl
            refine own_go (fun _ k => X12.iaload hx (j := (0 : Int32)) (v := (.int p1)) (by first | exact Arb1_261_14.1 | (rw [rfl]; exact Arb1_261_14.1)) (State.isArrayOf_alike hZ.alike Arb1_261_14.2.1) Arb1_261_14.2.2 hinb1_261_14 hatb1_261_14 (g := (mkF m 261 #[.val (.int p1), .val (.int p2), .val (.int p3), .val (.int p4), .val (.int p5), .val (.ref b1), .val (.ref b12), .val (.int (1 : Int32)), .val (.int (Int32.ofNat (own_c xs 5)))] [(.int (0 : Int32)), (.ref b1)])) rfl rfl (hb hby at_261) _ k) ?_
            show own_Ends p e below s _ _ _ (T12.setTop (mkF m 262 #[.val (.int p1), .val (.int p2), .val (.int p3), .val (.int p4), .val (.int p5), .val (.ref b1), .val (.ref b12), .val (.int (1 : Int32)), .val (.int (Int32.ofNat (own_c xs 5)))] [(.int p1)]))
            refine own_go (fun _ k => XS.iloadN X12.here hx rfl (hb hby at_262) rfl <| XS.icmpNo X12.here hx rfl (hb hby at_263) rfl (teq rfl).2 <| XS.aload X12.here hx rfl (hb hby at_266) rfl rfl <| XT.iconstV X12.here hx rfl (1 : Int32) (hb hby at_268) rfl <| k) ?_
            show own_Ends p e below s _ _ _ (T12.setTop (mkF m 269 #[.val (.int p1), .val (.int p2), .val (.int p3), .val (.int p4), .val (.int p5), .val (.ref b1), .val (.ref b12), .val (.int (1 : Int32)), .val (.int (Int32.ofNat (own_c xs 5)))] [(.int (1 : Int32)), (.ref b1)]))
            obtain ⟨clb1_269_15, Arb1_269_15, qqb1_269_15, Szb1_269_15, Ngb1_269_15, Hsb1_269_15, Gfb1_269_15⟩ := id V_b1'12
            have hinb1_269_15 : ¬ ((1 : Int32) < 0 ∨ clb1_269_15.slots.size ≤ ((1 : Int32)).toNatClampNeg) := inb_of Szb1_269_15 ⟨by decide, by decide⟩
            have hatb1_269_15 : clb1_269_15.slots[((1 : Int32)).toNatClampNeg]? = some (.int p2) := Hsb1_269_15.at hinb1_269_15 rfl
            refine own_go (fun _ k => X12.iaload hx (j := (1 : Int32)) (v := (.int p2)) (by first | exact Arb1_269_15.1 | (rw [rfl]; exact Arb1_269_15.1)) (State.isArrayOf_alike hZ.alike Arb1_269_15.2.1) Arb1_269_15.2.2 hinb1_269_15 hatb1_269_15 (g := (mkF m 269 #[.val (.int p1), .val (.int p2), .val (.int p3), .val (.int p4), .val (.int p5), .val (.ref b1), .val (.ref b12), .val (.int (1 : Int32)), .val (.int (Int32.ofNat (own_c xs 5)))] [(.int (1 : Int32)), (.ref b1)])) rfl rfl (hb hby at_269) _ k) ?_
            show own_Ends p e below s _ _ _ (T12.setTop (mkF m 270 #[.val (.int p1), .val (.int p2), .val (.int p3), .val (.int p4), .val (.int p5), .val (.ref b1), .val (.ref b12), .val (.int (1 : Int32)), .val (.int (Int32.ofNat (own_c xs 5)))] [(.int p2)]))
            refine own_go (fun _ k => XS.iloadN X12.here hx rfl (hb hby at_270) rfl <| XS.icmpNo X12.here hx rfl (hb hby at_271) rfl (teq rfl).2 <| XS.aload X12.here hx rfl (hb hby at_274) rfl rfl <| XT.iconstV X12.here hx rfl (2 : Int32) (hb hby at_276) rfl <| k) ?_
            show own_Ends p e below s _ _ _ (T12.setTop (mkF m 277 #[.val (.int p1), .val (.int p2), .val (.int p3), .val (.int p4), .val (.int p5), .val (.ref b1), .val (.ref b12), .val (.int (1 : Int32)), .val (.int (Int32.ofNat (own_c xs 5)))] [(.int (2 : Int32)), (.ref b1)]))
            obtain ⟨clb1_277_16, Arb1_277_16, qqb1_277_16, Szb1_277_16, Ngb1_277_16, Hsb1_277_16, Gfb1_277_16⟩ := id V_b1'12
            have hinb1_277_16 : ¬ ((2 : Int32) < 0 ∨ clb1_277_16.slots.size ≤ ((2 : Int32)).toNatClampNeg) := inb_of Szb1_277_16 ⟨by decide, by decide⟩
            have hatb1_277_16 : clb1_277_16.slots[((2 : Int32)).toNatClampNeg]? = some (.int p3) := Hsb1_277_16.at hinb1_277_16 rfl
            refine own_go (fun _ k => X12.iaload hx (j := (2 : Int32)) (v := (.int p3)) (by first | exact Arb1_277_16.1 | (rw [rfl]; exact Arb1_277_16.1)) (State.isArrayOf_alike hZ.alike Arb1_277_16.2.1) Arb1_277_16.2.2 hinb1_277_16 hatb1_277_16 (g := (mkF m 277 #[.val (.int p1), .val (.int p2), .val (.int p3), .val (.int p4), .val (.int p5), .val (.ref b1), .val (.ref b12), .val (.int (1 : Int32)), .val (.int (Int32.ofNat (own_c xs 5)))] [(.int (2 : Int32)), (.ref b1)])) rfl rfl (hb hby at_277) _ k) ?_
            show own_Ends p e below s _ _ _ (T12.setTop (mkF m 278 #[.val (.int p1), .val (.int p2), .val (.int p3), .val (.int p4), .val (.int p5), .val (.ref b1), .val (.ref b12), .val (.int (1 : Int32)), .val (.int (Int32.ofNat (own_c xs 5)))] [(.int p3)]))
            refine own_go (fun _ k => XS.iloadN X12.here hx rfl (hb hby at_278) rfl <| XS.icmpNo X12.here hx rfl (hb hby at_279) rfl (teq rfl).2 <| XS.aload X12.here hx rfl (hb hby at_282) rfl rfl <| XT.iconstV X12.here hx rfl (3 : Int32) (hb hby at_284) rfl <| k) ?_
            show own_Ends p e below s _ _ _ (T12.setTop (mkF m 285 #[.val (.int p1), .val (.int p2), .val (.int p3), .val (.int p4), .val (.int p5), .val (.ref b1), .val (.ref b12), .val (.int (1 : Int32)), .val (.int (Int32.ofNat (own_c xs 5)))] [(.int (3 : Int32)), (.ref b1)]))
            obtain ⟨clb1_285_17, Arb1_285_17, qqb1_285_17, Szb1_285_17, Ngb1_285_17, Hsb1_285_17, Gfb1_285_17⟩ := id V_b1'12
            have hinb1_285_17 : ¬ ((3 : Int32) < 0 ∨ clb1_285_17.slots.size ≤ ((3 : Int32)).toNatClampNeg) := inb_of Szb1_285_17 ⟨by decide, by decide⟩
            have hatb1_285_17 : clb1_285_17.slots[((3 : Int32)).toNatClampNeg]? = some (.int p4) := Hsb1_285_17.at hinb1_285_17 rfl
            refine own_go (fun _ k => X12.iaload hx (j := (3 : Int32)) (v := (.int p4)) (by first | exact Arb1_285_17.1 | (rw [rfl]; exact Arb1_285_17.1)) (State.isArrayOf_alike hZ.alike Arb1_285_17.2.1) Arb1_285_17.2.2 hinb1_285_17 hatb1_285_17 (g := (mkF m 285 #[.val (.int p1), .val (.int p2), .val (.int p3), .val (.int p4), .val (.int p5), .val (.ref b1), .val (.ref b12), .val (.int (1 : Int32)), .val (.int (Int32.ofNat (own_c xs 5)))] [(.int (3 : Int32)), (.ref b1)])) rfl rfl (hb hby at_285) _ k) ?_
            show own_Ends p e below s _ _ _ (T12.setTop (mkF m 286 #[.val (.int p1), .val (.int p2), .val (.int p3), .val (.int p4), .val (.int p5), .val (.ref b1), .val (.ref b12), .val (.int (1 : Int32)), .val (.int (Int32.ofNat (own_c xs 5)))] [(.int p4)]))
            refine own_go (fun _ k => XS.iloadN X12.here hx rfl (hb hby at_286) rfl <| XS.icmpNo X12.here hx rfl (hb hby at_287) rfl (teq rfl).2 <| XS.aload X12.here hx rfl (hb hby at_290) rfl rfl <| XT.iconstV X12.here hx rfl (4 : Int32) (hb hby at_292) rfl <| k) ?_
            show own_Ends p e below s _ _ _ (T12.setTop (mkF m 293 #[.val (.int p1), .val (.int p2), .val (.int p3), .val (.int p4), .val (.int p5), .val (.ref b1), .val (.ref b12), .val (.int (1 : Int32)), .val (.int (Int32.ofNat (own_c xs 5)))] [(.int (4 : Int32)), (.ref b1)]))
            obtain ⟨clb1_293_18, Arb1_293_18, qqb1_293_18, Szb1_293_18, Ngb1_293_18, Hsb1_293_18, Gfb1_293_18⟩ := id V_b1'12
            have hinb1_293_18 : ¬ ((4 : Int32) < 0 ∨ clb1_293_18.slots.size ≤ ((4 : Int32)).toNatClampNeg) := inb_of Szb1_293_18 ⟨by decide, by decide⟩
            have hatb1_293_18 : clb1_293_18.slots[((4 : Int32)).toNatClampNeg]? = some (.int p5) := Hsb1_293_18.at hinb1_293_18 rfl
            refine own_go (fun _ k => X12.iaload hx (j := (4 : Int32)) (v := (.int p5)) (by first | exact Arb1_293_18.1 | (rw [rfl]; exact Arb1_293_18.1)) (State.isArrayOf_alike hZ.alike Arb1_293_18.2.1) Arb1_293_18.2.2 hinb1_293_18 hatb1_293_18 (g := (mkF m 293 #[.val (.int p1), .val (.int p2), .val (.int p3), .val (.int p4), .val (.int p5), .val (.ref b1), .val (.ref b12), .val (.int (1 : Int32)), .val (.int (Int32.ofNat (own_c xs 5)))] [(.int (4 : Int32)), (.ref b1)])) rfl rfl (hb hby at_293) _ k) ?_
            show own_Ends p e below s _ _ _ (T12.setTop (mkF m 294 #[.val (.int p1), .val (.int p2), .val (.int p3), .val (.int p4), .val (.int p5), .val (.ref b1), .val (.ref b12), .val (.int (1 : Int32)), .val (.int (Int32.ofNat (own_c xs 5)))] [(.int p5)]))
            refine own_go (fun _ k => XS.iload X12.here hx rfl (hb hby at_294) rfl <| XS.icmpNo X12.here hx rfl (hb hby at_296) rfl (teq rfl).2 <| XT.iconstV X12.here hx rfl (1 : Int32) (hb hby at_299) rfl <| XS.goto X12.here hx rfl (pc0 := 300) (pc' := 304) rfl (hb hby at_300) (by decide) (by decide) <| XS.istore X12.here hx rfl (hb hby at_304) rfl (l' := #[.val (.int p1), .val (.int p2), .val (.int p3), .val (.int p4), .val (.int p5), .val (.ref b1), .val (.ref b12), .val (.int (1 : Int32)), .val (.int (Int32.ofNat (own_c xs 5)))]) rfl <| XS.iload X12.here hx rfl (hb hby at_306) rfl <| k) ?_
            show own_Ends p e below s _ _ _ (T12.setTop (mkF m 308 #[.val (.int p1), .val (.int p2), .val (.int p3), .val (.int p4), .val (.int p5), .val (.ref b1), .val (.ref b12), .val (.int (1 : Int32)), .val (.int (Int32.ofNat (own_c xs 5)))] [(.int (1 : Int32))]))
            exact own_retN X12 hx (t := .boolean) hrt (by simp) (hb hby at_308) hlk (show nar .boolean (1 : Int32) = (1 : Int32) from by decide) (by exact ⟨rfl, N12⟩) (by decide) (by decide)
          refine own_go (fun _ k => XS.iload X12.here hx rfl (hb hby at_196) rfl <| k) ?_
          show own_Ends p e below s _ _ _ (T12.setTop (mkF m 198 #[.val (.int p1), .val (.int p2), .val (.int p3), .val (.int p4), .val (.int p5), .val (.ref b1), .val (.ref b12), .val (.int (1 : Int32)), .val (.int (Int32.ofNat (own_c xs 4)))] [(.int p5)]))
          by_cases hc198_19 : p5 < (0 : Int32)
          · -- true
            refine own_go (fun _ k => XS.ifYes X12.here hx rfl (pc0 := 198) (pc' := 233) rfl (hb hby at_198) rfl ((if0 _ _).trans (tlt hc198_19).1) (by decide) (by decide) <| k) ?_
            show own_Ends p e below s _ _ _ (T12.setTop (mkF m 233 #[.val (.int p1), .val (.int p2), .val (.int p3), .val (.int p4), .val (.int p5), .val (.ref b1), .val (.ref b12), .val (.int (1 : Int32)), .val (.int (Int32.ofNat (own_c xs 4)))] []))
            rw [← hx4] at hc198_19
            rw [own_c_neg hc198_19] at J233
            exact J233
          · -- false
            refine own_go (fun _ k => XS.ifNo X12.here hx rfl (hb hby at_198) rfl ((if0 _ _).trans (flt hc198_19).1) <| XS.iload X12.here hx rfl (hb hby at_201) rfl <| XS.ifNo X12.here hx rfl (hb hby at_203) rfl ((if0 _ _).trans (feq (by decide)).1) <| XS.iload X12.here hx rfl (hb hby at_206) rfl <| XS.aload X12.here hx rfl (hb hby at_208) rfl rfl <| k) ?_
            show own_Ends p e below s _ _ _ (T12.setTop (mkF m 210 #[.val (.int p1), .val (.int p2), .val (.int p3), .val (.int p4), .val (.int p5), .val (.ref b1), .val (.ref b12), .val (.int (1 : Int32)), .val (.int (Int32.ofNat (own_c xs 4)))] [(.ref b12), (.int (Int32.ofNat (own_c xs 4)))]))
            obtain ⟨clb12_210_20, Arb12_210_20, qqb12_210_20, Szb12_210_20, Ngb12_210_20, Hsb12_210_20, Gfb12_210_20⟩ := id Vb12
            refine own_go (fun _ k => X12.arraylength hx (by first | exact Arb12_210_20.1 | (rw [rfl]; exact Arb12_210_20.1)) (State.isArrayOf_alike hZ.alike Arb12_210_20.2.1) (g := (mkF m 210 #[.val (.int p1), .val (.int p2), .val (.int p3), .val (.int p4), .val (.int p5), .val (.ref b1), .val (.ref b12), .val (.int (1 : Int32)), .val (.int (Int32.ofNat (own_c xs 4)))] [(.ref b12), (.int (Int32.ofNat (own_c xs 4)))])) rfl rfl (hb hby at_210) _ k) ?_
            rw [len_of Szb12_210_20 Ngb12_210_20]
            show own_Ends p e below s _ _ _ (T12.setTop (mkF m 211 #[.val (.int p1), .val (.int p2), .val (.int p3), .val (.int p4), .val (.int p5), .val (.ref b1), .val (.ref b12), .val (.int (1 : Int32)), .val (.int (Int32.ofNat (own_c xs 4)))] [(.int (Int32.ofNat (own_c xs 5))), (.int (Int32.ofNat (own_c xs 4)))]))
            refine own_go (fun _ k => XS.icmpNo X12.here hx rfl (hb hby at_211) rfl (tlt ((own_ofNat_lt hk4 hk5).mpr (own_c_lt (by rw [hx4]; exact hc198_19) (by decide)))).2.1 <| XS.aload X12.here hx rfl (hb hby at_214) rfl rfl <| XS.iload X12.here hx rfl (hb hby at_216) rfl <| k) ?_
            show own_Ends p e below s _ _ _ (T12.setTop (mkF m 218 #[.val (.int p1), .val (.int p2), .val (.int p3), .val (.int p4), .val (.int p5), .val (.ref b1), .val (.ref b12), .val (.int (1 : Int32)), .val (.int (Int32.ofNat (own_c xs 4)))] [(.int (Int32.ofNat (own_c xs 4))), (.ref b12)]))
            obtain ⟨clb12_218_21, Arb12_218_21, qqb12_218_21, Szb12_218_21, Ngb12_218_21, Hsb12_218_21, Gfb12_218_21⟩ := id Vb12
            have hinb12_218_21 : ¬ ((Int32.ofNat (own_c xs 4)) < 0 ∨ clb12_218_21.slots.size ≤ ((Int32.ofNat (own_c xs 4))).toNatClampNeg) := inb_of Szb12_218_21 ⟨own_nneg hk4, (own_ofNat_lt hk4 hk5).mpr (own_c_lt (by rw [hx4]; exact hc198_19) (by decide))⟩
            have hatb12_218_21 : clb12_218_21.slots[((Int32.ofNat (own_c xs 4))).toNatClampNeg]? = some (.int (Int32.ofNat 4)) := Hsb12_218_21.at hinb12_218_21 (by rw [own_clamp hk4]; exact own_v_at (by rw [hx4]; exact hc198_19) (own_c_lt (by rw [hx4]; exact hc198_19) (by decide)) 5 (by decide))
            refine own_go (fun _ k => X12.iaload hx (j := (Int32.ofNat (own_c xs 4))) (v := (.int (Int32.ofNat 4))) (by first | exact Arb12_218_21.1 | (rw [rfl]; exact Arb12_218_21.1)) (State.isArrayOf_alike hZ.alike Arb12_218_21.2.1) Arb12_218_21.2.2 hinb12_218_21 hatb12_218_21 (g := (mkF m 218 #[.val (.int p1), .val (.int p2), .val (.int p3), .val (.int p4), .val (.int p5), .val (.ref b1), .val (.ref b12), .val (.int (1 : Int32)), .val (.int (Int32.ofNat (own_c xs 4)))] [(.int (Int32.ofNat (own_c xs 4))), (.ref b12)])) rfl rfl (hb hby at_218) _ k) ?_
            show own_Ends p e below s _ _ _ (T12.setTop (mkF m 219 #[.val (.int p1), .val (.int p2), .val (.int p3), .val (.int p4), .val (.int p5), .val (.ref b1), .val (.ref b12), .val (.int (1 : Int32)), .val (.int (Int32.ofNat (own_c xs 4)))] [(.int (Int32.ofNat 4))]))
            refine own_go (fun _ k => XT.iconstV X12.here hx rfl (4 : Int32) (hb hby at_219) rfl <| XS.icmpNo X12.here hx rfl (hb hby at_220) rfl (teq (by decide)).2 <| XT.iconstV X12.here hx rfl (1 : Int32) (hb hby at_223) rfl <| XS.goto X12.here hx rfl (pc0 := 224) (pc' := 228) rfl (hb hby at_224) (by decide) (by decide) <| XS.istore X12.here hx rfl (hb hby at_228) rfl (l' := #[.val (.int p1), .val (.int p2), .val (.int p3), .val (.int p4), .val (.int p5), .val (.ref b1), .val (.ref b12), .val (.int (1 : Int32)), .val (.int (Int32.ofNat (own_c xs 4)))]) rfl <| XT.iincV X12.here hx rfl (1 : Int32) (hb hby at_230) rfl rfl (l' := #[.val (.int p1), .val (.int p2), .val (.int p3), .val (.int p4), .val (.int p5), .val (.ref b1), .val (.ref b12), .val (.int (1 : Int32)), .val (.int ((Int32.ofNat (own_c xs 4)) + (1 : Int32)))]) rfl <| k) ?_
            show own_Ends p e below s _ _ _ (T12.setTop (mkF m 233 #[.val (.int p1), .val (.int p2), .val (.int p3), .val (.int p4), .val (.int p5), .val (.ref b1), .val (.ref b12), .val (.int (1 : Int32)), .val (.int ((Int32.ofNat (own_c xs 4)) + (1 : Int32)))] []))
            rw [← hx4] at hc198_19
            rw [own_c_pos hc198_19] at J233
            rw [own_up]; exact J233
        refine own_go (fun _ k => XS.iloadN X12.here hx rfl (hb hby at_160) rfl <| k) ?_
        show own_Ends p e below s _ _ _ (T12.setTop (mkF m 161 #[.val (.int p1), .val (.int p2), .val (.int p3), .val (.int p4), .val (.int p5), .val (.ref b1), .val (.ref b12), .val (.int (1 : Int32)), .val (.int (Int32.ofNat (own_c xs 3)))] [(.int p4)]))
        by_cases hc161_22 : p4 < (0 : Int32)
        · -- true
          refine own_go (fun _ k => XS.ifYes X12.here hx rfl (pc0 := 161) (pc' := 196) rfl (hb hby at_161) rfl ((if0 _ _).trans (tlt hc161_22).1) (by decide) (by decide) <| k) ?_
          show own_Ends p e below s _ _ _ (T12.setTop (mkF m 196 #[.val (.int p1), .val (.int p2), .val (.int p3), .val (.int p4), .val (.int p5), .val (.ref b1), .val (.ref b12), .val (.int (1 : Int32)), .val (.int (Int32.ofNat (own_c xs 3)))] []))
          rw [← hx3] at hc161_22
          rw [own_c_neg hc161_22] at J196
          exact J196
        · -- false
          refine own_go (fun _ k => XS.ifNo X12.here hx rfl (hb hby at_161) rfl ((if0 _ _).trans (flt hc161_22).1) <| XS.iload X12.here hx rfl (hb hby at_164) rfl <| XS.ifNo X12.here hx rfl (hb hby at_166) rfl ((if0 _ _).trans (feq (by decide)).1) <| XS.iload X12.here hx rfl (hb hby at_169) rfl <| XS.aload X12.here hx rfl (hb hby at_171) rfl rfl <| k) ?_
          show own_Ends p e below s _ _ _ (T12.setTop (mkF m 173 #[.val (.int p1), .val (.int p2), .val (.int p3), .val (.int p4), .val (.int p5), .val (.ref b1), .val (.ref b12), .val (.int (1 : Int32)), .val (.int (Int32.ofNat (own_c xs 3)))] [(.ref b12), (.int (Int32.ofNat (own_c xs 3)))]))
          obtain ⟨clb12_173_23, Arb12_173_23, qqb12_173_23, Szb12_173_23, Ngb12_173_23, Hsb12_173_23, Gfb12_173_23⟩ := id Vb12
          refine own_go (fun _ k => X12.arraylength hx (by first | exact Arb12_173_23.1 | (rw [rfl]; exact Arb12_173_23.1)) (State.isArrayOf_alike hZ.alike Arb12_173_23.2.1) (g := (mkF m 173 #[.val (.int p1), .val (.int p2), .val (.int p3), .val (.int p4), .val (.int p5), .val (.ref b1), .val (.ref b12), .val (.int (1 : Int32)), .val (.int (Int32.ofNat (own_c xs 3)))] [(.ref b12), (.int (Int32.ofNat (own_c xs 3)))])) rfl rfl (hb hby at_173) _ k) ?_
          rw [len_of Szb12_173_23 Ngb12_173_23]
          show own_Ends p e below s _ _ _ (T12.setTop (mkF m 174 #[.val (.int p1), .val (.int p2), .val (.int p3), .val (.int p4), .val (.int p5), .val (.ref b1), .val (.ref b12), .val (.int (1 : Int32)), .val (.int (Int32.ofNat (own_c xs 3)))] [(.int (Int32.ofNat (own_c xs 5))), (.int (Int32.ofNat (own_c xs 3)))]))
          refine own_go (fun _ k => XS.icmpNo X12.here hx rfl (hb hby at_174) rfl (tlt ((own_ofNat_lt hk3 hk5).mpr (own_c_lt (by rw [hx3]; exact hc161_22) (by decide)))).2.1 <| XS.aload X12.here hx rfl (hb hby at_177) rfl rfl <| XS.iload X12.here hx rfl (hb hby at_179) rfl <| k) ?_
          show own_Ends p e below s _ _ _ (T12.setTop (mkF m 181 #[.val (.int p1), .val (.int p2), .val (.int p3), .val (.int p4), .val (.int p5), .val (.ref b1), .val (.ref b12), .val (.int (1 : Int32)), .val (.int (Int32.ofNat (own_c xs 3)))] [(.int (Int32.ofNat (own_c xs 3))), (.ref b12)]))
          obtain ⟨clb12_181_24, Arb12_181_24, qqb12_181_24, Szb12_181_24, Ngb12_181_24, Hsb12_181_24, Gfb12_181_24⟩ := id Vb12
          have hinb12_181_24 : ¬ ((Int32.ofNat (own_c xs 3)) < 0 ∨ clb12_181_24.slots.size ≤ ((Int32.ofNat (own_c xs 3))).toNatClampNeg) := inb_of Szb12_181_24 ⟨own_nneg hk3, (own_ofNat_lt hk3 hk5).mpr (own_c_lt (by rw [hx3]; exact hc161_22) (by decide))⟩
          have hatb12_181_24 : clb12_181_24.slots[((Int32.ofNat (own_c xs 3))).toNatClampNeg]? = some (.int (Int32.ofNat 3)) := Hsb12_181_24.at hinb12_181_24 (by rw [own_clamp hk3]; exact own_v_at (by rw [hx3]; exact hc161_22) (own_c_lt (by rw [hx3]; exact hc161_22) (by decide)) 5 (by decide))
          refine own_go (fun _ k => X12.iaload hx (j := (Int32.ofNat (own_c xs 3))) (v := (.int (Int32.ofNat 3))) (by first | exact Arb12_181_24.1 | (rw [rfl]; exact Arb12_181_24.1)) (State.isArrayOf_alike hZ.alike Arb12_181_24.2.1) Arb12_181_24.2.2 hinb12_181_24 hatb12_181_24 (g := (mkF m 181 #[.val (.int p1), .val (.int p2), .val (.int p3), .val (.int p4), .val (.int p5), .val (.ref b1), .val (.ref b12), .val (.int (1 : Int32)), .val (.int (Int32.ofNat (own_c xs 3)))] [(.int (Int32.ofNat (own_c xs 3))), (.ref b12)])) rfl rfl (hb hby at_181) _ k) ?_
          show own_Ends p e below s _ _ _ (T12.setTop (mkF m 182 #[.val (.int p1), .val (.int p2), .val (.int p3), .val (.int p4), .val (.int p5), .val (.ref b1), .val (.ref b12), .val (.int (1 : Int32)), .val (.int (Int32.ofNat (own_c xs 3)))] [(.int (Int32.ofNat 3))]))
          refine own_go (fun _ k => XT.iconstV X12.here hx rfl (3 : Int32) (hb hby at_182) rfl <| XS.icmpNo X12.here hx rfl (hb hby at_183) rfl (teq (by decide)).2 <| XT.iconstV X12.here hx rfl (1 : Int32) (hb hby at_186) rfl <| XS.goto X12.here hx rfl (pc0 := 187) (pc' := 191) rfl (hb hby at_187) (by decide) (by decide) <| XS.istore X12.here hx rfl (hb hby at_191) rfl (l' := #[.val (.int p1), .val (.int p2), .val (.int p3), .val (.int p4), .val (.int p5), .val (.ref b1), .val (.ref b12), .val (.int (1 : Int32)), .val (.int (Int32.ofNat (own_c xs 3)))]) rfl <| XT.iincV X12.here hx rfl (1 : Int32) (hb hby at_193) rfl rfl (l' := #[.val (.int p1), .val (.int p2), .val (.int p3), .val (.int p4), .val (.int p5), .val (.ref b1), .val (.ref b12), .val (.int (1 : Int32)), .val (.int ((Int32.ofNat (own_c xs 3)) + (1 : Int32)))]) rfl <| k) ?_
          show own_Ends p e below s _ _ _ (T12.setTop (mkF m 196 #[.val (.int p1), .val (.int p2), .val (.int p3), .val (.int p4), .val (.int p5), .val (.ref b1), .val (.ref b12), .val (.int (1 : Int32)), .val (.int ((Int32.ofNat (own_c xs 3)) + (1 : Int32)))] []))
          rw [← hx3] at hc161_22
          rw [own_c_pos hc161_22] at J196
          rw [own_up]; exact J196
      refine own_go (fun _ k => XS.iloadN X12.here hx rfl (hb hby at_124) rfl <| k) ?_
      show own_Ends p e below s _ _ _ (T12.setTop (mkF m 125 #[.val (.int p1), .val (.int p2), .val (.int p3), .val (.int p4), .val (.int p5), .val (.ref b1), .val (.ref b12), .val (.int (1 : Int32)), .val (.int (Int32.ofNat (own_c xs 2)))] [(.int p3)]))
      by_cases hc125_25 : p3 < (0 : Int32)
      · -- true
        refine own_go (fun _ k => XS.ifYes X12.here hx rfl (pc0 := 125) (pc' := 160) rfl (hb hby at_125) rfl ((if0 _ _).trans (tlt hc125_25).1) (by decide) (by decide) <| k) ?_
        show own_Ends p e below s _ _ _ (T12.setTop (mkF m 160 #[.val (.int p1), .val (.int p2), .val (.int p3), .val (.int p4), .val (.int p5), .val (.ref b1), .val (.ref b12), .val (.int (1 : Int32)), .val (.int (Int32.ofNat (own_c xs 2)))] []))
        rw [← hx2] at hc125_25
        rw [own_c_neg hc125_25] at J160
        exact J160
      · -- false
        refine own_go (fun _ k => XS.ifNo X12.here hx rfl (hb hby at_125) rfl ((if0 _ _).trans (flt hc125_25).1) <| XS.iload X12.here hx rfl (hb hby at_128) rfl <| XS.ifNo X12.here hx rfl (hb hby at_130) rfl ((if0 _ _).trans (feq (by decide)).1) <| XS.iload X12.here hx rfl (hb hby at_133) rfl <| XS.aload X12.here hx rfl (hb hby at_135) rfl rfl <| k) ?_
        show own_Ends p e below s _ _ _ (T12.setTop (mkF m 137 #[.val (.int p1), .val (.int p2), .val (.int p3), .val (.int p4), .val (.int p5), .val (.ref b1), .val (.ref b12), .val (.int (1 : Int32)), .val (.int (Int32.ofNat (own_c xs 2)))] [(.ref b12), (.int (Int32.ofNat (own_c xs 2)))]))
        obtain ⟨clb12_137_26, Arb12_137_26, qqb12_137_26, Szb12_137_26, Ngb12_137_26, Hsb12_137_26, Gfb12_137_26⟩ := id Vb12
        refine own_go (fun _ k => X12.arraylength hx (by first | exact Arb12_137_26.1 | (rw [rfl]; exact Arb12_137_26.1)) (State.isArrayOf_alike hZ.alike Arb12_137_26.2.1) (g := (mkF m 137 #[.val (.int p1), .val (.int p2), .val (.int p3), .val (.int p4), .val (.int p5), .val (.ref b1), .val (.ref b12), .val (.int (1 : Int32)), .val (.int (Int32.ofNat (own_c xs 2)))] [(.ref b12), (.int (Int32.ofNat (own_c xs 2)))])) rfl rfl (hb hby at_137) _ k) ?_
        rw [len_of Szb12_137_26 Ngb12_137_26]
        show own_Ends p e below s _ _ _ (T12.setTop (mkF m 138 #[.val (.int p1), .val (.int p2), .val (.int p3), .val (.int p4), .val (.int p5), .val (.ref b1), .val (.ref b12), .val (.int (1 : Int32)), .val (.int (Int32.ofNat (own_c xs 2)))] [(.int (Int32.ofNat (own_c xs 5))), (.int (Int32.ofNat (own_c xs 2)))]))
        refine own_go (fun _ k => XS.icmpNo X12.here hx rfl (hb hby at_138) rfl (tlt ((own_ofNat_lt hk2 hk5).mpr (own_c_lt (by rw [hx2]; exact hc125_25) (by decide)))).2.1 <| XS.aload X12.here hx rfl (hb hby at_141) rfl rfl <| XS.iload X12.here hx rfl (hb hby at_143) rfl <| k) ?_
        show own_Ends p e below s _ _ _ (T12.setTop (mkF m 145 #[.val (.int p1), .val (.int p2), .val (.int p3), .val (.int p4), .val (.int p5), .val (.ref b1), .val (.ref b12), .val (.int (1 : Int32)), .val (.int (Int32.ofNat (own_c xs 2)))] [(.int (Int32.ofNat (own_c xs 2))), (.ref b12)]))
        obtain ⟨clb12_145_27, Arb12_145_27, qqb12_145_27, Szb12_145_27, Ngb12_145_27, Hsb12_145_27, Gfb12_145_27⟩ := id Vb12
        have hinb12_145_27 : ¬ ((Int32.ofNat (own_c xs 2)) < 0 ∨ clb12_145_27.slots.size ≤ ((Int32.ofNat (own_c xs 2))).toNatClampNeg) := inb_of Szb12_145_27 ⟨own_nneg hk2, (own_ofNat_lt hk2 hk5).mpr (own_c_lt (by rw [hx2]; exact hc125_25) (by decide))⟩
        have hatb12_145_27 : clb12_145_27.slots[((Int32.ofNat (own_c xs 2))).toNatClampNeg]? = some (.int (Int32.ofNat 2)) := Hsb12_145_27.at hinb12_145_27 (by rw [own_clamp hk2]; exact own_v_at (by rw [hx2]; exact hc125_25) (own_c_lt (by rw [hx2]; exact hc125_25) (by decide)) 5 (by decide))
        refine own_go (fun _ k => X12.iaload hx (j := (Int32.ofNat (own_c xs 2))) (v := (.int (Int32.ofNat 2))) (by first | exact Arb12_145_27.1 | (rw [rfl]; exact Arb12_145_27.1)) (State.isArrayOf_alike hZ.alike Arb12_145_27.2.1) Arb12_145_27.2.2 hinb12_145_27 hatb12_145_27 (g := (mkF m 145 #[.val (.int p1), .val (.int p2), .val (.int p3), .val (.int p4), .val (.int p5), .val (.ref b1), .val (.ref b12), .val (.int (1 : Int32)), .val (.int (Int32.ofNat (own_c xs 2)))] [(.int (Int32.ofNat (own_c xs 2))), (.ref b12)])) rfl rfl (hb hby at_145) _ k) ?_
        show own_Ends p e below s _ _ _ (T12.setTop (mkF m 146 #[.val (.int p1), .val (.int p2), .val (.int p3), .val (.int p4), .val (.int p5), .val (.ref b1), .val (.ref b12), .val (.int (1 : Int32)), .val (.int (Int32.ofNat (own_c xs 2)))] [(.int (Int32.ofNat 2))]))
        refine own_go (fun _ k => XT.iconstV X12.here hx rfl (2 : Int32) (hb hby at_146) rfl <| XS.icmpNo X12.here hx rfl (hb hby at_147) rfl (teq (by decide)).2 <| XT.iconstV X12.here hx rfl (1 : Int32) (hb hby at_150) rfl <| XS.goto X12.here hx rfl (pc0 := 151) (pc' := 155) rfl (hb hby at_151) (by decide) (by decide) <| XS.istore X12.here hx rfl (hb hby at_155) rfl (l' := #[.val (.int p1), .val (.int p2), .val (.int p3), .val (.int p4), .val (.int p5), .val (.ref b1), .val (.ref b12), .val (.int (1 : Int32)), .val (.int (Int32.ofNat (own_c xs 2)))]) rfl <| XT.iincV X12.here hx rfl (1 : Int32) (hb hby at_157) rfl rfl (l' := #[.val (.int p1), .val (.int p2), .val (.int p3), .val (.int p4), .val (.int p5), .val (.ref b1), .val (.ref b12), .val (.int (1 : Int32)), .val (.int ((Int32.ofNat (own_c xs 2)) + (1 : Int32)))]) rfl <| k) ?_
        show own_Ends p e below s _ _ _ (T12.setTop (mkF m 160 #[.val (.int p1), .val (.int p2), .val (.int p3), .val (.int p4), .val (.int p5), .val (.ref b1), .val (.ref b12), .val (.int (1 : Int32)), .val (.int ((Int32.ofNat (own_c xs 2)) + (1 : Int32)))] []))
        rw [← hx2] at hc125_25
        rw [own_c_pos hc125_25] at J160
        rw [own_up]; exact J160
    refine own_go (fun _ k => XS.iloadN X12.here hx rfl (hb hby at_88) rfl <| k) ?_
    show own_Ends p e below s _ _ _ (T12.setTop (mkF m 89 #[.val (.int p1), .val (.int p2), .val (.int p3), .val (.int p4), .val (.int p5), .val (.ref b1), .val (.ref b12), .val (.int (1 : Int32)), .val (.int (Int32.ofNat (own_c xs 1)))] [(.int p2)]))
    by_cases hc89_28 : p2 < (0 : Int32)
    · -- true
      refine own_go (fun _ k => XS.ifYes X12.here hx rfl (pc0 := 89) (pc' := 124) rfl (hb hby at_89) rfl ((if0 _ _).trans (tlt hc89_28).1) (by decide) (by decide) <| k) ?_
      show own_Ends p e below s _ _ _ (T12.setTop (mkF m 124 #[.val (.int p1), .val (.int p2), .val (.int p3), .val (.int p4), .val (.int p5), .val (.ref b1), .val (.ref b12), .val (.int (1 : Int32)), .val (.int (Int32.ofNat (own_c xs 1)))] []))
      rw [← hx1] at hc89_28
      rw [own_c_neg hc89_28] at J124
      exact J124
    · -- false
      refine own_go (fun _ k => XS.ifNo X12.here hx rfl (hb hby at_89) rfl ((if0 _ _).trans (flt hc89_28).1) <| XS.iload X12.here hx rfl (hb hby at_92) rfl <| XS.ifNo X12.here hx rfl (hb hby at_94) rfl ((if0 _ _).trans (feq (by decide)).1) <| XS.iload X12.here hx rfl (hb hby at_97) rfl <| XS.aload X12.here hx rfl (hb hby at_99) rfl rfl <| k) ?_
      show own_Ends p e below s _ _ _ (T12.setTop (mkF m 101 #[.val (.int p1), .val (.int p2), .val (.int p3), .val (.int p4), .val (.int p5), .val (.ref b1), .val (.ref b12), .val (.int (1 : Int32)), .val (.int (Int32.ofNat (own_c xs 1)))] [(.ref b12), (.int (Int32.ofNat (own_c xs 1)))]))
      obtain ⟨clb12_101_29, Arb12_101_29, qqb12_101_29, Szb12_101_29, Ngb12_101_29, Hsb12_101_29, Gfb12_101_29⟩ := id Vb12
      refine own_go (fun _ k => X12.arraylength hx (by first | exact Arb12_101_29.1 | (rw [rfl]; exact Arb12_101_29.1)) (State.isArrayOf_alike hZ.alike Arb12_101_29.2.1) (g := (mkF m 101 #[.val (.int p1), .val (.int p2), .val (.int p3), .val (.int p4), .val (.int p5), .val (.ref b1), .val (.ref b12), .val (.int (1 : Int32)), .val (.int (Int32.ofNat (own_c xs 1)))] [(.ref b12), (.int (Int32.ofNat (own_c xs 1)))])) rfl rfl (hb hby at_101) _ k) ?_
      rw [len_of Szb12_101_29 Ngb12_101_29]
      show own_Ends p e below s _ _ _ (T12.setTop (mkF m 102 #[.val (.int p1), .val (.int p2), .val (.int p3), .val (.int p4), .val (.int p5), .val (.ref b1), .val (.ref b12), .val (.int (1 : Int32)), .val (.int (Int32.ofNat (own_c xs 1)))] [(.int (Int32.ofNat (own_c xs 5))), (.int (Int32.ofNat (own_c xs 1)))]))
      refine own_go (fun _ k => XS.icmpNo X12.here hx rfl (hb hby at_102) rfl (tlt ((own_ofNat_lt hk1 hk5).mpr (own_c_lt (by rw [hx1]; exact hc89_28) (by decide)))).2.1 <| XS.aload X12.here hx rfl (hb hby at_105) rfl rfl <| XS.iload X12.here hx rfl (hb hby at_107) rfl <| k) ?_
      show own_Ends p e below s _ _ _ (T12.setTop (mkF m 109 #[.val (.int p1), .val (.int p2), .val (.int p3), .val (.int p4), .val (.int p5), .val (.ref b1), .val (.ref b12), .val (.int (1 : Int32)), .val (.int (Int32.ofNat (own_c xs 1)))] [(.int (Int32.ofNat (own_c xs 1))), (.ref b12)]))
      obtain ⟨clb12_109_30, Arb12_109_30, qqb12_109_30, Szb12_109_30, Ngb12_109_30, Hsb12_109_30, Gfb12_109_30⟩ := id Vb12
      have hinb12_109_30 : ¬ ((Int32.ofNat (own_c xs 1)) < 0 ∨ clb12_109_30.slots.size ≤ ((Int32.ofNat (own_c xs 1))).toNatClampNeg) := inb_of Szb12_109_30 ⟨own_nneg hk1, (own_ofNat_lt hk1 hk5).mpr (own_c_lt (by rw [hx1]; exact hc89_28) (by decide))⟩
      have hatb12_109_30 : clb12_109_30.slots[((Int32.ofNat (own_c xs 1))).toNatClampNeg]? = some (.int (Int32.ofNat 1)) := Hsb12_109_30.at hinb12_109_30 (by rw [own_clamp hk1]; exact own_v_at (by rw [hx1]; exact hc89_28) (own_c_lt (by rw [hx1]; exact hc89_28) (by decide)) 5 (by decide))
      refine own_go (fun _ k => X12.iaload hx (j := (Int32.ofNat (own_c xs 1))) (v := (.int (Int32.ofNat 1))) (by first | exact Arb12_109_30.1 | (rw [rfl]; exact Arb12_109_30.1)) (State.isArrayOf_alike hZ.alike Arb12_109_30.2.1) Arb12_109_30.2.2 hinb12_109_30 hatb12_109_30 (g := (mkF m 109 #[.val (.int p1), .val (.int p2), .val (.int p3), .val (.int p4), .val (.int p5), .val (.ref b1), .val (.ref b12), .val (.int (1 : Int32)), .val (.int (Int32.ofNat (own_c xs 1)))] [(.int (Int32.ofNat (own_c xs 1))), (.ref b12)])) rfl rfl (hb hby at_109) _ k) ?_
      show own_Ends p e below s _ _ _ (T12.setTop (mkF m 110 #[.val (.int p1), .val (.int p2), .val (.int p3), .val (.int p4), .val (.int p5), .val (.ref b1), .val (.ref b12), .val (.int (1 : Int32)), .val (.int (Int32.ofNat (own_c xs 1)))] [(.int (Int32.ofNat 1))]))
      refine own_go (fun _ k => XT.iconstV X12.here hx rfl (1 : Int32) (hb hby at_110) rfl <| XS.icmpNo X12.here hx rfl (hb hby at_111) rfl (teq (by decide)).2 <| XT.iconstV X12.here hx rfl (1 : Int32) (hb hby at_114) rfl <| XS.goto X12.here hx rfl (pc0 := 115) (pc' := 119) rfl (hb hby at_115) (by decide) (by decide) <| XS.istore X12.here hx rfl (hb hby at_119) rfl (l' := #[.val (.int p1), .val (.int p2), .val (.int p3), .val (.int p4), .val (.int p5), .val (.ref b1), .val (.ref b12), .val (.int (1 : Int32)), .val (.int (Int32.ofNat (own_c xs 1)))]) rfl <| XT.iincV X12.here hx rfl (1 : Int32) (hb hby at_121) rfl rfl (l' := #[.val (.int p1), .val (.int p2), .val (.int p3), .val (.int p4), .val (.int p5), .val (.ref b1), .val (.ref b12), .val (.int (1 : Int32)), .val (.int ((Int32.ofNat (own_c xs 1)) + (1 : Int32)))]) rfl <| k) ?_
      show own_Ends p e below s _ _ _ (T12.setTop (mkF m 124 #[.val (.int p1), .val (.int p2), .val (.int p3), .val (.int p4), .val (.int p5), .val (.ref b1), .val (.ref b12), .val (.int (1 : Int32)), .val (.int ((Int32.ofNat (own_c xs 1)) + (1 : Int32)))] []))
      rw [← hx1] at hc89_28
      rw [own_c_pos hc89_28] at J124
      rw [own_up]; exact J124
  refine own_go (fun _ k => XS.iloadN X12.here hx rfl (hb hby at_53) rfl <| k) ?_
  show own_Ends p e below s _ _ _ (T12.setTop (mkF m 54 #[.val (.int p1), .val (.int p2), .val (.int p3), .val (.int p4), .val (.int p5), .val (.ref b1), .val (.ref b12), .val (.int (1 : Int32)), .val (.int (Int32.ofNat (own_c xs 0)))] [(.int p1)]))
  by_cases hc54_31 : p1 < (0 : Int32)
  · -- true
    refine own_go (fun _ k => XS.ifYes X12.here hx rfl (pc0 := 54) (pc' := 88) rfl (hb hby at_54) rfl ((if0 _ _).trans (tlt hc54_31).1) (by decide) (by decide) <| k) ?_
    show own_Ends p e below s _ _ _ (T12.setTop (mkF m 88 #[.val (.int p1), .val (.int p2), .val (.int p3), .val (.int p4), .val (.int p5), .val (.ref b1), .val (.ref b12), .val (.int (1 : Int32)), .val (.int (Int32.ofNat (own_c xs 0)))] []))
    rw [← hx0] at hc54_31
    rw [own_c_neg hc54_31] at J88
    exact J88
  · -- false
    refine own_go (fun _ k => XS.ifNo X12.here hx rfl (hb hby at_54) rfl ((if0 _ _).trans (flt hc54_31).1) <| XS.iload X12.here hx rfl (hb hby at_57) rfl <| XS.ifNo X12.here hx rfl (hb hby at_59) rfl ((if0 _ _).trans (feq (by decide)).1) <| XS.iload X12.here hx rfl (hb hby at_62) rfl <| XS.aload X12.here hx rfl (hb hby at_64) rfl rfl <| k) ?_
    show own_Ends p e below s _ _ _ (T12.setTop (mkF m 66 #[.val (.int p1), .val (.int p2), .val (.int p3), .val (.int p4), .val (.int p5), .val (.ref b1), .val (.ref b12), .val (.int (1 : Int32)), .val (.int (Int32.ofNat (own_c xs 0)))] [(.ref b12), (.int (Int32.ofNat (own_c xs 0)))]))
    obtain ⟨clb12_66_32, Arb12_66_32, qqb12_66_32, Szb12_66_32, Ngb12_66_32, Hsb12_66_32, Gfb12_66_32⟩ := id Vb12
    refine own_go (fun _ k => X12.arraylength hx (by first | exact Arb12_66_32.1 | (rw [rfl]; exact Arb12_66_32.1)) (State.isArrayOf_alike hZ.alike Arb12_66_32.2.1) (g := (mkF m 66 #[.val (.int p1), .val (.int p2), .val (.int p3), .val (.int p4), .val (.int p5), .val (.ref b1), .val (.ref b12), .val (.int (1 : Int32)), .val (.int (Int32.ofNat (own_c xs 0)))] [(.ref b12), (.int (Int32.ofNat (own_c xs 0)))])) rfl rfl (hb hby at_66) _ k) ?_
    rw [len_of Szb12_66_32 Ngb12_66_32]
    show own_Ends p e below s _ _ _ (T12.setTop (mkF m 67 #[.val (.int p1), .val (.int p2), .val (.int p3), .val (.int p4), .val (.int p5), .val (.ref b1), .val (.ref b12), .val (.int (1 : Int32)), .val (.int (Int32.ofNat (own_c xs 0)))] [(.int (Int32.ofNat (own_c xs 5))), (.int (Int32.ofNat (own_c xs 0)))]))
    refine own_go (fun _ k => XS.icmpNo X12.here hx rfl (hb hby at_67) rfl (tlt ((own_ofNat_lt hk0 hk5).mpr (own_c_lt (by rw [hx0]; exact hc54_31) (by decide)))).2.1 <| XS.aload X12.here hx rfl (hb hby at_70) rfl rfl <| XS.iload X12.here hx rfl (hb hby at_72) rfl <| k) ?_
    show own_Ends p e below s _ _ _ (T12.setTop (mkF m 74 #[.val (.int p1), .val (.int p2), .val (.int p3), .val (.int p4), .val (.int p5), .val (.ref b1), .val (.ref b12), .val (.int (1 : Int32)), .val (.int (Int32.ofNat (own_c xs 0)))] [(.int (Int32.ofNat (own_c xs 0))), (.ref b12)]))
    obtain ⟨clb12_74_33, Arb12_74_33, qqb12_74_33, Szb12_74_33, Ngb12_74_33, Hsb12_74_33, Gfb12_74_33⟩ := id Vb12
    have hinb12_74_33 : ¬ ((Int32.ofNat (own_c xs 0)) < 0 ∨ clb12_74_33.slots.size ≤ ((Int32.ofNat (own_c xs 0))).toNatClampNeg) := inb_of Szb12_74_33 ⟨own_nneg hk0, (own_ofNat_lt hk0 hk5).mpr (own_c_lt (by rw [hx0]; exact hc54_31) (by decide))⟩
    have hatb12_74_33 : clb12_74_33.slots[((Int32.ofNat (own_c xs 0))).toNatClampNeg]? = some (.int (Int32.ofNat 0)) := Hsb12_74_33.at hinb12_74_33 (by rw [own_clamp hk0]; exact own_v_at (by rw [hx0]; exact hc54_31) (own_c_lt (by rw [hx0]; exact hc54_31) (by decide)) 5 (by decide))
    refine own_go (fun _ k => X12.iaload hx (j := (Int32.ofNat (own_c xs 0))) (v := (.int (Int32.ofNat 0))) (by first | exact Arb12_74_33.1 | (rw [rfl]; exact Arb12_74_33.1)) (State.isArrayOf_alike hZ.alike Arb12_74_33.2.1) Arb12_74_33.2.2 hinb12_74_33 hatb12_74_33 (g := (mkF m 74 #[.val (.int p1), .val (.int p2), .val (.int p3), .val (.int p4), .val (.int p5), .val (.ref b1), .val (.ref b12), .val (.int (1 : Int32)), .val (.int (Int32.ofNat (own_c xs 0)))] [(.int (Int32.ofNat (own_c xs 0))), (.ref b12)])) rfl rfl (hb hby at_74) _ k) ?_
    show own_Ends p e below s _ _ _ (T12.setTop (mkF m 75 #[.val (.int p1), .val (.int p2), .val (.int p3), .val (.int p4), .val (.int p5), .val (.ref b1), .val (.ref b12), .val (.int (1 : Int32)), .val (.int (Int32.ofNat (own_c xs 0)))] [(.int (Int32.ofNat 0))]))
    refine own_go (fun _ k => XS.ifNo X12.here hx rfl (hb hby at_75) rfl ((if0 _ _).trans (teq (by decide)).2) <| XT.iconstV X12.here hx rfl (1 : Int32) (hb hby at_78) rfl <| XS.goto X12.here hx rfl (pc0 := 79) (pc' := 83) rfl (hb hby at_79) (by decide) (by decide) <| XS.istore X12.here hx rfl (hb hby at_83) rfl (l' := #[.val (.int p1), .val (.int p2), .val (.int p3), .val (.int p4), .val (.int p5), .val (.ref b1), .val (.ref b12), .val (.int (1 : Int32)), .val (.int (Int32.ofNat (own_c xs 0)))]) rfl <| XT.iincV X12.here hx rfl (1 : Int32) (hb hby at_85) rfl rfl (l' := #[.val (.int p1), .val (.int p2), .val (.int p3), .val (.int p4), .val (.int p5), .val (.ref b1), .val (.ref b12), .val (.int (1 : Int32)), .val (.int ((Int32.ofNat (own_c xs 0)) + (1 : Int32)))]) rfl <| k) ?_
    show own_Ends p e below s _ _ _ (T12.setTop (mkF m 88 #[.val (.int p1), .val (.int p2), .val (.int p3), .val (.int p4), .val (.int p5), .val (.ref b1), .val (.ref b12), .val (.int (1 : Int32)), .val (.int ((Int32.ofNat (own_c xs 0)) + (1 : Int32)))] []))
    rw [← hx0] at hc54_31
    rw [own_c_pos hc54_31] at J88
    rw [own_up]; exact J88
set_option maxRecDepth 65536 in
set_option maxHeartbeats 40000000 in
theorem comes_1 {Post : Tables → Env → Array Value → State → Outcome → State → Prop} (hpost : ∀ tb e args s v u, (limb_1_1.after args s (.returned v) u = true ∧ limb_1_2.after args s (.returned v) u = true ∧ True) → FrameEnd s (.returned v) u (Jvm.fieldLocs frame_1_writes args s ++ Jvm.arrayLocs frame_1_arrays args s ++ Jvm.staticLocs frame_1_statics s) 16 128 → Post tb e args s (.returned v) u) :
    ArmFor flags0 classFile x code maxLocals ret World_1 tables_1 room_1 Calls_1 rest_1 Pre_1 Post := by
  intro l hfl _ _ p e ha hc hk s m args below hf hA hF happ hP
  obtain ⟨hcalls, hrest, hpre⟩ := hP
  obtain ⟨-, -, -, hnamed, -, -, -, hat⟩ := (Spec.applies_iff hf).mp happ
  obtain ⟨hg, hn⟩ := and_e (Cond.before_iff.mp (show (Jvm.Cond.and given_1 narrow_1).before args s = true from hpre))
  obtain ⟨g1, g2⟩ := and_e hg
  obtain ⟨g3, g4⟩ := and_e g2
  obtain ⟨g5, g6⟩ := and_e g4
  obtain ⟨g7, g8⟩ := and_e g6
  obtain ⟨g9, g10⟩ := and_e g8
  obtain ⟨w0, w1, w2, w3, w4, rfl⟩ : ∃ w0 w1 w2 w3 w4 : Value, args = #[w0, w1, w2, w3, w4] := by
    have hs : args.size = 5 := by simpa [Cond.value, given_1] using g1
    obtain ⟨L⟩ := args
    match L, hs with
    | [w0, w1, w2, w3, w4], _ => exact ⟨w0, w1, w2, w3, w4, rfl⟩
  have hw := fun d (hd : d ∈ tables_1) => atoms_spec (ws := Jvm.Cond.code x code maxLocals ret :: tables_1) hat d (List.mem_cons_of_mem _ hd)
  have hfit : Fit s := fun {y c} hc i hi => by
    obtain ⟨ha, rfl⟩ := Array.getElem?_eq_some_iff.mp hc
    have q := List.all_eq_true.mp ((Array.all_eq_true_iff_forall_mem.mp hF) _ (Array.getElem_mem ha)) i (List.mem_range.mpr hi)
    simpa [Array.getElem?_eq_getElem hi] using q
  obtain ⟨i0, ei0⟩ := is_v g3
  obtain rfl : w0 = (.int i0) := Option.some.inj ei0
  obtain ⟨i1, ei1⟩ := is_v g5
  obtain rfl : w1 = (.int i1) := Option.some.inj ei1
  obtain ⟨i2, ei2⟩ := is_v g7
  obtain rfl : w2 = (.int i2) := Option.some.inj ei2
  obtain ⟨i3, ei3⟩ := is_v g9
  obtain rfl : w3 = (.int i3) := Option.some.inj ei3
  obtain ⟨i4, ei4⟩ := is_v g10
  obtain rfl : w4 = (.int i4) := Option.some.inj ei4
  obtain ⟨n, o, h1, h2, h3, _, L, rfl, ⟨rfl, N⟩, hq⟩ := rm0 l s _ hw tables_1 i0 i1 i2 i3 i4  s.heap s.heap.size (Nat.le_refl _)  p e ha hc hk s m _ below hf ((Spec.applies_iff_loose hf).mp happ).1 ⟨rfl, State.Warmed39.refl s, rfl⟩ trivial
  refine ⟨n, _, h1, h2, h3, hpost _ _ _ _ _ _ ⟨Cond.after_iff.mpr rfl, Cond.after_iff.mpr (eq_i res_at (Term.int_eval (1)) rfl), trivial⟩ ⟨hq.1, hq.2.1, (hq.2.2.sift fun y hy => Or.inr (N y hy)).mono (by decide) (by decide)⟩⟩
theorem main_1_1 : Claimed_1_1 := comes_1 fun _ _ _ _ _ _ h hF => ⟨h.1, hF⟩
theorem main_1_2 : Claimed_1_2 := comes_1 fun _ _ _ _ _ _ h hF => ⟨h.2.1, hF⟩
end Jvm.Pilot.@@N@@
namespace Jvm.Pilot.@@N@@
open Jvm Jvm.ClassFile Sem Op Lib Jvm.Free Jvm.Stand Jvm.Pilot.@@N@@.Jvm.D
/-! MADE BY PROGRAM (witnessworld.py) out of the Statement's table words and the real class files: 9 classes; the members and pool entries that the words name. The judged class is class 1, her method 1. -/
namespace start1
open Jvm.ClassFile
def u (s : String) : CpInfo := .utf8 (stringToUtf16 s)
/-- a pool by its gaps: so many unusable entries, then the entry; so many at the end -/
def gap : Nat → List CpInfo → List CpInfo
  | 0, r => r
  | n + 1, r => .unusable :: gap n r
def poolList (es : List (Nat × CpInfo)) (last : Nat) : List CpInfo := es.foldr (fun e r => gap e.1 (e.2 :: r)) (gap last [])
def pool (es : List (Nat × CpInfo)) (last : Nat) : Array CpInfo := ⟨poolList es last⟩
def fileOf (pool : Array CpInfo) (this : Nat) (attrs : Array Attribute := #[]) (ms : Array MethodInfo := #[]) (fl : Nat := 33) (sup : Nat := 0) (ifs : Array Nat := #[]) (fds : Array FieldInfo := #[]) : ClassFile where
  minorVersion := 0
  majorVersion := 65
  constantPool := pool
  accessFlags := fl
  thisClass := this
  superClass := sup
  interfaces := ifs
  fields := fds
  methods := ms
  attributes := attrs
def plain (name : String) (sup : Option ClassId) : Class where
  name := name
  kind := .ordinary
  loader := none
  accessFlags := 33
  super := sup
  interfaces := #[]
  cf := none
  fields := #[]
  methods := #[]
  instanceTypes := #[]
  staticTypes := #[]
  resolved := #[]
  callSites := []
  init := .initialized
  statics := none
  mirror := none

def pool0 : Array CpInfo := pool [(5, u "<init>"), (0, u "()V"), (1, .class_ 10), (1, u "java/lang/Object")] 113

def k0m0 : Method := { name := "<init>", desc := "()V", sig := { parameters := [], returnType := none }, accessFlags := 1, code := none }
/-- java/lang/Object -/
def k0 : Class := { plain "java/lang/Object" none with
  accessFlags := 33
  interfaces := #[]
  cf := some (fileOf pool0 8 #[] #[{ accessFlags := 1, nameIndex := 5, descriptorIndex := 6, attributes := #[] }] 33 0 #[] #[])
  fields := #[]
  methods := #[k0m0]
  instanceTypes := #[]
  staticTypes := #[]
  resolved := Array.replicate 124 none
  statics := none }

def pool1 : Array CpInfo := pool [(2, .class_ 4), (1, u "java/lang/Object"), (0, u "<init>"), (0, u "()V"), (0, .methodref 8 9), (0, .class_ 10), (0, .nameAndType 11 12), (0, u "com/example/weftbind/weftbind/Routes"), (0, u "boundTasks"), (0, u "([I)[I"), (0, .class_ 14), (0, u "com/example/weftbind/weftbind/RoutesBoundTasksPinLaw"), (2, u "law"), (0, u "(IIIII)Z")] 5

def k1m0 : Method := { name := "<init>", desc := "()V", sig := { parameters := [], returnType := none }, accessFlags := 2, code := none }
def k1c1 : Code := { maxStack := 3, maxLocals := 9, code := code, exceptionTable := #[], attributes := #[] }
def k1m1 : Method := { name := "law", desc := "(IIIII)Z", sig := { parameters := [.int, .int, .int, .int, .int], returnType := some .boolean }, accessFlags := 9, code := some k1c1 }
/-- com/example/weftbind/weftbind/RoutesBoundTasksPinLaw -/
def k1 : Class := { plain "com/example/weftbind/weftbind/RoutesBoundTasksPinLaw" (some 0) with
  accessFlags := 49
  interfaces := #[]
  cf := some (fileOf pool1 13 #[] #[{ accessFlags := 2, nameIndex := 5, descriptorIndex := 6, attributes := #[] }, { accessFlags := 9, nameIndex := 17, descriptorIndex := 18, attributes := #[] }] 49 2 #[] #[])
  fields := #[]
  methods := #[k1m0, k1m1]
  instanceTypes := #[]
  staticTypes := #[]
  resolved := Array.replicate 24 none
  statics := none }

def pool2 : Array CpInfo := pool [(2, .class_ 4), (1, u "java/lang/Object"), (6, .class_ 13), (1, u "com/example/weftbind/weftbind/Routes"), (0, u "choices"), (0, u "Ljava/util/List;"), (5, u "under"), (0, u "Ljava/util/Map;"), (2, u "firsts"), (2, u "problem"), (0, u "Lcom/example/weftbind/weftbind/Problem;"), (98, .class_ 129), (0, u "com/example/weftbind/weftbind/Routes$FirstRoute"), (32, u "boundTasks"), (0, u "([I)[I")] 7

def k2c0 : Code := { maxStack := 3, maxLocals := 6, code := prog_150_method_6_code, exceptionTable := #[], attributes := #[] }
def k2m0 : Method := { name := "boundTasks", desc := "([I)[I", sig := { parameters := [(.array .int)], returnType := some (.array .int) }, accessFlags := 8, code := some k2c0 }
/-- com/example/weftbind/weftbind/Routes -/
def k2 : Class := { plain "com/example/weftbind/weftbind/Routes" (some 0) with
  accessFlags := 32
  interfaces := #[]
  cf := some (fileOf pool2 11 #[.nestMembers #[128]] #[{ accessFlags := 8, nameIndex := 162, descriptorIndex := 163, attributes := #[] }] 32 2 #[] #[{ accessFlags := 18, nameIndex := 28, descriptorIndex := 29, attributes := #[] }, { accessFlags := 18, nameIndex := 14, descriptorIndex := 15, attributes := #[] }, { accessFlags := 18, nameIndex := 21, descriptorIndex := 22, attributes := #[] }, { accessFlags := 18, nameIndex := 25, descriptorIndex := 22, attributes := #[] }])
  fields := #[{ name := "problem", type := (.object "com/example/weftbind/weftbind/Problem"), accessFlags := 18, slot := 0, constantValue := 0 }, { name := "choices", type := (.object "java/util/List"), accessFlags := 18, slot := 1, constantValue := 0 }, { name := "under", type := (.object "java/util/Map"), accessFlags := 18, slot := 2, constantValue := 0 }, { name := "firsts", type := (.object "java/util/Map"), accessFlags := 18, slot := 3, constantValue := 0 }]
  methods := #[k2m0]
  instanceTypes := #[(.object "com/example/weftbind/weftbind/Problem"), (.object "java/util/List"), (.object "java/util/Map"), (.object "java/util/Map")]
  staticTypes := #[]
  resolved := Array.replicate 171 none
  statics := none }

def pool3 : Array CpInfo := pool [(1, u "java/lang/Cloneable"), (0, .class_ 1), (0, u "java/lang/Object"), (0, .class_ 3)] 3

/-- java/lang/Cloneable -/
def k3 : Class := { plain "java/lang/Cloneable" (some 0) with
  accessFlags := 1537
  interfaces := #[]
  cf := some (fileOf pool3 2 #[] #[] 1537 4 #[] #[])
  fields := #[]
  methods := #[]
  instanceTypes := #[]
  staticTypes := #[]
  resolved := Array.replicate 8 none
  statics := none }

def pool4 : Array CpInfo := pool [(1, u "java/io/Serializable"), (0, .class_ 1), (0, u "java/lang/Object"), (0, .class_ 3)] 3

/-- java/io/Serializable -/
def k4 : Class := { plain "java/io/Serializable" (some 0) with
  accessFlags := 1537
  interfaces := #[]
  cf := some (fileOf pool4 2 #[] #[] 1537 4 #[] #[])
  fields := #[]
  methods := #[]
  instanceTypes := #[]
  staticTypes := #[]
  resolved := Array.replicate 8 none
  statics := none }

/-- the primitive byte -/
def k5 : Class := { plain "byte" none with kind := .primitive 'B', accessFlags := 0x411 }
/-- [B -/
def k6 : Class := { plain "[B" (some 0) with kind := .array 5 .byte, interfaces := #[3, 4], accessFlags := 1041 }

/-- the primitive int -/
def k7 : Class := { plain "int" none with kind := .primitive 'I', accessFlags := 0x411 }
/-- [I -/
def k8 : Class := { plain "[I" (some 0) with kind := .array 7 .int, interfaces := #[3, 4], accessFlags := 1041 }

def heap : Heap := #[]
def classes : Array Class := #[k0, k1, k2, k3, k4, k5, k6, k7, k8]
def interned : List (Array UInt16 × Addr) := []
def slotsUsed : Nat := 0
def theMethod : MethodId := ⟨1, 1⟩
def args0 : Array Value := #[.int 5, .int 6, .int 7, .int 8, .int 9]
def aboutOver (below : List Frame) : State where
  vm := { classes := classes, interned := interned.toArray }
  heap := heap
  slotsUsed := slotsUsed
  threads := #[{ frames := .invoking theMethod args0 :: below }]
def below0 : List Frame := [.native { method := ⟨0, 0⟩, args := #[] }]
def about1 : State := aboutOver below0
def p0 : Program := .bare "" "" ""
def e0 : Env := launch0.env 0 0 0
theorem w_frames : about1.frames = Frame.invoking theMethod args0 :: below0 := rfl
set_option maxRecDepth 65536 in
theorem w_args : argsFit about1.vm theMethod args0 = true := by decide +kernel
set_option maxRecDepth 65536 in
theorem w_heap : heapFits about1 = true := by decide +kernel
set_option maxRecDepth 65536 in
theorem w_runnable : about1.curStatus? = some .runnable := by decide +kernel
set_option maxRecDepth 65536 in
theorem w_alone : about1.alone = true := by decide +kernel
set_option maxRecDepth 65536 in
theorem w_named : about1.methodNamed? x = some theMethod := by decide +kernel
set_option maxRecDepth 65536 in
theorem w_hears : about1.hears theMethod below0 = true := by decide +kernel
set_option maxRecDepth 65536 in
theorem w_ripe : about1.ripe theMethod args0 below0 = true := by decide +kernel
theorem w_running : about1.status = .running := rfl
set_option maxRecDepth 65536 in
theorem w_room : about1.hasRoom e0.platform room_1 = true :=
  launch0.hasRoom_least _ room_1 (by decide +kernel) (by decide +kernel) (by decide +kernel) (by decide +kernel) (by decide +kernel) (by decide +kernel)
theorem allAtoms_all (ts : List Jvm.Cond) (a : Array Jvm.Value) (st : Jvm.State) : (allAtoms ts).before a st = ts.all (fun c => c.before a st) := by
  induction ts with
  | nil => rfl
  | cons c t ih =>
    show (Jvm.Cond.and c (allAtoms t)).before a st = _
    rw [Jvm.Cond.before_and, ih, List.all_cons]
def words1 : List Jvm.Cond := Jvm.Cond.code x code maxLocals ret :: tables_1
/-- a 'code' word, met by the world's own term for the bytes: nothing is compared byte by byte -/
theorem code_word {y : MethodName} {bytes : ByteArray} {mx : Nat} {rt : Option FieldType} {a : Array Value} {s : State} {m : MethodId} {meth : Method} {c : Code} (h1 : s.methodNamed? y = some m) (h2 : s.vm.method? m = some meth) (h3 : meth.code = some c) (h4 : c.code = bytes)
    (h5 : (c.maxLocals == mx && c.exceptionTable.isEmpty && decide (c.maxStack ≤ mostOperands) && decide (meth.sig.returnType = rt) && !meth.locks && decide (parseMethodDescriptor y.desc = some meth.sig)) = true) : (Jvm.Cond.code y bytes mx rt).before a s = true := by
  simp only [Bool.and_eq_true, beq_iff_eq, Bool.not_eq_true', decide_eq_true_eq] at h5
  obtain ⟨⟨⟨⟨⟨g1, g2⟩, g3⟩, g4⟩, g5⟩, g6⟩ := h5
  simp [Cond.before, Cond.holds, Cond.value, h1, h2, h3, h4, g1, g2, g3, g4, g5, g6]
def isCode : Jvm.Cond → Bool
  | .code _ _ _ _ => true
  | _ => false
theorem all_split {L : List Jvm.Cond} {P : Jvm.Cond → Bool} (h1 : L.all (fun c => isCode c || P c) = true) (h2 : ∀ c ∈ L.filter isCode, P c = true) : L.all P = true := by
  refine List.all_eq_true.mpr fun c hc => ?_
  have h := List.all_eq_true.mp h1 c hc
  rcases Bool.eq_false_or_eq_true (isCode c) with hi | hi
  · exact h2 c (List.mem_filter.mpr ⟨hc, hi⟩)
  · simpa [hi] using h
set_option maxRecDepth 65536 in
theorem w_c0 : (Jvm.Cond.code x code maxLocals ret).before args0 about1 = true := code_word (m := ⟨1, 1⟩) (meth := k1m1) (c := k1c1) (by decide +kernel) rfl rfl rfl (by decide +kernel)
set_option maxRecDepth 65536 in
theorem w_c1 : (Jvm.Cond.code ({ cls := "com/example/weftbind/weftbind/Routes", name := "boundTasks", desc := "([I)[I" } : Jvm.MethodName) prog_150_method_6_code (6 : Nat) (Option.some (Jvm.ClassFile.FieldType.array Jvm.ClassFile.FieldType.int))).before args0 about1 = true := code_word (m := ⟨2, 0⟩) (meth := k2m0) (c := k2c0) (by decide +kernel) rfl rfl rfl (by decide +kernel)
def codes1 : List Jvm.Cond := [Jvm.Cond.code x code maxLocals ret, Jvm.Cond.code ({ cls := "com/example/weftbind/weftbind/Routes", name := "boundTasks", desc := "([I)[I" } : Jvm.MethodName) prog_150_method_6_code (6 : Nat) (Option.some (Jvm.ClassFile.FieldType.array Jvm.ClassFile.FieldType.int))]
set_option maxRecDepth 65536 in
theorem codes_eq : words1.filter isCode = codes1 := rfl
theorem w_codes : ∀ c ∈ words1.filter isCode, c.before args0 about1 = true := by
  rw [codes_eq]
  intro c hc
  simp only [codes1, List.mem_cons, List.not_mem_nil, or_false] at hc
  rcases hc with rfl | rfl
  · exact w_c0
  · exact w_c1
set_option maxRecDepth 65536 in
theorem w_t1 : words1.all (fun c => isCode c || c.before args0 about1) = true := by decide +kernel
theorem w_tables : (allAtoms (Jvm.Cond.code x code maxLocals ret :: tables_1)).before args0 about1 = true := by
  rw [allAtoms_all]
  show words1.all (fun c => c.before args0 about1) = true
  refine all_split ?_ w_codes
  rw [w_t1]
set_option maxRecDepth 65536 in
theorem w_case : (Jvm.Cond.and given_1 narrow_1).before args0 about1 = true := by decide +kernel
theorem w_applies : (headSpec (Jvm.Cond.code x code maxLocals ret :: tables_1) room_1).applies x e0.platform about1 = true :=
  (Spec.applies_iff w_frames).mpr ⟨w_running, w_runnable, w_alone, w_named, w_hears, w_ripe, w_room, w_tables⟩
theorem atStart : AtStart classFile x code maxLocals ret World_1 tables_1 room_1 Calls_1 rest_1 Pre_1 launch0 p0 e0 about1 theMethod args0 below0 :=
  ⟨lists_1, trivial, launch0.admits_env _ _ _, launch0.least_env, fairChoices_fair.cas, fairChoices_fair.clock, w_frames, w_args, w_heap, w_applies, trivial, trivial, w_case⟩
end start1
theorem witness_1 : WitnessClaimed_1 := ⟨start1.p0, start1.e0, start1.about1, start1.theMethod, start1.args0, start1.below0, start1.atStart⟩
end Jvm.Pilot.@@N@@
