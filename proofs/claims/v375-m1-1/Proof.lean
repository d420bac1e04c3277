import JvmDerived
import JvmDerived.Pilot.@@N@@Statement
import JvmDerived.Pilot.@@N@@Code
set_option linter.unusedVariables false
set_option linter.unusedSimpArgs false
namespace Jvm.Pilot.@@N@@
open Jvm Jvm.ClassFile Sem Op Lib Jvm.Free Jvm.Stand Jvm.LawKit Jvm.RoadKit Bundle Jvm.Pilot.@@N@@.Jvm.D
/-! the walk's goal in continuation style -/
def own_Ends (p : Program) (e : Env) (below : List Frame) (s : State) (Q : Option Value → Heap → List Loc → Prop) (k n : Nat) (t : State) : Prop :=
  ∃ s₂ o, Steps p.tables e below t s₂ ∧ s₂.status = .running ∧ Ended s₂ below o ∧ ∃ v L, o = .returned v ∧ Q v s₂.heap L ∧ FrameEnd s o s₂ L k n
section OwnEnds
variable {p : Program} {l : Launch} {e : Env} {R : Room} {s : State} {m : MethodId} {args : Array Value} {below : List Frame} {meth : Method} {c : Code} {T : State} {locs : List Loc} {cells slots : Nat} {Q : Option Value → Heap → List Loc → Prop} {k n : Nat}
theorem own_go {t t' : State} (h : ∀ u, Steps p.tables e below t' u → Steps p.tables e below t u) (g : own_Ends p e below s Q k n t') : own_Ends p e below s Q k n t := by
  obtain ⟨s₂, o, h1, h2⟩ := g
  exact ⟨s₂, o, h _ h1, h2⟩
theorem own_retN (X : Stand p l e R s m args below meth c T locs cells slots) (hx : p.tables.exec = Jvm.exec) {pc : Nat} {Ls : Array Slot} {z w : Int32} {t : FieldType} {rest : List Value} (hret : meth.sig.returnType = some t) (ht : t = .boolean ∨ t = .byte ∨ t = .char ∨ t = .short)
    (hd : decode c.code pc = .ok (.ireturn, 1)) (hlk : meth.locks = false) (hz : nar t z = w) (hQ : Q (some (.int w)) T.heap locs) (hk : cells ≤ k) (hn : slots ≤ n) : own_Ends p e below s Q k n (T.setTop (mkF m pc Ls (.int z :: rest))) := by
  subst hz
  obtain ⟨fs, hr, hrun, hended, hW, hsame⟩ := X.leave (v := some (.int (nar t z))) (fun h => by rw [hret] at h; cases h) hlk
  exact ⟨_, _, retN X hx hret ht hd hr, hrun, hended, _, _, rfl, hQ, ⟨_, rfl⟩, hW, hsame.mono hk hn⟩
theorem own_ret (X : Stand p l e R s m args below meth c T locs cells slots) (hx : p.tables.exec = Jvm.exec) {pc : Nat} {Ls : Array Slot} {w : Value} {t : FieldType} {i : Instr} {rest : List Value} (hret : meth.sig.returnType = some t) (hn' : narrow t w = w)
    (hi : (i = .ireturn ∧ (t = .int ∨ t = .boolean ∨ t = .byte ∨ t = .char ∨ t = .short) ∧ ∃ z, w = .int z) ∨ (i = .lreturn ∧ t = .long ∧ ∃ z, w = .long z) ∨ (i = .dreturn ∧ t = .double ∧ ∃ z, w = .double z) ∨ (i = .freturn ∧ t = .float ∧ ∃ z, w = .float z) ∨ (i = .areturn ∧ t.isReference = true ∧ w.isRef = true))
    (hd : decode c.code pc = .ok (i, 1)) (hlk : meth.locks = false) (hQ : Q (some w) T.heap locs) (hk : cells ≤ k) (hn : slots ≤ n) : own_Ends p e below s Q k n (T.setTop (mkF m pc Ls (w :: rest))) := by
  obtain ⟨fs, hr, hrun, hended, hW, hsame⟩ := X.leave (v := some w) (fun h => by rw [hret] at h; cases h) hlk
  exact ⟨_, _, retOut X hx hret hn' hi hd hr, hrun, hended, _, _, rfl, hQ, ⟨_, rfl⟩, hW, hsame.mono hk hn⟩
theorem own_ret0 (X : Stand p l e R s m args below meth c T locs cells slots) (hx : p.tables.exec = Jvm.exec) {pc : Nat} {Ls : Array Slot} (hret : meth.sig.returnType = none)
    (hd : decode c.code pc = .ok (.return_, 1)) (hlk : meth.locks = false) (hQ : Q none T.heap locs) (hk : cells ≤ k) (hn : slots ≤ n) : own_Ends p e below s Q k n (T.setTop (mkF m pc Ls [])) := by
  obtain ⟨fs, hr, hrun, hended, hW, hsame⟩ := X.leave (v := none) (fun _ => rfl) hlk
  exact ⟨_, _, X.returnOut hx hret hd hr, hrun, hended, _, _, rfl, hQ, ⟨_, rfl⟩, hW, hsame.mono hk hn⟩
end OwnEnds
/-! the same, where String constants are resolved on the way (the wide frame) -/
def own_EndsW (p : Program) (e : Env) (below : List Frame) (s : State) (Q : Option Value → Heap → List Loc → Prop) (k n : Nat) (t : State) : Prop :=
  ∃ s₂ o, Steps p.tables e below t s₂ ∧ s₂.status = .running ∧ Ended s₂ below o ∧ ∃ v L, o = .returned v ∧ Q v s₂.heap L ∧ ReturnedEndW s o s₂ L k n
section OwnEndsW
variable {p : Program} {l : Launch} {e : Env} {R : Room} {s : State} {vm0 : Vm} {k0 : Nat} {m : MethodId} {args : Array Value} {below : List Frame} {meth : Method} {c : Code} {T : State} {locs : List Loc} {cells slots : Nat} {Q : Option Value → Heap → List Loc → Prop} {k n : Nat}
theorem own_goW {t t' : State} (h : ∀ u, Steps p.tables e below t' u → Steps p.tables e below t u) (g : own_EndsW p e below s Q k n t') : own_EndsW p e below s Q k n t := by
  obtain ⟨s₂, o, h1, h2⟩ := g
  exact ⟨s₂, o, h _ h1, h2⟩
theorem own_leaveW (X : Stand p l e R (s.setVm vm0) m args below meth c T locs cells slots) (hS : s.Since vm0 k0) (hk : k0 ≤ T.heap.size) {v : Option Value} (hv : meth.sig.returnType = none → v = none) (hlk : meth.locks = false) (hc : cells ≤ k) (hn : slots ≤ n) :
    ∃ fs, (∀ (f : JFrame) (acts : List Action), f.method = m → f.locked = none → f.entered = [] → (doReturn e (T.setTop f) acts v).1 = T.setFrames fs) ∧ (T.setFrames fs).status = .running ∧ Ended (T.setFrames fs) below (.returned v) ∧ ReturnedEndW s (.returned v) (T.setFrames fs) locs k n := by
  obtain ⟨fs, hr, hrun, hended, hW, hsame⟩ := X.leave (v := v) hv hlk
  have h := hS.ended (U := T.setFrames fs) hW hk (hsame.mono hc hn)
  exact ⟨fs, hr, hrun, hended, ⟨v, rfl⟩, h.1, h.2.1, h.2.2⟩
theorem own_retNW (X : Stand p l e R (s.setVm vm0) m args below meth c T locs cells slots) (hx : p.tables.exec = Jvm.exec) {pc : Nat} {Ls : Array Slot} {z w : Int32} {t : FieldType} {rest : List Value} (hret : meth.sig.returnType = some t) (ht : t = .boolean ∨ t = .byte ∨ t = .char ∨ t = .short) (hS : s.Since vm0 k0) (hk0 : k0 ≤ T.heap.size)
    (hd : decode c.code pc = .ok (.ireturn, 1)) (hlk : meth.locks = false) (hz : nar t z = w) (hQ : Q (some (.int w)) T.heap locs) (hk : cells ≤ k) (hn : slots ≤ n) : own_EndsW p e below s Q k n (T.setTop (mkF m pc Ls (.int z :: rest))) := by
  subst hz
  obtain ⟨fs, hr, hrun, hended, hend⟩ := own_leaveW X hS hk0 (v := some (.int (nar t z))) (fun h => by rw [hret] at h; cases h) hlk hk hn
  exact ⟨_, _, retN X hx hret ht hd hr, hrun, hended, _, _, rfl, hQ, hend⟩
theorem own_retW (X : Stand p l e R (s.setVm vm0) m args below meth c T locs cells slots) (hx : p.tables.exec = Jvm.exec) {pc : Nat} {Ls : Array Slot} {w : Value} {t : FieldType} {i : Instr} {rest : List Value} (hret : meth.sig.returnType = some t) (hn' : narrow t w = w)
    (hi : (i = .ireturn ∧ (t = .int ∨ t = .boolean ∨ t = .byte ∨ t = .char ∨ t = .short) ∧ ∃ z, w = .int z) ∨ (i = .lreturn ∧ t = .long ∧ ∃ z, w = .long z) ∨ (i = .dreturn ∧ t = .double ∧ ∃ z, w = .double z) ∨ (i = .freturn ∧ t = .float ∧ ∃ z, w = .float z) ∨ (i = .areturn ∧ t.isReference = true ∧ w.isRef = true))
    (hS : s.Since vm0 k0) (hk0 : k0 ≤ T.heap.size) (hd : decode c.code pc = .ok (i, 1)) (hlk : meth.locks = false) (hQ : Q (some w) T.heap locs) (hk : cells ≤ k) (hn : slots ≤ n) : own_EndsW p e below s Q k n (T.setTop (mkF m pc Ls (w :: rest))) := by
  obtain ⟨fs, hr, hrun, hended, hend⟩ := own_leaveW X hS hk0 (v := some w) (fun h => by rw [hret] at h; cases h) hlk hk hn
  exact ⟨_, _, retOut X hx hret hn' hi hd hr, hrun, hended, _, _, rfl, hQ, hend⟩
theorem own_ret0W (X : Stand p l e R (s.setVm vm0) m args below meth c T locs cells slots) (hx : p.tables.exec = Jvm.exec) {pc : Nat} {Ls : Array Slot} (hret : meth.sig.returnType = none) (hS : s.Since vm0 k0) (hk0 : k0 ≤ T.heap.size)
    (hd : decode c.code pc = .ok (.return_, 1)) (hlk : meth.locks = false) (hQ : Q none T.heap locs) (hk : cells ≤ k) (hn : slots ≤ n) : own_EndsW p e below s Q k n (T.setTop (mkF m pc Ls [])) := by
  obtain ⟨fs, hr, hrun, hended, hend⟩ := own_leaveW X hS hk0 (v := none) (fun _ => rfl) hlk hk hn
  exact ⟨_, _, X.returnOut hx hret hd hr, hrun, hended, _, _, rfl, hQ, hend⟩
end OwnEndsW
theorem pd_0 : parseMethodDescriptor "(JJ)J" = some ⟨[.long, .long], some .long⟩ := by decide +kernel
theorem pd_1 : parseMethodDescriptor "(JJJJ)V" = some ⟨[.long, .long, .long, .long], none⟩ := by decide +kernel
theorem pd_2 : parseMethodDescriptor "()V" = some ⟨[], none⟩ := by decide +kernel
theorem pd_3 : parseMethodDescriptor "(Ljava/lang/String;JII)I" = some ⟨[(.object "java/lang/String"), .long, .int, .int], some .int⟩ := by decide +kernel
theorem pd_4 : parseMethodDescriptor "(Ljava/lang/Object;)Z" = some ⟨[(.object "java/lang/Object")], some .boolean⟩ := by decide +kernel
theorem pd_5 : parseMethodDescriptor "(I)Ljava/lang/Integer;" = some ⟨[.int], some (.object "java/lang/Integer")⟩ := by decide +kernel
theorem pd_6 : parseMethodDescriptor "(I)V" = some ⟨[.int], none⟩ := by decide +kernel
def own_minL (x y : Int64) : Int64 := if y < x then y else x
def own_maxL (x y : Int64) : Int64 := if x < y then y else x
def own_maxI (x y : Int32) : Int32 := if x < y then y else x
theorem own_strs0 {Z : State} {a0 : Array Value} (hw : ∀ d ∈ tables_1, d.before a0 Z = true) : ∀ a ∈ Bundle.stringAtoms, a.before a0 Z = true := by
  intro a ha
  exact hw a ((by decide +kernel : ∀ a ∈ Bundle.stringAtoms, a ∈ tables_1) a ha)
theorem own_sub {args : Array Value} {s : State} {j : Int32} (hj : ¬ j < 0) : (Term.sub (.index 0) (.int 128)).eval args s none [j.toNatClampNeg] s = some (.int (j - 128)) := by
  have h := (back32 hj).1
  simp [Term.eval, h]
def own_NS (Z : State) (C K : String) : Prop := ∃ c t, Z.vm.findClass C = some c ∧ Z.vm.findClass K = some t ∧ ∀ fuel, Z.vm.isSubclassAux fuel c t = false
theorem own_aux0 (v : Vm) (c t : ClassId) : v.isSubclassAux 0 c t = false := rfl
theorem own_no {Z : State} {a0 : Array Value} {k : Nat} (w1 : (Jvm.Cond.superclass "java/lang/Integer" "java/lang/Number").before a0 Z = true) (w2 : (Jvm.Cond.superclass "java/lang/Number" "java/lang/Object").before a0 Z = true) (w3 : (Jvm.Cond.noSuperclass "java/lang/Object").before a0 Z = true) (wk : (Jvm.Cond.instantiable "com/example/expiry/expiry/model/Push" k).before a0 Z = true) :
    ∃ c t, Z.vm.findClass "java/lang/Integer" = some c ∧ Z.vm.findClass "com/example/expiry/expiry/model/Push" = some t ∧ Z.vm.assignable c t = false := by
  obtain ⟨t, kt, g0, g2, g3, g4, -, -⟩ := Cond.instantiable_spec wk
  obtain ⟨co, ko, o1, o2, o3, -, -⟩ := Cond.noSuperclass_spec w3
  obtain ⟨ci, hi⟩ := found_sup w1
  obtain ⟨cn, hn⟩ := found_sup w2
  obtain ⟨p1, ki, kp1, a1, a2, a3, a4, a5, -, a7⟩ := Cond.superclass_spec hi w1
  obtain ⟨p2, kn, kp2, b1, b2, b3, b4, b5, -, b7⟩ := Cond.superclass_spec hn w2
  cases a1.symm.trans hn
  cases b1.symm.trans o1
  have n1 := ids_ne hi g0 (by decide)
  have n2 := ids_ne hn g0 (by decide)
  have n3 := ids_ne o1 g0 (by decide)
  refine ⟨ci, t, hi, g0, ?_⟩
  have hsub : ∀ fuel, Z.vm.isSubclassAux fuel ci t = false := by
    intro fuel
    rcases fuel with _ | fuel
    · rfl
    rcases fuel with _ | fuel
    · simp [Vm.isSubclassAux, n1, a2, a4]
    rcases fuel with _ | fuel
    · simp [Vm.isSubclassAux, n1, n2, a2, a4, b2, b4]
    · simp [Vm.isSubclassAux, n1, n2, n3, a2, a4, b2, b4, o2, o3]
  show Z.vm.assignableAux (255 + 1) ci t = false
  have gi : kt.isInterface = false := (Bool.or_eq_false_iff.mp g4).1
  simp [Vm.assignableAux, n1, a2, g2, a5, g3, gi, Vm.isSubclass, hsub]
theorem d1_0 : decode jdk_29_method_66_code 0 = .ok (.lload_n 0, 1) := by decide +kernel
theorem d1_1 : decode jdk_29_method_66_code 1 = .ok (.lload_n 2, 1) := by decide +kernel
theorem d1_2 : decode jdk_29_method_66_code 2 = .ok (.lcmp, 1) := by decide +kernel
theorem d1_3 : decode jdk_29_method_66_code 3 = .ok (.ifCond .lt 7, 3) := by decide +kernel
theorem d1_6 : decode jdk_29_method_66_code 6 = .ok (.lload_n 0, 1) := by decide +kernel
theorem d1_7 : decode jdk_29_method_66_code 7 = .ok (.goto 4, 3) := by decide +kernel
theorem d1_10 : decode jdk_29_method_66_code 10 = .ok (.lload_n 2, 1) := by decide +kernel
theorem d1_11 : decode jdk_29_method_66_code 11 = .ok (.lreturn, 1) := by decide +kernel
theorem ef_1 (m : MethodId) (x0 : Int64) (x1 : Int64) : entryFrame m #[(.long x0), (.long x1)] 4 = mkF m 0 #[.val (.long x0), .second, .val (.long x1), .second] [] := by first | (simp [entryFrame, mkF, argsToLocals, Value.category]; done) | rfl
def Q1 (x1 : Int64) (x2 : Int64) (h0 : Heap) (n0 : Nat) (Z : State) (v : Option Value) (h : Heap) (L : List Loc) : Prop := v = some (.long (own_maxL x1 x2)) ∧ Fr n0 L ∧ h = h0
set_option maxRecDepth 65536 in
set_option maxHeartbeats 40000000 in
theorem rm1 (l : Launch) (Z : State) (a0 : Array Value) (hw : ∀ d ∈ tables_1, d.before a0 Z = true) (ws : List Jvm.Cond) (x1 : Int64) (x2 : Int64) (h0 : Heap) (n0 : Nat) (Z0 : n0 ≤ h0.size) :
    MetFree l (⟨"java/lang/Math", "max", "(JJ)J"⟩ : MethodName) (head1 (Jvm.Cond.code (⟨"java/lang/Math", "max", "(JJ)J"⟩ : MethodName) jdk_29_method_66_code 4 (some .long) :: ws) ({ frames := 0, cells := 0, slots := 0, locals := 0 } : Room)) (fun a U => a = #[(.long x1), (.long x2)] ∧ Z.Warmed39 U.vm ∧ U.heap = h0) (fun _ _ _ _ _ => True) (fun _ U o U' => ∃ v L, o = .returned v ∧ Q1 x1 x2 h0 n0 Z v U'.heap L ∧ FrameEnd U o U' L ({ frames := 0, cells := 0, slots := 0, locals := 0 } : Room).cells ({ frames := 0, cells := 0, slots := 0, locals := 0 } : Room).slots) := by
  refine MetFree.of_bodySF (Jvm.Free.JP.mathPlain rfl (by decide +kernel)) hisR ?_
  intro p e s m args below meth c s₁ Bd hml0 hP hK
  obtain ⟨rfl, hZ, hh⟩ := hP
  have hx := Bd.exec
  have hby := Bd.bytes
  have hml : c.maxLocals = 4 := hml0
  have hown : s.vm.findClass "java/lang/Math" = some m.cls := findClass_of_methodNamed Bd.named
  have hnm := (name_of_methodNamed Bd.named Bd.method).1
  have hlk := Bd.notSynchronized
  have hrt := Bd.returns
  have X0 : Stand p l e ({ frames := 0, cells := 0, slots := 0, locals := 0 } : Room) s m #[(.long x1), (.long x2)] below meth c s₁ [] 0 0 := Stand.of_body Bd
  have e0 : s₁.heap = h0 := by rw [← hh, Bd.state]; rfl
  have N0 := Fr.nil n0
  show own_Ends p e below s (Q1 x1 x2 h0 n0 Z) ({ frames := 0, cells := 0, slots := 0, locals := 0 } : Room).cells ({ frames := 0, cells := 0, slots := 0, locals := 0 } : Room).slots (s₁.setTop (entryFrame m #[(.long x1), (.long x2)] 4))
  rw [ef_1]
  refine own_go (fun _ k => XS.lloadN X0.here hx rfl (hb hby d1_0) rfl <| XS.lloadN X0.here hx rfl (hb hby d1_1) rfl <| XS.lcmp X0.here hx rfl (hb hby d1_2) rfl <| k) ?_
  show own_Ends p e below s _ _ _ (s₁.setTop (mkF m 3 #[.val (.long x1), .second, .val (.long x2), .second] [(.int (lcmpW x1 x2))]))
  by_cases hc3_1 : x1 < x2
  · -- true
    refine own_go (fun _ k => XS.ifYes X0.here hx rfl (pc0 := 3) (pc' := 10) rfl (hb hby d1_3) rfl ((if0 _ _).trans (tlt ((lw_lt _ _).mpr hc3_1)).1) (by decide) (by decide) <| XS.lloadN X0.here hx rfl (hb hby d1_10) rfl <| k) ?_
    show own_Ends p e below s _ _ _ (s₁.setTop (mkF m 11 #[.val (.long x1), .second, .val (.long x2), .second] [(.long x2)]))
    exact own_ret X0 hx hrt rfl (Or.inr (Or.inl ⟨rfl, rfl, _, rfl⟩)) (hb hby d1_11) hlk (by rw [e0]; exact ⟨by unfold own_maxL; rw [if_pos hc3_1], N0, rfl⟩) (by decide) (by decide)
  · -- false
    refine own_go (fun _ k => XS.ifNo X0.here hx rfl (hb hby d1_3) rfl ((if0 _ _).trans (flt (fun q => hc3_1 ((lw_lt _ _).mp q))).1) <| XS.lloadN X0.here hx rfl (hb hby d1_6) rfl <| XS.goto X0.here hx rfl (pc0 := 7) (pc' := 11) rfl (hb hby d1_7) (by decide) (by decide) <| k) ?_
    show own_Ends p e below s _ _ _ (s₁.setTop (mkF m 11 #[.val (.long x1), .second, .val (.long x2), .second] [(.long x1)]))
    exact own_ret X0 hx hrt rfl (Or.inr (Or.inl ⟨rfl, rfl, _, rfl⟩)) (hb hby d1_11) hlk (by rw [e0]; exact ⟨by unfold own_maxL; rw [if_neg hc3_1], N0, rfl⟩) (by decide) (by decide)
theorem d4_0 : decode prog_47_method_9_code 0 = .ok (.lload_n 1, 1) := by decide +kernel
theorem d4_1 : decode prog_47_method_9_code 1 = .ok (.iload_n 3, 1) := by decide +kernel
theorem d4_2 : decode prog_47_method_9_code 2 = .ok (.i2l, 1) := by decide +kernel
theorem d4_3 : decode prog_47_method_9_code 3 = .ok (.lcmp, 1) := by decide +kernel
theorem d4_4 : decode prog_47_method_9_code 4 = .ok (.ifCond .lt 11, 3) := by decide +kernel
theorem d4_7 : decode prog_47_method_9_code 7 = .ok (.lload_n 1, 1) := by decide +kernel
theorem d4_8 : decode prog_47_method_9_code 8 = .ok (.iload 4, 2) := by decide +kernel
theorem d4_10 : decode prog_47_method_9_code 10 = .ok (.i2l, 1) := by decide +kernel
theorem d4_11 : decode prog_47_method_9_code 11 = .ok (.lcmp, 1) := by decide +kernel
theorem d4_12 : decode prog_47_method_9_code 12 = .ok (.ifCond .le 20, 3) := by decide +kernel
theorem d4_15 : decode prog_47_method_9_code 15 = .ok (.new 59, 3) := by decide +kernel
theorem d4_18 : decode prog_47_method_9_code 18 = .ok (.dup, 1) := by decide +kernel
theorem d4_19 : decode prog_47_method_9_code 19 = .ok (.aload_n 0, 1) := by decide +kernel
theorem d4_20 : decode prog_47_method_9_code 20 = .ok (.iload_n 3, 1) := by decide +kernel
theorem d4_21 : decode prog_47_method_9_code 21 = .ok (.iload 4, 2) := by decide +kernel
theorem d4_23 : decode prog_47_method_9_code 23 = .ok (.invokedynamic 61, 5) := by decide +kernel
theorem d4_28 : decode prog_47_method_9_code 28 = .ok (.invokespecial 65, 3) := by decide +kernel
theorem d4_31 : decode prog_47_method_9_code 31 = .ok (.athrow, 1) := by decide +kernel
theorem d4_32 : decode prog_47_method_9_code 32 = .ok (.lload_n 1, 1) := by decide +kernel
theorem d4_33 : decode prog_47_method_9_code 33 = .ok (.l2i, 1) := by decide +kernel
theorem d4_34 : decode prog_47_method_9_code 34 = .ok (.ireturn, 1) := by decide +kernel
theorem pn_0 : plainName "com/example/expiry/expiry/model/Push" = true := by first | (simp [plainName, overriddenIn]; done) | decide +kernel
theorem ef_4 (m : MethodId) (x0 : Addr) (x1 : Int64) (x2 : Int32) (x3 : Int32) : entryFrame m #[(.ref x0), (.long x1), (.int x2), (.int x3)] 5 = mkF m 0 #[.val (.ref x0), .val (.long x1), .second, .val (.int x2), .val (.int x3)] [] := by first | (simp [entryFrame, mkF, argsToLocals, Value.category]; done) | rfl
def Q4 (a1 : Addr) (q2 : Int64) (p3 : Int32) (p4 : Int32) (h0 : Heap) (n0 : Nat) (Z : State) (v : Option Value) (h : Heap) (L : List Loc) : Prop := v = some (.int q2.toInt32) ∧ Fr n0 L ∧ h = h0
set_option maxRecDepth 65536 in
set_option maxHeartbeats 40000000 in
theorem rm4 (l : Launch) (Z : State) (a0 : Array Value) (hw : ∀ d ∈ tables_1, d.before a0 Z = true) (ws : List Jvm.Cond) (a1 : Addr) (q2 : Int64) (p3 : Int32) (p4 : Int32) (h0 : Heap) (n0 : Nat) (Z0 : n0 ≤ h0.size) (hr : ¬ q2 < p3.toInt64 ∧ ¬ p4.toInt64 < q2) :
    MetFree l (⟨"com/example/expiry/expiry/model/Push", "inRange", "(Ljava/lang/String;JII)I"⟩ : MethodName) (head1 (Jvm.Cond.code (⟨"com/example/expiry/expiry/model/Push", "inRange", "(Ljava/lang/String;JII)I"⟩ : MethodName) prog_47_method_9_code 5 (some .int) :: ws) ({ frames := 0, cells := 0, slots := 0, locals := 0 } : Room)) (fun a U => a = #[(.ref a1), (.long q2), (.int p3), (.int p4)] ∧ Z.Warmed39 U.vm ∧ U.heap = h0) (fun _ _ _ _ _ => True) (fun _ U o U' => ∃ v L, o = .returned v ∧ Q4 a1 q2 p3 p4 h0 n0 Z v U'.heap L ∧ FrameEnd U o U' L ({ frames := 0, cells := 0, slots := 0, locals := 0 } : Room).cells ({ frames := 0, cells := 0, slots := 0, locals := 0 } : Room).slots) := by
  refine MetFree.of_bodySF (plainFor_of_name pn_0) hisR ?_
  intro p e s m args below meth c s₁ Bd hml0 hP hK
  obtain ⟨rfl, hZ, hh⟩ := hP
  have hx := Bd.exec
  have hby := Bd.bytes
  have hml : c.maxLocals = 5 := hml0
  have hown : s.vm.findClass "com/example/expiry/expiry/model/Push" = some m.cls := findClass_of_methodNamed Bd.named
  have hnm := (name_of_methodNamed Bd.named Bd.method).1
  have hlk := Bd.notSynchronized
  have hrt := Bd.returns
  have X0 : Stand p l e ({ frames := 0, cells := 0, slots := 0, locals := 0 } : Room) s m #[(.ref a1), (.long q2), (.int p3), (.int p4)] below meth c s₁ [] 0 0 := Stand.of_body Bd
  have e0 : s₁.heap = h0 := by rw [← hh, Bd.state]; rfl
  have N0 := Fr.nil n0
  show own_Ends p e below s (Q4 a1 q2 p3 p4 h0 n0 Z) ({ frames := 0, cells := 0, slots := 0, locals := 0 } : Room).cells ({ frames := 0, cells := 0, slots := 0, locals := 0 } : Room).slots (s₁.setTop (entryFrame m #[(.ref a1), (.long q2), (.int p3), (.int p4)] 5))
  rw [ef_4]
  refine own_go (fun _ k => XS.lloadN X0.here hx rfl (hb hby d4_0) rfl <| XS.iloadN X0.here hx rfl (hb hby d4_1) rfl <| XS.i2l X0.here hx rfl (hb hby d4_2) rfl <| XS.lcmp X0.here hx rfl (hb hby d4_3) rfl <| XS.ifNo X0.here hx rfl (hb hby d4_4) rfl ((if0 _ _).trans (flt (fun q => hr.1 ((lw_lt _ _).mp q))).1) <| XS.lloadN X0.here hx rfl (hb hby d4_7) rfl <| XS.iload X0.here hx rfl (hb hby d4_8) rfl <| XS.i2l X0.here hx rfl (hb hby d4_10) rfl <| XS.lcmp X0.here hx rfl (hb hby d4_11) rfl <| XS.ifYes X0.here hx rfl (pc0 := 12) (pc' := 32) rfl (hb hby d4_12) rfl ((if0 _ _).trans (flt (fun q => hr.2 ((lw_gt _ _).mp q))).2.2.2) (by decide) (by decide) <| XS.lloadN X0.here hx rfl (hb hby d4_32) rfl <| k) ?_
  show own_Ends p e below s _ _ _ (s₁.setTop (mkF m 33 #[.val (.ref a1), .val (.long q2), .second, .val (.int p3), .val (.int p4)] [(.long q2)]))
  refine own_go (fun _ k => XS.l2i X0.here hx rfl (hb hby d4_33) rfl <| k) ?_
  show own_Ends p e below s _ _ _ (s₁.setTop (mkF m 34 #[.val (.ref a1), .val (.long q2), .second, .val (.int p3), .val (.int p4)] [(.int (q2.toInt32))]))
  exact own_ret X0 hx hrt rfl (Or.inl ⟨rfl, Or.inl rfl, _, rfl⟩) (hb hby d4_34) hlk (by rw [e0]; exact ⟨rfl, N0, rfl⟩) (by decide) (by decide)
theorem d2_0 : decode prog_47_method_1_code 0 = .ok (.aload_n 0, 1) := by decide +kernel
theorem d2_1 : decode prog_47_method_1_code 1 = .ok (.invokespecial 1, 3) := by decide +kernel
theorem d2_4 : decode prog_47_method_1_code 4 = .ok (.aload_n 0, 1) := by decide +kernel
theorem d2_5 : decode prog_47_method_1_code 5 = .ok (.ldc 7, 2) := by decide +kernel
theorem d2_7 : decode prog_47_method_1_code 7 = .ok (.lload_n 1, 1) := by decide +kernel
theorem d2_8 : decode prog_47_method_1_code 8 = .ok (.iconst 1, 1) := by decide +kernel
theorem d2_9 : decode prog_47_method_1_code 9 = .ok (.sipush 300, 3) := by decide +kernel
theorem d2_12 : decode prog_47_method_1_code 12 = .ok (.invokestatic 11, 3) := by decide +kernel
theorem d2_15 : decode prog_47_method_1_code 15 = .ok (.putfield 15, 3) := by decide +kernel
theorem d2_18 : decode prog_47_method_1_code 18 = .ok (.aload_n 0, 1) := by decide +kernel
theorem d2_19 : decode prog_47_method_1_code 19 = .ok (.ldc 18, 2) := by decide +kernel
theorem d2_21 : decode prog_47_method_1_code 21 = .ok (.lload_n 3, 1) := by decide +kernel
theorem d2_22 : decode prog_47_method_1_code 22 = .ok (.iconst 1, 1) := by decide +kernel
theorem d2_23 : decode prog_47_method_1_code 23 = .ok (.sipush 256, 3) := by decide +kernel
theorem d2_26 : decode prog_47_method_1_code 26 = .ok (.invokestatic 11, 3) := by decide +kernel
theorem d2_29 : decode prog_47_method_1_code 29 = .ok (.putfield 20, 3) := by decide +kernel
theorem d2_32 : decode prog_47_method_1_code 32 = .ok (.aload_n 0, 1) := by decide +kernel
theorem d2_33 : decode prog_47_method_1_code 33 = .ok (.ldc 22, 2) := by decide +kernel
theorem d2_35 : decode prog_47_method_1_code 35 = .ok (.lload 5, 2) := by decide +kernel
theorem d2_37 : decode prog_47_method_1_code 37 = .ok (.iconst 1, 1) := by decide +kernel
theorem d2_38 : decode prog_47_method_1_code 38 = .ok (.sipush 3600, 3) := by decide +kernel
theorem d2_41 : decode prog_47_method_1_code 41 = .ok (.invokestatic 11, 3) := by decide +kernel
theorem d2_44 : decode prog_47_method_1_code 44 = .ok (.putfield 24, 3) := by decide +kernel
theorem d2_47 : decode prog_47_method_1_code 47 = .ok (.aload_n 0, 1) := by decide +kernel
theorem d2_48 : decode prog_47_method_1_code 48 = .ok (.ldc 27, 2) := by decide +kernel
theorem d2_50 : decode prog_47_method_1_code 50 = .ok (.lload 7, 2) := by decide +kernel
theorem d2_52 : decode prog_47_method_1_code 52 = .ok (.aload_n 0, 1) := by decide +kernel
theorem d2_53 : decode prog_47_method_1_code 53 = .ok (.getfield 24, 3) := by decide +kernel
theorem d2_56 : decode prog_47_method_1_code 56 = .ok (.ldc 29, 2) := by decide +kernel
theorem d2_58 : decode prog_47_method_1_code 58 = .ok (.invokestatic 11, 3) := by decide +kernel
theorem d2_61 : decode prog_47_method_1_code 61 = .ok (.putfield 30, 3) := by decide +kernel
theorem d2_64 : decode prog_47_method_1_code 64 = .ok (.return_, 1) := by decide +kernel
theorem ef_2 (m : MethodId) (x0 : Addr) (x1 : Int64) (x2 : Int64) (x3 : Int64) (x4 : Int64) : entryFrame m #[(.ref x0), (.long x1), (.long x2), (.long x3), (.long x4)] 9 = mkF m 0 #[.val (.ref x0), .val (.long x1), .second, .val (.long x2), .second, .val (.long x3), .second, .val (.long x4), .second] [] := by first | (simp [entryFrame, mkF, argsToLocals, Value.category]; done) | rfl
def Q2 (a1 : Addr) (q2 : Int64) (q3 : Int64) (q4 : Int64) (q5 : Int64) (h0 : Heap) (n0 : Nat) (Z : State) (v : Option Value) (h : Heap) (L : List Loc) : Prop := v = none ∧ Fr n0 L ∧ Keep h0 h [a1] ∧ Fld Z h a1 "com/example/expiry/expiry/model/Push" "timeoutSeconds" "I" (.int (q2.toInt32)) ∧ Fld Z h a1 "com/example/expiry/expiry/model/Push" "concurrency" "I" (.int (q3.toInt32)) ∧ Fld Z h a1 "com/example/expiry/expiry/model/Push" "initialSeconds" "I" (.int (q4.toInt32)) ∧ Fld Z h a1 "com/example/expiry/expiry/model/Push" "maxSeconds" "I" (.int (q5.toInt32))
set_option maxRecDepth 65536 in
set_option maxHeartbeats 40000000 in
theorem rm2 (l : Launch) (Z : State) (a0 : Array Value) (hw : ∀ d ∈ tables_1, d.before a0 Z = true) (ws : List Jvm.Cond) (a1 : Addr) (q2 : Int64) (q3 : Int64) (q4 : Int64) (q5 : Int64) (h0 : Heap) (n0 : Nat) (Z0 : n0 ≤ h0.size) (E1 : Exa Z h0 a1 "com/example/expiry/expiry/model/Push") (F_timeoutSeconds : Fld Z h0 a1 "com/example/expiry/expiry/model/Push" "timeoutSeconds" "I" (.int (0 : Int32))) (F_concurrency : Fld Z h0 a1 "com/example/expiry/expiry/model/Push" "concurrency" "I" (.int (0 : Int32))) (F_initialSeconds : Fld Z h0 a1 "com/example/expiry/expiry/model/Push" "initialSeconds" "I" (.int (0 : Int32))) (F_maxSeconds : Fld Z h0 a1 "com/example/expiry/expiry/model/Push" "maxSeconds" "I" (.int (0 : Int32))) (g1 : n0 ≤ a1) (r1 : ¬ q2 < ((1 : Int32)).toInt64 ∧ ¬ ((300 : Int32)).toInt64 < q2) (r2 : ¬ q3 < ((1 : Int32)).toInt64 ∧ ¬ ((256 : Int32)).toInt64 < q3) (r3 : ¬ q4 < ((1 : Int32)).toInt64 ∧ ¬ ((3600 : Int32)).toInt64 < q4) (r4 : ¬ q5 < (q4.toInt32).toInt64 ∧ ¬ ((86400 : Int32)).toInt64 < q5) :
    MetFree l (⟨"com/example/expiry/expiry/model/Push", "<init>", "(JJJJ)V"⟩ : MethodName) (head1 (Jvm.Cond.code (⟨"com/example/expiry/expiry/model/Push", "<init>", "(JJJJ)V"⟩ : MethodName) prog_47_method_1_code 9 none :: ws) ({ frames := 1, cells := 8, slots := 276, locals := 40 } : Room)) (fun a U => a = #[(.ref a1), (.long q2), (.long q3), (.long q4), (.long q5)] ∧ Z.Warmed39 U.vm ∧ U.heap = h0) (fun _ _ _ _ _ => True) (fun _ U o U' => ∃ v L, o = .returned v ∧ Q2 a1 q2 q3 q4 q5 h0 n0 Z v U'.heap L ∧ ReturnedEndW U o U' L ({ frames := 1, cells := 8, slots := 276, locals := 40 } : Room).cells ({ frames := 1, cells := 8, slots := 276, locals := 40 } : Room).slots) := by
  refine MetFree.of_bodySF (plainFor_of_name pn_0) hisR ?_
  intro p e s m args below meth c s₁ Bd hml0 hP hK
  obtain ⟨rfl, hZ, hh⟩ := hP
  have hx := Bd.exec
  have hby := Bd.bytes
  have hml : c.maxLocals = 9 := hml0
  have hown : s.vm.findClass "com/example/expiry/expiry/model/Push" = some m.cls := findClass_of_methodNamed Bd.named
  have hnm := (name_of_methodNamed Bd.named Bd.method).1
  have hlk := Bd.notSynchronized
  have hrt := Bd.returns
  have X0 : Stand p l e ({ frames := 1, cells := 8, slots := 276, locals := 40 } : Room) (s.setVm s.vm) m #[(.ref a1), (.long q2), (.long q3), (.long q4), (.long q5)] below meth c s₁ [] 0 0 := Stand.of_body Bd
  have e0 : s₁.heap = h0 := by rw [← hh, Bd.state]; rfl
  have N0 := Fr.nil n0
  show own_EndsW p e below s (Q2 a1 q2 q3 q4 q5 h0 n0 Z) ({ frames := 1, cells := 8, slots := 276, locals := 40 } : Room).cells ({ frames := 1, cells := 8, slots := 276, locals := 40 } : Room).slots (s₁.setTop (entryFrame m #[(.ref a1), (.long q2), (.long q3), (.long q4), (.long q5)] 9))
  rw [ef_2]
  have K0 : Keep h0 h0 [a1] := Keep.refl h0 [a1]
  have hS0 : s.Since s.vm 0 := (State.WarmedH.refl s).since 0
  have hk0 : 0 ≤ h0.size := Nat.zero_le _
  have own_strs := own_strs0 hw
  refine own_goW (fun _ k => XS.aloadN X0.here hx rfl (hb hby d2_0) rfl rfl <| k) ?_
  show own_EndsW p e below s _ _ _ (s₁.setTop (mkF m 1 #[.val (.ref a1), .val (.long q2), .second, .val (.long q3), .second, .val (.long q4), .second, .val (.long q5), .second] [(.ref a1)]))
  obtain ⟨T1, X1, e1, st1⟩ := initO X0 hx hZ hown (hw _ (List.mem_of_getElem? (i := 12) rfl)) (hw _ (List.mem_of_getElem? (i := 13) rfl)) (hw _ (List.mem_of_getElem? (i := 14) rfl)) e0 (g := (mkF m 1 #[.val (.ref a1), .val (.long q2), .second, .val (.long q3), .second, .val (.long q4), .second, .val (.long q5), .second] [(.ref a1)])) rfl (by rw [hml]; rfl) rfl (hb hby d2_1) (by decide) (W := 0) (by show 2 * 0 + _ ≤ _; exact Nat.le_of_eq rfl) (by decide)
  refine own_goW st1 ?_
  show own_EndsW p e below s _ _ _ (T1.setTop (mkF m 4 #[.val (.ref a1), .val (.long q2), .second, .val (.long q3), .second, .val (.long q4), .second, .val (.long q5), .second] []))
  refine own_goW (fun _ k => XS.aloadN X1.here hx rfl (hb hby d2_4) rfl rfl <| k) ?_
  show own_EndsW p e below s _ _ _ (T1.setTop (mkF m 5 #[.val (.ref a1), .val (.long q2), .second, .val (.long q3), .second, .val (.long q4), .second, .val (.long q5), .second] [(.ref a1)]))
  obtain ⟨c2, T2, h2, k2, X2, e2, E2, hS2, hk2', hZ, hown, st2⟩ := ldcS X1 hx hZ hown (hw _ (List.mem_of_getElem? (i := 15) rfl)) own_strs e1 hS0 hk0 (g := (mkF m 5 #[.val (.ref a1), .val (.long q2), .second, .val (.long q3), .second, .val (.long q4), .second, .val (.long q5), .second] [(.ref a1)])) rfl (hb hby d2_5) (n := 56) (by decide) (by decide) (by decide) (by decide)
  refine own_goW st2 ?_
  have E1'2 := E1.ext E2
  have F_timeoutSeconds'2 := F_timeoutSeconds.ext E2
  have F_concurrency'2 := F_concurrency.ext E2
  have F_initialSeconds'2 := F_initialSeconds.ext E2
  have F_maxSeconds'2 := F_maxSeconds.ext E2
  have Z2 := Nat.le_trans Z0 E2.1
  have K2' := K0.ext E2
  show own_EndsW p e below s _ _ _ (T2.setTop (mkF m 7 #[.val (.ref a1), .val (.long q2), .second, .val (.long q3), .second, .val (.long q4), .second, .val (.long q5), .second] [(.ref c2), (.ref a1)]))
  refine own_goW (fun _ k => XS.lloadN X2.here hx rfl (hb hby d2_7) rfl <| XT.iconstV X2.here hx rfl (1 : Int32) (hb hby d2_8) rfl <| XT.sipushV X2.here hx rfl (300 : Int32) (hb hby d2_9) rfl <| k) ?_
  show own_EndsW p e below s _ _ _ (T2.setTop (mkF m 12 #[.val (.ref a1), .val (.long q2), .second, .val (.long q3), .second, .val (.long q4), .second, .val (.long q5), .second] [(.int (300 : Int32)), (.int (1 : Int32)), (.long q2), (.ref c2), (.ref a1)]))
  obtain ⟨_, _, ⟨T3, L3, k3, n3⟩, -, X3, ⟨Lc3, hQ3, l3, y3, z3⟩, st3⟩ := Jvm.LawKit.callS X2 hx (y := (⟨"com/example/expiry/expiry/model/Push", "inRange", "(Ljava/lang/String;JII)I"⟩ : MethodName)) hown (mvT hZ (hw _ (List.mem_of_getElem? (i := 23) rfl))) (mvT hZ (hw _ (List.mem_of_getElem? (i := 24) rfl))) (mvT hZ (hw _ (List.mem_of_getElem? (i := 8) rfl))) (mvT hZ (hw _ (List.mem_of_getElem? (i := 25) rfl))) (by decide) (backOf (W := 1) (rm4 l Z a0 hw [] c2 q2 (1 : Int32) (300 : Int32) h2 n0 Z2 r1) hZ (hw _ (List.mem_of_getElem? (i := 25) rfl)) (hw _ (List.mem_of_getElem? (i := 8) rfl)) (by decide) (by decide)) (g := (mkF m 12 #[.val (.ref a1), .val (.long q2), .second, .val (.long q3), .second, .val (.long q4), .second, .val (.long q5), .second] [(.int (300 : Int32)), (.int (1 : Int32)), (.long q2), (.ref c2), (.ref a1)])) rfl (by rw [hml]; rfl) (argsL := [(.ref c2), (.long q2), (.int (1 : Int32)), (.int (300 : Int32))]) (rest := [(.ref a1)]) (lenOf pd_3 rfl) rfl (by show 2 * 0 + _ ≤ _; exact Nat.le_of_eq rfl) (hb hby d2_12) (fun _ _ => ⟨rfl, e2, Nat.le_of_ble_eq_true rfl, Nat.le_of_ble_eq_true rfl⟩)
  dsimp only [Pt.U, Pt.locs, Pt.cells, Pt.slots] at X3 l3 y3 z3 st3 hQ3
  subst l3 y3 z3
  obtain ⟨rfl, N3q, e3⟩ := hQ3
  have N3 := Fr.app N0 N3q
  refine own_goW (fun _ k => st3 _ k) ?_
  show own_EndsW p e below s _ _ _ (T3.setTop (mkF m 15 #[.val (.ref a1), .val (.long q2), .second, .val (.long q3), .second, .val (.long q4), .second, .val (.long q5), .second] [(.int (q2.toInt32)), (.ref a1)]))
  obtain ⟨T4, h4, X4, e4, W4, st4⟩ := putF X3 hx hZ hown (host := "") (Or.inl (hw _ (List.mem_of_getElem? (i := 26) rfl))) Via.refl e3 F_timeoutSeconds'2 E1'2 (Or.inr ⟨(hw _ (List.mem_of_getElem? (i := 27) rfl)), rfl, hnm⟩) (hw _ (List.mem_of_getElem? (i := 7) rfl)) (ty := .int) (by decide) rfl rfl (g := (mkF m 15 #[.val (.ref a1), .val (.long q2), .second, .val (.long q3), .second, .val (.long q4), .second, .val (.long q5), .second] [(.int (q2.toInt32)), (.ref a1)])) rfl rfl (hb hby d2_15)
  refine own_goW st4 ?_
  have E1'4 := E1'2.wr W4
  have F_concurrency'4 := F_concurrency'2.other W4 (Or.inr (slot_ne (Or.inr (hw _ (List.mem_of_getElem? (i := 30) rfl))) (Or.inr (hw _ (List.mem_of_getElem? (i := 27) rfl))) (by decide) (t := .int) (t' := .int) (by decide) (by decide)))
  have F_initialSeconds'4 := F_initialSeconds'2.other W4 (Or.inr (slot_ne (Or.inr (hw _ (List.mem_of_getElem? (i := 33) rfl))) (Or.inr (hw _ (List.mem_of_getElem? (i := 27) rfl))) (by decide) (t := .int) (t' := .int) (by decide) (by decide)))
  have F_maxSeconds'4 := F_maxSeconds'2.other W4 (Or.inr (slot_ne (Or.inr (hw _ (List.mem_of_getElem? (i := 37) rfl))) (Or.inr (hw _ (List.mem_of_getElem? (i := 27) rfl))) (by decide) (t := .int) (t' := .int) (by decide) (by decide)))
  have Z4 := Nat.le_trans Z2 (Keep.of_wr W4).1
  have K4' := K2'.wr W4 (Or.inl (List.mem_of_getElem? (i := 0) rfl))
  have hk4 := Nat.le_trans hk2' (Keep.of_wr W4).1
  have N4 := Fr.snoc X4 N3 g1
  have F_timeoutSeconds'4 := F_timeoutSeconds'2.same W4
  show own_EndsW p e below s _ _ _ (T4.setTop (mkF m 18 #[.val (.ref a1), .val (.long q2), .second, .val (.long q3), .second, .val (.long q4), .second, .val (.long q5), .second] []))
  refine own_goW (fun _ k => XS.aloadN X4.here hx rfl (hb hby d2_18) rfl rfl <| k) ?_
  show own_EndsW p e below s _ _ _ (T4.setTop (mkF m 19 #[.val (.ref a1), .val (.long q2), .second, .val (.long q3), .second, .val (.long q4), .second, .val (.long q5), .second] [(.ref a1)]))
  obtain ⟨c5, T5, h5, k5, X5, e5, E5, hS5, hk5', hZ, hown, st5⟩ := ldcS X4 hx hZ hown (hw _ (List.mem_of_getElem? (i := 28) rfl)) own_strs e4 hS2 hk4 (g := (mkF m 19 #[.val (.ref a1), .val (.long q2), .second, .val (.long q3), .second, .val (.long q4), .second, .val (.long q5), .second] [(.ref a1)])) rfl (hb hby d2_19) (n := 44) (by decide) (by decide) (by decide) (by decide)
  refine own_goW st5 ?_
  have E1'5 := E1'4.ext E5
  have F_concurrency'5 := F_concurrency'4.ext E5
  have F_initialSeconds'5 := F_initialSeconds'4.ext E5
  have F_maxSeconds'5 := F_maxSeconds'4.ext E5
  have F_timeoutSeconds'5 := F_timeoutSeconds'4.ext E5
  have Z5 := Nat.le_trans Z4 E5.1
  have K5' := K4'.ext E5
  show own_EndsW p e below s _ _ _ (T5.setTop (mkF m 21 #[.val (.ref a1), .val (.long q2), .second, .val (.long q3), .second, .val (.long q4), .second, .val (.long q5), .second] [(.ref c5), (.ref a1)]))
  refine own_goW (fun _ k => XS.lloadN X5.here hx rfl (hb hby d2_21) rfl <| XT.iconstV X5.here hx rfl (1 : Int32) (hb hby d2_22) rfl <| XT.sipushV X5.here hx rfl (256 : Int32) (hb hby d2_23) rfl <| k) ?_
  show own_EndsW p e below s _ _ _ (T5.setTop (mkF m 26 #[.val (.ref a1), .val (.long q2), .second, .val (.long q3), .second, .val (.long q4), .second, .val (.long q5), .second] [(.int (256 : Int32)), (.int (1 : Int32)), (.long q3), (.ref c5), (.ref a1)]))
  obtain ⟨_, _, ⟨T6, L6, k6, n6⟩, -, X6, ⟨Lc6, hQ6, l6, y6, z6⟩, st6⟩ := Jvm.LawKit.callS X5 hx (y := (⟨"com/example/expiry/expiry/model/Push", "inRange", "(Ljava/lang/String;JII)I"⟩ : MethodName)) hown (mvT hZ (hw _ (List.mem_of_getElem? (i := 23) rfl))) (mvT hZ (hw _ (List.mem_of_getElem? (i := 24) rfl))) (mvT hZ (hw _ (List.mem_of_getElem? (i := 8) rfl))) (mvT hZ (hw _ (List.mem_of_getElem? (i := 25) rfl))) (by decide) (backOf (W := 1) (rm4 l Z a0 hw [] c5 q3 (1 : Int32) (256 : Int32) h5 n0 Z5 r2) hZ (hw _ (List.mem_of_getElem? (i := 25) rfl)) (hw _ (List.mem_of_getElem? (i := 8) rfl)) (by decide) (by decide)) (g := (mkF m 26 #[.val (.ref a1), .val (.long q2), .second, .val (.long q3), .second, .val (.long q4), .second, .val (.long q5), .second] [(.int (256 : Int32)), (.int (1 : Int32)), (.long q3), (.ref c5), (.ref a1)])) rfl (by rw [hml]; rfl) (argsL := [(.ref c5), (.long q3), (.int (1 : Int32)), (.int (256 : Int32))]) (rest := [(.ref a1)]) (lenOf pd_3 rfl) rfl (by show 2 * 0 + _ ≤ _; exact Nat.le_of_eq rfl) (hb hby d2_26) (fun _ _ => ⟨rfl, e5, Nat.le_of_ble_eq_true rfl, Nat.le_of_ble_eq_true rfl⟩)
  dsimp only [Pt.U, Pt.locs, Pt.cells, Pt.slots] at X6 l6 y6 z6 st6 hQ6
  subst l6 y6 z6
  obtain ⟨rfl, N6q, e6⟩ := hQ6
  have N6 := Fr.app N4 N6q
  refine own_goW (fun _ k => st6 _ k) ?_
  show own_EndsW p e below s _ _ _ (T6.setTop (mkF m 29 #[.val (.ref a1), .val (.long q2), .second, .val (.long q3), .second, .val (.long q4), .second, .val (.long q5), .second] [(.int (q3.toInt32)), (.ref a1)]))
  obtain ⟨T7, h7, X7, e7, W7, st7⟩ := putF X6 hx hZ hown (host := "") (Or.inl (hw _ (List.mem_of_getElem? (i := 29) rfl))) Via.refl e6 F_concurrency'5 E1'5 (Or.inr ⟨(hw _ (List.mem_of_getElem? (i := 30) rfl)), rfl, hnm⟩) (hw _ (List.mem_of_getElem? (i := 7) rfl)) (ty := .int) (by decide) rfl rfl (g := (mkF m 29 #[.val (.ref a1), .val (.long q2), .second, .val (.long q3), .second, .val (.long q4), .second, .val (.long q5), .second] [(.int (q3.toInt32)), (.ref a1)])) rfl rfl (hb hby d2_29)
  refine own_goW st7 ?_
  have E1'7 := E1'5.wr W7
  have F_initialSeconds'7 := F_initialSeconds'5.other W7 (Or.inr (slot_ne (Or.inr (hw _ (List.mem_of_getElem? (i := 33) rfl))) (Or.inr (hw _ (List.mem_of_getElem? (i := 30) rfl))) (by decide) (t := .int) (t' := .int) (by decide) (by decide)))
  have F_maxSeconds'7 := F_maxSeconds'5.other W7 (Or.inr (slot_ne (Or.inr (hw _ (List.mem_of_getElem? (i := 37) rfl))) (Or.inr (hw _ (List.mem_of_getElem? (i := 30) rfl))) (by decide) (t := .int) (t' := .int) (by decide) (by decide)))
  have F_timeoutSeconds'7 := F_timeoutSeconds'5.other W7 (Or.inr (slot_ne (Or.inr (hw _ (List.mem_of_getElem? (i := 27) rfl))) (Or.inr (hw _ (List.mem_of_getElem? (i := 30) rfl))) (by decide) (t := .int) (t' := .int) (by decide) (by decide)))
  have Z7 := Nat.le_trans Z5 (Keep.of_wr W7).1
  have K7' := K5'.wr W7 (Or.inl (List.mem_of_getElem? (i := 0) rfl))
  have hk7 := Nat.le_trans hk5' (Keep.of_wr W7).1
  have N7 := Fr.snoc X7 N6 g1
  have F_concurrency'7 := F_concurrency'5.same W7
  show own_EndsW p e below s _ _ _ (T7.setTop (mkF m 32 #[.val (.ref a1), .val (.long q2), .second, .val (.long q3), .second, .val (.long q4), .second, .val (.long q5), .second] []))
  refine own_goW (fun _ k => XS.aloadN X7.here hx rfl (hb hby d2_32) rfl rfl <| k) ?_
  show own_EndsW p e below s _ _ _ (T7.setTop (mkF m 33 #[.val (.ref a1), .val (.long q2), .second, .val (.long q3), .second, .val (.long q4), .second, .val (.long q5), .second] [(.ref a1)]))
  obtain ⟨c8, T8, h8, k8, X8, e8, E8, hS8, hk8', hZ, hown, st8⟩ := ldcS X7 hx hZ hown (hw _ (List.mem_of_getElem? (i := 31) rfl)) own_strs e7 hS5 hk7 (g := (mkF m 33 #[.val (.ref a1), .val (.long q2), .second, .val (.long q3), .second, .val (.long q4), .second, .val (.long q5), .second] [(.ref a1)])) rfl (hb hby d2_33) (n := 88) (by decide) (by decide) (by decide) (by decide)
  refine own_goW st8 ?_
  have E1'8 := E1'7.ext E8
  have F_initialSeconds'8 := F_initialSeconds'7.ext E8
  have F_maxSeconds'8 := F_maxSeconds'7.ext E8
  have F_timeoutSeconds'8 := F_timeoutSeconds'7.ext E8
  have F_concurrency'8 := F_concurrency'7.ext E8
  have Z8 := Nat.le_trans Z7 E8.1
  have K8' := K7'.ext E8
  show own_EndsW p e below s _ _ _ (T8.setTop (mkF m 35 #[.val (.ref a1), .val (.long q2), .second, .val (.long q3), .second, .val (.long q4), .second, .val (.long q5), .second] [(.ref c8), (.ref a1)]))
  refine own_goW (fun _ k => XS.lload X8.here hx rfl (hb hby d2_35) rfl <| XT.iconstV X8.here hx rfl (1 : Int32) (hb hby d2_37) rfl <| XT.sipushV X8.here hx rfl (3600 : Int32) (hb hby d2_38) rfl <| k) ?_
  show own_EndsW p e below s _ _ _ (T8.setTop (mkF m 41 #[.val (.ref a1), .val (.long q2), .second, .val (.long q3), .second, .val (.long q4), .second, .val (.long q5), .second] [(.int (3600 : Int32)), (.int (1 : Int32)), (.long q4), (.ref c8), (.ref a1)]))
  obtain ⟨_, _, ⟨T9, L9, k9, n9⟩, -, X9, ⟨Lc9, hQ9, l9, y9, z9⟩, st9⟩ := Jvm.LawKit.callS X8 hx (y := (⟨"com/example/expiry/expiry/model/Push", "inRange", "(Ljava/lang/String;JII)I"⟩ : MethodName)) hown (mvT hZ (hw _ (List.mem_of_getElem? (i := 23) rfl))) (mvT hZ (hw _ (List.mem_of_getElem? (i := 24) rfl))) (mvT hZ (hw _ (List.mem_of_getElem? (i := 8) rfl))) (mvT hZ (hw _ (List.mem_of_getElem? (i := 25) rfl))) (by decide) (backOf (W := 1) (rm4 l Z a0 hw [] c8 q4 (1 : Int32) (3600 : Int32) h8 n0 Z8 r3) hZ (hw _ (List.mem_of_getElem? (i := 25) rfl)) (hw _ (List.mem_of_getElem? (i := 8) rfl)) (by decide) (by decide)) (g := (mkF m 41 #[.val (.ref a1), .val (.long q2), .second, .val (.long q3), .second, .val (.long q4), .second, .val (.long q5), .second] [(.int (3600 : Int32)), (.int (1 : Int32)), (.long q4), (.ref c8), (.ref a1)])) rfl (by rw [hml]; rfl) (argsL := [(.ref c8), (.long q4), (.int (1 : Int32)), (.int (3600 : Int32))]) (rest := [(.ref a1)]) (lenOf pd_3 rfl) rfl (by show 2 * 0 + _ ≤ _; exact Nat.le_of_eq rfl) (hb hby d2_41) (fun _ _ => ⟨rfl, e8, Nat.le_of_ble_eq_true rfl, Nat.le_of_ble_eq_true rfl⟩)
  dsimp only [Pt.U, Pt.locs, Pt.cells, Pt.slots] at X9 l9 y9 z9 st9 hQ9
  subst l9 y9 z9
  obtain ⟨rfl, N9q, e9⟩ := hQ9
  have N9 := Fr.app N7 N9q
  refine own_goW (fun _ k => st9 _ k) ?_
  show own_EndsW p e below s _ _ _ (T9.setTop (mkF m 44 #[.val (.ref a1), .val (.long q2), .second, .val (.long q3), .second, .val (.long q4), .second, .val (.long q5), .second] [(.int (q4.toInt32)), (.ref a1)]))
  obtain ⟨T10, h10, X10, e10, W10, st10⟩ := putF X9 hx hZ hown (host := "") (Or.inl (hw _ (List.mem_of_getElem? (i := 32) rfl))) Via.refl e9 F_initialSeconds'8 E1'8 (Or.inr ⟨(hw _ (List.mem_of_getElem? (i := 33) rfl)), rfl, hnm⟩) (hw _ (List.mem_of_getElem? (i := 7) rfl)) (ty := .int) (by decide) rfl rfl (g := (mkF m 44 #[.val (.ref a1), .val (.long q2), .second, .val (.long q3), .second, .val (.long q4), .second, .val (.long q5), .second] [(.int (q4.toInt32)), (.ref a1)])) rfl rfl (hb hby d2_44)
  refine own_goW st10 ?_
  have E1'10 := E1'8.wr W10
  have F_maxSeconds'10 := F_maxSeconds'8.other W10 (Or.inr (slot_ne (Or.inr (hw _ (List.mem_of_getElem? (i := 37) rfl))) (Or.inr (hw _ (List.mem_of_getElem? (i := 33) rfl))) (by decide) (t := .int) (t' := .int) (by decide) (by decide)))
  have F_timeoutSeconds'10 := F_timeoutSeconds'8.other W10 (Or.inr (slot_ne (Or.inr (hw _ (List.mem_of_getElem? (i := 27) rfl))) (Or.inr (hw _ (List.mem_of_getElem? (i := 33) rfl))) (by decide) (t := .int) (t' := .int) (by decide) (by decide)))
  have F_concurrency'10 := F_concurrency'8.other W10 (Or.inr (slot_ne (Or.inr (hw _ (List.mem_of_getElem? (i := 30) rfl))) (Or.inr (hw _ (List.mem_of_getElem? (i := 33) rfl))) (by decide) (t := .int) (t' := .int) (by decide) (by decide)))
  have Z10 := Nat.le_trans Z8 (Keep.of_wr W10).1
  have K10' := K8'.wr W10 (Or.inl (List.mem_of_getElem? (i := 0) rfl))
  have hk10 := Nat.le_trans hk8' (Keep.of_wr W10).1
  have N10 := Fr.snoc X10 N9 g1
  have F_initialSeconds'10 := F_initialSeconds'8.same W10
  show own_EndsW p e below s _ _ _ (T10.setTop (mkF m 47 #[.val (.ref a1), .val (.long q2), .second, .val (.long q3), .second, .val (.long q4), .second, .val (.long q5), .second] []))
  refine own_goW (fun _ k => XS.aloadN X10.here hx rfl (hb hby d2_47) rfl rfl <| k) ?_
  show own_EndsW p e below s _ _ _ (T10.setTop (mkF m 48 #[.val (.ref a1), .val (.long q2), .second, .val (.long q3), .second, .val (.long q4), .second, .val (.long q5), .second] [(.ref a1)]))
  obtain ⟨c11, T11, h11, k11, X11, e11, E11, hS11, hk11', hZ, hown, st11⟩ := ldcS X10 hx hZ hown (hw _ (List.mem_of_getElem? (i := 34) rfl)) own_strs e10 hS8 hk10 (g := (mkF m 48 #[.val (.ref a1), .val (.long q2), .second, .val (.long q3), .second, .val (.long q4), .second, .val (.long q5), .second] [(.ref a1)])) rfl (hb hby d2_48) (n := 72) (by decide) (by decide) (by decide) (by decide)
  refine own_goW st11 ?_
  have E1'11 := E1'10.ext E11
  have F_maxSeconds'11 := F_maxSeconds'10.ext E11
  have F_timeoutSeconds'11 := F_timeoutSeconds'10.ext E11
  have F_concurrency'11 := F_concurrency'10.ext E11
  have F_initialSeconds'11 := F_initialSeconds'10.ext E11
  have Z11 := Nat.le_trans Z10 E11.1
  have K11' := K10'.ext E11
  show own_EndsW p e below s _ _ _ (T11.setTop (mkF m 50 #[.val (.ref a1), .val (.long q2), .second, .val (.long q3), .second, .val (.long q4), .second, .val (.long q5), .second] [(.ref c11), (.ref a1)]))
  refine own_goW (fun _ k => XS.lload X11.here hx rfl (hb hby d2_50) rfl <| XS.aloadN X11.here hx rfl (hb hby d2_52) rfl rfl <| k) ?_
  show own_EndsW p e below s _ _ _ (T11.setTop (mkF m 53 #[.val (.ref a1), .val (.long q2), .second, .val (.long q3), .second, .val (.long q4), .second, .val (.long q5), .second] [(.ref a1), (.long q5), (.ref c11), (.ref a1)]))
  obtain ⟨T12, X12, e12, st12⟩ := getF X11 hx hZ hown (host := "") (Or.inl (hw _ (List.mem_of_getElem? (i := 32) rfl))) Via.refl e11 F_initialSeconds'11 (g := (mkF m 53 #[.val (.ref a1), .val (.long q2), .second, .val (.long q3), .second, .val (.long q4), .second, .val (.long q5), .second] [(.ref a1), (.long q5), (.ref c11), (.ref a1)])) rfl rfl (hb hby d2_53)
  refine own_goW st12 ?_
  show own_EndsW p e below s _ _ _ (T12.setTop (mkF m 56 #[.val (.ref a1), .val (.long q2), .second, .val (.long q3), .second, .val (.long q4), .second, .val (.long q5), .second] [(.int (q4.toInt32)), (.long q5), (.ref c11), (.ref a1)]))
  refine own_goW (fun _ k => X12.ldcI hx hown (mvT hZ (hw _ (List.mem_of_getElem? (i := 35) rfl))) rfl (hb hby d2_56) <| k) ?_
  show own_EndsW p e below s _ _ _ (T12.setTop (mkF m 58 #[.val (.ref a1), .val (.long q2), .second, .val (.long q3), .second, .val (.long q4), .second, .val (.long q5), .second] [(.int (86400 : Int32)), (.int (q4.toInt32)), (.long q5), (.ref c11), (.ref a1)]))
  obtain ⟨_, _, ⟨T13, L13, k13, n13⟩, -, X13, ⟨Lc13, hQ13, l13, y13, z13⟩, st13⟩ := Jvm.LawKit.callS X12 hx (y := (⟨"com/example/expiry/expiry/model/Push", "inRange", "(Ljava/lang/String;JII)I"⟩ : MethodName)) hown (mvT hZ (hw _ (List.mem_of_getElem? (i := 23) rfl))) (mvT hZ (hw _ (List.mem_of_getElem? (i := 24) rfl))) (mvT hZ (hw _ (List.mem_of_getElem? (i := 8) rfl))) (mvT hZ (hw _ (List.mem_of_getElem? (i := 25) rfl))) (by decide) (backOf (W := 1) (rm4 l Z a0 hw [] c11 q5 (q4.toInt32) (86400 : Int32) h11 n0 Z11 r4) hZ (hw _ (List.mem_of_getElem? (i := 25) rfl)) (hw _ (List.mem_of_getElem? (i := 8) rfl)) (by decide) (by decide)) (g := (mkF m 58 #[.val (.ref a1), .val (.long q2), .second, .val (.long q3), .second, .val (.long q4), .second, .val (.long q5), .second] [(.int (86400 : Int32)), (.int (q4.toInt32)), (.long q5), (.ref c11), (.ref a1)])) rfl (by rw [hml]; rfl) (argsL := [(.ref c11), (.long q5), (.int (q4.toInt32)), (.int (86400 : Int32))]) (rest := [(.ref a1)]) (lenOf pd_3 rfl) rfl (by show 2 * 0 + _ ≤ _; exact Nat.le_of_eq rfl) (hb hby d2_58) (fun _ _ => ⟨rfl, e12, Nat.le_of_ble_eq_true rfl, Nat.le_of_ble_eq_true rfl⟩)
  dsimp only [Pt.U, Pt.locs, Pt.cells, Pt.slots] at X13 l13 y13 z13 st13 hQ13
  subst l13 y13 z13
  obtain ⟨rfl, N13q, e13⟩ := hQ13
  have N13 := Fr.app N10 N13q
  refine own_goW (fun _ k => st13 _ k) ?_
  show own_EndsW p e below s _ _ _ (T13.setTop (mkF m 61 #[.val (.ref a1), .val (.long q2), .second, .val (.long q3), .second, .val (.long q4), .second, .val (.long q5), .second] [(.int (q5.toInt32)), (.ref a1)]))
  obtain ⟨T14, h14, X14, e14, W14, st14⟩ := putF X13 hx hZ hown (host := "") (Or.inl (hw _ (List.mem_of_getElem? (i := 36) rfl))) Via.refl e13 F_maxSeconds'11 E1'11 (Or.inr ⟨(hw _ (List.mem_of_getElem? (i := 37) rfl)), rfl, hnm⟩) (hw _ (List.mem_of_getElem? (i := 7) rfl)) (ty := .int) (by decide) rfl rfl (g := (mkF m 61 #[.val (.ref a1), .val (.long q2), .second, .val (.long q3), .second, .val (.long q4), .second, .val (.long q5), .second] [(.int (q5.toInt32)), (.ref a1)])) rfl rfl (hb hby d2_61)
  refine own_goW st14 ?_
  have E1'14 := E1'11.wr W14
  have F_timeoutSeconds'14 := F_timeoutSeconds'11.other W14 (Or.inr (slot_ne (Or.inr (hw _ (List.mem_of_getElem? (i := 27) rfl))) (Or.inr (hw _ (List.mem_of_getElem? (i := 37) rfl))) (by decide) (t := .int) (t' := .int) (by decide) (by decide)))
  have F_concurrency'14 := F_concurrency'11.other W14 (Or.inr (slot_ne (Or.inr (hw _ (List.mem_of_getElem? (i := 30) rfl))) (Or.inr (hw _ (List.mem_of_getElem? (i := 37) rfl))) (by decide) (t := .int) (t' := .int) (by decide) (by decide)))
  have F_initialSeconds'14 := F_initialSeconds'11.other W14 (Or.inr (slot_ne (Or.inr (hw _ (List.mem_of_getElem? (i := 33) rfl))) (Or.inr (hw _ (List.mem_of_getElem? (i := 37) rfl))) (by decide) (t := .int) (t' := .int) (by decide) (by decide)))
  have Z14 := Nat.le_trans Z11 (Keep.of_wr W14).1
  have K14' := K11'.wr W14 (Or.inl (List.mem_of_getElem? (i := 0) rfl))
  have hk14 := Nat.le_trans hk11' (Keep.of_wr W14).1
  have N14 := Fr.snoc X14 N13 g1
  have F_maxSeconds'14 := F_maxSeconds'11.same W14
  show own_EndsW p e below s _ _ _ (T14.setTop (mkF m 64 #[.val (.ref a1), .val (.long q2), .second, .val (.long q3), .second, .val (.long q4), .second, .val (.long q5), .second] []))
  exact own_ret0W X14 hx hrt hS11 (by first | exact hk14 | (rw [e14]; exact hk14)) (hb hby d2_64) hlk (by rw [e14]; exact ⟨rfl, N14, K14', F_timeoutSeconds'14, F_concurrency'14, F_initialSeconds'14, F_maxSeconds'14⟩) (by decide) (by decide)
theorem d5_0 : decode prog_47_method_7_code 0 = .ok (.aload_n 1, 1) := by decide +kernel
theorem d5_1 : decode prog_47_method_7_code 1 = .ok (.instanceof 9, 3) := by decide +kernel
theorem d5_4 : decode prog_47_method_7_code 4 = .ok (.ifCond .ne 5, 3) := by decide +kernel
theorem d5_7 : decode prog_47_method_7_code 7 = .ok (.iconst 0, 1) := by decide +kernel
theorem d5_8 : decode prog_47_method_7_code 8 = .ok (.ireturn, 1) := by decide +kernel
theorem d5_9 : decode prog_47_method_7_code 9 = .ok (.aload_n 1, 1) := by decide +kernel
theorem d5_10 : decode prog_47_method_7_code 10 = .ok (.checkcast 9, 3) := by decide +kernel
theorem d5_13 : decode prog_47_method_7_code 13 = .ok (.astore_n 2, 1) := by decide +kernel
theorem d5_14 : decode prog_47_method_7_code 14 = .ok (.aload_n 0, 1) := by decide +kernel
theorem d5_15 : decode prog_47_method_7_code 15 = .ok (.getfield 15, 3) := by decide +kernel
theorem d5_18 : decode prog_47_method_7_code 18 = .ok (.aload_n 2, 1) := by decide +kernel
theorem d5_19 : decode prog_47_method_7_code 19 = .ok (.getfield 15, 3) := by decide +kernel
theorem d5_22 : decode prog_47_method_7_code 22 = .ok (.if_icmp .ne 40, 3) := by decide +kernel
theorem d5_25 : decode prog_47_method_7_code 25 = .ok (.aload_n 0, 1) := by decide +kernel
theorem d5_26 : decode prog_47_method_7_code 26 = .ok (.getfield 20, 3) := by decide +kernel
theorem d5_29 : decode prog_47_method_7_code 29 = .ok (.aload_n 2, 1) := by decide +kernel
theorem d5_30 : decode prog_47_method_7_code 30 = .ok (.getfield 20, 3) := by decide +kernel
theorem d5_33 : decode prog_47_method_7_code 33 = .ok (.if_icmp .ne 29, 3) := by decide +kernel
theorem d5_36 : decode prog_47_method_7_code 36 = .ok (.aload_n 0, 1) := by decide +kernel
theorem d5_37 : decode prog_47_method_7_code 37 = .ok (.getfield 24, 3) := by decide +kernel
theorem d5_40 : decode prog_47_method_7_code 40 = .ok (.aload_n 2, 1) := by decide +kernel
theorem d5_41 : decode prog_47_method_7_code 41 = .ok (.getfield 24, 3) := by decide +kernel
theorem d5_44 : decode prog_47_method_7_code 44 = .ok (.if_icmp .ne 18, 3) := by decide +kernel
theorem d5_47 : decode prog_47_method_7_code 47 = .ok (.aload_n 0, 1) := by decide +kernel
theorem d5_48 : decode prog_47_method_7_code 48 = .ok (.getfield 30, 3) := by decide +kernel
theorem d5_51 : decode prog_47_method_7_code 51 = .ok (.aload_n 2, 1) := by decide +kernel
theorem d5_52 : decode prog_47_method_7_code 52 = .ok (.getfield 30, 3) := by decide +kernel
theorem d5_55 : decode prog_47_method_7_code 55 = .ok (.if_icmp .ne 7, 3) := by decide +kernel
theorem d5_58 : decode prog_47_method_7_code 58 = .ok (.iconst 1, 1) := by decide +kernel
theorem d5_59 : decode prog_47_method_7_code 59 = .ok (.goto 4, 3) := by decide +kernel
theorem d5_62 : decode prog_47_method_7_code 62 = .ok (.iconst 0, 1) := by decide +kernel
theorem d5_63 : decode prog_47_method_7_code 63 = .ok (.ireturn, 1) := by decide +kernel
theorem ef_EN (m : MethodId) (x0 : Addr) : entryFrame m #[(.ref x0), .null] 3 = mkF m 0 #[.val (.ref x0), .val .null, .unset] [] := by first | (simp [entryFrame, mkF, argsToLocals, Value.category]; done) | rfl
def QEN (a1 : Addr) (h0 : Heap) (n0 : Nat) (Z : State) (v : Option Value) (h : Heap) (L : List Loc) : Prop := v = some (.int 0) ∧ Fr n0 L ∧ h = h0
set_option maxRecDepth 65536 in
set_option maxHeartbeats 40000000 in
theorem rmEN (l : Launch) (Z : State) (a0 : Array Value) (hw : ∀ d ∈ tables_1, d.before a0 Z = true) (ws : List Jvm.Cond) (a1 : Addr) (h0 : Heap) (n0 : Nat) (Z0 : n0 ≤ h0.size) :
    MetFree l (⟨"com/example/expiry/expiry/model/Push", "equals", "(Ljava/lang/Object;)Z"⟩ : MethodName) (head1 (Jvm.Cond.code (⟨"com/example/expiry/expiry/model/Push", "equals", "(Ljava/lang/Object;)Z"⟩ : MethodName) prog_47_method_7_code 3 (some .boolean) :: ws) ({ frames := 0, cells := 0, slots := 0, locals := 0 } : Room)) (fun a U => a = #[(.ref a1), .null] ∧ Z.Warmed39 U.vm ∧ U.heap = h0) (fun _ _ _ _ _ => True) (fun _ U o U' => ∃ v L, o = .returned v ∧ QEN a1 h0 n0 Z v U'.heap L ∧ FrameEnd U o U' L ({ frames := 0, cells := 0, slots := 0, locals := 0 } : Room).cells ({ frames := 0, cells := 0, slots := 0, locals := 0 } : Room).slots) := by
  refine MetFree.of_bodySF (plainFor_of_name pn_0) hisR ?_
  intro p e s m args below meth c s₁ Bd hml0 hP hK
  obtain ⟨rfl, hZ, hh⟩ := hP
  have hx := Bd.exec
  have hby := Bd.bytes
  have hml : c.maxLocals = 3 := hml0
  have hown : s.vm.findClass "com/example/expiry/expiry/model/Push" = some m.cls := findClass_of_methodNamed Bd.named
  have hnm := (name_of_methodNamed Bd.named Bd.method).1
  have hlk := Bd.notSynchronized
  have hrt := Bd.returns
  have X0 : Stand p l e ({ frames := 0, cells := 0, slots := 0, locals := 0 } : Room) s m #[(.ref a1), .null] below meth c s₁ [] 0 0 := Stand.of_body Bd
  have e0 : s₁.heap = h0 := by rw [← hh, Bd.state]; rfl
  have N0 := Fr.nil n0
  show own_Ends p e below s (QEN a1 h0 n0 Z) ({ frames := 0, cells := 0, slots := 0, locals := 0 } : Room).cells ({ frames := 0, cells := 0, slots := 0, locals := 0 } : Room).slots (s₁.setTop (entryFrame m #[(.ref a1), .null] 3))
  rw [ef_EN]
  refine own_go (fun _ k => XS.aloadN X0.here hx rfl (hb hby d5_0) rfl rfl <| k) ?_
  show own_Ends p e below s _ _ _ (s₁.setTop (mkF m 1 #[.val (.ref a1), .val .null, .unset] [.null]))
  refine own_go (fun _ k => X0.instanceofNull hx (g := (mkF m 1 #[.val (.ref a1), .val .null, .unset] [.null])) rfl rfl (hb hby d5_1) _ k) ?_
  show own_Ends p e below s _ _ _ (s₁.setTop (mkF m 4 #[.val (.ref a1), .val .null, .unset] [(.int (0 : Int32))]))
  refine own_go (fun _ k => XS.ifNo X0.here hx rfl (hb hby d5_4) rfl ((if0 _ _).trans (teq (by decide)).2) <| XT.iconstV X0.here hx rfl (0 : Int32) (hb hby d5_7) rfl <| k) ?_
  show own_Ends p e below s _ _ _ (s₁.setTop (mkF m 8 #[.val (.ref a1), .val .null, .unset] [(.int (0 : Int32))]))
  exact own_retN X0 hx (t := .boolean) hrt (by simp) (hb hby d5_8) hlk (show nar .boolean (0 : Int32) = (0 : Int32) from by decide) (by rw [e0]; exact ⟨rfl, N0, rfl⟩) (by decide) (by decide)
theorem ef_EI (m : MethodId) (x0 : Addr) (x1 : Addr) : entryFrame m #[(.ref x0), (.ref x1)] 3 = mkF m 0 #[.val (.ref x0), .val (.ref x1), .unset] [] := by first | (simp [entryFrame, mkF, argsToLocals, Value.category]; done) | rfl
def QEI (a1 : Addr) (a2 : Addr) (h0 : Heap) (n0 : Nat) (Z : State) (v : Option Value) (h : Heap) (L : List Loc) : Prop := v = some (.int 0) ∧ Fr n0 L ∧ h = h0
set_option maxRecDepth 65536 in
set_option maxHeartbeats 40000000 in
theorem rmEI (l : Launch) (Z : State) (a0 : Array Value) (hw : ∀ d ∈ tables_1, d.before a0 Z = true) (ws : List Jvm.Cond) (a1 : Addr) (a2 : Addr) (h0 : Heap) (n0 : Nat) (Z0 : n0 ≤ h0.size) (E2 : Exa Z h0 a2 "java/lang/Integer") :
    MetFree l (⟨"com/example/expiry/expiry/model/Push", "equals", "(Ljava/lang/Object;)Z"⟩ : MethodName) (head1 (Jvm.Cond.code (⟨"com/example/expiry/expiry/model/Push", "equals", "(Ljava/lang/Object;)Z"⟩ : MethodName) prog_47_method_7_code 3 (some .boolean) :: ws) ({ frames := 0, cells := 0, slots := 0, locals := 0 } : Room)) (fun a U => a = #[(.ref a1), (.ref a2)] ∧ Z.Warmed39 U.vm ∧ U.heap = h0) (fun _ _ _ _ _ => True) (fun _ U o U' => ∃ v L, o = .returned v ∧ QEI a1 a2 h0 n0 Z v U'.heap L ∧ FrameEnd U o U' L ({ frames := 0, cells := 0, slots := 0, locals := 0 } : Room).cells ({ frames := 0, cells := 0, slots := 0, locals := 0 } : Room).slots) := by
  refine MetFree.of_bodySF (plainFor_of_name pn_0) hisR ?_
  intro p e s m args below meth c s₁ Bd hml0 hP hK
  obtain ⟨rfl, hZ, hh⟩ := hP
  have hx := Bd.exec
  have hby := Bd.bytes
  have hml : c.maxLocals = 3 := hml0
  have hown : s.vm.findClass "com/example/expiry/expiry/model/Push" = some m.cls := findClass_of_methodNamed Bd.named
  have hnm := (name_of_methodNamed Bd.named Bd.method).1
  have hlk := Bd.notSynchronized
  have hrt := Bd.returns
  have X0 : Stand p l e ({ frames := 0, cells := 0, slots := 0, locals := 0 } : Room) s m #[(.ref a1), (.ref a2)] below meth c s₁ [] 0 0 := Stand.of_body Bd
  have e0 : s₁.heap = h0 := by rw [← hh, Bd.state]; rfl
  have N0 := Fr.nil n0
  show own_Ends p e below s (QEI a1 a2 h0 n0 Z) ({ frames := 0, cells := 0, slots := 0, locals := 0 } : Room).cells ({ frames := 0, cells := 0, slots := 0, locals := 0 } : Room).slots (s₁.setTop (entryFrame m #[(.ref a1), (.ref a2)] 3))
  rw [ef_EI]
  refine own_go (fun _ k => XS.aloadN X0.here hx rfl (hb hby d5_0) rfl rfl <| k) ?_
  show own_Ends p e below s _ _ _ (s₁.setTop (mkF m 1 #[.val (.ref a1), .val (.ref a2), .unset] [(.ref a2)]))
  obtain ⟨T1, X1, e1, st1⟩ := instNo X0 hx hZ hown (hw _ (List.mem_of_getElem? (i := 43) rfl)) e0 E2 (own_no (hw _ (List.mem_of_getElem? (i := 70) rfl)) (hw _ (List.mem_of_getElem? (i := 71) rfl)) (hw _ (List.mem_of_getElem? (i := 72) rfl)) (hw _ (List.mem_of_getElem? (i := 7) rfl))) (g := (mkF m 1 #[.val (.ref a1), .val (.ref a2), .unset] [(.ref a2)])) rfl rfl (hb hby d5_1)
  refine own_go st1 ?_
  show own_Ends p e below s _ _ _ (T1.setTop (mkF m 4 #[.val (.ref a1), .val (.ref a2), .unset] [(.int (0 : Int32))]))
  refine own_go (fun _ k => XS.ifNo X1.here hx rfl (hb hby d5_4) rfl ((if0 _ _).trans (teq (by decide)).2) <| XT.iconstV X1.here hx rfl (0 : Int32) (hb hby d5_7) rfl <| k) ?_
  show own_Ends p e below s _ _ _ (T1.setTop (mkF m 8 #[.val (.ref a1), .val (.ref a2), .unset] [(.int (0 : Int32))]))
  exact own_retN X1 hx (t := .boolean) hrt (by simp) (hb hby d5_8) hlk (show nar .boolean (0 : Int32) = (0 : Int32) from by decide) (by rw [e1]; exact ⟨rfl, N0, rfl⟩) (by decide) (by decide)
def own_eq (x1 x2 x3 x4 y1 y2 y3 y4 : Int32) : Int32 := if x1 = y1 then (if x2 = y2 then (if x3 = y3 then (if x4 = y4 then 1 else 0) else 0) else 0) else 0
theorem ef_EP (m : MethodId) (x0 : Addr) (x1 : Addr) : entryFrame m #[(.ref x0), (.ref x1)] 3 = mkF m 0 #[.val (.ref x0), .val (.ref x1), .unset] [] := by first | (simp [entryFrame, mkF, argsToLocals, Value.category]; done) | rfl
def QEP (a1 : Addr) (a2 : Addr) (x1 x2 x3 x4 y1 y2 y3 y4 : Int32) (h0 : Heap) (n0 : Nat) (Z : State) (v : Option Value) (h : Heap) (L : List Loc) : Prop := v = some (.int (own_eq x1 x2 x3 x4 y1 y2 y3 y4)) ∧ Fr n0 L ∧ h = h0
set_option maxRecDepth 65536 in
set_option maxHeartbeats 40000000 in
theorem rmEP (l : Launch) (Z : State) (a0 : Array Value) (hw : ∀ d ∈ tables_1, d.before a0 Z = true) (ws : List Jvm.Cond) (a1 : Addr) (a2 : Addr) (x1 x2 x3 x4 y1 y2 y3 y4 : Int32) (h0 : Heap) (n0 : Nat) (Z0 : n0 ≤ h0.size) (E2 : Exa Z h0 a2 "com/example/expiry/expiry/model/Push") (A0 : Fld Z h0 a1 "com/example/expiry/expiry/model/Push" "timeoutSeconds" "I" (.int x1)) (A1 : Fld Z h0 a1 "com/example/expiry/expiry/model/Push" "concurrency" "I" (.int x2)) (A2 : Fld Z h0 a1 "com/example/expiry/expiry/model/Push" "initialSeconds" "I" (.int x3)) (A3 : Fld Z h0 a1 "com/example/expiry/expiry/model/Push" "maxSeconds" "I" (.int x4)) (B0 : Fld Z h0 a2 "com/example/expiry/expiry/model/Push" "timeoutSeconds" "I" (.int y1)) (B1 : Fld Z h0 a2 "com/example/expiry/expiry/model/Push" "concurrency" "I" (.int y2)) (B2 : Fld Z h0 a2 "com/example/expiry/expiry/model/Push" "initialSeconds" "I" (.int y3)) (B3 : Fld Z h0 a2 "com/example/expiry/expiry/model/Push" "maxSeconds" "I" (.int y4)) :
    MetFree l (⟨"com/example/expiry/expiry/model/Push", "equals", "(Ljava/lang/Object;)Z"⟩ : MethodName) (head1 (Jvm.Cond.code (⟨"com/example/expiry/expiry/model/Push", "equals", "(Ljava/lang/Object;)Z"⟩ : MethodName) prog_47_method_7_code 3 (some .boolean) :: ws) ({ frames := 0, cells := 0, slots := 0, locals := 0 } : Room)) (fun a U => a = #[(.ref a1), (.ref a2)] ∧ Z.Warmed39 U.vm ∧ U.heap = h0) (fun _ _ _ _ _ => True) (fun _ U o U' => ∃ v L, o = .returned v ∧ QEP a1 a2 x1 x2 x3 x4 y1 y2 y3 y4 h0 n0 Z v U'.heap L ∧ FrameEnd U o U' L ({ frames := 0, cells := 0, slots := 0, locals := 0 } : Room).cells ({ frames := 0, cells := 0, slots := 0, locals := 0 } : Room).slots) := by
  refine MetFree.of_bodySF (plainFor_of_name pn_0) hisR ?_
  intro p e s m args below meth c s₁ Bd hml0 hP hK
  obtain ⟨rfl, hZ, hh⟩ := hP
  have hx := Bd.exec
  have hby := Bd.bytes
  have hml : c.maxLocals = 3 := hml0
  have hown : s.vm.findClass "com/example/expiry/expiry/model/Push" = some m.cls := findClass_of_methodNamed Bd.named
  have hnm := (name_of_methodNamed Bd.named Bd.method).1
  have hlk := Bd.notSynchronized
  have hrt := Bd.returns
  have X0 : Stand p l e ({ frames := 0, cells := 0, slots := 0, locals := 0 } : Room) s m #[(.ref a1), (.ref a2)] below meth c s₁ [] 0 0 := Stand.of_body Bd
  have e0 : s₁.heap = h0 := by rw [← hh, Bd.state]; rfl
  have N0 := Fr.nil n0
  show own_Ends p e below s (QEP a1 a2 x1 x2 x3 x4 y1 y2 y3 y4 h0 n0 Z) ({ frames := 0, cells := 0, slots := 0, locals := 0 } : Room).cells ({ frames := 0, cells := 0, slots := 0, locals := 0 } : Room).slots (s₁.setTop (entryFrame m #[(.ref a1), (.ref a2)] 3))
  rw [ef_EP]
  refine own_go (fun _ k => XS.aloadN X0.here hx rfl (hb hby d5_0) rfl rfl <| k) ?_
  show own_Ends p e below s _ _ _ (s₁.setTop (mkF m 1 #[.val (.ref a1), .val (.ref a2), .unset] [(.ref a2)]))
  obtain ⟨T1, X1, e1, st1⟩ := instY X0 hx hZ hown (hw _ (List.mem_of_getElem? (i := 43) rfl)) e0 (Ins.self E2) (g := (mkF m 1 #[.val (.ref a1), .val (.ref a2), .unset] [(.ref a2)])) rfl rfl (hb hby d5_1)
  refine own_go st1 ?_
  show own_Ends p e below s _ _ _ (T1.setTop (mkF m 4 #[.val (.ref a1), .val (.ref a2), .unset] [(.int (1 : Int32))]))
  refine own_go (fun _ k => XS.ifYes X1.here hx rfl (pc0 := 4) (pc' := 9) rfl (hb hby d5_4) rfl ((if0 _ _).trans (feq (by decide)).2) (by decide) (by decide) <| XS.aloadN X1.here hx rfl (hb hby d5_9) rfl rfl <| k) ?_
  show own_Ends p e below s _ _ _ (T1.setTop (mkF m 10 #[.val (.ref a1), .val (.ref a2), .unset] [(.ref a2)]))
  obtain ⟨T2, X2, e2, st2⟩ := castY X1 hx hZ hown (hw _ (List.mem_of_getElem? (i := 43) rfl)) e1 (Ins.self E2) (g := (mkF m 10 #[.val (.ref a1), .val (.ref a2), .unset] [(.ref a2)])) rfl rfl (hb hby d5_10)
  refine own_go st2 ?_
  show own_Ends p e below s _ _ _ (T2.setTop (mkF m 13 #[.val (.ref a1), .val (.ref a2), .unset] [(.ref a2)]))
  refine own_go (fun _ k => XS.astoreN X2.here hx rfl (hb hby d5_13) rfl rfl (l' := #[.val (.ref a1), .val (.ref a2), .val (.ref a2)]) rfl <| XS.aloadN X2.here hx rfl (hb hby d5_14) rfl rfl <| k) ?_
  show own_Ends p e below s _ _ _ (T2.setTop (mkF m 15 #[.val (.ref a1), .val (.ref a2), .val (.ref a2)] [(.ref a1)]))
  obtain ⟨T3, X3, e3, st3⟩ := getF X2 hx hZ hown (host := "") (Or.inl (hw _ (List.mem_of_getElem? (i := 26) rfl))) Via.refl e2 A0 (g := (mkF m 15 #[.val (.ref a1), .val (.ref a2), .val (.ref a2)] [(.ref a1)])) rfl rfl (hb hby d5_15)
  refine own_go st3 ?_
  show own_Ends p e below s _ _ _ (T3.setTop (mkF m 18 #[.val (.ref a1), .val (.ref a2), .val (.ref a2)] [(.int x1)]))
  refine own_go (fun _ k => XS.aloadN X3.here hx rfl (hb hby d5_18) rfl rfl <| k) ?_
  show own_Ends p e below s _ _ _ (T3.setTop (mkF m 19 #[.val (.ref a1), .val (.ref a2), .val (.ref a2)] [(.ref a2), (.int x1)]))
  obtain ⟨T4, X4, e4, st4⟩ := getF X3 hx hZ hown (host := "") (Or.inl (hw _ (List.mem_of_getElem? (i := 26) rfl))) Via.refl e3 B0 (g := (mkF m 19 #[.val (.ref a1), .val (.ref a2), .val (.ref a2)] [(.ref a2), (.int x1)])) rfl rfl (hb hby d5_19)
  refine own_go st4 ?_
  show own_Ends p e below s _ _ _ (T4.setTop (mkF m 22 #[.val (.ref a1), .val (.ref a2), .val (.ref a2)] [(.int y1), (.int x1)]))
  by_cases hc22_5 : x1 = y1
  · -- true
    refine own_go (fun _ k => XS.icmpNo X4.here hx rfl (hb hby d5_22) rfl (teq hc22_5).2 <| XS.aloadN X4.here hx rfl (hb hby d5_25) rfl rfl <| k) ?_
    show own_Ends p e below s _ _ _ (T4.setTop (mkF m 26 #[.val (.ref a1), .val (.ref a2), .val (.ref a2)] [(.ref a1)]))
    obtain ⟨T6, X6, e6, st6⟩ := getF X4 hx hZ hown (host := "") (Or.inl (hw _ (List.mem_of_getElem? (i := 29) rfl))) Via.refl e4 A1 (g := (mkF m 26 #[.val (.ref a1), .val (.ref a2), .val (.ref a2)] [(.ref a1)])) rfl rfl (hb hby d5_26)
    refine own_go st6 ?_
    show own_Ends p e below s _ _ _ (T6.setTop (mkF m 29 #[.val (.ref a1), .val (.ref a2), .val (.ref a2)] [(.int x2)]))
    refine own_go (fun _ k => XS.aloadN X6.here hx rfl (hb hby d5_29) rfl rfl <| k) ?_
    show own_Ends p e below s _ _ _ (T6.setTop (mkF m 30 #[.val (.ref a1), .val (.ref a2), .val (.ref a2)] [(.ref a2), (.int x2)]))
    obtain ⟨T7, X7, e7, st7⟩ := getF X6 hx hZ hown (host := "") (Or.inl (hw _ (List.mem_of_getElem? (i := 29) rfl))) Via.refl e6 B1 (g := (mkF m 30 #[.val (.ref a1), .val (.ref a2), .val (.ref a2)] [(.ref a2), (.int x2)])) rfl rfl (hb hby d5_30)
    refine own_go st7 ?_
    show own_Ends p e below s _ _ _ (T7.setTop (mkF m 33 #[.val (.ref a1), .val (.ref a2), .val (.ref a2)] [(.int y2), (.int x2)]))
    by_cases hc33_8 : x2 = y2
    · -- true
      refine own_go (fun _ k => XS.icmpNo X7.here hx rfl (hb hby d5_33) rfl (teq hc33_8).2 <| XS.aloadN X7.here hx rfl (hb hby d5_36) rfl rfl <| k) ?_
      show own_Ends p e below s _ _ _ (T7.setTop (mkF m 37 #[.val (.ref a1), .val (.ref a2), .val (.ref a2)] [(.ref a1)]))
      obtain ⟨T9, X9, e9, st9⟩ := getF X7 hx hZ hown (host := "") (Or.inl (hw _ (List.mem_of_getElem? (i := 32) rfl))) Via.refl e7 A2 (g := (mkF m 37 #[.val (.ref a1), .val (.ref a2), .val (.ref a2)] [(.ref a1)])) rfl rfl (hb hby d5_37)
      refine own_go st9 ?_
      show own_Ends p e below s _ _ _ (T9.setTop (mkF m 40 #[.val (.ref a1), .val (.ref a2), .val (.ref a2)] [(.int x3)]))
      refine own_go (fun _ k => XS.aloadN X9.here hx rfl (hb hby d5_40) rfl rfl <| k) ?_
      show own_Ends p e below s _ _ _ (T9.setTop (mkF m 41 #[.val (.ref a1), .val (.ref a2), .val (.ref a2)] [(.ref a2), (.int x3)]))
      obtain ⟨T10, X10, e10, st10⟩ := getF X9 hx hZ hown (host := "") (Or.inl (hw _ (List.mem_of_getElem? (i := 32) rfl))) Via.refl e9 B2 (g := (mkF m 41 #[.val (.ref a1), .val (.ref a2), .val (.ref a2)] [(.ref a2), (.int x3)])) rfl rfl (hb hby d5_41)
      refine own_go st10 ?_
      show own_Ends p e below s _ _ _ (T10.setTop (mkF m 44 #[.val (.ref a1), .val (.ref a2), .val (.ref a2)] [(.int y3), (.int x3)]))
      by_cases hc44_11 : x3 = y3
      · -- true
        refine own_go (fun _ k => XS.icmpNo X10.here hx rfl (hb hby d5_44) rfl (teq hc44_11).2 <| XS.aloadN X10.here hx rfl (hb hby d5_47) rfl rfl <| k) ?_
        show own_Ends p e below s _ _ _ (T10.setTop (mkF m 48 #[.val (.ref a1), .val (.ref a2), .val (.ref a2)] [(.ref a1)]))
        obtain ⟨T12, X12, e12, st12⟩ := getF X10 hx hZ hown (host := "") (Or.inl (hw _ (List.mem_of_getElem? (i := 36) rfl))) Via.refl e10 A3 (g := (mkF m 48 #[.val (.ref a1), .val (.ref a2), .val (.ref a2)] [(.ref a1)])) rfl rfl (hb hby d5_48)
        refine own_go st12 ?_
        show own_Ends p e below s _ _ _ (T12.setTop (mkF m 51 #[.val (.ref a1), .val (.ref a2), .val (.ref a2)] [(.int x4)]))
        refine own_go (fun _ k => XS.aloadN X12.here hx rfl (hb hby d5_51) rfl rfl <| k) ?_
        show own_Ends p e below s _ _ _ (T12.setTop (mkF m 52 #[.val (.ref a1), .val (.ref a2), .val (.ref a2)] [(.ref a2), (.int x4)]))
        obtain ⟨T13, X13, e13, st13⟩ := getF X12 hx hZ hown (host := "") (Or.inl (hw _ (List.mem_of_getElem? (i := 36) rfl))) Via.refl e12 B3 (g := (mkF m 52 #[.val (.ref a1), .val (.ref a2), .val (.ref a2)] [(.ref a2), (.int x4)])) rfl rfl (hb hby d5_52)
        refine own_go st13 ?_
        show own_Ends p e below s _ _ _ (T13.setTop (mkF m 55 #[.val (.ref a1), .val (.ref a2), .val (.ref a2)] [(.int y4), (.int x4)]))
        by_cases hc55_14 : x4 = y4
        · -- true
          refine own_go (fun _ k => XS.icmpNo X13.here hx rfl (hb hby d5_55) rfl (teq hc55_14).2 <| XT.iconstV X13.here hx rfl (1 : Int32) (hb hby d5_58) rfl <| XS.goto X13.here hx rfl (pc0 := 59) (pc' := 63) rfl (hb hby d5_59) (by decide) (by decide) <| k) ?_
          show own_Ends p e below s _ _ _ (T13.setTop (mkF m 63 #[.val (.ref a1), .val (.ref a2), .val (.ref a2)] [(.int (1 : Int32))]))
          exact own_retN X13 hx (t := .boolean) hrt (by simp) (hb hby d5_63) hlk (show nar .boolean (1 : Int32) = (1 : Int32) from by decide) (by rw [e13]; exact ⟨by unfold own_eq; rw [if_pos hc22_5, if_pos hc33_8, if_pos hc44_11, if_pos hc55_14], N0, rfl⟩) (by decide) (by decide)
        · -- false
          refine own_go (fun _ k => XS.icmpYes X13.here hx rfl (pc0 := 55) (pc' := 62) rfl (hb hby d5_55) rfl (feq hc55_14).2 (by decide) (by decide) <| XT.iconstV X13.here hx rfl (0 : Int32) (hb hby d5_62) rfl <| k) ?_
          show own_Ends p e below s _ _ _ (T13.setTop (mkF m 63 #[.val (.ref a1), .val (.ref a2), .val (.ref a2)] [(.int (0 : Int32))]))
          exact own_retN X13 hx (t := .boolean) hrt (by simp) (hb hby d5_63) hlk (show nar .boolean (0 : Int32) = (0 : Int32) from by decide) (by rw [e13]; exact ⟨by unfold own_eq; rw [if_pos hc22_5, if_pos hc33_8, if_pos hc44_11, if_neg hc55_14], N0, rfl⟩) (by decide) (by decide)
      · -- false
        refine own_go (fun _ k => XS.icmpYes X10.here hx rfl (pc0 := 44) (pc' := 62) rfl (hb hby d5_44) rfl (feq hc44_11).2 (by decide) (by decide) <| XT.iconstV X10.here hx rfl (0 : Int32) (hb hby d5_62) rfl <| k) ?_
        show own_Ends p e below s _ _ _ (T10.setTop (mkF m 63 #[.val (.ref a1), .val (.ref a2), .val (.ref a2)] [(.int (0 : Int32))]))
        exact own_retN X10 hx (t := .boolean) hrt (by simp) (hb hby d5_63) hlk (show nar .boolean (0 : Int32) = (0 : Int32) from by decide) (by rw [e10]; exact ⟨by unfold own_eq; rw [if_pos hc22_5, if_pos hc33_8, if_neg hc44_11], N0, rfl⟩) (by decide) (by decide)
    · -- false
      refine own_go (fun _ k => XS.icmpYes X7.here hx rfl (pc0 := 33) (pc' := 62) rfl (hb hby d5_33) rfl (feq hc33_8).2 (by decide) (by decide) <| XT.iconstV X7.here hx rfl (0 : Int32) (hb hby d5_62) rfl <| k) ?_
      show own_Ends p e below s _ _ _ (T7.setTop (mkF m 63 #[.val (.ref a1), .val (.ref a2), .val (.ref a2)] [(.int (0 : Int32))]))
      exact own_retN X7 hx (t := .boolean) hrt (by simp) (hb hby d5_63) hlk (show nar .boolean (0 : Int32) = (0 : Int32) from by decide) (by rw [e7]; exact ⟨by unfold own_eq; rw [if_pos hc22_5, if_neg hc33_8], N0, rfl⟩) (by decide) (by decide)
  · -- false
    refine own_go (fun _ k => XS.icmpYes X4.here hx rfl (pc0 := 22) (pc' := 62) rfl (hb hby d5_22) rfl (feq hc22_5).2 (by decide) (by decide) <| XT.iconstV X4.here hx rfl (0 : Int32) (hb hby d5_62) rfl <| k) ?_
    show own_Ends p e below s _ _ _ (T4.setTop (mkF m 63 #[.val (.ref a1), .val (.ref a2), .val (.ref a2)] [(.int (0 : Int32))]))
    exact own_retN X4 hx (t := .boolean) hrt (by simp) (hb hby d5_63) hlk (show nar .boolean (0 : Int32) = (0 : Int32) from by decide) (by rw [e4]; exact ⟨by unfold own_eq; rw [if_neg hc22_5], N0, rfl⟩) (by decide) (by decide)
theorem d8_0 : decode jdk_18_method_1_code 0 = .ok (.aload_n 0, 1) := by decide +kernel
theorem d8_1 : decode jdk_18_method_1_code 1 = .ok (.invokespecial 1, 3) := by decide +kernel
theorem d8_4 : decode jdk_18_method_1_code 4 = .ok (.return_, 1) := by decide +kernel
theorem pn_1 : plainName "java/lang/Number" = true := by first | (simp [plainName, overriddenIn]; done) | decide +kernel
theorem ef_8 (m : MethodId) (x0 : Addr) : entryFrame m #[(.ref x0)] 1 = mkF m 0 #[.val (.ref x0)] [] := by first | (simp [entryFrame, mkF, argsToLocals, Value.category]; done) | rfl
def Q8 (a1 : Addr) (h0 : Heap) (n0 : Nat) (Z : State) (v : Option Value) (h : Heap) (L : List Loc) : Prop := v = none ∧ Fr n0 L ∧ h = h0
set_option maxRecDepth 65536 in
set_option maxHeartbeats 40000000 in
theorem rm8 (l : Launch) (Z : State) (a0 : Array Value) (hw : ∀ d ∈ tables_1, d.before a0 Z = true) (ws : List Jvm.Cond) (a1 : Addr) (h0 : Heap) (n0 : Nat) (Z0 : n0 ≤ h0.size) :
    MetFree l (⟨"java/lang/Number", "<init>", "()V"⟩ : MethodName) (head1 (Jvm.Cond.code (⟨"java/lang/Number", "<init>", "()V"⟩ : MethodName) jdk_18_method_1_code 1 none :: ws) ({ frames := 1, cells := 0, slots := 0, locals := 12 } : Room)) (fun a U => a = #[(.ref a1)] ∧ Z.Warmed39 U.vm ∧ U.heap = h0) (fun _ _ _ _ _ => True) (fun _ U o U' => ∃ v L, o = .returned v ∧ Q8 a1 h0 n0 Z v U'.heap L ∧ FrameEnd U o U' L ({ frames := 1, cells := 0, slots := 0, locals := 12 } : Room).cells ({ frames := 1, cells := 0, slots := 0, locals := 12 } : Room).slots) := by
  refine MetFree.of_bodySF (plainFor_of_name pn_1) hisR ?_
  intro p e s m args below meth c s₁ Bd hml0 hP hK
  obtain ⟨rfl, hZ, hh⟩ := hP
  have hx := Bd.exec
  have hby := Bd.bytes
  have hml : c.maxLocals = 1 := hml0
  have hown : s.vm.findClass "java/lang/Number" = some m.cls := findClass_of_methodNamed Bd.named
  have hnm := (name_of_methodNamed Bd.named Bd.method).1
  have hlk := Bd.notSynchronized
  have hrt := Bd.returns
  have X0 : Stand p l e ({ frames := 1, cells := 0, slots := 0, locals := 12 } : Room) s m #[(.ref a1)] below meth c s₁ [] 0 0 := Stand.of_body Bd
  have e0 : s₁.heap = h0 := by rw [← hh, Bd.state]; rfl
  have N0 := Fr.nil n0
  show own_Ends p e below s (Q8 a1 h0 n0 Z) ({ frames := 1, cells := 0, slots := 0, locals := 12 } : Room).cells ({ frames := 1, cells := 0, slots := 0, locals := 12 } : Room).slots (s₁.setTop (entryFrame m #[(.ref a1)] 1))
  rw [ef_8]
  refine own_go (fun _ k => XS.aloadN X0.here hx rfl (hb hby d8_0) rfl rfl <| k) ?_
  show own_Ends p e below s _ _ _ (s₁.setTop (mkF m 1 #[.val (.ref a1)] [(.ref a1)]))
  obtain ⟨T1, X1, e1, st1⟩ := initO X0 hx hZ hown (hw _ (List.mem_of_getElem? (i := 67) rfl)) (hw _ (List.mem_of_getElem? (i := 13) rfl)) (hw _ (List.mem_of_getElem? (i := 14) rfl)) e0 (g := (mkF m 1 #[.val (.ref a1)] [(.ref a1)])) rfl (by rw [hml]; rfl) rfl (hb hby d8_1) (by decide) (W := 0) (by show 2 * 0 + _ ≤ _; exact Nat.le_of_eq rfl) (by decide)
  refine own_go st1 ?_
  show own_Ends p e below s _ _ _ (T1.setTop (mkF m 4 #[.val (.ref a1)] []))
  exact own_ret0 X1 hx hrt (hb hby d8_4) hlk (by rw [e1]; exact ⟨rfl, N0, rfl⟩) (by decide) (by decide)
theorem d7_0 : decode jdk_33_method_23_code 0 = .ok (.aload_n 0, 1) := by decide +kernel
theorem d7_1 : decode jdk_33_method_23_code 1 = .ok (.invokespecial 202, 3) := by decide +kernel
theorem d7_4 : decode jdk_33_method_23_code 4 = .ok (.aload_n 0, 1) := by decide +kernel
theorem d7_5 : decode jdk_33_method_23_code 5 = .ok (.iload_n 1, 1) := by decide +kernel
theorem d7_6 : decode jdk_33_method_23_code 6 = .ok (.putfield 205, 3) := by decide +kernel
theorem d7_9 : decode jdk_33_method_23_code 9 = .ok (.return_, 1) := by decide +kernel
theorem pn_2 : plainName "java/lang/Integer" = true := by first | (simp [plainName, overriddenIn]; done) | decide +kernel
theorem ef_7 (m : MethodId) (x0 : Addr) (x1 : Int32) : entryFrame m #[(.ref x0), (.int x1)] 2 = mkF m 0 #[.val (.ref x0), .val (.int x1)] [] := by first | (simp [entryFrame, mkF, argsToLocals, Value.category]; done) | rfl
def Q7 (a1 : Addr) (p2 : Int32) (h0 : Heap) (n0 : Nat) (Z : State) (v : Option Value) (h : Heap) (L : List Loc) : Prop := v = none ∧ Fr n0 L ∧ Keep h0 h [a1] ∧ Fld Z h a1 "java/lang/Integer" "value" "I" (.int p2)
set_option maxRecDepth 65536 in
set_option maxHeartbeats 40000000 in
theorem rm7 (l : Launch) (Z : State) (a0 : Array Value) (hw : ∀ d ∈ tables_1, d.before a0 Z = true) (ws : List Jvm.Cond) (a1 : Addr) (p2 : Int32) (h0 : Heap) (n0 : Nat) (Z0 : n0 ≤ h0.size) (E1 : Exa Z h0 a1 "java/lang/Integer") (F_value : Fld Z h0 a1 "java/lang/Integer" "value" "I" (.int (0 : Int32))) (g1 : n0 ≤ a1) :
    MetFree l (⟨"java/lang/Integer", "<init>", "(I)V"⟩ : MethodName) (head1 (Jvm.Cond.code (⟨"java/lang/Integer", "<init>", "(I)V"⟩ : MethodName) jdk_33_method_23_code 2 none :: ws) ({ frames := 2, cells := 0, slots := 0, locals := 40 } : Room)) (fun a U => a = #[(.ref a1), (.int p2)] ∧ Z.Warmed39 U.vm ∧ U.heap = h0) (fun _ _ _ _ _ => True) (fun _ U o U' => ∃ v L, o = .returned v ∧ Q7 a1 p2 h0 n0 Z v U'.heap L ∧ FrameEnd U o U' L ({ frames := 2, cells := 0, slots := 0, locals := 40 } : Room).cells ({ frames := 2, cells := 0, slots := 0, locals := 40 } : Room).slots) := by
  refine MetFree.of_bodySF (plainFor_of_name pn_2) hisR ?_
  intro p e s m args below meth c s₁ Bd hml0 hP hK
  obtain ⟨rfl, hZ, hh⟩ := hP
  have hx := Bd.exec
  have hby := Bd.bytes
  have hml : c.maxLocals = 2 := hml0
  have hown : s.vm.findClass "java/lang/Integer" = some m.cls := findClass_of_methodNamed Bd.named
  have hnm := (name_of_methodNamed Bd.named Bd.method).1
  have hlk := Bd.notSynchronized
  have hrt := Bd.returns
  have X0 : Stand p l e ({ frames := 2, cells := 0, slots := 0, locals := 40 } : Room) s m #[(.ref a1), (.int p2)] below meth c s₁ [] 0 0 := Stand.of_body Bd
  have e0 : s₁.heap = h0 := by rw [← hh, Bd.state]; rfl
  have N0 := Fr.nil n0
  show own_Ends p e below s (Q7 a1 p2 h0 n0 Z) ({ frames := 2, cells := 0, slots := 0, locals := 40 } : Room).cells ({ frames := 2, cells := 0, slots := 0, locals := 40 } : Room).slots (s₁.setTop (entryFrame m #[(.ref a1), (.int p2)] 2))
  rw [ef_7]
  have K0 : Keep h0 h0 [a1] := Keep.refl h0 [a1]
  refine own_go (fun _ k => XS.aloadN X0.here hx rfl (hb hby d7_0) rfl rfl <| k) ?_
  show own_Ends p e below s _ _ _ (s₁.setTop (mkF m 1 #[.val (.ref a1), .val (.int p2)] [(.ref a1)]))
  obtain ⟨_, _, ⟨T1, L1, k1, n1⟩, -, X1, ⟨Lc1, hQ1, l1, y1, z1⟩, st1⟩ := X0.specialBack hx (y := (⟨"java/lang/Number", "<init>", "()V"⟩ : MethodName)) rfl hown (mvT hZ (hw _ (List.mem_of_getElem? (i := 61) rfl))) (mvT hZ (hw _ (List.mem_of_getElem? (i := 62) rfl))) (mvT hZ (hw _ (List.mem_of_getElem? (i := 66) rfl))) (by decide) (backOf (W := 0) (rm8 l Z a0 hw [] a1 h0 n0 Z0) hZ (hw _ (List.mem_of_getElem? (i := 66) rfl)) (hw _ (List.mem_of_getElem? (i := 65) rfl)) (by decide) (by decide)) (g := (mkF m 1 #[.val (.ref a1), .val (.int p2)] [(.ref a1)])) rfl (by rw [hml]; rfl) (Steps.refl _) (a := a1) (argsL := []) (rest := []) (lenOf pd_2 rfl) rfl (by show 2 * 0 + _ ≤ _; exact Nat.le_of_eq rfl) (hb hby d7_1) (fun _ _ => ⟨rfl, e0, Nat.le_of_ble_eq_true rfl, Nat.le_of_ble_eq_true rfl⟩)
  dsimp only [Pt.U, Pt.locs, Pt.cells, Pt.slots] at X1 l1 y1 z1 st1 hQ1
  subst l1 y1 z1
  obtain ⟨rfl, N1q, e1⟩ := hQ1
  have N1 := Fr.app N0 N1q
  refine own_go (fun _ k => st1.trans k) ?_
  show own_Ends p e below s _ _ _ (T1.setTop (mkF m 4 #[.val (.ref a1), .val (.int p2)] []))
  refine own_go (fun _ k => XS.aloadN X1.here hx rfl (hb hby d7_4) rfl rfl <| XS.iloadN X1.here hx rfl (hb hby d7_5) rfl <| k) ?_
  show own_Ends p e below s _ _ _ (T1.setTop (mkF m 6 #[.val (.ref a1), .val (.int p2)] [(.int p2), (.ref a1)]))
  obtain ⟨T2, h2, X2, e2, W2, st2⟩ := putF X1 hx hZ hown (host := "") (Or.inl (hw _ (List.mem_of_getElem? (i := 68) rfl))) Via.refl e1 F_value E1 (Or.inr ⟨(hw _ (List.mem_of_getElem? (i := 69) rfl)), rfl, hnm⟩) (hw _ (List.mem_of_getElem? (i := 56) rfl)) (ty := .int) (by decide) rfl rfl (g := (mkF m 6 #[.val (.ref a1), .val (.int p2)] [(.int p2), (.ref a1)])) rfl rfl (hb hby d7_6)
  refine own_go st2 ?_
  have E1'2 := E1.wr W2
  have Z2 := Nat.le_trans Z0 (Keep.of_wr W2).1
  have K2' := K0.wr W2 (Or.inl (List.mem_of_getElem? (i := 0) rfl))
  have N2 := Fr.snoc X2 N1 g1
  have F_value'2 := F_value.same W2
  show own_Ends p e below s _ _ _ (T2.setTop (mkF m 9 #[.val (.ref a1), .val (.int p2)] []))
  exact own_ret0 X2 hx hrt (hb hby d7_9) hlk (by rw [e2]; exact ⟨rfl, N2, K2', F_value'2⟩) (by decide) (by decide)
theorem own_in {Z : State} {aC : Addr} {cC : Cell} {vf : Int32 → Value} (B : Bxs Z aC cC "java/lang/Integer" "I" (256 : Int32) vf) {p : Int32} (h1 : ¬ p < -128) (h2 : ¬ (127 : Int32) < p) : ¬ (p + (128 : Int32) < 0 ∨ cC.slots.size ≤ (p + (128 : Int32)).toNatClampNeg) := by
  have e0 : (0 : Int32).toInt = 0 := by decide
  have e1 : (-128 : Int32).toInt = -128 := by decide
  have e2 : (127 : Int32).toInt = 127 := by decide
  have e3 : (128 : Int32).toInt = 128 := by decide
  have e4 : (256 : Int32).toNatClampNeg = 256 := by decide
  have h := c_iadd p 128
  have r := rng32 p
  have r2 := rng32 (p + 128)
  rw [B.2.1, e4, Int32.lt_iff_toInt_lt, e0]
  rw [Int32.lt_iff_toInt_lt, e1] at h1
  rw [Int32.lt_iff_toInt_lt, e2] at h2
  rw [e3] at h
  have hc : ((p + 128).toNatClampNeg : Int) = max 0 (p + 128).toInt := by rw [Int32.toNatClampNeg]; omega
  omega
theorem d6_0 : decode jdk_33_method_22_code 0 = .ok (.iload_n 0, 1) := by decide +kernel
theorem d6_1 : decode jdk_33_method_22_code 1 = .ok (.bipush (-128), 2) := by decide +kernel
theorem d6_3 : decode jdk_33_method_22_code 3 = .ok (.if_icmp .lt 20, 3) := by decide +kernel
theorem d6_6 : decode jdk_33_method_22_code 6 = .ok (.iload_n 0, 1) := by decide +kernel
theorem d6_7 : decode jdk_33_method_22_code 7 = .ok (.getstatic 191, 3) := by decide +kernel
theorem d6_10 : decode jdk_33_method_22_code 10 = .ok (.if_icmp .gt 13, 3) := by decide +kernel
theorem d6_13 : decode jdk_33_method_22_code 13 = .ok (.getstatic 195, 3) := by decide +kernel
theorem d6_16 : decode jdk_33_method_22_code 16 = .ok (.iload_n 0, 1) := by decide +kernel
theorem d6_17 : decode jdk_33_method_22_code 17 = .ok (.sipush 128, 3) := by decide +kernel
theorem d6_20 : decode jdk_33_method_22_code 20 = .ok (.iadd, 1) := by decide +kernel
theorem d6_21 : decode jdk_33_method_22_code 21 = .ok (.aaload, 1) := by decide +kernel
theorem d6_22 : decode jdk_33_method_22_code 22 = .ok (.areturn, 1) := by decide +kernel
theorem d6_23 : decode jdk_33_method_22_code 23 = .ok (.new 1, 3) := by decide +kernel
theorem d6_26 : decode jdk_33_method_22_code 26 = .ok (.dup, 1) := by decide +kernel
theorem d6_27 : decode jdk_33_method_22_code 27 = .ok (.iload_n 0, 1) := by decide +kernel
theorem d6_28 : decode jdk_33_method_22_code 28 = .ok (.invokespecial 199, 3) := by decide +kernel
theorem d6_31 : decode jdk_33_method_22_code 31 = .ok (.areturn, 1) := by decide +kernel
theorem ef_6 (m : MethodId) (x0 : Int32) : entryFrame m #[(.int x0)] 1 = mkF m 0 #[.val (.int x0)] [] := by first | (simp [entryFrame, mkF, argsToLocals, Value.category]; done) | rfl
def Q6 (p1 : Int32) (aC : Addr) (cC : Cell) (h0 : Heap) (n0 : Nat) (Z : State) (v : Option Value) (h : Heap) (L : List Loc) : Prop := ∃ b, v = some (.ref b) ∧ Fr n0 L ∧ Keep h0 h [] ∧ Exa Z h b "java/lang/Integer"
set_option maxRecDepth 65536 in
set_option maxHeartbeats 40000000 in
theorem rm6 (l : Launch) (Z : State) (a0 : Array Value) (hw : ∀ d ∈ tables_1, d.before a0 Z = true) (ws : List Jvm.Cond) (p1 : Int32) (aC : Addr) (cC : Cell) (h0 : Heap) (n0 : Nat) (Z0 : n0 ≤ h0.size) (O0 : Old Z n0 h0) (SH : Sta Z Z.heap "java/lang/Integer$IntegerCache" "high" "I" (.int (127 : Int32))) (SC : Sta Z Z.heap "java/lang/Integer$IntegerCache" "cache" "[Ljava/lang/Integer;" (.ref aC)) (BX : Bxs Z aC cC "java/lang/Integer" "I" (256 : Int32) (fun j => .int (j - 128))) :
    MetFree l (⟨"java/lang/Integer", "valueOf", "(I)Ljava/lang/Integer;"⟩ : MethodName) (head1 (Jvm.Cond.code (⟨"java/lang/Integer", "valueOf", "(I)Ljava/lang/Integer;"⟩ : MethodName) jdk_33_method_22_code 1 (some (.object "java/lang/Integer")) :: ws) ({ frames := 3, cells := 1, slots := 40, locals := 60 } : Room)) (fun a U => a = #[(.int p1)] ∧ Z.Warmed39 U.vm ∧ U.heap = h0) (fun _ _ _ _ _ => True) (fun _ U o U' => ∃ v L, o = .returned v ∧ Q6 p1 aC cC h0 n0 Z v U'.heap L ∧ FrameEnd U o U' L ({ frames := 3, cells := 1, slots := 40, locals := 60 } : Room).cells ({ frames := 3, cells := 1, slots := 40, locals := 60 } : Room).slots) := by
  refine MetFree.of_bodySF (plainFor_of_name pn_2) hisR ?_
  intro p e s m args below meth c s₁ Bd hml0 hP hK
  obtain ⟨rfl, hZ, hh⟩ := hP
  have hx := Bd.exec
  have hby := Bd.bytes
  have hml : c.maxLocals = 1 := hml0
  have hown : s.vm.findClass "java/lang/Integer" = some m.cls := findClass_of_methodNamed Bd.named
  have hnm := (name_of_methodNamed Bd.named Bd.method).1
  have hlk := Bd.notSynchronized
  have hrt := Bd.returns
  have X0 : Stand p l e ({ frames := 3, cells := 1, slots := 40, locals := 60 } : Room) s m #[(.int p1)] below meth c s₁ [] 0 0 := Stand.of_body Bd
  have e0 : s₁.heap = h0 := by rw [← hh, Bd.state]; rfl
  have N0 := Fr.nil n0
  show own_Ends p e below s (Q6 p1 aC cC h0 n0 Z) ({ frames := 3, cells := 1, slots := 40, locals := 60 } : Room).cells ({ frames := 3, cells := 1, slots := 40, locals := 60 } : Room).slots (s₁.setTop (entryFrame m #[(.int p1)] 1))
  rw [ef_6]
  have K0 : Keep h0 h0 [] := Keep.refl h0 []
  refine own_go (fun _ k => XS.iloadN X0.here hx rfl (hb hby d6_0) rfl <| XT.bipushV X0.here hx rfl (-128 : Int32) (hb hby d6_1) rfl <| k) ?_
  show own_Ends p e below s _ _ _ (s₁.setTop (mkF m 3 #[.val (.int p1)] [(.int (-128 : Int32)), (.int p1)]))
  by_cases hc3_1 : p1 < (-128 : Int32)
  · -- true
    refine own_go (fun _ k => XS.icmpYes X0.here hx rfl (pc0 := 3) (pc' := 23) rfl (hb hby d6_3) rfl (tlt hc3_1).1 (by decide) (by decide) <| k) ?_
    show own_Ends p e below s _ _ _ (s₁.setTop (mkF m 23 #[.val (.int p1)] []))
    obtain ⟨T2, h2, X2, e2, E2, A2, D2, -, st2⟩ := newO X0 hx hZ hown (hw _ (List.mem_of_getElem? (i := 55) rfl)) (hw _ (List.mem_of_getElem? (i := 56) rfl)) (hw _ (List.mem_of_getElem? (i := 51) rfl)) e0 (g := (mkF m 23 #[.val (.int p1)] [])) rfl (hb hby d6_23) (by decide) (by decide)
    obtain ⟨b2, g2⟩ : ∃ z, z = h0.size := ⟨_, rfl⟩
    rw [← g2] at A2 D2 st2
    refine own_go st2 ?_
    have g_b2 : n0 ≤ b2 := Nat.le_trans Z0 (Nat.le_of_eq g2.symm)
    have sz_b2 : h0.size ≤ b2 := Nat.le_trans K0.1 (Nat.le_of_eq g2.symm)
    have Z2 := Nat.le_trans Z0 E2.1
    have O2 := O0.ext E2
    have K2' := K0.ext E2
    have F_value_b2 : Fld Z h2 b2 "java/lang/Integer" "value" "I" (.int (0 : Int32)) := D2 (Or.inr (hw _ (List.mem_of_getElem? (i := 69) rfl))) (ty := .int) (by decide)
    show own_Ends p e below s _ _ _ (T2.setTop (mkF m 26 #[.val (.int p1)] [(.ref b2)]))
    refine own_go (fun _ k => XS.dup X2.here hx rfl (hb hby d6_26) rfl rfl <| XS.iloadN X2.here hx rfl (hb hby d6_27) rfl <| k) ?_
    show own_Ends p e below s _ _ _ (T2.setTop (mkF m 28 #[.val (.int p1)] [(.int p1), (.ref b2), (.ref b2)]))
    obtain ⟨_, _, ⟨T3, L3, k3, n3⟩, -, X3, ⟨Lc3, hQ3, l3, y3, z3⟩, st3⟩ := X2.specialBack hx (y := (⟨"java/lang/Integer", "<init>", "(I)V"⟩ : MethodName)) rfl hown (mvT hZ (hw _ (List.mem_of_getElem? (i := 57) rfl))) (mvT hZ (hw _ (List.mem_of_getElem? (i := 58) rfl))) (mvT hZ (hw _ (List.mem_of_getElem? (i := 60) rfl))) (by decide) (backOf (W := 1) (rm7 l Z a0 hw [] b2 p1  h2 n0 Z2 A2 F_value_b2 g_b2 ) hZ (hw _ (List.mem_of_getElem? (i := 60) rfl)) (hw _ (List.mem_of_getElem? (i := 51) rfl)) (by decide) (by decide)) (g := (mkF m 28 #[.val (.int p1)] [(.int p1), (.ref b2), (.ref b2)])) rfl (by rw [hml]; rfl) (Steps.refl _) (a := b2) (argsL := [(.int p1)]) (rest := [(.ref b2)]) (lenOf pd_6 rfl) rfl (by show 2 * 0 + _ ≤ _; exact Nat.le_of_eq rfl) (hb hby d6_28) (fun _ _ => ⟨rfl, e2, Nat.le_of_ble_eq_true rfl, Nat.le_of_ble_eq_true rfl⟩)
    dsimp only [Pt.U, Pt.locs, Pt.cells, Pt.slots] at X3 l3 y3 z3 st3 hQ3
    subst l3 y3 z3
    obtain ⟨rfl, N3q, K3, Fc03⟩ := hQ3
    have N3 := Fr.app N0 N3q
    refine own_go (fun _ k => st3.trans k) ?_
    have A2'3 := A2.keep K3
    have Z3 := Nat.le_trans Z2 K3.1
    have O3 := O2.keep K3 (allS g_b2 all0)
    have K3' := K2'.trans K3 (allS (Or.inr sz_b2) all0)
    show own_Ends p e below s _ _ _ (T3.setTop (mkF m 31 #[.val (.int p1)] [(.ref b2)]))
    exact own_ret X3 hx hrt rfl (Or.inr (Or.inr (Or.inr (Or.inr ⟨rfl, rfl, rfl⟩)))) (hb hby d6_31) hlk (by exact ⟨_, rfl, N3, K3', A2'3⟩) (by decide) (by decide)
  · -- false
    refine own_go (fun _ k => XS.icmpNo X0.here hx rfl (hb hby d6_3) rfl (flt hc3_1).1 <| XS.iloadN X0.here hx rfl (hb hby d6_6) rfl <| k) ?_
    show own_Ends p e below s _ _ _ (s₁.setTop (mkF m 7 #[.val (.int p1)] [(.int p1)]))
    obtain ⟨T4, X4, e4, st4⟩ := getS2 X0 hx hZ hown (host := "") (Or.inl (hw _ (List.mem_of_getElem? (i := 53) rfl))) Via.refl e0 (SH.ext O0.2) (g := (mkF m 7 #[.val (.int p1)] [(.int p1)])) rfl (hb hby d6_7)
    refine own_go st4 ?_
    show own_Ends p e below s _ _ _ (T4.setTop (mkF m 10 #[.val (.int p1)] [(.int (127 : Int32)), (.int p1)]))
    by_cases hc10_5 : (127 : Int32) < p1
    · -- true
      refine own_go (fun _ k => XS.icmpYes X4.here hx rfl (pc0 := 10) (pc' := 23) rfl (hb hby d6_10) rfl (tlt hc10_5).2.2.1 (by decide) (by decide) <| k) ?_
      show own_Ends p e below s _ _ _ (T4.setTop (mkF m 23 #[.val (.int p1)] []))
      obtain ⟨T6, h6, X6, e6, E6, A6, D6, -, st6⟩ := newO X4 hx hZ hown (hw _ (List.mem_of_getElem? (i := 55) rfl)) (hw _ (List.mem_of_getElem? (i := 56) rfl)) (hw _ (List.mem_of_getElem? (i := 51) rfl)) e4 (g := (mkF m 23 #[.val (.int p1)] [])) rfl (hb hby d6_23) (by decide) (by decide)
      obtain ⟨b6, g6⟩ : ∃ z, z = h0.size := ⟨_, rfl⟩
      rw [← g6] at A6 D6 st6
      refine own_go st6 ?_
      have g_b6 : n0 ≤ b6 := Nat.le_trans Z0 (Nat.le_of_eq g6.symm)
      have sz_b6 : h0.size ≤ b6 := Nat.le_trans K0.1 (Nat.le_of_eq g6.symm)
      have Z6 := Nat.le_trans Z0 E6.1
      have O6 := O0.ext E6
      have K6' := K0.ext E6
      have F_value_b6 : Fld Z h6 b6 "java/lang/Integer" "value" "I" (.int (0 : Int32)) := D6 (Or.inr (hw _ (List.mem_of_getElem? (i := 69) rfl))) (ty := .int) (by decide)
      show own_Ends p e below s _ _ _ (T6.setTop (mkF m 26 #[.val (.int p1)] [(.ref b6)]))
      refine own_go (fun _ k => XS.dup X6.here hx rfl (hb hby d6_26) rfl rfl <| XS.iloadN X6.here hx rfl (hb hby d6_27) rfl <| k) ?_
      show own_Ends p e below s _ _ _ (T6.setTop (mkF m 28 #[.val (.int p1)] [(.int p1), (.ref b6), (.ref b6)]))
      obtain ⟨_, _, ⟨T7, L7, k7, n7⟩, -, X7, ⟨Lc7, hQ7, l7, y7, z7⟩, st7⟩ := X6.specialBack hx (y := (⟨"java/lang/Integer", "<init>", "(I)V"⟩ : MethodName)) rfl hown (mvT hZ (hw _ (List.mem_of_getElem? (i := 57) rfl))) (mvT hZ (hw _ (List.mem_of_getElem? (i := 58) rfl))) (mvT hZ (hw _ (List.mem_of_getElem? (i := 60) rfl))) (by decide) (backOf (W := 1) (rm7 l Z a0 hw [] b6 p1  h6 n0 Z6 A6 F_value_b6 g_b6 ) hZ (hw _ (List.mem_of_getElem? (i := 60) rfl)) (hw _ (List.mem_of_getElem? (i := 51) rfl)) (by decide) (by decide)) (g := (mkF m 28 #[.val (.int p1)] [(.int p1), (.ref b6), (.ref b6)])) rfl (by rw [hml]; rfl) (Steps.refl _) (a := b6) (argsL := [(.int p1)]) (rest := [(.ref b6)]) (lenOf pd_6 rfl) rfl (by show 2 * 0 + _ ≤ _; exact Nat.le_of_eq rfl) (hb hby d6_28) (fun _ _ => ⟨rfl, e6, Nat.le_of_ble_eq_true rfl, Nat.le_of_ble_eq_true rfl⟩)
      dsimp only [Pt.U, Pt.locs, Pt.cells, Pt.slots] at X7 l7 y7 z7 st7 hQ7
      subst l7 y7 z7
      obtain ⟨rfl, N7q, K7, Fc07⟩ := hQ7
      have N7 := Fr.app N0 N7q
      refine own_go (fun _ k => st7.trans k) ?_
      have A6'7 := A6.keep K7
      have Z7 := Nat.le_trans Z6 K7.1
      have O7 := O6.keep K7 (allS g_b6 all0)
      have K7' := K6'.trans K7 (allS (Or.inr sz_b6) all0)
      show own_Ends p e below s _ _ _ (T7.setTop (mkF m 31 #[.val (.int p1)] [(.ref b6)]))
      exact own_ret X7 hx hrt rfl (Or.inr (Or.inr (Or.inr (Or.inr ⟨rfl, rfl, rfl⟩)))) (hb hby d6_31) hlk (by exact ⟨_, rfl, N7, K7', A6'7⟩) (by decide) (by decide)
    · -- false
      refine own_go (fun _ k => XS.icmpNo X4.here hx rfl (hb hby d6_10) rfl (flt hc10_5).2.2.1 <| k) ?_
      show own_Ends p e below s _ _ _ (T4.setTop (mkF m 13 #[.val (.int p1)] []))
      obtain ⟨T8, X8, e8, st8⟩ := getS2 X4 hx hZ hown (host := "") (Or.inl (hw _ (List.mem_of_getElem? (i := 73) rfl))) Via.refl e4 (SC.ext O0.2) (g := (mkF m 13 #[.val (.int p1)] [])) rfl (hb hby d6_13)
      refine own_go st8 ?_
      show own_Ends p e below s _ _ _ (T8.setTop (mkF m 16 #[.val (.int p1)] [(.ref aC)]))
      refine own_go (fun _ k => XS.iloadN X8.here hx rfl (hb hby d6_16) rfl <| XT.sipushV X8.here hx rfl (128 : Int32) (hb hby d6_17) rfl <| XS.iadd X8.here hx rfl (hb hby d6_20) rfl <| k) ?_
      show own_Ends p e below s _ _ _ (T8.setTop (mkF m 21 #[.val (.int p1)] [(.int (p1 + (128 : Int32))), (.ref aC)]))
      have hin := own_in BX hc3_1 hc10_5
      obtain ⟨ArC, SzC, NgC⟩ := BX.ext O0.2
      obtain ⟨bx, hat, Eb, Fb⟩ := BX.2.2.2 (p1 + (128 : Int32)) hin
      refine own_go (fun _ k => X8.aaload hx (j := (p1 + (128 : Int32))) (v := .ref bx) (by first | exact ArC.1 | (rw [e8]; exact ArC.1)) (State.isArrayOf_alike hZ.alike ArC.2.1) rfl ArC.2.2 hin hat (g := (mkF m 21 #[.val (.int p1)] [(.int (p1 + (128 : Int32))), (.ref aC)])) rfl rfl (hb hby d6_21) _ k) ?_
      show own_Ends p e below s _ _ _ (T8.setTop (mkF m 22 #[.val (.int p1)] [(.ref bx)]))
      exact own_ret X8 hx hrt rfl (Or.inr (Or.inr (Or.inr (Or.inr ⟨rfl, rfl, rfl⟩)))) (hb hby d6_22) hlk (by rw [e8]; exact ⟨_, rfl, N0, K0, (Eb.ext O0.2)⟩) (by decide) (by decide)
theorem own_r1 (p k : Int32) (d : Int) (hk : k.toInt = d) (h0 : 0 < d) (h1 : d ≤ 100000) : 1 ≤ ((1 : Int32) + (p &&& (2147483647 : Int32)) % k).toInt64.toInt ∧ ((1 : Int32) + (p &&& (2147483647 : Int32)) % k).toInt64.toInt ≤ d := by
  have h := c_mask p 2147483647 31 (by decide) (by decide)
  have h2 := (c_irem (p &&& 2147483647) k d hk).1
  have h3 := c_iadd 1 ((p &&& 2147483647) % k)
  have e1 : (1 : Int32).toInt = 1 := by decide
  have h4 := rng32 (1 + (p &&& 2147483647) % k)
  have h5 := Int.emod_nonneg (p &&& 2147483647).toInt (show d ≠ 0 by omega)
  have h6 := Int.emod_lt_of_pos (p &&& 2147483647).toInt h0
  rw [c_i2l]
  rw [e1] at h3
  have h7 := h2 (by omega)
  rw [h7] at h3
  generalize (p &&& 2147483647).toInt % d = r at *
  omega
theorem own_r2 {q : Int64} (k : Int64) (d : Int) (hk : k.toInt = d) (h0 : 0 < d) (h1 : d ≤ 100000) (h : 1 ≤ q.toInt) : 1 ≤ ((1 : Int64) + (q - (q / k) * k)).toInt ∧ ((1 : Int64) + (q - (q / k) * k)).toInt ≤ d := by
  have h2 := (c_lrem q k d hk).1 (by omega)
  have h3 := c_ladd 1 (q - (q / k) * k)
  have e1 : (1 : Int64).toInt = 1 := by decide
  have h4 := rng64 (1 + (q - (q / k) * k))
  have h5 := Int.emod_nonneg q.toInt (show d ≠ 0 by omega)
  have h6 := Int.emod_lt_of_pos q.toInt h0
  rw [h2, e1] at h3
  generalize q.toInt % d = r at *
  omega
theorem own_dv {q : Int64} (h : 1 ≤ q.toInt ∧ q.toInt ≤ 3600) : ((86401 : Int64) - q).toInt = 86401 - q.toInt := by
  have h1 := c_lsub 86401 q
  have e1 : (86401 : Int64).toInt = 86401 := by decide
  have h2 := rng64 (86401 - q)
  rw [e1] at h1
  omega
theorem own_nz {q : Int64} (h : 1 ≤ q.toInt ∧ q.toInt ≤ 3600) : ¬ ((86401 : Int64) - q) = 0 := by
  intro e
  have h1 := own_dv h
  rw [e] at h1
  have e0 : (0 : Int64).toInt = 0 := by decide
  omega
theorem own_r3 {q : Int64} (h : 1 ≤ q.toInt ∧ q.toInt ≤ 3600) (p : Int32) : q.toInt ≤ (q + ((p &&& (2147483647 : Int32)).toInt64 - ((p &&& (2147483647 : Int32)).toInt64 / ((86401 : Int64) - q)) * ((86401 : Int64) - q))).toInt ∧ (q + ((p &&& (2147483647 : Int32)).toInt64 - ((p &&& (2147483647 : Int32)).toInt64 / ((86401 : Int64) - q)) * ((86401 : Int64) - q))).toInt ≤ 86400 := by
  have hm := c_mask p 2147483647 31 (by decide) (by decide)
  have hl := c_i2l (p &&& 2147483647)
  generalize (p &&& (2147483647 : Int32)).toInt64 = A at *
  have h2 := (c_lrem A (86401 - q) (86401 - q.toInt) (own_dv h)).1 (by omega)
  have h3 := c_ladd q (A - (A / (86401 - q)) * (86401 - q))
  have h4 := rng64 (q + (A - (A / (86401 - q)) * (86401 - q)))
  have h5 := Int.emod_nonneg A.toInt (show (86401 - q.toInt) ≠ 0 by omega)
  have h6 := Int.emod_lt_of_pos A.toInt (show 0 < 86401 - q.toInt by omega)
  rw [h2] at h3
  generalize A.toInt % (86401 - q.toInt) = r at *
  omega
theorem own_s1 {q : Int64} (h : 1 ≤ q.toInt ∧ q.toInt ≤ 86400) (hne : ¬ q = 86400) : 1 ≤ (q + (1 : Int64)).toInt ∧ (q + (1 : Int64)).toInt ≤ 86400 := by
  have h1 := c_ladd q 1
  have e1 : (1 : Int64).toInt = 1 := by decide
  have e2 : (86400 : Int64).toInt = 86400 := by decide
  have h2 := rng64 (q + 1)
  rw [← Int64.toInt_inj, e2] at hne
  rw [e1] at h1
  omega
theorem own_mx {w q : Int64} (h : 1 ≤ w.toInt ∧ w.toInt ≤ 86400) (h' : 1 ≤ q.toInt ∧ q.toInt ≤ 3600) : q.toInt ≤ (own_maxL w q).toInt ∧ (own_maxL w q).toInt ≤ 86400 := by
  unfold own_maxL
  split
  · omega
  · rename_i g; rw [Int64.lt_iff_toInt_lt] at g; omega
theorem own_l2i {q : Int64} (h : 1 ≤ q.toInt ∧ q.toInt ≤ 86400) : q.toInt32.toInt = q.toInt := by
  have h1 := c_l2i q
  have h2 := rng32 q.toInt32
  omega
theorem own_ne {q r : Int64} (h : 1 ≤ q.toInt ∧ q.toInt ≤ 86400) (h' : 1 ≤ r.toInt ∧ r.toInt ≤ 86400) (n : ¬ q = r) : ¬ q.toInt32 = r.toInt32 := by
  intro e
  apply n
  rw [← Int32.toInt_inj, own_l2i h, own_l2i h'] at e
  exact Int64.toInt_inj.mp e
theorem own_rg {q : Int64} {lo hi : Int32} (a b : Int) (h1 : lo.toInt = a) (h2 : hi.toInt = b) (h : a ≤ q.toInt ∧ q.toInt ≤ b) : ¬ q < lo.toInt64 ∧ ¬ hi.toInt64 < q := by
  rw [Int64.lt_iff_toInt_lt, Int64.lt_iff_toInt_lt, c_i2l, c_i2l]
  omega
theorem own_one (x1 x2 x3 x4 : Int32) : own_eq x1 x2 x3 x4 x1 x2 x3 x4 = 1 := by simp [own_eq]
theorem pn_3 : plainName "com/example/expiry/expiry/model/PushEqualsPinLaw" = true := by first | (simp [plainName, overriddenIn]; done) | decide +kernel
theorem ef_0 (m : MethodId) (x0 : Int32) (x1 : Int32) (x2 : Int32) (x3 : Int32) (x4 : Int32) : entryFrame m #[(.int x0), (.int x1), (.int x2), (.int x3), (.int x4)] maxLocals = mkF m 0 #[.val (.int x0), .val (.int x1), .val (.int x2), .val (.int x3), .val (.int x4), .unset, .unset, .unset, .unset, .unset, .unset, .unset, .unset, .unset, .unset, .unset, .unset, .unset, .unset, .unset, .unset, .unset, .unset, .unset, .unset] [] := by first | (simp [entryFrame, mkF, argsToLocals, Value.category, maxLocals]; done) | rfl
def Q0 (p1 : Int32) (p2 : Int32) (p3 : Int32) (p4 : Int32) (p5 : Int32) (aC : Addr) (cC : Cell) (h0 : Heap) (n0 : Nat) (Z : State) (v : Option Value) (h : Heap) (L : List Loc) : Prop := v = some (.int 1) ∧ Fr n0 L
set_option maxRecDepth 65536 in
set_option maxHeartbeats 40000000 in
theorem rm0 (l : Launch) (Z : State) (a0 : Array Value) (hw : ∀ d ∈ tables_1, d.before a0 Z = true) (ws : List Jvm.Cond) (p1 : Int32) (p2 : Int32) (p3 : Int32) (p4 : Int32) (p5 : Int32) (aC : Addr) (cC : Cell) (h0 : Heap) (n0 : Nat) (Z0 : n0 ≤ h0.size) (O0 : Old Z n0 h0) (SH : Sta Z Z.heap "java/lang/Integer$IntegerCache" "high" "I" (.int (127 : Int32))) (SC : Sta Z Z.heap "java/lang/Integer$IntegerCache" "cache" "[Ljava/lang/Integer;" (.ref aC)) (BX : Bxs Z aC cC "java/lang/Integer" "I" (256 : Int32) (fun j => .int (j - 128))) :
    MetFree l x (head1 (Jvm.Cond.code x code maxLocals ret :: ws) room_1) (fun a U => a = #[(.int p1), (.int p2), (.int p3), (.int p4), (.int p5)] ∧ Z.Warmed39 U.vm ∧ U.heap = h0) (fun _ _ _ _ _ => True) (fun _ U o U' => ∃ v L, o = .returned v ∧ Q0 p1 p2 p3 p4 p5 aC cC h0 n0 Z v U'.heap L ∧ ReturnedEndW U o U' L room_1.cells room_1.slots) := by
  refine MetFree.of_bodySF (plainFor_of_name pn_3) hisR ?_
  intro p e s m args below meth c s₁ Bd hml0 hP hK
  obtain ⟨rfl, hZ, hh⟩ := hP
  have hx := Bd.exec
  have hby := Bd.bytes
  have hml : c.maxLocals = 25 := hml0
  have hown : s.vm.findClass "com/example/expiry/expiry/model/PushEqualsPinLaw" = some m.cls := findClass_of_methodNamed Bd.named
  have hnm := (name_of_methodNamed Bd.named Bd.method).1
  have hlk := Bd.notSynchronized
  have hrt := Bd.returns
  have X0 : Stand p l e room_1 (s.setVm s.vm) m #[(.int p1), (.int p2), (.int p3), (.int p4), (.int p5)] below meth c s₁ [] 0 0 := Stand.of_body Bd
  have e0 : s₁.heap = h0 := by rw [← hh, Bd.state]; rfl
  have N0 := Fr.nil n0
  show own_EndsW p e below s (Q0 p1 p2 p3 p4 p5 aC cC h0 n0 Z) room_1.cells room_1.slots (s₁.setTop (entryFrame m #[(.int p1), (.int p2), (.int p3), (.int p4), (.int p5)] maxLocals))
  rw [ef_0]
  have hS0 : s.Since s.vm 0 := (State.WarmedH.refl s).since 0
  have hk0 : 0 ≤ h0.size := Nat.zero_le _
  have own_strs := own_strs0 hw
  have J13 : ∀ q5 : Int64, (1 ≤ q5.toInt ∧ q5.toInt ≤ 300) → own_EndsW p e below s (Q0 p1 p2 p3 p4 p5 aC cC h0 n0 Z) room_1.cells room_1.slots (s₁.setTop (mkF m 13 #[.val (.int p1), .val (.int p2), .val (.int p3), .val (.int p4), .val (.int p5), .val (.long q5), .second, .unset, .unset, .unset, .unset, .unset, .unset, .unset, .unset, .unset, .unset, .unset, .unset, .unset, .unset, .unset, .unset, .unset, .unset] [])) := by
    intro q5 hq5
    have J26 : ∀ q7 : Int64, (1 ≤ q7.toInt ∧ q7.toInt ≤ 256) → own_EndsW p e below s (Q0 p1 p2 p3 p4 p5 aC cC h0 n0 Z) room_1.cells room_1.slots (s₁.setTop (mkF m 26 #[.val (.int p1), .val (.int p2), .val (.int p3), .val (.int p4), .val (.int p5), .val (.long q5), .second, .val (.long q7), .second, .unset, .unset, .unset, .unset, .unset, .unset, .unset, .unset, .unset, .unset, .unset, .unset, .unset, .unset, .unset, .unset] [])) := by
      intro q7 hq7
      have J39 : ∀ q9 : Int64, (1 ≤ q9.toInt ∧ q9.toInt ≤ 3600) → own_EndsW p e below s (Q0 p1 p2 p3 p4 p5 aC cC h0 n0 Z) room_1.cells room_1.slots (s₁.setTop (mkF m 39 #[.val (.int p1), .val (.int p2), .val (.int p3), .val (.int p4), .val (.int p5), .val (.long q5), .second, .val (.long q7), .second, .val (.long q9), .second, .unset, .unset, .unset, .unset, .unset, .unset, .unset, .unset, .unset, .unset, .unset, .unset, .unset, .unset] [])) := by
        intro q9 hq9
        have J56 : ∀ q11 : Int64, (q9.toInt ≤ q11.toInt ∧ q11.toInt ≤ 86400) → own_EndsW p e below s (Q0 p1 p2 p3 p4 p5 aC cC h0 n0 Z) room_1.cells room_1.slots (s₁.setTop (mkF m 56 #[.val (.int p1), .val (.int p2), .val (.int p3), .val (.int p4), .val (.int p5), .val (.long q5), .second, .val (.long q7), .second, .val (.long q9), .second, .val (.long q11), .second, .unset, .unset, .unset, .unset, .unset, .unset, .unset, .unset, .unset, .unset, .unset, .unset] [])) := by
          intro q11 hq11
          have J78 : ∀ q13 : Int64, (1 ≤ q13.toInt ∧ q13.toInt ≤ 300) → own_EndsW p e below s (Q0 p1 p2 p3 p4 p5 aC cC h0 n0 Z) room_1.cells room_1.slots (s₁.setTop (mkF m 78 #[.val (.int p1), .val (.int p2), .val (.int p3), .val (.int p4), .val (.int p5), .val (.long q5), .second, .val (.long q7), .second, .val (.long q9), .second, .val (.long q11), .second, .val (.long q13), .second, .unset, .unset, .unset, .unset, .unset, .unset, .unset, .unset, .unset, .unset] [])) := by
            intro q13 hq13
            have J100 : ∀ q15 : Int64, (1 ≤ q15.toInt ∧ q15.toInt ≤ 256) → own_EndsW p e below s (Q0 p1 p2 p3 p4 p5 aC cC h0 n0 Z) room_1.cells room_1.slots (s₁.setTop (mkF m 100 #[.val (.int p1), .val (.int p2), .val (.int p3), .val (.int p4), .val (.int p5), .val (.long q5), .second, .val (.long q7), .second, .val (.long q9), .second, .val (.long q11), .second, .val (.long q13), .second, .val (.long q15), .second, .unset, .unset, .unset, .unset, .unset, .unset, .unset, .unset] [])) := by
              intro q15 hq15
              have J122 : ∀ q17 : Int64, (1 ≤ q17.toInt ∧ q17.toInt ≤ 3600) → own_EndsW p e below s (Q0 p1 p2 p3 p4 p5 aC cC h0 n0 Z) room_1.cells room_1.slots (s₁.setTop (mkF m 122 #[.val (.int p1), .val (.int p2), .val (.int p3), .val (.int p4), .val (.int p5), .val (.long q5), .second, .val (.long q7), .second, .val (.long q9), .second, .val (.long q11), .second, .val (.long q13), .second, .val (.long q15), .second, .val (.long q17), .second, .unset, .unset, .unset, .unset, .unset, .unset] [])) := by
                intro q17 hq17
                have J155 : ∀ w19 : Int64, (1 ≤ w19.toInt ∧ w19.toInt ≤ 86400) → own_EndsW p e below s (Q0 p1 p2 p3 p4 p5 aC cC h0 n0 Z) room_1.cells room_1.slots (s₁.setTop (mkF m 155 #[.val (.int p1), .val (.int p2), .val (.int p3), .val (.int p4), .val (.int p5), .val (.long q5), .second, .val (.long q7), .second, .val (.long q9), .second, .val (.long q11), .second, .val (.long q13), .second, .val (.long q15), .second, .val (.long q17), .second, .val (.long w19), .second, .unset, .unset, .unset, .unset] [])) := by
                  intro w19 hw19
                  refine own_goW (fun _ k => XS.lload X0.here hx rfl (hb hby at_155) rfl <| XS.lload X0.here hx rfl (hb hby at_157) rfl <| k) ?_
                  show own_EndsW p e below s _ _ _ (s₁.setTop (mkF m 159 #[.val (.int p1), .val (.int p2), .val (.int p3), .val (.int p4), .val (.int p5), .val (.long q5), .second, .val (.long q7), .second, .val (.long q9), .second, .val (.long q11), .second, .val (.long q13), .second, .val (.long q15), .second, .val (.long q17), .second, .val (.long w19), .second, .unset, .unset, .unset, .unset] [(.long q17), (.long w19)]))
                  obtain ⟨_, _, ⟨T1, L1, k1, n1⟩, -, X1, ⟨Lc1, hQ1, l1, y1, z1⟩, st1⟩ := Jvm.LawKit.callS X0 hx (y := (⟨"java/lang/Math", "max", "(JJ)J"⟩ : MethodName)) hown (mvT hZ (hw _ (List.mem_of_getElem? (i := 2) rfl))) (mvT hZ (hw _ (List.mem_of_getElem? (i := 3) rfl))) (mvT hZ (hw _ (List.mem_of_getElem? (i := 4) rfl))) (mvT hZ (hw _ (List.mem_of_getElem? (i := 5) rfl))) (by decide) (backOf (W := 0) (rm1 l Z a0 hw [] w19 q17 h0 n0 Z0) hZ (hw _ (List.mem_of_getElem? (i := 5) rfl)) (hw _ (List.mem_of_getElem? (i := 4) rfl)) (by decide) (by decide)) (g := (mkF m 159 #[.val (.int p1), .val (.int p2), .val (.int p3), .val (.int p4), .val (.int p5), .val (.long q5), .second, .val (.long q7), .second, .val (.long q9), .second, .val (.long q11), .second, .val (.long q13), .second, .val (.long q15), .second, .val (.long q17), .second, .val (.long w19), .second, .unset, .unset, .unset, .unset] [(.long q17), (.long w19)])) rfl (by rw [hml]; rfl) (argsL := [(.long w19), (.long q17)]) (rest := []) (lenOf pd_0 rfl) rfl (by show 2 * 0 + _ ≤ _; exact Nat.le_of_eq rfl) (hb hby at_159) (fun _ _ => ⟨rfl, e0, Nat.le_of_ble_eq_true rfl, Nat.le_of_ble_eq_true rfl⟩)
                  dsimp only [Pt.U, Pt.locs, Pt.cells, Pt.slots] at X1 l1 y1 z1 st1 hQ1
                  subst l1 y1 z1
                  obtain ⟨rfl, N1q, e1⟩ := hQ1
                  have N1 := Fr.app N0 N1q
                  refine own_goW (fun _ k => st1 _ k) ?_
                  show own_EndsW p e below s _ _ _ (T1.setTop (mkF m 162 #[.val (.int p1), .val (.int p2), .val (.int p3), .val (.int p4), .val (.int p5), .val (.long q5), .second, .val (.long q7), .second, .val (.long q9), .second, .val (.long q11), .second, .val (.long q13), .second, .val (.long q15), .second, .val (.long q17), .second, .val (.long w19), .second, .unset, .unset, .unset, .unset] [(.long (own_maxL w19 q17))]))
                  refine own_goW (fun _ k => XS.lstore X1.here hx rfl (hb hby at_162) rfl (l' := #[.val (.int p1), .val (.int p2), .val (.int p3), .val (.int p4), .val (.int p5), .val (.long q5), .second, .val (.long q7), .second, .val (.long q9), .second, .val (.long q11), .second, .val (.long q13), .second, .val (.long q15), .second, .val (.long q17), .second, .val (.long (own_maxL w19 q17)), .second, .unset, .unset, .unset, .unset]) rfl <| k) ?_
                  show own_EndsW p e below s _ _ _ (T1.setTop (mkF m 164 #[.val (.int p1), .val (.int p2), .val (.int p3), .val (.int p4), .val (.int p5), .val (.long q5), .second, .val (.long q7), .second, .val (.long q9), .second, .val (.long q11), .second, .val (.long q13), .second, .val (.long q15), .second, .val (.long q17), .second, .val (.long (own_maxL w19 q17)), .second, .unset, .unset, .unset, .unset] []))
                  have hmx := own_mx hw19 hq17
                  obtain ⟨T2, h2, X2, e2, E2, A2, D2, -, st2⟩ := newO X1 hx hZ hown (hw _ (List.mem_of_getElem? (i := 6) rfl)) (hw _ (List.mem_of_getElem? (i := 7) rfl)) (hw _ (List.mem_of_getElem? (i := 8) rfl)) e1 (g := (mkF m 164 #[.val (.int p1), .val (.int p2), .val (.int p3), .val (.int p4), .val (.int p5), .val (.long q5), .second, .val (.long q7), .second, .val (.long q9), .second, .val (.long q11), .second, .val (.long q13), .second, .val (.long q15), .second, .val (.long q17), .second, .val (.long (own_maxL w19 q17)), .second, .unset, .unset, .unset, .unset] [])) rfl (hb hby at_164) (by decide) (by decide)
                  obtain ⟨b2, g2⟩ : ∃ z, z = h0.size := ⟨_, rfl⟩
                  rw [← g2] at A2 D2 st2
                  refine own_goW st2 ?_
                  have g_b2 : n0 ≤ b2 := Nat.le_trans Z0 (Nat.le_of_eq g2.symm)
                  have Z2 := Nat.le_trans Z0 E2.1
                  have O2 := O0.ext E2
                  have hk2 := Nat.le_trans hk0 E2.1
                  have F_timeoutSeconds_b2 : Fld Z h2 b2 "com/example/expiry/expiry/model/Push" "timeoutSeconds" "I" (.int (0 : Int32)) := D2 (Or.inr (hw _ (List.mem_of_getElem? (i := 27) rfl))) (ty := .int) (by decide)
                  have F_concurrency_b2 : Fld Z h2 b2 "com/example/expiry/expiry/model/Push" "concurrency" "I" (.int (0 : Int32)) := D2 (Or.inr (hw _ (List.mem_of_getElem? (i := 30) rfl))) (ty := .int) (by decide)
                  have F_initialSeconds_b2 : Fld Z h2 b2 "com/example/expiry/expiry/model/Push" "initialSeconds" "I" (.int (0 : Int32)) := D2 (Or.inr (hw _ (List.mem_of_getElem? (i := 33) rfl))) (ty := .int) (by decide)
                  have F_maxSeconds_b2 : Fld Z h2 b2 "com/example/expiry/expiry/model/Push" "maxSeconds" "I" (.int (0 : Int32)) := D2 (Or.inr (hw _ (List.mem_of_getElem? (i := 37) rfl))) (ty := .int) (by decide)
                  show own_EndsW p e below s _ _ _ (T2.setTop (mkF m 167 #[.val (.int p1), .val (.int p2), .val (.int p3), .val (.int p4), .val (.int p5), .val (.long q5), .second, .val (.long q7), .second, .val (.long q9), .second, .val (.long q11), .second, .val (.long q13), .second, .val (.long q15), .second, .val (.long q17), .second, .val (.long (own_maxL w19 q17)), .second, .unset, .unset, .unset, .unset] [(.ref b2)]))
                  refine own_goW (fun _ k => XS.dup X2.here hx rfl (hb hby at_167) rfl rfl <| XS.lload X2.here hx rfl (hb hby at_168) rfl <| XS.lload X2.here hx rfl (hb hby at_170) rfl <| XS.lload X2.here hx rfl (hb hby at_172) rfl <| XS.lload X2.here hx rfl (hb hby at_174) rfl <| k) ?_
                  show own_EndsW p e below s _ _ _ (T2.setTop (mkF m 176 #[.val (.int p1), .val (.int p2), .val (.int p3), .val (.int p4), .val (.int p5), .val (.long q5), .second, .val (.long q7), .second, .val (.long q9), .second, .val (.long q11), .second, .val (.long q13), .second, .val (.long q15), .second, .val (.long q17), .second, .val (.long (own_maxL w19 q17)), .second, .unset, .unset, .unset, .unset] [(.long q11), (.long q9), (.long q7), (.long q5), (.ref b2), (.ref b2)]))
                  obtain ⟨_, _, ⟨T3, L3, k3, n3⟩, -, X3, hs3, hge3, ⟨Lc3, hQ3, l3, y3, z3⟩, st3⟩ := X2.specialBackS hx (y := (⟨"com/example/expiry/expiry/model/Push", "<init>", "(JJJJ)V"⟩ : MethodName)) rfl hown (mvT hZ (hw _ (List.mem_of_getElem? (i := 9) rfl))) (mvT hZ (hw _ (List.mem_of_getElem? (i := 10) rfl))) (mvT hZ (hw _ (List.mem_of_getElem? (i := 11) rfl))) (by decide) (backOfS (W := 1) (rm2 l Z a0 hw [] b2 q5 q7 q9 q11  h2 n0 Z2 A2 F_timeoutSeconds_b2 F_concurrency_b2 F_initialSeconds_b2 F_maxSeconds_b2 g_b2 (own_rg 1 300 (by decide) (by decide) hq5) (own_rg 1 256 (by decide) (by decide) hq7) (own_rg 1 3600 (by decide) (by decide) hq9) (own_rg q9.toInt 86400 (own_l2i ⟨hq9.1, Int.le_trans hq9.2 (by decide)⟩) (by decide) hq11)) hZ (hw _ (List.mem_of_getElem? (i := 11) rfl)) (hw _ (List.mem_of_getElem? (i := 8) rfl)) (by decide) (by decide)) (g := (mkF m 176 #[.val (.int p1), .val (.int p2), .val (.int p3), .val (.int p4), .val (.int p5), .val (.long q5), .second, .val (.long q7), .second, .val (.long q9), .second, .val (.long q11), .second, .val (.long q13), .second, .val (.long q15), .second, .val (.long q17), .second, .val (.long (own_maxL w19 q17)), .second, .unset, .unset, .unset, .unset] [(.long q11), (.long q9), (.long q7), (.long q5), (.ref b2), (.ref b2)])) rfl (by rw [hml]; rfl) (Steps.refl _) (a := b2) (argsL := [(.long q5), (.long q7), (.long q9), (.long q11)]) (rest := [(.ref b2)]) (lenOf pd_1 rfl) rfl (by show 2 * 0 + _ ≤ _; exact Nat.le_of_eq rfl) (hb hby at_176) (fun _ _ => ⟨rfl, e2, Nat.le_of_ble_eq_true rfl, Nat.le_of_ble_eq_true rfl⟩)
                  dsimp only [Pt.U, Pt.locs, Pt.cells, Pt.slots] at X3 l3 y3 z3 st3 hQ3 hs3 hge3
                  have hS3 : s.Since T3.vm T3.heap.size := hS0.trans hs3 (Nat.le_trans hk2 (by rw [← e2]; exact hge3))
                  have hZ : Z.Warmed39 (s.setVm T3.vm).vm := State.Warmed39.trans (t := s.setVm s.vm) hZ hs3.1
                  have hown : (s.setVm T3.vm).vm.findClass "com/example/expiry/expiry/model/PushEqualsPinLaw" = some m.cls := by rw [show (s.setVm T3.vm).vm = T3.vm from rfl, hs3.1.alike.findClass]; exact hown
                  have X3 : Stand p l e room_1 (s.setVm T3.vm) m #[(.int p1), (.int p2), (.int p3), (.int p4), (.int p5)] below meth c T3 L3 k3 n3 := X3
                  subst l3 y3 z3
                  obtain ⟨rfl, N3q, K3, Fc03, Fc13, Fc23, Fc33⟩ := hQ3
                  have N3 := Fr.app N1 N3q
                  refine own_goW (fun _ k => st3.trans k) ?_
                  have A2'3 := A2.keep K3
                  have Z3 := Nat.le_trans Z2 K3.1
                  have O3 := O2.keep K3 (allS g_b2 all0)
                  show own_EndsW p e below s _ _ _ (T3.setTop (mkF m 179 #[.val (.int p1), .val (.int p2), .val (.int p3), .val (.int p4), .val (.int p5), .val (.long q5), .second, .val (.long q7), .second, .val (.long q9), .second, .val (.long q11), .second, .val (.long q13), .second, .val (.long q15), .second, .val (.long q17), .second, .val (.long (own_maxL w19 q17)), .second, .unset, .unset, .unset, .unset] [(.ref b2)]))
                  refine own_goW (fun _ k => XS.astore X3.here hx rfl (hb hby at_179) rfl rfl (l' := #[.val (.int p1), .val (.int p2), .val (.int p3), .val (.int p4), .val (.int p5), .val (.long q5), .second, .val (.long q7), .second, .val (.long q9), .second, .val (.long q11), .second, .val (.long q13), .second, .val (.long q15), .second, .val (.long q17), .second, .val (.long (own_maxL w19 q17)), .second, .val (.ref b2), .unset, .unset, .unset]) rfl <| k) ?_
                  show own_EndsW p e below s _ _ _ (T3.setTop (mkF m 181 #[.val (.int p1), .val (.int p2), .val (.int p3), .val (.int p4), .val (.int p5), .val (.long q5), .second, .val (.long q7), .second, .val (.long q9), .second, .val (.long q11), .second, .val (.long q13), .second, .val (.long q15), .second, .val (.long q17), .second, .val (.long (own_maxL w19 q17)), .second, .val (.ref b2), .unset, .unset, .unset] []))
                  obtain ⟨T4, h4, X4, e4, E4, A4, D4, -, st4⟩ := newO X3 hx hZ hown (hw _ (List.mem_of_getElem? (i := 6) rfl)) (hw _ (List.mem_of_getElem? (i := 7) rfl)) (hw _ (List.mem_of_getElem? (i := 8) rfl)) rfl (g := (mkF m 181 #[.val (.int p1), .val (.int p2), .val (.int p3), .val (.int p4), .val (.int p5), .val (.long q5), .second, .val (.long q7), .second, .val (.long q9), .second, .val (.long q11), .second, .val (.long q13), .second, .val (.long q15), .second, .val (.long q17), .second, .val (.long (own_maxL w19 q17)), .second, .val (.ref b2), .unset, .unset, .unset] [])) rfl (hb hby at_181) (by decide) (by decide)
                  obtain ⟨b4, g4⟩ : ∃ z, z = T3.heap.size := ⟨_, rfl⟩
                  rw [← g4] at A4 D4 st4
                  refine own_goW st4 ?_
                  have ne_b2_b4 : b2 ≠ b4 := Nat.ne_of_lt (Nat.lt_of_lt_of_le A2'3.lt (Nat.le_of_eq g4.symm))
                  have g_b4 : n0 ≤ b4 := Nat.le_trans Z3 (Nat.le_of_eq g4.symm)
                  have A2'4 := A2'3.ext E4
                  have Fc03'4 := Fc03.ext E4
                  have Fc13'4 := Fc13.ext E4
                  have Fc23'4 := Fc23.ext E4
                  have Fc33'4 := Fc33.ext E4
                  have Z4 := Nat.le_trans Z3 E4.1
                  have O4 := O3.ext E4
                  have hk4 := Nat.le_trans (Nat.le_refl _) E4.1
                  have F_timeoutSeconds_b4 : Fld Z h4 b4 "com/example/expiry/expiry/model/Push" "timeoutSeconds" "I" (.int (0 : Int32)) := D4 (Or.inr (hw _ (List.mem_of_getElem? (i := 27) rfl))) (ty := .int) (by decide)
                  have F_concurrency_b4 : Fld Z h4 b4 "com/example/expiry/expiry/model/Push" "concurrency" "I" (.int (0 : Int32)) := D4 (Or.inr (hw _ (List.mem_of_getElem? (i := 30) rfl))) (ty := .int) (by decide)
                  have F_initialSeconds_b4 : Fld Z h4 b4 "com/example/expiry/expiry/model/Push" "initialSeconds" "I" (.int (0 : Int32)) := D4 (Or.inr (hw _ (List.mem_of_getElem? (i := 33) rfl))) (ty := .int) (by decide)
                  have F_maxSeconds_b4 : Fld Z h4 b4 "com/example/expiry/expiry/model/Push" "maxSeconds" "I" (.int (0 : Int32)) := D4 (Or.inr (hw _ (List.mem_of_getElem? (i := 37) rfl))) (ty := .int) (by decide)
                  show own_EndsW p e below s _ _ _ (T4.setTop (mkF m 184 #[.val (.int p1), .val (.int p2), .val (.int p3), .val (.int p4), .val (.int p5), .val (.long q5), .second, .val (.long q7), .second, .val (.long q9), .second, .val (.long q11), .second, .val (.long q13), .second, .val (.long q15), .second, .val (.long q17), .second, .val (.long (own_maxL w19 q17)), .second, .val (.ref b2), .unset, .unset, .unset] [(.ref b4)]))
                  refine own_goW (fun _ k => XS.dup X4.here hx rfl (hb hby at_184) rfl rfl <| XS.lload X4.here hx rfl (hb hby at_185) rfl <| XS.lload X4.here hx rfl (hb hby at_187) rfl <| XS.lload X4.here hx rfl (hb hby at_189) rfl <| XS.lload X4.here hx rfl (hb hby at_191) rfl <| k) ?_
                  show own_EndsW p e below s _ _ _ (T4.setTop (mkF m 193 #[.val (.int p1), .val (.int p2), .val (.int p3), .val (.int p4), .val (.int p5), .val (.long q5), .second, .val (.long q7), .second, .val (.long q9), .second, .val (.long q11), .second, .val (.long q13), .second, .val (.long q15), .second, .val (.long q17), .second, .val (.long (own_maxL w19 q17)), .second, .val (.ref b2), .unset, .unset, .unset] [(.long (own_maxL w19 q17)), (.long q17), (.long q15), (.long q13), (.ref b4), (.ref b4)]))
                  obtain ⟨_, _, ⟨T5, L5, k5, n5⟩, -, X5, hs5, hge5, ⟨Lc5, hQ5, l5, y5, z5⟩, st5⟩ := X4.specialBackS hx (y := (⟨"com/example/expiry/expiry/model/Push", "<init>", "(JJJJ)V"⟩ : MethodName)) rfl hown (mvT hZ (hw _ (List.mem_of_getElem? (i := 9) rfl))) (mvT hZ (hw _ (List.mem_of_getElem? (i := 10) rfl))) (mvT hZ (hw _ (List.mem_of_getElem? (i := 11) rfl))) (by decide) (backOfS (W := 1) (rm2 l Z a0 hw [] b4 q13 q15 q17 (own_maxL w19 q17)  h4 n0 Z4 A4 F_timeoutSeconds_b4 F_concurrency_b4 F_initialSeconds_b4 F_maxSeconds_b4 g_b4 (own_rg 1 300 (by decide) (by decide) hq13) (own_rg 1 256 (by decide) (by decide) hq15) (own_rg 1 3600 (by decide) (by decide) hq17) (own_rg q17.toInt 86400 (own_l2i ⟨hq17.1, Int.le_trans hq17.2 (by decide)⟩) (by decide) hmx)) hZ (hw _ (List.mem_of_getElem? (i := 11) rfl)) (hw _ (List.mem_of_getElem? (i := 8) rfl)) (by decide) (by decide)) (g := (mkF m 193 #[.val (.int p1), .val (.int p2), .val (.int p3), .val (.int p4), .val (.int p5), .val (.long q5), .second, .val (.long q7), .second, .val (.long q9), .second, .val (.long q11), .second, .val (.long q13), .second, .val (.long q15), .second, .val (.long q17), .second, .val (.long (own_maxL w19 q17)), .second, .val (.ref b2), .unset, .unset, .unset] [(.long (own_maxL w19 q17)), (.long q17), (.long q15), (.long q13), (.ref b4), (.ref b4)])) rfl (by rw [hml]; rfl) (Steps.refl _) (a := b4) (argsL := [(.long q13), (.long q15), (.long q17), (.long (own_maxL w19 q17))]) (rest := [(.ref b4)]) (lenOf pd_1 rfl) rfl (by show 2 * 0 + _ ≤ _; exact Nat.le_of_eq rfl) (hb hby at_193) (fun _ _ => ⟨rfl, e4, Nat.le_of_ble_eq_true rfl, Nat.le_of_ble_eq_true rfl⟩)
                  dsimp only [Pt.U, Pt.locs, Pt.cells, Pt.slots] at X5 l5 y5 z5 st5 hQ5 hs5 hge5
                  have hS5 : s.Since T5.vm T5.heap.size := hS3.trans hs5 (Nat.le_trans hk4 (by rw [← e4]; exact hge5))
                  have hZ : Z.Warmed39 (s.setVm T5.vm).vm := State.Warmed39.trans (t := s.setVm T3.vm) hZ hs5.1
                  have hown : (s.setVm T5.vm).vm.findClass "com/example/expiry/expiry/model/PushEqualsPinLaw" = some m.cls := by rw [show (s.setVm T5.vm).vm = T5.vm from rfl, hs5.1.alike.findClass]; exact hown
                  have X5 : Stand p l e room_1 (s.setVm T5.vm) m #[(.int p1), (.int p2), (.int p3), (.int p4), (.int p5)] below meth c T5 L5 k5 n5 := X5
                  subst l5 y5 z5
                  obtain ⟨rfl, N5q, K5, Fc05, Fc15, Fc25, Fc35⟩ := hQ5
                  have N5 := Fr.app N3 N5q
                  refine own_goW (fun _ k => st5.trans k) ?_
                  have A2'5 := A2'4.keep K5
                  have Fc03'5 := Fc03'4.keep K5 (ninS ne_b2_b4 nin0)
                  have Fc13'5 := Fc13'4.keep K5 (ninS ne_b2_b4 nin0)
                  have Fc23'5 := Fc23'4.keep K5 (ninS ne_b2_b4 nin0)
                  have Fc33'5 := Fc33'4.keep K5 (ninS ne_b2_b4 nin0)
                  have A4'5 := A4.keep K5
                  have Z5 := Nat.le_trans Z4 K5.1
                  have O5 := O4.keep K5 (allS g_b4 all0)
                  show own_EndsW p e below s _ _ _ (T5.setTop (mkF m 196 #[.val (.int p1), .val (.int p2), .val (.int p3), .val (.int p4), .val (.int p5), .val (.long q5), .second, .val (.long q7), .second, .val (.long q9), .second, .val (.long q11), .second, .val (.long q13), .second, .val (.long q15), .second, .val (.long q17), .second, .val (.long (own_maxL w19 q17)), .second, .val (.ref b2), .unset, .unset, .unset] [(.ref b4)]))
                  refine own_goW (fun _ k => XS.astore X5.here hx rfl (hb hby at_196) rfl rfl (l' := #[.val (.int p1), .val (.int p2), .val (.int p3), .val (.int p4), .val (.int p5), .val (.long q5), .second, .val (.long q7), .second, .val (.long q9), .second, .val (.long q11), .second, .val (.long q13), .second, .val (.long q15), .second, .val (.long q17), .second, .val (.long (own_maxL w19 q17)), .second, .val (.ref b2), .val (.ref b4), .unset, .unset]) rfl <| XS.iload X5.here hx rfl (hb hby at_198) rfl <| XT.iconstV X5.here hx rfl (4 : Int32) (hb hby at_200) rfl <| XS.iushr X5.here hx rfl (hb hby at_201) rfl <| XT.iconstV X5.here hx rfl (3 : Int32) (hb hby at_202) rfl <| XS.iand X5.here hx rfl (hb hby at_203) rfl <| XS.istore X5.here hx rfl (hb hby at_204) rfl (l' := #[.val (.int p1), .val (.int p2), .val (.int p3), .val (.int p4), .val (.int p5), .val (.long q5), .second, .val (.long q7), .second, .val (.long q9), .second, .val (.long q11), .second, .val (.long q13), .second, .val (.long q15), .second, .val (.long q17), .second, .val (.long (own_maxL w19 q17)), .second, .val (.ref b2), .val (.ref b4), .val (.int (((p5.toUInt32 >>> ((4 : Int32) &&& 31).toUInt32).toInt32) &&& (3 : Int32))), .unset]) rfl <| XS.iload X5.here hx rfl (hb hby at_206) rfl <| XT.iconstV X5.here hx rfl (1 : Int32) (hb hby at_208) rfl <| k) ?_
                  show own_EndsW p e below s _ _ _ (T5.setTop (mkF m 209 #[.val (.int p1), .val (.int p2), .val (.int p3), .val (.int p4), .val (.int p5), .val (.long q5), .second, .val (.long q7), .second, .val (.long q9), .second, .val (.long q11), .second, .val (.long q13), .second, .val (.long q15), .second, .val (.long q17), .second, .val (.long (own_maxL w19 q17)), .second, .val (.ref b2), .val (.ref b4), .val (.int (((p5.toUInt32 >>> ((4 : Int32) &&& 31).toUInt32).toInt32) &&& (3 : Int32))), .unset] [(.int (1 : Int32)), (.int (((p5.toUInt32 >>> ((4 : Int32) &&& 31).toUInt32).toInt32) &&& (3 : Int32)))]))
                  by_cases hc209_6 : (((p5.toUInt32 >>> ((4 : Int32) &&& 31).toUInt32).toInt32) &&& (3 : Int32)) = (1 : Int32)
                  · -- true
                    refine own_goW (fun _ k => XS.icmpNo X5.here hx rfl (hb hby at_209) rfl (teq hc209_6).2 <| XS.aload X5.here hx rfl (hb hby at_212) rfl rfl <| XS.aconstNull X5.here hx rfl (hb hby at_214) <| k) ?_
                    show own_EndsW p e below s _ _ _ (T5.setTop (mkF m 215 #[.val (.int p1), .val (.int p2), .val (.int p3), .val (.int p4), .val (.int p5), .val (.long q5), .second, .val (.long q7), .second, .val (.long q9), .second, .val (.long q11), .second, .val (.long q13), .second, .val (.long q15), .second, .val (.long q17), .second, .val (.long (own_maxL w19 q17)), .second, .val (.ref b2), .val (.ref b4), .val (.int (((p5.toUInt32 >>> ((4 : Int32) &&& 31).toUInt32).toInt32) &&& (3 : Int32))), .unset] [.null, (.ref b2)]))
                    obtain ⟨cq7, kq7, q7a, q7b, q7c⟩ := isOf hZ rfl A2'5
                    obtain ⟨_, _, ⟨T7, L7, k7, n7⟩, -, X7, ⟨Lc7, hQ7, l7, y7, z7⟩, st7⟩ := X5.virtualBack hx (y := (⟨"com/example/expiry/expiry/model/Push", "equals", "(Ljava/lang/Object;)Z"⟩ : MethodName)) (z := (⟨"com/example/expiry/expiry/model/Push", "equals", "(Ljava/lang/Object;)Z"⟩ : MethodName)) hown (mvT hZ (hw _ (List.mem_of_getElem? (i := 38) rfl))) (mvT hZ (hw _ (List.mem_of_getElem? (i := 39) rfl))) (notFace_of_selects (args := #[]) (mvT hZ (hw _ (List.mem_of_getElem? (i := 41) rfl)))) (mvT hZ (hw _ (List.mem_of_getElem? (i := 41) rfl))) (mvT hZ (hw _ (List.mem_of_getElem? (i := 40) rfl))) (by decide) (backOf (W := 0) (rmEN l Z a0 hw [] b2 T5.heap n0 Z5) hZ (hw _ (List.mem_of_getElem? (i := 42) rfl)) (hw _ (List.mem_of_getElem? (i := 8) rfl)) (by decide) (by decide)) q7a q7c (g := (mkF m 215 #[.val (.int p1), .val (.int p2), .val (.int p3), .val (.int p4), .val (.int p5), .val (.long q5), .second, .val (.long q7), .second, .val (.long q9), .second, .val (.long q11), .second, .val (.long q13), .second, .val (.long q15), .second, .val (.long q17), .second, .val (.long (own_maxL w19 q17)), .second, .val (.ref b2), .val (.ref b4), .val (.int (((p5.toUInt32 >>> ((4 : Int32) &&& 31).toUInt32).toInt32) &&& (3 : Int32))), .unset] [.null, (.ref b2)])) rfl (by rw [hml]; rfl) (Steps.refl _) (argsL := [.null]) (rest := []) (lenOf pd_4 rfl) rfl (by show 2 * 0 + _ ≤ _; exact Nat.le_of_eq rfl) (hb hby at_215) (fun _ _ => ⟨rfl, rfl, Nat.le_of_ble_eq_true rfl, Nat.le_of_ble_eq_true rfl⟩)
                    dsimp only [Pt.U, Pt.locs, Pt.cells, Pt.slots] at X7 l7 y7 z7 st7 hQ7
                    subst l7 y7 z7
                    obtain ⟨rfl, N7q, e7⟩ := hQ7
                    have N7 := Fr.app N5 N7q
                    refine own_goW (fun _ k => st7.trans k) ?_
                    show own_EndsW p e below s _ _ _ (T7.setTop (mkF m 218 #[.val (.int p1), .val (.int p2), .val (.int p3), .val (.int p4), .val (.int p5), .val (.long q5), .second, .val (.long q7), .second, .val (.long q9), .second, .val (.long q11), .second, .val (.long q13), .second, .val (.long q15), .second, .val (.long q17), .second, .val (.long (own_maxL w19 q17)), .second, .val (.ref b2), .val (.ref b4), .val (.int (((p5.toUInt32 >>> ((4 : Int32) &&& 31).toUInt32).toInt32) &&& (3 : Int32))), .unset] [(.int (0 : Int32))]))
                    refine own_goW (fun _ k => XS.ifNo X7.here hx rfl (hb hby at_218) rfl ((if0 _ _).trans (teq (by decide)).2) <| XT.iconstV X7.here hx rfl (1 : Int32) (hb hby at_221) rfl <| XS.goto X7.here hx rfl (pc0 := 222) (pc' := 226) rfl (hb hby at_222) (by decide) (by decide) <| k) ?_
                    show own_EndsW p e below s _ _ _ (T7.setTop (mkF m 226 #[.val (.int p1), .val (.int p2), .val (.int p3), .val (.int p4), .val (.int p5), .val (.long q5), .second, .val (.long q7), .second, .val (.long q9), .second, .val (.long q11), .second, .val (.long q13), .second, .val (.long q15), .second, .val (.long q17), .second, .val (.long (own_maxL w19 q17)), .second, .val (.ref b2), .val (.ref b4), .val (.int (((p5.toUInt32 >>> ((4 : Int32) &&& 31).toUInt32).toInt32) &&& (3 : Int32))), .unset] [(.int (1 : Int32))]))
                    exact own_retNW X7 hx (t := .boolean) hrt (by simp) hS5 (by first | exact (Nat.le_refl _) | (rw [e7]; exact (Nat.le_refl _))) (hb hby at_226) hlk (show nar .boolean (1 : Int32) = (1 : Int32) from by decide) (by rw [e7]; exact ⟨rfl, N7⟩) (by decide) (by decide)
                  · -- false
                    refine own_goW (fun _ k => XS.icmpYes X5.here hx rfl (pc0 := 209) (pc' := 227) rfl (hb hby at_209) rfl (feq hc209_6).2 (by decide) (by decide) <| XS.iload X5.here hx rfl (hb hby at_227) rfl <| XT.iconstV X5.here hx rfl (2 : Int32) (hb hby at_229) rfl <| k) ?_
                    show own_EndsW p e below s _ _ _ (T5.setTop (mkF m 230 #[.val (.int p1), .val (.int p2), .val (.int p3), .val (.int p4), .val (.int p5), .val (.long q5), .second, .val (.long q7), .second, .val (.long q9), .second, .val (.long q11), .second, .val (.long q13), .second, .val (.long q15), .second, .val (.long q17), .second, .val (.long (own_maxL w19 q17)), .second, .val (.ref b2), .val (.ref b4), .val (.int (((p5.toUInt32 >>> ((4 : Int32) &&& 31).toUInt32).toInt32) &&& (3 : Int32))), .unset] [(.int (2 : Int32)), (.int (((p5.toUInt32 >>> ((4 : Int32) &&& 31).toUInt32).toInt32) &&& (3 : Int32)))]))
                    by_cases hc230_8 : (((p5.toUInt32 >>> ((4 : Int32) &&& 31).toUInt32).toInt32) &&& (3 : Int32)) = (2 : Int32)
                    · -- true
                      refine own_goW (fun _ k => XS.icmpNo X5.here hx rfl (hb hby at_230) rfl (teq hc230_8).2 <| XS.iloadN X5.here hx rfl (hb hby at_233) rfl <| k) ?_
                      show own_EndsW p e below s _ _ _ (T5.setTop (mkF m 234 #[.val (.int p1), .val (.int p2), .val (.int p3), .val (.int p4), .val (.int p5), .val (.long q5), .second, .val (.long q7), .second, .val (.long q9), .second, .val (.long q11), .second, .val (.long q13), .second, .val (.long q15), .second, .val (.long q17), .second, .val (.long (own_maxL w19 q17)), .second, .val (.ref b2), .val (.ref b4), .val (.int (((p5.toUInt32 >>> ((4 : Int32) &&& 31).toUInt32).toInt32) &&& (3 : Int32))), .unset] [(.int p1)]))
                      obtain ⟨_, _, ⟨T9, L9, k9, n9⟩, -, X9, ⟨Lc9, hQ9, l9, y9, z9⟩, st9⟩ := Jvm.LawKit.callS X5 hx (y := (⟨"java/lang/Integer", "valueOf", "(I)Ljava/lang/Integer;"⟩ : MethodName)) hown (mvT hZ (hw _ (List.mem_of_getElem? (i := 49) rfl))) (mvT hZ (hw _ (List.mem_of_getElem? (i := 50) rfl))) (mvT hZ (hw _ (List.mem_of_getElem? (i := 51) rfl))) (mvT hZ (hw _ (List.mem_of_getElem? (i := 52) rfl))) (by decide) (backOf (W := 0) (rm6 l Z a0 hw [] p1 aC cC T5.heap n0 Z5 O5 SH SC BX) hZ (hw _ (List.mem_of_getElem? (i := 52) rfl)) (hw _ (List.mem_of_getElem? (i := 51) rfl)) (by decide) (by decide)) (g := (mkF m 234 #[.val (.int p1), .val (.int p2), .val (.int p3), .val (.int p4), .val (.int p5), .val (.long q5), .second, .val (.long q7), .second, .val (.long q9), .second, .val (.long q11), .second, .val (.long q13), .second, .val (.long q15), .second, .val (.long q17), .second, .val (.long (own_maxL w19 q17)), .second, .val (.ref b2), .val (.ref b4), .val (.int (((p5.toUInt32 >>> ((4 : Int32) &&& 31).toUInt32).toInt32) &&& (3 : Int32))), .unset] [(.int p1)])) rfl (by rw [hml]; rfl) (argsL := [(.int p1)]) (rest := []) (lenOf pd_5 rfl) rfl (by show 2 * 0 + _ ≤ _; exact Nat.le_of_eq rfl) (hb hby at_234) (fun _ _ => ⟨rfl, rfl, Nat.le_of_ble_eq_true rfl, Nat.le_of_ble_eq_true rfl⟩)
                      dsimp only [Pt.U, Pt.locs, Pt.cells, Pt.slots] at X9 l9 y9 z9 st9 hQ9
                      subst l9 y9 z9
                      obtain ⟨bq, rfl, N9q, K9, Eb9⟩ := hQ9
                      have N9 := Fr.app N5 N9q
                      refine own_goW (fun _ k => st9 _ k) ?_
                      have A2'9 := A2'5.keep K9
                      have Fc03'9 := Fc03'5.keep K9 nin0
                      have Fc13'9 := Fc13'5.keep K9 nin0
                      have Fc23'9 := Fc23'5.keep K9 nin0
                      have Fc33'9 := Fc33'5.keep K9 nin0
                      have A4'9 := A4'5.keep K9
                      have Fc05'9 := Fc05.keep K9 nin0
                      have Fc15'9 := Fc15.keep K9 nin0
                      have Fc25'9 := Fc25.keep K9 nin0
                      have Fc35'9 := Fc35.keep K9 nin0
                      have Z9 := Nat.le_trans Z5 K9.1
                      have O9 := O5.keep K9 all0
                      have hk9 := Nat.le_trans (Nat.le_refl _) K9.1
                      show own_EndsW p e below s _ _ _ (T9.setTop (mkF m 237 #[.val (.int p1), .val (.int p2), .val (.int p3), .val (.int p4), .val (.int p5), .val (.long q5), .second, .val (.long q7), .second, .val (.long q9), .second, .val (.long q11), .second, .val (.long q13), .second, .val (.long q15), .second, .val (.long q17), .second, .val (.long (own_maxL w19 q17)), .second, .val (.ref b2), .val (.ref b4), .val (.int (((p5.toUInt32 >>> ((4 : Int32) &&& 31).toUInt32).toInt32) &&& (3 : Int32))), .unset] [(.ref bq)]))
                      refine own_goW (fun _ k => XS.astore X9.here hx rfl (hb hby at_237) rfl rfl (l' := #[.val (.int p1), .val (.int p2), .val (.int p3), .val (.int p4), .val (.int p5), .val (.long q5), .second, .val (.long q7), .second, .val (.long q9), .second, .val (.long q11), .second, .val (.long q13), .second, .val (.long q15), .second, .val (.long q17), .second, .val (.long (own_maxL w19 q17)), .second, .val (.ref b2), .val (.ref b4), .val (.int (((p5.toUInt32 >>> ((4 : Int32) &&& 31).toUInt32).toInt32) &&& (3 : Int32))), .val (.ref bq)]) rfl <| XS.aload X9.here hx rfl (hb hby at_239) rfl rfl <| XS.aload X9.here hx rfl (hb hby at_241) rfl rfl <| k) ?_
                      show own_EndsW p e below s _ _ _ (T9.setTop (mkF m 243 #[.val (.int p1), .val (.int p2), .val (.int p3), .val (.int p4), .val (.int p5), .val (.long q5), .second, .val (.long q7), .second, .val (.long q9), .second, .val (.long q11), .second, .val (.long q13), .second, .val (.long q15), .second, .val (.long q17), .second, .val (.long (own_maxL w19 q17)), .second, .val (.ref b2), .val (.ref b4), .val (.int (((p5.toUInt32 >>> ((4 : Int32) &&& 31).toUInt32).toInt32) &&& (3 : Int32))), .val (.ref bq)] [(.ref bq), (.ref b2)]))
                      obtain ⟨cq10, kq10, q10a, q10b, q10c⟩ := isOf hZ rfl A2'9
                      obtain ⟨_, _, ⟨T10, L10, k10, n10⟩, -, X10, ⟨Lc10, hQ10, l10, y10, z10⟩, st10⟩ := X9.virtualBack hx (y := (⟨"com/example/expiry/expiry/model/Push", "equals", "(Ljava/lang/Object;)Z"⟩ : MethodName)) (z := (⟨"com/example/expiry/expiry/model/Push", "equals", "(Ljava/lang/Object;)Z"⟩ : MethodName)) hown (mvT hZ (hw _ (List.mem_of_getElem? (i := 38) rfl))) (mvT hZ (hw _ (List.mem_of_getElem? (i := 39) rfl))) (notFace_of_selects (args := #[]) (mvT hZ (hw _ (List.mem_of_getElem? (i := 41) rfl)))) (mvT hZ (hw _ (List.mem_of_getElem? (i := 41) rfl))) (mvT hZ (hw _ (List.mem_of_getElem? (i := 40) rfl))) (by decide) (backOf (W := 0) (rmEI l Z a0 hw [] b2 bq T9.heap n0 Z9 Eb9) hZ (hw _ (List.mem_of_getElem? (i := 42) rfl)) (hw _ (List.mem_of_getElem? (i := 8) rfl)) (by decide) (by decide)) q10a q10c (g := (mkF m 243 #[.val (.int p1), .val (.int p2), .val (.int p3), .val (.int p4), .val (.int p5), .val (.long q5), .second, .val (.long q7), .second, .val (.long q9), .second, .val (.long q11), .second, .val (.long q13), .second, .val (.long q15), .second, .val (.long q17), .second, .val (.long (own_maxL w19 q17)), .second, .val (.ref b2), .val (.ref b4), .val (.int (((p5.toUInt32 >>> ((4 : Int32) &&& 31).toUInt32).toInt32) &&& (3 : Int32))), .val (.ref bq)] [(.ref bq), (.ref b2)])) rfl (by rw [hml]; rfl) (Steps.refl _) (argsL := [(.ref bq)]) (rest := []) (lenOf pd_4 rfl) rfl (by show 2 * 0 + _ ≤ _; exact Nat.le_of_eq rfl) (hb hby at_243) (fun _ _ => ⟨rfl, rfl, Nat.le_of_ble_eq_true rfl, Nat.le_of_ble_eq_true rfl⟩)
                      dsimp only [Pt.U, Pt.locs, Pt.cells, Pt.slots] at X10 l10 y10 z10 st10 hQ10
                      subst l10 y10 z10
                      obtain ⟨rfl, N10q, e10⟩ := hQ10
                      have N10 := Fr.app N9 N10q
                      refine own_goW (fun _ k => st10.trans k) ?_
                      show own_EndsW p e below s _ _ _ (T10.setTop (mkF m 246 #[.val (.int p1), .val (.int p2), .val (.int p3), .val (.int p4), .val (.int p5), .val (.long q5), .second, .val (.long q7), .second, .val (.long q9), .second, .val (.long q11), .second, .val (.long q13), .second, .val (.long q15), .second, .val (.long q17), .second, .val (.long (own_maxL w19 q17)), .second, .val (.ref b2), .val (.ref b4), .val (.int (((p5.toUInt32 >>> ((4 : Int32) &&& 31).toUInt32).toInt32) &&& (3 : Int32))), .val (.ref bq)] [(.int (0 : Int32))]))
                      refine own_goW (fun _ k => XS.ifNo X10.here hx rfl (hb hby at_246) rfl ((if0 _ _).trans (teq (by decide)).2) <| XT.iconstV X10.here hx rfl (1 : Int32) (hb hby at_249) rfl <| XS.goto X10.here hx rfl (pc0 := 250) (pc' := 254) rfl (hb hby at_250) (by decide) (by decide) <| k) ?_
                      show own_EndsW p e below s _ _ _ (T10.setTop (mkF m 254 #[.val (.int p1), .val (.int p2), .val (.int p3), .val (.int p4), .val (.int p5), .val (.long q5), .second, .val (.long q7), .second, .val (.long q9), .second, .val (.long q11), .second, .val (.long q13), .second, .val (.long q15), .second, .val (.long q17), .second, .val (.long (own_maxL w19 q17)), .second, .val (.ref b2), .val (.ref b4), .val (.int (((p5.toUInt32 >>> ((4 : Int32) &&& 31).toUInt32).toInt32) &&& (3 : Int32))), .val (.ref bq)] [(.int (1 : Int32))]))
                      exact own_retNW X10 hx (t := .boolean) hrt (by simp) hS5 (by first | exact hk9 | (rw [e10]; exact hk9)) (hb hby at_254) hlk (show nar .boolean (1 : Int32) = (1 : Int32) from by decide) (by rw [e10]; exact ⟨rfl, N10⟩) (by decide) (by decide)
                    · -- false
                      refine own_goW (fun _ k => XS.icmpYes X5.here hx rfl (pc0 := 230) (pc' := 255) rfl (hb hby at_230) rfl (feq hc230_8).2 (by decide) (by decide) <| XS.iload X5.here hx rfl (hb hby at_255) rfl <| XT.iconstV X5.here hx rfl (3 : Int32) (hb hby at_257) rfl <| k) ?_
                      show own_EndsW p e below s _ _ _ (T5.setTop (mkF m 258 #[.val (.int p1), .val (.int p2), .val (.int p3), .val (.int p4), .val (.int p5), .val (.long q5), .second, .val (.long q7), .second, .val (.long q9), .second, .val (.long q11), .second, .val (.long q13), .second, .val (.long q15), .second, .val (.long q17), .second, .val (.long (own_maxL w19 q17)), .second, .val (.ref b2), .val (.ref b4), .val (.int (((p5.toUInt32 >>> ((4 : Int32) &&& 31).toUInt32).toInt32) &&& (3 : Int32))), .unset] [(.int (3 : Int32)), (.int (((p5.toUInt32 >>> ((4 : Int32) &&& 31).toUInt32).toInt32) &&& (3 : Int32)))]))
                      by_cases hc258_11 : (((p5.toUInt32 >>> ((4 : Int32) &&& 31).toUInt32).toInt32) &&& (3 : Int32)) = (3 : Int32)
                      · -- true
                        refine own_goW (fun _ k => XS.icmpNo X5.here hx rfl (hb hby at_258) rfl (teq hc258_11).2 <| XS.aload X5.here hx rfl (hb hby at_261) rfl rfl <| XS.aload X5.here hx rfl (hb hby at_263) rfl rfl <| k) ?_
                        show own_EndsW p e below s _ _ _ (T5.setTop (mkF m 265 #[.val (.int p1), .val (.int p2), .val (.int p3), .val (.int p4), .val (.int p5), .val (.long q5), .second, .val (.long q7), .second, .val (.long q9), .second, .val (.long q11), .second, .val (.long q13), .second, .val (.long q15), .second, .val (.long q17), .second, .val (.long (own_maxL w19 q17)), .second, .val (.ref b2), .val (.ref b4), .val (.int (((p5.toUInt32 >>> ((4 : Int32) &&& 31).toUInt32).toInt32) &&& (3 : Int32))), .unset] [(.ref b2), (.ref b2)]))
                        obtain ⟨cq12, kq12, q12a, q12b, q12c⟩ := isOf hZ rfl A2'5
                        obtain ⟨_, _, ⟨T12, L12, k12, n12⟩, -, X12, ⟨Lc12, hQ12, l12, y12, z12⟩, st12⟩ := X5.virtualBack hx (y := (⟨"com/example/expiry/expiry/model/Push", "equals", "(Ljava/lang/Object;)Z"⟩ : MethodName)) (z := (⟨"com/example/expiry/expiry/model/Push", "equals", "(Ljava/lang/Object;)Z"⟩ : MethodName)) hown (mvT hZ (hw _ (List.mem_of_getElem? (i := 38) rfl))) (mvT hZ (hw _ (List.mem_of_getElem? (i := 39) rfl))) (notFace_of_selects (args := #[]) (mvT hZ (hw _ (List.mem_of_getElem? (i := 41) rfl)))) (mvT hZ (hw _ (List.mem_of_getElem? (i := 41) rfl))) (mvT hZ (hw _ (List.mem_of_getElem? (i := 40) rfl))) (by decide) (backOf (W := 0) (rmEP l Z a0 hw [] b2 b2 (q5.toInt32) (q7.toInt32) (q9.toInt32) (q11.toInt32) (q5.toInt32) (q7.toInt32) (q9.toInt32) (q11.toInt32) T5.heap n0 Z5 A2'5 Fc03'5 Fc13'5 Fc23'5 Fc33'5 Fc03'5 Fc13'5 Fc23'5 Fc33'5) hZ (hw _ (List.mem_of_getElem? (i := 42) rfl)) (hw _ (List.mem_of_getElem? (i := 8) rfl)) (by decide) (by decide)) q12a q12c (g := (mkF m 265 #[.val (.int p1), .val (.int p2), .val (.int p3), .val (.int p4), .val (.int p5), .val (.long q5), .second, .val (.long q7), .second, .val (.long q9), .second, .val (.long q11), .second, .val (.long q13), .second, .val (.long q15), .second, .val (.long q17), .second, .val (.long (own_maxL w19 q17)), .second, .val (.ref b2), .val (.ref b4), .val (.int (((p5.toUInt32 >>> ((4 : Int32) &&& 31).toUInt32).toInt32) &&& (3 : Int32))), .unset] [(.ref b2), (.ref b2)])) rfl (by rw [hml]; rfl) (Steps.refl _) (argsL := [(.ref b2)]) (rest := []) (lenOf pd_4 rfl) rfl (by show 2 * 0 + _ ≤ _; exact Nat.le_of_eq rfl) (hb hby at_265) (fun _ _ => ⟨rfl, rfl, Nat.le_of_ble_eq_true rfl, Nat.le_of_ble_eq_true rfl⟩)
                        dsimp only [Pt.U, Pt.locs, Pt.cells, Pt.slots] at X12 l12 y12 z12 st12 hQ12
                        subst l12 y12 z12
                        obtain ⟨rfl, N12q, e12⟩ := hQ12
                        have N12 := Fr.app N5 N12q
                        refine own_goW (fun _ k => st12.trans k) ?_
                        show own_EndsW p e below s _ _ _ (T12.setTop (mkF m 268 #[.val (.int p1), .val (.int p2), .val (.int p3), .val (.int p4), .val (.int p5), .val (.long q5), .second, .val (.long q7), .second, .val (.long q9), .second, .val (.long q11), .second, .val (.long q13), .second, .val (.long q15), .second, .val (.long q17), .second, .val (.long (own_maxL w19 q17)), .second, .val (.ref b2), .val (.ref b4), .val (.int (((p5.toUInt32 >>> ((4 : Int32) &&& 31).toUInt32).toInt32) &&& (3 : Int32))), .unset] [(.int (own_eq (q5.toInt32) (q7.toInt32) (q9.toInt32) (q11.toInt32) (q5.toInt32) (q7.toInt32) (q9.toInt32) (q11.toInt32)))]))
                        exact own_retNW X12 hx (t := .boolean) hrt (by simp) hS5 (by first | exact (Nat.le_refl _) | (rw [e12]; exact (Nat.le_refl _))) (hb hby at_268) hlk (show nar .boolean (own_eq (q5.toInt32) (q7.toInt32) (q9.toInt32) (q11.toInt32) (q5.toInt32) (q7.toInt32) (q9.toInt32) (q11.toInt32)) = (1 : Int32) from by rw [own_one]; decide) (by rw [e12]; exact ⟨rfl, N12⟩) (by decide) (by decide)
                      · -- false
                        refine own_goW (fun _ k => XS.icmpYes X5.here hx rfl (pc0 := 258) (pc' := 269) rfl (hb hby at_258) rfl (feq hc258_11).2 (by decide) (by decide) <| XS.lload X5.here hx rfl (hb hby at_269) rfl <| XS.lload X5.here hx rfl (hb hby at_271) rfl <| XS.lcmp X5.here hx rfl (hb hby at_273) rfl <| k) ?_
                        show own_EndsW p e below s _ _ _ (T5.setTop (mkF m 274 #[.val (.int p1), .val (.int p2), .val (.int p3), .val (.int p4), .val (.int p5), .val (.long q5), .second, .val (.long q7), .second, .val (.long q9), .second, .val (.long q11), .second, .val (.long q13), .second, .val (.long q15), .second, .val (.long q17), .second, .val (.long (own_maxL w19 q17)), .second, .val (.ref b2), .val (.ref b4), .val (.int (((p5.toUInt32 >>> ((4 : Int32) &&& 31).toUInt32).toInt32) &&& (3 : Int32))), .unset] [(.int (lcmpW q5 q13))]))
                        by_cases hc274_13 : q5 = q13
                        · -- true
                          refine own_goW (fun _ k => XS.ifNo X5.here hx rfl (hb hby at_274) rfl ((if0 _ _).trans (teq ((lw_eq _ _).mpr hc274_13)).2) <| XS.lload X5.here hx rfl (hb hby at_277) rfl <| XS.lload X5.here hx rfl (hb hby at_279) rfl <| XS.lcmp X5.here hx rfl (hb hby at_281) rfl <| k) ?_
                          show own_EndsW p e below s _ _ _ (T5.setTop (mkF m 282 #[.val (.int p1), .val (.int p2), .val (.int p3), .val (.int p4), .val (.int p5), .val (.long q5), .second, .val (.long q7), .second, .val (.long q9), .second, .val (.long q11), .second, .val (.long q13), .second, .val (.long q15), .second, .val (.long q17), .second, .val (.long (own_maxL w19 q17)), .second, .val (.ref b2), .val (.ref b4), .val (.int (((p5.toUInt32 >>> ((4 : Int32) &&& 31).toUInt32).toInt32) &&& (3 : Int32))), .unset] [(.int (lcmpW q7 q15))]))
                          by_cases hc282_14 : q7 = q15
                          · -- true
                            refine own_goW (fun _ k => XS.ifNo X5.here hx rfl (hb hby at_282) rfl ((if0 _ _).trans (teq ((lw_eq _ _).mpr hc282_14)).2) <| XS.lload X5.here hx rfl (hb hby at_285) rfl <| XS.lload X5.here hx rfl (hb hby at_287) rfl <| XS.lcmp X5.here hx rfl (hb hby at_289) rfl <| k) ?_
                            show own_EndsW p e below s _ _ _ (T5.setTop (mkF m 290 #[.val (.int p1), .val (.int p2), .val (.int p3), .val (.int p4), .val (.int p5), .val (.long q5), .second, .val (.long q7), .second, .val (.long q9), .second, .val (.long q11), .second, .val (.long q13), .second, .val (.long q15), .second, .val (.long q17), .second, .val (.long (own_maxL w19 q17)), .second, .val (.ref b2), .val (.ref b4), .val (.int (((p5.toUInt32 >>> ((4 : Int32) &&& 31).toUInt32).toInt32) &&& (3 : Int32))), .unset] [(.int (lcmpW q9 q17))]))
                            by_cases hc290_15 : q9 = q17
                            · -- true
                              refine own_goW (fun _ k => XS.ifNo X5.here hx rfl (hb hby at_290) rfl ((if0 _ _).trans (teq ((lw_eq _ _).mpr hc290_15)).2) <| XS.lload X5.here hx rfl (hb hby at_293) rfl <| XS.lload X5.here hx rfl (hb hby at_295) rfl <| XS.lcmp X5.here hx rfl (hb hby at_297) rfl <| k) ?_
                              show own_EndsW p e below s _ _ _ (T5.setTop (mkF m 298 #[.val (.int p1), .val (.int p2), .val (.int p3), .val (.int p4), .val (.int p5), .val (.long q5), .second, .val (.long q7), .second, .val (.long q9), .second, .val (.long q11), .second, .val (.long q13), .second, .val (.long q15), .second, .val (.long q17), .second, .val (.long (own_maxL w19 q17)), .second, .val (.ref b2), .val (.ref b4), .val (.int (((p5.toUInt32 >>> ((4 : Int32) &&& 31).toUInt32).toInt32) &&& (3 : Int32))), .unset] [(.int (lcmpW q11 (own_maxL w19 q17)))]))
                              by_cases hc298_16 : q11 = (own_maxL w19 q17)
                              · -- true
                                refine own_goW (fun _ k => XS.ifNo X5.here hx rfl (hb hby at_298) rfl ((if0 _ _).trans (teq ((lw_eq _ _).mpr hc298_16)).2) <| XT.iconstV X5.here hx rfl (1 : Int32) (hb hby at_301) rfl <| XS.goto X5.here hx rfl (pc0 := 302) (pc' := 306) rfl (hb hby at_302) (by decide) (by decide) <| XS.istore X5.here hx rfl (hb hby at_306) rfl (l' := #[.val (.int p1), .val (.int p2), .val (.int p3), .val (.int p4), .val (.int p5), .val (.long q5), .second, .val (.long q7), .second, .val (.long q9), .second, .val (.long q11), .second, .val (.long q13), .second, .val (.long q15), .second, .val (.long q17), .second, .val (.long (own_maxL w19 q17)), .second, .val (.ref b2), .val (.ref b4), .val (.int (((p5.toUInt32 >>> ((4 : Int32) &&& 31).toUInt32).toInt32) &&& (3 : Int32))), .val (.int (1 : Int32))]) rfl <| XS.aload X5.here hx rfl (hb hby at_308) rfl rfl <| XS.aload X5.here hx rfl (hb hby at_310) rfl rfl <| k) ?_
                                show own_EndsW p e below s _ _ _ (T5.setTop (mkF m 312 #[.val (.int p1), .val (.int p2), .val (.int p3), .val (.int p4), .val (.int p5), .val (.long q5), .second, .val (.long q7), .second, .val (.long q9), .second, .val (.long q11), .second, .val (.long q13), .second, .val (.long q15), .second, .val (.long q17), .second, .val (.long (own_maxL w19 q17)), .second, .val (.ref b2), .val (.ref b4), .val (.int (((p5.toUInt32 >>> ((4 : Int32) &&& 31).toUInt32).toInt32) &&& (3 : Int32))), .val (.int (1 : Int32))] [(.ref b4), (.ref b2)]))
                                obtain ⟨cq17, kq17, q17a, q17b, q17c⟩ := isOf hZ rfl A2'5
                                obtain ⟨_, _, ⟨T17, L17, k17, n17⟩, -, X17, ⟨Lc17, hQ17, l17, y17, z17⟩, st17⟩ := X5.virtualBack hx (y := (⟨"com/example/expiry/expiry/model/Push", "equals", "(Ljava/lang/Object;)Z"⟩ : MethodName)) (z := (⟨"com/example/expiry/expiry/model/Push", "equals", "(Ljava/lang/Object;)Z"⟩ : MethodName)) hown (mvT hZ (hw _ (List.mem_of_getElem? (i := 38) rfl))) (mvT hZ (hw _ (List.mem_of_getElem? (i := 39) rfl))) (notFace_of_selects (args := #[]) (mvT hZ (hw _ (List.mem_of_getElem? (i := 41) rfl)))) (mvT hZ (hw _ (List.mem_of_getElem? (i := 41) rfl))) (mvT hZ (hw _ (List.mem_of_getElem? (i := 40) rfl))) (by decide) (backOf (W := 0) (rmEP l Z a0 hw [] b2 b4 (q5.toInt32) (q7.toInt32) (q9.toInt32) (q11.toInt32) (q13.toInt32) (q15.toInt32) (q17.toInt32) ((own_maxL w19 q17).toInt32) T5.heap n0 Z5 A4'5 Fc03'5 Fc13'5 Fc23'5 Fc33'5 Fc05 Fc15 Fc25 Fc35) hZ (hw _ (List.mem_of_getElem? (i := 42) rfl)) (hw _ (List.mem_of_getElem? (i := 8) rfl)) (by decide) (by decide)) q17a q17c (g := (mkF m 312 #[.val (.int p1), .val (.int p2), .val (.int p3), .val (.int p4), .val (.int p5), .val (.long q5), .second, .val (.long q7), .second, .val (.long q9), .second, .val (.long q11), .second, .val (.long q13), .second, .val (.long q15), .second, .val (.long q17), .second, .val (.long (own_maxL w19 q17)), .second, .val (.ref b2), .val (.ref b4), .val (.int (((p5.toUInt32 >>> ((4 : Int32) &&& 31).toUInt32).toInt32) &&& (3 : Int32))), .val (.int (1 : Int32))] [(.ref b4), (.ref b2)])) rfl (by rw [hml]; rfl) (Steps.refl _) (argsL := [(.ref b4)]) (rest := []) (lenOf pd_4 rfl) rfl (by show 2 * 0 + _ ≤ _; exact Nat.le_of_eq rfl) (hb hby at_312) (fun _ _ => ⟨rfl, rfl, Nat.le_of_ble_eq_true rfl, Nat.le_of_ble_eq_true rfl⟩)
                                dsimp only [Pt.U, Pt.locs, Pt.cells, Pt.slots] at X17 l17 y17 z17 st17 hQ17
                                subst l17 y17 z17
                                obtain ⟨rfl, N17q, e17⟩ := hQ17
                                have N17 := Fr.app N5 N17q
                                refine own_goW (fun _ k => st17.trans k) ?_
                                show own_EndsW p e below s _ _ _ (T17.setTop (mkF m 315 #[.val (.int p1), .val (.int p2), .val (.int p3), .val (.int p4), .val (.int p5), .val (.long q5), .second, .val (.long q7), .second, .val (.long q9), .second, .val (.long q11), .second, .val (.long q13), .second, .val (.long q15), .second, .val (.long q17), .second, .val (.long (own_maxL w19 q17)), .second, .val (.ref b2), .val (.ref b4), .val (.int (((p5.toUInt32 >>> ((4 : Int32) &&& 31).toUInt32).toInt32) &&& (3 : Int32))), .val (.int (1 : Int32))] [(.int (own_eq (q5.toInt32) (q7.toInt32) (q9.toInt32) (q11.toInt32) (q13.toInt32) (q15.toInt32) (q17.toInt32) ((own_maxL w19 q17).toInt32)))]))
                                refine own_goW (fun _ k => XS.iload X17.here hx rfl (hb hby at_315) rfl <| XS.icmpNo X17.here hx rfl (hb hby at_317) rfl (teq (by unfold own_eq; rw [if_pos (congrArg Int64.toInt32 hc274_13), if_pos (congrArg Int64.toInt32 hc282_14), if_pos (congrArg Int64.toInt32 hc290_15), if_pos (congrArg Int64.toInt32 hc298_16)])).2 <| XS.aload X17.here hx rfl (hb hby at_320) rfl rfl <| XS.aload X17.here hx rfl (hb hby at_322) rfl rfl <| k) ?_
                                show own_EndsW p e below s _ _ _ (T17.setTop (mkF m 324 #[.val (.int p1), .val (.int p2), .val (.int p3), .val (.int p4), .val (.int p5), .val (.long q5), .second, .val (.long q7), .second, .val (.long q9), .second, .val (.long q11), .second, .val (.long q13), .second, .val (.long q15), .second, .val (.long q17), .second, .val (.long (own_maxL w19 q17)), .second, .val (.ref b2), .val (.ref b4), .val (.int (((p5.toUInt32 >>> ((4 : Int32) &&& 31).toUInt32).toInt32) &&& (3 : Int32))), .val (.int (1 : Int32))] [(.ref b2), (.ref b4)]))
                                obtain ⟨cq18, kq18, q18a, q18b, q18c⟩ := isOf hZ e17 A4'5
                                obtain ⟨_, _, ⟨T18, L18, k18, n18⟩, -, X18, ⟨Lc18, hQ18, l18, y18, z18⟩, st18⟩ := X17.virtualBack hx (y := (⟨"com/example/expiry/expiry/model/Push", "equals", "(Ljava/lang/Object;)Z"⟩ : MethodName)) (z := (⟨"com/example/expiry/expiry/model/Push", "equals", "(Ljava/lang/Object;)Z"⟩ : MethodName)) hown (mvT hZ (hw _ (List.mem_of_getElem? (i := 38) rfl))) (mvT hZ (hw _ (List.mem_of_getElem? (i := 39) rfl))) (notFace_of_selects (args := #[]) (mvT hZ (hw _ (List.mem_of_getElem? (i := 41) rfl)))) (mvT hZ (hw _ (List.mem_of_getElem? (i := 41) rfl))) (mvT hZ (hw _ (List.mem_of_getElem? (i := 40) rfl))) (by decide) (backOf (W := 0) (rmEP l Z a0 hw [] b4 b2 (q13.toInt32) (q15.toInt32) (q17.toInt32) ((own_maxL w19 q17).toInt32) (q5.toInt32) (q7.toInt32) (q9.toInt32) (q11.toInt32) T5.heap n0 Z5 A2'5 Fc05 Fc15 Fc25 Fc35 Fc03'5 Fc13'5 Fc23'5 Fc33'5) hZ (hw _ (List.mem_of_getElem? (i := 42) rfl)) (hw _ (List.mem_of_getElem? (i := 8) rfl)) (by decide) (by decide)) q18a q18c (g := (mkF m 324 #[.val (.int p1), .val (.int p2), .val (.int p3), .val (.int p4), .val (.int p5), .val (.long q5), .second, .val (.long q7), .second, .val (.long q9), .second, .val (.long q11), .second, .val (.long q13), .second, .val (.long q15), .second, .val (.long q17), .second, .val (.long (own_maxL w19 q17)), .second, .val (.ref b2), .val (.ref b4), .val (.int (((p5.toUInt32 >>> ((4 : Int32) &&& 31).toUInt32).toInt32) &&& (3 : Int32))), .val (.int (1 : Int32))] [(.ref b2), (.ref b4)])) rfl (by rw [hml]; rfl) (Steps.refl _) (argsL := [(.ref b2)]) (rest := []) (lenOf pd_4 rfl) rfl (by show 2 * 0 + _ ≤ _; exact Nat.le_of_eq rfl) (hb hby at_324) (fun _ _ => ⟨rfl, e17, Nat.le_of_ble_eq_true rfl, Nat.le_of_ble_eq_true rfl⟩)
                                dsimp only [Pt.U, Pt.locs, Pt.cells, Pt.slots] at X18 l18 y18 z18 st18 hQ18
                                subst l18 y18 z18
                                obtain ⟨rfl, N18q, e18⟩ := hQ18
                                have N18 := Fr.app N17 N18q
                                refine own_goW (fun _ k => st18.trans k) ?_
                                show own_EndsW p e below s _ _ _ (T18.setTop (mkF m 327 #[.val (.int p1), .val (.int p2), .val (.int p3), .val (.int p4), .val (.int p5), .val (.long q5), .second, .val (.long q7), .second, .val (.long q9), .second, .val (.long q11), .second, .val (.long q13), .second, .val (.long q15), .second, .val (.long q17), .second, .val (.long (own_maxL w19 q17)), .second, .val (.ref b2), .val (.ref b4), .val (.int (((p5.toUInt32 >>> ((4 : Int32) &&& 31).toUInt32).toInt32) &&& (3 : Int32))), .val (.int (1 : Int32))] [(.int (own_eq (q13.toInt32) (q15.toInt32) (q17.toInt32) ((own_maxL w19 q17).toInt32) (q5.toInt32) (q7.toInt32) (q9.toInt32) (q11.toInt32)))]))
                                refine own_goW (fun _ k => XS.iload X18.here hx rfl (hb hby at_327) rfl <| XS.icmpNo X18.here hx rfl (hb hby at_329) rfl (teq (by unfold own_eq; rw [if_pos (congrArg Int64.toInt32 hc274_13.symm), if_pos (congrArg Int64.toInt32 hc282_14.symm), if_pos (congrArg Int64.toInt32 hc290_15.symm), if_pos (congrArg Int64.toInt32 hc298_16.symm)])).2 <| XT.iconstV X18.here hx rfl (1 : Int32) (hb hby at_332) rfl <| XS.goto X18.here hx rfl (pc0 := 333) (pc' := 337) rfl (hb hby at_333) (by decide) (by decide) <| k) ?_
                                show own_EndsW p e below s _ _ _ (T18.setTop (mkF m 337 #[.val (.int p1), .val (.int p2), .val (.int p3), .val (.int p4), .val (.int p5), .val (.long q5), .second, .val (.long q7), .second, .val (.long q9), .second, .val (.long q11), .second, .val (.long q13), .second, .val (.long q15), .second, .val (.long q17), .second, .val (.long (own_maxL w19 q17)), .second, .val (.ref b2), .val (.ref b4), .val (.int (((p5.toUInt32 >>> ((4 : Int32) &&& 31).toUInt32).toInt32) &&& (3 : Int32))), .val (.int (1 : Int32))] [(.int (1 : Int32))]))
                                exact own_retNW X18 hx (t := .boolean) hrt (by simp) hS5 (by first | exact (Nat.le_refl _) | (rw [e18]; exact (Nat.le_refl _))) (hb hby at_337) hlk (show nar .boolean (1 : Int32) = (1 : Int32) from by decide) (by rw [e18]; exact ⟨rfl, N18⟩) (by decide) (by decide)
                              · -- false
                                refine own_goW (fun _ k => XS.ifYes X5.here hx rfl (pc0 := 298) (pc' := 305) rfl (hb hby at_298) rfl ((if0 _ _).trans (feq (fun q => hc298_16 ((lw_eq _ _).mp q))).2) (by decide) (by decide) <| XT.iconstV X5.here hx rfl (0 : Int32) (hb hby at_305) rfl <| XS.istore X5.here hx rfl (hb hby at_306) rfl (l' := #[.val (.int p1), .val (.int p2), .val (.int p3), .val (.int p4), .val (.int p5), .val (.long q5), .second, .val (.long q7), .second, .val (.long q9), .second, .val (.long q11), .second, .val (.long q13), .second, .val (.long q15), .second, .val (.long q17), .second, .val (.long (own_maxL w19 q17)), .second, .val (.ref b2), .val (.ref b4), .val (.int (((p5.toUInt32 >>> ((4 : Int32) &&& 31).toUInt32).toInt32) &&& (3 : Int32))), .val (.int (0 : Int32))]) rfl <| XS.aload X5.here hx rfl (hb hby at_308) rfl rfl <| XS.aload X5.here hx rfl (hb hby at_310) rfl rfl <| k) ?_
                                show own_EndsW p e below s _ _ _ (T5.setTop (mkF m 312 #[.val (.int p1), .val (.int p2), .val (.int p3), .val (.int p4), .val (.int p5), .val (.long q5), .second, .val (.long q7), .second, .val (.long q9), .second, .val (.long q11), .second, .val (.long q13), .second, .val (.long q15), .second, .val (.long q17), .second, .val (.long (own_maxL w19 q17)), .second, .val (.ref b2), .val (.ref b4), .val (.int (((p5.toUInt32 >>> ((4 : Int32) &&& 31).toUInt32).toInt32) &&& (3 : Int32))), .val (.int (0 : Int32))] [(.ref b4), (.ref b2)]))
                                obtain ⟨cq19, kq19, q19a, q19b, q19c⟩ := isOf hZ rfl A2'5
                                obtain ⟨_, _, ⟨T19, L19, k19, n19⟩, -, X19, ⟨Lc19, hQ19, l19, y19, z19⟩, st19⟩ := X5.virtualBack hx (y := (⟨"com/example/expiry/expiry/model/Push", "equals", "(Ljava/lang/Object;)Z"⟩ : MethodName)) (z := (⟨"com/example/expiry/expiry/model/Push", "equals", "(Ljava/lang/Object;)Z"⟩ : MethodName)) hown (mvT hZ (hw _ (List.mem_of_getElem? (i := 38) rfl))) (mvT hZ (hw _ (List.mem_of_getElem? (i := 39) rfl))) (notFace_of_selects (args := #[]) (mvT hZ (hw _ (List.mem_of_getElem? (i := 41) rfl)))) (mvT hZ (hw _ (List.mem_of_getElem? (i := 41) rfl))) (mvT hZ (hw _ (List.mem_of_getElem? (i := 40) rfl))) (by decide) (backOf (W := 0) (rmEP l Z a0 hw [] b2 b4 (q5.toInt32) (q7.toInt32) (q9.toInt32) (q11.toInt32) (q13.toInt32) (q15.toInt32) (q17.toInt32) ((own_maxL w19 q17).toInt32) T5.heap n0 Z5 A4'5 Fc03'5 Fc13'5 Fc23'5 Fc33'5 Fc05 Fc15 Fc25 Fc35) hZ (hw _ (List.mem_of_getElem? (i := 42) rfl)) (hw _ (List.mem_of_getElem? (i := 8) rfl)) (by decide) (by decide)) q19a q19c (g := (mkF m 312 #[.val (.int p1), .val (.int p2), .val (.int p3), .val (.int p4), .val (.int p5), .val (.long q5), .second, .val (.long q7), .second, .val (.long q9), .second, .val (.long q11), .second, .val (.long q13), .second, .val (.long q15), .second, .val (.long q17), .second, .val (.long (own_maxL w19 q17)), .second, .val (.ref b2), .val (.ref b4), .val (.int (((p5.toUInt32 >>> ((4 : Int32) &&& 31).toUInt32).toInt32) &&& (3 : Int32))), .val (.int (0 : Int32))] [(.ref b4), (.ref b2)])) rfl (by rw [hml]; rfl) (Steps.refl _) (argsL := [(.ref b4)]) (rest := []) (lenOf pd_4 rfl) rfl (by show 2 * 0 + _ ≤ _; exact Nat.le_of_eq rfl) (hb hby at_312) (fun _ _ => ⟨rfl, rfl, Nat.le_of_ble_eq_true rfl, Nat.le_of_ble_eq_true rfl⟩)
                                dsimp only [Pt.U, Pt.locs, Pt.cells, Pt.slots] at X19 l19 y19 z19 st19 hQ19
                                subst l19 y19 z19
                                obtain ⟨rfl, N19q, e19⟩ := hQ19
                                have N19 := Fr.app N5 N19q
                                refine own_goW (fun _ k => st19.trans k) ?_
                                show own_EndsW p e below s _ _ _ (T19.setTop (mkF m 315 #[.val (.int p1), .val (.int p2), .val (.int p3), .val (.int p4), .val (.int p5), .val (.long q5), .second, .val (.long q7), .second, .val (.long q9), .second, .val (.long q11), .second, .val (.long q13), .second, .val (.long q15), .second, .val (.long q17), .second, .val (.long (own_maxL w19 q17)), .second, .val (.ref b2), .val (.ref b4), .val (.int (((p5.toUInt32 >>> ((4 : Int32) &&& 31).toUInt32).toInt32) &&& (3 : Int32))), .val (.int (0 : Int32))] [(.int (own_eq (q5.toInt32) (q7.toInt32) (q9.toInt32) (q11.toInt32) (q13.toInt32) (q15.toInt32) (q17.toInt32) ((own_maxL w19 q17).toInt32)))]))
                                refine own_goW (fun _ k => XS.iload X19.here hx rfl (hb hby at_315) rfl <| XS.icmpNo X19.here hx rfl (hb hby at_317) rfl (teq (by unfold own_eq; rw [if_pos (congrArg Int64.toInt32 hc274_13), if_pos (congrArg Int64.toInt32 hc282_14), if_pos (congrArg Int64.toInt32 hc290_15), if_neg (own_ne ⟨Int.le_trans hq9.1 hq11.1, hq11.2⟩ ⟨Int.le_trans hq17.1 hmx.1, hmx.2⟩ hc298_16)])).2 <| XS.aload X19.here hx rfl (hb hby at_320) rfl rfl <| XS.aload X19.here hx rfl (hb hby at_322) rfl rfl <| k) ?_
                                show own_EndsW p e below s _ _ _ (T19.setTop (mkF m 324 #[.val (.int p1), .val (.int p2), .val (.int p3), .val (.int p4), .val (.int p5), .val (.long q5), .second, .val (.long q7), .second, .val (.long q9), .second, .val (.long q11), .second, .val (.long q13), .second, .val (.long q15), .second, .val (.long q17), .second, .val (.long (own_maxL w19 q17)), .second, .val (.ref b2), .val (.ref b4), .val (.int (((p5.toUInt32 >>> ((4 : Int32) &&& 31).toUInt32).toInt32) &&& (3 : Int32))), .val (.int (0 : Int32))] [(.ref b2), (.ref b4)]))
                                obtain ⟨cq20, kq20, q20a, q20b, q20c⟩ := isOf hZ e19 A4'5
                                obtain ⟨_, _, ⟨T20, L20, k20, n20⟩, -, X20, ⟨Lc20, hQ20, l20, y20, z20⟩, st20⟩ := X19.virtualBack hx (y := (⟨"com/example/expiry/expiry/model/Push", "equals", "(Ljava/lang/Object;)Z"⟩ : MethodName)) (z := (⟨"com/example/expiry/expiry/model/Push", "equals", "(Ljava/lang/Object;)Z"⟩ : MethodName)) hown (mvT hZ (hw _ (List.mem_of_getElem? (i := 38) rfl))) (mvT hZ (hw _ (List.mem_of_getElem? (i := 39) rfl))) (notFace_of_selects (args := #[]) (mvT hZ (hw _ (List.mem_of_getElem? (i := 41) rfl)))) (mvT hZ (hw _ (List.mem_of_getElem? (i := 41) rfl))) (mvT hZ (hw _ (List.mem_of_getElem? (i := 40) rfl))) (by decide) (backOf (W := 0) (rmEP l Z a0 hw [] b4 b2 (q13.toInt32) (q15.toInt32) (q17.toInt32) ((own_maxL w19 q17).toInt32) (q5.toInt32) (q7.toInt32) (q9.toInt32) (q11.toInt32) T5.heap n0 Z5 A2'5 Fc05 Fc15 Fc25 Fc35 Fc03'5 Fc13'5 Fc23'5 Fc33'5) hZ (hw _ (List.mem_of_getElem? (i := 42) rfl)) (hw _ (List.mem_of_getElem? (i := 8) rfl)) (by decide) (by decide)) q20a q20c (g := (mkF m 324 #[.val (.int p1), .val (.int p2), .val (.int p3), .val (.int p4), .val (.int p5), .val (.long q5), .second, .val (.long q7), .second, .val (.long q9), .second, .val (.long q11), .second, .val (.long q13), .second, .val (.long q15), .second, .val (.long q17), .second, .val (.long (own_maxL w19 q17)), .second, .val (.ref b2), .val (.ref b4), .val (.int (((p5.toUInt32 >>> ((4 : Int32) &&& 31).toUInt32).toInt32) &&& (3 : Int32))), .val (.int (0 : Int32))] [(.ref b2), (.ref b4)])) rfl (by rw [hml]; rfl) (Steps.refl _) (argsL := [(.ref b2)]) (rest := []) (lenOf pd_4 rfl) rfl (by show 2 * 0 + _ ≤ _; exact Nat.le_of_eq rfl) (hb hby at_324) (fun _ _ => ⟨rfl, e19, Nat.le_of_ble_eq_true rfl, Nat.le_of_ble_eq_true rfl⟩)
                                dsimp only [Pt.U, Pt.locs, Pt.cells, Pt.slots] at X20 l20 y20 z20 st20 hQ20
                                subst l20 y20 z20
                                obtain ⟨rfl, N20q, e20⟩ := hQ20
                                have N20 := Fr.app N19 N20q
                                refine own_goW (fun _ k => st20.trans k) ?_
                                show own_EndsW p e below s _ _ _ (T20.setTop (mkF m 327 #[.val (.int p1), .val (.int p2), .val (.int p3), .val (.int p4), .val (.int p5), .val (.long q5), .second, .val (.long q7), .second, .val (.long q9), .second, .val (.long q11), .second, .val (.long q13), .second, .val (.long q15), .second, .val (.long q17), .second, .val (.long (own_maxL w19 q17)), .second, .val (.ref b2), .val (.ref b4), .val (.int (((p5.toUInt32 >>> ((4 : Int32) &&& 31).toUInt32).toInt32) &&& (3 : Int32))), .val (.int (0 : Int32))] [(.int (own_eq (q13.toInt32) (q15.toInt32) (q17.toInt32) ((own_maxL w19 q17).toInt32) (q5.toInt32) (q7.toInt32) (q9.toInt32) (q11.toInt32)))]))
                                refine own_goW (fun _ k => XS.iload X20.here hx rfl (hb hby at_327) rfl <| XS.icmpNo X20.here hx rfl (hb hby at_329) rfl (teq (by unfold own_eq; rw [if_pos (congrArg Int64.toInt32 hc274_13.symm), if_pos (congrArg Int64.toInt32 hc282_14.symm), if_pos (congrArg Int64.toInt32 hc290_15.symm), if_neg (own_ne ⟨Int.le_trans hq17.1 hmx.1, hmx.2⟩ ⟨Int.le_trans hq9.1 hq11.1, hq11.2⟩ (fun z => hc298_16 z.symm))])).2 <| XT.iconstV X20.here hx rfl (1 : Int32) (hb hby at_332) rfl <| XS.goto X20.here hx rfl (pc0 := 333) (pc' := 337) rfl (hb hby at_333) (by decide) (by decide) <| k) ?_
                                show own_EndsW p e below s _ _ _ (T20.setTop (mkF m 337 #[.val (.int p1), .val (.int p2), .val (.int p3), .val (.int p4), .val (.int p5), .val (.long q5), .second, .val (.long q7), .second, .val (.long q9), .second, .val (.long q11), .second, .val (.long q13), .second, .val (.long q15), .second, .val (.long q17), .second, .val (.long (own_maxL w19 q17)), .second, .val (.ref b2), .val (.ref b4), .val (.int (((p5.toUInt32 >>> ((4 : Int32) &&& 31).toUInt32).toInt32) &&& (3 : Int32))), .val (.int (0 : Int32))] [(.int (1 : Int32))]))
                                exact own_retNW X20 hx (t := .boolean) hrt (by simp) hS5 (by first | exact (Nat.le_refl _) | (rw [e20]; exact (Nat.le_refl _))) (hb hby at_337) hlk (show nar .boolean (1 : Int32) = (1 : Int32) from by decide) (by rw [e20]; exact ⟨rfl, N20⟩) (by decide) (by decide)
                            · -- false
                              refine own_goW (fun _ k => XS.ifYes X5.here hx rfl (pc0 := 290) (pc' := 305) rfl (hb hby at_290) rfl ((if0 _ _).trans (feq (fun q => hc290_15 ((lw_eq _ _).mp q))).2) (by decide) (by decide) <| XT.iconstV X5.here hx rfl (0 : Int32) (hb hby at_305) rfl <| XS.istore X5.here hx rfl (hb hby at_306) rfl (l' := #[.val (.int p1), .val (.int p2), .val (.int p3), .val (.int p4), .val (.int p5), .val (.long q5), .second, .val (.long q7), .second, .val (.long q9), .second, .val (.long q11), .second, .val (.long q13), .second, .val (.long q15), .second, .val (.long q17), .second, .val (.long (own_maxL w19 q17)), .second, .val (.ref b2), .val (.ref b4), .val (.int (((p5.toUInt32 >>> ((4 : Int32) &&& 31).toUInt32).toInt32) &&& (3 : Int32))), .val (.int (0 : Int32))]) rfl <| XS.aload X5.here hx rfl (hb hby at_308) rfl rfl <| XS.aload X5.here hx rfl (hb hby at_310) rfl rfl <| k) ?_
                              show own_EndsW p e below s _ _ _ (T5.setTop (mkF m 312 #[.val (.int p1), .val (.int p2), .val (.int p3), .val (.int p4), .val (.int p5), .val (.long q5), .second, .val (.long q7), .second, .val (.long q9), .second, .val (.long q11), .second, .val (.long q13), .second, .val (.long q15), .second, .val (.long q17), .second, .val (.long (own_maxL w19 q17)), .second, .val (.ref b2), .val (.ref b4), .val (.int (((p5.toUInt32 >>> ((4 : Int32) &&& 31).toUInt32).toInt32) &&& (3 : Int32))), .val (.int (0 : Int32))] [(.ref b4), (.ref b2)]))
                              obtain ⟨cq21, kq21, q21a, q21b, q21c⟩ := isOf hZ rfl A2'5
                              obtain ⟨_, _, ⟨T21, L21, k21, n21⟩, -, X21, ⟨Lc21, hQ21, l21, y21, z21⟩, st21⟩ := X5.virtualBack hx (y := (⟨"com/example/expiry/expiry/model/Push", "equals", "(Ljava/lang/Object;)Z"⟩ : MethodName)) (z := (⟨"com/example/expiry/expiry/model/Push", "equals", "(Ljava/lang/Object;)Z"⟩ : MethodName)) hown (mvT hZ (hw _ (List.mem_of_getElem? (i := 38) rfl))) (mvT hZ (hw _ (List.mem_of_getElem? (i := 39) rfl))) (notFace_of_selects (args := #[]) (mvT hZ (hw _ (List.mem_of_getElem? (i := 41) rfl)))) (mvT hZ (hw _ (List.mem_of_getElem? (i := 41) rfl))) (mvT hZ (hw _ (List.mem_of_getElem? (i := 40) rfl))) (by decide) (backOf (W := 0) (rmEP l Z a0 hw [] b2 b4 (q5.toInt32) (q7.toInt32) (q9.toInt32) (q11.toInt32) (q13.toInt32) (q15.toInt32) (q17.toInt32) ((own_maxL w19 q17).toInt32) T5.heap n0 Z5 A4'5 Fc03'5 Fc13'5 Fc23'5 Fc33'5 Fc05 Fc15 Fc25 Fc35) hZ (hw _ (List.mem_of_getElem? (i := 42) rfl)) (hw _ (List.mem_of_getElem? (i := 8) rfl)) (by decide) (by decide)) q21a q21c (g := (mkF m 312 #[.val (.int p1), .val (.int p2), .val (.int p3), .val (.int p4), .val (.int p5), .val (.long q5), .second, .val (.long q7), .second, .val (.long q9), .second, .val (.long q11), .second, .val (.long q13), .second, .val (.long q15), .second, .val (.long q17), .second, .val (.long (own_maxL w19 q17)), .second, .val (.ref b2), .val (.ref b4), .val (.int (((p5.toUInt32 >>> ((4 : Int32) &&& 31).toUInt32).toInt32) &&& (3 : Int32))), .val (.int (0 : Int32))] [(.ref b4), (.ref b2)])) rfl (by rw [hml]; rfl) (Steps.refl _) (argsL := [(.ref b4)]) (rest := []) (lenOf pd_4 rfl) rfl (by show 2 * 0 + _ ≤ _; exact Nat.le_of_eq rfl) (hb hby at_312) (fun _ _ => ⟨rfl, rfl, Nat.le_of_ble_eq_true rfl, Nat.le_of_ble_eq_true rfl⟩)
                              dsimp only [Pt.U, Pt.locs, Pt.cells, Pt.slots] at X21 l21 y21 z21 st21 hQ21
                              subst l21 y21 z21
                              obtain ⟨rfl, N21q, e21⟩ := hQ21
                              have N21 := Fr.app N5 N21q
                              refine own_goW (fun _ k => st21.trans k) ?_
                              show own_EndsW p e below s _ _ _ (T21.setTop (mkF m 315 #[.val (.int p1), .val (.int p2), .val (.int p3), .val (.int p4), .val (.int p5), .val (.long q5), .second, .val (.long q7), .second, .val (.long q9), .second, .val (.long q11), .second, .val (.long q13), .second, .val (.long q15), .second, .val (.long q17), .second, .val (.long (own_maxL w19 q17)), .second, .val (.ref b2), .val (.ref b4), .val (.int (((p5.toUInt32 >>> ((4 : Int32) &&& 31).toUInt32).toInt32) &&& (3 : Int32))), .val (.int (0 : Int32))] [(.int (own_eq (q5.toInt32) (q7.toInt32) (q9.toInt32) (q11.toInt32) (q13.toInt32) (q15.toInt32) (q17.toInt32) ((own_maxL w19 q17).toInt32)))]))
                              refine own_goW (fun _ k => XS.iload X21.here hx rfl (hb hby at_315) rfl <| XS.icmpNo X21.here hx rfl (hb hby at_317) rfl (teq (by unfold own_eq; rw [if_pos (congrArg Int64.toInt32 hc274_13), if_pos (congrArg Int64.toInt32 hc282_14), if_neg (own_ne ⟨hq9.1, Int.le_trans hq9.2 (by decide)⟩ ⟨hq17.1, Int.le_trans hq17.2 (by decide)⟩ hc290_15)])).2 <| XS.aload X21.here hx rfl (hb hby at_320) rfl rfl <| XS.aload X21.here hx rfl (hb hby at_322) rfl rfl <| k) ?_
                              show own_EndsW p e below s _ _ _ (T21.setTop (mkF m 324 #[.val (.int p1), .val (.int p2), .val (.int p3), .val (.int p4), .val (.int p5), .val (.long q5), .second, .val (.long q7), .second, .val (.long q9), .second, .val (.long q11), .second, .val (.long q13), .second, .val (.long q15), .second, .val (.long q17), .second, .val (.long (own_maxL w19 q17)), .second, .val (.ref b2), .val (.ref b4), .val (.int (((p5.toUInt32 >>> ((4 : Int32) &&& 31).toUInt32).toInt32) &&& (3 : Int32))), .val (.int (0 : Int32))] [(.ref b2), (.ref b4)]))
                              obtain ⟨cq22, kq22, q22a, q22b, q22c⟩ := isOf hZ e21 A4'5
                              obtain ⟨_, _, ⟨T22, L22, k22, n22⟩, -, X22, ⟨Lc22, hQ22, l22, y22, z22⟩, st22⟩ := X21.virtualBack hx (y := (⟨"com/example/expiry/expiry/model/Push", "equals", "(Ljava/lang/Object;)Z"⟩ : MethodName)) (z := (⟨"com/example/expiry/expiry/model/Push", "equals", "(Ljava/lang/Object;)Z"⟩ : MethodName)) hown (mvT hZ (hw _ (List.mem_of_getElem? (i := 38) rfl))) (mvT hZ (hw _ (List.mem_of_getElem? (i := 39) rfl))) (notFace_of_selects (args := #[]) (mvT hZ (hw _ (List.mem_of_getElem? (i := 41) rfl)))) (mvT hZ (hw _ (List.mem_of_getElem? (i := 41) rfl))) (mvT hZ (hw _ (List.mem_of_getElem? (i := 40) rfl))) (by decide) (backOf (W := 0) (rmEP l Z a0 hw [] b4 b2 (q13.toInt32) (q15.toInt32) (q17.toInt32) ((own_maxL w19 q17).toInt32) (q5.toInt32) (q7.toInt32) (q9.toInt32) (q11.toInt32) T5.heap n0 Z5 A2'5 Fc05 Fc15 Fc25 Fc35 Fc03'5 Fc13'5 Fc23'5 Fc33'5) hZ (hw _ (List.mem_of_getElem? (i := 42) rfl)) (hw _ (List.mem_of_getElem? (i := 8) rfl)) (by decide) (by decide)) q22a q22c (g := (mkF m 324 #[.val (.int p1), .val (.int p2), .val (.int p3), .val (.int p4), .val (.int p5), .val (.long q5), .second, .val (.long q7), .second, .val (.long q9), .second, .val (.long q11), .second, .val (.long q13), .second, .val (.long q15), .second, .val (.long q17), .second, .val (.long (own_maxL w19 q17)), .second, .val (.ref b2), .val (.ref b4), .val (.int (((p5.toUInt32 >>> ((4 : Int32) &&& 31).toUInt32).toInt32) &&& (3 : Int32))), .val (.int (0 : Int32))] [(.ref b2), (.ref b4)])) rfl (by rw [hml]; rfl) (Steps.refl _) (argsL := [(.ref b2)]) (rest := []) (lenOf pd_4 rfl) rfl (by show 2 * 0 + _ ≤ _; exact Nat.le_of_eq rfl) (hb hby at_324) (fun _ _ => ⟨rfl, e21, Nat.le_of_ble_eq_true rfl, Nat.le_of_ble_eq_true rfl⟩)
                              dsimp only [Pt.U, Pt.locs, Pt.cells, Pt.slots] at X22 l22 y22 z22 st22 hQ22
                              subst l22 y22 z22
                              obtain ⟨rfl, N22q, e22⟩ := hQ22
                              have N22 := Fr.app N21 N22q
                              refine own_goW (fun _ k => st22.trans k) ?_
                              show own_EndsW p e below s _ _ _ (T22.setTop (mkF m 327 #[.val (.int p1), .val (.int p2), .val (.int p3), .val (.int p4), .val (.int p5), .val (.long q5), .second, .val (.long q7), .second, .val (.long q9), .second, .val (.long q11), .second, .val (.long q13), .second, .val (.long q15), .second, .val (.long q17), .second, .val (.long (own_maxL w19 q17)), .second, .val (.ref b2), .val (.ref b4), .val (.int (((p5.toUInt32 >>> ((4 : Int32) &&& 31).toUInt32).toInt32) &&& (3 : Int32))), .val (.int (0 : Int32))] [(.int (own_eq (q13.toInt32) (q15.toInt32) (q17.toInt32) ((own_maxL w19 q17).toInt32) (q5.toInt32) (q7.toInt32) (q9.toInt32) (q11.toInt32)))]))
                              refine own_goW (fun _ k => XS.iload X22.here hx rfl (hb hby at_327) rfl <| XS.icmpNo X22.here hx rfl (hb hby at_329) rfl (teq (by unfold own_eq; rw [if_pos (congrArg Int64.toInt32 hc274_13.symm), if_pos (congrArg Int64.toInt32 hc282_14.symm), if_neg (own_ne ⟨hq17.1, Int.le_trans hq17.2 (by decide)⟩ ⟨hq9.1, Int.le_trans hq9.2 (by decide)⟩ (fun z => hc290_15 z.symm))])).2 <| XT.iconstV X22.here hx rfl (1 : Int32) (hb hby at_332) rfl <| XS.goto X22.here hx rfl (pc0 := 333) (pc' := 337) rfl (hb hby at_333) (by decide) (by decide) <| k) ?_
                              show own_EndsW p e below s _ _ _ (T22.setTop (mkF m 337 #[.val (.int p1), .val (.int p2), .val (.int p3), .val (.int p4), .val (.int p5), .val (.long q5), .second, .val (.long q7), .second, .val (.long q9), .second, .val (.long q11), .second, .val (.long q13), .second, .val (.long q15), .second, .val (.long q17), .second, .val (.long (own_maxL w19 q17)), .second, .val (.ref b2), .val (.ref b4), .val (.int (((p5.toUInt32 >>> ((4 : Int32) &&& 31).toUInt32).toInt32) &&& (3 : Int32))), .val (.int (0 : Int32))] [(.int (1 : Int32))]))
                              exact own_retNW X22 hx (t := .boolean) hrt (by simp) hS5 (by first | exact (Nat.le_refl _) | (rw [e22]; exact (Nat.le_refl _))) (hb hby at_337) hlk (show nar .boolean (1 : Int32) = (1 : Int32) from by decide) (by rw [e22]; exact ⟨rfl, N22⟩) (by decide) (by decide)
                          · -- false
                            refine own_goW (fun _ k => XS.ifYes X5.here hx rfl (pc0 := 282) (pc' := 305) rfl (hb hby at_282) rfl ((if0 _ _).trans (feq (fun q => hc282_14 ((lw_eq _ _).mp q))).2) (by decide) (by decide) <| XT.iconstV X5.here hx rfl (0 : Int32) (hb hby at_305) rfl <| XS.istore X5.here hx rfl (hb hby at_306) rfl (l' := #[.val (.int p1), .val (.int p2), .val (.int p3), .val (.int p4), .val (.int p5), .val (.long q5), .second, .val (.long q7), .second, .val (.long q9), .second, .val (.long q11), .second, .val (.long q13), .second, .val (.long q15), .second, .val (.long q17), .second, .val (.long (own_maxL w19 q17)), .second, .val (.ref b2), .val (.ref b4), .val (.int (((p5.toUInt32 >>> ((4 : Int32) &&& 31).toUInt32).toInt32) &&& (3 : Int32))), .val (.int (0 : Int32))]) rfl <| XS.aload X5.here hx rfl (hb hby at_308) rfl rfl <| XS.aload X5.here hx rfl (hb hby at_310) rfl rfl <| k) ?_
                            show own_EndsW p e below s _ _ _ (T5.setTop (mkF m 312 #[.val (.int p1), .val (.int p2), .val (.int p3), .val (.int p4), .val (.int p5), .val (.long q5), .second, .val (.long q7), .second, .val (.long q9), .second, .val (.long q11), .second, .val (.long q13), .second, .val (.long q15), .second, .val (.long q17), .second, .val (.long (own_maxL w19 q17)), .second, .val (.ref b2), .val (.ref b4), .val (.int (((p5.toUInt32 >>> ((4 : Int32) &&& 31).toUInt32).toInt32) &&& (3 : Int32))), .val (.int (0 : Int32))] [(.ref b4), (.ref b2)]))
                            obtain ⟨cq23, kq23, q23a, q23b, q23c⟩ := isOf hZ rfl A2'5
                            obtain ⟨_, _, ⟨T23, L23, k23, n23⟩, -, X23, ⟨Lc23, hQ23, l23, y23, z23⟩, st23⟩ := X5.virtualBack hx (y := (⟨"com/example/expiry/expiry/model/Push", "equals", "(Ljava/lang/Object;)Z"⟩ : MethodName)) (z := (⟨"com/example/expiry/expiry/model/Push", "equals", "(Ljava/lang/Object;)Z"⟩ : MethodName)) hown (mvT hZ (hw _ (List.mem_of_getElem? (i := 38) rfl))) (mvT hZ (hw _ (List.mem_of_getElem? (i := 39) rfl))) (notFace_of_selects (args := #[]) (mvT hZ (hw _ (List.mem_of_getElem? (i := 41) rfl)))) (mvT hZ (hw _ (List.mem_of_getElem? (i := 41) rfl))) (mvT hZ (hw _ (List.mem_of_getElem? (i := 40) rfl))) (by decide) (backOf (W := 0) (rmEP l Z a0 hw [] b2 b4 (q5.toInt32) (q7.toInt32) (q9.toInt32) (q11.toInt32) (q13.toInt32) (q15.toInt32) (q17.toInt32) ((own_maxL w19 q17).toInt32) T5.heap n0 Z5 A4'5 Fc03'5 Fc13'5 Fc23'5 Fc33'5 Fc05 Fc15 Fc25 Fc35) hZ (hw _ (List.mem_of_getElem? (i := 42) rfl)) (hw _ (List.mem_of_getElem? (i := 8) rfl)) (by decide) (by decide)) q23a q23c (g := (mkF m 312 #[.val (.int p1), .val (.int p2), .val (.int p3), .val (.int p4), .val (.int p5), .val (.long q5), .second, .val (.long q7), .second, .val (.long q9), .second, .val (.long q11), .second, .val (.long q13), .second, .val (.long q15), .second, .val (.long q17), .second, .val (.long (own_maxL w19 q17)), .second, .val (.ref b2), .val (.ref b4), .val (.int (((p5.toUInt32 >>> ((4 : Int32) &&& 31).toUInt32).toInt32) &&& (3 : Int32))), .val (.int (0 : Int32))] [(.ref b4), (.ref b2)])) rfl (by rw [hml]; rfl) (Steps.refl _) (argsL := [(.ref b4)]) (rest := []) (lenOf pd_4 rfl) rfl (by show 2 * 0 + _ ≤ _; exact Nat.le_of_eq rfl) (hb hby at_312) (fun _ _ => ⟨rfl, rfl, Nat.le_of_ble_eq_true rfl, Nat.le_of_ble_eq_true rfl⟩)
                            dsimp only [Pt.U, Pt.locs, Pt.cells, Pt.slots] at X23 l23 y23 z23 st23 hQ23
                            subst l23 y23 z23
                            obtain ⟨rfl, N23q, e23⟩ := hQ23
                            have N23 := Fr.app N5 N23q
                            refine own_goW (fun _ k => st23.trans k) ?_
                            show own_EndsW p e below s _ _ _ (T23.setTop (mkF m 315 #[.val (.int p1), .val (.int p2), .val (.int p3), .val (.int p4), .val (.int p5), .val (.long q5), .second, .val (.long q7), .second, .val (.long q9), .second, .val (.long q11), .second, .val (.long q13), .second, .val (.long q15), .second, .val (.long q17), .second, .val (.long (own_maxL w19 q17)), .second, .val (.ref b2), .val (.ref b4), .val (.int (((p5.toUInt32 >>> ((4 : Int32) &&& 31).toUInt32).toInt32) &&& (3 : Int32))), .val (.int (0 : Int32))] [(.int (own_eq (q5.toInt32) (q7.toInt32) (q9.toInt32) (q11.toInt32) (q13.toInt32) (q15.toInt32) (q17.toInt32) ((own_maxL w19 q17).toInt32)))]))
                            refine own_goW (fun _ k => XS.iload X23.here hx rfl (hb hby at_315) rfl <| XS.icmpNo X23.here hx rfl (hb hby at_317) rfl (teq (by unfold own_eq; rw [if_pos (congrArg Int64.toInt32 hc274_13), if_neg (own_ne ⟨hq7.1, Int.le_trans hq7.2 (by decide)⟩ ⟨hq15.1, Int.le_trans hq15.2 (by decide)⟩ hc282_14)])).2 <| XS.aload X23.here hx rfl (hb hby at_320) rfl rfl <| XS.aload X23.here hx rfl (hb hby at_322) rfl rfl <| k) ?_
                            show own_EndsW p e below s _ _ _ (T23.setTop (mkF m 324 #[.val (.int p1), .val (.int p2), .val (.int p3), .val (.int p4), .val (.int p5), .val (.long q5), .second, .val (.long q7), .second, .val (.long q9), .second, .val (.long q11), .second, .val (.long q13), .second, .val (.long q15), .second, .val (.long q17), .second, .val (.long (own_maxL w19 q17)), .second, .val (.ref b2), .val (.ref b4), .val (.int (((p5.toUInt32 >>> ((4 : Int32) &&& 31).toUInt32).toInt32) &&& (3 : Int32))), .val (.int (0 : Int32))] [(.ref b2), (.ref b4)]))
                            obtain ⟨cq24, kq24, q24a, q24b, q24c⟩ := isOf hZ e23 A4'5
                            obtain ⟨_, _, ⟨T24, L24, k24, n24⟩, -, X24, ⟨Lc24, hQ24, l24, y24, z24⟩, st24⟩ := X23.virtualBack hx (y := (⟨"com/example/expiry/expiry/model/Push", "equals", "(Ljava/lang/Object;)Z"⟩ : MethodName)) (z := (⟨"com/example/expiry/expiry/model/Push", "equals", "(Ljava/lang/Object;)Z"⟩ : MethodName)) hown (mvT hZ (hw _ (List.mem_of_getElem? (i := 38) rfl))) (mvT hZ (hw _ (List.mem_of_getElem? (i := 39) rfl))) (notFace_of_selects (args := #[]) (mvT hZ (hw _ (List.mem_of_getElem? (i := 41) rfl)))) (mvT hZ (hw _ (List.mem_of_getElem? (i := 41) rfl))) (mvT hZ (hw _ (List.mem_of_getElem? (i := 40) rfl))) (by decide) (backOf (W := 0) (rmEP l Z a0 hw [] b4 b2 (q13.toInt32) (q15.toInt32) (q17.toInt32) ((own_maxL w19 q17).toInt32) (q5.toInt32) (q7.toInt32) (q9.toInt32) (q11.toInt32) T5.heap n0 Z5 A2'5 Fc05 Fc15 Fc25 Fc35 Fc03'5 Fc13'5 Fc23'5 Fc33'5) hZ (hw _ (List.mem_of_getElem? (i := 42) rfl)) (hw _ (List.mem_of_getElem? (i := 8) rfl)) (by decide) (by decide)) q24a q24c (g := (mkF m 324 #[.val (.int p1), .val (.int p2), .val (.int p3), .val (.int p4), .val (.int p5), .val (.long q5), .second, .val (.long q7), .second, .val (.long q9), .second, .val (.long q11), .second, .val (.long q13), .second, .val (.long q15), .second, .val (.long q17), .second, .val (.long (own_maxL w19 q17)), .second, .val (.ref b2), .val (.ref b4), .val (.int (((p5.toUInt32 >>> ((4 : Int32) &&& 31).toUInt32).toInt32) &&& (3 : Int32))), .val (.int (0 : Int32))] [(.ref b2), (.ref b4)])) rfl (by rw [hml]; rfl) (Steps.refl _) (argsL := [(.ref b2)]) (rest := []) (lenOf pd_4 rfl) rfl (by show 2 * 0 + _ ≤ _; exact Nat.le_of_eq rfl) (hb hby at_324) (fun _ _ => ⟨rfl, e23, Nat.le_of_ble_eq_true rfl, Nat.le_of_ble_eq_true rfl⟩)
                            dsimp only [Pt.U, Pt.locs, Pt.cells, Pt.slots] at X24 l24 y24 z24 st24 hQ24
                            subst l24 y24 z24
                            obtain ⟨rfl, N24q, e24⟩ := hQ24
                            have N24 := Fr.app N23 N24q
                            refine own_goW (fun _ k => st24.trans k) ?_
                            show own_EndsW p e below s _ _ _ (T24.setTop (mkF m 327 #[.val (.int p1), .val (.int p2), .val (.int p3), .val (.int p4), .val (.int p5), .val (.long q5), .second, .val (.long q7), .second, .val (.long q9), .second, .val (.long q11), .second, .val (.long q13), .second, .val (.long q15), .second, .val (.long q17), .second, .val (.long (own_maxL w19 q17)), .second, .val (.ref b2), .val (.ref b4), .val (.int (((p5.toUInt32 >>> ((4 : Int32) &&& 31).toUInt32).toInt32) &&& (3 : Int32))), .val (.int (0 : Int32))] [(.int (own_eq (q13.toInt32) (q15.toInt32) (q17.toInt32) ((own_maxL w19 q17).toInt32) (q5.toInt32) (q7.toInt32) (q9.toInt32) (q11.toInt32)))]))
                            refine own_goW (fun _ k => XS.iload X24.here hx rfl (hb hby at_327) rfl <| XS.icmpNo X24.here hx rfl (hb hby at_329) rfl (teq (by unfold own_eq; rw [if_pos (congrArg Int64.toInt32 hc274_13.symm), if_neg (own_ne ⟨hq15.1, Int.le_trans hq15.2 (by decide)⟩ ⟨hq7.1, Int.le_trans hq7.2 (by decide)⟩ (fun z => hc282_14 z.symm))])).2 <| XT.iconstV X24.here hx rfl (1 : Int32) (hb hby at_332) rfl <| XS.goto X24.here hx rfl (pc0 := 333) (pc' := 337) rfl (hb hby at_333) (by decide) (by decide) <| k) ?_
                            show own_EndsW p e below s _ _ _ (T24.setTop (mkF m 337 #[.val (.int p1), .val (.int p2), .val (.int p3), .val (.int p4), .val (.int p5), .val (.long q5), .second, .val (.long q7), .second, .val (.long q9), .second, .val (.long q11), .second, .val (.long q13), .second, .val (.long q15), .second, .val (.long q17), .second, .val (.long (own_maxL w19 q17)), .second, .val (.ref b2), .val (.ref b4), .val (.int (((p5.toUInt32 >>> ((4 : Int32) &&& 31).toUInt32).toInt32) &&& (3 : Int32))), .val (.int (0 : Int32))] [(.int (1 : Int32))]))
                            exact own_retNW X24 hx (t := .boolean) hrt (by simp) hS5 (by first | exact (Nat.le_refl _) | (rw [e24]; exact (Nat.le_refl _))) (hb hby at_337) hlk (show nar .boolean (1 : Int32) = (1 : Int32) from by decide) (by rw [e24]; exact ⟨rfl, N24⟩) (by decide) (by decide)
                        · -- false
                          refine own_goW (fun _ k => XS.ifYes X5.here hx rfl (pc0 := 274) (pc' := 305) rfl (hb hby at_274) rfl ((if0 _ _).trans (feq (fun q => hc274_13 ((lw_eq _ _).mp q))).2) (by decide) (by decide) <| XT.iconstV X5.here hx rfl (0 : Int32) (hb hby at_305) rfl <| XS.istore X5.here hx rfl (hb hby at_306) rfl (l' := #[.val (.int p1), .val (.int p2), .val (.int p3), .val (.int p4), .val (.int p5), .val (.long q5), .second, .val (.long q7), .second, .val (.long q9), .second, .val (.long q11), .second, .val (.long q13), .second, .val (.long q15), .second, .val (.long q17), .second, .val (.long (own_maxL w19 q17)), .second, .val (.ref b2), .val (.ref b4), .val (.int (((p5.toUInt32 >>> ((4 : Int32) &&& 31).toUInt32).toInt32) &&& (3 : Int32))), .val (.int (0 : Int32))]) rfl <| XS.aload X5.here hx rfl (hb hby at_308) rfl rfl <| XS.aload X5.here hx rfl (hb hby at_310) rfl rfl <| k) ?_
                          show own_EndsW p e below s _ _ _ (T5.setTop (mkF m 312 #[.val (.int p1), .val (.int p2), .val (.int p3), .val (.int p4), .val (.int p5), .val (.long q5), .second, .val (.long q7), .second, .val (.long q9), .second, .val (.long q11), .second, .val (.long q13), .second, .val (.long q15), .second, .val (.long q17), .second, .val (.long (own_maxL w19 q17)), .second, .val (.ref b2), .val (.ref b4), .val (.int (((p5.toUInt32 >>> ((4 : Int32) &&& 31).toUInt32).toInt32) &&& (3 : Int32))), .val (.int (0 : Int32))] [(.ref b4), (.ref b2)]))
                          obtain ⟨cq25, kq25, q25a, q25b, q25c⟩ := isOf hZ rfl A2'5
                          obtain ⟨_, _, ⟨T25, L25, k25, n25⟩, -, X25, ⟨Lc25, hQ25, l25, y25, z25⟩, st25⟩ := X5.virtualBack hx (y := (⟨"com/example/expiry/expiry/model/Push", "equals", "(Ljava/lang/Object;)Z"⟩ : MethodName)) (z := (⟨"com/example/expiry/expiry/model/Push", "equals", "(Ljava/lang/Object;)Z"⟩ : MethodName)) hown (mvT hZ (hw _ (List.mem_of_getElem? (i := 38) rfl))) (mvT hZ (hw _ (List.mem_of_getElem? (i := 39) rfl))) (notFace_of_selects (args := #[]) (mvT hZ (hw _ (List.mem_of_getElem? (i := 41) rfl)))) (mvT hZ (hw _ (List.mem_of_getElem? (i := 41) rfl))) (mvT hZ (hw _ (List.mem_of_getElem? (i := 40) rfl))) (by decide) (backOf (W := 0) (rmEP l Z a0 hw [] b2 b4 (q5.toInt32) (q7.toInt32) (q9.toInt32) (q11.toInt32) (q13.toInt32) (q15.toInt32) (q17.toInt32) ((own_maxL w19 q17).toInt32) T5.heap n0 Z5 A4'5 Fc03'5 Fc13'5 Fc23'5 Fc33'5 Fc05 Fc15 Fc25 Fc35) hZ (hw _ (List.mem_of_getElem? (i := 42) rfl)) (hw _ (List.mem_of_getElem? (i := 8) rfl)) (by decide) (by decide)) q25a q25c (g := (mkF m 312 #[.val (.int p1), .val (.int p2), .val (.int p3), .val (.int p4), .val (.int p5), .val (.long q5), .second, .val (.long q7), .second, .val (.long q9), .second, .val (.long q11), .second, .val (.long q13), .second, .val (.long q15), .second, .val (.long q17), .second, .val (.long (own_maxL w19 q17)), .second, .val (.ref b2), .val (.ref b4), .val (.int (((p5.toUInt32 >>> ((4 : Int32) &&& 31).toUInt32).toInt32) &&& (3 : Int32))), .val (.int (0 : Int32))] [(.ref b4), (.ref b2)])) rfl (by rw [hml]; rfl) (Steps.refl _) (argsL := [(.ref b4)]) (rest := []) (lenOf pd_4 rfl) rfl (by show 2 * 0 + _ ≤ _; exact Nat.le_of_eq rfl) (hb hby at_312) (fun _ _ => ⟨rfl, rfl, Nat.le_of_ble_eq_true rfl, Nat.le_of_ble_eq_true rfl⟩)
                          dsimp only [Pt.U, Pt.locs, Pt.cells, Pt.slots] at X25 l25 y25 z25 st25 hQ25
                          subst l25 y25 z25
                          obtain ⟨rfl, N25q, e25⟩ := hQ25
                          have N25 := Fr.app N5 N25q
                          refine own_goW (fun _ k => st25.trans k) ?_
                          show own_EndsW p e below s _ _ _ (T25.setTop (mkF m 315 #[.val (.int p1), .val (.int p2), .val (.int p3), .val (.int p4), .val (.int p5), .val (.long q5), .second, .val (.long q7), .second, .val (.long q9), .second, .val (.long q11), .second, .val (.long q13), .second, .val (.long q15), .second, .val (.long q17), .second, .val (.long (own_maxL w19 q17)), .second, .val (.ref b2), .val (.ref b4), .val (.int (((p5.toUInt32 >>> ((4 : Int32) &&& 31).toUInt32).toInt32) &&& (3 : Int32))), .val (.int (0 : Int32))] [(.int (own_eq (q5.toInt32) (q7.toInt32) (q9.toInt32) (q11.toInt32) (q13.toInt32) (q15.toInt32) (q17.toInt32) ((own_maxL w19 q17).toInt32)))]))
                          refine own_goW (fun _ k => XS.iload X25.here hx rfl (hb hby at_315) rfl <| XS.icmpNo X25.here hx rfl (hb hby at_317) rfl (teq (by unfold own_eq; rw [if_neg (own_ne ⟨hq5.1, Int.le_trans hq5.2 (by decide)⟩ ⟨hq13.1, Int.le_trans hq13.2 (by decide)⟩ hc274_13)])).2 <| XS.aload X25.here hx rfl (hb hby at_320) rfl rfl <| XS.aload X25.here hx rfl (hb hby at_322) rfl rfl <| k) ?_
                          show own_EndsW p e below s _ _ _ (T25.setTop (mkF m 324 #[.val (.int p1), .val (.int p2), .val (.int p3), .val (.int p4), .val (.int p5), .val (.long q5), .second, .val (.long q7), .second, .val (.long q9), .second, .val (.long q11), .second, .val (.long q13), .second, .val (.long q15), .second, .val (.long q17), .second, .val (.long (own_maxL w19 q17)), .second, .val (.ref b2), .val (.ref b4), .val (.int (((p5.toUInt32 >>> ((4 : Int32) &&& 31).toUInt32).toInt32) &&& (3 : Int32))), .val (.int (0 : Int32))] [(.ref b2), (.ref b4)]))
                          obtain ⟨cq26, kq26, q26a, q26b, q26c⟩ := isOf hZ e25 A4'5
                          obtain ⟨_, _, ⟨T26, L26, k26, n26⟩, -, X26, ⟨Lc26, hQ26, l26, y26, z26⟩, st26⟩ := X25.virtualBack hx (y := (⟨"com/example/expiry/expiry/model/Push", "equals", "(Ljava/lang/Object;)Z"⟩ : MethodName)) (z := (⟨"com/example/expiry/expiry/model/Push", "equals", "(Ljava/lang/Object;)Z"⟩ : MethodName)) hown (mvT hZ (hw _ (List.mem_of_getElem? (i := 38) rfl))) (mvT hZ (hw _ (List.mem_of_getElem? (i := 39) rfl))) (notFace_of_selects (args := #[]) (mvT hZ (hw _ (List.mem_of_getElem? (i := 41) rfl)))) (mvT hZ (hw _ (List.mem_of_getElem? (i := 41) rfl))) (mvT hZ (hw _ (List.mem_of_getElem? (i := 40) rfl))) (by decide) (backOf (W := 0) (rmEP l Z a0 hw [] b4 b2 (q13.toInt32) (q15.toInt32) (q17.toInt32) ((own_maxL w19 q17).toInt32) (q5.toInt32) (q7.toInt32) (q9.toInt32) (q11.toInt32) T5.heap n0 Z5 A2'5 Fc05 Fc15 Fc25 Fc35 Fc03'5 Fc13'5 Fc23'5 Fc33'5) hZ (hw _ (List.mem_of_getElem? (i := 42) rfl)) (hw _ (List.mem_of_getElem? (i := 8) rfl)) (by decide) (by decide)) q26a q26c (g := (mkF m 324 #[.val (.int p1), .val (.int p2), .val (.int p3), .val (.int p4), .val (.int p5), .val (.long q5), .second, .val (.long q7), .second, .val (.long q9), .second, .val (.long q11), .second, .val (.long q13), .second, .val (.long q15), .second, .val (.long q17), .second, .val (.long (own_maxL w19 q17)), .second, .val (.ref b2), .val (.ref b4), .val (.int (((p5.toUInt32 >>> ((4 : Int32) &&& 31).toUInt32).toInt32) &&& (3 : Int32))), .val (.int (0 : Int32))] [(.ref b2), (.ref b4)])) rfl (by rw [hml]; rfl) (Steps.refl _) (argsL := [(.ref b2)]) (rest := []) (lenOf pd_4 rfl) rfl (by show 2 * 0 + _ ≤ _; exact Nat.le_of_eq rfl) (hb hby at_324) (fun _ _ => ⟨rfl, e25, Nat.le_of_ble_eq_true rfl, Nat.le_of_ble_eq_true rfl⟩)
                          dsimp only [Pt.U, Pt.locs, Pt.cells, Pt.slots] at X26 l26 y26 z26 st26 hQ26
                          subst l26 y26 z26
                          obtain ⟨rfl, N26q, e26⟩ := hQ26
                          have N26 := Fr.app N25 N26q
                          refine own_goW (fun _ k => st26.trans k) ?_
                          show own_EndsW p e below s _ _ _ (T26.setTop (mkF m 327 #[.val (.int p1), .val (.int p2), .val (.int p3), .val (.int p4), .val (.int p5), .val (.long q5), .second, .val (.long q7), .second, .val (.long q9), .second, .val (.long q11), .second, .val (.long q13), .second, .val (.long q15), .second, .val (.long q17), .second, .val (.long (own_maxL w19 q17)), .second, .val (.ref b2), .val (.ref b4), .val (.int (((p5.toUInt32 >>> ((4 : Int32) &&& 31).toUInt32).toInt32) &&& (3 : Int32))), .val (.int (0 : Int32))] [(.int (own_eq (q13.toInt32) (q15.toInt32) (q17.toInt32) ((own_maxL w19 q17).toInt32) (q5.toInt32) (q7.toInt32) (q9.toInt32) (q11.toInt32)))]))
                          refine own_goW (fun _ k => XS.iload X26.here hx rfl (hb hby at_327) rfl <| XS.icmpNo X26.here hx rfl (hb hby at_329) rfl (teq (by unfold own_eq; rw [if_neg (own_ne ⟨hq13.1, Int.le_trans hq13.2 (by decide)⟩ ⟨hq5.1, Int.le_trans hq5.2 (by decide)⟩ (fun z => hc274_13 z.symm))])).2 <| XT.iconstV X26.here hx rfl (1 : Int32) (hb hby at_332) rfl <| XS.goto X26.here hx rfl (pc0 := 333) (pc' := 337) rfl (hb hby at_333) (by decide) (by decide) <| k) ?_
                          show own_EndsW p e below s _ _ _ (T26.setTop (mkF m 337 #[.val (.int p1), .val (.int p2), .val (.int p3), .val (.int p4), .val (.int p5), .val (.long q5), .second, .val (.long q7), .second, .val (.long q9), .second, .val (.long q11), .second, .val (.long q13), .second, .val (.long q15), .second, .val (.long q17), .second, .val (.long (own_maxL w19 q17)), .second, .val (.ref b2), .val (.ref b4), .val (.int (((p5.toUInt32 >>> ((4 : Int32) &&& 31).toUInt32).toInt32) &&& (3 : Int32))), .val (.int (0 : Int32))] [(.int (1 : Int32))]))
                          exact own_retNW X26 hx (t := .boolean) hrt (by simp) hS5 (by first | exact (Nat.le_refl _) | (rw [e26]; exact (Nat.le_refl _))) (hb hby at_337) hlk (show nar .boolean (1 : Int32) = (1 : Int32) from by decide) (by rw [e26]; exact ⟨rfl, N26⟩) (by decide) (by decide)
                refine own_goW (fun _ k => XS.iload X0.here hx rfl (hb hby at_122) rfl <| XT.bipushV X0.here hx rfl (8 : Int32) (hb hby at_124) rfl <| XS.iand X0.here hx rfl (hb hby at_126) rfl <| k) ?_
                show own_EndsW p e below s _ _ _ (s₁.setTop (mkF m 127 #[.val (.int p1), .val (.int p2), .val (.int p3), .val (.int p4), .val (.int p5), .val (.long q5), .second, .val (.long q7), .second, .val (.long q9), .second, .val (.long q11), .second, .val (.long q13), .second, .val (.long q15), .second, .val (.long q17), .second, .unset, .unset, .unset, .unset, .unset, .unset] [(.int (p5 &&& (8 : Int32)))]))
                by_cases hc127_27 : (p5 &&& (8 : Int32)) = (0 : Int32)
                · -- true
                  refine own_goW (fun _ k => XS.ifYes X0.here hx rfl (pc0 := 127) (pc' := 151) rfl (hb hby at_127) rfl ((if0 _ _).trans (teq hc127_27).1) (by decide) (by decide) <| XS.lload X0.here hx rfl (hb hby at_151) rfl <| XS.lstore X0.here hx rfl (hb hby at_153) rfl (l' := #[.val (.int p1), .val (.int p2), .val (.int p3), .val (.int p4), .val (.int p5), .val (.long q5), .second, .val (.long q7), .second, .val (.long q9), .second, .val (.long q11), .second, .val (.long q13), .second, .val (.long q15), .second, .val (.long q17), .second, .val (.long q11), .second, .unset, .unset, .unset, .unset]) rfl <| k) ?_
                  show own_EndsW p e below s _ _ _ (s₁.setTop (mkF m 155 #[.val (.int p1), .val (.int p2), .val (.int p3), .val (.int p4), .val (.int p5), .val (.long q5), .second, .val (.long q7), .second, .val (.long q9), .second, .val (.long q11), .second, .val (.long q13), .second, .val (.long q15), .second, .val (.long q17), .second, .val (.long q11), .second, .unset, .unset, .unset, .unset] []))
                  exact J155 _ ⟨Int.le_trans hq9.1 hq11.1, hq11.2⟩
                · -- false
                  refine own_goW (fun _ k => XS.ifNo X0.here hx rfl (hb hby at_127) rfl ((if0 _ _).trans (feq hc127_27).1) <| XS.lload X0.here hx rfl (hb hby at_130) rfl <| X0.ldc2J hx hown (mvT hZ (hw _ (List.mem_of_getElem? (i := 48) rfl))) rfl (hb hby at_132) <| XS.lcmp X0.here hx rfl (hb hby at_135) rfl <| k) ?_
                  show own_EndsW p e below s _ _ _ (s₁.setTop (mkF m 136 #[.val (.int p1), .val (.int p2), .val (.int p3), .val (.int p4), .val (.int p5), .val (.long q5), .second, .val (.long q7), .second, .val (.long q9), .second, .val (.long q11), .second, .val (.long q13), .second, .val (.long q15), .second, .val (.long q17), .second, .unset, .unset, .unset, .unset, .unset, .unset] [(.int (lcmpW q11 (86400 : Int64)))]))
                  by_cases hc136_28 : q11 = (86400 : Int64)
                  · -- true
                    refine own_goW (fun _ k => XS.ifNo X0.here hx rfl (hb hby at_136) rfl ((if0 _ _).trans (teq ((lw_eq _ _).mpr hc136_28)).2) <| XS.lload X0.here hx rfl (hb hby at_139) rfl <| XS.goto X0.here hx rfl (pc0 := 141) (pc' := 153) rfl (hb hby at_141) (by decide) (by decide) <| XS.lstore X0.here hx rfl (hb hby at_153) rfl (l' := #[.val (.int p1), .val (.int p2), .val (.int p3), .val (.int p4), .val (.int p5), .val (.long q5), .second, .val (.long q7), .second, .val (.long q9), .second, .val (.long q11), .second, .val (.long q13), .second, .val (.long q15), .second, .val (.long q17), .second, .val (.long q17), .second, .unset, .unset, .unset, .unset]) rfl <| k) ?_
                    show own_EndsW p e below s _ _ _ (s₁.setTop (mkF m 155 #[.val (.int p1), .val (.int p2), .val (.int p3), .val (.int p4), .val (.int p5), .val (.long q5), .second, .val (.long q7), .second, .val (.long q9), .second, .val (.long q11), .second, .val (.long q13), .second, .val (.long q15), .second, .val (.long q17), .second, .val (.long q17), .second, .unset, .unset, .unset, .unset] []))
                    exact J155 _ ⟨hq17.1, Int.le_trans hq17.2 (by decide)⟩
                  · -- false
                    refine own_goW (fun _ k => XS.ifYes X0.here hx rfl (pc0 := 136) (pc' := 144) rfl (hb hby at_136) rfl ((if0 _ _).trans (feq (fun q => hc136_28 ((lw_eq _ _).mp q))).2) (by decide) (by decide) <| XS.lload X0.here hx rfl (hb hby at_144) rfl <| XT.lconstV X0.here hx rfl (1 : Int64) (hb hby at_146) rfl <| XS.ladd X0.here hx rfl (hb hby at_147) rfl <| XS.goto X0.here hx rfl (pc0 := 148) (pc' := 153) rfl (hb hby at_148) (by decide) (by decide) <| XS.lstore X0.here hx rfl (hb hby at_153) rfl (l' := #[.val (.int p1), .val (.int p2), .val (.int p3), .val (.int p4), .val (.int p5), .val (.long q5), .second, .val (.long q7), .second, .val (.long q9), .second, .val (.long q11), .second, .val (.long q13), .second, .val (.long q15), .second, .val (.long q17), .second, .val (.long (q11 + (1 : Int64))), .second, .unset, .unset, .unset, .unset]) rfl <| k) ?_
                    show own_EndsW p e below s _ _ _ (s₁.setTop (mkF m 155 #[.val (.int p1), .val (.int p2), .val (.int p3), .val (.int p4), .val (.int p5), .val (.long q5), .second, .val (.long q7), .second, .val (.long q9), .second, .val (.long q11), .second, .val (.long q13), .second, .val (.long q15), .second, .val (.long q17), .second, .val (.long (q11 + (1 : Int64))), .second, .unset, .unset, .unset, .unset] []))
                    exact J155 _ (own_s1 ⟨Int.le_trans hq9.1 hq11.1, hq11.2⟩ hc136_28)
              refine own_goW (fun _ k => XS.iload X0.here hx rfl (hb hby at_100) rfl <| XT.iconstV X0.here hx rfl (4 : Int32) (hb hby at_102) rfl <| XS.iand X0.here hx rfl (hb hby at_103) rfl <| k) ?_
              show own_EndsW p e below s _ _ _ (s₁.setTop (mkF m 104 #[.val (.int p1), .val (.int p2), .val (.int p3), .val (.int p4), .val (.int p5), .val (.long q5), .second, .val (.long q7), .second, .val (.long q9), .second, .val (.long q11), .second, .val (.long q13), .second, .val (.long q15), .second, .unset, .unset, .unset, .unset, .unset, .unset, .unset, .unset] [(.int (p5 &&& (4 : Int32)))]))
              by_cases hc104_29 : (p5 &&& (4 : Int32)) = (0 : Int32)
              · -- true
                refine own_goW (fun _ k => XS.ifYes X0.here hx rfl (pc0 := 104) (pc' := 118) rfl (hb hby at_104) rfl ((if0 _ _).trans (teq hc104_29).1) (by decide) (by decide) <| XS.lload X0.here hx rfl (hb hby at_118) rfl <| XS.lstore X0.here hx rfl (hb hby at_120) rfl (l' := #[.val (.int p1), .val (.int p2), .val (.int p3), .val (.int p4), .val (.int p5), .val (.long q5), .second, .val (.long q7), .second, .val (.long q9), .second, .val (.long q11), .second, .val (.long q13), .second, .val (.long q15), .second, .val (.long q9), .second, .unset, .unset, .unset, .unset, .unset, .unset]) rfl <| k) ?_
                show own_EndsW p e below s _ _ _ (s₁.setTop (mkF m 122 #[.val (.int p1), .val (.int p2), .val (.int p3), .val (.int p4), .val (.int p5), .val (.long q5), .second, .val (.long q7), .second, .val (.long q9), .second, .val (.long q11), .second, .val (.long q13), .second, .val (.long q15), .second, .val (.long q9), .second, .unset, .unset, .unset, .unset, .unset, .unset] []))
                exact J122 _ hq9
              · -- false
                refine own_goW (fun _ k => XS.ifNo X0.here hx rfl (hb hby at_104) rfl ((if0 _ _).trans (feq hc104_29).1) <| XT.lconstV X0.here hx rfl (1 : Int64) (hb hby at_107) rfl <| XS.lload X0.here hx rfl (hb hby at_108) rfl <| X0.ldc2J hx hown (mvT hZ (hw _ (List.mem_of_getElem? (i := 47) rfl))) rfl (hb hby at_110) <| XS.lrem X0.here hx rfl (hb hby at_113) rfl (by decide) <| XS.ladd X0.here hx rfl (hb hby at_114) rfl <| XS.goto X0.here hx rfl (pc0 := 115) (pc' := 120) rfl (hb hby at_115) (by decide) (by decide) <| XS.lstore X0.here hx rfl (hb hby at_120) rfl (l' := #[.val (.int p1), .val (.int p2), .val (.int p3), .val (.int p4), .val (.int p5), .val (.long q5), .second, .val (.long q7), .second, .val (.long q9), .second, .val (.long q11), .second, .val (.long q13), .second, .val (.long q15), .second, .val (.long ((1 : Int64) + (q9 - (q9 / (3600 : Int64)) * (3600 : Int64)))), .second, .unset, .unset, .unset, .unset, .unset, .unset]) rfl <| k) ?_
                show own_EndsW p e below s _ _ _ (s₁.setTop (mkF m 122 #[.val (.int p1), .val (.int p2), .val (.int p3), .val (.int p4), .val (.int p5), .val (.long q5), .second, .val (.long q7), .second, .val (.long q9), .second, .val (.long q11), .second, .val (.long q13), .second, .val (.long q15), .second, .val (.long ((1 : Int64) + (q9 - (q9 / (3600 : Int64)) * (3600 : Int64)))), .second, .unset, .unset, .unset, .unset, .unset, .unset] []))
                exact J122 _ (own_r2 3600 3600 (by decide) (by decide) (by decide) hq9.1)
            refine own_goW (fun _ k => XS.iload X0.here hx rfl (hb hby at_78) rfl <| XT.iconstV X0.here hx rfl (2 : Int32) (hb hby at_80) rfl <| XS.iand X0.here hx rfl (hb hby at_81) rfl <| k) ?_
            show own_EndsW p e below s _ _ _ (s₁.setTop (mkF m 82 #[.val (.int p1), .val (.int p2), .val (.int p3), .val (.int p4), .val (.int p5), .val (.long q5), .second, .val (.long q7), .second, .val (.long q9), .second, .val (.long q11), .second, .val (.long q13), .second, .unset, .unset, .unset, .unset, .unset, .unset, .unset, .unset, .unset, .unset] [(.int (p5 &&& (2 : Int32)))]))
            by_cases hc82_30 : (p5 &&& (2 : Int32)) = (0 : Int32)
            · -- true
              refine own_goW (fun _ k => XS.ifYes X0.here hx rfl (pc0 := 82) (pc' := 96) rfl (hb hby at_82) rfl ((if0 _ _).trans (teq hc82_30).1) (by decide) (by decide) <| XS.lload X0.here hx rfl (hb hby at_96) rfl <| XS.lstore X0.here hx rfl (hb hby at_98) rfl (l' := #[.val (.int p1), .val (.int p2), .val (.int p3), .val (.int p4), .val (.int p5), .val (.long q5), .second, .val (.long q7), .second, .val (.long q9), .second, .val (.long q11), .second, .val (.long q13), .second, .val (.long q7), .second, .unset, .unset, .unset, .unset, .unset, .unset, .unset, .unset]) rfl <| k) ?_
              show own_EndsW p e below s _ _ _ (s₁.setTop (mkF m 100 #[.val (.int p1), .val (.int p2), .val (.int p3), .val (.int p4), .val (.int p5), .val (.long q5), .second, .val (.long q7), .second, .val (.long q9), .second, .val (.long q11), .second, .val (.long q13), .second, .val (.long q7), .second, .unset, .unset, .unset, .unset, .unset, .unset, .unset, .unset] []))
              exact J100 _ hq7
            · -- false
              refine own_goW (fun _ k => XS.ifNo X0.here hx rfl (hb hby at_82) rfl ((if0 _ _).trans (feq hc82_30).1) <| XT.lconstV X0.here hx rfl (1 : Int64) (hb hby at_85) rfl <| XS.lload X0.here hx rfl (hb hby at_86) rfl <| X0.ldc2J hx hown (mvT hZ (hw _ (List.mem_of_getElem? (i := 46) rfl))) rfl (hb hby at_88) <| XS.lrem X0.here hx rfl (hb hby at_91) rfl (by decide) <| XS.ladd X0.here hx rfl (hb hby at_92) rfl <| XS.goto X0.here hx rfl (pc0 := 93) (pc' := 98) rfl (hb hby at_93) (by decide) (by decide) <| XS.lstore X0.here hx rfl (hb hby at_98) rfl (l' := #[.val (.int p1), .val (.int p2), .val (.int p3), .val (.int p4), .val (.int p5), .val (.long q5), .second, .val (.long q7), .second, .val (.long q9), .second, .val (.long q11), .second, .val (.long q13), .second, .val (.long ((1 : Int64) + (q7 - (q7 / (256 : Int64)) * (256 : Int64)))), .second, .unset, .unset, .unset, .unset, .unset, .unset, .unset, .unset]) rfl <| k) ?_
              show own_EndsW p e below s _ _ _ (s₁.setTop (mkF m 100 #[.val (.int p1), .val (.int p2), .val (.int p3), .val (.int p4), .val (.int p5), .val (.long q5), .second, .val (.long q7), .second, .val (.long q9), .second, .val (.long q11), .second, .val (.long q13), .second, .val (.long ((1 : Int64) + (q7 - (q7 / (256 : Int64)) * (256 : Int64)))), .second, .unset, .unset, .unset, .unset, .unset, .unset, .unset, .unset] []))
              exact J100 _ (own_r2 256 256 (by decide) (by decide) (by decide) hq7.1)
          refine own_goW (fun _ k => XS.iload X0.here hx rfl (hb hby at_56) rfl <| XT.iconstV X0.here hx rfl (1 : Int32) (hb hby at_58) rfl <| XS.iand X0.here hx rfl (hb hby at_59) rfl <| k) ?_
          show own_EndsW p e below s _ _ _ (s₁.setTop (mkF m 60 #[.val (.int p1), .val (.int p2), .val (.int p3), .val (.int p4), .val (.int p5), .val (.long q5), .second, .val (.long q7), .second, .val (.long q9), .second, .val (.long q11), .second, .unset, .unset, .unset, .unset, .unset, .unset, .unset, .unset, .unset, .unset, .unset, .unset] [(.int (p5 &&& (1 : Int32)))]))
          by_cases hc60_31 : (p5 &&& (1 : Int32)) = (0 : Int32)
          · -- true
            refine own_goW (fun _ k => XS.ifYes X0.here hx rfl (pc0 := 60) (pc' := 74) rfl (hb hby at_60) rfl ((if0 _ _).trans (teq hc60_31).1) (by decide) (by decide) <| XS.lload X0.here hx rfl (hb hby at_74) rfl <| XS.lstore X0.here hx rfl (hb hby at_76) rfl (l' := #[.val (.int p1), .val (.int p2), .val (.int p3), .val (.int p4), .val (.int p5), .val (.long q5), .second, .val (.long q7), .second, .val (.long q9), .second, .val (.long q11), .second, .val (.long q5), .second, .unset, .unset, .unset, .unset, .unset, .unset, .unset, .unset, .unset, .unset]) rfl <| k) ?_
            show own_EndsW p e below s _ _ _ (s₁.setTop (mkF m 78 #[.val (.int p1), .val (.int p2), .val (.int p3), .val (.int p4), .val (.int p5), .val (.long q5), .second, .val (.long q7), .second, .val (.long q9), .second, .val (.long q11), .second, .val (.long q5), .second, .unset, .unset, .unset, .unset, .unset, .unset, .unset, .unset, .unset, .unset] []))
            exact J78 _ hq5
          · -- false
            refine own_goW (fun _ k => XS.ifNo X0.here hx rfl (hb hby at_60) rfl ((if0 _ _).trans (feq hc60_31).1) <| XT.lconstV X0.here hx rfl (1 : Int64) (hb hby at_63) rfl <| XS.lload X0.here hx rfl (hb hby at_64) rfl <| X0.ldc2J hx hown (mvT hZ (hw _ (List.mem_of_getElem? (i := 45) rfl))) rfl (hb hby at_66) <| XS.lrem X0.here hx rfl (hb hby at_69) rfl (by decide) <| XS.ladd X0.here hx rfl (hb hby at_70) rfl <| XS.goto X0.here hx rfl (pc0 := 71) (pc' := 76) rfl (hb hby at_71) (by decide) (by decide) <| XS.lstore X0.here hx rfl (hb hby at_76) rfl (l' := #[.val (.int p1), .val (.int p2), .val (.int p3), .val (.int p4), .val (.int p5), .val (.long q5), .second, .val (.long q7), .second, .val (.long q9), .second, .val (.long q11), .second, .val (.long ((1 : Int64) + (q5 - (q5 / (300 : Int64)) * (300 : Int64)))), .second, .unset, .unset, .unset, .unset, .unset, .unset, .unset, .unset, .unset, .unset]) rfl <| k) ?_
            show own_EndsW p e below s _ _ _ (s₁.setTop (mkF m 78 #[.val (.int p1), .val (.int p2), .val (.int p3), .val (.int p4), .val (.int p5), .val (.long q5), .second, .val (.long q7), .second, .val (.long q9), .second, .val (.long q11), .second, .val (.long ((1 : Int64) + (q5 - (q5 / (300 : Int64)) * (300 : Int64)))), .second, .unset, .unset, .unset, .unset, .unset, .unset, .unset, .unset, .unset, .unset] []))
            exact J78 _ (own_r2 300 300 (by decide) (by decide) (by decide) hq5.1)
        refine own_goW (fun _ k => XS.lload X0.here hx rfl (hb hby at_39) rfl <| XS.iloadN X0.here hx rfl (hb hby at_41) rfl <| X0.ldcI hx hown (mvT hZ (hw _ (List.mem_of_getElem? (i := 0) rfl))) rfl (hb hby at_42) <| XS.iand X0.here hx rfl (hb hby at_44) rfl <| XS.i2l X0.here hx rfl (hb hby at_45) rfl <| X0.ldc2J hx hown (mvT hZ (hw _ (List.mem_of_getElem? (i := 1) rfl))) rfl (hb hby at_46) <| XS.lload X0.here hx rfl (hb hby at_49) rfl <| XS.lsub X0.here hx rfl (hb hby at_51) rfl <| XS.lrem X0.here hx rfl (hb hby at_52) rfl (own_nz hq9) <| XS.ladd X0.here hx rfl (hb hby at_53) rfl <| k) ?_
        show own_EndsW p e below s _ _ _ (s₁.setTop (mkF m 54 #[.val (.int p1), .val (.int p2), .val (.int p3), .val (.int p4), .val (.int p5), .val (.long q5), .second, .val (.long q7), .second, .val (.long q9), .second, .unset, .unset, .unset, .unset, .unset, .unset, .unset, .unset, .unset, .unset, .unset, .unset, .unset, .unset] [(.long (q9 + (((p4 &&& (2147483647 : Int32)).toInt64) - (((p4 &&& (2147483647 : Int32)).toInt64) / ((86401 : Int64) - q9)) * ((86401 : Int64) - q9))))]))
        refine own_goW (fun _ k => XS.lstore X0.here hx rfl (hb hby at_54) rfl (l' := #[.val (.int p1), .val (.int p2), .val (.int p3), .val (.int p4), .val (.int p5), .val (.long q5), .second, .val (.long q7), .second, .val (.long q9), .second, .val (.long (q9 + (((p4 &&& (2147483647 : Int32)).toInt64) - (((p4 &&& (2147483647 : Int32)).toInt64) / ((86401 : Int64) - q9)) * ((86401 : Int64) - q9)))), .second, .unset, .unset, .unset, .unset, .unset, .unset, .unset, .unset, .unset, .unset, .unset, .unset]) rfl <| k) ?_
        show own_EndsW p e below s _ _ _ (s₁.setTop (mkF m 56 #[.val (.int p1), .val (.int p2), .val (.int p3), .val (.int p4), .val (.int p5), .val (.long q5), .second, .val (.long q7), .second, .val (.long q9), .second, .val (.long (q9 + (((p4 &&& (2147483647 : Int32)).toInt64) - (((p4 &&& (2147483647 : Int32)).toInt64) / ((86401 : Int64) - q9)) * ((86401 : Int64) - q9)))), .second, .unset, .unset, .unset, .unset, .unset, .unset, .unset, .unset, .unset, .unset, .unset, .unset] []))
        exact J56 _ (own_r3 hq9 p4)
      refine own_goW (fun _ k => XT.iconstV X0.here hx rfl (1 : Int32) (hb hby at_26) rfl <| XS.iloadN X0.here hx rfl (hb hby at_27) rfl <| X0.ldcI hx hown (mvT hZ (hw _ (List.mem_of_getElem? (i := 0) rfl))) rfl (hb hby at_28) <| XS.iand X0.here hx rfl (hb hby at_30) rfl <| XT.sipushV X0.here hx rfl (3600 : Int32) (hb hby at_31) rfl <| iremM X0 hx rfl (hb hby at_34) rfl (by decide) <| XS.iadd X0.here hx rfl (hb hby at_35) rfl <| XS.i2l X0.here hx rfl (hb hby at_36) rfl <| XS.lstore X0.here hx rfl (hb hby at_37) rfl (l' := #[.val (.int p1), .val (.int p2), .val (.int p3), .val (.int p4), .val (.int p5), .val (.long q5), .second, .val (.long q7), .second, .val (.long (((1 : Int32) + ((p3 &&& (2147483647 : Int32)) % (3600 : Int32))).toInt64)), .second, .unset, .unset, .unset, .unset, .unset, .unset, .unset, .unset, .unset, .unset, .unset, .unset, .unset, .unset]) rfl <| k) ?_
      show own_EndsW p e below s _ _ _ (s₁.setTop (mkF m 39 #[.val (.int p1), .val (.int p2), .val (.int p3), .val (.int p4), .val (.int p5), .val (.long q5), .second, .val (.long q7), .second, .val (.long (((1 : Int32) + ((p3 &&& (2147483647 : Int32)) % (3600 : Int32))).toInt64)), .second, .unset, .unset, .unset, .unset, .unset, .unset, .unset, .unset, .unset, .unset, .unset, .unset, .unset, .unset] []))
      exact J39 _ (own_r1 p3 3600 3600 (by decide) (by decide) (by decide))
    refine own_goW (fun _ k => XT.iconstV X0.here hx rfl (1 : Int32) (hb hby at_13) rfl <| XS.iloadN X0.here hx rfl (hb hby at_14) rfl <| X0.ldcI hx hown (mvT hZ (hw _ (List.mem_of_getElem? (i := 0) rfl))) rfl (hb hby at_15) <| XS.iand X0.here hx rfl (hb hby at_17) rfl <| XT.sipushV X0.here hx rfl (256 : Int32) (hb hby at_18) rfl <| iremM X0 hx rfl (hb hby at_21) rfl (by decide) <| XS.iadd X0.here hx rfl (hb hby at_22) rfl <| XS.i2l X0.here hx rfl (hb hby at_23) rfl <| XS.lstore X0.here hx rfl (hb hby at_24) rfl (l' := #[.val (.int p1), .val (.int p2), .val (.int p3), .val (.int p4), .val (.int p5), .val (.long q5), .second, .val (.long (((1 : Int32) + ((p2 &&& (2147483647 : Int32)) % (256 : Int32))).toInt64)), .second, .unset, .unset, .unset, .unset, .unset, .unset, .unset, .unset, .unset, .unset, .unset, .unset, .unset, .unset, .unset, .unset]) rfl <| k) ?_
    show own_EndsW p e below s _ _ _ (s₁.setTop (mkF m 26 #[.val (.int p1), .val (.int p2), .val (.int p3), .val (.int p4), .val (.int p5), .val (.long q5), .second, .val (.long (((1 : Int32) + ((p2 &&& (2147483647 : Int32)) % (256 : Int32))).toInt64)), .second, .unset, .unset, .unset, .unset, .unset, .unset, .unset, .unset, .unset, .unset, .unset, .unset, .unset, .unset, .unset, .unset] []))
    exact J26 _ (own_r1 p2 256 256 (by decide) (by decide) (by decide))
  refine own_goW (fun _ k => XT.iconstV X0.here hx rfl (1 : Int32) (hb hby at_0) rfl <| XS.iloadN X0.here hx rfl (hb hby at_1) rfl <| X0.ldcI hx hown (mvT hZ (hw _ (List.mem_of_getElem? (i := 0) rfl))) rfl (hb hby at_2) <| XS.iand X0.here hx rfl (hb hby at_4) rfl <| XT.sipushV X0.here hx rfl (300 : Int32) (hb hby at_5) rfl <| iremM X0 hx rfl (hb hby at_8) rfl (by decide) <| XS.iadd X0.here hx rfl (hb hby at_9) rfl <| XS.i2l X0.here hx rfl (hb hby at_10) rfl <| XS.lstore X0.here hx rfl (hb hby at_11) rfl (l' := #[.val (.int p1), .val (.int p2), .val (.int p3), .val (.int p4), .val (.int p5), .val (.long (((1 : Int32) + ((p1 &&& (2147483647 : Int32)) % (300 : Int32))).toInt64)), .second, .unset, .unset, .unset, .unset, .unset, .unset, .unset, .unset, .unset, .unset, .unset, .unset, .unset, .unset, .unset, .unset, .unset, .unset]) rfl <| k) ?_
  show own_EndsW p e below s _ _ _ (s₁.setTop (mkF m 13 #[.val (.int p1), .val (.int p2), .val (.int p3), .val (.int p4), .val (.int p5), .val (.long (((1 : Int32) + ((p1 &&& (2147483647 : Int32)) % (300 : Int32))).toInt64)), .second, .unset, .unset, .unset, .unset, .unset, .unset, .unset, .unset, .unset, .unset, .unset, .unset, .unset, .unset, .unset, .unset, .unset, .unset] []))
  exact J13 _ (own_r1 p1 300 300 (by decide) (by decide) (by decide))
set_option maxRecDepth 65536 in
set_option maxHeartbeats 40000000 in
theorem comes_1 {Post : Tables → Env → Array Value → State → Outcome → State → Prop} (hpost : ∀ tb e args s v u, (limb_1_1.after args s (.returned v) u = true ∧ limb_1_2.after args s (.returned v) u = true ∧ True) → ReturnedEndW s (.returned v) u (Jvm.fieldLocs frame_1_writes args s ++ Jvm.arrayLocs frame_1_arrays args s ++ Jvm.staticLocs frame_1_statics s) 24 4224 → Post tb e args s (.returned v) u) :
    ArmFor flags0 classFile x code maxLocals ret World_1 tables_1 room_1 Calls_1 rest_1 Pre_1 Post := by
  intro l hfl _ _ p e ha hc hk s m args below hf hA hF happ hP
  obtain ⟨hcalls, hrest, hpre⟩ := hP
  obtain ⟨-, -, -, hnamed, -, -, -, hat⟩ := (Spec.applies_iff hf).mp happ
  obtain ⟨hg, hn⟩ := and_e (Cond.before_iff.mp (show (Jvm.Cond.and given_1 narrow_1).before args s = true from hpre))
  obtain ⟨g1, g2⟩ := and_e hg
  obtain ⟨g3, g4⟩ := and_e g2
  obtain ⟨g5, g6⟩ := and_e g4
  obtain ⟨g7, g8⟩ := and_e g6
  obtain ⟨g9, g10⟩ := and_e g8
  obtain ⟨w0, w1, w2, w3, w4, rfl⟩ : ∃ w0 w1 w2 w3 w4 : Value, args = #[w0, w1, w2, w3, w4] := by
    have hs : args.size = 5 := by simpa [Cond.value, given_1] using g1
    obtain ⟨L⟩ := args
    match L, hs with
    | [w0, w1, w2, w3, w4], _ => exact ⟨w0, w1, w2, w3, w4, rfl⟩
  have hw := fun d (hd : d ∈ tables_1) => atoms_spec (ws := Jvm.Cond.code x code maxLocals ret :: tables_1) hat d (List.mem_cons_of_mem _ hd)
  have hfit : Fit s := fun {y c} hc i hi => by
    obtain ⟨ha, rfl⟩ := Array.getElem?_eq_some_iff.mp hc
    have q := List.all_eq_true.mp ((Array.all_eq_true_iff_forall_mem.mp hF) _ (Array.getElem_mem ha)) i (List.mem_range.mpr hi)
    simpa [Array.getElem?_eq_getElem hi] using q
  obtain ⟨hsets, hown0⟩ := atoms_of _ (rest_1_c_eq ▸ (show rest_1_c.before _ s = true from hrest))
  have hr0 := Cond.before_iff.mp hown0
  obtain ⟨i0, ei0⟩ := is_v g3
  obtain rfl : w0 = (.int i0) := Option.some.inj ei0
  obtain ⟨i1, ei1⟩ := is_v g5
  obtain rfl : w1 = (.int i1) := Option.some.inj ei1
  obtain ⟨i2, ei2⟩ := is_v g7
  obtain rfl : w2 = (.int i2) := Option.some.inj ei2
  obtain ⟨i3, ei3⟩ := is_v g9
  obtain rfl : w3 = (.int i3) := Option.some.inj ei3
  obtain ⟨i4, ei4⟩ := is_v g10
  obtain rfl : w4 = (.int i4) := Option.some.inj ei4
  have evH := eqv_i (Term.int_eval (127 : Int32)) (Cond.before_iff.mp (hsets _ (List.mem_of_getElem? (i := 3) rfl)))
  have SH := Sta.start evH (Or.inl (hsets _ (List.mem_of_getElem? (i := 1) rfl)))
  obtain ⟨aC, evC⟩ := exa_v (Cond.before_iff.mp (hsets _ (List.mem_of_getElem? (i := 5) rfl)))
  have SC := Sta.start evC (Or.inr ⟨(hw _ (List.mem_of_getElem? (i := 54) rfl)), (hsets _ (List.mem_of_getElem? (i := 2) rfl))⟩)
  obtain ⟨cC, AC⟩ := Arr.start evC (Cond.before_iff.mp (hsets _ (List.mem_of_getElem? (i := 4) rfl)))
  have evL := eqv_i (Term.int_eval (256 : Int32)) (Cond.before_iff.mp (hsets _ (List.mem_of_getElem? (i := 6) rfl)))
  obtain ⟨b', cell', t1, t2, t3, t4⟩ := Jvm.Lib.length_spec evL
  cases evC.symm.trans t1
  cases (AC.fin (Vm.Alike.refl _)).symm.trans t2
  have BX := Bxs.start (val := fun j => .int (j - 128)) (fun _ => evC) AC t3 (Value.int.inj t4).symm (by decide) (Cond.before_iff.mp (hsets _ (List.mem_of_getElem? (i := 7) rfl))) (fun X j nn h => eqv_i (own_sub nn) h)
  obtain ⟨n, o, h1, h2, h3, _, L, rfl, ⟨rfl, N⟩, hq⟩ := rm0 l s _ hw tables_1 i0 i1 i2 i3 i4 aC cC s.heap s.heap.size (Nat.le_refl _) (Old.start s) SH SC BX p e ha hc hk s m _ below hf ((Spec.applies_iff_loose hf).mp happ).1 ⟨rfl, State.Warmed39.refl s, rfl⟩ trivial
  refine ⟨n, _, h1, h2, h3, hpost _ _ _ _ _ _ ⟨Cond.after_iff.mpr rfl, Cond.after_iff.mpr (eq_i res_at (Term.int_eval (1)) rfl), trivial⟩ ⟨hq.1, hq.2.1, hq.2.2.1, (hq.2.2.2.sift fun y hy => Or.inr (N y hy)).mono (by decide) (by decide)⟩⟩
theorem main_1_1 : Claimed_1_1 := comes_1 fun _ _ _ _ _ _ h hF => ⟨h.1, hF⟩
theorem main_1_2 : Claimed_1_2 := comes_1 fun _ _ _ _ _ _ h hF => ⟨h.2.1, hF⟩
end Jvm.Pilot.@@N@@
namespace Jvm.Pilot.@@N@@
open Jvm Jvm.ClassFile Sem Op Lib Jvm.Free Jvm.Stand Jvm.Pilot.@@N@@.Jvm.D
/-! MADE BY PROGRAM (witnessworld.py) out of the Statement's table words and the real class files: 19 classes; the members and pool entries that the words name. The judged class is class 1, her method 1. -/
namespace start1
open Jvm.ClassFile
def u (s : String) : CpInfo := .utf8 (stringToUtf16 s)
/-- a pool by its gaps: so many unusable entries, then the entry; so many at the end -/
def gap : Nat → List CpInfo → List CpInfo
  | 0, r => r
  | n + 1, r => .unusable :: gap n r
def poolList (es : List (Nat × CpInfo)) (last : Nat) : List CpInfo := es.foldr (fun e r => gap e.1 (e.2 :: r)) (gap last [])
def pool (es : List (Nat × CpInfo)) (last : Nat) : Array CpInfo := ⟨poolList es last⟩
def fileOf (pool : Array CpInfo) (this : Nat) (attrs : Array Attribute := #[]) (ms : Array MethodInfo := #[]) (fl : Nat := 33) (sup : Nat := 0) (ifs : Array Nat := #[]) (fds : Array FieldInfo := #[]) : ClassFile where
  minorVersion := 0
  majorVersion := 65
  constantPool := pool
  accessFlags := fl
  thisClass := this
  superClass := sup
  interfaces := ifs
  fields := fds
  methods := ms
  attributes := attrs
def plain (name : String) (sup : Option ClassId) : Class where
  name := name
  kind := .ordinary
  loader := none
  accessFlags := 33
  super := sup
  interfaces := #[]
  cf := none
  fields := #[]
  methods := #[]
  instanceTypes := #[]
  staticTypes := #[]
  resolved := #[]
  callSites := []
  init := .initialized
  statics := none
  mirror := none

def pool0 : Array CpInfo := pool [(5, u "<init>"), (0, u "()V"), (1, .class_ 10), (1, u "java/lang/Object")] 113

def k0c0 : Code := { maxStack := 0, maxLocals := 1, code := object_method_1_code, exceptionTable := #[], attributes := #[] }
def k0m0 : Method := { name := "<init>", desc := "()V", sig := { parameters := [], returnType := none }, accessFlags := 1, code := some k0c0 }
/-- java/lang/Object -/
def k0 : Class := { plain "java/lang/Object" none with
  accessFlags := 33
  interfaces := #[]
  cf := some (fileOf pool0 8 #[] #[{ accessFlags := 1, nameIndex := 5, descriptorIndex := 6, attributes := #[] }] 33 0 #[] #[])
  fields := #[]
  methods := #[k0m0]
  instanceTypes := #[]
  staticTypes := #[]
  resolved := Array.replicate 124 none
  statics := none }

def pool1 : Array CpInfo := pool [(2, .class_ 4), (1, u "java/lang/Object"), (0, u "<init>"), (0, u "()V"), (0, .integer 2147483647), (0, .long 86401), (1, .long 300), (1, .long 256), (1, .long 3600), (1, .long 86400), (1, .methodref 19 20), (0, .class_ 21), (0, .nameAndType 22 23), (0, u "java/lang/Math"), (0, u "max"), (0, u "(JJ)J"), (0, .class_ 25), (0, u "com/example/expiry/expiry/model/Push"), (0, .methodref 24 27), (0, .nameAndType 5 28), (0, u "(JJJJ)V"), (0, .methodref 24 30), (0, .nameAndType 31 32), (0, u "equals"), (0, u "(Ljava/lang/Object;)Z"), (0, .methodref 34 35), (0, .class_ 36), (0, .nameAndType 37 38), (0, u "java/lang/Integer"), (0, u "valueOf"), (0, u "(I)Ljava/lang/Integer;"), (0, .class_ 40), (0, u "com/example/expiry/expiry/model/PushEqualsPinLaw"), (2, u "law"), (0, u "(IIIII)Z")] 3

def k1m0 : Method := { name := "<init>", desc := "()V", sig := { parameters := [], returnType := none }, accessFlags := 1, code := none }
def k1c1 : Code := { maxStack := 10, maxLocals := 25, code := code, exceptionTable := #[], attributes := #[] }
def k1m1 : Method := { name := "law", desc := "(IIIII)Z", sig := { parameters := [.int, .int, .int, .int, .int], returnType := some .boolean }, accessFlags := 9, code := some k1c1 }
/-- com/example/expiry/expiry/model/PushEqualsPinLaw -/
def k1 : Class := { plain "com/example/expiry/expiry/model/PushEqualsPinLaw" (some 0) with
  accessFlags := 49
  interfaces := #[]
  cf := some (fileOf pool1 39 #[] #[{ accessFlags := 1, nameIndex := 5, descriptorIndex := 6, attributes := #[] }, { accessFlags := 9, nameIndex := 43, descriptorIndex := 44, attributes := #[] }] 49 2 #[] #[])
  fields := #[]
  methods := #[k1m0, k1m1]
  instanceTypes := #[]
  staticTypes := #[]
  resolved := Array.replicate 48 none
  statics := none }

def pool2 : Array CpInfo := pool [(1, .class_ 2), (0, u "java/lang/Math"), (1, .class_ 6), (1, u "java/lang/Object"), (0, u "<init>"), (0, u "()V"), (89, .class_ 100), (1, u "java/lang/Math$RandomNumberGeneratorHolder"), (20, u "(JJ)J"), (50, u "negativeZeroFloatBits"), (0, u "J"), (2, u "negativeZeroDoubleBits"), (21, u "max"), (46, u "$assertionsDisabled"), (0, u "Z"), (91, u "twoToTheDoubleScaleDown"), (0, u "D"), (4, u "twoToTheDoubleScaleUp"), (9, u "E"), (3, u "PI"), (2, u "TAU"), (2, u "DEGREES_TO_RADIANS"), (0, u "RADIANS_TO_DEGREES")] 94

def k2m0 : Method := { name := "<init>", desc := "()V", sig := { parameters := [], returnType := none }, accessFlags := 2, code := none }
def k2c1 : Code := { maxStack := 4, maxLocals := 4, code := jdk_29_method_66_code, exceptionTable := #[], attributes := #[] }
def k2m1 : Method := { name := "max", desc := "(JJ)J", sig := { parameters := [.long, .long], returnType := some .long }, accessFlags := 9, code := some k2c1 }
/-- java/lang/Math -/
def k2 : Class := { plain "java/lang/Math" (some 0) with
  accessFlags := 49
  interfaces := #[]
  cf := some (fileOf pool2 1 #[.nestMembers #[98]] #[{ accessFlags := 2, nameIndex := 7, descriptorIndex := 8, attributes := #[] }, { accessFlags := 9, nameIndex := 198, descriptorIndex := 121, attributes := #[] }] 49 4 #[] #[{ accessFlags := 25, nameIndex := 354, descriptorIndex := 339, attributes := #[] }, { accessFlags := 25, nameIndex := 358, descriptorIndex := 339, attributes := #[] }, { accessFlags := 25, nameIndex := 361, descriptorIndex := 339, attributes := #[] }, { accessFlags := 26, nameIndex := 364, descriptorIndex := 339, attributes := #[] }, { accessFlags := 26, nameIndex := 365, descriptorIndex := 339, attributes := #[] }, { accessFlags := 26, nameIndex := 172, descriptorIndex := 173, attributes := #[] }, { accessFlags := 26, nameIndex := 176, descriptorIndex := 173, attributes := #[] }, { accessFlags := 8, nameIndex := 344, descriptorIndex := 339, attributes := #[] }, { accessFlags := 8, nameIndex := 338, descriptorIndex := 339, attributes := #[] }, { accessFlags := 4120, nameIndex := 245, descriptorIndex := 246, attributes := #[] }])
  fields := #[{ name := "E", type := .double, accessFlags := 25, slot := 0, constantValue := 0 }, { name := "PI", type := .double, accessFlags := 25, slot := 1, constantValue := 0 }, { name := "TAU", type := .double, accessFlags := 25, slot := 2, constantValue := 0 }, { name := "DEGREES_TO_RADIANS", type := .double, accessFlags := 26, slot := 3, constantValue := 0 }, { name := "RADIANS_TO_DEGREES", type := .double, accessFlags := 26, slot := 4, constantValue := 0 }, { name := "negativeZeroFloatBits", type := .long, accessFlags := 26, slot := 5, constantValue := 0 }, { name := "negativeZeroDoubleBits", type := .long, accessFlags := 26, slot := 6, constantValue := 0 }, { name := "twoToTheDoubleScaleUp", type := .double, accessFlags := 8, slot := 7, constantValue := 0 }, { name := "twoToTheDoubleScaleDown", type := .double, accessFlags := 8, slot := 8, constantValue := 0 }, { name := "$assertionsDisabled", type := .boolean, accessFlags := 4120, slot := 9, constantValue := 0 }]
  methods := #[k2m0, k2m1]
  instanceTypes := #[]
  staticTypes := #[.double, .double, .double, .double, .double, .long, .long, .double, .double, .boolean]
  resolved := Array.replicate 460 none
  statics := none }

def pool3 : Array CpInfo := pool [(1, .methodref 2 3), (0, .class_ 4), (0, .nameAndType 5 6), (0, u "java/lang/Object"), (0, u "<init>"), (0, u "()V"), (0, .string 8), (0, u "timeoutSeconds"), (0, .class_ 10), (0, u "com/example/expiry/expiry/model/Push"), (0, .methodref 9 12), (0, .nameAndType 13 14), (0, u "inRange"), (0, u "(Ljava/lang/String;JII)I"), (0, .fieldref 9 16), (0, .nameAndType 8 17), (0, u "I"), (0, .string 19), (0, u "concurrency"), (0, .fieldref 9 21), (0, .nameAndType 19 17), (0, .string 23), (0, u "backoff.initialSeconds"), (0, .fieldref 9 25), (0, .nameAndType 26 17), (0, u "initialSeconds"), (0, .string 28), (0, u "backoff.maxSeconds"), (0, .integer 86400), (0, .fieldref 9 31), (0, .nameAndType 32 17), (0, u "maxSeconds"), (43, u "(JJJJ)V"), (2, u "DEFAULTS"), (0, u "Lcom/example/expiry/expiry/model/Push;"), (0, u "DEFAULT_TIMEOUT_SECONDS"), (2, u "MOST_TIMEOUT_SECONDS"), (1, u "DEFAULT_CONCURRENCY"), (1, u "MOST_CONCURRENCY"), (1, u "DEFAULT_INITIAL_SECONDS"), (1, u "MOST_INITIAL_SECONDS"), (1, u "DEFAULT_MAX_SECONDS"), (0, u "MOST_MAX_SECONDS"), (10, u "equals"), (0, u "(Ljava/lang/Object;)Z")] 19

def k3c0 : Code := { maxStack := 6, maxLocals := 9, code := prog_47_method_1_code, exceptionTable := #[], attributes := #[] }
def k3m0 : Method := { name := "<init>", desc := "(JJJJ)V", sig := { parameters := [.long, .long, .long, .long], returnType := none }, accessFlags := 1, code := some k3c0 }
def k3c1 : Code := { maxStack := 2, maxLocals := 3, code := prog_47_method_7_code, exceptionTable := #[], attributes := #[] }
def k3m1 : Method := { name := "equals", desc := "(Ljava/lang/Object;)Z", sig := { parameters := [(.object "java/lang/Object")], returnType := some .boolean }, accessFlags := 1, code := some k3c1 }
def k3c2 : Code := { maxStack := 5, maxLocals := 5, code := prog_47_method_9_code, exceptionTable := #[], attributes := #[] }
def k3m2 : Method := { name := "inRange", desc := "(Ljava/lang/String;JII)I", sig := { parameters := [(.object "java/lang/String"), .long, .int, .int], returnType := some .int }, accessFlags := 10, code := some k3c2 }
/-- com/example/expiry/expiry/model/Push -/
def k3 : Class := { plain "com/example/expiry/expiry/model/Push" (some 0) with
  accessFlags := 49
  interfaces := #[]
  cf := some (fileOf pool3 9 #[] #[{ accessFlags := 1, nameIndex := 5, descriptorIndex := 76, attributes := #[] }, { accessFlags := 1, nameIndex := 106, descriptorIndex := 107, attributes := #[] }, { accessFlags := 10, nameIndex := 13, descriptorIndex := 14, attributes := #[] }] 49 2 #[] #[{ accessFlags := 25, nameIndex := 81, descriptorIndex := 17, attributes := #[] }, { accessFlags := 25, nameIndex := 84, descriptorIndex := 17, attributes := #[] }, { accessFlags := 25, nameIndex := 86, descriptorIndex := 17, attributes := #[] }, { accessFlags := 25, nameIndex := 88, descriptorIndex := 17, attributes := #[] }, { accessFlags := 25, nameIndex := 90, descriptorIndex := 17, attributes := #[] }, { accessFlags := 25, nameIndex := 92, descriptorIndex := 17, attributes := #[] }, { accessFlags := 25, nameIndex := 94, descriptorIndex := 17, attributes := #[] }, { accessFlags := 25, nameIndex := 95, descriptorIndex := 17, attributes := #[] }, { accessFlags := 25, nameIndex := 79, descriptorIndex := 80, attributes := #[] }, { accessFlags := 18, nameIndex := 8, descriptorIndex := 17, attributes := #[] }, { accessFlags := 18, nameIndex := 19, descriptorIndex := 17, attributes := #[] }, { accessFlags := 18, nameIndex := 26, descriptorIndex := 17, attributes := #[] }, { accessFlags := 18, nameIndex := 32, descriptorIndex := 17, attributes := #[] }])
  fields := #[{ name := "DEFAULT_TIMEOUT_SECONDS", type := .int, accessFlags := 25, slot := 0, constantValue := 0 }, { name := "MOST_TIMEOUT_SECONDS", type := .int, accessFlags := 25, slot := 1, constantValue := 0 }, { name := "DEFAULT_CONCURRENCY", type := .int, accessFlags := 25, slot := 2, constantValue := 0 }, { name := "MOST_CONCURRENCY", type := .int, accessFlags := 25, slot := 3, constantValue := 0 }, { name := "DEFAULT_INITIAL_SECONDS", type := .int, accessFlags := 25, slot := 4, constantValue := 0 }, { name := "MOST_INITIAL_SECONDS", type := .int, accessFlags := 25, slot := 5, constantValue := 0 }, { name := "DEFAULT_MAX_SECONDS", type := .int, accessFlags := 25, slot := 6, constantValue := 0 }, { name := "MOST_MAX_SECONDS", type := .int, accessFlags := 25, slot := 7, constantValue := 0 }, { name := "DEFAULTS", type := (.object "com/example/expiry/expiry/model/Push"), accessFlags := 25, slot := 8, constantValue := 0 }, { name := "timeoutSeconds", type := .int, accessFlags := 18, slot := 0, constantValue := 0 }, { name := "concurrency", type := .int, accessFlags := 18, slot := 1, constantValue := 0 }, { name := "initialSeconds", type := .int, accessFlags := 18, slot := 2, constantValue := 0 }, { name := "maxSeconds", type := .int, accessFlags := 18, slot := 3, constantValue := 0 }]
  methods := #[k3m0, k3m1, k3m2]
  instanceTypes := #[.int, .int, .int, .int]
  staticTypes := #[.int, .int, .int, .int, .int, .int, .int, .int, (.object "com/example/expiry/expiry/model/Push")]
  resolved := Array.replicate 127 none
  statics := none }

def pool4 : Array CpInfo := pool [(1, .class_ 2), (0, u "java/io/Serializable"), (0, .class_ 4), (0, u "java/lang/Object")] 2

/-- java/io/Serializable -/
def k4 : Class := { plain "java/io/Serializable" (some 0) with
  accessFlags := 1537
  interfaces := #[]
  cf := some (fileOf pool4 1 #[] #[] 1537 3 #[] #[])
  fields := #[]
  methods := #[]
  instanceTypes := #[]
  staticTypes := #[]
  resolved := Array.replicate 7 none
  statics := none }

def pool5 : Array CpInfo := pool [(1, .class_ 2), (0, u "java/lang/Comparable"), (0, .class_ 4), (0, u "java/lang/Object")] 7

/-- java/lang/Comparable -/
def k5 : Class := { plain "java/lang/Comparable" (some 0) with
  accessFlags := 1537
  interfaces := #[]
  cf := some (fileOf pool5 1 #[] #[] 1537 3 #[] #[])
  fields := #[]
  methods := #[]
  instanceTypes := #[]
  staticTypes := #[]
  resolved := Array.replicate 12 none
  statics := none }

def pool6 : Array CpInfo := pool [(2, .class_ 4), (1, u "java/lang/CharSequence"), (42, .class_ 48), (0, u "java/lang/CharSequence$1CodePointIterator"), (10, .class_ 60), (0, u "java/lang/CharSequence$1CharIterator"), (5, .class_ 67), (0, u "java/lang/Object")] 63

/-- java/lang/CharSequence -/
def k6 : Class := { plain "java/lang/CharSequence" (some 0) with
  accessFlags := 1537
  interfaces := #[]
  cf := some (fileOf pool6 2 #[.nestMembers #[47, 59]] #[] 1537 66 #[] #[])
  fields := #[]
  methods := #[]
  instanceTypes := #[]
  staticTypes := #[]
  resolved := Array.replicate 131 none
  statics := none }

def pool7 : Array CpInfo := pool [(1, .class_ 2), (0, u "java/lang/constant/Constable"), (0, .class_ 4), (0, u "java/lang/Object")] 6

/-- java/lang/constant/Constable -/
def k7 : Class := { plain "java/lang/constant/Constable" (some 0) with
  accessFlags := 1537
  interfaces := #[]
  cf := some (fileOf pool7 1 #[] #[] 1537 3 #[] #[])
  fields := #[]
  methods := #[]
  instanceTypes := #[]
  staticTypes := #[]
  resolved := Array.replicate 11 none
  statics := none }

def pool8 : Array CpInfo := pool [(1, .class_ 2), (0, u "java/lang/constant/ConstantDesc"), (0, .class_ 4), (0, u "java/lang/Object")] 32

/-- java/lang/constant/ConstantDesc -/
def k8 : Class := { plain "java/lang/constant/ConstantDesc" (some 0) with
  accessFlags := 1537
  interfaces := #[]
  cf := some (fileOf pool8 1 #[] #[] 1537 3 #[] #[])
  fields := #[]
  methods := #[]
  instanceTypes := #[]
  staticTypes := #[]
  resolved := Array.replicate 37 none
  statics := none }

def pool9 : Array CpInfo := pool [(2, .class_ 4), (1, u "java/lang/Object"), (0, u "<init>"), (0, u "()V"), (3, .class_ 12), (1, u "java/lang/String"), (0, u "value"), (0, u "[B"), (2, u "coder"), (0, u "B"), (2, u "hash"), (0, u "I"), (2, u "hashIsZero"), (0, u "Z"), (13, u "COMPACT_STRINGS"), (534, .class_ 576), (0, u "java/lang/CharSequence"), (22, u "CASE_INSENSITIVE_ORDER"), (0, u "Ljava/util/Comparator;"), (500, u "serialPersistentFields"), (0, u "[Ljava/io/ObjectStreamField;"), (0, .class_ 1104), (0, u "java/lang/String$CaseInsensitiveComparator"), (1, .class_ 1107), (0, u "java/io/Serializable"), (0, .class_ 1109), (0, u "java/lang/Comparable"), (0, .class_ 1111), (0, u "java/lang/constant/Constable"), (0, .class_ 1113), (0, u "java/lang/constant/ConstantDesc"), (2, u "serialVersionUID"), (0, u "J"), (3, u "REPL"), (0, u "C"), (2, u "LATIN1"), (1, u "UTF16")] 323

def k9m0 : Method := { name := "<init>", desc := "()V", sig := { parameters := [], returnType := none }, accessFlags := 1, code := none }
/-- java/lang/String -/
def k9 : Class := { plain "java/lang/String" (some 0) with
  accessFlags := 49
  interfaces := #[4, 5, 6, 7, 8]
  cf := some (fileOf pool9 10 #[.nestMembers #[1103]] #[{ accessFlags := 1, nameIndex := 5, descriptorIndex := 6, attributes := #[] }] 49 2 #[1106, 1108, 575, 1110, 1112] #[{ accessFlags := 18, nameIndex := 13, descriptorIndex := 14, attributes := #[] }, { accessFlags := 18, nameIndex := 17, descriptorIndex := 18, attributes := #[] }, { accessFlags := 2, nameIndex := 21, descriptorIndex := 22, attributes := #[] }, { accessFlags := 2, nameIndex := 25, descriptorIndex := 26, attributes := #[] }, { accessFlags := 26, nameIndex := 1116, descriptorIndex := 1117, attributes := #[] }, { accessFlags := 24, nameIndex := 40, descriptorIndex := 26, attributes := #[] }, { accessFlags := 26, nameIndex := 1101, descriptorIndex := 1102, attributes := #[] }, { accessFlags := 26, nameIndex := 1121, descriptorIndex := 1122, attributes := #[] }, { accessFlags := 25, nameIndex := 599, descriptorIndex := 600, attributes := #[] }, { accessFlags := 24, nameIndex := 1125, descriptorIndex := 18, attributes := #[] }, { accessFlags := 24, nameIndex := 1127, descriptorIndex := 18, attributes := #[] }])
  fields := #[{ name := "value", type := (.array .byte), accessFlags := 18, slot := 0, constantValue := 0 }, { name := "coder", type := .byte, accessFlags := 18, slot := 1, constantValue := 0 }, { name := "hash", type := .int, accessFlags := 2, slot := 2, constantValue := 0 }, { name := "hashIsZero", type := .boolean, accessFlags := 2, slot := 3, constantValue := 0 }, { name := "serialVersionUID", type := .long, accessFlags := 26, slot := 0, constantValue := 0 }, { name := "COMPACT_STRINGS", type := .boolean, accessFlags := 24, slot := 1, constantValue := 0 }, { name := "serialPersistentFields", type := (.array (.object "java/io/ObjectStreamField")), accessFlags := 26, slot := 2, constantValue := 0 }, { name := "REPL", type := .char, accessFlags := 26, slot := 3, constantValue := 0 }, { name := "CASE_INSENSITIVE_ORDER", type := (.object "java/util/Comparator"), accessFlags := 25, slot := 4, constantValue := 0 }, { name := "LATIN1", type := .byte, accessFlags := 24, slot := 5, constantValue := 0 }, { name := "UTF16", type := .byte, accessFlags := 24, slot := 6, constantValue := 0 }]
  methods := #[k9m0]
  instanceTypes := #[(.array .byte), .byte, .int, .boolean]
  staticTypes := #[.long, .boolean, (.array (.object "java/io/ObjectStreamField")), .char, (.object "java/util/Comparator"), .byte, .byte]
  resolved := Array.replicate 1451 none
  statics := none }

def pool10 : Array CpInfo := pool [(1, .methodref 2 3), (0, .class_ 4), (0, .nameAndType 5 6), (0, u "java/lang/Object"), (0, u "<init>"), (0, u "()V"), (1, .class_ 10), (1, u "java/lang/Number"), (2, .class_ 14), (0, u "java/io/Serializable"), (0, u "serialVersionUID"), (0, u "J")] 20

def k10c0 : Code := { maxStack := 1, maxLocals := 1, code := jdk_18_method_1_code, exceptionTable := #[], attributes := #[] }
def k10m0 : Method := { name := "<init>", desc := "()V", sig := { parameters := [], returnType := none }, accessFlags := 1, code := some k10c0 }
/-- java/lang/Number -/
def k10 : Class := { plain "java/lang/Number" (some 0) with
  accessFlags := 1057
  interfaces := #[4]
  cf := some (fileOf pool10 8 #[] #[{ accessFlags := 1, nameIndex := 5, descriptorIndex := 6, attributes := #[] }] 1057 2 #[13] #[{ accessFlags := 26, nameIndex := 15, descriptorIndex := 16, attributes := #[] }])
  fields := #[{ name := "serialVersionUID", type := .long, accessFlags := 26, slot := 0, constantValue := 0 }]
  methods := #[k10m0]
  instanceTypes := #[]
  staticTypes := #[.long]
  resolved := Array.replicate 37 none
  statics := none }

def pool11 : Array CpInfo := pool [(1, .class_ 2), (0, u "java/lang/Integer"), (16, u "digits"), (0, u "[C"), (46, u "<init>"), (17, u "DigitOnes"), (0, u "[B"), (2, u "DigitTens"), (10, .nameAndType 67 101), (0, u "()V"), (85, u "valueOf"), (0, u "(I)Ljava/lang/Integer;"), (0, .class_ 190), (0, u "java/lang/Integer$IntegerCache"), (0, .fieldref 189 192), (0, .nameAndType 193 194), (0, u "high"), (0, u "I"), (0, .fieldref 189 196), (0, .nameAndType 197 198), (0, u "cache"), (0, u "[Ljava/lang/Integer;"), (0, .methodref 1 200), (0, .nameAndType 67 201), (0, u "(I)V"), (0, .methodref 203 100), (0, .class_ 204), (0, u "java/lang/Number"), (0, .fieldref 1 206), (0, .nameAndType 207 194), (0, u "value"), (94, u "TYPE"), (0, u "Ljava/lang/Class;"), (0, .class_ 305), (0, u "java/lang/Comparable"), (0, .class_ 307), (0, u "java/lang/constant/Constable"), (0, .class_ 309), (0, u "java/lang/constant/ConstantDesc"), (0, u "MIN_VALUE"), (1, u "MAX_VALUE"), (3, u "SIZE"), (1, u "BYTES"), (1, u "serialVersionUID"), (0, u "J")] 131

def k11c0 : Code := { maxStack := 3, maxLocals := 1, code := jdk_33_method_22_code, exceptionTable := #[], attributes := #[] }
def k11m0 : Method := { name := "valueOf", desc := "(I)Ljava/lang/Integer;", sig := { parameters := [.int], returnType := some (.object "java/lang/Integer") }, accessFlags := 9, code := some k11c0 }
def k11c1 : Code := { maxStack := 2, maxLocals := 2, code := jdk_33_method_23_code, exceptionTable := #[], attributes := #[] }
def k11m1 : Method := { name := "<init>", desc := "(I)V", sig := { parameters := [.int], returnType := none }, accessFlags := 1, code := some k11c1 }
/-- java/lang/Integer -/
def k11 : Class := { plain "java/lang/Integer" (some 10) with
  accessFlags := 49
  interfaces := #[5, 7, 8]
  cf := some (fileOf pool11 1 #[.nestMembers #[189]] #[{ accessFlags := 9, nameIndex := 187, descriptorIndex := 188, attributes := #[] }, { accessFlags := 1, nameIndex := 67, descriptorIndex := 201, attributes := #[] }] 49 203 #[304, 306, 308] #[{ accessFlags := 25, nameIndex := 310, descriptorIndex := 194, attributes := #[] }, { accessFlags := 25, nameIndex := 312, descriptorIndex := 194, attributes := #[] }, { accessFlags := 25, nameIndex := 302, descriptorIndex := 303, attributes := #[] }, { accessFlags := 24, nameIndex := 19, descriptorIndex := 20, attributes := #[] }, { accessFlags := 24, nameIndex := 89, descriptorIndex := 86, attributes := #[] }, { accessFlags := 24, nameIndex := 85, descriptorIndex := 86, attributes := #[] }, { accessFlags := 18, nameIndex := 207, descriptorIndex := 194, attributes := #[] }, { accessFlags := 25, nameIndex := 316, descriptorIndex := 194, attributes := #[] }, { accessFlags := 25, nameIndex := 318, descriptorIndex := 194, attributes := #[] }, { accessFlags := 26, nameIndex := 320, descriptorIndex := 321, attributes := #[] }])
  fields := #[{ name := "MIN_VALUE", type := .int, accessFlags := 25, slot := 0, constantValue := 0 }, { name := "MAX_VALUE", type := .int, accessFlags := 25, slot := 1, constantValue := 0 }, { name := "TYPE", type := (.object "java/lang/Class"), accessFlags := 25, slot := 2, constantValue := 0 }, { name := "digits", type := (.array .char), accessFlags := 24, slot := 3, constantValue := 0 }, { name := "DigitTens", type := (.array .byte), accessFlags := 24, slot := 4, constantValue := 0 }, { name := "DigitOnes", type := (.array .byte), accessFlags := 24, slot := 5, constantValue := 0 }, { name := "value", type := .int, accessFlags := 18, slot := 0, constantValue := 0 }, { name := "SIZE", type := .int, accessFlags := 25, slot := 6, constantValue := 0 }, { name := "BYTES", type := .int, accessFlags := 25, slot := 7, constantValue := 0 }, { name := "serialVersionUID", type := .long, accessFlags := 26, slot := 8, constantValue := 0 }]
  methods := #[k11m0, k11m1]
  instanceTypes := #[.int]
  staticTypes := #[.int, .int, (.object "java/lang/Class"), (.array .char), (.array .byte), (.array .byte), .int, .int, .long]
  resolved := Array.replicate 453 none
  statics := none }

def pool12 : Array CpInfo := pool [(2, .class_ 4), (1, u "java/lang/Object"), (0, u "<init>"), (0, u "()V"), (0, .class_ 8), (0, u "java/lang/Integer"), (7, .class_ 18), (1, u "java/lang/Integer$IntegerCache"), (0, u "$assertionsDisabled"), (0, u "Z"), (26, u "high"), (0, u "I"), (8, u "archivedCache"), (0, u "[Ljava/lang/Integer;"), (12, u "cache"), (0, u "low")] 27

def k12m0 : Method := { name := "<init>", desc := "()V", sig := { parameters := [], returnType := none }, accessFlags := 2, code := none }
/-- java/lang/Integer$IntegerCache -/
def k12 : Class := { plain "java/lang/Integer$IntegerCache" (some 0) with
  accessFlags := 48
  interfaces := #[]
  cf := some (fileOf pool12 16 #[.nestHost 7] #[{ accessFlags := 2, nameIndex := 5, descriptorIndex := 6, attributes := #[] }] 48 2 #[] #[{ accessFlags := 24, nameIndex := 72, descriptorIndex := 48, attributes := #[] }, { accessFlags := 24, nameIndex := 47, descriptorIndex := 48, attributes := #[] }, { accessFlags := 24, nameIndex := 71, descriptorIndex := 58, attributes := #[] }, { accessFlags := 8, nameIndex := 57, descriptorIndex := 58, attributes := #[] }, { accessFlags := 4120, nameIndex := 19, descriptorIndex := 20, attributes := #[] }])
  fields := #[{ name := "low", type := .int, accessFlags := 24, slot := 0, constantValue := 0 }, { name := "high", type := .int, accessFlags := 24, slot := 1, constantValue := 0 }, { name := "cache", type := (.array (.object "java/lang/Integer")), accessFlags := 24, slot := 2, constantValue := 0 }, { name := "archivedCache", type := (.array (.object "java/lang/Integer")), accessFlags := 8, slot := 3, constantValue := 0 }, { name := "$assertionsDisabled", type := .boolean, accessFlags := 4120, slot := 4, constantValue := 0 }]
  methods := #[k12m0]
  instanceTypes := #[]
  staticTypes := #[.int, .int, (.array (.object "java/lang/Integer")), (.array (.object "java/lang/Integer")), .boolean]
  resolved := Array.replicate 100 none
  statics := some 0 }

def pool13 : Array CpInfo := pool [(1, u "java/lang/Cloneable"), (0, .class_ 1), (0, u "java/lang/Object"), (0, .class_ 3)] 3

/-- java/lang/Cloneable -/
def k13 : Class := { plain "java/lang/Cloneable" (some 0) with
  accessFlags := 1537
  interfaces := #[]
  cf := some (fileOf pool13 2 #[] #[] 1537 4 #[] #[])
  fields := #[]
  methods := #[]
  instanceTypes := #[]
  staticTypes := #[]
  resolved := Array.replicate 8 none
  statics := none }

/-- the primitive byte -/
def k14 : Class := { plain "byte" none with kind := .primitive 'B', accessFlags := 0x411 }
/-- [B -/
def k15 : Class := { plain "[B" (some 0) with kind := .array 14 .byte, interfaces := #[13, 4], accessFlags := 1041 }

/-- the primitive int -/
def k16 : Class := { plain "int" none with kind := .primitive 'I', accessFlags := 0x411 }
/-- [I -/
def k17 : Class := { plain "[I" (some 0) with kind := .array 16 .int, interfaces := #[13, 4], accessFlags := 1041 }

/-- [Ljava/lang/Integer; -/
def k18 : Class := { plain "[Ljava/lang/Integer;" (some 0) with kind := .array 11 (.object "java/lang/Integer"), interfaces := #[13, 4], accessFlags := 1041 }

def heap : Heap := #[{ cls := 12, slots := #[.int 0, .int 127, .ref 1, .null, .int 0], vm := .statics 12 },
  { cls := 18, slots := #[.ref 2, .ref 3, .ref 4, .ref 5, .ref 6, .ref 7, .ref 8, .ref 9, .ref 10, .ref 11, .ref 12, .ref 13, .ref 14, .ref 15, .ref 16, .ref 17, .ref 18, .ref 19, .ref 20, .ref 21, .ref 22, .ref 23, .ref 24, .ref 25, .ref 26, .ref 27, .ref 28, .ref 29, .ref 30, .ref 31, .ref 32, .ref 33, .ref 34, .ref 35, .ref 36, .ref 37, .ref 38, .ref 39, .ref 40, .ref 41, .ref 42, .ref 43, .ref 44, .ref 45, .ref 46, .ref 47, .ref 48, .ref 49, .ref 50, .ref 51, .ref 52, .ref 53, .ref 54, .ref 55, .ref 56, .ref 57, .ref 58, .ref 59, .ref 60, .ref 61, .ref 62, .ref 63, .ref 64, .ref 65, .ref 66, .ref 67, .ref 68, .ref 69, .ref 70, .ref 71, .ref 72, .ref 73, .ref 74, .ref 75, .ref 76, .ref 77, .ref 78, .ref 79, .ref 80, .ref 81, .ref 82, .ref 83, .ref 84, .ref 85, .ref 86, .ref 87, .ref 88, .ref 89, .ref 90, .ref 91, .ref 92, .ref 93, .ref 94, .ref 95, .ref 96, .ref 97, .ref 98, .ref 99, .ref 100, .ref 101, .ref 102, .ref 103, .ref 104, .ref 105, .ref 106, .ref 107, .ref 108, .ref 109, .ref 110, .ref 111, .ref 112, .ref 113, .ref 114, .ref 115, .ref 116, .ref 117, .ref 118, .ref 119, .ref 120, .ref 121, .ref 122, .ref 123, .ref 124, .ref 125, .ref 126, .ref 127, .ref 128, .ref 129, .ref 130, .ref 131, .ref 132, .ref 133, .ref 134, .ref 135, .ref 136, .ref 137, .ref 138, .ref 139, .ref 140, .ref 141, .ref 142, .ref 143, .ref 144, .ref 145, .ref 146, .ref 147, .ref 148, .ref 149, .ref 150, .ref 151, .ref 152, .ref 153, .ref 154, .ref 155, .ref 156, .ref 157, .ref 158, .ref 159, .ref 160, .ref 161, .ref 162, .ref 163, .ref 164, .ref 165, .ref 166, .ref 167, .ref 168, .ref 169, .ref 170, .ref 171, .ref 172, .ref 173, .ref 174, .ref 175, .ref 176, .ref 177, .ref 178, .ref 179, .ref 180, .ref 181, .ref 182, .ref 183, .ref 184, .ref 185, .ref 186, .ref 187, .ref 188, .ref 189, .ref 190, .ref 191, .ref 192, .ref 193, .ref 194, .ref 195, .ref 196, .ref 197, .ref 198, .ref 199, .ref 200, .ref 201, .ref 202, .ref 203, .ref 204, .ref 205, .ref 206, .ref 207, .ref 208, .ref 209, .ref 210, .ref 211, .ref 212, .ref 213, .ref 214, .ref 215, .ref 216, .ref 217, .ref 218, .ref 219, .ref 220, .ref 221, .ref 222, .ref 223, .ref 224, .ref 225, .ref 226, .ref 227, .ref 228, .ref 229, .ref 230, .ref 231, .ref 232, .ref 233, .ref 234, .ref 235, .ref 236, .ref 237, .ref 238, .ref 239, .ref 240, .ref 241, .ref 242, .ref 243, .ref 244, .ref 245, .ref 246, .ref 247, .ref 248, .ref 249, .ref 250, .ref 251, .ref 252, .ref 253, .ref 254, .ref 255, .ref 256, .ref 257], vm := .none },
  { cls := 11, slots := #[.int (-128)], vm := .none },
  { cls := 11, slots := #[.int (-127)], vm := .none },
  { cls := 11, slots := #[.int (-126)], vm := .none },
  { cls := 11, slots := #[.int (-125)], vm := .none },
  { cls := 11, slots := #[.int (-124)], vm := .none },
  { cls := 11, slots := #[.int (-123)], vm := .none },
  { cls := 11, slots := #[.int (-122)], vm := .none },
  { cls := 11, slots := #[.int (-121)], vm := .none },
  { cls := 11, slots := #[.int (-120)], vm := .none },
  { cls := 11, slots := #[.int (-119)], vm := .none },
  { cls := 11, slots := #[.int (-118)], vm := .none },
  { cls := 11, slots := #[.int (-117)], vm := .none },
  { cls := 11, slots := #[.int (-116)], vm := .none },
  { cls := 11, slots := #[.int (-115)], vm := .none },
  { cls := 11, slots := #[.int (-114)], vm := .none },
  { cls := 11, slots := #[.int (-113)], vm := .none },
  { cls := 11, slots := #[.int (-112)], vm := .none },
  { cls := 11, slots := #[.int (-111)], vm := .none },
  { cls := 11, slots := #[.int (-110)], vm := .none },
  { cls := 11, slots := #[.int (-109)], vm := .none },
  { cls := 11, slots := #[.int (-108)], vm := .none },
  { cls := 11, slots := #[.int (-107)], vm := .none },
  { cls := 11, slots := #[.int (-106)], vm := .none },
  { cls := 11, slots := #[.int (-105)], vm := .none },
  { cls := 11, slots := #[.int (-104)], vm := .none },
  { cls := 11, slots := #[.int (-103)], vm := .none },
  { cls := 11, slots := #[.int (-102)], vm := .none },
  { cls := 11, slots := #[.int (-101)], vm := .none },
  { cls := 11, slots := #[.int (-100)], vm := .none },
  { cls := 11, slots := #[.int (-99)], vm := .none },
  { cls := 11, slots := #[.int (-98)], vm := .none },
  { cls := 11, slots := #[.int (-97)], vm := .none },
  { cls := 11, slots := #[.int (-96)], vm := .none },
  { cls := 11, slots := #[.int (-95)], vm := .none },
  { cls := 11, slots := #[.int (-94)], vm := .none },
  { cls := 11, slots := #[.int (-93)], vm := .none },
  { cls := 11, slots := #[.int (-92)], vm := .none },
  { cls := 11, slots := #[.int (-91)], vm := .none },
  { cls := 11, slots := #[.int (-90)], vm := .none },
  { cls := 11, slots := #[.int (-89)], vm := .none },
  { cls := 11, slots := #[.int (-88)], vm := .none },
  { cls := 11, slots := #[.int (-87)], vm := .none },
  { cls := 11, slots := #[.int (-86)], vm := .none },
  { cls := 11, slots := #[.int (-85)], vm := .none },
  { cls := 11, slots := #[.int (-84)], vm := .none },
  { cls := 11, slots := #[.int (-83)], vm := .none },
  { cls := 11, slots := #[.int (-82)], vm := .none },
  { cls := 11, slots := #[.int (-81)], vm := .none },
  { cls := 11, slots := #[.int (-80)], vm := .none },
  { cls := 11, slots := #[.int (-79)], vm := .none },
  { cls := 11, slots := #[.int (-78)], vm := .none },
  { cls := 11, slots := #[.int (-77)], vm := .none },
  { cls := 11, slots := #[.int (-76)], vm := .none },
  { cls := 11, slots := #[.int (-75)], vm := .none },
  { cls := 11, slots := #[.int (-74)], vm := .none },
  { cls := 11, slots := #[.int (-73)], vm := .none },
  { cls := 11, slots := #[.int (-72)], vm := .none },
  { cls := 11, slots := #[.int (-71)], vm := .none },
  { cls := 11, slots := #[.int (-70)], vm := .none },
  { cls := 11, slots := #[.int (-69)], vm := .none },
  { cls := 11, slots := #[.int (-68)], vm := .none },
  { cls := 11, slots := #[.int (-67)], vm := .none },
  { cls := 11, slots := #[.int (-66)], vm := .none },
  { cls := 11, slots := #[.int (-65)], vm := .none },
  { cls := 11, slots := #[.int (-64)], vm := .none },
  { cls := 11, slots := #[.int (-63)], vm := .none },
  { cls := 11, slots := #[.int (-62)], vm := .none },
  { cls := 11, slots := #[.int (-61)], vm := .none },
  { cls := 11, slots := #[.int (-60)], vm := .none },
  { cls := 11, slots := #[.int (-59)], vm := .none },
  { cls := 11, slots := #[.int (-58)], vm := .none },
  { cls := 11, slots := #[.int (-57)], vm := .none },
  { cls := 11, slots := #[.int (-56)], vm := .none },
  { cls := 11, slots := #[.int (-55)], vm := .none },
  { cls := 11, slots := #[.int (-54)], vm := .none },
  { cls := 11, slots := #[.int (-53)], vm := .none },
  { cls := 11, slots := #[.int (-52)], vm := .none },
  { cls := 11, slots := #[.int (-51)], vm := .none },
  { cls := 11, slots := #[.int (-50)], vm := .none },
  { cls := 11, slots := #[.int (-49)], vm := .none },
  { cls := 11, slots := #[.int (-48)], vm := .none },
  { cls := 11, slots := #[.int (-47)], vm := .none },
  { cls := 11, slots := #[.int (-46)], vm := .none },
  { cls := 11, slots := #[.int (-45)], vm := .none },
  { cls := 11, slots := #[.int (-44)], vm := .none },
  { cls := 11, slots := #[.int (-43)], vm := .none },
  { cls := 11, slots := #[.int (-42)], vm := .none },
  { cls := 11, slots := #[.int (-41)], vm := .none },
  { cls := 11, slots := #[.int (-40)], vm := .none },
  { cls := 11, slots := #[.int (-39)], vm := .none },
  { cls := 11, slots := #[.int (-38)], vm := .none },
  { cls := 11, slots := #[.int (-37)], vm := .none },
  { cls := 11, slots := #[.int (-36)], vm := .none },
  { cls := 11, slots := #[.int (-35)], vm := .none },
  { cls := 11, slots := #[.int (-34)], vm := .none },
  { cls := 11, slots := #[.int (-33)], vm := .none },
  { cls := 11, slots := #[.int (-32)], vm := .none },
  { cls := 11, slots := #[.int (-31)], vm := .none },
  { cls := 11, slots := #[.int (-30)], vm := .none },
  { cls := 11, slots := #[.int (-29)], vm := .none },
  { cls := 11, slots := #[.int (-28)], vm := .none },
  { cls := 11, slots := #[.int (-27)], vm := .none },
  { cls := 11, slots := #[.int (-26)], vm := .none },
  { cls := 11, slots := #[.int (-25)], vm := .none },
  { cls := 11, slots := #[.int (-24)], vm := .none },
  { cls := 11, slots := #[.int (-23)], vm := .none },
  { cls := 11, slots := #[.int (-22)], vm := .none },
  { cls := 11, slots := #[.int (-21)], vm := .none },
  { cls := 11, slots := #[.int (-20)], vm := .none },
  { cls := 11, slots := #[.int (-19)], vm := .none },
  { cls := 11, slots := #[.int (-18)], vm := .none },
  { cls := 11, slots := #[.int (-17)], vm := .none },
  { cls := 11, slots := #[.int (-16)], vm := .none },
  { cls := 11, slots := #[.int (-15)], vm := .none },
  { cls := 11, slots := #[.int (-14)], vm := .none },
  { cls := 11, slots := #[.int (-13)], vm := .none },
  { cls := 11, slots := #[.int (-12)], vm := .none },
  { cls := 11, slots := #[.int (-11)], vm := .none },
  { cls := 11, slots := #[.int (-10)], vm := .none },
  { cls := 11, slots := #[.int (-9)], vm := .none },
  { cls := 11, slots := #[.int (-8)], vm := .none },
  { cls := 11, slots := #[.int (-7)], vm := .none },
  { cls := 11, slots := #[.int (-6)], vm := .none },
  { cls := 11, slots := #[.int (-5)], vm := .none },
  { cls := 11, slots := #[.int (-4)], vm := .none },
  { cls := 11, slots := #[.int (-3)], vm := .none },
  { cls := 11, slots := #[.int (-2)], vm := .none },
  { cls := 11, slots := #[.int (-1)], vm := .none },
  { cls := 11, slots := #[.int 0], vm := .none },
  { cls := 11, slots := #[.int 1], vm := .none },
  { cls := 11, slots := #[.int 2], vm := .none },
  { cls := 11, slots := #[.int 3], vm := .none },
  { cls := 11, slots := #[.int 4], vm := .none },
  { cls := 11, slots := #[.int 5], vm := .none },
  { cls := 11, slots := #[.int 6], vm := .none },
  { cls := 11, slots := #[.int 7], vm := .none },
  { cls := 11, slots := #[.int 8], vm := .none },
  { cls := 11, slots := #[.int 9], vm := .none },
  { cls := 11, slots := #[.int 10], vm := .none },
  { cls := 11, slots := #[.int 11], vm := .none },
  { cls := 11, slots := #[.int 12], vm := .none },
  { cls := 11, slots := #[.int 13], vm := .none },
  { cls := 11, slots := #[.int 14], vm := .none },
  { cls := 11, slots := #[.int 15], vm := .none },
  { cls := 11, slots := #[.int 16], vm := .none },
  { cls := 11, slots := #[.int 17], vm := .none },
  { cls := 11, slots := #[.int 18], vm := .none },
  { cls := 11, slots := #[.int 19], vm := .none },
  { cls := 11, slots := #[.int 20], vm := .none },
  { cls := 11, slots := #[.int 21], vm := .none },
  { cls := 11, slots := #[.int 22], vm := .none },
  { cls := 11, slots := #[.int 23], vm := .none },
  { cls := 11, slots := #[.int 24], vm := .none },
  { cls := 11, slots := #[.int 25], vm := .none },
  { cls := 11, slots := #[.int 26], vm := .none },
  { cls := 11, slots := #[.int 27], vm := .none },
  { cls := 11, slots := #[.int 28], vm := .none },
  { cls := 11, slots := #[.int 29], vm := .none },
  { cls := 11, slots := #[.int 30], vm := .none },
  { cls := 11, slots := #[.int 31], vm := .none },
  { cls := 11, slots := #[.int 32], vm := .none },
  { cls := 11, slots := #[.int 33], vm := .none },
  { cls := 11, slots := #[.int 34], vm := .none },
  { cls := 11, slots := #[.int 35], vm := .none },
  { cls := 11, slots := #[.int 36], vm := .none },
  { cls := 11, slots := #[.int 37], vm := .none },
  { cls := 11, slots := #[.int 38], vm := .none },
  { cls := 11, slots := #[.int 39], vm := .none },
  { cls := 11, slots := #[.int 40], vm := .none },
  { cls := 11, slots := #[.int 41], vm := .none },
  { cls := 11, slots := #[.int 42], vm := .none },
  { cls := 11, slots := #[.int 43], vm := .none },
  { cls := 11, slots := #[.int 44], vm := .none },
  { cls := 11, slots := #[.int 45], vm := .none },
  { cls := 11, slots := #[.int 46], vm := .none },
  { cls := 11, slots := #[.int 47], vm := .none },
  { cls := 11, slots := #[.int 48], vm := .none },
  { cls := 11, slots := #[.int 49], vm := .none },
  { cls := 11, slots := #[.int 50], vm := .none },
  { cls := 11, slots := #[.int 51], vm := .none },
  { cls := 11, slots := #[.int 52], vm := .none },
  { cls := 11, slots := #[.int 53], vm := .none },
  { cls := 11, slots := #[.int 54], vm := .none },
  { cls := 11, slots := #[.int 55], vm := .none },
  { cls := 11, slots := #[.int 56], vm := .none },
  { cls := 11, slots := #[.int 57], vm := .none },
  { cls := 11, slots := #[.int 58], vm := .none },
  { cls := 11, slots := #[.int 59], vm := .none },
  { cls := 11, slots := #[.int 60], vm := .none },
  { cls := 11, slots := #[.int 61], vm := .none },
  { cls := 11, slots := #[.int 62], vm := .none },
  { cls := 11, slots := #[.int 63], vm := .none },
  { cls := 11, slots := #[.int 64], vm := .none },
  { cls := 11, slots := #[.int 65], vm := .none },
  { cls := 11, slots := #[.int 66], vm := .none },
  { cls := 11, slots := #[.int 67], vm := .none },
  { cls := 11, slots := #[.int 68], vm := .none },
  { cls := 11, slots := #[.int 69], vm := .none },
  { cls := 11, slots := #[.int 70], vm := .none },
  { cls := 11, slots := #[.int 71], vm := .none },
  { cls := 11, slots := #[.int 72], vm := .none },
  { cls := 11, slots := #[.int 73], vm := .none },
  { cls := 11, slots := #[.int 74], vm := .none },
  { cls := 11, slots := #[.int 75], vm := .none },
  { cls := 11, slots := #[.int 76], vm := .none },
  { cls := 11, slots := #[.int 77], vm := .none },
  { cls := 11, slots := #[.int 78], vm := .none },
  { cls := 11, slots := #[.int 79], vm := .none },
  { cls := 11, slots := #[.int 80], vm := .none },
  { cls := 11, slots := #[.int 81], vm := .none },
  { cls := 11, slots := #[.int 82], vm := .none },
  { cls := 11, slots := #[.int 83], vm := .none },
  { cls := 11, slots := #[.int 84], vm := .none },
  { cls := 11, slots := #[.int 85], vm := .none },
  { cls := 11, slots := #[.int 86], vm := .none },
  { cls := 11, slots := #[.int 87], vm := .none },
  { cls := 11, slots := #[.int 88], vm := .none },
  { cls := 11, slots := #[.int 89], vm := .none },
  { cls := 11, slots := #[.int 90], vm := .none },
  { cls := 11, slots := #[.int 91], vm := .none },
  { cls := 11, slots := #[.int 92], vm := .none },
  { cls := 11, slots := #[.int 93], vm := .none },
  { cls := 11, slots := #[.int 94], vm := .none },
  { cls := 11, slots := #[.int 95], vm := .none },
  { cls := 11, slots := #[.int 96], vm := .none },
  { cls := 11, slots := #[.int 97], vm := .none },
  { cls := 11, slots := #[.int 98], vm := .none },
  { cls := 11, slots := #[.int 99], vm := .none },
  { cls := 11, slots := #[.int 100], vm := .none },
  { cls := 11, slots := #[.int 101], vm := .none },
  { cls := 11, slots := #[.int 102], vm := .none },
  { cls := 11, slots := #[.int 103], vm := .none },
  { cls := 11, slots := #[.int 104], vm := .none },
  { cls := 11, slots := #[.int 105], vm := .none },
  { cls := 11, slots := #[.int 106], vm := .none },
  { cls := 11, slots := #[.int 107], vm := .none },
  { cls := 11, slots := #[.int 108], vm := .none },
  { cls := 11, slots := #[.int 109], vm := .none },
  { cls := 11, slots := #[.int 110], vm := .none },
  { cls := 11, slots := #[.int 111], vm := .none },
  { cls := 11, slots := #[.int 112], vm := .none },
  { cls := 11, slots := #[.int 113], vm := .none },
  { cls := 11, slots := #[.int 114], vm := .none },
  { cls := 11, slots := #[.int 115], vm := .none },
  { cls := 11, slots := #[.int 116], vm := .none },
  { cls := 11, slots := #[.int 117], vm := .none },
  { cls := 11, slots := #[.int 118], vm := .none },
  { cls := 11, slots := #[.int 119], vm := .none },
  { cls := 11, slots := #[.int 120], vm := .none },
  { cls := 11, slots := #[.int 121], vm := .none },
  { cls := 11, slots := #[.int 122], vm := .none },
  { cls := 11, slots := #[.int 123], vm := .none },
  { cls := 11, slots := #[.int 124], vm := .none },
  { cls := 11, slots := #[.int 125], vm := .none },
  { cls := 11, slots := #[.int 126], vm := .none },
  { cls := 11, slots := #[.int 127], vm := .none }]
def classes : Array Class := #[k0, k1, k2, k3, k4, k5, k6, k7, k8, k9, k10, k11, k12, k13, k14, k15, k16, k17, k18]
def interned : List (Array UInt16 × Addr) := []
def slotsUsed : Nat := 517
def theMethod : MethodId := ⟨1, 1⟩
def args0 : Array Value := #[.int 5, .int 6, .int 7, .int 8, .int 9]
def aboutOver (below : List Frame) : State where
  vm := { classes := classes, interned := interned.toArray }
  heap := heap
  slotsUsed := slotsUsed
  threads := #[{ frames := .invoking theMethod args0 :: below }]
def below0 : List Frame := [.native { method := ⟨0, 0⟩, args := #[] }]
def about1 : State := aboutOver below0
def p0 : Program := .bare "" "" ""
def e0 : Env := launch0.env 0 0 0
theorem w_frames : about1.frames = Frame.invoking theMethod args0 :: below0 := rfl
set_option maxRecDepth 65536 in
theorem w_args : argsFit about1.vm theMethod args0 = true := by decide +kernel
set_option maxRecDepth 65536 in
theorem w_heap : heapFits about1 = true := by decide +kernel
set_option maxRecDepth 65536 in
theorem w_runnable : about1.curStatus? = some .runnable := by decide +kernel
set_option maxRecDepth 65536 in
theorem w_alone : about1.alone = true := by decide +kernel
set_option maxRecDepth 65536 in
theorem w_named : about1.methodNamed? x = some theMethod := by decide +kernel
set_option maxRecDepth 65536 in
theorem w_hears : about1.hears theMethod below0 = true := by decide +kernel
set_option maxRecDepth 65536 in
theorem w_ripe : about1.ripe theMethod args0 below0 = true := by decide +kernel
theorem w_running : about1.status = .running := rfl
set_option maxRecDepth 65536 in
theorem w_room : about1.hasRoom e0.platform room_1 = true :=
  launch0.hasRoom_least _ room_1 (by decide +kernel) (by decide +kernel) (by decide +kernel) (by decide +kernel) (by decide +kernel) (by decide +kernel)
theorem allAtoms_all (ts : List Jvm.Cond) (a : Array Jvm.Value) (st : Jvm.State) : (allAtoms ts).before a st = ts.all (fun c => c.before a st) := by
  induction ts with
  | nil => rfl
  | cons c t ih =>
    show (Jvm.Cond.and c (allAtoms t)).before a st = _
    rw [Jvm.Cond.before_and, ih, List.all_cons]
def words1 : List Jvm.Cond := Jvm.Cond.code x code maxLocals ret :: tables_1
/-- a 'code' word, met by the world's own term for the bytes: nothing is compared byte by byte -/
theorem code_word {y : MethodName} {bytes : ByteArray} {mx : Nat} {rt : Option FieldType} {a : Array Value} {s : State} {m : MethodId} {meth : Method} {c : Code} (h1 : s.methodNamed? y = some m) (h2 : s.vm.method? m = some meth) (h3 : meth.code = some c) (h4 : c.code = bytes)
    (h5 : (c.maxLocals == mx && c.exceptionTable.isEmpty && decide (c.maxStack ≤ mostOperands) && decide (meth.sig.returnType = rt) && !meth.locks && decide (parseMethodDescriptor y.desc = some meth.sig)) = true) : (Jvm.Cond.code y bytes mx rt).before a s = true := by
  simp only [Bool.and_eq_true, beq_iff_eq, Bool.not_eq_true', decide_eq_true_eq] at h5
  obtain ⟨⟨⟨⟨⟨g1, g2⟩, g3⟩, g4⟩, g5⟩, g6⟩ := h5
  simp [Cond.before, Cond.holds, Cond.value, h1, h2, h3, h4, g1, g2, g3, g4, g5, g6]
def isCode : Jvm.Cond → Bool
  | .code _ _ _ _ => true
  | _ => false
theorem all_split {L : List Jvm.Cond} {P : Jvm.Cond → Bool} (h1 : L.all (fun c => isCode c || P c) = true) (h2 : ∀ c ∈ L.filter isCode, P c = true) : L.all P = true := by
  refine List.all_eq_true.mpr fun c hc => ?_
  have h := List.all_eq_true.mp h1 c hc
  rcases Bool.eq_false_or_eq_true (isCode c) with hi | hi
  · exact h2 c (List.mem_filter.mpr ⟨hc, hi⟩)
  · simpa [hi] using h
set_option maxRecDepth 65536 in
theorem w_c0 : (Jvm.Cond.code x code maxLocals ret).before args0 about1 = true := code_word (m := ⟨1, 1⟩) (meth := k1m1) (c := k1c1) (by decide +kernel) rfl rfl rfl (by decide +kernel)
set_option maxRecDepth 65536 in
theorem w_c1 : (Jvm.Cond.code ({ cls := "java/lang/Math", name := "max", desc := "(JJ)J" } : Jvm.MethodName) jdk_29_method_66_code (4 : Nat) (Option.some Jvm.ClassFile.FieldType.long)).before args0 about1 = true := code_word (m := ⟨2, 1⟩) (meth := k2m1) (c := k2c1) (by decide +kernel) rfl rfl rfl (by decide +kernel)
set_option maxRecDepth 65536 in
theorem w_c2 : (Jvm.Cond.code ({ cls := "com/example/expiry/expiry/model/Push", name := "<init>", desc := "(JJJJ)V" } : Jvm.MethodName) prog_47_method_1_code (9 : Nat) (Option.none : Option Jvm.ClassFile.FieldType)).before args0 about1 = true := code_word (m := ⟨3, 0⟩) (meth := k3m0) (c := k3c0) (by decide +kernel) rfl rfl rfl (by decide +kernel)
set_option maxRecDepth 65536 in
theorem w_c3 : (Jvm.Cond.code ({ cls := "java/lang/Object", name := "<init>", desc := "()V" } : Jvm.MethodName) object_method_1_code (1 : Nat) (Option.none : Option Jvm.ClassFile.FieldType)).before args0 about1 = true := code_word (m := ⟨0, 0⟩) (meth := k0m0) (c := k0c0) (by decide +kernel) rfl rfl rfl (by decide +kernel)
set_option maxRecDepth 65536 in
theorem w_c4 : (Jvm.Cond.code ({ cls := "com/example/expiry/expiry/model/Push", name := "inRange", desc := "(Ljava/lang/String;JII)I" } : Jvm.MethodName) prog_47_method_9_code (5 : Nat) (Option.some Jvm.ClassFile.FieldType.int)).before args0 about1 = true := code_word (m := ⟨3, 2⟩) (meth := k3m2) (c := k3c2) (by decide +kernel) rfl rfl rfl (by decide +kernel)
set_option maxRecDepth 65536 in
theorem w_c5 : (Jvm.Cond.code ({ cls := "com/example/expiry/expiry/model/Push", name := "equals", desc := "(Ljava/lang/Object;)Z" } : Jvm.MethodName) prog_47_method_7_code (3 : Nat) (Option.some Jvm.ClassFile.FieldType.boolean)).before args0 about1 = true := code_word (m := ⟨3, 1⟩) (meth := k3m1) (c := k3c1) (by decide +kernel) rfl rfl rfl (by decide +kernel)
set_option maxRecDepth 65536 in
theorem w_c6 : (Jvm.Cond.code ({ cls := "java/lang/Integer", name := "valueOf", desc := "(I)Ljava/lang/Integer;" } : Jvm.MethodName) jdk_33_method_22_code (1 : Nat) (Option.some (Jvm.ClassFile.FieldType.object "java/lang/Integer"))).before args0 about1 = true := code_word (m := ⟨11, 0⟩) (meth := k11m0) (c := k11c0) (by decide +kernel) rfl rfl rfl (by decide +kernel)
set_option maxRecDepth 65536 in
theorem w_c7 : (Jvm.Cond.code ({ cls := "java/lang/Integer", name := "<init>", desc := "(I)V" } : Jvm.MethodName) jdk_33_method_23_code (2 : Nat) (Option.none : Option Jvm.ClassFile.FieldType)).before args0 about1 = true := code_word (m := ⟨11, 1⟩) (meth := k11m1) (c := k11c1) (by decide +kernel) rfl rfl rfl (by decide +kernel)
set_option maxRecDepth 65536 in
theorem w_c8 : (Jvm.Cond.code ({ cls := "java/lang/Number", name := "<init>", desc := "()V" } : Jvm.MethodName) jdk_18_method_1_code (1 : Nat) (Option.none : Option Jvm.ClassFile.FieldType)).before args0 about1 = true := code_word (m := ⟨10, 0⟩) (meth := k10m0) (c := k10c0) (by decide +kernel) rfl rfl rfl (by decide +kernel)
def codes1 : List Jvm.Cond := [Jvm.Cond.code x code maxLocals ret, Jvm.Cond.code ({ cls := "java/lang/Math", name := "max", desc := "(JJ)J" } : Jvm.MethodName) jdk_29_method_66_code (4 : Nat) (Option.some Jvm.ClassFile.FieldType.long), Jvm.Cond.code ({ cls := "com/example/expiry/expiry/model/Push", name := "<init>", desc := "(JJJJ)V" } : Jvm.MethodName) prog_47_method_1_code (9 : Nat) (Option.none : Option Jvm.ClassFile.FieldType), Jvm.Cond.code ({ cls := "java/lang/Object", name := "<init>", desc := "()V" } : Jvm.MethodName) object_method_1_code (1 : Nat) (Option.none : Option Jvm.ClassFile.FieldType), Jvm.Cond.code ({ cls := "com/example/expiry/expiry/model/Push", name := "inRange", desc := "(Ljava/lang/String;JII)I" } : Jvm.MethodName) prog_47_method_9_code (5 : Nat) (Option.some Jvm.ClassFile.FieldType.int), Jvm.Cond.code ({ cls := "com/example/expiry/expiry/model/Push", name := "equals", desc := "(Ljava/lang/Object;)Z" } : Jvm.MethodName) prog_47_method_7_code (3 : Nat) (Option.some Jvm.ClassFile.FieldType.boolean), Jvm.Cond.code ({ cls := "java/lang/Integer", name := "valueOf", desc := "(I)Ljava/lang/Integer;" } : Jvm.MethodName) jdk_33_method_22_code (1 : Nat) (Option.some (Jvm.ClassFile.FieldType.object "java/lang/Integer")), Jvm.Cond.code ({ cls := "java/lang/Integer", name := "<init>", desc := "(I)V" } : Jvm.MethodName) jdk_33_method_23_code (2 : Nat) (Option.none : Option Jvm.ClassFile.FieldType), Jvm.Cond.code ({ cls := "java/lang/Number", name := "<init>", desc := "()V" } : Jvm.MethodName) jdk_18_method_1_code (1 : Nat) (Option.none : Option Jvm.ClassFile.FieldType)]
set_option maxRecDepth 65536 in
theorem codes_eq : words1.filter isCode = codes1 := rfl
theorem w_codes : ∀ c ∈ words1.filter isCode, c.before args0 about1 = true := by
  rw [codes_eq]
  intro c hc
  simp only [codes1, List.mem_cons, List.not_mem_nil, or_false] at hc
  rcases hc with rfl | rfl | rfl | rfl | rfl | rfl | rfl | rfl | rfl
  · exact w_c0
  · exact w_c1
  · exact w_c2
  · exact w_c3
  · exact w_c4
  · exact w_c5
  · exact w_c6
  · exact w_c7
  · exact w_c8
set_option maxRecDepth 65536 in
theorem w_t1 : (words1.take 24).all (fun c => isCode c || c.before args0 about1) = true := by decide +kernel
set_option maxRecDepth 65536 in
theorem w_t2 : ((words1.drop 24).take 24).all (fun c => isCode c || c.before args0 about1) = true := by decide +kernel
set_option maxRecDepth 65536 in
theorem w_t3 : (((words1.drop 24).drop 24).take 24).all (fun c => isCode c || c.before args0 about1) = true := by decide +kernel
set_option maxRecDepth 65536 in
theorem w_t4 : (((words1.drop 24).drop 24).drop 24).all (fun c => isCode c || c.before args0 about1) = true := by decide +kernel
theorem w_tables : (allAtoms (Jvm.Cond.code x code maxLocals ret :: tables_1)).before args0 about1 = true := by
  rw [allAtoms_all]
  show words1.all (fun c => c.before args0 about1) = true
  refine all_split ?_ w_codes
  rw [← List.take_append_drop 24 words1, List.all_append, w_t1, ← List.take_append_drop 24 (words1.drop 24), List.all_append, w_t2, ← List.take_append_drop 24 ((words1.drop 24).drop 24), List.all_append, w_t3, w_t4]
  rfl
set_option maxRecDepth 65536 in
theorem w_rest : rest_1_c.before args0 about1 = true := by decide +kernel
set_option maxRecDepth 65536 in
theorem w_case : (Jvm.Cond.and given_1 narrow_1).before args0 about1 = true := by decide +kernel
theorem w_applies : (headSpec (Jvm.Cond.code x code maxLocals ret :: tables_1) room_1).applies x e0.platform about1 = true :=
  (Spec.applies_iff w_frames).mpr ⟨w_running, w_runnable, w_alone, w_named, w_hears, w_ripe, w_room, w_tables⟩
theorem atStart : AtStart classFile x code maxLocals ret World_1 tables_1 room_1 Calls_1 rest_1 Pre_1 launch0 p0 e0 about1 theMethod args0 below0 :=
  ⟨lists_1, trivial, launch0.admits_env _ _ _, launch0.least_env, fairChoices_fair.cas, fairChoices_fair.clock, w_frames, w_args, w_heap, w_applies, trivial, w_rest, w_case⟩
end start1
theorem witness_1 : WitnessClaimed_1 := ⟨start1.p0, start1.e0, start1.about1, start1.theMethod, start1.args0, start1.below0, start1.atStart⟩
end Jvm.Pilot.@@N@@
