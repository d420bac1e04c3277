import JvmDerived
import JvmDerived.Pilot.@@N@@Statement
import JvmDerived.Pilot.@@N@@Code
set_option linter.unusedVariables false
set_option linter.unusedSimpArgs false
namespace Jvm.Pilot.@@N@@
open Jvm Jvm.ClassFile Sem Op Lib Jvm.Free Jvm.Stand Jvm.LawKit Jvm.RoadKit Bundle Jvm.Pilot.@@N@@.Jvm.D
/-! the walk's goal in continuation style -/
def own_Ends (p : Program) (e : Env) (below : List Frame) (s : State) (Q : Option Value → Heap → List Loc → Prop) (k n : Nat) (t : State) : Prop :=
  ∃ s₂ o, Steps p.tables e below t s₂ ∧ s₂.status = .running ∧ Ended s₂ below o ∧ ∃ v L, o = .returned v ∧ Q v s₂.heap L ∧ FrameEnd s o s₂ L k n
section OwnEnds
variable {p : Program} {l : Launch} {e : Env} {R : Room} {s : State} {m : MethodId} {args : Array Value} {below : List Frame} {meth : Method} {c : Code} {T : State} {locs : List Loc} {cells slots : Nat} {Q : Option Value → Heap → List Loc → Prop} {k n : Nat}
theorem own_go {t t' : State} (h : ∀ u, Steps p.tables e below t' u → Steps p.tables e below t u) (g : own_Ends p e below s Q k n t') : own_Ends p e below s Q k n t := by
  obtain ⟨s₂, o, h1, h2⟩ := g
  exact ⟨s₂, o, h _ h1, h2⟩
theorem own_retN (X : Stand p l e R s m args below meth c T locs cells slots) (hx : p.tables.exec = Jvm.exec) {pc : Nat} {Ls : Array Slot} {z w : Int32} {t : FieldType} {rest : List Value} (hret : meth.sig.returnType = some t) (ht : t = .boolean ∨ t = .byte ∨ t = .char ∨ t = .short)
    (hd : decode c.code pc = .ok (.ireturn, 1)) (hlk : meth.locks = false) (hz : nar t z = w) (hQ : Q (some (.int w)) T.heap locs) (hk : cells ≤ k) (hn : slots ≤ n) : own_Ends p e below s Q k n (T.setTop (mkF m pc Ls (.int z :: rest))) := by
  subst hz
  obtain ⟨fs, hr, hrun, hended, hW, hsame⟩ := X.leave (v := some (.int (nar t z))) (fun h => by rw [hret] at h; cases h) hlk
  exact ⟨_, _, retN X hx hret ht hd hr, hrun, hended, _, _, rfl, hQ, ⟨_, rfl⟩, hW, hsame.mono hk hn⟩
theorem own_ret (X : Stand p l e R s m args below meth c T locs cells slots) (hx : p.tables.exec = Jvm.exec) {pc : Nat} {Ls : Array Slot} {w : Value} {t : FieldType} {i : Instr} {rest : List Value} (hret : meth.sig.returnType = some t) (hn' : narrow t w = w)
    (hi : (i = .ireturn ∧ (t = .int ∨ t = .boolean ∨ t = .byte ∨ t = .char ∨ t = .short) ∧ ∃ z, w = .int z) ∨ (i = .lreturn ∧ t = .long ∧ ∃ z, w = .long z) ∨ (i = .dreturn ∧ t = .double ∧ ∃ z, w = .double z) ∨ (i = .freturn ∧ t = .float ∧ ∃ z, w = .float z) ∨ (i = .areturn ∧ t.isReference = true ∧ w.isRef = true))
    (hd : decode c.code pc = .ok (i, 1)) (hlk : meth.locks = false) (hQ : Q (some w) T.heap locs) (hk : cells ≤ k) (hn : slots ≤ n) : own_Ends p e below s Q k n (T.setTop (mkF m pc Ls (w :: rest))) := by
  obtain ⟨fs, hr, hrun, hended, hW, hsame⟩ := X.leave (v := some w) (fun h => by rw [hret] at h; cases h) hlk
  exact ⟨_, _, retOut X hx hret hn' hi hd hr, hrun, hended, _, _, rfl, hQ, ⟨_, rfl⟩, hW, hsame.mono hk hn⟩
theorem own_ret0 (X : Stand p l e R s m args below meth c T locs cells slots) (hx : p.tables.exec = Jvm.exec) {pc : Nat} {Ls : Array Slot} (hret : meth.sig.returnType = none)
    (hd : decode c.code pc = .ok (.return_, 1)) (hlk : meth.locks = false) (hQ : Q none T.heap locs) (hk : cells ≤ k) (hn : slots ≤ n) : own_Ends p e below s Q k n (T.setTop (mkF m pc Ls [])) := by
  obtain ⟨fs, hr, hrun, hended, hW, hsame⟩ := X.leave (v := none) (fun _ => rfl) hlk
  exact ⟨_, _, X.returnOut hx hret hd hr, hrun, hended, _, _, rfl, hQ, ⟨_, rfl⟩, hW, hsame.mono hk hn⟩
end OwnEnds
theorem pd_0 : parseMethodDescriptor "(JJD)V" = some ⟨[.long, .long, .double], none⟩ := by decide +kernel
theorem pd_1 : parseMethodDescriptor "()V" = some ⟨[], none⟩ := by decide +kernel
theorem pd_2 : parseMethodDescriptor "()Z" = some ⟨[], some .boolean⟩ := by decide +kernel
theorem own_nan (p : Int32) : Jvm.Free.Fl.NoNaN64 (FP.ddiv (FP.i2d (p &&& (3 : Int32))) (4616189618054758400 : UInt64)) := Jvm.Free.Fl.ddiv_out (nn_w (i2d_w _)) (by show _ < _; decide +kernel) (by show _ ≠ _; decide +kernel)
def own_rm (y : Int64) : Int32 := if y = 9223372036854775807 then 0 else 1
def own_bb (x y : Int64) : Int32 := if x = 9223372036854775807 then 0 else if y = 9223372036854775807 then 0 else 1
theorem d1_0 : decode prog_11_method_1_code 0 = .ok (.aload_n 0, 1) := by decide +kernel
theorem d1_1 : decode prog_11_method_1_code 1 = .ok (.invokespecial 1, 3) := by decide +kernel
theorem d1_4 : decode prog_11_method_1_code 4 = .ok (.aload_n 0, 1) := by decide +kernel
theorem d1_5 : decode prog_11_method_1_code 5 = .ok (.lload_n 1, 1) := by decide +kernel
theorem d1_6 : decode prog_11_method_1_code 6 = .ok (.putfield 7, 3) := by decide +kernel
theorem d1_9 : decode prog_11_method_1_code 9 = .ok (.aload_n 0, 1) := by decide +kernel
theorem d1_10 : decode prog_11_method_1_code 10 = .ok (.lload_n 3, 1) := by decide +kernel
theorem d1_11 : decode prog_11_method_1_code 11 = .ok (.putfield 13, 3) := by decide +kernel
theorem d1_14 : decode prog_11_method_1_code 14 = .ok (.aload_n 0, 1) := by decide +kernel
theorem d1_15 : decode prog_11_method_1_code 15 = .ok (.dload 5, 2) := by decide +kernel
theorem d1_17 : decode prog_11_method_1_code 17 = .ok (.putfield 16, 3) := by decide +kernel
theorem d1_20 : decode prog_11_method_1_code 20 = .ok (.aload_n 0, 1) := by decide +kernel
theorem d1_21 : decode prog_11_method_1_code 21 = .ok (.lload_n 1, 1) := by decide +kernel
theorem d1_22 : decode prog_11_method_1_code 22 = .ok (.ldc2_w 22, 3) := by decide +kernel
theorem d1_25 : decode prog_11_method_1_code 25 = .ok (.lcmp, 1) := by decide +kernel
theorem d1_26 : decode prog_11_method_1_code 26 = .ok (.ifCond .eq 15, 3) := by decide +kernel
theorem d1_29 : decode prog_11_method_1_code 29 = .ok (.lload_n 3, 1) := by decide +kernel
theorem d1_30 : decode prog_11_method_1_code 30 = .ok (.ldc2_w 22, 3) := by decide +kernel
theorem d1_33 : decode prog_11_method_1_code 33 = .ok (.lcmp, 1) := by decide +kernel
theorem d1_34 : decode prog_11_method_1_code 34 = .ok (.ifCond .eq 7, 3) := by decide +kernel
theorem d1_37 : decode prog_11_method_1_code 37 = .ok (.iconst 1, 1) := by decide +kernel
theorem d1_38 : decode prog_11_method_1_code 38 = .ok (.goto 4, 3) := by decide +kernel
theorem d1_41 : decode prog_11_method_1_code 41 = .ok (.iconst 0, 1) := by decide +kernel
theorem d1_42 : decode prog_11_method_1_code 42 = .ok (.putfield 24, 3) := by decide +kernel
theorem d1_45 : decode prog_11_method_1_code 45 = .ok (.return_, 1) := by decide +kernel
theorem pn_0 : plainName "com/example/unutkan/unutkan/core/FixedExpiration" = true := by first | (simp [plainName, overriddenIn]; done) | decide +kernel
theorem ef_1 (m : MethodId) (x0 : Addr) (x1 : Int64) (x2 : Int64) (x3 : UInt64) : entryFrame m #[(.ref x0), (.long x1), (.long x2), (.double x3)] 7 = mkF m 0 #[.val (.ref x0), .val (.long x1), .second, .val (.long x2), .second, .val (.double x3), .second] [] := by first | (simp [entryFrame, mkF, argsToLocals, Value.category]; done) | rfl
def Q1 (a1 : Addr) (q2 : Int64) (q3 : Int64) (d4 : UInt64) (h0 : Heap) (n0 : Nat) (Z : State) (v : Option Value) (h : Heap) (L : List Loc) : Prop := v = none ∧ Fr n0 L ∧ Keep h0 h [a1] ∧ Fld Z h a1 "com/example/unutkan/unutkan/core/FixedExpiration" "afterWrite" "J" (.long q2) ∧ Fld Z h a1 "com/example/unutkan/unutkan/core/FixedExpiration" "afterAccess" "J" (.long q3) ∧ Fld Z h a1 "com/example/unutkan/unutkan/core/FixedExpiration" "jitter" "D" (.double d4) ∧ Fld Z h a1 "com/example/unutkan/unutkan/core/FixedExpiration" "boundByBoth" "Z" (.int (nar .boolean (own_bb q2 q3)))
set_option maxRecDepth 65536 in
set_option maxHeartbeats 40000000 in
theorem rm1 (l : Launch) (Z : State) (a0 : Array Value) (hw : ∀ d ∈ tables_1, d.before a0 Z = true) (ws : List Jvm.Cond) (a1 : Addr) (q2 : Int64) (q3 : Int64) (d4 : UInt64) (h0 : Heap) (n0 : Nat) (Z0 : n0 ≤ h0.size) (E1 : Exa Z h0 a1 "com/example/unutkan/unutkan/core/FixedExpiration") (F_afterWrite : Fld Z h0 a1 "com/example/unutkan/unutkan/core/FixedExpiration" "afterWrite" "J" (.long (0 : Int64))) (F_afterAccess : Fld Z h0 a1 "com/example/unutkan/unutkan/core/FixedExpiration" "afterAccess" "J" (.long (0 : Int64))) (F_jitter : Fld Z h0 a1 "com/example/unutkan/unutkan/core/FixedExpiration" "jitter" "D" (.double (0 : UInt64))) (F_boundByBoth : Fld Z h0 a1 "com/example/unutkan/unutkan/core/FixedExpiration" "boundByBoth" "Z" (.int (0 : Int32))) (g1 : n0 ≤ a1) :
    MetFree l (⟨"com/example/unutkan/unutkan/core/FixedExpiration", "<init>", "(JJD)V"⟩ : MethodName) (head1 (Jvm.Cond.code (⟨"com/example/unutkan/unutkan/core/FixedExpiration", "<init>", "(JJD)V"⟩ : MethodName) prog_11_method_1_code 7 none :: ws) ({ frames := 1, cells := 0, slots := 0, locals := 12 } : Room)) (fun a U => a = #[(.ref a1), (.long q2), (.long q3), (.double d4)] ∧ Z.Warmed39 U.vm ∧ U.heap = h0) (fun _ _ _ _ _ => True) (fun _ U o U' => ∃ v L, o = .returned v ∧ Q1 a1 q2 q3 d4 h0 n0 Z v U'.heap L ∧ FrameEnd U o U' L ({ frames := 1, cells := 0, slots := 0, locals := 12 } : Room).cells ({ frames := 1, cells := 0, slots := 0, locals := 12 } : Room).slots) := by
  refine MetFree.of_bodySF (plainFor_of_name pn_0) hisR ?_
  intro p e s m args below meth c s₁ Bd hml0 hP hK
  obtain ⟨rfl, hZ, hh⟩ := hP
  have hx := Bd.exec
  have hby := Bd.bytes
  have hml : c.maxLocals = 7 := hml0
  have hown : s.vm.findClass "com/example/unutkan/unutkan/core/FixedExpiration" = some m.cls := findClass_of_methodNamed Bd.named
  have hnm := (name_of_methodNamed Bd.named Bd.method).1
  have hlk := Bd.notSynchronized
  have hrt := Bd.returns
  have X0 : Stand p l e ({ frames := 1, cells := 0, slots := 0, locals := 12 } : Room) s m #[(.ref a1), (.long q2), (.long q3), (.double d4)] below meth c s₁ [] 0 0 := Stand.of_body Bd
  have e0 : s₁.heap = h0 := by rw [← hh, Bd.state]; rfl
  have N0 := Fr.nil n0
  show own_Ends p e below s (Q1 a1 q2 q3 d4 h0 n0 Z) ({ frames := 1, cells := 0, slots := 0, locals := 12 } : Room).cells ({ frames := 1, cells := 0, slots := 0, locals := 12 } : Room).slots (s₁.setTop (entryFrame m #[(.ref a1), (.long q2), (.long q3), (.double d4)] 7))
  rw [ef_1]
  have K0 : Keep h0 h0 [a1] := Keep.refl h0 [a1]
  refine own_go (fun _ k => XS.aloadN X0.here hx rfl (hb hby d1_0) rfl rfl <| k) ?_
  show own_Ends p e below s _ _ _ (s₁.setTop (mkF m 1 #[.val (.ref a1), .val (.long q2), .second, .val (.long q3), .second, .val (.double d4), .second] [(.ref a1)]))
  obtain ⟨T1, X1, e1, st1⟩ := initO X0 hx hZ hown (hw _ (List.mem_of_getElem? (i := 8) rfl)) (hw _ (List.mem_of_getElem? (i := 9) rfl)) (hw _ (List.mem_of_getElem? (i := 10) rfl)) e0 (g := (mkF m 1 #[.val (.ref a1), .val (.long q2), .second, .val (.long q3), .second, .val (.double d4), .second] [(.ref a1)])) rfl (by rw [hml]; rfl) rfl (hb hby d1_1) (by decide) (W := 0) (by show 2 * 0 + _ ≤ _; exact Nat.le_of_eq rfl) (by decide)
  refine own_go st1 ?_
  show own_Ends p e below s _ _ _ (T1.setTop (mkF m 4 #[.val (.ref a1), .val (.long q2), .second, .val (.long q3), .second, .val (.double d4), .second] []))
  refine own_go (fun _ k => XS.aloadN X1.here hx rfl (hb hby d1_4) rfl rfl <| XS.lloadN X1.here hx rfl (hb hby d1_5) rfl <| k) ?_
  show own_Ends p e below s _ _ _ (T1.setTop (mkF m 6 #[.val (.ref a1), .val (.long q2), .second, .val (.long q3), .second, .val (.double d4), .second] [(.long q2), (.ref a1)]))
  obtain ⟨T2, h2, X2, e2, W2, st2⟩ := putF X1 hx hZ hown (host := "") (Or.inl (hw _ (List.mem_of_getElem? (i := 11) rfl))) Via.refl e1 F_afterWrite E1 (Or.inr ⟨(hw _ (List.mem_of_getElem? (i := 12) rfl)), rfl, hnm⟩) (hw _ (List.mem_of_getElem? (i := 3) rfl)) (ty := .long) (by decide) rfl rfl (g := (mkF m 6 #[.val (.ref a1), .val (.long q2), .second, .val (.long q3), .second, .val (.double d4), .second] [(.long q2), (.ref a1)])) rfl rfl (hb hby d1_6)
  refine own_go st2 ?_
  have E1'2 := E1.wr W2
  have F_afterAccess'2 := F_afterAccess.other W2 (Or.inr (slot_ne (Or.inr (hw _ (List.mem_of_getElem? (i := 14) rfl))) (Or.inr (hw _ (List.mem_of_getElem? (i := 12) rfl))) (by decide) (t := .long) (t' := .long) (by decide) (by decide)))
  have F_jitter'2 := F_jitter.other W2 (Or.inr (slot_ne (Or.inr (hw _ (List.mem_of_getElem? (i := 16) rfl))) (Or.inr (hw _ (List.mem_of_getElem? (i := 12) rfl))) (by decide) (t := .double) (t' := .long) (by decide) (by decide)))
  have F_boundByBoth'2 := F_boundByBoth.other W2 (Or.inr (slot_ne (Or.inr (hw _ (List.mem_of_getElem? (i := 19) rfl))) (Or.inr (hw _ (List.mem_of_getElem? (i := 12) rfl))) (by decide) (t := .boolean) (t' := .long) (by decide) (by decide)))
  have Z2 := Nat.le_trans Z0 (Keep.of_wr W2).1
  have K2' := K0.wr W2 (Or.inl (List.mem_of_getElem? (i := 0) rfl))
  have N2 := Fr.snoc X2 N0 g1
  have F_afterWrite'2 := F_afterWrite.same W2
  show own_Ends p e below s _ _ _ (T2.setTop (mkF m 9 #[.val (.ref a1), .val (.long q2), .second, .val (.long q3), .second, .val (.double d4), .second] []))
  refine own_go (fun _ k => XS.aloadN X2.here hx rfl (hb hby d1_9) rfl rfl <| XS.lloadN X2.here hx rfl (hb hby d1_10) rfl <| k) ?_
  show own_Ends p e below s _ _ _ (T2.setTop (mkF m 11 #[.val (.ref a1), .val (.long q2), .second, .val (.long q3), .second, .val (.double d4), .second] [(.long q3), (.ref a1)]))
  obtain ⟨T3, h3, X3, e3, W3, st3⟩ := putF X2 hx hZ hown (host := "") (Or.inl (hw _ (List.mem_of_getElem? (i := 13) rfl))) Via.refl e2 F_afterAccess'2 E1'2 (Or.inr ⟨(hw _ (List.mem_of_getElem? (i := 14) rfl)), rfl, hnm⟩) (hw _ (List.mem_of_getElem? (i := 3) rfl)) (ty := .long) (by decide) rfl rfl (g := (mkF m 11 #[.val (.ref a1), .val (.long q2), .second, .val (.long q3), .second, .val (.double d4), .second] [(.long q3), (.ref a1)])) rfl rfl (hb hby d1_11)
  refine own_go st3 ?_
  have E1'3 := E1'2.wr W3
  have F_jitter'3 := F_jitter'2.other W3 (Or.inr (slot_ne (Or.inr (hw _ (List.mem_of_getElem? (i := 16) rfl))) (Or.inr (hw _ (List.mem_of_getElem? (i := 14) rfl))) (by decide) (t := .double) (t' := .long) (by decide) (by decide)))
  have F_boundByBoth'3 := F_boundByBoth'2.other W3 (Or.inr (slot_ne (Or.inr (hw _ (List.mem_of_getElem? (i := 19) rfl))) (Or.inr (hw _ (List.mem_of_getElem? (i := 14) rfl))) (by decide) (t := .boolean) (t' := .long) (by decide) (by decide)))
  have F_afterWrite'3 := F_afterWrite'2.other W3 (Or.inr (slot_ne (Or.inr (hw _ (List.mem_of_getElem? (i := 12) rfl))) (Or.inr (hw _ (List.mem_of_getElem? (i := 14) rfl))) (by decide) (t := .long) (t' := .long) (by decide) (by decide)))
  have Z3 := Nat.le_trans Z2 (Keep.of_wr W3).1
  have K3' := K2'.wr W3 (Or.inl (List.mem_of_getElem? (i := 0) rfl))
  have N3 := Fr.snoc X3 N2 g1
  have F_afterAccess'3 := F_afterAccess'2.same W3
  show own_Ends p e below s _ _ _ (T3.setTop (mkF m 14 #[.val (.ref a1), .val (.long q2), .second, .val (.long q3), .second, .val (.double d4), .second] []))
  refine own_go (fun _ k => XS.aloadN X3.here hx rfl (hb hby d1_14) rfl rfl <| XS.dload X3.here hx rfl (hb hby d1_15) rfl <| k) ?_
  show own_Ends p e below s _ _ _ (T3.setTop (mkF m 17 #[.val (.ref a1), .val (.long q2), .second, .val (.long q3), .second, .val (.double d4), .second] [(.double d4), (.ref a1)]))
  obtain ⟨T4, h4, X4, e4, W4, st4⟩ := putF X3 hx hZ hown (host := "") (Or.inl (hw _ (List.mem_of_getElem? (i := 15) rfl))) Via.refl e3 F_jitter'3 E1'3 (Or.inr ⟨(hw _ (List.mem_of_getElem? (i := 16) rfl)), rfl, hnm⟩) (hw _ (List.mem_of_getElem? (i := 3) rfl)) (ty := .double) (by decide) rfl rfl (g := (mkF m 17 #[.val (.ref a1), .val (.long q2), .second, .val (.long q3), .second, .val (.double d4), .second] [(.double d4), (.ref a1)])) rfl rfl (hb hby d1_17)
  refine own_go st4 ?_
  have E1'4 := E1'3.wr W4
  have F_boundByBoth'4 := F_boundByBoth'3.other W4 (Or.inr (slot_ne (Or.inr (hw _ (List.mem_of_getElem? (i := 19) rfl))) (Or.inr (hw _ (List.mem_of_getElem? (i := 16) rfl))) (by decide) (t := .boolean) (t' := .double) (by decide) (by decide)))
  have F_afterWrite'4 := F_afterWrite'3.other W4 (Or.inr (slot_ne (Or.inr (hw _ (List.mem_of_getElem? (i := 12) rfl))) (Or.inr (hw _ (List.mem_of_getElem? (i := 16) rfl))) (by decide) (t := .long) (t' := .double) (by decide) (by decide)))
  have F_afterAccess'4 := F_afterAccess'3.other W4 (Or.inr (slot_ne (Or.inr (hw _ (List.mem_of_getElem? (i := 14) rfl))) (Or.inr (hw _ (List.mem_of_getElem? (i := 16) rfl))) (by decide) (t := .long) (t' := .double) (by decide) (by decide)))
  have Z4 := Nat.le_trans Z3 (Keep.of_wr W4).1
  have K4' := K3'.wr W4 (Or.inl (List.mem_of_getElem? (i := 0) rfl))
  have N4 := Fr.snoc X4 N3 g1
  have F_jitter'4 := F_jitter'3.same W4
  show own_Ends p e below s _ _ _ (T4.setTop (mkF m 20 #[.val (.ref a1), .val (.long q2), .second, .val (.long q3), .second, .val (.double d4), .second] []))
  refine own_go (fun _ k => XS.aloadN X4.here hx rfl (hb hby d1_20) rfl rfl <| XS.lloadN X4.here hx rfl (hb hby d1_21) rfl <| X4.ldc2J hx hown (mvT hZ (hw _ (List.mem_of_getElem? (i := 17) rfl))) rfl (hb hby d1_22) <| XS.lcmp X4.here hx rfl (hb hby d1_25) rfl <| k) ?_
  show own_Ends p e below s _ _ _ (T4.setTop (mkF m 26 #[.val (.ref a1), .val (.long q2), .second, .val (.long q3), .second, .val (.double d4), .second] [(.int (lcmpW q2 (9223372036854775807 : Int64))), (.ref a1)]))
  by_cases hc26_5 : q2 = (9223372036854775807 : Int64)
  · -- true
    refine own_go (fun _ k => XS.ifYes X4.here hx rfl (pc0 := 26) (pc' := 41) rfl (hb hby d1_26) rfl ((if0 _ _).trans (teq ((lw_eq _ _).mpr hc26_5)).1) (by decide) (by decide) <| XT.iconstV X4.here hx rfl (0 : Int32) (hb hby d1_41) rfl <| k) ?_
    show own_Ends p e below s _ _ _ (T4.setTop (mkF m 42 #[.val (.ref a1), .val (.long q2), .second, .val (.long q3), .second, .val (.double d4), .second] [(.int (0 : Int32)), (.ref a1)]))
    obtain ⟨T6, h6, X6, e6, W6, st6⟩ := putFN X4 hx hZ hown (hw _ (List.mem_of_getElem? (i := 18) rfl)) Via.refl e4 F_boundByBoth'4 E1'4 (Or.inr ⟨(hw _ (List.mem_of_getElem? (i := 19) rfl)), rfl, hnm⟩) (hw _ (List.mem_of_getElem? (i := 3) rfl)) (ty := .boolean) (v' := (.int (0 : Int32))) (by decide) (by decide) (by decide) (g := (mkF m 42 #[.val (.ref a1), .val (.long q2), .second, .val (.long q3), .second, .val (.double d4), .second] [(.int (0 : Int32)), (.ref a1)])) rfl rfl (hb hby d1_42)
    refine own_go st6 ?_
    have E1'6 := E1'4.wr W6
    have F_afterWrite'6 := F_afterWrite'4.other W6 (Or.inr (slot_ne (Or.inr (hw _ (List.mem_of_getElem? (i := 12) rfl))) (Or.inr (hw _ (List.mem_of_getElem? (i := 19) rfl))) (by decide) (t := .long) (t' := .boolean) (by decide) (by decide)))
    have F_afterAccess'6 := F_afterAccess'4.other W6 (Or.inr (slot_ne (Or.inr (hw _ (List.mem_of_getElem? (i := 14) rfl))) (Or.inr (hw _ (List.mem_of_getElem? (i := 19) rfl))) (by decide) (t := .long) (t' := .boolean) (by decide) (by decide)))
    have F_jitter'6 := F_jitter'4.other W6 (Or.inr (slot_ne (Or.inr (hw _ (List.mem_of_getElem? (i := 16) rfl))) (Or.inr (hw _ (List.mem_of_getElem? (i := 19) rfl))) (by decide) (t := .double) (t' := .boolean) (by decide) (by decide)))
    have Z6 := Nat.le_trans Z4 (Keep.of_wr W6).1
    have K6' := K4'.wr W6 (Or.inl (List.mem_of_getElem? (i := 0) rfl))
    have N6 := Fr.snoc X6 N4 g1
    have F_boundByBoth'6 := F_boundByBoth'4.same W6
    show own_Ends p e below s _ _ _ (T6.setTop (mkF m 45 #[.val (.ref a1), .val (.long q2), .second, .val (.long q3), .second, .val (.double d4), .second] []))
    exact own_ret0 X6 hx hrt (hb hby d1_45) hlk (by rw [e6]; exact ⟨rfl, N6, K6', F_afterWrite'6, F_afterAccess'6, F_jitter'6, (by have q := F_boundByBoth'6; rw [show nar .boolean (own_bb q2 q3) = (0 : Int32) from by unfold own_bb; rw [if_pos hc26_5]; decide]; exact q)⟩) (by decide) (by decide)
  · -- false
    refine own_go (fun _ k => XS.ifNo X4.here hx rfl (hb hby d1_26) rfl ((if0 _ _).trans (feq (fun q => hc26_5 ((lw_eq _ _).mp q))).1) <| XS.lloadN X4.here hx rfl (hb hby d1_29) rfl <| X4.ldc2J hx hown (mvT hZ (hw _ (List.mem_of_getElem? (i := 17) rfl))) rfl (hb hby d1_30) <| XS.lcmp X4.here hx rfl (hb hby d1_33) rfl <| k) ?_
    show own_Ends p e below s _ _ _ (T4.setTop (mkF m 34 #[.val (.ref a1), .val (.long q2), .second, .val (.long q3), .second, .val (.double d4), .second] [(.int (lcmpW q3 (9223372036854775807 : Int64))), (.ref a1)]))
    by_cases hc34_7 : q3 = (9223372036854775807 : Int64)
    · -- true
      refine own_go (fun _ k => XS.ifYes X4.here hx rfl (pc0 := 34) (pc' := 41) rfl (hb hby d1_34) rfl ((if0 _ _).trans (teq ((lw_eq _ _).mpr hc34_7)).1) (by decide) (by decide) <| XT.iconstV X4.here hx rfl (0 : Int32) (hb hby d1_41) rfl <| k) ?_
      show own_Ends p e below s _ _ _ (T4.setTop (mkF m 42 #[.val (.ref a1), .val (.long q2), .second, .val (.long q3), .second, .val (.double d4), .second] [(.int (0 : Int32)), (.ref a1)]))
      obtain ⟨T8, h8, X8, e8, W8, st8⟩ := putFN X4 hx hZ hown (hw _ (List.mem_of_getElem? (i := 18) rfl)) Via.refl e4 F_boundByBoth'4 E1'4 (Or.inr ⟨(hw _ (List.mem_of_getElem? (i := 19) rfl)), rfl, hnm⟩) (hw _ (List.mem_of_getElem? (i := 3) rfl)) (ty := .boolean) (v' := (.int (0 : Int32))) (by decide) (by decide) (by decide) (g := (mkF m 42 #[.val (.ref a1), .val (.long q2), .second, .val (.long q3), .second, .val (.double d4), .second] [(.int (0 : Int32)), (.ref a1)])) rfl rfl (hb hby d1_42)
      refine own_go st8 ?_
      have E1'8 := E1'4.wr W8
      have F_afterWrite'8 := F_afterWrite'4.other W8 (Or.inr (slot_ne (Or.inr (hw _ (List.mem_of_getElem? (i := 12) rfl))) (Or.inr (hw _ (List.mem_of_getElem? (i := 19) rfl))) (by decide) (t := .long) (t' := .boolean) (by decide) (by decide)))
      have F_afterAccess'8 := F_afterAccess'4.other W8 (Or.inr (slot_ne (Or.inr (hw _ (List.mem_of_getElem? (i := 14) rfl))) (Or.inr (hw _ (List.mem_of_getElem? (i := 19) rfl))) (by decide) (t := .long) (t' := .boolean) (by decide) (by decide)))
      have F_jitter'8 := F_jitter'4.other W8 (Or.inr (slot_ne (Or.inr (hw _ (List.mem_of_getElem? (i := 16) rfl))) (Or.inr (hw _ (List.mem_of_getElem? (i := 19) rfl))) (by decide) (t := .double) (t' := .boolean) (by decide) (by decide)))
      have Z8 := Nat.le_trans Z4 (Keep.of_wr W8).1
      have K8' := K4'.wr W8 (Or.inl (List.mem_of_getElem? (i := 0) rfl))
      have N8 := Fr.snoc X8 N4 g1
      have F_boundByBoth'8 := F_boundByBoth'4.same W8
      show own_Ends p e below s _ _ _ (T8.setTop (mkF m 45 #[.val (.ref a1), .val (.long q2), .second, .val (.long q3), .second, .val (.double d4), .second] []))
      exact own_ret0 X8 hx hrt (hb hby d1_45) hlk (by rw [e8]; exact ⟨rfl, N8, K8', F_afterWrite'8, F_afterAccess'8, F_jitter'8, (by have q := F_boundByBoth'8; rw [show nar .boolean (own_bb q2 q3) = (0 : Int32) from by unfold own_bb; rw [if_neg hc26_5, if_pos hc34_7]; decide]; exact q)⟩) (by decide) (by decide)
    · -- false
      refine own_go (fun _ k => XS.ifNo X4.here hx rfl (hb hby d1_34) rfl ((if0 _ _).trans (feq (fun q => hc34_7 ((lw_eq _ _).mp q))).1) <| XT.iconstV X4.here hx rfl (1 : Int32) (hb hby d1_37) rfl <| XS.goto X4.here hx rfl (pc0 := 38) (pc' := 42) rfl (hb hby d1_38) (by decide) (by decide) <| k) ?_
      show own_Ends p e below s _ _ _ (T4.setTop (mkF m 42 #[.val (.ref a1), .val (.long q2), .second, .val (.long q3), .second, .val (.double d4), .second] [(.int (1 : Int32)), (.ref a1)]))
      obtain ⟨T9, h9, X9, e9, W9, st9⟩ := putFN X4 hx hZ hown (hw _ (List.mem_of_getElem? (i := 18) rfl)) Via.refl e4 F_boundByBoth'4 E1'4 (Or.inr ⟨(hw _ (List.mem_of_getElem? (i := 19) rfl)), rfl, hnm⟩) (hw _ (List.mem_of_getElem? (i := 3) rfl)) (ty := .boolean) (v' := (.int (1 : Int32))) (by decide) (by decide) (by decide) (g := (mkF m 42 #[.val (.ref a1), .val (.long q2), .second, .val (.long q3), .second, .val (.double d4), .second] [(.int (1 : Int32)), (.ref a1)])) rfl rfl (hb hby d1_42)
      refine own_go st9 ?_
      have E1'9 := E1'4.wr W9
      have F_afterWrite'9 := F_afterWrite'4.other W9 (Or.inr (slot_ne (Or.inr (hw _ (List.mem_of_getElem? (i := 12) rfl))) (Or.inr (hw _ (List.mem_of_getElem? (i := 19) rfl))) (by decide) (t := .long) (t' := .boolean) (by decide) (by decide)))
      have F_afterAccess'9 := F_afterAccess'4.other W9 (Or.inr (slot_ne (Or.inr (hw _ (List.mem_of_getElem? (i := 14) rfl))) (Or.inr (hw _ (List.mem_of_getElem? (i := 19) rfl))) (by decide) (t := .long) (t' := .boolean) (by decide) (by decide)))
      have F_jitter'9 := F_jitter'4.other W9 (Or.inr (slot_ne (Or.inr (hw _ (List.mem_of_getElem? (i := 16) rfl))) (Or.inr (hw _ (List.mem_of_getElem? (i := 19) rfl))) (by decide) (t := .double) (t' := .boolean) (by decide) (by decide)))
      have Z9 := Nat.le_trans Z4 (Keep.of_wr W9).1
      have K9' := K4'.wr W9 (Or.inl (List.mem_of_getElem? (i := 0) rfl))
      have N9 := Fr.snoc X9 N4 g1
      have F_boundByBoth'9 := F_boundByBoth'4.same W9
      show own_Ends p e below s _ _ _ (T9.setTop (mkF m 45 #[.val (.ref a1), .val (.long q2), .second, .val (.long q3), .second, .val (.double d4), .second] []))
      exact own_ret0 X9 hx hrt (hb hby d1_45) hlk (by rw [e9]; exact ⟨rfl, N9, K9', F_afterWrite'9, F_afterAccess'9, F_jitter'9, (by have q := F_boundByBoth'9; rw [show nar .boolean (own_bb q2 q3) = (1 : Int32) from by unfold own_bb; rw [if_neg hc26_5, if_neg hc34_7]; decide]; exact q)⟩) (by decide) (by decide)
theorem d3_0 : decode prog_11_method_5_code 0 = .ok (.aload_n 0, 1) := by decide +kernel
theorem d3_1 : decode prog_11_method_5_code 1 = .ok (.getfield 13, 3) := by decide +kernel
theorem d3_4 : decode prog_11_method_5_code 4 = .ok (.ldc2_w 22, 3) := by decide +kernel
theorem d3_7 : decode prog_11_method_5_code 7 = .ok (.lcmp, 1) := by decide +kernel
theorem d3_8 : decode prog_11_method_5_code 8 = .ok (.ifCond .eq 7, 3) := by decide +kernel
theorem d3_11 : decode prog_11_method_5_code 11 = .ok (.iconst 1, 1) := by decide +kernel
theorem d3_12 : decode prog_11_method_5_code 12 = .ok (.goto 4, 3) := by decide +kernel
theorem d3_15 : decode prog_11_method_5_code 15 = .ok (.iconst 0, 1) := by decide +kernel
theorem d3_16 : decode prog_11_method_5_code 16 = .ok (.ireturn, 1) := by decide +kernel
theorem ef_3 (m : MethodId) (x0 : Addr) : entryFrame m #[(.ref x0)] 1 = mkF m 0 #[.val (.ref x0)] [] := by first | (simp [entryFrame, mkF, argsToLocals, Value.category]; done) | rfl
def Q3 (a1 : Addr) (y : Int64) (h0 : Heap) (n0 : Nat) (Z : State) (v : Option Value) (h : Heap) (L : List Loc) : Prop := v = some (.int (own_rm y)) ∧ Fr n0 L ∧ h = h0
set_option maxRecDepth 65536 in
set_option maxHeartbeats 40000000 in
theorem rm3 (l : Launch) (Z : State) (a0 : Array Value) (hw : ∀ d ∈ tables_1, d.before a0 Z = true) (ws : List Jvm.Cond) (a1 : Addr) (y : Int64) (h0 : Heap) (n0 : Nat) (Z0 : n0 ≤ h0.size) (F1 : Fld Z h0 a1 "com/example/unutkan/unutkan/core/FixedExpiration" "afterAccess" "J" (.long y)) :
    MetFree l (⟨"com/example/unutkan/unutkan/core/FixedExpiration", "readsMoveExpiry", "()Z"⟩ : MethodName) (head1 (Jvm.Cond.code (⟨"com/example/unutkan/unutkan/core/FixedExpiration", "readsMoveExpiry", "()Z"⟩ : MethodName) prog_11_method_5_code 1 (some .boolean) :: ws) ({ frames := 0, cells := 0, slots := 0, locals := 0 } : Room)) (fun a U => a = #[(.ref a1)] ∧ Z.Warmed39 U.vm ∧ U.heap = h0) (fun _ _ _ _ _ => True) (fun _ U o U' => ∃ v L, o = .returned v ∧ Q3 a1 y h0 n0 Z v U'.heap L ∧ FrameEnd U o U' L ({ frames := 0, cells := 0, slots := 0, locals := 0 } : Room).cells ({ frames := 0, cells := 0, slots := 0, locals := 0 } : Room).slots) := by
  refine MetFree.of_bodySF (plainFor_of_name pn_0) hisR ?_
  intro p e s m args below meth c s₁ Bd hml0 hP hK
  obtain ⟨rfl, hZ, hh⟩ := hP
  have hx := Bd.exec
  have hby := Bd.bytes
  have hml : c.maxLocals = 1 := hml0
  have hown : s.vm.findClass "com/example/unutkan/unutkan/core/FixedExpiration" = some m.cls := findClass_of_methodNamed Bd.named
  have hnm := (name_of_methodNamed Bd.named Bd.method).1
  have hlk := Bd.notSynchronized
  have hrt := Bd.returns
  have X0 : Stand p l e ({ frames := 0, cells := 0, slots := 0, locals := 0 } : Room) s m #[(.ref a1)] below meth c s₁ [] 0 0 := Stand.of_body Bd
  have e0 : s₁.heap = h0 := by rw [← hh, Bd.state]; rfl
  have N0 := Fr.nil n0
  show own_Ends p e below s (Q3 a1 y h0 n0 Z) ({ frames := 0, cells := 0, slots := 0, locals := 0 } : Room).cells ({ frames := 0, cells := 0, slots := 0, locals := 0 } : Room).slots (s₁.setTop (entryFrame m #[(.ref a1)] 1))
  rw [ef_3]
  refine own_go (fun _ k => XS.aloadN X0.here hx rfl (hb hby d3_0) rfl rfl <| k) ?_
  show own_Ends p e below s _ _ _ (s₁.setTop (mkF m 1 #[.val (.ref a1)] [(.ref a1)]))
  obtain ⟨T1, X1, e1, st1⟩ := getF X0 hx hZ hown (host := "") (Or.inl (hw _ (List.mem_of_getElem? (i := 13) rfl))) Via.refl e0 F1 (g := (mkF m 1 #[.val (.ref a1)] [(.ref a1)])) rfl rfl (hb hby d3_1)
  refine own_go st1 ?_
  show own_Ends p e below s _ _ _ (T1.setTop (mkF m 4 #[.val (.ref a1)] [(.long y)]))
  refine own_go (fun _ k => X1.ldc2J hx hown (mvT hZ (hw _ (List.mem_of_getElem? (i := 17) rfl))) rfl (hb hby d3_4) <| XS.lcmp X1.here hx rfl (hb hby d3_7) rfl <| k) ?_
  show own_Ends p e below s _ _ _ (T1.setTop (mkF m 8 #[.val (.ref a1)] [(.int (lcmpW y (9223372036854775807 : Int64)))]))
  by_cases hc8_2 : y = (9223372036854775807 : Int64)
  · -- true
    refine own_go (fun _ k => XS.ifYes X1.here hx rfl (pc0 := 8) (pc' := 15) rfl (hb hby d3_8) rfl ((if0 _ _).trans (teq ((lw_eq _ _).mpr hc8_2)).1) (by decide) (by decide) <| XT.iconstV X1.here hx rfl (0 : Int32) (hb hby d3_15) rfl <| k) ?_
    show own_Ends p e below s _ _ _ (T1.setTop (mkF m 16 #[.val (.ref a1)] [(.int (0 : Int32))]))
    exact own_retN X1 hx (t := .boolean) hrt (by simp) (hb hby d3_16) hlk (show nar .boolean (0 : Int32) = (0 : Int32) from by decide) (by rw [e1]; exact ⟨by unfold own_rm; rw [if_pos hc8_2], N0, rfl⟩) (by decide) (by decide)
  · -- false
    refine own_go (fun _ k => XS.ifNo X1.here hx rfl (hb hby d3_8) rfl ((if0 _ _).trans (feq (fun q => hc8_2 ((lw_eq _ _).mp q))).1) <| XT.iconstV X1.here hx rfl (1 : Int32) (hb hby d3_11) rfl <| XS.goto X1.here hx rfl (pc0 := 12) (pc' := 16) rfl (hb hby d3_12) (by decide) (by decide) <| k) ?_
    show own_Ends p e below s _ _ _ (T1.setTop (mkF m 16 #[.val (.ref a1)] [(.int (1 : Int32))]))
    exact own_retN X1 hx (t := .boolean) hrt (by simp) (hb hby d3_16) hlk (show nar .boolean (1 : Int32) = (1 : Int32) from by decide) (by rw [e1]; exact ⟨by unfold own_rm; rw [if_neg hc8_2], N0, rfl⟩) (by decide) (by decide)
theorem pn_1 : plainName "com/example/unutkan/unutkan/core/FixedExpirationReadsMoveExpiryPinLaw" = true := by first | (simp [plainName, overriddenIn]; done) | decide +kernel
theorem ef_0 (m : MethodId) (x0 : Int64) (x1 : Int64) (x2 : Int32) (x3 : Int32) : entryFrame m #[(.long x0), (.long x1), (.int x2), (.int x3)] maxLocals = mkF m 0 #[.val (.long x0), .second, .val (.long x1), .second, .val (.int x2), .val (.int x3), .unset, .unset, .unset, .unset, .unset, .unset, .unset, .unset, .unset, .unset, .unset] [] := by first | (simp [entryFrame, mkF, argsToLocals, Value.category, maxLocals]; done) | rfl
def Q0 (q1 : Int64) (q2 : Int64) (p3 : Int32) (p4 : Int32) (h0 : Heap) (n0 : Nat) (Z : State) (v : Option Value) (h : Heap) (L : List Loc) : Prop := v = some (.int 1) ∧ Fr n0 L
set_option maxRecDepth 65536 in
set_option maxHeartbeats 40000000 in
theorem rm0 (l : Launch) (Z : State) (a0 : Array Value) (hw : ∀ d ∈ tables_1, d.before a0 Z = true) (ws : List Jvm.Cond) (q1 : Int64) (q2 : Int64) (p3 : Int32) (p4 : Int32) (h0 : Heap) (n0 : Nat) (Z0 : n0 ≤ h0.size) :
    MetFree l x (head1 (Jvm.Cond.code x code maxLocals ret :: ws) room_1) (fun a U => a = #[(.long q1), (.long q2), (.int p3), (.int p4)] ∧ Z.Warmed39 U.vm ∧ U.heap = h0) (fun _ _ _ _ _ => True) (fun _ U o U' => ∃ v L, o = .returned v ∧ Q0 q1 q2 p3 p4 h0 n0 Z v U'.heap L ∧ FrameEnd U o U' L room_1.cells room_1.slots) := by
  refine MetFree.of_bodySF (plainFor_of_name pn_1) hisR ?_
  intro p e s m args below meth c s₁ Bd hml0 hP hK
  obtain ⟨rfl, hZ, hh⟩ := hP
  have hx := Bd.exec
  have hby := Bd.bytes
  have hml : c.maxLocals = 17 := hml0
  have hown : s.vm.findClass "com/example/unutkan/unutkan/core/FixedExpirationReadsMoveExpiryPinLaw" = some m.cls := findClass_of_methodNamed Bd.named
  have hnm := (name_of_methodNamed Bd.named Bd.method).1
  have hlk := Bd.notSynchronized
  have hrt := Bd.returns
  have X0 : Stand p l e room_1 s m #[(.long q1), (.long q2), (.int p3), (.int p4)] below meth c s₁ [] 0 0 := Stand.of_body Bd
  have e0 : s₁.heap = h0 := by rw [← hh, Bd.state]; rfl
  have N0 := Fr.nil n0
  show own_Ends p e below s (Q0 q1 q2 p3 p4 h0 n0 Z) room_1.cells room_1.slots (s₁.setTop (entryFrame m #[(.long q1), (.long q2), (.int p3), (.int p4)] maxLocals))
  rw [ef_0]
  refine own_go (fun _ k => XS.iload X0.here hx rfl (hb hby at_0) rfl <| XT.iconstV X0.here hx rfl (3 : Int32) (hb hby at_2) rfl <| XS.iand X0.here hx rfl (hb hby at_3) rfl <| XS.istore X0.here hx rfl (hb hby at_4) rfl (l' := #[.val (.long q1), .second, .val (.long q2), .second, .val (.int p3), .val (.int p4), .unset, .unset, .val (.int (p3 &&& (3 : Int32))), .unset, .unset, .unset, .unset, .unset, .unset, .unset, .unset]) rfl <| k) ?_
  show own_Ends p e below s _ _ _ (s₁.setTop (mkF m 6 #[.val (.long q1), .second, .val (.long q2), .second, .val (.int p3), .val (.int p4), .unset, .unset, .val (.int (p3 &&& (3 : Int32))), .unset, .unset, .unset, .unset, .unset, .unset, .unset, .unset] []))
  have J36 : ∀ w6 : Int64, own_Ends p e below s (Q0 q1 q2 p3 p4 h0 n0 Z) room_1.cells room_1.slots (s₁.setTop (mkF m 36 #[.val (.long q1), .second, .val (.long q2), .second, .val (.int p3), .val (.int p4), .val (.long w6), .second, .val (.int (p3 &&& (3 : Int32))), .unset, .unset, .unset, .unset, .unset, .unset, .unset, .unset] [])) := by
    intro w6
    refine own_go (fun _ k => XS.iload X0.here hx rfl (hb hby at_36) rfl <| XT.iconstV X0.here hx rfl (2 : Int32) (hb hby at_38) rfl <| XS.iushr X0.here hx rfl (hb hby at_39) rfl <| XT.iconstV X0.here hx rfl (3 : Int32) (hb hby at_40) rfl <| XS.iand X0.here hx rfl (hb hby at_41) rfl <| XS.istore X0.here hx rfl (hb hby at_42) rfl (l' := #[.val (.long q1), .second, .val (.long q2), .second, .val (.int p3), .val (.int p4), .val (.long w6), .second, .val (.int (p3 &&& (3 : Int32))), .unset, .unset, .val (.int (((p3.toUInt32 >>> ((2 : Int32) &&& 31).toUInt32).toInt32) &&& (3 : Int32))), .unset, .unset, .unset, .unset, .unset]) rfl <| k) ?_
    show own_Ends p e below s _ _ _ (s₁.setTop (mkF m 44 #[.val (.long q1), .second, .val (.long q2), .second, .val (.int p3), .val (.int p4), .val (.long w6), .second, .val (.int (p3 &&& (3 : Int32))), .unset, .unset, .val (.int (((p3.toUInt32 >>> ((2 : Int32) &&& 31).toUInt32).toInt32) &&& (3 : Int32))), .unset, .unset, .unset, .unset, .unset] []))
    have J88 : ∀ w9 : Int64, own_Ends p e below s (Q0 q1 q2 p3 p4 h0 n0 Z) room_1.cells room_1.slots (s₁.setTop (mkF m 88 #[.val (.long q1), .second, .val (.long q2), .second, .val (.int p3), .val (.int p4), .val (.long w6), .second, .val (.int (p3 &&& (3 : Int32))), .val (.long w9), .second, .val (.int (((p3.toUInt32 >>> ((2 : Int32) &&& 31).toUInt32).toInt32) &&& (3 : Int32))), .unset, .unset, .unset, .unset, .unset] [])) := by
      intro w9
      have J99 : ∀ d12 : UInt64, own_Ends p e below s (Q0 q1 q2 p3 p4 h0 n0 Z) room_1.cells room_1.slots (s₁.setTop (mkF m 99 #[.val (.long q1), .second, .val (.long q2), .second, .val (.int p3), .val (.int p4), .val (.long w6), .second, .val (.int (p3 &&& (3 : Int32))), .val (.long w9), .second, .val (.int (((p3.toUInt32 >>> ((2 : Int32) &&& 31).toUInt32).toInt32) &&& (3 : Int32))), .val (.double d12), .second, .unset, .unset, .unset] [])) := by
        intro d12
        obtain ⟨T1, h1, X1, e1, E1, A1, D1, -, st1⟩ := newO X0 hx hZ hown (hw _ (List.mem_of_getElem? (i := 2) rfl)) (hw _ (List.mem_of_getElem? (i := 3) rfl)) (hw _ (List.mem_of_getElem? (i := 4) rfl)) e0 (g := (mkF m 99 #[.val (.long q1), .second, .val (.long q2), .second, .val (.int p3), .val (.int p4), .val (.long w6), .second, .val (.int (p3 &&& (3 : Int32))), .val (.long w9), .second, .val (.int (((p3.toUInt32 >>> ((2 : Int32) &&& 31).toUInt32).toInt32) &&& (3 : Int32))), .val (.double d12), .second, .unset, .unset, .unset] [])) rfl (hb hby at_99) (by decide) (by decide)
        obtain ⟨b1, g1⟩ : ∃ z, z = h0.size := ⟨_, rfl⟩
        rw [← g1] at A1 D1 st1
        refine own_go st1 ?_
        have g_b1 : n0 ≤ b1 := Nat.le_trans Z0 (Nat.le_of_eq g1.symm)
        have Z1 := Nat.le_trans Z0 E1.1
        have F_afterWrite_b1 : Fld Z h1 b1 "com/example/unutkan/unutkan/core/FixedExpiration" "afterWrite" "J" (.long (0 : Int64)) := D1 (Or.inr (hw _ (List.mem_of_getElem? (i := 12) rfl))) (ty := .long) (by decide)
        have F_afterAccess_b1 : Fld Z h1 b1 "com/example/unutkan/unutkan/core/FixedExpiration" "afterAccess" "J" (.long (0 : Int64)) := D1 (Or.inr (hw _ (List.mem_of_getElem? (i := 14) rfl))) (ty := .long) (by decide)
        have F_jitter_b1 : Fld Z h1 b1 "com/example/unutkan/unutkan/core/FixedExpiration" "jitter" "D" (.double (0 : UInt64)) := D1 (Or.inr (hw _ (List.mem_of_getElem? (i := 16) rfl))) (ty := .double) (by decide)
        have F_boundByBoth_b1 : Fld Z h1 b1 "com/example/unutkan/unutkan/core/FixedExpiration" "boundByBoth" "Z" (.int (0 : Int32)) := D1 (Or.inr (hw _ (List.mem_of_getElem? (i := 19) rfl))) (ty := .boolean) (by decide)
        show own_Ends p e below s _ _ _ (T1.setTop (mkF m 102 #[.val (.long q1), .second, .val (.long q2), .second, .val (.int p3), .val (.int p4), .val (.long w6), .second, .val (.int (p3 &&& (3 : Int32))), .val (.long w9), .second, .val (.int (((p3.toUInt32 >>> ((2 : Int32) &&& 31).toUInt32).toInt32) &&& (3 : Int32))), .val (.double d12), .second, .unset, .unset, .unset] [(.ref b1)]))
        refine own_go (fun _ k => XS.dup X1.here hx rfl (hb hby at_102) rfl rfl <| XS.lload X1.here hx rfl (hb hby at_103) rfl <| XS.lload X1.here hx rfl (hb hby at_105) rfl <| XS.dload X1.here hx rfl (hb hby at_107) rfl <| k) ?_
        show own_Ends p e below s _ _ _ (T1.setTop (mkF m 109 #[.val (.long q1), .second, .val (.long q2), .second, .val (.int p3), .val (.int p4), .val (.long w6), .second, .val (.int (p3 &&& (3 : Int32))), .val (.long w9), .second, .val (.int (((p3.toUInt32 >>> ((2 : Int32) &&& 31).toUInt32).toInt32) &&& (3 : Int32))), .val (.double d12), .second, .unset, .unset, .unset] [(.double d12), (.long w9), (.long w6), (.ref b1), (.ref b1)]))
        obtain ⟨_, _, ⟨T2, L2, k2, n2⟩, -, X2, ⟨Lc2, hQ2, l2, y2, z2⟩, st2⟩ := X1.specialBack hx (y := (⟨"com/example/unutkan/unutkan/core/FixedExpiration", "<init>", "(JJD)V"⟩ : MethodName)) rfl hown (mvT hZ (hw _ (List.mem_of_getElem? (i := 5) rfl))) (mvT hZ (hw _ (List.mem_of_getElem? (i := 6) rfl))) (mvT hZ (hw _ (List.mem_of_getElem? (i := 7) rfl))) (by decide) (backOf (W := 1) (rm1 l Z a0 hw [] b1 w6 w9 d12  h1 n0 Z1 A1 F_afterWrite_b1 F_afterAccess_b1 F_jitter_b1 F_boundByBoth_b1 g_b1 ) hZ (hw _ (List.mem_of_getElem? (i := 7) rfl)) (hw _ (List.mem_of_getElem? (i := 4) rfl)) (by decide) (by decide)) (g := (mkF m 109 #[.val (.long q1), .second, .val (.long q2), .second, .val (.int p3), .val (.int p4), .val (.long w6), .second, .val (.int (p3 &&& (3 : Int32))), .val (.long w9), .second, .val (.int (((p3.toUInt32 >>> ((2 : Int32) &&& 31).toUInt32).toInt32) &&& (3 : Int32))), .val (.double d12), .second, .unset, .unset, .unset] [(.double d12), (.long w9), (.long w6), (.ref b1), (.ref b1)])) rfl (by rw [hml]; rfl) (Steps.refl _) (a := b1) (argsL := [(.long w6), (.long w9), (.double d12)]) (rest := [(.ref b1)]) (lenOf pd_0 rfl) rfl (by show 2 * 0 + _ ≤ _; exact Nat.le_of_eq rfl) (hb hby at_109) (fun _ _ => ⟨rfl, e1, Nat.le_of_ble_eq_true rfl, Nat.le_of_ble_eq_true rfl⟩)
        dsimp only [Pt.U, Pt.locs, Pt.cells, Pt.slots] at X2 l2 y2 z2 st2 hQ2
        subst l2 y2 z2
        obtain ⟨rfl, N2q, K2, Fc02, Fc12, Fc22, Fc32⟩ := hQ2
        have N2 := Fr.app N0 N2q
        refine own_go (fun _ k => st2.trans k) ?_
        have A1'2 := A1.keep K2
        have Z2 := Nat.le_trans Z1 K2.1
        show own_Ends p e below s _ _ _ (T2.setTop (mkF m 112 #[.val (.long q1), .second, .val (.long q2), .second, .val (.int p3), .val (.int p4), .val (.long w6), .second, .val (.int (p3 &&& (3 : Int32))), .val (.long w9), .second, .val (.int (((p3.toUInt32 >>> ((2 : Int32) &&& 31).toUInt32).toInt32) &&& (3 : Int32))), .val (.double d12), .second, .unset, .unset, .unset] [(.ref b1)]))
        refine own_go (fun _ k => XS.astore X2.here hx rfl (hb hby at_112) rfl rfl (l' := #[.val (.long q1), .second, .val (.long q2), .second, .val (.int p3), .val (.int p4), .val (.long w6), .second, .val (.int (p3 &&& (3 : Int32))), .val (.long w9), .second, .val (.int (((p3.toUInt32 >>> ((2 : Int32) &&& 31).toUInt32).toInt32) &&& (3 : Int32))), .val (.double d12), .second, .val (.ref b1), .unset, .unset]) rfl <| XS.aload X2.here hx rfl (hb hby at_114) rfl rfl <| k) ?_
        show own_Ends p e below s _ _ _ (T2.setTop (mkF m 116 #[.val (.long q1), .second, .val (.long q2), .second, .val (.int p3), .val (.int p4), .val (.long w6), .second, .val (.int (p3 &&& (3 : Int32))), .val (.long w9), .second, .val (.int (((p3.toUInt32 >>> ((2 : Int32) &&& 31).toUInt32).toInt32) &&& (3 : Int32))), .val (.double d12), .second, .val (.ref b1), .unset, .unset] [(.ref b1)]))
        obtain ⟨cq3, kq3, q3a, q3b, q3c⟩ := isOf hZ rfl A1'2
        obtain ⟨_, _, ⟨T3, L3, k3, n3⟩, -, X3, ⟨Lc3, hQ3, l3, y3, z3⟩, st3⟩ := X2.virtualBack hx (y := (⟨"com/example/unutkan/unutkan/core/FixedExpiration", "readsMoveExpiry", "()Z"⟩ : MethodName)) (z := (⟨"com/example/unutkan/unutkan/core/FixedExpiration", "readsMoveExpiry", "()Z"⟩ : MethodName)) hown (mvT hZ (hw _ (List.mem_of_getElem? (i := 20) rfl))) (mvT hZ (hw _ (List.mem_of_getElem? (i := 21) rfl))) (notFace_of_selects (args := #[]) (mvT hZ (hw _ (List.mem_of_getElem? (i := 23) rfl)))) (mvT hZ (hw _ (List.mem_of_getElem? (i := 23) rfl))) (mvT hZ (hw _ (List.mem_of_getElem? (i := 22) rfl))) (by decide) (backOf (W := 0) (rm3 l Z a0 hw [] b1 w9 T2.heap n0 Z2 Fc12) hZ (hw _ (List.mem_of_getElem? (i := 24) rfl)) (hw _ (List.mem_of_getElem? (i := 4) rfl)) (by decide) (by decide)) q3a q3c (g := (mkF m 116 #[.val (.long q1), .second, .val (.long q2), .second, .val (.int p3), .val (.int p4), .val (.long w6), .second, .val (.int (p3 &&& (3 : Int32))), .val (.long w9), .second, .val (.int (((p3.toUInt32 >>> ((2 : Int32) &&& 31).toUInt32).toInt32) &&& (3 : Int32))), .val (.double d12), .second, .val (.ref b1), .unset, .unset] [(.ref b1)])) rfl (by rw [hml]; rfl) (Steps.refl _) (argsL := []) (rest := []) (lenOf pd_2 rfl) rfl (by show 2 * 0 + _ ≤ _; exact Nat.le_of_eq rfl) (hb hby at_116) (fun _ _ => ⟨rfl, rfl, Nat.le_of_ble_eq_true rfl, Nat.le_of_ble_eq_true rfl⟩)
        dsimp only [Pt.U, Pt.locs, Pt.cells, Pt.slots] at X3 l3 y3 z3 st3 hQ3
        subst l3 y3 z3
        obtain ⟨rfl, N3q, e3⟩ := hQ3
        have N3 := Fr.app N2 N3q
        refine own_go (fun _ k => st3.trans k) ?_
        show own_Ends p e below s _ _ _ (T3.setTop (mkF m 119 #[.val (.long q1), .second, .val (.long q2), .second, .val (.int p3), .val (.int p4), .val (.long w6), .second, .val (.int (p3 &&& (3 : Int32))), .val (.long w9), .second, .val (.int (((p3.toUInt32 >>> ((2 : Int32) &&& 31).toUInt32).toInt32) &&& (3 : Int32))), .val (.double d12), .second, .val (.ref b1), .unset, .unset] [(.int (own_rm w9))]))
        refine own_go (fun _ k => XS.istore X3.here hx rfl (hb hby at_119) rfl (l' := #[.val (.long q1), .second, .val (.long q2), .second, .val (.int p3), .val (.int p4), .val (.long w6), .second, .val (.int (p3 &&& (3 : Int32))), .val (.long w9), .second, .val (.int (((p3.toUInt32 >>> ((2 : Int32) &&& 31).toUInt32).toInt32) &&& (3 : Int32))), .val (.double d12), .second, .val (.ref b1), .val (.int (own_rm w9)), .unset]) rfl <| XS.lload X3.here hx rfl (hb hby at_121) rfl <| X3.ldc2J hx hown (mvT hZ (hw _ (List.mem_of_getElem? (i := 0) rfl))) rfl (hb hby at_123) <| XS.lcmp X3.here hx rfl (hb hby at_126) rfl <| k) ?_
        show own_Ends p e below s _ _ _ (T3.setTop (mkF m 127 #[.val (.long q1), .second, .val (.long q2), .second, .val (.int p3), .val (.int p4), .val (.long w6), .second, .val (.int (p3 &&& (3 : Int32))), .val (.long w9), .second, .val (.int (((p3.toUInt32 >>> ((2 : Int32) &&& 31).toUInt32).toInt32) &&& (3 : Int32))), .val (.double d12), .second, .val (.ref b1), .val (.int (own_rm w9)), .unset] [(.int (lcmpW w9 (9223372036854775807 : Int64)))]))
        by_cases hc127_4 : w9 = (9223372036854775807 : Int64)
        · -- true
          refine own_go (fun _ k => XS.ifNo X3.here hx rfl (hb hby at_127) rfl ((if0 _ _).trans (teq ((lw_eq _ _).mpr hc127_4)).2) <| XT.iconstV X3.here hx rfl (0 : Int32) (hb hby at_130) rfl <| XS.istore X3.here hx rfl (hb hby at_131) rfl (l' := #[.val (.long q1), .second, .val (.long q2), .second, .val (.int p3), .val (.int p4), .val (.long w6), .second, .val (.int (p3 &&& (3 : Int32))), .val (.long w9), .second, .val (.int (((p3.toUInt32 >>> ((2 : Int32) &&& 31).toUInt32).toInt32) &&& (3 : Int32))), .val (.double d12), .second, .val (.ref b1), .val (.int (own_rm w9)), .val (.int (0 : Int32))]) rfl <| XS.goto X3.here hx rfl (pc0 := 133) (pc' := 139) rfl (hb hby at_133) (by decide) (by decide) <| XS.iload X3.here hx rfl (hb hby at_139) rfl <| XS.iload X3.here hx rfl (hb hby at_141) rfl <| XS.icmpNo X3.here hx rfl (hb hby at_143) rfl (teq (by unfold own_rm; rw [if_pos hc127_4])).2 <| XT.iconstV X3.here hx rfl (1 : Int32) (hb hby at_146) rfl <| XS.goto X3.here hx rfl (pc0 := 147) (pc' := 151) rfl (hb hby at_147) (by decide) (by decide) <| k) ?_
          show own_Ends p e below s _ _ _ (T3.setTop (mkF m 151 #[.val (.long q1), .second, .val (.long q2), .second, .val (.int p3), .val (.int p4), .val (.long w6), .second, .val (.int (p3 &&& (3 : Int32))), .val (.long w9), .second, .val (.int (((p3.toUInt32 >>> ((2 : Int32) &&& 31).toUInt32).toInt32) &&& (3 : Int32))), .val (.double d12), .second, .val (.ref b1), .val (.int (own_rm w9)), .val (.int (0 : Int32))] [(.int (1 : Int32))]))
          exact own_retN X3 hx (t := .boolean) hrt (by simp) (hb hby at_151) hlk (show nar .boolean (1 : Int32) = (1 : Int32) from by decide) (by rw [e3]; exact ⟨rfl, N3⟩) (by decide) (by decide)
        · -- false
          refine own_go (fun _ k => XS.ifYes X3.here hx rfl (pc0 := 127) (pc' := 136) rfl (hb hby at_127) rfl ((if0 _ _).trans (feq (fun q => hc127_4 ((lw_eq _ _).mp q))).2) (by decide) (by decide) <| XT.iconstV X3.here hx rfl (1 : Int32) (hb hby at_136) rfl <| XS.istore X3.here hx rfl (hb hby at_137) rfl (l' := #[.val (.long q1), .second, .val (.long q2), .second, .val (.int p3), .val (.int p4), .val (.long w6), .second, .val (.int (p3 &&& (3 : Int32))), .val (.long w9), .second, .val (.int (((p3.toUInt32 >>> ((2 : Int32) &&& 31).toUInt32).toInt32) &&& (3 : Int32))), .val (.double d12), .second, .val (.ref b1), .val (.int (own_rm w9)), .val (.int (1 : Int32))]) rfl <| XS.iload X3.here hx rfl (hb hby at_139) rfl <| XS.iload X3.here hx rfl (hb hby at_141) rfl <| XS.icmpNo X3.here hx rfl (hb hby at_143) rfl (teq (by unfold own_rm; rw [if_neg hc127_4])).2 <| XT.iconstV X3.here hx rfl (1 : Int32) (hb hby at_146) rfl <| XS.goto X3.here hx rfl (pc0 := 147) (pc' := 151) rfl (hb hby at_147) (by decide) (by decide) <| k) ?_
          show own_Ends p e below s _ _ _ (T3.setTop (mkF m 151 #[.val (.long q1), .second, .val (.long q2), .second, .val (.int p3), .val (.int p4), .val (.long w6), .second, .val (.int (p3 &&& (3 : Int32))), .val (.long w9), .second, .val (.int (((p3.toUInt32 >>> ((2 : Int32) &&& 31).toUInt32).toInt32) &&& (3 : Int32))), .val (.double d12), .second, .val (.ref b1), .val (.int (own_rm w9)), .val (.int (1 : Int32))] [(.int (1 : Int32))]))
          exact own_retN X3 hx (t := .boolean) hrt (by simp) (hb hby at_151) hlk (show nar .boolean (1 : Int32) = (1 : Int32) from by decide) (by rw [e3]; exact ⟨rfl, N3⟩) (by decide) (by decide)
      refine own_go (fun _ k => XS.iload X0.here hx rfl (hb hby at_88) rfl <| XT.iconstV X0.here hx rfl (3 : Int32) (hb hby at_90) rfl <| XS.iand X0.here hx rfl (hb hby at_91) rfl <| k) ?_
      show own_Ends p e below s _ _ _ (s₁.setTop (mkF m 92 #[.val (.long q1), .second, .val (.long q2), .second, .val (.int p3), .val (.int p4), .val (.long w6), .second, .val (.int (p3 &&& (3 : Int32))), .val (.long w9), .second, .val (.int (((p3.toUInt32 >>> ((2 : Int32) &&& 31).toUInt32).toInt32) &&& (3 : Int32))), .unset, .unset, .unset, .unset, .unset] [(.int (p4 &&& (3 : Int32)))]))
      obtain ⟨di, hdi⟩ : ∃ z, FP.i2d (p4 &&& (3 : Int32)) = z := ⟨_, rfl⟩
      refine own_go (fun _ k => XS.i2dS X0.here hx rfl (hb hby at_92) rfl hdi <| k) ?_
      show own_Ends p e below s _ _ _ (s₁.setTop (mkF m 93 #[.val (.long q1), .second, .val (.long q2), .second, .val (.int p3), .val (.int p4), .val (.long w6), .second, .val (.int (p3 &&& (3 : Int32))), .val (.long w9), .second, .val (.int (((p3.toUInt32 >>> ((2 : Int32) &&& 31).toUInt32).toInt32) &&& (3 : Int32))), .unset, .unset, .unset, .unset, .unset] [(.double di)]))
      refine own_go (X0.ldc2DoubleC hx hown (mvT hZ (hw _ (List.mem_of_getElem? (i := 1) rfl))) (g := (mkF m 93 #[.val (.long q1), .second, .val (.long q2), .second, .val (.int p3), .val (.int p4), .val (.long w6), .second, .val (.int (p3 &&& (3 : Int32))), .val (.long w9), .second, .val (.int (((p3.toUInt32 >>> ((2 : Int32) &&& 31).toUInt32).toInt32) &&& (3 : Int32))), .unset, .unset, .unset, .unset, .unset] [(.double di)])) rfl (hb hby at_93)) ?_
      show own_Ends p e below s _ _ _ (s₁.setTop (mkF m 96 #[.val (.long q1), .second, .val (.long q2), .second, .val (.int p3), .val (.int p4), .val (.long w6), .second, .val (.int (p3 &&& (3 : Int32))), .val (.long w9), .second, .val (.int (((p3.toUInt32 >>> ((2 : Int32) &&& 31).toUInt32).toInt32) &&& (3 : Int32))), .unset, .unset, .unset, .unset, .unset] [(.double (4616189618054758400 : UInt64)), (.double di)]))
      obtain ⟨dd, hdd⟩ : ∃ z, FP.ddiv di (4616189618054758400 : UInt64) = z := ⟨_, rfl⟩
      refine own_go (fun _ k => XS.ddivS X0.here hx rfl (hb hby at_96) rfl (hdi ▸ own_nan p4) hdd <| XS.dstore X0.here hx rfl (hb hby at_97) rfl (l' := #[.val (.long q1), .second, .val (.long q2), .second, .val (.int p3), .val (.int p4), .val (.long w6), .second, .val (.int (p3 &&& (3 : Int32))), .val (.long w9), .second, .val (.int (((p3.toUInt32 >>> ((2 : Int32) &&& 31).toUInt32).toInt32) &&& (3 : Int32))), .val (.double dd), .second, .unset, .unset, .unset]) rfl <| k) ?_
      show own_Ends p e below s _ _ _ (s₁.setTop (mkF m 99 #[.val (.long q1), .second, .val (.long q2), .second, .val (.int p3), .val (.int p4), .val (.long w6), .second, .val (.int (p3 &&& (3 : Int32))), .val (.long w9), .second, .val (.int (((p3.toUInt32 >>> ((2 : Int32) &&& 31).toUInt32).toInt32) &&& (3 : Int32))), .val (.double dd), .second, .unset, .unset, .unset] []))
      exact J99 _
    refine own_go (fun _ k => XS.iload X0.here hx rfl (hb hby at_44) rfl <| k) ?_
    show own_Ends p e below s _ _ _ (s₁.setTop (mkF m 46 #[.val (.long q1), .second, .val (.long q2), .second, .val (.int p3), .val (.int p4), .val (.long w6), .second, .val (.int (p3 &&& (3 : Int32))), .unset, .unset, .val (.int (((p3.toUInt32 >>> ((2 : Int32) &&& 31).toUInt32).toInt32) &&& (3 : Int32))), .unset, .unset, .unset, .unset, .unset] [(.int (((p3.toUInt32 >>> ((2 : Int32) &&& 31).toUInt32).toInt32) &&& (3 : Int32)))]))
    by_cases hc46_5 : (((p3.toUInt32 >>> ((2 : Int32) &&& 31).toUInt32).toInt32) &&& (3 : Int32)) = (0 : Int32)
    · -- true
      refine own_go (fun _ k => XS.ifNo X0.here hx rfl (hb hby at_46) rfl ((if0 _ _).trans (teq hc46_5).2) <| X0.ldc2J hx hown (mvT hZ (hw _ (List.mem_of_getElem? (i := 0) rfl))) rfl (hb hby at_49) <| XS.lstore X0.here hx rfl (hb hby at_52) rfl (l' := #[.val (.long q1), .second, .val (.long q2), .second, .val (.int p3), .val (.int p4), .val (.long w6), .second, .val (.int (p3 &&& (3 : Int32))), .val (.long (9223372036854775807 : Int64)), .second, .val (.int (((p3.toUInt32 >>> ((2 : Int32) &&& 31).toUInt32).toInt32) &&& (3 : Int32))), .unset, .unset, .unset, .unset, .unset]) rfl <| XS.goto X0.here hx rfl (pc0 := 54) (pc' := 88) rfl (hb hby at_54) (by decide) (by decide) <| k) ?_
      show own_Ends p e below s _ _ _ (s₁.setTop (mkF m 88 #[.val (.long q1), .second, .val (.long q2), .second, .val (.int p3), .val (.int p4), .val (.long w6), .second, .val (.int (p3 &&& (3 : Int32))), .val (.long (9223372036854775807 : Int64)), .second, .val (.int (((p3.toUInt32 >>> ((2 : Int32) &&& 31).toUInt32).toInt32) &&& (3 : Int32))), .unset, .unset, .unset, .unset, .unset] []))
      exact J88 _
    · -- false
      refine own_go (fun _ k => XS.ifYes X0.here hx rfl (pc0 := 46) (pc' := 57) rfl (hb hby at_46) rfl ((if0 _ _).trans (feq hc46_5).2) (by decide) (by decide) <| XS.iload X0.here hx rfl (hb hby at_57) rfl <| XT.iconstV X0.here hx rfl (1 : Int32) (hb hby at_59) rfl <| k) ?_
      show own_Ends p e below s _ _ _ (s₁.setTop (mkF m 60 #[.val (.long q1), .second, .val (.long q2), .second, .val (.int p3), .val (.int p4), .val (.long w6), .second, .val (.int (p3 &&& (3 : Int32))), .unset, .unset, .val (.int (((p3.toUInt32 >>> ((2 : Int32) &&& 31).toUInt32).toInt32) &&& (3 : Int32))), .unset, .unset, .unset, .unset, .unset] [(.int (1 : Int32)), (.int (((p3.toUInt32 >>> ((2 : Int32) &&& 31).toUInt32).toInt32) &&& (3 : Int32)))]))
      by_cases hc60_6 : (((p3.toUInt32 >>> ((2 : Int32) &&& 31).toUInt32).toInt32) &&& (3 : Int32)) = (1 : Int32)
      · -- true
        refine own_go (fun _ k => XS.icmpNo X0.here hx rfl (hb hby at_60) rfl (teq hc60_6).2 <| X0.ldc2J hx hown (mvT hZ (hw _ (List.mem_of_getElem? (i := 26) rfl))) rfl (hb hby at_63) <| XS.lstore X0.here hx rfl (hb hby at_66) rfl (l' := #[.val (.long q1), .second, .val (.long q2), .second, .val (.int p3), .val (.int p4), .val (.long w6), .second, .val (.int (p3 &&& (3 : Int32))), .val (.long (9223372036854775806 : Int64)), .second, .val (.int (((p3.toUInt32 >>> ((2 : Int32) &&& 31).toUInt32).toInt32) &&& (3 : Int32))), .unset, .unset, .unset, .unset, .unset]) rfl <| XS.goto X0.here hx rfl (pc0 := 68) (pc' := 88) rfl (hb hby at_68) (by decide) (by decide) <| k) ?_
        show own_Ends p e below s _ _ _ (s₁.setTop (mkF m 88 #[.val (.long q1), .second, .val (.long q2), .second, .val (.int p3), .val (.int p4), .val (.long w6), .second, .val (.int (p3 &&& (3 : Int32))), .val (.long (9223372036854775806 : Int64)), .second, .val (.int (((p3.toUInt32 >>> ((2 : Int32) &&& 31).toUInt32).toInt32) &&& (3 : Int32))), .unset, .unset, .unset, .unset, .unset] []))
        exact J88 _
      · -- false
        refine own_go (fun _ k => XS.icmpYes X0.here hx rfl (pc0 := 60) (pc' := 71) rfl (hb hby at_60) rfl (feq hc60_6).2 (by decide) (by decide) <| XS.iload X0.here hx rfl (hb hby at_71) rfl <| XT.iconstV X0.here hx rfl (2 : Int32) (hb hby at_73) rfl <| k) ?_
        show own_Ends p e below s _ _ _ (s₁.setTop (mkF m 74 #[.val (.long q1), .second, .val (.long q2), .second, .val (.int p3), .val (.int p4), .val (.long w6), .second, .val (.int (p3 &&& (3 : Int32))), .unset, .unset, .val (.int (((p3.toUInt32 >>> ((2 : Int32) &&& 31).toUInt32).toInt32) &&& (3 : Int32))), .unset, .unset, .unset, .unset, .unset] [(.int (2 : Int32)), (.int (((p3.toUInt32 >>> ((2 : Int32) &&& 31).toUInt32).toInt32) &&& (3 : Int32)))]))
        by_cases hc74_7 : (((p3.toUInt32 >>> ((2 : Int32) &&& 31).toUInt32).toInt32) &&& (3 : Int32)) = (2 : Int32)
        · -- true
          refine own_go (fun _ k => XS.icmpNo X0.here hx rfl (hb hby at_74) rfl (teq hc74_7).2 <| X0.ldc2J hx hown (mvT hZ (hw _ (List.mem_of_getElem? (i := 25) rfl))) rfl (hb hby at_77) <| XS.lstore X0.here hx rfl (hb hby at_80) rfl (l' := #[.val (.long q1), .second, .val (.long q2), .second, .val (.int p3), .val (.int p4), .val (.long w6), .second, .val (.int (p3 &&& (3 : Int32))), .val (.long (-9223372036854775808 : Int64)), .second, .val (.int (((p3.toUInt32 >>> ((2 : Int32) &&& 31).toUInt32).toInt32) &&& (3 : Int32))), .unset, .unset, .unset, .unset, .unset]) rfl <| XS.goto X0.here hx rfl (pc0 := 82) (pc' := 88) rfl (hb hby at_82) (by decide) (by decide) <| k) ?_
          show own_Ends p e below s _ _ _ (s₁.setTop (mkF m 88 #[.val (.long q1), .second, .val (.long q2), .second, .val (.int p3), .val (.int p4), .val (.long w6), .second, .val (.int (p3 &&& (3 : Int32))), .val (.long (-9223372036854775808 : Int64)), .second, .val (.int (((p3.toUInt32 >>> ((2 : Int32) &&& 31).toUInt32).toInt32) &&& (3 : Int32))), .unset, .unset, .unset, .unset, .unset] []))
          exact J88 _
        · -- false
          refine own_go (fun _ k => XS.icmpYes X0.here hx rfl (pc0 := 74) (pc' := 85) rfl (hb hby at_74) rfl (feq hc74_7).2 (by decide) (by decide) <| XS.lloadN X0.here hx rfl (hb hby at_85) rfl <| XS.lstore X0.here hx rfl (hb hby at_86) rfl (l' := #[.val (.long q1), .second, .val (.long q2), .second, .val (.int p3), .val (.int p4), .val (.long w6), .second, .val (.int (p3 &&& (3 : Int32))), .val (.long q2), .second, .val (.int (((p3.toUInt32 >>> ((2 : Int32) &&& 31).toUInt32).toInt32) &&& (3 : Int32))), .unset, .unset, .unset, .unset, .unset]) rfl <| k) ?_
          show own_Ends p e below s _ _ _ (s₁.setTop (mkF m 88 #[.val (.long q1), .second, .val (.long q2), .second, .val (.int p3), .val (.int p4), .val (.long w6), .second, .val (.int (p3 &&& (3 : Int32))), .val (.long q2), .second, .val (.int (((p3.toUInt32 >>> ((2 : Int32) &&& 31).toUInt32).toInt32) &&& (3 : Int32))), .unset, .unset, .unset, .unset, .unset] []))
          exact J88 _
  refine own_go (fun _ k => XS.iload X0.here hx rfl (hb hby at_6) rfl <| k) ?_
  show own_Ends p e below s _ _ _ (s₁.setTop (mkF m 8 #[.val (.long q1), .second, .val (.long q2), .second, .val (.int p3), .val (.int p4), .unset, .unset, .val (.int (p3 &&& (3 : Int32))), .unset, .unset, .unset, .unset, .unset, .unset, .unset, .unset] [(.int (p3 &&& (3 : Int32)))]))
  by_cases hc8_8 : (p3 &&& (3 : Int32)) = (0 : Int32)
  · -- true
    refine own_go (fun _ k => XS.ifNo X0.here hx rfl (hb hby at_8) rfl ((if0 _ _).trans (teq hc8_8).2) <| X0.ldc2J hx hown (mvT hZ (hw _ (List.mem_of_getElem? (i := 0) rfl))) rfl (hb hby at_11) <| XS.lstore X0.here hx rfl (hb hby at_14) rfl (l' := #[.val (.long q1), .second, .val (.long q2), .second, .val (.int p3), .val (.int p4), .val (.long (9223372036854775807 : Int64)), .second, .val (.int (p3 &&& (3 : Int32))), .unset, .unset, .unset, .unset, .unset, .unset, .unset, .unset]) rfl <| XS.goto X0.here hx rfl (pc0 := 16) (pc' := 36) rfl (hb hby at_16) (by decide) (by decide) <| k) ?_
    show own_Ends p e below s _ _ _ (s₁.setTop (mkF m 36 #[.val (.long q1), .second, .val (.long q2), .second, .val (.int p3), .val (.int p4), .val (.long (9223372036854775807 : Int64)), .second, .val (.int (p3 &&& (3 : Int32))), .unset, .unset, .unset, .unset, .unset, .unset, .unset, .unset] []))
    exact J36 _
  · -- false
    refine own_go (fun _ k => XS.ifYes X0.here hx rfl (pc0 := 8) (pc' := 19) rfl (hb hby at_8) rfl ((if0 _ _).trans (feq hc8_8).2) (by decide) (by decide) <| XS.iload X0.here hx rfl (hb hby at_19) rfl <| XT.iconstV X0.here hx rfl (1 : Int32) (hb hby at_21) rfl <| k) ?_
    show own_Ends p e below s _ _ _ (s₁.setTop (mkF m 22 #[.val (.long q1), .second, .val (.long q2), .second, .val (.int p3), .val (.int p4), .unset, .unset, .val (.int (p3 &&& (3 : Int32))), .unset, .unset, .unset, .unset, .unset, .unset, .unset, .unset] [(.int (1 : Int32)), (.int (p3 &&& (3 : Int32)))]))
    by_cases hc22_9 : (p3 &&& (3 : Int32)) = (1 : Int32)
    · -- true
      refine own_go (fun _ k => XS.icmpNo X0.here hx rfl (hb hby at_22) rfl (teq hc22_9).2 <| X0.ldc2J hx hown (mvT hZ (hw _ (List.mem_of_getElem? (i := 26) rfl))) rfl (hb hby at_25) <| XS.lstore X0.here hx rfl (hb hby at_28) rfl (l' := #[.val (.long q1), .second, .val (.long q2), .second, .val (.int p3), .val (.int p4), .val (.long (9223372036854775806 : Int64)), .second, .val (.int (p3 &&& (3 : Int32))), .unset, .unset, .unset, .unset, .unset, .unset, .unset, .unset]) rfl <| XS.goto X0.here hx rfl (pc0 := 30) (pc' := 36) rfl (hb hby at_30) (by decide) (by decide) <| k) ?_
      show own_Ends p e below s _ _ _ (s₁.setTop (mkF m 36 #[.val (.long q1), .second, .val (.long q2), .second, .val (.int p3), .val (.int p4), .val (.long (9223372036854775806 : Int64)), .second, .val (.int (p3 &&& (3 : Int32))), .unset, .unset, .unset, .unset, .unset, .unset, .unset, .unset] []))
      exact J36 _
    · -- false
      refine own_go (fun _ k => XS.icmpYes X0.here hx rfl (pc0 := 22) (pc' := 33) rfl (hb hby at_22) rfl (feq hc22_9).2 (by decide) (by decide) <| XS.lloadN X0.here hx rfl (hb hby at_33) rfl <| XS.lstore X0.here hx rfl (hb hby at_34) rfl (l' := #[.val (.long q1), .second, .val (.long q2), .second, .val (.int p3), .val (.int p4), .val (.long q1), .second, .val (.int (p3 &&& (3 : Int32))), .unset, .unset, .unset, .unset, .unset, .unset, .unset, .unset]) rfl <| k) ?_
      show own_Ends p e below s _ _ _ (s₁.setTop (mkF m 36 #[.val (.long q1), .second, .val (.long q2), .second, .val (.int p3), .val (.int p4), .val (.long q1), .second, .val (.int (p3 &&& (3 : Int32))), .unset, .unset, .unset, .unset, .unset, .unset, .unset, .unset] []))
      exact J36 _
set_option maxRecDepth 65536 in
set_option maxHeartbeats 40000000 in
theorem comes_1 {Post : Tables → Env → Array Value → State → Outcome → State → Prop} (hpost : ∀ tb e args s v u, (limb_1_1.after args s (.returned v) u = true ∧ limb_1_2.after args s (.returned v) u = true ∧ True) → FrameEnd s (.returned v) u (Jvm.fieldLocs frame_1_writes args s ++ Jvm.arrayLocs frame_1_arrays args s ++ Jvm.staticLocs frame_1_statics s) 16 128 → Post tb e args s (.returned v) u) :
    ArmFor flags0 classFile x code maxLocals ret World_1 tables_1 room_1 Calls_1 rest_1 Pre_1 Post := by
  intro l hfl _ _ p e ha hc hk s m args below hf hA hF happ hP
  obtain ⟨hcalls, hrest, hpre⟩ := hP
  obtain ⟨-, -, -, hnamed, -, -, -, hat⟩ := (Spec.applies_iff hf).mp happ
  obtain ⟨hg, hn⟩ := and_e (Cond.before_iff.mp (show (Jvm.Cond.and given_1 narrow_1).before args s = true from hpre))
  obtain ⟨g1, g2⟩ := and_e hg
  obtain ⟨g3, g4⟩ := and_e g2
  obtain ⟨g5, g6⟩ := and_e g4
  obtain ⟨g7, g8⟩ := and_e g6
  obtain ⟨w0, w1, w2, w3, rfl⟩ : ∃ w0 w1 w2 w3 : Value, args = #[w0, w1, w2, w3] := by
    have hs : args.size = 4 := by simpa [Cond.value, given_1] using g1
    obtain ⟨L⟩ := args
    match L, hs with
    | [w0, w1, w2, w3], _ => exact ⟨w0, w1, w2, w3, rfl⟩
  have hw := fun d (hd : d ∈ tables_1) => atoms_spec (ws := Jvm.Cond.code x code maxLocals ret :: tables_1) hat d (List.mem_cons_of_mem _ hd)
  have hfit : Fit s := fun {y c} hc i hi => by
    obtain ⟨ha, rfl⟩ := Array.getElem?_eq_some_iff.mp hc
    have q := List.all_eq_true.mp ((Array.all_eq_true_iff_forall_mem.mp hF) _ (Array.getElem_mem ha)) i (List.mem_range.mpr hi)
    simpa [Array.getElem?_eq_getElem hi] using q
  obtain ⟨i0, ei0⟩ := isL_v g3
  obtain rfl : w0 = (.long i0) := Option.some.inj ei0
  obtain ⟨i1, ei1⟩ := isL_v g5
  obtain rfl : w1 = (.long i1) := Option.some.inj ei1
  obtain ⟨i2, ei2⟩ := is_v g7
  obtain rfl : w2 = (.int i2) := Option.some.inj ei2
  obtain ⟨i3, ei3⟩ := is_v g8
  obtain rfl : w3 = (.int i3) := Option.some.inj ei3
  obtain ⟨n, o, h1, h2, h3, _, L, rfl, ⟨rfl, N⟩, hq⟩ := rm0 l s _ hw tables_1 i0 i1 i2 i3  s.heap s.heap.size (Nat.le_refl _)  p e ha hc hk s m _ below hf ((Spec.applies_iff_loose hf).mp happ).1 ⟨rfl, State.Warmed39.refl s, rfl⟩ trivial
  refine ⟨n, _, h1, h2, h3, hpost _ _ _ _ _ _ ⟨Cond.after_iff.mpr rfl, Cond.after_iff.mpr (eq_i res_at (Term.int_eval (1)) rfl), trivial⟩ ⟨hq.1, hq.2.1, (hq.2.2.sift fun y hy => Or.inr (N y hy)).mono (by decide) (by decide)⟩⟩
theorem main_1_1 : Claimed_1_1 := comes_1 fun _ _ _ _ _ _ h hF => ⟨h.1, hF⟩
theorem main_1_2 : Claimed_1_2 := comes_1 fun _ _ _ _ _ _ h hF => ⟨h.2.1, hF⟩
end Jvm.Pilot.@@N@@
namespace Jvm.Pilot.@@N@@
open Jvm Jvm.ClassFile Sem Op Lib Jvm.Free Jvm.Stand Jvm.Pilot.@@N@@.Jvm.D
/-! MADE BY PROGRAM (witnessworld.py) out of the Statement's table words and the real class files: 10 classes; the members and pool entries that the words name. The judged class is class 1, her method 1. -/
namespace start1
open Jvm.ClassFile
def u (s : String) : CpInfo := .utf8 (stringToUtf16 s)
/-- a pool by its gaps: so many unusable entries, then the entry; so many at the end -/
def gap : Nat → List CpInfo → List CpInfo
  | 0, r => r
  | n + 1, r => .unusable :: gap n r
def poolList (es : List (Nat × CpInfo)) (last : Nat) : List CpInfo := es.foldr (fun e r => gap e.1 (e.2 :: r)) (gap last [])
def pool (es : List (Nat × CpInfo)) (last : Nat) : Array CpInfo := ⟨poolList es last⟩
def fileOf (pool : Array CpInfo) (this : Nat) (attrs : Array Attribute := #[]) (ms : Array MethodInfo := #[]) (fl : Nat := 33) (sup : Nat := 0) (ifs : Array Nat := #[]) (fds : Array FieldInfo := #[]) : ClassFile where
  minorVersion := 0
  majorVersion := 65
  constantPool := pool
  accessFlags := fl
  thisClass := this
  superClass := sup
  interfaces := ifs
  fields := fds
  methods := ms
  attributes := attrs
def plain (name : String) (sup : Option ClassId) : Class where
  name := name
  kind := .ordinary
  loader := none
  accessFlags := 33
  super := sup
  interfaces := #[]
  cf := none
  fields := #[]
  methods := #[]
  instanceTypes := #[]
  staticTypes := #[]
  resolved := #[]
  callSites := []
  init := .initialized
  statics := none
  mirror := none

def pool0 : Array CpInfo := pool [(5, u "<init>"), (0, u "()V"), (1, .class_ 10), (1, u "java/lang/Object")] 113

def k0c0 : Code := { maxStack := 0, maxLocals := 1, code := object_method_1_code, exceptionTable := #[], attributes := #[] }
def k0m0 : Method := { name := "<init>", desc := "()V", sig := { parameters := [], returnType := none }, accessFlags := 1, code := some k0c0 }
/-- java/lang/Object -/
def k0 : Class := { plain "java/lang/Object" none with
  accessFlags := 33
  interfaces := #[]
  cf := some (fileOf pool0 8 #[] #[{ accessFlags := 1, nameIndex := 5, descriptorIndex := 6, attributes := #[] }] 33 0 #[] #[])
  fields := #[]
  methods := #[k0m0]
  instanceTypes := #[]
  staticTypes := #[]
  resolved := Array.replicate 124 none
  statics := none }

def pool1 : Array CpInfo := pool [(2, .class_ 4), (1, u "java/lang/Object"), (0, u "<init>"), (0, u "()V"), (2, .long 9223372036854775807), (1, .long 9223372036854775806), (1, .long 9223372036854775808), (1, .double 4616189618054758400), (1, .class_ 18), (0, u "com/example/unutkan/unutkan/core/FixedExpiration"), (0, .methodref 17 20), (0, .nameAndType 5 21), (0, u "(JJD)V"), (0, .methodref 17 23), (0, .nameAndType 24 25), (0, u "readsMoveExpiry"), (0, u "()Z"), (0, .class_ 27), (0, u "com/example/unutkan/unutkan/core/FixedExpirationReadsMoveExpiryPinLaw"), (2, u "law"), (0, u "(JJII)Z")] 3

def k1m0 : Method := { name := "<init>", desc := "()V", sig := { parameters := [], returnType := none }, accessFlags := 1, code := none }
def k1c1 : Code := { maxStack := 8, maxLocals := 17, code := code, exceptionTable := #[], attributes := #[] }
def k1m1 : Method := { name := "law", desc := "(JJII)Z", sig := { parameters := [.long, .long, .int, .int], returnType := some .boolean }, accessFlags := 9, code := some k1c1 }
/-- com/example/unutkan/unutkan/core/FixedExpirationReadsMoveExpiryPinLaw -/
def k1 : Class := { plain "com/example/unutkan/unutkan/core/FixedExpirationReadsMoveExpiryPinLaw" (some 0) with
  accessFlags := 49
  interfaces := #[]
  cf := some (fileOf pool1 26 #[] #[{ accessFlags := 1, nameIndex := 5, descriptorIndex := 6, attributes := #[] }, { accessFlags := 9, nameIndex := 30, descriptorIndex := 31, attributes := #[] }] 49 2 #[] #[])
  fields := #[]
  methods := #[k1m0, k1m1]
  instanceTypes := #[]
  staticTypes := #[]
  resolved := Array.replicate 35 none
  statics := none }

def pool2 : Array CpInfo := pool [(6, .class_ 8), (1, u "com/example/unutkan/unutkan/core/Expiration"), (32, .class_ 42), (0, u "java/lang/Object")] 26

/-- com/example/unutkan/unutkan/core/Expiration -/
def k2 : Class := { plain "com/example/unutkan/unutkan/core/Expiration" (some 0) with
  accessFlags := 1537
  interfaces := #[]
  cf := some (fileOf pool2 6 #[] #[] 1537 41 #[] #[])
  fields := #[]
  methods := #[]
  instanceTypes := #[]
  staticTypes := #[]
  resolved := Array.replicate 69 none
  statics := none }

def pool3 : Array CpInfo := pool [(1, .methodref 2 3), (0, .class_ 4), (0, .nameAndType 5 6), (0, u "java/lang/Object"), (0, u "<init>"), (0, u "()V"), (0, .fieldref 8 9), (0, .class_ 10), (0, .nameAndType 11 12), (0, u "com/example/unutkan/unutkan/core/FixedExpiration"), (0, u "afterWrite"), (0, u "J"), (0, .fieldref 8 14), (0, .nameAndType 15 12), (0, u "afterAccess"), (0, .fieldref 8 17), (0, .nameAndType 18 19), (0, u "jitter"), (0, u "D"), (2, .long 9223372036854775807), (1, .fieldref 8 25), (0, .nameAndType 26 27), (0, u "boundByBoth"), (0, u "Z"), (0, .class_ 29), (0, u "com/example/unutkan/unutkan/core/FixedExpiration$WriteBoundNode"), (37, .class_ 68), (0, u "com/example/unutkan/unutkan/core/Expiration"), (0, u "(JJD)V"), (12, u "readsMoveExpiry"), (0, u "()Z")] 9

def k3c0 : Code := { maxStack := 5, maxLocals := 7, code := prog_11_method_1_code, exceptionTable := #[], attributes := #[] }
def k3m0 : Method := { name := "<init>", desc := "(JJD)V", sig := { parameters := [.long, .long, .double], returnType := none }, accessFlags := 0, code := some k3c0 }
def k3c1 : Code := { maxStack := 4, maxLocals := 1, code := prog_11_method_5_code, exceptionTable := #[], attributes := #[] }
def k3m1 : Method := { name := "readsMoveExpiry", desc := "()Z", sig := { parameters := [], returnType := some .boolean }, accessFlags := 1, code := some k3c1 }
/-- com/example/unutkan/unutkan/core/FixedExpiration -/
def k3 : Class := { plain "com/example/unutkan/unutkan/core/FixedExpiration" (some 0) with
  accessFlags := 48
  interfaces := #[2]
  cf := some (fileOf pool3 8 #[.nestMembers #[28]] #[{ accessFlags := 0, nameIndex := 5, descriptorIndex := 69, attributes := #[] }, { accessFlags := 1, nameIndex := 82, descriptorIndex := 83, attributes := #[] }] 48 2 #[67] #[{ accessFlags := 18, nameIndex := 11, descriptorIndex := 12, attributes := #[] }, { accessFlags := 18, nameIndex := 15, descriptorIndex := 12, attributes := #[] }, { accessFlags := 18, nameIndex := 18, descriptorIndex := 19, attributes := #[] }, { accessFlags := 18, nameIndex := 26, descriptorIndex := 27, attributes := #[] }])
  fields := #[{ name := "afterWrite", type := .long, accessFlags := 18, slot := 0, constantValue := 0 }, { name := "afterAccess", type := .long, accessFlags := 18, slot := 1, constantValue := 0 }, { name := "jitter", type := .double, accessFlags := 18, slot := 2, constantValue := 0 }, { name := "boundByBoth", type := .boolean, accessFlags := 18, slot := 3, constantValue := 0 }]
  methods := #[k3m0, k3m1]
  instanceTypes := #[.long, .long, .double, .boolean]
  staticTypes := #[]
  resolved := Array.replicate 93 none
  statics := none }

def pool4 : Array CpInfo := pool [(1, u "java/lang/Cloneable"), (0, .class_ 1), (0, u "java/lang/Object"), (0, .class_ 3)] 3

/-- java/lang/Cloneable -/
def k4 : Class := { plain "java/lang/Cloneable" (some 0) with
  accessFlags := 1537
  interfaces := #[]
  cf := some (fileOf pool4 2 #[] #[] 1537 4 #[] #[])
  fields := #[]
  methods := #[]
  instanceTypes := #[]
  staticTypes := #[]
  resolved := Array.replicate 8 none
  statics := none }

def pool5 : Array CpInfo := pool [(1, u "java/io/Serializable"), (0, .class_ 1), (0, u "java/lang/Object"), (0, .class_ 3)] 3

/-- java/io/Serializable -/
def k5 : Class := { plain "java/io/Serializable" (some 0) with
  accessFlags := 1537
  interfaces := #[]
  cf := some (fileOf pool5 2 #[] #[] 1537 4 #[] #[])
  fields := #[]
  methods := #[]
  instanceTypes := #[]
  staticTypes := #[]
  resolved := Array.replicate 8 none
  statics := none }

/-- the primitive byte -/
def k6 : Class := { plain "byte" none with kind := .primitive 'B', accessFlags := 0x411 }
/-- [B -/
def k7 : Class := { plain "[B" (some 0) with kind := .array 6 .byte, interfaces := #[4, 5], accessFlags := 1041 }

/-- the primitive int -/
def k8 : Class := { plain "int" none with kind := .primitive 'I', accessFlags := 0x411 }
/-- [I -/
def k9 : Class := { plain "[I" (some 0) with kind := .array 8 .int, interfaces := #[4, 5], accessFlags := 1041 }

def heap : Heap := #[]
def classes : Array Class := #[k0, k1, k2, k3, k4, k5, k6, k7, k8, k9]
def interned : List (Array UInt16 × Addr) := []
def slotsUsed : Nat := 0
def theMethod : MethodId := ⟨1, 1⟩
def args0 : Array Value := #[.long 5, .long 6, .int 3, .int 3]
def aboutOver (below : List Frame) : State where
  vm := { classes := classes, interned := interned.toArray }
  heap := heap
  slotsUsed := slotsUsed
  threads := #[{ frames := .invoking theMethod args0 :: below }]
def below0 : List Frame := [.native { method := ⟨0, 0⟩, args := #[] }]
def about1 : State := aboutOver below0
def p0 : Program := .bare "" "" ""
def e0 : Env := launch0.env 0 0 0
theorem w_frames : about1.frames = Frame.invoking theMethod args0 :: below0 := rfl
set_option maxRecDepth 65536 in
theorem w_args : argsFit about1.vm theMethod args0 = true := by decide +kernel
set_option maxRecDepth 65536 in
theorem w_heap : heapFits about1 = true := by decide +kernel
set_option maxRecDepth 65536 in
theorem w_runnable : about1.curStatus? = some .runnable := by decide +kernel
set_option maxRecDepth 65536 in
theorem w_alone : about1.alone = true := by decide +kernel
set_option maxRecDepth 65536 in
theorem w_named : about1.methodNamed? x = some theMethod := by decide +kernel
set_option maxRecDepth 65536 in
theorem w_hears : about1.hears theMethod below0 = true := by decide +kernel
set_option maxRecDepth 65536 in
theorem w_ripe : about1.ripe theMethod args0 below0 = true := by decide +kernel
theorem w_running : about1.status = .running := rfl
set_option maxRecDepth 65536 in
theorem w_room : about1.hasRoom e0.platform room_1 = true :=
  launch0.hasRoom_least _ room_1 (by decide +kernel) (by decide +kernel) (by decide +kernel) (by decide +kernel) (by decide +kernel) (by decide +kernel)
theorem allAtoms_all (ts : List Jvm.Cond) (a : Array Jvm.Value) (st : Jvm.State) : (allAtoms ts).before a st = ts.all (fun c => c.before a st) := by
  induction ts with
  | nil => rfl
  | cons c t ih =>
    show (Jvm.Cond.and c (allAtoms t)).before a st = _
    rw [Jvm.Cond.before_and, ih, List.all_cons]
def words1 : List Jvm.Cond := Jvm.Cond.code x code maxLocals ret :: tables_1
/-- a 'code' word, met by the world's own term for the bytes: nothing is compared byte by byte -/
theorem code_word {y : MethodName} {bytes : ByteArray} {mx : Nat} {rt : Option FieldType} {a : Array Value} {s : State} {m : MethodId} {meth : Method} {c : Code} (h1 : s.methodNamed? y = some m) (h2 : s.vm.method? m = some meth) (h3 : meth.code = some c) (h4 : c.code = bytes)
    (h5 : (c.maxLocals == mx && c.exceptionTable.isEmpty && decide (c.maxStack ≤ mostOperands) && decide (meth.sig.returnType = rt) && !meth.locks && decide (parseMethodDescriptor y.desc = some meth.sig)) = true) : (Jvm.Cond.code y bytes mx rt).before a s = true := by
  simp only [Bool.and_eq_true, beq_iff_eq, Bool.not_eq_true', decide_eq_true_eq] at h5
  obtain ⟨⟨⟨⟨⟨g1, g2⟩, g3⟩, g4⟩, g5⟩, g6⟩ := h5
  simp [Cond.before, Cond.holds, Cond.value, h1, h2, h3, h4, g1, g2, g3, g4, g5, g6]
def isCode : Jvm.Cond → Bool
  | .code _ _ _ _ => true
  | _ => false
theorem all_split {L : List Jvm.Cond} {P : Jvm.Cond → Bool} (h1 : L.all (fun c => isCode c || P c) = true) (h2 : ∀ c ∈ L.filter isCode, P c = true) : L.all P = true := by
  refine List.all_eq_true.mpr fun c hc => ?_
  have h := List.all_eq_true.mp h1 c hc
  rcases Bool.eq_false_or_eq_true (isCode c) with hi | hi
  · exact h2 c (List.mem_filter.mpr ⟨hc, hi⟩)
  · simpa [hi] using h
set_option maxRecDepth 65536 in
theorem w_c0 : (Jvm.Cond.code x code maxLocals ret).before args0 about1 = true := code_word (m := ⟨1, 1⟩) (meth := k1m1) (c := k1c1) (by decide +kernel) rfl rfl rfl (by decide +kernel)
set_option maxRecDepth 65536 in
theorem w_c1 : (Jvm.Cond.code ({ cls := "com/example/unutkan/unutkan/core/FixedExpiration", name := "<init>", desc := "(JJD)V" } : Jvm.MethodName) prog_11_method_1_code (7 : Nat) (Option.none : Option Jvm.ClassFile.FieldType)).before args0 about1 = true := code_word (m := ⟨3, 0⟩) (meth := k3m0) (c := k3c0) (by decide +kernel) rfl rfl rfl (by decide +kernel)
set_option maxRecDepth 65536 in
theorem w_c2 : (Jvm.Cond.code ({ cls := "java/lang/Object", name := "<init>", desc := "()V" } : Jvm.MethodName) object_method_1_code (1 : Nat) (Option.none : Option Jvm.ClassFile.FieldType)).before args0 about1 = true := code_word (m := ⟨0, 0⟩) (meth := k0m0) (c := k0c0) (by decide +kernel) rfl rfl rfl (by decide +kernel)
set_option maxRecDepth 65536 in
theorem w_c3 : (Jvm.Cond.code ({ cls := "com/example/unutkan/unutkan/core/FixedExpiration", name := "readsMoveExpiry", desc := "()Z" } : Jvm.MethodName) prog_11_method_5_code (1 : Nat) (Option.some Jvm.ClassFile.FieldType.boolean)).before args0 about1 = true := code_word (m := ⟨3, 1⟩) (meth := k3m1) (c := k3c1) (by decide +kernel) rfl rfl rfl (by decide +kernel)
def codes1 : List Jvm.Cond := [Jvm.Cond.code x code maxLocals ret, Jvm.Cond.code ({ cls := "com/example/unutkan/unutkan/core/FixedExpiration", name := "<init>", desc := "(JJD)V" } : Jvm.MethodName) prog_11_method_1_code (7 : Nat) (Option.none : Option Jvm.ClassFile.FieldType), Jvm.Cond.code ({ cls := "java/lang/Object", name := "<init>", desc := "()V" } : Jvm.MethodName) object_method_1_code (1 : Nat) (Option.none : Option Jvm.ClassFile.FieldType), Jvm.Cond.code ({ cls := "com/example/unutkan/unutkan/core/FixedExpiration", name := "readsMoveExpiry", desc := "()Z" } : Jvm.MethodName) prog_11_method_5_code (1 : Nat) (Option.some Jvm.ClassFile.FieldType.boolean)]
set_option maxRecDepth 65536 in
theorem codes_eq : words1.filter isCode = codes1 := rfl
theorem w_codes : ∀ c ∈ words1.filter isCode, c.before args0 about1 = true := by
  rw [codes_eq]
  intro c hc
  simp only [codes1, List.mem_cons, List.not_mem_nil, or_false] at hc
  rcases hc with rfl | rfl | rfl | rfl
  · exact w_c0
  · exact w_c1
  · exact w_c2
  · exact w_c3
set_option maxRecDepth 65536 in
theorem w_t1 : (words1.take 24).all (fun c => isCode c || c.before args0 about1) = true := by decide +kernel
set_option maxRecDepth 65536 in
theorem w_t2 : (words1.drop 24).all (fun c => isCode c || c.before args0 about1) = true := by decide +kernel
theorem w_tables : (allAtoms (Jvm.Cond.code x code maxLocals ret :: tables_1)).before args0 about1 = true := by
  rw [allAtoms_all]
  show words1.all (fun c => c.before args0 about1) = true
  refine all_split ?_ w_codes
  rw [← List.take_append_drop 24 words1, List.all_append, w_t1, w_t2]
  rfl
set_option maxRecDepth 65536 in
theorem w_case : (Jvm.Cond.and given_1 narrow_1).before args0 about1 = true := by decide +kernel
theorem w_applies : (headSpec (Jvm.Cond.code x code maxLocals ret :: tables_1) room_1).applies x e0.platform about1 = true :=
  (Spec.applies_iff w_frames).mpr ⟨w_running, w_runnable, w_alone, w_named, w_hears, w_ripe, w_room, w_tables⟩
theorem atStart : AtStart classFile x code maxLocals ret World_1 tables_1 room_1 Calls_1 rest_1 Pre_1 launch0 p0 e0 about1 theMethod args0 below0 :=
  ⟨lists_1, trivial, launch0.admits_env _ _ _, launch0.least_env, fairChoices_fair.cas, fairChoices_fair.clock, w_frames, w_args, w_heap, w_applies, trivial, trivial, w_case⟩
end start1
theorem witness_1 : WitnessClaimed_1 := ⟨start1.p0, start1.e0, start1.about1, start1.theMethod, start1.args0, start1.below0, start1.atStart⟩
end Jvm.Pilot.@@N@@
