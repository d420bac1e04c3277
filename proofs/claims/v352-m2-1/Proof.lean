import JvmDerived
import JvmDerived.Pilot.@@N@@Statement
import JvmDerived.Pilot.@@N@@Code
set_option linter.unusedVariables false
set_option linter.unusedSimpArgs false
namespace Jvm.Pilot.@@N@@
open Jvm Jvm.ClassFile Sem Op Lib Jvm.Free Jvm.Stand Jvm.LawKit Jvm.RoadKit Bundle Jvm.Pilot.@@N@@.Jvm.D
/-! the walk's goal in continuation style -/
def own_Ends (p : Program) (e : Env) (below : List Frame) (s : State) (Q : Option Value → Heap → List Loc → Prop) (k n : Nat) (t : State) : Prop :=
  ∃ s₂ o, Steps p.tables e below t s₂ ∧ s₂.status = .running ∧ Ended s₂ below o ∧ ∃ v L, o = .returned v ∧ Q v s₂.heap L ∧ FrameEnd s o s₂ L k n
section OwnEnds
variable {p : Program} {l : Launch} {e : Env} {R : Room} {s : State} {m : MethodId} {args : Array Value} {below : List Frame} {meth : Method} {c : Code} {T : State} {locs : List Loc} {cells slots : Nat} {Q : Option Value → Heap → List Loc → Prop} {k n : Nat}
theorem own_go {t t' : State} (h : ∀ u, Steps p.tables e below t' u → Steps p.tables e below t u) (g : own_Ends p e below s Q k n t') : own_Ends p e below s Q k n t := by
  obtain ⟨s₂, o, h1, h2⟩ := g
  exact ⟨s₂, o, h _ h1, h2⟩
theorem own_retN (X : Stand p l e R s m args below meth c T locs cells slots) (hx : p.tables.exec = Jvm.exec) {pc : Nat} {Ls : Array Slot} {z w : Int32} {t : FieldType} {rest : List Value} (hret : meth.sig.returnType = some t) (ht : t = .boolean ∨ t = .byte ∨ t = .char ∨ t = .short)
    (hd : decode c.code pc = .ok (.ireturn, 1)) (hlk : meth.locks = false) (hz : nar t z = w) (hQ : Q (some (.int w)) T.heap locs) (hk : cells ≤ k) (hn : slots ≤ n) : own_Ends p e below s Q k n (T.setTop (mkF m pc Ls (.int z :: rest))) := by
  subst hz
  obtain ⟨fs, hr, hrun, hended, hW, hsame⟩ := X.leave (v := some (.int (nar t z))) (fun h => by rw [hret] at h; cases h) hlk
  exact ⟨_, _, retN X hx hret ht hd hr, hrun, hended, _, _, rfl, hQ, ⟨_, rfl⟩, hW, hsame.mono hk hn⟩
theorem own_ret (X : Stand p l e R s m args below meth c T locs cells slots) (hx : p.tables.exec = Jvm.exec) {pc : Nat} {Ls : Array Slot} {w : Value} {t : FieldType} {i : Instr} {rest : List Value} (hret : meth.sig.returnType = some t) (hn' : narrow t w = w)
    (hi : (i = .ireturn ∧ (t = .int ∨ t = .boolean ∨ t = .byte ∨ t = .char ∨ t = .short) ∧ ∃ z, w = .int z) ∨ (i = .lreturn ∧ t = .long ∧ ∃ z, w = .long z) ∨ (i = .dreturn ∧ t = .double ∧ ∃ z, w = .double z) ∨ (i = .freturn ∧ t = .float ∧ ∃ z, w = .float z) ∨ (i = .areturn ∧ t.isReference = true ∧ w.isRef = true))
    (hd : decode c.code pc = .ok (i, 1)) (hlk : meth.locks = false) (hQ : Q (some w) T.heap locs) (hk : cells ≤ k) (hn : slots ≤ n) : own_Ends p e below s Q k n (T.setTop (mkF m pc Ls (w :: rest))) := by
  obtain ⟨fs, hr, hrun, hended, hW, hsame⟩ := X.leave (v := some w) (fun h => by rw [hret] at h; cases h) hlk
  exact ⟨_, _, retOut X hx hret hn' hi hd hr, hrun, hended, _, _, rfl, hQ, ⟨_, rfl⟩, hW, hsame.mono hk hn⟩
theorem own_ret0 (X : Stand p l e R s m args below meth c T locs cells slots) (hx : p.tables.exec = Jvm.exec) {pc : Nat} {Ls : Array Slot} (hret : meth.sig.returnType = none)
    (hd : decode c.code pc = .ok (.return_, 1)) (hlk : meth.locks = false) (hQ : Q none T.heap locs) (hk : cells ≤ k) (hn : slots ≤ n) : own_Ends p e below s Q k n (T.setTop (mkF m pc Ls [])) := by
  obtain ⟨fs, hr, hrun, hended, hW, hsame⟩ := X.leave (v := none) (fun _ => rfl) hlk
  exact ⟨_, _, X.returnOut hx hret hd hr, hrun, hended, _, _, rfl, hQ, ⟨_, rfl⟩, hW, hsame.mono hk hn⟩
end OwnEnds
theorem pd_0 : parseMethodDescriptor "()Lcom/example/atomic_receipt/atomicreceipt/store/ReceiptStore$Fence;" = some ⟨[], some (.object "com/example/atomic_receipt/atomicreceipt/store/ReceiptStore$Fence")⟩ := by decide +kernel
theorem pd_1 : parseMethodDescriptor "(Lcom/example/atomic_receipt/atomicreceipt/store/ReceiptStore$Fence$Kind;J)V" = some ⟨[(.object "com/example/atomic_receipt/atomicreceipt/store/ReceiptStore$Fence$Kind"), .long], none⟩ := by decide +kernel
theorem pd_2 : parseMethodDescriptor "()V" = some ⟨[], none⟩ := by decide +kernel
theorem pd_3 : parseMethodDescriptor "(J)Lcom/example/atomic_receipt/atomicreceipt/store/ReceiptStore$Fence;" = some ⟨[.long], some (.object "com/example/atomic_receipt/atomicreceipt/store/ReceiptStore$Fence")⟩ := by decide +kernel
theorem pd_4 : parseMethodDescriptor "()Lcom/example/atomic_receipt/atomicreceipt/store/ReceiptStore$Fence$Kind;" = some ⟨[], some (.object "com/example/atomic_receipt/atomicreceipt/store/ReceiptStore$Fence$Kind")⟩ := by decide +kernel
theorem pd_5 : parseMethodDescriptor "()J" = some ⟨[], some .long⟩ := by decide +kernel
theorem own_ord {args : Array Value} {s : State} {t : Term} {C n d : String} {x : Addr} {k : Int32} (ht : t.eval args s none [] s = some (.ref x)) (h : (Jvm.Cond.eq (Jvm.Term.field t C n d) (Jvm.Term.int k)).value args s none s [] = some true) : s.fieldOf? x C n d = some (.int k) := by
  have e := eqv_i (Term.int_eval k) h
  rw [fld_at ht] at e
  exact e
theorem own_ord_ne {args : Array Value} {s : State} {t t' : Term} {C n d : String} {x x' : Addr} {k k' : Int32} (ht : t.eval args s none [] s = some (.ref x)) (ht' : t'.eval args s none [] s = some (.ref x'))
    (h : (Jvm.Cond.eq (Jvm.Term.field t C n d) (Jvm.Term.int k)).value args s none s [] = some true) (h' : (Jvm.Cond.eq (Jvm.Term.field t' C n d) (Jvm.Term.int k')).value args s none s [] = some true) (hk : k ≠ k') : x ≠ x' := by
  intro e
  subst e
  have e1 := own_ord ht h
  rw [own_ord ht' h'] at e1
  exact hk (Value.int.inj (Option.some.inj e1)).symm
theorem d2_0 : decode prog_19_method_1_code 0 = .ok (.aload_n 0, 1) := by decide +kernel
theorem d2_1 : decode prog_19_method_1_code 1 = .ok (.invokespecial 1, 3) := by decide +kernel
theorem d2_4 : decode prog_19_method_1_code 4 = .ok (.aload_n 0, 1) := by decide +kernel
theorem d2_5 : decode prog_19_method_1_code 5 = .ok (.aload_n 1, 1) := by decide +kernel
theorem d2_6 : decode prog_19_method_1_code 6 = .ok (.putfield 7, 3) := by decide +kernel
theorem d2_9 : decode prog_19_method_1_code 9 = .ok (.aload_n 0, 1) := by decide +kernel
theorem d2_10 : decode prog_19_method_1_code 10 = .ok (.lload_n 2, 1) := by decide +kernel
theorem d2_11 : decode prog_19_method_1_code 11 = .ok (.putfield 13, 3) := by decide +kernel
theorem d2_14 : decode prog_19_method_1_code 14 = .ok (.return_, 1) := by decide +kernel
theorem pn_0 : plainName "com/example/atomic_receipt/atomicreceipt/store/ReceiptStore$Fence" = true := by first | (simp [plainName, overriddenIn]; done) | decide +kernel
theorem ef_2 (m : MethodId) (x0 : Addr) (x1 : Addr) (x2 : Int64) : entryFrame m #[(.ref x0), (.ref x1), (.long x2)] 4 = mkF m 0 #[.val (.ref x0), .val (.ref x1), .val (.long x2), .second] [] := by first | (simp [entryFrame, mkF, argsToLocals, Value.category]; done) | rfl
def Q2 (a1 : Addr) (a2 : Addr) (q3 : Int64) (h0 : Heap) (n0 : Nat) (Z : State) (v : Option Value) (h : Heap) (L : List Loc) : Prop := v = none ∧ Fr n0 L ∧ Keep h0 h [a1] ∧ Fld Z h a1 "com/example/atomic_receipt/atomicreceipt/store/ReceiptStore$Fence" "kind" "Lcom/example/atomic_receipt/atomicreceipt/store/ReceiptStore$Fence$Kind;" (.ref a2) ∧ Fld Z h a1 "com/example/atomic_receipt/atomicreceipt/store/ReceiptStore$Fence" "highest" "J" (.long q3)
set_option maxRecDepth 65536 in
set_option maxHeartbeats 40000000 in
theorem rm2 (l : Launch) (Z : State) (a0 : Array Value) (hw : ∀ d ∈ tables_1, d.before a0 Z = true) (ws : List Jvm.Cond) (a1 : Addr) (a2 : Addr) (q3 : Int64) (h0 : Heap) (n0 : Nat) (Z0 : n0 ≤ h0.size) (E1 : Exa Z h0 a1 "com/example/atomic_receipt/atomicreceipt/store/ReceiptStore$Fence") (F1 : Fld Z h0 a1 "com/example/atomic_receipt/atomicreceipt/store/ReceiptStore$Fence" "kind" "Lcom/example/atomic_receipt/atomicreceipt/store/ReceiptStore$Fence$Kind;" .null) (F2 : Fld Z h0 a1 "com/example/atomic_receipt/atomicreceipt/store/ReceiptStore$Fence" "highest" "J" (.long (0 : Int64))) (g1 : n0 ≤ a1) :
    MetFree l (⟨"com/example/atomic_receipt/atomicreceipt/store/ReceiptStore$Fence", "<init>", "(Lcom/example/atomic_receipt/atomicreceipt/store/ReceiptStore$Fence$Kind;J)V"⟩ : MethodName) (head1 (Jvm.Cond.code (⟨"com/example/atomic_receipt/atomicreceipt/store/ReceiptStore$Fence", "<init>", "(Lcom/example/atomic_receipt/atomicreceipt/store/ReceiptStore$Fence$Kind;J)V"⟩ : MethodName) prog_19_method_1_code 4 none :: ws) ({ frames := 1, cells := 0, slots := 0, locals := 12 } : Room)) (fun a U => a = #[(.ref a1), (.ref a2), (.long q3)] ∧ Z.Warmed39 U.vm ∧ U.heap = h0) (fun _ _ _ _ _ => True) (fun _ U o U' => ∃ v L, o = .returned v ∧ Q2 a1 a2 q3 h0 n0 Z v U'.heap L ∧ FrameEnd U o U' L ({ frames := 1, cells := 0, slots := 0, locals := 12 } : Room).cells ({ frames := 1, cells := 0, slots := 0, locals := 12 } : Room).slots) := by
  refine MetFree.of_bodySF (plainFor_of_name pn_0) hisR ?_
  intro p e s m args below meth c s₁ Bd hml0 hP hK
  obtain ⟨rfl, hZ, hh⟩ := hP
  have hx := Bd.exec
  have hby := Bd.bytes
  have hml : c.maxLocals = 4 := hml0
  have hown : s.vm.findClass "com/example/atomic_receipt/atomicreceipt/store/ReceiptStore$Fence" = some m.cls := findClass_of_methodNamed Bd.named
  have hnm := (name_of_methodNamed Bd.named Bd.method).1
  have hlk := Bd.notSynchronized
  have hrt := Bd.returns
  have X0 : Stand p l e ({ frames := 1, cells := 0, slots := 0, locals := 12 } : Room) s m #[(.ref a1), (.ref a2), (.long q3)] below meth c s₁ [] 0 0 := Stand.of_body Bd
  have e0 : s₁.heap = h0 := by rw [← hh, Bd.state]; rfl
  have N0 := Fr.nil n0
  show own_Ends p e below s (Q2 a1 a2 q3 h0 n0 Z) ({ frames := 1, cells := 0, slots := 0, locals := 12 } : Room).cells ({ frames := 1, cells := 0, slots := 0, locals := 12 } : Room).slots (s₁.setTop (entryFrame m #[(.ref a1), (.ref a2), (.long q3)] 4))
  rw [ef_2]
  have K0 : Keep h0 h0 [a1] := Keep.refl h0 [a1]
  refine own_go (fun _ k => XS.aloadN X0.here hx rfl (hb hby d2_0) rfl rfl <| k) ?_
  show own_Ends p e below s _ _ _ (s₁.setTop (mkF m 1 #[.val (.ref a1), .val (.ref a2), .val (.long q3), .second] [(.ref a1)]))
  obtain ⟨T1, X1, e1, st1⟩ := initO X0 hx hZ hown (hw _ (List.mem_of_getElem? (i := 12) rfl)) (hw _ (List.mem_of_getElem? (i := 13) rfl)) (hw _ (List.mem_of_getElem? (i := 14) rfl)) e0 (g := (mkF m 1 #[.val (.ref a1), .val (.ref a2), .val (.long q3), .second] [(.ref a1)])) rfl (by rw [hml]; rfl) rfl (hb hby d2_1) (by decide) (W := 0) (by show 2 * 0 + _ ≤ _; exact Nat.le_of_eq rfl) (by decide)
  refine own_go st1 ?_
  show own_Ends p e below s _ _ _ (T1.setTop (mkF m 4 #[.val (.ref a1), .val (.ref a2), .val (.long q3), .second] []))
  refine own_go (fun _ k => XS.aloadN X1.here hx rfl (hb hby d2_4) rfl rfl <| XS.aloadN X1.here hx rfl (hb hby d2_5) rfl rfl <| k) ?_
  show own_Ends p e below s _ _ _ (T1.setTop (mkF m 6 #[.val (.ref a1), .val (.ref a2), .val (.long q3), .second] [(.ref a2), (.ref a1)]))
  obtain ⟨T2, h2, X2, e2, W2, st2⟩ := putF X1 hx hZ hown (host := "") (Or.inl (hw _ (List.mem_of_getElem? (i := 15) rfl))) Via.refl e1 F1 E1 (Or.inr ⟨(hw _ (List.mem_of_getElem? (i := 16) rfl)), rfl, hnm⟩) (hw _ (List.mem_of_getElem? (i := 5) rfl)) (ty := (.object "com/example/atomic_receipt/atomicreceipt/store/ReceiptStore$Fence$Kind")) (by decide) rfl rfl (g := (mkF m 6 #[.val (.ref a1), .val (.ref a2), .val (.long q3), .second] [(.ref a2), (.ref a1)])) rfl rfl (hb hby d2_6)
  refine own_go st2 ?_
  have E1'2 := E1.wr W2
  have F2'2 := F2.other W2 (Or.inr (slot_ne (Or.inr (hw _ (List.mem_of_getElem? (i := 18) rfl))) (Or.inr (hw _ (List.mem_of_getElem? (i := 16) rfl))) (by decide) (t := .long) (t' := (.object "com/example/atomic_receipt/atomicreceipt/store/ReceiptStore$Fence$Kind")) (by decide) (by decide)))
  have Z2 := Nat.le_trans Z0 (Keep.of_wr W2).1
  have K2' := K0.wr W2 (Or.inl (List.mem_of_getElem? (i := 0) rfl))
  have N2 := Fr.snoc X2 N0 g1
  have F1'2 := F1.same W2
  show own_Ends p e below s _ _ _ (T2.setTop (mkF m 9 #[.val (.ref a1), .val (.ref a2), .val (.long q3), .second] []))
  refine own_go (fun _ k => XS.aloadN X2.here hx rfl (hb hby d2_9) rfl rfl <| XS.lloadN X2.here hx rfl (hb hby d2_10) rfl <| k) ?_
  show own_Ends p e below s _ _ _ (T2.setTop (mkF m 11 #[.val (.ref a1), .val (.ref a2), .val (.long q3), .second] [(.long q3), (.ref a1)]))
  obtain ⟨T3, h3, X3, e3, W3, st3⟩ := putF X2 hx hZ hown (host := "") (Or.inl (hw _ (List.mem_of_getElem? (i := 17) rfl))) Via.refl e2 F2'2 E1'2 (Or.inr ⟨(hw _ (List.mem_of_getElem? (i := 18) rfl)), rfl, hnm⟩) (hw _ (List.mem_of_getElem? (i := 5) rfl)) (ty := .long) (by decide) rfl rfl (g := (mkF m 11 #[.val (.ref a1), .val (.ref a2), .val (.long q3), .second] [(.long q3), (.ref a1)])) rfl rfl (hb hby d2_11)
  refine own_go st3 ?_
  have E1'3 := E1'2.wr W3
  have F1'3 := F1'2.other W3 (Or.inr (slot_ne (Or.inr (hw _ (List.mem_of_getElem? (i := 16) rfl))) (Or.inr (hw _ (List.mem_of_getElem? (i := 18) rfl))) (by decide) (t := (.object "com/example/atomic_receipt/atomicreceipt/store/ReceiptStore$Fence$Kind")) (t' := .long) (by decide) (by decide)))
  have Z3 := Nat.le_trans Z2 (Keep.of_wr W3).1
  have K3' := K2'.wr W3 (Or.inl (List.mem_of_getElem? (i := 0) rfl))
  have N3 := Fr.snoc X3 N2 g1
  have F2'3 := F2'2.same W3
  show own_Ends p e below s _ _ _ (T3.setTop (mkF m 14 #[.val (.ref a1), .val (.ref a2), .val (.long q3), .second] []))
  exact own_ret0 X3 hx hrt (hb hby d2_14) hlk (by rw [e3]; exact ⟨rfl, N3, K3', F1'3, F2'3⟩) (by decide) (by decide)
theorem d4_0 : decode prog_19_method_3_code 0 = .ok (.new 8, 3) := by decide +kernel
theorem d4_3 : decode prog_19_method_3_code 3 = .ok (.dup, 1) := by decide +kernel
theorem d4_4 : decode prog_19_method_3_code 4 = .ok (.getstatic 25, 3) := by decide +kernel
theorem d4_7 : decode prog_19_method_3_code 7 = .ok (.lload_n 0, 1) := by decide +kernel
theorem d4_8 : decode prog_19_method_3_code 8 = .ok (.invokespecial 22, 3) := by decide +kernel
theorem d4_11 : decode prog_19_method_3_code 11 = .ok (.areturn, 1) := by decide +kernel
theorem ef_4 (m : MethodId) (x0 : Int64) : entryFrame m #[(.long x0)] 2 = mkF m 0 #[.val (.long x0), .second] [] := by first | (simp [entryFrame, mkF, argsToLocals, Value.category]; done) | rfl
def Q4 (q1 : Int64) (wS : Addr) (h0 : Heap) (n0 : Nat) (Z : State) (v : Option Value) (h : Heap) (L : List Loc) : Prop := ∃ b, v = some (.ref b) ∧ Fr n0 L ∧ Keep h0 h [] ∧ n0 ≤ b ∧ Exa Z h b "com/example/atomic_receipt/atomicreceipt/store/ReceiptStore$Fence" ∧ Fld Z h b "com/example/atomic_receipt/atomicreceipt/store/ReceiptStore$Fence" "kind" "Lcom/example/atomic_receipt/atomicreceipt/store/ReceiptStore$Fence$Kind;" (.ref wS) ∧ Fld Z h b "com/example/atomic_receipt/atomicreceipt/store/ReceiptStore$Fence" "highest" "J" (.long q1)
set_option maxRecDepth 65536 in
set_option maxHeartbeats 40000000 in
theorem rm4 (l : Launch) (Z : State) (a0 : Array Value) (hw : ∀ d ∈ tables_1, d.before a0 Z = true) (ws : List Jvm.Cond) (q1 : Int64) (wS : Addr) (h0 : Heap) (n0 : Nat) (Z0 : n0 ≤ h0.size) (O0 : Old Z n0 h0) (St : Sta Z Z.heap "com/example/atomic_receipt/atomicreceipt/store/ReceiptStore$Fence$Kind" "STALE" "Lcom/example/atomic_receipt/atomicreceipt/store/ReceiptStore$Fence$Kind;" (.ref wS)) :
    MetFree l (⟨"com/example/atomic_receipt/atomicreceipt/store/ReceiptStore$Fence", "stale", "(J)Lcom/example/atomic_receipt/atomicreceipt/store/ReceiptStore$Fence;"⟩ : MethodName) (head1 (Jvm.Cond.code (⟨"com/example/atomic_receipt/atomicreceipt/store/ReceiptStore$Fence", "stale", "(J)Lcom/example/atomic_receipt/atomicreceipt/store/ReceiptStore$Fence;"⟩ : MethodName) prog_19_method_3_code 2 (some (.object "com/example/atomic_receipt/atomicreceipt/store/ReceiptStore$Fence")) :: ws) ({ frames := 2, cells := 1, slots := 2, locals := 40 } : Room)) (fun a U => a = #[(.long q1)] ∧ Z.Warmed39 U.vm ∧ U.heap = h0) (fun _ _ _ _ _ => True) (fun _ U o U' => ∃ v L, o = .returned v ∧ Q4 q1 wS h0 n0 Z v U'.heap L ∧ FrameEnd U o U' L ({ frames := 2, cells := 1, slots := 2, locals := 40 } : Room).cells ({ frames := 2, cells := 1, slots := 2, locals := 40 } : Room).slots) := by
  refine MetFree.of_bodySF (plainFor_of_name pn_0) hisR ?_
  intro p e s m args below meth c s₁ Bd hml0 hP hK
  obtain ⟨rfl, hZ, hh⟩ := hP
  have hx := Bd.exec
  have hby := Bd.bytes
  have hml : c.maxLocals = 2 := hml0
  have hown : s.vm.findClass "com/example/atomic_receipt/atomicreceipt/store/ReceiptStore$Fence" = some m.cls := findClass_of_methodNamed Bd.named
  have hnm := (name_of_methodNamed Bd.named Bd.method).1
  have hlk := Bd.notSynchronized
  have hrt := Bd.returns
  have X0 : Stand p l e ({ frames := 2, cells := 1, slots := 2, locals := 40 } : Room) s m #[(.long q1)] below meth c s₁ [] 0 0 := Stand.of_body Bd
  have e0 : s₁.heap = h0 := by rw [← hh, Bd.state]; rfl
  have N0 := Fr.nil n0
  show own_Ends p e below s (Q4 q1 wS h0 n0 Z) ({ frames := 2, cells := 1, slots := 2, locals := 40 } : Room).cells ({ frames := 2, cells := 1, slots := 2, locals := 40 } : Room).slots (s₁.setTop (entryFrame m #[(.long q1)] 2))
  rw [ef_4]
  have K0 : Keep h0 h0 [] := Keep.refl h0 []
  obtain ⟨T1, h1, X1, e1, E1, A1, D1, -, st1⟩ := newO X0 hx hZ hown (hw _ (List.mem_of_getElem? (i := 4) rfl)) (hw _ (List.mem_of_getElem? (i := 5) rfl)) (hw _ (List.mem_of_getElem? (i := 2) rfl)) e0 (g := (mkF m 0 #[.val (.long q1), .second] [])) rfl (hb hby d4_0) (by decide) (by decide)
  obtain ⟨b1, g1⟩ : ∃ z, z = h0.size := ⟨_, rfl⟩
  rw [← g1] at A1 D1 st1
  refine own_go st1 ?_
  have g_b1 : n0 ≤ b1 := Nat.le_trans Z0 (Nat.le_of_eq g1.symm)
  have sz_b1 : h0.size ≤ b1 := Nat.le_trans K0.1 (Nat.le_of_eq g1.symm)
  have Z1 := Nat.le_trans Z0 E1.1
  have O1 := O0.ext E1
  have K1' := K0.ext E1
  have F_kind_b1 : Fld Z h1 b1 "com/example/atomic_receipt/atomicreceipt/store/ReceiptStore$Fence" "kind" "Lcom/example/atomic_receipt/atomicreceipt/store/ReceiptStore$Fence$Kind;" .null := D1 (Or.inr (hw _ (List.mem_of_getElem? (i := 16) rfl))) (ty := (.object "com/example/atomic_receipt/atomicreceipt/store/ReceiptStore$Fence$Kind")) (by decide)
  have F_highest_b1 : Fld Z h1 b1 "com/example/atomic_receipt/atomicreceipt/store/ReceiptStore$Fence" "highest" "J" (.long (0 : Int64)) := D1 (Or.inr (hw _ (List.mem_of_getElem? (i := 18) rfl))) (ty := .long) (by decide)
  show own_Ends p e below s _ _ _ (T1.setTop (mkF m 3 #[.val (.long q1), .second] [(.ref b1)]))
  refine own_go (fun _ k => XS.dup X1.here hx rfl (hb hby d4_3) rfl rfl <| k) ?_
  show own_Ends p e below s _ _ _ (T1.setTop (mkF m 4 #[.val (.long q1), .second] [(.ref b1), (.ref b1)]))
  obtain ⟨T2, X2, e2, st2⟩ := getS2 X1 hx hZ hown (host := "") (Or.inl (hw _ (List.mem_of_getElem? (i := 22) rfl))) Via.refl e1 (St.ext O1.2) (g := (mkF m 4 #[.val (.long q1), .second] [(.ref b1), (.ref b1)])) rfl (hb hby d4_4)
  refine own_go st2 ?_
  show own_Ends p e below s _ _ _ (T2.setTop (mkF m 7 #[.val (.long q1), .second] [(.ref wS), (.ref b1), (.ref b1)]))
  refine own_go (fun _ k => XS.lloadN X2.here hx rfl (hb hby d4_7) rfl <| k) ?_
  show own_Ends p e below s _ _ _ (T2.setTop (mkF m 8 #[.val (.long q1), .second] [(.long q1), (.ref wS), (.ref b1), (.ref b1)]))
  obtain ⟨_, _, ⟨T3, L3, k3, n3⟩, -, X3, ⟨Lc3, hQ3, l3, y3, z3⟩, st3⟩ := X2.specialBack hx (y := (⟨"com/example/atomic_receipt/atomicreceipt/store/ReceiptStore$Fence", "<init>", "(Lcom/example/atomic_receipt/atomicreceipt/store/ReceiptStore$Fence$Kind;J)V"⟩ : MethodName)) rfl hown (mvT hZ (hw _ (List.mem_of_getElem? (i := 9) rfl))) (mvT hZ (hw _ (List.mem_of_getElem? (i := 10) rfl))) (mvT hZ (hw _ (List.mem_of_getElem? (i := 11) rfl))) (by decide) (backOf (W := 1) (rm2 l Z a0 hw [] b1 wS q1 h1 n0 Z1 A1 F_kind_b1 F_highest_b1 g_b1) hZ (hw _ (List.mem_of_getElem? (i := 11) rfl)) (hw _ (List.mem_of_getElem? (i := 2) rfl)) (by decide) (by decide)) (g := (mkF m 8 #[.val (.long q1), .second] [(.long q1), (.ref wS), (.ref b1), (.ref b1)])) rfl (by rw [hml]; rfl) (Steps.refl _) (a := b1) (argsL := [(.ref wS), (.long q1)]) (rest := [(.ref b1)]) (lenOf pd_1 rfl) rfl (by show 2 * 0 + _ ≤ _; exact Nat.le_of_eq rfl) (hb hby d4_8) (fun _ _ => ⟨rfl, e2, Nat.le_of_ble_eq_true rfl, Nat.le_of_ble_eq_true rfl⟩)
  dsimp only [Pt.U, Pt.locs, Pt.cells, Pt.slots] at X3 l3 y3 z3 st3 hQ3
  subst l3 y3 z3
  obtain ⟨rfl, N3q, K3, Fk3, Fh3⟩ := hQ3
  have N3 := Fr.app N0 N3q
  refine own_go (fun _ k => st3.trans k) ?_
  have A1'3 := A1.keep K3
  have Z3 := Nat.le_trans Z1 K3.1
  have O3 := O1.keep K3 (allS g_b1 all0)
  have K3' := K1'.trans K3 (allS (Or.inr sz_b1) all0)
  show own_Ends p e below s _ _ _ (T3.setTop (mkF m 11 #[.val (.long q1), .second] [(.ref b1)]))
  exact own_ret X3 hx hrt rfl (Or.inr (Or.inr (Or.inr (Or.inr ⟨rfl, rfl, rfl⟩)))) (hb hby d4_11) hlk (by exact ⟨_, rfl, N3, K3', g_b1, A1'3, Fk3, Fh3⟩) (by decide) (by decide)
theorem d1_0 : decode prog_19_method_2_code 0 = .ok (.new 8, 3) := by decide +kernel
theorem d1_3 : decode prog_19_method_2_code 3 = .ok (.dup, 1) := by decide +kernel
theorem d1_4 : decode prog_19_method_2_code 4 = .ok (.getstatic 17, 3) := by decide +kernel
theorem d1_7 : decode prog_19_method_2_code 7 = .ok (.lconst 0, 1) := by decide +kernel
theorem d1_8 : decode prog_19_method_2_code 8 = .ok (.invokespecial 22, 3) := by decide +kernel
theorem d1_11 : decode prog_19_method_2_code 11 = .ok (.areturn, 1) := by decide +kernel
theorem ef_1 (m : MethodId)  : entryFrame m #[] 0 = mkF m 0 #[] [] := by first | (simp [entryFrame, mkF, argsToLocals, Value.category]; done) | rfl
def Q1 (wA : Addr) (h0 : Heap) (n0 : Nat) (Z : State) (v : Option Value) (h : Heap) (L : List Loc) : Prop := ∃ b, v = some (.ref b) ∧ Fr n0 L ∧ Keep h0 h [] ∧ n0 ≤ b ∧ Exa Z h b "com/example/atomic_receipt/atomicreceipt/store/ReceiptStore$Fence" ∧ Fld Z h b "com/example/atomic_receipt/atomicreceipt/store/ReceiptStore$Fence" "kind" "Lcom/example/atomic_receipt/atomicreceipt/store/ReceiptStore$Fence$Kind;" (.ref wA) ∧ Fld Z h b "com/example/atomic_receipt/atomicreceipt/store/ReceiptStore$Fence" "highest" "J" (.long (0 : Int64))
set_option maxRecDepth 65536 in
set_option maxHeartbeats 40000000 in
theorem rm1 (l : Launch) (Z : State) (a0 : Array Value) (hw : ∀ d ∈ tables_1, d.before a0 Z = true) (ws : List Jvm.Cond) (wA : Addr) (h0 : Heap) (n0 : Nat) (Z0 : n0 ≤ h0.size) (O0 : Old Z n0 h0) (Sa : Sta Z Z.heap "com/example/atomic_receipt/atomicreceipt/store/ReceiptStore$Fence$Kind" "ACCEPTED" "Lcom/example/atomic_receipt/atomicreceipt/store/ReceiptStore$Fence$Kind;" (.ref wA)) :
    MetFree l (⟨"com/example/atomic_receipt/atomicreceipt/store/ReceiptStore$Fence", "accepted", "()Lcom/example/atomic_receipt/atomicreceipt/store/ReceiptStore$Fence;"⟩ : MethodName) (head1 (Jvm.Cond.code (⟨"com/example/atomic_receipt/atomicreceipt/store/ReceiptStore$Fence", "accepted", "()Lcom/example/atomic_receipt/atomicreceipt/store/ReceiptStore$Fence;"⟩ : MethodName) prog_19_method_2_code 0 (some (.object "com/example/atomic_receipt/atomicreceipt/store/ReceiptStore$Fence")) :: ws) ({ frames := 2, cells := 1, slots := 2, locals := 40 } : Room)) (fun a U => a = #[] ∧ Z.Warmed39 U.vm ∧ U.heap = h0) (fun _ _ _ _ _ => True) (fun _ U o U' => ∃ v L, o = .returned v ∧ Q1 wA h0 n0 Z v U'.heap L ∧ FrameEnd U o U' L ({ frames := 2, cells := 1, slots := 2, locals := 40 } : Room).cells ({ frames := 2, cells := 1, slots := 2, locals := 40 } : Room).slots) := by
  refine MetFree.of_bodySF (plainFor_of_name pn_0) hisR ?_
  intro p e s m args below meth c s₁ Bd hml0 hP hK
  obtain ⟨rfl, hZ, hh⟩ := hP
  have hx := Bd.exec
  have hby := Bd.bytes
  have hml : c.maxLocals = 0 := hml0
  have hown : s.vm.findClass "com/example/atomic_receipt/atomicreceipt/store/ReceiptStore$Fence" = some m.cls := findClass_of_methodNamed Bd.named
  have hnm := (name_of_methodNamed Bd.named Bd.method).1
  have hlk := Bd.notSynchronized
  have hrt := Bd.returns
  have X0 : Stand p l e ({ frames := 2, cells := 1, slots := 2, locals := 40 } : Room) s m #[] below meth c s₁ [] 0 0 := Stand.of_body Bd
  have e0 : s₁.heap = h0 := by rw [← hh, Bd.state]; rfl
  have N0 := Fr.nil n0
  show own_Ends p e below s (Q1 wA h0 n0 Z) ({ frames := 2, cells := 1, slots := 2, locals := 40 } : Room).cells ({ frames := 2, cells := 1, slots := 2, locals := 40 } : Room).slots (s₁.setTop (entryFrame m #[] 0))
  rw [ef_1]
  have K0 : Keep h0 h0 [] := Keep.refl h0 []
  obtain ⟨T1, h1, X1, e1, E1, A1, D1, -, st1⟩ := newO X0 hx hZ hown (hw _ (List.mem_of_getElem? (i := 4) rfl)) (hw _ (List.mem_of_getElem? (i := 5) rfl)) (hw _ (List.mem_of_getElem? (i := 2) rfl)) e0 (g := (mkF m 0 #[] [])) rfl (hb hby d1_0) (by decide) (by decide)
  obtain ⟨b1, g1⟩ : ∃ z, z = h0.size := ⟨_, rfl⟩
  rw [← g1] at A1 D1 st1
  refine own_go st1 ?_
  have g_b1 : n0 ≤ b1 := Nat.le_trans Z0 (Nat.le_of_eq g1.symm)
  have sz_b1 : h0.size ≤ b1 := Nat.le_trans K0.1 (Nat.le_of_eq g1.symm)
  have Z1 := Nat.le_trans Z0 E1.1
  have O1 := O0.ext E1
  have K1' := K0.ext E1
  have F_kind_b1 : Fld Z h1 b1 "com/example/atomic_receipt/atomicreceipt/store/ReceiptStore$Fence" "kind" "Lcom/example/atomic_receipt/atomicreceipt/store/ReceiptStore$Fence$Kind;" .null := D1 (Or.inr (hw _ (List.mem_of_getElem? (i := 16) rfl))) (ty := (.object "com/example/atomic_receipt/atomicreceipt/store/ReceiptStore$Fence$Kind")) (by decide)
  have F_highest_b1 : Fld Z h1 b1 "com/example/atomic_receipt/atomicreceipt/store/ReceiptStore$Fence" "highest" "J" (.long (0 : Int64)) := D1 (Or.inr (hw _ (List.mem_of_getElem? (i := 18) rfl))) (ty := .long) (by decide)
  show own_Ends p e below s _ _ _ (T1.setTop (mkF m 3 #[] [(.ref b1)]))
  refine own_go (fun _ k => XS.dup X1.here hx rfl (hb hby d1_3) rfl rfl <| k) ?_
  show own_Ends p e below s _ _ _ (T1.setTop (mkF m 4 #[] [(.ref b1), (.ref b1)]))
  obtain ⟨T2, X2, e2, st2⟩ := getS2 X1 hx hZ hown (host := "") (Or.inl (hw _ (List.mem_of_getElem? (i := 6) rfl))) Via.refl e1 (Sa.ext O1.2) (g := (mkF m 4 #[] [(.ref b1), (.ref b1)])) rfl (hb hby d1_4)
  refine own_go st2 ?_
  show own_Ends p e below s _ _ _ (T2.setTop (mkF m 7 #[] [(.ref wA), (.ref b1), (.ref b1)]))
  refine own_go (fun _ k => XT.lconstV X2.here hx rfl (0 : Int64) (hb hby d1_7) rfl <| k) ?_
  show own_Ends p e below s _ _ _ (T2.setTop (mkF m 8 #[] [(.long (0 : Int64)), (.ref wA), (.ref b1), (.ref b1)]))
  obtain ⟨_, _, ⟨T3, L3, k3, n3⟩, -, X3, ⟨Lc3, hQ3, l3, y3, z3⟩, st3⟩ := X2.specialBack hx (y := (⟨"com/example/atomic_receipt/atomicreceipt/store/ReceiptStore$Fence", "<init>", "(Lcom/example/atomic_receipt/atomicreceipt/store/ReceiptStore$Fence$Kind;J)V"⟩ : MethodName)) rfl hown (mvT hZ (hw _ (List.mem_of_getElem? (i := 9) rfl))) (mvT hZ (hw _ (List.mem_of_getElem? (i := 10) rfl))) (mvT hZ (hw _ (List.mem_of_getElem? (i := 11) rfl))) (by decide) (backOf (W := 1) (rm2 l Z a0 hw [] b1 wA (0 : Int64) h1 n0 Z1 A1 F_kind_b1 F_highest_b1 g_b1) hZ (hw _ (List.mem_of_getElem? (i := 11) rfl)) (hw _ (List.mem_of_getElem? (i := 2) rfl)) (by decide) (by decide)) (g := (mkF m 8 #[] [(.long (0 : Int64)), (.ref wA), (.ref b1), (.ref b1)])) rfl (by rw [hml]; rfl) (Steps.refl _) (a := b1) (argsL := [(.ref wA), (.long (0 : Int64))]) (rest := [(.ref b1)]) (lenOf pd_1 rfl) rfl (by show 2 * 0 + _ ≤ _; exact Nat.le_of_eq rfl) (hb hby d1_8) (fun _ _ => ⟨rfl, e2, Nat.le_of_ble_eq_true rfl, Nat.le_of_ble_eq_true rfl⟩)
  dsimp only [Pt.U, Pt.locs, Pt.cells, Pt.slots] at X3 l3 y3 z3 st3 hQ3
  subst l3 y3 z3
  obtain ⟨rfl, N3q, K3, Fk3, Fh3⟩ := hQ3
  have N3 := Fr.app N0 N3q
  refine own_go (fun _ k => st3.trans k) ?_
  have A1'3 := A1.keep K3
  have Z3 := Nat.le_trans Z1 K3.1
  have O3 := O1.keep K3 (allS g_b1 all0)
  have K3' := K1'.trans K3 (allS (Or.inr sz_b1) all0)
  show own_Ends p e below s _ _ _ (T3.setTop (mkF m 11 #[] [(.ref b1)]))
  exact own_ret X3 hx hrt rfl (Or.inr (Or.inr (Or.inr (Or.inr ⟨rfl, rfl, rfl⟩)))) (hb hby d1_11) hlk (by exact ⟨_, rfl, N3, K3', g_b1, A1'3, Fk3, Fh3⟩) (by decide) (by decide)
theorem d5_0 : decode prog_19_method_5_code 0 = .ok (.aload_n 0, 1) := by decide +kernel
theorem d5_1 : decode prog_19_method_5_code 1 = .ok (.getfield 7, 3) := by decide +kernel
theorem d5_4 : decode prog_19_method_5_code 4 = .ok (.areturn, 1) := by decide +kernel
theorem ef_5 (m : MethodId) (x0 : Addr) : entryFrame m #[(.ref x0)] 1 = mkF m 0 #[.val (.ref x0)] [] := by first | (simp [entryFrame, mkF, argsToLocals, Value.category]; done) | rfl
def Q5 (a1 : Addr) (wK : Addr) (h0 : Heap) (n0 : Nat) (Z : State) (v : Option Value) (h : Heap) (L : List Loc) : Prop := v = some (.ref wK) ∧ Fr n0 L ∧ h = h0
set_option maxRecDepth 65536 in
set_option maxHeartbeats 40000000 in
theorem rm5 (l : Launch) (Z : State) (a0 : Array Value) (hw : ∀ d ∈ tables_1, d.before a0 Z = true) (ws : List Jvm.Cond) (a1 : Addr) (wK : Addr) (h0 : Heap) (n0 : Nat) (Z0 : n0 ≤ h0.size) (F1 : Fld Z h0 a1 "com/example/atomic_receipt/atomicreceipt/store/ReceiptStore$Fence" "kind" "Lcom/example/atomic_receipt/atomicreceipt/store/ReceiptStore$Fence$Kind;" (.ref wK)) :
    MetFree l (⟨"com/example/atomic_receipt/atomicreceipt/store/ReceiptStore$Fence", "kind", "()Lcom/example/atomic_receipt/atomicreceipt/store/ReceiptStore$Fence$Kind;"⟩ : MethodName) (head1 (Jvm.Cond.code (⟨"com/example/atomic_receipt/atomicreceipt/store/ReceiptStore$Fence", "kind", "()Lcom/example/atomic_receipt/atomicreceipt/store/ReceiptStore$Fence$Kind;"⟩ : MethodName) prog_19_method_5_code 1 (some (.object "com/example/atomic_receipt/atomicreceipt/store/ReceiptStore$Fence$Kind")) :: ws) ({ frames := 0, cells := 0, slots := 0, locals := 0 } : Room)) (fun a U => a = #[(.ref a1)] ∧ Z.Warmed39 U.vm ∧ U.heap = h0) (fun _ _ _ _ _ => True) (fun _ U o U' => ∃ v L, o = .returned v ∧ Q5 a1 wK h0 n0 Z v U'.heap L ∧ FrameEnd U o U' L ({ frames := 0, cells := 0, slots := 0, locals := 0 } : Room).cells ({ frames := 0, cells := 0, slots := 0, locals := 0 } : Room).slots) := by
  refine MetFree.of_bodySF (plainFor_of_name pn_0) hisR ?_
  intro p e s m args below meth c s₁ Bd hml0 hP hK
  obtain ⟨rfl, hZ, hh⟩ := hP
  have hx := Bd.exec
  have hby := Bd.bytes
  have hml : c.maxLocals = 1 := hml0
  have hown : s.vm.findClass "com/example/atomic_receipt/atomicreceipt/store/ReceiptStore$Fence" = some m.cls := findClass_of_methodNamed Bd.named
  have hnm := (name_of_methodNamed Bd.named Bd.method).1
  have hlk := Bd.notSynchronized
  have hrt := Bd.returns
  have X0 : Stand p l e ({ frames := 0, cells := 0, slots := 0, locals := 0 } : Room) s m #[(.ref a1)] below meth c s₁ [] 0 0 := Stand.of_body Bd
  have e0 : s₁.heap = h0 := by rw [← hh, Bd.state]; rfl
  have N0 := Fr.nil n0
  show own_Ends p e below s (Q5 a1 wK h0 n0 Z) ({ frames := 0, cells := 0, slots := 0, locals := 0 } : Room).cells ({ frames := 0, cells := 0, slots := 0, locals := 0 } : Room).slots (s₁.setTop (entryFrame m #[(.ref a1)] 1))
  rw [ef_5]
  refine own_go (fun _ k => XS.aloadN X0.here hx rfl (hb hby d5_0) rfl rfl <| k) ?_
  show own_Ends p e below s _ _ _ (s₁.setTop (mkF m 1 #[.val (.ref a1)] [(.ref a1)]))
  obtain ⟨T1, X1, e1, st1⟩ := getF X0 hx hZ hown (host := "") (Or.inl (hw _ (List.mem_of_getElem? (i := 15) rfl))) Via.refl e0 F1 (g := (mkF m 1 #[.val (.ref a1)] [(.ref a1)])) rfl rfl (hb hby d5_1)
  refine own_go st1 ?_
  show own_Ends p e below s _ _ _ (T1.setTop (mkF m 4 #[.val (.ref a1)] [(.ref wK)]))
  exact own_ret X1 hx hrt rfl (Or.inr (Or.inr (Or.inr (Or.inr ⟨rfl, rfl, rfl⟩)))) (hb hby d5_4) hlk (by rw [e1]; exact ⟨rfl, N0, rfl⟩) (by decide) (by decide)
theorem d6_0 : decode prog_19_method_6_code 0 = .ok (.aload_n 0, 1) := by decide +kernel
theorem d6_1 : decode prog_19_method_6_code 1 = .ok (.getfield 7, 3) := by decide +kernel
theorem d6_4 : decode prog_19_method_6_code 4 = .ok (.getstatic 25, 3) := by decide +kernel
theorem d6_7 : decode prog_19_method_6_code 7 = .ok (.if_acmp .eq 23, 3) := by decide +kernel
theorem d6_10 : decode prog_19_method_6_code 10 = .ok (.new 35, 3) := by decide +kernel
theorem d6_13 : decode prog_19_method_6_code 13 = .ok (.dup, 1) := by decide +kernel
theorem d6_14 : decode prog_19_method_6_code 14 = .ok (.aload_n 0, 1) := by decide +kernel
theorem d6_15 : decode prog_19_method_6_code 15 = .ok (.getfield 7, 3) := by decide +kernel
theorem d6_18 : decode prog_19_method_6_code 18 = .ok (.invokestatic 37, 3) := by decide +kernel
theorem d6_21 : decode prog_19_method_6_code 21 = .ok (.invokedynamic 43, 5) := by decide +kernel
theorem d6_26 : decode prog_19_method_6_code 26 = .ok (.invokespecial 47, 3) := by decide +kernel
theorem d6_29 : decode prog_19_method_6_code 29 = .ok (.athrow, 1) := by decide +kernel
theorem d6_30 : decode prog_19_method_6_code 30 = .ok (.aload_n 0, 1) := by decide +kernel
theorem d6_31 : decode prog_19_method_6_code 31 = .ok (.getfield 13, 3) := by decide +kernel
theorem d6_34 : decode prog_19_method_6_code 34 = .ok (.lreturn, 1) := by decide +kernel
theorem ef_6 (m : MethodId) (x0 : Addr) : entryFrame m #[(.ref x0)] 1 = mkF m 0 #[.val (.ref x0)] [] := by first | (simp [entryFrame, mkF, argsToLocals, Value.category]; done) | rfl
def Q6 (a1 : Addr) (wS : Addr) (q2 : Int64) (h0 : Heap) (n0 : Nat) (Z : State) (v : Option Value) (h : Heap) (L : List Loc) : Prop := v = some (.long q2) ∧ Fr n0 L ∧ h = h0
set_option maxRecDepth 65536 in
set_option maxHeartbeats 40000000 in
theorem rm6 (l : Launch) (Z : State) (a0 : Array Value) (hw : ∀ d ∈ tables_1, d.before a0 Z = true) (ws : List Jvm.Cond) (a1 : Addr) (wS : Addr) (q2 : Int64) (h0 : Heap) (n0 : Nat) (Z0 : n0 ≤ h0.size) (O0 : Old Z n0 h0) (St : Sta Z Z.heap "com/example/atomic_receipt/atomicreceipt/store/ReceiptStore$Fence$Kind" "STALE" "Lcom/example/atomic_receipt/atomicreceipt/store/ReceiptStore$Fence$Kind;" (.ref wS)) (F1 : Fld Z h0 a1 "com/example/atomic_receipt/atomicreceipt/store/ReceiptStore$Fence" "kind" "Lcom/example/atomic_receipt/atomicreceipt/store/ReceiptStore$Fence$Kind;" (.ref wS)) (F2 : Fld Z h0 a1 "com/example/atomic_receipt/atomicreceipt/store/ReceiptStore$Fence" "highest" "J" (.long q2)) :
    MetFree l (⟨"com/example/atomic_receipt/atomicreceipt/store/ReceiptStore$Fence", "highest", "()J"⟩ : MethodName) (head1 (Jvm.Cond.code (⟨"com/example/atomic_receipt/atomicreceipt/store/ReceiptStore$Fence", "highest", "()J"⟩ : MethodName) prog_19_method_6_code 1 (some .long) :: ws) ({ frames := 0, cells := 0, slots := 0, locals := 0 } : Room)) (fun a U => a = #[(.ref a1)] ∧ Z.Warmed39 U.vm ∧ U.heap = h0) (fun _ _ _ _ _ => True) (fun _ U o U' => ∃ v L, o = .returned v ∧ Q6 a1 wS q2 h0 n0 Z v U'.heap L ∧ FrameEnd U o U' L ({ frames := 0, cells := 0, slots := 0, locals := 0 } : Room).cells ({ frames := 0, cells := 0, slots := 0, locals := 0 } : Room).slots) := by
  refine MetFree.of_bodySF (plainFor_of_name pn_0) hisR ?_
  intro p e s m args below meth c s₁ Bd hml0 hP hK
  obtain ⟨rfl, hZ, hh⟩ := hP
  have hx := Bd.exec
  have hby := Bd.bytes
  have hml : c.maxLocals = 1 := hml0
  have hown : s.vm.findClass "com/example/atomic_receipt/atomicreceipt/store/ReceiptStore$Fence" = some m.cls := findClass_of_methodNamed Bd.named
  have hnm := (name_of_methodNamed Bd.named Bd.method).1
  have hlk := Bd.notSynchronized
  have hrt := Bd.returns
  have X0 : Stand p l e ({ frames := 0, cells := 0, slots := 0, locals := 0 } : Room) s m #[(.ref a1)] below meth c s₁ [] 0 0 := Stand.of_body Bd
  have e0 : s₁.heap = h0 := by rw [← hh, Bd.state]; rfl
  have N0 := Fr.nil n0
  show own_Ends p e below s (Q6 a1 wS q2 h0 n0 Z) ({ frames := 0, cells := 0, slots := 0, locals := 0 } : Room).cells ({ frames := 0, cells := 0, slots := 0, locals := 0 } : Room).slots (s₁.setTop (entryFrame m #[(.ref a1)] 1))
  rw [ef_6]
  refine own_go (fun _ k => XS.aloadN X0.here hx rfl (hb hby d6_0) rfl rfl <| k) ?_
  show own_Ends p e below s _ _ _ (s₁.setTop (mkF m 1 #[.val (.ref a1)] [(.ref a1)]))
  obtain ⟨T1, X1, e1, st1⟩ := getF X0 hx hZ hown (host := "") (Or.inl (hw _ (List.mem_of_getElem? (i := 15) rfl))) Via.refl e0 F1 (g := (mkF m 1 #[.val (.ref a1)] [(.ref a1)])) rfl rfl (hb hby d6_1)
  refine own_go st1 ?_
  show own_Ends p e below s _ _ _ (T1.setTop (mkF m 4 #[.val (.ref a1)] [(.ref wS)]))
  obtain ⟨T2, X2, e2, st2⟩ := getS2 X1 hx hZ hown (host := "") (Or.inl (hw _ (List.mem_of_getElem? (i := 22) rfl))) Via.refl e1 (St.ext O0.2) (g := (mkF m 4 #[.val (.ref a1)] [(.ref wS)])) rfl (hb hby d6_4)
  refine own_go st2 ?_
  show own_Ends p e below s _ _ _ (T2.setTop (mkF m 7 #[.val (.ref a1)] [(.ref wS), (.ref wS)]))
  refine own_go (fun _ k => Jvm.RoadKit.acmp (g := (mkF m 7 #[.val (.ref a1)] [(.ref wS), (.ref wS)])) X2 hx rfl rfl rfl (pc0 := 7) (pc' := 30) (same := true) rfl (hb hby d6_7) rfl (decide_eq_true rfl) (by decide) (by decide) <| XS.aloadN X2.here hx rfl (hb hby d6_30) rfl rfl <| k) ?_
  show own_Ends p e below s _ _ _ (T2.setTop (mkF m 31 #[.val (.ref a1)] [(.ref a1)]))
  obtain ⟨T3, X3, e3, st3⟩ := getF X2 hx hZ hown (host := "") (Or.inl (hw _ (List.mem_of_getElem? (i := 17) rfl))) Via.refl e2 F2 (g := (mkF m 31 #[.val (.ref a1)] [(.ref a1)])) rfl rfl (hb hby d6_31)
  refine own_go st3 ?_
  show own_Ends p e below s _ _ _ (T3.setTop (mkF m 34 #[.val (.ref a1)] [(.long q2)]))
  exact own_ret X3 hx hrt rfl (Or.inr (Or.inl ⟨rfl, rfl, _, rfl⟩)) (hb hby d6_34) hlk (by rw [e3]; exact ⟨rfl, N0, rfl⟩) (by decide) (by decide)
theorem pn_1 : plainName "com/example/atomic_receipt/atomicreceipt/store/FenceAcceptedPinLaw" = true := by first | (simp [plainName, overriddenIn]; done) | decide +kernel
theorem ef_0 (m : MethodId) (x0 : Int64) : entryFrame m #[(.long x0)] maxLocals = mkF m 0 #[.val (.long x0), .second, .unset, .unset, .unset, .unset, .unset, .unset] [] := by first | (simp [entryFrame, mkF, argsToLocals, Value.category, maxLocals]; done) | rfl
def Q0 (q1 : Int64) (wA : Addr) (wS : Addr) (h0 : Heap) (n0 : Nat) (Z : State) (v : Option Value) (h : Heap) (L : List Loc) : Prop := v = some (.int 1) ∧ Fr n0 L
set_option maxRecDepth 65536 in
set_option maxHeartbeats 40000000 in
theorem rm0 (l : Launch) (Z : State) (a0 : Array Value) (hw : ∀ d ∈ tables_1, d.before a0 Z = true) (ws : List Jvm.Cond) (q1 : Int64) (wA : Addr) (wS : Addr) (h0 : Heap) (n0 : Nat) (Z0 : n0 ≤ h0.size) (O0 : Old Z n0 h0) (Sa : Sta Z Z.heap "com/example/atomic_receipt/atomicreceipt/store/ReceiptStore$Fence$Kind" "ACCEPTED" "Lcom/example/atomic_receipt/atomicreceipt/store/ReceiptStore$Fence$Kind;" (.ref wA)) (St : Sta Z Z.heap "com/example/atomic_receipt/atomicreceipt/store/ReceiptStore$Fence$Kind" "STALE" "Lcom/example/atomic_receipt/atomicreceipt/store/ReceiptStore$Fence$Kind;" (.ref wS)) (hne : wA ≠ wS) :
    MetFree l x (head1 (Jvm.Cond.code x code maxLocals ret :: ws) room_1) (fun a U => a = #[(.long q1)] ∧ Z.Warmed39 U.vm ∧ U.heap = h0) (fun _ _ _ _ _ => True) (fun _ U o U' => ∃ v L, o = .returned v ∧ Q0 q1 wA wS h0 n0 Z v U'.heap L ∧ FrameEnd U o U' L room_1.cells room_1.slots) := by
  refine MetFree.of_bodySF (plainFor_of_name pn_1) hisR ?_
  intro p e s m args below meth c s₁ Bd hml0 hP hK
  obtain ⟨rfl, hZ, hh⟩ := hP
  have hx := Bd.exec
  have hby := Bd.bytes
  have hml : c.maxLocals = 8 := hml0
  have hown : s.vm.findClass "com/example/atomic_receipt/atomicreceipt/store/FenceAcceptedPinLaw" = some m.cls := findClass_of_methodNamed Bd.named
  have hnm := (name_of_methodNamed Bd.named Bd.method).1
  have hlk := Bd.notSynchronized
  have hrt := Bd.returns
  have X0 : Stand p l e room_1 s m #[(.long q1)] below meth c s₁ [] 0 0 := Stand.of_body Bd
  have e0 : s₁.heap = h0 := by rw [← hh, Bd.state]; rfl
  have N0 := Fr.nil n0
  show own_Ends p e below s (Q0 q1 wA wS h0 n0 Z) room_1.cells room_1.slots (s₁.setTop (entryFrame m #[(.long q1)] maxLocals))
  rw [ef_0]
  obtain ⟨_, _, ⟨T1, L1, k1, n1⟩, -, X1, ⟨Lc1, hQ1, l1, y1, z1⟩, st1⟩ := Jvm.LawKit.callS X0 hx (y := (⟨"com/example/atomic_receipt/atomicreceipt/store/ReceiptStore$Fence", "accepted", "()Lcom/example/atomic_receipt/atomicreceipt/store/ReceiptStore$Fence;"⟩ : MethodName)) hown (mvT hZ (hw _ (List.mem_of_getElem? (i := 0) rfl))) (mvT hZ (hw _ (List.mem_of_getElem? (i := 1) rfl))) (mvT hZ (hw _ (List.mem_of_getElem? (i := 2) rfl))) (mvT hZ (hw _ (List.mem_of_getElem? (i := 3) rfl))) (by decide) (backOf (W := 0) (rm1 l Z a0 hw []  wA h0 n0 Z0 O0 Sa) hZ (hw _ (List.mem_of_getElem? (i := 3) rfl)) (hw _ (List.mem_of_getElem? (i := 2) rfl)) (by decide) (by decide)) (g := (mkF m 0 #[.val (.long q1), .second, .unset, .unset, .unset, .unset, .unset, .unset] [])) rfl (by rw [hml]; rfl) (argsL := []) (rest := []) (lenOf pd_0 rfl) rfl (by show 2 * 0 + _ ≤ _; exact Nat.le_of_eq rfl) (hb hby at_0) (fun _ _ => ⟨rfl, e0, Nat.le_of_ble_eq_true rfl, Nat.le_of_ble_eq_true rfl⟩)
  dsimp only [Pt.U, Pt.locs, Pt.cells, Pt.slots] at X1 l1 y1 z1 st1 hQ1
  subst l1 y1 z1
  obtain ⟨b1, rfl, N1q, K1, g1, Eb1, Fk1, Fh1⟩ := hQ1
  have N1 := Fr.app N0 N1q
  refine own_go (fun _ k => st1 _ k) ?_
  have Z1 := Nat.le_trans Z0 K1.1
  have O1 := O0.keep K1 all0
  show own_Ends p e below s _ _ _ (T1.setTop (mkF m 3 #[.val (.long q1), .second, .unset, .unset, .unset, .unset, .unset, .unset] [(.ref b1)]))
  refine own_go (fun _ k => XS.astoreN X1.here hx rfl (hb hby at_3) rfl rfl (l' := #[.val (.long q1), .second, .val (.ref b1), .unset, .unset, .unset, .unset, .unset]) rfl <| XS.lloadN X1.here hx rfl (hb hby at_4) rfl <| k) ?_
  show own_Ends p e below s _ _ _ (T1.setTop (mkF m 5 #[.val (.long q1), .second, .val (.ref b1), .unset, .unset, .unset, .unset, .unset] [(.long q1)]))
  obtain ⟨_, _, ⟨T2, L2, k2, n2⟩, -, X2, ⟨Lc2, hQ2, l2, y2, z2⟩, st2⟩ := Jvm.LawKit.callS X1 hx (y := (⟨"com/example/atomic_receipt/atomicreceipt/store/ReceiptStore$Fence", "stale", "(J)Lcom/example/atomic_receipt/atomicreceipt/store/ReceiptStore$Fence;"⟩ : MethodName)) hown (mvT hZ (hw _ (List.mem_of_getElem? (i := 19) rfl))) (mvT hZ (hw _ (List.mem_of_getElem? (i := 20) rfl))) (mvT hZ (hw _ (List.mem_of_getElem? (i := 2) rfl))) (mvT hZ (hw _ (List.mem_of_getElem? (i := 21) rfl))) (by decide) (backOf (W := 0) (rm4 l Z a0 hw [] q1 wS T1.heap n0 Z1 O1 St) hZ (hw _ (List.mem_of_getElem? (i := 21) rfl)) (hw _ (List.mem_of_getElem? (i := 2) rfl)) (by decide) (by decide)) (g := (mkF m 5 #[.val (.long q1), .second, .val (.ref b1), .unset, .unset, .unset, .unset, .unset] [(.long q1)])) rfl (by rw [hml]; rfl) (argsL := [(.long q1)]) (rest := []) (lenOf pd_3 rfl) rfl (by show 2 * 0 + _ ≤ _; exact Nat.le_of_eq rfl) (hb hby at_5) (fun _ _ => ⟨rfl, rfl, Nat.le_of_ble_eq_true rfl, Nat.le_of_ble_eq_true rfl⟩)
  dsimp only [Pt.U, Pt.locs, Pt.cells, Pt.slots] at X2 l2 y2 z2 st2 hQ2
  subst l2 y2 z2
  obtain ⟨b2, rfl, N2q, K2, g2, Eb2, Fk2, Fh2⟩ := hQ2
  have N2 := Fr.app N1 N2q
  refine own_go (fun _ k => st2 _ k) ?_
  have Eb1'2 := Eb1.keep K2
  have Fk1'2 := Fk1.keep K2 nin0
  have Fh1'2 := Fh1.keep K2 nin0
  have Z2 := Nat.le_trans Z1 K2.1
  have O2 := O1.keep K2 all0
  show own_Ends p e below s _ _ _ (T2.setTop (mkF m 8 #[.val (.long q1), .second, .val (.ref b1), .unset, .unset, .unset, .unset, .unset] [(.ref b2)]))
  refine own_go (fun _ k => XS.astoreN X2.here hx rfl (hb hby at_8) rfl rfl (l' := #[.val (.long q1), .second, .val (.ref b1), .val (.ref b2), .unset, .unset, .unset, .unset]) rfl <| XS.aloadN X2.here hx rfl (hb hby at_9) rfl rfl <| XS.ifnonnullYes X2.here hx rfl (pc0 := 10) (pc' := 15) rfl (hb hby at_10) rfl (by decide) (by decide) <| XS.aloadN X2.here hx rfl (hb hby at_15) rfl rfl <| k) ?_
  show own_Ends p e below s _ _ _ (T2.setTop (mkF m 16 #[.val (.long q1), .second, .val (.ref b1), .val (.ref b2), .unset, .unset, .unset, .unset] [(.ref b1)]))
  obtain ⟨cq3, kq3, q3a, q3b, q3c⟩ := isOf hZ rfl Eb1'2
  obtain ⟨_, _, ⟨T3, L3, k3, n3⟩, -, X3, ⟨Lc3, hQ3, l3, y3, z3⟩, st3⟩ := X2.virtualBack hx (y := (⟨"com/example/atomic_receipt/atomicreceipt/store/ReceiptStore$Fence", "kind", "()Lcom/example/atomic_receipt/atomicreceipt/store/ReceiptStore$Fence$Kind;"⟩ : MethodName)) (z := (⟨"com/example/atomic_receipt/atomicreceipt/store/ReceiptStore$Fence", "kind", "()Lcom/example/atomic_receipt/atomicreceipt/store/ReceiptStore$Fence$Kind;"⟩ : MethodName)) hown (mvT hZ (hw _ (List.mem_of_getElem? (i := 24) rfl))) (mvT hZ (hw _ (List.mem_of_getElem? (i := 25) rfl))) (notFace_of_selects (args := #[]) (mvT hZ (hw _ (List.mem_of_getElem? (i := 27) rfl)))) (mvT hZ (hw _ (List.mem_of_getElem? (i := 27) rfl))) (mvT hZ (hw _ (List.mem_of_getElem? (i := 26) rfl))) (by decide) (backOf (W := 0) (rm5 l Z a0 hw [] b1 wA T2.heap n0 Z2 Fk1'2) hZ (hw _ (List.mem_of_getElem? (i := 28) rfl)) (hw _ (List.mem_of_getElem? (i := 2) rfl)) (by decide) (by decide)) q3a q3c (g := (mkF m 16 #[.val (.long q1), .second, .val (.ref b1), .val (.ref b2), .unset, .unset, .unset, .unset] [(.ref b1)])) rfl (by rw [hml]; rfl) (Steps.refl _) (argsL := []) (rest := []) (lenOf pd_4 rfl) rfl (by show 2 * 0 + _ ≤ _; exact Nat.le_of_eq rfl) (hb hby at_16) (fun _ _ => ⟨rfl, rfl, Nat.le_of_ble_eq_true rfl, Nat.le_of_ble_eq_true rfl⟩)
  dsimp only [Pt.U, Pt.locs, Pt.cells, Pt.slots] at X3 l3 y3 z3 st3 hQ3
  subst l3 y3 z3
  obtain ⟨rfl, N3q, e3⟩ := hQ3
  have N3 := Fr.app N2 N3q
  refine own_go (fun _ k => st3.trans k) ?_
  show own_Ends p e below s _ _ _ (T3.setTop (mkF m 19 #[.val (.long q1), .second, .val (.ref b1), .val (.ref b2), .unset, .unset, .unset, .unset] [(.ref wA)]))
  obtain ⟨T4, X4, e4, st4⟩ := getS2 X3 hx hZ hown (host := "") (Or.inl (hw _ (List.mem_of_getElem? (i := 29) rfl))) Via.refl e3 (Sa.ext O2.2) (g := (mkF m 19 #[.val (.long q1), .second, .val (.ref b1), .val (.ref b2), .unset, .unset, .unset, .unset] [(.ref wA)])) rfl (hb hby at_19)
  refine own_go st4 ?_
  show own_Ends p e below s _ _ _ (T4.setTop (mkF m 22 #[.val (.long q1), .second, .val (.ref b1), .val (.ref b2), .unset, .unset, .unset, .unset] [(.ref wA), (.ref wA)]))
  refine own_go (fun _ k => Jvm.RoadKit.acmp (g := (mkF m 22 #[.val (.long q1), .second, .val (.ref b1), .val (.ref b2), .unset, .unset, .unset, .unset] [(.ref wA), (.ref wA)])) X4 hx rfl rfl rfl (pc0 := 22) (pc' := 25) (same := true) rfl (hb hby at_22) rfl (decide_eq_true rfl) (by decide) (by decide) <| XT.iconstV X4.here hx rfl (1 : Int32) (hb hby at_25) rfl <| XS.goto X4.here hx rfl (pc0 := 26) (pc' := 30) rfl (hb hby at_26) (by decide) (by decide) <| XS.istore X4.here hx rfl (hb hby at_30) rfl (l' := #[.val (.long q1), .second, .val (.ref b1), .val (.ref b2), .val (.int (1 : Int32)), .unset, .unset, .unset]) rfl <| XS.aloadN X4.here hx rfl (hb hby at_32) rfl rfl <| k) ?_
  show own_Ends p e below s _ _ _ (T4.setTop (mkF m 33 #[.val (.long q1), .second, .val (.ref b1), .val (.ref b2), .val (.int (1 : Int32)), .unset, .unset, .unset] [(.ref b2)]))
  obtain ⟨cq5, kq5, q5a, q5b, q5c⟩ := isOf hZ e4 Eb2
  obtain ⟨_, _, ⟨T5, L5, k5, n5⟩, -, X5, ⟨Lc5, hQ5, l5, y5, z5⟩, st5⟩ := X4.virtualBack hx (y := (⟨"com/example/atomic_receipt/atomicreceipt/store/ReceiptStore$Fence", "kind", "()Lcom/example/atomic_receipt/atomicreceipt/store/ReceiptStore$Fence$Kind;"⟩ : MethodName)) (z := (⟨"com/example/atomic_receipt/atomicreceipt/store/ReceiptStore$Fence", "kind", "()Lcom/example/atomic_receipt/atomicreceipt/store/ReceiptStore$Fence$Kind;"⟩ : MethodName)) hown (mvT hZ (hw _ (List.mem_of_getElem? (i := 24) rfl))) (mvT hZ (hw _ (List.mem_of_getElem? (i := 25) rfl))) (notFace_of_selects (args := #[]) (mvT hZ (hw _ (List.mem_of_getElem? (i := 27) rfl)))) (mvT hZ (hw _ (List.mem_of_getElem? (i := 27) rfl))) (mvT hZ (hw _ (List.mem_of_getElem? (i := 26) rfl))) (by decide) (backOf (W := 0) (rm5 l Z a0 hw [] b2 wS T2.heap n0 Z2 Fk2) hZ (hw _ (List.mem_of_getElem? (i := 28) rfl)) (hw _ (List.mem_of_getElem? (i := 2) rfl)) (by decide) (by decide)) q5a q5c (g := (mkF m 33 #[.val (.long q1), .second, .val (.ref b1), .val (.ref b2), .val (.int (1 : Int32)), .unset, .unset, .unset] [(.ref b2)])) rfl (by rw [hml]; rfl) (Steps.refl _) (argsL := []) (rest := []) (lenOf pd_4 rfl) rfl (by show 2 * 0 + _ ≤ _; exact Nat.le_of_eq rfl) (hb hby at_33) (fun _ _ => ⟨rfl, e4, Nat.le_of_ble_eq_true rfl, Nat.le_of_ble_eq_true rfl⟩)
  dsimp only [Pt.U, Pt.locs, Pt.cells, Pt.slots] at X5 l5 y5 z5 st5 hQ5
  subst l5 y5 z5
  obtain ⟨rfl, N5q, e5⟩ := hQ5
  have N5 := Fr.app N3 N5q
  refine own_go (fun _ k => st5.trans k) ?_
  show own_Ends p e below s _ _ _ (T5.setTop (mkF m 36 #[.val (.long q1), .second, .val (.ref b1), .val (.ref b2), .val (.int (1 : Int32)), .unset, .unset, .unset] [(.ref wS)]))
  obtain ⟨T6, X6, e6, st6⟩ := getS2 X5 hx hZ hown (host := "") (Or.inl (hw _ (List.mem_of_getElem? (i := 30) rfl))) Via.refl e5 (St.ext O2.2) (g := (mkF m 36 #[.val (.long q1), .second, .val (.ref b1), .val (.ref b2), .val (.int (1 : Int32)), .unset, .unset, .unset] [(.ref wS)])) rfl (hb hby at_36)
  refine own_go st6 ?_
  show own_Ends p e below s _ _ _ (T6.setTop (mkF m 39 #[.val (.long q1), .second, .val (.ref b1), .val (.ref b2), .val (.int (1 : Int32)), .unset, .unset, .unset] [(.ref wS), (.ref wS)]))
  refine own_go (fun _ k => Jvm.RoadKit.acmp (g := (mkF m 39 #[.val (.long q1), .second, .val (.ref b1), .val (.ref b2), .val (.int (1 : Int32)), .unset, .unset, .unset] [(.ref wS), (.ref wS)])) X6 hx rfl rfl rfl (pc0 := 39) (pc' := 42) (same := true) rfl (hb hby at_39) rfl (decide_eq_true rfl) (by decide) (by decide) <| XT.iconstV X6.here hx rfl (1 : Int32) (hb hby at_42) rfl <| XS.goto X6.here hx rfl (pc0 := 43) (pc' := 47) rfl (hb hby at_43) (by decide) (by decide) <| XS.istore X6.here hx rfl (hb hby at_47) rfl (l' := #[.val (.long q1), .second, .val (.ref b1), .val (.ref b2), .val (.int (1 : Int32)), .val (.int (1 : Int32)), .unset, .unset]) rfl <| XS.aloadN X6.here hx rfl (hb hby at_49) rfl rfl <| k) ?_
  show own_Ends p e below s _ _ _ (T6.setTop (mkF m 50 #[.val (.long q1), .second, .val (.ref b1), .val (.ref b2), .val (.int (1 : Int32)), .val (.int (1 : Int32)), .unset, .unset] [(.ref b2)]))
  obtain ⟨cq7, kq7, q7a, q7b, q7c⟩ := isOf hZ e6 Eb2
  obtain ⟨_, _, ⟨T7, L7, k7, n7⟩, -, X7, ⟨Lc7, hQ7, l7, y7, z7⟩, st7⟩ := X6.virtualBack hx (y := (⟨"com/example/atomic_receipt/atomicreceipt/store/ReceiptStore$Fence", "highest", "()J"⟩ : MethodName)) (z := (⟨"com/example/atomic_receipt/atomicreceipt/store/ReceiptStore$Fence", "highest", "()J"⟩ : MethodName)) hown (mvT hZ (hw _ (List.mem_of_getElem? (i := 31) rfl))) (mvT hZ (hw _ (List.mem_of_getElem? (i := 32) rfl))) (notFace_of_selects (args := #[]) (mvT hZ (hw _ (List.mem_of_getElem? (i := 34) rfl)))) (mvT hZ (hw _ (List.mem_of_getElem? (i := 34) rfl))) (mvT hZ (hw _ (List.mem_of_getElem? (i := 33) rfl))) (by decide) (backOf (W := 0) (rm6 l Z a0 hw [] b2 wS q1 T2.heap n0 Z2 O2 St Fk2 Fh2) hZ (hw _ (List.mem_of_getElem? (i := 35) rfl)) (hw _ (List.mem_of_getElem? (i := 2) rfl)) (by decide) (by decide)) q7a q7c (g := (mkF m 50 #[.val (.long q1), .second, .val (.ref b1), .val (.ref b2), .val (.int (1 : Int32)), .val (.int (1 : Int32)), .unset, .unset] [(.ref b2)])) rfl (by rw [hml]; rfl) (Steps.refl _) (argsL := []) (rest := []) (lenOf pd_5 rfl) rfl (by show 2 * 0 + _ ≤ _; exact Nat.le_of_eq rfl) (hb hby at_50) (fun _ _ => ⟨rfl, e6, Nat.le_of_ble_eq_true rfl, Nat.le_of_ble_eq_true rfl⟩)
  dsimp only [Pt.U, Pt.locs, Pt.cells, Pt.slots] at X7 l7 y7 z7 st7 hQ7
  subst l7 y7 z7
  obtain ⟨rfl, N7q, e7⟩ := hQ7
  have N7 := Fr.app N5 N7q
  refine own_go (fun _ k => st7.trans k) ?_
  show own_Ends p e below s _ _ _ (T7.setTop (mkF m 53 #[.val (.long q1), .second, .val (.ref b1), .val (.ref b2), .val (.int (1 : Int32)), .val (.int (1 : Int32)), .unset, .unset] [(.long q1)]))
  refine own_go (fun _ k => XS.lloadN X7.here hx rfl (hb hby at_53) rfl <| XS.lcmp X7.here hx rfl (hb hby at_54) rfl <| XS.ifNo X7.here hx rfl (hb hby at_55) rfl ((if0 _ _).trans (teq ((lw_eq _ _).mpr rfl)).2) <| XT.iconstV X7.here hx rfl (1 : Int32) (hb hby at_58) rfl <| XS.goto X7.here hx rfl (pc0 := 59) (pc' := 63) rfl (hb hby at_59) (by decide) (by decide) <| XS.istore X7.here hx rfl (hb hby at_63) rfl (l' := #[.val (.long q1), .second, .val (.ref b1), .val (.ref b2), .val (.int (1 : Int32)), .val (.int (1 : Int32)), .val (.int (1 : Int32)), .unset]) rfl <| XS.aloadN X7.here hx rfl (hb hby at_65) rfl rfl <| k) ?_
  show own_Ends p e below s _ _ _ (T7.setTop (mkF m 66 #[.val (.long q1), .second, .val (.ref b1), .val (.ref b2), .val (.int (1 : Int32)), .val (.int (1 : Int32)), .val (.int (1 : Int32)), .unset] [(.ref b1)]))
  obtain ⟨cq8, kq8, q8a, q8b, q8c⟩ := isOf hZ e7 Eb1'2
  obtain ⟨_, _, ⟨T8, L8, k8, n8⟩, -, X8, ⟨Lc8, hQ8, l8, y8, z8⟩, st8⟩ := X7.virtualBack hx (y := (⟨"com/example/atomic_receipt/atomicreceipt/store/ReceiptStore$Fence", "kind", "()Lcom/example/atomic_receipt/atomicreceipt/store/ReceiptStore$Fence$Kind;"⟩ : MethodName)) (z := (⟨"com/example/atomic_receipt/atomicreceipt/store/ReceiptStore$Fence", "kind", "()Lcom/example/atomic_receipt/atomicreceipt/store/ReceiptStore$Fence$Kind;"⟩ : MethodName)) hown (mvT hZ (hw _ (List.mem_of_getElem? (i := 24) rfl))) (mvT hZ (hw _ (List.mem_of_getElem? (i := 25) rfl))) (notFace_of_selects (args := #[]) (mvT hZ (hw _ (List.mem_of_getElem? (i := 27) rfl)))) (mvT hZ (hw _ (List.mem_of_getElem? (i := 27) rfl))) (mvT hZ (hw _ (List.mem_of_getElem? (i := 26) rfl))) (by decide) (backOf (W := 0) (rm5 l Z a0 hw [] b1 wA T2.heap n0 Z2 Fk1'2) hZ (hw _ (List.mem_of_getElem? (i := 28) rfl)) (hw _ (List.mem_of_getElem? (i := 2) rfl)) (by decide) (by decide)) q8a q8c (g := (mkF m 66 #[.val (.long q1), .second, .val (.ref b1), .val (.ref b2), .val (.int (1 : Int32)), .val (.int (1 : Int32)), .val (.int (1 : Int32)), .unset] [(.ref b1)])) rfl (by rw [hml]; rfl) (Steps.refl _) (argsL := []) (rest := []) (lenOf pd_4 rfl) rfl (by show 2 * 0 + _ ≤ _; exact Nat.le_of_eq rfl) (hb hby at_66) (fun _ _ => ⟨rfl, e7, Nat.le_of_ble_eq_true rfl, Nat.le_of_ble_eq_true rfl⟩)
  dsimp only [Pt.U, Pt.locs, Pt.cells, Pt.slots] at X8 l8 y8 z8 st8 hQ8
  subst l8 y8 z8
  obtain ⟨rfl, N8q, e8⟩ := hQ8
  have N8 := Fr.app N7 N8q
  refine own_go (fun _ k => st8.trans k) ?_
  show own_Ends p e below s _ _ _ (T8.setTop (mkF m 69 #[.val (.long q1), .second, .val (.ref b1), .val (.ref b2), .val (.int (1 : Int32)), .val (.int (1 : Int32)), .val (.int (1 : Int32)), .unset] [(.ref wA)]))
  refine own_go (fun _ k => XS.aloadN X8.here hx rfl (hb hby at_69) rfl rfl <| k) ?_
  show own_Ends p e below s _ _ _ (T8.setTop (mkF m 70 #[.val (.long q1), .second, .val (.ref b1), .val (.ref b2), .val (.int (1 : Int32)), .val (.int (1 : Int32)), .val (.int (1 : Int32)), .unset] [(.ref b2), (.ref wA)]))
  obtain ⟨cq9, kq9, q9a, q9b, q9c⟩ := isOf hZ e8 Eb2
  obtain ⟨_, _, ⟨T9, L9, k9, n9⟩, -, X9, ⟨Lc9, hQ9, l9, y9, z9⟩, st9⟩ := X8.virtualBack hx (y := (⟨"com/example/atomic_receipt/atomicreceipt/store/ReceiptStore$Fence", "kind", "()Lcom/example/atomic_receipt/atomicreceipt/store/ReceiptStore$Fence$Kind;"⟩ : MethodName)) (z := (⟨"com/example/atomic_receipt/atomicreceipt/store/ReceiptStore$Fence", "kind", "()Lcom/example/atomic_receipt/atomicreceipt/store/ReceiptStore$Fence$Kind;"⟩ : MethodName)) hown (mvT hZ (hw _ (List.mem_of_getElem? (i := 24) rfl))) (mvT hZ (hw _ (List.mem_of_getElem? (i := 25) rfl))) (notFace_of_selects (args := #[]) (mvT hZ (hw _ (List.mem_of_getElem? (i := 27) rfl)))) (mvT hZ (hw _ (List.mem_of_getElem? (i := 27) rfl))) (mvT hZ (hw _ (List.mem_of_getElem? (i := 26) rfl))) (by decide) (backOf (W := 1) (rm5 l Z a0 hw [] b2 wS T2.heap n0 Z2 Fk2) hZ (hw _ (List.mem_of_getElem? (i := 28) rfl)) (hw _ (List.mem_of_getElem? (i := 2) rfl)) (by decide) (by decide)) q9a q9c (g := (mkF m 70 #[.val (.long q1), .second, .val (.ref b1), .val (.ref b2), .val (.int (1 : Int32)), .val (.int (1 : Int32)), .val (.int (1 : Int32)), .unset] [(.ref b2), (.ref wA)])) rfl (by rw [hml]; rfl) (Steps.refl _) (argsL := []) (rest := [(.ref wA)]) (lenOf pd_4 rfl) rfl (by show 2 * 0 + _ ≤ _; exact Nat.le_of_eq rfl) (hb hby at_70) (fun _ _ => ⟨rfl, e8, Nat.le_of_ble_eq_true rfl, Nat.le_of_ble_eq_true rfl⟩)
  dsimp only [Pt.U, Pt.locs, Pt.cells, Pt.slots] at X9 l9 y9 z9 st9 hQ9
  subst l9 y9 z9
  obtain ⟨rfl, N9q, e9⟩ := hQ9
  have N9 := Fr.app N8 N9q
  refine own_go (fun _ k => st9.trans k) ?_
  show own_Ends p e below s _ _ _ (T9.setTop (mkF m 73 #[.val (.long q1), .second, .val (.ref b1), .val (.ref b2), .val (.int (1 : Int32)), .val (.int (1 : Int32)), .val (.int (1 : Int32)), .unset] [(.ref wS), (.ref wA)]))
  refine own_go (fun _ k => Jvm.RoadKit.acmp (g := (mkF m 73 #[.val (.long q1), .second, .val (.ref b1), .val (.ref b2), .val (.int (1 : Int32)), .val (.int (1 : Int32)), .val (.int (1 : Int32)), .unset] [(.ref wS), (.ref wA)])) X9 hx rfl rfl rfl (pc0 := 73) (pc' := 76) (same := false) rfl (hb hby at_73) rfl (decide_eq_false (fun q => hne (Value.ref.inj q))) (by decide) (by decide) <| XT.iconstV X9.here hx rfl (1 : Int32) (hb hby at_76) rfl <| XS.goto X9.here hx rfl (pc0 := 77) (pc' := 81) rfl (hb hby at_77) (by decide) (by decide) <| XS.istore X9.here hx rfl (hb hby at_81) rfl (l' := #[.val (.long q1), .second, .val (.ref b1), .val (.ref b2), .val (.int (1 : Int32)), .val (.int (1 : Int32)), .val (.int (1 : Int32)), .val (.int (1 : Int32))]) rfl <| XS.iload X9.here hx rfl (hb hby at_83) rfl <| XS.ifNo X9.here hx rfl (hb hby at_85) rfl ((if0 _ _).trans (feq (by decide)).1) <| XS.iload X9.here hx rfl (hb hby at_88) rfl <| XS.ifNo X9.here hx rfl (hb hby at_90) rfl ((if0 _ _).trans (feq (by decide)).1) <| XS.iload X9.here hx rfl (hb hby at_93) rfl <| XS.ifNo X9.here hx rfl (hb hby at_95) rfl ((if0 _ _).trans (feq (by decide)).1) <| XS.iload X9.here hx rfl (hb hby at_98) rfl <| k) ?_
  show own_Ends p e below s _ _ _ (T9.setTop (mkF m 100 #[.val (.long q1), .second, .val (.ref b1), .val (.ref b2), .val (.int (1 : Int32)), .val (.int (1 : Int32)), .val (.int (1 : Int32)), .val (.int (1 : Int32))] [(.int (1 : Int32))]))
  refine own_go (fun _ k => XS.ifNo X9.here hx rfl (hb hby at_100) rfl ((if0 _ _).trans (feq (by decide)).1) <| XT.iconstV X9.here hx rfl (1 : Int32) (hb hby at_103) rfl <| XS.goto X9.here hx rfl (pc0 := 104) (pc' := 108) rfl (hb hby at_104) (by decide) (by decide) <| k) ?_
  show own_Ends p e below s _ _ _ (T9.setTop (mkF m 108 #[.val (.long q1), .second, .val (.ref b1), .val (.ref b2), .val (.int (1 : Int32)), .val (.int (1 : Int32)), .val (.int (1 : Int32)), .val (.int (1 : Int32))] [(.int (1 : Int32))]))
  exact own_retN X9 hx (t := .boolean) hrt (by simp) (hb hby at_108) hlk (show nar .boolean (1 : Int32) = (1 : Int32) from by decide) (by rw [e9]; exact ⟨rfl, N9⟩) (by decide) (by decide)
set_option maxRecDepth 65536 in
set_option maxHeartbeats 40000000 in
theorem comes_1 {Post : Tables → Env → Array Value → State → Outcome → State → Prop} (hpost : ∀ tb e args s v u, (limb_1_1.after args s (.returned v) u = true ∧ limb_1_2.after args s (.returned v) u = true ∧ True) → FrameEnd s (.returned v) u (Jvm.fieldLocs frame_1_writes args s ++ Jvm.arrayLocs frame_1_arrays args s ++ Jvm.staticLocs frame_1_statics s) 16 128 → Post tb e args s (.returned v) u) :
    ArmFor flags0 classFile x code maxLocals ret World_1 tables_1 room_1 Calls_1 rest_1 Pre_1 Post := by
  intro l hfl _ _ p e ha hc hk s m args below hf hA hF happ hP
  obtain ⟨hcalls, hrest, hpre⟩ := hP
  obtain ⟨-, -, -, hnamed, -, -, -, hat⟩ := (Spec.applies_iff hf).mp happ
  obtain ⟨hg, hn⟩ := and_e (Cond.before_iff.mp (show (Jvm.Cond.and given_1 narrow_1).before args s = true from hpre))
  obtain ⟨g1, g2⟩ := and_e hg
  obtain ⟨w0, rfl⟩ : ∃ w0 : Value, args = #[w0] := by
    have hs : args.size = 1 := by simpa [Cond.value, given_1] using g1
    obtain ⟨L⟩ := args
    match L, hs with
    | [w0], _ => exact ⟨w0, rfl⟩
  have hw := fun d (hd : d ∈ tables_1) => atoms_spec (ws := Jvm.Cond.code x code maxLocals ret :: tables_1) hat d (List.mem_cons_of_mem _ hd)
  have hfit : Fit s := fun {y c} hc i hi => by
    obtain ⟨ha, rfl⟩ := Array.getElem?_eq_some_iff.mp hc
    have q := List.all_eq_true.mp ((Array.all_eq_true_iff_forall_mem.mp hF) _ (Array.getElem_mem ha)) i (List.mem_range.mpr hi)
    simpa [Array.getElem?_eq_getElem hi] using q
  obtain ⟨i0, ei0⟩ := isL_v g2
  obtain rfl : w0 = (.long i0) := Option.some.inj ei0
  obtain ⟨m1, hn2⟩ := and_e hn
  obtain ⟨m2, hn3⟩ := and_e hn2
  obtain ⟨m3, m4⟩ := and_e hn3
  obtain ⟨wA, evA⟩ := exa_v m1
  obtain ⟨wS, evS⟩ := exa_v m2
  have Sa := Sta.start evA (Or.inr ⟨(hw _ (List.mem_of_getElem? (i := 7) rfl)), (hw _ (List.mem_of_getElem? (i := 8) rfl))⟩)
  have St := Sta.start evS (Or.inr ⟨(hw _ (List.mem_of_getElem? (i := 7) rfl)), (hw _ (List.mem_of_getElem? (i := 23) rfl))⟩)
  have hne : wA ≠ wS := own_ord_ne evA evS m3 m4 (by decide)
  obtain ⟨n, o, h1, h2, h3, _, L, rfl, ⟨rfl, N⟩, hq⟩ := rm0 l s _ hw tables_1 i0 wA wS s.heap s.heap.size (Nat.le_refl _) (Old.start s) Sa St hne p e ha hc hk s m _ below hf ((Spec.applies_iff_loose hf).mp happ).1 ⟨rfl, State.Warmed39.refl s, rfl⟩ trivial
  refine ⟨n, _, h1, h2, h3, hpost _ _ _ _ _ _ ⟨Cond.after_iff.mpr rfl, Cond.after_iff.mpr (eq_i res_at (Term.int_eval (1)) rfl), trivial⟩ ⟨hq.1, hq.2.1, (hq.2.2.sift fun y hy => Or.inr (N y hy)).mono (by decide) (by decide)⟩⟩
theorem main_1_1 : Claimed_1_1 := comes_1 fun _ _ _ _ _ _ h hF => ⟨h.1, hF⟩
theorem main_1_2 : Claimed_1_2 := comes_1 fun _ _ _ _ _ _ h hF => ⟨h.2.1, hF⟩
end Jvm.Pilot.@@N@@
namespace Jvm.Pilot.@@N@@
open Jvm Jvm.ClassFile Sem Op Lib Jvm.Free Jvm.Stand Jvm.Pilot.@@N@@.Jvm.D
/-! MADE BY PROGRAM (witnessworld.py) out of the Statement's table words and the real class files: 13 classes; the members and pool entries that the words name. The judged class is class 1, her method 1. -/
namespace start1
open Jvm.ClassFile
def u (s : String) : CpInfo := .utf8 (stringToUtf16 s)
/-- a pool by its gaps: so many unusable entries, then the entry; so many at the end -/
def gap : Nat → List CpInfo → List CpInfo
  | 0, r => r
  | n + 1, r => .unusable :: gap n r
def poolList (es : List (Nat × CpInfo)) (last : Nat) : List CpInfo := es.foldr (fun e r => gap e.1 (e.2 :: r)) (gap last [])
def pool (es : List (Nat × CpInfo)) (last : Nat) : Array CpInfo := ⟨poolList es last⟩
def fileOf (pool : Array CpInfo) (this : Nat) (attrs : Array Attribute := #[]) (ms : Array MethodInfo := #[]) (fl : Nat := 33) (sup : Nat := 0) (ifs : Array Nat := #[]) (fds : Array FieldInfo := #[]) : ClassFile where
  minorVersion := 0
  majorVersion := 65
  constantPool := pool
  accessFlags := fl
  thisClass := this
  superClass := sup
  interfaces := ifs
  fields := fds
  methods := ms
  attributes := attrs
def plain (name : String) (sup : Option ClassId) : Class where
  name := name
  kind := .ordinary
  loader := none
  accessFlags := 33
  super := sup
  interfaces := #[]
  cf := none
  fields := #[]
  methods := #[]
  instanceTypes := #[]
  staticTypes := #[]
  resolved := #[]
  callSites := []
  init := .initialized
  statics := none
  mirror := none

def pool0 : Array CpInfo := pool [(5, u "<init>"), (0, u "()V"), (1, .class_ 10), (1, u "java/lang/Object")] 113

def k0c0 : Code := { maxStack := 0, maxLocals := 1, code := object_method_1_code, exceptionTable := #[], attributes := #[] }
def k0m0 : Method := { name := "<init>", desc := "()V", sig := { parameters := [], returnType := none }, accessFlags := 1, code := some k0c0 }
/-- java/lang/Object -/
def k0 : Class := { plain "java/lang/Object" none with
  accessFlags := 33
  interfaces := #[]
  cf := some (fileOf pool0 8 #[] #[{ accessFlags := 1, nameIndex := 5, descriptorIndex := 6, attributes := #[] }] 33 0 #[] #[])
  fields := #[]
  methods := #[k0m0]
  instanceTypes := #[]
  staticTypes := #[]
  resolved := Array.replicate 124 none
  statics := none }

def pool1 : Array CpInfo := pool [(2, .class_ 4), (1, u "java/lang/Object"), (0, u "<init>"), (0, u "()V"), (0, .methodref 8 9), (0, .class_ 10), (0, .nameAndType 11 12), (0, u "com/example/atomic_receipt/atomicreceipt/store/ReceiptStore$Fence"), (0, u "accepted"), (0, u "()Lcom/example/atomic_receipt/atomicreceipt/store/ReceiptStore$Fence;"), (0, .methodref 8 14), (0, .nameAndType 15 16), (0, u "stale"), (0, u "(J)Lcom/example/atomic_receipt/atomicreceipt/store/ReceiptStore$Fence;"), (0, .methodref 8 18), (0, .nameAndType 19 20), (0, u "kind"), (0, u "()Lcom/example/atomic_receipt/atomicreceipt/store/ReceiptStore$Fence$Kind;"), (0, .fieldref 22 23), (0, .class_ 24), (0, .nameAndType 25 26), (0, u "com/example/atomic_receipt/atomicreceipt/store/ReceiptStore$Fence$Kind"), (0, u "ACCEPTED"), (0, u "Lcom/example/atomic_receipt/atomicreceipt/store/ReceiptStore$Fence$Kind;"), (0, .fieldref 22 28), (0, .nameAndType 29 26), (0, u "STALE"), (0, .methodref 8 31), (0, .nameAndType 32 33), (0, u "highest"), (0, u "()J"), (0, .class_ 35), (0, u "com/example/atomic_receipt/atomicreceipt/store/FenceAcceptedPinLaw"), (2, u "law"), (0, u "(J)Z")] 8

def k1m0 : Method := { name := "<init>", desc := "()V", sig := { parameters := [], returnType := none }, accessFlags := 2, code := none }
def k1c1 : Code := { maxStack := 4, maxLocals := 8, code := code, exceptionTable := #[], attributes := #[] }
def k1m1 : Method := { name := "law", desc := "(J)Z", sig := { parameters := [.long], returnType := some .boolean }, accessFlags := 9, code := some k1c1 }
/-- com/example/atomic_receipt/atomicreceipt/store/FenceAcceptedPinLaw -/
def k1 : Class := { plain "com/example/atomic_receipt/atomicreceipt/store/FenceAcceptedPinLaw" (some 0) with
  accessFlags := 49
  interfaces := #[]
  cf := some (fileOf pool1 34 #[] #[{ accessFlags := 2, nameIndex := 5, descriptorIndex := 6, attributes := #[] }, { accessFlags := 9, nameIndex := 38, descriptorIndex := 39, attributes := #[] }] 49 2 #[] #[])
  fields := #[]
  methods := #[k1m0, k1m1]
  instanceTypes := #[]
  staticTypes := #[]
  resolved := Array.replicate 48 none
  statics := none }

def pool2 : Array CpInfo := pool [(1, .methodref 2 3), (0, .class_ 4), (0, .nameAndType 5 6), (0, u "java/lang/Object"), (0, u "<init>"), (0, u "()V"), (0, .fieldref 8 9), (0, .class_ 10), (0, .nameAndType 11 12), (0, u "com/example/atomic_receipt/atomicreceipt/store/ReceiptStore$Fence"), (0, u "kind"), (0, u "Lcom/example/atomic_receipt/atomicreceipt/store/ReceiptStore$Fence$Kind;"), (0, .fieldref 8 14), (0, .nameAndType 15 16), (0, u "highest"), (0, u "J"), (0, .fieldref 18 19), (0, .class_ 20), (0, .nameAndType 21 12), (0, u "com/example/atomic_receipt/atomicreceipt/store/ReceiptStore$Fence$Kind"), (0, u "ACCEPTED"), (0, .methodref 8 23), (0, .nameAndType 5 24), (0, u "(Lcom/example/atomic_receipt/atomicreceipt/store/ReceiptStore$Fence$Kind;J)V"), (0, .fieldref 18 26), (0, .nameAndType 27 12), (0, u "STALE"), (22, u "accepted"), (0, u "()Lcom/example/atomic_receipt/atomicreceipt/store/ReceiptStore$Fence;"), (0, u "stale"), (0, u "(J)Lcom/example/atomic_receipt/atomicreceipt/store/ReceiptStore$Fence;"), (3, u "()Lcom/example/atomic_receipt/atomicreceipt/store/ReceiptStore$Fence$Kind;"), (0, u "()J"), (3, .class_ 63), (0, u "com/example/atomic_receipt/atomicreceipt/store/ReceiptStore")] 17

def k2c0 : Code := { maxStack := 3, maxLocals := 4, code := prog_19_method_1_code, exceptionTable := #[], attributes := #[] }
def k2m0 : Method := { name := "<init>", desc := "(Lcom/example/atomic_receipt/atomicreceipt/store/ReceiptStore$Fence$Kind;J)V", sig := { parameters := [(.object "com/example/atomic_receipt/atomicreceipt/store/ReceiptStore$Fence$Kind"), .long], returnType := none }, accessFlags := 2, code := some k2c0 }
def k2c1 : Code := { maxStack := 5, maxLocals := 0, code := prog_19_method_2_code, exceptionTable := #[], attributes := #[] }
def k2m1 : Method := { name := "accepted", desc := "()Lcom/example/atomic_receipt/atomicreceipt/store/ReceiptStore$Fence;", sig := { parameters := [], returnType := some (.object "com/example/atomic_receipt/atomicreceipt/store/ReceiptStore$Fence") }, accessFlags := 9, code := some k2c1 }
def k2c2 : Code := { maxStack := 5, maxLocals := 2, code := prog_19_method_3_code, exceptionTable := #[], attributes := #[] }
def k2m2 : Method := { name := "stale", desc := "(J)Lcom/example/atomic_receipt/atomicreceipt/store/ReceiptStore$Fence;", sig := { parameters := [.long], returnType := some (.object "com/example/atomic_receipt/atomicreceipt/store/ReceiptStore$Fence") }, accessFlags := 9, code := some k2c2 }
def k2c3 : Code := { maxStack := 1, maxLocals := 1, code := prog_19_method_5_code, exceptionTable := #[], attributes := #[] }
def k2m3 : Method := { name := "kind", desc := "()Lcom/example/atomic_receipt/atomicreceipt/store/ReceiptStore$Fence$Kind;", sig := { parameters := [], returnType := some (.object "com/example/atomic_receipt/atomicreceipt/store/ReceiptStore$Fence$Kind") }, accessFlags := 1, code := some k2c3 }
def k2c4 : Code := { maxStack := 3, maxLocals := 1, code := prog_19_method_6_code, exceptionTable := #[], attributes := #[] }
def k2m4 : Method := { name := "highest", desc := "()J", sig := { parameters := [], returnType := some .long }, accessFlags := 1, code := some k2c4 }
/-- com/example/atomic_receipt/atomicreceipt/store/ReceiptStore$Fence -/
def k2 : Class := { plain "com/example/atomic_receipt/atomicreceipt/store/ReceiptStore$Fence" (some 0) with
  accessFlags := 33
  interfaces := #[]
  cf := some (fileOf pool2 8 #[.nestHost 62] #[{ accessFlags := 2, nameIndex := 5, descriptorIndex := 24, attributes := #[] }, { accessFlags := 9, nameIndex := 50, descriptorIndex := 51, attributes := #[] }, { accessFlags := 9, nameIndex := 52, descriptorIndex := 53, attributes := #[] }, { accessFlags := 1, nameIndex := 11, descriptorIndex := 57, attributes := #[] }, { accessFlags := 1, nameIndex := 15, descriptorIndex := 58, attributes := #[] }] 33 2 #[] #[{ accessFlags := 18, nameIndex := 11, descriptorIndex := 12, attributes := #[] }, { accessFlags := 18, nameIndex := 15, descriptorIndex := 16, attributes := #[] }])
  fields := #[{ name := "kind", type := (.object "com/example/atomic_receipt/atomicreceipt/store/ReceiptStore$Fence$Kind"), accessFlags := 18, slot := 0, constantValue := 0 }, { name := "highest", type := .long, accessFlags := 18, slot := 1, constantValue := 0 }]
  methods := #[k2m0, k2m1, k2m2, k2m3, k2m4]
  instanceTypes := #[(.object "com/example/atomic_receipt/atomicreceipt/store/ReceiptStore$Fence$Kind"), .long]
  staticTypes := #[]
  resolved := Array.replicate 81 none
  statics := none }

def pool3 : Array CpInfo := pool [(1, .class_ 2), (0, u "java/lang/constant/Constable"), (0, .class_ 4), (0, u "java/lang/Object")] 6

/-- java/lang/constant/Constable -/
def k3 : Class := { plain "java/lang/constant/Constable" (some 0) with
  accessFlags := 1537
  interfaces := #[]
  cf := some (fileOf pool3 1 #[] #[] 1537 3 #[] #[])
  fields := #[]
  methods := #[]
  instanceTypes := #[]
  staticTypes := #[]
  resolved := Array.replicate 11 none
  statics := none }

def pool4 : Array CpInfo := pool [(1, .class_ 2), (0, u "java/lang/Comparable"), (0, .class_ 4), (0, u "java/lang/Object")] 7

/-- java/lang/Comparable -/
def k4 : Class := { plain "java/lang/Comparable" (some 0) with
  accessFlags := 1537
  interfaces := #[]
  cf := some (fileOf pool4 1 #[] #[] 1537 3 #[] #[])
  fields := #[]
  methods := #[]
  instanceTypes := #[]
  staticTypes := #[]
  resolved := Array.replicate 12 none
  statics := none }

def pool5 : Array CpInfo := pool [(1, .class_ 2), (0, u "java/io/Serializable"), (0, .class_ 4), (0, u "java/lang/Object")] 2

/-- java/io/Serializable -/
def k5 : Class := { plain "java/io/Serializable" (some 0) with
  accessFlags := 1537
  interfaces := #[]
  cf := some (fileOf pool5 1 #[] #[] 1537 3 #[] #[])
  fields := #[]
  methods := #[]
  instanceTypes := #[]
  staticTypes := #[]
  resolved := Array.replicate 7 none
  statics := none }

def pool6 : Array CpInfo := pool [(2, .class_ 4), (1, u "java/lang/Enum"), (0, u "name"), (0, u "Ljava/lang/String;"), (2, u "ordinal"), (0, u "I"), (1, .class_ 14), (1, u "java/lang/Object"), (4, u "hash"), (86, .class_ 108), (1, u "java/lang/Enum$EnumDesc"), (2, .class_ 112), (0, u "java/lang/constant/Constable"), (0, .class_ 114), (0, u "java/lang/Comparable"), (0, .class_ 116), (0, u "java/io/Serializable")] 87

/-- java/lang/Enum -/
def k6 : Class := { plain "java/lang/Enum" (some 0) with
  accessFlags := 1057
  interfaces := #[3, 4, 5]
  cf := some (fileOf pool6 2 #[.nestMembers #[106]] #[] 1057 12 #[111, 113, 115] #[{ accessFlags := 18, nameIndex := 5, descriptorIndex := 6, attributes := #[] }, { accessFlags := 18, nameIndex := 9, descriptorIndex := 10, attributes := #[] }, { accessFlags := 2, nameIndex := 19, descriptorIndex := 10, attributes := #[] }])
  fields := #[{ name := "name", type := (.object "java/lang/String"), accessFlags := 18, slot := 0, constantValue := 0 }, { name := "ordinal", type := .int, accessFlags := 18, slot := 1, constantValue := 0 }, { name := "hash", type := .int, accessFlags := 2, slot := 2, constantValue := 0 }]
  methods := #[]
  instanceTypes := #[(.object "java/lang/String"), .int, .int]
  staticTypes := #[]
  resolved := Array.replicate 204 none
  statics := none }

def pool7 : Array CpInfo := pool [(1, .class_ 2), (0, u "com/example/atomic_receipt/atomicreceipt/store/ReceiptStore$Fence$Kind"), (2, u "ACCEPTED"), (0, u "Lcom/example/atomic_receipt/atomicreceipt/store/ReceiptStore$Fence$Kind;"), (2, u "STALE"), (2, u "IN_FLIGHT"), (2, u "CLAIM_AGAIN"), (2, u "$VALUES"), (0, u "[Lcom/example/atomic_receipt/atomicreceipt/store/ReceiptStore$Fence$Kind;"), (6, .class_ 28), (1, u "java/lang/Enum"), (27, .class_ 57), (0, u "com/example/atomic_receipt/atomicreceipt/store/ReceiptStore")] 5

/-- com/example/atomic_receipt/atomicreceipt/store/ReceiptStore$Fence$Kind -/
def k7 : Class := { plain "com/example/atomic_receipt/atomicreceipt/store/ReceiptStore$Fence$Kind" (some 6) with
  accessFlags := 16433
  interfaces := #[]
  cf := some (fileOf pool7 1 #[.nestHost 56] #[] 16433 26 #[] #[{ accessFlags := 16409, nameIndex := 5, descriptorIndex := 6, attributes := #[] }, { accessFlags := 16409, nameIndex := 9, descriptorIndex := 6, attributes := #[] }, { accessFlags := 16409, nameIndex := 12, descriptorIndex := 6, attributes := #[] }, { accessFlags := 16409, nameIndex := 15, descriptorIndex := 6, attributes := #[] }, { accessFlags := 4122, nameIndex := 18, descriptorIndex := 19, attributes := #[] }])
  fields := #[{ name := "ACCEPTED", type := (.object "com/example/atomic_receipt/atomicreceipt/store/ReceiptStore$Fence$Kind"), accessFlags := 16409, slot := 0, constantValue := 0 }, { name := "STALE", type := (.object "com/example/atomic_receipt/atomicreceipt/store/ReceiptStore$Fence$Kind"), accessFlags := 16409, slot := 1, constantValue := 0 }, { name := "IN_FLIGHT", type := (.object "com/example/atomic_receipt/atomicreceipt/store/ReceiptStore$Fence$Kind"), accessFlags := 16409, slot := 2, constantValue := 0 }, { name := "CLAIM_AGAIN", type := (.object "com/example/atomic_receipt/atomicreceipt/store/ReceiptStore$Fence$Kind"), accessFlags := 16409, slot := 3, constantValue := 0 }, { name := "$VALUES", type := (.array (.object "com/example/atomic_receipt/atomicreceipt/store/ReceiptStore$Fence$Kind")), accessFlags := 4122, slot := 4, constantValue := 0 }]
  methods := #[]
  instanceTypes := #[(.object "java/lang/String"), .int, .int]
  staticTypes := #[(.object "com/example/atomic_receipt/atomicreceipt/store/ReceiptStore$Fence$Kind"), (.object "com/example/atomic_receipt/atomicreceipt/store/ReceiptStore$Fence$Kind"), (.object "com/example/atomic_receipt/atomicreceipt/store/ReceiptStore$Fence$Kind"), (.object "com/example/atomic_receipt/atomicreceipt/store/ReceiptStore$Fence$Kind"), (.array (.object "com/example/atomic_receipt/atomicreceipt/store/ReceiptStore$Fence$Kind"))]
  resolved := Array.replicate 63 none
  statics := some 0 }

def pool8 : Array CpInfo := pool [(1, u "java/lang/Cloneable"), (0, .class_ 1), (0, u "java/lang/Object"), (0, .class_ 3)] 3

/-- java/lang/Cloneable -/
def k8 : Class := { plain "java/lang/Cloneable" (some 0) with
  accessFlags := 1537
  interfaces := #[]
  cf := some (fileOf pool8 2 #[] #[] 1537 4 #[] #[])
  fields := #[]
  methods := #[]
  instanceTypes := #[]
  staticTypes := #[]
  resolved := Array.replicate 8 none
  statics := none }

/-- the primitive byte -/
def k9 : Class := { plain "byte" none with kind := .primitive 'B', accessFlags := 0x411 }
/-- [B -/
def k10 : Class := { plain "[B" (some 0) with kind := .array 9 .byte, interfaces := #[8, 5], accessFlags := 1041 }

/-- the primitive int -/
def k11 : Class := { plain "int" none with kind := .primitive 'I', accessFlags := 0x411 }
/-- [I -/
def k12 : Class := { plain "[I" (some 0) with kind := .array 11 .int, interfaces := #[8, 5], accessFlags := 1041 }

def heap : Heap := #[{ cls := 7, slots := #[.ref 1, .ref 2, .null, .null, .null], vm := .statics 7 },
  { cls := 7, slots := #[.null, .int 0, .int 0], vm := .none },
  { cls := 7, slots := #[.null, .int 1, .int 0], vm := .none }]
def classes : Array Class := #[k0, k1, k2, k3, k4, k5, k6, k7, k8, k9, k10, k11, k12]
def interned : List (Array UInt16 × Addr) := []
def slotsUsed : Nat := 11
def theMethod : MethodId := ⟨1, 1⟩
def args0 : Array Value := #[.long 5]
def aboutOver (below : List Frame) : State where
  vm := { classes := classes, interned := interned.toArray }
  heap := heap
  slotsUsed := slotsUsed
  threads := #[{ frames := .invoking theMethod args0 :: below }]
def below0 : List Frame := [.native { method := ⟨0, 0⟩, args := #[] }]
def about1 : State := aboutOver below0
def p0 : Program := .bare "" "" ""
def e0 : Env := launch0.env 0 0 0
theorem w_frames : about1.frames = Frame.invoking theMethod args0 :: below0 := rfl
set_option maxRecDepth 65536 in
theorem w_args : argsFit about1.vm theMethod args0 = true := by decide +kernel
set_option maxRecDepth 65536 in
theorem w_heap : heapFits about1 = true := by decide +kernel
set_option maxRecDepth 65536 in
theorem w_runnable : about1.curStatus? = some .runnable := by decide +kernel
set_option maxRecDepth 65536 in
theorem w_alone : about1.alone = true := by decide +kernel
set_option maxRecDepth 65536 in
theorem w_named : about1.methodNamed? x = some theMethod := by decide +kernel
set_option maxRecDepth 65536 in
theorem w_hears : about1.hears theMethod below0 = true := by decide +kernel
set_option maxRecDepth 65536 in
theorem w_ripe : about1.ripe theMethod args0 below0 = true := by decide +kernel
theorem w_running : about1.status = .running := rfl
set_option maxRecDepth 65536 in
theorem w_room : about1.hasRoom e0.platform room_1 = true :=
  launch0.hasRoom_least _ room_1 (by decide +kernel) (by decide +kernel) (by decide +kernel) (by decide +kernel) (by decide +kernel) (by decide +kernel)
theorem allAtoms_all (ts : List Jvm.Cond) (a : Array Jvm.Value) (st : Jvm.State) : (allAtoms ts).before a st = ts.all (fun c => c.before a st) := by
  induction ts with
  | nil => rfl
  | cons c t ih =>
    show (Jvm.Cond.and c (allAtoms t)).before a st = _
    rw [Jvm.Cond.before_and, ih, List.all_cons]
def words1 : List Jvm.Cond := Jvm.Cond.code x code maxLocals ret :: tables_1
/-- a 'code' word, met by the world's own term for the bytes: nothing is compared byte by byte -/
theorem code_word {y : MethodName} {bytes : ByteArray} {mx : Nat} {rt : Option FieldType} {a : Array Value} {s : State} {m : MethodId} {meth : Method} {c : Code} (h1 : s.methodNamed? y = some m) (h2 : s.vm.method? m = some meth) (h3 : meth.code = some c) (h4 : c.code = bytes)
    (h5 : (c.maxLocals == mx && c.exceptionTable.isEmpty && decide (c.maxStack ≤ mostOperands) && decide (meth.sig.returnType = rt) && !meth.locks && decide (parseMethodDescriptor y.desc = some meth.sig)) = true) : (Jvm.Cond.code y bytes mx rt).before a s = true := by
  simp only [Bool.and_eq_true, beq_iff_eq, Bool.not_eq_true', decide_eq_true_eq] at h5
  obtain ⟨⟨⟨⟨⟨g1, g2⟩, g3⟩, g4⟩, g5⟩, g6⟩ := h5
  simp [Cond.before, Cond.holds, Cond.value, h1, h2, h3, h4, g1, g2, g3, g4, g5, g6]
def isCode : Jvm.Cond → Bool
  | .code _ _ _ _ => true
  | _ => false
theorem all_split {L : List Jvm.Cond} {P : Jvm.Cond → Bool} (h1 : L.all (fun c => isCode c || P c) = true) (h2 : ∀ c ∈ L.filter isCode, P c = true) : L.all P = true := by
  refine List.all_eq_true.mpr fun c hc => ?_
  have h := List.all_eq_true.mp h1 c hc
  rcases Bool.eq_false_or_eq_true (isCode c) with hi | hi
  · exact h2 c (List.mem_filter.mpr ⟨hc, hi⟩)
  · simpa [hi] using h
set_option maxRecDepth 65536 in
theorem w_c0 : (Jvm.Cond.code x code maxLocals ret).before args0 about1 = true := code_word (m := ⟨1, 1⟩) (meth := k1m1) (c := k1c1) (by decide +kernel) rfl rfl rfl (by decide +kernel)
set_option maxRecDepth 65536 in
theorem w_c1 : (Jvm.Cond.code ({ cls := "com/example/atomic_receipt/atomicreceipt/store/ReceiptStore$Fence", name := "accepted", desc := "()Lcom/example/atomic_receipt/atomicreceipt/store/ReceiptStore$Fence;" } : Jvm.MethodName) prog_19_method_2_code (0 : Nat) (Option.some (Jvm.ClassFile.FieldType.object "com/example/atomic_receipt/atomicreceipt/store/ReceiptStore$Fence"))).before args0 about1 = true := code_word (m := ⟨2, 1⟩) (meth := k2m1) (c := k2c1) (by decide +kernel) rfl rfl rfl (by decide +kernel)
set_option maxRecDepth 65536 in
theorem w_c2 : (Jvm.Cond.code ({ cls := "com/example/atomic_receipt/atomicreceipt/store/ReceiptStore$Fence", name := "<init>", desc := "(Lcom/example/atomic_receipt/atomicreceipt/store/ReceiptStore$Fence$Kind;J)V" } : Jvm.MethodName) prog_19_method_1_code (4 : Nat) (Option.none : Option Jvm.ClassFile.FieldType)).before args0 about1 = true := code_word (m := ⟨2, 0⟩) (meth := k2m0) (c := k2c0) (by decide +kernel) rfl rfl rfl (by decide +kernel)
set_option maxRecDepth 65536 in
theorem w_c3 : (Jvm.Cond.code ({ cls := "java/lang/Object", name := "<init>", desc := "()V" } : Jvm.MethodName) object_method_1_code (1 : Nat) (Option.none : Option Jvm.ClassFile.FieldType)).before args0 about1 = true := code_word (m := ⟨0, 0⟩) (meth := k0m0) (c := k0c0) (by decide +kernel) rfl rfl rfl (by decide +kernel)
set_option maxRecDepth 65536 in
theorem w_c4 : (Jvm.Cond.code ({ cls := "com/example/atomic_receipt/atomicreceipt/store/ReceiptStore$Fence", name := "stale", desc := "(J)Lcom/example/atomic_receipt/atomicreceipt/store/ReceiptStore$Fence;" } : Jvm.MethodName) prog_19_method_3_code (2 : Nat) (Option.some (Jvm.ClassFile.FieldType.object "com/example/atomic_receipt/atomicreceipt/store/ReceiptStore$Fence"))).before args0 about1 = true := code_word (m := ⟨2, 2⟩) (meth := k2m2) (c := k2c2) (by decide +kernel) rfl rfl rfl (by decide +kernel)
set_option maxRecDepth 65536 in
theorem w_c5 : (Jvm.Cond.code ({ cls := "com/example/atomic_receipt/atomicreceipt/store/ReceiptStore$Fence", name := "kind", desc := "()Lcom/example/atomic_receipt/atomicreceipt/store/ReceiptStore$Fence$Kind;" } : Jvm.MethodName) prog_19_method_5_code (1 : Nat) (Option.some (Jvm.ClassFile.FieldType.object "com/example/atomic_receipt/atomicreceipt/store/ReceiptStore$Fence$Kind"))).before args0 about1 = true := code_word (m := ⟨2, 3⟩) (meth := k2m3) (c := k2c3) (by decide +kernel) rfl rfl rfl (by decide +kernel)
set_option maxRecDepth 65536 in
theorem w_c6 : (Jvm.Cond.code ({ cls := "com/example/atomic_receipt/atomicreceipt/store/ReceiptStore$Fence", name := "highest", desc := "()J" } : Jvm.MethodName) prog_19_method_6_code (1 : Nat) (Option.some Jvm.ClassFile.FieldType.long)).before args0 about1 = true := code_word (m := ⟨2, 4⟩) (meth := k2m4) (c := k2c4) (by decide +kernel) rfl rfl rfl (by decide +kernel)
def codes1 : List Jvm.Cond := [Jvm.Cond.code x code maxLocals ret, Jvm.Cond.code ({ cls := "com/example/atomic_receipt/atomicreceipt/store/ReceiptStore$Fence", name := "accepted", desc := "()Lcom/example/atomic_receipt/atomicreceipt/store/ReceiptStore$Fence;" } : Jvm.MethodName) prog_19_method_2_code (0 : Nat) (Option.some (Jvm.ClassFile.FieldType.object "com/example/atomic_receipt/atomicreceipt/store/ReceiptStore$Fence")), Jvm.Cond.code ({ cls := "com/example/atomic_receipt/atomicreceipt/store/ReceiptStore$Fence", name := "<init>", desc := "(Lcom/example/atomic_receipt/atomicreceipt/store/ReceiptStore$Fence$Kind;J)V" } : Jvm.MethodName) prog_19_method_1_code (4 : Nat) (Option.none : Option Jvm.ClassFile.FieldType), Jvm.Cond.code ({ cls := "java/lang/Object", name := "<init>", desc := "()V" } : Jvm.MethodName) object_method_1_code (1 : Nat) (Option.none : Option Jvm.ClassFile.FieldType), Jvm.Cond.code ({ cls := "com/example/atomic_receipt/atomicreceipt/store/ReceiptStore$Fence", name := "stale", desc := "(J)Lcom/example/atomic_receipt/atomicreceipt/store/ReceiptStore$Fence;" } : Jvm.MethodName) prog_19_method_3_code (2 : Nat) (Option.some (Jvm.ClassFile.FieldType.object "com/example/atomic_receipt/atomicreceipt/store/ReceiptStore$Fence")), Jvm.Cond.code ({ cls := "com/example/atomic_receipt/atomicreceipt/store/ReceiptStore$Fence", name := "kind", desc := "()Lcom/example/atomic_receipt/atomicreceipt/store/ReceiptStore$Fence$Kind;" } : Jvm.MethodName) prog_19_method_5_code (1 : Nat) (Option.some (Jvm.ClassFile.FieldType.object "com/example/atomic_receipt/atomicreceipt/store/ReceiptStore$Fence$Kind")), Jvm.Cond.code ({ cls := "com/example/atomic_receipt/atomicreceipt/store/ReceiptStore$Fence", name := "highest", desc := "()J" } : Jvm.MethodName) prog_19_method_6_code (1 : Nat) (Option.some Jvm.ClassFile.FieldType.long)]
set_option maxRecDepth 65536 in
theorem codes_eq : words1.filter isCode = codes1 := rfl
theorem w_codes : ∀ c ∈ words1.filter isCode, c.before args0 about1 = true := by
  rw [codes_eq]
  intro c hc
  simp only [codes1, List.mem_cons, List.not_mem_nil, or_false] at hc
  rcases hc with rfl | rfl | rfl | rfl | rfl | rfl | rfl
  · exact w_c0
  · exact w_c1
  · exact w_c2
  · exact w_c3
  · exact w_c4
  · exact w_c5
  · exact w_c6
set_option maxRecDepth 65536 in
theorem w_t1 : (words1.take 24).all (fun c => isCode c || c.before args0 about1) = true := by decide +kernel
set_option maxRecDepth 65536 in
theorem w_t2 : (words1.drop 24).all (fun c => isCode c || c.before args0 about1) = true := by decide +kernel
theorem w_tables : (allAtoms (Jvm.Cond.code x code maxLocals ret :: tables_1)).before args0 about1 = true := by
  rw [allAtoms_all]
  show words1.all (fun c => c.before args0 about1) = true
  refine all_split ?_ w_codes
  rw [← List.take_append_drop 24 words1, List.all_append, w_t1, w_t2]
  rfl
set_option maxRecDepth 65536 in
theorem w_case : (Jvm.Cond.and given_1 narrow_1).before args0 about1 = true := by decide +kernel
theorem w_applies : (headSpec (Jvm.Cond.code x code maxLocals ret :: tables_1) room_1).applies x e0.platform about1 = true :=
  (Spec.applies_iff w_frames).mpr ⟨w_running, w_runnable, w_alone, w_named, w_hears, w_ripe, w_room, w_tables⟩
theorem atStart : AtStart classFile x code maxLocals ret World_1 tables_1 room_1 Calls_1 rest_1 Pre_1 launch0 p0 e0 about1 theMethod args0 below0 :=
  ⟨lists_1, trivial, launch0.admits_env _ _ _, launch0.least_env, fairChoices_fair.cas, fairChoices_fair.clock, w_frames, w_args, w_heap, w_applies, trivial, trivial, w_case⟩
end start1
theorem witness_1 : WitnessClaimed_1 := ⟨start1.p0, start1.e0, start1.about1, start1.theMethod, start1.args0, start1.below0, start1.atStart⟩
end Jvm.Pilot.@@N@@
