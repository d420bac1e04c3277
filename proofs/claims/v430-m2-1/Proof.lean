import JvmDerived
import JvmDerived.Pilot.@@N@@Statement
import JvmDerived.Pilot.@@N@@Code
set_option linter.unusedVariables false
set_option linter.unusedSimpArgs false
namespace Jvm.Pilot.@@N@@
open Jvm Jvm.ClassFile Sem Op Lib Jvm.Free Jvm.Stand Jvm.LawKit Jvm.RoadKit Bundle Jvm.Pilot.@@N@@.Jvm.D
/-! the walk's goal in continuation style -/
def own_Ends (p : Program) (e : Env) (below : List Frame) (s : State) (Q : Option Value → Heap → List Loc → Prop) (k n : Nat) (t : State) : Prop :=
  ∃ s₂ o, Steps p.tables e below t s₂ ∧ s₂.status = .running ∧ Ended s₂ below o ∧ ∃ v L, o = .returned v ∧ Q v s₂.heap L ∧ FrameEnd s o s₂ L k n
section OwnEnds
variable {p : Program} {l : Launch} {e : Env} {R : Room} {s : State} {m : MethodId} {args : Array Value} {below : List Frame} {meth : Method} {c : Code} {T : State} {locs : List Loc} {cells slots : Nat} {Q : Option Value → Heap → List Loc → Prop} {k n : Nat}
theorem own_go {t t' : State} (h : ∀ u, Steps p.tables e below t' u → Steps p.tables e below t u) (g : own_Ends p e below s Q k n t') : own_Ends p e below s Q k n t := by
  obtain ⟨s₂, o, h1, h2⟩ := g
  exact ⟨s₂, o, h _ h1, h2⟩
theorem own_retN (X : Stand p l e R s m args below meth c T locs cells slots) (hx : p.tables.exec = Jvm.exec) {pc : Nat} {Ls : Array Slot} {z w : Int32} {t : FieldType} {rest : List Value} (hret : meth.sig.returnType = some t) (ht : t = .boolean ∨ t = .byte ∨ t = .char ∨ t = .short)
    (hd : decode c.code pc = .ok (.ireturn, 1)) (hlk : meth.locks = false) (hz : nar t z = w) (hQ : Q (some (.int w)) T.heap locs) (hk : cells ≤ k) (hn : slots ≤ n) : own_Ends p e below s Q k n (T.setTop (mkF m pc Ls (.int z :: rest))) := by
  subst hz
  obtain ⟨fs, hr, hrun, hended, hW, hsame⟩ := X.leave (v := some (.int (nar t z))) (fun h => by rw [hret] at h; cases h) hlk
  exact ⟨_, _, retN X hx hret ht hd hr, hrun, hended, _, _, rfl, hQ, ⟨_, rfl⟩, hW, hsame.mono hk hn⟩
theorem own_ret (X : Stand p l e R s m args below meth c T locs cells slots) (hx : p.tables.exec = Jvm.exec) {pc : Nat} {Ls : Array Slot} {w : Value} {t : FieldType} {i : Instr} {rest : List Value} (hret : meth.sig.returnType = some t) (hn' : narrow t w = w)
    (hi : (i = .ireturn ∧ (t = .int ∨ t = .boolean ∨ t = .byte ∨ t = .char ∨ t = .short) ∧ ∃ z, w = .int z) ∨ (i = .lreturn ∧ t = .long ∧ ∃ z, w = .long z) ∨ (i = .dreturn ∧ t = .double ∧ ∃ z, w = .double z) ∨ (i = .freturn ∧ t = .float ∧ ∃ z, w = .float z) ∨ (i = .areturn ∧ t.isReference = true ∧ w.isRef = true))
    (hd : decode c.code pc = .ok (i, 1)) (hlk : meth.locks = false) (hQ : Q (some w) T.heap locs) (hk : cells ≤ k) (hn : slots ≤ n) : own_Ends p e below s Q k n (T.setTop (mkF m pc Ls (w :: rest))) := by
  obtain ⟨fs, hr, hrun, hended, hW, hsame⟩ := X.leave (v := some w) (fun h => by rw [hret] at h; cases h) hlk
  exact ⟨_, _, retOut X hx hret hn' hi hd hr, hrun, hended, _, _, rfl, hQ, ⟨_, rfl⟩, hW, hsame.mono hk hn⟩
theorem own_ret0 (X : Stand p l e R s m args below meth c T locs cells slots) (hx : p.tables.exec = Jvm.exec) {pc : Nat} {Ls : Array Slot} (hret : meth.sig.returnType = none)
    (hd : decode c.code pc = .ok (.return_, 1)) (hlk : meth.locks = false) (hQ : Q none T.heap locs) (hk : cells ≤ k) (hn : slots ≤ n) : own_Ends p e below s Q k n (T.setTop (mkF m pc Ls [])) := by
  obtain ⟨fs, hr, hrun, hended, hW, hsame⟩ := X.leave (v := none) (fun _ => rfl) hlk
  exact ⟨_, _, X.returnOut hx hret hd hr, hrun, hended, _, _, rfl, hQ, ⟨_, rfl⟩, hW, hsame.mono hk hn⟩
end OwnEnds
theorem pd_0 : parseMethodDescriptor "(I)Lcom/example/porthcurno/porthcurno/ConsumerLink$Kind;" = some ⟨[.int], some (.object "com/example/porthcurno/porthcurno/ConsumerLink$Kind")⟩ := by decide +kernel
theorem pd_1 : parseMethodDescriptor "(Lcom/example/porthcurno/porthcurno/ConsumerLink$Kind;J)V" = some ⟨[(.object "com/example/porthcurno/porthcurno/ConsumerLink$Kind"), .long], none⟩ := by decide +kernel
theorem pd_2 : parseMethodDescriptor "()V" = some ⟨[], none⟩ := by decide +kernel
theorem pd_3 : parseMethodDescriptor "(Lcom/example/porthcurno/porthcurno/ConsumerLink$Kind;)Lcom/example/porthcurno/porthcurno/ConsumerLink;" = some ⟨[(.object "com/example/porthcurno/porthcurno/ConsumerLink$Kind")], some (.object "com/example/porthcurno/porthcurno/ConsumerLink")⟩ := by decide +kernel
theorem pd_4 : parseMethodDescriptor "()J" = some ⟨[], some .long⟩ := by decide +kernel
theorem pd_5 : parseMethodDescriptor "()Lcom/example/porthcurno/porthcurno/ConsumerLink$Kind;" = some ⟨[], some (.object "com/example/porthcurno/porthcurno/ConsumerLink$Kind")⟩ := by decide +kernel
def own_t (p : Int32) : Int32 := (p &&& 2147483647) % 3
def own_kind (wC wA wK : Addr) (p : Int32) : Addr := if own_t p = 0 then wC else if own_t p = 1 then wA else wK
theorem own_n (x : Int64) : 1 ≤ ((x &&& 4611686018427387903) + 1).toInt ∧ ((x &&& 4611686018427387903) + 1).toInt ≤ 4611686018427387904 := by
  have h := c_maskL x 4611686018427387903 62 (by decide) (by decide)
  have h2 := c_ladd (x &&& 4611686018427387903) 1
  have e : (1 : Int64).toInt = 1 := by decide
  have h3 := rng64 ((x &&& 4611686018427387903) + 1)
  rw [e] at h2
  generalize ((x &&& 4611686018427387903) + 1).toInt = y at *
  generalize (x &&& 4611686018427387903).toInt = z at *
  omega
theorem own_a1 (n : Int64) : n + 1 - n = 1 := by
  rw [← Int64.toInt_inj]
  have h1 := c_ladd n 1
  have h2 := c_lsub (n + 1) n
  have h3 := rng64 (n + 1 - n)
  have e : (1 : Int64).toInt = 1 := by decide
  rw [e] at h1 ⊢
  omega
theorem own_a2 (n : Int64) : n + 1 + 1 - n = 2 := by
  rw [← Int64.toInt_inj]
  have h0 := c_ladd n 1
  have h1 := c_ladd (n + 1) 1
  have h2 := c_lsub (n + 1 + 1) n
  have h3 := rng64 (n + 1 + 1 - n)
  have e : (1 : Int64).toInt = 1 := by decide
  have e2 : (2 : Int64).toInt = 2 := by decide
  rw [e] at h0 h1
  rw [e2]
  omega
theorem own_lt (n : Int64) (h : 1 ≤ n.toInt ∧ n.toInt ≤ 4611686018427387904) : n < n + 1 := by
  rw [Int64.lt_iff_toInt_lt]
  have h0 := c_ladd n 1
  have h3 := rng64 (n + 1)
  have e : (1 : Int64).toInt = 1 := by decide
  rw [e] at h0
  omega
theorem d1_0 : decode method_2_code 0 = .ok (.iload_n 0, 1) := by decide +kernel
theorem d1_1 : decode method_2_code 1 = .ok (.ldc 7, 2) := by decide +kernel
theorem d1_3 : decode method_2_code 3 = .ok (.iand, 1) := by decide +kernel
theorem d1_4 : decode method_2_code 4 = .ok (.iconst 3, 1) := by decide +kernel
theorem d1_5 : decode method_2_code 5 = .ok (.irem, 1) := by decide +kernel
theorem d1_6 : decode method_2_code 6 = .ok (.istore_n 1, 1) := by decide +kernel
theorem d1_7 : decode method_2_code 7 = .ok (.iload_n 1, 1) := by decide +kernel
theorem d1_8 : decode method_2_code 8 = .ok (.ifCond .ne 7, 3) := by decide +kernel
theorem d1_11 : decode method_2_code 11 = .ok (.getstatic 8, 3) := by decide +kernel
theorem d1_14 : decode method_2_code 14 = .ok (.areturn, 1) := by decide +kernel
theorem d1_15 : decode method_2_code 15 = .ok (.iload_n 1, 1) := by decide +kernel
theorem d1_16 : decode method_2_code 16 = .ok (.iconst 1, 1) := by decide +kernel
theorem d1_17 : decode method_2_code 17 = .ok (.if_icmp .ne 7, 3) := by decide +kernel
theorem d1_20 : decode method_2_code 20 = .ok (.getstatic 14, 3) := by decide +kernel
theorem d1_23 : decode method_2_code 23 = .ok (.areturn, 1) := by decide +kernel
theorem d1_24 : decode method_2_code 24 = .ok (.getstatic 17, 3) := by decide +kernel
theorem d1_27 : decode method_2_code 27 = .ok (.areturn, 1) := by decide +kernel
theorem pn_0 : plainName "com/example/porthcurno/porthcurno/ConsumerLinkNextPinLaw" = true := by first | (simp [plainName, overriddenIn]; done) | decide +kernel
theorem ef_1 (m : MethodId) (x0 : Int32) : entryFrame m #[(.int x0)] 2 = mkF m 0 #[.val (.int x0), .unset] [] := by first | (simp [entryFrame, mkF, argsToLocals, Value.category]; done) | rfl
def Q1 (p1 : Int32) (wC wA wK : Addr) (h0 : Heap) (n0 : Nat) (Z : State) (v : Option Value) (h : Heap) (L : List Loc) : Prop := v = some (.ref (own_kind wC wA wK p1)) ∧ Fr n0 L ∧ h = h0
set_option maxRecDepth 65536 in
set_option maxHeartbeats 40000000 in
theorem rm1 (l : Launch) (Z : State) (a0 : Array Value) (hw : ∀ d ∈ tables_1, d.before a0 Z = true) (ws : List Jvm.Cond) (p1 : Int32) (wC wA wK : Addr) (h0 : Heap) (n0 : Nat) (Z0 : n0 ≤ h0.size) (O0 : Old Z n0 h0) (SwC : Sta Z Z.heap "com/example/porthcurno/porthcurno/ConsumerLink$Kind" "CONSUME_NEXT" "Lcom/example/porthcurno/porthcurno/ConsumerLink$Kind;" (.ref wC)) (SwA : Sta Z Z.heap "com/example/porthcurno/porthcurno/ConsumerLink$Kind" "ACKNOWLEDGE_NEXT" "Lcom/example/porthcurno/porthcurno/ConsumerLink$Kind;" (.ref wA)) (SwK : Sta Z Z.heap "com/example/porthcurno/porthcurno/ConsumerLink$Kind" "ACKNOWLEDGEMENT" "Lcom/example/porthcurno/porthcurno/ConsumerLink$Kind;" (.ref wK)) :
    MetFree l (⟨"com/example/porthcurno/porthcurno/ConsumerLinkNextPinLaw", "kindOf", "(I)Lcom/example/porthcurno/porthcurno/ConsumerLink$Kind;"⟩ : MethodName) (head1 (Jvm.Cond.code (⟨"com/example/porthcurno/porthcurno/ConsumerLinkNextPinLaw", "kindOf", "(I)Lcom/example/porthcurno/porthcurno/ConsumerLink$Kind;"⟩ : MethodName) method_2_code 2 (some (.object "com/example/porthcurno/porthcurno/ConsumerLink$Kind")) :: ws) ({ frames := 0, cells := 0, slots := 0, locals := 0 } : Room)) (fun a U => a = #[(.int p1)] ∧ Z.Warmed39 U.vm ∧ U.heap = h0) (fun _ _ _ _ _ => True) (fun _ U o U' => ∃ v L, o = .returned v ∧ Q1 p1 wC wA wK h0 n0 Z v U'.heap L ∧ FrameEnd U o U' L ({ frames := 0, cells := 0, slots := 0, locals := 0 } : Room).cells ({ frames := 0, cells := 0, slots := 0, locals := 0 } : Room).slots) := by
  refine MetFree.of_bodySF (plainFor_of_name pn_0) hisR ?_
  intro p e s m args below meth c s₁ Bd hml0 hP hK
  obtain ⟨rfl, hZ, hh⟩ := hP
  have hx := Bd.exec
  have hby := Bd.bytes
  have hml : c.maxLocals = 2 := hml0
  have hown : s.vm.findClass "com/example/porthcurno/porthcurno/ConsumerLinkNextPinLaw" = some m.cls := findClass_of_methodNamed Bd.named
  have hnm := (name_of_methodNamed Bd.named Bd.method).1
  have hlk := Bd.notSynchronized
  have hrt := Bd.returns
  have X0 : Stand p l e ({ frames := 0, cells := 0, slots := 0, locals := 0 } : Room) s m #[(.int p1)] below meth c s₁ [] 0 0 := Stand.of_body Bd
  have e0 : s₁.heap = h0 := by rw [← hh, Bd.state]; rfl
  have N0 := Fr.nil n0
  show own_Ends p e below s (Q1 p1 wC wA wK h0 n0 Z) ({ frames := 0, cells := 0, slots := 0, locals := 0 } : Room).cells ({ frames := 0, cells := 0, slots := 0, locals := 0 } : Room).slots (s₁.setTop (entryFrame m #[(.int p1)] 2))
  rw [ef_1]
  refine own_go (fun _ k => XS.iloadN X0.here hx rfl (hb hby d1_0) rfl <| X0.ldcI hx hown (mvT hZ (hw _ (List.mem_of_getElem? (i := 5) rfl))) rfl (hb hby d1_1) <| XS.iand X0.here hx rfl (hb hby d1_3) rfl <| XT.iconstV X0.here hx rfl (3 : Int32) (hb hby d1_4) rfl <| iremM X0 hx rfl (hb hby d1_5) rfl (by decide) <| k) ?_
  show own_Ends p e below s _ _ _ (s₁.setTop (mkF m 6 #[.val (.int p1), .unset] [(.int ((p1 &&& (2147483647 : Int32)) % (3 : Int32)))]))
  show own_Ends p e below s _ _ _ (s₁.setTop (mkF m 6 #[.val (.int p1), .unset] [(.int (own_t p1))]))
  refine own_go (fun _ k => XS.istoreN X0.here hx rfl (hb hby d1_6) rfl (l' := #[.val (.int p1), .val (.int (own_t p1))]) rfl <| XS.iloadN X0.here hx rfl (hb hby d1_7) rfl <| k) ?_
  show own_Ends p e below s _ _ _ (s₁.setTop (mkF m 8 #[.val (.int p1), .val (.int (own_t p1))] [(.int (own_t p1))]))
  by_cases hc8_1 : (own_t p1) = (0 : Int32)
  · -- true
    refine own_go (fun _ k => XS.ifNo X0.here hx rfl (hb hby d1_8) rfl ((if0 _ _).trans (teq hc8_1).2) <| k) ?_
    show own_Ends p e below s _ _ _ (s₁.setTop (mkF m 11 #[.val (.int p1), .val (.int (own_t p1))] []))
    obtain ⟨T2, X2, e2, st2⟩ := getS2 X0 hx hZ hown (host := "") (Or.inl (hw _ (List.mem_of_getElem? (i := 11) rfl))) Via.refl e0 (SwC.ext O0.2) (g := (mkF m 11 #[.val (.int p1), .val (.int (own_t p1))] [])) rfl (hb hby d1_11)
    refine own_go st2 ?_
    show own_Ends p e below s _ _ _ (T2.setTop (mkF m 14 #[.val (.int p1), .val (.int (own_t p1))] [(.ref wC)]))
    exact own_ret X2 hx hrt rfl (Or.inr (Or.inr (Or.inr (Or.inr ⟨rfl, rfl, rfl⟩)))) (hb hby d1_14) hlk (by rw [e2]; exact ⟨by unfold own_kind; rw [if_pos hc8_1], N0, rfl⟩) (by decide) (by decide)
  · -- false
    refine own_go (fun _ k => XS.ifYes X0.here hx rfl (pc0 := 8) (pc' := 15) rfl (hb hby d1_8) rfl ((if0 _ _).trans (feq hc8_1).2) (by decide) (by decide) <| XS.iloadN X0.here hx rfl (hb hby d1_15) rfl <| XT.iconstV X0.here hx rfl (1 : Int32) (hb hby d1_16) rfl <| k) ?_
    show own_Ends p e below s _ _ _ (s₁.setTop (mkF m 17 #[.val (.int p1), .val (.int (own_t p1))] [(.int (1 : Int32)), (.int (own_t p1))]))
    by_cases hc17_3 : (own_t p1) = (1 : Int32)
    · -- true
      refine own_go (fun _ k => XS.icmpNo X0.here hx rfl (hb hby d1_17) rfl (teq hc17_3).2 <| k) ?_
      show own_Ends p e below s _ _ _ (s₁.setTop (mkF m 20 #[.val (.int p1), .val (.int (own_t p1))] []))
      obtain ⟨T4, X4, e4, st4⟩ := getS2 X0 hx hZ hown (host := "") (Or.inl (hw _ (List.mem_of_getElem? (i := 9) rfl))) Via.refl e0 (SwA.ext O0.2) (g := (mkF m 20 #[.val (.int p1), .val (.int (own_t p1))] [])) rfl (hb hby d1_20)
      refine own_go st4 ?_
      show own_Ends p e below s _ _ _ (T4.setTop (mkF m 23 #[.val (.int p1), .val (.int (own_t p1))] [(.ref wA)]))
      exact own_ret X4 hx hrt rfl (Or.inr (Or.inr (Or.inr (Or.inr ⟨rfl, rfl, rfl⟩)))) (hb hby d1_23) hlk (by rw [e4]; exact ⟨by unfold own_kind; rw [if_neg hc8_1, if_pos hc17_3], N0, rfl⟩) (by decide) (by decide)
    · -- false
      refine own_go (fun _ k => XS.icmpYes X0.here hx rfl (pc0 := 17) (pc' := 24) rfl (hb hby d1_17) rfl (feq hc17_3).2 (by decide) (by decide) <| k) ?_
      show own_Ends p e below s _ _ _ (s₁.setTop (mkF m 24 #[.val (.int p1), .val (.int (own_t p1))] []))
      obtain ⟨T5, X5, e5, st5⟩ := getS2 X0 hx hZ hown (host := "") (Or.inl (hw _ (List.mem_of_getElem? (i := 6) rfl))) Via.refl e0 (SwK.ext O0.2) (g := (mkF m 24 #[.val (.int p1), .val (.int (own_t p1))] [])) rfl (hb hby d1_24)
      refine own_go st5 ?_
      show own_Ends p e below s _ _ _ (T5.setTop (mkF m 27 #[.val (.int p1), .val (.int (own_t p1))] [(.ref wK)]))
      exact own_ret X5 hx hrt rfl (Or.inr (Or.inr (Or.inr (Or.inr ⟨rfl, rfl, rfl⟩)))) (hb hby d1_27) hlk (by rw [e5]; exact ⟨by unfold own_kind; rw [if_neg hc8_1, if_neg hc17_3], N0, rfl⟩) (by decide) (by decide)
theorem d3_0 : decode jdk_30_method_1_code 0 = .ok (.aload_n 0, 1) := by decide +kernel
theorem d3_1 : decode jdk_30_method_1_code 1 = .ok (.invokespecial 1, 3) := by decide +kernel
theorem d3_4 : decode jdk_30_method_1_code 4 = .ok (.return_, 1) := by decide +kernel
theorem pn_1 : plainName "java/lang/Record" = true := by first | (simp [plainName, overriddenIn]; done) | decide +kernel
theorem ef_3 (m : MethodId) (x0 : Addr) : entryFrame m #[(.ref x0)] 1 = mkF m 0 #[.val (.ref x0)] [] := by first | (simp [entryFrame, mkF, argsToLocals, Value.category]; done) | rfl
def Q3 (a1 : Addr) (h0 : Heap) (n0 : Nat) (Z : State) (v : Option Value) (h : Heap) (L : List Loc) : Prop := v = none ∧ Fr n0 L ∧ h = h0
set_option maxRecDepth 65536 in
set_option maxHeartbeats 40000000 in
theorem rm3 (l : Launch) (Z : State) (a0 : Array Value) (hw : ∀ d ∈ tables_1, d.before a0 Z = true) (ws : List Jvm.Cond) (a1 : Addr) (h0 : Heap) (n0 : Nat) (Z0 : n0 ≤ h0.size) :
    MetFree l (⟨"java/lang/Record", "<init>", "()V"⟩ : MethodName) (head1 (Jvm.Cond.code (⟨"java/lang/Record", "<init>", "()V"⟩ : MethodName) jdk_30_method_1_code 1 none :: ws) ({ frames := 1, cells := 0, slots := 0, locals := 12 } : Room)) (fun a U => a = #[(.ref a1)] ∧ Z.Warmed39 U.vm ∧ U.heap = h0) (fun _ _ _ _ _ => True) (fun _ U o U' => ∃ v L, o = .returned v ∧ Q3 a1 h0 n0 Z v U'.heap L ∧ FrameEnd U o U' L ({ frames := 1, cells := 0, slots := 0, locals := 12 } : Room).cells ({ frames := 1, cells := 0, slots := 0, locals := 12 } : Room).slots) := by
  refine MetFree.of_bodySF (plainFor_of_name pn_1) hisR ?_
  intro p e s m args below meth c s₁ Bd hml0 hP hK
  obtain ⟨rfl, hZ, hh⟩ := hP
  have hx := Bd.exec
  have hby := Bd.bytes
  have hml : c.maxLocals = 1 := hml0
  have hown : s.vm.findClass "java/lang/Record" = some m.cls := findClass_of_methodNamed Bd.named
  have hnm := (name_of_methodNamed Bd.named Bd.method).1
  have hlk := Bd.notSynchronized
  have hrt := Bd.returns
  have X0 : Stand p l e ({ frames := 1, cells := 0, slots := 0, locals := 12 } : Room) s m #[(.ref a1)] below meth c s₁ [] 0 0 := Stand.of_body Bd
  have e0 : s₁.heap = h0 := by rw [← hh, Bd.state]; rfl
  have N0 := Fr.nil n0
  show own_Ends p e below s (Q3 a1 h0 n0 Z) ({ frames := 1, cells := 0, slots := 0, locals := 12 } : Room).cells ({ frames := 1, cells := 0, slots := 0, locals := 12 } : Room).slots (s₁.setTop (entryFrame m #[(.ref a1)] 1))
  rw [ef_3]
  refine own_go (fun _ k => XS.aloadN X0.here hx rfl (hb hby d3_0) rfl rfl <| k) ?_
  show own_Ends p e below s _ _ _ (s₁.setTop (mkF m 1 #[.val (.ref a1)] [(.ref a1)]))
  obtain ⟨T1, X1, e1, st1⟩ := initO X0 hx hZ hown (hw _ (List.mem_of_getElem? (i := 24) rfl)) (hw _ (List.mem_of_getElem? (i := 25) rfl)) (hw _ (List.mem_of_getElem? (i := 26) rfl)) e0 (g := (mkF m 1 #[.val (.ref a1)] [(.ref a1)])) rfl (by rw [hml]; rfl) rfl (hb hby d3_1) (by decide) (W := 0) (by show 2 * 0 + _ ≤ _; exact Nat.le_of_eq rfl) (by decide)
  refine own_go st1 ?_
  show own_Ends p e below s _ _ _ (T1.setTop (mkF m 4 #[.val (.ref a1)] []))
  exact own_ret0 X1 hx hrt (hb hby d3_4) hlk (by rw [e1]; exact ⟨rfl, N0, rfl⟩) (by decide) (by decide)
theorem d2_0 : decode prog_2_method_1_code 0 = .ok (.aload_n 0, 1) := by decide +kernel
theorem d2_1 : decode prog_2_method_1_code 1 = .ok (.invokespecial 1, 3) := by decide +kernel
theorem d2_4 : decode prog_2_method_1_code 4 = .ok (.aload_n 0, 1) := by decide +kernel
theorem d2_5 : decode prog_2_method_1_code 5 = .ok (.aload_n 1, 1) := by decide +kernel
theorem d2_6 : decode prog_2_method_1_code 6 = .ok (.putfield 7, 3) := by decide +kernel
theorem d2_9 : decode prog_2_method_1_code 9 = .ok (.aload_n 0, 1) := by decide +kernel
theorem d2_10 : decode prog_2_method_1_code 10 = .ok (.lload_n 2, 1) := by decide +kernel
theorem d2_11 : decode prog_2_method_1_code 11 = .ok (.putfield 13, 3) := by decide +kernel
theorem d2_14 : decode prog_2_method_1_code 14 = .ok (.return_, 1) := by decide +kernel
theorem pn_2 : plainName "com/example/porthcurno/porthcurno/ConsumerLink" = true := by first | (simp [plainName, overriddenIn]; done) | decide +kernel
theorem ef_2 (m : MethodId) (x0 : Addr) (x1 : Addr) (x2 : Int64) : entryFrame m #[(.ref x0), (.ref x1), (.long x2)] 4 = mkF m 0 #[.val (.ref x0), .val (.ref x1), .val (.long x2), .second] [] := by first | (simp [entryFrame, mkF, argsToLocals, Value.category]; done) | rfl
def Q2 (a1 : Addr) (a2 : Addr) (q3 : Int64) (h0 : Heap) (n0 : Nat) (Z : State) (v : Option Value) (h : Heap) (L : List Loc) : Prop := v = none ∧ Fr n0 L ∧ Keep h0 h [a1] ∧ Fld Z h a1 "com/example/porthcurno/porthcurno/ConsumerLink" "kind" "Lcom/example/porthcurno/porthcurno/ConsumerLink$Kind;" (.ref a2) ∧ Fld Z h a1 "com/example/porthcurno/porthcurno/ConsumerLink" "number" "J" (.long q3)
set_option maxRecDepth 65536 in
set_option maxHeartbeats 40000000 in
theorem rm2 (l : Launch) (Z : State) (a0 : Array Value) (hw : ∀ d ∈ tables_1, d.before a0 Z = true) (ws : List Jvm.Cond) (a1 : Addr) (a2 : Addr) (q3 : Int64) (h0 : Heap) (n0 : Nat) (Z0 : n0 ≤ h0.size) (E1 : Exa Z h0 a1 "com/example/porthcurno/porthcurno/ConsumerLink") (F_kind : Fld Z h0 a1 "com/example/porthcurno/porthcurno/ConsumerLink" "kind" "Lcom/example/porthcurno/porthcurno/ConsumerLink$Kind;" .null) (F_number : Fld Z h0 a1 "com/example/porthcurno/porthcurno/ConsumerLink" "number" "J" (.long (0 : Int64))) (g1 : n0 ≤ a1) :
    MetFree l (⟨"com/example/porthcurno/porthcurno/ConsumerLink", "<init>", "(Lcom/example/porthcurno/porthcurno/ConsumerLink$Kind;J)V"⟩ : MethodName) (head1 (Jvm.Cond.code (⟨"com/example/porthcurno/porthcurno/ConsumerLink", "<init>", "(Lcom/example/porthcurno/porthcurno/ConsumerLink$Kind;J)V"⟩ : MethodName) prog_2_method_1_code 4 none :: ws) ({ frames := 2, cells := 0, slots := 0, locals := 32 } : Room)) (fun a U => a = #[(.ref a1), (.ref a2), (.long q3)] ∧ Z.Warmed39 U.vm ∧ U.heap = h0) (fun _ _ _ _ _ => True) (fun _ U o U' => ∃ v L, o = .returned v ∧ Q2 a1 a2 q3 h0 n0 Z v U'.heap L ∧ FrameEnd U o U' L ({ frames := 2, cells := 0, slots := 0, locals := 32 } : Room).cells ({ frames := 2, cells := 0, slots := 0, locals := 32 } : Room).slots) := by
  refine MetFree.of_bodySF (plainFor_of_name pn_2) hisR ?_
  intro p e s m args below meth c s₁ Bd hml0 hP hK
  obtain ⟨rfl, hZ, hh⟩ := hP
  have hx := Bd.exec
  have hby := Bd.bytes
  have hml : c.maxLocals = 4 := hml0
  have hown : s.vm.findClass "com/example/porthcurno/porthcurno/ConsumerLink" = some m.cls := findClass_of_methodNamed Bd.named
  have hnm := (name_of_methodNamed Bd.named Bd.method).1
  have hlk := Bd.notSynchronized
  have hrt := Bd.returns
  have X0 : Stand p l e ({ frames := 2, cells := 0, slots := 0, locals := 32 } : Room) s m #[(.ref a1), (.ref a2), (.long q3)] below meth c s₁ [] 0 0 := Stand.of_body Bd
  have e0 : s₁.heap = h0 := by rw [← hh, Bd.state]; rfl
  have N0 := Fr.nil n0
  show own_Ends p e below s (Q2 a1 a2 q3 h0 n0 Z) ({ frames := 2, cells := 0, slots := 0, locals := 32 } : Room).cells ({ frames := 2, cells := 0, slots := 0, locals := 32 } : Room).slots (s₁.setTop (entryFrame m #[(.ref a1), (.ref a2), (.long q3)] 4))
  rw [ef_2]
  have K0 : Keep h0 h0 [a1] := Keep.refl h0 [a1]
  refine own_go (fun _ k => XS.aloadN X0.here hx rfl (hb hby d2_0) rfl rfl <| k) ?_
  show own_Ends p e below s _ _ _ (s₁.setTop (mkF m 1 #[.val (.ref a1), .val (.ref a2), .val (.long q3), .second] [(.ref a1)]))
  obtain ⟨_, _, ⟨T1, L1, k1, n1⟩, -, X1, ⟨Lc1, hQ1, l1, y1, z1⟩, st1⟩ := X0.specialBack hx (y := (⟨"java/lang/Record", "<init>", "()V"⟩ : MethodName)) rfl hown (mvT hZ (hw _ (List.mem_of_getElem? (i := 19) rfl))) (mvT hZ (hw _ (List.mem_of_getElem? (i := 20) rfl))) (mvT hZ (hw _ (List.mem_of_getElem? (i := 23) rfl))) (by decide) (backOf (W := 0) (rm3 l Z a0 hw [] a1 h0 n0 Z0) hZ (hw _ (List.mem_of_getElem? (i := 23) rfl)) (hw _ (List.mem_of_getElem? (i := 22) rfl)) (by decide) (by decide)) (g := (mkF m 1 #[.val (.ref a1), .val (.ref a2), .val (.long q3), .second] [(.ref a1)])) rfl (by rw [hml]; rfl) (Steps.refl _) (a := a1) (argsL := []) (rest := []) (lenOf pd_2 rfl) rfl (by show 2 * 0 + _ ≤ _; exact Nat.le_of_eq rfl) (hb hby d2_1) (fun _ _ => ⟨rfl, e0, Nat.le_of_ble_eq_true rfl, Nat.le_of_ble_eq_true rfl⟩)
  dsimp only [Pt.U, Pt.locs, Pt.cells, Pt.slots] at X1 l1 y1 z1 st1 hQ1
  subst l1 y1 z1
  obtain ⟨rfl, N1q, e1⟩ := hQ1
  have N1 := Fr.app N0 N1q
  refine own_go (fun _ k => st1.trans k) ?_
  show own_Ends p e below s _ _ _ (T1.setTop (mkF m 4 #[.val (.ref a1), .val (.ref a2), .val (.long q3), .second] []))
  refine own_go (fun _ k => XS.aloadN X1.here hx rfl (hb hby d2_4) rfl rfl <| XS.aloadN X1.here hx rfl (hb hby d2_5) rfl rfl <| k) ?_
  show own_Ends p e below s _ _ _ (T1.setTop (mkF m 6 #[.val (.ref a1), .val (.ref a2), .val (.long q3), .second] [(.ref a2), (.ref a1)]))
  obtain ⟨T2, h2, X2, e2, W2, st2⟩ := putF X1 hx hZ hown (host := "") (Or.inl (hw _ (List.mem_of_getElem? (i := 27) rfl))) Via.refl e1 F_kind E1 (Or.inr ⟨(hw _ (List.mem_of_getElem? (i := 28) rfl)), rfl, hnm⟩) (hw _ (List.mem_of_getElem? (i := 14) rfl)) (ty := (.object "com/example/porthcurno/porthcurno/ConsumerLink$Kind")) (by decide) rfl rfl (g := (mkF m 6 #[.val (.ref a1), .val (.ref a2), .val (.long q3), .second] [(.ref a2), (.ref a1)])) rfl rfl (hb hby d2_6)
  refine own_go st2 ?_
  have E1'2 := E1.wr W2
  have F_number'2 := F_number.other W2 (Or.inr (slot_ne (Or.inr (hw _ (List.mem_of_getElem? (i := 30) rfl))) (Or.inr (hw _ (List.mem_of_getElem? (i := 28) rfl))) (by decide) (t := .long) (t' := (.object "com/example/porthcurno/porthcurno/ConsumerLink$Kind")) (by decide) (by decide)))
  have Z2 := Nat.le_trans Z0 (Keep.of_wr W2).1
  have K2' := K0.wr W2 (Or.inl (List.mem_of_getElem? (i := 0) rfl))
  have N2 := Fr.snoc X2 N1 g1
  have F_kind'2 := F_kind.same W2
  show own_Ends p e below s _ _ _ (T2.setTop (mkF m 9 #[.val (.ref a1), .val (.ref a2), .val (.long q3), .second] []))
  refine own_go (fun _ k => XS.aloadN X2.here hx rfl (hb hby d2_9) rfl rfl <| XS.lloadN X2.here hx rfl (hb hby d2_10) rfl <| k) ?_
  show own_Ends p e below s _ _ _ (T2.setTop (mkF m 11 #[.val (.ref a1), .val (.ref a2), .val (.long q3), .second] [(.long q3), (.ref a1)]))
  obtain ⟨T3, h3, X3, e3, W3, st3⟩ := putF X2 hx hZ hown (host := "") (Or.inl (hw _ (List.mem_of_getElem? (i := 29) rfl))) Via.refl e2 F_number'2 E1'2 (Or.inr ⟨(hw _ (List.mem_of_getElem? (i := 30) rfl)), rfl, hnm⟩) (hw _ (List.mem_of_getElem? (i := 14) rfl)) (ty := .long) (by decide) rfl rfl (g := (mkF m 11 #[.val (.ref a1), .val (.ref a2), .val (.long q3), .second] [(.long q3), (.ref a1)])) rfl rfl (hb hby d2_11)
  refine own_go st3 ?_
  have E1'3 := E1'2.wr W3
  have F_kind'3 := F_kind'2.other W3 (Or.inr (slot_ne (Or.inr (hw _ (List.mem_of_getElem? (i := 28) rfl))) (Or.inr (hw _ (List.mem_of_getElem? (i := 30) rfl))) (by decide) (t := (.object "com/example/porthcurno/porthcurno/ConsumerLink$Kind")) (t' := .long) (by decide) (by decide)))
  have Z3 := Nat.le_trans Z2 (Keep.of_wr W3).1
  have K3' := K2'.wr W3 (Or.inl (List.mem_of_getElem? (i := 0) rfl))
  have N3 := Fr.snoc X3 N2 g1
  have F_number'3 := F_number'2.same W3
  show own_Ends p e below s _ _ _ (T3.setTop (mkF m 14 #[.val (.ref a1), .val (.ref a2), .val (.long q3), .second] []))
  exact own_ret0 X3 hx hrt (hb hby d2_14) hlk (by rw [e3]; exact ⟨rfl, N3, K3', F_kind'3, F_number'3⟩) (by decide) (by decide)
theorem d5_0 : decode prog_2_method_2_code 0 = .ok (.new 8, 3) := by decide +kernel
theorem d5_3 : decode prog_2_method_2_code 3 = .ok (.dup, 1) := by decide +kernel
theorem d5_4 : decode prog_2_method_2_code 4 = .ok (.aload_n 1, 1) := by decide +kernel
theorem d5_5 : decode prog_2_method_2_code 5 = .ok (.aload_n 0, 1) := by decide +kernel
theorem d5_6 : decode prog_2_method_2_code 6 = .ok (.getfield 13, 3) := by decide +kernel
theorem d5_9 : decode prog_2_method_2_code 9 = .ok (.lconst 1, 1) := by decide +kernel
theorem d5_10 : decode prog_2_method_2_code 10 = .ok (.ladd, 1) := by decide +kernel
theorem d5_11 : decode prog_2_method_2_code 11 = .ok (.invokespecial 17, 3) := by decide +kernel
theorem d5_14 : decode prog_2_method_2_code 14 = .ok (.areturn, 1) := by decide +kernel
theorem ef_5 (m : MethodId) (x0 : Addr) (x1 : Addr) : entryFrame m #[(.ref x0), (.ref x1)] 2 = mkF m 0 #[.val (.ref x0), .val (.ref x1)] [] := by first | (simp [entryFrame, mkF, argsToLocals, Value.category]; done) | rfl
def Q5 (a1 : Addr) (a2 : Addr) (q3 : Int64) (h0 : Heap) (n0 : Nat) (Z : State) (v : Option Value) (h : Heap) (L : List Loc) : Prop := ∃ b, v = some (.ref b) ∧ Fr n0 L ∧ Keep h0 h [] ∧ n0 ≤ b ∧ Exa Z h b "com/example/porthcurno/porthcurno/ConsumerLink" ∧ Fld Z h b "com/example/porthcurno/porthcurno/ConsumerLink" "kind" "Lcom/example/porthcurno/porthcurno/ConsumerLink$Kind;" (.ref a2) ∧ Fld Z h b "com/example/porthcurno/porthcurno/ConsumerLink" "number" "J" (.long (q3 + (1 : Int64)))
set_option maxRecDepth 65536 in
set_option maxHeartbeats 40000000 in
theorem rm5 (l : Launch) (Z : State) (a0 : Array Value) (hw : ∀ d ∈ tables_1, d.before a0 Z = true) (ws : List Jvm.Cond) (a1 : Addr) (a2 : Addr) (q3 : Int64) (h0 : Heap) (n0 : Nat) (Z0 : n0 ≤ h0.size) (F1 : Fld Z h0 a1 "com/example/porthcurno/porthcurno/ConsumerLink" "number" "J" (.long q3)) :
    MetFree l (⟨"com/example/porthcurno/porthcurno/ConsumerLink", "next", "(Lcom/example/porthcurno/porthcurno/ConsumerLink$Kind;)Lcom/example/porthcurno/porthcurno/ConsumerLink;"⟩ : MethodName) (head1 (Jvm.Cond.code (⟨"com/example/porthcurno/porthcurno/ConsumerLink", "next", "(Lcom/example/porthcurno/porthcurno/ConsumerLink$Kind;)Lcom/example/porthcurno/porthcurno/ConsumerLink;"⟩ : MethodName) prog_2_method_2_code 2 (some (.object "com/example/porthcurno/porthcurno/ConsumerLink")) :: ws) ({ frames := 3, cells := 1, slots := 2, locals := 60 } : Room)) (fun a U => a = #[(.ref a1), (.ref a2)] ∧ Z.Warmed39 U.vm ∧ U.heap = h0) (fun _ _ _ _ _ => True) (fun _ U o U' => ∃ v L, o = .returned v ∧ Q5 a1 a2 q3 h0 n0 Z v U'.heap L ∧ FrameEnd U o U' L ({ frames := 3, cells := 1, slots := 2, locals := 60 } : Room).cells ({ frames := 3, cells := 1, slots := 2, locals := 60 } : Room).slots) := by
  refine MetFree.of_bodySF (plainFor_of_name pn_2) hisR ?_
  intro p e s m args below meth c s₁ Bd hml0 hP hK
  obtain ⟨rfl, hZ, hh⟩ := hP
  have hx := Bd.exec
  have hby := Bd.bytes
  have hml : c.maxLocals = 2 := hml0
  have hown : s.vm.findClass "com/example/porthcurno/porthcurno/ConsumerLink" = some m.cls := findClass_of_methodNamed Bd.named
  have hnm := (name_of_methodNamed Bd.named Bd.method).1
  have hlk := Bd.notSynchronized
  have hrt := Bd.returns
  have X0 : Stand p l e ({ frames := 3, cells := 1, slots := 2, locals := 60 } : Room) s m #[(.ref a1), (.ref a2)] below meth c s₁ [] 0 0 := Stand.of_body Bd
  have e0 : s₁.heap = h0 := by rw [← hh, Bd.state]; rfl
  have N0 := Fr.nil n0
  show own_Ends p e below s (Q5 a1 a2 q3 h0 n0 Z) ({ frames := 3, cells := 1, slots := 2, locals := 60 } : Room).cells ({ frames := 3, cells := 1, slots := 2, locals := 60 } : Room).slots (s₁.setTop (entryFrame m #[(.ref a1), (.ref a2)] 2))
  rw [ef_5]
  have K0 : Keep h0 h0 [] := Keep.refl h0 []
  obtain ⟨T1, h1, X1, e1, E1, A1, D1, -, st1⟩ := newO X0 hx hZ hown (hw _ (List.mem_of_getElem? (i := 36) rfl)) (hw _ (List.mem_of_getElem? (i := 14) rfl)) (hw _ (List.mem_of_getElem? (i := 15) rfl)) e0 (g := (mkF m 0 #[.val (.ref a1), .val (.ref a2)] [])) rfl (hb hby d5_0) (by decide) (by decide)
  obtain ⟨b1, g1⟩ : ∃ z, z = h0.size := ⟨_, rfl⟩
  rw [← g1] at A1 D1 st1
  refine own_go st1 ?_
  have ne_a1_b1 : a1 ≠ b1 := Nat.ne_of_lt (Nat.lt_of_lt_of_le F1.lt (Nat.le_of_eq g1.symm))
  have g_b1 : n0 ≤ b1 := Nat.le_trans Z0 (Nat.le_of_eq g1.symm)
  have sz_b1 : h0.size ≤ b1 := Nat.le_trans K0.1 (Nat.le_of_eq g1.symm)
  have F1'1 := F1.ext E1
  have Z1 := Nat.le_trans Z0 E1.1
  have K1' := K0.ext E1
  have F_kind_b1 : Fld Z h1 b1 "com/example/porthcurno/porthcurno/ConsumerLink" "kind" "Lcom/example/porthcurno/porthcurno/ConsumerLink$Kind;" .null := D1 (Or.inr (hw _ (List.mem_of_getElem? (i := 28) rfl))) (ty := (.object "com/example/porthcurno/porthcurno/ConsumerLink$Kind")) (by decide)
  have F_number_b1 : Fld Z h1 b1 "com/example/porthcurno/porthcurno/ConsumerLink" "number" "J" (.long (0 : Int64)) := D1 (Or.inr (hw _ (List.mem_of_getElem? (i := 30) rfl))) (ty := .long) (by decide)
  show own_Ends p e below s _ _ _ (T1.setTop (mkF m 3 #[.val (.ref a1), .val (.ref a2)] [(.ref b1)]))
  refine own_go (fun _ k => XS.dup X1.here hx rfl (hb hby d5_3) rfl rfl <| XS.aloadN X1.here hx rfl (hb hby d5_4) rfl rfl <| XS.aloadN X1.here hx rfl (hb hby d5_5) rfl rfl <| k) ?_
  show own_Ends p e below s _ _ _ (T1.setTop (mkF m 6 #[.val (.ref a1), .val (.ref a2)] [(.ref a1), (.ref a2), (.ref b1), (.ref b1)]))
  obtain ⟨T2, X2, e2, st2⟩ := getF X1 hx hZ hown (host := "") (Or.inl (hw _ (List.mem_of_getElem? (i := 29) rfl))) Via.refl e1 F1'1 (g := (mkF m 6 #[.val (.ref a1), .val (.ref a2)] [(.ref a1), (.ref a2), (.ref b1), (.ref b1)])) rfl rfl (hb hby d5_6)
  refine own_go st2 ?_
  show own_Ends p e below s _ _ _ (T2.setTop (mkF m 9 #[.val (.ref a1), .val (.ref a2)] [(.long q3), (.ref a2), (.ref b1), (.ref b1)]))
  refine own_go (fun _ k => XT.lconstV X2.here hx rfl (1 : Int64) (hb hby d5_9) rfl <| XS.ladd X2.here hx rfl (hb hby d5_10) rfl <| k) ?_
  show own_Ends p e below s _ _ _ (T2.setTop (mkF m 11 #[.val (.ref a1), .val (.ref a2)] [(.long (q3 + (1 : Int64))), (.ref a2), (.ref b1), (.ref b1)]))
  obtain ⟨_, _, ⟨T3, L3, k3, n3⟩, -, X3, ⟨Lc3, hQ3, l3, y3, z3⟩, st3⟩ := X2.specialBack hx (y := (⟨"com/example/porthcurno/porthcurno/ConsumerLink", "<init>", "(Lcom/example/porthcurno/porthcurno/ConsumerLink$Kind;J)V"⟩ : MethodName)) rfl hown (mvT hZ (hw _ (List.mem_of_getElem? (i := 37) rfl))) (mvT hZ (hw _ (List.mem_of_getElem? (i := 17) rfl))) (mvT hZ (hw _ (List.mem_of_getElem? (i := 18) rfl))) (by decide) (backOf (W := 1) (rm2 l Z a0 hw [] b1 a2 (q3 + (1 : Int64))  h1 n0 Z1 A1 F_kind_b1 F_number_b1 g_b1 ) hZ (hw _ (List.mem_of_getElem? (i := 18) rfl)) (hw _ (List.mem_of_getElem? (i := 15) rfl)) (by decide) (by decide)) (g := (mkF m 11 #[.val (.ref a1), .val (.ref a2)] [(.long (q3 + (1 : Int64))), (.ref a2), (.ref b1), (.ref b1)])) rfl (by rw [hml]; rfl) (Steps.refl _) (a := b1) (argsL := [(.ref a2), (.long (q3 + (1 : Int64)))]) (rest := [(.ref b1)]) (lenOf pd_1 rfl) rfl (by show 2 * 0 + _ ≤ _; exact Nat.le_of_eq rfl) (hb hby d5_11) (fun _ _ => ⟨rfl, e2, Nat.le_of_ble_eq_true rfl, Nat.le_of_ble_eq_true rfl⟩)
  dsimp only [Pt.U, Pt.locs, Pt.cells, Pt.slots] at X3 l3 y3 z3 st3 hQ3
  subst l3 y3 z3
  obtain ⟨rfl, N3q, K3, Fc03, Fc13⟩ := hQ3
  have N3 := Fr.app N0 N3q
  refine own_go (fun _ k => st3.trans k) ?_
  have F1'3 := F1'1.keep K3 (ninS ne_a1_b1 nin0)
  have A1'3 := A1.keep K3
  have Z3 := Nat.le_trans Z1 K3.1
  have K3' := K1'.trans K3 (allS (Or.inr sz_b1) all0)
  show own_Ends p e below s _ _ _ (T3.setTop (mkF m 14 #[.val (.ref a1), .val (.ref a2)] [(.ref b1)]))
  exact own_ret X3 hx hrt rfl (Or.inr (Or.inr (Or.inr (Or.inr ⟨rfl, rfl, rfl⟩)))) (hb hby d5_14) hlk (by exact ⟨_, rfl, N3, K3', g_b1, A1'3, Fc03, Fc13⟩) (by decide) (by decide)
theorem d6_0 : decode prog_2_method_7_code 0 = .ok (.aload_n 0, 1) := by decide +kernel
theorem d6_1 : decode prog_2_method_7_code 1 = .ok (.getfield 13, 3) := by decide +kernel
theorem d6_4 : decode prog_2_method_7_code 4 = .ok (.lreturn, 1) := by decide +kernel
theorem ef_6 (m : MethodId) (x0 : Addr) : entryFrame m #[(.ref x0)] 1 = mkF m 0 #[.val (.ref x0)] [] := by first | (simp [entryFrame, mkF, argsToLocals, Value.category]; done) | rfl
def Q6 (a1 : Addr) (x1 : Int64) (h0 : Heap) (n0 : Nat) (Z : State) (v : Option Value) (h : Heap) (L : List Loc) : Prop := v = some (.long x1) ∧ Fr n0 L ∧ h = h0
set_option maxRecDepth 65536 in
set_option maxHeartbeats 40000000 in
theorem rm6 (l : Launch) (Z : State) (a0 : Array Value) (hw : ∀ d ∈ tables_1, d.before a0 Z = true) (ws : List Jvm.Cond) (a1 : Addr) (x1 : Int64) (h0 : Heap) (n0 : Nat) (Z0 : n0 ≤ h0.size) (F1 : Fld Z h0 a1 "com/example/porthcurno/porthcurno/ConsumerLink" "number" "J" (.long x1)) :
    MetFree l (⟨"com/example/porthcurno/porthcurno/ConsumerLink", "number", "()J"⟩ : MethodName) (head1 (Jvm.Cond.code (⟨"com/example/porthcurno/porthcurno/ConsumerLink", "number", "()J"⟩ : MethodName) prog_2_method_7_code 1 (some .long) :: ws) ({ frames := 0, cells := 0, slots := 0, locals := 0 } : Room)) (fun a U => a = #[(.ref a1)] ∧ Z.Warmed39 U.vm ∧ U.heap = h0) (fun _ _ _ _ _ => True) (fun _ U o U' => ∃ v L, o = .returned v ∧ Q6 a1 x1 h0 n0 Z v U'.heap L ∧ FrameEnd U o U' L ({ frames := 0, cells := 0, slots := 0, locals := 0 } : Room).cells ({ frames := 0, cells := 0, slots := 0, locals := 0 } : Room).slots) := by
  refine MetFree.of_bodySF (plainFor_of_name pn_2) hisR ?_
  intro p e s m args below meth c s₁ Bd hml0 hP hK
  obtain ⟨rfl, hZ, hh⟩ := hP
  have hx := Bd.exec
  have hby := Bd.bytes
  have hml : c.maxLocals = 1 := hml0
  have hown : s.vm.findClass "com/example/porthcurno/porthcurno/ConsumerLink" = some m.cls := findClass_of_methodNamed Bd.named
  have hnm := (name_of_methodNamed Bd.named Bd.method).1
  have hlk := Bd.notSynchronized
  have hrt := Bd.returns
  have X0 : Stand p l e ({ frames := 0, cells := 0, slots := 0, locals := 0 } : Room) s m #[(.ref a1)] below meth c s₁ [] 0 0 := Stand.of_body Bd
  have e0 : s₁.heap = h0 := by rw [← hh, Bd.state]; rfl
  have N0 := Fr.nil n0
  show own_Ends p e below s (Q6 a1 x1 h0 n0 Z) ({ frames := 0, cells := 0, slots := 0, locals := 0 } : Room).cells ({ frames := 0, cells := 0, slots := 0, locals := 0 } : Room).slots (s₁.setTop (entryFrame m #[(.ref a1)] 1))
  rw [ef_6]
  refine own_go (fun _ k => XS.aloadN X0.here hx rfl (hb hby d6_0) rfl rfl <| k) ?_
  show own_Ends p e below s _ _ _ (s₁.setTop (mkF m 1 #[.val (.ref a1)] [(.ref a1)]))
  obtain ⟨T1, X1, e1, st1⟩ := getF X0 hx hZ hown (host := "") (Or.inl (hw _ (List.mem_of_getElem? (i := 29) rfl))) Via.refl e0 F1 (g := (mkF m 1 #[.val (.ref a1)] [(.ref a1)])) rfl rfl (hb hby d6_1)
  refine own_go st1 ?_
  show own_Ends p e below s _ _ _ (T1.setTop (mkF m 4 #[.val (.ref a1)] [(.long x1)]))
  exact own_ret X1 hx hrt rfl (Or.inr (Or.inl ⟨rfl, rfl, _, rfl⟩)) (hb hby d6_4) hlk (by rw [e1]; exact ⟨rfl, N0, rfl⟩) (by decide) (by decide)
theorem d7_0 : decode prog_2_method_6_code 0 = .ok (.aload_n 0, 1) := by decide +kernel
theorem d7_1 : decode prog_2_method_6_code 1 = .ok (.getfield 7, 3) := by decide +kernel
theorem d7_4 : decode prog_2_method_6_code 4 = .ok (.areturn, 1) := by decide +kernel
theorem ef_7 (m : MethodId) (x0 : Addr) : entryFrame m #[(.ref x0)] 1 = mkF m 0 #[.val (.ref x0)] [] := by first | (simp [entryFrame, mkF, argsToLocals, Value.category]; done) | rfl
def Q7 (a1 : Addr) (x1 : Addr) (h0 : Heap) (n0 : Nat) (Z : State) (v : Option Value) (h : Heap) (L : List Loc) : Prop := v = some (.ref x1) ∧ Fr n0 L ∧ h = h0
set_option maxRecDepth 65536 in
set_option maxHeartbeats 40000000 in
theorem rm7 (l : Launch) (Z : State) (a0 : Array Value) (hw : ∀ d ∈ tables_1, d.before a0 Z = true) (ws : List Jvm.Cond) (a1 : Addr) (x1 : Addr) (h0 : Heap) (n0 : Nat) (Z0 : n0 ≤ h0.size) (F1 : Fld Z h0 a1 "com/example/porthcurno/porthcurno/ConsumerLink" "kind" "Lcom/example/porthcurno/porthcurno/ConsumerLink$Kind;" (.ref x1)) :
    MetFree l (⟨"com/example/porthcurno/porthcurno/ConsumerLink", "kind", "()Lcom/example/porthcurno/porthcurno/ConsumerLink$Kind;"⟩ : MethodName) (head1 (Jvm.Cond.code (⟨"com/example/porthcurno/porthcurno/ConsumerLink", "kind", "()Lcom/example/porthcurno/porthcurno/ConsumerLink$Kind;"⟩ : MethodName) prog_2_method_6_code 1 (some (.object "com/example/porthcurno/porthcurno/ConsumerLink$Kind")) :: ws) ({ frames := 0, cells := 0, slots := 0, locals := 0 } : Room)) (fun a U => a = #[(.ref a1)] ∧ Z.Warmed39 U.vm ∧ U.heap = h0) (fun _ _ _ _ _ => True) (fun _ U o U' => ∃ v L, o = .returned v ∧ Q7 a1 x1 h0 n0 Z v U'.heap L ∧ FrameEnd U o U' L ({ frames := 0, cells := 0, slots := 0, locals := 0 } : Room).cells ({ frames := 0, cells := 0, slots := 0, locals := 0 } : Room).slots) := by
  refine MetFree.of_bodySF (plainFor_of_name pn_2) hisR ?_
  intro p e s m args below meth c s₁ Bd hml0 hP hK
  obtain ⟨rfl, hZ, hh⟩ := hP
  have hx := Bd.exec
  have hby := Bd.bytes
  have hml : c.maxLocals = 1 := hml0
  have hown : s.vm.findClass "com/example/porthcurno/porthcurno/ConsumerLink" = some m.cls := findClass_of_methodNamed Bd.named
  have hnm := (name_of_methodNamed Bd.named Bd.method).1
  have hlk := Bd.notSynchronized
  have hrt := Bd.returns
  have X0 : Stand p l e ({ frames := 0, cells := 0, slots := 0, locals := 0 } : Room) s m #[(.ref a1)] below meth c s₁ [] 0 0 := Stand.of_body Bd
  have e0 : s₁.heap = h0 := by rw [← hh, Bd.state]; rfl
  have N0 := Fr.nil n0
  show own_Ends p e below s (Q7 a1 x1 h0 n0 Z) ({ frames := 0, cells := 0, slots := 0, locals := 0 } : Room).cells ({ frames := 0, cells := 0, slots := 0, locals := 0 } : Room).slots (s₁.setTop (entryFrame m #[(.ref a1)] 1))
  rw [ef_7]
  refine own_go (fun _ k => XS.aloadN X0.here hx rfl (hb hby d7_0) rfl rfl <| k) ?_
  show own_Ends p e below s _ _ _ (s₁.setTop (mkF m 1 #[.val (.ref a1)] [(.ref a1)]))
  obtain ⟨T1, X1, e1, st1⟩ := getF X0 hx hZ hown (host := "") (Or.inl (hw _ (List.mem_of_getElem? (i := 27) rfl))) Via.refl e0 F1 (g := (mkF m 1 #[.val (.ref a1)] [(.ref a1)])) rfl rfl (hb hby d7_1)
  refine own_go st1 ?_
  show own_Ends p e below s _ _ _ (T1.setTop (mkF m 4 #[.val (.ref a1)] [(.ref x1)]))
  exact own_ret X1 hx hrt rfl (Or.inr (Or.inr (Or.inr (Or.inr ⟨rfl, rfl, rfl⟩)))) (hb hby d7_4) hlk (by rw [e1]; exact ⟨rfl, N0, rfl⟩) (by decide) (by decide)
theorem ef_0 (m : MethodId) (x0 : Int64) (x1 : Int32) (x2 : Int32) (x3 : Int32) : entryFrame m #[(.long x0), (.int x1), (.int x2), (.int x3)] maxLocals = mkF m 0 #[.val (.long x0), .second, .val (.int x1), .val (.int x2), .val (.int x3), .unset, .unset, .unset, .unset, .unset, .unset, .unset, .unset, .unset, .unset, .unset, .unset] [] := by first | (simp [entryFrame, mkF, argsToLocals, Value.category, maxLocals]; done) | rfl
def Q0 (q1 : Int64) (p2 : Int32) (p3 : Int32) (p4 : Int32) (wC wA wK : Addr) (h0 : Heap) (n0 : Nat) (Z : State) (v : Option Value) (h : Heap) (L : List Loc) : Prop := v = some (.int 1) ∧ Fr n0 L
set_option maxRecDepth 65536 in
set_option maxHeartbeats 40000000 in
theorem rm0 (l : Launch) (Z : State) (a0 : Array Value) (hw : ∀ d ∈ tables_1, d.before a0 Z = true) (ws : List Jvm.Cond) (q1 : Int64) (p2 : Int32) (p3 : Int32) (p4 : Int32) (wC wA wK : Addr) (h0 : Heap) (n0 : Nat) (Z0 : n0 ≤ h0.size) (O0 : Old Z n0 h0) (SwC : Sta Z Z.heap "com/example/porthcurno/porthcurno/ConsumerLink$Kind" "CONSUME_NEXT" "Lcom/example/porthcurno/porthcurno/ConsumerLink$Kind;" (.ref wC)) (SwA : Sta Z Z.heap "com/example/porthcurno/porthcurno/ConsumerLink$Kind" "ACKNOWLEDGE_NEXT" "Lcom/example/porthcurno/porthcurno/ConsumerLink$Kind;" (.ref wA)) (SwK : Sta Z Z.heap "com/example/porthcurno/porthcurno/ConsumerLink$Kind" "ACKNOWLEDGEMENT" "Lcom/example/porthcurno/porthcurno/ConsumerLink$Kind;" (.ref wK)) :
    MetFree l x (head1 (Jvm.Cond.code x code maxLocals ret :: ws) room_1) (fun a U => a = #[(.long q1), (.int p2), (.int p3), (.int p4)] ∧ Z.Warmed39 U.vm ∧ U.heap = h0) (fun _ _ _ _ _ => True) (fun _ U o U' => ∃ v L, o = .returned v ∧ Q0 q1 p2 p3 p4 wC wA wK h0 n0 Z v U'.heap L ∧ FrameEnd U o U' L room_1.cells room_1.slots) := by
  refine MetFree.of_bodySF (plainFor_of_name pn_0) hisR ?_
  intro p e s m args below meth c s₁ Bd hml0 hP hK
  obtain ⟨rfl, hZ, hh⟩ := hP
  have hx := Bd.exec
  have hby := Bd.bytes
  have hml : c.maxLocals = 17 := hml0
  have hown : s.vm.findClass "com/example/porthcurno/porthcurno/ConsumerLinkNextPinLaw" = some m.cls := findClass_of_methodNamed Bd.named
  have hnm := (name_of_methodNamed Bd.named Bd.method).1
  have hlk := Bd.notSynchronized
  have hrt := Bd.returns
  have X0 : Stand p l e room_1 s m #[(.long q1), (.int p2), (.int p3), (.int p4)] below meth c s₁ [] 0 0 := Stand.of_body Bd
  have e0 : s₁.heap = h0 := by rw [← hh, Bd.state]; rfl
  have N0 := Fr.nil n0
  show own_Ends p e below s (Q0 q1 p2 p3 p4 wC wA wK h0 n0 Z) room_1.cells room_1.slots (s₁.setTop (entryFrame m #[(.long q1), (.int p2), (.int p3), (.int p4)] maxLocals))
  rw [ef_0]
  refine own_go (fun _ k => XS.lloadN X0.here hx rfl (hb hby at_0) rfl <| X0.ldc2J hx hown (mvT hZ (hw _ (List.mem_of_getElem? (i := 0) rfl))) rfl (hb hby at_1) <| XS.land X0.here hx rfl (hb hby at_4) rfl <| XT.lconstV X0.here hx rfl (1 : Int64) (hb hby at_5) rfl <| XS.ladd X0.here hx rfl (hb hby at_6) rfl <| k) ?_
  show own_Ends p e below s _ _ _ (s₁.setTop (mkF m 7 #[.val (.long q1), .second, .val (.int p2), .val (.int p3), .val (.int p4), .unset, .unset, .unset, .unset, .unset, .unset, .unset, .unset, .unset, .unset, .unset, .unset] [(.long ((q1 &&& (4611686018427387903 : Int64)) + (1 : Int64)))]))
  have hnn := own_n q1
  generalize ((q1 &&& (4611686018427387903 : Int64)) + (1 : Int64)) = nn at hnn ⊢
  show own_Ends p e below s _ _ _ (s₁.setTop (mkF m 7 #[.val (.long q1), .second, .val (.int p2), .val (.int p3), .val (.int p4), .unset, .unset, .unset, .unset, .unset, .unset, .unset, .unset, .unset, .unset, .unset, .unset] [(.long nn)]))
  refine own_go (fun _ k => XS.lstore X0.here hx rfl (hb hby at_7) rfl (l' := #[.val (.long q1), .second, .val (.int p2), .val (.int p3), .val (.int p4), .val (.long nn), .second, .unset, .unset, .unset, .unset, .unset, .unset, .unset, .unset, .unset, .unset]) rfl <| XS.iloadN X0.here hx rfl (hb hby at_9) rfl <| k) ?_
  show own_Ends p e below s _ _ _ (s₁.setTop (mkF m 10 #[.val (.long q1), .second, .val (.int p2), .val (.int p3), .val (.int p4), .val (.long nn), .second, .unset, .unset, .unset, .unset, .unset, .unset, .unset, .unset, .unset, .unset] [(.int p2)]))
  obtain ⟨_, _, ⟨T1, L1, k1, n1⟩, -, X1, ⟨Lc1, hQ1, l1, y1, z1⟩, st1⟩ := Jvm.LawKit.callS X0 hx (y := (⟨"com/example/porthcurno/porthcurno/ConsumerLinkNextPinLaw", "kindOf", "(I)Lcom/example/porthcurno/porthcurno/ConsumerLink$Kind;"⟩ : MethodName)) hown (mvT hZ (hw _ (List.mem_of_getElem? (i := 1) rfl))) (mvT hZ (hw _ (List.mem_of_getElem? (i := 2) rfl))) (mvT hZ (hw _ (List.mem_of_getElem? (i := 3) rfl))) (mvT hZ (hw _ (List.mem_of_getElem? (i := 4) rfl))) (by decide) (backOf (W := 0) (rm1 l Z a0 hw [] p2 wC wA wK h0 n0 Z0 O0 SwC SwA SwK) hZ (hw _ (List.mem_of_getElem? (i := 4) rfl)) (hw _ (List.mem_of_getElem? (i := 3) rfl)) (by decide) (by decide)) (g := (mkF m 10 #[.val (.long q1), .second, .val (.int p2), .val (.int p3), .val (.int p4), .val (.long nn), .second, .unset, .unset, .unset, .unset, .unset, .unset, .unset, .unset, .unset, .unset] [(.int p2)])) rfl (by rw [hml]; rfl) (argsL := [(.int p2)]) (rest := []) (lenOf pd_0 rfl) rfl (by show 2 * 0 + _ ≤ _; exact Nat.le_of_eq rfl) (hb hby at_10) (fun _ _ => ⟨rfl, e0, Nat.le_of_ble_eq_true rfl, Nat.le_of_ble_eq_true rfl⟩)
  dsimp only [Pt.U, Pt.locs, Pt.cells, Pt.slots] at X1 l1 y1 z1 st1 hQ1
  subst l1 y1 z1
  obtain ⟨rfl, N1q, e1⟩ := hQ1
  have N1 := Fr.app N0 N1q
  refine own_go (fun _ k => st1 _ k) ?_
  show own_Ends p e below s _ _ _ (T1.setTop (mkF m 13 #[.val (.long q1), .second, .val (.int p2), .val (.int p3), .val (.int p4), .val (.long nn), .second, .unset, .unset, .unset, .unset, .unset, .unset, .unset, .unset, .unset, .unset] [(.ref (own_kind wC wA wK p2))]))
  refine own_go (fun _ k => XS.astore X1.here hx rfl (hb hby at_13) rfl rfl (l' := #[.val (.long q1), .second, .val (.int p2), .val (.int p3), .val (.int p4), .val (.long nn), .second, .val (.ref (own_kind wC wA wK p2)), .unset, .unset, .unset, .unset, .unset, .unset, .unset, .unset, .unset]) rfl <| XS.iloadN X1.here hx rfl (hb hby at_15) rfl <| k) ?_
  show own_Ends p e below s _ _ _ (T1.setTop (mkF m 16 #[.val (.long q1), .second, .val (.int p2), .val (.int p3), .val (.int p4), .val (.long nn), .second, .val (.ref (own_kind wC wA wK p2)), .unset, .unset, .unset, .unset, .unset, .unset, .unset, .unset, .unset] [(.int p3)]))
  obtain ⟨_, _, ⟨T2, L2, k2, n2⟩, -, X2, ⟨Lc2, hQ2, l2, y2, z2⟩, st2⟩ := Jvm.LawKit.callS X1 hx (y := (⟨"com/example/porthcurno/porthcurno/ConsumerLinkNextPinLaw", "kindOf", "(I)Lcom/example/porthcurno/porthcurno/ConsumerLink$Kind;"⟩ : MethodName)) hown (mvT hZ (hw _ (List.mem_of_getElem? (i := 1) rfl))) (mvT hZ (hw _ (List.mem_of_getElem? (i := 2) rfl))) (mvT hZ (hw _ (List.mem_of_getElem? (i := 3) rfl))) (mvT hZ (hw _ (List.mem_of_getElem? (i := 4) rfl))) (by decide) (backOf (W := 0) (rm1 l Z a0 hw [] p3 wC wA wK h0 n0 Z0 O0 SwC SwA SwK) hZ (hw _ (List.mem_of_getElem? (i := 4) rfl)) (hw _ (List.mem_of_getElem? (i := 3) rfl)) (by decide) (by decide)) (g := (mkF m 16 #[.val (.long q1), .second, .val (.int p2), .val (.int p3), .val (.int p4), .val (.long nn), .second, .val (.ref (own_kind wC wA wK p2)), .unset, .unset, .unset, .unset, .unset, .unset, .unset, .unset, .unset] [(.int p3)])) rfl (by rw [hml]; rfl) (argsL := [(.int p3)]) (rest := []) (lenOf pd_0 rfl) rfl (by show 2 * 0 + _ ≤ _; exact Nat.le_of_eq rfl) (hb hby at_16) (fun _ _ => ⟨rfl, e1, Nat.le_of_ble_eq_true rfl, Nat.le_of_ble_eq_true rfl⟩)
  dsimp only [Pt.U, Pt.locs, Pt.cells, Pt.slots] at X2 l2 y2 z2 st2 hQ2
  subst l2 y2 z2
  obtain ⟨rfl, N2q, e2⟩ := hQ2
  have N2 := Fr.app N1 N2q
  refine own_go (fun _ k => st2 _ k) ?_
  show own_Ends p e below s _ _ _ (T2.setTop (mkF m 19 #[.val (.long q1), .second, .val (.int p2), .val (.int p3), .val (.int p4), .val (.long nn), .second, .val (.ref (own_kind wC wA wK p2)), .unset, .unset, .unset, .unset, .unset, .unset, .unset, .unset, .unset] [(.ref (own_kind wC wA wK p3))]))
  refine own_go (fun _ k => XS.astore X2.here hx rfl (hb hby at_19) rfl rfl (l' := #[.val (.long q1), .second, .val (.int p2), .val (.int p3), .val (.int p4), .val (.long nn), .second, .val (.ref (own_kind wC wA wK p2)), .val (.ref (own_kind wC wA wK p3)), .unset, .unset, .unset, .unset, .unset, .unset, .unset, .unset]) rfl <| XS.iload X2.here hx rfl (hb hby at_21) rfl <| k) ?_
  show own_Ends p e below s _ _ _ (T2.setTop (mkF m 23 #[.val (.long q1), .second, .val (.int p2), .val (.int p3), .val (.int p4), .val (.long nn), .second, .val (.ref (own_kind wC wA wK p2)), .val (.ref (own_kind wC wA wK p3)), .unset, .unset, .unset, .unset, .unset, .unset, .unset, .unset] [(.int p4)]))
  obtain ⟨_, _, ⟨T3, L3, k3, n3⟩, -, X3, ⟨Lc3, hQ3, l3, y3, z3⟩, st3⟩ := Jvm.LawKit.callS X2 hx (y := (⟨"com/example/porthcurno/porthcurno/ConsumerLinkNextPinLaw", "kindOf", "(I)Lcom/example/porthcurno/porthcurno/ConsumerLink$Kind;"⟩ : MethodName)) hown (mvT hZ (hw _ (List.mem_of_getElem? (i := 1) rfl))) (mvT hZ (hw _ (List.mem_of_getElem? (i := 2) rfl))) (mvT hZ (hw _ (List.mem_of_getElem? (i := 3) rfl))) (mvT hZ (hw _ (List.mem_of_getElem? (i := 4) rfl))) (by decide) (backOf (W := 0) (rm1 l Z a0 hw [] p4 wC wA wK h0 n0 Z0 O0 SwC SwA SwK) hZ (hw _ (List.mem_of_getElem? (i := 4) rfl)) (hw _ (List.mem_of_getElem? (i := 3) rfl)) (by decide) (by decide)) (g := (mkF m 23 #[.val (.long q1), .second, .val (.int p2), .val (.int p3), .val (.int p4), .val (.long nn), .second, .val (.ref (own_kind wC wA wK p2)), .val (.ref (own_kind wC wA wK p3)), .unset, .unset, .unset, .unset, .unset, .unset, .unset, .unset] [(.int p4)])) rfl (by rw [hml]; rfl) (argsL := [(.int p4)]) (rest := []) (lenOf pd_0 rfl) rfl (by show 2 * 0 + _ ≤ _; exact Nat.le_of_eq rfl) (hb hby at_23) (fun _ _ => ⟨rfl, e2, Nat.le_of_ble_eq_true rfl, Nat.le_of_ble_eq_true rfl⟩)
  dsimp only [Pt.U, Pt.locs, Pt.cells, Pt.slots] at X3 l3 y3 z3 st3 hQ3
  subst l3 y3 z3
  obtain ⟨rfl, N3q, e3⟩ := hQ3
  have N3 := Fr.app N2 N3q
  refine own_go (fun _ k => st3 _ k) ?_
  show own_Ends p e below s _ _ _ (T3.setTop (mkF m 26 #[.val (.long q1), .second, .val (.int p2), .val (.int p3), .val (.int p4), .val (.long nn), .second, .val (.ref (own_kind wC wA wK p2)), .val (.ref (own_kind wC wA wK p3)), .unset, .unset, .unset, .unset, .unset, .unset, .unset, .unset] [(.ref (own_kind wC wA wK p4))]))
  refine own_go (fun _ k => XS.astore X3.here hx rfl (hb hby at_26) rfl rfl (l' := #[.val (.long q1), .second, .val (.int p2), .val (.int p3), .val (.int p4), .val (.long nn), .second, .val (.ref (own_kind wC wA wK p2)), .val (.ref (own_kind wC wA wK p3)), .val (.ref (own_kind wC wA wK p4)), .unset, .unset, .unset, .unset, .unset, .unset, .unset]) rfl <| k) ?_
  show own_Ends p e below s _ _ _ (T3.setTop (mkF m 28 #[.val (.long q1), .second, .val (.int p2), .val (.int p3), .val (.int p4), .val (.long nn), .second, .val (.ref (own_kind wC wA wK p2)), .val (.ref (own_kind wC wA wK p3)), .val (.ref (own_kind wC wA wK p4)), .unset, .unset, .unset, .unset, .unset, .unset, .unset] []))
  obtain ⟨T4, h4, X4, e4, E4, A4, D4, -, st4⟩ := newO X3 hx hZ hown (hw _ (List.mem_of_getElem? (i := 13) rfl)) (hw _ (List.mem_of_getElem? (i := 14) rfl)) (hw _ (List.mem_of_getElem? (i := 15) rfl)) e3 (g := (mkF m 28 #[.val (.long q1), .second, .val (.int p2), .val (.int p3), .val (.int p4), .val (.long nn), .second, .val (.ref (own_kind wC wA wK p2)), .val (.ref (own_kind wC wA wK p3)), .val (.ref (own_kind wC wA wK p4)), .unset, .unset, .unset, .unset, .unset, .unset, .unset] [])) rfl (hb hby at_28) (by decide) (by decide)
  obtain ⟨b4, g4⟩ : ∃ z, z = h0.size := ⟨_, rfl⟩
  rw [← g4] at A4 D4 st4
  refine own_go st4 ?_
  have g_b4 : n0 ≤ b4 := Nat.le_trans Z0 (Nat.le_of_eq g4.symm)
  have Z4 := Nat.le_trans Z0 E4.1
  have O4 := O0.ext E4
  have F_kind_b4 : Fld Z h4 b4 "com/example/porthcurno/porthcurno/ConsumerLink" "kind" "Lcom/example/porthcurno/porthcurno/ConsumerLink$Kind;" .null := D4 (Or.inr (hw _ (List.mem_of_getElem? (i := 28) rfl))) (ty := (.object "com/example/porthcurno/porthcurno/ConsumerLink$Kind")) (by decide)
  have F_number_b4 : Fld Z h4 b4 "com/example/porthcurno/porthcurno/ConsumerLink" "number" "J" (.long (0 : Int64)) := D4 (Or.inr (hw _ (List.mem_of_getElem? (i := 30) rfl))) (ty := .long) (by decide)
  show own_Ends p e below s _ _ _ (T4.setTop (mkF m 31 #[.val (.long q1), .second, .val (.int p2), .val (.int p3), .val (.int p4), .val (.long nn), .second, .val (.ref (own_kind wC wA wK p2)), .val (.ref (own_kind wC wA wK p3)), .val (.ref (own_kind wC wA wK p4)), .unset, .unset, .unset, .unset, .unset, .unset, .unset] [(.ref b4)]))
  refine own_go (fun _ k => XS.dup X4.here hx rfl (hb hby at_31) rfl rfl <| XS.aload X4.here hx rfl (hb hby at_32) rfl rfl <| XS.lload X4.here hx rfl (hb hby at_34) rfl <| k) ?_
  show own_Ends p e below s _ _ _ (T4.setTop (mkF m 36 #[.val (.long q1), .second, .val (.int p2), .val (.int p3), .val (.int p4), .val (.long nn), .second, .val (.ref (own_kind wC wA wK p2)), .val (.ref (own_kind wC wA wK p3)), .val (.ref (own_kind wC wA wK p4)), .unset, .unset, .unset, .unset, .unset, .unset, .unset] [(.long nn), (.ref (own_kind wC wA wK p2)), (.ref b4), (.ref b4)]))
  obtain ⟨_, _, ⟨T5, L5, k5, n5⟩, -, X5, ⟨Lc5, hQ5, l5, y5, z5⟩, st5⟩ := X4.specialBack hx (y := (⟨"com/example/porthcurno/porthcurno/ConsumerLink", "<init>", "(Lcom/example/porthcurno/porthcurno/ConsumerLink$Kind;J)V"⟩ : MethodName)) rfl hown (mvT hZ (hw _ (List.mem_of_getElem? (i := 16) rfl))) (mvT hZ (hw _ (List.mem_of_getElem? (i := 17) rfl))) (mvT hZ (hw _ (List.mem_of_getElem? (i := 18) rfl))) (by decide) (backOf (W := 1) (rm2 l Z a0 hw [] b4 (own_kind wC wA wK p2) nn  h4 n0 Z4 A4 F_kind_b4 F_number_b4 g_b4 ) hZ (hw _ (List.mem_of_getElem? (i := 18) rfl)) (hw _ (List.mem_of_getElem? (i := 15) rfl)) (by decide) (by decide)) (g := (mkF m 36 #[.val (.long q1), .second, .val (.int p2), .val (.int p3), .val (.int p4), .val (.long nn), .second, .val (.ref (own_kind wC wA wK p2)), .val (.ref (own_kind wC wA wK p3)), .val (.ref (own_kind wC wA wK p4)), .unset, .unset, .unset, .unset, .unset, .unset, .unset] [(.long nn), (.ref (own_kind wC wA wK p2)), (.ref b4), (.ref b4)])) rfl (by rw [hml]; rfl) (Steps.refl _) (a := b4) (argsL := [(.ref (own_kind wC wA wK p2)), (.long nn)]) (rest := [(.ref b4)]) (lenOf pd_1 rfl) rfl (by show 2 * 0 + _ ≤ _; exact Nat.le_of_eq rfl) (hb hby at_36) (fun _ _ => ⟨rfl, e4, Nat.le_of_ble_eq_true rfl, Nat.le_of_ble_eq_true rfl⟩)
  dsimp only [Pt.U, Pt.locs, Pt.cells, Pt.slots] at X5 l5 y5 z5 st5 hQ5
  subst l5 y5 z5
  obtain ⟨rfl, N5q, K5, Fc05, Fc15⟩ := hQ5
  have N5 := Fr.app N3 N5q
  refine own_go (fun _ k => st5.trans k) ?_
  have A4'5 := A4.keep K5
  have Z5 := Nat.le_trans Z4 K5.1
  have O5 := O4.keep K5 (allS g_b4 all0)
  show own_Ends p e below s _ _ _ (T5.setTop (mkF m 39 #[.val (.long q1), .second, .val (.int p2), .val (.int p3), .val (.int p4), .val (.long nn), .second, .val (.ref (own_kind wC wA wK p2)), .val (.ref (own_kind wC wA wK p3)), .val (.ref (own_kind wC wA wK p4)), .unset, .unset, .unset, .unset, .unset, .unset, .unset] [(.ref b4)]))
  refine own_go (fun _ k => XS.astore X5.here hx rfl (hb hby at_39) rfl rfl (l' := #[.val (.long q1), .second, .val (.int p2), .val (.int p3), .val (.int p4), .val (.long nn), .second, .val (.ref (own_kind wC wA wK p2)), .val (.ref (own_kind wC wA wK p3)), .val (.ref (own_kind wC wA wK p4)), .val (.ref b4), .unset, .unset, .unset, .unset, .unset, .unset]) rfl <| XS.aload X5.here hx rfl (hb hby at_41) rfl rfl <| XS.aload X5.here hx rfl (hb hby at_43) rfl rfl <| k) ?_
  show own_Ends p e below s _ _ _ (T5.setTop (mkF m 45 #[.val (.long q1), .second, .val (.int p2), .val (.int p3), .val (.int p4), .val (.long nn), .second, .val (.ref (own_kind wC wA wK p2)), .val (.ref (own_kind wC wA wK p3)), .val (.ref (own_kind wC wA wK p4)), .val (.ref b4), .unset, .unset, .unset, .unset, .unset, .unset] [(.ref (own_kind wC wA wK p3)), (.ref b4)]))
  obtain ⟨cq6, kq6, q6a, q6b, q6c⟩ := isOf hZ rfl A4'5
  obtain ⟨_, _, ⟨T6, L6, k6, n6⟩, -, X6, ⟨Lc6, hQ6, l6, y6, z6⟩, st6⟩ := X5.virtualBack hx (y := (⟨"com/example/porthcurno/porthcurno/ConsumerLink", "next", "(Lcom/example/porthcurno/porthcurno/ConsumerLink$Kind;)Lcom/example/porthcurno/porthcurno/ConsumerLink;"⟩ : MethodName)) (z := (⟨"com/example/porthcurno/porthcurno/ConsumerLink", "next", "(Lcom/example/porthcurno/porthcurno/ConsumerLink$Kind;)Lcom/example/porthcurno/porthcurno/ConsumerLink;"⟩ : MethodName)) hown (mvT hZ (hw _ (List.mem_of_getElem? (i := 31) rfl))) (mvT hZ (hw _ (List.mem_of_getElem? (i := 32) rfl))) (notFace_of_selects (args := #[]) (mvT hZ (hw _ (List.mem_of_getElem? (i := 34) rfl)))) (mvT hZ (hw _ (List.mem_of_getElem? (i := 34) rfl))) (mvT hZ (hw _ (List.mem_of_getElem? (i := 33) rfl))) (by decide) (backOf (W := 0) (rm5 l Z a0 hw [] b4 (own_kind wC wA wK p3) nn T5.heap n0 Z5 Fc15) hZ (hw _ (List.mem_of_getElem? (i := 35) rfl)) (hw _ (List.mem_of_getElem? (i := 15) rfl)) (by decide) (by decide)) q6a q6c (g := (mkF m 45 #[.val (.long q1), .second, .val (.int p2), .val (.int p3), .val (.int p4), .val (.long nn), .second, .val (.ref (own_kind wC wA wK p2)), .val (.ref (own_kind wC wA wK p3)), .val (.ref (own_kind wC wA wK p4)), .val (.ref b4), .unset, .unset, .unset, .unset, .unset, .unset] [(.ref (own_kind wC wA wK p3)), (.ref b4)])) rfl (by rw [hml]; rfl) (Steps.refl _) (argsL := [(.ref (own_kind wC wA wK p3))]) (rest := []) (lenOf pd_3 rfl) rfl (by show 2 * 0 + _ ≤ _; exact Nat.le_of_eq rfl) (hb hby at_45) (fun _ _ => ⟨rfl, rfl, Nat.le_of_ble_eq_true rfl, Nat.le_of_ble_eq_true rfl⟩)
  dsimp only [Pt.U, Pt.locs, Pt.cells, Pt.slots] at X6 l6 y6 z6 st6 hQ6
  subst l6 y6 z6
  obtain ⟨b6, rfl, N6q, K6, g6, Eb6, Fk6, Fh6⟩ := hQ6
  have N6 := Fr.app N5 N6q
  refine own_go (fun _ k => st6.trans k) ?_
  have A4'6 := A4'5.keep K6
  have Fc05'6 := Fc05.keep K6 nin0
  have Fc15'6 := Fc15.keep K6 nin0
  have Z6 := Nat.le_trans Z5 K6.1
  have O6 := O5.keep K6 all0
  show own_Ends p e below s _ _ _ (T6.setTop (mkF m 48 #[.val (.long q1), .second, .val (.int p2), .val (.int p3), .val (.int p4), .val (.long nn), .second, .val (.ref (own_kind wC wA wK p2)), .val (.ref (own_kind wC wA wK p3)), .val (.ref (own_kind wC wA wK p4)), .val (.ref b4), .unset, .unset, .unset, .unset, .unset, .unset] [(.ref b6)]))
  refine own_go (fun _ k => XS.astore X6.here hx rfl (hb hby at_48) rfl rfl (l' := #[.val (.long q1), .second, .val (.int p2), .val (.int p3), .val (.int p4), .val (.long nn), .second, .val (.ref (own_kind wC wA wK p2)), .val (.ref (own_kind wC wA wK p3)), .val (.ref (own_kind wC wA wK p4)), .val (.ref b4), .val (.ref b6), .unset, .unset, .unset, .unset, .unset]) rfl <| XS.aload X6.here hx rfl (hb hby at_50) rfl rfl <| XS.aload X6.here hx rfl (hb hby at_52) rfl rfl <| k) ?_
  show own_Ends p e below s _ _ _ (T6.setTop (mkF m 54 #[.val (.long q1), .second, .val (.int p2), .val (.int p3), .val (.int p4), .val (.long nn), .second, .val (.ref (own_kind wC wA wK p2)), .val (.ref (own_kind wC wA wK p3)), .val (.ref (own_kind wC wA wK p4)), .val (.ref b4), .val (.ref b6), .unset, .unset, .unset, .unset, .unset] [(.ref (own_kind wC wA wK p4)), (.ref b6)]))
  obtain ⟨cq7, kq7, q7a, q7b, q7c⟩ := isOf hZ rfl Eb6
  obtain ⟨_, _, ⟨T7, L7, k7, n7⟩, -, X7, ⟨Lc7, hQ7, l7, y7, z7⟩, st7⟩ := X6.virtualBack hx (y := (⟨"com/example/porthcurno/porthcurno/ConsumerLink", "next", "(Lcom/example/porthcurno/porthcurno/ConsumerLink$Kind;)Lcom/example/porthcurno/porthcurno/ConsumerLink;"⟩ : MethodName)) (z := (⟨"com/example/porthcurno/porthcurno/ConsumerLink", "next", "(Lcom/example/porthcurno/porthcurno/ConsumerLink$Kind;)Lcom/example/porthcurno/porthcurno/ConsumerLink;"⟩ : MethodName)) hown (mvT hZ (hw _ (List.mem_of_getElem? (i := 31) rfl))) (mvT hZ (hw _ (List.mem_of_getElem? (i := 32) rfl))) (notFace_of_selects (args := #[]) (mvT hZ (hw _ (List.mem_of_getElem? (i := 34) rfl)))) (mvT hZ (hw _ (List.mem_of_getElem? (i := 34) rfl))) (mvT hZ (hw _ (List.mem_of_getElem? (i := 33) rfl))) (by decide) (backOf (W := 0) (rm5 l Z a0 hw [] b6 (own_kind wC wA wK p4) (nn + (1 : Int64)) T6.heap n0 Z6 Fh6) hZ (hw _ (List.mem_of_getElem? (i := 35) rfl)) (hw _ (List.mem_of_getElem? (i := 15) rfl)) (by decide) (by decide)) q7a q7c (g := (mkF m 54 #[.val (.long q1), .second, .val (.int p2), .val (.int p3), .val (.int p4), .val (.long nn), .second, .val (.ref (own_kind wC wA wK p2)), .val (.ref (own_kind wC wA wK p3)), .val (.ref (own_kind wC wA wK p4)), .val (.ref b4), .val (.ref b6), .unset, .unset, .unset, .unset, .unset] [(.ref (own_kind wC wA wK p4)), (.ref b6)])) rfl (by rw [hml]; rfl) (Steps.refl _) (argsL := [(.ref (own_kind wC wA wK p4))]) (rest := []) (lenOf pd_3 rfl) rfl (by show 2 * 0 + _ ≤ _; exact Nat.le_of_eq rfl) (hb hby at_54) (fun _ _ => ⟨rfl, rfl, Nat.le_of_ble_eq_true rfl, Nat.le_of_ble_eq_true rfl⟩)
  dsimp only [Pt.U, Pt.locs, Pt.cells, Pt.slots] at X7 l7 y7 z7 st7 hQ7
  subst l7 y7 z7
  obtain ⟨b7, rfl, N7q, K7, g7, Eb7, Fk7, Fh7⟩ := hQ7
  have N7 := Fr.app N6 N7q
  refine own_go (fun _ k => st7.trans k) ?_
  have A4'7 := A4'6.keep K7
  have Fc05'7 := Fc05'6.keep K7 nin0
  have Fc15'7 := Fc15'6.keep K7 nin0
  have Eb6'7 := Eb6.keep K7
  have Fk6'7 := Fk6.keep K7 nin0
  have Fh6'7 := Fh6.keep K7 nin0
  have Z7 := Nat.le_trans Z6 K7.1
  have O7 := O6.keep K7 all0
  show own_Ends p e below s _ _ _ (T7.setTop (mkF m 57 #[.val (.long q1), .second, .val (.int p2), .val (.int p3), .val (.int p4), .val (.long nn), .second, .val (.ref (own_kind wC wA wK p2)), .val (.ref (own_kind wC wA wK p3)), .val (.ref (own_kind wC wA wK p4)), .val (.ref b4), .val (.ref b6), .unset, .unset, .unset, .unset, .unset] [(.ref b7)]))
  refine own_go (fun _ k => XS.astore X7.here hx rfl (hb hby at_57) rfl rfl (l' := #[.val (.long q1), .second, .val (.int p2), .val (.int p3), .val (.int p4), .val (.long nn), .second, .val (.ref (own_kind wC wA wK p2)), .val (.ref (own_kind wC wA wK p3)), .val (.ref (own_kind wC wA wK p4)), .val (.ref b4), .val (.ref b6), .val (.ref b7), .unset, .unset, .unset, .unset]) rfl <| XS.aload X7.here hx rfl (hb hby at_59) rfl rfl <| k) ?_
  show own_Ends p e below s _ _ _ (T7.setTop (mkF m 61 #[.val (.long q1), .second, .val (.int p2), .val (.int p3), .val (.int p4), .val (.long nn), .second, .val (.ref (own_kind wC wA wK p2)), .val (.ref (own_kind wC wA wK p3)), .val (.ref (own_kind wC wA wK p4)), .val (.ref b4), .val (.ref b6), .val (.ref b7), .unset, .unset, .unset, .unset] [(.ref b6)]))
  obtain ⟨cq8, kq8, q8a, q8b, q8c⟩ := isOf hZ rfl Eb6'7
  obtain ⟨_, _, ⟨T8, L8, k8, n8⟩, -, X8, ⟨Lc8, hQ8, l8, y8, z8⟩, st8⟩ := X7.virtualBack hx (y := (⟨"com/example/porthcurno/porthcurno/ConsumerLink", "number", "()J"⟩ : MethodName)) (z := (⟨"com/example/porthcurno/porthcurno/ConsumerLink", "number", "()J"⟩ : MethodName)) hown (mvT hZ (hw _ (List.mem_of_getElem? (i := 38) rfl))) (mvT hZ (hw _ (List.mem_of_getElem? (i := 39) rfl))) (notFace_of_selects (args := #[]) (mvT hZ (hw _ (List.mem_of_getElem? (i := 41) rfl)))) (mvT hZ (hw _ (List.mem_of_getElem? (i := 41) rfl))) (mvT hZ (hw _ (List.mem_of_getElem? (i := 40) rfl))) (by decide) (backOf (W := 0) (rm6 l Z a0 hw [] b6 (nn + (1 : Int64)) T7.heap n0 Z7 Fh6'7) hZ (hw _ (List.mem_of_getElem? (i := 42) rfl)) (hw _ (List.mem_of_getElem? (i := 15) rfl)) (by decide) (by decide)) q8a q8c (g := (mkF m 61 #[.val (.long q1), .second, .val (.int p2), .val (.int p3), .val (.int p4), .val (.long nn), .second, .val (.ref (own_kind wC wA wK p2)), .val (.ref (own_kind wC wA wK p3)), .val (.ref (own_kind wC wA wK p4)), .val (.ref b4), .val (.ref b6), .val (.ref b7), .unset, .unset, .unset, .unset] [(.ref b6)])) rfl (by rw [hml]; rfl) (Steps.refl _) (argsL := []) (rest := []) (lenOf pd_4 rfl) rfl (by show 2 * 0 + _ ≤ _; exact Nat.le_of_eq rfl) (hb hby at_61) (fun _ _ => ⟨rfl, rfl, Nat.le_of_ble_eq_true rfl, Nat.le_of_ble_eq_true rfl⟩)
  dsimp only [Pt.U, Pt.locs, Pt.cells, Pt.slots] at X8 l8 y8 z8 st8 hQ8
  subst l8 y8 z8
  obtain ⟨rfl, N8q, e8⟩ := hQ8
  have N8 := Fr.app N7 N8q
  refine own_go (fun _ k => st8.trans k) ?_
  show own_Ends p e below s _ _ _ (T8.setTop (mkF m 64 #[.val (.long q1), .second, .val (.int p2), .val (.int p3), .val (.int p4), .val (.long nn), .second, .val (.ref (own_kind wC wA wK p2)), .val (.ref (own_kind wC wA wK p3)), .val (.ref (own_kind wC wA wK p4)), .val (.ref b4), .val (.ref b6), .val (.ref b7), .unset, .unset, .unset, .unset] [(.long (nn + (1 : Int64)))]))
  refine own_go (fun _ k => XS.lstore X8.here hx rfl (hb hby at_64) rfl (l' := #[.val (.long q1), .second, .val (.int p2), .val (.int p3), .val (.int p4), .val (.long nn), .second, .val (.ref (own_kind wC wA wK p2)), .val (.ref (own_kind wC wA wK p3)), .val (.ref (own_kind wC wA wK p4)), .val (.ref b4), .val (.ref b6), .val (.ref b7), .val (.long (nn + (1 : Int64))), .second, .unset, .unset]) rfl <| XS.aload X8.here hx rfl (hb hby at_66) rfl rfl <| k) ?_
  show own_Ends p e below s _ _ _ (T8.setTop (mkF m 68 #[.val (.long q1), .second, .val (.int p2), .val (.int p3), .val (.int p4), .val (.long nn), .second, .val (.ref (own_kind wC wA wK p2)), .val (.ref (own_kind wC wA wK p3)), .val (.ref (own_kind wC wA wK p4)), .val (.ref b4), .val (.ref b6), .val (.ref b7), .val (.long (nn + (1 : Int64))), .second, .unset, .unset] [(.ref b7)]))
  obtain ⟨cq9, kq9, q9a, q9b, q9c⟩ := isOf hZ e8 Eb7
  obtain ⟨_, _, ⟨T9, L9, k9, n9⟩, -, X9, ⟨Lc9, hQ9, l9, y9, z9⟩, st9⟩ := X8.virtualBack hx (y := (⟨"com/example/porthcurno/porthcurno/ConsumerLink", "number", "()J"⟩ : MethodName)) (z := (⟨"com/example/porthcurno/porthcurno/ConsumerLink", "number", "()J"⟩ : MethodName)) hown (mvT hZ (hw _ (List.mem_of_getElem? (i := 38) rfl))) (mvT hZ (hw _ (List.mem_of_getElem? (i := 39) rfl))) (notFace_of_selects (args := #[]) (mvT hZ (hw _ (List.mem_of_getElem? (i := 41) rfl)))) (mvT hZ (hw _ (List.mem_of_getElem? (i := 41) rfl))) (mvT hZ (hw _ (List.mem_of_getElem? (i := 40) rfl))) (by decide) (backOf (W := 0) (rm6 l Z a0 hw [] b7 ((nn + (1 : Int64)) + (1 : Int64)) T7.heap n0 Z7 Fh7) hZ (hw _ (List.mem_of_getElem? (i := 42) rfl)) (hw _ (List.mem_of_getElem? (i := 15) rfl)) (by decide) (by decide)) q9a q9c (g := (mkF m 68 #[.val (.long q1), .second, .val (.int p2), .val (.int p3), .val (.int p4), .val (.long nn), .second, .val (.ref (own_kind wC wA wK p2)), .val (.ref (own_kind wC wA wK p3)), .val (.ref (own_kind wC wA wK p4)), .val (.ref b4), .val (.ref b6), .val (.ref b7), .val (.long (nn + (1 : Int64))), .second, .unset, .unset] [(.ref b7)])) rfl (by rw [hml]; rfl) (Steps.refl _) (argsL := []) (rest := []) (lenOf pd_4 rfl) rfl (by show 2 * 0 + _ ≤ _; exact Nat.le_of_eq rfl) (hb hby at_68) (fun _ _ => ⟨rfl, e8, Nat.le_of_ble_eq_true rfl, Nat.le_of_ble_eq_true rfl⟩)
  dsimp only [Pt.U, Pt.locs, Pt.cells, Pt.slots] at X9 l9 y9 z9 st9 hQ9
  subst l9 y9 z9
  obtain ⟨rfl, N9q, e9⟩ := hQ9
  have N9 := Fr.app N8 N9q
  refine own_go (fun _ k => st9.trans k) ?_
  show own_Ends p e below s _ _ _ (T9.setTop (mkF m 71 #[.val (.long q1), .second, .val (.int p2), .val (.int p3), .val (.int p4), .val (.long nn), .second, .val (.ref (own_kind wC wA wK p2)), .val (.ref (own_kind wC wA wK p3)), .val (.ref (own_kind wC wA wK p4)), .val (.ref b4), .val (.ref b6), .val (.ref b7), .val (.long (nn + (1 : Int64))), .second, .unset, .unset] [(.long ((nn + (1 : Int64)) + (1 : Int64)))]))
  refine own_go (fun _ k => XS.lstore X9.here hx rfl (hb hby at_71) rfl (l' := #[.val (.long q1), .second, .val (.int p2), .val (.int p3), .val (.int p4), .val (.long nn), .second, .val (.ref (own_kind wC wA wK p2)), .val (.ref (own_kind wC wA wK p3)), .val (.ref (own_kind wC wA wK p4)), .val (.ref b4), .val (.ref b6), .val (.ref b7), .val (.long (nn + (1 : Int64))), .second, .val (.long ((nn + (1 : Int64)) + (1 : Int64))), .second]) rfl <| XS.aload X9.here hx rfl (hb hby at_73) rfl rfl <| k) ?_
  show own_Ends p e below s _ _ _ (T9.setTop (mkF m 75 #[.val (.long q1), .second, .val (.int p2), .val (.int p3), .val (.int p4), .val (.long nn), .second, .val (.ref (own_kind wC wA wK p2)), .val (.ref (own_kind wC wA wK p3)), .val (.ref (own_kind wC wA wK p4)), .val (.ref b4), .val (.ref b6), .val (.ref b7), .val (.long (nn + (1 : Int64))), .second, .val (.long ((nn + (1 : Int64)) + (1 : Int64))), .second] [(.ref b6)]))
  obtain ⟨cq10, kq10, q10a, q10b, q10c⟩ := isOf hZ e9 Eb6'7
  obtain ⟨_, _, ⟨T10, L10, k10, n10⟩, -, X10, ⟨Lc10, hQ10, l10, y10, z10⟩, st10⟩ := X9.virtualBack hx (y := (⟨"com/example/porthcurno/porthcurno/ConsumerLink", "kind", "()Lcom/example/porthcurno/porthcurno/ConsumerLink$Kind;"⟩ : MethodName)) (z := (⟨"com/example/porthcurno/porthcurno/ConsumerLink", "kind", "()Lcom/example/porthcurno/porthcurno/ConsumerLink$Kind;"⟩ : MethodName)) hown (mvT hZ (hw _ (List.mem_of_getElem? (i := 43) rfl))) (mvT hZ (hw _ (List.mem_of_getElem? (i := 44) rfl))) (notFace_of_selects (args := #[]) (mvT hZ (hw _ (List.mem_of_getElem? (i := 46) rfl)))) (mvT hZ (hw _ (List.mem_of_getElem? (i := 46) rfl))) (mvT hZ (hw _ (List.mem_of_getElem? (i := 45) rfl))) (by decide) (backOf (W := 0) (rm7 l Z a0 hw [] b6 (own_kind wC wA wK p3) T7.heap n0 Z7 Fk6'7) hZ (hw _ (List.mem_of_getElem? (i := 47) rfl)) (hw _ (List.mem_of_getElem? (i := 15) rfl)) (by decide) (by decide)) q10a q10c (g := (mkF m 75 #[.val (.long q1), .second, .val (.int p2), .val (.int p3), .val (.int p4), .val (.long nn), .second, .val (.ref (own_kind wC wA wK p2)), .val (.ref (own_kind wC wA wK p3)), .val (.ref (own_kind wC wA wK p4)), .val (.ref b4), .val (.ref b6), .val (.ref b7), .val (.long (nn + (1 : Int64))), .second, .val (.long ((nn + (1 : Int64)) + (1 : Int64))), .second] [(.ref b6)])) rfl (by rw [hml]; rfl) (Steps.refl _) (argsL := []) (rest := []) (lenOf pd_5 rfl) rfl (by show 2 * 0 + _ ≤ _; exact Nat.le_of_eq rfl) (hb hby at_75) (fun _ _ => ⟨rfl, e9, Nat.le_of_ble_eq_true rfl, Nat.le_of_ble_eq_true rfl⟩)
  dsimp only [Pt.U, Pt.locs, Pt.cells, Pt.slots] at X10 l10 y10 z10 st10 hQ10
  subst l10 y10 z10
  obtain ⟨rfl, N10q, e10⟩ := hQ10
  have N10 := Fr.app N9 N10q
  refine own_go (fun _ k => st10.trans k) ?_
  show own_Ends p e below s _ _ _ (T10.setTop (mkF m 78 #[.val (.long q1), .second, .val (.int p2), .val (.int p3), .val (.int p4), .val (.long nn), .second, .val (.ref (own_kind wC wA wK p2)), .val (.ref (own_kind wC wA wK p3)), .val (.ref (own_kind wC wA wK p4)), .val (.ref b4), .val (.ref b6), .val (.ref b7), .val (.long (nn + (1 : Int64))), .second, .val (.long ((nn + (1 : Int64)) + (1 : Int64))), .second] [(.ref (own_kind wC wA wK p3))]))
  refine own_go (fun _ k => XS.aload X10.here hx rfl (hb hby at_78) rfl rfl <| k) ?_
  show own_Ends p e below s _ _ _ (T10.setTop (mkF m 80 #[.val (.long q1), .second, .val (.int p2), .val (.int p3), .val (.int p4), .val (.long nn), .second, .val (.ref (own_kind wC wA wK p2)), .val (.ref (own_kind wC wA wK p3)), .val (.ref (own_kind wC wA wK p4)), .val (.ref b4), .val (.ref b6), .val (.ref b7), .val (.long (nn + (1 : Int64))), .second, .val (.long ((nn + (1 : Int64)) + (1 : Int64))), .second] [(.ref (own_kind wC wA wK p3)), (.ref (own_kind wC wA wK p3))]))
  refine own_go (fun _ k => Jvm.RoadKit.acmp (g := (mkF m 80 #[.val (.long q1), .second, .val (.int p2), .val (.int p3), .val (.int p4), .val (.long nn), .second, .val (.ref (own_kind wC wA wK p2)), .val (.ref (own_kind wC wA wK p3)), .val (.ref (own_kind wC wA wK p4)), .val (.ref b4), .val (.ref b6), .val (.ref b7), .val (.long (nn + (1 : Int64))), .second, .val (.long ((nn + (1 : Int64)) + (1 : Int64))), .second] [(.ref (own_kind wC wA wK p3)), (.ref (own_kind wC wA wK p3))])) X10 hx rfl rfl rfl (pc0 := 80) (pc' := 83) (same := true) rfl (hb hby at_80) rfl (decide_eq_true rfl) (by decide) (by decide) <| XS.lload X10.here hx rfl (hb hby at_83) rfl <| XS.lload X10.here hx rfl (hb hby at_85) rfl <| XS.lsub X10.here hx rfl (hb hby at_87) rfl <| XT.lconstV X10.here hx rfl (1 : Int64) (hb hby at_88) rfl <| XS.lcmp X10.here hx rfl (hb hby at_89) rfl <| XS.ifNo X10.here hx rfl (hb hby at_90) rfl ((if0 _ _).trans (teq ((lw_eq _ _).mpr (own_a1 _))).2) <| XS.lload X10.here hx rfl (hb hby at_93) rfl <| XS.lload X10.here hx rfl (hb hby at_95) rfl <| XS.lcmp X10.here hx rfl (hb hby at_97) rfl <| k) ?_
  show own_Ends p e below s _ _ _ (T10.setTop (mkF m 98 #[.val (.long q1), .second, .val (.int p2), .val (.int p3), .val (.int p4), .val (.long nn), .second, .val (.ref (own_kind wC wA wK p2)), .val (.ref (own_kind wC wA wK p3)), .val (.ref (own_kind wC wA wK p4)), .val (.ref b4), .val (.ref b6), .val (.ref b7), .val (.long (nn + (1 : Int64))), .second, .val (.long ((nn + (1 : Int64)) + (1 : Int64))), .second] [(.int (lcmpW (nn + (1 : Int64)) nn))]))
  refine own_go (fun _ k => XS.ifNo X10.here hx rfl (hb hby at_98) rfl ((if0 _ _).trans (tlt ((lw_gt _ _).mpr (own_lt _ hnn))).2.2.2) <| XS.aload X10.here hx rfl (hb hby at_101) rfl rfl <| k) ?_
  show own_Ends p e below s _ _ _ (T10.setTop (mkF m 103 #[.val (.long q1), .second, .val (.int p2), .val (.int p3), .val (.int p4), .val (.long nn), .second, .val (.ref (own_kind wC wA wK p2)), .val (.ref (own_kind wC wA wK p3)), .val (.ref (own_kind wC wA wK p4)), .val (.ref b4), .val (.ref b6), .val (.ref b7), .val (.long (nn + (1 : Int64))), .second, .val (.long ((nn + (1 : Int64)) + (1 : Int64))), .second] [(.ref b7)]))
  obtain ⟨cq11, kq11, q11a, q11b, q11c⟩ := isOf hZ e10 Eb7
  obtain ⟨_, _, ⟨T11, L11, k11, n11⟩, -, X11, ⟨Lc11, hQ11, l11, y11, z11⟩, st11⟩ := X10.virtualBack hx (y := (⟨"com/example/porthcurno/porthcurno/ConsumerLink", "kind", "()Lcom/example/porthcurno/porthcurno/ConsumerLink$Kind;"⟩ : MethodName)) (z := (⟨"com/example/porthcurno/porthcurno/ConsumerLink", "kind", "()Lcom/example/porthcurno/porthcurno/ConsumerLink$Kind;"⟩ : MethodName)) hown (mvT hZ (hw _ (List.mem_of_getElem? (i := 43) rfl))) (mvT hZ (hw _ (List.mem_of_getElem? (i := 44) rfl))) (notFace_of_selects (args := #[]) (mvT hZ (hw _ (List.mem_of_getElem? (i := 46) rfl)))) (mvT hZ (hw _ (List.mem_of_getElem? (i := 46) rfl))) (mvT hZ (hw _ (List.mem_of_getElem? (i := 45) rfl))) (by decide) (backOf (W := 0) (rm7 l Z a0 hw [] b7 (own_kind wC wA wK p4) T7.heap n0 Z7 Fk7) hZ (hw _ (List.mem_of_getElem? (i := 47) rfl)) (hw _ (List.mem_of_getElem? (i := 15) rfl)) (by decide) (by decide)) q11a q11c (g := (mkF m 103 #[.val (.long q1), .second, .val (.int p2), .val (.int p3), .val (.int p4), .val (.long nn), .second, .val (.ref (own_kind wC wA wK p2)), .val (.ref (own_kind wC wA wK p3)), .val (.ref (own_kind wC wA wK p4)), .val (.ref b4), .val (.ref b6), .val (.ref b7), .val (.long (nn + (1 : Int64))), .second, .val (.long ((nn + (1 : Int64)) + (1 : Int64))), .second] [(.ref b7)])) rfl (by rw [hml]; rfl) (Steps.refl _) (argsL := []) (rest := []) (lenOf pd_5 rfl) rfl (by show 2 * 0 + _ ≤ _; exact Nat.le_of_eq rfl) (hb hby at_103) (fun _ _ => ⟨rfl, e10, Nat.le_of_ble_eq_true rfl, Nat.le_of_ble_eq_true rfl⟩)
  dsimp only [Pt.U, Pt.locs, Pt.cells, Pt.slots] at X11 l11 y11 z11 st11 hQ11
  subst l11 y11 z11
  obtain ⟨rfl, N11q, e11⟩ := hQ11
  have N11 := Fr.app N10 N11q
  refine own_go (fun _ k => st11.trans k) ?_
  show own_Ends p e below s _ _ _ (T11.setTop (mkF m 106 #[.val (.long q1), .second, .val (.int p2), .val (.int p3), .val (.int p4), .val (.long nn), .second, .val (.ref (own_kind wC wA wK p2)), .val (.ref (own_kind wC wA wK p3)), .val (.ref (own_kind wC wA wK p4)), .val (.ref b4), .val (.ref b6), .val (.ref b7), .val (.long (nn + (1 : Int64))), .second, .val (.long ((nn + (1 : Int64)) + (1 : Int64))), .second] [(.ref (own_kind wC wA wK p4))]))
  refine own_go (fun _ k => XS.aload X11.here hx rfl (hb hby at_106) rfl rfl <| k) ?_
  show own_Ends p e below s _ _ _ (T11.setTop (mkF m 108 #[.val (.long q1), .second, .val (.int p2), .val (.int p3), .val (.int p4), .val (.long nn), .second, .val (.ref (own_kind wC wA wK p2)), .val (.ref (own_kind wC wA wK p3)), .val (.ref (own_kind wC wA wK p4)), .val (.ref b4), .val (.ref b6), .val (.ref b7), .val (.long (nn + (1 : Int64))), .second, .val (.long ((nn + (1 : Int64)) + (1 : Int64))), .second] [(.ref (own_kind wC wA wK p4)), (.ref (own_kind wC wA wK p4))]))
  refine own_go (fun _ k => Jvm.RoadKit.acmp (g := (mkF m 108 #[.val (.long q1), .second, .val (.int p2), .val (.int p3), .val (.int p4), .val (.long nn), .second, .val (.ref (own_kind wC wA wK p2)), .val (.ref (own_kind wC wA wK p3)), .val (.ref (own_kind wC wA wK p4)), .val (.ref b4), .val (.ref b6), .val (.ref b7), .val (.long (nn + (1 : Int64))), .second, .val (.long ((nn + (1 : Int64)) + (1 : Int64))), .second] [(.ref (own_kind wC wA wK p4)), (.ref (own_kind wC wA wK p4))])) X11 hx rfl rfl rfl (pc0 := 108) (pc' := 111) (same := true) rfl (hb hby at_108) rfl (decide_eq_true rfl) (by decide) (by decide) <| XS.lload X11.here hx rfl (hb hby at_111) rfl <| XS.lload X11.here hx rfl (hb hby at_113) rfl <| XS.lsub X11.here hx rfl (hb hby at_115) rfl <| X11.ldc2J hx hown (mvT hZ (hw _ (List.mem_of_getElem? (i := 48) rfl))) rfl (hb hby at_116) <| XS.lcmp X11.here hx rfl (hb hby at_119) rfl <| XS.ifNo X11.here hx rfl (hb hby at_120) rfl ((if0 _ _).trans (teq ((lw_eq _ _).mpr (own_a2 _))).2) <| XS.aload X11.here hx rfl (hb hby at_123) rfl rfl <| k) ?_
  show own_Ends p e below s _ _ _ (T11.setTop (mkF m 125 #[.val (.long q1), .second, .val (.int p2), .val (.int p3), .val (.int p4), .val (.long nn), .second, .val (.ref (own_kind wC wA wK p2)), .val (.ref (own_kind wC wA wK p3)), .val (.ref (own_kind wC wA wK p4)), .val (.ref b4), .val (.ref b6), .val (.ref b7), .val (.long (nn + (1 : Int64))), .second, .val (.long ((nn + (1 : Int64)) + (1 : Int64))), .second] [(.ref b4)]))
  obtain ⟨cq12, kq12, q12a, q12b, q12c⟩ := isOf hZ e11 A4'7
  obtain ⟨_, _, ⟨T12, L12, k12, n12⟩, -, X12, ⟨Lc12, hQ12, l12, y12, z12⟩, st12⟩ := X11.virtualBack hx (y := (⟨"com/example/porthcurno/porthcurno/ConsumerLink", "kind", "()Lcom/example/porthcurno/porthcurno/ConsumerLink$Kind;"⟩ : MethodName)) (z := (⟨"com/example/porthcurno/porthcurno/ConsumerLink", "kind", "()Lcom/example/porthcurno/porthcurno/ConsumerLink$Kind;"⟩ : MethodName)) hown (mvT hZ (hw _ (List.mem_of_getElem? (i := 43) rfl))) (mvT hZ (hw _ (List.mem_of_getElem? (i := 44) rfl))) (notFace_of_selects (args := #[]) (mvT hZ (hw _ (List.mem_of_getElem? (i := 46) rfl)))) (mvT hZ (hw _ (List.mem_of_getElem? (i := 46) rfl))) (mvT hZ (hw _ (List.mem_of_getElem? (i := 45) rfl))) (by decide) (backOf (W := 0) (rm7 l Z a0 hw [] b4 (own_kind wC wA wK p2) T7.heap n0 Z7 Fc05'7) hZ (hw _ (List.mem_of_getElem? (i := 47) rfl)) (hw _ (List.mem_of_getElem? (i := 15) rfl)) (by decide) (by decide)) q12a q12c (g := (mkF m 125 #[.val (.long q1), .second, .val (.int p2), .val (.int p3), .val (.int p4), .val (.long nn), .second, .val (.ref (own_kind wC wA wK p2)), .val (.ref (own_kind wC wA wK p3)), .val (.ref (own_kind wC wA wK p4)), .val (.ref b4), .val (.ref b6), .val (.ref b7), .val (.long (nn + (1 : Int64))), .second, .val (.long ((nn + (1 : Int64)) + (1 : Int64))), .second] [(.ref b4)])) rfl (by rw [hml]; rfl) (Steps.refl _) (argsL := []) (rest := []) (lenOf pd_5 rfl) rfl (by show 2 * 0 + _ ≤ _; exact Nat.le_of_eq rfl) (hb hby at_125) (fun _ _ => ⟨rfl, e11, Nat.le_of_ble_eq_true rfl, Nat.le_of_ble_eq_true rfl⟩)
  dsimp only [Pt.U, Pt.locs, Pt.cells, Pt.slots] at X12 l12 y12 z12 st12 hQ12
  subst l12 y12 z12
  obtain ⟨rfl, N12q, e12⟩ := hQ12
  have N12 := Fr.app N11 N12q
  refine own_go (fun _ k => st12.trans k) ?_
  show own_Ends p e below s _ _ _ (T12.setTop (mkF m 128 #[.val (.long q1), .second, .val (.int p2), .val (.int p3), .val (.int p4), .val (.long nn), .second, .val (.ref (own_kind wC wA wK p2)), .val (.ref (own_kind wC wA wK p3)), .val (.ref (own_kind wC wA wK p4)), .val (.ref b4), .val (.ref b6), .val (.ref b7), .val (.long (nn + (1 : Int64))), .second, .val (.long ((nn + (1 : Int64)) + (1 : Int64))), .second] [(.ref (own_kind wC wA wK p2))]))
  refine own_go (fun _ k => XS.aload X12.here hx rfl (hb hby at_128) rfl rfl <| k) ?_
  show own_Ends p e below s _ _ _ (T12.setTop (mkF m 130 #[.val (.long q1), .second, .val (.int p2), .val (.int p3), .val (.int p4), .val (.long nn), .second, .val (.ref (own_kind wC wA wK p2)), .val (.ref (own_kind wC wA wK p3)), .val (.ref (own_kind wC wA wK p4)), .val (.ref b4), .val (.ref b6), .val (.ref b7), .val (.long (nn + (1 : Int64))), .second, .val (.long ((nn + (1 : Int64)) + (1 : Int64))), .second] [(.ref (own_kind wC wA wK p2)), (.ref (own_kind wC wA wK p2))]))
  refine own_go (fun _ k => Jvm.RoadKit.acmp (g := (mkF m 130 #[.val (.long q1), .second, .val (.int p2), .val (.int p3), .val (.int p4), .val (.long nn), .second, .val (.ref (own_kind wC wA wK p2)), .val (.ref (own_kind wC wA wK p3)), .val (.ref (own_kind wC wA wK p4)), .val (.ref b4), .val (.ref b6), .val (.ref b7), .val (.long (nn + (1 : Int64))), .second, .val (.long ((nn + (1 : Int64)) + (1 : Int64))), .second] [(.ref (own_kind wC wA wK p2)), (.ref (own_kind wC wA wK p2))])) X12 hx rfl rfl rfl (pc0 := 130) (pc' := 133) (same := true) rfl (hb hby at_130) rfl (decide_eq_true rfl) (by decide) (by decide) <| XS.aload X12.here hx rfl (hb hby at_133) rfl rfl <| k) ?_
  show own_Ends p e below s _ _ _ (T12.setTop (mkF m 135 #[.val (.long q1), .second, .val (.int p2), .val (.int p3), .val (.int p4), .val (.long nn), .second, .val (.ref (own_kind wC wA wK p2)), .val (.ref (own_kind wC wA wK p3)), .val (.ref (own_kind wC wA wK p4)), .val (.ref b4), .val (.ref b6), .val (.ref b7), .val (.long (nn + (1 : Int64))), .second, .val (.long ((nn + (1 : Int64)) + (1 : Int64))), .second] [(.ref b4)]))
  obtain ⟨cq13, kq13, q13a, q13b, q13c⟩ := isOf hZ e12 A4'7
  obtain ⟨_, _, ⟨T13, L13, k13, n13⟩, -, X13, ⟨Lc13, hQ13, l13, y13, z13⟩, st13⟩ := X12.virtualBack hx (y := (⟨"com/example/porthcurno/porthcurno/ConsumerLink", "number", "()J"⟩ : MethodName)) (z := (⟨"com/example/porthcurno/porthcurno/ConsumerLink", "number", "()J"⟩ : MethodName)) hown (mvT hZ (hw _ (List.mem_of_getElem? (i := 38) rfl))) (mvT hZ (hw _ (List.mem_of_getElem? (i := 39) rfl))) (notFace_of_selects (args := #[]) (mvT hZ (hw _ (List.mem_of_getElem? (i := 41) rfl)))) (mvT hZ (hw _ (List.mem_of_getElem? (i := 41) rfl))) (mvT hZ (hw _ (List.mem_of_getElem? (i := 40) rfl))) (by decide) (backOf (W := 0) (rm6 l Z a0 hw [] b4 nn T7.heap n0 Z7 Fc15'7) hZ (hw _ (List.mem_of_getElem? (i := 42) rfl)) (hw _ (List.mem_of_getElem? (i := 15) rfl)) (by decide) (by decide)) q13a q13c (g := (mkF m 135 #[.val (.long q1), .second, .val (.int p2), .val (.int p3), .val (.int p4), .val (.long nn), .second, .val (.ref (own_kind wC wA wK p2)), .val (.ref (own_kind wC wA wK p3)), .val (.ref (own_kind wC wA wK p4)), .val (.ref b4), .val (.ref b6), .val (.ref b7), .val (.long (nn + (1 : Int64))), .second, .val (.long ((nn + (1 : Int64)) + (1 : Int64))), .second] [(.ref b4)])) rfl (by rw [hml]; rfl) (Steps.refl _) (argsL := []) (rest := []) (lenOf pd_4 rfl) rfl (by show 2 * 0 + _ ≤ _; exact Nat.le_of_eq rfl) (hb hby at_135) (fun _ _ => ⟨rfl, e12, Nat.le_of_ble_eq_true rfl, Nat.le_of_ble_eq_true rfl⟩)
  dsimp only [Pt.U, Pt.locs, Pt.cells, Pt.slots] at X13 l13 y13 z13 st13 hQ13
  subst l13 y13 z13
  obtain ⟨rfl, N13q, e13⟩ := hQ13
  have N13 := Fr.app N12 N13q
  refine own_go (fun _ k => st13.trans k) ?_
  show own_Ends p e below s _ _ _ (T13.setTop (mkF m 138 #[.val (.long q1), .second, .val (.int p2), .val (.int p3), .val (.int p4), .val (.long nn), .second, .val (.ref (own_kind wC wA wK p2)), .val (.ref (own_kind wC wA wK p3)), .val (.ref (own_kind wC wA wK p4)), .val (.ref b4), .val (.ref b6), .val (.ref b7), .val (.long (nn + (1 : Int64))), .second, .val (.long ((nn + (1 : Int64)) + (1 : Int64))), .second] [(.long nn)]))
  refine own_go (fun _ k => XS.lload X13.here hx rfl (hb hby at_138) rfl <| XS.lcmp X13.here hx rfl (hb hby at_140) rfl <| XS.ifNo X13.here hx rfl (hb hby at_141) rfl ((if0 _ _).trans (teq ((lw_eq _ _).mpr rfl)).2) <| XT.iconstV X13.here hx rfl (1 : Int32) (hb hby at_144) rfl <| XS.goto X13.here hx rfl (pc0 := 145) (pc' := 149) rfl (hb hby at_145) (by decide) (by decide) <| k) ?_
  show own_Ends p e below s _ _ _ (T13.setTop (mkF m 149 #[.val (.long q1), .second, .val (.int p2), .val (.int p3), .val (.int p4), .val (.long nn), .second, .val (.ref (own_kind wC wA wK p2)), .val (.ref (own_kind wC wA wK p3)), .val (.ref (own_kind wC wA wK p4)), .val (.ref b4), .val (.ref b6), .val (.ref b7), .val (.long (nn + (1 : Int64))), .second, .val (.long ((nn + (1 : Int64)) + (1 : Int64))), .second] [(.int (1 : Int32))]))
  exact own_retN X13 hx (t := .boolean) hrt (by simp) (hb hby at_149) hlk (show nar .boolean (1 : Int32) = (1 : Int32) from by decide) (by rw [e13]; exact ⟨rfl, N13⟩) (by decide) (by decide)
set_option maxRecDepth 65536 in
set_option maxHeartbeats 40000000 in
theorem comes_1 {Post : Tables → Env → Array Value → State → Outcome → State → Prop} (hpost : ∀ tb e args s v u, (limb_1_1.after args s (.returned v) u = true ∧ limb_1_2.after args s (.returned v) u = true ∧ True) → FrameEnd s (.returned v) u (Jvm.fieldLocs frame_1_writes args s ++ Jvm.arrayLocs frame_1_arrays args s ++ Jvm.staticLocs frame_1_statics s) 16 128 → Post tb e args s (.returned v) u) :
    ArmFor flags0 classFile x code maxLocals ret World_1 tables_1 room_1 Calls_1 rest_1 Pre_1 Post := by
  intro l hfl _ _ p e ha hc hk s m args below hf hA hF happ hP
  obtain ⟨hcalls, hrest, hpre⟩ := hP
  obtain ⟨-, -, -, hnamed, -, -, -, hat⟩ := (Spec.applies_iff hf).mp happ
  obtain ⟨hg, hn⟩ := and_e (Cond.before_iff.mp (show (Jvm.Cond.and given_1 narrow_1).before args s = true from hpre))
  obtain ⟨g1, g2⟩ := and_e hg
  obtain ⟨g3, g4⟩ := and_e g2
  obtain ⟨g5, g6⟩ := and_e g4
  obtain ⟨g7, g8⟩ := and_e g6
  obtain ⟨w0, w1, w2, w3, rfl⟩ : ∃ w0 w1 w2 w3 : Value, args = #[w0, w1, w2, w3] := by
    have hs : args.size = 4 := by simpa [Cond.value, given_1] using g1
    obtain ⟨L⟩ := args
    match L, hs with
    | [w0, w1, w2, w3], _ => exact ⟨w0, w1, w2, w3, rfl⟩
  have hw := fun d (hd : d ∈ tables_1) => atoms_spec (ws := Jvm.Cond.code x code maxLocals ret :: tables_1) hat d (List.mem_cons_of_mem _ hd)
  have hfit : Fit s := fun {y c} hc i hi => by
    obtain ⟨ha, rfl⟩ := Array.getElem?_eq_some_iff.mp hc
    have q := List.all_eq_true.mp ((Array.all_eq_true_iff_forall_mem.mp hF) _ (Array.getElem_mem ha)) i (List.mem_range.mpr hi)
    simpa [Array.getElem?_eq_getElem hi] using q
  obtain ⟨i0, ei0⟩ := isL_v g3
  obtain rfl : w0 = (.long i0) := Option.some.inj ei0
  obtain ⟨i1, ei1⟩ := is_v g5
  obtain rfl : w1 = (.int i1) := Option.some.inj ei1
  obtain ⟨i2, ei2⟩ := is_v g7
  obtain rfl : w2 = (.int i2) := Option.some.inj ei2
  obtain ⟨i3, ei3⟩ := is_v g8
  obtain rfl : w3 = (.int i3) := Option.some.inj ei3
  obtain ⟨m1, m2⟩ := and_e hn
  obtain ⟨m3, m4⟩ := and_e m2
  obtain ⟨wK, evwK⟩ := exa_v m1
  have SwK := Sta.start evwK (Or.inr ⟨(hw _ (List.mem_of_getElem? (i := 7) rfl)), (hw _ (List.mem_of_getElem? (i := 8) rfl))⟩)
  obtain ⟨wA, evwA⟩ := exa_v m3
  have SwA := Sta.start evwA (Or.inr ⟨(hw _ (List.mem_of_getElem? (i := 7) rfl)), (hw _ (List.mem_of_getElem? (i := 10) rfl))⟩)
  obtain ⟨wC, evwC⟩ := exa_v m4
  have SwC := Sta.start evwC (Or.inr ⟨(hw _ (List.mem_of_getElem? (i := 7) rfl)), (hw _ (List.mem_of_getElem? (i := 12) rfl))⟩)
  obtain ⟨n, o, h1, h2, h3, _, L, rfl, ⟨rfl, N⟩, hq⟩ := rm0 l s _ hw tables_1 i0 i1 i2 i3 wC wA wK s.heap s.heap.size (Nat.le_refl _) (Old.start s) SwC SwA SwK p e ha hc hk s m _ below hf ((Spec.applies_iff_loose hf).mp happ).1 ⟨rfl, State.Warmed39.refl s, rfl⟩ trivial
  refine ⟨n, _, h1, h2, h3, hpost _ _ _ _ _ _ ⟨Cond.after_iff.mpr rfl, Cond.after_iff.mpr (eq_i res_at (Term.int_eval (1)) rfl), trivial⟩ ⟨hq.1, hq.2.1, (hq.2.2.sift fun y hy => Or.inr (N y hy)).mono (by decide) (by decide)⟩⟩
theorem main_1_1 : Claimed_1_1 := comes_1 fun _ _ _ _ _ _ h hF => ⟨h.1, hF⟩
theorem main_1_2 : Claimed_1_2 := comes_1 fun _ _ _ _ _ _ h hF => ⟨h.2.1, hF⟩
end Jvm.Pilot.@@N@@
namespace Jvm.Pilot.@@N@@
open Jvm Jvm.ClassFile Sem Op Lib Jvm.Free Jvm.Stand Jvm.Pilot.@@N@@.Jvm.D
/-! MADE BY PROGRAM (witnessworld.py) out of the Statement's table words and the real class files: 14 classes; the members and pool entries that the words name. The judged class is class 1, her method 2. -/
namespace start1
open Jvm.ClassFile
def u (s : String) : CpInfo := .utf8 (stringToUtf16 s)
/-- a pool by its gaps: so many unusable entries, then the entry; so many at the end -/
def gap : Nat → List CpInfo → List CpInfo
  | 0, r => r
  | n + 1, r => .unusable :: gap n r
def poolList (es : List (Nat × CpInfo)) (last : Nat) : List CpInfo := es.foldr (fun e r => gap e.1 (e.2 :: r)) (gap last [])
def pool (es : List (Nat × CpInfo)) (last : Nat) : Array CpInfo := ⟨poolList es last⟩
def fileOf (pool : Array CpInfo) (this : Nat) (attrs : Array Attribute := #[]) (ms : Array MethodInfo := #[]) (fl : Nat := 33) (sup : Nat := 0) (ifs : Array Nat := #[]) (fds : Array FieldInfo := #[]) : ClassFile where
  minorVersion := 0
  majorVersion := 65
  constantPool := pool
  accessFlags := fl
  thisClass := this
  superClass := sup
  interfaces := ifs
  fields := fds
  methods := ms
  attributes := attrs
def plain (name : String) (sup : Option ClassId) : Class where
  name := name
  kind := .ordinary
  loader := none
  accessFlags := 33
  super := sup
  interfaces := #[]
  cf := none
  fields := #[]
  methods := #[]
  instanceTypes := #[]
  staticTypes := #[]
  resolved := #[]
  callSites := []
  init := .initialized
  statics := none
  mirror := none

def pool0 : Array CpInfo := pool [(5, u "<init>"), (0, u "()V"), (1, .class_ 10), (1, u "java/lang/Object")] 113

def k0c0 : Code := { maxStack := 0, maxLocals := 1, code := object_method_1_code, exceptionTable := #[], attributes := #[] }
def k0m0 : Method := { name := "<init>", desc := "()V", sig := { parameters := [], returnType := none }, accessFlags := 1, code := some k0c0 }
/-- java/lang/Object -/
def k0 : Class := { plain "java/lang/Object" none with
  accessFlags := 33
  interfaces := #[]
  cf := some (fileOf pool0 8 #[] #[{ accessFlags := 1, nameIndex := 5, descriptorIndex := 6, attributes := #[] }] 33 0 #[] #[])
  fields := #[]
  methods := #[k0m0]
  instanceTypes := #[]
  staticTypes := #[]
  resolved := Array.replicate 124 none
  statics := none }

def pool1 : Array CpInfo := pool [(2, .class_ 4), (1, u "java/lang/Object"), (0, u "<init>"), (0, u "()V"), (0, .integer 2147483647), (0, .fieldref 9 10), (0, .class_ 11), (0, .nameAndType 12 13), (0, u "com/example/porthcurno/porthcurno/ConsumerLink$Kind"), (0, u "CONSUME_NEXT"), (0, u "Lcom/example/porthcurno/porthcurno/ConsumerLink$Kind;"), (0, .fieldref 9 15), (0, .nameAndType 16 13), (0, u "ACKNOWLEDGE_NEXT"), (0, .fieldref 9 18), (0, .nameAndType 19 13), (0, u "ACKNOWLEDGEMENT"), (0, .long 4611686018427387903), (1, .methodref 23 24), (0, .class_ 25), (0, .nameAndType 26 27), (0, u "com/example/porthcurno/porthcurno/ConsumerLinkNextPinLaw"), (0, u "kindOf"), (0, u "(I)Lcom/example/porthcurno/porthcurno/ConsumerLink$Kind;"), (0, .class_ 29), (0, u "com/example/porthcurno/porthcurno/ConsumerLink"), (0, .methodref 28 31), (0, .nameAndType 5 32), (0, u "(Lcom/example/porthcurno/porthcurno/ConsumerLink$Kind;J)V"), (0, .methodref 28 34), (0, .nameAndType 35 36), (0, u "next"), (0, u "(Lcom/example/porthcurno/porthcurno/ConsumerLink$Kind;)Lcom/example/porthcurno/porthcurno/ConsumerLink;"), (0, .methodref 28 38), (0, .nameAndType 39 40), (0, u "number"), (0, u "()J"), (0, .methodref 28 42), (0, .nameAndType 43 44), (0, u "kind"), (0, u "()Lcom/example/porthcurno/porthcurno/ConsumerLink$Kind;"), (0, .long 2), (4, u "law"), (0, u "(JIII)Z")] 4

def k1m0 : Method := { name := "<init>", desc := "()V", sig := { parameters := [], returnType := none }, accessFlags := 1, code := none }
def k1c1 : Code := { maxStack := 2, maxLocals := 2, code := method_2_code, exceptionTable := #[], attributes := #[] }
def k1m1 : Method := { name := "kindOf", desc := "(I)Lcom/example/porthcurno/porthcurno/ConsumerLink$Kind;", sig := { parameters := [.int], returnType := some (.object "com/example/porthcurno/porthcurno/ConsumerLink$Kind") }, accessFlags := 10, code := some k1c1 }
def k1c2 : Code := { maxStack := 5, maxLocals := 17, code := code, exceptionTable := #[], attributes := #[] }
def k1m2 : Method := { name := "law", desc := "(JIII)Z", sig := { parameters := [.long, .int, .int, .int], returnType := some .boolean }, accessFlags := 9, code := some k1c2 }
/-- com/example/porthcurno/porthcurno/ConsumerLinkNextPinLaw -/
def k1 : Class := { plain "com/example/porthcurno/porthcurno/ConsumerLinkNextPinLaw" (some 0) with
  accessFlags := 49
  interfaces := #[]
  cf := some (fileOf pool1 23 #[] #[{ accessFlags := 1, nameIndex := 5, descriptorIndex := 6, attributes := #[] }, { accessFlags := 10, nameIndex := 26, descriptorIndex := 27, attributes := #[] }, { accessFlags := 9, nameIndex := 50, descriptorIndex := 51, attributes := #[] }] 49 2 #[] #[])
  fields := #[]
  methods := #[k1m0, k1m1, k1m2]
  instanceTypes := #[]
  staticTypes := #[]
  resolved := Array.replicate 56 none
  statics := none }

def pool2 : Array CpInfo := pool [(1, .class_ 2), (0, u "java/lang/constant/Constable"), (0, .class_ 4), (0, u "java/lang/Object")] 6

/-- java/lang/constant/Constable -/
def k2 : Class := { plain "java/lang/constant/Constable" (some 0) with
  accessFlags := 1537
  interfaces := #[]
  cf := some (fileOf pool2 1 #[] #[] 1537 3 #[] #[])
  fields := #[]
  methods := #[]
  instanceTypes := #[]
  staticTypes := #[]
  resolved := Array.replicate 11 none
  statics := none }

def pool3 : Array CpInfo := pool [(1, .class_ 2), (0, u "java/lang/Comparable"), (0, .class_ 4), (0, u "java/lang/Object")] 7

/-- java/lang/Comparable -/
def k3 : Class := { plain "java/lang/Comparable" (some 0) with
  accessFlags := 1537
  interfaces := #[]
  cf := some (fileOf pool3 1 #[] #[] 1537 3 #[] #[])
  fields := #[]
  methods := #[]
  instanceTypes := #[]
  staticTypes := #[]
  resolved := Array.replicate 12 none
  statics := none }

def pool4 : Array CpInfo := pool [(1, .class_ 2), (0, u "java/io/Serializable"), (0, .class_ 4), (0, u "java/lang/Object")] 2

/-- java/io/Serializable -/
def k4 : Class := { plain "java/io/Serializable" (some 0) with
  accessFlags := 1537
  interfaces := #[]
  cf := some (fileOf pool4 1 #[] #[] 1537 3 #[] #[])
  fields := #[]
  methods := #[]
  instanceTypes := #[]
  staticTypes := #[]
  resolved := Array.replicate 7 none
  statics := none }

def pool5 : Array CpInfo := pool [(2, .class_ 4), (1, u "java/lang/Enum"), (0, u "name"), (0, u "Ljava/lang/String;"), (2, u "ordinal"), (0, u "I"), (1, .class_ 14), (1, u "java/lang/Object"), (4, u "hash"), (86, .class_ 108), (1, u "java/lang/Enum$EnumDesc"), (2, .class_ 112), (0, u "java/lang/constant/Constable"), (0, .class_ 114), (0, u "java/lang/Comparable"), (0, .class_ 116), (0, u "java/io/Serializable")] 87

/-- java/lang/Enum -/
def k5 : Class := { plain "java/lang/Enum" (some 0) with
  accessFlags := 1057
  interfaces := #[2, 3, 4]
  cf := some (fileOf pool5 2 #[.nestMembers #[106]] #[] 1057 12 #[111, 113, 115] #[{ accessFlags := 18, nameIndex := 5, descriptorIndex := 6, attributes := #[] }, { accessFlags := 18, nameIndex := 9, descriptorIndex := 10, attributes := #[] }, { accessFlags := 2, nameIndex := 19, descriptorIndex := 10, attributes := #[] }])
  fields := #[{ name := "name", type := (.object "java/lang/String"), accessFlags := 18, slot := 0, constantValue := 0 }, { name := "ordinal", type := .int, accessFlags := 18, slot := 1, constantValue := 0 }, { name := "hash", type := .int, accessFlags := 2, slot := 2, constantValue := 0 }]
  methods := #[]
  instanceTypes := #[(.object "java/lang/String"), .int, .int]
  staticTypes := #[]
  resolved := Array.replicate 204 none
  statics := none }

def pool6 : Array CpInfo := pool [(1, .class_ 2), (0, u "com/example/porthcurno/porthcurno/ConsumerLink$Kind"), (2, u "CONSUME_NEXT"), (0, u "Lcom/example/porthcurno/porthcurno/ConsumerLink$Kind;"), (2, u "ACKNOWLEDGE_NEXT"), (2, u "ACKNOWLEDGEMENT"), (2, u "$VALUES"), (0, u "[Lcom/example/porthcurno/porthcurno/ConsumerLink$Kind;"), (6, .class_ 25), (1, u "java/lang/Enum"), (8, u "header"), (0, u "Ljava/lang/String;"), (2, u "segment"), (69, .class_ 109), (0, u "com/example/porthcurno/porthcurno/ConsumerLink")] 21

/-- com/example/porthcurno/porthcurno/ConsumerLink$Kind -/
def k6 : Class := { plain "com/example/porthcurno/porthcurno/ConsumerLink$Kind" (some 5) with
  accessFlags := 16432
  interfaces := #[]
  cf := some (fileOf pool6 1 #[.nestHost 108] #[] 16432 23 #[] #[{ accessFlags := 16409, nameIndex := 5, descriptorIndex := 6, attributes := #[] }, { accessFlags := 16409, nameIndex := 9, descriptorIndex := 6, attributes := #[] }, { accessFlags := 16409, nameIndex := 12, descriptorIndex := 6, attributes := #[] }, { accessFlags := 18, nameIndex := 34, descriptorIndex := 35, attributes := #[] }, { accessFlags := 18, nameIndex := 38, descriptorIndex := 35, attributes := #[] }, { accessFlags := 4122, nameIndex := 15, descriptorIndex := 16, attributes := #[] }])
  fields := #[{ name := "CONSUME_NEXT", type := (.object "com/example/porthcurno/porthcurno/ConsumerLink$Kind"), accessFlags := 16409, slot := 0, constantValue := 0 }, { name := "ACKNOWLEDGE_NEXT", type := (.object "com/example/porthcurno/porthcurno/ConsumerLink$Kind"), accessFlags := 16409, slot := 1, constantValue := 0 }, { name := "ACKNOWLEDGEMENT", type := (.object "com/example/porthcurno/porthcurno/ConsumerLink$Kind"), accessFlags := 16409, slot := 2, constantValue := 0 }, { name := "header", type := (.object "java/lang/String"), accessFlags := 18, slot := 3, constantValue := 0 }, { name := "segment", type := (.object "java/lang/String"), accessFlags := 18, slot := 4, constantValue := 0 }, { name := "$VALUES", type := (.array (.object "com/example/porthcurno/porthcurno/ConsumerLink$Kind")), accessFlags := 4122, slot := 3, constantValue := 0 }]
  methods := #[]
  instanceTypes := #[(.object "java/lang/String"), .int, .int, (.object "java/lang/String"), (.object "java/lang/String")]
  staticTypes := #[(.object "com/example/porthcurno/porthcurno/ConsumerLink$Kind"), (.object "com/example/porthcurno/porthcurno/ConsumerLink$Kind"), (.object "com/example/porthcurno/porthcurno/ConsumerLink$Kind"), (.array (.object "com/example/porthcurno/porthcurno/ConsumerLink$Kind"))]
  resolved := Array.replicate 131 none
  statics := some 0 }

def pool7 : Array CpInfo := pool [(1, .methodref 2 3), (0, .class_ 4), (0, .nameAndType 5 6), (0, u "java/lang/Object"), (0, u "<init>"), (0, u "()V"), (0, .class_ 8), (0, u "java/lang/Record")] 13

def k7c0 : Code := { maxStack := 1, maxLocals := 1, code := jdk_30_method_1_code, exceptionTable := #[], attributes := #[] }
def k7m0 : Method := { name := "<init>", desc := "()V", sig := { parameters := [], returnType := none }, accessFlags := 4, code := some k7c0 }
/-- java/lang/Record -/
def k7 : Class := { plain "java/lang/Record" (some 0) with
  accessFlags := 1057
  interfaces := #[]
  cf := some (fileOf pool7 7 #[] #[{ accessFlags := 4, nameIndex := 5, descriptorIndex := 6, attributes := #[] }] 1057 2 #[] #[])
  fields := #[]
  methods := #[k7m0]
  instanceTypes := #[]
  staticTypes := #[]
  resolved := Array.replicate 22 none
  statics := none }

def pool8 : Array CpInfo := pool [(1, .methodref 2 3), (0, .class_ 4), (0, .nameAndType 5 6), (0, u "java/lang/Record"), (0, u "<init>"), (0, u "()V"), (0, .fieldref 8 9), (0, .class_ 10), (0, .nameAndType 11 12), (0, u "com/example/porthcurno/porthcurno/ConsumerLink"), (0, u "kind"), (0, u "Lcom/example/porthcurno/porthcurno/ConsumerLink$Kind;"), (0, .fieldref 8 14), (0, .nameAndType 15 16), (0, u "number"), (0, u "J"), (0, .methodref 8 18), (0, .nameAndType 5 19), (0, u "(Lcom/example/porthcurno/porthcurno/ConsumerLink$Kind;J)V"), (15, u "next"), (0, u "(Lcom/example/porthcurno/porthcurno/ConsumerLink$Kind;)Lcom/example/porthcurno/porthcurno/ConsumerLink;"), (3, u "()Lcom/example/porthcurno/porthcurno/ConsumerLink$Kind;"), (0, u "()J"), (3, .class_ 46), (0, u "com/example/porthcurno/porthcurno/ConsumerLink$Kind")] 20

def k8c0 : Code := { maxStack := 3, maxLocals := 4, code := prog_2_method_1_code, exceptionTable := #[], attributes := #[] }
def k8m0 : Method := { name := "<init>", desc := "(Lcom/example/porthcurno/porthcurno/ConsumerLink$Kind;J)V", sig := { parameters := [(.object "com/example/porthcurno/porthcurno/ConsumerLink$Kind"), .long], returnType := none }, accessFlags := 0, code := some k8c0 }
def k8c1 : Code := { maxStack := 7, maxLocals := 2, code := prog_2_method_2_code, exceptionTable := #[], attributes := #[] }
def k8m1 : Method := { name := "next", desc := "(Lcom/example/porthcurno/porthcurno/ConsumerLink$Kind;)Lcom/example/porthcurno/porthcurno/ConsumerLink;", sig := { parameters := [(.object "com/example/porthcurno/porthcurno/ConsumerLink$Kind")], returnType := some (.object "com/example/porthcurno/porthcurno/ConsumerLink") }, accessFlags := 0, code := some k8c1 }
def k8c2 : Code := { maxStack := 1, maxLocals := 1, code := prog_2_method_6_code, exceptionTable := #[], attributes := #[] }
def k8m2 : Method := { name := "kind", desc := "()Lcom/example/porthcurno/porthcurno/ConsumerLink$Kind;", sig := { parameters := [], returnType := some (.object "com/example/porthcurno/porthcurno/ConsumerLink$Kind") }, accessFlags := 1, code := some k8c2 }
def k8c3 : Code := { maxStack := 2, maxLocals := 1, code := prog_2_method_7_code, exceptionTable := #[], attributes := #[] }
def k8m3 : Method := { name := "number", desc := "()J", sig := { parameters := [], returnType := some .long }, accessFlags := 1, code := some k8c3 }
/-- com/example/porthcurno/porthcurno/ConsumerLink -/
def k8 : Class := { plain "com/example/porthcurno/porthcurno/ConsumerLink" (some 7) with
  accessFlags := 48
  interfaces := #[]
  cf := some (fileOf pool8 8 #[.nestMembers #[45]] #[{ accessFlags := 0, nameIndex := 5, descriptorIndex := 19, attributes := #[] }, { accessFlags := 0, nameIndex := 35, descriptorIndex := 36, attributes := #[] }, { accessFlags := 1, nameIndex := 11, descriptorIndex := 40, attributes := #[] }, { accessFlags := 1, nameIndex := 15, descriptorIndex := 41, attributes := #[] }] 48 2 #[] #[{ accessFlags := 18, nameIndex := 11, descriptorIndex := 12, attributes := #[] }, { accessFlags := 18, nameIndex := 15, descriptorIndex := 16, attributes := #[] }])
  fields := #[{ name := "kind", type := (.object "com/example/porthcurno/porthcurno/ConsumerLink$Kind"), accessFlags := 18, slot := 0, constantValue := 0 }, { name := "number", type := .long, accessFlags := 18, slot := 1, constantValue := 0 }]
  methods := #[k8m0, k8m1, k8m2, k8m3]
  instanceTypes := #[(.object "com/example/porthcurno/porthcurno/ConsumerLink$Kind"), .long]
  staticTypes := #[]
  resolved := Array.replicate 67 none
  statics := none }

def pool9 : Array CpInfo := pool [(1, u "java/lang/Cloneable"), (0, .class_ 1), (0, u "java/lang/Object"), (0, .class_ 3)] 3

/-- java/lang/Cloneable -/
def k9 : Class := { plain "java/lang/Cloneable" (some 0) with
  accessFlags := 1537
  interfaces := #[]
  cf := some (fileOf pool9 2 #[] #[] 1537 4 #[] #[])
  fields := #[]
  methods := #[]
  instanceTypes := #[]
  staticTypes := #[]
  resolved := Array.replicate 8 none
  statics := none }

/-- the primitive byte -/
def k10 : Class := { plain "byte" none with kind := .primitive 'B', accessFlags := 0x411 }
/-- [B -/
def k11 : Class := { plain "[B" (some 0) with kind := .array 10 .byte, interfaces := #[9, 4], accessFlags := 1041 }

/-- the primitive int -/
def k12 : Class := { plain "int" none with kind := .primitive 'I', accessFlags := 0x411 }
/-- [I -/
def k13 : Class := { plain "[I" (some 0) with kind := .array 12 .int, interfaces := #[9, 4], accessFlags := 1041 }

def heap : Heap := #[{ cls := 6, slots := #[.ref 1, .ref 2, .ref 3, .null], vm := .statics 6 },
  { cls := 6, slots := #[.null, .int 0, .int 0, .null, .null], vm := .none },
  { cls := 6, slots := #[.null, .int 0, .int 0, .null, .null], vm := .none },
  { cls := 6, slots := #[.null, .int 0, .int 0, .null, .null], vm := .none }]
def classes : Array Class := #[k0, k1, k2, k3, k4, k5, k6, k7, k8, k9, k10, k11, k12, k13]
def interned : List (Array UInt16 × Addr) := []
def slotsUsed : Nat := 19
def theMethod : MethodId := ⟨1, 2⟩
def args0 : Array Value := #[.long 5, .int 3, .int 3, .int 3]
def aboutOver (below : List Frame) : State where
  vm := { classes := classes, interned := interned.toArray }
  heap := heap
  slotsUsed := slotsUsed
  threads := #[{ frames := .invoking theMethod args0 :: below }]
def below0 : List Frame := [.native { method := ⟨0, 0⟩, args := #[] }]
def about1 : State := aboutOver below0
def p0 : Program := .bare "" "" ""
def e0 : Env := launch0.env 0 0 0
theorem w_frames : about1.frames = Frame.invoking theMethod args0 :: below0 := rfl
set_option maxRecDepth 65536 in
theorem w_args : argsFit about1.vm theMethod args0 = true := by decide +kernel
set_option maxRecDepth 65536 in
theorem w_heap : heapFits about1 = true := by decide +kernel
set_option maxRecDepth 65536 in
theorem w_runnable : about1.curStatus? = some .runnable := by decide +kernel
set_option maxRecDepth 65536 in
theorem w_alone : about1.alone = true := by decide +kernel
set_option maxRecDepth 65536 in
theorem w_named : about1.methodNamed? x = some theMethod := by decide +kernel
set_option maxRecDepth 65536 in
theorem w_hears : about1.hears theMethod below0 = true := by decide +kernel
set_option maxRecDepth 65536 in
theorem w_ripe : about1.ripe theMethod args0 below0 = true := by decide +kernel
theorem w_running : about1.status = .running := rfl
set_option maxRecDepth 65536 in
theorem w_room : about1.hasRoom e0.platform room_1 = true :=
  launch0.hasRoom_least _ room_1 (by decide +kernel) (by decide +kernel) (by decide +kernel) (by decide +kernel) (by decide +kernel) (by decide +kernel)
theorem allAtoms_all (ts : List Jvm.Cond) (a : Array Jvm.Value) (st : Jvm.State) : (allAtoms ts).before a st = ts.all (fun c => c.before a st) := by
  induction ts with
  | nil => rfl
  | cons c t ih =>
    show (Jvm.Cond.and c (allAtoms t)).before a st = _
    rw [Jvm.Cond.before_and, ih, List.all_cons]
def words1 : List Jvm.Cond := Jvm.Cond.code x code maxLocals ret :: tables_1
/-- a 'code' word, met by the world's own term for the bytes: nothing is compared byte by byte -/
theorem code_word {y : MethodName} {bytes : ByteArray} {mx : Nat} {rt : Option FieldType} {a : Array Value} {s : State} {m : MethodId} {meth : Method} {c : Code} (h1 : s.methodNamed? y = some m) (h2 : s.vm.method? m = some meth) (h3 : meth.code = some c) (h4 : c.code = bytes)
    (h5 : (c.maxLocals == mx && c.exceptionTable.isEmpty && decide (c.maxStack ≤ mostOperands) && decide (meth.sig.returnType = rt) && !meth.locks && decide (parseMethodDescriptor y.desc = some meth.sig)) = true) : (Jvm.Cond.code y bytes mx rt).before a s = true := by
  simp only [Bool.and_eq_true, beq_iff_eq, Bool.not_eq_true', decide_eq_true_eq] at h5
  obtain ⟨⟨⟨⟨⟨g1, g2⟩, g3⟩, g4⟩, g5⟩, g6⟩ := h5
  simp [Cond.before, Cond.holds, Cond.value, h1, h2, h3, h4, g1, g2, g3, g4, g5, g6]
def isCode : Jvm.Cond → Bool
  | .code _ _ _ _ => true
  | _ => false
theorem all_split {L : List Jvm.Cond} {P : Jvm.Cond → Bool} (h1 : L.all (fun c => isCode c || P c) = true) (h2 : ∀ c ∈ L.filter isCode, P c = true) : L.all P = true := by
  refine List.all_eq_true.mpr fun c hc => ?_
  have h := List.all_eq_true.mp h1 c hc
  rcases Bool.eq_false_or_eq_true (isCode c) with hi | hi
  · exact h2 c (List.mem_filter.mpr ⟨hc, hi⟩)
  · simpa [hi] using h
set_option maxRecDepth 65536 in
theorem w_c0 : (Jvm.Cond.code x code maxLocals ret).before args0 about1 = true := code_word (m := ⟨1, 2⟩) (meth := k1m2) (c := k1c2) (by decide +kernel) rfl rfl rfl (by decide +kernel)
set_option maxRecDepth 65536 in
theorem w_c1 : (Jvm.Cond.code ({ cls := "com/example/porthcurno/porthcurno/ConsumerLinkNextPinLaw", name := "kindOf", desc := "(I)Lcom/example/porthcurno/porthcurno/ConsumerLink$Kind;" } : Jvm.MethodName) method_2_code (2 : Nat) (Option.some (Jvm.ClassFile.FieldType.object "com/example/porthcurno/porthcurno/ConsumerLink$Kind"))).before args0 about1 = true := code_word (m := ⟨1, 1⟩) (meth := k1m1) (c := k1c1) (by decide +kernel) rfl rfl rfl (by decide +kernel)
set_option maxRecDepth 65536 in
theorem w_c2 : (Jvm.Cond.code ({ cls := "com/example/porthcurno/porthcurno/ConsumerLink", name := "<init>", desc := "(Lcom/example/porthcurno/porthcurno/ConsumerLink$Kind;J)V" } : Jvm.MethodName) prog_2_method_1_code (4 : Nat) (Option.none : Option Jvm.ClassFile.FieldType)).before args0 about1 = true := code_word (m := ⟨8, 0⟩) (meth := k8m0) (c := k8c0) (by decide +kernel) rfl rfl rfl (by decide +kernel)
set_option maxRecDepth 65536 in
theorem w_c3 : (Jvm.Cond.code ({ cls := "java/lang/Record", name := "<init>", desc := "()V" } : Jvm.MethodName) jdk_30_method_1_code (1 : Nat) (Option.none : Option Jvm.ClassFile.FieldType)).before args0 about1 = true := code_word (m := ⟨7, 0⟩) (meth := k7m0) (c := k7c0) (by decide +kernel) rfl rfl rfl (by decide +kernel)
set_option maxRecDepth 65536 in
theorem w_c4 : (Jvm.Cond.code ({ cls := "java/lang/Object", name := "<init>", desc := "()V" } : Jvm.MethodName) object_method_1_code (1 : Nat) (Option.none : Option Jvm.ClassFile.FieldType)).before args0 about1 = true := code_word (m := ⟨0, 0⟩) (meth := k0m0) (c := k0c0) (by decide +kernel) rfl rfl rfl (by decide +kernel)
set_option maxRecDepth 65536 in
theorem w_c5 : (Jvm.Cond.code ({ cls := "com/example/porthcurno/porthcurno/ConsumerLink", name := "next", desc := "(Lcom/example/porthcurno/porthcurno/ConsumerLink$Kind;)Lcom/example/porthcurno/porthcurno/ConsumerLink;" } : Jvm.MethodName) prog_2_method_2_code (2 : Nat) (Option.some (Jvm.ClassFile.FieldType.object "com/example/porthcurno/porthcurno/ConsumerLink"))).before args0 about1 = true := code_word (m := ⟨8, 1⟩) (meth := k8m1) (c := k8c1) (by decide +kernel) rfl rfl rfl (by decide +kernel)
set_option maxRecDepth 65536 in
theorem w_c6 : (Jvm.Cond.code ({ cls := "com/example/porthcurno/porthcurno/ConsumerLink", name := "number", desc := "()J" } : Jvm.MethodName) prog_2_method_7_code (1 : Nat) (Option.some Jvm.ClassFile.FieldType.long)).before args0 about1 = true := code_word (m := ⟨8, 3⟩) (meth := k8m3) (c := k8c3) (by decide +kernel) rfl rfl rfl (by decide +kernel)
set_option maxRecDepth 65536 in
theorem w_c7 : (Jvm.Cond.code ({ cls := "com/example/porthcurno/porthcurno/ConsumerLink", name := "kind", desc := "()Lcom/example/porthcurno/porthcurno/ConsumerLink$Kind;" } : Jvm.MethodName) prog_2_method_6_code (1 : Nat) (Option.some (Jvm.ClassFile.FieldType.object "com/example/porthcurno/porthcurno/ConsumerLink$Kind"))).before args0 about1 = true := code_word (m := ⟨8, 2⟩) (meth := k8m2) (c := k8c2) (by decide +kernel) rfl rfl rfl (by decide +kernel)
def codes1 : List Jvm.Cond := [Jvm.Cond.code x code maxLocals ret, Jvm.Cond.code ({ cls := "com/example/porthcurno/porthcurno/ConsumerLinkNextPinLaw", name := "kindOf", desc := "(I)Lcom/example/porthcurno/porthcurno/ConsumerLink$Kind;" } : Jvm.MethodName) method_2_code (2 : Nat) (Option.some (Jvm.ClassFile.FieldType.object "com/example/porthcurno/porthcurno/ConsumerLink$Kind")), Jvm.Cond.code ({ cls := "com/example/porthcurno/porthcurno/ConsumerLink", name := "<init>", desc := "(Lcom/example/porthcurno/porthcurno/ConsumerLink$Kind;J)V" } : Jvm.MethodName) prog_2_method_1_code (4 : Nat) (Option.none : Option Jvm.ClassFile.FieldType), Jvm.Cond.code ({ cls := "java/lang/Record", name := "<init>", desc := "()V" } : Jvm.MethodName) jdk_30_method_1_code (1 : Nat) (Option.none : Option Jvm.ClassFile.FieldType), Jvm.Cond.code ({ cls := "java/lang/Object", name := "<init>", desc := "()V" } : Jvm.MethodName) object_method_1_code (1 : Nat) (Option.none : Option Jvm.ClassFile.FieldType), Jvm.Cond.code ({ cls := "com/example/porthcurno/porthcurno/ConsumerLink", name := "next", desc := "(Lcom/example/porthcurno/porthcurno/ConsumerLink$Kind;)Lcom/example/porthcurno/porthcurno/ConsumerLink;" } : Jvm.MethodName) prog_2_method_2_code (2 : Nat) (Option.some (Jvm.ClassFile.FieldType.object "com/example/porthcurno/porthcurno/ConsumerLink")), Jvm.Cond.code ({ cls := "com/example/porthcurno/porthcurno/ConsumerLink", name := "number", desc := "()J" } : Jvm.MethodName) prog_2_method_7_code (1 : Nat) (Option.some Jvm.ClassFile.FieldType.long), Jvm.Cond.code ({ cls := "com/example/porthcurno/porthcurno/ConsumerLink", name := "kind", desc := "()Lcom/example/porthcurno/porthcurno/ConsumerLink$Kind;" } : Jvm.MethodName) prog_2_method_6_code (1 : Nat) (Option.some (Jvm.ClassFile.FieldType.object "com/example/porthcurno/porthcurno/ConsumerLink$Kind"))]
set_option maxRecDepth 65536 in
theorem codes_eq : words1.filter isCode = codes1 := rfl
theorem w_codes : ∀ c ∈ words1.filter isCode, c.before args0 about1 = true := by
  rw [codes_eq]
  intro c hc
  simp only [codes1, List.mem_cons, List.not_mem_nil, or_false] at hc
  rcases hc with rfl | rfl | rfl | rfl | rfl | rfl | rfl | rfl
  · exact w_c0
  · exact w_c1
  · exact w_c2
  · exact w_c3
  · exact w_c4
  · exact w_c5
  · exact w_c6
  · exact w_c7
set_option maxRecDepth 65536 in
theorem w_t1 : (words1.take 24).all (fun c => isCode c || c.before args0 about1) = true := by decide +kernel
set_option maxRecDepth 65536 in
theorem w_t2 : ((words1.drop 24).take 24).all (fun c => isCode c || c.before args0 about1) = true := by decide +kernel
set_option maxRecDepth 65536 in
theorem w_t3 : ((words1.drop 24).drop 24).all (fun c => isCode c || c.before args0 about1) = true := by decide +kernel
theorem w_tables : (allAtoms (Jvm.Cond.code x code maxLocals ret :: tables_1)).before args0 about1 = true := by
  rw [allAtoms_all]
  show words1.all (fun c => c.before args0 about1) = true
  refine all_split ?_ w_codes
  rw [← List.take_append_drop 24 words1, List.all_append, w_t1, ← List.take_append_drop 24 (words1.drop 24), List.all_append, w_t2, w_t3]
  rfl
set_option maxRecDepth 65536 in
theorem w_case : (Jvm.Cond.and given_1 narrow_1).before args0 about1 = true := by decide +kernel
theorem w_applies : (headSpec (Jvm.Cond.code x code maxLocals ret :: tables_1) room_1).applies x e0.platform about1 = true :=
  (Spec.applies_iff w_frames).mpr ⟨w_running, w_runnable, w_alone, w_named, w_hears, w_ripe, w_room, w_tables⟩
theorem atStart : AtStart classFile x code maxLocals ret World_1 tables_1 room_1 Calls_1 rest_1 Pre_1 launch0 p0 e0 about1 theMethod args0 below0 :=
  ⟨lists_1, trivial, launch0.admits_env _ _ _, launch0.least_env, fairChoices_fair.cas, fairChoices_fair.clock, w_frames, w_args, w_heap, w_applies, trivial, trivial, w_case⟩
end start1
theorem witness_1 : WitnessClaimed_1 := ⟨start1.p0, start1.e0, start1.about1, start1.theMethod, start1.args0, start1.below0, start1.atStart⟩
end Jvm.Pilot.@@N@@
