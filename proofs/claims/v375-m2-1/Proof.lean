import JvmDerived
import JvmDerived.Pilot.@@N@@Statement
import JvmDerived.Pilot.@@N@@Code
set_option linter.unusedVariables false
set_option linter.unusedSimpArgs false
namespace Jvm.Pilot.@@N@@
open Jvm Jvm.ClassFile Sem Op Lib Jvm.Free Jvm.Stand Jvm.LawKit Jvm.RoadKit Bundle Jvm.Pilot.@@N@@.Jvm.D
/-! the walk's goal in continuation style -/
def own_Ends (p : Program) (e : Env) (below : List Frame) (s : State) (Q : Option Value → Heap → List Loc → Prop) (k n : Nat) (t : State) : Prop :=
  ∃ s₂ o, Steps p.tables e below t s₂ ∧ s₂.status = .running ∧ Ended s₂ below o ∧ ∃ v L, o = .returned v ∧ Q v s₂.heap L ∧ FrameEnd s o s₂ L k n
section OwnEnds
variable {p : Program} {l : Launch} {e : Env} {R : Room} {s : State} {m : MethodId} {args : Array Value} {below : List Frame} {meth : Method} {c : Code} {T : State} {locs : List Loc} {cells slots : Nat} {Q : Option Value → Heap → List Loc → Prop} {k n : Nat}
theorem own_go {t t' : State} (h : ∀ u, Steps p.tables e below t' u → Steps p.tables e below t u) (g : own_Ends p e below s Q k n t') : own_Ends p e below s Q k n t := by
  obtain ⟨s₂, o, h1, h2⟩ := g
  exact ⟨s₂, o, h _ h1, h2⟩
theorem own_retN (X : Stand p l e R s m args below meth c T locs cells slots) (hx : p.tables.exec = Jvm.exec) {pc : Nat} {Ls : Array Slot} {z w : Int32} {t : FieldType} {rest : List Value} (hret : meth.sig.returnType = some t) (ht : t = .boolean ∨ t = .byte ∨ t = .char ∨ t = .short)
    (hd : decode c.code pc = .ok (.ireturn, 1)) (hlk : meth.locks = false) (hz : nar t z = w) (hQ : Q (some (.int w)) T.heap locs) (hk : cells ≤ k) (hn : slots ≤ n) : own_Ends p e below s Q k n (T.setTop (mkF m pc Ls (.int z :: rest))) := by
  subst hz
  obtain ⟨fs, hr, hrun, hended, hW, hsame⟩ := X.leave (v := some (.int (nar t z))) (fun h => by rw [hret] at h; cases h) hlk
  exact ⟨_, _, retN X hx hret ht hd hr, hrun, hended, _, _, rfl, hQ, ⟨_, rfl⟩, hW, hsame.mono hk hn⟩
theorem own_ret (X : Stand p l e R s m args below meth c T locs cells slots) (hx : p.tables.exec = Jvm.exec) {pc : Nat} {Ls : Array Slot} {w : Value} {t : FieldType} {i : Instr} {rest : List Value} (hret : meth.sig.returnType = some t) (hn' : narrow t w = w)
    (hi : (i = .ireturn ∧ (t = .int ∨ t = .boolean ∨ t = .byte ∨ t = .char ∨ t = .short) ∧ ∃ z, w = .int z) ∨ (i = .lreturn ∧ t = .long ∧ ∃ z, w = .long z) ∨ (i = .dreturn ∧ t = .double ∧ ∃ z, w = .double z) ∨ (i = .freturn ∧ t = .float ∧ ∃ z, w = .float z) ∨ (i = .areturn ∧ t.isReference = true ∧ w.isRef = true))
    (hd : decode c.code pc = .ok (i, 1)) (hlk : meth.locks = false) (hQ : Q (some w) T.heap locs) (hk : cells ≤ k) (hn : slots ≤ n) : own_Ends p e below s Q k n (T.setTop (mkF m pc Ls (w :: rest))) := by
  obtain ⟨fs, hr, hrun, hended, hW, hsame⟩ := X.leave (v := some w) (fun h => by rw [hret] at h; cases h) hlk
  exact ⟨_, _, retOut X hx hret hn' hi hd hr, hrun, hended, _, _, rfl, hQ, ⟨_, rfl⟩, hW, hsame.mono hk hn⟩
theorem own_ret0 (X : Stand p l e R s m args below meth c T locs cells slots) (hx : p.tables.exec = Jvm.exec) {pc : Nat} {Ls : Array Slot} (hret : meth.sig.returnType = none)
    (hd : decode c.code pc = .ok (.return_, 1)) (hlk : meth.locks = false) (hQ : Q none T.heap locs) (hk : cells ≤ k) (hn : slots ≤ n) : own_Ends p e below s Q k n (T.setTop (mkF m pc Ls [])) := by
  obtain ⟨fs, hr, hrun, hended, hW, hsame⟩ := X.leave (v := none) (fun _ => rfl) hlk
  exact ⟨_, _, X.returnOut hx hret hd hr, hrun, hended, _, _, rfl, hQ, ⟨_, rfl⟩, hW, hsame.mono hk hn⟩
end OwnEnds
theorem pd_0 : parseMethodDescriptor "(I)Lcom/example/expiry/expiry/model/TaskStatus;" = some ⟨[.int], some (.object "com/example/expiry/expiry/model/TaskStatus")⟩ := by decide +kernel
theorem pd_1 : parseMethodDescriptor "(ZZ)Lcom/example/expiry/expiry/model/TaskStatus;" = some ⟨[.boolean, .boolean], some (.object "com/example/expiry/expiry/model/TaskStatus")⟩ := by decide +kernel
theorem own_ord {args : Array Value} {s : State} {t : Term} {C n d : String} {x : Addr} {k : Int32} (ht : t.eval args s none [] s = some (.ref x)) (h : (Jvm.Cond.eq (Jvm.Term.field t C n d) (Jvm.Term.int k)).value args s none s [] = some true) : s.fieldOf? x C n d = some (.int k) := by
  have e := eqv_i (Term.int_eval k) h
  rw [fld_at ht] at e
  exact e
theorem own_ord_ne {args : Array Value} {s : State} {t t' : Term} {C n d : String} {x x' : Addr} {k k' : Int32} (ht : t.eval args s none [] s = some (.ref x)) (ht' : t'.eval args s none [] s = some (.ref x'))
    (h : (Jvm.Cond.eq (Jvm.Term.field t C n d) (Jvm.Term.int k)).value args s none s [] = some true) (h' : (Jvm.Cond.eq (Jvm.Term.field t' C n d) (Jvm.Term.int k')).value args s none s [] = some true) (hk : k ≠ k') : x ≠ x' := by
  intro e
  subst e
  have e1 := own_ord ht h
  rw [own_ord ht' h'] at e1
  exact hk (Value.int.inj (Option.some.inj e1)).symm
def own_pick (wP wR wC wD wX wF : Addr) (i : Int32) : Addr := if i = 0 then wP else if i = 1 then wR else if i = 2 then wC else if i = 3 then wD else if i = 4 then wX else wF
def own_st (wP wR wC wD wX wF : Addr) (a : Addr) (o l : Int32) : Addr := if o = 0 then a else if a = wP then wR else if a = wC then (if l = 0 then wR else wF) else a
theorem own_exa {Z : State} {h : Heap} {C : String} {wP wR wC wD wX wF : Addr} (e0 : Exa Z h wP C) (e1 : Exa Z h wR C) (e2 : Exa Z h wC C) (e3 : Exa Z h wD C) (e4 : Exa Z h wX C) (e5 : Exa Z h wF C) (i : Int32) : Exa Z h (own_pick wP wR wC wD wX wF i) C := by
  unfold own_pick
  repeat' split
  all_goals assumption
theorem own_fin {wP wR wC wD wX wF : Addr} (hd : wC ≠ wP ∧ wR ≠ wP ∧ wR ≠ wC ∧ wD ≠ wP ∧ wD ≠ wC ∧ wX ≠ wP ∧ wX ≠ wC ∧ wF ≠ wP ∧ wF ≠ wC) (i o l want : Int32) (h : want = (if o = 0 then i else if i = 0 then 1 else if i = 2 then (if l = 0 then 1 else 5) else i)) : own_st wP wR wC wD wX wF (own_pick wP wR wC wD wX wF i) o l = own_pick wP wR wC wD wX wF want := by
  obtain ⟨d1, d2, d3, d4, d5, d6, d7, d8, d9⟩ := hd
  subst h
  by_cases h0 : o = 0
  · simp [h0, own_st]
  by_cases i0 : i = 0
  · simp [own_st, own_pick, h0, i0]
  by_cases i1 : i = 1
  · simp [own_st, own_pick, h0, i1, d2, d3]
  by_cases i2 : i = 2
  · by_cases hl : l = 0
    · simp [own_st, own_pick, h0, i2, d1, hl]
    · simp [own_st, own_pick, h0, i2, d1, hl]
  by_cases i3 : i = 3
  · simp [own_st, own_pick, h0, i3, d4, d5]
  by_cases i4 : i = 4
  · simp [own_st, own_pick, h0, i4, d6, d7]
  · simp [own_st, own_pick, h0, i0, i1, i2, i3, i4, d8, d9]
theorem d1_0 : decode method_2_code 0 = .ok (.iload_n 0, 1) := by decide +kernel
theorem d1_1 : decode method_2_code 1 = .ok (.ifCond .ne 7, 3) := by decide +kernel
theorem d1_4 : decode method_2_code 4 = .ok (.getstatic 7, 3) := by decide +kernel
theorem d1_7 : decode method_2_code 7 = .ok (.areturn, 1) := by decide +kernel
theorem d1_8 : decode method_2_code 8 = .ok (.iload_n 0, 1) := by decide +kernel
theorem d1_9 : decode method_2_code 9 = .ok (.iconst 1, 1) := by decide +kernel
theorem d1_10 : decode method_2_code 10 = .ok (.if_icmp .ne 7, 3) := by decide +kernel
theorem d1_13 : decode method_2_code 13 = .ok (.getstatic 13, 3) := by decide +kernel
theorem d1_16 : decode method_2_code 16 = .ok (.areturn, 1) := by decide +kernel
theorem d1_17 : decode method_2_code 17 = .ok (.iload_n 0, 1) := by decide +kernel
theorem d1_18 : decode method_2_code 18 = .ok (.iconst 2, 1) := by decide +kernel
theorem d1_19 : decode method_2_code 19 = .ok (.if_icmp .ne 7, 3) := by decide +kernel
theorem d1_22 : decode method_2_code 22 = .ok (.getstatic 16, 3) := by decide +kernel
theorem d1_25 : decode method_2_code 25 = .ok (.areturn, 1) := by decide +kernel
theorem d1_26 : decode method_2_code 26 = .ok (.iload_n 0, 1) := by decide +kernel
theorem d1_27 : decode method_2_code 27 = .ok (.iconst 3, 1) := by decide +kernel
theorem d1_28 : decode method_2_code 28 = .ok (.if_icmp .ne 7, 3) := by decide +kernel
theorem d1_31 : decode method_2_code 31 = .ok (.getstatic 19, 3) := by decide +kernel
theorem d1_34 : decode method_2_code 34 = .ok (.areturn, 1) := by decide +kernel
theorem d1_35 : decode method_2_code 35 = .ok (.iload_n 0, 1) := by decide +kernel
theorem d1_36 : decode method_2_code 36 = .ok (.iconst 4, 1) := by decide +kernel
theorem d1_37 : decode method_2_code 37 = .ok (.if_icmp .ne 7, 3) := by decide +kernel
theorem d1_40 : decode method_2_code 40 = .ok (.getstatic 22, 3) := by decide +kernel
theorem d1_43 : decode method_2_code 43 = .ok (.areturn, 1) := by decide +kernel
theorem d1_44 : decode method_2_code 44 = .ok (.getstatic 25, 3) := by decide +kernel
theorem d1_47 : decode method_2_code 47 = .ok (.areturn, 1) := by decide +kernel
theorem pn_0 : plainName "com/example/expiry/expiry/model/TaskStatusStandingPinLaw" = true := by first | (simp [plainName, overriddenIn]; done) | decide +kernel
theorem ef_1 (m : MethodId) (x0 : Int32) : entryFrame m #[(.int x0)] 1 = mkF m 0 #[.val (.int x0)] [] := by first | (simp [entryFrame, mkF, argsToLocals, Value.category]; done) | rfl
def Q1 (p1 : Int32) (wP wR wC wD wX wF : Addr) (h0 : Heap) (n0 : Nat) (Z : State) (v : Option Value) (h : Heap) (L : List Loc) : Prop := v = some (.ref (own_pick wP wR wC wD wX wF p1)) ∧ Fr n0 L ∧ h = h0
set_option maxRecDepth 65536 in
set_option maxHeartbeats 40000000 in
theorem rm1 (l : Launch) (Z : State) (a0 : Array Value) (hw : ∀ d ∈ tables_1, d.before a0 Z = true) (ws : List Jvm.Cond) (p1 : Int32) (wP wR wC wD wX wF : Addr) (h0 : Heap) (n0 : Nat) (Z0 : n0 ≤ h0.size) (O0 : Old Z n0 h0) (SwP : Sta Z Z.heap "com/example/expiry/expiry/model/TaskStatus" "PENDING" "Lcom/example/expiry/expiry/model/TaskStatus;" (.ref wP)) (SwR : Sta Z Z.heap "com/example/expiry/expiry/model/TaskStatus" "READY" "Lcom/example/expiry/expiry/model/TaskStatus;" (.ref wR)) (SwC : Sta Z Z.heap "com/example/expiry/expiry/model/TaskStatus" "CLAIMED" "Lcom/example/expiry/expiry/model/TaskStatus;" (.ref wC)) (SwD : Sta Z Z.heap "com/example/expiry/expiry/model/TaskStatus" "DONE" "Lcom/example/expiry/expiry/model/TaskStatus;" (.ref wD)) (SwX : Sta Z Z.heap "com/example/expiry/expiry/model/TaskStatus" "CANCELLED" "Lcom/example/expiry/expiry/model/TaskStatus;" (.ref wX)) (SwF : Sta Z Z.heap "com/example/expiry/expiry/model/TaskStatus" "FAILED" "Lcom/example/expiry/expiry/model/TaskStatus;" (.ref wF)) :
    MetFree l (⟨"com/example/expiry/expiry/model/TaskStatusStandingPinLaw", "pick", "(I)Lcom/example/expiry/expiry/model/TaskStatus;"⟩ : MethodName) (head1 (Jvm.Cond.code (⟨"com/example/expiry/expiry/model/TaskStatusStandingPinLaw", "pick", "(I)Lcom/example/expiry/expiry/model/TaskStatus;"⟩ : MethodName) method_2_code 1 (some (.object "com/example/expiry/expiry/model/TaskStatus")) :: ws) ({ frames := 0, cells := 0, slots := 0, locals := 0 } : Room)) (fun a U => a = #[(.int p1)] ∧ Z.Warmed39 U.vm ∧ U.heap = h0) (fun _ _ _ _ _ => True) (fun _ U o U' => ∃ v L, o = .returned v ∧ Q1 p1 wP wR wC wD wX wF h0 n0 Z v U'.heap L ∧ FrameEnd U o U' L ({ frames := 0, cells := 0, slots := 0, locals := 0 } : Room).cells ({ frames := 0, cells := 0, slots := 0, locals := 0 } : Room).slots) := by
  refine MetFree.of_bodySF (plainFor_of_name pn_0) hisR ?_
  intro p e s m args below meth c s₁ Bd hml0 hP hK
  obtain ⟨rfl, hZ, hh⟩ := hP
  have hx := Bd.exec
  have hby := Bd.bytes
  have hml : c.maxLocals = 1 := hml0
  have hown : s.vm.findClass "com/example/expiry/expiry/model/TaskStatusStandingPinLaw" = some m.cls := findClass_of_methodNamed Bd.named
  have hnm := (name_of_methodNamed Bd.named Bd.method).1
  have hlk := Bd.notSynchronized
  have hrt := Bd.returns
  have X0 : Stand p l e ({ frames := 0, cells := 0, slots := 0, locals := 0 } : Room) s m #[(.int p1)] below meth c s₁ [] 0 0 := Stand.of_body Bd
  have e0 : s₁.heap = h0 := by rw [← hh, Bd.state]; rfl
  have N0 := Fr.nil n0
  show own_Ends p e below s (Q1 p1 wP wR wC wD wX wF h0 n0 Z) ({ frames := 0, cells := 0, slots := 0, locals := 0 } : Room).cells ({ frames := 0, cells := 0, slots := 0, locals := 0 } : Room).slots (s₁.setTop (entryFrame m #[(.int p1)] 1))
  rw [ef_1]
  refine own_go (fun _ k => XS.iloadN X0.here hx rfl (hb hby d1_0) rfl <| k) ?_
  show own_Ends p e below s _ _ _ (s₁.setTop (mkF m 1 #[.val (.int p1)] [(.int p1)]))
  by_cases hc1_1 : p1 = (0 : Int32)
  · -- true
    refine own_go (fun _ k => XS.ifNo X0.here hx rfl (hb hby d1_1) rfl ((if0 _ _).trans (teq hc1_1).2) <| k) ?_
    show own_Ends p e below s _ _ _ (s₁.setTop (mkF m 4 #[.val (.int p1)] []))
    obtain ⟨T2, X2, e2, st2⟩ := getS2 X0 hx hZ hown (host := "") (Or.inl (hw _ (List.mem_of_getElem? (i := 5) rfl))) Via.refl e0 (SwP.ext O0.2) (g := (mkF m 4 #[.val (.int p1)] [])) rfl (hb hby d1_4)
    refine own_go st2 ?_
    show own_Ends p e below s _ _ _ (T2.setTop (mkF m 7 #[.val (.int p1)] [(.ref wP)]))
    exact own_ret X2 hx hrt rfl (Or.inr (Or.inr (Or.inr (Or.inr ⟨rfl, rfl, rfl⟩)))) (hb hby d1_7) hlk (by rw [e2]; exact ⟨by unfold own_pick; rw [if_pos hc1_1], N0, rfl⟩) (by decide) (by decide)
  · -- false
    refine own_go (fun _ k => XS.ifYes X0.here hx rfl (pc0 := 1) (pc' := 8) rfl (hb hby d1_1) rfl ((if0 _ _).trans (feq hc1_1).2) (by decide) (by decide) <| XS.iloadN X0.here hx rfl (hb hby d1_8) rfl <| XT.iconstV X0.here hx rfl (1 : Int32) (hb hby d1_9) rfl <| k) ?_
    show own_Ends p e below s _ _ _ (s₁.setTop (mkF m 10 #[.val (.int p1)] [(.int (1 : Int32)), (.int p1)]))
    by_cases hc10_3 : p1 = (1 : Int32)
    · -- true
      refine own_go (fun _ k => XS.icmpNo X0.here hx rfl (hb hby d1_10) rfl (teq hc10_3).2 <| k) ?_
      show own_Ends p e below s _ _ _ (s₁.setTop (mkF m 13 #[.val (.int p1)] []))
      obtain ⟨T4, X4, e4, st4⟩ := getS2 X0 hx hZ hown (host := "") (Or.inl (hw _ (List.mem_of_getElem? (i := 16) rfl))) Via.refl e0 (SwR.ext O0.2) (g := (mkF m 13 #[.val (.int p1)] [])) rfl (hb hby d1_13)
      refine own_go st4 ?_
      show own_Ends p e below s _ _ _ (T4.setTop (mkF m 16 #[.val (.int p1)] [(.ref wR)]))
      exact own_ret X4 hx hrt rfl (Or.inr (Or.inr (Or.inr (Or.inr ⟨rfl, rfl, rfl⟩)))) (hb hby d1_16) hlk (by rw [e4]; exact ⟨by unfold own_pick; rw [if_neg hc1_1, if_pos hc10_3], N0, rfl⟩) (by decide) (by decide)
    · -- false
      refine own_go (fun _ k => XS.icmpYes X0.here hx rfl (pc0 := 10) (pc' := 17) rfl (hb hby d1_10) rfl (feq hc10_3).2 (by decide) (by decide) <| XS.iloadN X0.here hx rfl (hb hby d1_17) rfl <| XT.iconstV X0.here hx rfl (2 : Int32) (hb hby d1_18) rfl <| k) ?_
      show own_Ends p e below s _ _ _ (s₁.setTop (mkF m 19 #[.val (.int p1)] [(.int (2 : Int32)), (.int p1)]))
      by_cases hc19_5 : p1 = (2 : Int32)
      · -- true
        refine own_go (fun _ k => XS.icmpNo X0.here hx rfl (hb hby d1_19) rfl (teq hc19_5).2 <| k) ?_
        show own_Ends p e below s _ _ _ (s₁.setTop (mkF m 22 #[.val (.int p1)] []))
        obtain ⟨T6, X6, e6, st6⟩ := getS2 X0 hx hZ hown (host := "") (Or.inl (hw _ (List.mem_of_getElem? (i := 17) rfl))) Via.refl e0 (SwC.ext O0.2) (g := (mkF m 22 #[.val (.int p1)] [])) rfl (hb hby d1_22)
        refine own_go st6 ?_
        show own_Ends p e below s _ _ _ (T6.setTop (mkF m 25 #[.val (.int p1)] [(.ref wC)]))
        exact own_ret X6 hx hrt rfl (Or.inr (Or.inr (Or.inr (Or.inr ⟨rfl, rfl, rfl⟩)))) (hb hby d1_25) hlk (by rw [e6]; exact ⟨by unfold own_pick; rw [if_neg hc1_1, if_neg hc10_3, if_pos hc19_5], N0, rfl⟩) (by decide) (by decide)
      · -- false
        refine own_go (fun _ k => XS.icmpYes X0.here hx rfl (pc0 := 19) (pc' := 26) rfl (hb hby d1_19) rfl (feq hc19_5).2 (by decide) (by decide) <| XS.iloadN X0.here hx rfl (hb hby d1_26) rfl <| XT.iconstV X0.here hx rfl (3 : Int32) (hb hby d1_27) rfl <| k) ?_
        show own_Ends p e below s _ _ _ (s₁.setTop (mkF m 28 #[.val (.int p1)] [(.int (3 : Int32)), (.int p1)]))
        by_cases hc28_7 : p1 = (3 : Int32)
        · -- true
          refine own_go (fun _ k => XS.icmpNo X0.here hx rfl (hb hby d1_28) rfl (teq hc28_7).2 <| k) ?_
          show own_Ends p e below s _ _ _ (s₁.setTop (mkF m 31 #[.val (.int p1)] []))
          obtain ⟨T8, X8, e8, st8⟩ := getS2 X0 hx hZ hown (host := "") (Or.inl (hw _ (List.mem_of_getElem? (i := 25) rfl))) Via.refl e0 (SwD.ext O0.2) (g := (mkF m 31 #[.val (.int p1)] [])) rfl (hb hby d1_31)
          refine own_go st8 ?_
          show own_Ends p e below s _ _ _ (T8.setTop (mkF m 34 #[.val (.int p1)] [(.ref wD)]))
          exact own_ret X8 hx hrt rfl (Or.inr (Or.inr (Or.inr (Or.inr ⟨rfl, rfl, rfl⟩)))) (hb hby d1_34) hlk (by rw [e8]; exact ⟨by unfold own_pick; rw [if_neg hc1_1, if_neg hc10_3, if_neg hc19_5, if_pos hc28_7], N0, rfl⟩) (by decide) (by decide)
        · -- false
          refine own_go (fun _ k => XS.icmpYes X0.here hx rfl (pc0 := 28) (pc' := 35) rfl (hb hby d1_28) rfl (feq hc28_7).2 (by decide) (by decide) <| XS.iloadN X0.here hx rfl (hb hby d1_35) rfl <| XT.iconstV X0.here hx rfl (4 : Int32) (hb hby d1_36) rfl <| k) ?_
          show own_Ends p e below s _ _ _ (s₁.setTop (mkF m 37 #[.val (.int p1)] [(.int (4 : Int32)), (.int p1)]))
          by_cases hc37_9 : p1 = (4 : Int32)
          · -- true
            refine own_go (fun _ k => XS.icmpNo X0.here hx rfl (hb hby d1_37) rfl (teq hc37_9).2 <| k) ?_
            show own_Ends p e below s _ _ _ (s₁.setTop (mkF m 40 #[.val (.int p1)] []))
            obtain ⟨T10, X10, e10, st10⟩ := getS2 X0 hx hZ hown (host := "") (Or.inl (hw _ (List.mem_of_getElem? (i := 20) rfl))) Via.refl e0 (SwX.ext O0.2) (g := (mkF m 40 #[.val (.int p1)] [])) rfl (hb hby d1_40)
            refine own_go st10 ?_
            show own_Ends p e below s _ _ _ (T10.setTop (mkF m 43 #[.val (.int p1)] [(.ref wX)]))
            exact own_ret X10 hx hrt rfl (Or.inr (Or.inr (Or.inr (Or.inr ⟨rfl, rfl, rfl⟩)))) (hb hby d1_43) hlk (by rw [e10]; exact ⟨by unfold own_pick; rw [if_neg hc1_1, if_neg hc10_3, if_neg hc19_5, if_neg hc28_7, if_pos hc37_9], N0, rfl⟩) (by decide) (by decide)
          · -- false
            refine own_go (fun _ k => XS.icmpYes X0.here hx rfl (pc0 := 37) (pc' := 44) rfl (hb hby d1_37) rfl (feq hc37_9).2 (by decide) (by decide) <| k) ?_
            show own_Ends p e below s _ _ _ (s₁.setTop (mkF m 44 #[.val (.int p1)] []))
            obtain ⟨T11, X11, e11, st11⟩ := getS2 X0 hx hZ hown (host := "") (Or.inl (hw _ (List.mem_of_getElem? (i := 24) rfl))) Via.refl e0 (SwF.ext O0.2) (g := (mkF m 44 #[.val (.int p1)] [])) rfl (hb hby d1_44)
            refine own_go st11 ?_
            show own_Ends p e below s _ _ _ (T11.setTop (mkF m 47 #[.val (.int p1)] [(.ref wF)]))
            exact own_ret X11 hx hrt rfl (Or.inr (Or.inr (Or.inr (Or.inr ⟨rfl, rfl, rfl⟩)))) (hb hby d1_47) hlk (by rw [e11]; exact ⟨by unfold own_pick; rw [if_neg hc1_1, if_neg hc10_3, if_neg hc19_5, if_neg hc28_7, if_neg hc37_9], N0, rfl⟩) (by decide) (by decide)
theorem d2_0 : decode prog_52_method_5_code 0 = .ok (.aload_n 0, 1) := by decide +kernel
theorem d2_1 : decode prog_52_method_5_code 1 = .ok (.astore_n 3, 1) := by decide +kernel
theorem d2_2 : decode prog_52_method_5_code 2 = .ok (.iload_n 1, 1) := by decide +kernel
theorem d2_3 : decode prog_52_method_5_code 3 = .ok (.ifCond .eq 17, 3) := by decide +kernel
theorem d2_6 : decode prog_52_method_5_code 6 = .ok (.aload_n 0, 1) := by decide +kernel
theorem d2_7 : decode prog_52_method_5_code 7 = .ok (.getstatic 3, 3) := by decide +kernel
theorem d2_10 : decode prog_52_method_5_code 10 = .ok (.if_acmp .ne 10, 3) := by decide +kernel
theorem d2_13 : decode prog_52_method_5_code 13 = .ok (.getstatic 7, 3) := by decide +kernel
theorem d2_16 : decode prog_52_method_5_code 16 = .ok (.astore_n 3, 1) := by decide +kernel
theorem d2_17 : decode prog_52_method_5_code 17 = .ok (.goto 28, 3) := by decide +kernel
theorem d2_20 : decode prog_52_method_5_code 20 = .ok (.iload_n 1, 1) := by decide +kernel
theorem d2_21 : decode prog_52_method_5_code 21 = .ok (.ifCond .eq 24, 3) := by decide +kernel
theorem d2_24 : decode prog_52_method_5_code 24 = .ok (.aload_n 0, 1) := by decide +kernel
theorem d2_25 : decode prog_52_method_5_code 25 = .ok (.getstatic 10, 3) := by decide +kernel
theorem d2_28 : decode prog_52_method_5_code 28 = .ok (.if_acmp .ne 17, 3) := by decide +kernel
theorem d2_31 : decode prog_52_method_5_code 31 = .ok (.iload_n 2, 1) := by decide +kernel
theorem d2_32 : decode prog_52_method_5_code 32 = .ok (.ifCond .eq 9, 3) := by decide +kernel
theorem d2_35 : decode prog_52_method_5_code 35 = .ok (.getstatic 19, 3) := by decide +kernel
theorem d2_38 : decode prog_52_method_5_code 38 = .ok (.goto 6, 3) := by decide +kernel
theorem d2_41 : decode prog_52_method_5_code 41 = .ok (.getstatic 7, 3) := by decide +kernel
theorem d2_44 : decode prog_52_method_5_code 44 = .ok (.astore_n 3, 1) := by decide +kernel
theorem d2_45 : decode prog_52_method_5_code 45 = .ok (.aload_n 3, 1) := by decide +kernel
theorem d2_46 : decode prog_52_method_5_code 46 = .ok (.areturn, 1) := by decide +kernel
theorem pn_1 : plainName "com/example/expiry/expiry/model/TaskStatus" = true := by first | (simp [plainName, overriddenIn]; done) | decide +kernel
theorem ef_2 (m : MethodId) (x0 : Addr) (x1 : Int32) (x2 : Int32) : entryFrame m #[(.ref x0), (.int x1), (.int x2)] 4 = mkF m 0 #[.val (.ref x0), .val (.int x1), .val (.int x2), .unset] [] := by first | (simp [entryFrame, mkF, argsToLocals, Value.category]; done) | rfl
def Q2 (a1 : Addr) (p2 : Int32) (p3 : Int32) (wP wR wC wD wX wF : Addr) (h0 : Heap) (n0 : Nat) (Z : State) (v : Option Value) (h : Heap) (L : List Loc) : Prop := v = some (.ref (own_st wP wR wC wD wX wF a1 p2 p3)) ∧ Fr n0 L ∧ h = h0
set_option maxRecDepth 65536 in
set_option maxHeartbeats 40000000 in
theorem rm2 (l : Launch) (Z : State) (a0 : Array Value) (hw : ∀ d ∈ tables_1, d.before a0 Z = true) (ws : List Jvm.Cond) (a1 : Addr) (p2 : Int32) (p3 : Int32) (wP wR wC wD wX wF : Addr) (h0 : Heap) (n0 : Nat) (Z0 : n0 ≤ h0.size) (O0 : Old Z n0 h0) (SwP : Sta Z Z.heap "com/example/expiry/expiry/model/TaskStatus" "PENDING" "Lcom/example/expiry/expiry/model/TaskStatus;" (.ref wP)) (SwR : Sta Z Z.heap "com/example/expiry/expiry/model/TaskStatus" "READY" "Lcom/example/expiry/expiry/model/TaskStatus;" (.ref wR)) (SwC : Sta Z Z.heap "com/example/expiry/expiry/model/TaskStatus" "CLAIMED" "Lcom/example/expiry/expiry/model/TaskStatus;" (.ref wC)) (SwD : Sta Z Z.heap "com/example/expiry/expiry/model/TaskStatus" "DONE" "Lcom/example/expiry/expiry/model/TaskStatus;" (.ref wD)) (SwX : Sta Z Z.heap "com/example/expiry/expiry/model/TaskStatus" "CANCELLED" "Lcom/example/expiry/expiry/model/TaskStatus;" (.ref wX)) (SwF : Sta Z Z.heap "com/example/expiry/expiry/model/TaskStatus" "FAILED" "Lcom/example/expiry/expiry/model/TaskStatus;" (.ref wF)) :
    MetFree l (⟨"com/example/expiry/expiry/model/TaskStatus", "standing", "(ZZ)Lcom/example/expiry/expiry/model/TaskStatus;"⟩ : MethodName) (head1 (Jvm.Cond.code (⟨"com/example/expiry/expiry/model/TaskStatus", "standing", "(ZZ)Lcom/example/expiry/expiry/model/TaskStatus;"⟩ : MethodName) prog_52_method_5_code 4 (some (.object "com/example/expiry/expiry/model/TaskStatus")) :: ws) ({ frames := 0, cells := 0, slots := 0, locals := 0 } : Room)) (fun a U => a = #[(.ref a1), (.int p2), (.int p3)] ∧ Z.Warmed39 U.vm ∧ U.heap = h0) (fun _ _ _ _ _ => True) (fun _ U o U' => ∃ v L, o = .returned v ∧ Q2 a1 p2 p3 wP wR wC wD wX wF h0 n0 Z v U'.heap L ∧ FrameEnd U o U' L ({ frames := 0, cells := 0, slots := 0, locals := 0 } : Room).cells ({ frames := 0, cells := 0, slots := 0, locals := 0 } : Room).slots) := by
  refine MetFree.of_bodySF (plainFor_of_name pn_1) hisR ?_
  intro p e s m args below meth c s₁ Bd hml0 hP hK
  obtain ⟨rfl, hZ, hh⟩ := hP
  have hx := Bd.exec
  have hby := Bd.bytes
  have hml : c.maxLocals = 4 := hml0
  have hown : s.vm.findClass "com/example/expiry/expiry/model/TaskStatus" = some m.cls := findClass_of_methodNamed Bd.named
  have hnm := (name_of_methodNamed Bd.named Bd.method).1
  have hlk := Bd.notSynchronized
  have hrt := Bd.returns
  have X0 : Stand p l e ({ frames := 0, cells := 0, slots := 0, locals := 0 } : Room) s m #[(.ref a1), (.int p2), (.int p3)] below meth c s₁ [] 0 0 := Stand.of_body Bd
  have e0 : s₁.heap = h0 := by rw [← hh, Bd.state]; rfl
  have N0 := Fr.nil n0
  show own_Ends p e below s (Q2 a1 p2 p3 wP wR wC wD wX wF h0 n0 Z) ({ frames := 0, cells := 0, slots := 0, locals := 0 } : Room).cells ({ frames := 0, cells := 0, slots := 0, locals := 0 } : Room).slots (s₁.setTop (entryFrame m #[(.ref a1), (.int p2), (.int p3)] 4))
  rw [ef_2]
  refine own_go (fun _ k => XS.aloadN X0.here hx rfl (hb hby d2_0) rfl rfl <| XS.astoreN X0.here hx rfl (hb hby d2_1) rfl rfl (l' := #[.val (.ref a1), .val (.int p2), .val (.int p3), .val (.ref a1)]) rfl <| XS.iloadN X0.here hx rfl (hb hby d2_2) rfl <| k) ?_
  show own_Ends p e below s _ _ _ (s₁.setTop (mkF m 3 #[.val (.ref a1), .val (.int p2), .val (.int p3), .val (.ref a1)] [(.int p2)]))
  by_cases hc3_1 : p2 = (0 : Int32)
  · -- true
    refine own_go (fun _ k => XS.ifYes X0.here hx rfl (pc0 := 3) (pc' := 20) rfl (hb hby d2_3) rfl ((if0 _ _).trans (teq hc3_1).1) (by decide) (by decide) <| XS.iloadN X0.here hx rfl (hb hby d2_20) rfl <| XS.ifYes X0.here hx rfl (pc0 := 21) (pc' := 45) rfl (hb hby d2_21) rfl ((if0 _ _).trans (teq hc3_1).1) (by decide) (by decide) <| XS.aloadN X0.here hx rfl (hb hby d2_45) rfl rfl <| k) ?_
    show own_Ends p e below s _ _ _ (s₁.setTop (mkF m 46 #[.val (.ref a1), .val (.int p2), .val (.int p3), .val (.ref a1)] [(.ref a1)]))
    exact own_ret X0 hx hrt rfl (Or.inr (Or.inr (Or.inr (Or.inr ⟨rfl, rfl, rfl⟩)))) (hb hby d2_46) hlk (by rw [e0]; exact ⟨by unfold own_st; rw [if_pos hc3_1], N0, rfl⟩) (by decide) (by decide)
  · -- false
    refine own_go (fun _ k => XS.ifNo X0.here hx rfl (hb hby d2_3) rfl ((if0 _ _).trans (feq hc3_1).1) <| XS.aloadN X0.here hx rfl (hb hby d2_6) rfl rfl <| k) ?_
    show own_Ends p e below s _ _ _ (s₁.setTop (mkF m 7 #[.val (.ref a1), .val (.int p2), .val (.int p3), .val (.ref a1)] [(.ref a1)]))
    obtain ⟨T2, X2, e2, st2⟩ := getS2 X0 hx hZ hown (host := "") (Or.inl (hw _ (List.mem_of_getElem? (i := 13) rfl))) Via.refl e0 (SwP.ext O0.2) (g := (mkF m 7 #[.val (.ref a1), .val (.int p2), .val (.int p3), .val (.ref a1)] [(.ref a1)])) rfl (hb hby d2_7)
    refine own_go st2 ?_
    show own_Ends p e below s _ _ _ (T2.setTop (mkF m 10 #[.val (.ref a1), .val (.int p2), .val (.int p3), .val (.ref a1)] [(.ref wP), (.ref a1)]))
    by_cases hc10_3 : a1 = wP
    · -- True
      refine own_go (fun _ k => Jvm.RoadKit.acmp (g := (mkF m 10 #[.val (.ref a1), .val (.int p2), .val (.int p3), .val (.ref a1)] [(.ref wP), (.ref a1)])) X2 hx rfl rfl rfl (pc0 := 10) (pc' := 13) (same := true) rfl (hb hby d2_10) rfl (decide_eq_true (congrArg Value.ref hc10_3)) (by decide) (by decide) <| k) ?_
      show own_Ends p e below s _ _ _ (T2.setTop (mkF m 13 #[.val (.ref a1), .val (.int p2), .val (.int p3), .val (.ref a1)] []))
      obtain ⟨T4, X4, e4, st4⟩ := getS2 X2 hx hZ hown (host := "") (Or.inl (hw _ (List.mem_of_getElem? (i := 14) rfl))) Via.refl e2 (SwR.ext O0.2) (g := (mkF m 13 #[.val (.ref a1), .val (.int p2), .val (.int p3), .val (.ref a1)] [])) rfl (hb hby d2_13)
      refine own_go st4 ?_
      show own_Ends p e below s _ _ _ (T4.setTop (mkF m 16 #[.val (.ref a1), .val (.int p2), .val (.int p3), .val (.ref a1)] [(.ref wR)]))
      refine own_go (fun _ k => XS.astoreN X4.here hx rfl (hb hby d2_16) rfl rfl (l' := #[.val (.ref a1), .val (.int p2), .val (.int p3), .val (.ref wR)]) rfl <| XS.goto X4.here hx rfl (pc0 := 17) (pc' := 45) rfl (hb hby d2_17) (by decide) (by decide) <| XS.aloadN X4.here hx rfl (hb hby d2_45) rfl rfl <| k) ?_
      show own_Ends p e below s _ _ _ (T4.setTop (mkF m 46 #[.val (.ref a1), .val (.int p2), .val (.int p3), .val (.ref wR)] [(.ref wR)]))
      exact own_ret X4 hx hrt rfl (Or.inr (Or.inr (Or.inr (Or.inr ⟨rfl, rfl, rfl⟩)))) (hb hby d2_46) hlk (by rw [e4]; exact ⟨by unfold own_st; rw [if_neg hc3_1, if_pos hc10_3], N0, rfl⟩) (by decide) (by decide)
    · -- False
      refine own_go (fun _ k => Jvm.RoadKit.acmp (g := (mkF m 10 #[.val (.ref a1), .val (.int p2), .val (.int p3), .val (.ref a1)] [(.ref wP), (.ref a1)])) X2 hx rfl rfl rfl (pc0 := 10) (pc' := 20) (same := false) rfl (hb hby d2_10) rfl (decide_eq_false (fun q => hc10_3 (Value.ref.inj q))) (by decide) (by decide) <| XS.iloadN X2.here hx rfl (hb hby d2_20) rfl <| XS.ifNo X2.here hx rfl (hb hby d2_21) rfl ((if0 _ _).trans (feq hc3_1).1) <| XS.aloadN X2.here hx rfl (hb hby d2_24) rfl rfl <| k) ?_
      show own_Ends p e below s _ _ _ (T2.setTop (mkF m 25 #[.val (.ref a1), .val (.int p2), .val (.int p3), .val (.ref a1)] [(.ref a1)]))
      obtain ⟨T5, X5, e5, st5⟩ := getS2 X2 hx hZ hown (host := "") (Or.inl (hw _ (List.mem_of_getElem? (i := 19) rfl))) Via.refl e2 (SwC.ext O0.2) (g := (mkF m 25 #[.val (.ref a1), .val (.int p2), .val (.int p3), .val (.ref a1)] [(.ref a1)])) rfl (hb hby d2_25)
      refine own_go st5 ?_
      show own_Ends p e below s _ _ _ (T5.setTop (mkF m 28 #[.val (.ref a1), .val (.int p2), .val (.int p3), .val (.ref a1)] [(.ref wC), (.ref a1)]))
      by_cases hc28_6 : a1 = wC
      · -- True
        refine own_go (fun _ k => Jvm.RoadKit.acmp (g := (mkF m 28 #[.val (.ref a1), .val (.int p2), .val (.int p3), .val (.ref a1)] [(.ref wC), (.ref a1)])) X5 hx rfl rfl rfl (pc0 := 28) (pc' := 31) (same := true) rfl (hb hby d2_28) rfl (decide_eq_true (congrArg Value.ref hc28_6)) (by decide) (by decide) <| XS.iloadN X5.here hx rfl (hb hby d2_31) rfl <| k) ?_
        show own_Ends p e below s _ _ _ (T5.setTop (mkF m 32 #[.val (.ref a1), .val (.int p2), .val (.int p3), .val (.ref a1)] [(.int p3)]))
        by_cases hc32_7 : p3 = (0 : Int32)
        · -- true
          refine own_go (fun _ k => XS.ifYes X5.here hx rfl (pc0 := 32) (pc' := 41) rfl (hb hby d2_32) rfl ((if0 _ _).trans (teq hc32_7).1) (by decide) (by decide) <| k) ?_
          show own_Ends p e below s _ _ _ (T5.setTop (mkF m 41 #[.val (.ref a1), .val (.int p2), .val (.int p3), .val (.ref a1)] []))
          obtain ⟨T8, X8, e8, st8⟩ := getS2 X5 hx hZ hown (host := "") (Or.inl (hw _ (List.mem_of_getElem? (i := 14) rfl))) Via.refl e5 (SwR.ext O0.2) (g := (mkF m 41 #[.val (.ref a1), .val (.int p2), .val (.int p3), .val (.ref a1)] [])) rfl (hb hby d2_41)
          refine own_go st8 ?_
          show own_Ends p e below s _ _ _ (T8.setTop (mkF m 44 #[.val (.ref a1), .val (.int p2), .val (.int p3), .val (.ref a1)] [(.ref wR)]))
          refine own_go (fun _ k => XS.astoreN X8.here hx rfl (hb hby d2_44) rfl rfl (l' := #[.val (.ref a1), .val (.int p2), .val (.int p3), .val (.ref wR)]) rfl <| XS.aloadN X8.here hx rfl (hb hby d2_45) rfl rfl <| k) ?_
          show own_Ends p e below s _ _ _ (T8.setTop (mkF m 46 #[.val (.ref a1), .val (.int p2), .val (.int p3), .val (.ref wR)] [(.ref wR)]))
          exact own_ret X8 hx hrt rfl (Or.inr (Or.inr (Or.inr (Or.inr ⟨rfl, rfl, rfl⟩)))) (hb hby d2_46) hlk (by rw [e8]; exact ⟨by unfold own_st; rw [if_neg hc3_1, if_neg hc10_3, if_pos hc28_6, if_pos hc32_7], N0, rfl⟩) (by decide) (by decide)
        · -- false
          refine own_go (fun _ k => XS.ifNo X5.here hx rfl (hb hby d2_32) rfl ((if0 _ _).trans (feq hc32_7).1) <| k) ?_
          show own_Ends p e below s _ _ _ (T5.setTop (mkF m 35 #[.val (.ref a1), .val (.int p2), .val (.int p3), .val (.ref a1)] []))
          obtain ⟨T9, X9, e9, st9⟩ := getS2 X5 hx hZ hown (host := "") (Or.inl (hw _ (List.mem_of_getElem? (i := 22) rfl))) Via.refl e5 (SwF.ext O0.2) (g := (mkF m 35 #[.val (.ref a1), .val (.int p2), .val (.int p3), .val (.ref a1)] [])) rfl (hb hby d2_35)
          refine own_go st9 ?_
          show own_Ends p e below s _ _ _ (T9.setTop (mkF m 38 #[.val (.ref a1), .val (.int p2), .val (.int p3), .val (.ref a1)] [(.ref wF)]))
          refine own_go (fun _ k => XS.goto X9.here hx rfl (pc0 := 38) (pc' := 44) rfl (hb hby d2_38) (by decide) (by decide) <| XS.astoreN X9.here hx rfl (hb hby d2_44) rfl rfl (l' := #[.val (.ref a1), .val (.int p2), .val (.int p3), .val (.ref wF)]) rfl <| XS.aloadN X9.here hx rfl (hb hby d2_45) rfl rfl <| k) ?_
          show own_Ends p e below s _ _ _ (T9.setTop (mkF m 46 #[.val (.ref a1), .val (.int p2), .val (.int p3), .val (.ref wF)] [(.ref wF)]))
          exact own_ret X9 hx hrt rfl (Or.inr (Or.inr (Or.inr (Or.inr ⟨rfl, rfl, rfl⟩)))) (hb hby d2_46) hlk (by rw [e9]; exact ⟨by unfold own_st; rw [if_neg hc3_1, if_neg hc10_3, if_pos hc28_6, if_neg hc32_7], N0, rfl⟩) (by decide) (by decide)
      · -- False
        refine own_go (fun _ k => Jvm.RoadKit.acmp (g := (mkF m 28 #[.val (.ref a1), .val (.int p2), .val (.int p3), .val (.ref a1)] [(.ref wC), (.ref a1)])) X5 hx rfl rfl rfl (pc0 := 28) (pc' := 45) (same := false) rfl (hb hby d2_28) rfl (decide_eq_false (fun q => hc28_6 (Value.ref.inj q))) (by decide) (by decide) <| XS.aloadN X5.here hx rfl (hb hby d2_45) rfl rfl <| k) ?_
        show own_Ends p e below s _ _ _ (T5.setTop (mkF m 46 #[.val (.ref a1), .val (.int p2), .val (.int p3), .val (.ref a1)] [(.ref a1)]))
        exact own_ret X5 hx hrt rfl (Or.inr (Or.inr (Or.inr (Or.inr ⟨rfl, rfl, rfl⟩)))) (hb hby d2_46) hlk (by rw [e5]; exact ⟨by unfold own_st; rw [if_neg hc3_1, if_neg hc10_3, if_neg hc28_6], N0, rfl⟩) (by decide) (by decide)
theorem ef_0 (m : MethodId) (x0 : Int32) (x1 : Int32) : entryFrame m #[(.int x0), (.int x1)] maxLocals = mkF m 0 #[.val (.int x0), .val (.int x1), .unset, .unset, .unset, .unset, .unset, .unset] [] := by first | (simp [entryFrame, mkF, argsToLocals, Value.category, maxLocals]; done) | rfl
def Q0 (p1 : Int32) (p2 : Int32) (wP wR wC wD wX wF : Addr) (h0 : Heap) (n0 : Nat) (Z : State) (v : Option Value) (h : Heap) (L : List Loc) : Prop := v = some (.int 1) ∧ Fr n0 L
set_option maxRecDepth 65536 in
set_option maxHeartbeats 40000000 in
theorem rm0 (l : Launch) (Z : State) (a0 : Array Value) (hw : ∀ d ∈ tables_1, d.before a0 Z = true) (ws : List Jvm.Cond) (p1 : Int32) (p2 : Int32) (wP wR wC wD wX wF : Addr) (h0 : Heap) (n0 : Nat) (Z0 : n0 ≤ h0.size) (O0 : Old Z n0 h0) (SwP : Sta Z Z.heap "com/example/expiry/expiry/model/TaskStatus" "PENDING" "Lcom/example/expiry/expiry/model/TaskStatus;" (.ref wP)) (SwR : Sta Z Z.heap "com/example/expiry/expiry/model/TaskStatus" "READY" "Lcom/example/expiry/expiry/model/TaskStatus;" (.ref wR)) (SwC : Sta Z Z.heap "com/example/expiry/expiry/model/TaskStatus" "CLAIMED" "Lcom/example/expiry/expiry/model/TaskStatus;" (.ref wC)) (SwD : Sta Z Z.heap "com/example/expiry/expiry/model/TaskStatus" "DONE" "Lcom/example/expiry/expiry/model/TaskStatus;" (.ref wD)) (SwX : Sta Z Z.heap "com/example/expiry/expiry/model/TaskStatus" "CANCELLED" "Lcom/example/expiry/expiry/model/TaskStatus;" (.ref wX)) (SwF : Sta Z Z.heap "com/example/expiry/expiry/model/TaskStatus" "FAILED" "Lcom/example/expiry/expiry/model/TaskStatus;" (.ref wF)) (EwP : Exa Z h0 wP "com/example/expiry/expiry/model/TaskStatus") (EwR : Exa Z h0 wR "com/example/expiry/expiry/model/TaskStatus") (EwC : Exa Z h0 wC "com/example/expiry/expiry/model/TaskStatus") (EwD : Exa Z h0 wD "com/example/expiry/expiry/model/TaskStatus") (EwX : Exa Z h0 wX "com/example/expiry/expiry/model/TaskStatus") (EwF : Exa Z h0 wF "com/example/expiry/expiry/model/TaskStatus") (hd : wC ≠ wP ∧ wR ≠ wP ∧ wR ≠ wC ∧ wD ≠ wP ∧ wD ≠ wC ∧ wX ≠ wP ∧ wX ≠ wC ∧ wF ≠ wP ∧ wF ≠ wC) :
    MetFree l x (head1 (Jvm.Cond.code x code maxLocals ret :: ws) room_1) (fun a U => a = #[(.int p1), (.int p2)] ∧ Z.Warmed39 U.vm ∧ U.heap = h0) (fun _ _ _ _ _ => True) (fun _ U o U' => ∃ v L, o = .returned v ∧ Q0 p1 p2 wP wR wC wD wX wF h0 n0 Z v U'.heap L ∧ FrameEnd U o U' L room_1.cells room_1.slots) := by
  refine MetFree.of_bodySF (plainFor_of_name pn_0) hisR ?_
  intro p e s m args below meth c s₁ Bd hml0 hP hK
  obtain ⟨rfl, hZ, hh⟩ := hP
  have hx := Bd.exec
  have hby := Bd.bytes
  have hml : c.maxLocals = 8 := hml0
  have hown : s.vm.findClass "com/example/expiry/expiry/model/TaskStatusStandingPinLaw" = some m.cls := findClass_of_methodNamed Bd.named
  have hnm := (name_of_methodNamed Bd.named Bd.method).1
  have hlk := Bd.notSynchronized
  have hrt := Bd.returns
  have X0 : Stand p l e room_1 s m #[(.int p1), (.int p2)] below meth c s₁ [] 0 0 := Stand.of_body Bd
  have e0 : s₁.heap = h0 := by rw [← hh, Bd.state]; rfl
  have N0 := Fr.nil n0
  show own_Ends p e below s (Q0 p1 p2 wP wR wC wD wX wF h0 n0 Z) room_1.cells room_1.slots (s₁.setTop (entryFrame m #[(.int p1), (.int p2)] maxLocals))
  rw [ef_0]
  refine own_go (fun _ k => XS.iloadN X0.here hx rfl (hb hby at_0) rfl <| X0.ldcI hx hown (mvT hZ (hw _ (List.mem_of_getElem? (i := 0) rfl))) rfl (hb hby at_1) <| XS.iand X0.here hx rfl (hb hby at_3) rfl <| XT.bipushV X0.here hx rfl (6 : Int32) (hb hby at_4) rfl <| iremM X0 hx rfl (hb hby at_6) rfl (by decide) <| k) ?_
  show own_Ends p e below s _ _ _ (s₁.setTop (mkF m 7 #[.val (.int p1), .val (.int p2), .unset, .unset, .unset, .unset, .unset, .unset] [(.int ((p1 &&& (2147483647 : Int32)) % (6 : Int32)))]))
  generalize hi6 : ((p1 &&& (2147483647 : Int32)) % (6 : Int32)) = i6
  show own_Ends p e below s _ _ _ (s₁.setTop (mkF m 7 #[.val (.int p1), .val (.int p2), .unset, .unset, .unset, .unset, .unset, .unset] [(.int i6)]))
  refine own_go (fun _ k => XS.istoreN X0.here hx rfl (hb hby at_7) rfl (l' := #[.val (.int p1), .val (.int p2), .val (.int i6), .unset, .unset, .unset, .unset, .unset]) rfl <| XS.iloadN X0.here hx rfl (hb hby at_8) rfl <| XT.iconstV X0.here hx rfl (1 : Int32) (hb hby at_9) rfl <| XS.iand X0.here hx rfl (hb hby at_10) rfl <| k) ?_
  show own_Ends p e below s _ _ _ (s₁.setTop (mkF m 11 #[.val (.int p1), .val (.int p2), .val (.int i6), .unset, .unset, .unset, .unset, .unset] [(.int (p2 &&& (1 : Int32)))]))
  by_cases hc11_1 : (p2 &&& (1 : Int32)) = (0 : Int32)
  · -- true
    refine own_go (fun _ k => XS.ifYes X0.here hx rfl (pc0 := 11) (pc' := 18) rfl (hb hby at_11) rfl ((if0 _ _).trans (teq hc11_1).1) (by decide) (by decide) <| XT.iconstV X0.here hx rfl (0 : Int32) (hb hby at_18) rfl <| XS.istoreN X0.here hx rfl (hb hby at_19) rfl (l' := #[.val (.int p1), .val (.int p2), .val (.int i6), .val (.int (0 : Int32)), .unset, .unset, .unset, .unset]) rfl <| XS.iloadN X0.here hx rfl (hb hby at_20) rfl <| XT.iconstV X0.here hx rfl (2 : Int32) (hb hby at_21) rfl <| XS.iand X0.here hx rfl (hb hby at_22) rfl <| k) ?_
    show own_Ends p e below s _ _ _ (s₁.setTop (mkF m 23 #[.val (.int p1), .val (.int p2), .val (.int i6), .val (.int (0 : Int32)), .unset, .unset, .unset, .unset] [(.int (p2 &&& (2 : Int32)))]))
    by_cases hc23_2 : (p2 &&& (2 : Int32)) = (0 : Int32)
    · -- true
      refine own_go (fun _ k => XS.ifYes X0.here hx rfl (pc0 := 23) (pc' := 30) rfl (hb hby at_23) rfl ((if0 _ _).trans (teq hc23_2).1) (by decide) (by decide) <| XT.iconstV X0.here hx rfl (0 : Int32) (hb hby at_30) rfl <| XS.istore X0.here hx rfl (hb hby at_31) rfl (l' := #[.val (.int p1), .val (.int p2), .val (.int i6), .val (.int (0 : Int32)), .val (.int (0 : Int32)), .unset, .unset, .unset]) rfl <| XS.iloadN X0.here hx rfl (hb hby at_33) rfl <| k) ?_
      show own_Ends p e below s _ _ _ (s₁.setTop (mkF m 34 #[.val (.int p1), .val (.int p2), .val (.int i6), .val (.int (0 : Int32)), .val (.int (0 : Int32)), .unset, .unset, .unset] [(.int i6)]))
      obtain ⟨_, _, ⟨T3, L3, k3, n3⟩, -, X3, ⟨Lc3, hQ3, l3, y3, z3⟩, st3⟩ := Jvm.LawKit.callS X0 hx (y := (⟨"com/example/expiry/expiry/model/TaskStatusStandingPinLaw", "pick", "(I)Lcom/example/expiry/expiry/model/TaskStatus;"⟩ : MethodName)) hown (mvT hZ (hw _ (List.mem_of_getElem? (i := 1) rfl))) (mvT hZ (hw _ (List.mem_of_getElem? (i := 2) rfl))) (mvT hZ (hw _ (List.mem_of_getElem? (i := 3) rfl))) (mvT hZ (hw _ (List.mem_of_getElem? (i := 4) rfl))) (by decide) (backOf (W := 0) (rm1 l Z a0 hw [] i6 wP wR wC wD wX wF h0 n0 Z0 O0 SwP SwR SwC SwD SwX SwF) hZ (hw _ (List.mem_of_getElem? (i := 4) rfl)) (hw _ (List.mem_of_getElem? (i := 3) rfl)) (by decide) (by decide)) (g := (mkF m 34 #[.val (.int p1), .val (.int p2), .val (.int i6), .val (.int (0 : Int32)), .val (.int (0 : Int32)), .unset, .unset, .unset] [(.int i6)])) rfl (by rw [hml]; rfl) (argsL := [(.int i6)]) (rest := []) (lenOf pd_0 rfl) rfl (by show 2 * 0 + _ ≤ _; exact Nat.le_of_eq rfl) (hb hby at_34) (fun _ _ => ⟨rfl, e0, Nat.le_of_ble_eq_true rfl, Nat.le_of_ble_eq_true rfl⟩)
      dsimp only [Pt.U, Pt.locs, Pt.cells, Pt.slots] at X3 l3 y3 z3 st3 hQ3
      subst l3 y3 z3
      obtain ⟨rfl, N3q, e3⟩ := hQ3
      have N3 := Fr.app N0 N3q
      refine own_go (fun _ k => st3 _ k) ?_
      show own_Ends p e below s _ _ _ (T3.setTop (mkF m 37 #[.val (.int p1), .val (.int p2), .val (.int i6), .val (.int (0 : Int32)), .val (.int (0 : Int32)), .unset, .unset, .unset] [(.ref (own_pick wP wR wC wD wX wF i6))]))
      refine own_go (fun _ k => XS.astore X3.here hx rfl (hb hby at_37) rfl rfl (l' := #[.val (.int p1), .val (.int p2), .val (.int i6), .val (.int (0 : Int32)), .val (.int (0 : Int32)), .val (.ref (own_pick wP wR wC wD wX wF i6)), .unset, .unset]) rfl <| XS.aload X3.here hx rfl (hb hby at_39) rfl rfl <| XS.iloadN X3.here hx rfl (hb hby at_41) rfl <| XS.iload X3.here hx rfl (hb hby at_42) rfl <| k) ?_
      show own_Ends p e below s _ _ _ (T3.setTop (mkF m 44 #[.val (.int p1), .val (.int p2), .val (.int i6), .val (.int (0 : Int32)), .val (.int (0 : Int32)), .val (.ref (own_pick wP wR wC wD wX wF i6)), .unset, .unset] [(.int (0 : Int32)), (.int (0 : Int32)), (.ref (own_pick wP wR wC wD wX wF i6))]))
      obtain ⟨cq4, kq4, q4a, q4b, q4c⟩ := isOf hZ e3 (own_exa EwP EwR EwC EwD EwX EwF i6)
      obtain ⟨_, _, ⟨T4, L4, k4, n4⟩, -, X4, ⟨Lc4, hQ4, l4, y4, z4⟩, st4⟩ := X3.virtualBack hx (y := (⟨"com/example/expiry/expiry/model/TaskStatus", "standing", "(ZZ)Lcom/example/expiry/expiry/model/TaskStatus;"⟩ : MethodName)) (z := (⟨"com/example/expiry/expiry/model/TaskStatus", "standing", "(ZZ)Lcom/example/expiry/expiry/model/TaskStatus;"⟩ : MethodName)) hown (mvT hZ (hw _ (List.mem_of_getElem? (i := 8) rfl))) (mvT hZ (hw _ (List.mem_of_getElem? (i := 9) rfl))) (notFace_of_selects (args := #[]) (mvT hZ (hw _ (List.mem_of_getElem? (i := 11) rfl)))) (mvT hZ (hw _ (List.mem_of_getElem? (i := 11) rfl))) (mvT hZ (hw _ (List.mem_of_getElem? (i := 10) rfl))) (by decide) (backOf (W := 0) (rm2 l Z a0 hw [] (own_pick wP wR wC wD wX wF i6) (0 : Int32) (0 : Int32) wP wR wC wD wX wF h0 n0 Z0 O0 SwP SwR SwC SwD SwX SwF) hZ (hw _ (List.mem_of_getElem? (i := 12) rfl)) (hw _ (List.mem_of_getElem? (i := 6) rfl)) (by decide) (by decide)) q4a q4c (g := (mkF m 44 #[.val (.int p1), .val (.int p2), .val (.int i6), .val (.int (0 : Int32)), .val (.int (0 : Int32)), .val (.ref (own_pick wP wR wC wD wX wF i6)), .unset, .unset] [(.int (0 : Int32)), (.int (0 : Int32)), (.ref (own_pick wP wR wC wD wX wF i6))])) rfl (by rw [hml]; rfl) (Steps.refl _) (argsL := [(.int (0 : Int32)), (.int (0 : Int32))]) (rest := []) (lenOf pd_1 rfl) rfl (by show 2 * 0 + _ ≤ _; exact Nat.le_of_eq rfl) (hb hby at_44) (fun _ _ => ⟨rfl, e3, Nat.le_of_ble_eq_true rfl, Nat.le_of_ble_eq_true rfl⟩)
      dsimp only [Pt.U, Pt.locs, Pt.cells, Pt.slots] at X4 l4 y4 z4 st4 hQ4
      subst l4 y4 z4
      obtain ⟨rfl, N4q, e4⟩ := hQ4
      have N4 := Fr.app N3 N4q
      refine own_go (fun _ k => st4.trans k) ?_
      show own_Ends p e below s _ _ _ (T4.setTop (mkF m 47 #[.val (.int p1), .val (.int p2), .val (.int i6), .val (.int (0 : Int32)), .val (.int (0 : Int32)), .val (.ref (own_pick wP wR wC wD wX wF i6)), .unset, .unset] [(.ref (own_st wP wR wC wD wX wF (own_pick wP wR wC wD wX wF i6) (0 : Int32) (0 : Int32)))]))
      refine own_go (fun _ k => XS.astore X4.here hx rfl (hb hby at_47) rfl rfl (l' := #[.val (.int p1), .val (.int p2), .val (.int i6), .val (.int (0 : Int32)), .val (.int (0 : Int32)), .val (.ref (own_pick wP wR wC wD wX wF i6)), .val (.ref (own_st wP wR wC wD wX wF (own_pick wP wR wC wD wX wF i6) (0 : Int32) (0 : Int32))), .unset]) rfl <| XS.iloadN X4.here hx rfl (hb hby at_49) rfl <| XS.ifNo X4.here hx rfl (hb hby at_50) rfl ((if0 _ _).trans (teq (by decide)).2) <| XS.iloadN X4.here hx rfl (hb hby at_53) rfl <| XS.istore X4.here hx rfl (hb hby at_54) rfl (l' := #[.val (.int p1), .val (.int p2), .val (.int i6), .val (.int (0 : Int32)), .val (.int (0 : Int32)), .val (.ref (own_pick wP wR wC wD wX wF i6)), .val (.ref (own_st wP wR wC wD wX wF (own_pick wP wR wC wD wX wF i6) (0 : Int32) (0 : Int32))), .val (.int i6)]) rfl <| XS.goto X4.here hx rfl (pc0 := 56) (pc' := 92) rfl (hb hby at_56) (by decide) (by decide) <| XS.aload X4.here hx rfl (hb hby at_92) rfl rfl <| XS.iload X4.here hx rfl (hb hby at_94) rfl <| k) ?_
      show own_Ends p e below s _ _ _ (T4.setTop (mkF m 96 #[.val (.int p1), .val (.int p2), .val (.int i6), .val (.int (0 : Int32)), .val (.int (0 : Int32)), .val (.ref (own_pick wP wR wC wD wX wF i6)), .val (.ref (own_st wP wR wC wD wX wF (own_pick wP wR wC wD wX wF i6) (0 : Int32) (0 : Int32))), .val (.int i6)] [(.int i6), (.ref (own_st wP wR wC wD wX wF (own_pick wP wR wC wD wX wF i6) (0 : Int32) (0 : Int32)))]))
      obtain ⟨_, _, ⟨T5, L5, k5, n5⟩, -, X5, ⟨Lc5, hQ5, l5, y5, z5⟩, st5⟩ := Jvm.LawKit.callS X4 hx (y := (⟨"com/example/expiry/expiry/model/TaskStatusStandingPinLaw", "pick", "(I)Lcom/example/expiry/expiry/model/TaskStatus;"⟩ : MethodName)) hown (mvT hZ (hw _ (List.mem_of_getElem? (i := 1) rfl))) (mvT hZ (hw _ (List.mem_of_getElem? (i := 2) rfl))) (mvT hZ (hw _ (List.mem_of_getElem? (i := 3) rfl))) (mvT hZ (hw _ (List.mem_of_getElem? (i := 4) rfl))) (by decide) (backOf (W := 1) (rm1 l Z a0 hw [] i6 wP wR wC wD wX wF h0 n0 Z0 O0 SwP SwR SwC SwD SwX SwF) hZ (hw _ (List.mem_of_getElem? (i := 4) rfl)) (hw _ (List.mem_of_getElem? (i := 3) rfl)) (by decide) (by decide)) (g := (mkF m 96 #[.val (.int p1), .val (.int p2), .val (.int i6), .val (.int (0 : Int32)), .val (.int (0 : Int32)), .val (.ref (own_pick wP wR wC wD wX wF i6)), .val (.ref (own_st wP wR wC wD wX wF (own_pick wP wR wC wD wX wF i6) (0 : Int32) (0 : Int32))), .val (.int i6)] [(.int i6), (.ref (own_st wP wR wC wD wX wF (own_pick wP wR wC wD wX wF i6) (0 : Int32) (0 : Int32)))])) rfl (by rw [hml]; rfl) (argsL := [(.int i6)]) (rest := [(.ref (own_st wP wR wC wD wX wF (own_pick wP wR wC wD wX wF i6) (0 : Int32) (0 : Int32)))]) (lenOf pd_0 rfl) rfl (by show 2 * 0 + _ ≤ _; exact Nat.le_of_eq rfl) (hb hby at_96) (fun _ _ => ⟨rfl, e4, Nat.le_of_ble_eq_true rfl, Nat.le_of_ble_eq_true rfl⟩)
      dsimp only [Pt.U, Pt.locs, Pt.cells, Pt.slots] at X5 l5 y5 z5 st5 hQ5
      subst l5 y5 z5
      obtain ⟨rfl, N5q, e5⟩ := hQ5
      have N5 := Fr.app N4 N5q
      refine own_go (fun _ k => st5 _ k) ?_
      show own_Ends p e below s _ _ _ (T5.setTop (mkF m 99 #[.val (.int p1), .val (.int p2), .val (.int i6), .val (.int (0 : Int32)), .val (.int (0 : Int32)), .val (.ref (own_pick wP wR wC wD wX wF i6)), .val (.ref (own_st wP wR wC wD wX wF (own_pick wP wR wC wD wX wF i6) (0 : Int32) (0 : Int32))), .val (.int i6)] [(.ref (own_pick wP wR wC wD wX wF i6)), (.ref (own_st wP wR wC wD wX wF (own_pick wP wR wC wD wX wF i6) (0 : Int32) (0 : Int32)))]))
      refine own_go (fun _ k => Jvm.RoadKit.acmp (g := (mkF m 99 #[.val (.int p1), .val (.int p2), .val (.int i6), .val (.int (0 : Int32)), .val (.int (0 : Int32)), .val (.ref (own_pick wP wR wC wD wX wF i6)), .val (.ref (own_st wP wR wC wD wX wF (own_pick wP wR wC wD wX wF i6) (0 : Int32) (0 : Int32))), .val (.int i6)] [(.ref (own_pick wP wR wC wD wX wF i6)), (.ref (own_st wP wR wC wD wX wF (own_pick wP wR wC wD wX wF i6) (0 : Int32) (0 : Int32)))])) X5 hx rfl rfl rfl (pc0 := 99) (pc' := 102) (same := true) rfl (hb hby at_99) rfl (decide_eq_true (congrArg Value.ref (own_fin hd i6 _ _ _ (by simp)))) (by decide) (by decide) <| XT.iconstV X5.here hx rfl (1 : Int32) (hb hby at_102) rfl <| XS.goto X5.here hx rfl (pc0 := 103) (pc' := 107) rfl (hb hby at_103) (by decide) (by decide) <| k) ?_
      show own_Ends p e below s _ _ _ (T5.setTop (mkF m 107 #[.val (.int p1), .val (.int p2), .val (.int i6), .val (.int (0 : Int32)), .val (.int (0 : Int32)), .val (.ref (own_pick wP wR wC wD wX wF i6)), .val (.ref (own_st wP wR wC wD wX wF (own_pick wP wR wC wD wX wF i6) (0 : Int32) (0 : Int32))), .val (.int i6)] [(.int (1 : Int32))]))
      exact own_retN X5 hx (t := .boolean) hrt (by simp) (hb hby at_107) hlk (show nar .boolean (1 : Int32) = (1 : Int32) from by decide) (by rw [e5]; exact ⟨rfl, N5⟩) (by decide) (by decide)
    · -- false
      refine own_go (fun _ k => XS.ifNo X0.here hx rfl (hb hby at_23) rfl ((if0 _ _).trans (feq hc23_2).1) <| XT.iconstV X0.here hx rfl (1 : Int32) (hb hby at_26) rfl <| XS.goto X0.here hx rfl (pc0 := 27) (pc' := 31) rfl (hb hby at_27) (by decide) (by decide) <| XS.istore X0.here hx rfl (hb hby at_31) rfl (l' := #[.val (.int p1), .val (.int p2), .val (.int i6), .val (.int (0 : Int32)), .val (.int (1 : Int32)), .unset, .unset, .unset]) rfl <| XS.iloadN X0.here hx rfl (hb hby at_33) rfl <| k) ?_
      show own_Ends p e below s _ _ _ (s₁.setTop (mkF m 34 #[.val (.int p1), .val (.int p2), .val (.int i6), .val (.int (0 : Int32)), .val (.int (1 : Int32)), .unset, .unset, .unset] [(.int i6)]))
      obtain ⟨_, _, ⟨T6, L6, k6, n6⟩, -, X6, ⟨Lc6, hQ6, l6, y6, z6⟩, st6⟩ := Jvm.LawKit.callS X0 hx (y := (⟨"com/example/expiry/expiry/model/TaskStatusStandingPinLaw", "pick", "(I)Lcom/example/expiry/expiry/model/TaskStatus;"⟩ : MethodName)) hown (mvT hZ (hw _ (List.mem_of_getElem? (i := 1) rfl))) (mvT hZ (hw _ (List.mem_of_getElem? (i := 2) rfl))) (mvT hZ (hw _ (List.mem_of_getElem? (i := 3) rfl))) (mvT hZ (hw _ (List.mem_of_getElem? (i := 4) rfl))) (by decide) (backOf (W := 0) (rm1 l Z a0 hw [] i6 wP wR wC wD wX wF h0 n0 Z0 O0 SwP SwR SwC SwD SwX SwF) hZ (hw _ (List.mem_of_getElem? (i := 4) rfl)) (hw _ (List.mem_of_getElem? (i := 3) rfl)) (by decide) (by decide)) (g := (mkF m 34 #[.val (.int p1), .val (.int p2), .val (.int i6), .val (.int (0 : Int32)), .val (.int (1 : Int32)), .unset, .unset, .unset] [(.int i6)])) rfl (by rw [hml]; rfl) (argsL := [(.int i6)]) (rest := []) (lenOf pd_0 rfl) rfl (by show 2 * 0 + _ ≤ _; exact Nat.le_of_eq rfl) (hb hby at_34) (fun _ _ => ⟨rfl, e0, Nat.le_of_ble_eq_true rfl, Nat.le_of_ble_eq_true rfl⟩)
      dsimp only [Pt.U, Pt.locs, Pt.cells, Pt.slots] at X6 l6 y6 z6 st6 hQ6
      subst l6 y6 z6
      obtain ⟨rfl, N6q, e6⟩ := hQ6
      have N6 := Fr.app N0 N6q
      refine own_go (fun _ k => st6 _ k) ?_
      show own_Ends p e below s _ _ _ (T6.setTop (mkF m 37 #[.val (.int p1), .val (.int p2), .val (.int i6), .val (.int (0 : Int32)), .val (.int (1 : Int32)), .unset, .unset, .unset] [(.ref (own_pick wP wR wC wD wX wF i6))]))
      refine own_go (fun _ k => XS.astore X6.here hx rfl (hb hby at_37) rfl rfl (l' := #[.val (.int p1), .val (.int p2), .val (.int i6), .val (.int (0 : Int32)), .val (.int (1 : Int32)), .val (.ref (own_pick wP wR wC wD wX wF i6)), .unset, .unset]) rfl <| XS.aload X6.here hx rfl (hb hby at_39) rfl rfl <| XS.iloadN X6.here hx rfl (hb hby at_41) rfl <| XS.iload X6.here hx rfl (hb hby at_42) rfl <| k) ?_
      show own_Ends p e below s _ _ _ (T6.setTop (mkF m 44 #[.val (.int p1), .val (.int p2), .val (.int i6), .val (.int (0 : Int32)), .val (.int (1 : Int32)), .val (.ref (own_pick wP wR wC wD wX wF i6)), .unset, .unset] [(.int (1 : Int32)), (.int (0 : Int32)), (.ref (own_pick wP wR wC wD wX wF i6))]))
      obtain ⟨cq7, kq7, q7a, q7b, q7c⟩ := isOf hZ e6 (own_exa EwP EwR EwC EwD EwX EwF i6)
      obtain ⟨_, _, ⟨T7, L7, k7, n7⟩, -, X7, ⟨Lc7, hQ7, l7, y7, z7⟩, st7⟩ := X6.virtualBack hx (y := (⟨"com/example/expiry/expiry/model/TaskStatus", "standing", "(ZZ)Lcom/example/expiry/expiry/model/TaskStatus;"⟩ : MethodName)) (z := (⟨"com/example/expiry/expiry/model/TaskStatus", "standing", "(ZZ)Lcom/example/expiry/expiry/model/TaskStatus;"⟩ : MethodName)) hown (mvT hZ (hw _ (List.mem_of_getElem? (i := 8) rfl))) (mvT hZ (hw _ (List.mem_of_getElem? (i := 9) rfl))) (notFace_of_selects (args := #[]) (mvT hZ (hw _ (List.mem_of_getElem? (i := 11) rfl)))) (mvT hZ (hw _ (List.mem_of_getElem? (i := 11) rfl))) (mvT hZ (hw _ (List.mem_of_getElem? (i := 10) rfl))) (by decide) (backOf (W := 0) (rm2 l Z a0 hw [] (own_pick wP wR wC wD wX wF i6) (0 : Int32) (1 : Int32) wP wR wC wD wX wF h0 n0 Z0 O0 SwP SwR SwC SwD SwX SwF) hZ (hw _ (List.mem_of_getElem? (i := 12) rfl)) (hw _ (List.mem_of_getElem? (i := 6) rfl)) (by decide) (by decide)) q7a q7c (g := (mkF m 44 #[.val (.int p1), .val (.int p2), .val (.int i6), .val (.int (0 : Int32)), .val (.int (1 : Int32)), .val (.ref (own_pick wP wR wC wD wX wF i6)), .unset, .unset] [(.int (1 : Int32)), (.int (0 : Int32)), (.ref (own_pick wP wR wC wD wX wF i6))])) rfl (by rw [hml]; rfl) (Steps.refl _) (argsL := [(.int (0 : Int32)), (.int (1 : Int32))]) (rest := []) (lenOf pd_1 rfl) rfl (by show 2 * 0 + _ ≤ _; exact Nat.le_of_eq rfl) (hb hby at_44) (fun _ _ => ⟨rfl, e6, Nat.le_of_ble_eq_true rfl, Nat.le_of_ble_eq_true rfl⟩)
      dsimp only [Pt.U, Pt.locs, Pt.cells, Pt.slots] at X7 l7 y7 z7 st7 hQ7
      subst l7 y7 z7
      obtain ⟨rfl, N7q, e7⟩ := hQ7
      have N7 := Fr.app N6 N7q
      refine own_go (fun _ k => st7.trans k) ?_
      show own_Ends p e below s _ _ _ (T7.setTop (mkF m 47 #[.val (.int p1), .val (.int p2), .val (.int i6), .val (.int (0 : Int32)), .val (.int (1 : Int32)), .val (.ref (own_pick wP wR wC wD wX wF i6)), .unset, .unset] [(.ref (own_st wP wR wC wD wX wF (own_pick wP wR wC wD wX wF i6) (0 : Int32) (1 : Int32)))]))
      refine own_go (fun _ k => XS.astore X7.here hx rfl (hb hby at_47) rfl rfl (l' := #[.val (.int p1), .val (.int p2), .val (.int i6), .val (.int (0 : Int32)), .val (.int (1 : Int32)), .val (.ref (own_pick wP wR wC wD wX wF i6)), .val (.ref (own_st wP wR wC wD wX wF (own_pick wP wR wC wD wX wF i6) (0 : Int32) (1 : Int32))), .unset]) rfl <| XS.iloadN X7.here hx rfl (hb hby at_49) rfl <| XS.ifNo X7.here hx rfl (hb hby at_50) rfl ((if0 _ _).trans (teq (by decide)).2) <| XS.iloadN X7.here hx rfl (hb hby at_53) rfl <| XS.istore X7.here hx rfl (hb hby at_54) rfl (l' := #[.val (.int p1), .val (.int p2), .val (.int i6), .val (.int (0 : Int32)), .val (.int (1 : Int32)), .val (.ref (own_pick wP wR wC wD wX wF i6)), .val (.ref (own_st wP wR wC wD wX wF (own_pick wP wR wC wD wX wF i6) (0 : Int32) (1 : Int32))), .val (.int i6)]) rfl <| XS.goto X7.here hx rfl (pc0 := 56) (pc' := 92) rfl (hb hby at_56) (by decide) (by decide) <| XS.aload X7.here hx rfl (hb hby at_92) rfl rfl <| XS.iload X7.here hx rfl (hb hby at_94) rfl <| k) ?_
      show own_Ends p e below s _ _ _ (T7.setTop (mkF m 96 #[.val (.int p1), .val (.int p2), .val (.int i6), .val (.int (0 : Int32)), .val (.int (1 : Int32)), .val (.ref (own_pick wP wR wC wD wX wF i6)), .val (.ref (own_st wP wR wC wD wX wF (own_pick wP wR wC wD wX wF i6) (0 : Int32) (1 : Int32))), .val (.int i6)] [(.int i6), (.ref (own_st wP wR wC wD wX wF (own_pick wP wR wC wD wX wF i6) (0 : Int32) (1 : Int32)))]))
      obtain ⟨_, _, ⟨T8, L8, k8, n8⟩, -, X8, ⟨Lc8, hQ8, l8, y8, z8⟩, st8⟩ := Jvm.LawKit.callS X7 hx (y := (⟨"com/example/expiry/expiry/model/TaskStatusStandingPinLaw", "pick", "(I)Lcom/example/expiry/expiry/model/TaskStatus;"⟩ : MethodName)) hown (mvT hZ (hw _ (List.mem_of_getElem? (i := 1) rfl))) (mvT hZ (hw _ (List.mem_of_getElem? (i := 2) rfl))) (mvT hZ (hw _ (List.mem_of_getElem? (i := 3) rfl))) (mvT hZ (hw _ (List.mem_of_getElem? (i := 4) rfl))) (by decide) (backOf (W := 1) (rm1 l Z a0 hw [] i6 wP wR wC wD wX wF h0 n0 Z0 O0 SwP SwR SwC SwD SwX SwF) hZ (hw _ (List.mem_of_getElem? (i := 4) rfl)) (hw _ (List.mem_of_getElem? (i := 3) rfl)) (by decide) (by decide)) (g := (mkF m 96 #[.val (.int p1), .val (.int p2), .val (.int i6), .val (.int (0 : Int32)), .val (.int (1 : Int32)), .val (.ref (own_pick wP wR wC wD wX wF i6)), .val (.ref (own_st wP wR wC wD wX wF (own_pick wP wR wC wD wX wF i6) (0 : Int32) (1 : Int32))), .val (.int i6)] [(.int i6), (.ref (own_st wP wR wC wD wX wF (own_pick wP wR wC wD wX wF i6) (0 : Int32) (1 : Int32)))])) rfl (by rw [hml]; rfl) (argsL := [(.int i6)]) (rest := [(.ref (own_st wP wR wC wD wX wF (own_pick wP wR wC wD wX wF i6) (0 : Int32) (1 : Int32)))]) (lenOf pd_0 rfl) rfl (by show 2 * 0 + _ ≤ _; exact Nat.le_of_eq rfl) (hb hby at_96) (fun _ _ => ⟨rfl, e7, Nat.le_of_ble_eq_true rfl, Nat.le_of_ble_eq_true rfl⟩)
      dsimp only [Pt.U, Pt.locs, Pt.cells, Pt.slots] at X8 l8 y8 z8 st8 hQ8
      subst l8 y8 z8
      obtain ⟨rfl, N8q, e8⟩ := hQ8
      have N8 := Fr.app N7 N8q
      refine own_go (fun _ k => st8 _ k) ?_
      show own_Ends p e below s _ _ _ (T8.setTop (mkF m 99 #[.val (.int p1), .val (.int p2), .val (.int i6), .val (.int (0 : Int32)), .val (.int (1 : Int32)), .val (.ref (own_pick wP wR wC wD wX wF i6)), .val (.ref (own_st wP wR wC wD wX wF (own_pick wP wR wC wD wX wF i6) (0 : Int32) (1 : Int32))), .val (.int i6)] [(.ref (own_pick wP wR wC wD wX wF i6)), (.ref (own_st wP wR wC wD wX wF (own_pick wP wR wC wD wX wF i6) (0 : Int32) (1 : Int32)))]))
      refine own_go (fun _ k => Jvm.RoadKit.acmp (g := (mkF m 99 #[.val (.int p1), .val (.int p2), .val (.int i6), .val (.int (0 : Int32)), .val (.int (1 : Int32)), .val (.ref (own_pick wP wR wC wD wX wF i6)), .val (.ref (own_st wP wR wC wD wX wF (own_pick wP wR wC wD wX wF i6) (0 : Int32) (1 : Int32))), .val (.int i6)] [(.ref (own_pick wP wR wC wD wX wF i6)), (.ref (own_st wP wR wC wD wX wF (own_pick wP wR wC wD wX wF i6) (0 : Int32) (1 : Int32)))])) X8 hx rfl rfl rfl (pc0 := 99) (pc' := 102) (same := true) rfl (hb hby at_99) rfl (decide_eq_true (congrArg Value.ref (own_fin hd i6 _ _ _ (by simp)))) (by decide) (by decide) <| XT.iconstV X8.here hx rfl (1 : Int32) (hb hby at_102) rfl <| XS.goto X8.here hx rfl (pc0 := 103) (pc' := 107) rfl (hb hby at_103) (by decide) (by decide) <| k) ?_
      show own_Ends p e below s _ _ _ (T8.setTop (mkF m 107 #[.val (.int p1), .val (.int p2), .val (.int i6), .val (.int (0 : Int32)), .val (.int (1 : Int32)), .val (.ref (own_pick wP wR wC wD wX wF i6)), .val (.ref (own_st wP wR wC wD wX wF (own_pick wP wR wC wD wX wF i6) (0 : Int32) (1 : Int32))), .val (.int i6)] [(.int (1 : Int32))]))
      exact own_retN X8 hx (t := .boolean) hrt (by simp) (hb hby at_107) hlk (show nar .boolean (1 : Int32) = (1 : Int32) from by decide) (by rw [e8]; exact ⟨rfl, N8⟩) (by decide) (by decide)
  · -- false
    refine own_go (fun _ k => XS.ifNo X0.here hx rfl (hb hby at_11) rfl ((if0 _ _).trans (feq hc11_1).1) <| XT.iconstV X0.here hx rfl (1 : Int32) (hb hby at_14) rfl <| XS.goto X0.here hx rfl (pc0 := 15) (pc' := 19) rfl (hb hby at_15) (by decide) (by decide) <| XS.istoreN X0.here hx rfl (hb hby at_19) rfl (l' := #[.val (.int p1), .val (.int p2), .val (.int i6), .val (.int (1 : Int32)), .unset, .unset, .unset, .unset]) rfl <| XS.iloadN X0.here hx rfl (hb hby at_20) rfl <| XT.iconstV X0.here hx rfl (2 : Int32) (hb hby at_21) rfl <| XS.iand X0.here hx rfl (hb hby at_22) rfl <| k) ?_
    show own_Ends p e below s _ _ _ (s₁.setTop (mkF m 23 #[.val (.int p1), .val (.int p2), .val (.int i6), .val (.int (1 : Int32)), .unset, .unset, .unset, .unset] [(.int (p2 &&& (2 : Int32)))]))
    by_cases hc23_9 : (p2 &&& (2 : Int32)) = (0 : Int32)
    · -- true
      refine own_go (fun _ k => XS.ifYes X0.here hx rfl (pc0 := 23) (pc' := 30) rfl (hb hby at_23) rfl ((if0 _ _).trans (teq hc23_9).1) (by decide) (by decide) <| XT.iconstV X0.here hx rfl (0 : Int32) (hb hby at_30) rfl <| XS.istore X0.here hx rfl (hb hby at_31) rfl (l' := #[.val (.int p1), .val (.int p2), .val (.int i6), .val (.int (1 : Int32)), .val (.int (0 : Int32)), .unset, .unset, .unset]) rfl <| XS.iloadN X0.here hx rfl (hb hby at_33) rfl <| k) ?_
      show own_Ends p e below s _ _ _ (s₁.setTop (mkF m 34 #[.val (.int p1), .val (.int p2), .val (.int i6), .val (.int (1 : Int32)), .val (.int (0 : Int32)), .unset, .unset, .unset] [(.int i6)]))
      obtain ⟨_, _, ⟨T10, L10, k10, n10⟩, -, X10, ⟨Lc10, hQ10, l10, y10, z10⟩, st10⟩ := Jvm.LawKit.callS X0 hx (y := (⟨"com/example/expiry/expiry/model/TaskStatusStandingPinLaw", "pick", "(I)Lcom/example/expiry/expiry/model/TaskStatus;"⟩ : MethodName)) hown (mvT hZ (hw _ (List.mem_of_getElem? (i := 1) rfl))) (mvT hZ (hw _ (List.mem_of_getElem? (i := 2) rfl))) (mvT hZ (hw _ (List.mem_of_getElem? (i := 3) rfl))) (mvT hZ (hw _ (List.mem_of_getElem? (i := 4) rfl))) (by decide) (backOf (W := 0) (rm1 l Z a0 hw [] i6 wP wR wC wD wX wF h0 n0 Z0 O0 SwP SwR SwC SwD SwX SwF) hZ (hw _ (List.mem_of_getElem? (i := 4) rfl)) (hw _ (List.mem_of_getElem? (i := 3) rfl)) (by decide) (by decide)) (g := (mkF m 34 #[.val (.int p1), .val (.int p2), .val (.int i6), .val (.int (1 : Int32)), .val (.int (0 : Int32)), .unset, .unset, .unset] [(.int i6)])) rfl (by rw [hml]; rfl) (argsL := [(.int i6)]) (rest := []) (lenOf pd_0 rfl) rfl (by show 2 * 0 + _ ≤ _; exact Nat.le_of_eq rfl) (hb hby at_34) (fun _ _ => ⟨rfl, e0, Nat.le_of_ble_eq_true rfl, Nat.le_of_ble_eq_true rfl⟩)
      dsimp only [Pt.U, Pt.locs, Pt.cells, Pt.slots] at X10 l10 y10 z10 st10 hQ10
      subst l10 y10 z10
      obtain ⟨rfl, N10q, e10⟩ := hQ10
      have N10 := Fr.app N0 N10q
      refine own_go (fun _ k => st10 _ k) ?_
      show own_Ends p e below s _ _ _ (T10.setTop (mkF m 37 #[.val (.int p1), .val (.int p2), .val (.int i6), .val (.int (1 : Int32)), .val (.int (0 : Int32)), .unset, .unset, .unset] [(.ref (own_pick wP wR wC wD wX wF i6))]))
      refine own_go (fun _ k => XS.astore X10.here hx rfl (hb hby at_37) rfl rfl (l' := #[.val (.int p1), .val (.int p2), .val (.int i6), .val (.int (1 : Int32)), .val (.int (0 : Int32)), .val (.ref (own_pick wP wR wC wD wX wF i6)), .unset, .unset]) rfl <| XS.aload X10.here hx rfl (hb hby at_39) rfl rfl <| XS.iloadN X10.here hx rfl (hb hby at_41) rfl <| XS.iload X10.here hx rfl (hb hby at_42) rfl <| k) ?_
      show own_Ends p e below s _ _ _ (T10.setTop (mkF m 44 #[.val (.int p1), .val (.int p2), .val (.int i6), .val (.int (1 : Int32)), .val (.int (0 : Int32)), .val (.ref (own_pick wP wR wC wD wX wF i6)), .unset, .unset] [(.int (0 : Int32)), (.int (1 : Int32)), (.ref (own_pick wP wR wC wD wX wF i6))]))
      obtain ⟨cq11, kq11, q11a, q11b, q11c⟩ := isOf hZ e10 (own_exa EwP EwR EwC EwD EwX EwF i6)
      obtain ⟨_, _, ⟨T11, L11, k11, n11⟩, -, X11, ⟨Lc11, hQ11, l11, y11, z11⟩, st11⟩ := X10.virtualBack hx (y := (⟨"com/example/expiry/expiry/model/TaskStatus", "standing", "(ZZ)Lcom/example/expiry/expiry/model/TaskStatus;"⟩ : MethodName)) (z := (⟨"com/example/expiry/expiry/model/TaskStatus", "standing", "(ZZ)Lcom/example/expiry/expiry/model/TaskStatus;"⟩ : MethodName)) hown (mvT hZ (hw _ (List.mem_of_getElem? (i := 8) rfl))) (mvT hZ (hw _ (List.mem_of_getElem? (i := 9) rfl))) (notFace_of_selects (args := #[]) (mvT hZ (hw _ (List.mem_of_getElem? (i := 11) rfl)))) (mvT hZ (hw _ (List.mem_of_getElem? (i := 11) rfl))) (mvT hZ (hw _ (List.mem_of_getElem? (i := 10) rfl))) (by decide) (backOf (W := 0) (rm2 l Z a0 hw [] (own_pick wP wR wC wD wX wF i6) (1 : Int32) (0 : Int32) wP wR wC wD wX wF h0 n0 Z0 O0 SwP SwR SwC SwD SwX SwF) hZ (hw _ (List.mem_of_getElem? (i := 12) rfl)) (hw _ (List.mem_of_getElem? (i := 6) rfl)) (by decide) (by decide)) q11a q11c (g := (mkF m 44 #[.val (.int p1), .val (.int p2), .val (.int i6), .val (.int (1 : Int32)), .val (.int (0 : Int32)), .val (.ref (own_pick wP wR wC wD wX wF i6)), .unset, .unset] [(.int (0 : Int32)), (.int (1 : Int32)), (.ref (own_pick wP wR wC wD wX wF i6))])) rfl (by rw [hml]; rfl) (Steps.refl _) (argsL := [(.int (1 : Int32)), (.int (0 : Int32))]) (rest := []) (lenOf pd_1 rfl) rfl (by show 2 * 0 + _ ≤ _; exact Nat.le_of_eq rfl) (hb hby at_44) (fun _ _ => ⟨rfl, e10, Nat.le_of_ble_eq_true rfl, Nat.le_of_ble_eq_true rfl⟩)
      dsimp only [Pt.U, Pt.locs, Pt.cells, Pt.slots] at X11 l11 y11 z11 st11 hQ11
      subst l11 y11 z11
      obtain ⟨rfl, N11q, e11⟩ := hQ11
      have N11 := Fr.app N10 N11q
      refine own_go (fun _ k => st11.trans k) ?_
      show own_Ends p e below s _ _ _ (T11.setTop (mkF m 47 #[.val (.int p1), .val (.int p2), .val (.int i6), .val (.int (1 : Int32)), .val (.int (0 : Int32)), .val (.ref (own_pick wP wR wC wD wX wF i6)), .unset, .unset] [(.ref (own_st wP wR wC wD wX wF (own_pick wP wR wC wD wX wF i6) (1 : Int32) (0 : Int32)))]))
      refine own_go (fun _ k => XS.astore X11.here hx rfl (hb hby at_47) rfl rfl (l' := #[.val (.int p1), .val (.int p2), .val (.int i6), .val (.int (1 : Int32)), .val (.int (0 : Int32)), .val (.ref (own_pick wP wR wC wD wX wF i6)), .val (.ref (own_st wP wR wC wD wX wF (own_pick wP wR wC wD wX wF i6) (1 : Int32) (0 : Int32))), .unset]) rfl <| XS.iloadN X11.here hx rfl (hb hby at_49) rfl <| XS.ifYes X11.here hx rfl (pc0 := 50) (pc' := 59) rfl (hb hby at_50) rfl ((if0 _ _).trans (feq (by decide)).2) (by decide) (by decide) <| XS.iloadN X11.here hx rfl (hb hby at_59) rfl <| k) ?_
      show own_Ends p e below s _ _ _ (T11.setTop (mkF m 60 #[.val (.int p1), .val (.int p2), .val (.int i6), .val (.int (1 : Int32)), .val (.int (0 : Int32)), .val (.ref (own_pick wP wR wC wD wX wF i6)), .val (.ref (own_st wP wR wC wD wX wF (own_pick wP wR wC wD wX wF i6) (1 : Int32) (0 : Int32))), .unset] [(.int i6)]))
      by_cases hc60_12 : i6 = (0 : Int32)
      · -- true
        refine own_go (fun _ k => XS.ifNo X11.here hx rfl (hb hby at_60) rfl ((if0 _ _).trans (teq hc60_12).2) <| XT.iconstV X11.here hx rfl (1 : Int32) (hb hby at_63) rfl <| XS.istore X11.here hx rfl (hb hby at_64) rfl (l' := #[.val (.int p1), .val (.int p2), .val (.int i6), .val (.int (1 : Int32)), .val (.int (0 : Int32)), .val (.ref (own_pick wP wR wC wD wX wF i6)), .val (.ref (own_st wP wR wC wD wX wF (own_pick wP wR wC wD wX wF i6) (1 : Int32) (0 : Int32))), .val (.int (1 : Int32))]) rfl <| XS.goto X11.here hx rfl (pc0 := 66) (pc' := 92) rfl (hb hby at_66) (by decide) (by decide) <| XS.aload X11.here hx rfl (hb hby at_92) rfl rfl <| XS.iload X11.here hx rfl (hb hby at_94) rfl <| k) ?_
        show own_Ends p e below s _ _ _ (T11.setTop (mkF m 96 #[.val (.int p1), .val (.int p2), .val (.int i6), .val (.int (1 : Int32)), .val (.int (0 : Int32)), .val (.ref (own_pick wP wR wC wD wX wF i6)), .val (.ref (own_st wP wR wC wD wX wF (own_pick wP wR wC wD wX wF i6) (1 : Int32) (0 : Int32))), .val (.int (1 : Int32))] [(.int (1 : Int32)), (.ref (own_st wP wR wC wD wX wF (own_pick wP wR wC wD wX wF i6) (1 : Int32) (0 : Int32)))]))
        obtain ⟨_, _, ⟨T13, L13, k13, n13⟩, -, X13, ⟨Lc13, hQ13, l13, y13, z13⟩, st13⟩ := Jvm.LawKit.callS X11 hx (y := (⟨"com/example/expiry/expiry/model/TaskStatusStandingPinLaw", "pick", "(I)Lcom/example/expiry/expiry/model/TaskStatus;"⟩ : MethodName)) hown (mvT hZ (hw _ (List.mem_of_getElem? (i := 1) rfl))) (mvT hZ (hw _ (List.mem_of_getElem? (i := 2) rfl))) (mvT hZ (hw _ (List.mem_of_getElem? (i := 3) rfl))) (mvT hZ (hw _ (List.mem_of_getElem? (i := 4) rfl))) (by decide) (backOf (W := 1) (rm1 l Z a0 hw [] (1 : Int32) wP wR wC wD wX wF h0 n0 Z0 O0 SwP SwR SwC SwD SwX SwF) hZ (hw _ (List.mem_of_getElem? (i := 4) rfl)) (hw _ (List.mem_of_getElem? (i := 3) rfl)) (by decide) (by decide)) (g := (mkF m 96 #[.val (.int p1), .val (.int p2), .val (.int i6), .val (.int (1 : Int32)), .val (.int (0 : Int32)), .val (.ref (own_pick wP wR wC wD wX wF i6)), .val (.ref (own_st wP wR wC wD wX wF (own_pick wP wR wC wD wX wF i6) (1 : Int32) (0 : Int32))), .val (.int (1 : Int32))] [(.int (1 : Int32)), (.ref (own_st wP wR wC wD wX wF (own_pick wP wR wC wD wX wF i6) (1 : Int32) (0 : Int32)))])) rfl (by rw [hml]; rfl) (argsL := [(.int (1 : Int32))]) (rest := [(.ref (own_st wP wR wC wD wX wF (own_pick wP wR wC wD wX wF i6) (1 : Int32) (0 : Int32)))]) (lenOf pd_0 rfl) rfl (by show 2 * 0 + _ ≤ _; exact Nat.le_of_eq rfl) (hb hby at_96) (fun _ _ => ⟨rfl, e11, Nat.le_of_ble_eq_true rfl, Nat.le_of_ble_eq_true rfl⟩)
        dsimp only [Pt.U, Pt.locs, Pt.cells, Pt.slots] at X13 l13 y13 z13 st13 hQ13
        subst l13 y13 z13
        obtain ⟨rfl, N13q, e13⟩ := hQ13
        have N13 := Fr.app N11 N13q
        refine own_go (fun _ k => st13 _ k) ?_
        show own_Ends p e below s _ _ _ (T13.setTop (mkF m 99 #[.val (.int p1), .val (.int p2), .val (.int i6), .val (.int (1 : Int32)), .val (.int (0 : Int32)), .val (.ref (own_pick wP wR wC wD wX wF i6)), .val (.ref (own_st wP wR wC wD wX wF (own_pick wP wR wC wD wX wF i6) (1 : Int32) (0 : Int32))), .val (.int (1 : Int32))] [(.ref (own_pick wP wR wC wD wX wF (1 : Int32))), (.ref (own_st wP wR wC wD wX wF (own_pick wP wR wC wD wX wF i6) (1 : Int32) (0 : Int32)))]))
        refine own_go (fun _ k => Jvm.RoadKit.acmp (g := (mkF m 99 #[.val (.int p1), .val (.int p2), .val (.int i6), .val (.int (1 : Int32)), .val (.int (0 : Int32)), .val (.ref (own_pick wP wR wC wD wX wF i6)), .val (.ref (own_st wP wR wC wD wX wF (own_pick wP wR wC wD wX wF i6) (1 : Int32) (0 : Int32))), .val (.int (1 : Int32))] [(.ref (own_pick wP wR wC wD wX wF (1 : Int32))), (.ref (own_st wP wR wC wD wX wF (own_pick wP wR wC wD wX wF i6) (1 : Int32) (0 : Int32)))])) X13 hx rfl rfl rfl (pc0 := 99) (pc' := 102) (same := true) rfl (hb hby at_99) rfl (decide_eq_true (congrArg Value.ref (own_fin hd i6 _ _ _ (by simp [hc60_12])))) (by decide) (by decide) <| XT.iconstV X13.here hx rfl (1 : Int32) (hb hby at_102) rfl <| XS.goto X13.here hx rfl (pc0 := 103) (pc' := 107) rfl (hb hby at_103) (by decide) (by decide) <| k) ?_
        show own_Ends p e below s _ _ _ (T13.setTop (mkF m 107 #[.val (.int p1), .val (.int p2), .val (.int i6), .val (.int (1 : Int32)), .val (.int (0 : Int32)), .val (.ref (own_pick wP wR wC wD wX wF i6)), .val (.ref (own_st wP wR wC wD wX wF (own_pick wP wR wC wD wX wF i6) (1 : Int32) (0 : Int32))), .val (.int (1 : Int32))] [(.int (1 : Int32))]))
        exact own_retN X13 hx (t := .boolean) hrt (by simp) (hb hby at_107) hlk (show nar .boolean (1 : Int32) = (1 : Int32) from by decide) (by rw [e13]; exact ⟨rfl, N13⟩) (by decide) (by decide)
      · -- false
        refine own_go (fun _ k => XS.ifYes X11.here hx rfl (pc0 := 60) (pc' := 69) rfl (hb hby at_60) rfl ((if0 _ _).trans (feq hc60_12).2) (by decide) (by decide) <| XS.iloadN X11.here hx rfl (hb hby at_69) rfl <| XT.iconstV X11.here hx rfl (2 : Int32) (hb hby at_70) rfl <| k) ?_
        show own_Ends p e below s _ _ _ (T11.setTop (mkF m 71 #[.val (.int p1), .val (.int p2), .val (.int i6), .val (.int (1 : Int32)), .val (.int (0 : Int32)), .val (.ref (own_pick wP wR wC wD wX wF i6)), .val (.ref (own_st wP wR wC wD wX wF (own_pick wP wR wC wD wX wF i6) (1 : Int32) (0 : Int32))), .unset] [(.int (2 : Int32)), (.int i6)]))
        by_cases hc71_14 : i6 = (2 : Int32)
        · -- true
          refine own_go (fun _ k => XS.icmpNo X11.here hx rfl (hb hby at_71) rfl (teq hc71_14).2 <| XS.iload X11.here hx rfl (hb hby at_74) rfl <| XS.ifYes X11.here hx rfl (pc0 := 76) (pc' := 83) rfl (hb hby at_76) rfl ((if0 _ _).trans (teq (by decide)).1) (by decide) (by decide) <| XT.iconstV X11.here hx rfl (1 : Int32) (hb hby at_83) rfl <| XS.istore X11.here hx rfl (hb hby at_84) rfl (l' := #[.val (.int p1), .val (.int p2), .val (.int i6), .val (.int (1 : Int32)), .val (.int (0 : Int32)), .val (.ref (own_pick wP wR wC wD wX wF i6)), .val (.ref (own_st wP wR wC wD wX wF (own_pick wP wR wC wD wX wF i6) (1 : Int32) (0 : Int32))), .val (.int (1 : Int32))]) rfl <| XS.goto X11.here hx rfl (pc0 := 86) (pc' := 92) rfl (hb hby at_86) (by decide) (by decide) <| XS.aload X11.here hx rfl (hb hby at_92) rfl rfl <| XS.iload X11.here hx rfl (hb hby at_94) rfl <| k) ?_
          show own_Ends p e below s _ _ _ (T11.setTop (mkF m 96 #[.val (.int p1), .val (.int p2), .val (.int i6), .val (.int (1 : Int32)), .val (.int (0 : Int32)), .val (.ref (own_pick wP wR wC wD wX wF i6)), .val (.ref (own_st wP wR wC wD wX wF (own_pick wP wR wC wD wX wF i6) (1 : Int32) (0 : Int32))), .val (.int (1 : Int32))] [(.int (1 : Int32)), (.ref (own_st wP wR wC wD wX wF (own_pick wP wR wC wD wX wF i6) (1 : Int32) (0 : Int32)))]))
          obtain ⟨_, _, ⟨T15, L15, k15, n15⟩, -, X15, ⟨Lc15, hQ15, l15, y15, z15⟩, st15⟩ := Jvm.LawKit.callS X11 hx (y := (⟨"com/example/expiry/expiry/model/TaskStatusStandingPinLaw", "pick", "(I)Lcom/example/expiry/expiry/model/TaskStatus;"⟩ : MethodName)) hown (mvT hZ (hw _ (List.mem_of_getElem? (i := 1) rfl))) (mvT hZ (hw _ (List.mem_of_getElem? (i := 2) rfl))) (mvT hZ (hw _ (List.mem_of_getElem? (i := 3) rfl))) (mvT hZ (hw _ (List.mem_of_getElem? (i := 4) rfl))) (by decide) (backOf (W := 1) (rm1 l Z a0 hw [] (1 : Int32) wP wR wC wD wX wF h0 n0 Z0 O0 SwP SwR SwC SwD SwX SwF) hZ (hw _ (List.mem_of_getElem? (i := 4) rfl)) (hw _ (List.mem_of_getElem? (i := 3) rfl)) (by decide) (by decide)) (g := (mkF m 96 #[.val (.int p1), .val (.int p2), .val (.int i6), .val (.int (1 : Int32)), .val (.int (0 : Int32)), .val (.ref (own_pick wP wR wC wD wX wF i6)), .val (.ref (own_st wP wR wC wD wX wF (own_pick wP wR wC wD wX wF i6) (1 : Int32) (0 : Int32))), .val (.int (1 : Int32))] [(.int (1 : Int32)), (.ref (own_st wP wR wC wD wX wF (own_pick wP wR wC wD wX wF i6) (1 : Int32) (0 : Int32)))])) rfl (by rw [hml]; rfl) (argsL := [(.int (1 : Int32))]) (rest := [(.ref (own_st wP wR wC wD wX wF (own_pick wP wR wC wD wX wF i6) (1 : Int32) (0 : Int32)))]) (lenOf pd_0 rfl) rfl (by show 2 * 0 + _ ≤ _; exact Nat.le_of_eq rfl) (hb hby at_96) (fun _ _ => ⟨rfl, e11, Nat.le_of_ble_eq_true rfl, Nat.le_of_ble_eq_true rfl⟩)
          dsimp only [Pt.U, Pt.locs, Pt.cells, Pt.slots] at X15 l15 y15 z15 st15 hQ15
          subst l15 y15 z15
          obtain ⟨rfl, N15q, e15⟩ := hQ15
          have N15 := Fr.app N11 N15q
          refine own_go (fun _ k => st15 _ k) ?_
          show own_Ends p e below s _ _ _ (T15.setTop (mkF m 99 #[.val (.int p1), .val (.int p2), .val (.int i6), .val (.int (1 : Int32)), .val (.int (0 : Int32)), .val (.ref (own_pick wP wR wC wD wX wF i6)), .val (.ref (own_st wP wR wC wD wX wF (own_pick wP wR wC wD wX wF i6) (1 : Int32) (0 : Int32))), .val (.int (1 : Int32))] [(.ref (own_pick wP wR wC wD wX wF (1 : Int32))), (.ref (own_st wP wR wC wD wX wF (own_pick wP wR wC wD wX wF i6) (1 : Int32) (0 : Int32)))]))
          refine own_go (fun _ k => Jvm.RoadKit.acmp (g := (mkF m 99 #[.val (.int p1), .val (.int p2), .val (.int i6), .val (.int (1 : Int32)), .val (.int (0 : Int32)), .val (.ref (own_pick wP wR wC wD wX wF i6)), .val (.ref (own_st wP wR wC wD wX wF (own_pick wP wR wC wD wX wF i6) (1 : Int32) (0 : Int32))), .val (.int (1 : Int32))] [(.ref (own_pick wP wR wC wD wX wF (1 : Int32))), (.ref (own_st wP wR wC wD wX wF (own_pick wP wR wC wD wX wF i6) (1 : Int32) (0 : Int32)))])) X15 hx rfl rfl rfl (pc0 := 99) (pc' := 102) (same := true) rfl (hb hby at_99) rfl (decide_eq_true (congrArg Value.ref (own_fin hd i6 _ _ _ (by simp [hc60_12, hc71_14])))) (by decide) (by decide) <| XT.iconstV X15.here hx rfl (1 : Int32) (hb hby at_102) rfl <| XS.goto X15.here hx rfl (pc0 := 103) (pc' := 107) rfl (hb hby at_103) (by decide) (by decide) <| k) ?_
          show own_Ends p e below s _ _ _ (T15.setTop (mkF m 107 #[.val (.int p1), .val (.int p2), .val (.int i6), .val (.int (1 : Int32)), .val (.int (0 : Int32)), .val (.ref (own_pick wP wR wC wD wX wF i6)), .val (.ref (own_st wP wR wC wD wX wF (own_pick wP wR wC wD wX wF i6) (1 : Int32) (0 : Int32))), .val (.int (1 : Int32))] [(.int (1 : Int32))]))
          exact own_retN X15 hx (t := .boolean) hrt (by simp) (hb hby at_107) hlk (show nar .boolean (1 : Int32) = (1 : Int32) from by decide) (by rw [e15]; exact ⟨rfl, N15⟩) (by decide) (by decide)
        · -- false
          refine own_go (fun _ k => XS.icmpYes X11.here hx rfl (pc0 := 71) (pc' := 89) rfl (hb hby at_71) rfl (feq hc71_14).2 (by decide) (by decide) <| XS.iloadN X11.here hx rfl (hb hby at_89) rfl <| XS.istore X11.here hx rfl (hb hby at_90) rfl (l' := #[.val (.int p1), .val (.int p2), .val (.int i6), .val (.int (1 : Int32)), .val (.int (0 : Int32)), .val (.ref (own_pick wP wR wC wD wX wF i6)), .val (.ref (own_st wP wR wC wD wX wF (own_pick wP wR wC wD wX wF i6) (1 : Int32) (0 : Int32))), .val (.int i6)]) rfl <| XS.aload X11.here hx rfl (hb hby at_92) rfl rfl <| XS.iload X11.here hx rfl (hb hby at_94) rfl <| k) ?_
          show own_Ends p e below s _ _ _ (T11.setTop (mkF m 96 #[.val (.int p1), .val (.int p2), .val (.int i6), .val (.int (1 : Int32)), .val (.int (0 : Int32)), .val (.ref (own_pick wP wR wC wD wX wF i6)), .val (.ref (own_st wP wR wC wD wX wF (own_pick wP wR wC wD wX wF i6) (1 : Int32) (0 : Int32))), .val (.int i6)] [(.int i6), (.ref (own_st wP wR wC wD wX wF (own_pick wP wR wC wD wX wF i6) (1 : Int32) (0 : Int32)))]))
          obtain ⟨_, _, ⟨T16, L16, k16, n16⟩, -, X16, ⟨Lc16, hQ16, l16, y16, z16⟩, st16⟩ := Jvm.LawKit.callS X11 hx (y := (⟨"com/example/expiry/expiry/model/TaskStatusStandingPinLaw", "pick", "(I)Lcom/example/expiry/expiry/model/TaskStatus;"⟩ : MethodName)) hown (mvT hZ (hw _ (List.mem_of_getElem? (i := 1) rfl))) (mvT hZ (hw _ (List.mem_of_getElem? (i := 2) rfl))) (mvT hZ (hw _ (List.mem_of_getElem? (i := 3) rfl))) (mvT hZ (hw _ (List.mem_of_getElem? (i := 4) rfl))) (by decide) (backOf (W := 1) (rm1 l Z a0 hw [] i6 wP wR wC wD wX wF h0 n0 Z0 O0 SwP SwR SwC SwD SwX SwF) hZ (hw _ (List.mem_of_getElem? (i := 4) rfl)) (hw _ (List.mem_of_getElem? (i := 3) rfl)) (by decide) (by decide)) (g := (mkF m 96 #[.val (.int p1), .val (.int p2), .val (.int i6), .val (.int (1 : Int32)), .val (.int (0 : Int32)), .val (.ref (own_pick wP wR wC wD wX wF i6)), .val (.ref (own_st wP wR wC wD wX wF (own_pick wP wR wC wD wX wF i6) (1 : Int32) (0 : Int32))), .val (.int i6)] [(.int i6), (.ref (own_st wP wR wC wD wX wF (own_pick wP wR wC wD wX wF i6) (1 : Int32) (0 : Int32)))])) rfl (by rw [hml]; rfl) (argsL := [(.int i6)]) (rest := [(.ref (own_st wP wR wC wD wX wF (own_pick wP wR wC wD wX wF i6) (1 : Int32) (0 : Int32)))]) (lenOf pd_0 rfl) rfl (by show 2 * 0 + _ ≤ _; exact Nat.le_of_eq rfl) (hb hby at_96) (fun _ _ => ⟨rfl, e11, Nat.le_of_ble_eq_true rfl, Nat.le_of_ble_eq_true rfl⟩)
          dsimp only [Pt.U, Pt.locs, Pt.cells, Pt.slots] at X16 l16 y16 z16 st16 hQ16
          subst l16 y16 z16
          obtain ⟨rfl, N16q, e16⟩ := hQ16
          have N16 := Fr.app N11 N16q
          refine own_go (fun _ k => st16 _ k) ?_
          show own_Ends p e below s _ _ _ (T16.setTop (mkF m 99 #[.val (.int p1), .val (.int p2), .val (.int i6), .val (.int (1 : Int32)), .val (.int (0 : Int32)), .val (.ref (own_pick wP wR wC wD wX wF i6)), .val (.ref (own_st wP wR wC wD wX wF (own_pick wP wR wC wD wX wF i6) (1 : Int32) (0 : Int32))), .val (.int i6)] [(.ref (own_pick wP wR wC wD wX wF i6)), (.ref (own_st wP wR wC wD wX wF (own_pick wP wR wC wD wX wF i6) (1 : Int32) (0 : Int32)))]))
          refine own_go (fun _ k => Jvm.RoadKit.acmp (g := (mkF m 99 #[.val (.int p1), .val (.int p2), .val (.int i6), .val (.int (1 : Int32)), .val (.int (0 : Int32)), .val (.ref (own_pick wP wR wC wD wX wF i6)), .val (.ref (own_st wP wR wC wD wX wF (own_pick wP wR wC wD wX wF i6) (1 : Int32) (0 : Int32))), .val (.int i6)] [(.ref (own_pick wP wR wC wD wX wF i6)), (.ref (own_st wP wR wC wD wX wF (own_pick wP wR wC wD wX wF i6) (1 : Int32) (0 : Int32)))])) X16 hx rfl rfl rfl (pc0 := 99) (pc' := 102) (same := true) rfl (hb hby at_99) rfl (decide_eq_true (congrArg Value.ref (own_fin hd i6 _ _ _ (by simp [hc60_12, hc71_14])))) (by decide) (by decide) <| XT.iconstV X16.here hx rfl (1 : Int32) (hb hby at_102) rfl <| XS.goto X16.here hx rfl (pc0 := 103) (pc' := 107) rfl (hb hby at_103) (by decide) (by decide) <| k) ?_
          show own_Ends p e below s _ _ _ (T16.setTop (mkF m 107 #[.val (.int p1), .val (.int p2), .val (.int i6), .val (.int (1 : Int32)), .val (.int (0 : Int32)), .val (.ref (own_pick wP wR wC wD wX wF i6)), .val (.ref (own_st wP wR wC wD wX wF (own_pick wP wR wC wD wX wF i6) (1 : Int32) (0 : Int32))), .val (.int i6)] [(.int (1 : Int32))]))
          exact own_retN X16 hx (t := .boolean) hrt (by simp) (hb hby at_107) hlk (show nar .boolean (1 : Int32) = (1 : Int32) from by decide) (by rw [e16]; exact ⟨rfl, N16⟩) (by decide) (by decide)
    · -- false
      refine own_go (fun _ k => XS.ifNo X0.here hx rfl (hb hby at_23) rfl ((if0 _ _).trans (feq hc23_9).1) <| XT.iconstV X0.here hx rfl (1 : Int32) (hb hby at_26) rfl <| XS.goto X0.here hx rfl (pc0 := 27) (pc' := 31) rfl (hb hby at_27) (by decide) (by decide) <| XS.istore X0.here hx rfl (hb hby at_31) rfl (l' := #[.val (.int p1), .val (.int p2), .val (.int i6), .val (.int (1 : Int32)), .val (.int (1 : Int32)), .unset, .unset, .unset]) rfl <| XS.iloadN X0.here hx rfl (hb hby at_33) rfl <| k) ?_
      show own_Ends p e below s _ _ _ (s₁.setTop (mkF m 34 #[.val (.int p1), .val (.int p2), .val (.int i6), .val (.int (1 : Int32)), .val (.int (1 : Int32)), .unset, .unset, .unset] [(.int i6)]))
      obtain ⟨_, _, ⟨T17, L17, k17, n17⟩, -, X17, ⟨Lc17, hQ17, l17, y17, z17⟩, st17⟩ := Jvm.LawKit.callS X0 hx (y := (⟨"com/example/expiry/expiry/model/TaskStatusStandingPinLaw", "pick", "(I)Lcom/example/expiry/expiry/model/TaskStatus;"⟩ : MethodName)) hown (mvT hZ (hw _ (List.mem_of_getElem? (i := 1) rfl))) (mvT hZ (hw _ (List.mem_of_getElem? (i := 2) rfl))) (mvT hZ (hw _ (List.mem_of_getElem? (i := 3) rfl))) (mvT hZ (hw _ (List.mem_of_getElem? (i := 4) rfl))) (by decide) (backOf (W := 0) (rm1 l Z a0 hw [] i6 wP wR wC wD wX wF h0 n0 Z0 O0 SwP SwR SwC SwD SwX SwF) hZ (hw _ (List.mem_of_getElem? (i := 4) rfl)) (hw _ (List.mem_of_getElem? (i := 3) rfl)) (by decide) (by decide)) (g := (mkF m 34 #[.val (.int p1), .val (.int p2), .val (.int i6), .val (.int (1 : Int32)), .val (.int (1 : Int32)), .unset, .unset, .unset] [(.int i6)])) rfl (by rw [hml]; rfl) (argsL := [(.int i6)]) (rest := []) (lenOf pd_0 rfl) rfl (by show 2 * 0 + _ ≤ _; exact Nat.le_of_eq rfl) (hb hby at_34) (fun _ _ => ⟨rfl, e0, Nat.le_of_ble_eq_true rfl, Nat.le_of_ble_eq_true rfl⟩)
      dsimp only [Pt.U, Pt.locs, Pt.cells, Pt.slots] at X17 l17 y17 z17 st17 hQ17
      subst l17 y17 z17
      obtain ⟨rfl, N17q, e17⟩ := hQ17
      have N17 := Fr.app N0 N17q
      refine own_go (fun _ k => st17 _ k) ?_
      show own_Ends p e below s _ _ _ (T17.setTop (mkF m 37 #[.val (.int p1), .val (.int p2), .val (.int i6), .val (.int (1 : Int32)), .val (.int (1 : Int32)), .unset, .unset, .unset] [(.ref (own_pick wP wR wC wD wX wF i6))]))
      refine own_go (fun _ k => XS.astore X17.here hx rfl (hb hby at_37) rfl rfl (l' := #[.val (.int p1), .val (.int p2), .val (.int i6), .val (.int (1 : Int32)), .val (.int (1 : Int32)), .val (.ref (own_pick wP wR wC wD wX wF i6)), .unset, .unset]) rfl <| XS.aload X17.here hx rfl (hb hby at_39) rfl rfl <| XS.iloadN X17.here hx rfl (hb hby at_41) rfl <| XS.iload X17.here hx rfl (hb hby at_42) rfl <| k) ?_
      show own_Ends p e below s _ _ _ (T17.setTop (mkF m 44 #[.val (.int p1), .val (.int p2), .val (.int i6), .val (.int (1 : Int32)), .val (.int (1 : Int32)), .val (.ref (own_pick wP wR wC wD wX wF i6)), .unset, .unset] [(.int (1 : Int32)), (.int (1 : Int32)), (.ref (own_pick wP wR wC wD wX wF i6))]))
      obtain ⟨cq18, kq18, q18a, q18b, q18c⟩ := isOf hZ e17 (own_exa EwP EwR EwC EwD EwX EwF i6)
      obtain ⟨_, _, ⟨T18, L18, k18, n18⟩, -, X18, ⟨Lc18, hQ18, l18, y18, z18⟩, st18⟩ := X17.virtualBack hx (y := (⟨"com/example/expiry/expiry/model/TaskStatus", "standing", "(ZZ)Lcom/example/expiry/expiry/model/TaskStatus;"⟩ : MethodName)) (z := (⟨"com/example/expiry/expiry/model/TaskStatus", "standing", "(ZZ)Lcom/example/expiry/expiry/model/TaskStatus;"⟩ : MethodName)) hown (mvT hZ (hw _ (List.mem_of_getElem? (i := 8) rfl))) (mvT hZ (hw _ (List.mem_of_getElem? (i := 9) rfl))) (notFace_of_selects (args := #[]) (mvT hZ (hw _ (List.mem_of_getElem? (i := 11) rfl)))) (mvT hZ (hw _ (List.mem_of_getElem? (i := 11) rfl))) (mvT hZ (hw _ (List.mem_of_getElem? (i := 10) rfl))) (by decide) (backOf (W := 0) (rm2 l Z a0 hw [] (own_pick wP wR wC wD wX wF i6) (1 : Int32) (1 : Int32) wP wR wC wD wX wF h0 n0 Z0 O0 SwP SwR SwC SwD SwX SwF) hZ (hw _ (List.mem_of_getElem? (i := 12) rfl)) (hw _ (List.mem_of_getElem? (i := 6) rfl)) (by decide) (by decide)) q18a q18c (g := (mkF m 44 #[.val (.int p1), .val (.int p2), .val (.int i6), .val (.int (1 : Int32)), .val (.int (1 : Int32)), .val (.ref (own_pick wP wR wC wD wX wF i6)), .unset, .unset] [(.int (1 : Int32)), (.int (1 : Int32)), (.ref (own_pick wP wR wC wD wX wF i6))])) rfl (by rw [hml]; rfl) (Steps.refl _) (argsL := [(.int (1 : Int32)), (.int (1 : Int32))]) (rest := []) (lenOf pd_1 rfl) rfl (by show 2 * 0 + _ ≤ _; exact Nat.le_of_eq rfl) (hb hby at_44) (fun _ _ => ⟨rfl, e17, Nat.le_of_ble_eq_true rfl, Nat.le_of_ble_eq_true rfl⟩)
      dsimp only [Pt.U, Pt.locs, Pt.cells, Pt.slots] at X18 l18 y18 z18 st18 hQ18
      subst l18 y18 z18
      obtain ⟨rfl, N18q, e18⟩ := hQ18
      have N18 := Fr.app N17 N18q
      refine own_go (fun _ k => st18.trans k) ?_
      show own_Ends p e below s _ _ _ (T18.setTop (mkF m 47 #[.val (.int p1), .val (.int p2), .val (.int i6), .val (.int (1 : Int32)), .val (.int (1 : Int32)), .val (.ref (own_pick wP wR wC wD wX wF i6)), .unset, .unset] [(.ref (own_st wP wR wC wD wX wF (own_pick wP wR wC wD wX wF i6) (1 : Int32) (1 : Int32)))]))
      refine own_go (fun _ k => XS.astore X18.here hx rfl (hb hby at_47) rfl rfl (l' := #[.val (.int p1), .val (.int p2), .val (.int i6), .val (.int (1 : Int32)), .val (.int (1 : Int32)), .val (.ref (own_pick wP wR wC wD wX wF i6)), .val (.ref (own_st wP wR wC wD wX wF (own_pick wP wR wC wD wX wF i6) (1 : Int32) (1 : Int32))), .unset]) rfl <| XS.iloadN X18.here hx rfl (hb hby at_49) rfl <| XS.ifYes X18.here hx rfl (pc0 := 50) (pc' := 59) rfl (hb hby at_50) rfl ((if0 _ _).trans (feq (by decide)).2) (by decide) (by decide) <| XS.iloadN X18.here hx rfl (hb hby at_59) rfl <| k) ?_
      show own_Ends p e below s _ _ _ (T18.setTop (mkF m 60 #[.val (.int p1), .val (.int p2), .val (.int i6), .val (.int (1 : Int32)), .val (.int (1 : Int32)), .val (.ref (own_pick wP wR wC wD wX wF i6)), .val (.ref (own_st wP wR wC wD wX wF (own_pick wP wR wC wD wX wF i6) (1 : Int32) (1 : Int32))), .unset] [(.int i6)]))
      by_cases hc60_19 : i6 = (0 : Int32)
      · -- true
        refine own_go (fun _ k => XS.ifNo X18.here hx rfl (hb hby at_60) rfl ((if0 _ _).trans (teq hc60_19).2) <| XT.iconstV X18.here hx rfl (1 : Int32) (hb hby at_63) rfl <| XS.istore X18.here hx rfl (hb hby at_64) rfl (l' := #[.val (.int p1), .val (.int p2), .val (.int i6), .val (.int (1 : Int32)), .val (.int (1 : Int32)), .val (.ref (own_pick wP wR wC wD wX wF i6)), .val (.ref (own_st wP wR wC wD wX wF (own_pick wP wR wC wD wX wF i6) (1 : Int32) (1 : Int32))), .val (.int (1 : Int32))]) rfl <| XS.goto X18.here hx rfl (pc0 := 66) (pc' := 92) rfl (hb hby at_66) (by decide) (by decide) <| XS.aload X18.here hx rfl (hb hby at_92) rfl rfl <| XS.iload X18.here hx rfl (hb hby at_94) rfl <| k) ?_
        show own_Ends p e below s _ _ _ (T18.setTop (mkF m 96 #[.val (.int p1), .val (.int p2), .val (.int i6), .val (.int (1 : Int32)), .val (.int (1 : Int32)), .val (.ref (own_pick wP wR wC wD wX wF i6)), .val (.ref (own_st wP wR wC wD wX wF (own_pick wP wR wC wD wX wF i6) (1 : Int32) (1 : Int32))), .val (.int (1 : Int32))] [(.int (1 : Int32)), (.ref (own_st wP wR wC wD wX wF (own_pick wP wR wC wD wX wF i6) (1 : Int32) (1 : Int32)))]))
        obtain ⟨_, _, ⟨T20, L20, k20, n20⟩, -, X20, ⟨Lc20, hQ20, l20, y20, z20⟩, st20⟩ := Jvm.LawKit.callS X18 hx (y := (⟨"com/example/expiry/expiry/model/TaskStatusStandingPinLaw", "pick", "(I)Lcom/example/expiry/expiry/model/TaskStatus;"⟩ : MethodName)) hown (mvT hZ (hw _ (List.mem_of_getElem? (i := 1) rfl))) (mvT hZ (hw _ (List.mem_of_getElem? (i := 2) rfl))) (mvT hZ (hw _ (List.mem_of_getElem? (i := 3) rfl))) (mvT hZ (hw _ (List.mem_of_getElem? (i := 4) rfl))) (by decide) (backOf (W := 1) (rm1 l Z a0 hw [] (1 : Int32) wP wR wC wD wX wF h0 n0 Z0 O0 SwP SwR SwC SwD SwX SwF) hZ (hw _ (List.mem_of_getElem? (i := 4) rfl)) (hw _ (List.mem_of_getElem? (i := 3) rfl)) (by decide) (by decide)) (g := (mkF m 96 #[.val (.int p1), .val (.int p2), .val (.int i6), .val (.int (1 : Int32)), .val (.int (1 : Int32)), .val (.ref (own_pick wP wR wC wD wX wF i6)), .val (.ref (own_st wP wR wC wD wX wF (own_pick wP wR wC wD wX wF i6) (1 : Int32) (1 : Int32))), .val (.int (1 : Int32))] [(.int (1 : Int32)), (.ref (own_st wP wR wC wD wX wF (own_pick wP wR wC wD wX wF i6) (1 : Int32) (1 : Int32)))])) rfl (by rw [hml]; rfl) (argsL := [(.int (1 : Int32))]) (rest := [(.ref (own_st wP wR wC wD wX wF (own_pick wP wR wC wD wX wF i6) (1 : Int32) (1 : Int32)))]) (lenOf pd_0 rfl) rfl (by show 2 * 0 + _ ≤ _; exact Nat.le_of_eq rfl) (hb hby at_96) (fun _ _ => ⟨rfl, e18, Nat.le_of_ble_eq_true rfl, Nat.le_of_ble_eq_true rfl⟩)
        dsimp only [Pt.U, Pt.locs, Pt.cells, Pt.slots] at X20 l20 y20 z20 st20 hQ20
        subst l20 y20 z20
        obtain ⟨rfl, N20q, e20⟩ := hQ20
        have N20 := Fr.app N18 N20q
        refine own_go (fun _ k => st20 _ k) ?_
        show own_Ends p e below s _ _ _ (T20.setTop (mkF m 99 #[.val (.int p1), .val (.int p2), .val (.int i6), .val (.int (1 : Int32)), .val (.int (1 : Int32)), .val (.ref (own_pick wP wR wC wD wX wF i6)), .val (.ref (own_st wP wR wC wD wX wF (own_pick wP wR wC wD wX wF i6) (1 : Int32) (1 : Int32))), .val (.int (1 : Int32))] [(.ref (own_pick wP wR wC wD wX wF (1 : Int32))), (.ref (own_st wP wR wC wD wX wF (own_pick wP wR wC wD wX wF i6) (1 : Int32) (1 : Int32)))]))
        refine own_go (fun _ k => Jvm.RoadKit.acmp (g := (mkF m 99 #[.val (.int p1), .val (.int p2), .val (.int i6), .val (.int (1 : Int32)), .val (.int (1 : Int32)), .val (.ref (own_pick wP wR wC wD wX wF i6)), .val (.ref (own_st wP wR wC wD wX wF (own_pick wP wR wC wD wX wF i6) (1 : Int32) (1 : Int32))), .val (.int (1 : Int32))] [(.ref (own_pick wP wR wC wD wX wF (1 : Int32))), (.ref (own_st wP wR wC wD wX wF (own_pick wP wR wC wD wX wF i6) (1 : Int32) (1 : Int32)))])) X20 hx rfl rfl rfl (pc0 := 99) (pc' := 102) (same := true) rfl (hb hby at_99) rfl (decide_eq_true (congrArg Value.ref (own_fin hd i6 _ _ _ (by simp [hc60_19])))) (by decide) (by decide) <| XT.iconstV X20.here hx rfl (1 : Int32) (hb hby at_102) rfl <| XS.goto X20.here hx rfl (pc0 := 103) (pc' := 107) rfl (hb hby at_103) (by decide) (by decide) <| k) ?_
        show own_Ends p e below s _ _ _ (T20.setTop (mkF m 107 #[.val (.int p1), .val (.int p2), .val (.int i6), .val (.int (1 : Int32)), .val (.int (1 : Int32)), .val (.ref (own_pick wP wR wC wD wX wF i6)), .val (.ref (own_st wP wR wC wD wX wF (own_pick wP wR wC wD wX wF i6) (1 : Int32) (1 : Int32))), .val (.int (1 : Int32))] [(.int (1 : Int32))]))
        exact own_retN X20 hx (t := .boolean) hrt (by simp) (hb hby at_107) hlk (show nar .boolean (1 : Int32) = (1 : Int32) from by decide) (by rw [e20]; exact ⟨rfl, N20⟩) (by decide) (by decide)
      · -- false
        refine own_go (fun _ k => XS.ifYes X18.here hx rfl (pc0 := 60) (pc' := 69) rfl (hb hby at_60) rfl ((if0 _ _).trans (feq hc60_19).2) (by decide) (by decide) <| XS.iloadN X18.here hx rfl (hb hby at_69) rfl <| XT.iconstV X18.here hx rfl (2 : Int32) (hb hby at_70) rfl <| k) ?_
        show own_Ends p e below s _ _ _ (T18.setTop (mkF m 71 #[.val (.int p1), .val (.int p2), .val (.int i6), .val (.int (1 : Int32)), .val (.int (1 : Int32)), .val (.ref (own_pick wP wR wC wD wX wF i6)), .val (.ref (own_st wP wR wC wD wX wF (own_pick wP wR wC wD wX wF i6) (1 : Int32) (1 : Int32))), .unset] [(.int (2 : Int32)), (.int i6)]))
        by_cases hc71_21 : i6 = (2 : Int32)
        · -- true
          refine own_go (fun _ k => XS.icmpNo X18.here hx rfl (hb hby at_71) rfl (teq hc71_21).2 <| XS.iload X18.here hx rfl (hb hby at_74) rfl <| XS.ifNo X18.here hx rfl (hb hby at_76) rfl ((if0 _ _).trans (feq (by decide)).1) <| XT.iconstV X18.here hx rfl (5 : Int32) (hb hby at_79) rfl <| XS.goto X18.here hx rfl (pc0 := 80) (pc' := 84) rfl (hb hby at_80) (by decide) (by decide) <| XS.istore X18.here hx rfl (hb hby at_84) rfl (l' := #[.val (.int p1), .val (.int p2), .val (.int i6), .val (.int (1 : Int32)), .val (.int (1 : Int32)), .val (.ref (own_pick wP wR wC wD wX wF i6)), .val (.ref (own_st wP wR wC wD wX wF (own_pick wP wR wC wD wX wF i6) (1 : Int32) (1 : Int32))), .val (.int (5 : Int32))]) rfl <| XS.goto X18.here hx rfl (pc0 := 86) (pc' := 92) rfl (hb hby at_86) (by decide) (by decide) <| XS.aload X18.here hx rfl (hb hby at_92) rfl rfl <| XS.iload X18.here hx rfl (hb hby at_94) rfl <| k) ?_
          show own_Ends p e below s _ _ _ (T18.setTop (mkF m 96 #[.val (.int p1), .val (.int p2), .val (.int i6), .val (.int (1 : Int32)), .val (.int (1 : Int32)), .val (.ref (own_pick wP wR wC wD wX wF i6)), .val (.ref (own_st wP wR wC wD wX wF (own_pick wP wR wC wD wX wF i6) (1 : Int32) (1 : Int32))), .val (.int (5 : Int32))] [(.int (5 : Int32)), (.ref (own_st wP wR wC wD wX wF (own_pick wP wR wC wD wX wF i6) (1 : Int32) (1 : Int32)))]))
          obtain ⟨_, _, ⟨T22, L22, k22, n22⟩, -, X22, ⟨Lc22, hQ22, l22, y22, z22⟩, st22⟩ := Jvm.LawKit.callS X18 hx (y := (⟨"com/example/expiry/expiry/model/TaskStatusStandingPinLaw", "pick", "(I)Lcom/example/expiry/expiry/model/TaskStatus;"⟩ : MethodName)) hown (mvT hZ (hw _ (List.mem_of_getElem? (i := 1) rfl))) (mvT hZ (hw _ (List.mem_of_getElem? (i := 2) rfl))) (mvT hZ (hw _ (List.mem_of_getElem? (i := 3) rfl))) (mvT hZ (hw _ (List.mem_of_getElem? (i := 4) rfl))) (by decide) (backOf (W := 1) (rm1 l Z a0 hw [] (5 : Int32) wP wR wC wD wX wF h0 n0 Z0 O0 SwP SwR SwC SwD SwX SwF) hZ (hw _ (List.mem_of_getElem? (i := 4) rfl)) (hw _ (List.mem_of_getElem? (i := 3) rfl)) (by decide) (by decide)) (g := (mkF m 96 #[.val (.int p1), .val (.int p2), .val (.int i6), .val (.int (1 : Int32)), .val (.int (1 : Int32)), .val (.ref (own_pick wP wR wC wD wX wF i6)), .val (.ref (own_st wP wR wC wD wX wF (own_pick wP wR wC wD wX wF i6) (1 : Int32) (1 : Int32))), .val (.int (5 : Int32))] [(.int (5 : Int32)), (.ref (own_st wP wR wC wD wX wF (own_pick wP wR wC wD wX wF i6) (1 : Int32) (1 : Int32)))])) rfl (by rw [hml]; rfl) (argsL := [(.int (5 : Int32))]) (rest := [(.ref (own_st wP wR wC wD wX wF (own_pick wP wR wC wD wX wF i6) (1 : Int32) (1 : Int32)))]) (lenOf pd_0 rfl) rfl (by show 2 * 0 + _ ≤ _; exact Nat.le_of_eq rfl) (hb hby at_96) (fun _ _ => ⟨rfl, e18, Nat.le_of_ble_eq_true rfl, Nat.le_of_ble_eq_true rfl⟩)
          dsimp only [Pt.U, Pt.locs, Pt.cells, Pt.slots] at X22 l22 y22 z22 st22 hQ22
          subst l22 y22 z22
          obtain ⟨rfl, N22q, e22⟩ := hQ22
          have N22 := Fr.app N18 N22q
          refine own_go (fun _ k => st22 _ k) ?_
          show own_Ends p e below s _ _ _ (T22.setTop (mkF m 99 #[.val (.int p1), .val (.int p2), .val (.int i6), .val (.int (1 : Int32)), .val (.int (1 : Int32)), .val (.ref (own_pick wP wR wC wD wX wF i6)), .val (.ref (own_st wP wR wC wD wX wF (own_pick wP wR wC wD wX wF i6) (1 : Int32) (1 : Int32))), .val (.int (5 : Int32))] [(.ref (own_pick wP wR wC wD wX wF (5 : Int32))), (.ref (own_st wP wR wC wD wX wF (own_pick wP wR wC wD wX wF i6) (1 : Int32) (1 : Int32)))]))
          refine own_go (fun _ k => Jvm.RoadKit.acmp (g := (mkF m 99 #[.val (.int p1), .val (.int p2), .val (.int i6), .val (.int (1 : Int32)), .val (.int (1 : Int32)), .val (.ref (own_pick wP wR wC wD wX wF i6)), .val (.ref (own_st wP wR wC wD wX wF (own_pick wP wR wC wD wX wF i6) (1 : Int32) (1 : Int32))), .val (.int (5 : Int32))] [(.ref (own_pick wP wR wC wD wX wF (5 : Int32))), (.ref (own_st wP wR wC wD wX wF (own_pick wP wR wC wD wX wF i6) (1 : Int32) (1 : Int32)))])) X22 hx rfl rfl rfl (pc0 := 99) (pc' := 102) (same := true) rfl (hb hby at_99) rfl (decide_eq_true (congrArg Value.ref (own_fin hd i6 _ _ _ (by simp [hc60_19, hc71_21])))) (by decide) (by decide) <| XT.iconstV X22.here hx rfl (1 : Int32) (hb hby at_102) rfl <| XS.goto X22.here hx rfl (pc0 := 103) (pc' := 107) rfl (hb hby at_103) (by decide) (by decide) <| k) ?_
          show own_Ends p e below s _ _ _ (T22.setTop (mkF m 107 #[.val (.int p1), .val (.int p2), .val (.int i6), .val (.int (1 : Int32)), .val (.int (1 : Int32)), .val (.ref (own_pick wP wR wC wD wX wF i6)), .val (.ref (own_st wP wR wC wD wX wF (own_pick wP wR wC wD wX wF i6) (1 : Int32) (1 : Int32))), .val (.int (5 : Int32))] [(.int (1 : Int32))]))
          exact own_retN X22 hx (t := .boolean) hrt (by simp) (hb hby at_107) hlk (show nar .boolean (1 : Int32) = (1 : Int32) from by decide) (by rw [e22]; exact ⟨rfl, N22⟩) (by decide) (by decide)
        · -- false
          refine own_go (fun _ k => XS.icmpYes X18.here hx rfl (pc0 := 71) (pc' := 89) rfl (hb hby at_71) rfl (feq hc71_21).2 (by decide) (by decide) <| XS.iloadN X18.here hx rfl (hb hby at_89) rfl <| XS.istore X18.here hx rfl (hb hby at_90) rfl (l' := #[.val (.int p1), .val (.int p2), .val (.int i6), .val (.int (1 : Int32)), .val (.int (1 : Int32)), .val (.ref (own_pick wP wR wC wD wX wF i6)), .val (.ref (own_st wP wR wC wD wX wF (own_pick wP wR wC wD wX wF i6) (1 : Int32) (1 : Int32))), .val (.int i6)]) rfl <| XS.aload X18.here hx rfl (hb hby at_92) rfl rfl <| XS.iload X18.here hx rfl (hb hby at_94) rfl <| k) ?_
          show own_Ends p e below s _ _ _ (T18.setTop (mkF m 96 #[.val (.int p1), .val (.int p2), .val (.int i6), .val (.int (1 : Int32)), .val (.int (1 : Int32)), .val (.ref (own_pick wP wR wC wD wX wF i6)), .val (.ref (own_st wP wR wC wD wX wF (own_pick wP wR wC wD wX wF i6) (1 : Int32) (1 : Int32))), .val (.int i6)] [(.int i6), (.ref (own_st wP wR wC wD wX wF (own_pick wP wR wC wD wX wF i6) (1 : Int32) (1 : Int32)))]))
          obtain ⟨_, _, ⟨T23, L23, k23, n23⟩, -, X23, ⟨Lc23, hQ23, l23, y23, z23⟩, st23⟩ := Jvm.LawKit.callS X18 hx (y := (⟨"com/example/expiry/expiry/model/TaskStatusStandingPinLaw", "pick", "(I)Lcom/example/expiry/expiry/model/TaskStatus;"⟩ : MethodName)) hown (mvT hZ (hw _ (List.mem_of_getElem? (i := 1) rfl))) (mvT hZ (hw _ (List.mem_of_getElem? (i := 2) rfl))) (mvT hZ (hw _ (List.mem_of_getElem? (i := 3) rfl))) (mvT hZ (hw _ (List.mem_of_getElem? (i := 4) rfl))) (by decide) (backOf (W := 1) (rm1 l Z a0 hw [] i6 wP wR wC wD wX wF h0 n0 Z0 O0 SwP SwR SwC SwD SwX SwF) hZ (hw _ (List.mem_of_getElem? (i := 4) rfl)) (hw _ (List.mem_of_getElem? (i := 3) rfl)) (by decide) (by decide)) (g := (mkF m 96 #[.val (.int p1), .val (.int p2), .val (.int i6), .val (.int (1 : Int32)), .val (.int (1 : Int32)), .val (.ref (own_pick wP wR wC wD wX wF i6)), .val (.ref (own_st wP wR wC wD wX wF (own_pick wP wR wC wD wX wF i6) (1 : Int32) (1 : Int32))), .val (.int i6)] [(.int i6), (.ref (own_st wP wR wC wD wX wF (own_pick wP wR wC wD wX wF i6) (1 : Int32) (1 : Int32)))])) rfl (by rw [hml]; rfl) (argsL := [(.int i6)]) (rest := [(.ref (own_st wP wR wC wD wX wF (own_pick wP wR wC wD wX wF i6) (1 : Int32) (1 : Int32)))]) (lenOf pd_0 rfl) rfl (by show 2 * 0 + _ ≤ _; exact Nat.le_of_eq rfl) (hb hby at_96) (fun _ _ => ⟨rfl, e18, Nat.le_of_ble_eq_true rfl, Nat.le_of_ble_eq_true rfl⟩)
          dsimp only [Pt.U, Pt.locs, Pt.cells, Pt.slots] at X23 l23 y23 z23 st23 hQ23
          subst l23 y23 z23
          obtain ⟨rfl, N23q, e23⟩ := hQ23
          have N23 := Fr.app N18 N23q
          refine own_go (fun _ k => st23 _ k) ?_
          show own_Ends p e below s _ _ _ (T23.setTop (mkF m 99 #[.val (.int p1), .val (.int p2), .val (.int i6), .val (.int (1 : Int32)), .val (.int (1 : Int32)), .val (.ref (own_pick wP wR wC wD wX wF i6)), .val (.ref (own_st wP wR wC wD wX wF (own_pick wP wR wC wD wX wF i6) (1 : Int32) (1 : Int32))), .val (.int i6)] [(.ref (own_pick wP wR wC wD wX wF i6)), (.ref (own_st wP wR wC wD wX wF (own_pick wP wR wC wD wX wF i6) (1 : Int32) (1 : Int32)))]))
          refine own_go (fun _ k => Jvm.RoadKit.acmp (g := (mkF m 99 #[.val (.int p1), .val (.int p2), .val (.int i6), .val (.int (1 : Int32)), .val (.int (1 : Int32)), .val (.ref (own_pick wP wR wC wD wX wF i6)), .val (.ref (own_st wP wR wC wD wX wF (own_pick wP wR wC wD wX wF i6) (1 : Int32) (1 : Int32))), .val (.int i6)] [(.ref (own_pick wP wR wC wD wX wF i6)), (.ref (own_st wP wR wC wD wX wF (own_pick wP wR wC wD wX wF i6) (1 : Int32) (1 : Int32)))])) X23 hx rfl rfl rfl (pc0 := 99) (pc' := 102) (same := true) rfl (hb hby at_99) rfl (decide_eq_true (congrArg Value.ref (own_fin hd i6 _ _ _ (by simp [hc60_19, hc71_21])))) (by decide) (by decide) <| XT.iconstV X23.here hx rfl (1 : Int32) (hb hby at_102) rfl <| XS.goto X23.here hx rfl (pc0 := 103) (pc' := 107) rfl (hb hby at_103) (by decide) (by decide) <| k) ?_
          show own_Ends p e below s _ _ _ (T23.setTop (mkF m 107 #[.val (.int p1), .val (.int p2), .val (.int i6), .val (.int (1 : Int32)), .val (.int (1 : Int32)), .val (.ref (own_pick wP wR wC wD wX wF i6)), .val (.ref (own_st wP wR wC wD wX wF (own_pick wP wR wC wD wX wF i6) (1 : Int32) (1 : Int32))), .val (.int i6)] [(.int (1 : Int32))]))
          exact own_retN X23 hx (t := .boolean) hrt (by simp) (hb hby at_107) hlk (show nar .boolean (1 : Int32) = (1 : Int32) from by decide) (by rw [e23]; exact ⟨rfl, N23⟩) (by decide) (by decide)
set_option maxRecDepth 65536 in
set_option maxHeartbeats 40000000 in
theorem comes_1 {Post : Tables → Env → Array Value → State → Outcome → State → Prop} (hpost : ∀ tb e args s v u, (limb_1_1.after args s (.returned v) u = true ∧ limb_1_2.after args s (.returned v) u = true ∧ True) → FrameEnd s (.returned v) u (Jvm.fieldLocs frame_1_writes args s ++ Jvm.arrayLocs frame_1_arrays args s ++ Jvm.staticLocs frame_1_statics s) 0 0 → Post tb e args s (.returned v) u) :
    ArmFor flags0 classFile x code maxLocals ret World_1 tables_1 room_1 Calls_1 rest_1 Pre_1 Post := by
  intro l hfl _ _ p e ha hc hk s m args below hf hA hF happ hP
  obtain ⟨hcalls, hrest, hpre⟩ := hP
  obtain ⟨-, -, -, hnamed, -, -, -, hat⟩ := (Spec.applies_iff hf).mp happ
  obtain ⟨hg, hn⟩ := and_e (Cond.before_iff.mp (show (Jvm.Cond.and given_1 narrow_1).before args s = true from hpre))
  obtain ⟨g1, g2⟩ := and_e hg
  obtain ⟨g3, g4⟩ := and_e g2
  obtain ⟨w0, w1, rfl⟩ : ∃ w0 w1 : Value, args = #[w0, w1] := by
    have hs : args.size = 2 := by simpa [Cond.value, given_1] using g1
    obtain ⟨L⟩ := args
    match L, hs with
    | [w0, w1], _ => exact ⟨w0, w1, rfl⟩
  have hw := fun d (hd : d ∈ tables_1) => atoms_spec (ws := Jvm.Cond.code x code maxLocals ret :: tables_1) hat d (List.mem_cons_of_mem _ hd)
  have hfit : Fit s := fun {y c} hc i hi => by
    obtain ⟨ha, rfl⟩ := Array.getElem?_eq_some_iff.mp hc
    have q := List.all_eq_true.mp ((Array.all_eq_true_iff_forall_mem.mp hF) _ (Array.getElem_mem ha)) i (List.mem_range.mpr hi)
    simpa [Array.getElem?_eq_getElem hi] using q
  obtain ⟨i0, ei0⟩ := is_v g3
  obtain rfl : w0 = (.int i0) := Option.some.inj ei0
  obtain ⟨i1, ei1⟩ := is_v g4
  obtain rfl : w1 = (.int i1) := Option.some.inj ei1
  obtain ⟨m1, m2⟩ := and_e hn
  obtain ⟨m3, m4⟩ := and_e m2
  obtain ⟨m5, m6⟩ := and_e m4
  obtain ⟨m7, m8⟩ := and_e m6
  obtain ⟨m9, m10⟩ := and_e m8
  obtain ⟨m11, m12⟩ := and_e m10
  obtain ⟨m13, m14⟩ := and_e m12
  obtain ⟨m15, m16⟩ := and_e m14
  obtain ⟨m17, m18⟩ := and_e m16
  obtain ⟨m19, m20⟩ := and_e m18
  obtain ⟨m21, m22⟩ := and_e m20
  obtain ⟨wP, evwP⟩ := exa_v m1
  have SwP := Sta.start evwP (Or.inr ⟨(hw _ (List.mem_of_getElem? (i := 6) rfl)), (hw _ (List.mem_of_getElem? (i := 7) rfl))⟩)
  have EwP := Exa.start evwP m1
  obtain ⟨wR, evwR⟩ := exa_v m3
  have SwR := Sta.start evwR (Or.inr ⟨(hw _ (List.mem_of_getElem? (i := 6) rfl)), (hw _ (List.mem_of_getElem? (i := 15) rfl))⟩)
  have EwR := Exa.start evwR m3
  obtain ⟨wC, evwC⟩ := exa_v m5
  have SwC := Sta.start evwC (Or.inr ⟨(hw _ (List.mem_of_getElem? (i := 6) rfl)), (hw _ (List.mem_of_getElem? (i := 18) rfl))⟩)
  have EwC := Exa.start evwC m5
  obtain ⟨wX, evwX⟩ := exa_v m11
  have SwX := Sta.start evwX (Or.inr ⟨(hw _ (List.mem_of_getElem? (i := 6) rfl)), (hw _ (List.mem_of_getElem? (i := 21) rfl))⟩)
  have EwX := Exa.start evwX m11
  obtain ⟨wF, evwF⟩ := exa_v m15
  have SwF := Sta.start evwF (Or.inr ⟨(hw _ (List.mem_of_getElem? (i := 6) rfl)), (hw _ (List.mem_of_getElem? (i := 23) rfl))⟩)
  have EwF := Exa.start evwF m15
  obtain ⟨wD, evwD⟩ := exa_v m17
  have SwD := Sta.start evwD (Or.inr ⟨(hw _ (List.mem_of_getElem? (i := 6) rfl)), (hw _ (List.mem_of_getElem? (i := 26) rfl))⟩)
  have EwD := Exa.start evwD m17
  have hd : wC ≠ wP ∧ wR ≠ wP ∧ wR ≠ wC ∧ wD ≠ wP ∧ wD ≠ wC ∧ wX ≠ wP ∧ wX ≠ wC ∧ wF ≠ wP ∧ wF ≠ wC := ⟨own_ord_ne evwC evwP m7 m9 (by decide), own_ord_ne evwR evwP m13 m9 (by decide), own_ord_ne evwR evwC m13 m7 (by decide), own_ord_ne evwD evwP m19 m9 (by decide), own_ord_ne evwD evwC m19 m7 (by decide), own_ord_ne evwX evwP m21 m9 (by decide), own_ord_ne evwX evwC m21 m7 (by decide), own_ord_ne evwF evwP m22 m9 (by decide), own_ord_ne evwF evwC m22 m7 (by decide)⟩
  obtain ⟨n, o, h1, h2, h3, _, L, rfl, ⟨rfl, N⟩, hq⟩ := rm0 l s _ hw tables_1 i0 i1 wP wR wC wD wX wF s.heap s.heap.size (Nat.le_refl _) (Old.start s) SwP SwR SwC SwD SwX SwF EwP EwR EwC EwD EwX EwF hd p e ha hc hk s m _ below hf ((Spec.applies_iff_loose hf).mp happ).1 ⟨rfl, State.Warmed39.refl s, rfl⟩ trivial
  refine ⟨n, _, h1, h2, h3, hpost _ _ _ _ _ _ ⟨Cond.after_iff.mpr rfl, Cond.after_iff.mpr (eq_i res_at (Term.int_eval (1)) rfl), trivial⟩ ⟨hq.1, hq.2.1, (hq.2.2.sift fun y hy => Or.inr (N y hy)).mono (by decide) (by decide)⟩⟩
theorem main_1_1 : Claimed_1_1 := comes_1 fun _ _ _ _ _ _ h hF => ⟨h.1, hF⟩
theorem main_1_2 : Claimed_1_2 := comes_1 fun _ _ _ _ _ _ h hF => ⟨h.2.1, hF⟩
end Jvm.Pilot.@@N@@
namespace Jvm.Pilot.@@N@@
open Jvm Jvm.ClassFile Sem Op Lib Jvm.Free Jvm.Stand Jvm.Pilot.@@N@@.Jvm.D
/-! MADE BY PROGRAM (witnessworld.py) out of the Statement's table words and the real class files: 12 classes; the members and pool entries that the words name. The judged class is class 1, her method 2. -/
namespace start1
open Jvm.ClassFile
def u (s : String) : CpInfo := .utf8 (stringToUtf16 s)
/-- a pool by its gaps: so many unusable entries, then the entry; so many at the end -/
def gap : Nat → List CpInfo → List CpInfo
  | 0, r => r
  | n + 1, r => .unusable :: gap n r
def poolList (es : List (Nat × CpInfo)) (last : Nat) : List CpInfo := es.foldr (fun e r => gap e.1 (e.2 :: r)) (gap last [])
def pool (es : List (Nat × CpInfo)) (last : Nat) : Array CpInfo := ⟨poolList es last⟩
def fileOf (pool : Array CpInfo) (this : Nat) (attrs : Array Attribute := #[]) (ms : Array MethodInfo := #[]) (fl : Nat := 33) (sup : Nat := 0) (ifs : Array Nat := #[]) (fds : Array FieldInfo := #[]) : ClassFile where
  minorVersion := 0
  majorVersion := 65
  constantPool := pool
  accessFlags := fl
  thisClass := this
  superClass := sup
  interfaces := ifs
  fields := fds
  methods := ms
  attributes := attrs
def plain (name : String) (sup : Option ClassId) : Class where
  name := name
  kind := .ordinary
  loader := none
  accessFlags := 33
  super := sup
  interfaces := #[]
  cf := none
  fields := #[]
  methods := #[]
  instanceTypes := #[]
  staticTypes := #[]
  resolved := #[]
  callSites := []
  init := .initialized
  statics := none
  mirror := none

def pool0 : Array CpInfo := pool [(5, u "<init>"), (0, u "()V"), (1, .class_ 10), (1, u "java/lang/Object")] 113

def k0m0 : Method := { name := "<init>", desc := "()V", sig := { parameters := [], returnType := none }, accessFlags := 1, code := none }
/-- java/lang/Object -/
def k0 : Class := { plain "java/lang/Object" none with
  accessFlags := 33
  interfaces := #[]
  cf := some (fileOf pool0 8 #[] #[{ accessFlags := 1, nameIndex := 5, descriptorIndex := 6, attributes := #[] }] 33 0 #[] #[])
  fields := #[]
  methods := #[k0m0]
  instanceTypes := #[]
  staticTypes := #[]
  resolved := Array.replicate 124 none
  statics := none }

def pool1 : Array CpInfo := pool [(2, .class_ 4), (1, u "java/lang/Object"), (0, u "<init>"), (0, u "()V"), (0, .fieldref 8 9), (0, .class_ 10), (0, .nameAndType 11 12), (0, u "com/example/expiry/expiry/model/TaskStatus"), (0, u "PENDING"), (0, u "Lcom/example/expiry/expiry/model/TaskStatus;"), (0, .fieldref 8 14), (0, .nameAndType 15 12), (0, u "READY"), (0, .fieldref 8 17), (0, .nameAndType 18 12), (0, u "CLAIMED"), (0, .fieldref 8 20), (0, .nameAndType 21 12), (0, u "DONE"), (0, .fieldref 8 23), (0, .nameAndType 24 12), (0, u "CANCELLED"), (0, .fieldref 8 26), (0, .nameAndType 27 12), (0, u "FAILED"), (0, .integer 2147483647), (0, .methodref 30 31), (0, .class_ 32), (0, .nameAndType 33 34), (0, u "com/example/expiry/expiry/model/TaskStatusStandingPinLaw"), (0, u "pick"), (0, u "(I)Lcom/example/expiry/expiry/model/TaskStatus;"), (0, .methodref 8 36), (0, .nameAndType 37 38), (0, u "standing"), (0, u "(ZZ)Lcom/example/expiry/expiry/model/TaskStatus;"), (3, u "law"), (0, u "(II)Z")] 2

def k1m0 : Method := { name := "<init>", desc := "()V", sig := { parameters := [], returnType := none }, accessFlags := 1, code := none }
def k1c1 : Code := { maxStack := 2, maxLocals := 1, code := method_2_code, exceptionTable := #[], attributes := #[] }
def k1m1 : Method := { name := "pick", desc := "(I)Lcom/example/expiry/expiry/model/TaskStatus;", sig := { parameters := [.int], returnType := some (.object "com/example/expiry/expiry/model/TaskStatus") }, accessFlags := 10, code := some k1c1 }
def k1c2 : Code := { maxStack := 3, maxLocals := 8, code := code, exceptionTable := #[], attributes := #[] }
def k1m2 : Method := { name := "law", desc := "(II)Z", sig := { parameters := [.int, .int], returnType := some .boolean }, accessFlags := 9, code := some k1c2 }
/-- com/example/expiry/expiry/model/TaskStatusStandingPinLaw -/
def k1 : Class := { plain "com/example/expiry/expiry/model/TaskStatusStandingPinLaw" (some 0) with
  accessFlags := 49
  interfaces := #[]
  cf := some (fileOf pool1 30 #[] #[{ accessFlags := 1, nameIndex := 5, descriptorIndex := 6, attributes := #[] }, { accessFlags := 10, nameIndex := 33, descriptorIndex := 34, attributes := #[] }, { accessFlags := 9, nameIndex := 42, descriptorIndex := 43, attributes := #[] }] 49 2 #[] #[])
  fields := #[]
  methods := #[k1m0, k1m1, k1m2]
  instanceTypes := #[]
  staticTypes := #[]
  resolved := Array.replicate 46 none
  statics := none }

def pool2 : Array CpInfo := pool [(1, .class_ 2), (0, u "java/lang/constant/Constable"), (0, .class_ 4), (0, u "java/lang/Object")] 6

/-- java/lang/constant/Constable -/
def k2 : Class := { plain "java/lang/constant/Constable" (some 0) with
  accessFlags := 1537
  interfaces := #[]
  cf := some (fileOf pool2 1 #[] #[] 1537 3 #[] #[])
  fields := #[]
  methods := #[]
  instanceTypes := #[]
  staticTypes := #[]
  resolved := Array.replicate 11 none
  statics := none }

def pool3 : Array CpInfo := pool [(1, .class_ 2), (0, u "java/lang/Comparable"), (0, .class_ 4), (0, u "java/lang/Object")] 7

/-- java/lang/Comparable -/
def k3 : Class := { plain "java/lang/Comparable" (some 0) with
  accessFlags := 1537
  interfaces := #[]
  cf := some (fileOf pool3 1 #[] #[] 1537 3 #[] #[])
  fields := #[]
  methods := #[]
  instanceTypes := #[]
  staticTypes := #[]
  resolved := Array.replicate 12 none
  statics := none }

def pool4 : Array CpInfo := pool [(1, .class_ 2), (0, u "java/io/Serializable"), (0, .class_ 4), (0, u "java/lang/Object")] 2

/-- java/io/Serializable -/
def k4 : Class := { plain "java/io/Serializable" (some 0) with
  accessFlags := 1537
  interfaces := #[]
  cf := some (fileOf pool4 1 #[] #[] 1537 3 #[] #[])
  fields := #[]
  methods := #[]
  instanceTypes := #[]
  staticTypes := #[]
  resolved := Array.replicate 7 none
  statics := none }

def pool5 : Array CpInfo := pool [(2, .class_ 4), (1, u "java/lang/Enum"), (0, u "name"), (0, u "Ljava/lang/String;"), (2, u "ordinal"), (0, u "I"), (1, .class_ 14), (1, u "java/lang/Object"), (4, u "hash"), (86, .class_ 108), (1, u "java/lang/Enum$EnumDesc"), (2, .class_ 112), (0, u "java/lang/constant/Constable"), (0, .class_ 114), (0, u "java/lang/Comparable"), (0, .class_ 116), (0, u "java/io/Serializable")] 87

/-- java/lang/Enum -/
def k5 : Class := { plain "java/lang/Enum" (some 0) with
  accessFlags := 1057
  interfaces := #[2, 3, 4]
  cf := some (fileOf pool5 2 #[.nestMembers #[106]] #[] 1057 12 #[111, 113, 115] #[{ accessFlags := 18, nameIndex := 5, descriptorIndex := 6, attributes := #[] }, { accessFlags := 18, nameIndex := 9, descriptorIndex := 10, attributes := #[] }, { accessFlags := 2, nameIndex := 19, descriptorIndex := 10, attributes := #[] }])
  fields := #[{ name := "name", type := (.object "java/lang/String"), accessFlags := 18, slot := 0, constantValue := 0 }, { name := "ordinal", type := .int, accessFlags := 18, slot := 1, constantValue := 0 }, { name := "hash", type := .int, accessFlags := 2, slot := 2, constantValue := 0 }]
  methods := #[]
  instanceTypes := #[(.object "java/lang/String"), .int, .int]
  staticTypes := #[]
  resolved := Array.replicate 204 none
  statics := none }

def pool6 : Array CpInfo := pool [(1, .class_ 2), (0, u "com/example/expiry/expiry/model/TaskStatus"), (0, .fieldref 1 4), (0, .nameAndType 5 6), (0, u "PENDING"), (0, u "Lcom/example/expiry/expiry/model/TaskStatus;"), (0, .fieldref 1 8), (0, .nameAndType 9 6), (0, u "READY"), (0, .fieldref 1 11), (0, .nameAndType 12 6), (0, u "CLAIMED"), (2, u "DONE"), (2, u "CANCELLED"), (0, .fieldref 1 20), (0, .nameAndType 21 6), (0, u "FAILED"), (2, u "$VALUES"), (0, u "[Lcom/example/expiry/expiry/model/TaskStatus;"), (6, .class_ 34), (1, u "java/lang/Enum"), (24, u "apiName"), (0, u "Ljava/lang/String;"), (21, u "standing"), (0, u "(ZZ)Lcom/example/expiry/expiry/model/TaskStatus;")] 5

def k6c0 : Code := { maxStack := 2, maxLocals := 4, code := prog_52_method_5_code, exceptionTable := #[], attributes := #[] }
def k6m0 : Method := { name := "standing", desc := "(ZZ)Lcom/example/expiry/expiry/model/TaskStatus;", sig := { parameters := [.boolean, .boolean], returnType := some (.object "com/example/expiry/expiry/model/TaskStatus") }, accessFlags := 1, code := some k6c0 }
/-- com/example/expiry/expiry/model/TaskStatus -/
def k6 : Class := { plain "com/example/expiry/expiry/model/TaskStatus" (some 5) with
  accessFlags := 16433
  interfaces := #[]
  cf := some (fileOf pool6 1 #[] #[{ accessFlags := 1, nameIndex := 82, descriptorIndex := 83, attributes := #[] }] 16433 32 #[] #[{ accessFlags := 16409, nameIndex := 5, descriptorIndex := 6, attributes := #[] }, { accessFlags := 16409, nameIndex := 9, descriptorIndex := 6, attributes := #[] }, { accessFlags := 16409, nameIndex := 12, descriptorIndex := 6, attributes := #[] }, { accessFlags := 16409, nameIndex := 15, descriptorIndex := 6, attributes := #[] }, { accessFlags := 16409, nameIndex := 18, descriptorIndex := 6, attributes := #[] }, { accessFlags := 16409, nameIndex := 21, descriptorIndex := 6, attributes := #[] }, { accessFlags := 18, nameIndex := 59, descriptorIndex := 60, attributes := #[] }, { accessFlags := 4122, nameIndex := 24, descriptorIndex := 25, attributes := #[] }])
  fields := #[{ name := "PENDING", type := (.object "com/example/expiry/expiry/model/TaskStatus"), accessFlags := 16409, slot := 0, constantValue := 0 }, { name := "READY", type := (.object "com/example/expiry/expiry/model/TaskStatus"), accessFlags := 16409, slot := 1, constantValue := 0 }, { name := "CLAIMED", type := (.object "com/example/expiry/expiry/model/TaskStatus"), accessFlags := 16409, slot := 2, constantValue := 0 }, { name := "DONE", type := (.object "com/example/expiry/expiry/model/TaskStatus"), accessFlags := 16409, slot := 3, constantValue := 0 }, { name := "CANCELLED", type := (.object "com/example/expiry/expiry/model/TaskStatus"), accessFlags := 16409, slot := 4, constantValue := 0 }, { name := "FAILED", type := (.object "com/example/expiry/expiry/model/TaskStatus"), accessFlags := 16409, slot := 5, constantValue := 0 }, { name := "apiName", type := (.object "java/lang/String"), accessFlags := 18, slot := 3, constantValue := 0 }, { name := "$VALUES", type := (.array (.object "com/example/expiry/expiry/model/TaskStatus")), accessFlags := 4122, slot := 6, constantValue := 0 }]
  methods := #[k6m0]
  instanceTypes := #[(.object "java/lang/String"), .int, .int, (.object "java/lang/String")]
  staticTypes := #[(.object "com/example/expiry/expiry/model/TaskStatus"), (.object "com/example/expiry/expiry/model/TaskStatus"), (.object "com/example/expiry/expiry/model/TaskStatus"), (.object "com/example/expiry/expiry/model/TaskStatus"), (.object "com/example/expiry/expiry/model/TaskStatus"), (.object "com/example/expiry/expiry/model/TaskStatus"), (.array (.object "com/example/expiry/expiry/model/TaskStatus"))]
  resolved := Array.replicate 89 none
  statics := some 0 }

def pool7 : Array CpInfo := pool [(1, u "java/lang/Cloneable"), (0, .class_ 1), (0, u "java/lang/Object"), (0, .class_ 3)] 3

/-- java/lang/Cloneable -/
def k7 : Class := { plain "java/lang/Cloneable" (some 0) with
  accessFlags := 1537
  interfaces := #[]
  cf := some (fileOf pool7 2 #[] #[] 1537 4 #[] #[])
  fields := #[]
  methods := #[]
  instanceTypes := #[]
  staticTypes := #[]
  resolved := Array.replicate 8 none
  statics := none }

/-- the primitive byte -/
def k8 : Class := { plain "byte" none with kind := .primitive 'B', accessFlags := 0x411 }
/-- [B -/
def k9 : Class := { plain "[B" (some 0) with kind := .array 8 .byte, interfaces := #[7, 4], accessFlags := 1041 }

/-- the primitive int -/
def k10 : Class := { plain "int" none with kind := .primitive 'I', accessFlags := 0x411 }
/-- [I -/
def k11 : Class := { plain "[I" (some 0) with kind := .array 10 .int, interfaces := #[7, 4], accessFlags := 1041 }

def heap : Heap := #[{ cls := 6, slots := #[.ref 1, .ref 2, .ref 3, .ref 4, .ref 5, .ref 6, .null], vm := .statics 6 },
  { cls := 6, slots := #[.null, .int 0, .int 0, .null], vm := .none },
  { cls := 6, slots := #[.null, .int 1, .int 0, .null], vm := .none },
  { cls := 6, slots := #[.null, .int 2, .int 0, .null], vm := .none },
  { cls := 6, slots := #[.null, .int 3, .int 0, .null], vm := .none },
  { cls := 6, slots := #[.null, .int 4, .int 0, .null], vm := .none },
  { cls := 6, slots := #[.null, .int 5, .int 0, .null], vm := .none }]
def classes : Array Class := #[k0, k1, k2, k3, k4, k5, k6, k7, k8, k9, k10, k11]
def interned : List (Array UInt16 × Addr) := []
def slotsUsed : Nat := 31
def theMethod : MethodId := ⟨1, 2⟩
def args0 : Array Value := #[.int 5, .int 3]
def aboutOver (below : List Frame) : State where
  vm := { classes := classes, interned := interned.toArray }
  heap := heap
  slotsUsed := slotsUsed
  threads := #[{ frames := .invoking theMethod args0 :: below }]
def below0 : List Frame := [.native { method := ⟨0, 0⟩, args := #[] }]
def about1 : State := aboutOver below0
def p0 : Program := .bare "" "" ""
def e0 : Env := launch0.env 0 0 0
theorem w_frames : about1.frames = Frame.invoking theMethod args0 :: below0 := rfl
set_option maxRecDepth 65536 in
theorem w_args : argsFit about1.vm theMethod args0 = true := by decide +kernel
set_option maxRecDepth 65536 in
theorem w_heap : heapFits about1 = true := by decide +kernel
set_option maxRecDepth 65536 in
theorem w_runnable : about1.curStatus? = some .runnable := by decide +kernel
set_option maxRecDepth 65536 in
theorem w_alone : about1.alone = true := by decide +kernel
set_option maxRecDepth 65536 in
theorem w_named : about1.methodNamed? x = some theMethod := by decide +kernel
set_option maxRecDepth 65536 in
theorem w_hears : about1.hears theMethod below0 = true := by decide +kernel
set_option maxRecDepth 65536 in
theorem w_ripe : about1.ripe theMethod args0 below0 = true := by decide +kernel
theorem w_running : about1.status = .running := rfl
set_option maxRecDepth 65536 in
theorem w_room : about1.hasRoom e0.platform room_1 = true :=
  launch0.hasRoom_least _ room_1 (by decide +kernel) (by decide +kernel) (by decide +kernel) (by decide +kernel) (by decide +kernel) (by decide +kernel)
theorem allAtoms_all (ts : List Jvm.Cond) (a : Array Jvm.Value) (st : Jvm.State) : (allAtoms ts).before a st = ts.all (fun c => c.before a st) := by
  induction ts with
  | nil => rfl
  | cons c t ih =>
    show (Jvm.Cond.and c (allAtoms t)).before a st = _
    rw [Jvm.Cond.before_and, ih, List.all_cons]
def words1 : List Jvm.Cond := Jvm.Cond.code x code maxLocals ret :: tables_1
/-- a 'code' word, met by the world's own term for the bytes: nothing is compared byte by byte -/
theorem code_word {y : MethodName} {bytes : ByteArray} {mx : Nat} {rt : Option FieldType} {a : Array Value} {s : State} {m : MethodId} {meth : Method} {c : Code} (h1 : s.methodNamed? y = some m) (h2 : s.vm.method? m = some meth) (h3 : meth.code = some c) (h4 : c.code = bytes)
    (h5 : (c.maxLocals == mx && c.exceptionTable.isEmpty && decide (c.maxStack ≤ mostOperands) && decide (meth.sig.returnType = rt) && !meth.locks && decide (parseMethodDescriptor y.desc = some meth.sig)) = true) : (Jvm.Cond.code y bytes mx rt).before a s = true := by
  simp only [Bool.and_eq_true, beq_iff_eq, Bool.not_eq_true', decide_eq_true_eq] at h5
  obtain ⟨⟨⟨⟨⟨g1, g2⟩, g3⟩, g4⟩, g5⟩, g6⟩ := h5
  simp [Cond.before, Cond.holds, Cond.value, h1, h2, h3, h4, g1, g2, g3, g4, g5, g6]
def isCode : Jvm.Cond → Bool
  | .code _ _ _ _ => true
  | _ => false
theorem all_split {L : List Jvm.Cond} {P : Jvm.Cond → Bool} (h1 : L.all (fun c => isCode c || P c) = true) (h2 : ∀ c ∈ L.filter isCode, P c = true) : L.all P = true := by
  refine List.all_eq_true.mpr fun c hc => ?_
  have h := List.all_eq_true.mp h1 c hc
  rcases Bool.eq_false_or_eq_true (isCode c) with hi | hi
  · exact h2 c (List.mem_filter.mpr ⟨hc, hi⟩)
  · simpa [hi] using h
set_option maxRecDepth 65536 in
theorem w_c0 : (Jvm.Cond.code x code maxLocals ret).before args0 about1 = true := code_word (m := ⟨1, 2⟩) (meth := k1m2) (c := k1c2) (by decide +kernel) rfl rfl rfl (by decide +kernel)
set_option maxRecDepth 65536 in
theorem w_c1 : (Jvm.Cond.code ({ cls := "com/example/expiry/expiry/model/TaskStatusStandingPinLaw", name := "pick", desc := "(I)Lcom/example/expiry/expiry/model/TaskStatus;" } : Jvm.MethodName) method_2_code (1 : Nat) (Option.some (Jvm.ClassFile.FieldType.object "com/example/expiry/expiry/model/TaskStatus"))).before args0 about1 = true := code_word (m := ⟨1, 1⟩) (meth := k1m1) (c := k1c1) (by decide +kernel) rfl rfl rfl (by decide +kernel)
set_option maxRecDepth 65536 in
theorem w_c2 : (Jvm.Cond.code ({ cls := "com/example/expiry/expiry/model/TaskStatus", name := "standing", desc := "(ZZ)Lcom/example/expiry/expiry/model/TaskStatus;" } : Jvm.MethodName) prog_52_method_5_code (4 : Nat) (Option.some (Jvm.ClassFile.FieldType.object "com/example/expiry/expiry/model/TaskStatus"))).before args0 about1 = true := code_word (m := ⟨6, 0⟩) (meth := k6m0) (c := k6c0) (by decide +kernel) rfl rfl rfl (by decide +kernel)
def codes1 : List Jvm.Cond := [Jvm.Cond.code x code maxLocals ret, Jvm.Cond.code ({ cls := "com/example/expiry/expiry/model/TaskStatusStandingPinLaw", name := "pick", desc := "(I)Lcom/example/expiry/expiry/model/TaskStatus;" } : Jvm.MethodName) method_2_code (1 : Nat) (Option.some (Jvm.ClassFile.FieldType.object "com/example/expiry/expiry/model/TaskStatus")), Jvm.Cond.code ({ cls := "com/example/expiry/expiry/model/TaskStatus", name := "standing", desc := "(ZZ)Lcom/example/expiry/expiry/model/TaskStatus;" } : Jvm.MethodName) prog_52_method_5_code (4 : Nat) (Option.some (Jvm.ClassFile.FieldType.object "com/example/expiry/expiry/model/TaskStatus"))]
set_option maxRecDepth 65536 in
theorem codes_eq : words1.filter isCode = codes1 := rfl
theorem w_codes : ∀ c ∈ words1.filter isCode, c.before args0 about1 = true := by
  rw [codes_eq]
  intro c hc
  simp only [codes1, List.mem_cons, List.not_mem_nil, or_false] at hc
  rcases hc with rfl | rfl | rfl
  · exact w_c0
  · exact w_c1
  · exact w_c2
set_option maxRecDepth 65536 in
theorem w_t1 : (words1.take 24).all (fun c => isCode c || c.before args0 about1) = true := by decide +kernel
set_option maxRecDepth 65536 in
theorem w_t2 : (words1.drop 24).all (fun c => isCode c || c.before args0 about1) = true := by decide +kernel
theorem w_tables : (allAtoms (Jvm.Cond.code x code maxLocals ret :: tables_1)).before args0 about1 = true := by
  rw [allAtoms_all]
  show words1.all (fun c => c.before args0 about1) = true
  refine all_split ?_ w_codes
  rw [← List.take_append_drop 24 words1, List.all_append, w_t1, w_t2]
  rfl
set_option maxRecDepth 65536 in
theorem w_case : (Jvm.Cond.and given_1 narrow_1).before args0 about1 = true := by decide +kernel
theorem w_applies : (headSpec (Jvm.Cond.code x code maxLocals ret :: tables_1) room_1).applies x e0.platform about1 = true :=
  (Spec.applies_iff w_frames).mpr ⟨w_running, w_runnable, w_alone, w_named, w_hears, w_ripe, w_room, w_tables⟩
theorem atStart : AtStart classFile x code maxLocals ret World_1 tables_1 room_1 Calls_1 rest_1 Pre_1 launch0 p0 e0 about1 theMethod args0 below0 :=
  ⟨lists_1, trivial, launch0.admits_env _ _ _, launch0.least_env, fairChoices_fair.cas, fairChoices_fair.clock, w_frames, w_args, w_heap, w_applies, trivial, trivial, w_case⟩
end start1
theorem witness_1 : WitnessClaimed_1 := ⟨start1.p0, start1.e0, start1.about1, start1.theMethod, start1.args0, start1.below0, start1.atStart⟩
end Jvm.Pilot.@@N@@
