import JvmDerived
import JvmDerived.Pilot.@@N@@Statement
import JvmDerived.Pilot.@@N@@Code
set_option linter.unusedVariables false
set_option linter.unusedSimpArgs false
namespace Jvm.Pilot.@@N@@
open Jvm Jvm.ClassFile Sem Op Lib Jvm.Free Jvm.Stand Jvm.LawKit Jvm.RoadKit Bundle Jvm.Pilot.@@N@@.Jvm.D
/-! the walk's goal in continuation style -/
def own_Ends (p : Program) (e : Env) (below : List Frame) (s : State) (Q : Option Value → Heap → List Loc → Prop) (k n : Nat) (t : State) : Prop :=
  ∃ s₂ o, Steps p.tables e below t s₂ ∧ s₂.status = .running ∧ Ended s₂ below o ∧ ∃ v L, o = .returned v ∧ Q v s₂.heap L ∧ FrameEnd s o s₂ L k n
section OwnEnds
variable {p : Program} {l : Launch} {e : Env} {R : Room} {s : State} {m : MethodId} {args : Array Value} {below : List Frame} {meth : Method} {c : Code} {T : State} {locs : List Loc} {cells slots : Nat} {Q : Option Value → Heap → List Loc → Prop} {k n : Nat}
theorem own_go {t t' : State} (h : ∀ u, Steps p.tables e below t' u → Steps p.tables e below t u) (g : own_Ends p e below s Q k n t') : own_Ends p e below s Q k n t := by
  obtain ⟨s₂, o, h1, h2⟩ := g
  exact ⟨s₂, o, h _ h1, h2⟩
theorem own_retN (X : Stand p l e R s m args below meth c T locs cells slots) (hx : p.tables.exec = Jvm.exec) {pc : Nat} {Ls : Array Slot} {z w : Int32} {t : FieldType} {rest : List Value} (hret : meth.sig.returnType = some t) (ht : t = .boolean ∨ t = .byte ∨ t = .char ∨ t = .short)
    (hd : decode c.code pc = .ok (.ireturn, 1)) (hlk : meth.locks = false) (hz : nar t z = w) (hQ : Q (some (.int w)) T.heap locs) (hk : cells ≤ k) (hn : slots ≤ n) : own_Ends p e below s Q k n (T.setTop (mkF m pc Ls (.int z :: rest))) := by
  subst hz
  obtain ⟨fs, hr, hrun, hended, hW, hsame⟩ := X.leave (v := some (.int (nar t z))) (fun h => by rw [hret] at h; cases h) hlk
  exact ⟨_, _, retN X hx hret ht hd hr, hrun, hended, _, _, rfl, hQ, ⟨_, rfl⟩, hW, hsame.mono hk hn⟩
theorem own_ret (X : Stand p l e R s m args below meth c T locs cells slots) (hx : p.tables.exec = Jvm.exec) {pc : Nat} {Ls : Array Slot} {w : Value} {t : FieldType} {i : Instr} {rest : List Value} (hret : meth.sig.returnType = some t) (hn' : narrow t w = w)
    (hi : (i = .ireturn ∧ (t = .int ∨ t = .boolean ∨ t = .byte ∨ t = .char ∨ t = .short) ∧ ∃ z, w = .int z) ∨ (i = .lreturn ∧ t = .long ∧ ∃ z, w = .long z) ∨ (i = .dreturn ∧ t = .double ∧ ∃ z, w = .double z) ∨ (i = .freturn ∧ t = .float ∧ ∃ z, w = .float z) ∨ (i = .areturn ∧ t.isReference = true ∧ w.isRef = true))
    (hd : decode c.code pc = .ok (i, 1)) (hlk : meth.locks = false) (hQ : Q (some w) T.heap locs) (hk : cells ≤ k) (hn : slots ≤ n) : own_Ends p e below s Q k n (T.setTop (mkF m pc Ls (w :: rest))) := by
  obtain ⟨fs, hr, hrun, hended, hW, hsame⟩ := X.leave (v := some w) (fun h => by rw [hret] at h; cases h) hlk
  exact ⟨_, _, retOut X hx hret hn' hi hd hr, hrun, hended, _, _, rfl, hQ, ⟨_, rfl⟩, hW, hsame.mono hk hn⟩
theorem own_ret0 (X : Stand p l e R s m args below meth c T locs cells slots) (hx : p.tables.exec = Jvm.exec) {pc : Nat} {Ls : Array Slot} (hret : meth.sig.returnType = none)
    (hd : decode c.code pc = .ok (.return_, 1)) (hlk : meth.locks = false) (hQ : Q none T.heap locs) (hk : cells ≤ k) (hn : slots ≤ n) : own_Ends p e below s Q k n (T.setTop (mkF m pc Ls [])) := by
  obtain ⟨fs, hr, hrun, hended, hW, hsame⟩ := X.leave (v := none) (fun _ => rfl) hlk
  exact ⟨_, _, X.returnOut hx hret hd hr, hrun, hended, _, _, rfl, hQ, ⟨_, rfl⟩, hW, hsame.mono hk hn⟩
end OwnEnds
theorem pd_0 : parseMethodDescriptor "(I)Z" = some ⟨[.int], some .boolean⟩ := by decide +kernel
theorem own_lit_0 : (0 : Int32).toInt = 0 := by decide
theorem own_lit_1 : (1 : Int32).toInt = 1 := by decide
theorem own_lit_9 : (9 : Int32).toInt = 9 := by decide
theorem own_lit_10 : (10 : Int32).toInt = 10 := by decide
theorem own_lit_13 : (13 : Int32).toInt = 13 := by decide
theorem own_lit_32 : (32 : Int32).toInt = 32 := by decide
theorem own_lit_55295 : (55295 : Int32).toInt = 55295 := by decide
theorem own_lit_55296 : (55296 : Int32).toInt = 55296 := by decide
theorem own_lit_57343 : (57343 : Int32).toInt = 57343 := by decide
theorem own_lit_57344 : (57344 : Int32).toInt = 57344 := by decide
theorem own_lit_65533 : (65533 : Int32).toInt = 65533 := by decide
theorem own_lit_65534 : (65534 : Int32).toInt = 65534 := by decide
theorem own_lit_65535 : (65535 : Int32).toInt = 65535 := by decide
theorem own_lit_65536 : (65536 : Int32).toInt = 65536 := by decide
theorem own_lit_1114111 : (1114111 : Int32).toInt = 1114111 := by decide
theorem own_ints (l : List Int32) (k : Nat) : ∃ x, (l.map Value.int).getD k (.int (0 : Int32)) = .int x := by
  rw [List.getD_eq_getElem?_getD, List.getElem?_map]
  cases l[k]? with
  | none => exact ⟨0, rfl⟩
  | some y => exact ⟨y, rfl⟩
def own_ch (c : Int32) : Int32 := if (c.toInt = 9 ∨ c.toInt = 10 ∨ c.toInt = 13 ∨ (32 ≤ c.toInt ∧ c.toInt ≤ 55295) ∨ (57344 ≤ c.toInt ∧ c.toInt ≤ 65533) ∨ (65536 ≤ c.toInt ∧ c.toInt ≤ 1114111)) then 1 else 0
theorem own_in15 (x : Int32) : ¬ (x &&& (15 : Int32)) < 0 ∧ (x &&& (15 : Int32)) < 16 := by
  have h := c_and x 15 (by decide)
  have e : (15 : Int32).toInt = 15 := by decide
  have e0 : (0 : Int32).toInt = 0 := by decide
  have e16 : (16 : Int32).toInt = 16 := by decide
  rw [Int32.lt_iff_toInt_lt, Int32.lt_iff_toInt_lt, e0, e16]
  omega
theorem d1_0 : decode prog_33_method_11_code 0 = .ok (.iload_n 0, 1) := by decide +kernel
theorem d1_1 : decode prog_33_method_11_code 1 = .ok (.bipush 9, 2) := by decide +kernel
theorem d1_3 : decode prog_33_method_11_code 3 = .ok (.if_icmp .eq 51, 3) := by decide +kernel
theorem d1_6 : decode prog_33_method_11_code 6 = .ok (.iload_n 0, 1) := by decide +kernel
theorem d1_7 : decode prog_33_method_11_code 7 = .ok (.bipush 10, 2) := by decide +kernel
theorem d1_9 : decode prog_33_method_11_code 9 = .ok (.if_icmp .eq 45, 3) := by decide +kernel
theorem d1_12 : decode prog_33_method_11_code 12 = .ok (.iload_n 0, 1) := by decide +kernel
theorem d1_13 : decode prog_33_method_11_code 13 = .ok (.bipush 13, 2) := by decide +kernel
theorem d1_15 : decode prog_33_method_11_code 15 = .ok (.if_icmp .eq 39, 3) := by decide +kernel
theorem d1_18 : decode prog_33_method_11_code 18 = .ok (.iload_n 0, 1) := by decide +kernel
theorem d1_19 : decode prog_33_method_11_code 19 = .ok (.bipush 32, 2) := by decide +kernel
theorem d1_21 : decode prog_33_method_11_code 21 = .ok (.if_icmp .lt 9, 3) := by decide +kernel
theorem d1_24 : decode prog_33_method_11_code 24 = .ok (.iload_n 0, 1) := by decide +kernel
theorem d1_25 : decode prog_33_method_11_code 25 = .ok (.ldc 248, 2) := by decide +kernel
theorem d1_27 : decode prog_33_method_11_code 27 = .ok (.if_icmp .le 27, 3) := by decide +kernel
theorem d1_30 : decode prog_33_method_11_code 30 = .ok (.iload_n 0, 1) := by decide +kernel
theorem d1_31 : decode prog_33_method_11_code 31 = .ok (.ldc 249, 2) := by decide +kernel
theorem d1_33 : decode prog_33_method_11_code 33 = .ok (.if_icmp .lt 9, 3) := by decide +kernel
theorem d1_36 : decode prog_33_method_11_code 36 = .ok (.iload_n 0, 1) := by decide +kernel
theorem d1_37 : decode prog_33_method_11_code 37 = .ok (.ldc 237, 2) := by decide +kernel
theorem d1_39 : decode prog_33_method_11_code 39 = .ok (.if_icmp .le 15, 3) := by decide +kernel
theorem d1_42 : decode prog_33_method_11_code 42 = .ok (.iload_n 0, 1) := by decide +kernel
theorem d1_43 : decode prog_33_method_11_code 43 = .ok (.ldc 250, 2) := by decide +kernel
theorem d1_45 : decode prog_33_method_11_code 45 = .ok (.if_icmp .lt 13, 3) := by decide +kernel
theorem d1_48 : decode prog_33_method_11_code 48 = .ok (.iload_n 0, 1) := by decide +kernel
theorem d1_49 : decode prog_33_method_11_code 49 = .ok (.ldc 251, 2) := by decide +kernel
theorem d1_51 : decode prog_33_method_11_code 51 = .ok (.if_icmp .gt 7, 3) := by decide +kernel
theorem d1_54 : decode prog_33_method_11_code 54 = .ok (.iconst 1, 1) := by decide +kernel
theorem d1_55 : decode prog_33_method_11_code 55 = .ok (.goto 4, 3) := by decide +kernel
theorem d1_58 : decode prog_33_method_11_code 58 = .ok (.iconst 0, 1) := by decide +kernel
theorem d1_59 : decode prog_33_method_11_code 59 = .ok (.ireturn, 1) := by decide +kernel
theorem pn_0 : plainName "com/example/pagra/pagra/core/XmlDocuments" = true := by first | (simp [plainName, overriddenIn]; done) | decide +kernel
theorem ef_1 (m : MethodId) (x0 : Int32) : entryFrame m #[(.int x0)] 1 = mkF m 0 #[.val (.int x0)] [] := by first | (simp [entryFrame, mkF, argsToLocals, Value.category]; done) | rfl
def Q1 (p1 : Int32) (h0 : Heap) (n0 : Nat) (Z : State) (v : Option Value) (h : Heap) (L : List Loc) : Prop := v = some (.int (own_ch p1)) ∧ Fr n0 L ∧ h = h0
set_option maxRecDepth 65536 in
set_option maxHeartbeats 40000000 in
theorem rm1 (l : Launch) (Z : State) (a0 : Array Value) (hw : ∀ d ∈ tables_1, d.before a0 Z = true) (ws : List Jvm.Cond) (p1 : Int32) (h0 : Heap) (n0 : Nat) (Z0 : n0 ≤ h0.size) :
    MetFree l (⟨"com/example/pagra/pagra/core/XmlDocuments", "isCharacter", "(I)Z"⟩ : MethodName) (head1 (Jvm.Cond.code (⟨"com/example/pagra/pagra/core/XmlDocuments", "isCharacter", "(I)Z"⟩ : MethodName) prog_33_method_11_code 1 (some .boolean) :: ws) ({ frames := 0, cells := 0, slots := 0, locals := 0 } : Room)) (fun a U => a = #[(.int p1)] ∧ Z.Warmed39 U.vm ∧ U.heap = h0) (fun _ _ _ _ _ => True) (fun _ U o U' => ∃ v L, o = .returned v ∧ Q1 p1 h0 n0 Z v U'.heap L ∧ FrameEnd U o U' L ({ frames := 0, cells := 0, slots := 0, locals := 0 } : Room).cells ({ frames := 0, cells := 0, slots := 0, locals := 0 } : Room).slots) := by
  refine MetFree.of_bodySF (plainFor_of_name pn_0) hisR ?_
  intro p e s m args below meth c s₁ Bd hml0 hP hK
  obtain ⟨rfl, hZ, hh⟩ := hP
  have hx := Bd.exec
  have hby := Bd.bytes
  have hml : c.maxLocals = 1 := hml0
  have hown : s.vm.findClass "com/example/pagra/pagra/core/XmlDocuments" = some m.cls := findClass_of_methodNamed Bd.named
  have hnm := (name_of_methodNamed Bd.named Bd.method).1
  have hlk := Bd.notSynchronized
  have hrt := Bd.returns
  have X0 : Stand p l e ({ frames := 0, cells := 0, slots := 0, locals := 0 } : Room) s m #[(.int p1)] below meth c s₁ [] 0 0 := Stand.of_body Bd
  have e0 : s₁.heap = h0 := by rw [← hh, Bd.state]; rfl
  have N0 := Fr.nil n0
  show own_Ends p e below s (Q1 p1 h0 n0 Z) ({ frames := 0, cells := 0, slots := 0, locals := 0 } : Room).cells ({ frames := 0, cells := 0, slots := 0, locals := 0 } : Room).slots (s₁.setTop (entryFrame m #[(.int p1)] 1))
  rw [ef_1]
  refine own_go (fun _ k => XS.iloadN X0.here hx rfl (hb hby d1_0) rfl <| XT.bipushV X0.here hx rfl (9 : Int32) (hb hby d1_1) rfl <| k) ?_
  show own_Ends p e below s _ _ _ (s₁.setTop (mkF m 3 #[.val (.int p1)] [(.int (9 : Int32)), (.int p1)]))
  by_cases hc3_1 : p1 = (9 : Int32)
  · -- true
    refine own_go (fun _ k => XS.icmpYes X0.here hx rfl (pc0 := 3) (pc' := 54) rfl (hb hby d1_3) rfl (teq hc3_1).1 (by decide) (by decide) <| XT.iconstV X0.here hx rfl (1 : Int32) (hb hby d1_54) rfl <| XS.goto X0.here hx rfl (pc0 := 55) (pc' := 59) rfl (hb hby d1_55) (by decide) (by decide) <| k) ?_
    show own_Ends p e below s _ _ _ (s₁.setTop (mkF m 59 #[.val (.int p1)] [(.int (1 : Int32))]))
    exact own_retN X0 hx (t := .boolean) hrt (by simp) (hb hby d1_59) hlk (show nar .boolean (1 : Int32) = (1 : Int32) from by decide) (by rw [e0]; exact ⟨by simp only [Int32.lt_iff_toInt_lt, ← Int32.toInt_inj, own_lit_0, own_lit_1, own_lit_9, own_lit_10, own_lit_13, own_lit_32, own_lit_55295, own_lit_55296, own_lit_57343, own_lit_57344, own_lit_65533, own_lit_65534, own_lit_65535, own_lit_65536, own_lit_1114111] at hc3_1; unfold own_ch; first | (exfalso; omega) | rw [if_pos (by omega)] | rw [if_neg (by omega)], N0, rfl⟩) (by decide) (by decide)
  · -- false
    refine own_go (fun _ k => XS.icmpNo X0.here hx rfl (hb hby d1_3) rfl (feq hc3_1).1 <| XS.iloadN X0.here hx rfl (hb hby d1_6) rfl <| XT.bipushV X0.here hx rfl (10 : Int32) (hb hby d1_7) rfl <| k) ?_
    show own_Ends p e below s _ _ _ (s₁.setTop (mkF m 9 #[.val (.int p1)] [(.int (10 : Int32)), (.int p1)]))
    by_cases hc9_2 : p1 = (10 : Int32)
    · -- true
      refine own_go (fun _ k => XS.icmpYes X0.here hx rfl (pc0 := 9) (pc' := 54) rfl (hb hby d1_9) rfl (teq hc9_2).1 (by decide) (by decide) <| XT.iconstV X0.here hx rfl (1 : Int32) (hb hby d1_54) rfl <| XS.goto X0.here hx rfl (pc0 := 55) (pc' := 59) rfl (hb hby d1_55) (by decide) (by decide) <| k) ?_
      show own_Ends p e below s _ _ _ (s₁.setTop (mkF m 59 #[.val (.int p1)] [(.int (1 : Int32))]))
      exact own_retN X0 hx (t := .boolean) hrt (by simp) (hb hby d1_59) hlk (show nar .boolean (1 : Int32) = (1 : Int32) from by decide) (by rw [e0]; exact ⟨by simp only [Int32.lt_iff_toInt_lt, ← Int32.toInt_inj, own_lit_0, own_lit_1, own_lit_9, own_lit_10, own_lit_13, own_lit_32, own_lit_55295, own_lit_55296, own_lit_57343, own_lit_57344, own_lit_65533, own_lit_65534, own_lit_65535, own_lit_65536, own_lit_1114111] at hc3_1 hc9_2; unfold own_ch; first | (exfalso; omega) | rw [if_pos (by omega)] | rw [if_neg (by omega)], N0, rfl⟩) (by decide) (by decide)
    · -- false
      refine own_go (fun _ k => XS.icmpNo X0.here hx rfl (hb hby d1_9) rfl (feq hc9_2).1 <| XS.iloadN X0.here hx rfl (hb hby d1_12) rfl <| XT.bipushV X0.here hx rfl (13 : Int32) (hb hby d1_13) rfl <| k) ?_
      show own_Ends p e below s _ _ _ (s₁.setTop (mkF m 15 #[.val (.int p1)] [(.int (13 : Int32)), (.int p1)]))
      by_cases hc15_3 : p1 = (13 : Int32)
      · -- true
        refine own_go (fun _ k => XS.icmpYes X0.here hx rfl (pc0 := 15) (pc' := 54) rfl (hb hby d1_15) rfl (teq hc15_3).1 (by decide) (by decide) <| XT.iconstV X0.here hx rfl (1 : Int32) (hb hby d1_54) rfl <| XS.goto X0.here hx rfl (pc0 := 55) (pc' := 59) rfl (hb hby d1_55) (by decide) (by decide) <| k) ?_
        show own_Ends p e below s _ _ _ (s₁.setTop (mkF m 59 #[.val (.int p1)] [(.int (1 : Int32))]))
        exact own_retN X0 hx (t := .boolean) hrt (by simp) (hb hby d1_59) hlk (show nar .boolean (1 : Int32) = (1 : Int32) from by decide) (by rw [e0]; exact ⟨by simp only [Int32.lt_iff_toInt_lt, ← Int32.toInt_inj, own_lit_0, own_lit_1, own_lit_9, own_lit_10, own_lit_13, own_lit_32, own_lit_55295, own_lit_55296, own_lit_57343, own_lit_57344, own_lit_65533, own_lit_65534, own_lit_65535, own_lit_65536, own_lit_1114111] at hc3_1 hc9_2 hc15_3; unfold own_ch; first | (exfalso; omega) | rw [if_pos (by omega)] | rw [if_neg (by omega)], N0, rfl⟩) (by decide) (by decide)
      · -- false
        refine own_go (fun _ k => XS.icmpNo X0.here hx rfl (hb hby d1_15) rfl (feq hc15_3).1 <| XS.iloadN X0.here hx rfl (hb hby d1_18) rfl <| XT.bipushV X0.here hx rfl (32 : Int32) (hb hby d1_19) rfl <| k) ?_
        show own_Ends p e below s _ _ _ (s₁.setTop (mkF m 21 #[.val (.int p1)] [(.int (32 : Int32)), (.int p1)]))
        by_cases hc21_4 : p1 < (32 : Int32)
        · -- true
          refine own_go (fun _ k => XS.icmpYes X0.here hx rfl (pc0 := 21) (pc' := 30) rfl (hb hby d1_21) rfl (tlt hc21_4).1 (by decide) (by decide) <| XS.iloadN X0.here hx rfl (hb hby d1_30) rfl <| X0.ldcI hx hown (mvT hZ (hw _ (List.mem_of_getElem? (i := 17) rfl))) rfl (hb hby d1_31) <| k) ?_
          show own_Ends p e below s _ _ _ (s₁.setTop (mkF m 33 #[.val (.int p1)] [(.int (57344 : Int32)), (.int p1)]))
          by_cases hc33_5 : p1 < (57344 : Int32)
          · -- true
            refine own_go (fun _ k => XS.icmpYes X0.here hx rfl (pc0 := 33) (pc' := 42) rfl (hb hby d1_33) rfl (tlt hc33_5).1 (by decide) (by decide) <| XS.iloadN X0.here hx rfl (hb hby d1_42) rfl <| X0.ldcI hx hown (mvT hZ (hw _ (List.mem_of_getElem? (i := 18) rfl))) rfl (hb hby d1_43) <| k) ?_
            show own_Ends p e below s _ _ _ (s₁.setTop (mkF m 45 #[.val (.int p1)] [(.int (65536 : Int32)), (.int p1)]))
            by_cases hc45_6 : p1 < (65536 : Int32)
            · -- true
              refine own_go (fun _ k => XS.icmpYes X0.here hx rfl (pc0 := 45) (pc' := 58) rfl (hb hby d1_45) rfl (tlt hc45_6).1 (by decide) (by decide) <| XT.iconstV X0.here hx rfl (0 : Int32) (hb hby d1_58) rfl <| k) ?_
              show own_Ends p e below s _ _ _ (s₁.setTop (mkF m 59 #[.val (.int p1)] [(.int (0 : Int32))]))
              exact own_retN X0 hx (t := .boolean) hrt (by simp) (hb hby d1_59) hlk (show nar .boolean (0 : Int32) = (0 : Int32) from by decide) (by rw [e0]; exact ⟨by simp only [Int32.lt_iff_toInt_lt, ← Int32.toInt_inj, own_lit_0, own_lit_1, own_lit_9, own_lit_10, own_lit_13, own_lit_32, own_lit_55295, own_lit_55296, own_lit_57343, own_lit_57344, own_lit_65533, own_lit_65534, own_lit_65535, own_lit_65536, own_lit_1114111] at hc3_1 hc9_2 hc15_3 hc21_4 hc33_5 hc45_6; unfold own_ch; first | (exfalso; omega) | rw [if_pos (by omega)] | rw [if_neg (by omega)], N0, rfl⟩) (by decide) (by decide)
            · -- false
              refine own_go (fun _ k => XS.icmpNo X0.here hx rfl (hb hby d1_45) rfl (flt hc45_6).1 <| XS.iloadN X0.here hx rfl (hb hby d1_48) rfl <| X0.ldcI hx hown (mvT hZ (hw _ (List.mem_of_getElem? (i := 25) rfl))) rfl (hb hby d1_49) <| k) ?_
              show own_Ends p e below s _ _ _ (s₁.setTop (mkF m 51 #[.val (.int p1)] [(.int (1114111 : Int32)), (.int p1)]))
              by_cases hc51_7 : (1114111 : Int32) < p1
              · -- true
                refine own_go (fun _ k => XS.icmpYes X0.here hx rfl (pc0 := 51) (pc' := 58) rfl (hb hby d1_51) rfl (tlt hc51_7).2.2.1 (by decide) (by decide) <| XT.iconstV X0.here hx rfl (0 : Int32) (hb hby d1_58) rfl <| k) ?_
                show own_Ends p e below s _ _ _ (s₁.setTop (mkF m 59 #[.val (.int p1)] [(.int (0 : Int32))]))
                exact own_retN X0 hx (t := .boolean) hrt (by simp) (hb hby d1_59) hlk (show nar .boolean (0 : Int32) = (0 : Int32) from by decide) (by rw [e0]; exact ⟨by simp only [Int32.lt_iff_toInt_lt, ← Int32.toInt_inj, own_lit_0, own_lit_1, own_lit_9, own_lit_10, own_lit_13, own_lit_32, own_lit_55295, own_lit_55296, own_lit_57343, own_lit_57344, own_lit_65533, own_lit_65534, own_lit_65535, own_lit_65536, own_lit_1114111] at hc3_1 hc9_2 hc15_3 hc21_4 hc33_5 hc45_6 hc51_7; unfold own_ch; first | (exfalso; omega) | rw [if_pos (by omega)] | rw [if_neg (by omega)], N0, rfl⟩) (by decide) (by decide)
              · -- false
                refine own_go (fun _ k => XS.icmpNo X0.here hx rfl (hb hby d1_51) rfl (flt hc51_7).2.2.1 <| XT.iconstV X0.here hx rfl (1 : Int32) (hb hby d1_54) rfl <| XS.goto X0.here hx rfl (pc0 := 55) (pc' := 59) rfl (hb hby d1_55) (by decide) (by decide) <| k) ?_
                show own_Ends p e below s _ _ _ (s₁.setTop (mkF m 59 #[.val (.int p1)] [(.int (1 : Int32))]))
                exact own_retN X0 hx (t := .boolean) hrt (by simp) (hb hby d1_59) hlk (show nar .boolean (1 : Int32) = (1 : Int32) from by decide) (by rw [e0]; exact ⟨by simp only [Int32.lt_iff_toInt_lt, ← Int32.toInt_inj, own_lit_0, own_lit_1, own_lit_9, own_lit_10, own_lit_13, own_lit_32, own_lit_55295, own_lit_55296, own_lit_57343, own_lit_57344, own_lit_65533, own_lit_65534, own_lit_65535, own_lit_65536, own_lit_1114111] at hc3_1 hc9_2 hc15_3 hc21_4 hc33_5 hc45_6 hc51_7; unfold own_ch; first | (exfalso; omega) | rw [if_pos (by omega)] | rw [if_neg (by omega)], N0, rfl⟩) (by decide) (by decide)
          · -- false
            refine own_go (fun _ k => XS.icmpNo X0.here hx rfl (hb hby d1_33) rfl (flt hc33_5).1 <| XS.iloadN X0.here hx rfl (hb hby d1_36) rfl <| X0.ldcI hx hown (mvT hZ (hw _ (List.mem_of_getElem? (i := 24) rfl))) rfl (hb hby d1_37) <| k) ?_
            show own_Ends p e below s _ _ _ (s₁.setTop (mkF m 39 #[.val (.int p1)] [(.int (65533 : Int32)), (.int p1)]))
            by_cases hc39_8 : (65533 : Int32) < p1
            · -- true
              refine own_go (fun _ k => XS.icmpNo X0.here hx rfl (hb hby d1_39) rfl (tlt hc39_8).2.2.2 <| XS.iloadN X0.here hx rfl (hb hby d1_42) rfl <| X0.ldcI hx hown (mvT hZ (hw _ (List.mem_of_getElem? (i := 18) rfl))) rfl (hb hby d1_43) <| k) ?_
              show own_Ends p e below s _ _ _ (s₁.setTop (mkF m 45 #[.val (.int p1)] [(.int (65536 : Int32)), (.int p1)]))
              by_cases hc45_9 : p1 < (65536 : Int32)
              · -- true
                refine own_go (fun _ k => XS.icmpYes X0.here hx rfl (pc0 := 45) (pc' := 58) rfl (hb hby d1_45) rfl (tlt hc45_9).1 (by decide) (by decide) <| XT.iconstV X0.here hx rfl (0 : Int32) (hb hby d1_58) rfl <| k) ?_
                show own_Ends p e below s _ _ _ (s₁.setTop (mkF m 59 #[.val (.int p1)] [(.int (0 : Int32))]))
                exact own_retN X0 hx (t := .boolean) hrt (by simp) (hb hby d1_59) hlk (show nar .boolean (0 : Int32) = (0 : Int32) from by decide) (by rw [e0]; exact ⟨by simp only [Int32.lt_iff_toInt_lt, ← Int32.toInt_inj, own_lit_0, own_lit_1, own_lit_9, own_lit_10, own_lit_13, own_lit_32, own_lit_55295, own_lit_55296, own_lit_57343, own_lit_57344, own_lit_65533, own_lit_65534, own_lit_65535, own_lit_65536, own_lit_1114111] at hc3_1 hc9_2 hc15_3 hc21_4 hc33_5 hc39_8 hc45_9; unfold own_ch; first | (exfalso; omega) | rw [if_pos (by omega)] | rw [if_neg (by omega)], N0, rfl⟩) (by decide) (by decide)
              · -- false
                refine own_go (fun _ k => XS.icmpNo X0.here hx rfl (hb hby d1_45) rfl (flt hc45_9).1 <| XS.iloadN X0.here hx rfl (hb hby d1_48) rfl <| X0.ldcI hx hown (mvT hZ (hw _ (List.mem_of_getElem? (i := 25) rfl))) rfl (hb hby d1_49) <| k) ?_
                show own_Ends p e below s _ _ _ (s₁.setTop (mkF m 51 #[.val (.int p1)] [(.int (1114111 : Int32)), (.int p1)]))
                by_cases hc51_10 : (1114111 : Int32) < p1
                · -- true
                  refine own_go (fun _ k => XS.icmpYes X0.here hx rfl (pc0 := 51) (pc' := 58) rfl (hb hby d1_51) rfl (tlt hc51_10).2.2.1 (by decide) (by decide) <| XT.iconstV X0.here hx rfl (0 : Int32) (hb hby d1_58) rfl <| k) ?_
                  show own_Ends p e below s _ _ _ (s₁.setTop (mkF m 59 #[.val (.int p1)] [(.int (0 : Int32))]))
                  exact own_retN X0 hx (t := .boolean) hrt (by simp) (hb hby d1_59) hlk (show nar .boolean (0 : Int32) = (0 : Int32) from by decide) (by rw [e0]; exact ⟨by simp only [Int32.lt_iff_toInt_lt, ← Int32.toInt_inj, own_lit_0, own_lit_1, own_lit_9, own_lit_10, own_lit_13, own_lit_32, own_lit_55295, own_lit_55296, own_lit_57343, own_lit_57344, own_lit_65533, own_lit_65534, own_lit_65535, own_lit_65536, own_lit_1114111] at hc3_1 hc9_2 hc15_3 hc21_4 hc33_5 hc39_8 hc45_9 hc51_10; unfold own_ch; first | (exfalso; omega) | rw [if_pos (by omega)] | rw [if_neg (by omega)], N0, rfl⟩) (by decide) (by decide)
                · -- false
                  refine own_go (fun _ k => XS.icmpNo X0.here hx rfl (hb hby d1_51) rfl (flt hc51_10).2.2.1 <| XT.iconstV X0.here hx rfl (1 : Int32) (hb hby d1_54) rfl <| XS.goto X0.here hx rfl (pc0 := 55) (pc' := 59) rfl (hb hby d1_55) (by decide) (by decide) <| k) ?_
                  show own_Ends p e below s _ _ _ (s₁.setTop (mkF m 59 #[.val (.int p1)] [(.int (1 : Int32))]))
                  exact own_retN X0 hx (t := .boolean) hrt (by simp) (hb hby d1_59) hlk (show nar .boolean (1 : Int32) = (1 : Int32) from by decide) (by rw [e0]; exact ⟨by simp only [Int32.lt_iff_toInt_lt, ← Int32.toInt_inj, own_lit_0, own_lit_1, own_lit_9, own_lit_10, own_lit_13, own_lit_32, own_lit_55295, own_lit_55296, own_lit_57343, own_lit_57344, own_lit_65533, own_lit_65534, own_lit_65535, own_lit_65536, own_lit_1114111] at hc3_1 hc9_2 hc15_3 hc21_4 hc33_5 hc39_8 hc45_9 hc51_10; unfold own_ch; first | (exfalso; omega) | rw [if_pos (by omega)] | rw [if_neg (by omega)], N0, rfl⟩) (by decide) (by decide)
            · -- false
              refine own_go (fun _ k => XS.icmpYes X0.here hx rfl (pc0 := 39) (pc' := 54) rfl (hb hby d1_39) rfl (flt hc39_8).2.2.2 (by decide) (by decide) <| XT.iconstV X0.here hx rfl (1 : Int32) (hb hby d1_54) rfl <| XS.goto X0.here hx rfl (pc0 := 55) (pc' := 59) rfl (hb hby d1_55) (by decide) (by decide) <| k) ?_
              show own_Ends p e below s _ _ _ (s₁.setTop (mkF m 59 #[.val (.int p1)] [(.int (1 : Int32))]))
              exact own_retN X0 hx (t := .boolean) hrt (by simp) (hb hby d1_59) hlk (show nar .boolean (1 : Int32) = (1 : Int32) from by decide) (by rw [e0]; exact ⟨by simp only [Int32.lt_iff_toInt_lt, ← Int32.toInt_inj, own_lit_0, own_lit_1, own_lit_9, own_lit_10, own_lit_13, own_lit_32, own_lit_55295, own_lit_55296, own_lit_57343, own_lit_57344, own_lit_65533, own_lit_65534, own_lit_65535, own_lit_65536, own_lit_1114111] at hc3_1 hc9_2 hc15_3 hc21_4 hc33_5 hc39_8; unfold own_ch; first | (exfalso; omega) | rw [if_pos (by omega)] | rw [if_neg (by omega)], N0, rfl⟩) (by decide) (by decide)
        · -- false
          refine own_go (fun _ k => XS.icmpNo X0.here hx rfl (hb hby d1_21) rfl (flt hc21_4).1 <| XS.iloadN X0.here hx rfl (hb hby d1_24) rfl <| X0.ldcI hx hown (mvT hZ (hw _ (List.mem_of_getElem? (i := 23) rfl))) rfl (hb hby d1_25) <| k) ?_
          show own_Ends p e below s _ _ _ (s₁.setTop (mkF m 27 #[.val (.int p1)] [(.int (55295 : Int32)), (.int p1)]))
          by_cases hc27_11 : (55295 : Int32) < p1
          · -- true
            refine own_go (fun _ k => XS.icmpNo X0.here hx rfl (hb hby d1_27) rfl (tlt hc27_11).2.2.2 <| XS.iloadN X0.here hx rfl (hb hby d1_30) rfl <| X0.ldcI hx hown (mvT hZ (hw _ (List.mem_of_getElem? (i := 17) rfl))) rfl (hb hby d1_31) <| k) ?_
            show own_Ends p e below s _ _ _ (s₁.setTop (mkF m 33 #[.val (.int p1)] [(.int (57344 : Int32)), (.int p1)]))
            by_cases hc33_12 : p1 < (57344 : Int32)
            · -- true
              refine own_go (fun _ k => XS.icmpYes X0.here hx rfl (pc0 := 33) (pc' := 42) rfl (hb hby d1_33) rfl (tlt hc33_12).1 (by decide) (by decide) <| XS.iloadN X0.here hx rfl (hb hby d1_42) rfl <| X0.ldcI hx hown (mvT hZ (hw _ (List.mem_of_getElem? (i := 18) rfl))) rfl (hb hby d1_43) <| k) ?_
              show own_Ends p e below s _ _ _ (s₁.setTop (mkF m 45 #[.val (.int p1)] [(.int (65536 : Int32)), (.int p1)]))
              by_cases hc45_13 : p1 < (65536 : Int32)
              · -- true
                refine own_go (fun _ k => XS.icmpYes X0.here hx rfl (pc0 := 45) (pc' := 58) rfl (hb hby d1_45) rfl (tlt hc45_13).1 (by decide) (by decide) <| XT.iconstV X0.here hx rfl (0 : Int32) (hb hby d1_58) rfl <| k) ?_
                show own_Ends p e below s _ _ _ (s₁.setTop (mkF m 59 #[.val (.int p1)] [(.int (0 : Int32))]))
                exact own_retN X0 hx (t := .boolean) hrt (by simp) (hb hby d1_59) hlk (show nar .boolean (0 : Int32) = (0 : Int32) from by decide) (by rw [e0]; exact ⟨by simp only [Int32.lt_iff_toInt_lt, ← Int32.toInt_inj, own_lit_0, own_lit_1, own_lit_9, own_lit_10, own_lit_13, own_lit_32, own_lit_55295, own_lit_55296, own_lit_57343, own_lit_57344, own_lit_65533, own_lit_65534, own_lit_65535, own_lit_65536, own_lit_1114111] at hc3_1 hc9_2 hc15_3 hc21_4 hc27_11 hc33_12 hc45_13; unfold own_ch; first | (exfalso; omega) | rw [if_pos (by omega)] | rw [if_neg (by omega)], N0, rfl⟩) (by decide) (by decide)
              · -- false
                refine own_go (fun _ k => XS.icmpNo X0.here hx rfl (hb hby d1_45) rfl (flt hc45_13).1 <| XS.iloadN X0.here hx rfl (hb hby d1_48) rfl <| X0.ldcI hx hown (mvT hZ (hw _ (List.mem_of_getElem? (i := 25) rfl))) rfl (hb hby d1_49) <| k) ?_
                show own_Ends p e below s _ _ _ (s₁.setTop (mkF m 51 #[.val (.int p1)] [(.int (1114111 : Int32)), (.int p1)]))
                by_cases hc51_14 : (1114111 : Int32) < p1
                · -- true
                  refine own_go (fun _ k => XS.icmpYes X0.here hx rfl (pc0 := 51) (pc' := 58) rfl (hb hby d1_51) rfl (tlt hc51_14).2.2.1 (by decide) (by decide) <| XT.iconstV X0.here hx rfl (0 : Int32) (hb hby d1_58) rfl <| k) ?_
                  show own_Ends p e below s _ _ _ (s₁.setTop (mkF m 59 #[.val (.int p1)] [(.int (0 : Int32))]))
                  exact own_retN X0 hx (t := .boolean) hrt (by simp) (hb hby d1_59) hlk (show nar .boolean (0 : Int32) = (0 : Int32) from by decide) (by rw [e0]; exact ⟨by simp only [Int32.lt_iff_toInt_lt, ← Int32.toInt_inj, own_lit_0, own_lit_1, own_lit_9, own_lit_10, own_lit_13, own_lit_32, own_lit_55295, own_lit_55296, own_lit_57343, own_lit_57344, own_lit_65533, own_lit_65534, own_lit_65535, own_lit_65536, own_lit_1114111] at hc3_1 hc9_2 hc15_3 hc21_4 hc27_11 hc33_12 hc45_13 hc51_14; unfold own_ch; first | (exfalso; omega) | rw [if_pos (by omega)] | rw [if_neg (by omega)], N0, rfl⟩) (by decide) (by decide)
                · -- false
                  refine own_go (fun _ k => XS.icmpNo X0.here hx rfl (hb hby d1_51) rfl (flt hc51_14).2.2.1 <| XT.iconstV X0.here hx rfl (1 : Int32) (hb hby d1_54) rfl <| XS.goto X0.here hx rfl (pc0 := 55) (pc' := 59) rfl (hb hby d1_55) (by decide) (by decide) <| k) ?_
                  show own_Ends p e below s _ _ _ (s₁.setTop (mkF m 59 #[.val (.int p1)] [(.int (1 : Int32))]))
                  exact own_retN X0 hx (t := .boolean) hrt (by simp) (hb hby d1_59) hlk (show nar .boolean (1 : Int32) = (1 : Int32) from by decide) (by rw [e0]; exact ⟨by simp only [Int32.lt_iff_toInt_lt, ← Int32.toInt_inj, own_lit_0, own_lit_1, own_lit_9, own_lit_10, own_lit_13, own_lit_32, own_lit_55295, own_lit_55296, own_lit_57343, own_lit_57344, own_lit_65533, own_lit_65534, own_lit_65535, own_lit_65536, own_lit_1114111] at hc3_1 hc9_2 hc15_3 hc21_4 hc27_11 hc33_12 hc45_13 hc51_14; unfold own_ch; first | (exfalso; omega) | rw [if_pos (by omega)] | rw [if_neg (by omega)], N0, rfl⟩) (by decide) (by decide)
            · -- false
              refine own_go (fun _ k => XS.icmpNo X0.here hx rfl (hb hby d1_33) rfl (flt hc33_12).1 <| XS.iloadN X0.here hx rfl (hb hby d1_36) rfl <| X0.ldcI hx hown (mvT hZ (hw _ (List.mem_of_getElem? (i := 24) rfl))) rfl (hb hby d1_37) <| k) ?_
              show own_Ends p e below s _ _ _ (s₁.setTop (mkF m 39 #[.val (.int p1)] [(.int (65533 : Int32)), (.int p1)]))
              by_cases hc39_15 : (65533 : Int32) < p1
              · -- true
                refine own_go (fun _ k => XS.icmpNo X0.here hx rfl (hb hby d1_39) rfl (tlt hc39_15).2.2.2 <| XS.iloadN X0.here hx rfl (hb hby d1_42) rfl <| X0.ldcI hx hown (mvT hZ (hw _ (List.mem_of_getElem? (i := 18) rfl))) rfl (hb hby d1_43) <| k) ?_
                show own_Ends p e below s _ _ _ (s₁.setTop (mkF m 45 #[.val (.int p1)] [(.int (65536 : Int32)), (.int p1)]))
                by_cases hc45_16 : p1 < (65536 : Int32)
                · -- true
                  refine own_go (fun _ k => XS.icmpYes X0.here hx rfl (pc0 := 45) (pc' := 58) rfl (hb hby d1_45) rfl (tlt hc45_16).1 (by decide) (by decide) <| XT.iconstV X0.here hx rfl (0 : Int32) (hb hby d1_58) rfl <| k) ?_
                  show own_Ends p e below s _ _ _ (s₁.setTop (mkF m 59 #[.val (.int p1)] [(.int (0 : Int32))]))
                  exact own_retN X0 hx (t := .boolean) hrt (by simp) (hb hby d1_59) hlk (show nar .boolean (0 : Int32) = (0 : Int32) from by decide) (by rw [e0]; exact ⟨by simp only [Int32.lt_iff_toInt_lt, ← Int32.toInt_inj, own_lit_0, own_lit_1, own_lit_9, own_lit_10, own_lit_13, own_lit_32, own_lit_55295, own_lit_55296, own_lit_57343, own_lit_57344, own_lit_65533, own_lit_65534, own_lit_65535, own_lit_65536, own_lit_1114111] at hc3_1 hc9_2 hc15_3 hc21_4 hc27_11 hc33_12 hc39_15 hc45_16; unfold own_ch; first | (exfalso; omega) | rw [if_pos (by omega)] | rw [if_neg (by omega)], N0, rfl⟩) (by decide) (by decide)
                · -- false
                  refine own_go (fun _ k => XS.icmpNo X0.here hx rfl (hb hby d1_45) rfl (flt hc45_16).1 <| XS.iloadN X0.here hx rfl (hb hby d1_48) rfl <| X0.ldcI hx hown (mvT hZ (hw _ (List.mem_of_getElem? (i := 25) rfl))) rfl (hb hby d1_49) <| k) ?_
                  show own_Ends p e below s _ _ _ (s₁.setTop (mkF m 51 #[.val (.int p1)] [(.int (1114111 : Int32)), (.int p1)]))
                  by_cases hc51_17 : (1114111 : Int32) < p1
                  · -- true
                    refine own_go (fun _ k => XS.icmpYes X0.here hx rfl (pc0 := 51) (pc' := 58) rfl (hb hby d1_51) rfl (tlt hc51_17).2.2.1 (by decide) (by decide) <| XT.iconstV X0.here hx rfl (0 : Int32) (hb hby d1_58) rfl <| k) ?_
                    show own_Ends p e below s _ _ _ (s₁.setTop (mkF m 59 #[.val (.int p1)] [(.int (0 : Int32))]))
                    exact own_retN X0 hx (t := .boolean) hrt (by simp) (hb hby d1_59) hlk (show nar .boolean (0 : Int32) = (0 : Int32) from by decide) (by rw [e0]; exact ⟨by simp only [Int32.lt_iff_toInt_lt, ← Int32.toInt_inj, own_lit_0, own_lit_1, own_lit_9, own_lit_10, own_lit_13, own_lit_32, own_lit_55295, own_lit_55296, own_lit_57343, own_lit_57344, own_lit_65533, own_lit_65534, own_lit_65535, own_lit_65536, own_lit_1114111] at hc3_1 hc9_2 hc15_3 hc21_4 hc27_11 hc33_12 hc39_15 hc45_16 hc51_17; unfold own_ch; first | (exfalso; omega) | rw [if_pos (by omega)] | rw [if_neg (by omega)], N0, rfl⟩) (by decide) (by decide)
                  · -- false
                    refine own_go (fun _ k => XS.icmpNo X0.here hx rfl (hb hby d1_51) rfl (flt hc51_17).2.2.1 <| XT.iconstV X0.here hx rfl (1 : Int32) (hb hby d1_54) rfl <| XS.goto X0.here hx rfl (pc0 := 55) (pc' := 59) rfl (hb hby d1_55) (by decide) (by decide) <| k) ?_
                    show own_Ends p e below s _ _ _ (s₁.setTop (mkF m 59 #[.val (.int p1)] [(.int (1 : Int32))]))
                    exact own_retN X0 hx (t := .boolean) hrt (by simp) (hb hby d1_59) hlk (show nar .boolean (1 : Int32) = (1 : Int32) from by decide) (by rw [e0]; exact ⟨by simp only [Int32.lt_iff_toInt_lt, ← Int32.toInt_inj, own_lit_0, own_lit_1, own_lit_9, own_lit_10, own_lit_13, own_lit_32, own_lit_55295, own_lit_55296, own_lit_57343, own_lit_57344, own_lit_65533, own_lit_65534, own_lit_65535, own_lit_65536, own_lit_1114111] at hc3_1 hc9_2 hc15_3 hc21_4 hc27_11 hc33_12 hc39_15 hc45_16 hc51_17; unfold own_ch; first | (exfalso; omega) | rw [if_pos (by omega)] | rw [if_neg (by omega)], N0, rfl⟩) (by decide) (by decide)
              · -- false
                refine own_go (fun _ k => XS.icmpYes X0.here hx rfl (pc0 := 39) (pc' := 54) rfl (hb hby d1_39) rfl (flt hc39_15).2.2.2 (by decide) (by decide) <| XT.iconstV X0.here hx rfl (1 : Int32) (hb hby d1_54) rfl <| XS.goto X0.here hx rfl (pc0 := 55) (pc' := 59) rfl (hb hby d1_55) (by decide) (by decide) <| k) ?_
                show own_Ends p e below s _ _ _ (s₁.setTop (mkF m 59 #[.val (.int p1)] [(.int (1 : Int32))]))
                exact own_retN X0 hx (t := .boolean) hrt (by simp) (hb hby d1_59) hlk (show nar .boolean (1 : Int32) = (1 : Int32) from by decide) (by rw [e0]; exact ⟨by simp only [Int32.lt_iff_toInt_lt, ← Int32.toInt_inj, own_lit_0, own_lit_1, own_lit_9, own_lit_10, own_lit_13, own_lit_32, own_lit_55295, own_lit_55296, own_lit_57343, own_lit_57344, own_lit_65533, own_lit_65534, own_lit_65535, own_lit_65536, own_lit_1114111] at hc3_1 hc9_2 hc15_3 hc21_4 hc27_11 hc33_12 hc39_15; unfold own_ch; first | (exfalso; omega) | rw [if_pos (by omega)] | rw [if_neg (by omega)], N0, rfl⟩) (by decide) (by decide)
          · -- false
            refine own_go (fun _ k => XS.icmpYes X0.here hx rfl (pc0 := 27) (pc' := 54) rfl (hb hby d1_27) rfl (flt hc27_11).2.2.2 (by decide) (by decide) <| XT.iconstV X0.here hx rfl (1 : Int32) (hb hby d1_54) rfl <| XS.goto X0.here hx rfl (pc0 := 55) (pc' := 59) rfl (hb hby d1_55) (by decide) (by decide) <| k) ?_
            show own_Ends p e below s _ _ _ (s₁.setTop (mkF m 59 #[.val (.int p1)] [(.int (1 : Int32))]))
            exact own_retN X0 hx (t := .boolean) hrt (by simp) (hb hby d1_59) hlk (show nar .boolean (1 : Int32) = (1 : Int32) from by decide) (by rw [e0]; exact ⟨by simp only [Int32.lt_iff_toInt_lt, ← Int32.toInt_inj, own_lit_0, own_lit_1, own_lit_9, own_lit_10, own_lit_13, own_lit_32, own_lit_55295, own_lit_55296, own_lit_57343, own_lit_57344, own_lit_65533, own_lit_65534, own_lit_65535, own_lit_65536, own_lit_1114111] at hc3_1 hc9_2 hc15_3 hc21_4 hc27_11; unfold own_ch; first | (exfalso; omega) | rw [if_pos (by omega)] | rw [if_neg (by omega)], N0, rfl⟩) (by decide) (by decide)
theorem d2_0 : decode method_2_code 0 = .ok (.iload_n 0, 1) := by decide +kernel
theorem d2_1 : decode method_2_code 1 = .ok (.ifCond .lt 57, 3) := by decide +kernel
theorem d2_4 : decode method_2_code 4 = .ok (.iload_n 0, 1) := by decide +kernel
theorem d2_5 : decode method_2_code 5 = .ok (.ldc 7, 2) := by decide +kernel
theorem d2_7 : decode method_2_code 7 = .ok (.if_icmp .gt 51, 3) := by decide +kernel
theorem d2_10 : decode method_2_code 10 = .ok (.iload_n 0, 1) := by decide +kernel
theorem d2_11 : decode method_2_code 11 = .ok (.bipush 32, 2) := by decide +kernel
theorem d2_13 : decode method_2_code 13 = .ok (.if_icmp .ge 21, 3) := by decide +kernel
theorem d2_16 : decode method_2_code 16 = .ok (.iload_n 0, 1) := by decide +kernel
theorem d2_17 : decode method_2_code 17 = .ok (.bipush 9, 2) := by decide +kernel
theorem d2_19 : decode method_2_code 19 = .ok (.if_icmp .eq 15, 3) := by decide +kernel
theorem d2_22 : decode method_2_code 22 = .ok (.iload_n 0, 1) := by decide +kernel
theorem d2_23 : decode method_2_code 23 = .ok (.bipush 10, 2) := by decide +kernel
theorem d2_25 : decode method_2_code 25 = .ok (.if_icmp .eq 9, 3) := by decide +kernel
theorem d2_28 : decode method_2_code 28 = .ok (.iload_n 0, 1) := by decide +kernel
theorem d2_29 : decode method_2_code 29 = .ok (.bipush 13, 2) := by decide +kernel
theorem d2_31 : decode method_2_code 31 = .ok (.if_icmp .ne 27, 3) := by decide +kernel
theorem d2_34 : decode method_2_code 34 = .ok (.iload_n 0, 1) := by decide +kernel
theorem d2_35 : decode method_2_code 35 = .ok (.ldc 8, 2) := by decide +kernel
theorem d2_37 : decode method_2_code 37 = .ok (.if_icmp .lt 9, 3) := by decide +kernel
theorem d2_40 : decode method_2_code 40 = .ok (.iload_n 0, 1) := by decide +kernel
theorem d2_41 : decode method_2_code 41 = .ok (.ldc 9, 2) := by decide +kernel
theorem d2_43 : decode method_2_code 43 = .ok (.if_icmp .le 15, 3) := by decide +kernel
theorem d2_46 : decode method_2_code 46 = .ok (.iload_n 0, 1) := by decide +kernel
theorem d2_47 : decode method_2_code 47 = .ok (.ldc 10, 2) := by decide +kernel
theorem d2_49 : decode method_2_code 49 = .ok (.if_icmp .eq 9, 3) := by decide +kernel
theorem d2_52 : decode method_2_code 52 = .ok (.iload_n 0, 1) := by decide +kernel
theorem d2_53 : decode method_2_code 53 = .ok (.ldc 11, 2) := by decide +kernel
theorem d2_55 : decode method_2_code 55 = .ok (.if_icmp .ne 7, 3) := by decide +kernel
theorem d2_58 : decode method_2_code 58 = .ok (.iconst 1, 1) := by decide +kernel
theorem d2_59 : decode method_2_code 59 = .ok (.goto 4, 3) := by decide +kernel
theorem d2_62 : decode method_2_code 62 = .ok (.iconst 0, 1) := by decide +kernel
theorem d2_63 : decode method_2_code 63 = .ok (.istore_n 1, 1) := by decide +kernel
theorem d2_64 : decode method_2_code 64 = .ok (.iload_n 1, 1) := by decide +kernel
theorem d2_65 : decode method_2_code 65 = .ok (.ifCond .ne 7, 3) := by decide +kernel
theorem d2_68 : decode method_2_code 68 = .ok (.iconst 1, 1) := by decide +kernel
theorem d2_69 : decode method_2_code 69 = .ok (.goto 4, 3) := by decide +kernel
theorem d2_72 : decode method_2_code 72 = .ok (.iconst 0, 1) := by decide +kernel
theorem d2_73 : decode method_2_code 73 = .ok (.ireturn, 1) := by decide +kernel
theorem pn_1 : plainName "com/example/pagra/pagra/core/XmlDocumentsIsCharacterPinLaw" = true := by first | (simp [plainName, overriddenIn]; done) | decide +kernel
theorem ef_2 (m : MethodId) (x0 : Int32) : entryFrame m #[(.int x0)] 2 = mkF m 0 #[.val (.int x0), .unset] [] := by first | (simp [entryFrame, mkF, argsToLocals, Value.category]; done) | rfl
def Q2 (p1 : Int32) (h0 : Heap) (n0 : Nat) (Z : State) (v : Option Value) (h : Heap) (L : List Loc) : Prop := v = some (.int (own_ch p1)) ∧ Fr n0 L ∧ h = h0
set_option maxRecDepth 65536 in
set_option maxHeartbeats 40000000 in
theorem rm2 (l : Launch) (Z : State) (a0 : Array Value) (hw : ∀ d ∈ tables_1, d.before a0 Z = true) (ws : List Jvm.Cond) (p1 : Int32) (h0 : Heap) (n0 : Nat) (Z0 : n0 ≤ h0.size) :
    MetFree l (⟨"com/example/pagra/pagra/core/XmlDocumentsIsCharacterPinLaw", "reference", "(I)Z"⟩ : MethodName) (head1 (Jvm.Cond.code (⟨"com/example/pagra/pagra/core/XmlDocumentsIsCharacterPinLaw", "reference", "(I)Z"⟩ : MethodName) method_2_code 2 (some .boolean) :: ws) ({ frames := 0, cells := 0, slots := 0, locals := 0 } : Room)) (fun a U => a = #[(.int p1)] ∧ Z.Warmed39 U.vm ∧ U.heap = h0) (fun _ _ _ _ _ => True) (fun _ U o U' => ∃ v L, o = .returned v ∧ Q2 p1 h0 n0 Z v U'.heap L ∧ FrameEnd U o U' L ({ frames := 0, cells := 0, slots := 0, locals := 0 } : Room).cells ({ frames := 0, cells := 0, slots := 0, locals := 0 } : Room).slots) := by
  refine MetFree.of_bodySF (plainFor_of_name pn_1) hisR ?_
  intro p e s m args below meth c s₁ Bd hml0 hP hK
  obtain ⟨rfl, hZ, hh⟩ := hP
  have hx := Bd.exec
  have hby := Bd.bytes
  have hml : c.maxLocals = 2 := hml0
  have hown : s.vm.findClass "com/example/pagra/pagra/core/XmlDocumentsIsCharacterPinLaw" = some m.cls := findClass_of_methodNamed Bd.named
  have hnm := (name_of_methodNamed Bd.named Bd.method).1
  have hlk := Bd.notSynchronized
  have hrt := Bd.returns
  have X0 : Stand p l e ({ frames := 0, cells := 0, slots := 0, locals := 0 } : Room) s m #[(.int p1)] below meth c s₁ [] 0 0 := Stand.of_body Bd
  have e0 : s₁.heap = h0 := by rw [← hh, Bd.state]; rfl
  have N0 := Fr.nil n0
  show own_Ends p e below s (Q2 p1 h0 n0 Z) ({ frames := 0, cells := 0, slots := 0, locals := 0 } : Room).cells ({ frames := 0, cells := 0, slots := 0, locals := 0 } : Room).slots (s₁.setTop (entryFrame m #[(.int p1)] 2))
  rw [ef_2]
  refine own_go (fun _ k => XS.iloadN X0.here hx rfl (hb hby d2_0) rfl <| k) ?_
  show own_Ends p e below s _ _ _ (s₁.setTop (mkF m 1 #[.val (.int p1), .unset] [(.int p1)]))
  by_cases hc1_1 : p1 < (0 : Int32)
  · -- true
    refine own_go (fun _ k => XS.ifYes X0.here hx rfl (pc0 := 1) (pc' := 58) rfl (hb hby d2_1) rfl ((if0 _ _).trans (tlt hc1_1).1) (by decide) (by decide) <| XT.iconstV X0.here hx rfl (1 : Int32) (hb hby d2_58) rfl <| XS.goto X0.here hx rfl (pc0 := 59) (pc' := 63) rfl (hb hby d2_59) (by decide) (by decide) <| XS.istoreN X0.here hx rfl (hb hby d2_63) rfl (l' := #[.val (.int p1), .val (.int (1 : Int32))]) rfl <| XS.iloadN X0.here hx rfl (hb hby d2_64) rfl <| XS.ifYes X0.here hx rfl (pc0 := 65) (pc' := 72) rfl (hb hby d2_65) rfl ((if0 _ _).trans (feq (by decide)).2) (by decide) (by decide) <| XT.iconstV X0.here hx rfl (0 : Int32) (hb hby d2_72) rfl <| k) ?_
    show own_Ends p e below s _ _ _ (s₁.setTop (mkF m 73 #[.val (.int p1), .val (.int (1 : Int32))] [(.int (0 : Int32))]))
    exact own_retN X0 hx (t := .boolean) hrt (by simp) (hb hby d2_73) hlk (show nar .boolean (0 : Int32) = (0 : Int32) from by decide) (by rw [e0]; exact ⟨by simp only [Int32.lt_iff_toInt_lt, ← Int32.toInt_inj, own_lit_0, own_lit_1, own_lit_9, own_lit_10, own_lit_13, own_lit_32, own_lit_55295, own_lit_55296, own_lit_57343, own_lit_57344, own_lit_65533, own_lit_65534, own_lit_65535, own_lit_65536, own_lit_1114111] at hc1_1; unfold own_ch; first | (exfalso; omega) | rw [if_pos (by omega)] | rw [if_neg (by omega)], N0, rfl⟩) (by decide) (by decide)
  · -- false
    refine own_go (fun _ k => XS.ifNo X0.here hx rfl (hb hby d2_1) rfl ((if0 _ _).trans (flt hc1_1).1) <| XS.iloadN X0.here hx rfl (hb hby d2_4) rfl <| X0.ldcI hx hown (mvT hZ (hw _ (List.mem_of_getElem? (i := 9) rfl))) rfl (hb hby d2_5) <| k) ?_
    show own_Ends p e below s _ _ _ (s₁.setTop (mkF m 7 #[.val (.int p1), .unset] [(.int (1114111 : Int32)), (.int p1)]))
    by_cases hc7_2 : (1114111 : Int32) < p1
    · -- true
      refine own_go (fun _ k => XS.icmpYes X0.here hx rfl (pc0 := 7) (pc' := 58) rfl (hb hby d2_7) rfl (tlt hc7_2).2.2.1 (by decide) (by decide) <| XT.iconstV X0.here hx rfl (1 : Int32) (hb hby d2_58) rfl <| XS.goto X0.here hx rfl (pc0 := 59) (pc' := 63) rfl (hb hby d2_59) (by decide) (by decide) <| XS.istoreN X0.here hx rfl (hb hby d2_63) rfl (l' := #[.val (.int p1), .val (.int (1 : Int32))]) rfl <| XS.iloadN X0.here hx rfl (hb hby d2_64) rfl <| XS.ifYes X0.here hx rfl (pc0 := 65) (pc' := 72) rfl (hb hby d2_65) rfl ((if0 _ _).trans (feq (by decide)).2) (by decide) (by decide) <| XT.iconstV X0.here hx rfl (0 : Int32) (hb hby d2_72) rfl <| k) ?_
      show own_Ends p e below s _ _ _ (s₁.setTop (mkF m 73 #[.val (.int p1), .val (.int (1 : Int32))] [(.int (0 : Int32))]))
      exact own_retN X0 hx (t := .boolean) hrt (by simp) (hb hby d2_73) hlk (show nar .boolean (0 : Int32) = (0 : Int32) from by decide) (by rw [e0]; exact ⟨by simp only [Int32.lt_iff_toInt_lt, ← Int32.toInt_inj, own_lit_0, own_lit_1, own_lit_9, own_lit_10, own_lit_13, own_lit_32, own_lit_55295, own_lit_55296, own_lit_57343, own_lit_57344, own_lit_65533, own_lit_65534, own_lit_65535, own_lit_65536, own_lit_1114111] at hc1_1 hc7_2; unfold own_ch; first | (exfalso; omega) | rw [if_pos (by omega)] | rw [if_neg (by omega)], N0, rfl⟩) (by decide) (by decide)
    · -- false
      refine own_go (fun _ k => XS.icmpNo X0.here hx rfl (hb hby d2_7) rfl (flt hc7_2).2.2.1 <| XS.iloadN X0.here hx rfl (hb hby d2_10) rfl <| XT.bipushV X0.here hx rfl (32 : Int32) (hb hby d2_11) rfl <| k) ?_
      show own_Ends p e below s _ _ _ (s₁.setTop (mkF m 13 #[.val (.int p1), .unset] [(.int (32 : Int32)), (.int p1)]))
      by_cases hc13_3 : p1 < (32 : Int32)
      · -- true
        refine own_go (fun _ k => XS.icmpNo X0.here hx rfl (hb hby d2_13) rfl (tlt hc13_3).2.1 <| XS.iloadN X0.here hx rfl (hb hby d2_16) rfl <| XT.bipushV X0.here hx rfl (9 : Int32) (hb hby d2_17) rfl <| k) ?_
        show own_Ends p e below s _ _ _ (s₁.setTop (mkF m 19 #[.val (.int p1), .unset] [(.int (9 : Int32)), (.int p1)]))
        by_cases hc19_4 : p1 = (9 : Int32)
        · -- true
          refine own_go (fun _ k => XS.icmpYes X0.here hx rfl (pc0 := 19) (pc' := 34) rfl (hb hby d2_19) rfl (teq hc19_4).1 (by decide) (by decide) <| XS.iloadN X0.here hx rfl (hb hby d2_34) rfl <| X0.ldcI hx hown (mvT hZ (hw _ (List.mem_of_getElem? (i := 2) rfl))) rfl (hb hby d2_35) <| k) ?_
          show own_Ends p e below s _ _ _ (s₁.setTop (mkF m 37 #[.val (.int p1), .unset] [(.int (55296 : Int32)), (.int p1)]))
          by_cases hc37_5 : p1 < (55296 : Int32)
          · -- true
            refine own_go (fun _ k => XS.icmpYes X0.here hx rfl (pc0 := 37) (pc' := 46) rfl (hb hby d2_37) rfl (tlt hc37_5).1 (by decide) (by decide) <| XS.iloadN X0.here hx rfl (hb hby d2_46) rfl <| X0.ldcI hx hown (mvT hZ (hw _ (List.mem_of_getElem? (i := 6) rfl))) rfl (hb hby d2_47) <| k) ?_
            show own_Ends p e below s _ _ _ (s₁.setTop (mkF m 49 #[.val (.int p1), .unset] [(.int (65534 : Int32)), (.int p1)]))
            by_cases hc49_6 : p1 = (65534 : Int32)
            · -- true
              refine own_go (fun _ k => XS.icmpYes X0.here hx rfl (pc0 := 49) (pc' := 58) rfl (hb hby d2_49) rfl (teq hc49_6).1 (by decide) (by decide) <| XT.iconstV X0.here hx rfl (1 : Int32) (hb hby d2_58) rfl <| XS.goto X0.here hx rfl (pc0 := 59) (pc' := 63) rfl (hb hby d2_59) (by decide) (by decide) <| XS.istoreN X0.here hx rfl (hb hby d2_63) rfl (l' := #[.val (.int p1), .val (.int (1 : Int32))]) rfl <| XS.iloadN X0.here hx rfl (hb hby d2_64) rfl <| XS.ifYes X0.here hx rfl (pc0 := 65) (pc' := 72) rfl (hb hby d2_65) rfl ((if0 _ _).trans (feq (by decide)).2) (by decide) (by decide) <| XT.iconstV X0.here hx rfl (0 : Int32) (hb hby d2_72) rfl <| k) ?_
              show own_Ends p e below s _ _ _ (s₁.setTop (mkF m 73 #[.val (.int p1), .val (.int (1 : Int32))] [(.int (0 : Int32))]))
              exact own_retN X0 hx (t := .boolean) hrt (by simp) (hb hby d2_73) hlk (show nar .boolean (0 : Int32) = (0 : Int32) from by decide) (by rw [e0]; exact ⟨by simp only [Int32.lt_iff_toInt_lt, ← Int32.toInt_inj, own_lit_0, own_lit_1, own_lit_9, own_lit_10, own_lit_13, own_lit_32, own_lit_55295, own_lit_55296, own_lit_57343, own_lit_57344, own_lit_65533, own_lit_65534, own_lit_65535, own_lit_65536, own_lit_1114111] at hc1_1 hc7_2 hc13_3 hc19_4 hc37_5 hc49_6; unfold own_ch; first | (exfalso; omega) | rw [if_pos (by omega)] | rw [if_neg (by omega)], N0, rfl⟩) (by decide) (by decide)
            · -- false
              refine own_go (fun _ k => XS.icmpNo X0.here hx rfl (hb hby d2_49) rfl (feq hc49_6).1 <| XS.iloadN X0.here hx rfl (hb hby d2_52) rfl <| X0.ldcI hx hown (mvT hZ (hw _ (List.mem_of_getElem? (i := 7) rfl))) rfl (hb hby d2_53) <| k) ?_
              show own_Ends p e below s _ _ _ (s₁.setTop (mkF m 55 #[.val (.int p1), .unset] [(.int (65535 : Int32)), (.int p1)]))
              by_cases hc55_7 : p1 = (65535 : Int32)
              · -- true
                refine own_go (fun _ k => XS.icmpNo X0.here hx rfl (hb hby d2_55) rfl (teq hc55_7).2 <| XT.iconstV X0.here hx rfl (1 : Int32) (hb hby d2_58) rfl <| XS.goto X0.here hx rfl (pc0 := 59) (pc' := 63) rfl (hb hby d2_59) (by decide) (by decide) <| XS.istoreN X0.here hx rfl (hb hby d2_63) rfl (l' := #[.val (.int p1), .val (.int (1 : Int32))]) rfl <| XS.iloadN X0.here hx rfl (hb hby d2_64) rfl <| XS.ifYes X0.here hx rfl (pc0 := 65) (pc' := 72) rfl (hb hby d2_65) rfl ((if0 _ _).trans (feq (by decide)).2) (by decide) (by decide) <| XT.iconstV X0.here hx rfl (0 : Int32) (hb hby d2_72) rfl <| k) ?_
                show own_Ends p e below s _ _ _ (s₁.setTop (mkF m 73 #[.val (.int p1), .val (.int (1 : Int32))] [(.int (0 : Int32))]))
                exact own_retN X0 hx (t := .boolean) hrt (by simp) (hb hby d2_73) hlk (show nar .boolean (0 : Int32) = (0 : Int32) from by decide) (by rw [e0]; exact ⟨by simp only [Int32.lt_iff_toInt_lt, ← Int32.toInt_inj, own_lit_0, own_lit_1, own_lit_9, own_lit_10, own_lit_13, own_lit_32, own_lit_55295, own_lit_55296, own_lit_57343, own_lit_57344, own_lit_65533, own_lit_65534, own_lit_65535, own_lit_65536, own_lit_1114111] at hc1_1 hc7_2 hc13_3 hc19_4 hc37_5 hc49_6 hc55_7; unfold own_ch; first | (exfalso; omega) | rw [if_pos (by omega)] | rw [if_neg (by omega)], N0, rfl⟩) (by decide) (by decide)
              · -- false
                refine own_go (fun _ k => XS.icmpYes X0.here hx rfl (pc0 := 55) (pc' := 62) rfl (hb hby d2_55) rfl (feq hc55_7).2 (by decide) (by decide) <| XT.iconstV X0.here hx rfl (0 : Int32) (hb hby d2_62) rfl <| XS.istoreN X0.here hx rfl (hb hby d2_63) rfl (l' := #[.val (.int p1), .val (.int (0 : Int32))]) rfl <| XS.iloadN X0.here hx rfl (hb hby d2_64) rfl <| XS.ifNo X0.here hx rfl (hb hby d2_65) rfl ((if0 _ _).trans (teq (by decide)).2) <| XT.iconstV X0.here hx rfl (1 : Int32) (hb hby d2_68) rfl <| XS.goto X0.here hx rfl (pc0 := 69) (pc' := 73) rfl (hb hby d2_69) (by decide) (by decide) <| k) ?_
                show own_Ends p e below s _ _ _ (s₁.setTop (mkF m 73 #[.val (.int p1), .val (.int (0 : Int32))] [(.int (1 : Int32))]))
                exact own_retN X0 hx (t := .boolean) hrt (by simp) (hb hby d2_73) hlk (show nar .boolean (1 : Int32) = (1 : Int32) from by decide) (by rw [e0]; exact ⟨by simp only [Int32.lt_iff_toInt_lt, ← Int32.toInt_inj, own_lit_0, own_lit_1, own_lit_9, own_lit_10, own_lit_13, own_lit_32, own_lit_55295, own_lit_55296, own_lit_57343, own_lit_57344, own_lit_65533, own_lit_65534, own_lit_65535, own_lit_65536, own_lit_1114111] at hc1_1 hc7_2 hc13_3 hc19_4 hc37_5 hc49_6 hc55_7; unfold own_ch; first | (exfalso; omega) | rw [if_pos (by omega)] | rw [if_neg (by omega)], N0, rfl⟩) (by decide) (by decide)
          · -- false
            refine own_go (fun _ k => XS.icmpNo X0.here hx rfl (hb hby d2_37) rfl (flt hc37_5).1 <| XS.iloadN X0.here hx rfl (hb hby d2_40) rfl <| X0.ldcI hx hown (mvT hZ (hw _ (List.mem_of_getElem? (i := 3) rfl))) rfl (hb hby d2_41) <| k) ?_
            show own_Ends p e below s _ _ _ (s₁.setTop (mkF m 43 #[.val (.int p1), .unset] [(.int (57343 : Int32)), (.int p1)]))
            by_cases hc43_8 : (57343 : Int32) < p1
            · -- true
              refine own_go (fun _ k => XS.icmpNo X0.here hx rfl (hb hby d2_43) rfl (tlt hc43_8).2.2.2 <| XS.iloadN X0.here hx rfl (hb hby d2_46) rfl <| X0.ldcI hx hown (mvT hZ (hw _ (List.mem_of_getElem? (i := 6) rfl))) rfl (hb hby d2_47) <| k) ?_
              show own_Ends p e below s _ _ _ (s₁.setTop (mkF m 49 #[.val (.int p1), .unset] [(.int (65534 : Int32)), (.int p1)]))
              by_cases hc49_9 : p1 = (65534 : Int32)
              · -- true
                refine own_go (fun _ k => XS.icmpYes X0.here hx rfl (pc0 := 49) (pc' := 58) rfl (hb hby d2_49) rfl (teq hc49_9).1 (by decide) (by decide) <| XT.iconstV X0.here hx rfl (1 : Int32) (hb hby d2_58) rfl <| XS.goto X0.here hx rfl (pc0 := 59) (pc' := 63) rfl (hb hby d2_59) (by decide) (by decide) <| XS.istoreN X0.here hx rfl (hb hby d2_63) rfl (l' := #[.val (.int p1), .val (.int (1 : Int32))]) rfl <| XS.iloadN X0.here hx rfl (hb hby d2_64) rfl <| XS.ifYes X0.here hx rfl (pc0 := 65) (pc' := 72) rfl (hb hby d2_65) rfl ((if0 _ _).trans (feq (by decide)).2) (by decide) (by decide) <| XT.iconstV X0.here hx rfl (0 : Int32) (hb hby d2_72) rfl <| k) ?_
                show own_Ends p e below s _ _ _ (s₁.setTop (mkF m 73 #[.val (.int p1), .val (.int (1 : Int32))] [(.int (0 : Int32))]))
                exact own_retN X0 hx (t := .boolean) hrt (by simp) (hb hby d2_73) hlk (show nar .boolean (0 : Int32) = (0 : Int32) from by decide) (by rw [e0]; exact ⟨by simp only [Int32.lt_iff_toInt_lt, ← Int32.toInt_inj, own_lit_0, own_lit_1, own_lit_9, own_lit_10, own_lit_13, own_lit_32, own_lit_55295, own_lit_55296, own_lit_57343, own_lit_57344, own_lit_65533, own_lit_65534, own_lit_65535, own_lit_65536, own_lit_1114111] at hc1_1 hc7_2 hc13_3 hc19_4 hc37_5 hc43_8 hc49_9; unfold own_ch; first | (exfalso; omega) | rw [if_pos (by omega)] | rw [if_neg (by omega)], N0, rfl⟩) (by decide) (by decide)
              · -- false
                refine own_go (fun _ k => XS.icmpNo X0.here hx rfl (hb hby d2_49) rfl (feq hc49_9).1 <| XS.iloadN X0.here hx rfl (hb hby d2_52) rfl <| X0.ldcI hx hown (mvT hZ (hw _ (List.mem_of_getElem? (i := 7) rfl))) rfl (hb hby d2_53) <| k) ?_
                show own_Ends p e below s _ _ _ (s₁.setTop (mkF m 55 #[.val (.int p1), .unset] [(.int (65535 : Int32)), (.int p1)]))
                by_cases hc55_10 : p1 = (65535 : Int32)
                · -- true
                  refine own_go (fun _ k => XS.icmpNo X0.here hx rfl (hb hby d2_55) rfl (teq hc55_10).2 <| XT.iconstV X0.here hx rfl (1 : Int32) (hb hby d2_58) rfl <| XS.goto X0.here hx rfl (pc0 := 59) (pc' := 63) rfl (hb hby d2_59) (by decide) (by decide) <| XS.istoreN X0.here hx rfl (hb hby d2_63) rfl (l' := #[.val (.int p1), .val (.int (1 : Int32))]) rfl <| XS.iloadN X0.here hx rfl (hb hby d2_64) rfl <| XS.ifYes X0.here hx rfl (pc0 := 65) (pc' := 72) rfl (hb hby d2_65) rfl ((if0 _ _).trans (feq (by decide)).2) (by decide) (by decide) <| XT.iconstV X0.here hx rfl (0 : Int32) (hb hby d2_72) rfl <| k) ?_
                  show own_Ends p e below s _ _ _ (s₁.setTop (mkF m 73 #[.val (.int p1), .val (.int (1 : Int32))] [(.int (0 : Int32))]))
                  exact own_retN X0 hx (t := .boolean) hrt (by simp) (hb hby d2_73) hlk (show nar .boolean (0 : Int32) = (0 : Int32) from by decide) (by rw [e0]; exact ⟨by simp only [Int32.lt_iff_toInt_lt, ← Int32.toInt_inj, own_lit_0, own_lit_1, own_lit_9, own_lit_10, own_lit_13, own_lit_32, own_lit_55295, own_lit_55296, own_lit_57343, own_lit_57344, own_lit_65533, own_lit_65534, own_lit_65535, own_lit_65536, own_lit_1114111] at hc1_1 hc7_2 hc13_3 hc19_4 hc37_5 hc43_8 hc49_9 hc55_10; unfold own_ch; first | (exfalso; omega) | rw [if_pos (by omega)] | rw [if_neg (by omega)], N0, rfl⟩) (by decide) (by decide)
                · -- false
                  refine own_go (fun _ k => XS.icmpYes X0.here hx rfl (pc0 := 55) (pc' := 62) rfl (hb hby d2_55) rfl (feq hc55_10).2 (by decide) (by decide) <| XT.iconstV X0.here hx rfl (0 : Int32) (hb hby d2_62) rfl <| XS.istoreN X0.here hx rfl (hb hby d2_63) rfl (l' := #[.val (.int p1), .val (.int (0 : Int32))]) rfl <| XS.iloadN X0.here hx rfl (hb hby d2_64) rfl <| XS.ifNo X0.here hx rfl (hb hby d2_65) rfl ((if0 _ _).trans (teq (by decide)).2) <| XT.iconstV X0.here hx rfl (1 : Int32) (hb hby d2_68) rfl <| XS.goto X0.here hx rfl (pc0 := 69) (pc' := 73) rfl (hb hby d2_69) (by decide) (by decide) <| k) ?_
                  show own_Ends p e below s _ _ _ (s₁.setTop (mkF m 73 #[.val (.int p1), .val (.int (0 : Int32))] [(.int (1 : Int32))]))
                  exact own_retN X0 hx (t := .boolean) hrt (by simp) (hb hby d2_73) hlk (show nar .boolean (1 : Int32) = (1 : Int32) from by decide) (by rw [e0]; exact ⟨by simp only [Int32.lt_iff_toInt_lt, ← Int32.toInt_inj, own_lit_0, own_lit_1, own_lit_9, own_lit_10, own_lit_13, own_lit_32, own_lit_55295, own_lit_55296, own_lit_57343, own_lit_57344, own_lit_65533, own_lit_65534, own_lit_65535, own_lit_65536, own_lit_1114111] at hc1_1 hc7_2 hc13_3 hc19_4 hc37_5 hc43_8 hc49_9 hc55_10; unfold own_ch; first | (exfalso; omega) | rw [if_pos (by omega)] | rw [if_neg (by omega)], N0, rfl⟩) (by decide) (by decide)
            · -- false
              refine own_go (fun _ k => XS.icmpYes X0.here hx rfl (pc0 := 43) (pc' := 58) rfl (hb hby d2_43) rfl (flt hc43_8).2.2.2 (by decide) (by decide) <| XT.iconstV X0.here hx rfl (1 : Int32) (hb hby d2_58) rfl <| XS.goto X0.here hx rfl (pc0 := 59) (pc' := 63) rfl (hb hby d2_59) (by decide) (by decide) <| XS.istoreN X0.here hx rfl (hb hby d2_63) rfl (l' := #[.val (.int p1), .val (.int (1 : Int32))]) rfl <| XS.iloadN X0.here hx rfl (hb hby d2_64) rfl <| XS.ifYes X0.here hx rfl (pc0 := 65) (pc' := 72) rfl (hb hby d2_65) rfl ((if0 _ _).trans (feq (by decide)).2) (by decide) (by decide) <| XT.iconstV X0.here hx rfl (0 : Int32) (hb hby d2_72) rfl <| k) ?_
              show own_Ends p e below s _ _ _ (s₁.setTop (mkF m 73 #[.val (.int p1), .val (.int (1 : Int32))] [(.int (0 : Int32))]))
              exact own_retN X0 hx (t := .boolean) hrt (by simp) (hb hby d2_73) hlk (show nar .boolean (0 : Int32) = (0 : Int32) from by decide) (by rw [e0]; exact ⟨by simp only [Int32.lt_iff_toInt_lt, ← Int32.toInt_inj, own_lit_0, own_lit_1, own_lit_9, own_lit_10, own_lit_13, own_lit_32, own_lit_55295, own_lit_55296, own_lit_57343, own_lit_57344, own_lit_65533, own_lit_65534, own_lit_65535, own_lit_65536, own_lit_1114111] at hc1_1 hc7_2 hc13_3 hc19_4 hc37_5 hc43_8; unfold own_ch; first | (exfalso; omega) | rw [if_pos (by omega)] | rw [if_neg (by omega)], N0, rfl⟩) (by decide) (by decide)
        · -- false
          refine own_go (fun _ k => XS.icmpNo X0.here hx rfl (hb hby d2_19) rfl (feq hc19_4).1 <| XS.iloadN X0.here hx rfl (hb hby d2_22) rfl <| XT.bipushV X0.here hx rfl (10 : Int32) (hb hby d2_23) rfl <| k) ?_
          show own_Ends p e below s _ _ _ (s₁.setTop (mkF m 25 #[.val (.int p1), .unset] [(.int (10 : Int32)), (.int p1)]))
          by_cases hc25_11 : p1 = (10 : Int32)
          · -- true
            refine own_go (fun _ k => XS.icmpYes X0.here hx rfl (pc0 := 25) (pc' := 34) rfl (hb hby d2_25) rfl (teq hc25_11).1 (by decide) (by decide) <| XS.iloadN X0.here hx rfl (hb hby d2_34) rfl <| X0.ldcI hx hown (mvT hZ (hw _ (List.mem_of_getElem? (i := 2) rfl))) rfl (hb hby d2_35) <| k) ?_
            show own_Ends p e below s _ _ _ (s₁.setTop (mkF m 37 #[.val (.int p1), .unset] [(.int (55296 : Int32)), (.int p1)]))
            by_cases hc37_12 : p1 < (55296 : Int32)
            · -- true
              refine own_go (fun _ k => XS.icmpYes X0.here hx rfl (pc0 := 37) (pc' := 46) rfl (hb hby d2_37) rfl (tlt hc37_12).1 (by decide) (by decide) <| XS.iloadN X0.here hx rfl (hb hby d2_46) rfl <| X0.ldcI hx hown (mvT hZ (hw _ (List.mem_of_getElem? (i := 6) rfl))) rfl (hb hby d2_47) <| k) ?_
              show own_Ends p e below s _ _ _ (s₁.setTop (mkF m 49 #[.val (.int p1), .unset] [(.int (65534 : Int32)), (.int p1)]))
              by_cases hc49_13 : p1 = (65534 : Int32)
              · -- true
                refine own_go (fun _ k => XS.icmpYes X0.here hx rfl (pc0 := 49) (pc' := 58) rfl (hb hby d2_49) rfl (teq hc49_13).1 (by decide) (by decide) <| XT.iconstV X0.here hx rfl (1 : Int32) (hb hby d2_58) rfl <| XS.goto X0.here hx rfl (pc0 := 59) (pc' := 63) rfl (hb hby d2_59) (by decide) (by decide) <| XS.istoreN X0.here hx rfl (hb hby d2_63) rfl (l' := #[.val (.int p1), .val (.int (1 : Int32))]) rfl <| XS.iloadN X0.here hx rfl (hb hby d2_64) rfl <| XS.ifYes X0.here hx rfl (pc0 := 65) (pc' := 72) rfl (hb hby d2_65) rfl ((if0 _ _).trans (feq (by decide)).2) (by decide) (by decide) <| XT.iconstV X0.here hx rfl (0 : Int32) (hb hby d2_72) rfl <| k) ?_
                show own_Ends p e below s _ _ _ (s₁.setTop (mkF m 73 #[.val (.int p1), .val (.int (1 : Int32))] [(.int (0 : Int32))]))
                exact own_retN X0 hx (t := .boolean) hrt (by simp) (hb hby d2_73) hlk (show nar .boolean (0 : Int32) = (0 : Int32) from by decide) (by rw [e0]; exact ⟨by simp only [Int32.lt_iff_toInt_lt, ← Int32.toInt_inj, own_lit_0, own_lit_1, own_lit_9, own_lit_10, own_lit_13, own_lit_32, own_lit_55295, own_lit_55296, own_lit_57343, own_lit_57344, own_lit_65533, own_lit_65534, own_lit_65535, own_lit_65536, own_lit_1114111] at hc1_1 hc7_2 hc13_3 hc19_4 hc25_11 hc37_12 hc49_13; unfold own_ch; first | (exfalso; omega) | rw [if_pos (by omega)] | rw [if_neg (by omega)], N0, rfl⟩) (by decide) (by decide)
              · -- false
                refine own_go (fun _ k => XS.icmpNo X0.here hx rfl (hb hby d2_49) rfl (feq hc49_13).1 <| XS.iloadN X0.here hx rfl (hb hby d2_52) rfl <| X0.ldcI hx hown (mvT hZ (hw _ (List.mem_of_getElem? (i := 7) rfl))) rfl (hb hby d2_53) <| k) ?_
                show own_Ends p e below s _ _ _ (s₁.setTop (mkF m 55 #[.val (.int p1), .unset] [(.int (65535 : Int32)), (.int p1)]))
                by_cases hc55_14 : p1 = (65535 : Int32)
                · -- true
                  refine own_go (fun _ k => XS.icmpNo X0.here hx rfl (hb hby d2_55) rfl (teq hc55_14).2 <| XT.iconstV X0.here hx rfl (1 : Int32) (hb hby d2_58) rfl <| XS.goto X0.here hx rfl (pc0 := 59) (pc' := 63) rfl (hb hby d2_59) (by decide) (by decide) <| XS.istoreN X0.here hx rfl (hb hby d2_63) rfl (l' := #[.val (.int p1), .val (.int (1 : Int32))]) rfl <| XS.iloadN X0.here hx rfl (hb hby d2_64) rfl <| XS.ifYes X0.here hx rfl (pc0 := 65) (pc' := 72) rfl (hb hby d2_65) rfl ((if0 _ _).trans (feq (by decide)).2) (by decide) (by decide) <| XT.iconstV X0.here hx rfl (0 : Int32) (hb hby d2_72) rfl <| k) ?_
                  show own_Ends p e below s _ _ _ (s₁.setTop (mkF m 73 #[.val (.int p1), .val (.int (1 : Int32))] [(.int (0 : Int32))]))
                  exact own_retN X0 hx (t := .boolean) hrt (by simp) (hb hby d2_73) hlk (show nar .boolean (0 : Int32) = (0 : Int32) from by decide) (by rw [e0]; exact ⟨by simp only [Int32.lt_iff_toInt_lt, ← Int32.toInt_inj, own_lit_0, own_lit_1, own_lit_9, own_lit_10, own_lit_13, own_lit_32, own_lit_55295, own_lit_55296, own_lit_57343, own_lit_57344, own_lit_65533, own_lit_65534, own_lit_65535, own_lit_65536, own_lit_1114111] at hc1_1 hc7_2 hc13_3 hc19_4 hc25_11 hc37_12 hc49_13 hc55_14; unfold own_ch; first | (exfalso; omega) | rw [if_pos (by omega)] | rw [if_neg (by omega)], N0, rfl⟩) (by decide) (by decide)
                · -- false
                  refine own_go (fun _ k => XS.icmpYes X0.here hx rfl (pc0 := 55) (pc' := 62) rfl (hb hby d2_55) rfl (feq hc55_14).2 (by decide) (by decide) <| XT.iconstV X0.here hx rfl (0 : Int32) (hb hby d2_62) rfl <| XS.istoreN X0.here hx rfl (hb hby d2_63) rfl (l' := #[.val (.int p1), .val (.int (0 : Int32))]) rfl <| XS.iloadN X0.here hx rfl (hb hby d2_64) rfl <| XS.ifNo X0.here hx rfl (hb hby d2_65) rfl ((if0 _ _).trans (teq (by decide)).2) <| XT.iconstV X0.here hx rfl (1 : Int32) (hb hby d2_68) rfl <| XS.goto X0.here hx rfl (pc0 := 69) (pc' := 73) rfl (hb hby d2_69) (by decide) (by decide) <| k) ?_
                  show own_Ends p e below s _ _ _ (s₁.setTop (mkF m 73 #[.val (.int p1), .val (.int (0 : Int32))] [(.int (1 : Int32))]))
                  exact own_retN X0 hx (t := .boolean) hrt (by simp) (hb hby d2_73) hlk (show nar .boolean (1 : Int32) = (1 : Int32) from by decide) (by rw [e0]; exact ⟨by simp only [Int32.lt_iff_toInt_lt, ← Int32.toInt_inj, own_lit_0, own_lit_1, own_lit_9, own_lit_10, own_lit_13, own_lit_32, own_lit_55295, own_lit_55296, own_lit_57343, own_lit_57344, own_lit_65533, own_lit_65534, own_lit_65535, own_lit_65536, own_lit_1114111] at hc1_1 hc7_2 hc13_3 hc19_4 hc25_11 hc37_12 hc49_13 hc55_14; unfold own_ch; first | (exfalso; omega) | rw [if_pos (by omega)] | rw [if_neg (by omega)], N0, rfl⟩) (by decide) (by decide)
            · -- false
              refine own_go (fun _ k => XS.icmpNo X0.here hx rfl (hb hby d2_37) rfl (flt hc37_12).1 <| XS.iloadN X0.here hx rfl (hb hby d2_40) rfl <| X0.ldcI hx hown (mvT hZ (hw _ (List.mem_of_getElem? (i := 3) rfl))) rfl (hb hby d2_41) <| k) ?_
              show own_Ends p e below s _ _ _ (s₁.setTop (mkF m 43 #[.val (.int p1), .unset] [(.int (57343 : Int32)), (.int p1)]))
              by_cases hc43_15 : (57343 : Int32) < p1
              · -- true
                refine own_go (fun _ k => XS.icmpNo X0.here hx rfl (hb hby d2_43) rfl (tlt hc43_15).2.2.2 <| XS.iloadN X0.here hx rfl (hb hby d2_46) rfl <| X0.ldcI hx hown (mvT hZ (hw _ (List.mem_of_getElem? (i := 6) rfl))) rfl (hb hby d2_47) <| k) ?_
                show own_Ends p e below s _ _ _ (s₁.setTop (mkF m 49 #[.val (.int p1), .unset] [(.int (65534 : Int32)), (.int p1)]))
                by_cases hc49_16 : p1 = (65534 : Int32)
                · -- true
                  refine own_go (fun _ k => XS.icmpYes X0.here hx rfl (pc0 := 49) (pc' := 58) rfl (hb hby d2_49) rfl (teq hc49_16).1 (by decide) (by decide) <| XT.iconstV X0.here hx rfl (1 : Int32) (hb hby d2_58) rfl <| XS.goto X0.here hx rfl (pc0 := 59) (pc' := 63) rfl (hb hby d2_59) (by decide) (by decide) <| XS.istoreN X0.here hx rfl (hb hby d2_63) rfl (l' := #[.val (.int p1), .val (.int (1 : Int32))]) rfl <| XS.iloadN X0.here hx rfl (hb hby d2_64) rfl <| XS.ifYes X0.here hx rfl (pc0 := 65) (pc' := 72) rfl (hb hby d2_65) rfl ((if0 _ _).trans (feq (by decide)).2) (by decide) (by decide) <| XT.iconstV X0.here hx rfl (0 : Int32) (hb hby d2_72) rfl <| k) ?_
                  show own_Ends p e below s _ _ _ (s₁.setTop (mkF m 73 #[.val (.int p1), .val (.int (1 : Int32))] [(.int (0 : Int32))]))
                  exact own_retN X0 hx (t := .boolean) hrt (by simp) (hb hby d2_73) hlk (show nar .boolean (0 : Int32) = (0 : Int32) from by decide) (by rw [e0]; exact ⟨by simp only [Int32.lt_iff_toInt_lt, ← Int32.toInt_inj, own_lit_0, own_lit_1, own_lit_9, own_lit_10, own_lit_13, own_lit_32, own_lit_55295, own_lit_55296, own_lit_57343, own_lit_57344, own_lit_65533, own_lit_65534, own_lit_65535, own_lit_65536, own_lit_1114111] at hc1_1 hc7_2 hc13_3 hc19_4 hc25_11 hc37_12 hc43_15 hc49_16; unfold own_ch; first | (exfalso; omega) | rw [if_pos (by omega)] | rw [if_neg (by omega)], N0, rfl⟩) (by decide) (by decide)
                · -- false
                  refine own_go (fun _ k => XS.icmpNo X0.here hx rfl (hb hby d2_49) rfl (feq hc49_16).1 <| XS.iloadN X0.here hx rfl (hb hby d2_52) rfl <| X0.ldcI hx hown (mvT hZ (hw _ (List.mem_of_getElem? (i := 7) rfl))) rfl (hb hby d2_53) <| k) ?_
                  show own_Ends p e below s _ _ _ (s₁.setTop (mkF m 55 #[.val (.int p1), .unset] [(.int (65535 : Int32)), (.int p1)]))
                  by_cases hc55_17 : p1 = (65535 : Int32)
                  · -- true
                    refine own_go (fun _ k => XS.icmpNo X0.here hx rfl (hb hby d2_55) rfl (teq hc55_17).2 <| XT.iconstV X0.here hx rfl (1 : Int32) (hb hby d2_58) rfl <| XS.goto X0.here hx rfl (pc0 := 59) (pc' := 63) rfl (hb hby d2_59) (by decide) (by decide) <| XS.istoreN X0.here hx rfl (hb hby d2_63) rfl (l' := #[.val (.int p1), .val (.int (1 : Int32))]) rfl <| XS.iloadN X0.here hx rfl (hb hby d2_64) rfl <| XS.ifYes X0.here hx rfl (pc0 := 65) (pc' := 72) rfl (hb hby d2_65) rfl ((if0 _ _).trans (feq (by decide)).2) (by decide) (by decide) <| XT.iconstV X0.here hx rfl (0 : Int32) (hb hby d2_72) rfl <| k) ?_
                    show own_Ends p e below s _ _ _ (s₁.setTop (mkF m 73 #[.val (.int p1), .val (.int (1 : Int32))] [(.int (0 : Int32))]))
                    exact own_retN X0 hx (t := .boolean) hrt (by simp) (hb hby d2_73) hlk (show nar .boolean (0 : Int32) = (0 : Int32) from by decide) (by rw [e0]; exact ⟨by simp only [Int32.lt_iff_toInt_lt, ← Int32.toInt_inj, own_lit_0, own_lit_1, own_lit_9, own_lit_10, own_lit_13, own_lit_32, own_lit_55295, own_lit_55296, own_lit_57343, own_lit_57344, own_lit_65533, own_lit_65534, own_lit_65535, own_lit_65536, own_lit_1114111] at hc1_1 hc7_2 hc13_3 hc19_4 hc25_11 hc37_12 hc43_15 hc49_16 hc55_17; unfold own_ch; first | (exfalso; omega) | rw [if_pos (by omega)] | rw [if_neg (by omega)], N0, rfl⟩) (by decide) (by decide)
                  · -- false
                    refine own_go (fun _ k => XS.icmpYes X0.here hx rfl (pc0 := 55) (pc' := 62) rfl (hb hby d2_55) rfl (feq hc55_17).2 (by decide) (by decide) <| XT.iconstV X0.here hx rfl (0 : Int32) (hb hby d2_62) rfl <| XS.istoreN X0.here hx rfl (hb hby d2_63) rfl (l' := #[.val (.int p1), .val (.int (0 : Int32))]) rfl <| XS.iloadN X0.here hx rfl (hb hby d2_64) rfl <| XS.ifNo X0.here hx rfl (hb hby d2_65) rfl ((if0 _ _).trans (teq (by decide)).2) <| XT.iconstV X0.here hx rfl (1 : Int32) (hb hby d2_68) rfl <| XS.goto X0.here hx rfl (pc0 := 69) (pc' := 73) rfl (hb hby d2_69) (by decide) (by decide) <| k) ?_
                    show own_Ends p e below s _ _ _ (s₁.setTop (mkF m 73 #[.val (.int p1), .val (.int (0 : Int32))] [(.int (1 : Int32))]))
                    exact own_retN X0 hx (t := .boolean) hrt (by simp) (hb hby d2_73) hlk (show nar .boolean (1 : Int32) = (1 : Int32) from by decide) (by rw [e0]; exact ⟨by simp only [Int32.lt_iff_toInt_lt, ← Int32.toInt_inj, own_lit_0, own_lit_1, own_lit_9, own_lit_10, own_lit_13, own_lit_32, own_lit_55295, own_lit_55296, own_lit_57343, own_lit_57344, own_lit_65533, own_lit_65534, own_lit_65535, own_lit_65536, own_lit_1114111] at hc1_1 hc7_2 hc13_3 hc19_4 hc25_11 hc37_12 hc43_15 hc49_16 hc55_17; unfold own_ch; first | (exfalso; omega) | rw [if_pos (by omega)] | rw [if_neg (by omega)], N0, rfl⟩) (by decide) (by decide)
              · -- false
                refine own_go (fun _ k => XS.icmpYes X0.here hx rfl (pc0 := 43) (pc' := 58) rfl (hb hby d2_43) rfl (flt hc43_15).2.2.2 (by decide) (by decide) <| XT.iconstV X0.here hx rfl (1 : Int32) (hb hby d2_58) rfl <| XS.goto X0.here hx rfl (pc0 := 59) (pc' := 63) rfl (hb hby d2_59) (by decide) (by decide) <| XS.istoreN X0.here hx rfl (hb hby d2_63) rfl (l' := #[.val (.int p1), .val (.int (1 : Int32))]) rfl <| XS.iloadN X0.here hx rfl (hb hby d2_64) rfl <| XS.ifYes X0.here hx rfl (pc0 := 65) (pc' := 72) rfl (hb hby d2_65) rfl ((if0 _ _).trans (feq (by decide)).2) (by decide) (by decide) <| XT.iconstV X0.here hx rfl (0 : Int32) (hb hby d2_72) rfl <| k) ?_
                show own_Ends p e below s _ _ _ (s₁.setTop (mkF m 73 #[.val (.int p1), .val (.int (1 : Int32))] [(.int (0 : Int32))]))
                exact own_retN X0 hx (t := .boolean) hrt (by simp) (hb hby d2_73) hlk (show nar .boolean (0 : Int32) = (0 : Int32) from by decide) (by rw [e0]; exact ⟨by simp only [Int32.lt_iff_toInt_lt, ← Int32.toInt_inj, own_lit_0, own_lit_1, own_lit_9, own_lit_10, own_lit_13, own_lit_32, own_lit_55295, own_lit_55296, own_lit_57343, own_lit_57344, own_lit_65533, own_lit_65534, own_lit_65535, own_lit_65536, own_lit_1114111] at hc1_1 hc7_2 hc13_3 hc19_4 hc25_11 hc37_12 hc43_15; unfold own_ch; first | (exfalso; omega) | rw [if_pos (by omega)] | rw [if_neg (by omega)], N0, rfl⟩) (by decide) (by decide)
          · -- false
            refine own_go (fun _ k => XS.icmpNo X0.here hx rfl (hb hby d2_25) rfl (feq hc25_11).1 <| XS.iloadN X0.here hx rfl (hb hby d2_28) rfl <| XT.bipushV X0.here hx rfl (13 : Int32) (hb hby d2_29) rfl <| k) ?_
            show own_Ends p e below s _ _ _ (s₁.setTop (mkF m 31 #[.val (.int p1), .unset] [(.int (13 : Int32)), (.int p1)]))
            by_cases hc31_18 : p1 = (13 : Int32)
            · -- true
              refine own_go (fun _ k => XS.icmpNo X0.here hx rfl (hb hby d2_31) rfl (teq hc31_18).2 <| XS.iloadN X0.here hx rfl (hb hby d2_34) rfl <| X0.ldcI hx hown (mvT hZ (hw _ (List.mem_of_getElem? (i := 2) rfl))) rfl (hb hby d2_35) <| k) ?_
              show own_Ends p e below s _ _ _ (s₁.setTop (mkF m 37 #[.val (.int p1), .unset] [(.int (55296 : Int32)), (.int p1)]))
              by_cases hc37_19 : p1 < (55296 : Int32)
              · -- true
                refine own_go (fun _ k => XS.icmpYes X0.here hx rfl (pc0 := 37) (pc' := 46) rfl (hb hby d2_37) rfl (tlt hc37_19).1 (by decide) (by decide) <| XS.iloadN X0.here hx rfl (hb hby d2_46) rfl <| X0.ldcI hx hown (mvT hZ (hw _ (List.mem_of_getElem? (i := 6) rfl))) rfl (hb hby d2_47) <| k) ?_
                show own_Ends p e below s _ _ _ (s₁.setTop (mkF m 49 #[.val (.int p1), .unset] [(.int (65534 : Int32)), (.int p1)]))
                by_cases hc49_20 : p1 = (65534 : Int32)
                · -- true
                  refine own_go (fun _ k => XS.icmpYes X0.here hx rfl (pc0 := 49) (pc' := 58) rfl (hb hby d2_49) rfl (teq hc49_20).1 (by decide) (by decide) <| XT.iconstV X0.here hx rfl (1 : Int32) (hb hby d2_58) rfl <| XS.goto X0.here hx rfl (pc0 := 59) (pc' := 63) rfl (hb hby d2_59) (by decide) (by decide) <| XS.istoreN X0.here hx rfl (hb hby d2_63) rfl (l' := #[.val (.int p1), .val (.int (1 : Int32))]) rfl <| XS.iloadN X0.here hx rfl (hb hby d2_64) rfl <| XS.ifYes X0.here hx rfl (pc0 := 65) (pc' := 72) rfl (hb hby d2_65) rfl ((if0 _ _).trans (feq (by decide)).2) (by decide) (by decide) <| XT.iconstV X0.here hx rfl (0 : Int32) (hb hby d2_72) rfl <| k) ?_
                  show own_Ends p e below s _ _ _ (s₁.setTop (mkF m 73 #[.val (.int p1), .val (.int (1 : Int32))] [(.int (0 : Int32))]))
                  exact own_retN X0 hx (t := .boolean) hrt (by simp) (hb hby d2_73) hlk (show nar .boolean (0 : Int32) = (0 : Int32) from by decide) (by rw [e0]; exact ⟨by simp only [Int32.lt_iff_toInt_lt, ← Int32.toInt_inj, own_lit_0, own_lit_1, own_lit_9, own_lit_10, own_lit_13, own_lit_32, own_lit_55295, own_lit_55296, own_lit_57343, own_lit_57344, own_lit_65533, own_lit_65534, own_lit_65535, own_lit_65536, own_lit_1114111] at hc1_1 hc7_2 hc13_3 hc19_4 hc25_11 hc31_18 hc37_19 hc49_20; unfold own_ch; first | (exfalso; omega) | rw [if_pos (by omega)] | rw [if_neg (by omega)], N0, rfl⟩) (by decide) (by decide)
                · -- false
                  refine own_go (fun _ k => XS.icmpNo X0.here hx rfl (hb hby d2_49) rfl (feq hc49_20).1 <| XS.iloadN X0.here hx rfl (hb hby d2_52) rfl <| X0.ldcI hx hown (mvT hZ (hw _ (List.mem_of_getElem? (i := 7) rfl))) rfl (hb hby d2_53) <| k) ?_
                  show own_Ends p e below s _ _ _ (s₁.setTop (mkF m 55 #[.val (.int p1), .unset] [(.int (65535 : Int32)), (.int p1)]))
                  by_cases hc55_21 : p1 = (65535 : Int32)
                  · -- true
                    refine own_go (fun _ k => XS.icmpNo X0.here hx rfl (hb hby d2_55) rfl (teq hc55_21).2 <| XT.iconstV X0.here hx rfl (1 : Int32) (hb hby d2_58) rfl <| XS.goto X0.here hx rfl (pc0 := 59) (pc' := 63) rfl (hb hby d2_59) (by decide) (by decide) <| XS.istoreN X0.here hx rfl (hb hby d2_63) rfl (l' := #[.val (.int p1), .val (.int (1 : Int32))]) rfl <| XS.iloadN X0.here hx rfl (hb hby d2_64) rfl <| XS.ifYes X0.here hx rfl (pc0 := 65) (pc' := 72) rfl (hb hby d2_65) rfl ((if0 _ _).trans (feq (by decide)).2) (by decide) (by decide) <| XT.iconstV X0.here hx rfl (0 : Int32) (hb hby d2_72) rfl <| k) ?_
                    show own_Ends p e below s _ _ _ (s₁.setTop (mkF m 73 #[.val (.int p1), .val (.int (1 : Int32))] [(.int (0 : Int32))]))
                    exact own_retN X0 hx (t := .boolean) hrt (by simp) (hb hby d2_73) hlk (show nar .boolean (0 : Int32) = (0 : Int32) from by decide) (by rw [e0]; exact ⟨by simp only [Int32.lt_iff_toInt_lt, ← Int32.toInt_inj, own_lit_0, own_lit_1, own_lit_9, own_lit_10, own_lit_13, own_lit_32, own_lit_55295, own_lit_55296, own_lit_57343, own_lit_57344, own_lit_65533, own_lit_65534, own_lit_65535, own_lit_65536, own_lit_1114111] at hc1_1 hc7_2 hc13_3 hc19_4 hc25_11 hc31_18 hc37_19 hc49_20 hc55_21; unfold own_ch; first | (exfalso; omega) | rw [if_pos (by omega)] | rw [if_neg (by omega)], N0, rfl⟩) (by decide) (by decide)
                  · -- false
                    refine own_go (fun _ k => XS.icmpYes X0.here hx rfl (pc0 := 55) (pc' := 62) rfl (hb hby d2_55) rfl (feq hc55_21).2 (by decide) (by decide) <| XT.iconstV X0.here hx rfl (0 : Int32) (hb hby d2_62) rfl <| XS.istoreN X0.here hx rfl (hb hby d2_63) rfl (l' := #[.val (.int p1), .val (.int (0 : Int32))]) rfl <| XS.iloadN X0.here hx rfl (hb hby d2_64) rfl <| XS.ifNo X0.here hx rfl (hb hby d2_65) rfl ((if0 _ _).trans (teq (by decide)).2) <| XT.iconstV X0.here hx rfl (1 : Int32) (hb hby d2_68) rfl <| XS.goto X0.here hx rfl (pc0 := 69) (pc' := 73) rfl (hb hby d2_69) (by decide) (by decide) <| k) ?_
                    show own_Ends p e below s _ _ _ (s₁.setTop (mkF m 73 #[.val (.int p1), .val (.int (0 : Int32))] [(.int (1 : Int32))]))
                    exact own_retN X0 hx (t := .boolean) hrt (by simp) (hb hby d2_73) hlk (show nar .boolean (1 : Int32) = (1 : Int32) from by decide) (by rw [e0]; exact ⟨by simp only [Int32.lt_iff_toInt_lt, ← Int32.toInt_inj, own_lit_0, own_lit_1, own_lit_9, own_lit_10, own_lit_13, own_lit_32, own_lit_55295, own_lit_55296, own_lit_57343, own_lit_57344, own_lit_65533, own_lit_65534, own_lit_65535, own_lit_65536, own_lit_1114111] at hc1_1 hc7_2 hc13_3 hc19_4 hc25_11 hc31_18 hc37_19 hc49_20 hc55_21; unfold own_ch; first | (exfalso; omega) | rw [if_pos (by omega)] | rw [if_neg (by omega)], N0, rfl⟩) (by decide) (by decide)
              · -- false
                refine own_go (fun _ k => XS.icmpNo X0.here hx rfl (hb hby d2_37) rfl (flt hc37_19).1 <| XS.iloadN X0.here hx rfl (hb hby d2_40) rfl <| X0.ldcI hx hown (mvT hZ (hw _ (List.mem_of_getElem? (i := 3) rfl))) rfl (hb hby d2_41) <| k) ?_
                show own_Ends p e below s _ _ _ (s₁.setTop (mkF m 43 #[.val (.int p1), .unset] [(.int (57343 : Int32)), (.int p1)]))
                by_cases hc43_22 : (57343 : Int32) < p1
                · -- true
                  refine own_go (fun _ k => XS.icmpNo X0.here hx rfl (hb hby d2_43) rfl (tlt hc43_22).2.2.2 <| XS.iloadN X0.here hx rfl (hb hby d2_46) rfl <| X0.ldcI hx hown (mvT hZ (hw _ (List.mem_of_getElem? (i := 6) rfl))) rfl (hb hby d2_47) <| k) ?_
                  show own_Ends p e below s _ _ _ (s₁.setTop (mkF m 49 #[.val (.int p1), .unset] [(.int (65534 : Int32)), (.int p1)]))
                  by_cases hc49_23 : p1 = (65534 : Int32)
                  · -- true
                    refine own_go (fun _ k => XS.icmpYes X0.here hx rfl (pc0 := 49) (pc' := 58) rfl (hb hby d2_49) rfl (teq hc49_23).1 (by decide) (by decide) <| XT.iconstV X0.here hx rfl (1 : Int32) (hb hby d2_58) rfl <| XS.goto X0.here hx rfl (pc0 := 59) (pc' := 63) rfl (hb hby d2_59) (by decide) (by decide) <| XS.istoreN X0.here hx rfl (hb hby d2_63) rfl (l' := #[.val (.int p1), .val (.int (1 : Int32))]) rfl <| XS.iloadN X0.here hx rfl (hb hby d2_64) rfl <| XS.ifYes X0.here hx rfl (pc0 := 65) (pc' := 72) rfl (hb hby d2_65) rfl ((if0 _ _).trans (feq (by decide)).2) (by decide) (by decide) <| XT.iconstV X0.here hx rfl (0 : Int32) (hb hby d2_72) rfl <| k) ?_
                    show own_Ends p e below s _ _ _ (s₁.setTop (mkF m 73 #[.val (.int p1), .val (.int (1 : Int32))] [(.int (0 : Int32))]))
                    exact own_retN X0 hx (t := .boolean) hrt (by simp) (hb hby d2_73) hlk (show nar .boolean (0 : Int32) = (0 : Int32) from by decide) (by rw [e0]; exact ⟨by simp only [Int32.lt_iff_toInt_lt, ← Int32.toInt_inj, own_lit_0, own_lit_1, own_lit_9, own_lit_10, own_lit_13, own_lit_32, own_lit_55295, own_lit_55296, own_lit_57343, own_lit_57344, own_lit_65533, own_lit_65534, own_lit_65535, own_lit_65536, own_lit_1114111] at hc1_1 hc7_2 hc13_3 hc19_4 hc25_11 hc31_18 hc37_19 hc43_22 hc49_23; unfold own_ch; first | (exfalso; omega) | rw [if_pos (by omega)] | rw [if_neg (by omega)], N0, rfl⟩) (by decide) (by decide)
                  · -- false
                    refine own_go (fun _ k => XS.icmpNo X0.here hx rfl (hb hby d2_49) rfl (feq hc49_23).1 <| XS.iloadN X0.here hx rfl (hb hby d2_52) rfl <| X0.ldcI hx hown (mvT hZ (hw _ (List.mem_of_getElem? (i := 7) rfl))) rfl (hb hby d2_53) <| k) ?_
                    show own_Ends p e below s _ _ _ (s₁.setTop (mkF m 55 #[.val (.int p1), .unset] [(.int (65535 : Int32)), (.int p1)]))
                    by_cases hc55_24 : p1 = (65535 : Int32)
                    · -- true
                      refine own_go (fun _ k => XS.icmpNo X0.here hx rfl (hb hby d2_55) rfl (teq hc55_24).2 <| XT.iconstV X0.here hx rfl (1 : Int32) (hb hby d2_58) rfl <| XS.goto X0.here hx rfl (pc0 := 59) (pc' := 63) rfl (hb hby d2_59) (by decide) (by decide) <| XS.istoreN X0.here hx rfl (hb hby d2_63) rfl (l' := #[.val (.int p1), .val (.int (1 : Int32))]) rfl <| XS.iloadN X0.here hx rfl (hb hby d2_64) rfl <| XS.ifYes X0.here hx rfl (pc0 := 65) (pc' := 72) rfl (hb hby d2_65) rfl ((if0 _ _).trans (feq (by decide)).2) (by decide) (by decide) <| XT.iconstV X0.here hx rfl (0 : Int32) (hb hby d2_72) rfl <| k) ?_
                      show own_Ends p e below s _ _ _ (s₁.setTop (mkF m 73 #[.val (.int p1), .val (.int (1 : Int32))] [(.int (0 : Int32))]))
                      exact own_retN X0 hx (t := .boolean) hrt (by simp) (hb hby d2_73) hlk (show nar .boolean (0 : Int32) = (0 : Int32) from by decide) (by rw [e0]; exact ⟨by simp only [Int32.lt_iff_toInt_lt, ← Int32.toInt_inj, own_lit_0, own_lit_1, own_lit_9, own_lit_10, own_lit_13, own_lit_32, own_lit_55295, own_lit_55296, own_lit_57343, own_lit_57344, own_lit_65533, own_lit_65534, own_lit_65535, own_lit_65536, own_lit_1114111] at hc1_1 hc7_2 hc13_3 hc19_4 hc25_11 hc31_18 hc37_19 hc43_22 hc49_23 hc55_24; unfold own_ch; first | (exfalso; omega) | rw [if_pos (by omega)] | rw [if_neg (by omega)], N0, rfl⟩) (by decide) (by decide)
                    · -- false
                      refine own_go (fun _ k => XS.icmpYes X0.here hx rfl (pc0 := 55) (pc' := 62) rfl (hb hby d2_55) rfl (feq hc55_24).2 (by decide) (by decide) <| XT.iconstV X0.here hx rfl (0 : Int32) (hb hby d2_62) rfl <| XS.istoreN X0.here hx rfl (hb hby d2_63) rfl (l' := #[.val (.int p1), .val (.int (0 : Int32))]) rfl <| XS.iloadN X0.here hx rfl (hb hby d2_64) rfl <| XS.ifNo X0.here hx rfl (hb hby d2_65) rfl ((if0 _ _).trans (teq (by decide)).2) <| XT.iconstV X0.here hx rfl (1 : Int32) (hb hby d2_68) rfl <| XS.goto X0.here hx rfl (pc0 := 69) (pc' := 73) rfl (hb hby d2_69) (by decide) (by decide) <| k) ?_
                      show own_Ends p e below s _ _ _ (s₁.setTop (mkF m 73 #[.val (.int p1), .val (.int (0 : Int32))] [(.int (1 : Int32))]))
                      exact own_retN X0 hx (t := .boolean) hrt (by simp) (hb hby d2_73) hlk (show nar .boolean (1 : Int32) = (1 : Int32) from by decide) (by rw [e0]; exact ⟨by simp only [Int32.lt_iff_toInt_lt, ← Int32.toInt_inj, own_lit_0, own_lit_1, own_lit_9, own_lit_10, own_lit_13, own_lit_32, own_lit_55295, own_lit_55296, own_lit_57343, own_lit_57344, own_lit_65533, own_lit_65534, own_lit_65535, own_lit_65536, own_lit_1114111] at hc1_1 hc7_2 hc13_3 hc19_4 hc25_11 hc31_18 hc37_19 hc43_22 hc49_23 hc55_24; unfold own_ch; first | (exfalso; omega) | rw [if_pos (by omega)] | rw [if_neg (by omega)], N0, rfl⟩) (by decide) (by decide)
                · -- false
                  refine own_go (fun _ k => XS.icmpYes X0.here hx rfl (pc0 := 43) (pc' := 58) rfl (hb hby d2_43) rfl (flt hc43_22).2.2.2 (by decide) (by decide) <| XT.iconstV X0.here hx rfl (1 : Int32) (hb hby d2_58) rfl <| XS.goto X0.here hx rfl (pc0 := 59) (pc' := 63) rfl (hb hby d2_59) (by decide) (by decide) <| XS.istoreN X0.here hx rfl (hb hby d2_63) rfl (l' := #[.val (.int p1), .val (.int (1 : Int32))]) rfl <| XS.iloadN X0.here hx rfl (hb hby d2_64) rfl <| XS.ifYes X0.here hx rfl (pc0 := 65) (pc' := 72) rfl (hb hby d2_65) rfl ((if0 _ _).trans (feq (by decide)).2) (by decide) (by decide) <| XT.iconstV X0.here hx rfl (0 : Int32) (hb hby d2_72) rfl <| k) ?_
                  show own_Ends p e below s _ _ _ (s₁.setTop (mkF m 73 #[.val (.int p1), .val (.int (1 : Int32))] [(.int (0 : Int32))]))
                  exact own_retN X0 hx (t := .boolean) hrt (by simp) (hb hby d2_73) hlk (show nar .boolean (0 : Int32) = (0 : Int32) from by decide) (by rw [e0]; exact ⟨by simp only [Int32.lt_iff_toInt_lt, ← Int32.toInt_inj, own_lit_0, own_lit_1, own_lit_9, own_lit_10, own_lit_13, own_lit_32, own_lit_55295, own_lit_55296, own_lit_57343, own_lit_57344, own_lit_65533, own_lit_65534, own_lit_65535, own_lit_65536, own_lit_1114111] at hc1_1 hc7_2 hc13_3 hc19_4 hc25_11 hc31_18 hc37_19 hc43_22; unfold own_ch; first | (exfalso; omega) | rw [if_pos (by omega)] | rw [if_neg (by omega)], N0, rfl⟩) (by decide) (by decide)
            · -- false
              refine own_go (fun _ k => XS.icmpYes X0.here hx rfl (pc0 := 31) (pc' := 58) rfl (hb hby d2_31) rfl (feq hc31_18).2 (by decide) (by decide) <| XT.iconstV X0.here hx rfl (1 : Int32) (hb hby d2_58) rfl <| XS.goto X0.here hx rfl (pc0 := 59) (pc' := 63) rfl (hb hby d2_59) (by decide) (by decide) <| XS.istoreN X0.here hx rfl (hb hby d2_63) rfl (l' := #[.val (.int p1), .val (.int (1 : Int32))]) rfl <| XS.iloadN X0.here hx rfl (hb hby d2_64) rfl <| XS.ifYes X0.here hx rfl (pc0 := 65) (pc' := 72) rfl (hb hby d2_65) rfl ((if0 _ _).trans (feq (by decide)).2) (by decide) (by decide) <| XT.iconstV X0.here hx rfl (0 : Int32) (hb hby d2_72) rfl <| k) ?_
              show own_Ends p e below s _ _ _ (s₁.setTop (mkF m 73 #[.val (.int p1), .val (.int (1 : Int32))] [(.int (0 : Int32))]))
              exact own_retN X0 hx (t := .boolean) hrt (by simp) (hb hby d2_73) hlk (show nar .boolean (0 : Int32) = (0 : Int32) from by decide) (by rw [e0]; exact ⟨by simp only [Int32.lt_iff_toInt_lt, ← Int32.toInt_inj, own_lit_0, own_lit_1, own_lit_9, own_lit_10, own_lit_13, own_lit_32, own_lit_55295, own_lit_55296, own_lit_57343, own_lit_57344, own_lit_65533, own_lit_65534, own_lit_65535, own_lit_65536, own_lit_1114111] at hc1_1 hc7_2 hc13_3 hc19_4 hc25_11 hc31_18; unfold own_ch; first | (exfalso; omega) | rw [if_pos (by omega)] | rw [if_neg (by omega)], N0, rfl⟩) (by decide) (by decide)
      · -- false
        refine own_go (fun _ k => XS.icmpYes X0.here hx rfl (pc0 := 13) (pc' := 34) rfl (hb hby d2_13) rfl (flt hc13_3).2.1 (by decide) (by decide) <| XS.iloadN X0.here hx rfl (hb hby d2_34) rfl <| X0.ldcI hx hown (mvT hZ (hw _ (List.mem_of_getElem? (i := 2) rfl))) rfl (hb hby d2_35) <| k) ?_
        show own_Ends p e below s _ _ _ (s₁.setTop (mkF m 37 #[.val (.int p1), .unset] [(.int (55296 : Int32)), (.int p1)]))
        by_cases hc37_25 : p1 < (55296 : Int32)
        · -- true
          refine own_go (fun _ k => XS.icmpYes X0.here hx rfl (pc0 := 37) (pc' := 46) rfl (hb hby d2_37) rfl (tlt hc37_25).1 (by decide) (by decide) <| XS.iloadN X0.here hx rfl (hb hby d2_46) rfl <| X0.ldcI hx hown (mvT hZ (hw _ (List.mem_of_getElem? (i := 6) rfl))) rfl (hb hby d2_47) <| k) ?_
          show own_Ends p e below s _ _ _ (s₁.setTop (mkF m 49 #[.val (.int p1), .unset] [(.int (65534 : Int32)), (.int p1)]))
          by_cases hc49_26 : p1 = (65534 : Int32)
          · -- true
            refine own_go (fun _ k => XS.icmpYes X0.here hx rfl (pc0 := 49) (pc' := 58) rfl (hb hby d2_49) rfl (teq hc49_26).1 (by decide) (by decide) <| XT.iconstV X0.here hx rfl (1 : Int32) (hb hby d2_58) rfl <| XS.goto X0.here hx rfl (pc0 := 59) (pc' := 63) rfl (hb hby d2_59) (by decide) (by decide) <| XS.istoreN X0.here hx rfl (hb hby d2_63) rfl (l' := #[.val (.int p1), .val (.int (1 : Int32))]) rfl <| XS.iloadN X0.here hx rfl (hb hby d2_64) rfl <| XS.ifYes X0.here hx rfl (pc0 := 65) (pc' := 72) rfl (hb hby d2_65) rfl ((if0 _ _).trans (feq (by decide)).2) (by decide) (by decide) <| XT.iconstV X0.here hx rfl (0 : Int32) (hb hby d2_72) rfl <| k) ?_
            show own_Ends p e below s _ _ _ (s₁.setTop (mkF m 73 #[.val (.int p1), .val (.int (1 : Int32))] [(.int (0 : Int32))]))
            exact own_retN X0 hx (t := .boolean) hrt (by simp) (hb hby d2_73) hlk (show nar .boolean (0 : Int32) = (0 : Int32) from by decide) (by rw [e0]; exact ⟨by simp only [Int32.lt_iff_toInt_lt, ← Int32.toInt_inj, own_lit_0, own_lit_1, own_lit_9, own_lit_10, own_lit_13, own_lit_32, own_lit_55295, own_lit_55296, own_lit_57343, own_lit_57344, own_lit_65533, own_lit_65534, own_lit_65535, own_lit_65536, own_lit_1114111] at hc1_1 hc7_2 hc13_3 hc37_25 hc49_26; unfold own_ch; first | (exfalso; omega) | rw [if_pos (by omega)] | rw [if_neg (by omega)], N0, rfl⟩) (by decide) (by decide)
          · -- false
            refine own_go (fun _ k => XS.icmpNo X0.here hx rfl (hb hby d2_49) rfl (feq hc49_26).1 <| XS.iloadN X0.here hx rfl (hb hby d2_52) rfl <| X0.ldcI hx hown (mvT hZ (hw _ (List.mem_of_getElem? (i := 7) rfl))) rfl (hb hby d2_53) <| k) ?_
            show own_Ends p e below s _ _ _ (s₁.setTop (mkF m 55 #[.val (.int p1), .unset] [(.int (65535 : Int32)), (.int p1)]))
            by_cases hc55_27 : p1 = (65535 : Int32)
            · -- true
              refine own_go (fun _ k => XS.icmpNo X0.here hx rfl (hb hby d2_55) rfl (teq hc55_27).2 <| XT.iconstV X0.here hx rfl (1 : Int32) (hb hby d2_58) rfl <| XS.goto X0.here hx rfl (pc0 := 59) (pc' := 63) rfl (hb hby d2_59) (by decide) (by decide) <| XS.istoreN X0.here hx rfl (hb hby d2_63) rfl (l' := #[.val (.int p1), .val (.int (1 : Int32))]) rfl <| XS.iloadN X0.here hx rfl (hb hby d2_64) rfl <| XS.ifYes X0.here hx rfl (pc0 := 65) (pc' := 72) rfl (hb hby d2_65) rfl ((if0 _ _).trans (feq (by decide)).2) (by decide) (by decide) <| XT.iconstV X0.here hx rfl (0 : Int32) (hb hby d2_72) rfl <| k) ?_
              show own_Ends p e below s _ _ _ (s₁.setTop (mkF m 73 #[.val (.int p1), .val (.int (1 : Int32))] [(.int (0 : Int32))]))
              exact own_retN X0 hx (t := .boolean) hrt (by simp) (hb hby d2_73) hlk (show nar .boolean (0 : Int32) = (0 : Int32) from by decide) (by rw [e0]; exact ⟨by simp only [Int32.lt_iff_toInt_lt, ← Int32.toInt_inj, own_lit_0, own_lit_1, own_lit_9, own_lit_10, own_lit_13, own_lit_32, own_lit_55295, own_lit_55296, own_lit_57343, own_lit_57344, own_lit_65533, own_lit_65534, own_lit_65535, own_lit_65536, own_lit_1114111] at hc1_1 hc7_2 hc13_3 hc37_25 hc49_26 hc55_27; unfold own_ch; first | (exfalso; omega) | rw [if_pos (by omega)] | rw [if_neg (by omega)], N0, rfl⟩) (by decide) (by decide)
            · -- false
              refine own_go (fun _ k => XS.icmpYes X0.here hx rfl (pc0 := 55) (pc' := 62) rfl (hb hby d2_55) rfl (feq hc55_27).2 (by decide) (by decide) <| XT.iconstV X0.here hx rfl (0 : Int32) (hb hby d2_62) rfl <| XS.istoreN X0.here hx rfl (hb hby d2_63) rfl (l' := #[.val (.int p1), .val (.int (0 : Int32))]) rfl <| XS.iloadN X0.here hx rfl (hb hby d2_64) rfl <| XS.ifNo X0.here hx rfl (hb hby d2_65) rfl ((if0 _ _).trans (teq (by decide)).2) <| XT.iconstV X0.here hx rfl (1 : Int32) (hb hby d2_68) rfl <| XS.goto X0.here hx rfl (pc0 := 69) (pc' := 73) rfl (hb hby d2_69) (by decide) (by decide) <| k) ?_
              show own_Ends p e below s _ _ _ (s₁.setTop (mkF m 73 #[.val (.int p1), .val (.int (0 : Int32))] [(.int (1 : Int32))]))
              exact own_retN X0 hx (t := .boolean) hrt (by simp) (hb hby d2_73) hlk (show nar .boolean (1 : Int32) = (1 : Int32) from by decide) (by rw [e0]; exact ⟨by simp only [Int32.lt_iff_toInt_lt, ← Int32.toInt_inj, own_lit_0, own_lit_1, own_lit_9, own_lit_10, own_lit_13, own_lit_32, own_lit_55295, own_lit_55296, own_lit_57343, own_lit_57344, own_lit_65533, own_lit_65534, own_lit_65535, own_lit_65536, own_lit_1114111] at hc1_1 hc7_2 hc13_3 hc37_25 hc49_26 hc55_27; unfold own_ch; first | (exfalso; omega) | rw [if_pos (by omega)] | rw [if_neg (by omega)], N0, rfl⟩) (by decide) (by decide)
        · -- false
          refine own_go (fun _ k => XS.icmpNo X0.here hx rfl (hb hby d2_37) rfl (flt hc37_25).1 <| XS.iloadN X0.here hx rfl (hb hby d2_40) rfl <| X0.ldcI hx hown (mvT hZ (hw _ (List.mem_of_getElem? (i := 3) rfl))) rfl (hb hby d2_41) <| k) ?_
          show own_Ends p e below s _ _ _ (s₁.setTop (mkF m 43 #[.val (.int p1), .unset] [(.int (57343 : Int32)), (.int p1)]))
          by_cases hc43_28 : (57343 : Int32) < p1
          · -- true
            refine own_go (fun _ k => XS.icmpNo X0.here hx rfl (hb hby d2_43) rfl (tlt hc43_28).2.2.2 <| XS.iloadN X0.here hx rfl (hb hby d2_46) rfl <| X0.ldcI hx hown (mvT hZ (hw _ (List.mem_of_getElem? (i := 6) rfl))) rfl (hb hby d2_47) <| k) ?_
            show own_Ends p e below s _ _ _ (s₁.setTop (mkF m 49 #[.val (.int p1), .unset] [(.int (65534 : Int32)), (.int p1)]))
            by_cases hc49_29 : p1 = (65534 : Int32)
            · -- true
              refine own_go (fun _ k => XS.icmpYes X0.here hx rfl (pc0 := 49) (pc' := 58) rfl (hb hby d2_49) rfl (teq hc49_29).1 (by decide) (by decide) <| XT.iconstV X0.here hx rfl (1 : Int32) (hb hby d2_58) rfl <| XS.goto X0.here hx rfl (pc0 := 59) (pc' := 63) rfl (hb hby d2_59) (by decide) (by decide) <| XS.istoreN X0.here hx rfl (hb hby d2_63) rfl (l' := #[.val (.int p1), .val (.int (1 : Int32))]) rfl <| XS.iloadN X0.here hx rfl (hb hby d2_64) rfl <| XS.ifYes X0.here hx rfl (pc0 := 65) (pc' := 72) rfl (hb hby d2_65) rfl ((if0 _ _).trans (feq (by decide)).2) (by decide) (by decide) <| XT.iconstV X0.here hx rfl (0 : Int32) (hb hby d2_72) rfl <| k) ?_
              show own_Ends p e below s _ _ _ (s₁.setTop (mkF m 73 #[.val (.int p1), .val (.int (1 : Int32))] [(.int (0 : Int32))]))
              exact own_retN X0 hx (t := .boolean) hrt (by simp) (hb hby d2_73) hlk (show nar .boolean (0 : Int32) = (0 : Int32) from by decide) (by rw [e0]; exact ⟨by simp only [Int32.lt_iff_toInt_lt, ← Int32.toInt_inj, own_lit_0, own_lit_1, own_lit_9, own_lit_10, own_lit_13, own_lit_32, own_lit_55295, own_lit_55296, own_lit_57343, own_lit_57344, own_lit_65533, own_lit_65534, own_lit_65535, own_lit_65536, own_lit_1114111] at hc1_1 hc7_2 hc13_3 hc37_25 hc43_28 hc49_29; unfold own_ch; first | (exfalso; omega) | rw [if_pos (by omega)] | rw [if_neg (by omega)], N0, rfl⟩) (by decide) (by decide)
            · -- false
              refine own_go (fun _ k => XS.icmpNo X0.here hx rfl (hb hby d2_49) rfl (feq hc49_29).1 <| XS.iloadN X0.here hx rfl (hb hby d2_52) rfl <| X0.ldcI hx hown (mvT hZ (hw _ (List.mem_of_getElem? (i := 7) rfl))) rfl (hb hby d2_53) <| k) ?_
              show own_Ends p e below s _ _ _ (s₁.setTop (mkF m 55 #[.val (.int p1), .unset] [(.int (65535 : Int32)), (.int p1)]))
              by_cases hc55_30 : p1 = (65535 : Int32)
              · -- true
                refine own_go (fun _ k => XS.icmpNo X0.here hx rfl (hb hby d2_55) rfl (teq hc55_30).2 <| XT.iconstV X0.here hx rfl (1 : Int32) (hb hby d2_58) rfl <| XS.goto X0.here hx rfl (pc0 := 59) (pc' := 63) rfl (hb hby d2_59) (by decide) (by decide) <| XS.istoreN X0.here hx rfl (hb hby d2_63) rfl (l' := #[.val (.int p1), .val (.int (1 : Int32))]) rfl <| XS.iloadN X0.here hx rfl (hb hby d2_64) rfl <| XS.ifYes X0.here hx rfl (pc0 := 65) (pc' := 72) rfl (hb hby d2_65) rfl ((if0 _ _).trans (feq (by decide)).2) (by decide) (by decide) <| XT.iconstV X0.here hx rfl (0 : Int32) (hb hby d2_72) rfl <| k) ?_
                show own_Ends p e below s _ _ _ (s₁.setTop (mkF m 73 #[.val (.int p1), .val (.int (1 : Int32))] [(.int (0 : Int32))]))
                exact own_retN X0 hx (t := .boolean) hrt (by simp) (hb hby d2_73) hlk (show nar .boolean (0 : Int32) = (0 : Int32) from by decide) (by rw [e0]; exact ⟨by simp only [Int32.lt_iff_toInt_lt, ← Int32.toInt_inj, own_lit_0, own_lit_1, own_lit_9, own_lit_10, own_lit_13, own_lit_32, own_lit_55295, own_lit_55296, own_lit_57343, own_lit_57344, own_lit_65533, own_lit_65534, own_lit_65535, own_lit_65536, own_lit_1114111] at hc1_1 hc7_2 hc13_3 hc37_25 hc43_28 hc49_29 hc55_30; unfold own_ch; first | (exfalso; omega) | rw [if_pos (by omega)] | rw [if_neg (by omega)], N0, rfl⟩) (by decide) (by decide)
              · -- false
                refine own_go (fun _ k => XS.icmpYes X0.here hx rfl (pc0 := 55) (pc' := 62) rfl (hb hby d2_55) rfl (feq hc55_30).2 (by decide) (by decide) <| XT.iconstV X0.here hx rfl (0 : Int32) (hb hby d2_62) rfl <| XS.istoreN X0.here hx rfl (hb hby d2_63) rfl (l' := #[.val (.int p1), .val (.int (0 : Int32))]) rfl <| XS.iloadN X0.here hx rfl (hb hby d2_64) rfl <| XS.ifNo X0.here hx rfl (hb hby d2_65) rfl ((if0 _ _).trans (teq (by decide)).2) <| XT.iconstV X0.here hx rfl (1 : Int32) (hb hby d2_68) rfl <| XS.goto X0.here hx rfl (pc0 := 69) (pc' := 73) rfl (hb hby d2_69) (by decide) (by decide) <| k) ?_
                show own_Ends p e below s _ _ _ (s₁.setTop (mkF m 73 #[.val (.int p1), .val (.int (0 : Int32))] [(.int (1 : Int32))]))
                exact own_retN X0 hx (t := .boolean) hrt (by simp) (hb hby d2_73) hlk (show nar .boolean (1 : Int32) = (1 : Int32) from by decide) (by rw [e0]; exact ⟨by simp only [Int32.lt_iff_toInt_lt, ← Int32.toInt_inj, own_lit_0, own_lit_1, own_lit_9, own_lit_10, own_lit_13, own_lit_32, own_lit_55295, own_lit_55296, own_lit_57343, own_lit_57344, own_lit_65533, own_lit_65534, own_lit_65535, own_lit_65536, own_lit_1114111] at hc1_1 hc7_2 hc13_3 hc37_25 hc43_28 hc49_29 hc55_30; unfold own_ch; first | (exfalso; omega) | rw [if_pos (by omega)] | rw [if_neg (by omega)], N0, rfl⟩) (by decide) (by decide)
          · -- false
            refine own_go (fun _ k => XS.icmpYes X0.here hx rfl (pc0 := 43) (pc' := 58) rfl (hb hby d2_43) rfl (flt hc43_28).2.2.2 (by decide) (by decide) <| XT.iconstV X0.here hx rfl (1 : Int32) (hb hby d2_58) rfl <| XS.goto X0.here hx rfl (pc0 := 59) (pc' := 63) rfl (hb hby d2_59) (by decide) (by decide) <| XS.istoreN X0.here hx rfl (hb hby d2_63) rfl (l' := #[.val (.int p1), .val (.int (1 : Int32))]) rfl <| XS.iloadN X0.here hx rfl (hb hby d2_64) rfl <| XS.ifYes X0.here hx rfl (pc0 := 65) (pc' := 72) rfl (hb hby d2_65) rfl ((if0 _ _).trans (feq (by decide)).2) (by decide) (by decide) <| XT.iconstV X0.here hx rfl (0 : Int32) (hb hby d2_72) rfl <| k) ?_
            show own_Ends p e below s _ _ _ (s₁.setTop (mkF m 73 #[.val (.int p1), .val (.int (1 : Int32))] [(.int (0 : Int32))]))
            exact own_retN X0 hx (t := .boolean) hrt (by simp) (hb hby d2_73) hlk (show nar .boolean (0 : Int32) = (0 : Int32) from by decide) (by rw [e0]; exact ⟨by simp only [Int32.lt_iff_toInt_lt, ← Int32.toInt_inj, own_lit_0, own_lit_1, own_lit_9, own_lit_10, own_lit_13, own_lit_32, own_lit_55295, own_lit_55296, own_lit_57343, own_lit_57344, own_lit_65533, own_lit_65534, own_lit_65535, own_lit_65536, own_lit_1114111] at hc1_1 hc7_2 hc13_3 hc37_25 hc43_28; unfold own_ch; first | (exfalso; omega) | rw [if_pos (by omega)] | rw [if_neg (by omega)], N0, rfl⟩) (by decide) (by decide)
theorem ef_0 (m : MethodId) (x0 : Int32) (x1 : Int32) (x2 : Int32) : entryFrame m #[(.int x0), (.int x1), (.int x2)] maxLocals = mkF m 0 #[.val (.int x0), .val (.int x1), .val (.int x2), .unset, .unset, .unset, .unset, .unset] [] := by first | (simp [entryFrame, mkF, argsToLocals, Value.category, maxLocals]; done) | rfl
def Q0 (p1 : Int32) (p2 : Int32) (p3 : Int32) (h0 : Heap) (n0 : Nat) (Z : State) (v : Option Value) (h : Heap) (L : List Loc) : Prop := v = some (.int 1) ∧ Fr n0 L
set_option maxRecDepth 65536 in
set_option maxHeartbeats 40000000 in
theorem rm0 (l : Launch) (Z : State) (a0 : Array Value) (hw : ∀ d ∈ tables_1, d.before a0 Z = true) (ws : List Jvm.Cond) (p1 : Int32) (p2 : Int32) (p3 : Int32) (h0 : Heap) (n0 : Nat) (Z0 : n0 ≤ h0.size) :
    MetFree l x (head1 (Jvm.Cond.code x code maxLocals ret :: ws) room_1) (fun a U => a = #[(.int p1), (.int p2), (.int p3)] ∧ Z.Warmed39 U.vm ∧ U.heap = h0) (fun _ _ _ _ _ => True) (fun _ U o U' => ∃ v L, o = .returned v ∧ Q0 p1 p2 p3 h0 n0 Z v U'.heap L ∧ FrameEnd U o U' L room_1.cells room_1.slots) := by
  refine MetFree.of_bodySF (plainFor_of_name pn_1) hisR ?_
  intro p e s m args below meth c s₁ Bd hml0 hP hK
  obtain ⟨rfl, hZ, hh⟩ := hP
  have hx := Bd.exec
  have hby := Bd.bytes
  have hml : c.maxLocals = 8 := hml0
  have hown : s.vm.findClass "com/example/pagra/pagra/core/XmlDocumentsIsCharacterPinLaw" = some m.cls := findClass_of_methodNamed Bd.named
  have hnm := (name_of_methodNamed Bd.named Bd.method).1
  have hlk := Bd.notSynchronized
  have hrt := Bd.returns
  have X0 : Stand p l e room_1 s m #[(.int p1), (.int p2), (.int p3)] below meth c s₁ [] 0 0 := Stand.of_body Bd
  have e0 : s₁.heap = h0 := by rw [← hh, Bd.state]; rfl
  have N0 := Fr.nil n0
  show own_Ends p e below s (Q0 p1 p2 p3 h0 n0 Z) room_1.cells room_1.slots (s₁.setTop (entryFrame m #[(.int p1), (.int p2), (.int p3)] maxLocals))
  rw [ef_0]
  refine own_go (fun _ k => XT.bipushV X0.here hx rfl (16 : Int32) (hb hby at_0) rfl <| k) ?_
  show own_Ends p e below s _ _ _ (s₁.setTop (mkF m 2 #[.val (.int p1), .val (.int p2), .val (.int p3), .unset, .unset, .unset, .unset, .unset] [(.int (16 : Int32))]))
  obtain ⟨T1, h1, k1, X1, e1, E1, A1, st1⟩ := newP X0 hx hZ (hw _ (List.mem_of_getElem? (i := 0) rfl)) e0 (g := (mkF m 2 #[.val (.int p1), .val (.int p2), .val (.int p3), .unset, .unset, .unset, .unset, .unset] [(.int (16 : Int32))])) rfl (hb hby at_2) rfl (by decide) (cap := 16) (by decide) (by decide) (by decide) (by decide)
  obtain ⟨b1, g1⟩ : ∃ z, z = h0.size := ⟨_, rfl⟩
  rw [← g1] at A1 st1
  refine own_go st1 ?_
  have g_b1 : n0 ≤ b1 := Nat.le_trans Z0 (Nat.le_of_eq g1.symm)
  have Z1 := Nat.le_trans Z0 E1.1
  have V_b1 : Arv Z h1 b1 k1 .int (16 : Int32) [(.int (0 : Int32)), (.int (0 : Int32)), (.int (0 : Int32)), (.int (0 : Int32)), (.int (0 : Int32)), (.int (0 : Int32)), (.int (0 : Int32)), (.int (0 : Int32)), (.int (0 : Int32)), (.int (0 : Int32)), (.int (0 : Int32)), (.int (0 : Int32)), (.int (0 : Int32)), (.int (0 : Int32)), (.int (0 : Int32)), (.int (0 : Int32))] (.int (0 : Int32)) := (Arv.new A1 (by decide)).pad (pad_rep [] (.int (0 : Int32)) 16)
  show own_Ends p e below s _ _ _ (T1.setTop (mkF m 4 #[.val (.int p1), .val (.int p2), .val (.int p3), .unset, .unset, .unset, .unset, .unset] [(.ref b1)]))
  refine own_go (fun _ k => XS.dup X1.here hx rfl (hb hby at_4) rfl rfl <| XT.iconstV X1.here hx rfl (0 : Int32) (hb hby at_5) rfl <| XT.iconstV X1.here hx rfl (0 : Int32) (hb hby at_6) rfl <| k) ?_
  show own_Ends p e below s _ _ _ (T1.setTop (mkF m 7 #[.val (.int p1), .val (.int p2), .val (.int p3), .unset, .unset, .unset, .unset, .unset] [(.int (0 : Int32)), (.int (0 : Int32)), (.ref b1), (.ref b1)]))
  obtain ⟨clb1_7_2, Arb1_7_2, qqb1_7_2, Szb1_7_2, Ngb1_7_2, Hsb1_7_2, Gfb1_7_2⟩ := id V_b1
  have hinb1_7_2 : ¬ ((0 : Int32) < 0 ∨ clb1_7_2.slots.size ≤ ((0 : Int32)).toNatClampNeg) := inb_of Szb1_7_2 ⟨by decide, by decide⟩
  obtain ⟨T3, h3, X3, e3, W3, st3⟩ := stI X1 hx hZ e1 Arb1_7_2 (j := (0 : Int32)) hinb1_7_2 (g := (mkF m 7 #[.val (.int p1), .val (.int p2), .val (.int p3), .unset, .unset, .unset, .unset, .unset] [(.int (0 : Int32)), (.int (0 : Int32)), (.ref b1), (.ref b1)])) rfl rfl (hb hby at_7)
  refine own_go st3 ?_
  have Z3 := Nat.le_trans Z1 (Keep.of_wr W3).1
  have N3 := Fr.snoc X3 N0 g_b1
  have V_b1'3 : Arv Z h3 b1 k1 .int (16 : Int32) [(.int (0 : Int32)), (.int (0 : Int32)), (.int (0 : Int32)), (.int (0 : Int32)), (.int (0 : Int32)), (.int (0 : Int32)), (.int (0 : Int32)), (.int (0 : Int32)), (.int (0 : Int32)), (.int (0 : Int32)), (.int (0 : Int32)), (.int (0 : Int32)), (.int (0 : Int32)), (.int (0 : Int32)), (.int (0 : Int32)), (.int (0 : Int32))] (.int (0 : Int32)) := Arv.set Arb1_7_2 qqb1_7_2 Szb1_7_2 Ngb1_7_2 Hsb1_7_2 Gfb1_7_2 rfl W3 0 rfl (Nat.le_of_ble_eq_true rfl)
  show own_Ends p e below s _ _ _ (T3.setTop (mkF m 8 #[.val (.int p1), .val (.int p2), .val (.int p3), .unset, .unset, .unset, .unset, .unset] [(.ref b1)]))
  refine own_go (fun _ k => XS.dup X3.here hx rfl (hb hby at_8) rfl rfl <| XT.iconstV X3.here hx rfl (1 : Int32) (hb hby at_9) rfl <| XT.bipushV X3.here hx rfl (9 : Int32) (hb hby at_10) rfl <| k) ?_
  show own_Ends p e below s _ _ _ (T3.setTop (mkF m 12 #[.val (.int p1), .val (.int p2), .val (.int p3), .unset, .unset, .unset, .unset, .unset] [(.int (9 : Int32)), (.int (1 : Int32)), (.ref b1), (.ref b1)]))
  obtain ⟨clb1_12_4, Arb1_12_4, qqb1_12_4, Szb1_12_4, Ngb1_12_4, Hsb1_12_4, Gfb1_12_4⟩ := id V_b1'3
  have hinb1_12_4 : ¬ ((1 : Int32) < 0 ∨ clb1_12_4.slots.size ≤ ((1 : Int32)).toNatClampNeg) := inb_of Szb1_12_4 ⟨by decide, by decide⟩
  obtain ⟨T5, h5, X5, e5, W5, st5⟩ := stI X3 hx hZ e3 Arb1_12_4 (j := (1 : Int32)) hinb1_12_4 (g := (mkF m 12 #[.val (.int p1), .val (.int p2), .val (.int p3), .unset, .unset, .unset, .unset, .unset] [(.int (9 : Int32)), (.int (1 : Int32)), (.ref b1), (.ref b1)])) rfl rfl (hb hby at_12)
  refine own_go st5 ?_
  have Z5 := Nat.le_trans Z3 (Keep.of_wr W5).1
  have N5 := Fr.snoc X5 N3 g_b1
  have V_b1'5 : Arv Z h5 b1 k1 .int (16 : Int32) [(.int (0 : Int32)), (.int (9 : Int32)), (.int (0 : Int32)), (.int (0 : Int32)), (.int (0 : Int32)), (.int (0 : Int32)), (.int (0 : Int32)), (.int (0 : Int32)), (.int (0 : Int32)), (.int (0 : Int32)), (.int (0 : Int32)), (.int (0 : Int32)), (.int (0 : Int32)), (.int (0 : Int32)), (.int (0 : Int32)), (.int (0 : Int32))] (.int (0 : Int32)) := Arv.set Arb1_12_4 qqb1_12_4 Szb1_12_4 Ngb1_12_4 Hsb1_12_4 Gfb1_12_4 rfl W5 1 rfl (Nat.le_of_ble_eq_true rfl)
  show own_Ends p e below s _ _ _ (T5.setTop (mkF m 13 #[.val (.int p1), .val (.int p2), .val (.int p3), .unset, .unset, .unset, .unset, .unset] [(.ref b1)]))
  refine own_go (fun _ k => XS.dup X5.here hx rfl (hb hby at_13) rfl rfl <| XT.iconstV X5.here hx rfl (2 : Int32) (hb hby at_14) rfl <| XT.bipushV X5.here hx rfl (10 : Int32) (hb hby at_15) rfl <| k) ?_
  show own_Ends p e below s _ _ _ (T5.setTop (mkF m 17 #[.val (.int p1), .val (.int p2), .val (.int p3), .unset, .unset, .unset, .unset, .unset] [(.int (10 : Int32)), (.int (2 : Int32)), (.ref b1), (.ref b1)]))
  obtain ⟨clb1_17_6, Arb1_17_6, qqb1_17_6, Szb1_17_6, Ngb1_17_6, Hsb1_17_6, Gfb1_17_6⟩ := id V_b1'5
  have hinb1_17_6 : ¬ ((2 : Int32) < 0 ∨ clb1_17_6.slots.size ≤ ((2 : Int32)).toNatClampNeg) := inb_of Szb1_17_6 ⟨by decide, by decide⟩
  obtain ⟨T7, h7, X7, e7, W7, st7⟩ := stI X5 hx hZ e5 Arb1_17_6 (j := (2 : Int32)) hinb1_17_6 (g := (mkF m 17 #[.val (.int p1), .val (.int p2), .val (.int p3), .unset, .unset, .unset, .unset, .unset] [(.int (10 : Int32)), (.int (2 : Int32)), (.ref b1), (.ref b1)])) rfl rfl (hb hby at_17)
  refine own_go st7 ?_
  have Z7 := Nat.le_trans Z5 (Keep.of_wr W7).1
  have N7 := Fr.snoc X7 N5 g_b1
  have V_b1'7 : Arv Z h7 b1 k1 .int (16 : Int32) [(.int (0 : Int32)), (.int (9 : Int32)), (.int (10 : Int32)), (.int (0 : Int32)), (.int (0 : Int32)), (.int (0 : Int32)), (.int (0 : Int32)), (.int (0 : Int32)), (.int (0 : Int32)), (.int (0 : Int32)), (.int (0 : Int32)), (.int (0 : Int32)), (.int (0 : Int32)), (.int (0 : Int32)), (.int (0 : Int32)), (.int (0 : Int32))] (.int (0 : Int32)) := Arv.set Arb1_17_6 qqb1_17_6 Szb1_17_6 Ngb1_17_6 Hsb1_17_6 Gfb1_17_6 rfl W7 2 rfl (Nat.le_of_ble_eq_true rfl)
  show own_Ends p e below s _ _ _ (T7.setTop (mkF m 18 #[.val (.int p1), .val (.int p2), .val (.int p3), .unset, .unset, .unset, .unset, .unset] [(.ref b1)]))
  refine own_go (fun _ k => XS.dup X7.here hx rfl (hb hby at_18) rfl rfl <| XT.iconstV X7.here hx rfl (3 : Int32) (hb hby at_19) rfl <| XT.bipushV X7.here hx rfl (13 : Int32) (hb hby at_20) rfl <| k) ?_
  show own_Ends p e below s _ _ _ (T7.setTop (mkF m 22 #[.val (.int p1), .val (.int p2), .val (.int p3), .unset, .unset, .unset, .unset, .unset] [(.int (13 : Int32)), (.int (3 : Int32)), (.ref b1), (.ref b1)]))
  obtain ⟨clb1_22_8, Arb1_22_8, qqb1_22_8, Szb1_22_8, Ngb1_22_8, Hsb1_22_8, Gfb1_22_8⟩ := id V_b1'7
  have hinb1_22_8 : ¬ ((3 : Int32) < 0 ∨ clb1_22_8.slots.size ≤ ((3 : Int32)).toNatClampNeg) := inb_of Szb1_22_8 ⟨by decide, by decide⟩
  obtain ⟨T9, h9, X9, e9, W9, st9⟩ := stI X7 hx hZ e7 Arb1_22_8 (j := (3 : Int32)) hinb1_22_8 (g := (mkF m 22 #[.val (.int p1), .val (.int p2), .val (.int p3), .unset, .unset, .unset, .unset, .unset] [(.int (13 : Int32)), (.int (3 : Int32)), (.ref b1), (.ref b1)])) rfl rfl (hb hby at_22)
  refine own_go st9 ?_
  have Z9 := Nat.le_trans Z7 (Keep.of_wr W9).1
  have N9 := Fr.snoc X9 N7 g_b1
  have V_b1'9 : Arv Z h9 b1 k1 .int (16 : Int32) [(.int (0 : Int32)), (.int (9 : Int32)), (.int (10 : Int32)), (.int (13 : Int32)), (.int (0 : Int32)), (.int (0 : Int32)), (.int (0 : Int32)), (.int (0 : Int32)), (.int (0 : Int32)), (.int (0 : Int32)), (.int (0 : Int32)), (.int (0 : Int32)), (.int (0 : Int32)), (.int (0 : Int32)), (.int (0 : Int32)), (.int (0 : Int32))] (.int (0 : Int32)) := Arv.set Arb1_22_8 qqb1_22_8 Szb1_22_8 Ngb1_22_8 Hsb1_22_8 Gfb1_22_8 rfl W9 3 rfl (Nat.le_of_ble_eq_true rfl)
  show own_Ends p e below s _ _ _ (T9.setTop (mkF m 23 #[.val (.int p1), .val (.int p2), .val (.int p3), .unset, .unset, .unset, .unset, .unset] [(.ref b1)]))
  refine own_go (fun _ k => XS.dup X9.here hx rfl (hb hby at_23) rfl rfl <| XT.iconstV X9.here hx rfl (4 : Int32) (hb hby at_24) rfl <| XT.bipushV X9.here hx rfl (32 : Int32) (hb hby at_25) rfl <| k) ?_
  show own_Ends p e below s _ _ _ (T9.setTop (mkF m 27 #[.val (.int p1), .val (.int p2), .val (.int p3), .unset, .unset, .unset, .unset, .unset] [(.int (32 : Int32)), (.int (4 : Int32)), (.ref b1), (.ref b1)]))
  obtain ⟨clb1_27_10, Arb1_27_10, qqb1_27_10, Szb1_27_10, Ngb1_27_10, Hsb1_27_10, Gfb1_27_10⟩ := id V_b1'9
  have hinb1_27_10 : ¬ ((4 : Int32) < 0 ∨ clb1_27_10.slots.size ≤ ((4 : Int32)).toNatClampNeg) := inb_of Szb1_27_10 ⟨by decide, by decide⟩
  obtain ⟨T11, h11, X11, e11, W11, st11⟩ := stI X9 hx hZ e9 Arb1_27_10 (j := (4 : Int32)) hinb1_27_10 (g := (mkF m 27 #[.val (.int p1), .val (.int p2), .val (.int p3), .unset, .unset, .unset, .unset, .unset] [(.int (32 : Int32)), (.int (4 : Int32)), (.ref b1), (.ref b1)])) rfl rfl (hb hby at_27)
  refine own_go st11 ?_
  have Z11 := Nat.le_trans Z9 (Keep.of_wr W11).1
  have N11 := Fr.snoc X11 N9 g_b1
  have V_b1'11 : Arv Z h11 b1 k1 .int (16 : Int32) [(.int (0 : Int32)), (.int (9 : Int32)), (.int (10 : Int32)), (.int (13 : Int32)), (.int (32 : Int32)), (.int (0 : Int32)), (.int (0 : Int32)), (.int (0 : Int32)), (.int (0 : Int32)), (.int (0 : Int32)), (.int (0 : Int32)), (.int (0 : Int32)), (.int (0 : Int32)), (.int (0 : Int32)), (.int (0 : Int32)), (.int (0 : Int32))] (.int (0 : Int32)) := Arv.set Arb1_27_10 qqb1_27_10 Szb1_27_10 Ngb1_27_10 Hsb1_27_10 Gfb1_27_10 rfl W11 4 rfl (Nat.le_of_ble_eq_true rfl)
  show own_Ends p e below s _ _ _ (T11.setTop (mkF m 28 #[.val (.int p1), .val (.int p2), .val (.int p3), .unset, .unset, .unset, .unset, .unset] [(.ref b1)]))
  refine own_go (fun _ k => XS.dup X11.here hx rfl (hb hby at_28) rfl rfl <| XT.iconstV X11.here hx rfl (5 : Int32) (hb hby at_29) rfl <| X11.ldcI hx hown (mvT hZ (hw _ (List.mem_of_getElem? (i := 1) rfl))) rfl (hb hby at_30) <| k) ?_
  show own_Ends p e below s _ _ _ (T11.setTop (mkF m 32 #[.val (.int p1), .val (.int p2), .val (.int p3), .unset, .unset, .unset, .unset, .unset] [(.int (55295 : Int32)), (.int (5 : Int32)), (.ref b1), (.ref b1)]))
  obtain ⟨clb1_32_12, Arb1_32_12, qqb1_32_12, Szb1_32_12, Ngb1_32_12, Hsb1_32_12, Gfb1_32_12⟩ := id V_b1'11
  have hinb1_32_12 : ¬ ((5 : Int32) < 0 ∨ clb1_32_12.slots.size ≤ ((5 : Int32)).toNatClampNeg) := inb_of Szb1_32_12 ⟨by decide, by decide⟩
  obtain ⟨T13, h13, X13, e13, W13, st13⟩ := stI X11 hx hZ e11 Arb1_32_12 (j := (5 : Int32)) hinb1_32_12 (g := (mkF m 32 #[.val (.int p1), .val (.int p2), .val (.int p3), .unset, .unset, .unset, .unset, .unset] [(.int (55295 : Int32)), (.int (5 : Int32)), (.ref b1), (.ref b1)])) rfl rfl (hb hby at_32)
  refine own_go st13 ?_
  have Z13 := Nat.le_trans Z11 (Keep.of_wr W13).1
  have N13 := Fr.snoc X13 N11 g_b1
  have V_b1'13 : Arv Z h13 b1 k1 .int (16 : Int32) [(.int (0 : Int32)), (.int (9 : Int32)), (.int (10 : Int32)), (.int (13 : Int32)), (.int (32 : Int32)), (.int (55295 : Int32)), (.int (0 : Int32)), (.int (0 : Int32)), (.int (0 : Int32)), (.int (0 : Int32)), (.int (0 : Int32)), (.int (0 : Int32)), (.int (0 : Int32)), (.int (0 : Int32)), (.int (0 : Int32)), (.int (0 : Int32))] (.int (0 : Int32)) := Arv.set Arb1_32_12 qqb1_32_12 Szb1_32_12 Ngb1_32_12 Hsb1_32_12 Gfb1_32_12 rfl W13 5 rfl (Nat.le_of_ble_eq_true rfl)
  show own_Ends p e below s _ _ _ (T13.setTop (mkF m 33 #[.val (.int p1), .val (.int p2), .val (.int p3), .unset, .unset, .unset, .unset, .unset] [(.ref b1)]))
  refine own_go (fun _ k => XS.dup X13.here hx rfl (hb hby at_33) rfl rfl <| XT.bipushV X13.here hx rfl (6 : Int32) (hb hby at_34) rfl <| X13.ldcI hx hown (mvT hZ (hw _ (List.mem_of_getElem? (i := 2) rfl))) rfl (hb hby at_36) <| k) ?_
  show own_Ends p e below s _ _ _ (T13.setTop (mkF m 38 #[.val (.int p1), .val (.int p2), .val (.int p3), .unset, .unset, .unset, .unset, .unset] [(.int (55296 : Int32)), (.int (6 : Int32)), (.ref b1), (.ref b1)]))
  obtain ⟨clb1_38_14, Arb1_38_14, qqb1_38_14, Szb1_38_14, Ngb1_38_14, Hsb1_38_14, Gfb1_38_14⟩ := id V_b1'13
  have hinb1_38_14 : ¬ ((6 : Int32) < 0 ∨ clb1_38_14.slots.size ≤ ((6 : Int32)).toNatClampNeg) := inb_of Szb1_38_14 ⟨by decide, by decide⟩
  obtain ⟨T15, h15, X15, e15, W15, st15⟩ := stI X13 hx hZ e13 Arb1_38_14 (j := (6 : Int32)) hinb1_38_14 (g := (mkF m 38 #[.val (.int p1), .val (.int p2), .val (.int p3), .unset, .unset, .unset, .unset, .unset] [(.int (55296 : Int32)), (.int (6 : Int32)), (.ref b1), (.ref b1)])) rfl rfl (hb hby at_38)
  refine own_go st15 ?_
  have Z15 := Nat.le_trans Z13 (Keep.of_wr W15).1
  have N15 := Fr.snoc X15 N13 g_b1
  have V_b1'15 : Arv Z h15 b1 k1 .int (16 : Int32) [(.int (0 : Int32)), (.int (9 : Int32)), (.int (10 : Int32)), (.int (13 : Int32)), (.int (32 : Int32)), (.int (55295 : Int32)), (.int (55296 : Int32)), (.int (0 : Int32)), (.int (0 : Int32)), (.int (0 : Int32)), (.int (0 : Int32)), (.int (0 : Int32)), (.int (0 : Int32)), (.int (0 : Int32)), (.int (0 : Int32)), (.int (0 : Int32))] (.int (0 : Int32)) := Arv.set Arb1_38_14 qqb1_38_14 Szb1_38_14 Ngb1_38_14 Hsb1_38_14 Gfb1_38_14 rfl W15 6 rfl (Nat.le_of_ble_eq_true rfl)
  show own_Ends p e below s _ _ _ (T15.setTop (mkF m 39 #[.val (.int p1), .val (.int p2), .val (.int p3), .unset, .unset, .unset, .unset, .unset] [(.ref b1)]))
  refine own_go (fun _ k => XS.dup X15.here hx rfl (hb hby at_39) rfl rfl <| XT.bipushV X15.here hx rfl (7 : Int32) (hb hby at_40) rfl <| X15.ldcI hx hown (mvT hZ (hw _ (List.mem_of_getElem? (i := 3) rfl))) rfl (hb hby at_42) <| k) ?_
  show own_Ends p e below s _ _ _ (T15.setTop (mkF m 44 #[.val (.int p1), .val (.int p2), .val (.int p3), .unset, .unset, .unset, .unset, .unset] [(.int (57343 : Int32)), (.int (7 : Int32)), (.ref b1), (.ref b1)]))
  obtain ⟨clb1_44_16, Arb1_44_16, qqb1_44_16, Szb1_44_16, Ngb1_44_16, Hsb1_44_16, Gfb1_44_16⟩ := id V_b1'15
  have hinb1_44_16 : ¬ ((7 : Int32) < 0 ∨ clb1_44_16.slots.size ≤ ((7 : Int32)).toNatClampNeg) := inb_of Szb1_44_16 ⟨by decide, by decide⟩
  obtain ⟨T17, h17, X17, e17, W17, st17⟩ := stI X15 hx hZ e15 Arb1_44_16 (j := (7 : Int32)) hinb1_44_16 (g := (mkF m 44 #[.val (.int p1), .val (.int p2), .val (.int p3), .unset, .unset, .unset, .unset, .unset] [(.int (57343 : Int32)), (.int (7 : Int32)), (.ref b1), (.ref b1)])) rfl rfl (hb hby at_44)
  refine own_go st17 ?_
  have Z17 := Nat.le_trans Z15 (Keep.of_wr W17).1
  have N17 := Fr.snoc X17 N15 g_b1
  have V_b1'17 : Arv Z h17 b1 k1 .int (16 : Int32) [(.int (0 : Int32)), (.int (9 : Int32)), (.int (10 : Int32)), (.int (13 : Int32)), (.int (32 : Int32)), (.int (55295 : Int32)), (.int (55296 : Int32)), (.int (57343 : Int32)), (.int (0 : Int32)), (.int (0 : Int32)), (.int (0 : Int32)), (.int (0 : Int32)), (.int (0 : Int32)), (.int (0 : Int32)), (.int (0 : Int32)), (.int (0 : Int32))] (.int (0 : Int32)) := Arv.set Arb1_44_16 qqb1_44_16 Szb1_44_16 Ngb1_44_16 Hsb1_44_16 Gfb1_44_16 rfl W17 7 rfl (Nat.le_of_ble_eq_true rfl)
  show own_Ends p e below s _ _ _ (T17.setTop (mkF m 45 #[.val (.int p1), .val (.int p2), .val (.int p3), .unset, .unset, .unset, .unset, .unset] [(.ref b1)]))
  refine own_go (fun _ k => XS.dup X17.here hx rfl (hb hby at_45) rfl rfl <| XT.bipushV X17.here hx rfl (8 : Int32) (hb hby at_46) rfl <| X17.ldcI hx hown (mvT hZ (hw _ (List.mem_of_getElem? (i := 4) rfl))) rfl (hb hby at_48) <| k) ?_
  show own_Ends p e below s _ _ _ (T17.setTop (mkF m 50 #[.val (.int p1), .val (.int p2), .val (.int p3), .unset, .unset, .unset, .unset, .unset] [(.int (57344 : Int32)), (.int (8 : Int32)), (.ref b1), (.ref b1)]))
  obtain ⟨clb1_50_18, Arb1_50_18, qqb1_50_18, Szb1_50_18, Ngb1_50_18, Hsb1_50_18, Gfb1_50_18⟩ := id V_b1'17
  have hinb1_50_18 : ¬ ((8 : Int32) < 0 ∨ clb1_50_18.slots.size ≤ ((8 : Int32)).toNatClampNeg) := inb_of Szb1_50_18 ⟨by decide, by decide⟩
  obtain ⟨T19, h19, X19, e19, W19, st19⟩ := stI X17 hx hZ e17 Arb1_50_18 (j := (8 : Int32)) hinb1_50_18 (g := (mkF m 50 #[.val (.int p1), .val (.int p2), .val (.int p3), .unset, .unset, .unset, .unset, .unset] [(.int (57344 : Int32)), (.int (8 : Int32)), (.ref b1), (.ref b1)])) rfl rfl (hb hby at_50)
  refine own_go st19 ?_
  have Z19 := Nat.le_trans Z17 (Keep.of_wr W19).1
  have N19 := Fr.snoc X19 N17 g_b1
  have V_b1'19 : Arv Z h19 b1 k1 .int (16 : Int32) [(.int (0 : Int32)), (.int (9 : Int32)), (.int (10 : Int32)), (.int (13 : Int32)), (.int (32 : Int32)), (.int (55295 : Int32)), (.int (55296 : Int32)), (.int (57343 : Int32)), (.int (57344 : Int32)), (.int (0 : Int32)), (.int (0 : Int32)), (.int (0 : Int32)), (.int (0 : Int32)), (.int (0 : Int32)), (.int (0 : Int32)), (.int (0 : Int32))] (.int (0 : Int32)) := Arv.set Arb1_50_18 qqb1_50_18 Szb1_50_18 Ngb1_50_18 Hsb1_50_18 Gfb1_50_18 rfl W19 8 rfl (Nat.le_of_ble_eq_true rfl)
  show own_Ends p e below s _ _ _ (T19.setTop (mkF m 51 #[.val (.int p1), .val (.int p2), .val (.int p3), .unset, .unset, .unset, .unset, .unset] [(.ref b1)]))
  refine own_go (fun _ k => XS.dup X19.here hx rfl (hb hby at_51) rfl rfl <| XT.bipushV X19.here hx rfl (9 : Int32) (hb hby at_52) rfl <| X19.ldcI hx hown (mvT hZ (hw _ (List.mem_of_getElem? (i := 5) rfl))) rfl (hb hby at_54) <| k) ?_
  show own_Ends p e below s _ _ _ (T19.setTop (mkF m 56 #[.val (.int p1), .val (.int p2), .val (.int p3), .unset, .unset, .unset, .unset, .unset] [(.int (65533 : Int32)), (.int (9 : Int32)), (.ref b1), (.ref b1)]))
  obtain ⟨clb1_56_20, Arb1_56_20, qqb1_56_20, Szb1_56_20, Ngb1_56_20, Hsb1_56_20, Gfb1_56_20⟩ := id V_b1'19
  have hinb1_56_20 : ¬ ((9 : Int32) < 0 ∨ clb1_56_20.slots.size ≤ ((9 : Int32)).toNatClampNeg) := inb_of Szb1_56_20 ⟨by decide, by decide⟩
  obtain ⟨T21, h21, X21, e21, W21, st21⟩ := stI X19 hx hZ e19 Arb1_56_20 (j := (9 : Int32)) hinb1_56_20 (g := (mkF m 56 #[.val (.int p1), .val (.int p2), .val (.int p3), .unset, .unset, .unset, .unset, .unset] [(.int (65533 : Int32)), (.int (9 : Int32)), (.ref b1), (.ref b1)])) rfl rfl (hb hby at_56)
  refine own_go st21 ?_
  have Z21 := Nat.le_trans Z19 (Keep.of_wr W21).1
  have N21 := Fr.snoc X21 N19 g_b1
  have V_b1'21 : Arv Z h21 b1 k1 .int (16 : Int32) [(.int (0 : Int32)), (.int (9 : Int32)), (.int (10 : Int32)), (.int (13 : Int32)), (.int (32 : Int32)), (.int (55295 : Int32)), (.int (55296 : Int32)), (.int (57343 : Int32)), (.int (57344 : Int32)), (.int (65533 : Int32)), (.int (0 : Int32)), (.int (0 : Int32)), (.int (0 : Int32)), (.int (0 : Int32)), (.int (0 : Int32)), (.int (0 : Int32))] (.int (0 : Int32)) := Arv.set Arb1_56_20 qqb1_56_20 Szb1_56_20 Ngb1_56_20 Hsb1_56_20 Gfb1_56_20 rfl W21 9 rfl (Nat.le_of_ble_eq_true rfl)
  show own_Ends p e below s _ _ _ (T21.setTop (mkF m 57 #[.val (.int p1), .val (.int p2), .val (.int p3), .unset, .unset, .unset, .unset, .unset] [(.ref b1)]))
  refine own_go (fun _ k => XS.dup X21.here hx rfl (hb hby at_57) rfl rfl <| XT.bipushV X21.here hx rfl (10 : Int32) (hb hby at_58) rfl <| X21.ldcI hx hown (mvT hZ (hw _ (List.mem_of_getElem? (i := 6) rfl))) rfl (hb hby at_60) <| k) ?_
  show own_Ends p e below s _ _ _ (T21.setTop (mkF m 62 #[.val (.int p1), .val (.int p2), .val (.int p3), .unset, .unset, .unset, .unset, .unset] [(.int (65534 : Int32)), (.int (10 : Int32)), (.ref b1), (.ref b1)]))
  obtain ⟨clb1_62_22, Arb1_62_22, qqb1_62_22, Szb1_62_22, Ngb1_62_22, Hsb1_62_22, Gfb1_62_22⟩ := id V_b1'21
  have hinb1_62_22 : ¬ ((10 : Int32) < 0 ∨ clb1_62_22.slots.size ≤ ((10 : Int32)).toNatClampNeg) := inb_of Szb1_62_22 ⟨by decide, by decide⟩
  obtain ⟨T23, h23, X23, e23, W23, st23⟩ := stI X21 hx hZ e21 Arb1_62_22 (j := (10 : Int32)) hinb1_62_22 (g := (mkF m 62 #[.val (.int p1), .val (.int p2), .val (.int p3), .unset, .unset, .unset, .unset, .unset] [(.int (65534 : Int32)), (.int (10 : Int32)), (.ref b1), (.ref b1)])) rfl rfl (hb hby at_62)
  refine own_go st23 ?_
  have Z23 := Nat.le_trans Z21 (Keep.of_wr W23).1
  have N23 := Fr.snoc X23 N21 g_b1
  have V_b1'23 : Arv Z h23 b1 k1 .int (16 : Int32) [(.int (0 : Int32)), (.int (9 : Int32)), (.int (10 : Int32)), (.int (13 : Int32)), (.int (32 : Int32)), (.int (55295 : Int32)), (.int (55296 : Int32)), (.int (57343 : Int32)), (.int (57344 : Int32)), (.int (65533 : Int32)), (.int (65534 : Int32)), (.int (0 : Int32)), (.int (0 : Int32)), (.int (0 : Int32)), (.int (0 : Int32)), (.int (0 : Int32))] (.int (0 : Int32)) := Arv.set Arb1_62_22 qqb1_62_22 Szb1_62_22 Ngb1_62_22 Hsb1_62_22 Gfb1_62_22 rfl W23 10 rfl (Nat.le_of_ble_eq_true rfl)
  show own_Ends p e below s _ _ _ (T23.setTop (mkF m 63 #[.val (.int p1), .val (.int p2), .val (.int p3), .unset, .unset, .unset, .unset, .unset] [(.ref b1)]))
  refine own_go (fun _ k => XS.dup X23.here hx rfl (hb hby at_63) rfl rfl <| XT.bipushV X23.here hx rfl (11 : Int32) (hb hby at_64) rfl <| X23.ldcI hx hown (mvT hZ (hw _ (List.mem_of_getElem? (i := 7) rfl))) rfl (hb hby at_66) <| k) ?_
  show own_Ends p e below s _ _ _ (T23.setTop (mkF m 68 #[.val (.int p1), .val (.int p2), .val (.int p3), .unset, .unset, .unset, .unset, .unset] [(.int (65535 : Int32)), (.int (11 : Int32)), (.ref b1), (.ref b1)]))
  obtain ⟨clb1_68_24, Arb1_68_24, qqb1_68_24, Szb1_68_24, Ngb1_68_24, Hsb1_68_24, Gfb1_68_24⟩ := id V_b1'23
  have hinb1_68_24 : ¬ ((11 : Int32) < 0 ∨ clb1_68_24.slots.size ≤ ((11 : Int32)).toNatClampNeg) := inb_of Szb1_68_24 ⟨by decide, by decide⟩
  obtain ⟨T25, h25, X25, e25, W25, st25⟩ := stI X23 hx hZ e23 Arb1_68_24 (j := (11 : Int32)) hinb1_68_24 (g := (mkF m 68 #[.val (.int p1), .val (.int p2), .val (.int p3), .unset, .unset, .unset, .unset, .unset] [(.int (65535 : Int32)), (.int (11 : Int32)), (.ref b1), (.ref b1)])) rfl rfl (hb hby at_68)
  refine own_go st25 ?_
  have Z25 := Nat.le_trans Z23 (Keep.of_wr W25).1
  have N25 := Fr.snoc X25 N23 g_b1
  have V_b1'25 : Arv Z h25 b1 k1 .int (16 : Int32) [(.int (0 : Int32)), (.int (9 : Int32)), (.int (10 : Int32)), (.int (13 : Int32)), (.int (32 : Int32)), (.int (55295 : Int32)), (.int (55296 : Int32)), (.int (57343 : Int32)), (.int (57344 : Int32)), (.int (65533 : Int32)), (.int (65534 : Int32)), (.int (65535 : Int32)), (.int (0 : Int32)), (.int (0 : Int32)), (.int (0 : Int32)), (.int (0 : Int32))] (.int (0 : Int32)) := Arv.set Arb1_68_24 qqb1_68_24 Szb1_68_24 Ngb1_68_24 Hsb1_68_24 Gfb1_68_24 rfl W25 11 rfl (Nat.le_of_ble_eq_true rfl)
  show own_Ends p e below s _ _ _ (T25.setTop (mkF m 69 #[.val (.int p1), .val (.int p2), .val (.int p3), .unset, .unset, .unset, .unset, .unset] [(.ref b1)]))
  refine own_go (fun _ k => XS.dup X25.here hx rfl (hb hby at_69) rfl rfl <| XT.bipushV X25.here hx rfl (12 : Int32) (hb hby at_70) rfl <| X25.ldcI hx hown (mvT hZ (hw _ (List.mem_of_getElem? (i := 8) rfl))) rfl (hb hby at_72) <| k) ?_
  show own_Ends p e below s _ _ _ (T25.setTop (mkF m 74 #[.val (.int p1), .val (.int p2), .val (.int p3), .unset, .unset, .unset, .unset, .unset] [(.int (65536 : Int32)), (.int (12 : Int32)), (.ref b1), (.ref b1)]))
  obtain ⟨clb1_74_26, Arb1_74_26, qqb1_74_26, Szb1_74_26, Ngb1_74_26, Hsb1_74_26, Gfb1_74_26⟩ := id V_b1'25
  have hinb1_74_26 : ¬ ((12 : Int32) < 0 ∨ clb1_74_26.slots.size ≤ ((12 : Int32)).toNatClampNeg) := inb_of Szb1_74_26 ⟨by decide, by decide⟩
  obtain ⟨T27, h27, X27, e27, W27, st27⟩ := stI X25 hx hZ e25 Arb1_74_26 (j := (12 : Int32)) hinb1_74_26 (g := (mkF m 74 #[.val (.int p1), .val (.int p2), .val (.int p3), .unset, .unset, .unset, .unset, .unset] [(.int (65536 : Int32)), (.int (12 : Int32)), (.ref b1), (.ref b1)])) rfl rfl (hb hby at_74)
  refine own_go st27 ?_
  have Z27 := Nat.le_trans Z25 (Keep.of_wr W27).1
  have N27 := Fr.snoc X27 N25 g_b1
  have V_b1'27 : Arv Z h27 b1 k1 .int (16 : Int32) [(.int (0 : Int32)), (.int (9 : Int32)), (.int (10 : Int32)), (.int (13 : Int32)), (.int (32 : Int32)), (.int (55295 : Int32)), (.int (55296 : Int32)), (.int (57343 : Int32)), (.int (57344 : Int32)), (.int (65533 : Int32)), (.int (65534 : Int32)), (.int (65535 : Int32)), (.int (65536 : Int32)), (.int (0 : Int32)), (.int (0 : Int32)), (.int (0 : Int32))] (.int (0 : Int32)) := Arv.set Arb1_74_26 qqb1_74_26 Szb1_74_26 Ngb1_74_26 Hsb1_74_26 Gfb1_74_26 rfl W27 12 rfl (Nat.le_of_ble_eq_true rfl)
  show own_Ends p e below s _ _ _ (T27.setTop (mkF m 75 #[.val (.int p1), .val (.int p2), .val (.int p3), .unset, .unset, .unset, .unset, .unset] [(.ref b1)]))
  refine own_go (fun _ k => XS.dup X27.here hx rfl (hb hby at_75) rfl rfl <| XT.bipushV X27.here hx rfl (13 : Int32) (hb hby at_76) rfl <| X27.ldcI hx hown (mvT hZ (hw _ (List.mem_of_getElem? (i := 9) rfl))) rfl (hb hby at_78) <| k) ?_
  show own_Ends p e below s _ _ _ (T27.setTop (mkF m 80 #[.val (.int p1), .val (.int p2), .val (.int p3), .unset, .unset, .unset, .unset, .unset] [(.int (1114111 : Int32)), (.int (13 : Int32)), (.ref b1), (.ref b1)]))
  obtain ⟨clb1_80_28, Arb1_80_28, qqb1_80_28, Szb1_80_28, Ngb1_80_28, Hsb1_80_28, Gfb1_80_28⟩ := id V_b1'27
  have hinb1_80_28 : ¬ ((13 : Int32) < 0 ∨ clb1_80_28.slots.size ≤ ((13 : Int32)).toNatClampNeg) := inb_of Szb1_80_28 ⟨by decide, by decide⟩
  obtain ⟨T29, h29, X29, e29, W29, st29⟩ := stI X27 hx hZ e27 Arb1_80_28 (j := (13 : Int32)) hinb1_80_28 (g := (mkF m 80 #[.val (.int p1), .val (.int p2), .val (.int p3), .unset, .unset, .unset, .unset, .unset] [(.int (1114111 : Int32)), (.int (13 : Int32)), (.ref b1), (.ref b1)])) rfl rfl (hb hby at_80)
  refine own_go st29 ?_
  have Z29 := Nat.le_trans Z27 (Keep.of_wr W29).1
  have N29 := Fr.snoc X29 N27 g_b1
  have V_b1'29 : Arv Z h29 b1 k1 .int (16 : Int32) [(.int (0 : Int32)), (.int (9 : Int32)), (.int (10 : Int32)), (.int (13 : Int32)), (.int (32 : Int32)), (.int (55295 : Int32)), (.int (55296 : Int32)), (.int (57343 : Int32)), (.int (57344 : Int32)), (.int (65533 : Int32)), (.int (65534 : Int32)), (.int (65535 : Int32)), (.int (65536 : Int32)), (.int (1114111 : Int32)), (.int (0 : Int32)), (.int (0 : Int32))] (.int (0 : Int32)) := Arv.set Arb1_80_28 qqb1_80_28 Szb1_80_28 Ngb1_80_28 Hsb1_80_28 Gfb1_80_28 rfl W29 13 rfl (Nat.le_of_ble_eq_true rfl)
  show own_Ends p e below s _ _ _ (T29.setTop (mkF m 81 #[.val (.int p1), .val (.int p2), .val (.int p3), .unset, .unset, .unset, .unset, .unset] [(.ref b1)]))
  refine own_go (fun _ k => XS.dup X29.here hx rfl (hb hby at_81) rfl rfl <| XT.bipushV X29.here hx rfl (14 : Int32) (hb hby at_82) rfl <| X29.ldcI hx hown (mvT hZ (hw _ (List.mem_of_getElem? (i := 10) rfl))) rfl (hb hby at_84) <| k) ?_
  show own_Ends p e below s _ _ _ (T29.setTop (mkF m 86 #[.val (.int p1), .val (.int p2), .val (.int p3), .unset, .unset, .unset, .unset, .unset] [(.int (1114112 : Int32)), (.int (14 : Int32)), (.ref b1), (.ref b1)]))
  obtain ⟨clb1_86_30, Arb1_86_30, qqb1_86_30, Szb1_86_30, Ngb1_86_30, Hsb1_86_30, Gfb1_86_30⟩ := id V_b1'29
  have hinb1_86_30 : ¬ ((14 : Int32) < 0 ∨ clb1_86_30.slots.size ≤ ((14 : Int32)).toNatClampNeg) := inb_of Szb1_86_30 ⟨by decide, by decide⟩
  obtain ⟨T31, h31, X31, e31, W31, st31⟩ := stI X29 hx hZ e29 Arb1_86_30 (j := (14 : Int32)) hinb1_86_30 (g := (mkF m 86 #[.val (.int p1), .val (.int p2), .val (.int p3), .unset, .unset, .unset, .unset, .unset] [(.int (1114112 : Int32)), (.int (14 : Int32)), (.ref b1), (.ref b1)])) rfl rfl (hb hby at_86)
  refine own_go st31 ?_
  have Z31 := Nat.le_trans Z29 (Keep.of_wr W31).1
  have N31 := Fr.snoc X31 N29 g_b1
  have V_b1'31 : Arv Z h31 b1 k1 .int (16 : Int32) [(.int (0 : Int32)), (.int (9 : Int32)), (.int (10 : Int32)), (.int (13 : Int32)), (.int (32 : Int32)), (.int (55295 : Int32)), (.int (55296 : Int32)), (.int (57343 : Int32)), (.int (57344 : Int32)), (.int (65533 : Int32)), (.int (65534 : Int32)), (.int (65535 : Int32)), (.int (65536 : Int32)), (.int (1114111 : Int32)), (.int (1114112 : Int32)), (.int (0 : Int32))] (.int (0 : Int32)) := Arv.set Arb1_86_30 qqb1_86_30 Szb1_86_30 Ngb1_86_30 Hsb1_86_30 Gfb1_86_30 rfl W31 14 rfl (Nat.le_of_ble_eq_true rfl)
  show own_Ends p e below s _ _ _ (T31.setTop (mkF m 87 #[.val (.int p1), .val (.int p2), .val (.int p3), .unset, .unset, .unset, .unset, .unset] [(.ref b1)]))
  refine own_go (fun _ k => XS.dup X31.here hx rfl (hb hby at_87) rfl rfl <| XT.bipushV X31.here hx rfl (15 : Int32) (hb hby at_88) rfl <| X31.ldcI hx hown (mvT hZ (hw _ (List.mem_of_getElem? (i := 11) rfl))) rfl (hb hby at_90) <| k) ?_
  show own_Ends p e below s _ _ _ (T31.setTop (mkF m 92 #[.val (.int p1), .val (.int p2), .val (.int p3), .unset, .unset, .unset, .unset, .unset] [(.int (-2147483648 : Int32)), (.int (15 : Int32)), (.ref b1), (.ref b1)]))
  obtain ⟨clb1_92_32, Arb1_92_32, qqb1_92_32, Szb1_92_32, Ngb1_92_32, Hsb1_92_32, Gfb1_92_32⟩ := id V_b1'31
  have hinb1_92_32 : ¬ ((15 : Int32) < 0 ∨ clb1_92_32.slots.size ≤ ((15 : Int32)).toNatClampNeg) := inb_of Szb1_92_32 ⟨by decide, by decide⟩
  obtain ⟨T33, h33, X33, e33, W33, st33⟩ := stI X31 hx hZ e31 Arb1_92_32 (j := (15 : Int32)) hinb1_92_32 (g := (mkF m 92 #[.val (.int p1), .val (.int p2), .val (.int p3), .unset, .unset, .unset, .unset, .unset] [(.int (-2147483648 : Int32)), (.int (15 : Int32)), (.ref b1), (.ref b1)])) rfl rfl (hb hby at_92)
  refine own_go st33 ?_
  have Z33 := Nat.le_trans Z31 (Keep.of_wr W33).1
  have N33 := Fr.snoc X33 N31 g_b1
  have V_b1'33 : Arv Z h33 b1 k1 .int (16 : Int32) [(.int (0 : Int32)), (.int (9 : Int32)), (.int (10 : Int32)), (.int (13 : Int32)), (.int (32 : Int32)), (.int (55295 : Int32)), (.int (55296 : Int32)), (.int (57343 : Int32)), (.int (57344 : Int32)), (.int (65533 : Int32)), (.int (65534 : Int32)), (.int (65535 : Int32)), (.int (65536 : Int32)), (.int (1114111 : Int32)), (.int (1114112 : Int32)), (.int (-2147483648 : Int32))] (.int (0 : Int32)) := Arv.set Arb1_92_32 qqb1_92_32 Szb1_92_32 Ngb1_92_32 Hsb1_92_32 Gfb1_92_32 rfl W33 15 rfl (Nat.le_of_ble_eq_true rfl)
  show own_Ends p e below s _ _ _ (T33.setTop (mkF m 93 #[.val (.int p1), .val (.int p2), .val (.int p3), .unset, .unset, .unset, .unset, .unset] [(.ref b1)]))
  refine own_go (fun _ k => XS.astoreN X33.here hx rfl (hb hby at_93) rfl rfl (l' := #[.val (.int p1), .val (.int p2), .val (.int p3), .val (.ref b1), .unset, .unset, .unset, .unset]) rfl <| XS.iloadN X33.here hx rfl (hb hby at_94) rfl <| X33.ldcI hx hown (mvT hZ (hw _ (List.mem_of_getElem? (i := 12) rfl))) rfl (hb hby at_95) <| XS.iand X33.here hx rfl (hb hby at_97) rfl <| XT.iconstV X33.here hx rfl (3 : Int32) (hb hby at_98) rfl <| iremM X33 hx rfl (hb hby at_99) rfl (by decide) <| XT.iconstV X33.here hx rfl (1 : Int32) (hb hby at_100) rfl <| XS.isub X33.here hx rfl (hb hby at_101) rfl <| XS.istore X33.here hx rfl (hb hby at_102) rfl (l' := #[.val (.int p1), .val (.int p2), .val (.int p3), .val (.ref b1), .val (.int (((p3 &&& (2147483647 : Int32)) % (3 : Int32)) - (1 : Int32))), .unset, .unset, .unset]) rfl <| XS.aloadN X33.here hx rfl (hb hby at_104) rfl rfl <| k) ?_
  show own_Ends p e below s _ _ _ (T33.setTop (mkF m 105 #[.val (.int p1), .val (.int p2), .val (.int p3), .val (.ref b1), .val (.int (((p3 &&& (2147483647 : Int32)) % (3 : Int32)) - (1 : Int32))), .unset, .unset, .unset] [(.ref b1)]))
  refine own_go (fun _ k => XS.iloadN X33.here hx rfl (hb hby at_105) rfl <| XT.bipushV X33.here hx rfl (15 : Int32) (hb hby at_106) rfl <| XS.iand X33.here hx rfl (hb hby at_108) rfl <| k) ?_
  show own_Ends p e below s _ _ _ (T33.setTop (mkF m 109 #[.val (.int p1), .val (.int p2), .val (.int p3), .val (.ref b1), .val (.int (((p3 &&& (2147483647 : Int32)) % (3 : Int32)) - (1 : Int32))), .unset, .unset, .unset] [(.int (p2 &&& (15 : Int32))), (.ref b1)]))
  obtain ⟨clb1_109_34, Arb1_109_34, qqb1_109_34, Szb1_109_34, Ngb1_109_34, Hsb1_109_34, Gfb1_109_34⟩ := id V_b1'33
  obtain ⟨y109, hy109⟩ : ∃ x, ([(.int (0 : Int32)), (.int (9 : Int32)), (.int (10 : Int32)), (.int (13 : Int32)), (.int (32 : Int32)), (.int (55295 : Int32)), (.int (55296 : Int32)), (.int (57343 : Int32)), (.int (57344 : Int32)), (.int (65533 : Int32)), (.int (65534 : Int32)), (.int (65535 : Int32)), (.int (65536 : Int32)), (.int (1114111 : Int32)), (.int (1114112 : Int32)), (.int (-2147483648 : Int32))] : List Value).getD ((p2 &&& (15 : Int32))).toNatClampNeg (.int (0 : Int32)) = .int x := own_ints [(0 : Int32), (9 : Int32), (10 : Int32), (13 : Int32), (32 : Int32), (55295 : Int32), (55296 : Int32), (57343 : Int32), (57344 : Int32), (65533 : Int32), (65534 : Int32), (65535 : Int32), (65536 : Int32), (1114111 : Int32), (1114112 : Int32), (-2147483648 : Int32)] _
  have hinb1_109_34 : ¬ ((p2 &&& (15 : Int32)) < 0 ∨ clb1_109_34.slots.size ≤ ((p2 &&& (15 : Int32))).toNatClampNeg) := inb_of Szb1_109_34 (own_in15 _)
  have hatb1_109_34 : clb1_109_34.slots[((p2 &&& (15 : Int32))).toNatClampNeg]? = some (.int y109) := Hsb1_109_34.at hinb1_109_34 hy109
  refine own_go (fun _ k => X33.iaload hx (j := (p2 &&& (15 : Int32))) (v := (.int y109)) (by first | exact Arb1_109_34.1 | (rw [e33]; exact Arb1_109_34.1)) (State.isArrayOf_alike hZ.alike Arb1_109_34.2.1) Arb1_109_34.2.2 hinb1_109_34 hatb1_109_34 (g := (mkF m 109 #[.val (.int p1), .val (.int p2), .val (.int p3), .val (.ref b1), .val (.int (((p3 &&& (2147483647 : Int32)) % (3 : Int32)) - (1 : Int32))), .unset, .unset, .unset] [(.int (p2 &&& (15 : Int32))), (.ref b1)])) rfl rfl (hb hby at_109) _ k) ?_
  show own_Ends p e below s _ _ _ (T33.setTop (mkF m 110 #[.val (.int p1), .val (.int p2), .val (.int p3), .val (.ref b1), .val (.int (((p3 &&& (2147483647 : Int32)) % (3 : Int32)) - (1 : Int32))), .unset, .unset, .unset] [(.int y109)]))
  refine own_go (fun _ k => XS.iload X33.here hx rfl (hb hby at_110) rfl <| XS.iadd X33.here hx rfl (hb hby at_112) rfl <| XS.istore X33.here hx rfl (hb hby at_113) rfl (l' := #[.val (.int p1), .val (.int p2), .val (.int p3), .val (.ref b1), .val (.int (((p3 &&& (2147483647 : Int32)) % (3 : Int32)) - (1 : Int32))), .val (.int (y109 + (((p3 &&& (2147483647 : Int32)) % (3 : Int32)) - (1 : Int32)))), .unset, .unset]) rfl <| XS.iloadN X33.here hx rfl (hb hby at_115) rfl <| k) ?_
  show own_Ends p e below s _ _ _ (T33.setTop (mkF m 116 #[.val (.int p1), .val (.int p2), .val (.int p3), .val (.ref b1), .val (.int (((p3 &&& (2147483647 : Int32)) % (3 : Int32)) - (1 : Int32))), .val (.int (y109 + (((p3 &&& (2147483647 : Int32)) % (3 : Int32)) - (1 : Int32)))), .unset, .unset] [(.int p1)]))
  obtain ⟨_, _, ⟨T35, L35, k35, n35⟩, -, X35, ⟨Lc35, hQ35, l35, y35, z35⟩, st35⟩ := Jvm.LawKit.callS X33 hx (y := (⟨"com/example/pagra/pagra/core/XmlDocuments", "isCharacter", "(I)Z"⟩ : MethodName)) hown (mvT hZ (hw _ (List.mem_of_getElem? (i := 13) rfl))) (mvT hZ (hw _ (List.mem_of_getElem? (i := 14) rfl))) (mvT hZ (hw _ (List.mem_of_getElem? (i := 15) rfl))) (mvT hZ (hw _ (List.mem_of_getElem? (i := 16) rfl))) (by decide) (backOf (W := 0) (rm1 l Z a0 hw [] p1 h33 n0 Z33) hZ (hw _ (List.mem_of_getElem? (i := 16) rfl)) (hw _ (List.mem_of_getElem? (i := 15) rfl)) (by decide) (by decide)) (g := (mkF m 116 #[.val (.int p1), .val (.int p2), .val (.int p3), .val (.ref b1), .val (.int (((p3 &&& (2147483647 : Int32)) % (3 : Int32)) - (1 : Int32))), .val (.int (y109 + (((p3 &&& (2147483647 : Int32)) % (3 : Int32)) - (1 : Int32)))), .unset, .unset] [(.int p1)])) rfl (by rw [hml]; rfl) (argsL := [(.int p1)]) (rest := []) (lenOf pd_0 rfl) rfl (by show 2 * 0 + _ ≤ _; exact Nat.le_of_eq rfl) (hb hby at_116) (fun _ _ => ⟨rfl, e33, Nat.le_of_ble_eq_true rfl, Nat.le_of_ble_eq_true rfl⟩)
  dsimp only [Pt.U, Pt.locs, Pt.cells, Pt.slots] at X35 l35 y35 z35 st35 hQ35
  subst l35 y35 z35
  obtain ⟨rfl, N35q, e35⟩ := hQ35
  have N35 := Fr.app N33 N35q
  refine own_go (fun _ k => st35 _ k) ?_
  show own_Ends p e below s _ _ _ (T35.setTop (mkF m 119 #[.val (.int p1), .val (.int p2), .val (.int p3), .val (.ref b1), .val (.int (((p3 &&& (2147483647 : Int32)) % (3 : Int32)) - (1 : Int32))), .val (.int (y109 + (((p3 &&& (2147483647 : Int32)) % (3 : Int32)) - (1 : Int32)))), .unset, .unset] [(.int (own_ch p1))]))
  refine own_go (fun _ k => XS.iloadN X35.here hx rfl (hb hby at_119) rfl <| k) ?_
  show own_Ends p e below s _ _ _ (T35.setTop (mkF m 120 #[.val (.int p1), .val (.int p2), .val (.int p3), .val (.ref b1), .val (.int (((p3 &&& (2147483647 : Int32)) % (3 : Int32)) - (1 : Int32))), .val (.int (y109 + (((p3 &&& (2147483647 : Int32)) % (3 : Int32)) - (1 : Int32)))), .unset, .unset] [(.int p1), (.int (own_ch p1))]))
  obtain ⟨_, _, ⟨T36, L36, k36, n36⟩, -, X36, ⟨Lc36, hQ36, l36, y36, z36⟩, st36⟩ := Jvm.LawKit.callS X35 hx (y := (⟨"com/example/pagra/pagra/core/XmlDocumentsIsCharacterPinLaw", "reference", "(I)Z"⟩ : MethodName)) hown (mvT hZ (hw _ (List.mem_of_getElem? (i := 19) rfl))) (mvT hZ (hw _ (List.mem_of_getElem? (i := 20) rfl))) (mvT hZ (hw _ (List.mem_of_getElem? (i := 21) rfl))) (mvT hZ (hw _ (List.mem_of_getElem? (i := 22) rfl))) (by decide) (backOf (W := 1) (rm2 l Z a0 hw [] p1 h33 n0 Z33) hZ (hw _ (List.mem_of_getElem? (i := 22) rfl)) (hw _ (List.mem_of_getElem? (i := 21) rfl)) (by decide) (by decide)) (g := (mkF m 120 #[.val (.int p1), .val (.int p2), .val (.int p3), .val (.ref b1), .val (.int (((p3 &&& (2147483647 : Int32)) % (3 : Int32)) - (1 : Int32))), .val (.int (y109 + (((p3 &&& (2147483647 : Int32)) % (3 : Int32)) - (1 : Int32)))), .unset, .unset] [(.int p1), (.int (own_ch p1))])) rfl (by rw [hml]; rfl) (argsL := [(.int p1)]) (rest := [(.int (own_ch p1))]) (lenOf pd_0 rfl) rfl (by show 2 * 0 + _ ≤ _; exact Nat.le_of_eq rfl) (hb hby at_120) (fun _ _ => ⟨rfl, e35, Nat.le_of_ble_eq_true rfl, Nat.le_of_ble_eq_true rfl⟩)
  dsimp only [Pt.U, Pt.locs, Pt.cells, Pt.slots] at X36 l36 y36 z36 st36 hQ36
  subst l36 y36 z36
  obtain ⟨rfl, N36q, e36⟩ := hQ36
  have N36 := Fr.app N35 N36q
  refine own_go (fun _ k => st36 _ k) ?_
  show own_Ends p e below s _ _ _ (T36.setTop (mkF m 123 #[.val (.int p1), .val (.int p2), .val (.int p3), .val (.ref b1), .val (.int (((p3 &&& (2147483647 : Int32)) % (3 : Int32)) - (1 : Int32))), .val (.int (y109 + (((p3 &&& (2147483647 : Int32)) % (3 : Int32)) - (1 : Int32)))), .unset, .unset] [(.int (own_ch p1)), (.int (own_ch p1))]))
  refine own_go (fun _ k => XS.icmpNo X36.here hx rfl (hb hby at_123) rfl (teq rfl).2 <| XT.iconstV X36.here hx rfl (1 : Int32) (hb hby at_126) rfl <| XS.goto X36.here hx rfl (pc0 := 127) (pc' := 131) rfl (hb hby at_127) (by decide) (by decide) <| XS.istore X36.here hx rfl (hb hby at_131) rfl (l' := #[.val (.int p1), .val (.int p2), .val (.int p3), .val (.ref b1), .val (.int (((p3 &&& (2147483647 : Int32)) % (3 : Int32)) - (1 : Int32))), .val (.int (y109 + (((p3 &&& (2147483647 : Int32)) % (3 : Int32)) - (1 : Int32)))), .val (.int (1 : Int32)), .unset]) rfl <| XS.iload X36.here hx rfl (hb hby at_133) rfl <| k) ?_
  show own_Ends p e below s _ _ _ (T36.setTop (mkF m 135 #[.val (.int p1), .val (.int p2), .val (.int p3), .val (.ref b1), .val (.int (((p3 &&& (2147483647 : Int32)) % (3 : Int32)) - (1 : Int32))), .val (.int (y109 + (((p3 &&& (2147483647 : Int32)) % (3 : Int32)) - (1 : Int32)))), .val (.int (1 : Int32)), .unset] [(.int (y109 + (((p3 &&& (2147483647 : Int32)) % (3 : Int32)) - (1 : Int32))))]))
  obtain ⟨_, _, ⟨T37, L37, k37, n37⟩, -, X37, ⟨Lc37, hQ37, l37, y37, z37⟩, st37⟩ := Jvm.LawKit.callS X36 hx (y := (⟨"com/example/pagra/pagra/core/XmlDocuments", "isCharacter", "(I)Z"⟩ : MethodName)) hown (mvT hZ (hw _ (List.mem_of_getElem? (i := 13) rfl))) (mvT hZ (hw _ (List.mem_of_getElem? (i := 14) rfl))) (mvT hZ (hw _ (List.mem_of_getElem? (i := 15) rfl))) (mvT hZ (hw _ (List.mem_of_getElem? (i := 16) rfl))) (by decide) (backOf (W := 0) (rm1 l Z a0 hw [] (y109 + (((p3 &&& (2147483647 : Int32)) % (3 : Int32)) - (1 : Int32))) h33 n0 Z33) hZ (hw _ (List.mem_of_getElem? (i := 16) rfl)) (hw _ (List.mem_of_getElem? (i := 15) rfl)) (by decide) (by decide)) (g := (mkF m 135 #[.val (.int p1), .val (.int p2), .val (.int p3), .val (.ref b1), .val (.int (((p3 &&& (2147483647 : Int32)) % (3 : Int32)) - (1 : Int32))), .val (.int (y109 + (((p3 &&& (2147483647 : Int32)) % (3 : Int32)) - (1 : Int32)))), .val (.int (1 : Int32)), .unset] [(.int (y109 + (((p3 &&& (2147483647 : Int32)) % (3 : Int32)) - (1 : Int32))))])) rfl (by rw [hml]; rfl) (argsL := [(.int (y109 + (((p3 &&& (2147483647 : Int32)) % (3 : Int32)) - (1 : Int32))))]) (rest := []) (lenOf pd_0 rfl) rfl (by show 2 * 0 + _ ≤ _; exact Nat.le_of_eq rfl) (hb hby at_135) (fun _ _ => ⟨rfl, e36, Nat.le_of_ble_eq_true rfl, Nat.le_of_ble_eq_true rfl⟩)
  dsimp only [Pt.U, Pt.locs, Pt.cells, Pt.slots] at X37 l37 y37 z37 st37 hQ37
  subst l37 y37 z37
  obtain ⟨rfl, N37q, e37⟩ := hQ37
  have N37 := Fr.app N36 N37q
  refine own_go (fun _ k => st37 _ k) ?_
  show own_Ends p e below s _ _ _ (T37.setTop (mkF m 138 #[.val (.int p1), .val (.int p2), .val (.int p3), .val (.ref b1), .val (.int (((p3 &&& (2147483647 : Int32)) % (3 : Int32)) - (1 : Int32))), .val (.int (y109 + (((p3 &&& (2147483647 : Int32)) % (3 : Int32)) - (1 : Int32)))), .val (.int (1 : Int32)), .unset] [(.int (own_ch (y109 + (((p3 &&& (2147483647 : Int32)) % (3 : Int32)) - (1 : Int32)))))]))
  refine own_go (fun _ k => XS.iload X37.here hx rfl (hb hby at_138) rfl <| k) ?_
  show own_Ends p e below s _ _ _ (T37.setTop (mkF m 140 #[.val (.int p1), .val (.int p2), .val (.int p3), .val (.ref b1), .val (.int (((p3 &&& (2147483647 : Int32)) % (3 : Int32)) - (1 : Int32))), .val (.int (y109 + (((p3 &&& (2147483647 : Int32)) % (3 : Int32)) - (1 : Int32)))), .val (.int (1 : Int32)), .unset] [(.int (y109 + (((p3 &&& (2147483647 : Int32)) % (3 : Int32)) - (1 : Int32)))), (.int (own_ch (y109 + (((p3 &&& (2147483647 : Int32)) % (3 : Int32)) - (1 : Int32)))))]))
  obtain ⟨_, _, ⟨T38, L38, k38, n38⟩, -, X38, ⟨Lc38, hQ38, l38, y38, z38⟩, st38⟩ := Jvm.LawKit.callS X37 hx (y := (⟨"com/example/pagra/pagra/core/XmlDocumentsIsCharacterPinLaw", "reference", "(I)Z"⟩ : MethodName)) hown (mvT hZ (hw _ (List.mem_of_getElem? (i := 19) rfl))) (mvT hZ (hw _ (List.mem_of_getElem? (i := 20) rfl))) (mvT hZ (hw _ (List.mem_of_getElem? (i := 21) rfl))) (mvT hZ (hw _ (List.mem_of_getElem? (i := 22) rfl))) (by decide) (backOf (W := 1) (rm2 l Z a0 hw [] (y109 + (((p3 &&& (2147483647 : Int32)) % (3 : Int32)) - (1 : Int32))) h33 n0 Z33) hZ (hw _ (List.mem_of_getElem? (i := 22) rfl)) (hw _ (List.mem_of_getElem? (i := 21) rfl)) (by decide) (by decide)) (g := (mkF m 140 #[.val (.int p1), .val (.int p2), .val (.int p3), .val (.ref b1), .val (.int (((p3 &&& (2147483647 : Int32)) % (3 : Int32)) - (1 : Int32))), .val (.int (y109 + (((p3 &&& (2147483647 : Int32)) % (3 : Int32)) - (1 : Int32)))), .val (.int (1 : Int32)), .unset] [(.int (y109 + (((p3 &&& (2147483647 : Int32)) % (3 : Int32)) - (1 : Int32)))), (.int (own_ch (y109 + (((p3 &&& (2147483647 : Int32)) % (3 : Int32)) - (1 : Int32)))))])) rfl (by rw [hml]; rfl) (argsL := [(.int (y109 + (((p3 &&& (2147483647 : Int32)) % (3 : Int32)) - (1 : Int32))))]) (rest := [(.int (own_ch (y109 + (((p3 &&& (2147483647 : Int32)) % (3 : Int32)) - (1 : Int32)))))]) (lenOf pd_0 rfl) rfl (by show 2 * 0 + _ ≤ _; exact Nat.le_of_eq rfl) (hb hby at_140) (fun _ _ => ⟨rfl, e37, Nat.le_of_ble_eq_true rfl, Nat.le_of_ble_eq_true rfl⟩)
  dsimp only [Pt.U, Pt.locs, Pt.cells, Pt.slots] at X38 l38 y38 z38 st38 hQ38
  subst l38 y38 z38
  obtain ⟨rfl, N38q, e38⟩ := hQ38
  have N38 := Fr.app N37 N38q
  refine own_go (fun _ k => st38 _ k) ?_
  show own_Ends p e below s _ _ _ (T38.setTop (mkF m 143 #[.val (.int p1), .val (.int p2), .val (.int p3), .val (.ref b1), .val (.int (((p3 &&& (2147483647 : Int32)) % (3 : Int32)) - (1 : Int32))), .val (.int (y109 + (((p3 &&& (2147483647 : Int32)) % (3 : Int32)) - (1 : Int32)))), .val (.int (1 : Int32)), .unset] [(.int (own_ch (y109 + (((p3 &&& (2147483647 : Int32)) % (3 : Int32)) - (1 : Int32))))), (.int (own_ch (y109 + (((p3 &&& (2147483647 : Int32)) % (3 : Int32)) - (1 : Int32)))))]))
  refine own_go (fun _ k => XS.icmpNo X38.here hx rfl (hb hby at_143) rfl (teq rfl).2 <| XT.iconstV X38.here hx rfl (1 : Int32) (hb hby at_146) rfl <| XS.goto X38.here hx rfl (pc0 := 147) (pc' := 151) rfl (hb hby at_147) (by decide) (by decide) <| XS.istore X38.here hx rfl (hb hby at_151) rfl (l' := #[.val (.int p1), .val (.int p2), .val (.int p3), .val (.ref b1), .val (.int (((p3 &&& (2147483647 : Int32)) % (3 : Int32)) - (1 : Int32))), .val (.int (y109 + (((p3 &&& (2147483647 : Int32)) % (3 : Int32)) - (1 : Int32)))), .val (.int (1 : Int32)), .val (.int (1 : Int32))]) rfl <| XS.iload X38.here hx rfl (hb hby at_153) rfl <| XS.ifNo X38.here hx rfl (hb hby at_155) rfl ((if0 _ _).trans (feq (by decide)).1) <| XS.iload X38.here hx rfl (hb hby at_158) rfl <| XS.ifNo X38.here hx rfl (hb hby at_160) rfl ((if0 _ _).trans (feq (by decide)).1) <| XT.iconstV X38.here hx rfl (1 : Int32) (hb hby at_163) rfl <| XS.goto X38.here hx rfl (pc0 := 164) (pc' := 168) rfl (hb hby at_164) (by decide) (by decide) <| k) ?_
  show own_Ends p e below s _ _ _ (T38.setTop (mkF m 168 #[.val (.int p1), .val (.int p2), .val (.int p3), .val (.ref b1), .val (.int (((p3 &&& (2147483647 : Int32)) % (3 : Int32)) - (1 : Int32))), .val (.int (y109 + (((p3 &&& (2147483647 : Int32)) % (3 : Int32)) - (1 : Int32)))), .val (.int (1 : Int32)), .val (.int (1 : Int32))] [(.int (1 : Int32))]))
  exact own_retN X38 hx (t := .boolean) hrt (by simp) (hb hby at_168) hlk (show nar .boolean (1 : Int32) = (1 : Int32) from by decide) (by rw [e38]; exact ⟨rfl, N38⟩) (by decide) (by decide)
set_option maxRecDepth 65536 in
set_option maxHeartbeats 40000000 in
theorem comes_1 {Post : Tables → Env → Array Value → State → Outcome → State → Prop} (hpost : ∀ tb e args s v u, (limb_1_1.after args s (.returned v) u = true ∧ limb_1_2.after args s (.returned v) u = true ∧ True) → FrameEnd s (.returned v) u (Jvm.fieldLocs frame_1_writes args s ++ Jvm.arrayLocs frame_1_arrays args s ++ Jvm.staticLocs frame_1_statics s) 16 128 → Post tb e args s (.returned v) u) :
    ArmFor flags0 classFile x code maxLocals ret World_1 tables_1 room_1 Calls_1 rest_1 Pre_1 Post := by
  intro l hfl _ _ p e ha hc hk s m args below hf hA hF happ hP
  obtain ⟨hcalls, hrest, hpre⟩ := hP
  obtain ⟨-, -, -, hnamed, -, -, -, hat⟩ := (Spec.applies_iff hf).mp happ
  obtain ⟨hg, hn⟩ := and_e (Cond.before_iff.mp (show (Jvm.Cond.and given_1 narrow_1).before args s = true from hpre))
  obtain ⟨g1, g2⟩ := and_e hg
  obtain ⟨g3, g4⟩ := and_e g2
  obtain ⟨g5, g6⟩ := and_e g4
  obtain ⟨w0, w1, w2, rfl⟩ : ∃ w0 w1 w2 : Value, args = #[w0, w1, w2] := by
    have hs : args.size = 3 := by simpa [Cond.value, given_1] using g1
    obtain ⟨L⟩ := args
    match L, hs with
    | [w0, w1, w2], _ => exact ⟨w0, w1, w2, rfl⟩
  have hw := fun d (hd : d ∈ tables_1) => atoms_spec (ws := Jvm.Cond.code x code maxLocals ret :: tables_1) hat d (List.mem_cons_of_mem _ hd)
  have hfit : Fit s := fun {y c} hc i hi => by
    obtain ⟨ha, rfl⟩ := Array.getElem?_eq_some_iff.mp hc
    have q := List.all_eq_true.mp ((Array.all_eq_true_iff_forall_mem.mp hF) _ (Array.getElem_mem ha)) i (List.mem_range.mpr hi)
    simpa [Array.getElem?_eq_getElem hi] using q
  obtain ⟨i0, ei0⟩ := is_v g3
  obtain rfl : w0 = (.int i0) := Option.some.inj ei0
  obtain ⟨i1, ei1⟩ := is_v g5
  obtain rfl : w1 = (.int i1) := Option.some.inj ei1
  obtain ⟨i2, ei2⟩ := is_v g6
  obtain rfl : w2 = (.int i2) := Option.some.inj ei2
  obtain ⟨n, o, h1, h2, h3, _, L, rfl, ⟨rfl, N⟩, hq⟩ := rm0 l s _ hw tables_1 i0 i1 i2  s.heap s.heap.size (Nat.le_refl _)  p e ha hc hk s m _ below hf ((Spec.applies_iff_loose hf).mp happ).1 ⟨rfl, State.Warmed39.refl s, rfl⟩ trivial
  refine ⟨n, _, h1, h2, h3, hpost _ _ _ _ _ _ ⟨Cond.after_iff.mpr rfl, Cond.after_iff.mpr (eq_i res_at (Term.int_eval (1)) rfl), trivial⟩ ⟨hq.1, hq.2.1, (hq.2.2.sift fun y hy => Or.inr (N y hy)).mono (by decide) (by decide)⟩⟩
theorem main_1_1 : Claimed_1_1 := comes_1 fun _ _ _ _ _ _ h hF => ⟨h.1, hF⟩
theorem main_1_2 : Claimed_1_2 := comes_1 fun _ _ _ _ _ _ h hF => ⟨h.2.1, hF⟩
end Jvm.Pilot.@@N@@
namespace Jvm.Pilot.@@N@@
open Jvm Jvm.ClassFile Sem Op Lib Jvm.Free Jvm.Stand Jvm.Pilot.@@N@@.Jvm.D
/-! MADE BY PROGRAM (witnessworld.py) out of the Statement's table words and the real class files: 9 classes; the members and pool entries that the words name. The judged class is class 1, her method 2. -/
namespace start1
open Jvm.ClassFile
def u (s : String) : CpInfo := .utf8 (stringToUtf16 s)
/-- a pool by its gaps: so many unusable entries, then the entry; so many at the end -/
def gap : Nat → List CpInfo → List CpInfo
  | 0, r => r
  | n + 1, r => .unusable :: gap n r
def poolList (es : List (Nat × CpInfo)) (last : Nat) : List CpInfo := es.foldr (fun e r => gap e.1 (e.2 :: r)) (gap last [])
def pool (es : List (Nat × CpInfo)) (last : Nat) : Array CpInfo := ⟨poolList es last⟩
def fileOf (pool : Array CpInfo) (this : Nat) (attrs : Array Attribute := #[]) (ms : Array MethodInfo := #[]) (fl : Nat := 33) (sup : Nat := 0) (ifs : Array Nat := #[]) (fds : Array FieldInfo := #[]) : ClassFile where
  minorVersion := 0
  majorVersion := 65
  constantPool := pool
  accessFlags := fl
  thisClass := this
  superClass := sup
  interfaces := ifs
  fields := fds
  methods := ms
  attributes := attrs
def plain (name : String) (sup : Option ClassId) : Class where
  name := name
  kind := .ordinary
  loader := none
  accessFlags := 33
  super := sup
  interfaces := #[]
  cf := none
  fields := #[]
  methods := #[]
  instanceTypes := #[]
  staticTypes := #[]
  resolved := #[]
  callSites := []
  init := .initialized
  statics := none
  mirror := none

def pool0 : Array CpInfo := pool [(5, u "<init>"), (0, u "()V"), (1, .class_ 10), (1, u "java/lang/Object")] 113

def k0m0 : Method := { name := "<init>", desc := "()V", sig := { parameters := [], returnType := none }, accessFlags := 1, code := none }
/-- java/lang/Object -/
def k0 : Class := { plain "java/lang/Object" none with
  accessFlags := 33
  interfaces := #[]
  cf := some (fileOf pool0 8 #[] #[{ accessFlags := 1, nameIndex := 5, descriptorIndex := 6, attributes := #[] }] 33 0 #[] #[])
  fields := #[]
  methods := #[k0m0]
  instanceTypes := #[]
  staticTypes := #[]
  resolved := Array.replicate 124 none
  statics := none }

def pool1 : Array CpInfo := pool [(2, .class_ 4), (1, u "java/lang/Object"), (0, u "<init>"), (0, u "()V"), (0, .integer 1114111), (0, .integer 55296), (0, .integer 57343), (0, .integer 65534), (0, .integer 65535), (0, .integer 55295), (0, .integer 57344), (0, .integer 65533), (0, .integer 65536), (0, .integer 1114112), (2, .integer 2147483648), (0, .integer 2147483647), (0, .methodref 22 23), (0, .class_ 24), (0, .nameAndType 25 26), (0, u "com/example/pagra/pagra/core/XmlDocuments"), (0, u "isCharacter"), (0, u "(I)Z"), (0, .methodref 28 29), (0, .class_ 30), (0, .nameAndType 31 26), (0, u "com/example/pagra/pagra/core/XmlDocumentsIsCharacterPinLaw"), (0, u "reference"), (3, u "law"), (0, u "(III)Z")] 4

def k1m0 : Method := { name := "<init>", desc := "()V", sig := { parameters := [], returnType := none }, accessFlags := 2, code := none }
def k1c1 : Code := { maxStack := 2, maxLocals := 2, code := method_2_code, exceptionTable := #[], attributes := #[] }
def k1m1 : Method := { name := "reference", desc := "(I)Z", sig := { parameters := [.int], returnType := some .boolean }, accessFlags := 10, code := some k1c1 }
def k1c2 : Code := { maxStack := 4, maxLocals := 8, code := code, exceptionTable := #[], attributes := #[] }
def k1m2 : Method := { name := "law", desc := "(III)Z", sig := { parameters := [.int, .int, .int], returnType := some .boolean }, accessFlags := 9, code := some k1c2 }
/-- com/example/pagra/pagra/core/XmlDocumentsIsCharacterPinLaw -/
def k1 : Class := { plain "com/example/pagra/pagra/core/XmlDocumentsIsCharacterPinLaw" (some 0) with
  accessFlags := 49
  interfaces := #[]
  cf := some (fileOf pool1 28 #[] #[{ accessFlags := 2, nameIndex := 5, descriptorIndex := 6, attributes := #[] }, { accessFlags := 10, nameIndex := 31, descriptorIndex := 26, attributes := #[] }, { accessFlags := 9, nameIndex := 35, descriptorIndex := 36, attributes := #[] }] 49 2 #[] #[])
  fields := #[]
  methods := #[k1m0, k1m1, k1m2]
  instanceTypes := #[]
  staticTypes := #[]
  resolved := Array.replicate 41 none
  statics := none }

def pool2 : Array CpInfo := pool [(2, .class_ 4), (1, u "java/lang/Object"), (0, u "<init>"), (0, u "()V"), (18, .class_ 26), (0, u "com/example/pagra/pagra/core/XmlDocuments"), (6, .class_ 34), (0, u "com/example/pagra/pagra/core/XmlDocuments$NamesCounted"), (142, .class_ 179), (1, u "com/example/pagra/pagra/core/XmlDocuments$Content"), (22, u "(I)Z"), (33, u "isCharacter"), (0, .integer 65533), (10, .integer 55295), (0, .integer 57344), (0, .integer 65536), (0, .integer 1114111), (4, u "REPLACEMENT"), (0, u "I"), (1, u "BYTE_ORDER_MARK"), (0, u "C"), (0, u "PARSER_MESSAGE"), (0, u "Ljava/lang/String;"), (0, u "ENTITY_CHARACTERS_LIMIT"), (0, u "ENTITY_LENGTH_LIMIT")] 54

def k2m0 : Method := { name := "<init>", desc := "()V", sig := { parameters := [], returnType := none }, accessFlags := 2, code := none }
def k2c1 : Code := { maxStack := 2, maxLocals := 1, code := prog_33_method_11_code, exceptionTable := #[], attributes := #[] }
def k2m1 : Method := { name := "isCharacter", desc := "(I)Z", sig := { parameters := [.int], returnType := some .boolean }, accessFlags := 8, code := some k2c1 }
/-- com/example/pagra/pagra/core/XmlDocuments -/
def k2 : Class := { plain "com/example/pagra/pagra/core/XmlDocuments" (some 0) with
  accessFlags := 48
  interfaces := #[]
  cf := some (fileOf pool2 25 #[.nestMembers #[177, 33]] #[{ accessFlags := 2, nameIndex := 5, descriptorIndex := 6, attributes := #[] }, { accessFlags := 8, nameIndex := 236, descriptorIndex := 202, attributes := #[] }] 48 2 #[] #[{ accessFlags := 26, nameIndex := 256, descriptorIndex := 257, attributes := #[] }, { accessFlags := 26, nameIndex := 259, descriptorIndex := 260, attributes := #[] }, { accessFlags := 26, nameIndex := 261, descriptorIndex := 262, attributes := #[] }, { accessFlags := 26, nameIndex := 263, descriptorIndex := 262, attributes := #[] }, { accessFlags := 26, nameIndex := 264, descriptorIndex := 262, attributes := #[] }])
  fields := #[{ name := "REPLACEMENT", type := .int, accessFlags := 26, slot := 0, constantValue := 0 }, { name := "BYTE_ORDER_MARK", type := .char, accessFlags := 26, slot := 1, constantValue := 0 }, { name := "PARSER_MESSAGE", type := (.object "java/lang/String"), accessFlags := 26, slot := 2, constantValue := 0 }, { name := "ENTITY_CHARACTERS_LIMIT", type := (.object "java/lang/String"), accessFlags := 26, slot := 3, constantValue := 0 }, { name := "ENTITY_LENGTH_LIMIT", type := (.object "java/lang/String"), accessFlags := 26, slot := 4, constantValue := 0 }]
  methods := #[k2m0, k2m1]
  instanceTypes := #[]
  staticTypes := #[.int, .char, (.object "java/lang/String"), (.object "java/lang/String"), (.object "java/lang/String")]
  resolved := Array.replicate 319 none
  statics := none }

def pool3 : Array CpInfo := pool [(1, u "java/lang/Cloneable"), (0, .class_ 1), (0, u "java/lang/Object"), (0, .class_ 3)] 3

/-- java/lang/Cloneable -/
def k3 : Class := { plain "java/lang/Cloneable" (some 0) with
  accessFlags := 1537
  interfaces := #[]
  cf := some (fileOf pool3 2 #[] #[] 1537 4 #[] #[])
  fields := #[]
  methods := #[]
  instanceTypes := #[]
  staticTypes := #[]
  resolved := Array.replicate 8 none
  statics := none }

def pool4 : Array CpInfo := pool [(1, u "java/io/Serializable"), (0, .class_ 1), (0, u "java/lang/Object"), (0, .class_ 3)] 3

/-- java/io/Serializable -/
def k4 : Class := { plain "java/io/Serializable" (some 0) with
  accessFlags := 1537
  interfaces := #[]
  cf := some (fileOf pool4 2 #[] #[] 1537 4 #[] #[])
  fields := #[]
  methods := #[]
  instanceTypes := #[]
  staticTypes := #[]
  resolved := Array.replicate 8 none
  statics := none }

/-- the primitive byte -/
def k5 : Class := { plain "byte" none with kind := .primitive 'B', accessFlags := 0x411 }
/-- [B -/
def k6 : Class := { plain "[B" (some 0) with kind := .array 5 .byte, interfaces := #[3, 4], accessFlags := 1041 }

/-- the primitive int -/
def k7 : Class := { plain "int" none with kind := .primitive 'I', accessFlags := 0x411 }
/-- [I -/
def k8 : Class := { plain "[I" (some 0) with kind := .array 7 .int, interfaces := #[3, 4], accessFlags := 1041 }

def heap : Heap := #[]
def classes : Array Class := #[k0, k1, k2, k3, k4, k5, k6, k7, k8]
def interned : List (Array UInt16 × Addr) := []
def slotsUsed : Nat := 0
def theMethod : MethodId := ⟨1, 2⟩
def args0 : Array Value := #[.int 5, .int 7, .int 9]
def aboutOver (below : List Frame) : State where
  vm := { classes := classes, interned := interned.toArray }
  heap := heap
  slotsUsed := slotsUsed
  threads := #[{ frames := .invoking theMethod args0 :: below }]
def below0 : List Frame := [.native { method := ⟨0, 0⟩, args := #[] }]
def about1 : State := aboutOver below0
def p0 : Program := .bare "" "" ""
def e0 : Env := launch0.env 0 0 0
theorem w_frames : about1.frames = Frame.invoking theMethod args0 :: below0 := rfl
set_option maxRecDepth 65536 in
theorem w_args : argsFit about1.vm theMethod args0 = true := by decide +kernel
set_option maxRecDepth 65536 in
theorem w_heap : heapFits about1 = true := by decide +kernel
set_option maxRecDepth 65536 in
theorem w_runnable : about1.curStatus? = some .runnable := by decide +kernel
set_option maxRecDepth 65536 in
theorem w_alone : about1.alone = true := by decide +kernel
set_option maxRecDepth 65536 in
theorem w_named : about1.methodNamed? x = some theMethod := by decide +kernel
set_option maxRecDepth 65536 in
theorem w_hears : about1.hears theMethod below0 = true := by decide +kernel
set_option maxRecDepth 65536 in
theorem w_ripe : about1.ripe theMethod args0 below0 = true := by decide +kernel
theorem w_running : about1.status = .running := rfl
set_option maxRecDepth 65536 in
theorem w_room : about1.hasRoom e0.platform room_1 = true :=
  launch0.hasRoom_least _ room_1 (by decide +kernel) (by decide +kernel) (by decide +kernel) (by decide +kernel) (by decide +kernel) (by decide +kernel)
theorem allAtoms_all (ts : List Jvm.Cond) (a : Array Jvm.Value) (st : Jvm.State) : (allAtoms ts).before a st = ts.all (fun c => c.before a st) := by
  induction ts with
  | nil => rfl
  | cons c t ih =>
    show (Jvm.Cond.and c (allAtoms t)).before a st = _
    rw [Jvm.Cond.before_and, ih, List.all_cons]
def words1 : List Jvm.Cond := Jvm.Cond.code x code maxLocals ret :: tables_1
/-- a 'code' word, met by the world's own term for the bytes: nothing is compared byte by byte -/
theorem code_word {y : MethodName} {bytes : ByteArray} {mx : Nat} {rt : Option FieldType} {a : Array Value} {s : State} {m : MethodId} {meth : Method} {c : Code} (h1 : s.methodNamed? y = some m) (h2 : s.vm.method? m = some meth) (h3 : meth.code = some c) (h4 : c.code = bytes)
    (h5 : (c.maxLocals == mx && c.exceptionTable.isEmpty && decide (c.maxStack ≤ mostOperands) && decide (meth.sig.returnType = rt) && !meth.locks && decide (parseMethodDescriptor y.desc = some meth.sig)) = true) : (Jvm.Cond.code y bytes mx rt).before a s = true := by
  simp only [Bool.and_eq_true, beq_iff_eq, Bool.not_eq_true', decide_eq_true_eq] at h5
  obtain ⟨⟨⟨⟨⟨g1, g2⟩, g3⟩, g4⟩, g5⟩, g6⟩ := h5
  simp [Cond.before, Cond.holds, Cond.value, h1, h2, h3, h4, g1, g2, g3, g4, g5, g6]
def isCode : Jvm.Cond → Bool
  | .code _ _ _ _ => true
  | _ => false
theorem all_split {L : List Jvm.Cond} {P : Jvm.Cond → Bool} (h1 : L.all (fun c => isCode c || P c) = true) (h2 : ∀ c ∈ L.filter isCode, P c = true) : L.all P = true := by
  refine List.all_eq_true.mpr fun c hc => ?_
  have h := List.all_eq_true.mp h1 c hc
  rcases Bool.eq_false_or_eq_true (isCode c) with hi | hi
  · exact h2 c (List.mem_filter.mpr ⟨hc, hi⟩)
  · simpa [hi] using h
set_option maxRecDepth 65536 in
theorem w_c0 : (Jvm.Cond.code x code maxLocals ret).before args0 about1 = true := code_word (m := ⟨1, 2⟩) (meth := k1m2) (c := k1c2) (by decide +kernel) rfl rfl rfl (by decide +kernel)
set_option maxRecDepth 65536 in
theorem w_c1 : (Jvm.Cond.code ({ cls := "com/example/pagra/pagra/core/XmlDocuments", name := "isCharacter", desc := "(I)Z" } : Jvm.MethodName) prog_33_method_11_code (1 : Nat) (Option.some Jvm.ClassFile.FieldType.boolean)).before args0 about1 = true := code_word (m := ⟨2, 1⟩) (meth := k2m1) (c := k2c1) (by decide +kernel) rfl rfl rfl (by decide +kernel)
set_option maxRecDepth 65536 in
theorem w_c2 : (Jvm.Cond.code ({ cls := "com/example/pagra/pagra/core/XmlDocumentsIsCharacterPinLaw", name := "reference", desc := "(I)Z" } : Jvm.MethodName) method_2_code (2 : Nat) (Option.some Jvm.ClassFile.FieldType.boolean)).before args0 about1 = true := code_word (m := ⟨1, 1⟩) (meth := k1m1) (c := k1c1) (by decide +kernel) rfl rfl rfl (by decide +kernel)
def codes1 : List Jvm.Cond := [Jvm.Cond.code x code maxLocals ret, Jvm.Cond.code ({ cls := "com/example/pagra/pagra/core/XmlDocuments", name := "isCharacter", desc := "(I)Z" } : Jvm.MethodName) prog_33_method_11_code (1 : Nat) (Option.some Jvm.ClassFile.FieldType.boolean), Jvm.Cond.code ({ cls := "com/example/pagra/pagra/core/XmlDocumentsIsCharacterPinLaw", name := "reference", desc := "(I)Z" } : Jvm.MethodName) method_2_code (2 : Nat) (Option.some Jvm.ClassFile.FieldType.boolean)]
set_option maxRecDepth 65536 in
theorem codes_eq : words1.filter isCode = codes1 := rfl
theorem w_codes : ∀ c ∈ words1.filter isCode, c.before args0 about1 = true := by
  rw [codes_eq]
  intro c hc
  simp only [codes1, List.mem_cons, List.not_mem_nil, or_false] at hc
  rcases hc with rfl | rfl | rfl
  · exact w_c0
  · exact w_c1
  · exact w_c2
set_option maxRecDepth 65536 in
theorem w_t1 : (words1.take 24).all (fun c => isCode c || c.before args0 about1) = true := by decide +kernel
set_option maxRecDepth 65536 in
theorem w_t2 : (words1.drop 24).all (fun c => isCode c || c.before args0 about1) = true := by decide +kernel
theorem w_tables : (allAtoms (Jvm.Cond.code x code maxLocals ret :: tables_1)).before args0 about1 = true := by
  rw [allAtoms_all]
  show words1.all (fun c => c.before args0 about1) = true
  refine all_split ?_ w_codes
  rw [← List.take_append_drop 24 words1, List.all_append, w_t1, w_t2]
  rfl
set_option maxRecDepth 65536 in
theorem w_case : (Jvm.Cond.and given_1 narrow_1).before args0 about1 = true := by decide +kernel
theorem w_applies : (headSpec (Jvm.Cond.code x code maxLocals ret :: tables_1) room_1).applies x e0.platform about1 = true :=
  (Spec.applies_iff w_frames).mpr ⟨w_running, w_runnable, w_alone, w_named, w_hears, w_ripe, w_room, w_tables⟩
theorem atStart : AtStart classFile x code maxLocals ret World_1 tables_1 room_1 Calls_1 rest_1 Pre_1 launch0 p0 e0 about1 theMethod args0 below0 :=
  ⟨lists_1, trivial, launch0.admits_env _ _ _, launch0.least_env, fairChoices_fair.cas, fairChoices_fair.clock, w_frames, w_args, w_heap, w_applies, trivial, trivial, w_case⟩
end start1
theorem witness_1 : WitnessClaimed_1 := ⟨start1.p0, start1.e0, start1.about1, start1.theMethod, start1.args0, start1.below0, start1.atStart⟩
end Jvm.Pilot.@@N@@
