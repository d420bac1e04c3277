import JvmDerived
import JvmDerived.Pilot.@@N@@Statement
import JvmDerived.Pilot.@@N@@Code
set_option linter.unusedVariables false
set_option linter.unusedSimpArgs false
namespace Jvm.Pilot.@@N@@
open Jvm Jvm.ClassFile Sem Op Lib Jvm.Free Jvm.Stand Jvm.LawKit Jvm.RoadKit Bundle Jvm.Pilot.@@N@@.Jvm.D
/-! the walk's goal in continuation style -/
def own_Ends (p : Program) (e : Env) (below : List Frame) (s : State) (Q : Option Value → Heap → List Loc → Prop) (k n : Nat) (t : State) : Prop :=
  ∃ s₂ o, Steps p.tables e below t s₂ ∧ s₂.status = .running ∧ Ended s₂ below o ∧ ∃ v L, o = .returned v ∧ Q v s₂.heap L ∧ FrameEnd s o s₂ L k n
section OwnEnds
variable {p : Program} {l : Launch} {e : Env} {R : Room} {s : State} {m : MethodId} {args : Array Value} {below : List Frame} {meth : Method} {c : Code} {T : State} {locs : List Loc} {cells slots : Nat} {Q : Option Value → Heap → List Loc → Prop} {k n : Nat}
theorem own_go {t t' : State} (h : ∀ u, Steps p.tables e below t' u → Steps p.tables e below t u) (g : own_Ends p e below s Q k n t') : own_Ends p e below s Q k n t := by
  obtain ⟨s₂, o, h1, h2⟩ := g
  exact ⟨s₂, o, h _ h1, h2⟩
theorem own_retN (X : Stand p l e R s m args below meth c T locs cells slots) (hx : p.tables.exec = Jvm.exec) {pc : Nat} {Ls : Array Slot} {z w : Int32} {t : FieldType} {rest : List Value} (hret : meth.sig.returnType = some t) (ht : t = .boolean ∨ t = .byte ∨ t = .char ∨ t = .short)
    (hd : decode c.code pc = .ok (.ireturn, 1)) (hlk : meth.locks = false) (hz : nar t z = w) (hQ : Q (some (.int w)) T.heap locs) (hk : cells ≤ k) (hn : slots ≤ n) : own_Ends p e below s Q k n (T.setTop (mkF m pc Ls (.int z :: rest))) := by
  subst hz
  obtain ⟨fs, hr, hrun, hended, hW, hsame⟩ := X.leave (v := some (.int (nar t z))) (fun h => by rw [hret] at h; cases h) hlk
  exact ⟨_, _, retN X hx hret ht hd hr, hrun, hended, _, _, rfl, hQ, ⟨_, rfl⟩, hW, hsame.mono hk hn⟩
theorem own_ret (X : Stand p l e R s m args below meth c T locs cells slots) (hx : p.tables.exec = Jvm.exec) {pc : Nat} {Ls : Array Slot} {w : Value} {t : FieldType} {i : Instr} {rest : List Value} (hret : meth.sig.returnType = some t) (hn' : narrow t w = w)
    (hi : (i = .ireturn ∧ (t = .int ∨ t = .boolean ∨ t = .byte ∨ t = .char ∨ t = .short) ∧ ∃ z, w = .int z) ∨ (i = .lreturn ∧ t = .long ∧ ∃ z, w = .long z) ∨ (i = .dreturn ∧ t = .double ∧ ∃ z, w = .double z) ∨ (i = .freturn ∧ t = .float ∧ ∃ z, w = .float z) ∨ (i = .areturn ∧ t.isReference = true ∧ w.isRef = true))
    (hd : decode c.code pc = .ok (i, 1)) (hlk : meth.locks = false) (hQ : Q (some w) T.heap locs) (hk : cells ≤ k) (hn : slots ≤ n) : own_Ends p e below s Q k n (T.setTop (mkF m pc Ls (w :: rest))) := by
  obtain ⟨fs, hr, hrun, hended, hW, hsame⟩ := X.leave (v := some w) (fun h => by rw [hret] at h; cases h) hlk
  exact ⟨_, _, retOut X hx hret hn' hi hd hr, hrun, hended, _, _, rfl, hQ, ⟨_, rfl⟩, hW, hsame.mono hk hn⟩
theorem own_ret0 (X : Stand p l e R s m args below meth c T locs cells slots) (hx : p.tables.exec = Jvm.exec) {pc : Nat} {Ls : Array Slot} (hret : meth.sig.returnType = none)
    (hd : decode c.code pc = .ok (.return_, 1)) (hlk : meth.locks = false) (hQ : Q none T.heap locs) (hk : cells ≤ k) (hn : slots ≤ n) : own_Ends p e below s Q k n (T.setTop (mkF m pc Ls [])) := by
  obtain ⟨fs, hr, hrun, hended, hW, hsame⟩ := X.leave (v := none) (fun _ => rfl) hlk
  exact ⟨_, _, X.returnOut hx hret hd hr, hrun, hended, _, _, rfl, hQ, ⟨_, rfl⟩, hW, hsame.mono hk hn⟩
end OwnEnds
theorem pd_0 : parseMethodDescriptor "([J)V" = some ⟨[(.array .long)], none⟩ := by decide +kernel
theorem pd_1 : parseMethodDescriptor "()V" = some ⟨[], none⟩ := by decide +kernel
theorem pd_2 : parseMethodDescriptor "(I)J" = some ⟨[.int], some .long⟩ := by decide +kernel
def own_hs (b : Int32) (y0 y1 y2 y3 y4 : Int64) : Int64 := if b < 1 then y0 else if b < 2 then y0 + y1 else if b < 3 then y0 + y1 + y2 else if b < 4 then y0 + y1 + y2 + y3 else y0 + y1 + y2 + y3 + y4
theorem own_bd (k : Int32) : ¬ (k &&& (2147483647 : Int32)) % (5 : Int32) < 0 ∧ (k &&& (2147483647 : Int32)) % (5 : Int32) < 5 := by
  have h := c_mask k 2147483647 31 (by decide) (by decide)
  have h2 := (c_irem (k &&& 2147483647) 5 5 (by decide)).1
  have e0 : (0 : Int32).toInt = 0 := by decide
  have e5 : (5 : Int32).toInt = 5 := by decide
  rw [Int32.lt_iff_toInt_lt, Int32.lt_iff_toInt_lt, e0, e5]
  omega
theorem d1_0 : decode prog_94_method_1_code 0 = .ok (.aload_n 0, 1) := by decide +kernel
theorem d1_1 : decode prog_94_method_1_code 1 = .ok (.invokespecial 1, 3) := by decide +kernel
theorem d1_4 : decode prog_94_method_1_code 4 = .ok (.aload_n 0, 1) := by decide +kernel
theorem d1_5 : decode prog_94_method_1_code 5 = .ok (.aload_n 1, 1) := by decide +kernel
theorem d1_6 : decode prog_94_method_1_code 6 = .ok (.putfield 7, 3) := by decide +kernel
theorem d1_9 : decode prog_94_method_1_code 9 = .ok (.return_, 1) := by decide +kernel
theorem pn_0 : plainName "com/example/expiry/expiry/service/TopicCounts" = true := by first | (simp [plainName, overriddenIn]; done) | decide +kernel
theorem ef_1 (m : MethodId) (x0 : Addr) (x1 : Addr) : entryFrame m #[(.ref x0), (.ref x1)] 2 = mkF m 0 #[.val (.ref x0), .val (.ref x1)] [] := by first | (simp [entryFrame, mkF, argsToLocals, Value.category]; done) | rfl
def Q1 (a1 : Addr) (a2 : Addr) (h0 : Heap) (n0 : Nat) (Z : State) (v : Option Value) (h : Heap) (L : List Loc) : Prop := v = none ∧ Fr n0 L ∧ Keep h0 h [a1] ∧ Fld Z h a1 "com/example/expiry/expiry/service/TopicCounts" "figures" "[J" (.ref a2)
set_option maxRecDepth 65536 in
set_option maxHeartbeats 40000000 in
theorem rm1 (l : Launch) (Z : State) (a0 : Array Value) (hw : ∀ d ∈ tables_1, d.before a0 Z = true) (ws : List Jvm.Cond) (a1 : Addr) (a2 : Addr) (h0 : Heap) (n0 : Nat) (Z0 : n0 ≤ h0.size) (E1 : Exa Z h0 a1 "com/example/expiry/expiry/service/TopicCounts") (F_figures : Fld Z h0 a1 "com/example/expiry/expiry/service/TopicCounts" "figures" "[J" .null) (g1 : n0 ≤ a1) :
    MetFree l (⟨"com/example/expiry/expiry/service/TopicCounts", "<init>", "([J)V"⟩ : MethodName) (head1 (Jvm.Cond.code (⟨"com/example/expiry/expiry/service/TopicCounts", "<init>", "([J)V"⟩ : MethodName) prog_94_method_1_code 2 none :: ws) ({ frames := 1, cells := 0, slots := 0, locals := 12 } : Room)) (fun a U => a = #[(.ref a1), (.ref a2)] ∧ Z.Warmed39 U.vm ∧ U.heap = h0) (fun _ _ _ _ _ => True) (fun _ U o U' => ∃ v L, o = .returned v ∧ Q1 a1 a2 h0 n0 Z v U'.heap L ∧ FrameEnd U o U' L ({ frames := 1, cells := 0, slots := 0, locals := 12 } : Room).cells ({ frames := 1, cells := 0, slots := 0, locals := 12 } : Room).slots) := by
  refine MetFree.of_bodySF (plainFor_of_name pn_0) hisR ?_
  intro p e s m args below meth c s₁ Bd hml0 hP hK
  obtain ⟨rfl, hZ, hh⟩ := hP
  have hx := Bd.exec
  have hby := Bd.bytes
  have hml : c.maxLocals = 2 := hml0
  have hown : s.vm.findClass "com/example/expiry/expiry/service/TopicCounts" = some m.cls := findClass_of_methodNamed Bd.named
  have hnm := (name_of_methodNamed Bd.named Bd.method).1
  have hlk := Bd.notSynchronized
  have hrt := Bd.returns
  have X0 : Stand p l e ({ frames := 1, cells := 0, slots := 0, locals := 12 } : Room) s m #[(.ref a1), (.ref a2)] below meth c s₁ [] 0 0 := Stand.of_body Bd
  have e0 : s₁.heap = h0 := by rw [← hh, Bd.state]; rfl
  have N0 := Fr.nil n0
  show own_Ends p e below s (Q1 a1 a2 h0 n0 Z) ({ frames := 1, cells := 0, slots := 0, locals := 12 } : Room).cells ({ frames := 1, cells := 0, slots := 0, locals := 12 } : Room).slots (s₁.setTop (entryFrame m #[(.ref a1), (.ref a2)] 2))
  rw [ef_1]
  have K0 : Keep h0 h0 [a1] := Keep.refl h0 [a1]
  refine own_go (fun _ k => XS.aloadN X0.here hx rfl (hb hby d1_0) rfl rfl <| k) ?_
  show own_Ends p e below s _ _ _ (s₁.setTop (mkF m 1 #[.val (.ref a1), .val (.ref a2)] [(.ref a1)]))
  obtain ⟨T1, X1, e1, st1⟩ := initO X0 hx hZ hown (hw _ (List.mem_of_getElem? (i := 9) rfl)) (hw _ (List.mem_of_getElem? (i := 10) rfl)) (hw _ (List.mem_of_getElem? (i := 11) rfl)) e0 (g := (mkF m 1 #[.val (.ref a1), .val (.ref a2)] [(.ref a1)])) rfl (by rw [hml]; rfl) rfl (hb hby d1_1) (by decide) (W := 0) (by show 2 * 0 + _ ≤ _; exact Nat.le_of_eq rfl) (by decide)
  refine own_go st1 ?_
  show own_Ends p e below s _ _ _ (T1.setTop (mkF m 4 #[.val (.ref a1), .val (.ref a2)] []))
  refine own_go (fun _ k => XS.aloadN X1.here hx rfl (hb hby d1_4) rfl rfl <| XS.aloadN X1.here hx rfl (hb hby d1_5) rfl rfl <| k) ?_
  show own_Ends p e below s _ _ _ (T1.setTop (mkF m 6 #[.val (.ref a1), .val (.ref a2)] [(.ref a2), (.ref a1)]))
  obtain ⟨T2, h2, X2, e2, W2, st2⟩ := putF X1 hx hZ hown (host := "") (Or.inl (hw _ (List.mem_of_getElem? (i := 12) rfl))) Via.refl e1 F_figures E1 (Or.inr ⟨(hw _ (List.mem_of_getElem? (i := 13) rfl)), rfl, hnm⟩) (hw _ (List.mem_of_getElem? (i := 4) rfl)) (ty := (.array .long)) (by decide) rfl rfl (g := (mkF m 6 #[.val (.ref a1), .val (.ref a2)] [(.ref a2), (.ref a1)])) rfl rfl (hb hby d1_6)
  refine own_go st2 ?_
  have E1'2 := E1.wr W2
  have Z2 := Nat.le_trans Z0 (Keep.of_wr W2).1
  have K2' := K0.wr W2 (Or.inl (List.mem_of_getElem? (i := 0) rfl))
  have N2 := Fr.snoc X2 N0 g1
  have F_figures'2 := F_figures.same W2
  show own_Ends p e below s _ _ _ (T2.setTop (mkF m 9 #[.val (.ref a1), .val (.ref a2)] []))
  exact own_ret0 X2 hx hrt (hb hby d1_9) hlk (by rw [e2]; exact ⟨rfl, N2, K2', F_figures'2⟩) (by decide) (by decide)
theorem d3_0 : decode prog_94_method_7_code 0 = .ok (.lconst 0, 1) := by decide +kernel
theorem d3_1 : decode prog_94_method_7_code 1 = .ok (.lstore_n 2, 1) := by decide +kernel
theorem d3_2 : decode prog_94_method_7_code 2 = .ok (.iconst 0, 1) := by decide +kernel
theorem d3_3 : decode prog_94_method_7_code 3 = .ok (.istore 4, 2) := by decide +kernel
theorem d3_5 : decode prog_94_method_7_code 5 = .ok (.iload 4, 2) := by decide +kernel
theorem d3_7 : decode prog_94_method_7_code 7 = .ok (.iload_n 1, 1) := by decide +kernel
theorem d3_8 : decode prog_94_method_7_code 8 = .ok (.if_icmp .gt 21, 3) := by decide +kernel
theorem d3_11 : decode prog_94_method_7_code 11 = .ok (.lload_n 2, 1) := by decide +kernel
theorem d3_12 : decode prog_94_method_7_code 12 = .ok (.aload_n 0, 1) := by decide +kernel
theorem d3_13 : decode prog_94_method_7_code 13 = .ok (.getfield 7, 3) := by decide +kernel
theorem d3_16 : decode prog_94_method_7_code 16 = .ok (.iconst 5, 1) := by decide +kernel
theorem d3_17 : decode prog_94_method_7_code 17 = .ok (.iload 4, 2) := by decide +kernel
theorem d3_19 : decode prog_94_method_7_code 19 = .ok (.iadd, 1) := by decide +kernel
theorem d3_20 : decode prog_94_method_7_code 20 = .ok (.laload, 1) := by decide +kernel
theorem d3_21 : decode prog_94_method_7_code 21 = .ok (.ladd, 1) := by decide +kernel
theorem d3_22 : decode prog_94_method_7_code 22 = .ok (.lstore_n 2, 1) := by decide +kernel
theorem d3_23 : decode prog_94_method_7_code 23 = .ok (.iinc 4 1, 3) := by decide +kernel
theorem d3_26 : decode prog_94_method_7_code 26 = .ok (.goto (-21), 3) := by decide +kernel
theorem d3_29 : decode prog_94_method_7_code 29 = .ok (.lload_n 2, 1) := by decide +kernel
theorem d3_30 : decode prog_94_method_7_code 30 = .ok (.lreturn, 1) := by decide +kernel
theorem ef_3 (m : MethodId) (x0 : Addr) (x1 : Int32) : entryFrame m #[(.ref x0), (.int x1)] 5 = mkF m 0 #[.val (.ref x0), .val (.int x1), .unset, .unset, .unset] [] := by first | (simp [entryFrame, mkF, argsToLocals, Value.category]; done) | rfl
def Q3 (a1 : Addr) (p2 : Int32) (x3 : Addr) (k3 : ClassId) (z0 z1 z2 z3 z4 z5 z6 z7 z8 z9 z10 : Int64) (h0 : Heap) (n0 : Nat) (Z : State) (v : Option Value) (h : Heap) (L : List Loc) : Prop := v = some (.long (own_hs p2 z5 z6 z7 z8 z9)) ∧ Fr n0 L ∧ h = h0
set_option maxRecDepth 65536 in
set_option maxHeartbeats 40000000 in
theorem rm3 (l : Launch) (Z : State) (a0 : Array Value) (hw : ∀ d ∈ tables_1, d.before a0 Z = true) (ws : List Jvm.Cond) (a1 : Addr) (p2 : Int32) (x3 : Addr) (k3 : ClassId) (z0 z1 z2 z3 z4 z5 z6 z7 z8 z9 z10 : Int64) (h0 : Heap) (n0 : Nat) (Z0 : n0 ≤ h0.size) (F1 : Fld Z h0 a1 "com/example/expiry/expiry/service/TopicCounts" "figures" "[J" (.ref x3)) (V3 : Arv Z h0 x3 k3 .long (11 : Int32) [(.long z0), (.long z1), (.long z2), (.long z3), (.long z4), (.long z5), (.long z6), (.long z7), (.long z8), (.long z9), (.long z10)] (.long (0 : Int64))) (hbq : ¬ p2 < 0 ∧ p2 < 5) :
    MetFree l (⟨"com/example/expiry/expiry/service/TopicCounts", "getHandedOutWithin", "(I)J"⟩ : MethodName) (head1 (Jvm.Cond.code (⟨"com/example/expiry/expiry/service/TopicCounts", "getHandedOutWithin", "(I)J"⟩ : MethodName) prog_94_method_7_code 5 (some .long) :: ws) ({ frames := 0, cells := 0, slots := 0, locals := 0 } : Room)) (fun a U => a = #[(.ref a1), (.int p2)] ∧ Z.Warmed39 U.vm ∧ U.heap = h0) (fun _ _ _ _ _ => True) (fun _ U o U' => ∃ v L, o = .returned v ∧ Q3 a1 p2 x3 k3 z0 z1 z2 z3 z4 z5 z6 z7 z8 z9 z10 h0 n0 Z v U'.heap L ∧ FrameEnd U o U' L ({ frames := 0, cells := 0, slots := 0, locals := 0 } : Room).cells ({ frames := 0, cells := 0, slots := 0, locals := 0 } : Room).slots) := by
  refine MetFree.of_bodySF (plainFor_of_name pn_0) hisR ?_
  intro p e s m args below meth c s₁ Bd hml0 hP hK
  obtain ⟨rfl, hZ, hh⟩ := hP
  have hx := Bd.exec
  have hby := Bd.bytes
  have hml : c.maxLocals = 5 := hml0
  have hown : s.vm.findClass "com/example/expiry/expiry/service/TopicCounts" = some m.cls := findClass_of_methodNamed Bd.named
  have hnm := (name_of_methodNamed Bd.named Bd.method).1
  have hlk := Bd.notSynchronized
  have hrt := Bd.returns
  have X0 : Stand p l e ({ frames := 0, cells := 0, slots := 0, locals := 0 } : Room) s m #[(.ref a1), (.int p2)] below meth c s₁ [] 0 0 := Stand.of_body Bd
  have e0 : s₁.heap = h0 := by rw [← hh, Bd.state]; rfl
  have N0 := Fr.nil n0
  show own_Ends p e below s (Q3 a1 p2 x3 k3 z0 z1 z2 z3 z4 z5 z6 z7 z8 z9 z10 h0 n0 Z) ({ frames := 0, cells := 0, slots := 0, locals := 0 } : Room).cells ({ frames := 0, cells := 0, slots := 0, locals := 0 } : Room).slots (s₁.setTop (entryFrame m #[(.ref a1), (.int p2)] 5))
  rw [ef_3]
  refine own_go (fun _ k => XT.lconstV X0.here hx rfl (0 : Int64) (hb hby d3_0) rfl <| XS.lstoreN X0.here hx rfl (hb hby d3_1) rfl (l' := #[.val (.ref a1), .val (.int p2), .val (.long (0 : Int64)), .second, .unset]) rfl <| XT.iconstV X0.here hx rfl (0 : Int32) (hb hby d3_2) rfl <| XS.istore X0.here hx rfl (hb hby d3_3) rfl (l' := #[.val (.ref a1), .val (.int p2), .val (.long (0 : Int64)), .second, .val (.int (0 : Int32))]) rfl <| XS.iload X0.here hx rfl (hb hby d3_5) rfl <| XS.iloadN X0.here hx rfl (hb hby d3_7) rfl <| XS.icmpNo X0.here hx rfl (hb hby d3_8) rfl (flt hbq.1).2.2.1 <| XS.lloadN X0.here hx rfl (hb hby d3_11) rfl <| XS.aloadN X0.here hx rfl (hb hby d3_12) rfl rfl <| k) ?_
  show own_Ends p e below s _ _ _ (s₁.setTop (mkF m 13 #[.val (.ref a1), .val (.int p2), .val (.long (0 : Int64)), .second, .val (.int (0 : Int32))] [(.ref a1), (.long (0 : Int64))]))
  obtain ⟨T1, X1, e1, st1⟩ := getF X0 hx hZ hown (host := "") (Or.inl (hw _ (List.mem_of_getElem? (i := 12) rfl))) Via.refl e0 F1 (g := (mkF m 13 #[.val (.ref a1), .val (.int p2), .val (.long (0 : Int64)), .second, .val (.int (0 : Int32))] [(.ref a1), (.long (0 : Int64))])) rfl rfl (hb hby d3_13)
  refine own_go st1 ?_
  show own_Ends p e below s _ _ _ (T1.setTop (mkF m 16 #[.val (.ref a1), .val (.int p2), .val (.long (0 : Int64)), .second, .val (.int (0 : Int32))] [(.ref x3), (.long (0 : Int64))]))
  refine own_go (fun _ k => XT.iconstV X1.here hx rfl (5 : Int32) (hb hby d3_16) rfl <| XS.iload X1.here hx rfl (hb hby d3_17) rfl <| XS.iadd X1.here hx rfl (hb hby d3_19) rfl <| k) ?_
  show own_Ends p e below s _ _ _ (T1.setTop (mkF m 20 #[.val (.ref a1), .val (.int p2), .val (.long (0 : Int64)), .second, .val (.int (0 : Int32))] [(.int (5 : Int32)), (.ref x3), (.long (0 : Int64))]))
  obtain ⟨clx3_20_2, Arx3_20_2, qqx3_20_2, Szx3_20_2, Ngx3_20_2, Hsx3_20_2, Gfx3_20_2⟩ := id V3
  have hinx3_20_2 : ¬ ((5 : Int32) < 0 ∨ clx3_20_2.slots.size ≤ ((5 : Int32)).toNatClampNeg) := inb_of Szx3_20_2 ⟨by decide, by decide⟩
  have hatx3_20_2 : clx3_20_2.slots[((5 : Int32)).toNatClampNeg]? = some (.long z5) := Hsx3_20_2.at hinx3_20_2 rfl
  refine own_go (fun _ k => X1.laload hx (j := (5 : Int32)) (v := (.long z5)) (by rw [e1]; exact Arx3_20_2.1) (State.isArrayOf_alike hZ.alike Arx3_20_2.2.1) Arx3_20_2.2.2 hinx3_20_2 hatx3_20_2 (g := (mkF m 20 #[.val (.ref a1), .val (.int p2), .val (.long (0 : Int64)), .second, .val (.int (0 : Int32))] [(.int (5 : Int32)), (.ref x3), (.long (0 : Int64))])) rfl rfl (hb hby d3_20) _ k) ?_
  show own_Ends p e below s _ _ _ (T1.setTop (mkF m 21 #[.val (.ref a1), .val (.int p2), .val (.long (0 : Int64)), .second, .val (.int (0 : Int32))] [(.long z5), (.long (0 : Int64))]))
  refine own_go (fun _ k => XS.ladd X1.here hx rfl (hb hby d3_21) rfl <| XS.lstoreN X1.here hx rfl (hb hby d3_22) rfl (l' := #[.val (.ref a1), .val (.int p2), .val (.long ((0 : Int64) + z5)), .second, .val (.int (0 : Int32))]) rfl <| XT.iincV X1.here hx rfl (1 : Int32) (hb hby d3_23) rfl rfl (l' := #[.val (.ref a1), .val (.int p2), .val (.long ((0 : Int64) + z5)), .second, .val (.int (1 : Int32))]) rfl <| XS.goto X1.here hx rfl (pc0 := 26) (pc' := 5) rfl (hb hby d3_26) (by decide) (by decide) <| XS.iload X1.here hx rfl (hb hby d3_5) rfl <| XS.iloadN X1.here hx rfl (hb hby d3_7) rfl <| k) ?_
  show own_Ends p e below s _ _ _ (T1.setTop (mkF m 8 #[.val (.ref a1), .val (.int p2), .val (.long ((0 : Int64) + z5)), .second, .val (.int (1 : Int32))] [(.int p2), (.int (1 : Int32))]))
  by_cases hc8_3 : p2 < (1 : Int32)
  · -- true
    refine own_go (fun _ k => XS.icmpYes X1.here hx rfl (pc0 := 8) (pc' := 29) rfl (hb hby d3_8) rfl (tlt hc8_3).2.2.1 (by decide) (by decide) <| XS.lloadN X1.here hx rfl (hb hby d3_29) rfl <| k) ?_
    show own_Ends p e below s _ _ _ (T1.setTop (mkF m 30 #[.val (.ref a1), .val (.int p2), .val (.long ((0 : Int64) + z5)), .second, .val (.int (1 : Int32))] [(.long ((0 : Int64) + z5))]))
    exact own_ret X1 hx hrt rfl (Or.inr (Or.inl ⟨rfl, rfl, _, rfl⟩)) (hb hby d3_30) hlk (by rw [e1]; exact ⟨by rw [Int64.zero_add]; unfold own_hs; rw [if_pos hc8_3], N0, rfl⟩) (by decide) (by decide)
  · -- false
    refine own_go (fun _ k => XS.icmpNo X1.here hx rfl (hb hby d3_8) rfl (flt hc8_3).2.2.1 <| XS.lloadN X1.here hx rfl (hb hby d3_11) rfl <| XS.aloadN X1.here hx rfl (hb hby d3_12) rfl rfl <| k) ?_
    show own_Ends p e below s _ _ _ (T1.setTop (mkF m 13 #[.val (.ref a1), .val (.int p2), .val (.long ((0 : Int64) + z5)), .second, .val (.int (1 : Int32))] [(.ref a1), (.long ((0 : Int64) + z5))]))
    obtain ⟨T4, X4, e4, st4⟩ := getF X1 hx hZ hown (host := "") (Or.inl (hw _ (List.mem_of_getElem? (i := 12) rfl))) Via.refl e1 F1 (g := (mkF m 13 #[.val (.ref a1), .val (.int p2), .val (.long ((0 : Int64) + z5)), .second, .val (.int (1 : Int32))] [(.ref a1), (.long ((0 : Int64) + z5))])) rfl rfl (hb hby d3_13)
    refine own_go st4 ?_
    show own_Ends p e below s _ _ _ (T4.setTop (mkF m 16 #[.val (.ref a1), .val (.int p2), .val (.long ((0 : Int64) + z5)), .second, .val (.int (1 : Int32))] [(.ref x3), (.long ((0 : Int64) + z5))]))
    refine own_go (fun _ k => XT.iconstV X4.here hx rfl (5 : Int32) (hb hby d3_16) rfl <| XS.iload X4.here hx rfl (hb hby d3_17) rfl <| XS.iadd X4.here hx rfl (hb hby d3_19) rfl <| k) ?_
    show own_Ends p e below s _ _ _ (T4.setTop (mkF m 20 #[.val (.ref a1), .val (.int p2), .val (.long ((0 : Int64) + z5)), .second, .val (.int (1 : Int32))] [(.int (6 : Int32)), (.ref x3), (.long ((0 : Int64) + z5))]))
    obtain ⟨clx3_20_5, Arx3_20_5, qqx3_20_5, Szx3_20_5, Ngx3_20_5, Hsx3_20_5, Gfx3_20_5⟩ := id V3
    have hinx3_20_5 : ¬ ((6 : Int32) < 0 ∨ clx3_20_5.slots.size ≤ ((6 : Int32)).toNatClampNeg) := inb_of Szx3_20_5 ⟨by decide, by decide⟩
    have hatx3_20_5 : clx3_20_5.slots[((6 : Int32)).toNatClampNeg]? = some (.long z6) := Hsx3_20_5.at hinx3_20_5 rfl
    refine own_go (fun _ k => X4.laload hx (j := (6 : Int32)) (v := (.long z6)) (by rw [e4]; exact Arx3_20_5.1) (State.isArrayOf_alike hZ.alike Arx3_20_5.2.1) Arx3_20_5.2.2 hinx3_20_5 hatx3_20_5 (g := (mkF m 20 #[.val (.ref a1), .val (.int p2), .val (.long ((0 : Int64) + z5)), .second, .val (.int (1 : Int32))] [(.int (6 : Int32)), (.ref x3), (.long ((0 : Int64) + z5))])) rfl rfl (hb hby d3_20) _ k) ?_
    show own_Ends p e below s _ _ _ (T4.setTop (mkF m 21 #[.val (.ref a1), .val (.int p2), .val (.long ((0 : Int64) + z5)), .second, .val (.int (1 : Int32))] [(.long z6), (.long ((0 : Int64) + z5))]))
    refine own_go (fun _ k => XS.ladd X4.here hx rfl (hb hby d3_21) rfl <| XS.lstoreN X4.here hx rfl (hb hby d3_22) rfl (l' := #[.val (.ref a1), .val (.int p2), .val (.long (((0 : Int64) + z5) + z6)), .second, .val (.int (1 : Int32))]) rfl <| XT.iincV X4.here hx rfl (1 : Int32) (hb hby d3_23) rfl rfl (l' := #[.val (.ref a1), .val (.int p2), .val (.long (((0 : Int64) + z5) + z6)), .second, .val (.int (2 : Int32))]) rfl <| XS.goto X4.here hx rfl (pc0 := 26) (pc' := 5) rfl (hb hby d3_26) (by decide) (by decide) <| XS.iload X4.here hx rfl (hb hby d3_5) rfl <| XS.iloadN X4.here hx rfl (hb hby d3_7) rfl <| k) ?_
    show own_Ends p e below s _ _ _ (T4.setTop (mkF m 8 #[.val (.ref a1), .val (.int p2), .val (.long (((0 : Int64) + z5) + z6)), .second, .val (.int (2 : Int32))] [(.int p2), (.int (2 : Int32))]))
    by_cases hc8_6 : p2 < (2 : Int32)
    · -- true
      refine own_go (fun _ k => XS.icmpYes X4.here hx rfl (pc0 := 8) (pc' := 29) rfl (hb hby d3_8) rfl (tlt hc8_6).2.2.1 (by decide) (by decide) <| XS.lloadN X4.here hx rfl (hb hby d3_29) rfl <| k) ?_
      show own_Ends p e below s _ _ _ (T4.setTop (mkF m 30 #[.val (.ref a1), .val (.int p2), .val (.long (((0 : Int64) + z5) + z6)), .second, .val (.int (2 : Int32))] [(.long (((0 : Int64) + z5) + z6))]))
      exact own_ret X4 hx hrt rfl (Or.inr (Or.inl ⟨rfl, rfl, _, rfl⟩)) (hb hby d3_30) hlk (by rw [e4]; exact ⟨by rw [Int64.zero_add]; unfold own_hs; rw [if_neg hc8_3, if_pos hc8_6], N0, rfl⟩) (by decide) (by decide)
    · -- false
      refine own_go (fun _ k => XS.icmpNo X4.here hx rfl (hb hby d3_8) rfl (flt hc8_6).2.2.1 <| XS.lloadN X4.here hx rfl (hb hby d3_11) rfl <| XS.aloadN X4.here hx rfl (hb hby d3_12) rfl rfl <| k) ?_
      show own_Ends p e below s _ _ _ (T4.setTop (mkF m 13 #[.val (.ref a1), .val (.int p2), .val (.long (((0 : Int64) + z5) + z6)), .second, .val (.int (2 : Int32))] [(.ref a1), (.long (((0 : Int64) + z5) + z6))]))
      obtain ⟨T7, X7, e7, st7⟩ := getF X4 hx hZ hown (host := "") (Or.inl (hw _ (List.mem_of_getElem? (i := 12) rfl))) Via.refl e4 F1 (g := (mkF m 13 #[.val (.ref a1), .val (.int p2), .val (.long (((0 : Int64) + z5) + z6)), .second, .val (.int (2 : Int32))] [(.ref a1), (.long (((0 : Int64) + z5) + z6))])) rfl rfl (hb hby d3_13)
      refine own_go st7 ?_
      show own_Ends p e below s _ _ _ (T7.setTop (mkF m 16 #[.val (.ref a1), .val (.int p2), .val (.long (((0 : Int64) + z5) + z6)), .second, .val (.int (2 : Int32))] [(.ref x3), (.long (((0 : Int64) + z5) + z6))]))
      refine own_go (fun _ k => XT.iconstV X7.here hx rfl (5 : Int32) (hb hby d3_16) rfl <| XS.iload X7.here hx rfl (hb hby d3_17) rfl <| XS.iadd X7.here hx rfl (hb hby d3_19) rfl <| k) ?_
      show own_Ends p e below s _ _ _ (T7.setTop (mkF m 20 #[.val (.ref a1), .val (.int p2), .val (.long (((0 : Int64) + z5) + z6)), .second, .val (.int (2 : Int32))] [(.int (7 : Int32)), (.ref x3), (.long (((0 : Int64) + z5) + z6))]))
      obtain ⟨clx3_20_8, Arx3_20_8, qqx3_20_8, Szx3_20_8, Ngx3_20_8, Hsx3_20_8, Gfx3_20_8⟩ := id V3
      have hinx3_20_8 : ¬ ((7 : Int32) < 0 ∨ clx3_20_8.slots.size ≤ ((7 : Int32)).toNatClampNeg) := inb_of Szx3_20_8 ⟨by decide, by decide⟩
      have hatx3_20_8 : clx3_20_8.slots[((7 : Int32)).toNatClampNeg]? = some (.long z7) := Hsx3_20_8.at hinx3_20_8 rfl
      refine own_go (fun _ k => X7.laload hx (j := (7 : Int32)) (v := (.long z7)) (by rw [e7]; exact Arx3_20_8.1) (State.isArrayOf_alike hZ.alike Arx3_20_8.2.1) Arx3_20_8.2.2 hinx3_20_8 hatx3_20_8 (g := (mkF m 20 #[.val (.ref a1), .val (.int p2), .val (.long (((0 : Int64) + z5) + z6)), .second, .val (.int (2 : Int32))] [(.int (7 : Int32)), (.ref x3), (.long (((0 : Int64) + z5) + z6))])) rfl rfl (hb hby d3_20) _ k) ?_
      show own_Ends p e below s _ _ _ (T7.setTop (mkF m 21 #[.val (.ref a1), .val (.int p2), .val (.long (((0 : Int64) + z5) + z6)), .second, .val (.int (2 : Int32))] [(.long z7), (.long (((0 : Int64) + z5) + z6))]))
      refine own_go (fun _ k => XS.ladd X7.here hx rfl (hb hby d3_21) rfl <| XS.lstoreN X7.here hx rfl (hb hby d3_22) rfl (l' := #[.val (.ref a1), .val (.int p2), .val (.long ((((0 : Int64) + z5) + z6) + z7)), .second, .val (.int (2 : Int32))]) rfl <| XT.iincV X7.here hx rfl (1 : Int32) (hb hby d3_23) rfl rfl (l' := #[.val (.ref a1), .val (.int p2), .val (.long ((((0 : Int64) + z5) + z6) + z7)), .second, .val (.int (3 : Int32))]) rfl <| XS.goto X7.here hx rfl (pc0 := 26) (pc' := 5) rfl (hb hby d3_26) (by decide) (by decide) <| XS.iload X7.here hx rfl (hb hby d3_5) rfl <| XS.iloadN X7.here hx rfl (hb hby d3_7) rfl <| k) ?_
      show own_Ends p e below s _ _ _ (T7.setTop (mkF m 8 #[.val (.ref a1), .val (.int p2), .val (.long ((((0 : Int64) + z5) + z6) + z7)), .second, .val (.int (3 : Int32))] [(.int p2), (.int (3 : Int32))]))
      by_cases hc8_9 : p2 < (3 : Int32)
      · -- true
        refine own_go (fun _ k => XS.icmpYes X7.here hx rfl (pc0 := 8) (pc' := 29) rfl (hb hby d3_8) rfl (tlt hc8_9).2.2.1 (by decide) (by decide) <| XS.lloadN X7.here hx rfl (hb hby d3_29) rfl <| k) ?_
        show own_Ends p e below s _ _ _ (T7.setTop (mkF m 30 #[.val (.ref a1), .val (.int p2), .val (.long ((((0 : Int64) + z5) + z6) + z7)), .second, .val (.int (3 : Int32))] [(.long ((((0 : Int64) + z5) + z6) + z7))]))
        exact own_ret X7 hx hrt rfl (Or.inr (Or.inl ⟨rfl, rfl, _, rfl⟩)) (hb hby d3_30) hlk (by rw [e7]; exact ⟨by rw [Int64.zero_add]; unfold own_hs; rw [if_neg hc8_3, if_neg hc8_6, if_pos hc8_9], N0, rfl⟩) (by decide) (by decide)
      · -- false
        refine own_go (fun _ k => XS.icmpNo X7.here hx rfl (hb hby d3_8) rfl (flt hc8_9).2.2.1 <| XS.lloadN X7.here hx rfl (hb hby d3_11) rfl <| XS.aloadN X7.here hx rfl (hb hby d3_12) rfl rfl <| k) ?_
        show own_Ends p e below s _ _ _ (T7.setTop (mkF m 13 #[.val (.ref a1), .val (.int p2), .val (.long ((((0 : Int64) + z5) + z6) + z7)), .second, .val (.int (3 : Int32))] [(.ref a1), (.long ((((0 : Int64) + z5) + z6) + z7))]))
        obtain ⟨T10, X10, e10, st10⟩ := getF X7 hx hZ hown (host := "") (Or.inl (hw _ (List.mem_of_getElem? (i := 12) rfl))) Via.refl e7 F1 (g := (mkF m 13 #[.val (.ref a1), .val (.int p2), .val (.long ((((0 : Int64) + z5) + z6) + z7)), .second, .val (.int (3 : Int32))] [(.ref a1), (.long ((((0 : Int64) + z5) + z6) + z7))])) rfl rfl (hb hby d3_13)
        refine own_go st10 ?_
        show own_Ends p e below s _ _ _ (T10.setTop (mkF m 16 #[.val (.ref a1), .val (.int p2), .val (.long ((((0 : Int64) + z5) + z6) + z7)), .second, .val (.int (3 : Int32))] [(.ref x3), (.long ((((0 : Int64) + z5) + z6) + z7))]))
        refine own_go (fun _ k => XT.iconstV X10.here hx rfl (5 : Int32) (hb hby d3_16) rfl <| XS.iload X10.here hx rfl (hb hby d3_17) rfl <| XS.iadd X10.here hx rfl (hb hby d3_19) rfl <| k) ?_
        show own_Ends p e below s _ _ _ (T10.setTop (mkF m 20 #[.val (.ref a1), .val (.int p2), .val (.long ((((0 : Int64) + z5) + z6) + z7)), .second, .val (.int (3 : Int32))] [(.int (8 : Int32)), (.ref x3), (.long ((((0 : Int64) + z5) + z6) + z7))]))
        obtain ⟨clx3_20_11, Arx3_20_11, qqx3_20_11, Szx3_20_11, Ngx3_20_11, Hsx3_20_11, Gfx3_20_11⟩ := id V3
        have hinx3_20_11 : ¬ ((8 : Int32) < 0 ∨ clx3_20_11.slots.size ≤ ((8 : Int32)).toNatClampNeg) := inb_of Szx3_20_11 ⟨by decide, by decide⟩
        have hatx3_20_11 : clx3_20_11.slots[((8 : Int32)).toNatClampNeg]? = some (.long z8) := Hsx3_20_11.at hinx3_20_11 rfl
        refine own_go (fun _ k => X10.laload hx (j := (8 : Int32)) (v := (.long z8)) (by rw [e10]; exact Arx3_20_11.1) (State.isArrayOf_alike hZ.alike Arx3_20_11.2.1) Arx3_20_11.2.2 hinx3_20_11 hatx3_20_11 (g := (mkF m 20 #[.val (.ref a1), .val (.int p2), .val (.long ((((0 : Int64) + z5) + z6) + z7)), .second, .val (.int (3 : Int32))] [(.int (8 : Int32)), (.ref x3), (.long ((((0 : Int64) + z5) + z6) + z7))])) rfl rfl (hb hby d3_20) _ k) ?_
        show own_Ends p e below s _ _ _ (T10.setTop (mkF m 21 #[.val (.ref a1), .val (.int p2), .val (.long ((((0 : Int64) + z5) + z6) + z7)), .second, .val (.int (3 : Int32))] [(.long z8), (.long ((((0 : Int64) + z5) + z6) + z7))]))
        refine own_go (fun _ k => XS.ladd X10.here hx rfl (hb hby d3_21) rfl <| XS.lstoreN X10.here hx rfl (hb hby d3_22) rfl (l' := #[.val (.ref a1), .val (.int p2), .val (.long (((((0 : Int64) + z5) + z6) + z7) + z8)), .second, .val (.int (3 : Int32))]) rfl <| XT.iincV X10.here hx rfl (1 : Int32) (hb hby d3_23) rfl rfl (l' := #[.val (.ref a1), .val (.int p2), .val (.long (((((0 : Int64) + z5) + z6) + z7) + z8)), .second, .val (.int (4 : Int32))]) rfl <| XS.goto X10.here hx rfl (pc0 := 26) (pc' := 5) rfl (hb hby d3_26) (by decide) (by decide) <| XS.iload X10.here hx rfl (hb hby d3_5) rfl <| XS.iloadN X10.here hx rfl (hb hby d3_7) rfl <| k) ?_
        show own_Ends p e below s _ _ _ (T10.setTop (mkF m 8 #[.val (.ref a1), .val (.int p2), .val (.long (((((0 : Int64) + z5) + z6) + z7) + z8)), .second, .val (.int (4 : Int32))] [(.int p2), (.int (4 : Int32))]))
        by_cases hc8_12 : p2 < (4 : Int32)
        · -- true
          refine own_go (fun _ k => XS.icmpYes X10.here hx rfl (pc0 := 8) (pc' := 29) rfl (hb hby d3_8) rfl (tlt hc8_12).2.2.1 (by decide) (by decide) <| XS.lloadN X10.here hx rfl (hb hby d3_29) rfl <| k) ?_
          show own_Ends p e below s _ _ _ (T10.setTop (mkF m 30 #[.val (.ref a1), .val (.int p2), .val (.long (((((0 : Int64) + z5) + z6) + z7) + z8)), .second, .val (.int (4 : Int32))] [(.long (((((0 : Int64) + z5) + z6) + z7) + z8))]))
          exact own_ret X10 hx hrt rfl (Or.inr (Or.inl ⟨rfl, rfl, _, rfl⟩)) (hb hby d3_30) hlk (by rw [e10]; exact ⟨by rw [Int64.zero_add]; unfold own_hs; rw [if_neg hc8_3, if_neg hc8_6, if_neg hc8_9, if_pos hc8_12], N0, rfl⟩) (by decide) (by decide)
        · -- false
          refine own_go (fun _ k => XS.icmpNo X10.here hx rfl (hb hby d3_8) rfl (flt hc8_12).2.2.1 <| XS.lloadN X10.here hx rfl (hb hby d3_11) rfl <| XS.aloadN X10.here hx rfl (hb hby d3_12) rfl rfl <| k) ?_
          show own_Ends p e below s _ _ _ (T10.setTop (mkF m 13 #[.val (.ref a1), .val (.int p2), .val (.long (((((0 : Int64) + z5) + z6) + z7) + z8)), .second, .val (.int (4 : Int32))] [(.ref a1), (.long (((((0 : Int64) + z5) + z6) + z7) + z8))]))
          obtain ⟨T13, X13, e13, st13⟩ := getF X10 hx hZ hown (host := "") (Or.inl (hw _ (List.mem_of_getElem? (i := 12) rfl))) Via.refl e10 F1 (g := (mkF m 13 #[.val (.ref a1), .val (.int p2), .val (.long (((((0 : Int64) + z5) + z6) + z7) + z8)), .second, .val (.int (4 : Int32))] [(.ref a1), (.long (((((0 : Int64) + z5) + z6) + z7) + z8))])) rfl rfl (hb hby d3_13)
          refine own_go st13 ?_
          show own_Ends p e below s _ _ _ (T13.setTop (mkF m 16 #[.val (.ref a1), .val (.int p2), .val (.long (((((0 : Int64) + z5) + z6) + z7) + z8)), .second, .val (.int (4 : Int32))] [(.ref x3), (.long (((((0 : Int64) + z5) + z6) + z7) + z8))]))
          refine own_go (fun _ k => XT.iconstV X13.here hx rfl (5 : Int32) (hb hby d3_16) rfl <| XS.iload X13.here hx rfl (hb hby d3_17) rfl <| XS.iadd X13.here hx rfl (hb hby d3_19) rfl <| k) ?_
          show own_Ends p e below s _ _ _ (T13.setTop (mkF m 20 #[.val (.ref a1), .val (.int p2), .val (.long (((((0 : Int64) + z5) + z6) + z7) + z8)), .second, .val (.int (4 : Int32))] [(.int (9 : Int32)), (.ref x3), (.long (((((0 : Int64) + z5) + z6) + z7) + z8))]))
          obtain ⟨clx3_20_14, Arx3_20_14, qqx3_20_14, Szx3_20_14, Ngx3_20_14, Hsx3_20_14, Gfx3_20_14⟩ := id V3
          have hinx3_20_14 : ¬ ((9 : Int32) < 0 ∨ clx3_20_14.slots.size ≤ ((9 : Int32)).toNatClampNeg) := inb_of Szx3_20_14 ⟨by decide, by decide⟩
          have hatx3_20_14 : clx3_20_14.slots[((9 : Int32)).toNatClampNeg]? = some (.long z9) := Hsx3_20_14.at hinx3_20_14 rfl
          refine own_go (fun _ k => X13.laload hx (j := (9 : Int32)) (v := (.long z9)) (by rw [e13]; exact Arx3_20_14.1) (State.isArrayOf_alike hZ.alike Arx3_20_14.2.1) Arx3_20_14.2.2 hinx3_20_14 hatx3_20_14 (g := (mkF m 20 #[.val (.ref a1), .val (.int p2), .val (.long (((((0 : Int64) + z5) + z6) + z7) + z8)), .second, .val (.int (4 : Int32))] [(.int (9 : Int32)), (.ref x3), (.long (((((0 : Int64) + z5) + z6) + z7) + z8))])) rfl rfl (hb hby d3_20) _ k) ?_
          show own_Ends p e below s _ _ _ (T13.setTop (mkF m 21 #[.val (.ref a1), .val (.int p2), .val (.long (((((0 : Int64) + z5) + z6) + z7) + z8)), .second, .val (.int (4 : Int32))] [(.long z9), (.long (((((0 : Int64) + z5) + z6) + z7) + z8))]))
          refine own_go (fun _ k => XS.ladd X13.here hx rfl (hb hby d3_21) rfl <| XS.lstoreN X13.here hx rfl (hb hby d3_22) rfl (l' := #[.val (.ref a1), .val (.int p2), .val (.long ((((((0 : Int64) + z5) + z6) + z7) + z8) + z9)), .second, .val (.int (4 : Int32))]) rfl <| XT.iincV X13.here hx rfl (1 : Int32) (hb hby d3_23) rfl rfl (l' := #[.val (.ref a1), .val (.int p2), .val (.long ((((((0 : Int64) + z5) + z6) + z7) + z8) + z9)), .second, .val (.int (5 : Int32))]) rfl <| XS.goto X13.here hx rfl (pc0 := 26) (pc' := 5) rfl (hb hby d3_26) (by decide) (by decide) <| XS.iload X13.here hx rfl (hb hby d3_5) rfl <| XS.iloadN X13.here hx rfl (hb hby d3_7) rfl <| XS.icmpYes X13.here hx rfl (pc0 := 8) (pc' := 29) rfl (hb hby d3_8) rfl (tlt hbq.2).2.2.1 (by decide) (by decide) <| XS.lloadN X13.here hx rfl (hb hby d3_29) rfl <| k) ?_
          show own_Ends p e below s _ _ _ (T13.setTop (mkF m 30 #[.val (.ref a1), .val (.int p2), .val (.long ((((((0 : Int64) + z5) + z6) + z7) + z8) + z9)), .second, .val (.int (5 : Int32))] [(.long ((((((0 : Int64) + z5) + z6) + z7) + z8) + z9))]))
          exact own_ret X13 hx hrt rfl (Or.inr (Or.inl ⟨rfl, rfl, _, rfl⟩)) (hb hby d3_30) hlk (by rw [e13]; exact ⟨by rw [Int64.zero_add]; unfold own_hs; rw [if_neg hc8_3, if_neg hc8_6, if_neg hc8_9, if_neg hc8_12], N0, rfl⟩) (by decide) (by decide)
theorem pn_1 : plainName "com/example/expiry/expiry/service/TopicCountsGetHandedOutWithinPinLaw" = true := by first | (simp [plainName, overriddenIn]; done) | decide +kernel
theorem ef_0 (m : MethodId) (x0 : Int64) (x1 : Int64) (x2 : Int64) (x3 : Int64) (x4 : Int64) (x5 : Int32) : entryFrame m #[(.long x0), (.long x1), (.long x2), (.long x3), (.long x4), (.int x5)] maxLocals = mkF m 0 #[.val (.long x0), .second, .val (.long x1), .second, .val (.long x2), .second, .val (.long x3), .second, .val (.long x4), .second, .val (.int x5), .unset, .unset, .unset, .unset, .unset] [] := by first | (simp [entryFrame, mkF, argsToLocals, Value.category, maxLocals]; done) | rfl
def Q0 (q1 : Int64) (q2 : Int64) (q3 : Int64) (q4 : Int64) (q5 : Int64) (p6 : Int32) (h0 : Heap) (n0 : Nat) (Z : State) (v : Option Value) (h : Heap) (L : List Loc) : Prop := v = some (.int 1) ∧ Fr n0 L
set_option maxRecDepth 65536 in
set_option maxHeartbeats 40000000 in
theorem rm0 (l : Launch) (Z : State) (a0 : Array Value) (hw : ∀ d ∈ tables_1, d.before a0 Z = true) (ws : List Jvm.Cond) (q1 : Int64) (q2 : Int64) (q3 : Int64) (q4 : Int64) (q5 : Int64) (p6 : Int32) (h0 : Heap) (n0 : Nat) (Z0 : n0 ≤ h0.size) :
    MetFree l x (head1 (Jvm.Cond.code x code maxLocals ret :: ws) room_1) (fun a U => a = #[(.long q1), (.long q2), (.long q3), (.long q4), (.long q5), (.int p6)] ∧ Z.Warmed39 U.vm ∧ U.heap = h0) (fun _ _ _ _ _ => True) (fun _ U o U' => ∃ v L, o = .returned v ∧ Q0 q1 q2 q3 q4 q5 p6 h0 n0 Z v U'.heap L ∧ FrameEnd U o U' L room_1.cells room_1.slots) := by
  refine MetFree.of_bodySF (plainFor_of_name pn_1) hisR ?_
  intro p e s m args below meth c s₁ Bd hml0 hP hK
  obtain ⟨rfl, hZ, hh⟩ := hP
  have hx := Bd.exec
  have hby := Bd.bytes
  have hml : c.maxLocals = 16 := hml0
  have hown : s.vm.findClass "com/example/expiry/expiry/service/TopicCountsGetHandedOutWithinPinLaw" = some m.cls := findClass_of_methodNamed Bd.named
  have hnm := (name_of_methodNamed Bd.named Bd.method).1
  have hlk := Bd.notSynchronized
  have hrt := Bd.returns
  have X0 : Stand p l e room_1 s m #[(.long q1), (.long q2), (.long q3), (.long q4), (.long q5), (.int p6)] below meth c s₁ [] 0 0 := Stand.of_body Bd
  have e0 : s₁.heap = h0 := by rw [← hh, Bd.state]; rfl
  have N0 := Fr.nil n0
  show own_Ends p e below s (Q0 q1 q2 q3 q4 q5 p6 h0 n0 Z) room_1.cells room_1.slots (s₁.setTop (entryFrame m #[(.long q1), (.long q2), (.long q3), (.long q4), (.long q5), (.int p6)] maxLocals))
  rw [ef_0]
  refine own_go (fun _ k => XS.iload X0.here hx rfl (hb hby at_0) rfl <| X0.ldcI hx hown (mvT hZ (hw _ (List.mem_of_getElem? (i := 0) rfl))) rfl (hb hby at_2) <| XS.iand X0.here hx rfl (hb hby at_4) rfl <| XT.iconstV X0.here hx rfl (5 : Int32) (hb hby at_5) rfl <| iremM X0 hx rfl (hb hby at_6) rfl (by decide) <| k) ?_
  show own_Ends p e below s _ _ _ (s₁.setTop (mkF m 7 #[.val (.long q1), .second, .val (.long q2), .second, .val (.long q3), .second, .val (.long q4), .second, .val (.long q5), .second, .val (.int p6), .unset, .unset, .unset, .unset, .unset] [(.int ((p6 &&& (2147483647 : Int32)) % (5 : Int32)))]))
  have hbd := own_bd p6
  generalize ((p6 &&& (2147483647 : Int32)) % (5 : Int32)) = bd at hbd ⊢
  show own_Ends p e below s _ _ _ (s₁.setTop (mkF m 7 #[.val (.long q1), .second, .val (.long q2), .second, .val (.long q3), .second, .val (.long q4), .second, .val (.long q5), .second, .val (.int p6), .unset, .unset, .unset, .unset, .unset] [(.int bd)]))
  refine own_go (fun _ k => XS.istore X0.here hx rfl (hb hby at_7) rfl (l' := #[.val (.long q1), .second, .val (.long q2), .second, .val (.long q3), .second, .val (.long q4), .second, .val (.long q5), .second, .val (.int p6), .val (.int bd), .unset, .unset, .unset, .unset]) rfl <| XT.bipushV X0.here hx rfl (11 : Int32) (hb hby at_9) rfl <| k) ?_
  show own_Ends p e below s _ _ _ (s₁.setTop (mkF m 11 #[.val (.long q1), .second, .val (.long q2), .second, .val (.long q3), .second, .val (.long q4), .second, .val (.long q5), .second, .val (.int p6), .val (.int bd), .unset, .unset, .unset, .unset] [(.int (11 : Int32))]))
  obtain ⟨T1, h1, k1, X1, e1, E1, A1, st1⟩ := newP X0 hx hZ (hw _ (List.mem_of_getElem? (i := 1) rfl)) e0 (g := (mkF m 11 #[.val (.long q1), .second, .val (.long q2), .second, .val (.long q3), .second, .val (.long q4), .second, .val (.long q5), .second, .val (.int p6), .val (.int bd), .unset, .unset, .unset, .unset] [(.int (11 : Int32))])) rfl (hb hby at_11) rfl (by decide) (cap := 11) (by decide) (by decide) (by decide) (by decide)
  obtain ⟨b1, g1⟩ : ∃ z, z = h0.size := ⟨_, rfl⟩
  rw [← g1] at A1 st1
  refine own_go st1 ?_
  have g_b1 : n0 ≤ b1 := Nat.le_trans Z0 (Nat.le_of_eq g1.symm)
  have Z1 := Nat.le_trans Z0 E1.1
  have V_b1 : Arv Z h1 b1 k1 .long (11 : Int32) [(.long (0 : Int64)), (.long (0 : Int64)), (.long (0 : Int64)), (.long (0 : Int64)), (.long (0 : Int64)), (.long (0 : Int64)), (.long (0 : Int64)), (.long (0 : Int64)), (.long (0 : Int64)), (.long (0 : Int64)), (.long (0 : Int64))] (.long (0 : Int64)) := (Arv.new A1 (by decide)).pad (pad_rep [] (.long (0 : Int64)) 11)
  show own_Ends p e below s _ _ _ (T1.setTop (mkF m 13 #[.val (.long q1), .second, .val (.long q2), .second, .val (.long q3), .second, .val (.long q4), .second, .val (.long q5), .second, .val (.int p6), .val (.int bd), .unset, .unset, .unset, .unset] [(.ref b1)]))
  refine own_go (fun _ k => XS.astore X1.here hx rfl (hb hby at_13) rfl rfl (l' := #[.val (.long q1), .second, .val (.long q2), .second, .val (.long q3), .second, .val (.long q4), .second, .val (.long q5), .second, .val (.int p6), .val (.int bd), .val (.ref b1), .unset, .unset, .unset]) rfl <| XS.aload X1.here hx rfl (hb hby at_15) rfl rfl <| XT.iconstV X1.here hx rfl (0 : Int32) (hb hby at_17) rfl <| XS.lload X1.here hx rfl (hb hby at_18) rfl <| XS.lload X1.here hx rfl (hb hby at_20) rfl <| XS.lxor X1.here hx rfl (hb hby at_22) rfl <| k) ?_
  show own_Ends p e below s _ _ _ (T1.setTop (mkF m 23 #[.val (.long q1), .second, .val (.long q2), .second, .val (.long q3), .second, .val (.long q4), .second, .val (.long q5), .second, .val (.int p6), .val (.int bd), .val (.ref b1), .unset, .unset, .unset] [(.long (q4 ^^^ q5)), (.int (0 : Int32)), (.ref b1)]))
  obtain ⟨clb1_23_2, Arb1_23_2, qqb1_23_2, Szb1_23_2, Ngb1_23_2, Hsb1_23_2, Gfb1_23_2⟩ := id V_b1
  have hinb1_23_2 : ¬ ((0 : Int32) < 0 ∨ clb1_23_2.slots.size ≤ ((0 : Int32)).toNatClampNeg) := inb_of Szb1_23_2 ⟨by decide, by decide⟩
  obtain ⟨T3, h3, X3, e3, W3, st3⟩ := stJ X1 hx hZ e1 Arb1_23_2 (j := (0 : Int32)) hinb1_23_2 (g := (mkF m 23 #[.val (.long q1), .second, .val (.long q2), .second, .val (.long q3), .second, .val (.long q4), .second, .val (.long q5), .second, .val (.int p6), .val (.int bd), .val (.ref b1), .unset, .unset, .unset] [(.long (q4 ^^^ q5)), (.int (0 : Int32)), (.ref b1)])) rfl rfl (hb hby at_23)
  refine own_go st3 ?_
  have Z3 := Nat.le_trans Z1 (Keep.of_wr W3).1
  have N3 := Fr.snoc X3 N0 g_b1
  have V_b1'3 : Arv Z h3 b1 k1 .long (11 : Int32) [(.long (q4 ^^^ q5)), (.long (0 : Int64)), (.long (0 : Int64)), (.long (0 : Int64)), (.long (0 : Int64)), (.long (0 : Int64)), (.long (0 : Int64)), (.long (0 : Int64)), (.long (0 : Int64)), (.long (0 : Int64)), (.long (0 : Int64))] (.long (0 : Int64)) := Arv.set Arb1_23_2 qqb1_23_2 Szb1_23_2 Ngb1_23_2 Hsb1_23_2 Gfb1_23_2 rfl W3 0 rfl (Nat.le_of_ble_eq_true rfl)
  show own_Ends p e below s _ _ _ (T3.setTop (mkF m 24 #[.val (.long q1), .second, .val (.long q2), .second, .val (.long q3), .second, .val (.long q4), .second, .val (.long q5), .second, .val (.int p6), .val (.int bd), .val (.ref b1), .unset, .unset, .unset] []))
  refine own_go (fun _ k => XS.aload X3.here hx rfl (hb hby at_24) rfl rfl <| XT.iconstV X3.here hx rfl (1 : Int32) (hb hby at_26) rfl <| XS.lloadN X3.here hx rfl (hb hby at_27) rfl <| XS.lloadN X3.here hx rfl (hb hby at_28) rfl <| XS.ladd X3.here hx rfl (hb hby at_29) rfl <| k) ?_
  show own_Ends p e below s _ _ _ (T3.setTop (mkF m 30 #[.val (.long q1), .second, .val (.long q2), .second, .val (.long q3), .second, .val (.long q4), .second, .val (.long q5), .second, .val (.int p6), .val (.int bd), .val (.ref b1), .unset, .unset, .unset] [(.long (q1 + q2)), (.int (1 : Int32)), (.ref b1)]))
  obtain ⟨clb1_30_4, Arb1_30_4, qqb1_30_4, Szb1_30_4, Ngb1_30_4, Hsb1_30_4, Gfb1_30_4⟩ := id V_b1'3
  have hinb1_30_4 : ¬ ((1 : Int32) < 0 ∨ clb1_30_4.slots.size ≤ ((1 : Int32)).toNatClampNeg) := inb_of Szb1_30_4 ⟨by decide, by decide⟩
  obtain ⟨T5, h5, X5, e5, W5, st5⟩ := stJ X3 hx hZ e3 Arb1_30_4 (j := (1 : Int32)) hinb1_30_4 (g := (mkF m 30 #[.val (.long q1), .second, .val (.long q2), .second, .val (.long q3), .second, .val (.long q4), .second, .val (.long q5), .second, .val (.int p6), .val (.int bd), .val (.ref b1), .unset, .unset, .unset] [(.long (q1 + q2)), (.int (1 : Int32)), (.ref b1)])) rfl rfl (hb hby at_30)
  refine own_go st5 ?_
  have Z5 := Nat.le_trans Z3 (Keep.of_wr W5).1
  have N5 := Fr.snoc X5 N3 g_b1
  have V_b1'5 : Arv Z h5 b1 k1 .long (11 : Int32) [(.long (q4 ^^^ q5)), (.long (q1 + q2)), (.long (0 : Int64)), (.long (0 : Int64)), (.long (0 : Int64)), (.long (0 : Int64)), (.long (0 : Int64)), (.long (0 : Int64)), (.long (0 : Int64)), (.long (0 : Int64)), (.long (0 : Int64))] (.long (0 : Int64)) := Arv.set Arb1_30_4 qqb1_30_4 Szb1_30_4 Ngb1_30_4 Hsb1_30_4 Gfb1_30_4 rfl W5 1 rfl (Nat.le_of_ble_eq_true rfl)
  show own_Ends p e below s _ _ _ (T5.setTop (mkF m 31 #[.val (.long q1), .second, .val (.long q2), .second, .val (.long q3), .second, .val (.long q4), .second, .val (.long q5), .second, .val (.int p6), .val (.int bd), .val (.ref b1), .unset, .unset, .unset] []))
  refine own_go (fun _ k => XS.aload X5.here hx rfl (hb hby at_31) rfl rfl <| XT.iconstV X5.here hx rfl (2 : Int32) (hb hby at_33) rfl <| XS.lload X5.here hx rfl (hb hby at_34) rfl <| XS.lload X5.here hx rfl (hb hby at_36) rfl <| XS.lsub X5.here hx rfl (hb hby at_38) rfl <| k) ?_
  show own_Ends p e below s _ _ _ (T5.setTop (mkF m 39 #[.val (.long q1), .second, .val (.long q2), .second, .val (.long q3), .second, .val (.long q4), .second, .val (.long q5), .second, .val (.int p6), .val (.int bd), .val (.ref b1), .unset, .unset, .unset] [(.long (q3 - q4)), (.int (2 : Int32)), (.ref b1)]))
  obtain ⟨clb1_39_6, Arb1_39_6, qqb1_39_6, Szb1_39_6, Ngb1_39_6, Hsb1_39_6, Gfb1_39_6⟩ := id V_b1'5
  have hinb1_39_6 : ¬ ((2 : Int32) < 0 ∨ clb1_39_6.slots.size ≤ ((2 : Int32)).toNatClampNeg) := inb_of Szb1_39_6 ⟨by decide, by decide⟩
  obtain ⟨T7, h7, X7, e7, W7, st7⟩ := stJ X5 hx hZ e5 Arb1_39_6 (j := (2 : Int32)) hinb1_39_6 (g := (mkF m 39 #[.val (.long q1), .second, .val (.long q2), .second, .val (.long q3), .second, .val (.long q4), .second, .val (.long q5), .second, .val (.int p6), .val (.int bd), .val (.ref b1), .unset, .unset, .unset] [(.long (q3 - q4)), (.int (2 : Int32)), (.ref b1)])) rfl rfl (hb hby at_39)
  refine own_go st7 ?_
  have Z7 := Nat.le_trans Z5 (Keep.of_wr W7).1
  have N7 := Fr.snoc X7 N5 g_b1
  have V_b1'7 : Arv Z h7 b1 k1 .long (11 : Int32) [(.long (q4 ^^^ q5)), (.long (q1 + q2)), (.long (q3 - q4)), (.long (0 : Int64)), (.long (0 : Int64)), (.long (0 : Int64)), (.long (0 : Int64)), (.long (0 : Int64)), (.long (0 : Int64)), (.long (0 : Int64)), (.long (0 : Int64))] (.long (0 : Int64)) := Arv.set Arb1_39_6 qqb1_39_6 Szb1_39_6 Ngb1_39_6 Hsb1_39_6 Gfb1_39_6 rfl W7 2 rfl (Nat.le_of_ble_eq_true rfl)
  show own_Ends p e below s _ _ _ (T7.setTop (mkF m 40 #[.val (.long q1), .second, .val (.long q2), .second, .val (.long q3), .second, .val (.long q4), .second, .val (.long q5), .second, .val (.int p6), .val (.int bd), .val (.ref b1), .unset, .unset, .unset] []))
  refine own_go (fun _ k => XS.aload X7.here hx rfl (hb hby at_40) rfl rfl <| XT.iconstV X7.here hx rfl (3 : Int32) (hb hby at_42) rfl <| XS.lload X7.here hx rfl (hb hby at_43) rfl <| X7.ldc2J hx hown (mvT hZ (hw _ (List.mem_of_getElem? (i := 2) rfl))) rfl (hb hby at_45) <| XS.lxor X7.here hx rfl (hb hby at_48) rfl <| k) ?_
  show own_Ends p e below s _ _ _ (T7.setTop (mkF m 49 #[.val (.long q1), .second, .val (.long q2), .second, .val (.long q3), .second, .val (.long q4), .second, .val (.long q5), .second, .val (.int p6), .val (.int bd), .val (.ref b1), .unset, .unset, .unset] [(.long (q5 ^^^ (-1 : Int64))), (.int (3 : Int32)), (.ref b1)]))
  obtain ⟨clb1_49_8, Arb1_49_8, qqb1_49_8, Szb1_49_8, Ngb1_49_8, Hsb1_49_8, Gfb1_49_8⟩ := id V_b1'7
  have hinb1_49_8 : ¬ ((3 : Int32) < 0 ∨ clb1_49_8.slots.size ≤ ((3 : Int32)).toNatClampNeg) := inb_of Szb1_49_8 ⟨by decide, by decide⟩
  obtain ⟨T9, h9, X9, e9, W9, st9⟩ := stJ X7 hx hZ e7 Arb1_49_8 (j := (3 : Int32)) hinb1_49_8 (g := (mkF m 49 #[.val (.long q1), .second, .val (.long q2), .second, .val (.long q3), .second, .val (.long q4), .second, .val (.long q5), .second, .val (.int p6), .val (.int bd), .val (.ref b1), .unset, .unset, .unset] [(.long (q5 ^^^ (-1 : Int64))), (.int (3 : Int32)), (.ref b1)])) rfl rfl (hb hby at_49)
  refine own_go st9 ?_
  have Z9 := Nat.le_trans Z7 (Keep.of_wr W9).1
  have N9 := Fr.snoc X9 N7 g_b1
  have V_b1'9 : Arv Z h9 b1 k1 .long (11 : Int32) [(.long (q4 ^^^ q5)), (.long (q1 + q2)), (.long (q3 - q4)), (.long (q5 ^^^ (-1 : Int64))), (.long (0 : Int64)), (.long (0 : Int64)), (.long (0 : Int64)), (.long (0 : Int64)), (.long (0 : Int64)), (.long (0 : Int64)), (.long (0 : Int64))] (.long (0 : Int64)) := Arv.set Arb1_49_8 qqb1_49_8 Szb1_49_8 Ngb1_49_8 Hsb1_49_8 Gfb1_49_8 rfl W9 3 rfl (Nat.le_of_ble_eq_true rfl)
  show own_Ends p e below s _ _ _ (T9.setTop (mkF m 50 #[.val (.long q1), .second, .val (.long q2), .second, .val (.long q3), .second, .val (.long q4), .second, .val (.long q5), .second, .val (.int p6), .val (.int bd), .val (.ref b1), .unset, .unset, .unset] []))
  refine own_go (fun _ k => XS.aload X9.here hx rfl (hb hby at_50) rfl rfl <| XT.iconstV X9.here hx rfl (4 : Int32) (hb hby at_52) rfl <| XS.lloadN X9.here hx rfl (hb hby at_53) rfl <| X9.ldc2J hx hown (mvT hZ (hw _ (List.mem_of_getElem? (i := 2) rfl))) rfl (hb hby at_54) <| XS.lxor X9.here hx rfl (hb hby at_57) rfl <| k) ?_
  show own_Ends p e below s _ _ _ (T9.setTop (mkF m 58 #[.val (.long q1), .second, .val (.long q2), .second, .val (.long q3), .second, .val (.long q4), .second, .val (.long q5), .second, .val (.int p6), .val (.int bd), .val (.ref b1), .unset, .unset, .unset] [(.long (q1 ^^^ (-1 : Int64))), (.int (4 : Int32)), (.ref b1)]))
  obtain ⟨clb1_58_10, Arb1_58_10, qqb1_58_10, Szb1_58_10, Ngb1_58_10, Hsb1_58_10, Gfb1_58_10⟩ := id V_b1'9
  have hinb1_58_10 : ¬ ((4 : Int32) < 0 ∨ clb1_58_10.slots.size ≤ ((4 : Int32)).toNatClampNeg) := inb_of Szb1_58_10 ⟨by decide, by decide⟩
  obtain ⟨T11, h11, X11, e11, W11, st11⟩ := stJ X9 hx hZ e9 Arb1_58_10 (j := (4 : Int32)) hinb1_58_10 (g := (mkF m 58 #[.val (.long q1), .second, .val (.long q2), .second, .val (.long q3), .second, .val (.long q4), .second, .val (.long q5), .second, .val (.int p6), .val (.int bd), .val (.ref b1), .unset, .unset, .unset] [(.long (q1 ^^^ (-1 : Int64))), (.int (4 : Int32)), (.ref b1)])) rfl rfl (hb hby at_58)
  refine own_go st11 ?_
  have Z11 := Nat.le_trans Z9 (Keep.of_wr W11).1
  have N11 := Fr.snoc X11 N9 g_b1
  have V_b1'11 : Arv Z h11 b1 k1 .long (11 : Int32) [(.long (q4 ^^^ q5)), (.long (q1 + q2)), (.long (q3 - q4)), (.long (q5 ^^^ (-1 : Int64))), (.long (q1 ^^^ (-1 : Int64))), (.long (0 : Int64)), (.long (0 : Int64)), (.long (0 : Int64)), (.long (0 : Int64)), (.long (0 : Int64)), (.long (0 : Int64))] (.long (0 : Int64)) := Arv.set Arb1_58_10 qqb1_58_10 Szb1_58_10 Ngb1_58_10 Hsb1_58_10 Gfb1_58_10 rfl W11 4 rfl (Nat.le_of_ble_eq_true rfl)
  show own_Ends p e below s _ _ _ (T11.setTop (mkF m 59 #[.val (.long q1), .second, .val (.long q2), .second, .val (.long q3), .second, .val (.long q4), .second, .val (.long q5), .second, .val (.int p6), .val (.int bd), .val (.ref b1), .unset, .unset, .unset] []))
  refine own_go (fun _ k => XS.aload X11.here hx rfl (hb hby at_59) rfl rfl <| XT.iconstV X11.here hx rfl (5 : Int32) (hb hby at_61) rfl <| XS.lloadN X11.here hx rfl (hb hby at_62) rfl <| k) ?_
  show own_Ends p e below s _ _ _ (T11.setTop (mkF m 63 #[.val (.long q1), .second, .val (.long q2), .second, .val (.long q3), .second, .val (.long q4), .second, .val (.long q5), .second, .val (.int p6), .val (.int bd), .val (.ref b1), .unset, .unset, .unset] [(.long q1), (.int (5 : Int32)), (.ref b1)]))
  obtain ⟨clb1_63_12, Arb1_63_12, qqb1_63_12, Szb1_63_12, Ngb1_63_12, Hsb1_63_12, Gfb1_63_12⟩ := id V_b1'11
  have hinb1_63_12 : ¬ ((5 : Int32) < 0 ∨ clb1_63_12.slots.size ≤ ((5 : Int32)).toNatClampNeg) := inb_of Szb1_63_12 ⟨by decide, by decide⟩
  obtain ⟨T13, h13, X13, e13, W13, st13⟩ := stJ X11 hx hZ e11 Arb1_63_12 (j := (5 : Int32)) hinb1_63_12 (g := (mkF m 63 #[.val (.long q1), .second, .val (.long q2), .second, .val (.long q3), .second, .val (.long q4), .second, .val (.long q5), .second, .val (.int p6), .val (.int bd), .val (.ref b1), .unset, .unset, .unset] [(.long q1), (.int (5 : Int32)), (.ref b1)])) rfl rfl (hb hby at_63)
  refine own_go st13 ?_
  have Z13 := Nat.le_trans Z11 (Keep.of_wr W13).1
  have N13 := Fr.snoc X13 N11 g_b1
  have V_b1'13 : Arv Z h13 b1 k1 .long (11 : Int32) [(.long (q4 ^^^ q5)), (.long (q1 + q2)), (.long (q3 - q4)), (.long (q5 ^^^ (-1 : Int64))), (.long (q1 ^^^ (-1 : Int64))), (.long q1), (.long (0 : Int64)), (.long (0 : Int64)), (.long (0 : Int64)), (.long (0 : Int64)), (.long (0 : Int64))] (.long (0 : Int64)) := Arv.set Arb1_63_12 qqb1_63_12 Szb1_63_12 Ngb1_63_12 Hsb1_63_12 Gfb1_63_12 rfl W13 5 rfl (Nat.le_of_ble_eq_true rfl)
  show own_Ends p e below s _ _ _ (T13.setTop (mkF m 64 #[.val (.long q1), .second, .val (.long q2), .second, .val (.long q3), .second, .val (.long q4), .second, .val (.long q5), .second, .val (.int p6), .val (.int bd), .val (.ref b1), .unset, .unset, .unset] []))
  refine own_go (fun _ k => XS.aload X13.here hx rfl (hb hby at_64) rfl rfl <| XT.bipushV X13.here hx rfl (6 : Int32) (hb hby at_66) rfl <| XS.lloadN X13.here hx rfl (hb hby at_68) rfl <| k) ?_
  show own_Ends p e below s _ _ _ (T13.setTop (mkF m 69 #[.val (.long q1), .second, .val (.long q2), .second, .val (.long q3), .second, .val (.long q4), .second, .val (.long q5), .second, .val (.int p6), .val (.int bd), .val (.ref b1), .unset, .unset, .unset] [(.long q2), (.int (6 : Int32)), (.ref b1)]))
  obtain ⟨clb1_69_14, Arb1_69_14, qqb1_69_14, Szb1_69_14, Ngb1_69_14, Hsb1_69_14, Gfb1_69_14⟩ := id V_b1'13
  have hinb1_69_14 : ¬ ((6 : Int32) < 0 ∨ clb1_69_14.slots.size ≤ ((6 : Int32)).toNatClampNeg) := inb_of Szb1_69_14 ⟨by decide, by decide⟩
  obtain ⟨T15, h15, X15, e15, W15, st15⟩ := stJ X13 hx hZ e13 Arb1_69_14 (j := (6 : Int32)) hinb1_69_14 (g := (mkF m 69 #[.val (.long q1), .second, .val (.long q2), .second, .val (.long q3), .second, .val (.long q4), .second, .val (.long q5), .second, .val (.int p6), .val (.int bd), .val (.ref b1), .unset, .unset, .unset] [(.long q2), (.int (6 : Int32)), (.ref b1)])) rfl rfl (hb hby at_69)
  refine own_go st15 ?_
  have Z15 := Nat.le_trans Z13 (Keep.of_wr W15).1
  have N15 := Fr.snoc X15 N13 g_b1
  have V_b1'15 : Arv Z h15 b1 k1 .long (11 : Int32) [(.long (q4 ^^^ q5)), (.long (q1 + q2)), (.long (q3 - q4)), (.long (q5 ^^^ (-1 : Int64))), (.long (q1 ^^^ (-1 : Int64))), (.long q1), (.long q2), (.long (0 : Int64)), (.long (0 : Int64)), (.long (0 : Int64)), (.long (0 : Int64))] (.long (0 : Int64)) := Arv.set Arb1_69_14 qqb1_69_14 Szb1_69_14 Ngb1_69_14 Hsb1_69_14 Gfb1_69_14 rfl W15 6 rfl (Nat.le_of_ble_eq_true rfl)
  show own_Ends p e below s _ _ _ (T15.setTop (mkF m 70 #[.val (.long q1), .second, .val (.long q2), .second, .val (.long q3), .second, .val (.long q4), .second, .val (.long q5), .second, .val (.int p6), .val (.int bd), .val (.ref b1), .unset, .unset, .unset] []))
  refine own_go (fun _ k => XS.aload X15.here hx rfl (hb hby at_70) rfl rfl <| XT.bipushV X15.here hx rfl (7 : Int32) (hb hby at_72) rfl <| XS.lload X15.here hx rfl (hb hby at_74) rfl <| k) ?_
  show own_Ends p e below s _ _ _ (T15.setTop (mkF m 76 #[.val (.long q1), .second, .val (.long q2), .second, .val (.long q3), .second, .val (.long q4), .second, .val (.long q5), .second, .val (.int p6), .val (.int bd), .val (.ref b1), .unset, .unset, .unset] [(.long q3), (.int (7 : Int32)), (.ref b1)]))
  obtain ⟨clb1_76_16, Arb1_76_16, qqb1_76_16, Szb1_76_16, Ngb1_76_16, Hsb1_76_16, Gfb1_76_16⟩ := id V_b1'15
  have hinb1_76_16 : ¬ ((7 : Int32) < 0 ∨ clb1_76_16.slots.size ≤ ((7 : Int32)).toNatClampNeg) := inb_of Szb1_76_16 ⟨by decide, by decide⟩
  obtain ⟨T17, h17, X17, e17, W17, st17⟩ := stJ X15 hx hZ e15 Arb1_76_16 (j := (7 : Int32)) hinb1_76_16 (g := (mkF m 76 #[.val (.long q1), .second, .val (.long q2), .second, .val (.long q3), .second, .val (.long q4), .second, .val (.long q5), .second, .val (.int p6), .val (.int bd), .val (.ref b1), .unset, .unset, .unset] [(.long q3), (.int (7 : Int32)), (.ref b1)])) rfl rfl (hb hby at_76)
  refine own_go st17 ?_
  have Z17 := Nat.le_trans Z15 (Keep.of_wr W17).1
  have N17 := Fr.snoc X17 N15 g_b1
  have V_b1'17 : Arv Z h17 b1 k1 .long (11 : Int32) [(.long (q4 ^^^ q5)), (.long (q1 + q2)), (.long (q3 - q4)), (.long (q5 ^^^ (-1 : Int64))), (.long (q1 ^^^ (-1 : Int64))), (.long q1), (.long q2), (.long q3), (.long (0 : Int64)), (.long (0 : Int64)), (.long (0 : Int64))] (.long (0 : Int64)) := Arv.set Arb1_76_16 qqb1_76_16 Szb1_76_16 Ngb1_76_16 Hsb1_76_16 Gfb1_76_16 rfl W17 7 rfl (Nat.le_of_ble_eq_true rfl)
  show own_Ends p e below s _ _ _ (T17.setTop (mkF m 77 #[.val (.long q1), .second, .val (.long q2), .second, .val (.long q3), .second, .val (.long q4), .second, .val (.long q5), .second, .val (.int p6), .val (.int bd), .val (.ref b1), .unset, .unset, .unset] []))
  refine own_go (fun _ k => XS.aload X17.here hx rfl (hb hby at_77) rfl rfl <| XT.bipushV X17.here hx rfl (8 : Int32) (hb hby at_79) rfl <| XS.lload X17.here hx rfl (hb hby at_81) rfl <| k) ?_
  show own_Ends p e below s _ _ _ (T17.setTop (mkF m 83 #[.val (.long q1), .second, .val (.long q2), .second, .val (.long q3), .second, .val (.long q4), .second, .val (.long q5), .second, .val (.int p6), .val (.int bd), .val (.ref b1), .unset, .unset, .unset] [(.long q4), (.int (8 : Int32)), (.ref b1)]))
  obtain ⟨clb1_83_18, Arb1_83_18, qqb1_83_18, Szb1_83_18, Ngb1_83_18, Hsb1_83_18, Gfb1_83_18⟩ := id V_b1'17
  have hinb1_83_18 : ¬ ((8 : Int32) < 0 ∨ clb1_83_18.slots.size ≤ ((8 : Int32)).toNatClampNeg) := inb_of Szb1_83_18 ⟨by decide, by decide⟩
  obtain ⟨T19, h19, X19, e19, W19, st19⟩ := stJ X17 hx hZ e17 Arb1_83_18 (j := (8 : Int32)) hinb1_83_18 (g := (mkF m 83 #[.val (.long q1), .second, .val (.long q2), .second, .val (.long q3), .second, .val (.long q4), .second, .val (.long q5), .second, .val (.int p6), .val (.int bd), .val (.ref b1), .unset, .unset, .unset] [(.long q4), (.int (8 : Int32)), (.ref b1)])) rfl rfl (hb hby at_83)
  refine own_go st19 ?_
  have Z19 := Nat.le_trans Z17 (Keep.of_wr W19).1
  have N19 := Fr.snoc X19 N17 g_b1
  have V_b1'19 : Arv Z h19 b1 k1 .long (11 : Int32) [(.long (q4 ^^^ q5)), (.long (q1 + q2)), (.long (q3 - q4)), (.long (q5 ^^^ (-1 : Int64))), (.long (q1 ^^^ (-1 : Int64))), (.long q1), (.long q2), (.long q3), (.long q4), (.long (0 : Int64)), (.long (0 : Int64))] (.long (0 : Int64)) := Arv.set Arb1_83_18 qqb1_83_18 Szb1_83_18 Ngb1_83_18 Hsb1_83_18 Gfb1_83_18 rfl W19 8 rfl (Nat.le_of_ble_eq_true rfl)
  show own_Ends p e below s _ _ _ (T19.setTop (mkF m 84 #[.val (.long q1), .second, .val (.long q2), .second, .val (.long q3), .second, .val (.long q4), .second, .val (.long q5), .second, .val (.int p6), .val (.int bd), .val (.ref b1), .unset, .unset, .unset] []))
  refine own_go (fun _ k => XS.aload X19.here hx rfl (hb hby at_84) rfl rfl <| XT.bipushV X19.here hx rfl (9 : Int32) (hb hby at_86) rfl <| XS.lload X19.here hx rfl (hb hby at_88) rfl <| k) ?_
  show own_Ends p e below s _ _ _ (T19.setTop (mkF m 90 #[.val (.long q1), .second, .val (.long q2), .second, .val (.long q3), .second, .val (.long q4), .second, .val (.long q5), .second, .val (.int p6), .val (.int bd), .val (.ref b1), .unset, .unset, .unset] [(.long q5), (.int (9 : Int32)), (.ref b1)]))
  obtain ⟨clb1_90_20, Arb1_90_20, qqb1_90_20, Szb1_90_20, Ngb1_90_20, Hsb1_90_20, Gfb1_90_20⟩ := id V_b1'19
  have hinb1_90_20 : ¬ ((9 : Int32) < 0 ∨ clb1_90_20.slots.size ≤ ((9 : Int32)).toNatClampNeg) := inb_of Szb1_90_20 ⟨by decide, by decide⟩
  obtain ⟨T21, h21, X21, e21, W21, st21⟩ := stJ X19 hx hZ e19 Arb1_90_20 (j := (9 : Int32)) hinb1_90_20 (g := (mkF m 90 #[.val (.long q1), .second, .val (.long q2), .second, .val (.long q3), .second, .val (.long q4), .second, .val (.long q5), .second, .val (.int p6), .val (.int bd), .val (.ref b1), .unset, .unset, .unset] [(.long q5), (.int (9 : Int32)), (.ref b1)])) rfl rfl (hb hby at_90)
  refine own_go st21 ?_
  have Z21 := Nat.le_trans Z19 (Keep.of_wr W21).1
  have N21 := Fr.snoc X21 N19 g_b1
  have V_b1'21 : Arv Z h21 b1 k1 .long (11 : Int32) [(.long (q4 ^^^ q5)), (.long (q1 + q2)), (.long (q3 - q4)), (.long (q5 ^^^ (-1 : Int64))), (.long (q1 ^^^ (-1 : Int64))), (.long q1), (.long q2), (.long q3), (.long q4), (.long q5), (.long (0 : Int64))] (.long (0 : Int64)) := Arv.set Arb1_90_20 qqb1_90_20 Szb1_90_20 Ngb1_90_20 Hsb1_90_20 Gfb1_90_20 rfl W21 9 rfl (Nat.le_of_ble_eq_true rfl)
  show own_Ends p e below s _ _ _ (T21.setTop (mkF m 91 #[.val (.long q1), .second, .val (.long q2), .second, .val (.long q3), .second, .val (.long q4), .second, .val (.long q5), .second, .val (.int p6), .val (.int bd), .val (.ref b1), .unset, .unset, .unset] []))
  refine own_go (fun _ k => XS.aload X21.here hx rfl (hb hby at_91) rfl rfl <| XT.bipushV X21.here hx rfl (10 : Int32) (hb hby at_93) rfl <| XS.lloadN X21.here hx rfl (hb hby at_95) rfl <| X21.ldc2J hx hown (mvT hZ (hw _ (List.mem_of_getElem? (i := 2) rfl))) rfl (hb hby at_96) <| XS.lxor X21.here hx rfl (hb hby at_99) rfl <| k) ?_
  show own_Ends p e below s _ _ _ (T21.setTop (mkF m 100 #[.val (.long q1), .second, .val (.long q2), .second, .val (.long q3), .second, .val (.long q4), .second, .val (.long q5), .second, .val (.int p6), .val (.int bd), .val (.ref b1), .unset, .unset, .unset] [(.long (q2 ^^^ (-1 : Int64))), (.int (10 : Int32)), (.ref b1)]))
  obtain ⟨clb1_100_22, Arb1_100_22, qqb1_100_22, Szb1_100_22, Ngb1_100_22, Hsb1_100_22, Gfb1_100_22⟩ := id V_b1'21
  have hinb1_100_22 : ¬ ((10 : Int32) < 0 ∨ clb1_100_22.slots.size ≤ ((10 : Int32)).toNatClampNeg) := inb_of Szb1_100_22 ⟨by decide, by decide⟩
  obtain ⟨T23, h23, X23, e23, W23, st23⟩ := stJ X21 hx hZ e21 Arb1_100_22 (j := (10 : Int32)) hinb1_100_22 (g := (mkF m 100 #[.val (.long q1), .second, .val (.long q2), .second, .val (.long q3), .second, .val (.long q4), .second, .val (.long q5), .second, .val (.int p6), .val (.int bd), .val (.ref b1), .unset, .unset, .unset] [(.long (q2 ^^^ (-1 : Int64))), (.int (10 : Int32)), (.ref b1)])) rfl rfl (hb hby at_100)
  refine own_go st23 ?_
  have Z23 := Nat.le_trans Z21 (Keep.of_wr W23).1
  have N23 := Fr.snoc X23 N21 g_b1
  have V_b1'23 : Arv Z h23 b1 k1 .long (11 : Int32) [(.long (q4 ^^^ q5)), (.long (q1 + q2)), (.long (q3 - q4)), (.long (q5 ^^^ (-1 : Int64))), (.long (q1 ^^^ (-1 : Int64))), (.long q1), (.long q2), (.long q3), (.long q4), (.long q5), (.long (q2 ^^^ (-1 : Int64)))] (.long (0 : Int64)) := Arv.set Arb1_100_22 qqb1_100_22 Szb1_100_22 Ngb1_100_22 Hsb1_100_22 Gfb1_100_22 rfl W23 10 rfl (Nat.le_of_ble_eq_true rfl)
  show own_Ends p e below s _ _ _ (T23.setTop (mkF m 101 #[.val (.long q1), .second, .val (.long q2), .second, .val (.long q3), .second, .val (.long q4), .second, .val (.long q5), .second, .val (.int p6), .val (.int bd), .val (.ref b1), .unset, .unset, .unset] []))
  obtain ⟨T24, h24, X24, e24, E24, A24, D24, -, st24⟩ := newO X23 hx hZ hown (hw _ (List.mem_of_getElem? (i := 3) rfl)) (hw _ (List.mem_of_getElem? (i := 4) rfl)) (hw _ (List.mem_of_getElem? (i := 5) rfl)) e23 (g := (mkF m 101 #[.val (.long q1), .second, .val (.long q2), .second, .val (.long q3), .second, .val (.long q4), .second, .val (.long q5), .second, .val (.int p6), .val (.int bd), .val (.ref b1), .unset, .unset, .unset] [])) rfl (hb hby at_101) (by decide) (by decide)
  obtain ⟨b24, g24⟩ : ∃ z, z = h23.size := ⟨_, rfl⟩
  rw [← g24] at A24 D24 st24
  refine own_go st24 ?_
  have ne_b1_b24 : b1 ≠ b24 := Nat.ne_of_lt (Nat.lt_of_lt_of_le V_b1'23.lt (Nat.le_of_eq g24.symm))
  have g_b24 : n0 ≤ b24 := Nat.le_trans Z23 (Nat.le_of_eq g24.symm)
  have V_b1'24 := V_b1'23.ext E24
  have Z24 := Nat.le_trans Z23 E24.1
  have F_figures_b24 : Fld Z h24 b24 "com/example/expiry/expiry/service/TopicCounts" "figures" "[J" .null := D24 (Or.inr (hw _ (List.mem_of_getElem? (i := 13) rfl))) (ty := (.array .long)) (by decide)
  show own_Ends p e below s _ _ _ (T24.setTop (mkF m 104 #[.val (.long q1), .second, .val (.long q2), .second, .val (.long q3), .second, .val (.long q4), .second, .val (.long q5), .second, .val (.int p6), .val (.int bd), .val (.ref b1), .unset, .unset, .unset] [(.ref b24)]))
  refine own_go (fun _ k => XS.dup X24.here hx rfl (hb hby at_104) rfl rfl <| XS.aload X24.here hx rfl (hb hby at_105) rfl rfl <| k) ?_
  show own_Ends p e below s _ _ _ (T24.setTop (mkF m 107 #[.val (.long q1), .second, .val (.long q2), .second, .val (.long q3), .second, .val (.long q4), .second, .val (.long q5), .second, .val (.int p6), .val (.int bd), .val (.ref b1), .unset, .unset, .unset] [(.ref b1), (.ref b24), (.ref b24)]))
  obtain ⟨_, _, ⟨T25, L25, k25, n25⟩, -, X25, ⟨Lc25, hQ25, l25, y25, z25⟩, st25⟩ := X24.specialBack hx (y := (⟨"com/example/expiry/expiry/service/TopicCounts", "<init>", "([J)V"⟩ : MethodName)) rfl hown (mvT hZ (hw _ (List.mem_of_getElem? (i := 6) rfl))) (mvT hZ (hw _ (List.mem_of_getElem? (i := 7) rfl))) (mvT hZ (hw _ (List.mem_of_getElem? (i := 8) rfl))) (by decide) (backOf (W := 1) (rm1 l Z a0 hw [] b24 b1  h24 n0 Z24 A24 F_figures_b24 g_b24 ) hZ (hw _ (List.mem_of_getElem? (i := 8) rfl)) (hw _ (List.mem_of_getElem? (i := 5) rfl)) (by decide) (by decide)) (g := (mkF m 107 #[.val (.long q1), .second, .val (.long q2), .second, .val (.long q3), .second, .val (.long q4), .second, .val (.long q5), .second, .val (.int p6), .val (.int bd), .val (.ref b1), .unset, .unset, .unset] [(.ref b1), (.ref b24), (.ref b24)])) rfl (by rw [hml]; rfl) (Steps.refl _) (a := b24) (argsL := [(.ref b1)]) (rest := [(.ref b24)]) (lenOf pd_0 rfl) rfl (by show 2 * 0 + _ ≤ _; exact Nat.le_of_eq rfl) (hb hby at_107) (fun _ _ => ⟨rfl, e24, Nat.le_of_ble_eq_true rfl, Nat.le_of_ble_eq_true rfl⟩)
  dsimp only [Pt.U, Pt.locs, Pt.cells, Pt.slots] at X25 l25 y25 z25 st25 hQ25
  subst l25 y25 z25
  obtain ⟨rfl, N25q, K25, Fc025⟩ := hQ25
  have N25 := Fr.app N23 N25q
  refine own_go (fun _ k => st25.trans k) ?_
  have V_b1'25 := V_b1'24.keep K25 (ninS ne_b1_b24 nin0)
  have A24'25 := A24.keep K25
  have Z25 := Nat.le_trans Z24 K25.1
  show own_Ends p e below s _ _ _ (T25.setTop (mkF m 110 #[.val (.long q1), .second, .val (.long q2), .second, .val (.long q3), .second, .val (.long q4), .second, .val (.long q5), .second, .val (.int p6), .val (.int bd), .val (.ref b1), .unset, .unset, .unset] [(.ref b24)]))
  refine own_go (fun _ k => XS.astore X25.here hx rfl (hb hby at_110) rfl rfl (l' := #[.val (.long q1), .second, .val (.long q2), .second, .val (.long q3), .second, .val (.long q4), .second, .val (.long q5), .second, .val (.int p6), .val (.int bd), .val (.ref b1), .val (.ref b24), .unset, .unset]) rfl <| XS.lloadN X25.here hx rfl (hb hby at_112) rfl <| XS.lstore X25.here hx rfl (hb hby at_113) rfl (l' := #[.val (.long q1), .second, .val (.long q2), .second, .val (.long q3), .second, .val (.long q4), .second, .val (.long q5), .second, .val (.int p6), .val (.int bd), .val (.ref b1), .val (.ref b24), .val (.long q1), .second]) rfl <| XS.iload X25.here hx rfl (hb hby at_115) rfl <| XT.iconstV X25.here hx rfl (1 : Int32) (hb hby at_117) rfl <| k) ?_
  show own_Ends p e below s _ _ _ (T25.setTop (mkF m 118 #[.val (.long q1), .second, .val (.long q2), .second, .val (.long q3), .second, .val (.long q4), .second, .val (.long q5), .second, .val (.int p6), .val (.int bd), .val (.ref b1), .val (.ref b24), .val (.long q1), .second] [(.int (1 : Int32)), (.int bd)]))
  by_cases hc118_26 : bd < (1 : Int32)
  · -- true
    refine own_go (fun _ k => XS.icmpYes X25.here hx rfl (pc0 := 118) (pc' := 127) rfl (hb hby at_118) rfl (tlt hc118_26).1 (by decide) (by decide) <| XS.iload X25.here hx rfl (hb hby at_127) rfl <| XT.iconstV X25.here hx rfl (2 : Int32) (hb hby at_129) rfl <| XS.icmpYes X25.here hx rfl (pc0 := 130) (pc' := 140) rfl (hb hby at_130) rfl (tlt (Int32.lt_trans hc118_26 (by decide))).1 (by decide) (by decide) <| XS.iload X25.here hx rfl (hb hby at_140) rfl <| XT.iconstV X25.here hx rfl (3 : Int32) (hb hby at_142) rfl <| XS.icmpYes X25.here hx rfl (pc0 := 143) (pc' := 153) rfl (hb hby at_143) rfl (tlt (Int32.lt_trans hc118_26 (by decide))).1 (by decide) (by decide) <| XS.iload X25.here hx rfl (hb hby at_153) rfl <| XT.iconstV X25.here hx rfl (4 : Int32) (hb hby at_155) rfl <| XS.icmpYes X25.here hx rfl (pc0 := 156) (pc' := 166) rfl (hb hby at_156) rfl (tlt (Int32.lt_trans hc118_26 (by decide))).1 (by decide) (by decide) <| XS.aload X25.here hx rfl (hb hby at_166) rfl rfl <| k) ?_
    show own_Ends p e below s _ _ _ (T25.setTop (mkF m 168 #[.val (.long q1), .second, .val (.long q2), .second, .val (.long q3), .second, .val (.long q4), .second, .val (.long q5), .second, .val (.int p6), .val (.int bd), .val (.ref b1), .val (.ref b24), .val (.long q1), .second] [(.ref b24)]))
    refine own_go (fun _ k => XS.iload X25.here hx rfl (hb hby at_168) rfl <| k) ?_
    show own_Ends p e below s _ _ _ (T25.setTop (mkF m 170 #[.val (.long q1), .second, .val (.long q2), .second, .val (.long q3), .second, .val (.long q4), .second, .val (.long q5), .second, .val (.int p6), .val (.int bd), .val (.ref b1), .val (.ref b24), .val (.long q1), .second] [(.int bd), (.ref b24)]))
    obtain ⟨cq27, kq27, q27a, q27b, q27c⟩ := isOf hZ rfl A24'25
    obtain ⟨_, _, ⟨T27, L27, k27, n27⟩, -, X27, ⟨Lc27, hQ27, l27, y27, z27⟩, st27⟩ := X25.virtualBack hx (y := (⟨"com/example/expiry/expiry/service/TopicCounts", "getHandedOutWithin", "(I)J"⟩ : MethodName)) (z := (⟨"com/example/expiry/expiry/service/TopicCounts", "getHandedOutWithin", "(I)J"⟩ : MethodName)) hown (mvT hZ (hw _ (List.mem_of_getElem? (i := 14) rfl))) (mvT hZ (hw _ (List.mem_of_getElem? (i := 15) rfl))) (notFace_of_selects (args := #[]) (mvT hZ (hw _ (List.mem_of_getElem? (i := 17) rfl)))) (mvT hZ (hw _ (List.mem_of_getElem? (i := 17) rfl))) (mvT hZ (hw _ (List.mem_of_getElem? (i := 16) rfl))) (by decide) (backOf (W := 0) (rm3 l Z a0 hw [] b24 bd b1 k1 (q4 ^^^ q5) (q1 + q2) (q3 - q4) (q5 ^^^ (-1 : Int64)) (q1 ^^^ (-1 : Int64)) q1 q2 q3 q4 q5 (q2 ^^^ (-1 : Int64)) T25.heap n0 Z25 Fc025 V_b1'25 hbd) hZ (hw _ (List.mem_of_getElem? (i := 18) rfl)) (hw _ (List.mem_of_getElem? (i := 5) rfl)) (by decide) (by decide)) q27a q27c (g := (mkF m 170 #[.val (.long q1), .second, .val (.long q2), .second, .val (.long q3), .second, .val (.long q4), .second, .val (.long q5), .second, .val (.int p6), .val (.int bd), .val (.ref b1), .val (.ref b24), .val (.long q1), .second] [(.int bd), (.ref b24)])) rfl (by rw [hml]; rfl) (Steps.refl _) (argsL := [(.int bd)]) (rest := []) (lenOf pd_2 rfl) rfl (by show 2 * 0 + _ ≤ _; exact Nat.le_of_eq rfl) (hb hby at_170) (fun _ _ => ⟨rfl, rfl, Nat.le_of_ble_eq_true rfl, Nat.le_of_ble_eq_true rfl⟩)
    dsimp only [Pt.U, Pt.locs, Pt.cells, Pt.slots] at X27 l27 y27 z27 st27 hQ27
    subst l27 y27 z27
    obtain ⟨rfl, N27q, e27⟩ := hQ27
    have N27 := Fr.app N25 N27q
    refine own_go (fun _ k => st27.trans k) ?_
    show own_Ends p e below s _ _ _ (T27.setTop (mkF m 173 #[.val (.long q1), .second, .val (.long q2), .second, .val (.long q3), .second, .val (.long q4), .second, .val (.long q5), .second, .val (.int p6), .val (.int bd), .val (.ref b1), .val (.ref b24), .val (.long q1), .second] [(.long (own_hs bd q1 q2 q3 q4 q5))]))
    refine own_go (fun _ k => XS.lload X27.here hx rfl (hb hby at_173) rfl <| XS.lcmp X27.here hx rfl (hb hby at_175) rfl <| XS.ifNo X27.here hx rfl (hb hby at_176) rfl ((if0 _ _).trans (teq ((lw_eq _ _).mpr (by unfold own_hs; rw [if_pos hc118_26]))).2) <| XT.iconstV X27.here hx rfl (1 : Int32) (hb hby at_179) rfl <| XS.goto X27.here hx rfl (pc0 := 180) (pc' := 184) rfl (hb hby at_180) (by decide) (by decide) <| k) ?_
    show own_Ends p e below s _ _ _ (T27.setTop (mkF m 184 #[.val (.long q1), .second, .val (.long q2), .second, .val (.long q3), .second, .val (.long q4), .second, .val (.long q5), .second, .val (.int p6), .val (.int bd), .val (.ref b1), .val (.ref b24), .val (.long q1), .second] [(.int (1 : Int32))]))
    exact own_retN X27 hx (t := .boolean) hrt (by simp) (hb hby at_184) hlk (show nar .boolean (1 : Int32) = (1 : Int32) from by decide) (by rw [e27]; exact ⟨rfl, N27⟩) (by decide) (by decide)
  · -- false
    refine own_go (fun _ k => XS.icmpNo X25.here hx rfl (hb hby at_118) rfl (flt hc118_26).1 <| XS.lload X25.here hx rfl (hb hby at_121) rfl <| XS.lloadN X25.here hx rfl (hb hby at_123) rfl <| XS.ladd X25.here hx rfl (hb hby at_124) rfl <| XS.lstore X25.here hx rfl (hb hby at_125) rfl (l' := #[.val (.long q1), .second, .val (.long q2), .second, .val (.long q3), .second, .val (.long q4), .second, .val (.long q5), .second, .val (.int p6), .val (.int bd), .val (.ref b1), .val (.ref b24), .val (.long (q1 + q2)), .second]) rfl <| XS.iload X25.here hx rfl (hb hby at_127) rfl <| XT.iconstV X25.here hx rfl (2 : Int32) (hb hby at_129) rfl <| k) ?_
    show own_Ends p e below s _ _ _ (T25.setTop (mkF m 130 #[.val (.long q1), .second, .val (.long q2), .second, .val (.long q3), .second, .val (.long q4), .second, .val (.long q5), .second, .val (.int p6), .val (.int bd), .val (.ref b1), .val (.ref b24), .val (.long (q1 + q2)), .second] [(.int (2 : Int32)), (.int bd)]))
    by_cases hc130_28 : bd < (2 : Int32)
    · -- true
      refine own_go (fun _ k => XS.icmpYes X25.here hx rfl (pc0 := 130) (pc' := 140) rfl (hb hby at_130) rfl (tlt hc130_28).1 (by decide) (by decide) <| XS.iload X25.here hx rfl (hb hby at_140) rfl <| XT.iconstV X25.here hx rfl (3 : Int32) (hb hby at_142) rfl <| XS.icmpYes X25.here hx rfl (pc0 := 143) (pc' := 153) rfl (hb hby at_143) rfl (tlt (Int32.lt_trans hc130_28 (by decide))).1 (by decide) (by decide) <| XS.iload X25.here hx rfl (hb hby at_153) rfl <| XT.iconstV X25.here hx rfl (4 : Int32) (hb hby at_155) rfl <| XS.icmpYes X25.here hx rfl (pc0 := 156) (pc' := 166) rfl (hb hby at_156) rfl (tlt (Int32.lt_trans hc130_28 (by decide))).1 (by decide) (by decide) <| XS.aload X25.here hx rfl (hb hby at_166) rfl rfl <| XS.iload X25.here hx rfl (hb hby at_168) rfl <| k) ?_
      show own_Ends p e below s _ _ _ (T25.setTop (mkF m 170 #[.val (.long q1), .second, .val (.long q2), .second, .val (.long q3), .second, .val (.long q4), .second, .val (.long q5), .second, .val (.int p6), .val (.int bd), .val (.ref b1), .val (.ref b24), .val (.long (q1 + q2)), .second] [(.int bd), (.ref b24)]))
      obtain ⟨cq29, kq29, q29a, q29b, q29c⟩ := isOf hZ rfl A24'25
      obtain ⟨_, _, ⟨T29, L29, k29, n29⟩, -, X29, ⟨Lc29, hQ29, l29, y29, z29⟩, st29⟩ := X25.virtualBack hx (y := (⟨"com/example/expiry/expiry/service/TopicCounts", "getHandedOutWithin", "(I)J"⟩ : MethodName)) (z := (⟨"com/example/expiry/expiry/service/TopicCounts", "getHandedOutWithin", "(I)J"⟩ : MethodName)) hown (mvT hZ (hw _ (List.mem_of_getElem? (i := 14) rfl))) (mvT hZ (hw _ (List.mem_of_getElem? (i := 15) rfl))) (notFace_of_selects (args := #[]) (mvT hZ (hw _ (List.mem_of_getElem? (i := 17) rfl)))) (mvT hZ (hw _ (List.mem_of_getElem? (i := 17) rfl))) (mvT hZ (hw _ (List.mem_of_getElem? (i := 16) rfl))) (by decide) (backOf (W := 0) (rm3 l Z a0 hw [] b24 bd b1 k1 (q4 ^^^ q5) (q1 + q2) (q3 - q4) (q5 ^^^ (-1 : Int64)) (q1 ^^^ (-1 : Int64)) q1 q2 q3 q4 q5 (q2 ^^^ (-1 : Int64)) T25.heap n0 Z25 Fc025 V_b1'25 hbd) hZ (hw _ (List.mem_of_getElem? (i := 18) rfl)) (hw _ (List.mem_of_getElem? (i := 5) rfl)) (by decide) (by decide)) q29a q29c (g := (mkF m 170 #[.val (.long q1), .second, .val (.long q2), .second, .val (.long q3), .second, .val (.long q4), .second, .val (.long q5), .second, .val (.int p6), .val (.int bd), .val (.ref b1), .val (.ref b24), .val (.long (q1 + q2)), .second] [(.int bd), (.ref b24)])) rfl (by rw [hml]; rfl) (Steps.refl _) (argsL := [(.int bd)]) (rest := []) (lenOf pd_2 rfl) rfl (by show 2 * 0 + _ ≤ _; exact Nat.le_of_eq rfl) (hb hby at_170) (fun _ _ => ⟨rfl, rfl, Nat.le_of_ble_eq_true rfl, Nat.le_of_ble_eq_true rfl⟩)
      dsimp only [Pt.U, Pt.locs, Pt.cells, Pt.slots] at X29 l29 y29 z29 st29 hQ29
      subst l29 y29 z29
      obtain ⟨rfl, N29q, e29⟩ := hQ29
      have N29 := Fr.app N25 N29q
      refine own_go (fun _ k => st29.trans k) ?_
      show own_Ends p e below s _ _ _ (T29.setTop (mkF m 173 #[.val (.long q1), .second, .val (.long q2), .second, .val (.long q3), .second, .val (.long q4), .second, .val (.long q5), .second, .val (.int p6), .val (.int bd), .val (.ref b1), .val (.ref b24), .val (.long (q1 + q2)), .second] [(.long (own_hs bd q1 q2 q3 q4 q5))]))
      refine own_go (fun _ k => XS.lload X29.here hx rfl (hb hby at_173) rfl <| XS.lcmp X29.here hx rfl (hb hby at_175) rfl <| XS.ifNo X29.here hx rfl (hb hby at_176) rfl ((if0 _ _).trans (teq ((lw_eq _ _).mpr (by unfold own_hs; rw [if_neg hc118_26, if_pos hc130_28]))).2) <| XT.iconstV X29.here hx rfl (1 : Int32) (hb hby at_179) rfl <| XS.goto X29.here hx rfl (pc0 := 180) (pc' := 184) rfl (hb hby at_180) (by decide) (by decide) <| k) ?_
      show own_Ends p e below s _ _ _ (T29.setTop (mkF m 184 #[.val (.long q1), .second, .val (.long q2), .second, .val (.long q3), .second, .val (.long q4), .second, .val (.long q5), .second, .val (.int p6), .val (.int bd), .val (.ref b1), .val (.ref b24), .val (.long (q1 + q2)), .second] [(.int (1 : Int32))]))
      exact own_retN X29 hx (t := .boolean) hrt (by simp) (hb hby at_184) hlk (show nar .boolean (1 : Int32) = (1 : Int32) from by decide) (by rw [e29]; exact ⟨rfl, N29⟩) (by decide) (by decide)
    · -- false
      refine own_go (fun _ k => XS.icmpNo X25.here hx rfl (hb hby at_130) rfl (flt hc130_28).1 <| XS.lload X25.here hx rfl (hb hby at_133) rfl <| XS.lload X25.here hx rfl (hb hby at_135) rfl <| XS.ladd X25.here hx rfl (hb hby at_137) rfl <| XS.lstore X25.here hx rfl (hb hby at_138) rfl (l' := #[.val (.long q1), .second, .val (.long q2), .second, .val (.long q3), .second, .val (.long q4), .second, .val (.long q5), .second, .val (.int p6), .val (.int bd), .val (.ref b1), .val (.ref b24), .val (.long ((q1 + q2) + q3)), .second]) rfl <| XS.iload X25.here hx rfl (hb hby at_140) rfl <| XT.iconstV X25.here hx rfl (3 : Int32) (hb hby at_142) rfl <| k) ?_
      show own_Ends p e below s _ _ _ (T25.setTop (mkF m 143 #[.val (.long q1), .second, .val (.long q2), .second, .val (.long q3), .second, .val (.long q4), .second, .val (.long q5), .second, .val (.int p6), .val (.int bd), .val (.ref b1), .val (.ref b24), .val (.long ((q1 + q2) + q3)), .second] [(.int (3 : Int32)), (.int bd)]))
      by_cases hc143_30 : bd < (3 : Int32)
      · -- true
        refine own_go (fun _ k => XS.icmpYes X25.here hx rfl (pc0 := 143) (pc' := 153) rfl (hb hby at_143) rfl (tlt hc143_30).1 (by decide) (by decide) <| XS.iload X25.here hx rfl (hb hby at_153) rfl <| XT.iconstV X25.here hx rfl (4 : Int32) (hb hby at_155) rfl <| XS.icmpYes X25.here hx rfl (pc0 := 156) (pc' := 166) rfl (hb hby at_156) rfl (tlt (Int32.lt_trans hc143_30 (by decide))).1 (by decide) (by decide) <| XS.aload X25.here hx rfl (hb hby at_166) rfl rfl <| XS.iload X25.here hx rfl (hb hby at_168) rfl <| k) ?_
        show own_Ends p e below s _ _ _ (T25.setTop (mkF m 170 #[.val (.long q1), .second, .val (.long q2), .second, .val (.long q3), .second, .val (.long q4), .second, .val (.long q5), .second, .val (.int p6), .val (.int bd), .val (.ref b1), .val (.ref b24), .val (.long ((q1 + q2) + q3)), .second] [(.int bd), (.ref b24)]))
        obtain ⟨cq31, kq31, q31a, q31b, q31c⟩ := isOf hZ rfl A24'25
        obtain ⟨_, _, ⟨T31, L31, k31, n31⟩, -, X31, ⟨Lc31, hQ31, l31, y31, z31⟩, st31⟩ := X25.virtualBack hx (y := (⟨"com/example/expiry/expiry/service/TopicCounts", "getHandedOutWithin", "(I)J"⟩ : MethodName)) (z := (⟨"com/example/expiry/expiry/service/TopicCounts", "getHandedOutWithin", "(I)J"⟩ : MethodName)) hown (mvT hZ (hw _ (List.mem_of_getElem? (i := 14) rfl))) (mvT hZ (hw _ (List.mem_of_getElem? (i := 15) rfl))) (notFace_of_selects (args := #[]) (mvT hZ (hw _ (List.mem_of_getElem? (i := 17) rfl)))) (mvT hZ (hw _ (List.mem_of_getElem? (i := 17) rfl))) (mvT hZ (hw _ (List.mem_of_getElem? (i := 16) rfl))) (by decide) (backOf (W := 0) (rm3 l Z a0 hw [] b24 bd b1 k1 (q4 ^^^ q5) (q1 + q2) (q3 - q4) (q5 ^^^ (-1 : Int64)) (q1 ^^^ (-1 : Int64)) q1 q2 q3 q4 q5 (q2 ^^^ (-1 : Int64)) T25.heap n0 Z25 Fc025 V_b1'25 hbd) hZ (hw _ (List.mem_of_getElem? (i := 18) rfl)) (hw _ (List.mem_of_getElem? (i := 5) rfl)) (by decide) (by decide)) q31a q31c (g := (mkF m 170 #[.val (.long q1), .second, .val (.long q2), .second, .val (.long q3), .second, .val (.long q4), .second, .val (.long q5), .second, .val (.int p6), .val (.int bd), .val (.ref b1), .val (.ref b24), .val (.long ((q1 + q2) + q3)), .second] [(.int bd), (.ref b24)])) rfl (by rw [hml]; rfl) (Steps.refl _) (argsL := [(.int bd)]) (rest := []) (lenOf pd_2 rfl) rfl (by show 2 * 0 + _ ≤ _; exact Nat.le_of_eq rfl) (hb hby at_170) (fun _ _ => ⟨rfl, rfl, Nat.le_of_ble_eq_true rfl, Nat.le_of_ble_eq_true rfl⟩)
        dsimp only [Pt.U, Pt.locs, Pt.cells, Pt.slots] at X31 l31 y31 z31 st31 hQ31
        subst l31 y31 z31
        obtain ⟨rfl, N31q, e31⟩ := hQ31
        have N31 := Fr.app N25 N31q
        refine own_go (fun _ k => st31.trans k) ?_
        show own_Ends p e below s _ _ _ (T31.setTop (mkF m 173 #[.val (.long q1), .second, .val (.long q2), .second, .val (.long q3), .second, .val (.long q4), .second, .val (.long q5), .second, .val (.int p6), .val (.int bd), .val (.ref b1), .val (.ref b24), .val (.long ((q1 + q2) + q3)), .second] [(.long (own_hs bd q1 q2 q3 q4 q5))]))
        refine own_go (fun _ k => XS.lload X31.here hx rfl (hb hby at_173) rfl <| XS.lcmp X31.here hx rfl (hb hby at_175) rfl <| XS.ifNo X31.here hx rfl (hb hby at_176) rfl ((if0 _ _).trans (teq ((lw_eq _ _).mpr (by unfold own_hs; rw [if_neg hc118_26, if_neg hc130_28, if_pos hc143_30]))).2) <| XT.iconstV X31.here hx rfl (1 : Int32) (hb hby at_179) rfl <| XS.goto X31.here hx rfl (pc0 := 180) (pc' := 184) rfl (hb hby at_180) (by decide) (by decide) <| k) ?_
        show own_Ends p e below s _ _ _ (T31.setTop (mkF m 184 #[.val (.long q1), .second, .val (.long q2), .second, .val (.long q3), .second, .val (.long q4), .second, .val (.long q5), .second, .val (.int p6), .val (.int bd), .val (.ref b1), .val (.ref b24), .val (.long ((q1 + q2) + q3)), .second] [(.int (1 : Int32))]))
        exact own_retN X31 hx (t := .boolean) hrt (by simp) (hb hby at_184) hlk (show nar .boolean (1 : Int32) = (1 : Int32) from by decide) (by rw [e31]; exact ⟨rfl, N31⟩) (by decide) (by decide)
      · -- false
        refine own_go (fun _ k => XS.icmpNo X25.here hx rfl (hb hby at_143) rfl (flt hc143_30).1 <| XS.lload X25.here hx rfl (hb hby at_146) rfl <| XS.lload X25.here hx rfl (hb hby at_148) rfl <| XS.ladd X25.here hx rfl (hb hby at_150) rfl <| XS.lstore X25.here hx rfl (hb hby at_151) rfl (l' := #[.val (.long q1), .second, .val (.long q2), .second, .val (.long q3), .second, .val (.long q4), .second, .val (.long q5), .second, .val (.int p6), .val (.int bd), .val (.ref b1), .val (.ref b24), .val (.long (((q1 + q2) + q3) + q4)), .second]) rfl <| XS.iload X25.here hx rfl (hb hby at_153) rfl <| XT.iconstV X25.here hx rfl (4 : Int32) (hb hby at_155) rfl <| k) ?_
        show own_Ends p e below s _ _ _ (T25.setTop (mkF m 156 #[.val (.long q1), .second, .val (.long q2), .second, .val (.long q3), .second, .val (.long q4), .second, .val (.long q5), .second, .val (.int p6), .val (.int bd), .val (.ref b1), .val (.ref b24), .val (.long (((q1 + q2) + q3) + q4)), .second] [(.int (4 : Int32)), (.int bd)]))
        by_cases hc156_32 : bd < (4 : Int32)
        · -- true
          refine own_go (fun _ k => XS.icmpYes X25.here hx rfl (pc0 := 156) (pc' := 166) rfl (hb hby at_156) rfl (tlt hc156_32).1 (by decide) (by decide) <| XS.aload X25.here hx rfl (hb hby at_166) rfl rfl <| XS.iload X25.here hx rfl (hb hby at_168) rfl <| k) ?_
          show own_Ends p e below s _ _ _ (T25.setTop (mkF m 170 #[.val (.long q1), .second, .val (.long q2), .second, .val (.long q3), .second, .val (.long q4), .second, .val (.long q5), .second, .val (.int p6), .val (.int bd), .val (.ref b1), .val (.ref b24), .val (.long (((q1 + q2) + q3) + q4)), .second] [(.int bd), (.ref b24)]))
          obtain ⟨cq33, kq33, q33a, q33b, q33c⟩ := isOf hZ rfl A24'25
          obtain ⟨_, _, ⟨T33, L33, k33, n33⟩, -, X33, ⟨Lc33, hQ33, l33, y33, z33⟩, st33⟩ := X25.virtualBack hx (y := (⟨"com/example/expiry/expiry/service/TopicCounts", "getHandedOutWithin", "(I)J"⟩ : MethodName)) (z := (⟨"com/example/expiry/expiry/service/TopicCounts", "getHandedOutWithin", "(I)J"⟩ : MethodName)) hown (mvT hZ (hw _ (List.mem_of_getElem? (i := 14) rfl))) (mvT hZ (hw _ (List.mem_of_getElem? (i := 15) rfl))) (notFace_of_selects (args := #[]) (mvT hZ (hw _ (List.mem_of_getElem? (i := 17) rfl)))) (mvT hZ (hw _ (List.mem_of_getElem? (i := 17) rfl))) (mvT hZ (hw _ (List.mem_of_getElem? (i := 16) rfl))) (by decide) (backOf (W := 0) (rm3 l Z a0 hw [] b24 bd b1 k1 (q4 ^^^ q5) (q1 + q2) (q3 - q4) (q5 ^^^ (-1 : Int64)) (q1 ^^^ (-1 : Int64)) q1 q2 q3 q4 q5 (q2 ^^^ (-1 : Int64)) T25.heap n0 Z25 Fc025 V_b1'25 hbd) hZ (hw _ (List.mem_of_getElem? (i := 18) rfl)) (hw _ (List.mem_of_getElem? (i := 5) rfl)) (by decide) (by decide)) q33a q33c (g := (mkF m 170 #[.val (.long q1), .second, .val (.long q2), .second, .val (.long q3), .second, .val (.long q4), .second, .val (.long q5), .second, .val (.int p6), .val (.int bd), .val (.ref b1), .val (.ref b24), .val (.long (((q1 + q2) + q3) + q4)), .second] [(.int bd), (.ref b24)])) rfl (by rw [hml]; rfl) (Steps.refl _) (argsL := [(.int bd)]) (rest := []) (lenOf pd_2 rfl) rfl (by show 2 * 0 + _ ≤ _; exact Nat.le_of_eq rfl) (hb hby at_170) (fun _ _ => ⟨rfl, rfl, Nat.le_of_ble_eq_true rfl, Nat.le_of_ble_eq_true rfl⟩)
          dsimp only [Pt.U, Pt.locs, Pt.cells, Pt.slots] at X33 l33 y33 z33 st33 hQ33
          subst l33 y33 z33
          obtain ⟨rfl, N33q, e33⟩ := hQ33
          have N33 := Fr.app N25 N33q
          refine own_go (fun _ k => st33.trans k) ?_
          show own_Ends p e below s _ _ _ (T33.setTop (mkF m 173 #[.val (.long q1), .second, .val (.long q2), .second, .val (.long q3), .second, .val (.long q4), .second, .val (.long q5), .second, .val (.int p6), .val (.int bd), .val (.ref b1), .val (.ref b24), .val (.long (((q1 + q2) + q3) + q4)), .second] [(.long (own_hs bd q1 q2 q3 q4 q5))]))
          refine own_go (fun _ k => XS.lload X33.here hx rfl (hb hby at_173) rfl <| XS.lcmp X33.here hx rfl (hb hby at_175) rfl <| XS.ifNo X33.here hx rfl (hb hby at_176) rfl ((if0 _ _).trans (teq ((lw_eq _ _).mpr (by unfold own_hs; rw [if_neg hc118_26, if_neg hc130_28, if_neg hc143_30, if_pos hc156_32]))).2) <| XT.iconstV X33.here hx rfl (1 : Int32) (hb hby at_179) rfl <| XS.goto X33.here hx rfl (pc0 := 180) (pc' := 184) rfl (hb hby at_180) (by decide) (by decide) <| k) ?_
          show own_Ends p e below s _ _ _ (T33.setTop (mkF m 184 #[.val (.long q1), .second, .val (.long q2), .second, .val (.long q3), .second, .val (.long q4), .second, .val (.long q5), .second, .val (.int p6), .val (.int bd), .val (.ref b1), .val (.ref b24), .val (.long (((q1 + q2) + q3) + q4)), .second] [(.int (1 : Int32))]))
          exact own_retN X33 hx (t := .boolean) hrt (by simp) (hb hby at_184) hlk (show nar .boolean (1 : Int32) = (1 : Int32) from by decide) (by rw [e33]; exact ⟨rfl, N33⟩) (by decide) (by decide)
        · -- false
          refine own_go (fun _ k => XS.icmpNo X25.here hx rfl (hb hby at_156) rfl (flt hc156_32).1 <| XS.lload X25.here hx rfl (hb hby at_159) rfl <| XS.lload X25.here hx rfl (hb hby at_161) rfl <| XS.ladd X25.here hx rfl (hb hby at_163) rfl <| XS.lstore X25.here hx rfl (hb hby at_164) rfl (l' := #[.val (.long q1), .second, .val (.long q2), .second, .val (.long q3), .second, .val (.long q4), .second, .val (.long q5), .second, .val (.int p6), .val (.int bd), .val (.ref b1), .val (.ref b24), .val (.long ((((q1 + q2) + q3) + q4) + q5)), .second]) rfl <| XS.aload X25.here hx rfl (hb hby at_166) rfl rfl <| XS.iload X25.here hx rfl (hb hby at_168) rfl <| k) ?_
          show own_Ends p e below s _ _ _ (T25.setTop (mkF m 170 #[.val (.long q1), .second, .val (.long q2), .second, .val (.long q3), .second, .val (.long q4), .second, .val (.long q5), .second, .val (.int p6), .val (.int bd), .val (.ref b1), .val (.ref b24), .val (.long ((((q1 + q2) + q3) + q4) + q5)), .second] [(.int bd), (.ref b24)]))
          obtain ⟨cq34, kq34, q34a, q34b, q34c⟩ := isOf hZ rfl A24'25
          obtain ⟨_, _, ⟨T34, L34, k34, n34⟩, -, X34, ⟨Lc34, hQ34, l34, y34, z34⟩, st34⟩ := X25.virtualBack hx (y := (⟨"com/example/expiry/expiry/service/TopicCounts", "getHandedOutWithin", "(I)J"⟩ : MethodName)) (z := (⟨"com/example/expiry/expiry/service/TopicCounts", "getHandedOutWithin", "(I)J"⟩ : MethodName)) hown (mvT hZ (hw _ (List.mem_of_getElem? (i := 14) rfl))) (mvT hZ (hw _ (List.mem_of_getElem? (i := 15) rfl))) (notFace_of_selects (args := #[]) (mvT hZ (hw _ (List.mem_of_getElem? (i := 17) rfl)))) (mvT hZ (hw _ (List.mem_of_getElem? (i := 17) rfl))) (mvT hZ (hw _ (List.mem_of_getElem? (i := 16) rfl))) (by decide) (backOf (W := 0) (rm3 l Z a0 hw [] b24 bd b1 k1 (q4 ^^^ q5) (q1 + q2) (q3 - q4) (q5 ^^^ (-1 : Int64)) (q1 ^^^ (-1 : Int64)) q1 q2 q3 q4 q5 (q2 ^^^ (-1 : Int64)) T25.heap n0 Z25 Fc025 V_b1'25 hbd) hZ (hw _ (List.mem_of_getElem? (i := 18) rfl)) (hw _ (List.mem_of_getElem? (i := 5) rfl)) (by decide) (by decide)) q34a q34c (g := (mkF m 170 #[.val (.long q1), .second, .val (.long q2), .second, .val (.long q3), .second, .val (.long q4), .second, .val (.long q5), .second, .val (.int p6), .val (.int bd), .val (.ref b1), .val (.ref b24), .val (.long ((((q1 + q2) + q3) + q4) + q5)), .second] [(.int bd), (.ref b24)])) rfl (by rw [hml]; rfl) (Steps.refl _) (argsL := [(.int bd)]) (rest := []) (lenOf pd_2 rfl) rfl (by show 2 * 0 + _ ≤ _; exact Nat.le_of_eq rfl) (hb hby at_170) (fun _ _ => ⟨rfl, rfl, Nat.le_of_ble_eq_true rfl, Nat.le_of_ble_eq_true rfl⟩)
          dsimp only [Pt.U, Pt.locs, Pt.cells, Pt.slots] at X34 l34 y34 z34 st34 hQ34
          subst l34 y34 z34
          obtain ⟨rfl, N34q, e34⟩ := hQ34
          have N34 := Fr.app N25 N34q
          refine own_go (fun _ k => st34.trans k) ?_
          show own_Ends p e below s _ _ _ (T34.setTop (mkF m 173 #[.val (.long q1), .second, .val (.long q2), .second, .val (.long q3), .second, .val (.long q4), .second, .val (.long q5), .second, .val (.int p6), .val (.int bd), .val (.ref b1), .val (.ref b24), .val (.long ((((q1 + q2) + q3) + q4) + q5)), .second] [(.long (own_hs bd q1 q2 q3 q4 q5))]))
          refine own_go (fun _ k => XS.lload X34.here hx rfl (hb hby at_173) rfl <| XS.lcmp X34.here hx rfl (hb hby at_175) rfl <| XS.ifNo X34.here hx rfl (hb hby at_176) rfl ((if0 _ _).trans (teq ((lw_eq _ _).mpr (by unfold own_hs; rw [if_neg hc118_26, if_neg hc130_28, if_neg hc143_30, if_neg hc156_32]))).2) <| XT.iconstV X34.here hx rfl (1 : Int32) (hb hby at_179) rfl <| XS.goto X34.here hx rfl (pc0 := 180) (pc' := 184) rfl (hb hby at_180) (by decide) (by decide) <| k) ?_
          show own_Ends p e below s _ _ _ (T34.setTop (mkF m 184 #[.val (.long q1), .second, .val (.long q2), .second, .val (.long q3), .second, .val (.long q4), .second, .val (.long q5), .second, .val (.int p6), .val (.int bd), .val (.ref b1), .val (.ref b24), .val (.long ((((q1 + q2) + q3) + q4) + q5)), .second] [(.int (1 : Int32))]))
          exact own_retN X34 hx (t := .boolean) hrt (by simp) (hb hby at_184) hlk (show nar .boolean (1 : Int32) = (1 : Int32) from by decide) (by rw [e34]; exact ⟨rfl, N34⟩) (by decide) (by decide)
set_option maxRecDepth 65536 in
set_option maxHeartbeats 40000000 in
theorem comes_1 {Post : Tables → Env → Array Value → State → Outcome → State → Prop} (hpost : ∀ tb e args s v u, (limb_1_1.after args s (.returned v) u = true ∧ limb_1_2.after args s (.returned v) u = true ∧ True) → FrameEnd s (.returned v) u (Jvm.fieldLocs frame_1_writes args s ++ Jvm.arrayLocs frame_1_arrays args s ++ Jvm.staticLocs frame_1_statics s) 16 128 → Post tb e args s (.returned v) u) :
    ArmFor flags0 classFile x code maxLocals ret World_1 tables_1 room_1 Calls_1 rest_1 Pre_1 Post := by
  intro l hfl _ _ p e ha hc hk s m args below hf hA hF happ hP
  obtain ⟨hcalls, hrest, hpre⟩ := hP
  obtain ⟨-, -, -, hnamed, -, -, -, hat⟩ := (Spec.applies_iff hf).mp happ
  obtain ⟨hg, hn⟩ := and_e (Cond.before_iff.mp (show (Jvm.Cond.and given_1 narrow_1).before args s = true from hpre))
  obtain ⟨g1, g2⟩ := and_e hg
  obtain ⟨g3, g4⟩ := and_e g2
  obtain ⟨g5, g6⟩ := and_e g4
  obtain ⟨g7, g8⟩ := and_e g6
  obtain ⟨g9, g10⟩ := and_e g8
  obtain ⟨g11, g12⟩ := and_e g10
  obtain ⟨w0, w1, w2, w3, w4, w5, rfl⟩ : ∃ w0 w1 w2 w3 w4 w5 : Value, args = #[w0, w1, w2, w3, w4, w5] := by
    have hs : args.size = 6 := by simpa [Cond.value, given_1] using g1
    obtain ⟨L⟩ := args
    match L, hs with
    | [w0, w1, w2, w3, w4, w5], _ => exact ⟨w0, w1, w2, w3, w4, w5, rfl⟩
  have hw := fun d (hd : d ∈ tables_1) => atoms_spec (ws := Jvm.Cond.code x code maxLocals ret :: tables_1) hat d (List.mem_cons_of_mem _ hd)
  have hfit : Fit s := fun {y c} hc i hi => by
    obtain ⟨ha, rfl⟩ := Array.getElem?_eq_some_iff.mp hc
    have q := List.all_eq_true.mp ((Array.all_eq_true_iff_forall_mem.mp hF) _ (Array.getElem_mem ha)) i (List.mem_range.mpr hi)
    simpa [Array.getElem?_eq_getElem hi] using q
  obtain ⟨i0, ei0⟩ := isL_v g3
  obtain rfl : w0 = (.long i0) := Option.some.inj ei0
  obtain ⟨i1, ei1⟩ := isL_v g5
  obtain rfl : w1 = (.long i1) := Option.some.inj ei1
  obtain ⟨i2, ei2⟩ := isL_v g7
  obtain rfl : w2 = (.long i2) := Option.some.inj ei2
  obtain ⟨i3, ei3⟩ := isL_v g9
  obtain rfl : w3 = (.long i3) := Option.some.inj ei3
  obtain ⟨i4, ei4⟩ := isL_v g11
  obtain rfl : w4 = (.long i4) := Option.some.inj ei4
  obtain ⟨i5, ei5⟩ := is_v g12
  obtain rfl : w5 = (.int i5) := Option.some.inj ei5
  obtain ⟨n, o, h1, h2, h3, _, L, rfl, ⟨rfl, N⟩, hq⟩ := rm0 l s _ hw tables_1 i0 i1 i2 i3 i4 i5  s.heap s.heap.size (Nat.le_refl _)  p e ha hc hk s m _ below hf ((Spec.applies_iff_loose hf).mp happ).1 ⟨rfl, State.Warmed39.refl s, rfl⟩ trivial
  refine ⟨n, _, h1, h2, h3, hpost _ _ _ _ _ _ ⟨Cond.after_iff.mpr rfl, Cond.after_iff.mpr (eq_i res_at (Term.int_eval (1)) rfl), trivial⟩ ⟨hq.1, hq.2.1, (hq.2.2.sift fun y hy => Or.inr (N y hy)).mono (by decide) (by decide)⟩⟩
theorem main_1_1 : Claimed_1_1 := comes_1 fun _ _ _ _ _ _ h hF => ⟨h.1, hF⟩
theorem main_1_2 : Claimed_1_2 := comes_1 fun _ _ _ _ _ _ h hF => ⟨h.2.1, hF⟩
end Jvm.Pilot.@@N@@
namespace Jvm.Pilot.@@N@@
open Jvm Jvm.ClassFile Sem Op Lib Jvm.Free Jvm.Stand Jvm.Pilot.@@N@@.Jvm.D
/-! MADE BY PROGRAM (witnessworld.py) out of the Statement's table words and the real class files: 11 classes; the members and pool entries that the words name. The judged class is class 1, her method 1. -/
namespace start1
open Jvm.ClassFile
def u (s : String) : CpInfo := .utf8 (stringToUtf16 s)
/-- a pool by its gaps: so many unusable entries, then the entry; so many at the end -/
def gap : Nat → List CpInfo → List CpInfo
  | 0, r => r
  | n + 1, r => .unusable :: gap n r
def poolList (es : List (Nat × CpInfo)) (last : Nat) : List CpInfo := es.foldr (fun e r => gap e.1 (e.2 :: r)) (gap last [])
def pool (es : List (Nat × CpInfo)) (last : Nat) : Array CpInfo := ⟨poolList es last⟩
def fileOf (pool : Array CpInfo) (this : Nat) (attrs : Array Attribute := #[]) (ms : Array MethodInfo := #[]) (fl : Nat := 33) (sup : Nat := 0) (ifs : Array Nat := #[]) (fds : Array FieldInfo := #[]) : ClassFile where
  minorVersion := 0
  majorVersion := 65
  constantPool := pool
  accessFlags := fl
  thisClass := this
  superClass := sup
  interfaces := ifs
  fields := fds
  methods := ms
  attributes := attrs
def plain (name : String) (sup : Option ClassId) : Class where
  name := name
  kind := .ordinary
  loader := none
  accessFlags := 33
  super := sup
  interfaces := #[]
  cf := none
  fields := #[]
  methods := #[]
  instanceTypes := #[]
  staticTypes := #[]
  resolved := #[]
  callSites := []
  init := .initialized
  statics := none
  mirror := none

def pool0 : Array CpInfo := pool [(5, u "<init>"), (0, u "()V"), (1, .class_ 10), (1, u "java/lang/Object")] 113

def k0c0 : Code := { maxStack := 0, maxLocals := 1, code := object_method_1_code, exceptionTable := #[], attributes := #[] }
def k0m0 : Method := { name := "<init>", desc := "()V", sig := { parameters := [], returnType := none }, accessFlags := 1, code := some k0c0 }
/-- java/lang/Object -/
def k0 : Class := { plain "java/lang/Object" none with
  accessFlags := 33
  interfaces := #[]
  cf := some (fileOf pool0 8 #[] #[{ accessFlags := 1, nameIndex := 5, descriptorIndex := 6, attributes := #[] }] 33 0 #[] #[])
  fields := #[]
  methods := #[k0m0]
  instanceTypes := #[]
  staticTypes := #[]
  resolved := Array.replicate 124 none
  statics := none }

def pool1 : Array CpInfo := pool [(2, .class_ 4), (1, u "java/lang/Object"), (0, u "<init>"), (0, u "()V"), (0, .integer 2147483647), (0, .long 18446744073709551615), (1, .class_ 11), (0, u "com/example/expiry/expiry/service/TopicCounts"), (0, .methodref 10 13), (0, .nameAndType 5 14), (0, u "([J)V"), (0, .methodref 10 16), (0, .nameAndType 17 18), (0, u "getHandedOutWithin"), (0, u "(I)J"), (0, .class_ 20), (0, u "com/example/expiry/expiry/service/TopicCountsGetHandedOutWithinPinLaw"), (2, u "law"), (0, u "(JJJJJI)Z")] 5

def k1m0 : Method := { name := "<init>", desc := "()V", sig := { parameters := [], returnType := none }, accessFlags := 1, code := none }
def k1c1 : Code := { maxStack := 6, maxLocals := 16, code := code, exceptionTable := #[], attributes := #[] }
def k1m1 : Method := { name := "law", desc := "(JJJJJI)Z", sig := { parameters := [.long, .long, .long, .long, .long, .int], returnType := some .boolean }, accessFlags := 9, code := some k1c1 }
/-- com/example/expiry/expiry/service/TopicCountsGetHandedOutWithinPinLaw -/
def k1 : Class := { plain "com/example/expiry/expiry/service/TopicCountsGetHandedOutWithinPinLaw" (some 0) with
  accessFlags := 49
  interfaces := #[]
  cf := some (fileOf pool1 19 #[] #[{ accessFlags := 1, nameIndex := 5, descriptorIndex := 6, attributes := #[] }, { accessFlags := 9, nameIndex := 23, descriptorIndex := 24, attributes := #[] }] 49 2 #[] #[])
  fields := #[]
  methods := #[k1m0, k1m1]
  instanceTypes := #[]
  staticTypes := #[]
  resolved := Array.replicate 30 none
  statics := none }

def pool2 : Array CpInfo := pool [(1, .methodref 2 3), (0, .class_ 4), (0, .nameAndType 5 6), (0, u "java/lang/Object"), (0, u "<init>"), (0, u "()V"), (0, .fieldref 8 9), (0, .class_ 10), (0, .nameAndType 11 12), (0, u "com/example/expiry/expiry/service/TopicCounts"), (0, u "figures"), (0, u "[J"), (8, u "([J)V"), (2, u "NONE"), (0, u "Lcom/example/expiry/expiry/service/TopicCounts;"), (8, u "getHandedOutWithin"), (0, u "(I)J")] 4

def k2c0 : Code := { maxStack := 2, maxLocals := 2, code := prog_94_method_1_code, exceptionTable := #[], attributes := #[] }
def k2m0 : Method := { name := "<init>", desc := "([J)V", sig := { parameters := [(.array .long)], returnType := none }, accessFlags := 0, code := some k2c0 }
def k2c1 : Code := { maxStack := 5, maxLocals := 5, code := prog_94_method_7_code, exceptionTable := #[], attributes := #[] }
def k2m1 : Method := { name := "getHandedOutWithin", desc := "(I)J", sig := { parameters := [.int], returnType := some .long }, accessFlags := 1, code := some k2c1 }
/-- com/example/expiry/expiry/service/TopicCounts -/
def k2 : Class := { plain "com/example/expiry/expiry/service/TopicCounts" (some 0) with
  accessFlags := 49
  interfaces := #[]
  cf := some (fileOf pool2 8 #[] #[{ accessFlags := 0, nameIndex := 5, descriptorIndex := 21, attributes := #[] }, { accessFlags := 1, nameIndex := 34, descriptorIndex := 35, attributes := #[] }] 49 2 #[] #[{ accessFlags := 25, nameIndex := 24, descriptorIndex := 25, attributes := #[] }, { accessFlags := 18, nameIndex := 11, descriptorIndex := 12, attributes := #[] }])
  fields := #[{ name := "NONE", type := (.object "com/example/expiry/expiry/service/TopicCounts"), accessFlags := 25, slot := 0, constantValue := 0 }, { name := "figures", type := (.array .long), accessFlags := 18, slot := 0, constantValue := 0 }]
  methods := #[k2m0, k2m1]
  instanceTypes := #[(.array .long)]
  staticTypes := #[(.object "com/example/expiry/expiry/service/TopicCounts")]
  resolved := Array.replicate 40 none
  statics := none }

def pool3 : Array CpInfo := pool [(1, u "java/lang/Cloneable"), (0, .class_ 1), (0, u "java/lang/Object"), (0, .class_ 3)] 3

/-- java/lang/Cloneable -/
def k3 : Class := { plain "java/lang/Cloneable" (some 0) with
  accessFlags := 1537
  interfaces := #[]
  cf := some (fileOf pool3 2 #[] #[] 1537 4 #[] #[])
  fields := #[]
  methods := #[]
  instanceTypes := #[]
  staticTypes := #[]
  resolved := Array.replicate 8 none
  statics := none }

def pool4 : Array CpInfo := pool [(1, u "java/io/Serializable"), (0, .class_ 1), (0, u "java/lang/Object"), (0, .class_ 3)] 3

/-- java/io/Serializable -/
def k4 : Class := { plain "java/io/Serializable" (some 0) with
  accessFlags := 1537
  interfaces := #[]
  cf := some (fileOf pool4 2 #[] #[] 1537 4 #[] #[])
  fields := #[]
  methods := #[]
  instanceTypes := #[]
  staticTypes := #[]
  resolved := Array.replicate 8 none
  statics := none }

/-- the primitive byte -/
def k5 : Class := { plain "byte" none with kind := .primitive 'B', accessFlags := 0x411 }
/-- [B -/
def k6 : Class := { plain "[B" (some 0) with kind := .array 5 .byte, interfaces := #[3, 4], accessFlags := 1041 }

/-- the primitive int -/
def k7 : Class := { plain "int" none with kind := .primitive 'I', accessFlags := 0x411 }
/-- [I -/
def k8 : Class := { plain "[I" (some 0) with kind := .array 7 .int, interfaces := #[3, 4], accessFlags := 1041 }

/-- the primitive long -/
def k9 : Class := { plain "long" none with kind := .primitive 'J', accessFlags := 0x411 }
/-- [J -/
def k10 : Class := { plain "[J" (some 0) with kind := .array 9 .long, interfaces := #[3, 4], accessFlags := 1041 }

def heap : Heap := #[]
def classes : Array Class := #[k0, k1, k2, k3, k4, k5, k6, k7, k8, k9, k10]
def interned : List (Array UInt16 × Addr) := []
def slotsUsed : Nat := 0
def theMethod : MethodId := ⟨1, 1⟩
def args0 : Array Value := #[.long 5, .long 6, .long 7, .long 8, .long 9, .int 3]
def aboutOver (below : List Frame) : State where
  vm := { classes := classes, interned := interned.toArray }
  heap := heap
  slotsUsed := slotsUsed
  threads := #[{ frames := .invoking theMethod args0 :: below }]
def below0 : List Frame := [.native { method := ⟨0, 0⟩, args := #[] }]
def about1 : State := aboutOver below0
def p0 : Program := .bare "" "" ""
def e0 : Env := launch0.env 0 0 0
theorem w_frames : about1.frames = Frame.invoking theMethod args0 :: below0 := rfl
set_option maxRecDepth 65536 in
theorem w_args : argsFit about1.vm theMethod args0 = true := by decide +kernel
set_option maxRecDepth 65536 in
theorem w_heap : heapFits about1 = true := by decide +kernel
set_option maxRecDepth 65536 in
theorem w_runnable : about1.curStatus? = some .runnable := by decide +kernel
set_option maxRecDepth 65536 in
theorem w_alone : about1.alone = true := by decide +kernel
set_option maxRecDepth 65536 in
theorem w_named : about1.methodNamed? x = some theMethod := by decide +kernel
set_option maxRecDepth 65536 in
theorem w_hears : about1.hears theMethod below0 = true := by decide +kernel
set_option maxRecDepth 65536 in
theorem w_ripe : about1.ripe theMethod args0 below0 = true := by decide +kernel
theorem w_running : about1.status = .running := rfl
set_option maxRecDepth 65536 in
theorem w_room : about1.hasRoom e0.platform room_1 = true :=
  launch0.hasRoom_least _ room_1 (by decide +kernel) (by decide +kernel) (by decide +kernel) (by decide +kernel) (by decide +kernel) (by decide +kernel)
theorem allAtoms_all (ts : List Jvm.Cond) (a : Array Jvm.Value) (st : Jvm.State) : (allAtoms ts).before a st = ts.all (fun c => c.before a st) := by
  induction ts with
  | nil => rfl
  | cons c t ih =>
    show (Jvm.Cond.and c (allAtoms t)).before a st = _
    rw [Jvm.Cond.before_and, ih, List.all_cons]
def words1 : List Jvm.Cond := Jvm.Cond.code x code maxLocals ret :: tables_1
/-- a 'code' word, met by the world's own term for the bytes: nothing is compared byte by byte -/
theorem code_word {y : MethodName} {bytes : ByteArray} {mx : Nat} {rt : Option FieldType} {a : Array Value} {s : State} {m : MethodId} {meth : Method} {c : Code} (h1 : s.methodNamed? y = some m) (h2 : s.vm.method? m = some meth) (h3 : meth.code = some c) (h4 : c.code = bytes)
    (h5 : (c.maxLocals == mx && c.exceptionTable.isEmpty && decide (c.maxStack ≤ mostOperands) && decide (meth.sig.returnType = rt) && !meth.locks && decide (parseMethodDescriptor y.desc = some meth.sig)) = true) : (Jvm.Cond.code y bytes mx rt).before a s = true := by
  simp only [Bool.and_eq_true, beq_iff_eq, Bool.not_eq_true', decide_eq_true_eq] at h5
  obtain ⟨⟨⟨⟨⟨g1, g2⟩, g3⟩, g4⟩, g5⟩, g6⟩ := h5
  simp [Cond.before, Cond.holds, Cond.value, h1, h2, h3, h4, g1, g2, g3, g4, g5, g6]
def isCode : Jvm.Cond → Bool
  | .code _ _ _ _ => true
  | _ => false
theorem all_split {L : List Jvm.Cond} {P : Jvm.Cond → Bool} (h1 : L.all (fun c => isCode c || P c) = true) (h2 : ∀ c ∈ L.filter isCode, P c = true) : L.all P = true := by
  refine List.all_eq_true.mpr fun c hc => ?_
  have h := List.all_eq_true.mp h1 c hc
  rcases Bool.eq_false_or_eq_true (isCode c) with hi | hi
  · exact h2 c (List.mem_filter.mpr ⟨hc, hi⟩)
  · simpa [hi] using h
set_option maxRecDepth 65536 in
theorem w_c0 : (Jvm.Cond.code x code maxLocals ret).before args0 about1 = true := code_word (m := ⟨1, 1⟩) (meth := k1m1) (c := k1c1) (by decide +kernel) rfl rfl rfl (by decide +kernel)
set_option maxRecDepth 65536 in
theorem w_c1 : (Jvm.Cond.code ({ cls := "com/example/expiry/expiry/service/TopicCounts", name := "<init>", desc := "([J)V" } : Jvm.MethodName) prog_94_method_1_code (2 : Nat) (Option.none : Option Jvm.ClassFile.FieldType)).before args0 about1 = true := code_word (m := ⟨2, 0⟩) (meth := k2m0) (c := k2c0) (by decide +kernel) rfl rfl rfl (by decide +kernel)
set_option maxRecDepth 65536 in
theorem w_c2 : (Jvm.Cond.code ({ cls := "java/lang/Object", name := "<init>", desc := "()V" } : Jvm.MethodName) object_method_1_code (1 : Nat) (Option.none : Option Jvm.ClassFile.FieldType)).before args0 about1 = true := code_word (m := ⟨0, 0⟩) (meth := k0m0) (c := k0c0) (by decide +kernel) rfl rfl rfl (by decide +kernel)
set_option maxRecDepth 65536 in
theorem w_c3 : (Jvm.Cond.code ({ cls := "com/example/expiry/expiry/service/TopicCounts", name := "getHandedOutWithin", desc := "(I)J" } : Jvm.MethodName) prog_94_method_7_code (5 : Nat) (Option.some Jvm.ClassFile.FieldType.long)).before args0 about1 = true := code_word (m := ⟨2, 1⟩) (meth := k2m1) (c := k2c1) (by decide +kernel) rfl rfl rfl (by decide +kernel)
def codes1 : List Jvm.Cond := [Jvm.Cond.code x code maxLocals ret, Jvm.Cond.code ({ cls := "com/example/expiry/expiry/service/TopicCounts", name := "<init>", desc := "([J)V" } : Jvm.MethodName) prog_94_method_1_code (2 : Nat) (Option.none : Option Jvm.ClassFile.FieldType), Jvm.Cond.code ({ cls := "java/lang/Object", name := "<init>", desc := "()V" } : Jvm.MethodName) object_method_1_code (1 : Nat) (Option.none : Option Jvm.ClassFile.FieldType), Jvm.Cond.code ({ cls := "com/example/expiry/expiry/service/TopicCounts", name := "getHandedOutWithin", desc := "(I)J" } : Jvm.MethodName) prog_94_method_7_code (5 : Nat) (Option.some Jvm.ClassFile.FieldType.long)]
set_option maxRecDepth 65536 in
theorem codes_eq : words1.filter isCode = codes1 := rfl
theorem w_codes : ∀ c ∈ words1.filter isCode, c.before args0 about1 = true := by
  rw [codes_eq]
  intro c hc
  simp only [codes1, List.mem_cons, List.not_mem_nil, or_false] at hc
  rcases hc with rfl | rfl | rfl | rfl
  · exact w_c0
  · exact w_c1
  · exact w_c2
  · exact w_c3
set_option maxRecDepth 65536 in
theorem w_t1 : words1.all (fun c => isCode c || c.before args0 about1) = true := by decide +kernel
theorem w_tables : (allAtoms (Jvm.Cond.code x code maxLocals ret :: tables_1)).before args0 about1 = true := by
  rw [allAtoms_all]
  show words1.all (fun c => c.before args0 about1) = true
  refine all_split ?_ w_codes
  rw [w_t1]
set_option maxRecDepth 65536 in
theorem w_case : (Jvm.Cond.and given_1 narrow_1).before args0 about1 = true := by decide +kernel
theorem w_applies : (headSpec (Jvm.Cond.code x code maxLocals ret :: tables_1) room_1).applies x e0.platform about1 = true :=
  (Spec.applies_iff w_frames).mpr ⟨w_running, w_runnable, w_alone, w_named, w_hears, w_ripe, w_room, w_tables⟩
theorem atStart : AtStart classFile x code maxLocals ret World_1 tables_1 room_1 Calls_1 rest_1 Pre_1 launch0 p0 e0 about1 theMethod args0 below0 :=
  ⟨lists_1, trivial, launch0.admits_env _ _ _, launch0.least_env, fairChoices_fair.cas, fairChoices_fair.clock, w_frames, w_args, w_heap, w_applies, trivial, trivial, w_case⟩
end start1
theorem witness_1 : WitnessClaimed_1 := ⟨start1.p0, start1.e0, start1.about1, start1.theMethod, start1.args0, start1.below0, start1.atStart⟩
end Jvm.Pilot.@@N@@
