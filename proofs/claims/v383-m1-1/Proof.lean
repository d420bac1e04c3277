import JvmDerived
import JvmDerived.Pilot.@@N@@Statement
import JvmDerived.Pilot.@@N@@Code
set_option linter.unusedVariables false
set_option linter.unusedSimpArgs false
namespace Jvm.Pilot.@@N@@
open Jvm Jvm.ClassFile Sem Op Lib Jvm.Free Jvm.Stand Jvm.LawKit Jvm.RoadKit Bundle Jvm.Pilot.@@N@@.Jvm.D
/-! the walk's goal in continuation style -/
def own_Ends (p : Program) (e : Env) (below : List Frame) (s : State) (Q : Option Value → Heap → List Loc → Prop) (k n : Nat) (t : State) : Prop :=
  ∃ s₂ o, Steps p.tables e below t s₂ ∧ s₂.status = .running ∧ Ended s₂ below o ∧ ∃ v L, o = .returned v ∧ Q v s₂.heap L ∧ FrameEnd s o s₂ L k n
section OwnEnds
variable {p : Program} {l : Launch} {e : Env} {R : Room} {s : State} {m : MethodId} {args : Array Value} {below : List Frame} {meth : Method} {c : Code} {T : State} {locs : List Loc} {cells slots : Nat} {Q : Option Value → Heap → List Loc → Prop} {k n : Nat}
theorem own_go {t t' : State} (h : ∀ u, Steps p.tables e below t' u → Steps p.tables e below t u) (g : own_Ends p e below s Q k n t') : own_Ends p e below s Q k n t := by
  obtain ⟨s₂, o, h1, h2⟩ := g
  exact ⟨s₂, o, h _ h1, h2⟩
theorem own_retN (X : Stand p l e R s m args below meth c T locs cells slots) (hx : p.tables.exec = Jvm.exec) {pc : Nat} {Ls : Array Slot} {z w : Int32} {t : FieldType} {rest : List Value} (hret : meth.sig.returnType = some t) (ht : t = .boolean ∨ t = .byte ∨ t = .char ∨ t = .short)
    (hd : decode c.code pc = .ok (.ireturn, 1)) (hlk : meth.locks = false) (hz : nar t z = w) (hQ : Q (some (.int w)) T.heap locs) (hk : cells ≤ k) (hn : slots ≤ n) : own_Ends p e below s Q k n (T.setTop (mkF m pc Ls (.int z :: rest))) := by
  subst hz
  obtain ⟨fs, hr, hrun, hended, hW, hsame⟩ := X.leave (v := some (.int (nar t z))) (fun h => by rw [hret] at h; cases h) hlk
  exact ⟨_, _, retN X hx hret ht hd hr, hrun, hended, _, _, rfl, hQ, ⟨_, rfl⟩, hW, hsame.mono hk hn⟩
theorem own_ret (X : Stand p l e R s m args below meth c T locs cells slots) (hx : p.tables.exec = Jvm.exec) {pc : Nat} {Ls : Array Slot} {w : Value} {t : FieldType} {i : Instr} {rest : List Value} (hret : meth.sig.returnType = some t) (hn' : narrow t w = w)
    (hi : (i = .ireturn ∧ (t = .int ∨ t = .boolean ∨ t = .byte ∨ t = .char ∨ t = .short) ∧ ∃ z, w = .int z) ∨ (i = .lreturn ∧ t = .long ∧ ∃ z, w = .long z) ∨ (i = .dreturn ∧ t = .double ∧ ∃ z, w = .double z) ∨ (i = .freturn ∧ t = .float ∧ ∃ z, w = .float z) ∨ (i = .areturn ∧ t.isReference = true ∧ w.isRef = true))
    (hd : decode c.code pc = .ok (i, 1)) (hlk : meth.locks = false) (hQ : Q (some w) T.heap locs) (hk : cells ≤ k) (hn : slots ≤ n) : own_Ends p e below s Q k n (T.setTop (mkF m pc Ls (w :: rest))) := by
  obtain ⟨fs, hr, hrun, hended, hW, hsame⟩ := X.leave (v := some w) (fun h => by rw [hret] at h; cases h) hlk
  exact ⟨_, _, retOut X hx hret hn' hi hd hr, hrun, hended, _, _, rfl, hQ, ⟨_, rfl⟩, hW, hsame.mono hk hn⟩
theorem own_ret0 (X : Stand p l e R s m args below meth c T locs cells slots) (hx : p.tables.exec = Jvm.exec) {pc : Nat} {Ls : Array Slot} (hret : meth.sig.returnType = none)
    (hd : decode c.code pc = .ok (.return_, 1)) (hlk : meth.locks = false) (hQ : Q none T.heap locs) (hk : cells ≤ k) (hn : slots ≤ n) : own_Ends p e below s Q k n (T.setTop (mkF m pc Ls [])) := by
  obtain ⟨fs, hr, hrun, hended, hW, hsame⟩ := X.leave (v := none) (fun _ => rfl) hlk
  exact ⟨_, _, X.returnOut hx hret hd hr, hrun, hended, _, _, rfl, hQ, ⟨_, rfl⟩, hW, hsame.mono hk hn⟩
end OwnEnds
theorem pd_0 : parseMethodDescriptor "(J)J" = some ⟨[.long], some .long⟩ := by decide +kernel
theorem pd_1 : parseMethodDescriptor "(JJD)V" = some ⟨[.long, .long, .double], none⟩ := by decide +kernel
theorem pd_2 : parseMethodDescriptor "()V" = some ⟨[], none⟩ := by decide +kernel
theorem pd_3 : parseMethodDescriptor "(Ljava/lang/Object;Ljava/lang/Object;)Lcom/example/unutkan/unutkan/core/Node;" = some ⟨[(.object "java/lang/Object"), (.object "java/lang/Object")], some (.object "com/example/unutkan/unutkan/core/Node")⟩ := by decide +kernel
theorem pd_4 : parseMethodDescriptor "(Ljava/lang/Object;Ljava/lang/Object;)V" = some ⟨[(.object "java/lang/Object"), (.object "java/lang/Object")], none⟩ := by decide +kernel
theorem pd_5 : parseMethodDescriptor "(Lcom/example/unutkan/unutkan/core/Node;J)J" = some ⟨[(.object "com/example/unutkan/unutkan/core/Node"), .long], some .long⟩ := by decide +kernel
theorem pd_6 : parseMethodDescriptor "(JJ)J" = some ⟨[.long, .long], some .long⟩ := by decide +kernel
theorem pd_7 : parseMethodDescriptor "(Lcom/example/unutkan/unutkan/core/Node;Ljava/lang/Object;JJ)J" = some ⟨[(.object "com/example/unutkan/unutkan/core/Node"), (.object "java/lang/Object"), .long, .long], some .long⟩ := by decide +kernel
theorem own_selp {s : State} {args : Array Value} {y : MethodName} {n : Nat} (hins : (Jvm.Cond.instantiable y.cls n).before args s = true) (hpriv : (Jvm.Cond.privateMethod y).before args s = true) (hinst : (Jvm.Cond.instanceMethod y).before args s = true)
    (hy : y.cls ≠ "java/lang/invoke/MethodHandle" ∧ y.cls ≠ "java/lang/invoke/VarHandle") : (Jvm.Cond.selects y.cls y y).before args s = true := by
  obtain ⟨c, k, hc, hk, -, hniab, -, -⟩ := Cond.instantiable_spec hins
  exact selects_self_of_private hc hk (Bool.or_eq_false_iff.mp hniab).1 (Cond.privateMethod_at hpriv) hinst hy
def own_minL (x y : Int64) : Int64 := if y < x then y else x
def own_maxL (x y : Int64) : Int64 := if x < y then y else x
def own_maxI (x y : Int32) : Int32 := if x < y then y else x
def own_bb (x y : Int64) : Int32 := if x = 9223372036854775807 then 0 else if y = 9223372036854775807 then 0 else 1
def own_life (r : Int64) : Int64 := 1 + ((r &&& 9223372036854775807) - (r &&& 9223372036854775807) / 9223372036854775806 * 9223372036854775806)
theorem own_life_ne (r : Int64) : ¬ own_life r = 9223372036854775807 := by
  have h := c_maskL r 9223372036854775807 63 (by decide) (by decide)
  have h2 := (c_lrem (r &&& 9223372036854775807) 9223372036854775806 9223372036854775806 (by decide)).1
  have h3 := c_ladd 1 ((r &&& 9223372036854775807) - (r &&& 9223372036854775807) / 9223372036854775806 * 9223372036854775806)
  have e1 : (1 : Int64).toInt = 1 := by decide
  have e2 : (9223372036854775807 : Int64).toInt = 9223372036854775807 := by decide
  have h4 := rng64 (own_life r)
  rw [← Int64.toInt_inj, e2]
  rw [e1] at h3
  unfold own_life at *
  generalize ((r &&& 9223372036854775807) - (r &&& 9223372036854775807) / 9223372036854775806 * 9223372036854775806).toInt = z at *
  generalize (1 + ((r &&& 9223372036854775807) - (r &&& 9223372036854775807) / 9223372036854775806 * 9223372036854775806)).toInt = y at *
  generalize (r &&& 9223372036854775807).toInt = q at *
  omega
def own_ear (wea a now : Int64) : Int64 := if a < wea - now then now + a else wea
theorem own_add_sub (t d w : Int64) : t + w - (t + d) = w - d := by
  rw [← Int64.toInt_inj]
  have h1 := c_ladd t w
  have h2 := c_ladd t d
  have h3 := c_lsub (t + w) (t + d)
  have h4 := c_lsub w d
  have h5 := rng64 (t + w - (t + d))
  have h6 := rng64 (w - d)
  omega
theorem own_back (t d w : Int64) : t + d + (w - d) = t + w := by
  rw [← Int64.toInt_inj]
  have h1 := c_ladd t w
  have h2 := c_ladd t d
  have h3 := c_ladd (t + d) (w - d)
  have h4 := c_lsub w d
  have h5 := rng64 (t + w)
  have h6 := rng64 (t + d + (w - d))
  omega
theorem own_fin (t d w a : Int64) : own_ear (t + w) a (t + d) = t + d + own_minL (w - d) a := by
  unfold own_ear own_minL
  rw [own_add_sub]
  by_cases h : a < w - d
  · rw [if_pos h, if_pos h]
  · rw [if_neg h, if_neg h, own_back]
theorem d9_0 : decode jdk_29_method_70_code 0 = .ok (.lload_n 0, 1) := by decide +kernel
theorem d9_1 : decode jdk_29_method_70_code 1 = .ok (.lload_n 2, 1) := by decide +kernel
theorem d9_2 : decode jdk_29_method_70_code 2 = .ok (.lcmp, 1) := by decide +kernel
theorem d9_3 : decode jdk_29_method_70_code 3 = .ok (.ifCond .gt 7, 3) := by decide +kernel
theorem d9_6 : decode jdk_29_method_70_code 6 = .ok (.lload_n 0, 1) := by decide +kernel
theorem d9_7 : decode jdk_29_method_70_code 7 = .ok (.goto 4, 3) := by decide +kernel
theorem d9_10 : decode jdk_29_method_70_code 10 = .ok (.lload_n 2, 1) := by decide +kernel
theorem d9_11 : decode jdk_29_method_70_code 11 = .ok (.lreturn, 1) := by decide +kernel
theorem ef_9 (m : MethodId) (x0 : Int64) (x1 : Int64) : entryFrame m #[(.long x0), (.long x1)] 4 = mkF m 0 #[.val (.long x0), .second, .val (.long x1), .second] [] := by first | (simp [entryFrame, mkF, argsToLocals, Value.category]; done) | rfl
def Q9 (x1 : Int64) (x2 : Int64) (h0 : Heap) (n0 : Nat) (Z : State) (v : Option Value) (h : Heap) (L : List Loc) : Prop := v = some (.long (own_minL x1 x2)) ∧ Fr n0 L ∧ h = h0
set_option maxRecDepth 65536 in
set_option maxHeartbeats 40000000 in
theorem rm9 (l : Launch) (Z : State) (a0 : Array Value) (hw : ∀ d ∈ tables_1, d.before a0 Z = true) (ws : List Jvm.Cond) (x1 : Int64) (x2 : Int64) (h0 : Heap) (n0 : Nat) (Z0 : n0 ≤ h0.size) :
    MetFree l (⟨"java/lang/Math", "min", "(JJ)J"⟩ : MethodName) (head1 (Jvm.Cond.code (⟨"java/lang/Math", "min", "(JJ)J"⟩ : MethodName) jdk_29_method_70_code 4 (some .long) :: ws) ({ frames := 0, cells := 0, slots := 0, locals := 0 } : Room)) (fun a U => a = #[(.long x1), (.long x2)] ∧ Z.Warmed39 U.vm ∧ U.heap = h0) (fun _ _ _ _ _ => True) (fun _ U o U' => ∃ v L, o = .returned v ∧ Q9 x1 x2 h0 n0 Z v U'.heap L ∧ FrameEnd U o U' L ({ frames := 0, cells := 0, slots := 0, locals := 0 } : Room).cells ({ frames := 0, cells := 0, slots := 0, locals := 0 } : Room).slots) := by
  refine MetFree.of_bodySF (Jvm.Free.JP.mathPlain rfl (by decide +kernel)) hisR ?_
  intro p e s m args below meth c s₁ Bd hml0 hP hK
  obtain ⟨rfl, hZ, hh⟩ := hP
  have hx := Bd.exec
  have hby := Bd.bytes
  have hml : c.maxLocals = 4 := hml0
  have hown : s.vm.findClass "java/lang/Math" = some m.cls := findClass_of_methodNamed Bd.named
  have hnm := (name_of_methodNamed Bd.named Bd.method).1
  have hlk := Bd.notSynchronized
  have hrt := Bd.returns
  have X0 : Stand p l e ({ frames := 0, cells := 0, slots := 0, locals := 0 } : Room) s m #[(.long x1), (.long x2)] below meth c s₁ [] 0 0 := Stand.of_body Bd
  have e0 : s₁.heap = h0 := by rw [← hh, Bd.state]; rfl
  have N0 := Fr.nil n0
  show own_Ends p e below s (Q9 x1 x2 h0 n0 Z) ({ frames := 0, cells := 0, slots := 0, locals := 0 } : Room).cells ({ frames := 0, cells := 0, slots := 0, locals := 0 } : Room).slots (s₁.setTop (entryFrame m #[(.long x1), (.long x2)] 4))
  rw [ef_9]
  refine own_go (fun _ k => XS.lloadN X0.here hx rfl (hb hby d9_0) rfl <| XS.lloadN X0.here hx rfl (hb hby d9_1) rfl <| XS.lcmp X0.here hx rfl (hb hby d9_2) rfl <| k) ?_
  show own_Ends p e below s _ _ _ (s₁.setTop (mkF m 3 #[.val (.long x1), .second, .val (.long x2), .second] [(.int (lcmpW x1 x2))]))
  by_cases hc3_1 : x2 < x1
  · -- true
    refine own_go (fun _ k => XS.ifYes X0.here hx rfl (pc0 := 3) (pc' := 10) rfl (hb hby d9_3) rfl ((if0 _ _).trans (tlt ((lw_gt _ _).mpr hc3_1)).2.2.1) (by decide) (by decide) <| XS.lloadN X0.here hx rfl (hb hby d9_10) rfl <| k) ?_
    show own_Ends p e below s _ _ _ (s₁.setTop (mkF m 11 #[.val (.long x1), .second, .val (.long x2), .second] [(.long x2)]))
    exact own_ret X0 hx hrt rfl (Or.inr (Or.inl ⟨rfl, rfl, _, rfl⟩)) (hb hby d9_11) hlk (by rw [e0]; exact ⟨by unfold own_minL; rw [if_pos hc3_1], N0, rfl⟩) (by decide) (by decide)
  · -- false
    refine own_go (fun _ k => XS.ifNo X0.here hx rfl (hb hby d9_3) rfl ((if0 _ _).trans (flt (fun q => hc3_1 ((lw_gt _ _).mp q))).2.2.1) <| XS.lloadN X0.here hx rfl (hb hby d9_6) rfl <| XS.goto X0.here hx rfl (pc0 := 7) (pc' := 11) rfl (hb hby d9_7) (by decide) (by decide) <| k) ?_
    show own_Ends p e below s _ _ _ (s₁.setTop (mkF m 11 #[.val (.long x1), .second, .val (.long x2), .second] [(.long x1)]))
    exact own_ret X0 hx hrt rfl (Or.inr (Or.inl ⟨rfl, rfl, _, rfl⟩)) (hb hby d9_11) hlk (by rw [e0]; exact ⟨by unfold own_minL; rw [if_neg hc3_1], N0, rfl⟩) (by decide) (by decide)
theorem d1_0 : decode method_2_code 0 = .ok (.lconst 1, 1) := by decide +kernel
theorem d1_1 : decode method_2_code 1 = .ok (.lload_n 0, 1) := by decide +kernel
theorem d1_2 : decode method_2_code 2 = .ok (.ldc2_w 9, 3) := by decide +kernel
theorem d1_5 : decode method_2_code 5 = .ok (.land, 1) := by decide +kernel
theorem d1_6 : decode method_2_code 6 = .ok (.ldc2_w 11, 3) := by decide +kernel
theorem d1_9 : decode method_2_code 9 = .ok (.lrem, 1) := by decide +kernel
theorem d1_10 : decode method_2_code 10 = .ok (.ladd, 1) := by decide +kernel
theorem d1_11 : decode method_2_code 11 = .ok (.lreturn, 1) := by decide +kernel
theorem pn_0 : plainName "com/example/unutkan/unutkan/core/FixedExpirationExpiresAtAfterReadPinLaw" = true := by first | (simp [plainName, overriddenIn]; done) | decide +kernel
theorem ef_1 (m : MethodId) (x0 : Int64) : entryFrame m #[(.long x0)] 2 = mkF m 0 #[.val (.long x0), .second] [] := by first | (simp [entryFrame, mkF, argsToLocals, Value.category]; done) | rfl
def Q1 (q1 : Int64) (h0 : Heap) (n0 : Nat) (Z : State) (v : Option Value) (h : Heap) (L : List Loc) : Prop := v = some (.long (own_life q1)) ∧ Fr n0 L ∧ h = h0
set_option maxRecDepth 65536 in
set_option maxHeartbeats 40000000 in
theorem rm1 (l : Launch) (Z : State) (a0 : Array Value) (hw : ∀ d ∈ tables_1, d.before a0 Z = true) (ws : List Jvm.Cond) (q1 : Int64) (h0 : Heap) (n0 : Nat) (Z0 : n0 ≤ h0.size) :
    MetFree l (⟨"com/example/unutkan/unutkan/core/FixedExpirationExpiresAtAfterReadPinLaw", "lifetime", "(J)J"⟩ : MethodName) (head1 (Jvm.Cond.code (⟨"com/example/unutkan/unutkan/core/FixedExpirationExpiresAtAfterReadPinLaw", "lifetime", "(J)J"⟩ : MethodName) method_2_code 2 (some .long) :: ws) ({ frames := 0, cells := 0, slots := 0, locals := 0 } : Room)) (fun a U => a = #[(.long q1)] ∧ Z.Warmed39 U.vm ∧ U.heap = h0) (fun _ _ _ _ _ => True) (fun _ U o U' => ∃ v L, o = .returned v ∧ Q1 q1 h0 n0 Z v U'.heap L ∧ FrameEnd U o U' L ({ frames := 0, cells := 0, slots := 0, locals := 0 } : Room).cells ({ frames := 0, cells := 0, slots := 0, locals := 0 } : Room).slots) := by
  refine MetFree.of_bodySF (plainFor_of_name pn_0) hisR ?_
  intro p e s m args below meth c s₁ Bd hml0 hP hK
  obtain ⟨rfl, hZ, hh⟩ := hP
  have hx := Bd.exec
  have hby := Bd.bytes
  have hml : c.maxLocals = 2 := hml0
  have hown : s.vm.findClass "com/example/unutkan/unutkan/core/FixedExpirationExpiresAtAfterReadPinLaw" = some m.cls := findClass_of_methodNamed Bd.named
  have hnm := (name_of_methodNamed Bd.named Bd.method).1
  have hlk := Bd.notSynchronized
  have hrt := Bd.returns
  have X0 : Stand p l e ({ frames := 0, cells := 0, slots := 0, locals := 0 } : Room) s m #[(.long q1)] below meth c s₁ [] 0 0 := Stand.of_body Bd
  have e0 : s₁.heap = h0 := by rw [← hh, Bd.state]; rfl
  have N0 := Fr.nil n0
  show own_Ends p e below s (Q1 q1 h0 n0 Z) ({ frames := 0, cells := 0, slots := 0, locals := 0 } : Room).cells ({ frames := 0, cells := 0, slots := 0, locals := 0 } : Room).slots (s₁.setTop (entryFrame m #[(.long q1)] 2))
  rw [ef_1]
  refine own_go (fun _ k => XT.lconstV X0.here hx rfl (1 : Int64) (hb hby d1_0) rfl <| XS.lloadN X0.here hx rfl (hb hby d1_1) rfl <| X0.ldc2J hx hown (mvT hZ (hw _ (List.mem_of_getElem? (i := 4) rfl))) rfl (hb hby d1_2) <| XS.land X0.here hx rfl (hb hby d1_5) rfl <| X0.ldc2J hx hown (mvT hZ (hw _ (List.mem_of_getElem? (i := 5) rfl))) rfl (hb hby d1_6) <| XS.lrem X0.here hx rfl (hb hby d1_9) rfl (by decide) <| XS.ladd X0.here hx rfl (hb hby d1_10) rfl <| k) ?_
  show own_Ends p e below s _ _ _ (s₁.setTop (mkF m 11 #[.val (.long q1), .second] [(.long ((1 : Int64) + ((q1 &&& (9223372036854775807 : Int64)) - ((q1 &&& (9223372036854775807 : Int64)) / (9223372036854775806 : Int64)) * (9223372036854775806 : Int64))))]))
  exact own_ret X0 hx hrt rfl (Or.inr (Or.inl ⟨rfl, rfl, _, rfl⟩)) (hb hby d1_11) hlk (by rw [e0]; exact ⟨rfl, N0, rfl⟩) (by decide) (by decide)
theorem d2_0 : decode prog_11_method_1_code 0 = .ok (.aload_n 0, 1) := by decide +kernel
theorem d2_1 : decode prog_11_method_1_code 1 = .ok (.invokespecial 1, 3) := by decide +kernel
theorem d2_4 : decode prog_11_method_1_code 4 = .ok (.aload_n 0, 1) := by decide +kernel
theorem d2_5 : decode prog_11_method_1_code 5 = .ok (.lload_n 1, 1) := by decide +kernel
theorem d2_6 : decode prog_11_method_1_code 6 = .ok (.putfield 7, 3) := by decide +kernel
theorem d2_9 : decode prog_11_method_1_code 9 = .ok (.aload_n 0, 1) := by decide +kernel
theorem d2_10 : decode prog_11_method_1_code 10 = .ok (.lload_n 3, 1) := by decide +kernel
theorem d2_11 : decode prog_11_method_1_code 11 = .ok (.putfield 13, 3) := by decide +kernel
theorem d2_14 : decode prog_11_method_1_code 14 = .ok (.aload_n 0, 1) := by decide +kernel
theorem d2_15 : decode prog_11_method_1_code 15 = .ok (.dload 5, 2) := by decide +kernel
theorem d2_17 : decode prog_11_method_1_code 17 = .ok (.putfield 16, 3) := by decide +kernel
theorem d2_20 : decode prog_11_method_1_code 20 = .ok (.aload_n 0, 1) := by decide +kernel
theorem d2_21 : decode prog_11_method_1_code 21 = .ok (.lload_n 1, 1) := by decide +kernel
theorem d2_22 : decode prog_11_method_1_code 22 = .ok (.ldc2_w 22, 3) := by decide +kernel
theorem d2_25 : decode prog_11_method_1_code 25 = .ok (.lcmp, 1) := by decide +kernel
theorem d2_26 : decode prog_11_method_1_code 26 = .ok (.ifCond .eq 15, 3) := by decide +kernel
theorem d2_29 : decode prog_11_method_1_code 29 = .ok (.lload_n 3, 1) := by decide +kernel
theorem d2_30 : decode prog_11_method_1_code 30 = .ok (.ldc2_w 22, 3) := by decide +kernel
theorem d2_33 : decode prog_11_method_1_code 33 = .ok (.lcmp, 1) := by decide +kernel
theorem d2_34 : decode prog_11_method_1_code 34 = .ok (.ifCond .eq 7, 3) := by decide +kernel
theorem d2_37 : decode prog_11_method_1_code 37 = .ok (.iconst 1, 1) := by decide +kernel
theorem d2_38 : decode prog_11_method_1_code 38 = .ok (.goto 4, 3) := by decide +kernel
theorem d2_41 : decode prog_11_method_1_code 41 = .ok (.iconst 0, 1) := by decide +kernel
theorem d2_42 : decode prog_11_method_1_code 42 = .ok (.putfield 24, 3) := by decide +kernel
theorem d2_45 : decode prog_11_method_1_code 45 = .ok (.return_, 1) := by decide +kernel
theorem pn_1 : plainName "com/example/unutkan/unutkan/core/FixedExpiration" = true := by first | (simp [plainName, overriddenIn]; done) | decide +kernel
theorem ef_2 (m : MethodId) (x0 : Addr) (x1 : Int64) (x2 : Int64) (x3 : UInt64) : entryFrame m #[(.ref x0), (.long x1), (.long x2), (.double x3)] 7 = mkF m 0 #[.val (.ref x0), .val (.long x1), .second, .val (.long x2), .second, .val (.double x3), .second] [] := by first | (simp [entryFrame, mkF, argsToLocals, Value.category]; done) | rfl
def Q2 (a1 : Addr) (q2 : Int64) (q3 : Int64) (d4 : UInt64) (h0 : Heap) (n0 : Nat) (Z : State) (v : Option Value) (h : Heap) (L : List Loc) : Prop := v = none ∧ Fr n0 L ∧ Keep h0 h [a1] ∧ Fld Z h a1 "com/example/unutkan/unutkan/core/FixedExpiration" "afterWrite" "J" (.long q2) ∧ Fld Z h a1 "com/example/unutkan/unutkan/core/FixedExpiration" "afterAccess" "J" (.long q3) ∧ Fld Z h a1 "com/example/unutkan/unutkan/core/FixedExpiration" "jitter" "D" (.double d4) ∧ Fld Z h a1 "com/example/unutkan/unutkan/core/FixedExpiration" "boundByBoth" "Z" (.int (nar .boolean (own_bb q2 q3)))
set_option maxRecDepth 65536 in
set_option maxHeartbeats 40000000 in
theorem rm2 (l : Launch) (Z : State) (a0 : Array Value) (hw : ∀ d ∈ tables_1, d.before a0 Z = true) (ws : List Jvm.Cond) (a1 : Addr) (q2 : Int64) (q3 : Int64) (d4 : UInt64) (h0 : Heap) (n0 : Nat) (Z0 : n0 ≤ h0.size) (E1 : Exa Z h0 a1 "com/example/unutkan/unutkan/core/FixedExpiration") (F_afterWrite : Fld Z h0 a1 "com/example/unutkan/unutkan/core/FixedExpiration" "afterWrite" "J" (.long (0 : Int64))) (F_afterAccess : Fld Z h0 a1 "com/example/unutkan/unutkan/core/FixedExpiration" "afterAccess" "J" (.long (0 : Int64))) (F_jitter : Fld Z h0 a1 "com/example/unutkan/unutkan/core/FixedExpiration" "jitter" "D" (.double (0 : UInt64))) (F_boundByBoth : Fld Z h0 a1 "com/example/unutkan/unutkan/core/FixedExpiration" "boundByBoth" "Z" (.int (0 : Int32))) (g1 : n0 ≤ a1) :
    MetFree l (⟨"com/example/unutkan/unutkan/core/FixedExpiration", "<init>", "(JJD)V"⟩ : MethodName) (head1 (Jvm.Cond.code (⟨"com/example/unutkan/unutkan/core/FixedExpiration", "<init>", "(JJD)V"⟩ : MethodName) prog_11_method_1_code 7 none :: ws) ({ frames := 1, cells := 0, slots := 0, locals := 12 } : Room)) (fun a U => a = #[(.ref a1), (.long q2), (.long q3), (.double d4)] ∧ Z.Warmed39 U.vm ∧ U.heap = h0) (fun _ _ _ _ _ => True) (fun _ U o U' => ∃ v L, o = .returned v ∧ Q2 a1 q2 q3 d4 h0 n0 Z v U'.heap L ∧ FrameEnd U o U' L ({ frames := 1, cells := 0, slots := 0, locals := 12 } : Room).cells ({ frames := 1, cells := 0, slots := 0, locals := 12 } : Room).slots) := by
  refine MetFree.of_bodySF (plainFor_of_name pn_1) hisR ?_
  intro p e s m args below meth c s₁ Bd hml0 hP hK
  obtain ⟨rfl, hZ, hh⟩ := hP
  have hx := Bd.exec
  have hby := Bd.bytes
  have hml : c.maxLocals = 7 := hml0
  have hown : s.vm.findClass "com/example/unutkan/unutkan/core/FixedExpiration" = some m.cls := findClass_of_methodNamed Bd.named
  have hnm := (name_of_methodNamed Bd.named Bd.method).1
  have hlk := Bd.notSynchronized
  have hrt := Bd.returns
  have X0 : Stand p l e ({ frames := 1, cells := 0, slots := 0, locals := 12 } : Room) s m #[(.ref a1), (.long q2), (.long q3), (.double d4)] below meth c s₁ [] 0 0 := Stand.of_body Bd
  have e0 : s₁.heap = h0 := by rw [← hh, Bd.state]; rfl
  have N0 := Fr.nil n0
  show own_Ends p e below s (Q2 a1 q2 q3 d4 h0 n0 Z) ({ frames := 1, cells := 0, slots := 0, locals := 12 } : Room).cells ({ frames := 1, cells := 0, slots := 0, locals := 12 } : Room).slots (s₁.setTop (entryFrame m #[(.ref a1), (.long q2), (.long q3), (.double d4)] 7))
  rw [ef_2]
  have K0 : Keep h0 h0 [a1] := Keep.refl h0 [a1]
  refine own_go (fun _ k => XS.aloadN X0.here hx rfl (hb hby d2_0) rfl rfl <| k) ?_
  show own_Ends p e below s _ _ _ (s₁.setTop (mkF m 1 #[.val (.ref a1), .val (.long q2), .second, .val (.long q3), .second, .val (.double d4), .second] [(.ref a1)]))
  obtain ⟨T1, X1, e1, st1⟩ := initO X0 hx hZ hown (hw _ (List.mem_of_getElem? (i := 12) rfl)) (hw _ (List.mem_of_getElem? (i := 13) rfl)) (hw _ (List.mem_of_getElem? (i := 14) rfl)) e0 (g := (mkF m 1 #[.val (.ref a1), .val (.long q2), .second, .val (.long q3), .second, .val (.double d4), .second] [(.ref a1)])) rfl (by rw [hml]; rfl) rfl (hb hby d2_1) (by decide) (W := 0) (by show 2 * 0 + _ ≤ _; exact Nat.le_of_eq rfl) (by decide)
  refine own_go st1 ?_
  show own_Ends p e below s _ _ _ (T1.setTop (mkF m 4 #[.val (.ref a1), .val (.long q2), .second, .val (.long q3), .second, .val (.double d4), .second] []))
  refine own_go (fun _ k => XS.aloadN X1.here hx rfl (hb hby d2_4) rfl rfl <| XS.lloadN X1.here hx rfl (hb hby d2_5) rfl <| k) ?_
  show own_Ends p e below s _ _ _ (T1.setTop (mkF m 6 #[.val (.ref a1), .val (.long q2), .second, .val (.long q3), .second, .val (.double d4), .second] [(.long q2), (.ref a1)]))
  obtain ⟨T2, h2, X2, e2, W2, st2⟩ := putF X1 hx hZ hown (host := "") (Or.inl (hw _ (List.mem_of_getElem? (i := 15) rfl))) Via.refl e1 F_afterWrite E1 (Or.inr ⟨(hw _ (List.mem_of_getElem? (i := 16) rfl)), rfl, hnm⟩) (hw _ (List.mem_of_getElem? (i := 7) rfl)) (ty := .long) (by decide) rfl rfl (g := (mkF m 6 #[.val (.ref a1), .val (.long q2), .second, .val (.long q3), .second, .val (.double d4), .second] [(.long q2), (.ref a1)])) rfl rfl (hb hby d2_6)
  refine own_go st2 ?_
  have E1'2 := E1.wr W2
  have F_afterAccess'2 := F_afterAccess.other W2 (Or.inr (slot_ne (Or.inr (hw _ (List.mem_of_getElem? (i := 18) rfl))) (Or.inr (hw _ (List.mem_of_getElem? (i := 16) rfl))) (by decide) (t := .long) (t' := .long) (by decide) (by decide)))
  have F_jitter'2 := F_jitter.other W2 (Or.inr (slot_ne (Or.inr (hw _ (List.mem_of_getElem? (i := 20) rfl))) (Or.inr (hw _ (List.mem_of_getElem? (i := 16) rfl))) (by decide) (t := .double) (t' := .long) (by decide) (by decide)))
  have F_boundByBoth'2 := F_boundByBoth.other W2 (Or.inr (slot_ne (Or.inr (hw _ (List.mem_of_getElem? (i := 23) rfl))) (Or.inr (hw _ (List.mem_of_getElem? (i := 16) rfl))) (by decide) (t := .boolean) (t' := .long) (by decide) (by decide)))
  have Z2 := Nat.le_trans Z0 (Keep.of_wr W2).1
  have K2' := K0.wr W2 (Or.inl (List.mem_of_getElem? (i := 0) rfl))
  have N2 := Fr.snoc X2 N0 g1
  have F_afterWrite'2 := F_afterWrite.same W2
  show own_Ends p e below s _ _ _ (T2.setTop (mkF m 9 #[.val (.ref a1), .val (.long q2), .second, .val (.long q3), .second, .val (.double d4), .second] []))
  refine own_go (fun _ k => XS.aloadN X2.here hx rfl (hb hby d2_9) rfl rfl <| XS.lloadN X2.here hx rfl (hb hby d2_10) rfl <| k) ?_
  show own_Ends p e below s _ _ _ (T2.setTop (mkF m 11 #[.val (.ref a1), .val (.long q2), .second, .val (.long q3), .second, .val (.double d4), .second] [(.long q3), (.ref a1)]))
  obtain ⟨T3, h3, X3, e3, W3, st3⟩ := putF X2 hx hZ hown (host := "") (Or.inl (hw _ (List.mem_of_getElem? (i := 17) rfl))) Via.refl e2 F_afterAccess'2 E1'2 (Or.inr ⟨(hw _ (List.mem_of_getElem? (i := 18) rfl)), rfl, hnm⟩) (hw _ (List.mem_of_getElem? (i := 7) rfl)) (ty := .long) (by decide) rfl rfl (g := (mkF m 11 #[.val (.ref a1), .val (.long q2), .second, .val (.long q3), .second, .val (.double d4), .second] [(.long q3), (.ref a1)])) rfl rfl (hb hby d2_11)
  refine own_go st3 ?_
  have E1'3 := E1'2.wr W3
  have F_jitter'3 := F_jitter'2.other W3 (Or.inr (slot_ne (Or.inr (hw _ (List.mem_of_getElem? (i := 20) rfl))) (Or.inr (hw _ (List.mem_of_getElem? (i := 18) rfl))) (by decide) (t := .double) (t' := .long) (by decide) (by decide)))
  have F_boundByBoth'3 := F_boundByBoth'2.other W3 (Or.inr (slot_ne (Or.inr (hw _ (List.mem_of_getElem? (i := 23) rfl))) (Or.inr (hw _ (List.mem_of_getElem? (i := 18) rfl))) (by decide) (t := .boolean) (t' := .long) (by decide) (by decide)))
  have F_afterWrite'3 := F_afterWrite'2.other W3 (Or.inr (slot_ne (Or.inr (hw _ (List.mem_of_getElem? (i := 16) rfl))) (Or.inr (hw _ (List.mem_of_getElem? (i := 18) rfl))) (by decide) (t := .long) (t' := .long) (by decide) (by decide)))
  have Z3 := Nat.le_trans Z2 (Keep.of_wr W3).1
  have K3' := K2'.wr W3 (Or.inl (List.mem_of_getElem? (i := 0) rfl))
  have N3 := Fr.snoc X3 N2 g1
  have F_afterAccess'3 := F_afterAccess'2.same W3
  show own_Ends p e below s _ _ _ (T3.setTop (mkF m 14 #[.val (.ref a1), .val (.long q2), .second, .val (.long q3), .second, .val (.double d4), .second] []))
  refine own_go (fun _ k => XS.aloadN X3.here hx rfl (hb hby d2_14) rfl rfl <| XS.dload X3.here hx rfl (hb hby d2_15) rfl <| k) ?_
  show own_Ends p e below s _ _ _ (T3.setTop (mkF m 17 #[.val (.ref a1), .val (.long q2), .second, .val (.long q3), .second, .val (.double d4), .second] [(.double d4), (.ref a1)]))
  obtain ⟨T4, h4, X4, e4, W4, st4⟩ := putF X3 hx hZ hown (host := "") (Or.inl (hw _ (List.mem_of_getElem? (i := 19) rfl))) Via.refl e3 F_jitter'3 E1'3 (Or.inr ⟨(hw _ (List.mem_of_getElem? (i := 20) rfl)), rfl, hnm⟩) (hw _ (List.mem_of_getElem? (i := 7) rfl)) (ty := .double) (by decide) rfl rfl (g := (mkF m 17 #[.val (.ref a1), .val (.long q2), .second, .val (.long q3), .second, .val (.double d4), .second] [(.double d4), (.ref a1)])) rfl rfl (hb hby d2_17)
  refine own_go st4 ?_
  have E1'4 := E1'3.wr W4
  have F_boundByBoth'4 := F_boundByBoth'3.other W4 (Or.inr (slot_ne (Or.inr (hw _ (List.mem_of_getElem? (i := 23) rfl))) (Or.inr (hw _ (List.mem_of_getElem? (i := 20) rfl))) (by decide) (t := .boolean) (t' := .double) (by decide) (by decide)))
  have F_afterWrite'4 := F_afterWrite'3.other W4 (Or.inr (slot_ne (Or.inr (hw _ (List.mem_of_getElem? (i := 16) rfl))) (Or.inr (hw _ (List.mem_of_getElem? (i := 20) rfl))) (by decide) (t := .long) (t' := .double) (by decide) (by decide)))
  have F_afterAccess'4 := F_afterAccess'3.other W4 (Or.inr (slot_ne (Or.inr (hw _ (List.mem_of_getElem? (i := 18) rfl))) (Or.inr (hw _ (List.mem_of_getElem? (i := 20) rfl))) (by decide) (t := .long) (t' := .double) (by decide) (by decide)))
  have Z4 := Nat.le_trans Z3 (Keep.of_wr W4).1
  have K4' := K3'.wr W4 (Or.inl (List.mem_of_getElem? (i := 0) rfl))
  have N4 := Fr.snoc X4 N3 g1
  have F_jitter'4 := F_jitter'3.same W4
  show own_Ends p e below s _ _ _ (T4.setTop (mkF m 20 #[.val (.ref a1), .val (.long q2), .second, .val (.long q3), .second, .val (.double d4), .second] []))
  refine own_go (fun _ k => XS.aloadN X4.here hx rfl (hb hby d2_20) rfl rfl <| XS.lloadN X4.here hx rfl (hb hby d2_21) rfl <| X4.ldc2J hx hown (mvT hZ (hw _ (List.mem_of_getElem? (i := 21) rfl))) rfl (hb hby d2_22) <| XS.lcmp X4.here hx rfl (hb hby d2_25) rfl <| k) ?_
  show own_Ends p e below s _ _ _ (T4.setTop (mkF m 26 #[.val (.ref a1), .val (.long q2), .second, .val (.long q3), .second, .val (.double d4), .second] [(.int (lcmpW q2 (9223372036854775807 : Int64))), (.ref a1)]))
  by_cases hc26_5 : q2 = (9223372036854775807 : Int64)
  · -- true
    refine own_go (fun _ k => XS.ifYes X4.here hx rfl (pc0 := 26) (pc' := 41) rfl (hb hby d2_26) rfl ((if0 _ _).trans (teq ((lw_eq _ _).mpr hc26_5)).1) (by decide) (by decide) <| XT.iconstV X4.here hx rfl (0 : Int32) (hb hby d2_41) rfl <| k) ?_
    show own_Ends p e below s _ _ _ (T4.setTop (mkF m 42 #[.val (.ref a1), .val (.long q2), .second, .val (.long q3), .second, .val (.double d4), .second] [(.int (0 : Int32)), (.ref a1)]))
    obtain ⟨T6, h6, X6, e6, W6, st6⟩ := putFN X4 hx hZ hown (hw _ (List.mem_of_getElem? (i := 22) rfl)) Via.refl e4 F_boundByBoth'4 E1'4 (Or.inr ⟨(hw _ (List.mem_of_getElem? (i := 23) rfl)), rfl, hnm⟩) (hw _ (List.mem_of_getElem? (i := 7) rfl)) (ty := .boolean) (v' := (.int (0 : Int32))) (by decide) (by decide) (by decide) (g := (mkF m 42 #[.val (.ref a1), .val (.long q2), .second, .val (.long q3), .second, .val (.double d4), .second] [(.int (0 : Int32)), (.ref a1)])) rfl rfl (hb hby d2_42)
    refine own_go st6 ?_
    have E1'6 := E1'4.wr W6
    have F_afterWrite'6 := F_afterWrite'4.other W6 (Or.inr (slot_ne (Or.inr (hw _ (List.mem_of_getElem? (i := 16) rfl))) (Or.inr (hw _ (List.mem_of_getElem? (i := 23) rfl))) (by decide) (t := .long) (t' := .boolean) (by decide) (by decide)))
    have F_afterAccess'6 := F_afterAccess'4.other W6 (Or.inr (slot_ne (Or.inr (hw _ (List.mem_of_getElem? (i := 18) rfl))) (Or.inr (hw _ (List.mem_of_getElem? (i := 23) rfl))) (by decide) (t := .long) (t' := .boolean) (by decide) (by decide)))
    have F_jitter'6 := F_jitter'4.other W6 (Or.inr (slot_ne (Or.inr (hw _ (List.mem_of_getElem? (i := 20) rfl))) (Or.inr (hw _ (List.mem_of_getElem? (i := 23) rfl))) (by decide) (t := .double) (t' := .boolean) (by decide) (by decide)))
    have Z6 := Nat.le_trans Z4 (Keep.of_wr W6).1
    have K6' := K4'.wr W6 (Or.inl (List.mem_of_getElem? (i := 0) rfl))
    have N6 := Fr.snoc X6 N4 g1
    have F_boundByBoth'6 := F_boundByBoth'4.same W6
    show own_Ends p e below s _ _ _ (T6.setTop (mkF m 45 #[.val (.ref a1), .val (.long q2), .second, .val (.long q3), .second, .val (.double d4), .second] []))
    exact own_ret0 X6 hx hrt (hb hby d2_45) hlk (by rw [e6]; exact ⟨rfl, N6, K6', F_afterWrite'6, F_afterAccess'6, F_jitter'6, (by have q := F_boundByBoth'6; rw [show nar .boolean (own_bb q2 q3) = (0 : Int32) from by unfold own_bb; rw [if_pos hc26_5]; decide]; exact q)⟩) (by decide) (by decide)
  · -- false
    refine own_go (fun _ k => XS.ifNo X4.here hx rfl (hb hby d2_26) rfl ((if0 _ _).trans (feq (fun q => hc26_5 ((lw_eq _ _).mp q))).1) <| XS.lloadN X4.here hx rfl (hb hby d2_29) rfl <| X4.ldc2J hx hown (mvT hZ (hw _ (List.mem_of_getElem? (i := 21) rfl))) rfl (hb hby d2_30) <| XS.lcmp X4.here hx rfl (hb hby d2_33) rfl <| k) ?_
    show own_Ends p e below s _ _ _ (T4.setTop (mkF m 34 #[.val (.ref a1), .val (.long q2), .second, .val (.long q3), .second, .val (.double d4), .second] [(.int (lcmpW q3 (9223372036854775807 : Int64))), (.ref a1)]))
    by_cases hc34_7 : q3 = (9223372036854775807 : Int64)
    · -- true
      refine own_go (fun _ k => XS.ifYes X4.here hx rfl (pc0 := 34) (pc' := 41) rfl (hb hby d2_34) rfl ((if0 _ _).trans (teq ((lw_eq _ _).mpr hc34_7)).1) (by decide) (by decide) <| XT.iconstV X4.here hx rfl (0 : Int32) (hb hby d2_41) rfl <| k) ?_
      show own_Ends p e below s _ _ _ (T4.setTop (mkF m 42 #[.val (.ref a1), .val (.long q2), .second, .val (.long q3), .second, .val (.double d4), .second] [(.int (0 : Int32)), (.ref a1)]))
      obtain ⟨T8, h8, X8, e8, W8, st8⟩ := putFN X4 hx hZ hown (hw _ (List.mem_of_getElem? (i := 22) rfl)) Via.refl e4 F_boundByBoth'4 E1'4 (Or.inr ⟨(hw _ (List.mem_of_getElem? (i := 23) rfl)), rfl, hnm⟩) (hw _ (List.mem_of_getElem? (i := 7) rfl)) (ty := .boolean) (v' := (.int (0 : Int32))) (by decide) (by decide) (by decide) (g := (mkF m 42 #[.val (.ref a1), .val (.long q2), .second, .val (.long q3), .second, .val (.double d4), .second] [(.int (0 : Int32)), (.ref a1)])) rfl rfl (hb hby d2_42)
      refine own_go st8 ?_
      have E1'8 := E1'4.wr W8
      have F_afterWrite'8 := F_afterWrite'4.other W8 (Or.inr (slot_ne (Or.inr (hw _ (List.mem_of_getElem? (i := 16) rfl))) (Or.inr (hw _ (List.mem_of_getElem? (i := 23) rfl))) (by decide) (t := .long) (t' := .boolean) (by decide) (by decide)))
      have F_afterAccess'8 := F_afterAccess'4.other W8 (Or.inr (slot_ne (Or.inr (hw _ (List.mem_of_getElem? (i := 18) rfl))) (Or.inr (hw _ (List.mem_of_getElem? (i := 23) rfl))) (by decide) (t := .long) (t' := .boolean) (by decide) (by decide)))
      have F_jitter'8 := F_jitter'4.other W8 (Or.inr (slot_ne (Or.inr (hw _ (List.mem_of_getElem? (i := 20) rfl))) (Or.inr (hw _ (List.mem_of_getElem? (i := 23) rfl))) (by decide) (t := .double) (t' := .boolean) (by decide) (by decide)))
      have Z8 := Nat.le_trans Z4 (Keep.of_wr W8).1
      have K8' := K4'.wr W8 (Or.inl (List.mem_of_getElem? (i := 0) rfl))
      have N8 := Fr.snoc X8 N4 g1
      have F_boundByBoth'8 := F_boundByBoth'4.same W8
      show own_Ends p e below s _ _ _ (T8.setTop (mkF m 45 #[.val (.ref a1), .val (.long q2), .second, .val (.long q3), .second, .val (.double d4), .second] []))
      exact own_ret0 X8 hx hrt (hb hby d2_45) hlk (by rw [e8]; exact ⟨rfl, N8, K8', F_afterWrite'8, F_afterAccess'8, F_jitter'8, (by have q := F_boundByBoth'8; rw [show nar .boolean (own_bb q2 q3) = (0 : Int32) from by unfold own_bb; rw [if_neg hc26_5, if_pos hc34_7]; decide]; exact q)⟩) (by decide) (by decide)
    · -- false
      refine own_go (fun _ k => XS.ifNo X4.here hx rfl (hb hby d2_34) rfl ((if0 _ _).trans (feq (fun q => hc34_7 ((lw_eq _ _).mp q))).1) <| XT.iconstV X4.here hx rfl (1 : Int32) (hb hby d2_37) rfl <| XS.goto X4.here hx rfl (pc0 := 38) (pc' := 42) rfl (hb hby d2_38) (by decide) (by decide) <| k) ?_
      show own_Ends p e below s _ _ _ (T4.setTop (mkF m 42 #[.val (.ref a1), .val (.long q2), .second, .val (.long q3), .second, .val (.double d4), .second] [(.int (1 : Int32)), (.ref a1)]))
      obtain ⟨T9, h9, X9, e9, W9, st9⟩ := putFN X4 hx hZ hown (hw _ (List.mem_of_getElem? (i := 22) rfl)) Via.refl e4 F_boundByBoth'4 E1'4 (Or.inr ⟨(hw _ (List.mem_of_getElem? (i := 23) rfl)), rfl, hnm⟩) (hw _ (List.mem_of_getElem? (i := 7) rfl)) (ty := .boolean) (v' := (.int (1 : Int32))) (by decide) (by decide) (by decide) (g := (mkF m 42 #[.val (.ref a1), .val (.long q2), .second, .val (.long q3), .second, .val (.double d4), .second] [(.int (1 : Int32)), (.ref a1)])) rfl rfl (hb hby d2_42)
      refine own_go st9 ?_
      have E1'9 := E1'4.wr W9
      have F_afterWrite'9 := F_afterWrite'4.other W9 (Or.inr (slot_ne (Or.inr (hw _ (List.mem_of_getElem? (i := 16) rfl))) (Or.inr (hw _ (List.mem_of_getElem? (i := 23) rfl))) (by decide) (t := .long) (t' := .boolean) (by decide) (by decide)))
      have F_afterAccess'9 := F_afterAccess'4.other W9 (Or.inr (slot_ne (Or.inr (hw _ (List.mem_of_getElem? (i := 18) rfl))) (Or.inr (hw _ (List.mem_of_getElem? (i := 23) rfl))) (by decide) (t := .long) (t' := .boolean) (by decide) (by decide)))
      have F_jitter'9 := F_jitter'4.other W9 (Or.inr (slot_ne (Or.inr (hw _ (List.mem_of_getElem? (i := 20) rfl))) (Or.inr (hw _ (List.mem_of_getElem? (i := 23) rfl))) (by decide) (t := .double) (t' := .boolean) (by decide) (by decide)))
      have Z9 := Nat.le_trans Z4 (Keep.of_wr W9).1
      have K9' := K4'.wr W9 (Or.inl (List.mem_of_getElem? (i := 0) rfl))
      have N9 := Fr.snoc X9 N4 g1
      have F_boundByBoth'9 := F_boundByBoth'4.same W9
      show own_Ends p e below s _ _ _ (T9.setTop (mkF m 45 #[.val (.ref a1), .val (.long q2), .second, .val (.long q3), .second, .val (.double d4), .second] []))
      exact own_ret0 X9 hx hrt (hb hby d2_45) hlk (by rw [e9]; exact ⟨rfl, N9, K9', F_afterWrite'9, F_afterAccess'9, F_jitter'9, (by have q := F_boundByBoth'9; rw [show nar .boolean (own_bb q2 q3) = (1 : Int32) from by unfold own_bb; rw [if_neg hc26_5, if_neg hc34_7]; decide]; exact q)⟩) (by decide) (by decide)
theorem d5_0 : decode prog_18_method_1_code 0 = .ok (.aload_n 0, 1) := by decide +kernel
theorem d5_1 : decode prog_18_method_1_code 1 = .ok (.invokespecial 1, 3) := by decide +kernel
theorem d5_4 : decode prog_18_method_1_code 4 = .ok (.aload_n 0, 1) := by decide +kernel
theorem d5_5 : decode prog_18_method_1_code 5 = .ok (.aload_n 1, 1) := by decide +kernel
theorem d5_6 : decode prog_18_method_1_code 6 = .ok (.putfield 7, 3) := by decide +kernel
theorem d5_9 : decode prog_18_method_1_code 9 = .ok (.aload_n 0, 1) := by decide +kernel
theorem d5_10 : decode prog_18_method_1_code 10 = .ok (.aload_n 2, 1) := by decide +kernel
theorem d5_11 : decode prog_18_method_1_code 11 = .ok (.putfield 13, 3) := by decide +kernel
theorem d5_14 : decode prog_18_method_1_code 14 = .ok (.return_, 1) := by decide +kernel
theorem pn_2 : plainName "com/example/unutkan/unutkan/core/Node" = true := by first | (simp [plainName, overriddenIn]; done) | decide +kernel
theorem ef_N1 (m : MethodId) (x0 : Addr) : entryFrame m #[(.ref x0), .null, .null] 3 = mkF m 0 #[.val (.ref x0), .val .null, .val .null] [] := by first | (simp [entryFrame, mkF, argsToLocals, Value.category]; done) | rfl
def QN1 (a1 : Addr) (h0 : Heap) (n0 : Nat) (Z : State) (v : Option Value) (h : Heap) (L : List Loc) : Prop := v = none ∧ Fr n0 L ∧ Keep h0 h [a1] ∧ Fld Z h a1 "com/example/unutkan/unutkan/core/Node" "key" "Ljava/lang/Object;" .null ∧ Fld Z h a1 "com/example/unutkan/unutkan/core/Node" "value" "Ljava/lang/Object;" .null
set_option maxRecDepth 65536 in
set_option maxHeartbeats 40000000 in
theorem rmN1 (l : Launch) (Z : State) (a0 : Array Value) (hw : ∀ d ∈ tables_1, d.before a0 Z = true) (ws : List Jvm.Cond) (a1 : Addr) (h0 : Heap) (n0 : Nat) (Z0 : n0 ≤ h0.size) (E1 : Exa Z h0 a1 "com/example/unutkan/unutkan/core/Node") (F_key : Fld Z h0 a1 "com/example/unutkan/unutkan/core/Node" "key" "Ljava/lang/Object;" .null) (F_value : Fld Z h0 a1 "com/example/unutkan/unutkan/core/Node" "value" "Ljava/lang/Object;" .null) (g1 : n0 ≤ a1) :
    MetFree l (⟨"com/example/unutkan/unutkan/core/Node", "<init>", "(Ljava/lang/Object;Ljava/lang/Object;)V"⟩ : MethodName) (head1 (Jvm.Cond.code (⟨"com/example/unutkan/unutkan/core/Node", "<init>", "(Ljava/lang/Object;Ljava/lang/Object;)V"⟩ : MethodName) prog_18_method_1_code 3 none :: ws) ({ frames := 1, cells := 0, slots := 0, locals := 12 } : Room)) (fun a U => a = #[(.ref a1), .null, .null] ∧ Z.Warmed39 U.vm ∧ U.heap = h0) (fun _ _ _ _ _ => True) (fun _ U o U' => ∃ v L, o = .returned v ∧ QN1 a1 h0 n0 Z v U'.heap L ∧ FrameEnd U o U' L ({ frames := 1, cells := 0, slots := 0, locals := 12 } : Room).cells ({ frames := 1, cells := 0, slots := 0, locals := 12 } : Room).slots) := by
  refine MetFree.of_bodySF (plainFor_of_name pn_2) hisR ?_
  intro p e s m args below meth c s₁ Bd hml0 hP hK
  obtain ⟨rfl, hZ, hh⟩ := hP
  have hx := Bd.exec
  have hby := Bd.bytes
  have hml : c.maxLocals = 3 := hml0
  have hown : s.vm.findClass "com/example/unutkan/unutkan/core/Node" = some m.cls := findClass_of_methodNamed Bd.named
  have hnm := (name_of_methodNamed Bd.named Bd.method).1
  have hlk := Bd.notSynchronized
  have hrt := Bd.returns
  have X0 : Stand p l e ({ frames := 1, cells := 0, slots := 0, locals := 12 } : Room) s m #[(.ref a1), .null, .null] below meth c s₁ [] 0 0 := Stand.of_body Bd
  have e0 : s₁.heap = h0 := by rw [← hh, Bd.state]; rfl
  have N0 := Fr.nil n0
  show own_Ends p e below s (QN1 a1 h0 n0 Z) ({ frames := 1, cells := 0, slots := 0, locals := 12 } : Room).cells ({ frames := 1, cells := 0, slots := 0, locals := 12 } : Room).slots (s₁.setTop (entryFrame m #[(.ref a1), .null, .null] 3))
  rw [ef_N1]
  have K0 : Keep h0 h0 [a1] := Keep.refl h0 [a1]
  refine own_go (fun _ k => XS.aloadN X0.here hx rfl (hb hby d5_0) rfl rfl <| k) ?_
  show own_Ends p e below s _ _ _ (s₁.setTop (mkF m 1 #[.val (.ref a1), .val .null, .val .null] [(.ref a1)]))
  obtain ⟨T1, X1, e1, st1⟩ := initO X0 hx hZ hown (hw _ (List.mem_of_getElem? (i := 35) rfl)) (hw _ (List.mem_of_getElem? (i := 13) rfl)) (hw _ (List.mem_of_getElem? (i := 14) rfl)) e0 (g := (mkF m 1 #[.val (.ref a1), .val .null, .val .null] [(.ref a1)])) rfl (by rw [hml]; rfl) rfl (hb hby d5_1) (by decide) (W := 0) (by show 2 * 0 + _ ≤ _; exact Nat.le_of_eq rfl) (by decide)
  refine own_go st1 ?_
  show own_Ends p e below s _ _ _ (T1.setTop (mkF m 4 #[.val (.ref a1), .val .null, .val .null] []))
  refine own_go (fun _ k => XS.aloadN X1.here hx rfl (hb hby d5_4) rfl rfl <| XS.aloadN X1.here hx rfl (hb hby d5_5) rfl rfl <| k) ?_
  show own_Ends p e below s _ _ _ (T1.setTop (mkF m 6 #[.val (.ref a1), .val .null, .val .null] [.null, (.ref a1)]))
  obtain ⟨T2, h2, X2, e2, W2, st2⟩ := putF X1 hx hZ hown (host := "") (Or.inl (hw _ (List.mem_of_getElem? (i := 36) rfl))) Via.refl e1 F_key E1 (Or.inr ⟨(hw _ (List.mem_of_getElem? (i := 37) rfl)), rfl, hnm⟩) (hw _ (List.mem_of_getElem? (i := 30) rfl)) (ty := (.object "java/lang/Object")) (by decide) rfl rfl (g := (mkF m 6 #[.val (.ref a1), .val .null, .val .null] [.null, (.ref a1)])) rfl rfl (hb hby d5_6)
  refine own_go st2 ?_
  have E1'2 := E1.wr W2
  have F_value'2 := F_value.other W2 (Or.inr (slot_ne (Or.inl (hw _ (List.mem_of_getElem? (i := 39) rfl))) (Or.inr (hw _ (List.mem_of_getElem? (i := 37) rfl))) (by decide) (t := (.object "java/lang/Object")) (t' := (.object "java/lang/Object")) (by decide) (by decide)))
  have Z2 := Nat.le_trans Z0 (Keep.of_wr W2).1
  have K2' := K0.wr W2 (Or.inl (List.mem_of_getElem? (i := 0) rfl))
  have N2 := Fr.snoc X2 N0 g1
  have F_key'2 := F_key.same W2
  show own_Ends p e below s _ _ _ (T2.setTop (mkF m 9 #[.val (.ref a1), .val .null, .val .null] []))
  refine own_go (fun _ k => XS.aloadN X2.here hx rfl (hb hby d5_9) rfl rfl <| XS.aloadN X2.here hx rfl (hb hby d5_10) rfl rfl <| k) ?_
  show own_Ends p e below s _ _ _ (T2.setTop (mkF m 11 #[.val (.ref a1), .val .null, .val .null] [.null, (.ref a1)]))
  obtain ⟨T3, h3, X3, e3, W3, st3⟩ := putF X2 hx hZ hown (host := "") (Or.inl (hw _ (List.mem_of_getElem? (i := 38) rfl))) Via.refl e2 F_value'2 E1'2 (Or.inl (hw _ (List.mem_of_getElem? (i := 39) rfl))) (hw _ (List.mem_of_getElem? (i := 30) rfl)) (ty := (.object "java/lang/Object")) (by decide) rfl rfl (g := (mkF m 11 #[.val (.ref a1), .val .null, .val .null] [.null, (.ref a1)])) rfl rfl (hb hby d5_11)
  refine own_go st3 ?_
  have E1'3 := E1'2.wr W3
  have F_key'3 := F_key'2.other W3 (Or.inr (slot_ne (Or.inr (hw _ (List.mem_of_getElem? (i := 37) rfl))) (Or.inl (hw _ (List.mem_of_getElem? (i := 39) rfl))) (by decide) (t := (.object "java/lang/Object")) (t' := (.object "java/lang/Object")) (by decide) (by decide)))
  have Z3 := Nat.le_trans Z2 (Keep.of_wr W3).1
  have K3' := K2'.wr W3 (Or.inl (List.mem_of_getElem? (i := 0) rfl))
  have N3 := Fr.snoc X3 N2 g1
  have F_value'3 := F_value'2.same W3
  show own_Ends p e below s _ _ _ (T3.setTop (mkF m 14 #[.val (.ref a1), .val .null, .val .null] []))
  exact own_ret0 X3 hx hrt (hb hby d5_14) hlk (by rw [e3]; exact ⟨rfl, N3, K3', F_key'3, F_value'3⟩) (by decide) (by decide)
theorem ef_N2 (m : MethodId) (x0 : Addr) : entryFrame m #[(.ref x0), .null, .null] 3 = mkF m 0 #[.val (.ref x0), .val .null, .val .null] [] := by first | (simp [entryFrame, mkF, argsToLocals, Value.category]; done) | rfl
def QN2 (a1 : Addr) (h0 : Heap) (n0 : Nat) (Z : State) (v : Option Value) (h : Heap) (L : List Loc) : Prop := v = none ∧ Fr n0 L ∧ Keep h0 h [a1] ∧ Fld Z h a1 "com/example/unutkan/unutkan/core/FixedExpiration$WriteBoundNode" "writeExpiresAt" "J" (.long (0 : Int64))
set_option maxRecDepth 65536 in
set_option maxHeartbeats 40000000 in
theorem rmN2 (l : Launch) (Z : State) (a0 : Array Value) (hw : ∀ d ∈ tables_1, d.before a0 Z = true) (ws : List Jvm.Cond) (a1 : Addr) (h0 : Heap) (n0 : Nat) (Z0 : n0 ≤ h0.size) (E1 : Exa Z h0 a1 "com/example/unutkan/unutkan/core/FixedExpiration$WriteBoundNode") (F1 : Fld Z h0 a1 "com/example/unutkan/unutkan/core/Node" "key" "Ljava/lang/Object;" .null) (F2 : Fld Z h0 a1 "com/example/unutkan/unutkan/core/Node" "value" "Ljava/lang/Object;" .null) (F3 : Fld Z h0 a1 "com/example/unutkan/unutkan/core/FixedExpiration$WriteBoundNode" "writeExpiresAt" "J" (.long (0 : Int64))) (g1 : n0 ≤ a1) :
    MetFree l (⟨"com/example/unutkan/unutkan/core/Node", "<init>", "(Ljava/lang/Object;Ljava/lang/Object;)V"⟩ : MethodName) (head1 (Jvm.Cond.code (⟨"com/example/unutkan/unutkan/core/Node", "<init>", "(Ljava/lang/Object;Ljava/lang/Object;)V"⟩ : MethodName) prog_18_method_1_code 3 none :: ws) ({ frames := 1, cells := 0, slots := 0, locals := 12 } : Room)) (fun a U => a = #[(.ref a1), .null, .null] ∧ Z.Warmed39 U.vm ∧ U.heap = h0) (fun _ _ _ _ _ => True) (fun _ U o U' => ∃ v L, o = .returned v ∧ QN2 a1 h0 n0 Z v U'.heap L ∧ FrameEnd U o U' L ({ frames := 1, cells := 0, slots := 0, locals := 12 } : Room).cells ({ frames := 1, cells := 0, slots := 0, locals := 12 } : Room).slots) := by
  refine MetFree.of_bodySF (plainFor_of_name pn_2) hisR ?_
  intro p e s m args below meth c s₁ Bd hml0 hP hK
  obtain ⟨rfl, hZ, hh⟩ := hP
  have hx := Bd.exec
  have hby := Bd.bytes
  have hml : c.maxLocals = 3 := hml0
  have hown : s.vm.findClass "com/example/unutkan/unutkan/core/Node" = some m.cls := findClass_of_methodNamed Bd.named
  have hnm := (name_of_methodNamed Bd.named Bd.method).1
  have hlk := Bd.notSynchronized
  have hrt := Bd.returns
  have X0 : Stand p l e ({ frames := 1, cells := 0, slots := 0, locals := 12 } : Room) s m #[(.ref a1), .null, .null] below meth c s₁ [] 0 0 := Stand.of_body Bd
  have e0 : s₁.heap = h0 := by rw [← hh, Bd.state]; rfl
  have N0 := Fr.nil n0
  show own_Ends p e below s (QN2 a1 h0 n0 Z) ({ frames := 1, cells := 0, slots := 0, locals := 12 } : Room).cells ({ frames := 1, cells := 0, slots := 0, locals := 12 } : Room).slots (s₁.setTop (entryFrame m #[(.ref a1), .null, .null] 3))
  rw [ef_N2]
  have K0 : Keep h0 h0 [a1] := Keep.refl h0 [a1]
  refine own_go (fun _ k => XS.aloadN X0.here hx rfl (hb hby d5_0) rfl rfl <| k) ?_
  show own_Ends p e below s _ _ _ (s₁.setTop (mkF m 1 #[.val (.ref a1), .val .null, .val .null] [(.ref a1)]))
  obtain ⟨T1, X1, e1, st1⟩ := initO X0 hx hZ hown (hw _ (List.mem_of_getElem? (i := 35) rfl)) (hw _ (List.mem_of_getElem? (i := 13) rfl)) (hw _ (List.mem_of_getElem? (i := 14) rfl)) e0 (g := (mkF m 1 #[.val (.ref a1), .val .null, .val .null] [(.ref a1)])) rfl (by rw [hml]; rfl) rfl (hb hby d5_1) (by decide) (W := 0) (by show 2 * 0 + _ ≤ _; exact Nat.le_of_eq rfl) (by decide)
  refine own_go st1 ?_
  show own_Ends p e below s _ _ _ (T1.setTop (mkF m 4 #[.val (.ref a1), .val .null, .val .null] []))
  refine own_go (fun _ k => XS.aloadN X1.here hx rfl (hb hby d5_4) rfl rfl <| XS.aloadN X1.here hx rfl (hb hby d5_5) rfl rfl <| k) ?_
  show own_Ends p e below s _ _ _ (T1.setTop (mkF m 6 #[.val (.ref a1), .val .null, .val .null] [.null, (.ref a1)]))
  obtain ⟨T2, h2, X2, e2, W2, st2⟩ := putF X1 hx hZ hown (host := "") (Or.inl (hw _ (List.mem_of_getElem? (i := 36) rfl))) Via.refl e1 F1 E1 (Or.inr ⟨(hw _ (List.mem_of_getElem? (i := 70) rfl)), rfl, hnm⟩) (hw _ (List.mem_of_getElem? (i := 63) rfl)) (ty := (.object "java/lang/Object")) (by decide) rfl rfl (g := (mkF m 6 #[.val (.ref a1), .val .null, .val .null] [.null, (.ref a1)])) rfl rfl (hb hby d5_6)
  refine own_go st2 ?_
  have E1'2 := E1.wr W2
  have F2'2 := F2.other W2 (Or.inr (slot_ne (Or.inl (hw _ (List.mem_of_getElem? (i := 71) rfl))) (Or.inr (hw _ (List.mem_of_getElem? (i := 70) rfl))) (by decide) (t := (.object "java/lang/Object")) (t' := (.object "java/lang/Object")) (by decide) (by decide)))
  have F3'2 := F3.other W2 (Or.inr (slot_ne (Or.inl (hw _ (List.mem_of_getElem? (i := 74) rfl))) (Or.inr (hw _ (List.mem_of_getElem? (i := 70) rfl))) (by decide) (t := .long) (t' := (.object "java/lang/Object")) (by decide) (by decide)))
  have Z2 := Nat.le_trans Z0 (Keep.of_wr W2).1
  have K2' := K0.wr W2 (Or.inl (List.mem_of_getElem? (i := 0) rfl))
  have N2 := Fr.snoc X2 N0 g1
  have F1'2 := F1.same W2
  show own_Ends p e below s _ _ _ (T2.setTop (mkF m 9 #[.val (.ref a1), .val .null, .val .null] []))
  refine own_go (fun _ k => XS.aloadN X2.here hx rfl (hb hby d5_9) rfl rfl <| XS.aloadN X2.here hx rfl (hb hby d5_10) rfl rfl <| k) ?_
  show own_Ends p e below s _ _ _ (T2.setTop (mkF m 11 #[.val (.ref a1), .val .null, .val .null] [.null, (.ref a1)]))
  obtain ⟨T3, h3, X3, e3, W3, st3⟩ := putF X2 hx hZ hown (host := "") (Or.inl (hw _ (List.mem_of_getElem? (i := 38) rfl))) Via.refl e2 F2'2 E1'2 (Or.inl (hw _ (List.mem_of_getElem? (i := 71) rfl))) (hw _ (List.mem_of_getElem? (i := 63) rfl)) (ty := (.object "java/lang/Object")) (by decide) rfl rfl (g := (mkF m 11 #[.val (.ref a1), .val .null, .val .null] [.null, (.ref a1)])) rfl rfl (hb hby d5_11)
  refine own_go st3 ?_
  have E1'3 := E1'2.wr W3
  have F3'3 := F3'2.other W3 (Or.inr (slot_ne (Or.inl (hw _ (List.mem_of_getElem? (i := 74) rfl))) (Or.inl (hw _ (List.mem_of_getElem? (i := 71) rfl))) (by decide) (t := .long) (t' := (.object "java/lang/Object")) (by decide) (by decide)))
  have F1'3 := F1'2.other W3 (Or.inr (slot_ne (Or.inr (hw _ (List.mem_of_getElem? (i := 70) rfl))) (Or.inl (hw _ (List.mem_of_getElem? (i := 71) rfl))) (by decide) (t := (.object "java/lang/Object")) (t' := (.object "java/lang/Object")) (by decide) (by decide)))
  have Z3 := Nat.le_trans Z2 (Keep.of_wr W3).1
  have K3' := K2'.wr W3 (Or.inl (List.mem_of_getElem? (i := 0) rfl))
  have N3 := Fr.snoc X3 N2 g1
  have F2'3 := F2'2.same W3
  show own_Ends p e below s _ _ _ (T3.setTop (mkF m 14 #[.val (.ref a1), .val .null, .val .null] []))
  exact own_ret0 X3 hx hrt (hb hby d5_14) hlk (by rw [e3]; exact ⟨rfl, N3, K3', F3'3⟩) (by decide) (by decide)
theorem d11_0 : decode prog_12_method_1_code 0 = .ok (.aload_n 0, 1) := by decide +kernel
theorem d11_1 : decode prog_12_method_1_code 1 = .ok (.aload_n 1, 1) := by decide +kernel
theorem d11_2 : decode prog_12_method_1_code 2 = .ok (.aload_n 2, 1) := by decide +kernel
theorem d11_3 : decode prog_12_method_1_code 3 = .ok (.invokespecial 1, 3) := by decide +kernel
theorem d11_6 : decode prog_12_method_1_code 6 = .ok (.return_, 1) := by decide +kernel
theorem pn_3 : plainName "com/example/unutkan/unutkan/core/FixedExpiration$WriteBoundNode" = true := by first | (simp [plainName, overriddenIn]; done) | decide +kernel
theorem ef_11 (m : MethodId) (x0 : Addr) : entryFrame m #[(.ref x0), .null, .null] 3 = mkF m 0 #[.val (.ref x0), .val .null, .val .null] [] := by first | (simp [entryFrame, mkF, argsToLocals, Value.category]; done) | rfl
def Q11 (a1 : Addr) (h0 : Heap) (n0 : Nat) (Z : State) (v : Option Value) (h : Heap) (L : List Loc) : Prop := v = none ∧ Fr n0 L ∧ Keep h0 h [a1] ∧ Fld Z h a1 "com/example/unutkan/unutkan/core/FixedExpiration$WriteBoundNode" "writeExpiresAt" "J" (.long (0 : Int64))
set_option maxRecDepth 65536 in
set_option maxHeartbeats 40000000 in
theorem rm11 (l : Launch) (Z : State) (a0 : Array Value) (hw : ∀ d ∈ tables_1, d.before a0 Z = true) (ws : List Jvm.Cond) (a1 : Addr) (h0 : Heap) (n0 : Nat) (Z0 : n0 ≤ h0.size) (E1 : Exa Z h0 a1 "com/example/unutkan/unutkan/core/FixedExpiration$WriteBoundNode") (F1 : Fld Z h0 a1 "com/example/unutkan/unutkan/core/Node" "key" "Ljava/lang/Object;" .null) (F2 : Fld Z h0 a1 "com/example/unutkan/unutkan/core/Node" "value" "Ljava/lang/Object;" .null) (F3 : Fld Z h0 a1 "com/example/unutkan/unutkan/core/FixedExpiration$WriteBoundNode" "writeExpiresAt" "J" (.long (0 : Int64))) (g1 : n0 ≤ a1) :
    MetFree l (⟨"com/example/unutkan/unutkan/core/FixedExpiration$WriteBoundNode", "<init>", "(Ljava/lang/Object;Ljava/lang/Object;)V"⟩ : MethodName) (head1 (Jvm.Cond.code (⟨"com/example/unutkan/unutkan/core/FixedExpiration$WriteBoundNode", "<init>", "(Ljava/lang/Object;Ljava/lang/Object;)V"⟩ : MethodName) prog_12_method_1_code 3 none :: ws) ({ frames := 2, cells := 0, slots := 0, locals := 40 } : Room)) (fun a U => a = #[(.ref a1), .null, .null] ∧ Z.Warmed39 U.vm ∧ U.heap = h0) (fun _ _ _ _ _ => True) (fun _ U o U' => ∃ v L, o = .returned v ∧ Q11 a1 h0 n0 Z v U'.heap L ∧ FrameEnd U o U' L ({ frames := 2, cells := 0, slots := 0, locals := 40 } : Room).cells ({ frames := 2, cells := 0, slots := 0, locals := 40 } : Room).slots) := by
  refine MetFree.of_bodySF (plainFor_of_name pn_3) hisR ?_
  intro p e s m args below meth c s₁ Bd hml0 hP hK
  obtain ⟨rfl, hZ, hh⟩ := hP
  have hx := Bd.exec
  have hby := Bd.bytes
  have hml : c.maxLocals = 3 := hml0
  have hown : s.vm.findClass "com/example/unutkan/unutkan/core/FixedExpiration$WriteBoundNode" = some m.cls := findClass_of_methodNamed Bd.named
  have hnm := (name_of_methodNamed Bd.named Bd.method).1
  have hlk := Bd.notSynchronized
  have hrt := Bd.returns
  have X0 : Stand p l e ({ frames := 2, cells := 0, slots := 0, locals := 40 } : Room) s m #[(.ref a1), .null, .null] below meth c s₁ [] 0 0 := Stand.of_body Bd
  have e0 : s₁.heap = h0 := by rw [← hh, Bd.state]; rfl
  have N0 := Fr.nil n0
  show own_Ends p e below s (Q11 a1 h0 n0 Z) ({ frames := 2, cells := 0, slots := 0, locals := 40 } : Room).cells ({ frames := 2, cells := 0, slots := 0, locals := 40 } : Room).slots (s₁.setTop (entryFrame m #[(.ref a1), .null, .null] 3))
  rw [ef_11]
  have K0 : Keep h0 h0 [a1] := Keep.refl h0 [a1]
  refine own_go (fun _ k => XS.aloadN X0.here hx rfl (hb hby d11_0) rfl rfl <| XS.aloadN X0.here hx rfl (hb hby d11_1) rfl rfl <| XS.aloadN X0.here hx rfl (hb hby d11_2) rfl rfl <| k) ?_
  show own_Ends p e below s _ _ _ (s₁.setTop (mkF m 3 #[.val (.ref a1), .val .null, .val .null] [.null, .null, (.ref a1)]))
  obtain ⟨_, _, ⟨T1, L1, k1, n1⟩, -, X1, ⟨Lc1, hQ1, l1, y1, z1⟩, st1⟩ := X0.specialBack hx (y := (⟨"com/example/unutkan/unutkan/core/Node", "<init>", "(Ljava/lang/Object;Ljava/lang/Object;)V"⟩ : MethodName)) rfl hown (mvT hZ (hw _ (List.mem_of_getElem? (i := 68) rfl))) (mvT hZ (hw _ (List.mem_of_getElem? (i := 33) rfl))) (mvT hZ (hw _ (List.mem_of_getElem? (i := 34) rfl))) (by decide) (backOf (W := 0) (rmN2 l Z a0 hw [] a1 h0 n0 Z0 E1 F1 F2 F3 g1) hZ (hw _ (List.mem_of_getElem? (i := 34) rfl)) (hw _ (List.mem_of_getElem? (i := 31) rfl)) (by decide) (by decide)) (g := (mkF m 3 #[.val (.ref a1), .val .null, .val .null] [.null, .null, (.ref a1)])) rfl (by rw [hml]; rfl) (Steps.refl _) (a := a1) (argsL := [.null, .null]) (rest := []) (lenOf pd_4 rfl) rfl (by show 2 * 0 + _ ≤ _; exact Nat.le_of_eq rfl) (hb hby d11_3) (fun _ _ => ⟨rfl, e0, Nat.le_of_ble_eq_true rfl, Nat.le_of_ble_eq_true rfl⟩)
  dsimp only [Pt.U, Pt.locs, Pt.cells, Pt.slots] at X1 l1 y1 z1 st1 hQ1
  subst l1 y1 z1
  obtain ⟨rfl, N1q, K1, Fw1⟩ := hQ1
  have N1 := Fr.app N0 N1q
  refine own_go (fun _ k => st1.trans k) ?_
  have E1'1 := E1.keep K1
  have Z1 := Nat.le_trans Z0 K1.1
  have K1' := K0.trans K1 (allS (Or.inl (List.mem_of_getElem? (i := 0) rfl)) all0)
  show own_Ends p e below s _ _ _ (T1.setTop (mkF m 6 #[.val (.ref a1), .val .null, .val .null] []))
  exact own_ret0 X1 hx hrt (hb hby d11_6) hlk (by exact ⟨rfl, N1, K1', Fw1⟩) (by decide) (by decide)
theorem d4_0 : decode prog_11_method_2_code 0 = .ok (.aload_n 0, 1) := by decide +kernel
theorem d4_1 : decode prog_11_method_2_code 1 = .ok (.getfield 24, 3) := by decide +kernel
theorem d4_4 : decode prog_11_method_2_code 4 = .ok (.ifCond .eq 15, 3) := by decide +kernel
theorem d4_7 : decode prog_11_method_2_code 7 = .ok (.new 28, 3) := by decide +kernel
theorem d4_10 : decode prog_11_method_2_code 10 = .ok (.dup, 1) := by decide +kernel
theorem d4_11 : decode prog_11_method_2_code 11 = .ok (.aload_n 1, 1) := by decide +kernel
theorem d4_12 : decode prog_11_method_2_code 12 = .ok (.aload_n 2, 1) := by decide +kernel
theorem d4_13 : decode prog_11_method_2_code 13 = .ok (.invokespecial 30, 3) := by decide +kernel
theorem d4_16 : decode prog_11_method_2_code 16 = .ok (.goto 12, 3) := by decide +kernel
theorem d4_19 : decode prog_11_method_2_code 19 = .ok (.new 33, 3) := by decide +kernel
theorem d4_22 : decode prog_11_method_2_code 22 = .ok (.dup, 1) := by decide +kernel
theorem d4_23 : decode prog_11_method_2_code 23 = .ok (.aload_n 1, 1) := by decide +kernel
theorem d4_24 : decode prog_11_method_2_code 24 = .ok (.aload_n 2, 1) := by decide +kernel
theorem d4_25 : decode prog_11_method_2_code 25 = .ok (.invokespecial 35, 3) := by decide +kernel
theorem d4_28 : decode prog_11_method_2_code 28 = .ok (.areturn, 1) := by decide +kernel
theorem ef_NNW (m : MethodId) (x0 : Addr) : entryFrame m #[(.ref x0), .null, .null] 3 = mkF m 0 #[.val (.ref x0), .val .null, .val .null] [] := by first | (simp [entryFrame, mkF, argsToLocals, Value.category]; done) | rfl
def QNNW (a1 : Addr) (h0 : Heap) (n0 : Nat) (Z : State) (v : Option Value) (h : Heap) (L : List Loc) : Prop := ∃ b, v = some (.ref b) ∧ Fr n0 L ∧ Keep h0 h [] ∧ n0 ≤ b ∧ h0.size ≤ b ∧ Exa Z h b "com/example/unutkan/unutkan/core/FixedExpiration$WriteBoundNode" ∧ Fld Z h b "com/example/unutkan/unutkan/core/FixedExpiration$WriteBoundNode" "writeExpiresAt" "J" (.long (0 : Int64))
set_option maxRecDepth 65536 in
set_option maxHeartbeats 40000000 in
theorem rmNNW (l : Launch) (Z : State) (a0 : Array Value) (hw : ∀ d ∈ tables_1, d.before a0 Z = true) (ws : List Jvm.Cond) (a1 : Addr) (h0 : Heap) (n0 : Nat) (Z0 : n0 ≤ h0.size) (F1 : Fld Z h0 a1 "com/example/unutkan/unutkan/core/FixedExpiration" "boundByBoth" "Z" (.int (1 : Int32))) :
    MetFree l (⟨"com/example/unutkan/unutkan/core/FixedExpiration", "newNode", "(Ljava/lang/Object;Ljava/lang/Object;)Lcom/example/unutkan/unutkan/core/Node;"⟩ : MethodName) (head1 (Jvm.Cond.code (⟨"com/example/unutkan/unutkan/core/FixedExpiration", "newNode", "(Ljava/lang/Object;Ljava/lang/Object;)Lcom/example/unutkan/unutkan/core/Node;"⟩ : MethodName) prog_11_method_2_code 3 (some (.object "com/example/unutkan/unutkan/core/Node")) :: ws) ({ frames := 3, cells := 1, slots := 11, locals := 70 } : Room)) (fun a U => a = #[(.ref a1), .null, .null] ∧ Z.Warmed39 U.vm ∧ U.heap = h0) (fun _ _ _ _ _ => True) (fun _ U o U' => ∃ v L, o = .returned v ∧ QNNW a1 h0 n0 Z v U'.heap L ∧ FrameEnd U o U' L ({ frames := 3, cells := 1, slots := 11, locals := 70 } : Room).cells ({ frames := 3, cells := 1, slots := 11, locals := 70 } : Room).slots) := by
  refine MetFree.of_bodySF (plainFor_of_name pn_1) hisR ?_
  intro p e s m args below meth c s₁ Bd hml0 hP hK
  obtain ⟨rfl, hZ, hh⟩ := hP
  have hx := Bd.exec
  have hby := Bd.bytes
  have hml : c.maxLocals = 3 := hml0
  have hown : s.vm.findClass "com/example/unutkan/unutkan/core/FixedExpiration" = some m.cls := findClass_of_methodNamed Bd.named
  have hnm := (name_of_methodNamed Bd.named Bd.method).1
  have hlk := Bd.notSynchronized
  have hrt := Bd.returns
  have X0 : Stand p l e ({ frames := 3, cells := 1, slots := 11, locals := 70 } : Room) s m #[(.ref a1), .null, .null] below meth c s₁ [] 0 0 := Stand.of_body Bd
  have e0 : s₁.heap = h0 := by rw [← hh, Bd.state]; rfl
  have N0 := Fr.nil n0
  show own_Ends p e below s (QNNW a1 h0 n0 Z) ({ frames := 3, cells := 1, slots := 11, locals := 70 } : Room).cells ({ frames := 3, cells := 1, slots := 11, locals := 70 } : Room).slots (s₁.setTop (entryFrame m #[(.ref a1), .null, .null] 3))
  rw [ef_NNW]
  have K0 : Keep h0 h0 [] := Keep.refl h0 []
  refine own_go (fun _ k => XS.aloadN X0.here hx rfl (hb hby d4_0) rfl rfl <| k) ?_
  show own_Ends p e below s _ _ _ (s₁.setTop (mkF m 1 #[.val (.ref a1), .val .null, .val .null] [(.ref a1)]))
  obtain ⟨T1, X1, e1, st1⟩ := getF X0 hx hZ hown (host := "") (Or.inl (hw _ (List.mem_of_getElem? (i := 22) rfl))) Via.refl e0 F1 (g := (mkF m 1 #[.val (.ref a1), .val .null, .val .null] [(.ref a1)])) rfl rfl (hb hby d4_1)
  refine own_go st1 ?_
  show own_Ends p e below s _ _ _ (T1.setTop (mkF m 4 #[.val (.ref a1), .val .null, .val .null] [(.int (1 : Int32))]))
  refine own_go (fun _ k => XS.ifNo X1.here hx rfl (hb hby d4_4) rfl ((if0 _ _).trans (feq (by decide)).1) <| k) ?_
  show own_Ends p e below s _ _ _ (T1.setTop (mkF m 7 #[.val (.ref a1), .val .null, .val .null] []))
  obtain ⟨T2, h2, X2, e2, E2, A2, D2, -, st2⟩ := newO X1 hx hZ hown (hw _ (List.mem_of_getElem? (i := 62) rfl)) (hw _ (List.mem_of_getElem? (i := 63) rfl)) (hw _ (List.mem_of_getElem? (i := 64) rfl)) e1 (g := (mkF m 7 #[.val (.ref a1), .val .null, .val .null] [])) rfl (hb hby d4_7) (by decide) (by decide)
  obtain ⟨b2, g2⟩ : ∃ z, z = h0.size := ⟨_, rfl⟩
  rw [← g2] at A2 D2 st2
  refine own_go st2 ?_
  have ne_a1_b2 : a1 ≠ b2 := Nat.ne_of_lt (Nat.lt_of_lt_of_le F1.lt (Nat.le_of_eq g2.symm))
  have g_b2 : n0 ≤ b2 := Nat.le_trans Z0 (Nat.le_of_eq g2.symm)
  have sz_b2 : h0.size ≤ b2 := Nat.le_trans K0.1 (Nat.le_of_eq g2.symm)
  have F1'2 := F1.ext E2
  have Z2 := Nat.le_trans Z0 E2.1
  have K2' := K0.ext E2
  have F_key_b2 : Fld Z h2 b2 "com/example/unutkan/unutkan/core/Node" "key" "Ljava/lang/Object;" .null := D2 (Or.inr (hw _ (List.mem_of_getElem? (i := 70) rfl))) (ty := (.object "java/lang/Object")) (by decide)
  have F_value_b2 : Fld Z h2 b2 "com/example/unutkan/unutkan/core/Node" "value" "Ljava/lang/Object;" .null := D2 (Or.inl (hw _ (List.mem_of_getElem? (i := 71) rfl))) (ty := (.object "java/lang/Object")) (by decide)
  have F_writeExpiresAt_b2 : Fld Z h2 b2 "com/example/unutkan/unutkan/core/FixedExpiration$WriteBoundNode" "writeExpiresAt" "J" (.long (0 : Int64)) := D2 (Or.inl (hw _ (List.mem_of_getElem? (i := 74) rfl))) (ty := .long) (by decide)
  show own_Ends p e below s _ _ _ (T2.setTop (mkF m 10 #[.val (.ref a1), .val .null, .val .null] [(.ref b2)]))
  refine own_go (fun _ k => XS.dup X2.here hx rfl (hb hby d4_10) rfl rfl <| XS.aloadN X2.here hx rfl (hb hby d4_11) rfl rfl <| XS.aloadN X2.here hx rfl (hb hby d4_12) rfl rfl <| k) ?_
  show own_Ends p e below s _ _ _ (T2.setTop (mkF m 13 #[.val (.ref a1), .val .null, .val .null] [.null, .null, (.ref b2), (.ref b2)]))
  obtain ⟨_, _, ⟨T3, L3, k3, n3⟩, -, X3, ⟨Lc3, hQ3, l3, y3, z3⟩, st3⟩ := X2.specialBack hx (y := (⟨"com/example/unutkan/unutkan/core/FixedExpiration$WriteBoundNode", "<init>", "(Ljava/lang/Object;Ljava/lang/Object;)V"⟩ : MethodName)) rfl hown (mvT hZ (hw _ (List.mem_of_getElem? (i := 65) rfl))) (mvT hZ (hw _ (List.mem_of_getElem? (i := 66) rfl))) (mvT hZ (hw _ (List.mem_of_getElem? (i := 67) rfl))) (by decide) (backOf (W := 1) (rm11 l Z a0 hw [] b2 h2 n0 Z2 A2 F_key_b2 F_value_b2 F_writeExpiresAt_b2 g_b2) hZ (hw _ (List.mem_of_getElem? (i := 67) rfl)) (hw _ (List.mem_of_getElem? (i := 64) rfl)) (by decide) (by decide)) (g := (mkF m 13 #[.val (.ref a1), .val .null, .val .null] [.null, .null, (.ref b2), (.ref b2)])) rfl (by rw [hml]; rfl) (Steps.refl _) (a := b2) (argsL := [.null, .null]) (rest := [(.ref b2)]) (lenOf pd_4 rfl) rfl (by show 2 * 0 + _ ≤ _; exact Nat.le_of_eq rfl) (hb hby d4_13) (fun _ _ => ⟨rfl, e2, Nat.le_of_ble_eq_true rfl, Nat.le_of_ble_eq_true rfl⟩)
  dsimp only [Pt.U, Pt.locs, Pt.cells, Pt.slots] at X3 l3 y3 z3 st3 hQ3
  subst l3 y3 z3
  obtain ⟨rfl, N3q, K3, Fw3⟩ := hQ3
  have N3 := Fr.app N0 N3q
  refine own_go (fun _ k => st3.trans k) ?_
  have F1'3 := F1'2.keep K3 (ninS ne_a1_b2 nin0)
  have A2'3 := A2.keep K3
  have Z3 := Nat.le_trans Z2 K3.1
  have K3' := K2'.trans K3 (allS (Or.inr sz_b2) all0)
  show own_Ends p e below s _ _ _ (T3.setTop (mkF m 16 #[.val (.ref a1), .val .null, .val .null] [(.ref b2)]))
  refine own_go (fun _ k => XS.goto X3.here hx rfl (pc0 := 16) (pc' := 28) rfl (hb hby d4_16) (by decide) (by decide) <| k) ?_
  show own_Ends p e below s _ _ _ (T3.setTop (mkF m 28 #[.val (.ref a1), .val .null, .val .null] [(.ref b2)]))
  exact own_ret X3 hx hrt rfl (Or.inr (Or.inr (Or.inr (Or.inr ⟨rfl, rfl, rfl⟩)))) (hb hby d4_28) hlk (by exact ⟨_, rfl, N3, K3', g_b2, sz_b2, A2'3, Fw3⟩) (by decide) (by decide)
theorem ef_NNP (m : MethodId) (x0 : Addr) : entryFrame m #[(.ref x0), .null, .null] 3 = mkF m 0 #[.val (.ref x0), .val .null, .val .null] [] := by first | (simp [entryFrame, mkF, argsToLocals, Value.category]; done) | rfl
def QNNP (a1 : Addr) (h0 : Heap) (n0 : Nat) (Z : State) (v : Option Value) (h : Heap) (L : List Loc) : Prop := ∃ b, v = some (.ref b) ∧ Fr n0 L ∧ Keep h0 h [] ∧ n0 ≤ b ∧ h0.size ≤ b ∧ Exa Z h b "com/example/unutkan/unutkan/core/Node"
set_option maxRecDepth 65536 in
set_option maxHeartbeats 40000000 in
theorem rmNNP (l : Launch) (Z : State) (a0 : Array Value) (hw : ∀ d ∈ tables_1, d.before a0 Z = true) (ws : List Jvm.Cond) (a1 : Addr) (h0 : Heap) (n0 : Nat) (Z0 : n0 ≤ h0.size) (F1 : Fld Z h0 a1 "com/example/unutkan/unutkan/core/FixedExpiration" "boundByBoth" "Z" (.int (0 : Int32))) :
    MetFree l (⟨"com/example/unutkan/unutkan/core/FixedExpiration", "newNode", "(Ljava/lang/Object;Ljava/lang/Object;)Lcom/example/unutkan/unutkan/core/Node;"⟩ : MethodName) (head1 (Jvm.Cond.code (⟨"com/example/unutkan/unutkan/core/FixedExpiration", "newNode", "(Ljava/lang/Object;Ljava/lang/Object;)Lcom/example/unutkan/unutkan/core/Node;"⟩ : MethodName) prog_11_method_2_code 3 (some (.object "com/example/unutkan/unutkan/core/Node")) :: ws) ({ frames := 3, cells := 1, slots := 11, locals := 70 } : Room)) (fun a U => a = #[(.ref a1), .null, .null] ∧ Z.Warmed39 U.vm ∧ U.heap = h0) (fun _ _ _ _ _ => True) (fun _ U o U' => ∃ v L, o = .returned v ∧ QNNP a1 h0 n0 Z v U'.heap L ∧ FrameEnd U o U' L ({ frames := 3, cells := 1, slots := 11, locals := 70 } : Room).cells ({ frames := 3, cells := 1, slots := 11, locals := 70 } : Room).slots) := by
  refine MetFree.of_bodySF (plainFor_of_name pn_1) hisR ?_
  intro p e s m args below meth c s₁ Bd hml0 hP hK
  obtain ⟨rfl, hZ, hh⟩ := hP
  have hx := Bd.exec
  have hby := Bd.bytes
  have hml : c.maxLocals = 3 := hml0
  have hown : s.vm.findClass "com/example/unutkan/unutkan/core/FixedExpiration" = some m.cls := findClass_of_methodNamed Bd.named
  have hnm := (name_of_methodNamed Bd.named Bd.method).1
  have hlk := Bd.notSynchronized
  have hrt := Bd.returns
  have X0 : Stand p l e ({ frames := 3, cells := 1, slots := 11, locals := 70 } : Room) s m #[(.ref a1), .null, .null] below meth c s₁ [] 0 0 := Stand.of_body Bd
  have e0 : s₁.heap = h0 := by rw [← hh, Bd.state]; rfl
  have N0 := Fr.nil n0
  show own_Ends p e below s (QNNP a1 h0 n0 Z) ({ frames := 3, cells := 1, slots := 11, locals := 70 } : Room).cells ({ frames := 3, cells := 1, slots := 11, locals := 70 } : Room).slots (s₁.setTop (entryFrame m #[(.ref a1), .null, .null] 3))
  rw [ef_NNP]
  have K0 : Keep h0 h0 [] := Keep.refl h0 []
  refine own_go (fun _ k => XS.aloadN X0.here hx rfl (hb hby d4_0) rfl rfl <| k) ?_
  show own_Ends p e below s _ _ _ (s₁.setTop (mkF m 1 #[.val (.ref a1), .val .null, .val .null] [(.ref a1)]))
  obtain ⟨T1, X1, e1, st1⟩ := getF X0 hx hZ hown (host := "") (Or.inl (hw _ (List.mem_of_getElem? (i := 22) rfl))) Via.refl e0 F1 (g := (mkF m 1 #[.val (.ref a1), .val .null, .val .null] [(.ref a1)])) rfl rfl (hb hby d4_1)
  refine own_go st1 ?_
  show own_Ends p e below s _ _ _ (T1.setTop (mkF m 4 #[.val (.ref a1), .val .null, .val .null] [(.int (0 : Int32))]))
  refine own_go (fun _ k => XS.ifYes X1.here hx rfl (pc0 := 4) (pc' := 19) rfl (hb hby d4_4) rfl ((if0 _ _).trans (teq (by decide)).1) (by decide) (by decide) <| k) ?_
  show own_Ends p e below s _ _ _ (T1.setTop (mkF m 19 #[.val (.ref a1), .val .null, .val .null] []))
  obtain ⟨T2, h2, X2, e2, E2, A2, D2, -, st2⟩ := newO X1 hx hZ hown (hw _ (List.mem_of_getElem? (i := 29) rfl)) (hw _ (List.mem_of_getElem? (i := 30) rfl)) (hw _ (List.mem_of_getElem? (i := 31) rfl)) e1 (g := (mkF m 19 #[.val (.ref a1), .val .null, .val .null] [])) rfl (hb hby d4_19) (by decide) (by decide)
  obtain ⟨b2, g2⟩ : ∃ z, z = h0.size := ⟨_, rfl⟩
  rw [← g2] at A2 D2 st2
  refine own_go st2 ?_
  have ne_a1_b2 : a1 ≠ b2 := Nat.ne_of_lt (Nat.lt_of_lt_of_le F1.lt (Nat.le_of_eq g2.symm))
  have g_b2 : n0 ≤ b2 := Nat.le_trans Z0 (Nat.le_of_eq g2.symm)
  have sz_b2 : h0.size ≤ b2 := Nat.le_trans K0.1 (Nat.le_of_eq g2.symm)
  have F1'2 := F1.ext E2
  have Z2 := Nat.le_trans Z0 E2.1
  have K2' := K0.ext E2
  have F_key_b2 : Fld Z h2 b2 "com/example/unutkan/unutkan/core/Node" "key" "Ljava/lang/Object;" .null := D2 (Or.inr (hw _ (List.mem_of_getElem? (i := 37) rfl))) (ty := (.object "java/lang/Object")) (by decide)
  have F_value_b2 : Fld Z h2 b2 "com/example/unutkan/unutkan/core/Node" "value" "Ljava/lang/Object;" .null := D2 (Or.inl (hw _ (List.mem_of_getElem? (i := 39) rfl))) (ty := (.object "java/lang/Object")) (by decide)
  show own_Ends p e below s _ _ _ (T2.setTop (mkF m 22 #[.val (.ref a1), .val .null, .val .null] [(.ref b2)]))
  refine own_go (fun _ k => XS.dup X2.here hx rfl (hb hby d4_22) rfl rfl <| XS.aloadN X2.here hx rfl (hb hby d4_23) rfl rfl <| XS.aloadN X2.here hx rfl (hb hby d4_24) rfl rfl <| k) ?_
  show own_Ends p e below s _ _ _ (T2.setTop (mkF m 25 #[.val (.ref a1), .val .null, .val .null] [.null, .null, (.ref b2), (.ref b2)]))
  obtain ⟨_, _, ⟨T3, L3, k3, n3⟩, -, X3, ⟨Lc3, hQ3, l3, y3, z3⟩, st3⟩ := X2.specialBack hx (y := (⟨"com/example/unutkan/unutkan/core/Node", "<init>", "(Ljava/lang/Object;Ljava/lang/Object;)V"⟩ : MethodName)) rfl hown (mvT hZ (hw _ (List.mem_of_getElem? (i := 32) rfl))) (mvT hZ (hw _ (List.mem_of_getElem? (i := 33) rfl))) (mvT hZ (hw _ (List.mem_of_getElem? (i := 34) rfl))) (by decide) (backOf (W := 1) (rmN1 l Z a0 hw [] b2  h2 n0 Z2 A2 F_key_b2 F_value_b2 g_b2 ) hZ (hw _ (List.mem_of_getElem? (i := 34) rfl)) (hw _ (List.mem_of_getElem? (i := 31) rfl)) (by decide) (by decide)) (g := (mkF m 25 #[.val (.ref a1), .val .null, .val .null] [.null, .null, (.ref b2), (.ref b2)])) rfl (by rw [hml]; rfl) (Steps.refl _) (a := b2) (argsL := [.null, .null]) (rest := [(.ref b2)]) (lenOf pd_4 rfl) rfl (by show 2 * 0 + _ ≤ _; exact Nat.le_of_eq rfl) (hb hby d4_25) (fun _ _ => ⟨rfl, e2, Nat.le_of_ble_eq_true rfl, Nat.le_of_ble_eq_true rfl⟩)
  dsimp only [Pt.U, Pt.locs, Pt.cells, Pt.slots] at X3 l3 y3 z3 st3 hQ3
  subst l3 y3 z3
  obtain ⟨rfl, N3q, K3, Fc03, Fc13⟩ := hQ3
  have N3 := Fr.app N0 N3q
  refine own_go (fun _ k => st3.trans k) ?_
  have F1'3 := F1'2.keep K3 (ninS ne_a1_b2 nin0)
  have A2'3 := A2.keep K3
  have Z3 := Nat.le_trans Z2 K3.1
  have K3' := K2'.trans K3 (allS (Or.inr sz_b2) all0)
  show own_Ends p e below s _ _ _ (T3.setTop (mkF m 28 #[.val (.ref a1), .val .null, .val .null] [(.ref b2)]))
  exact own_ret X3 hx hrt rfl (Or.inr (Or.inr (Or.inr (Or.inr ⟨rfl, rfl, rfl⟩)))) (hb hby d4_28) hlk (by exact ⟨_, rfl, N3, K3', g_b2, sz_b2, A2'3⟩) (by decide) (by decide)
theorem d8_0 : decode prog_11_method_8_code 0 = .ok (.aload_n 0, 1) := by decide +kernel
theorem d8_1 : decode prog_11_method_8_code 1 = .ok (.getfield 16, 3) := by decide +kernel
theorem d8_4 : decode prog_11_method_8_code 4 = .ok (.dconst 0, 1) := by decide +kernel
theorem d8_5 : decode prog_11_method_8_code 5 = .ok (.dcmp .l, 1) := by decide +kernel
theorem d8_6 : decode prog_11_method_8_code 6 = .ok (.ifCond .eq 11, 3) := by decide +kernel
theorem d8_9 : decode prog_11_method_8_code 9 = .ok (.lload_n 1, 1) := by decide +kernel
theorem d8_10 : decode prog_11_method_8_code 10 = .ok (.ldc2_w 22, 3) := by decide +kernel
theorem d8_13 : decode prog_11_method_8_code 13 = .ok (.lcmp, 1) := by decide +kernel
theorem d8_14 : decode prog_11_method_8_code 14 = .ok (.ifCond .ne 5, 3) := by decide +kernel
theorem d8_17 : decode prog_11_method_8_code 17 = .ok (.lload_n 1, 1) := by decide +kernel
theorem d8_18 : decode prog_11_method_8_code 18 = .ok (.lreturn, 1) := by decide +kernel
theorem d8_19 : decode prog_11_method_8_code 19 = .ok (.invokestatic 53, 3) := by decide +kernel
theorem d8_22 : decode prog_11_method_8_code 22 = .ok (.dconst 1, 1) := by decide +kernel
theorem d8_23 : decode prog_11_method_8_code 23 = .ok (.aload_n 0, 1) := by decide +kernel
theorem d8_24 : decode prog_11_method_8_code 24 = .ok (.getfield 16, 3) := by decide +kernel
theorem d8_27 : decode prog_11_method_8_code 27 = .ok (.dsub, 1) := by decide +kernel
theorem d8_28 : decode prog_11_method_8_code 28 = .ok (.dconst 1, 1) := by decide +kernel
theorem d8_29 : decode prog_11_method_8_code 29 = .ok (.aload_n 0, 1) := by decide +kernel
theorem d8_30 : decode prog_11_method_8_code 30 = .ok (.getfield 16, 3) := by decide +kernel
theorem d8_33 : decode prog_11_method_8_code 33 = .ok (.dadd, 1) := by decide +kernel
theorem d8_34 : decode prog_11_method_8_code 34 = .ok (.invokestatic 59, 3) := by decide +kernel
theorem d8_37 : decode prog_11_method_8_code 37 = .ok (.invokevirtual 63, 3) := by decide +kernel
theorem d8_40 : decode prog_11_method_8_code 40 = .ok (.dstore_n 3, 1) := by decide +kernel
theorem d8_41 : decode prog_11_method_8_code 41 = .ok (.lload_n 1, 1) := by decide +kernel
theorem d8_42 : decode prog_11_method_8_code 42 = .ok (.l2d, 1) := by decide +kernel
theorem d8_43 : decode prog_11_method_8_code 43 = .ok (.dload_n 3, 1) := by decide +kernel
theorem d8_44 : decode prog_11_method_8_code 44 = .ok (.dmul, 1) := by decide +kernel
theorem d8_45 : decode prog_11_method_8_code 45 = .ok (.d2l, 1) := by decide +kernel
theorem d8_46 : decode prog_11_method_8_code 46 = .ok (.lreturn, 1) := by decide +kernel
theorem ef_8 (m : MethodId) (x0 : Addr) (x1 : Int64) : entryFrame m #[(.ref x0), (.long x1)] 5 = mkF m 0 #[.val (.ref x0), .val (.long x1), .second, .unset, .unset] [] := by first | (simp [entryFrame, mkF, argsToLocals, Value.category]; done) | rfl
def Q8 (a1 : Addr) (q2 : Int64) (h0 : Heap) (n0 : Nat) (Z : State) (v : Option Value) (h : Heap) (L : List Loc) : Prop := v = some (.long q2) ∧ Fr n0 L ∧ h = h0
set_option maxRecDepth 65536 in
set_option maxHeartbeats 40000000 in
theorem rm8 (l : Launch) (Z : State) (a0 : Array Value) (hw : ∀ d ∈ tables_1, d.before a0 Z = true) (ws : List Jvm.Cond) (a1 : Addr) (q2 : Int64) (h0 : Heap) (n0 : Nat) (Z0 : n0 ≤ h0.size) (F1 : Fld Z h0 a1 "com/example/unutkan/unutkan/core/FixedExpiration" "jitter" "D" (.double (0 : UInt64))) :
    MetFree l (⟨"com/example/unutkan/unutkan/core/FixedExpiration", "jittered", "(J)J"⟩ : MethodName) (head1 (Jvm.Cond.code (⟨"com/example/unutkan/unutkan/core/FixedExpiration", "jittered", "(J)J"⟩ : MethodName) prog_11_method_8_code 5 (some .long) :: ws) ({ frames := 0, cells := 0, slots := 0, locals := 0 } : Room)) (fun a U => a = #[(.ref a1), (.long q2)] ∧ Z.Warmed39 U.vm ∧ U.heap = h0) (fun _ _ _ _ _ => True) (fun _ U o U' => ∃ v L, o = .returned v ∧ Q8 a1 q2 h0 n0 Z v U'.heap L ∧ FrameEnd U o U' L ({ frames := 0, cells := 0, slots := 0, locals := 0 } : Room).cells ({ frames := 0, cells := 0, slots := 0, locals := 0 } : Room).slots) := by
  refine MetFree.of_bodySF (plainFor_of_name pn_1) hisR ?_
  intro p e s m args below meth c s₁ Bd hml0 hP hK
  obtain ⟨rfl, hZ, hh⟩ := hP
  have hx := Bd.exec
  have hby := Bd.bytes
  have hml : c.maxLocals = 5 := hml0
  have hown : s.vm.findClass "com/example/unutkan/unutkan/core/FixedExpiration" = some m.cls := findClass_of_methodNamed Bd.named
  have hnm := (name_of_methodNamed Bd.named Bd.method).1
  have hlk := Bd.notSynchronized
  have hrt := Bd.returns
  have X0 : Stand p l e ({ frames := 0, cells := 0, slots := 0, locals := 0 } : Room) s m #[(.ref a1), (.long q2)] below meth c s₁ [] 0 0 := Stand.of_body Bd
  have e0 : s₁.heap = h0 := by rw [← hh, Bd.state]; rfl
  have N0 := Fr.nil n0
  show own_Ends p e below s (Q8 a1 q2 h0 n0 Z) ({ frames := 0, cells := 0, slots := 0, locals := 0 } : Room).cells ({ frames := 0, cells := 0, slots := 0, locals := 0 } : Room).slots (s₁.setTop (entryFrame m #[(.ref a1), (.long q2)] 5))
  rw [ef_8]
  refine own_go (fun _ k => XS.aloadN X0.here hx rfl (hb hby d8_0) rfl rfl <| k) ?_
  show own_Ends p e below s _ _ _ (s₁.setTop (mkF m 1 #[.val (.ref a1), .val (.long q2), .second, .unset, .unset] [(.ref a1)]))
  obtain ⟨T1, X1, e1, st1⟩ := getF X0 hx hZ hown (host := "") (Or.inl (hw _ (List.mem_of_getElem? (i := 19) rfl))) Via.refl e0 F1 (g := (mkF m 1 #[.val (.ref a1), .val (.long q2), .second, .unset, .unset] [(.ref a1)])) rfl rfl (hb hby d8_1)
  refine own_go st1 ?_
  show own_Ends p e below s _ _ _ (T1.setTop (mkF m 4 #[.val (.ref a1), .val (.long q2), .second, .unset, .unset] [(.double (0 : UInt64))]))
  refine own_go (fun _ k => XS.dconst0 X1.here hx rfl (v := (0 : UInt64)) (hb hby d8_4) rfl <| XS.dcmpS X1.here hx rfl (v := (0 : Int32)) (hb hby d8_5) rfl (by decide +kernel) <| XS.ifYes X1.here hx rfl (pc0 := 6) (pc' := 17) rfl (hb hby d8_6) rfl ((if0 _ _).trans (teq (by decide)).1) (by decide) (by decide) <| XS.lloadN X1.here hx rfl (hb hby d8_17) rfl <| k) ?_
  show own_Ends p e below s _ _ _ (T1.setTop (mkF m 18 #[.val (.ref a1), .val (.long q2), .second, .unset, .unset] [(.long q2)]))
  exact own_ret X1 hx hrt rfl (Or.inr (Or.inl ⟨rfl, rfl, _, rfl⟩)) (hb hby d8_18) hlk (by rw [e1]; exact ⟨rfl, N0, rfl⟩) (by decide) (by decide)
theorem d7_0 : decode prog_11_method_7_code 0 = .ok (.aload_n 0, 1) := by decide +kernel
theorem d7_1 : decode prog_11_method_7_code 1 = .ok (.aload_n 0, 1) := by decide +kernel
theorem d7_2 : decode prog_11_method_7_code 2 = .ok (.getfield 7, 3) := by decide +kernel
theorem d7_5 : decode prog_11_method_7_code 5 = .ok (.invokevirtual 43, 3) := by decide +kernel
theorem d7_8 : decode prog_11_method_7_code 8 = .ok (.lstore 4, 2) := by decide +kernel
theorem d7_10 : decode prog_11_method_7_code 10 = .ok (.aload_n 0, 1) := by decide +kernel
theorem d7_11 : decode prog_11_method_7_code 11 = .ok (.getfield 24, 3) := by decide +kernel
theorem d7_14 : decode prog_11_method_7_code 14 = .ok (.ifCond .eq 14, 3) := by decide +kernel
theorem d7_17 : decode prog_11_method_7_code 17 = .ok (.aload_n 1, 1) := by decide +kernel
theorem d7_18 : decode prog_11_method_7_code 18 = .ok (.checkcast 28, 3) := by decide +kernel
theorem d7_21 : decode prog_11_method_7_code 21 = .ok (.lload_n 2, 1) := by decide +kernel
theorem d7_22 : decode prog_11_method_7_code 22 = .ok (.lload 4, 2) := by decide +kernel
theorem d7_24 : decode prog_11_method_7_code 24 = .ok (.ladd, 1) := by decide +kernel
theorem d7_25 : decode prog_11_method_7_code 25 = .ok (.putfield 40, 3) := by decide +kernel
theorem d7_28 : decode prog_11_method_7_code 28 = .ok (.lload 4, 2) := by decide +kernel
theorem d7_30 : decode prog_11_method_7_code 30 = .ok (.aload_n 0, 1) := by decide +kernel
theorem d7_31 : decode prog_11_method_7_code 31 = .ok (.getfield 13, 3) := by decide +kernel
theorem d7_34 : decode prog_11_method_7_code 34 = .ok (.invokestatic 47, 3) := by decide +kernel
theorem d7_37 : decode prog_11_method_7_code 37 = .ok (.lreturn, 1) := by decide +kernel
theorem ef_lifetimeOfWrite0 (m : MethodId) (x0 : Addr) (x1 : Addr) (x2 : Int64) : entryFrame m #[(.ref x0), (.ref x1), (.long x2)] 6 = mkF m 0 #[.val (.ref x0), .val (.ref x1), .val (.long x2), .second, .unset, .unset] [] := by first | (simp [entryFrame, mkF, argsToLocals, Value.category]; done) | rfl
def QlifetimeOfWrite0 (a1 : Addr) (a2 : Addr) (q3 : Int64) (w1 w2 : Int64) (h0 : Heap) (n0 : Nat) (Z : State) (v : Option Value) (h : Heap) (L : List Loc) : Prop := v = some (.long (own_minL w1 w2)) ∧ Fr n0 L ∧ h = h0
set_option maxRecDepth 65536 in
set_option maxHeartbeats 40000000 in
theorem rmlifetimeOfWrite0 (l : Launch) (Z : State) (a0 : Array Value) (hw : ∀ d ∈ tables_1, d.before a0 Z = true) (ws : List Jvm.Cond) (a1 : Addr) (a2 : Addr) (q3 : Int64) (w1 w2 : Int64) (h0 : Heap) (n0 : Nat) (Z0 : n0 ≤ h0.size) (E1 : Exa Z h0 a1 "com/example/unutkan/unutkan/core/FixedExpiration") (F_afterWrite : Fld Z h0 a1 "com/example/unutkan/unutkan/core/FixedExpiration" "afterWrite" "J" (.long w1)) (F_afterAccess : Fld Z h0 a1 "com/example/unutkan/unutkan/core/FixedExpiration" "afterAccess" "J" (.long w2)) (F_jitter : Fld Z h0 a1 "com/example/unutkan/unutkan/core/FixedExpiration" "jitter" "D" (.double (0 : UInt64))) (F_b : Fld Z h0 a1 "com/example/unutkan/unutkan/core/FixedExpiration" "boundByBoth" "Z" (.int (0 : Int32))) :
    MetFree l (⟨"com/example/unutkan/unutkan/core/FixedExpiration", "lifetimeOfWrite", "(Lcom/example/unutkan/unutkan/core/Node;J)J"⟩ : MethodName) (head1 (Jvm.Cond.code (⟨"com/example/unutkan/unutkan/core/FixedExpiration", "lifetimeOfWrite", "(Lcom/example/unutkan/unutkan/core/Node;J)J"⟩ : MethodName) prog_11_method_7_code 6 (some .long) :: ws) ({ frames := 2, cells := 0, slots := 0, locals := 60 } : Room)) (fun a U => a = #[(.ref a1), (.ref a2), (.long q3)] ∧ Z.Warmed39 U.vm ∧ U.heap = h0) (fun _ _ _ _ _ => True) (fun _ U o U' => ∃ v L, o = .returned v ∧ QlifetimeOfWrite0 a1 a2 q3 w1 w2 h0 n0 Z v U'.heap L ∧ FrameEnd U o U' L ({ frames := 2, cells := 0, slots := 0, locals := 60 } : Room).cells ({ frames := 2, cells := 0, slots := 0, locals := 60 } : Room).slots) := by
  refine MetFree.of_bodySF (plainFor_of_name pn_1) hisR ?_
  intro p e s m args below meth c s₁ Bd hml0 hP hK
  obtain ⟨rfl, hZ, hh⟩ := hP
  have hx := Bd.exec
  have hby := Bd.bytes
  have hml : c.maxLocals = 6 := hml0
  have hown : s.vm.findClass "com/example/unutkan/unutkan/core/FixedExpiration" = some m.cls := findClass_of_methodNamed Bd.named
  have hnm := (name_of_methodNamed Bd.named Bd.method).1
  have hlk := Bd.notSynchronized
  have hrt := Bd.returns
  have X0 : Stand p l e ({ frames := 2, cells := 0, slots := 0, locals := 60 } : Room) s m #[(.ref a1), (.ref a2), (.long q3)] below meth c s₁ [] 0 0 := Stand.of_body Bd
  have e0 : s₁.heap = h0 := by rw [← hh, Bd.state]; rfl
  have N0 := Fr.nil n0
  show own_Ends p e below s (QlifetimeOfWrite0 a1 a2 q3 w1 w2 h0 n0 Z) ({ frames := 2, cells := 0, slots := 0, locals := 60 } : Room).cells ({ frames := 2, cells := 0, slots := 0, locals := 60 } : Room).slots (s₁.setTop (entryFrame m #[(.ref a1), (.ref a2), (.long q3)] 6))
  rw [ef_lifetimeOfWrite0]
  refine own_go (fun _ k => XS.aloadN X0.here hx rfl (hb hby d7_0) rfl rfl <| XS.aloadN X0.here hx rfl (hb hby d7_1) rfl rfl <| k) ?_
  show own_Ends p e below s _ _ _ (s₁.setTop (mkF m 2 #[.val (.ref a1), .val (.ref a2), .val (.long q3), .second, .unset, .unset] [(.ref a1), (.ref a1)]))
  obtain ⟨T1, X1, e1, st1⟩ := getF X0 hx hZ hown (host := "") (Or.inl (hw _ (List.mem_of_getElem? (i := 15) rfl))) Via.refl e0 F_afterWrite (g := (mkF m 2 #[.val (.ref a1), .val (.ref a2), .val (.long q3), .second, .unset, .unset] [(.ref a1), (.ref a1)])) rfl rfl (hb hby d7_2)
  refine own_go st1 ?_
  show own_Ends p e below s _ _ _ (T1.setTop (mkF m 5 #[.val (.ref a1), .val (.ref a2), .val (.long q3), .second, .unset, .unset] [(.long w1), (.ref a1)]))
  obtain ⟨cq2, q2, q2'⟩ := E1.cell
  obtain ⟨_, _, ⟨T2, L2, k2, n2⟩, -, X2, ⟨Lc2, hQ2, l2, y2, z2⟩, st2⟩ := X1.privateBack hx (y := (⟨"com/example/unutkan/unutkan/core/FixedExpiration", "jittered", "(J)J"⟩ : MethodName)) hown (mvT hZ (hw _ (List.mem_of_getElem? (i := 49) rfl))) (mvT hZ (hw _ (List.mem_of_getElem? (i := 50) rfl))) (own_selp (mvT hZ (hw _ (List.mem_of_getElem? (i := 7) rfl))) (mvP hZ (hw _ (List.mem_of_getElem? (i := 51) rfl))) (mvT hZ (hw _ (List.mem_of_getElem? (i := 50) rfl))) (by decide)) (Cond.privateMethod_at (mvP hZ (hw _ (List.mem_of_getElem? (i := 51) rfl)) (args := #[]))) (mvT hZ (hw _ (List.mem_of_getElem? (i := 52) rfl))) (by decide) (backOf (W := 0) (rm8 l Z a0 hw [] a1 w1 h0 n0 Z0 F_jitter) hZ (hw _ (List.mem_of_getElem? (i := 52) rfl)) (hw _ (List.mem_of_getElem? (i := 8) rfl)) (by decide) (by decide)) (g := (mkF m 5 #[.val (.ref a1), .val (.ref a2), .val (.long q3), .second, .unset, .unset] [(.long w1), (.ref a1)])) rfl (by rw [hml]; rfl) (Steps.refl _) (a := a1) (by rw [e1]; exact q2) q2' (argsL := [(.long w1)]) (rest := []) (lenOf pd_0 rfl) rfl (by show 2 * 0 + _ ≤ _; exact Nat.le_of_eq rfl) (hb hby d7_5) (fun _ _ => ⟨rfl, e1, Nat.le_of_ble_eq_true rfl, Nat.le_of_ble_eq_true rfl⟩)
  dsimp only [Pt.U, Pt.locs, Pt.cells, Pt.slots] at X2 l2 y2 z2 st2 hQ2
  subst l2 y2 z2
  obtain ⟨rfl, N2q, e2⟩ := hQ2
  have N2 := Fr.app N0 N2q
  refine own_go (fun _ k => st2.trans k) ?_
  show own_Ends p e below s _ _ _ (T2.setTop (mkF m 8 #[.val (.ref a1), .val (.ref a2), .val (.long q3), .second, .unset, .unset] [(.long w1)]))
  refine own_go (fun _ k => XS.lstore X2.here hx rfl (hb hby d7_8) rfl (l' := #[.val (.ref a1), .val (.ref a2), .val (.long q3), .second, .val (.long w1), .second]) rfl <| XS.aloadN X2.here hx rfl (hb hby d7_10) rfl rfl <| k) ?_
  show own_Ends p e below s _ _ _ (T2.setTop (mkF m 11 #[.val (.ref a1), .val (.ref a2), .val (.long q3), .second, .val (.long w1), .second] [(.ref a1)]))
  obtain ⟨T3, X3, e3, st3⟩ := getF X2 hx hZ hown (host := "") (Or.inl (hw _ (List.mem_of_getElem? (i := 22) rfl))) Via.refl e2 F_b (g := (mkF m 11 #[.val (.ref a1), .val (.ref a2), .val (.long q3), .second, .val (.long w1), .second] [(.ref a1)])) rfl rfl (hb hby d7_11)
  refine own_go st3 ?_
  show own_Ends p e below s _ _ _ (T3.setTop (mkF m 14 #[.val (.ref a1), .val (.ref a2), .val (.long q3), .second, .val (.long w1), .second] [(.int (0 : Int32))]))
  refine own_go (fun _ k => XS.ifYes X3.here hx rfl (pc0 := 14) (pc' := 28) rfl (hb hby d7_14) rfl ((if0 _ _).trans (teq (by decide)).1) (by decide) (by decide) <| XS.lload X3.here hx rfl (hb hby d7_28) rfl <| XS.aloadN X3.here hx rfl (hb hby d7_30) rfl rfl <| k) ?_
  show own_Ends p e below s _ _ _ (T3.setTop (mkF m 31 #[.val (.ref a1), .val (.ref a2), .val (.long q3), .second, .val (.long w1), .second] [(.ref a1), (.long w1)]))
  obtain ⟨T4, X4, e4, st4⟩ := getF X3 hx hZ hown (host := "") (Or.inl (hw _ (List.mem_of_getElem? (i := 17) rfl))) Via.refl e3 F_afterAccess (g := (mkF m 31 #[.val (.ref a1), .val (.ref a2), .val (.long q3), .second, .val (.long w1), .second] [(.ref a1), (.long w1)])) rfl rfl (hb hby d7_31)
  refine own_go st4 ?_
  show own_Ends p e below s _ _ _ (T4.setTop (mkF m 34 #[.val (.ref a1), .val (.ref a2), .val (.long q3), .second, .val (.long w1), .second] [(.long w2), (.long w1)]))
  obtain ⟨_, _, ⟨T5, L5, k5, n5⟩, -, X5, ⟨Lc5, hQ5, l5, y5, z5⟩, st5⟩ := Jvm.LawKit.callS X4 hx (y := (⟨"java/lang/Math", "min", "(JJ)J"⟩ : MethodName)) hown (mvT hZ (hw _ (List.mem_of_getElem? (i := 53) rfl))) (mvT hZ (hw _ (List.mem_of_getElem? (i := 54) rfl))) (mvT hZ (hw _ (List.mem_of_getElem? (i := 55) rfl))) (mvT hZ (hw _ (List.mem_of_getElem? (i := 56) rfl))) (by decide) (backOf (W := 0) (rm9 l Z a0 hw [] w1 w2 h0 n0 Z0) hZ (hw _ (List.mem_of_getElem? (i := 56) rfl)) (hw _ (List.mem_of_getElem? (i := 55) rfl)) (by decide) (by decide)) (g := (mkF m 34 #[.val (.ref a1), .val (.ref a2), .val (.long q3), .second, .val (.long w1), .second] [(.long w2), (.long w1)])) rfl (by rw [hml]; rfl) (argsL := [(.long w1), (.long w2)]) (rest := []) (lenOf pd_6 rfl) rfl (by show 2 * 0 + _ ≤ _; exact Nat.le_of_eq rfl) (hb hby d7_34) (fun _ _ => ⟨rfl, e4, Nat.le_of_ble_eq_true rfl, Nat.le_of_ble_eq_true rfl⟩)
  dsimp only [Pt.U, Pt.locs, Pt.cells, Pt.slots] at X5 l5 y5 z5 st5 hQ5
  subst l5 y5 z5
  obtain ⟨rfl, N5q, e5⟩ := hQ5
  have N5 := Fr.app N2 N5q
  refine own_go (fun _ k => st5 _ k) ?_
  show own_Ends p e below s _ _ _ (T5.setTop (mkF m 37 #[.val (.ref a1), .val (.ref a2), .val (.long q3), .second, .val (.long w1), .second] [(.long (own_minL w1 w2))]))
  exact own_ret X5 hx hrt rfl (Or.inr (Or.inl ⟨rfl, rfl, _, rfl⟩)) (hb hby d7_37) hlk (by rw [e5]; exact ⟨rfl, N5, rfl⟩) (by decide) (by decide)
theorem ef_lifetimeOfWrite1 (m : MethodId) (x0 : Addr) (x1 : Addr) (x2 : Int64) : entryFrame m #[(.ref x0), (.ref x1), (.long x2)] 6 = mkF m 0 #[.val (.ref x0), .val (.ref x1), .val (.long x2), .second, .unset, .unset] [] := by first | (simp [entryFrame, mkF, argsToLocals, Value.category]; done) | rfl
def QlifetimeOfWrite1 (a1 : Addr) (a2 : Addr) (q3 : Int64) (w1 w2 w3 : Int64) (h0 : Heap) (n0 : Nat) (Z : State) (v : Option Value) (h : Heap) (L : List Loc) : Prop := v = some (.long (own_minL w1 w2)) ∧ Fr n0 L ∧ Keep h0 h [a2] ∧ Fld Z h a2 "com/example/unutkan/unutkan/core/FixedExpiration$WriteBoundNode" "writeExpiresAt" "J" (.long (q3 + w1))
set_option maxRecDepth 65536 in
set_option maxHeartbeats 40000000 in
theorem rmlifetimeOfWrite1 (l : Launch) (Z : State) (a0 : Array Value) (hw : ∀ d ∈ tables_1, d.before a0 Z = true) (ws : List Jvm.Cond) (a1 : Addr) (a2 : Addr) (q3 : Int64) (w1 w2 w3 : Int64) (h0 : Heap) (n0 : Nat) (Z0 : n0 ≤ h0.size) (E1 : Exa Z h0 a1 "com/example/unutkan/unutkan/core/FixedExpiration") (F_afterWrite : Fld Z h0 a1 "com/example/unutkan/unutkan/core/FixedExpiration" "afterWrite" "J" (.long w1)) (F_afterAccess : Fld Z h0 a1 "com/example/unutkan/unutkan/core/FixedExpiration" "afterAccess" "J" (.long w2)) (F_jitter : Fld Z h0 a1 "com/example/unutkan/unutkan/core/FixedExpiration" "jitter" "D" (.double (0 : UInt64))) (F_b : Fld Z h0 a1 "com/example/unutkan/unutkan/core/FixedExpiration" "boundByBoth" "Z" (.int (1 : Int32))) (E2 : Exa Z h0 a2 "com/example/unutkan/unutkan/core/FixedExpiration$WriteBoundNode") (F2 : Fld Z h0 a2 "com/example/unutkan/unutkan/core/FixedExpiration$WriteBoundNode" "writeExpiresAt" "J" (.long w3)) (g2 : n0 ≤ a2) (hne : a1 ≠ a2) :
    MetFree l (⟨"com/example/unutkan/unutkan/core/FixedExpiration", "lifetimeOfWrite", "(Lcom/example/unutkan/unutkan/core/Node;J)J"⟩ : MethodName) (head1 (Jvm.Cond.code (⟨"com/example/unutkan/unutkan/core/FixedExpiration", "lifetimeOfWrite", "(Lcom/example/unutkan/unutkan/core/Node;J)J"⟩ : MethodName) prog_11_method_7_code 6 (some .long) :: ws) ({ frames := 2, cells := 0, slots := 0, locals := 60 } : Room)) (fun a U => a = #[(.ref a1), (.ref a2), (.long q3)] ∧ Z.Warmed39 U.vm ∧ U.heap = h0) (fun _ _ _ _ _ => True) (fun _ U o U' => ∃ v L, o = .returned v ∧ QlifetimeOfWrite1 a1 a2 q3 w1 w2 w3 h0 n0 Z v U'.heap L ∧ FrameEnd U o U' L ({ frames := 2, cells := 0, slots := 0, locals := 60 } : Room).cells ({ frames := 2, cells := 0, slots := 0, locals := 60 } : Room).slots) := by
  refine MetFree.of_bodySF (plainFor_of_name pn_1) hisR ?_
  intro p e s m args below meth c s₁ Bd hml0 hP hK
  obtain ⟨rfl, hZ, hh⟩ := hP
  have hx := Bd.exec
  have hby := Bd.bytes
  have hml : c.maxLocals = 6 := hml0
  have hown : s.vm.findClass "com/example/unutkan/unutkan/core/FixedExpiration" = some m.cls := findClass_of_methodNamed Bd.named
  have hnm := (name_of_methodNamed Bd.named Bd.method).1
  have hlk := Bd.notSynchronized
  have hrt := Bd.returns
  have X0 : Stand p l e ({ frames := 2, cells := 0, slots := 0, locals := 60 } : Room) s m #[(.ref a1), (.ref a2), (.long q3)] below meth c s₁ [] 0 0 := Stand.of_body Bd
  have e0 : s₁.heap = h0 := by rw [← hh, Bd.state]; rfl
  have N0 := Fr.nil n0
  show own_Ends p e below s (QlifetimeOfWrite1 a1 a2 q3 w1 w2 w3 h0 n0 Z) ({ frames := 2, cells := 0, slots := 0, locals := 60 } : Room).cells ({ frames := 2, cells := 0, slots := 0, locals := 60 } : Room).slots (s₁.setTop (entryFrame m #[(.ref a1), (.ref a2), (.long q3)] 6))
  rw [ef_lifetimeOfWrite1]
  have K0 : Keep h0 h0 [a2] := Keep.refl h0 [a2]
  refine own_go (fun _ k => XS.aloadN X0.here hx rfl (hb hby d7_0) rfl rfl <| XS.aloadN X0.here hx rfl (hb hby d7_1) rfl rfl <| k) ?_
  show own_Ends p e below s _ _ _ (s₁.setTop (mkF m 2 #[.val (.ref a1), .val (.ref a2), .val (.long q3), .second, .unset, .unset] [(.ref a1), (.ref a1)]))
  obtain ⟨T1, X1, e1, st1⟩ := getF X0 hx hZ hown (host := "") (Or.inl (hw _ (List.mem_of_getElem? (i := 15) rfl))) Via.refl e0 F_afterWrite (g := (mkF m 2 #[.val (.ref a1), .val (.ref a2), .val (.long q3), .second, .unset, .unset] [(.ref a1), (.ref a1)])) rfl rfl (hb hby d7_2)
  refine own_go st1 ?_
  show own_Ends p e below s _ _ _ (T1.setTop (mkF m 5 #[.val (.ref a1), .val (.ref a2), .val (.long q3), .second, .unset, .unset] [(.long w1), (.ref a1)]))
  obtain ⟨cq2, q2, q2'⟩ := E1.cell
  obtain ⟨_, _, ⟨T2, L2, k2, n2⟩, -, X2, ⟨Lc2, hQ2, l2, y2, z2⟩, st2⟩ := X1.privateBack hx (y := (⟨"com/example/unutkan/unutkan/core/FixedExpiration", "jittered", "(J)J"⟩ : MethodName)) hown (mvT hZ (hw _ (List.mem_of_getElem? (i := 49) rfl))) (mvT hZ (hw _ (List.mem_of_getElem? (i := 50) rfl))) (own_selp (mvT hZ (hw _ (List.mem_of_getElem? (i := 7) rfl))) (mvP hZ (hw _ (List.mem_of_getElem? (i := 51) rfl))) (mvT hZ (hw _ (List.mem_of_getElem? (i := 50) rfl))) (by decide)) (Cond.privateMethod_at (mvP hZ (hw _ (List.mem_of_getElem? (i := 51) rfl)) (args := #[]))) (mvT hZ (hw _ (List.mem_of_getElem? (i := 52) rfl))) (by decide) (backOf (W := 0) (rm8 l Z a0 hw [] a1 w1 h0 n0 Z0 F_jitter) hZ (hw _ (List.mem_of_getElem? (i := 52) rfl)) (hw _ (List.mem_of_getElem? (i := 8) rfl)) (by decide) (by decide)) (g := (mkF m 5 #[.val (.ref a1), .val (.ref a2), .val (.long q3), .second, .unset, .unset] [(.long w1), (.ref a1)])) rfl (by rw [hml]; rfl) (Steps.refl _) (a := a1) (by rw [e1]; exact q2) q2' (argsL := [(.long w1)]) (rest := []) (lenOf pd_0 rfl) rfl (by show 2 * 0 + _ ≤ _; exact Nat.le_of_eq rfl) (hb hby d7_5) (fun _ _ => ⟨rfl, e1, Nat.le_of_ble_eq_true rfl, Nat.le_of_ble_eq_true rfl⟩)
  dsimp only [Pt.U, Pt.locs, Pt.cells, Pt.slots] at X2 l2 y2 z2 st2 hQ2
  subst l2 y2 z2
  obtain ⟨rfl, N2q, e2⟩ := hQ2
  have N2 := Fr.app N0 N2q
  refine own_go (fun _ k => st2.trans k) ?_
  show own_Ends p e below s _ _ _ (T2.setTop (mkF m 8 #[.val (.ref a1), .val (.ref a2), .val (.long q3), .second, .unset, .unset] [(.long w1)]))
  refine own_go (fun _ k => XS.lstore X2.here hx rfl (hb hby d7_8) rfl (l' := #[.val (.ref a1), .val (.ref a2), .val (.long q3), .second, .val (.long w1), .second]) rfl <| XS.aloadN X2.here hx rfl (hb hby d7_10) rfl rfl <| k) ?_
  show own_Ends p e below s _ _ _ (T2.setTop (mkF m 11 #[.val (.ref a1), .val (.ref a2), .val (.long q3), .second, .val (.long w1), .second] [(.ref a1)]))
  obtain ⟨T3, X3, e3, st3⟩ := getF X2 hx hZ hown (host := "") (Or.inl (hw _ (List.mem_of_getElem? (i := 22) rfl))) Via.refl e2 F_b (g := (mkF m 11 #[.val (.ref a1), .val (.ref a2), .val (.long q3), .second, .val (.long w1), .second] [(.ref a1)])) rfl rfl (hb hby d7_11)
  refine own_go st3 ?_
  show own_Ends p e below s _ _ _ (T3.setTop (mkF m 14 #[.val (.ref a1), .val (.ref a2), .val (.long q3), .second, .val (.long w1), .second] [(.int (1 : Int32))]))
  refine own_go (fun _ k => XS.ifNo X3.here hx rfl (hb hby d7_14) rfl ((if0 _ _).trans (feq (by decide)).1) <| XS.aloadN X3.here hx rfl (hb hby d7_17) rfl rfl <| k) ?_
  show own_Ends p e below s _ _ _ (T3.setTop (mkF m 18 #[.val (.ref a1), .val (.ref a2), .val (.long q3), .second, .val (.long w1), .second] [(.ref a2)]))
  obtain ⟨T4, X4, e4, st4⟩ := castY X3 hx hZ hown (hw _ (List.mem_of_getElem? (i := 62) rfl)) e3 (Ins.self E2) (g := (mkF m 18 #[.val (.ref a1), .val (.ref a2), .val (.long q3), .second, .val (.long w1), .second] [(.ref a2)])) rfl rfl (hb hby d7_18)
  refine own_go st4 ?_
  show own_Ends p e below s _ _ _ (T4.setTop (mkF m 21 #[.val (.ref a1), .val (.ref a2), .val (.long q3), .second, .val (.long w1), .second] [(.ref a2)]))
  refine own_go (fun _ k => XS.lloadN X4.here hx rfl (hb hby d7_21) rfl <| XS.lload X4.here hx rfl (hb hby d7_22) rfl <| XS.ladd X4.here hx rfl (hb hby d7_24) rfl <| k) ?_
  show own_Ends p e below s _ _ _ (T4.setTop (mkF m 25 #[.val (.ref a1), .val (.ref a2), .val (.long q3), .second, .val (.long w1), .second] [(.long (q3 + w1)), (.ref a2)]))
  obtain ⟨T5, h5, X5, e5, W5, st5⟩ := putF X4 hx hZ hown (host := "") (Or.inl (hw _ (List.mem_of_getElem? (i := 73) rfl))) Via.refl e4 F2 E2 (Or.inl (hw _ (List.mem_of_getElem? (i := 74) rfl))) (hw _ (List.mem_of_getElem? (i := 63) rfl)) (ty := .long) (by decide) rfl rfl (g := (mkF m 25 #[.val (.ref a1), .val (.ref a2), .val (.long q3), .second, .val (.long w1), .second] [(.long (q3 + w1)), (.ref a2)])) rfl rfl (hb hby d7_25)
  refine own_go st5 ?_
  have E1'5 := E1.wr W5
  have F_afterWrite'5 := F_afterWrite.other W5 (Or.inl hne)
  have F_afterAccess'5 := F_afterAccess.other W5 (Or.inl hne)
  have F_jitter'5 := F_jitter.other W5 (Or.inl hne)
  have F_b'5 := F_b.other W5 (Or.inl hne)
  have E2'5 := E2.wr W5
  have Z5 := Nat.le_trans Z0 (Keep.of_wr W5).1
  have K5' := K0.wr W5 (Or.inl (List.mem_of_getElem? (i := 0) rfl))
  have N5 := Fr.snoc X5 N2 g2
  have F2'5 := F2.same W5
  show own_Ends p e below s _ _ _ (T5.setTop (mkF m 28 #[.val (.ref a1), .val (.ref a2), .val (.long q3), .second, .val (.long w1), .second] []))
  refine own_go (fun _ k => XS.lload X5.here hx rfl (hb hby d7_28) rfl <| XS.aloadN X5.here hx rfl (hb hby d7_30) rfl rfl <| k) ?_
  show own_Ends p e below s _ _ _ (T5.setTop (mkF m 31 #[.val (.ref a1), .val (.ref a2), .val (.long q3), .second, .val (.long w1), .second] [(.ref a1), (.long w1)]))
  obtain ⟨T6, X6, e6, st6⟩ := getF X5 hx hZ hown (host := "") (Or.inl (hw _ (List.mem_of_getElem? (i := 17) rfl))) Via.refl e5 F_afterAccess'5 (g := (mkF m 31 #[.val (.ref a1), .val (.ref a2), .val (.long q3), .second, .val (.long w1), .second] [(.ref a1), (.long w1)])) rfl rfl (hb hby d7_31)
  refine own_go st6 ?_
  show own_Ends p e below s _ _ _ (T6.setTop (mkF m 34 #[.val (.ref a1), .val (.ref a2), .val (.long q3), .second, .val (.long w1), .second] [(.long w2), (.long w1)]))
  obtain ⟨_, _, ⟨T7, L7, k7, n7⟩, -, X7, ⟨Lc7, hQ7, l7, y7, z7⟩, st7⟩ := Jvm.LawKit.callS X6 hx (y := (⟨"java/lang/Math", "min", "(JJ)J"⟩ : MethodName)) hown (mvT hZ (hw _ (List.mem_of_getElem? (i := 53) rfl))) (mvT hZ (hw _ (List.mem_of_getElem? (i := 54) rfl))) (mvT hZ (hw _ (List.mem_of_getElem? (i := 55) rfl))) (mvT hZ (hw _ (List.mem_of_getElem? (i := 56) rfl))) (by decide) (backOf (W := 0) (rm9 l Z a0 hw [] w1 w2 h5 n0 Z5) hZ (hw _ (List.mem_of_getElem? (i := 56) rfl)) (hw _ (List.mem_of_getElem? (i := 55) rfl)) (by decide) (by decide)) (g := (mkF m 34 #[.val (.ref a1), .val (.ref a2), .val (.long q3), .second, .val (.long w1), .second] [(.long w2), (.long w1)])) rfl (by rw [hml]; rfl) (argsL := [(.long w1), (.long w2)]) (rest := []) (lenOf pd_6 rfl) rfl (by show 2 * 0 + _ ≤ _; exact Nat.le_of_eq rfl) (hb hby d7_34) (fun _ _ => ⟨rfl, e6, Nat.le_of_ble_eq_true rfl, Nat.le_of_ble_eq_true rfl⟩)
  dsimp only [Pt.U, Pt.locs, Pt.cells, Pt.slots] at X7 l7 y7 z7 st7 hQ7
  subst l7 y7 z7
  obtain ⟨rfl, N7q, e7⟩ := hQ7
  have N7 := Fr.app N5 N7q
  refine own_go (fun _ k => st7 _ k) ?_
  show own_Ends p e below s _ _ _ (T7.setTop (mkF m 37 #[.val (.ref a1), .val (.ref a2), .val (.long q3), .second, .val (.long w1), .second] [(.long (own_minL w1 w2))]))
  exact own_ret X7 hx hrt rfl (Or.inr (Or.inl ⟨rfl, rfl, _, rfl⟩)) (hb hby d7_37) hlk (by rw [e7]; exact ⟨rfl, N7, K5', F2'5⟩) (by decide) (by decide)
theorem d6_0 : decode prog_11_method_3_code 0 = .ok (.aload_n 0, 1) := by decide +kernel
theorem d6_1 : decode prog_11_method_3_code 1 = .ok (.aload_n 1, 1) := by decide +kernel
theorem d6_2 : decode prog_11_method_3_code 2 = .ok (.lload_n 2, 1) := by decide +kernel
theorem d6_3 : decode prog_11_method_3_code 3 = .ok (.invokevirtual 36, 3) := by decide +kernel
theorem d6_6 : decode prog_11_method_3_code 6 = .ok (.lreturn, 1) := by decide +kernel
theorem ef_lifetimeOfNew0 (m : MethodId) (x0 : Addr) (x1 : Addr) (x2 : Int64) : entryFrame m #[(.ref x0), (.ref x1), (.long x2)] 4 = mkF m 0 #[.val (.ref x0), .val (.ref x1), .val (.long x2), .second] [] := by first | (simp [entryFrame, mkF, argsToLocals, Value.category]; done) | rfl
def QlifetimeOfNew0 (a1 : Addr) (a2 : Addr) (q3 : Int64) (w1 w2 : Int64) (h0 : Heap) (n0 : Nat) (Z : State) (v : Option Value) (h : Heap) (L : List Loc) : Prop := v = some (.long (own_minL w1 w2)) ∧ Fr n0 L ∧ h = h0
set_option maxRecDepth 65536 in
set_option maxHeartbeats 40000000 in
theorem rmlifetimeOfNew0 (l : Launch) (Z : State) (a0 : Array Value) (hw : ∀ d ∈ tables_1, d.before a0 Z = true) (ws : List Jvm.Cond) (a1 : Addr) (a2 : Addr) (q3 : Int64) (w1 w2 : Int64) (h0 : Heap) (n0 : Nat) (Z0 : n0 ≤ h0.size) (E1 : Exa Z h0 a1 "com/example/unutkan/unutkan/core/FixedExpiration") (F_afterWrite : Fld Z h0 a1 "com/example/unutkan/unutkan/core/FixedExpiration" "afterWrite" "J" (.long w1)) (F_afterAccess : Fld Z h0 a1 "com/example/unutkan/unutkan/core/FixedExpiration" "afterAccess" "J" (.long w2)) (F_jitter : Fld Z h0 a1 "com/example/unutkan/unutkan/core/FixedExpiration" "jitter" "D" (.double (0 : UInt64))) (F_b : Fld Z h0 a1 "com/example/unutkan/unutkan/core/FixedExpiration" "boundByBoth" "Z" (.int (0 : Int32))) :
    MetFree l (⟨"com/example/unutkan/unutkan/core/FixedExpiration", "lifetimeOfNew", "(Lcom/example/unutkan/unutkan/core/Node;J)J"⟩ : MethodName) (head1 (Jvm.Cond.code (⟨"com/example/unutkan/unutkan/core/FixedExpiration", "lifetimeOfNew", "(Lcom/example/unutkan/unutkan/core/Node;J)J"⟩ : MethodName) prog_11_method_3_code 4 (some .long) :: ws) ({ frames := 3, cells := 0, slots := 0, locals := 90 } : Room)) (fun a U => a = #[(.ref a1), (.ref a2), (.long q3)] ∧ Z.Warmed39 U.vm ∧ U.heap = h0) (fun _ _ _ _ _ => True) (fun _ U o U' => ∃ v L, o = .returned v ∧ QlifetimeOfNew0 a1 a2 q3 w1 w2 h0 n0 Z v U'.heap L ∧ FrameEnd U o U' L ({ frames := 3, cells := 0, slots := 0, locals := 90 } : Room).cells ({ frames := 3, cells := 0, slots := 0, locals := 90 } : Room).slots) := by
  refine MetFree.of_bodySF (plainFor_of_name pn_1) hisR ?_
  intro p e s m args below meth c s₁ Bd hml0 hP hK
  obtain ⟨rfl, hZ, hh⟩ := hP
  have hx := Bd.exec
  have hby := Bd.bytes
  have hml : c.maxLocals = 4 := hml0
  have hown : s.vm.findClass "com/example/unutkan/unutkan/core/FixedExpiration" = some m.cls := findClass_of_methodNamed Bd.named
  have hnm := (name_of_methodNamed Bd.named Bd.method).1
  have hlk := Bd.notSynchronized
  have hrt := Bd.returns
  have X0 : Stand p l e ({ frames := 3, cells := 0, slots := 0, locals := 90 } : Room) s m #[(.ref a1), (.ref a2), (.long q3)] below meth c s₁ [] 0 0 := Stand.of_body Bd
  have e0 : s₁.heap = h0 := by rw [← hh, Bd.state]; rfl
  have N0 := Fr.nil n0
  show own_Ends p e below s (QlifetimeOfNew0 a1 a2 q3 w1 w2 h0 n0 Z) ({ frames := 3, cells := 0, slots := 0, locals := 90 } : Room).cells ({ frames := 3, cells := 0, slots := 0, locals := 90 } : Room).slots (s₁.setTop (entryFrame m #[(.ref a1), (.ref a2), (.long q3)] 4))
  rw [ef_lifetimeOfNew0]
  refine own_go (fun _ k => XS.aloadN X0.here hx rfl (hb hby d6_0) rfl rfl <| XS.aloadN X0.here hx rfl (hb hby d6_1) rfl rfl <| XS.lloadN X0.here hx rfl (hb hby d6_2) rfl <| k) ?_
  show own_Ends p e below s _ _ _ (s₁.setTop (mkF m 3 #[.val (.ref a1), .val (.ref a2), .val (.long q3), .second] [(.long q3), (.ref a2), (.ref a1)]))
  obtain ⟨cq1, q1, q1'⟩ := E1.cell
  obtain ⟨_, _, ⟨T1, L1, k1, n1⟩, -, X1, ⟨Lc1, hQ1, l1, y1, z1⟩, st1⟩ := X0.privateBack hx (y := (⟨"com/example/unutkan/unutkan/core/FixedExpiration", "lifetimeOfWrite", "(Lcom/example/unutkan/unutkan/core/Node;J)J"⟩ : MethodName)) hown (mvT hZ (hw _ (List.mem_of_getElem? (i := 45) rfl))) (mvT hZ (hw _ (List.mem_of_getElem? (i := 46) rfl))) (own_selp (mvT hZ (hw _ (List.mem_of_getElem? (i := 7) rfl))) (mvP hZ (hw _ (List.mem_of_getElem? (i := 47) rfl))) (mvT hZ (hw _ (List.mem_of_getElem? (i := 46) rfl))) (by decide)) (Cond.privateMethod_at (mvP hZ (hw _ (List.mem_of_getElem? (i := 47) rfl)) (args := #[]))) (mvT hZ (hw _ (List.mem_of_getElem? (i := 48) rfl))) (by decide) (backOf (W := 0) (rmlifetimeOfWrite0 l Z a0 hw [] a1 a2 q3 w1 w2 h0 n0 Z0 E1 F_afterWrite F_afterAccess F_jitter F_b) hZ (hw _ (List.mem_of_getElem? (i := 48) rfl)) (hw _ (List.mem_of_getElem? (i := 8) rfl)) (by decide) (by decide)) (g := (mkF m 3 #[.val (.ref a1), .val (.ref a2), .val (.long q3), .second] [(.long q3), (.ref a2), (.ref a1)])) rfl (by rw [hml]; rfl) (Steps.refl _) (a := a1) (by rw [e0]; exact q1) q1' (argsL := [(.ref a2), (.long q3)]) (rest := []) (lenOf pd_5 rfl) rfl (by show 2 * 0 + _ ≤ _; exact Nat.le_of_eq rfl) (hb hby d6_3) (fun _ _ => ⟨rfl, e0, Nat.le_of_ble_eq_true rfl, Nat.le_of_ble_eq_true rfl⟩)
  dsimp only [Pt.U, Pt.locs, Pt.cells, Pt.slots] at X1 l1 y1 z1 st1 hQ1
  subst l1 y1 z1
  obtain ⟨rfl, N1q, e1⟩ := hQ1
  have N1 := Fr.app N0 N1q
  refine own_go (fun _ k => st1.trans k) ?_
  show own_Ends p e below s _ _ _ (T1.setTop (mkF m 6 #[.val (.ref a1), .val (.ref a2), .val (.long q3), .second] [(.long (own_minL w1 w2))]))
  exact own_ret X1 hx hrt rfl (Or.inr (Or.inl ⟨rfl, rfl, _, rfl⟩)) (hb hby d6_6) hlk (by rw [e1]; exact ⟨rfl, N1, rfl⟩) (by decide) (by decide)
theorem ef_lifetimeOfNew1 (m : MethodId) (x0 : Addr) (x1 : Addr) (x2 : Int64) : entryFrame m #[(.ref x0), (.ref x1), (.long x2)] 4 = mkF m 0 #[.val (.ref x0), .val (.ref x1), .val (.long x2), .second] [] := by first | (simp [entryFrame, mkF, argsToLocals, Value.category]; done) | rfl
def QlifetimeOfNew1 (a1 : Addr) (a2 : Addr) (q3 : Int64) (w1 w2 w3 : Int64) (h0 : Heap) (n0 : Nat) (Z : State) (v : Option Value) (h : Heap) (L : List Loc) : Prop := v = some (.long (own_minL w1 w2)) ∧ Fr n0 L ∧ Keep h0 h [a2] ∧ Fld Z h a2 "com/example/unutkan/unutkan/core/FixedExpiration$WriteBoundNode" "writeExpiresAt" "J" (.long (q3 + w1))
set_option maxRecDepth 65536 in
set_option maxHeartbeats 40000000 in
theorem rmlifetimeOfNew1 (l : Launch) (Z : State) (a0 : Array Value) (hw : ∀ d ∈ tables_1, d.before a0 Z = true) (ws : List Jvm.Cond) (a1 : Addr) (a2 : Addr) (q3 : Int64) (w1 w2 w3 : Int64) (h0 : Heap) (n0 : Nat) (Z0 : n0 ≤ h0.size) (E1 : Exa Z h0 a1 "com/example/unutkan/unutkan/core/FixedExpiration") (F_afterWrite : Fld Z h0 a1 "com/example/unutkan/unutkan/core/FixedExpiration" "afterWrite" "J" (.long w1)) (F_afterAccess : Fld Z h0 a1 "com/example/unutkan/unutkan/core/FixedExpiration" "afterAccess" "J" (.long w2)) (F_jitter : Fld Z h0 a1 "com/example/unutkan/unutkan/core/FixedExpiration" "jitter" "D" (.double (0 : UInt64))) (F_b : Fld Z h0 a1 "com/example/unutkan/unutkan/core/FixedExpiration" "boundByBoth" "Z" (.int (1 : Int32))) (E2 : Exa Z h0 a2 "com/example/unutkan/unutkan/core/FixedExpiration$WriteBoundNode") (F2 : Fld Z h0 a2 "com/example/unutkan/unutkan/core/FixedExpiration$WriteBoundNode" "writeExpiresAt" "J" (.long w3)) (g2 : n0 ≤ a2) (hne : a1 ≠ a2) :
    MetFree l (⟨"com/example/unutkan/unutkan/core/FixedExpiration", "lifetimeOfNew", "(Lcom/example/unutkan/unutkan/core/Node;J)J"⟩ : MethodName) (head1 (Jvm.Cond.code (⟨"com/example/unutkan/unutkan/core/FixedExpiration", "lifetimeOfNew", "(Lcom/example/unutkan/unutkan/core/Node;J)J"⟩ : MethodName) prog_11_method_3_code 4 (some .long) :: ws) ({ frames := 3, cells := 0, slots := 0, locals := 90 } : Room)) (fun a U => a = #[(.ref a1), (.ref a2), (.long q3)] ∧ Z.Warmed39 U.vm ∧ U.heap = h0) (fun _ _ _ _ _ => True) (fun _ U o U' => ∃ v L, o = .returned v ∧ QlifetimeOfNew1 a1 a2 q3 w1 w2 w3 h0 n0 Z v U'.heap L ∧ FrameEnd U o U' L ({ frames := 3, cells := 0, slots := 0, locals := 90 } : Room).cells ({ frames := 3, cells := 0, slots := 0, locals := 90 } : Room).slots) := by
  refine MetFree.of_bodySF (plainFor_of_name pn_1) hisR ?_
  intro p e s m args below meth c s₁ Bd hml0 hP hK
  obtain ⟨rfl, hZ, hh⟩ := hP
  have hx := Bd.exec
  have hby := Bd.bytes
  have hml : c.maxLocals = 4 := hml0
  have hown : s.vm.findClass "com/example/unutkan/unutkan/core/FixedExpiration" = some m.cls := findClass_of_methodNamed Bd.named
  have hnm := (name_of_methodNamed Bd.named Bd.method).1
  have hlk := Bd.notSynchronized
  have hrt := Bd.returns
  have X0 : Stand p l e ({ frames := 3, cells := 0, slots := 0, locals := 90 } : Room) s m #[(.ref a1), (.ref a2), (.long q3)] below meth c s₁ [] 0 0 := Stand.of_body Bd
  have e0 : s₁.heap = h0 := by rw [← hh, Bd.state]; rfl
  have N0 := Fr.nil n0
  show own_Ends p e below s (QlifetimeOfNew1 a1 a2 q3 w1 w2 w3 h0 n0 Z) ({ frames := 3, cells := 0, slots := 0, locals := 90 } : Room).cells ({ frames := 3, cells := 0, slots := 0, locals := 90 } : Room).slots (s₁.setTop (entryFrame m #[(.ref a1), (.ref a2), (.long q3)] 4))
  rw [ef_lifetimeOfNew1]
  have K0 : Keep h0 h0 [a2] := Keep.refl h0 [a2]
  refine own_go (fun _ k => XS.aloadN X0.here hx rfl (hb hby d6_0) rfl rfl <| XS.aloadN X0.here hx rfl (hb hby d6_1) rfl rfl <| XS.lloadN X0.here hx rfl (hb hby d6_2) rfl <| k) ?_
  show own_Ends p e below s _ _ _ (s₁.setTop (mkF m 3 #[.val (.ref a1), .val (.ref a2), .val (.long q3), .second] [(.long q3), (.ref a2), (.ref a1)]))
  obtain ⟨cq1, q1, q1'⟩ := E1.cell
  obtain ⟨_, _, ⟨T1, L1, k1, n1⟩, -, X1, ⟨Lc1, hQ1, l1, y1, z1⟩, st1⟩ := X0.privateBack hx (y := (⟨"com/example/unutkan/unutkan/core/FixedExpiration", "lifetimeOfWrite", "(Lcom/example/unutkan/unutkan/core/Node;J)J"⟩ : MethodName)) hown (mvT hZ (hw _ (List.mem_of_getElem? (i := 45) rfl))) (mvT hZ (hw _ (List.mem_of_getElem? (i := 46) rfl))) (own_selp (mvT hZ (hw _ (List.mem_of_getElem? (i := 7) rfl))) (mvP hZ (hw _ (List.mem_of_getElem? (i := 47) rfl))) (mvT hZ (hw _ (List.mem_of_getElem? (i := 46) rfl))) (by decide)) (Cond.privateMethod_at (mvP hZ (hw _ (List.mem_of_getElem? (i := 47) rfl)) (args := #[]))) (mvT hZ (hw _ (List.mem_of_getElem? (i := 48) rfl))) (by decide) (backOf (W := 0) (rmlifetimeOfWrite1 l Z a0 hw [] a1 a2 q3 w1 w2 w3 h0 n0 Z0 E1 F_afterWrite F_afterAccess F_jitter F_b E2 F2 g2 hne) hZ (hw _ (List.mem_of_getElem? (i := 48) rfl)) (hw _ (List.mem_of_getElem? (i := 8) rfl)) (by decide) (by decide)) (g := (mkF m 3 #[.val (.ref a1), .val (.ref a2), .val (.long q3), .second] [(.long q3), (.ref a2), (.ref a1)])) rfl (by rw [hml]; rfl) (Steps.refl _) (a := a1) (by rw [e0]; exact q1) q1' (argsL := [(.ref a2), (.long q3)]) (rest := []) (lenOf pd_5 rfl) rfl (by show 2 * 0 + _ ≤ _; exact Nat.le_of_eq rfl) (hb hby d6_3) (fun _ _ => ⟨rfl, e0, Nat.le_of_ble_eq_true rfl, Nat.le_of_ble_eq_true rfl⟩)
  dsimp only [Pt.U, Pt.locs, Pt.cells, Pt.slots] at X1 l1 y1 z1 st1 hQ1
  subst l1 y1 z1
  obtain ⟨rfl, N1q, K1, Fw1⟩ := hQ1
  have N1 := Fr.app N0 N1q
  refine own_go (fun _ k => st1.trans k) ?_
  have E1'1 := E1.keep K1
  have F_afterWrite'1 := F_afterWrite.keep K1 (ninS hne nin0)
  have F_afterAccess'1 := F_afterAccess.keep K1 (ninS hne nin0)
  have F_jitter'1 := F_jitter.keep K1 (ninS hne nin0)
  have F_b'1 := F_b.keep K1 (ninS hne nin0)
  have E2'1 := E2.keep K1
  have Z1 := Nat.le_trans Z0 K1.1
  have K1' := K0.trans K1 (allS (Or.inl (List.mem_of_getElem? (i := 0) rfl)) all0)
  show own_Ends p e below s _ _ _ (T1.setTop (mkF m 6 #[.val (.ref a1), .val (.ref a2), .val (.long q3), .second] [(.long (own_minL w1 w2))]))
  exact own_ret X1 hx hrt rfl (Or.inr (Or.inl ⟨rfl, rfl, _, rfl⟩)) (hb hby d6_6) hlk (by exact ⟨rfl, N1, K1', Fw1⟩) (by decide) (by decide)
theorem d10_0 : decode prog_11_method_6_code 0 = .ok (.aload_n 0, 1) := by decide +kernel
theorem d10_1 : decode prog_11_method_6_code 1 = .ok (.getfield 24, 3) := by decide +kernel
theorem d10_4 : decode prog_11_method_6_code 4 = .ok (.ifCond .ne 11, 3) := by decide +kernel
theorem d10_7 : decode prog_11_method_6_code 7 = .ok (.lload 5, 2) := by decide +kernel
theorem d10_9 : decode prog_11_method_6_code 9 = .ok (.aload_n 0, 1) := by decide +kernel
theorem d10_10 : decode prog_11_method_6_code 10 = .ok (.getfield 13, 3) := by decide +kernel
theorem d10_13 : decode prog_11_method_6_code 13 = .ok (.ladd, 1) := by decide +kernel
theorem d10_14 : decode prog_11_method_6_code 14 = .ok (.lreturn, 1) := by decide +kernel
theorem d10_15 : decode prog_11_method_6_code 15 = .ok (.aload_n 1, 1) := by decide +kernel
theorem d10_16 : decode prog_11_method_6_code 16 = .ok (.checkcast 28, 3) := by decide +kernel
theorem d10_19 : decode prog_11_method_6_code 19 = .ok (.getfield 40, 3) := by decide +kernel
theorem d10_22 : decode prog_11_method_6_code 22 = .ok (.lstore 7, 2) := by decide +kernel
theorem d10_24 : decode prog_11_method_6_code 24 = .ok (.lload 7, 2) := by decide +kernel
theorem d10_26 : decode prog_11_method_6_code 26 = .ok (.lload 5, 2) := by decide +kernel
theorem d10_28 : decode prog_11_method_6_code 28 = .ok (.lsub, 1) := by decide +kernel
theorem d10_29 : decode prog_11_method_6_code 29 = .ok (.aload_n 0, 1) := by decide +kernel
theorem d10_30 : decode prog_11_method_6_code 30 = .ok (.getfield 13, 3) := by decide +kernel
theorem d10_33 : decode prog_11_method_6_code 33 = .ok (.lcmp, 1) := by decide +kernel
theorem d10_34 : decode prog_11_method_6_code 34 = .ok (.ifCond .gt 8, 3) := by decide +kernel
theorem d10_37 : decode prog_11_method_6_code 37 = .ok (.lload 7, 2) := by decide +kernel
theorem d10_39 : decode prog_11_method_6_code 39 = .ok (.goto 10, 3) := by decide +kernel
theorem d10_42 : decode prog_11_method_6_code 42 = .ok (.lload 5, 2) := by decide +kernel
theorem d10_44 : decode prog_11_method_6_code 44 = .ok (.aload_n 0, 1) := by decide +kernel
theorem d10_45 : decode prog_11_method_6_code 45 = .ok (.getfield 13, 3) := by decide +kernel
theorem d10_48 : decode prog_11_method_6_code 48 = .ok (.ladd, 1) := by decide +kernel
theorem d10_49 : decode prog_11_method_6_code 49 = .ok (.lreturn, 1) := by decide +kernel
theorem ef_EAR0 (m : MethodId) (x0 : Addr) (x1 : Addr) (x3 : Int64) (x4 : Int64) : entryFrame m #[(.ref x0), (.ref x1), .null, (.long x3), (.long x4)] 9 = mkF m 0 #[.val (.ref x0), .val (.ref x1), .val .null, .val (.long x3), .second, .val (.long x4), .second, .unset, .unset] [] := by first | (simp [entryFrame, mkF, argsToLocals, Value.category]; done) | rfl
def QEAR0 (a1 : Addr) (a2 : Addr) (q4 : Int64) (q5 : Int64) (w2 : Int64) (h0 : Heap) (n0 : Nat) (Z : State) (v : Option Value) (h : Heap) (L : List Loc) : Prop := v = some (.long (q5 + w2)) ∧ Fr n0 L ∧ h = h0
set_option maxRecDepth 65536 in
set_option maxHeartbeats 40000000 in
theorem rmEAR0 (l : Launch) (Z : State) (a0 : Array Value) (hw : ∀ d ∈ tables_1, d.before a0 Z = true) (ws : List Jvm.Cond) (a1 : Addr) (a2 : Addr) (q4 : Int64) (q5 : Int64) (w2 : Int64) (h0 : Heap) (n0 : Nat) (Z0 : n0 ≤ h0.size) (F1 : Fld Z h0 a1 "com/example/unutkan/unutkan/core/FixedExpiration" "afterAccess" "J" (.long w2)) (F2 : Fld Z h0 a1 "com/example/unutkan/unutkan/core/FixedExpiration" "boundByBoth" "Z" (.int (0 : Int32))) :
    MetFree l (⟨"com/example/unutkan/unutkan/core/FixedExpiration", "expiresAtAfterRead", "(Lcom/example/unutkan/unutkan/core/Node;Ljava/lang/Object;JJ)J"⟩ : MethodName) (head1 (Jvm.Cond.code (⟨"com/example/unutkan/unutkan/core/FixedExpiration", "expiresAtAfterRead", "(Lcom/example/unutkan/unutkan/core/Node;Ljava/lang/Object;JJ)J"⟩ : MethodName) prog_11_method_6_code 9 (some .long) :: ws) ({ frames := 0, cells := 0, slots := 0, locals := 0 } : Room)) (fun a U => a = #[(.ref a1), (.ref a2), .null, (.long q4), (.long q5)] ∧ Z.Warmed39 U.vm ∧ U.heap = h0) (fun _ _ _ _ _ => True) (fun _ U o U' => ∃ v L, o = .returned v ∧ QEAR0 a1 a2 q4 q5 w2 h0 n0 Z v U'.heap L ∧ FrameEnd U o U' L ({ frames := 0, cells := 0, slots := 0, locals := 0 } : Room).cells ({ frames := 0, cells := 0, slots := 0, locals := 0 } : Room).slots) := by
  refine MetFree.of_bodySF (plainFor_of_name pn_1) hisR ?_
  intro p e s m args below meth c s₁ Bd hml0 hP hK
  obtain ⟨rfl, hZ, hh⟩ := hP
  have hx := Bd.exec
  have hby := Bd.bytes
  have hml : c.maxLocals = 9 := hml0
  have hown : s.vm.findClass "com/example/unutkan/unutkan/core/FixedExpiration" = some m.cls := findClass_of_methodNamed Bd.named
  have hnm := (name_of_methodNamed Bd.named Bd.method).1
  have hlk := Bd.notSynchronized
  have hrt := Bd.returns
  have X0 : Stand p l e ({ frames := 0, cells := 0, slots := 0, locals := 0 } : Room) s m #[(.ref a1), (.ref a2), .null, (.long q4), (.long q5)] below meth c s₁ [] 0 0 := Stand.of_body Bd
  have e0 : s₁.heap = h0 := by rw [← hh, Bd.state]; rfl
  have N0 := Fr.nil n0
  show own_Ends p e below s (QEAR0 a1 a2 q4 q5 w2 h0 n0 Z) ({ frames := 0, cells := 0, slots := 0, locals := 0 } : Room).cells ({ frames := 0, cells := 0, slots := 0, locals := 0 } : Room).slots (s₁.setTop (entryFrame m #[(.ref a1), (.ref a2), .null, (.long q4), (.long q5)] 9))
  rw [ef_EAR0]
  refine own_go (fun _ k => XS.aloadN X0.here hx rfl (hb hby d10_0) rfl rfl <| k) ?_
  show own_Ends p e below s _ _ _ (s₁.setTop (mkF m 1 #[.val (.ref a1), .val (.ref a2), .val .null, .val (.long q4), .second, .val (.long q5), .second, .unset, .unset] [(.ref a1)]))
  obtain ⟨T1, X1, e1, st1⟩ := getF X0 hx hZ hown (host := "") (Or.inl (hw _ (List.mem_of_getElem? (i := 22) rfl))) Via.refl e0 F2 (g := (mkF m 1 #[.val (.ref a1), .val (.ref a2), .val .null, .val (.long q4), .second, .val (.long q5), .second, .unset, .unset] [(.ref a1)])) rfl rfl (hb hby d10_1)
  refine own_go st1 ?_
  show own_Ends p e below s _ _ _ (T1.setTop (mkF m 4 #[.val (.ref a1), .val (.ref a2), .val .null, .val (.long q4), .second, .val (.long q5), .second, .unset, .unset] [(.int (0 : Int32))]))
  refine own_go (fun _ k => XS.ifNo X1.here hx rfl (hb hby d10_4) rfl ((if0 _ _).trans (teq (by decide)).2) <| XS.lload X1.here hx rfl (hb hby d10_7) rfl <| XS.aloadN X1.here hx rfl (hb hby d10_9) rfl rfl <| k) ?_
  show own_Ends p e below s _ _ _ (T1.setTop (mkF m 10 #[.val (.ref a1), .val (.ref a2), .val .null, .val (.long q4), .second, .val (.long q5), .second, .unset, .unset] [(.ref a1), (.long q5)]))
  obtain ⟨T2, X2, e2, st2⟩ := getF X1 hx hZ hown (host := "") (Or.inl (hw _ (List.mem_of_getElem? (i := 17) rfl))) Via.refl e1 F1 (g := (mkF m 10 #[.val (.ref a1), .val (.ref a2), .val .null, .val (.long q4), .second, .val (.long q5), .second, .unset, .unset] [(.ref a1), (.long q5)])) rfl rfl (hb hby d10_10)
  refine own_go st2 ?_
  show own_Ends p e below s _ _ _ (T2.setTop (mkF m 13 #[.val (.ref a1), .val (.ref a2), .val .null, .val (.long q4), .second, .val (.long q5), .second, .unset, .unset] [(.long w2), (.long q5)]))
  refine own_go (fun _ k => XS.ladd X2.here hx rfl (hb hby d10_13) rfl <| k) ?_
  show own_Ends p e below s _ _ _ (T2.setTop (mkF m 14 #[.val (.ref a1), .val (.ref a2), .val .null, .val (.long q4), .second, .val (.long q5), .second, .unset, .unset] [(.long (q5 + w2))]))
  exact own_ret X2 hx hrt rfl (Or.inr (Or.inl ⟨rfl, rfl, _, rfl⟩)) (hb hby d10_14) hlk (by rw [e2]; exact ⟨rfl, N0, rfl⟩) (by decide) (by decide)
theorem ef_EAR1 (m : MethodId) (x0 : Addr) (x1 : Addr) (x3 : Int64) (x4 : Int64) : entryFrame m #[(.ref x0), (.ref x1), .null, (.long x3), (.long x4)] 9 = mkF m 0 #[.val (.ref x0), .val (.ref x1), .val .null, .val (.long x3), .second, .val (.long x4), .second, .unset, .unset] [] := by first | (simp [entryFrame, mkF, argsToLocals, Value.category]; done) | rfl
def QEAR1 (a1 : Addr) (a2 : Addr) (q4 : Int64) (q5 : Int64) (w2 w3 : Int64) (h0 : Heap) (n0 : Nat) (Z : State) (v : Option Value) (h : Heap) (L : List Loc) : Prop := v = some (.long (own_ear w3 w2 q5)) ∧ Fr n0 L ∧ h = h0
set_option maxRecDepth 65536 in
set_option maxHeartbeats 40000000 in
theorem rmEAR1 (l : Launch) (Z : State) (a0 : Array Value) (hw : ∀ d ∈ tables_1, d.before a0 Z = true) (ws : List Jvm.Cond) (a1 : Addr) (a2 : Addr) (q4 : Int64) (q5 : Int64) (w2 w3 : Int64) (h0 : Heap) (n0 : Nat) (Z0 : n0 ≤ h0.size) (F1 : Fld Z h0 a1 "com/example/unutkan/unutkan/core/FixedExpiration" "afterAccess" "J" (.long w2)) (F2 : Fld Z h0 a1 "com/example/unutkan/unutkan/core/FixedExpiration" "boundByBoth" "Z" (.int (1 : Int32))) (E2 : Exa Z h0 a2 "com/example/unutkan/unutkan/core/FixedExpiration$WriteBoundNode") (F3 : Fld Z h0 a2 "com/example/unutkan/unutkan/core/FixedExpiration$WriteBoundNode" "writeExpiresAt" "J" (.long w3)) :
    MetFree l (⟨"com/example/unutkan/unutkan/core/FixedExpiration", "expiresAtAfterRead", "(Lcom/example/unutkan/unutkan/core/Node;Ljava/lang/Object;JJ)J"⟩ : MethodName) (head1 (Jvm.Cond.code (⟨"com/example/unutkan/unutkan/core/FixedExpiration", "expiresAtAfterRead", "(Lcom/example/unutkan/unutkan/core/Node;Ljava/lang/Object;JJ)J"⟩ : MethodName) prog_11_method_6_code 9 (some .long) :: ws) ({ frames := 0, cells := 0, slots := 0, locals := 0 } : Room)) (fun a U => a = #[(.ref a1), (.ref a2), .null, (.long q4), (.long q5)] ∧ Z.Warmed39 U.vm ∧ U.heap = h0) (fun _ _ _ _ _ => True) (fun _ U o U' => ∃ v L, o = .returned v ∧ QEAR1 a1 a2 q4 q5 w2 w3 h0 n0 Z v U'.heap L ∧ FrameEnd U o U' L ({ frames := 0, cells := 0, slots := 0, locals := 0 } : Room).cells ({ frames := 0, cells := 0, slots := 0, locals := 0 } : Room).slots) := by
  refine MetFree.of_bodySF (plainFor_of_name pn_1) hisR ?_
  intro p e s m args below meth c s₁ Bd hml0 hP hK
  obtain ⟨rfl, hZ, hh⟩ := hP
  have hx := Bd.exec
  have hby := Bd.bytes
  have hml : c.maxLocals = 9 := hml0
  have hown : s.vm.findClass "com/example/unutkan/unutkan/core/FixedExpiration" = some m.cls := findClass_of_methodNamed Bd.named
  have hnm := (name_of_methodNamed Bd.named Bd.method).1
  have hlk := Bd.notSynchronized
  have hrt := Bd.returns
  have X0 : Stand p l e ({ frames := 0, cells := 0, slots := 0, locals := 0 } : Room) s m #[(.ref a1), (.ref a2), .null, (.long q4), (.long q5)] below meth c s₁ [] 0 0 := Stand.of_body Bd
  have e0 : s₁.heap = h0 := by rw [← hh, Bd.state]; rfl
  have N0 := Fr.nil n0
  show own_Ends p e below s (QEAR1 a1 a2 q4 q5 w2 w3 h0 n0 Z) ({ frames := 0, cells := 0, slots := 0, locals := 0 } : Room).cells ({ frames := 0, cells := 0, slots := 0, locals := 0 } : Room).slots (s₁.setTop (entryFrame m #[(.ref a1), (.ref a2), .null, (.long q4), (.long q5)] 9))
  rw [ef_EAR1]
  refine own_go (fun _ k => XS.aloadN X0.here hx rfl (hb hby d10_0) rfl rfl <| k) ?_
  show own_Ends p e below s _ _ _ (s₁.setTop (mkF m 1 #[.val (.ref a1), .val (.ref a2), .val .null, .val (.long q4), .second, .val (.long q5), .second, .unset, .unset] [(.ref a1)]))
  obtain ⟨T1, X1, e1, st1⟩ := getF X0 hx hZ hown (host := "") (Or.inl (hw _ (List.mem_of_getElem? (i := 22) rfl))) Via.refl e0 F2 (g := (mkF m 1 #[.val (.ref a1), .val (.ref a2), .val .null, .val (.long q4), .second, .val (.long q5), .second, .unset, .unset] [(.ref a1)])) rfl rfl (hb hby d10_1)
  refine own_go st1 ?_
  show own_Ends p e below s _ _ _ (T1.setTop (mkF m 4 #[.val (.ref a1), .val (.ref a2), .val .null, .val (.long q4), .second, .val (.long q5), .second, .unset, .unset] [(.int (1 : Int32))]))
  refine own_go (fun _ k => XS.ifYes X1.here hx rfl (pc0 := 4) (pc' := 15) rfl (hb hby d10_4) rfl ((if0 _ _).trans (feq (by decide)).2) (by decide) (by decide) <| XS.aloadN X1.here hx rfl (hb hby d10_15) rfl rfl <| k) ?_
  show own_Ends p e below s _ _ _ (T1.setTop (mkF m 16 #[.val (.ref a1), .val (.ref a2), .val .null, .val (.long q4), .second, .val (.long q5), .second, .unset, .unset] [(.ref a2)]))
  obtain ⟨T2, X2, e2, st2⟩ := castY X1 hx hZ hown (hw _ (List.mem_of_getElem? (i := 62) rfl)) e1 (Ins.self E2) (g := (mkF m 16 #[.val (.ref a1), .val (.ref a2), .val .null, .val (.long q4), .second, .val (.long q5), .second, .unset, .unset] [(.ref a2)])) rfl rfl (hb hby d10_16)
  refine own_go st2 ?_
  show own_Ends p e below s _ _ _ (T2.setTop (mkF m 19 #[.val (.ref a1), .val (.ref a2), .val .null, .val (.long q4), .second, .val (.long q5), .second, .unset, .unset] [(.ref a2)]))
  obtain ⟨T3, X3, e3, st3⟩ := getF X2 hx hZ hown (host := "") (Or.inl (hw _ (List.mem_of_getElem? (i := 73) rfl))) Via.refl e2 F3 (g := (mkF m 19 #[.val (.ref a1), .val (.ref a2), .val .null, .val (.long q4), .second, .val (.long q5), .second, .unset, .unset] [(.ref a2)])) rfl rfl (hb hby d10_19)
  refine own_go st3 ?_
  show own_Ends p e below s _ _ _ (T3.setTop (mkF m 22 #[.val (.ref a1), .val (.ref a2), .val .null, .val (.long q4), .second, .val (.long q5), .second, .unset, .unset] [(.long w3)]))
  refine own_go (fun _ k => XS.lstore X3.here hx rfl (hb hby d10_22) rfl (l' := #[.val (.ref a1), .val (.ref a2), .val .null, .val (.long q4), .second, .val (.long q5), .second, .val (.long w3), .second]) rfl <| XS.lload X3.here hx rfl (hb hby d10_24) rfl <| XS.lload X3.here hx rfl (hb hby d10_26) rfl <| XS.lsub X3.here hx rfl (hb hby d10_28) rfl <| XS.aloadN X3.here hx rfl (hb hby d10_29) rfl rfl <| k) ?_
  show own_Ends p e below s _ _ _ (T3.setTop (mkF m 30 #[.val (.ref a1), .val (.ref a2), .val .null, .val (.long q4), .second, .val (.long q5), .second, .val (.long w3), .second] [(.ref a1), (.long (w3 - q5))]))
  obtain ⟨T4, X4, e4, st4⟩ := getF X3 hx hZ hown (host := "") (Or.inl (hw _ (List.mem_of_getElem? (i := 17) rfl))) Via.refl e3 F1 (g := (mkF m 30 #[.val (.ref a1), .val (.ref a2), .val .null, .val (.long q4), .second, .val (.long q5), .second, .val (.long w3), .second] [(.ref a1), (.long (w3 - q5))])) rfl rfl (hb hby d10_30)
  refine own_go st4 ?_
  show own_Ends p e below s _ _ _ (T4.setTop (mkF m 33 #[.val (.ref a1), .val (.ref a2), .val .null, .val (.long q4), .second, .val (.long q5), .second, .val (.long w3), .second] [(.long w2), (.long (w3 - q5))]))
  refine own_go (fun _ k => XS.lcmp X4.here hx rfl (hb hby d10_33) rfl <| k) ?_
  show own_Ends p e below s _ _ _ (T4.setTop (mkF m 34 #[.val (.ref a1), .val (.ref a2), .val .null, .val (.long q4), .second, .val (.long q5), .second, .val (.long w3), .second] [(.int (lcmpW (w3 - q5) w2))]))
  by_cases hc34_5 : w2 < (w3 - q5)
  · -- true
    refine own_go (fun _ k => XS.ifYes X4.here hx rfl (pc0 := 34) (pc' := 42) rfl (hb hby d10_34) rfl ((if0 _ _).trans (tlt ((lw_gt _ _).mpr hc34_5)).2.2.1) (by decide) (by decide) <| XS.lload X4.here hx rfl (hb hby d10_42) rfl <| XS.aloadN X4.here hx rfl (hb hby d10_44) rfl rfl <| k) ?_
    show own_Ends p e below s _ _ _ (T4.setTop (mkF m 45 #[.val (.ref a1), .val (.ref a2), .val .null, .val (.long q4), .second, .val (.long q5), .second, .val (.long w3), .second] [(.ref a1), (.long q5)]))
    obtain ⟨T6, X6, e6, st6⟩ := getF X4 hx hZ hown (host := "") (Or.inl (hw _ (List.mem_of_getElem? (i := 17) rfl))) Via.refl e4 F1 (g := (mkF m 45 #[.val (.ref a1), .val (.ref a2), .val .null, .val (.long q4), .second, .val (.long q5), .second, .val (.long w3), .second] [(.ref a1), (.long q5)])) rfl rfl (hb hby d10_45)
    refine own_go st6 ?_
    show own_Ends p e below s _ _ _ (T6.setTop (mkF m 48 #[.val (.ref a1), .val (.ref a2), .val .null, .val (.long q4), .second, .val (.long q5), .second, .val (.long w3), .second] [(.long w2), (.long q5)]))
    refine own_go (fun _ k => XS.ladd X6.here hx rfl (hb hby d10_48) rfl <| k) ?_
    show own_Ends p e below s _ _ _ (T6.setTop (mkF m 49 #[.val (.ref a1), .val (.ref a2), .val .null, .val (.long q4), .second, .val (.long q5), .second, .val (.long w3), .second] [(.long (q5 + w2))]))
    exact own_ret X6 hx hrt rfl (Or.inr (Or.inl ⟨rfl, rfl, _, rfl⟩)) (hb hby d10_49) hlk (by rw [e6]; exact ⟨by unfold own_ear; rw [if_pos hc34_5], N0, rfl⟩) (by decide) (by decide)
  · -- false
    refine own_go (fun _ k => XS.ifNo X4.here hx rfl (hb hby d10_34) rfl ((if0 _ _).trans (flt (fun q => hc34_5 ((lw_gt _ _).mp q))).2.2.1) <| XS.lload X4.here hx rfl (hb hby d10_37) rfl <| XS.goto X4.here hx rfl (pc0 := 39) (pc' := 49) rfl (hb hby d10_39) (by decide) (by decide) <| k) ?_
    show own_Ends p e below s _ _ _ (T4.setTop (mkF m 49 #[.val (.ref a1), .val (.ref a2), .val .null, .val (.long q4), .second, .val (.long q5), .second, .val (.long w3), .second] [(.long w3)]))
    exact own_ret X4 hx hrt rfl (Or.inr (Or.inl ⟨rfl, rfl, _, rfl⟩)) (hb hby d10_49) hlk (by rw [e4]; exact ⟨by unfold own_ear; rw [if_neg hc34_5], N0, rfl⟩) (by decide) (by decide)
theorem ef_0 (m : MethodId) (x0 : Int64) (x1 : Int64) (x2 : Int64) (x3 : Int64) (x4 : Int32) : entryFrame m #[(.long x0), (.long x1), (.long x2), (.long x3), (.int x4)] maxLocals = mkF m 0 #[.val (.long x0), .second, .val (.long x1), .second, .val (.long x2), .second, .val (.long x3), .second, .val (.int x4), .unset, .unset, .unset, .unset, .unset, .unset, .unset, .unset, .unset, .unset, .unset, .unset, .unset, .unset, .unset, .unset, .unset, .unset, .unset, .unset, .unset] [] := by first | (simp [entryFrame, mkF, argsToLocals, Value.category, maxLocals]; done) | rfl
def Q0 (q1 : Int64) (q2 : Int64) (q3 : Int64) (q4 : Int64) (p5 : Int32) (h0 : Heap) (n0 : Nat) (Z : State) (v : Option Value) (h : Heap) (L : List Loc) : Prop := v = some (.int 1) ∧ Fr n0 L
set_option maxRecDepth 65536 in
set_option maxHeartbeats 40000000 in
theorem rm0 (l : Launch) (Z : State) (a0 : Array Value) (hw : ∀ d ∈ tables_1, d.before a0 Z = true) (ws : List Jvm.Cond) (q1 : Int64) (q2 : Int64) (q3 : Int64) (q4 : Int64) (p5 : Int32) (h0 : Heap) (n0 : Nat) (Z0 : n0 ≤ h0.size) :
    MetFree l x (head1 (Jvm.Cond.code x code maxLocals ret :: ws) room_1) (fun a U => a = #[(.long q1), (.long q2), (.long q3), (.long q4), (.int p5)] ∧ Z.Warmed39 U.vm ∧ U.heap = h0) (fun _ _ _ _ _ => True) (fun _ U o U' => ∃ v L, o = .returned v ∧ Q0 q1 q2 q3 q4 p5 h0 n0 Z v U'.heap L ∧ FrameEnd U o U' L room_1.cells room_1.slots) := by
  refine MetFree.of_bodySF (plainFor_of_name pn_0) hisR ?_
  intro p e s m args below meth c s₁ Bd hml0 hP hK
  obtain ⟨rfl, hZ, hh⟩ := hP
  have hx := Bd.exec
  have hby := Bd.bytes
  have hml : c.maxLocals = 30 := hml0
  have hown : s.vm.findClass "com/example/unutkan/unutkan/core/FixedExpirationExpiresAtAfterReadPinLaw" = some m.cls := findClass_of_methodNamed Bd.named
  have hnm := (name_of_methodNamed Bd.named Bd.method).1
  have hlk := Bd.notSynchronized
  have hrt := Bd.returns
  have X0 : Stand p l e room_1 s m #[(.long q1), (.long q2), (.long q3), (.long q4), (.int p5)] below meth c s₁ [] 0 0 := Stand.of_body Bd
  have e0 : s₁.heap = h0 := by rw [← hh, Bd.state]; rfl
  have N0 := Fr.nil n0
  show own_Ends p e below s (Q0 q1 q2 q3 q4 p5 h0 n0 Z) room_1.cells room_1.slots (s₁.setTop (entryFrame m #[(.long q1), (.long q2), (.long q3), (.long q4), (.int p5)] maxLocals))
  rw [ef_0]
  refine own_go (fun _ k => XS.iload X0.here hx rfl (hb hby at_0) rfl <| XT.iconstV X0.here hx rfl (1 : Int32) (hb hby at_2) rfl <| XS.iand X0.here hx rfl (hb hby at_3) rfl <| k) ?_
  show own_Ends p e below s _ _ _ (s₁.setTop (mkF m 4 #[.val (.long q1), .second, .val (.long q2), .second, .val (.long q3), .second, .val (.long q4), .second, .val (.int p5), .unset, .unset, .unset, .unset, .unset, .unset, .unset, .unset, .unset, .unset, .unset, .unset, .unset, .unset, .unset, .unset, .unset, .unset, .unset, .unset, .unset] [(.int (p5 &&& (1 : Int32)))]))
  by_cases hc4_1 : (p5 &&& (1 : Int32)) = (0 : Int32)
  · -- true
    refine own_go (fun _ k => XS.ifNo X0.here hx rfl (hb hby at_4) rfl ((if0 _ _).trans (teq hc4_1).2) <| XT.iconstV X0.here hx rfl (1 : Int32) (hb hby at_7) rfl <| XS.goto X0.here hx rfl (pc0 := 8) (pc' := 12) rfl (hb hby at_8) (by decide) (by decide) <| XS.istore X0.here hx rfl (hb hby at_12) rfl (l' := #[.val (.long q1), .second, .val (.long q2), .second, .val (.long q3), .second, .val (.long q4), .second, .val (.int p5), .val (.int (1 : Int32)), .unset, .unset, .unset, .unset, .unset, .unset, .unset, .unset, .unset, .unset, .unset, .unset, .unset, .unset, .unset, .unset, .unset, .unset, .unset, .unset]) rfl <| XS.lload X0.here hx rfl (hb hby at_14) rfl <| k) ?_
    show own_Ends p e below s _ _ _ (s₁.setTop (mkF m 16 #[.val (.long q1), .second, .val (.long q2), .second, .val (.long q3), .second, .val (.long q4), .second, .val (.int p5), .val (.int (1 : Int32)), .unset, .unset, .unset, .unset, .unset, .unset, .unset, .unset, .unset, .unset, .unset, .unset, .unset, .unset, .unset, .unset, .unset, .unset, .unset, .unset] [(.long q4)]))
    obtain ⟨_, _, ⟨T2, L2, k2, n2⟩, -, X2, ⟨Lc2, hQ2, l2, y2, z2⟩, st2⟩ := Jvm.LawKit.callS X0 hx (y := (⟨"com/example/unutkan/unutkan/core/FixedExpirationExpiresAtAfterReadPinLaw", "lifetime", "(J)J"⟩ : MethodName)) hown (mvT hZ (hw _ (List.mem_of_getElem? (i := 0) rfl))) (mvT hZ (hw _ (List.mem_of_getElem? (i := 1) rfl))) (mvT hZ (hw _ (List.mem_of_getElem? (i := 2) rfl))) (mvT hZ (hw _ (List.mem_of_getElem? (i := 3) rfl))) (by decide) (backOf (W := 0) (rm1 l Z a0 hw [] q4 h0 n0 Z0) hZ (hw _ (List.mem_of_getElem? (i := 3) rfl)) (hw _ (List.mem_of_getElem? (i := 2) rfl)) (by decide) (by decide)) (g := (mkF m 16 #[.val (.long q1), .second, .val (.long q2), .second, .val (.long q3), .second, .val (.long q4), .second, .val (.int p5), .val (.int (1 : Int32)), .unset, .unset, .unset, .unset, .unset, .unset, .unset, .unset, .unset, .unset, .unset, .unset, .unset, .unset, .unset, .unset, .unset, .unset, .unset, .unset] [(.long q4)])) rfl (by rw [hml]; rfl) (argsL := [(.long q4)]) (rest := []) (lenOf pd_0 rfl) rfl (by show 2 * 0 + _ ≤ _; exact Nat.le_of_eq rfl) (hb hby at_16) (fun _ _ => ⟨rfl, e0, Nat.le_of_ble_eq_true rfl, Nat.le_of_ble_eq_true rfl⟩)
    dsimp only [Pt.U, Pt.locs, Pt.cells, Pt.slots] at X2 l2 y2 z2 st2 hQ2
    subst l2 y2 z2
    obtain ⟨rfl, N2q, e2⟩ := hQ2
    have N2 := Fr.app N0 N2q
    refine own_go (fun _ k => st2 _ k) ?_
    show own_Ends p e below s _ _ _ (T2.setTop (mkF m 19 #[.val (.long q1), .second, .val (.long q2), .second, .val (.long q3), .second, .val (.long q4), .second, .val (.int p5), .val (.int (1 : Int32)), .unset, .unset, .unset, .unset, .unset, .unset, .unset, .unset, .unset, .unset, .unset, .unset, .unset, .unset, .unset, .unset, .unset, .unset, .unset, .unset] [(.long (own_life q4))]))
    refine own_go (fun _ k => XS.lstore X2.here hx rfl (hb hby at_19) rfl (l' := #[.val (.long q1), .second, .val (.long q2), .second, .val (.long q3), .second, .val (.long q4), .second, .val (.int p5), .val (.int (1 : Int32)), .val (.long (own_life q4)), .second, .unset, .unset, .unset, .unset, .unset, .unset, .unset, .unset, .unset, .unset, .unset, .unset, .unset, .unset, .unset, .unset, .unset, .unset]) rfl <| XS.iload X2.here hx rfl (hb hby at_21) rfl <| XS.ifNo X2.here hx rfl (hb hby at_23) rfl ((if0 _ _).trans (feq (by decide)).1) <| XS.lload X2.here hx rfl (hb hby at_26) rfl <| k) ?_
    show own_Ends p e below s _ _ _ (T2.setTop (mkF m 28 #[.val (.long q1), .second, .val (.long q2), .second, .val (.long q3), .second, .val (.long q4), .second, .val (.int p5), .val (.int (1 : Int32)), .val (.long (own_life q4)), .second, .unset, .unset, .unset, .unset, .unset, .unset, .unset, .unset, .unset, .unset, .unset, .unset, .unset, .unset, .unset, .unset, .unset, .unset] [(.long q3)]))
    obtain ⟨_, _, ⟨T3, L3, k3, n3⟩, -, X3, ⟨Lc3, hQ3, l3, y3, z3⟩, st3⟩ := Jvm.LawKit.callS X2 hx (y := (⟨"com/example/unutkan/unutkan/core/FixedExpirationExpiresAtAfterReadPinLaw", "lifetime", "(J)J"⟩ : MethodName)) hown (mvT hZ (hw _ (List.mem_of_getElem? (i := 0) rfl))) (mvT hZ (hw _ (List.mem_of_getElem? (i := 1) rfl))) (mvT hZ (hw _ (List.mem_of_getElem? (i := 2) rfl))) (mvT hZ (hw _ (List.mem_of_getElem? (i := 3) rfl))) (by decide) (backOf (W := 0) (rm1 l Z a0 hw [] q3 h0 n0 Z0) hZ (hw _ (List.mem_of_getElem? (i := 3) rfl)) (hw _ (List.mem_of_getElem? (i := 2) rfl)) (by decide) (by decide)) (g := (mkF m 28 #[.val (.long q1), .second, .val (.long q2), .second, .val (.long q3), .second, .val (.long q4), .second, .val (.int p5), .val (.int (1 : Int32)), .val (.long (own_life q4)), .second, .unset, .unset, .unset, .unset, .unset, .unset, .unset, .unset, .unset, .unset, .unset, .unset, .unset, .unset, .unset, .unset, .unset, .unset] [(.long q3)])) rfl (by rw [hml]; rfl) (argsL := [(.long q3)]) (rest := []) (lenOf pd_0 rfl) rfl (by show 2 * 0 + _ ≤ _; exact Nat.le_of_eq rfl) (hb hby at_28) (fun _ _ => ⟨rfl, e2, Nat.le_of_ble_eq_true rfl, Nat.le_of_ble_eq_true rfl⟩)
    dsimp only [Pt.U, Pt.locs, Pt.cells, Pt.slots] at X3 l3 y3 z3 st3 hQ3
    subst l3 y3 z3
    obtain ⟨rfl, N3q, e3⟩ := hQ3
    have N3 := Fr.app N2 N3q
    refine own_go (fun _ k => st3 _ k) ?_
    show own_Ends p e below s _ _ _ (T3.setTop (mkF m 31 #[.val (.long q1), .second, .val (.long q2), .second, .val (.long q3), .second, .val (.long q4), .second, .val (.int p5), .val (.int (1 : Int32)), .val (.long (own_life q4)), .second, .unset, .unset, .unset, .unset, .unset, .unset, .unset, .unset, .unset, .unset, .unset, .unset, .unset, .unset, .unset, .unset, .unset, .unset] [(.long (own_life q3))]))
    refine own_go (fun _ k => XS.goto X3.here hx rfl (pc0 := 31) (pc' := 37) rfl (hb hby at_31) (by decide) (by decide) <| XS.lstore X3.here hx rfl (hb hby at_37) rfl (l' := #[.val (.long q1), .second, .val (.long q2), .second, .val (.long q3), .second, .val (.long q4), .second, .val (.int p5), .val (.int (1 : Int32)), .val (.long (own_life q4)), .second, .val (.long (own_life q3)), .second, .unset, .unset, .unset, .unset, .unset, .unset, .unset, .unset, .unset, .unset, .unset, .unset, .unset, .unset, .unset, .unset]) rfl <| XS.lloadN X3.here hx rfl (hb hby at_39) rfl <| X3.ldc2J hx hown (mvT hZ (hw _ (List.mem_of_getElem? (i := 4) rfl))) rfl (hb hby at_40) <| XS.land X3.here hx rfl (hb hby at_43) rfl <| XS.lstore X3.here hx rfl (hb hby at_44) rfl (l' := #[.val (.long q1), .second, .val (.long q2), .second, .val (.long q3), .second, .val (.long q4), .second, .val (.int p5), .val (.int (1 : Int32)), .val (.long (own_life q4)), .second, .val (.long (own_life q3)), .second, .val (.long (q2 &&& (9223372036854775807 : Int64))), .second, .unset, .unset, .unset, .unset, .unset, .unset, .unset, .unset, .unset, .unset, .unset, .unset, .unset, .unset]) rfl <| XS.lloadN X3.here hx rfl (hb hby at_46) rfl <| XS.lload X3.here hx rfl (hb hby at_47) rfl <| XS.ladd X3.here hx rfl (hb hby at_49) rfl <| XS.lstore X3.here hx rfl (hb hby at_50) rfl (l' := #[.val (.long q1), .second, .val (.long q2), .second, .val (.long q3), .second, .val (.long q4), .second, .val (.int p5), .val (.int (1 : Int32)), .val (.long (own_life q4)), .second, .val (.long (own_life q3)), .second, .val (.long (q2 &&& (9223372036854775807 : Int64))), .second, .val (.long (q1 + (q2 &&& (9223372036854775807 : Int64)))), .second, .unset, .unset, .unset, .unset, .unset, .unset, .unset, .unset, .unset, .unset, .unset, .unset]) rfl <| k) ?_
    show own_Ends p e below s _ _ _ (T3.setTop (mkF m 52 #[.val (.long q1), .second, .val (.long q2), .second, .val (.long q3), .second, .val (.long q4), .second, .val (.int p5), .val (.int (1 : Int32)), .val (.long (own_life q4)), .second, .val (.long (own_life q3)), .second, .val (.long (q2 &&& (9223372036854775807 : Int64))), .second, .val (.long (q1 + (q2 &&& (9223372036854775807 : Int64)))), .second, .unset, .unset, .unset, .unset, .unset, .unset, .unset, .unset, .unset, .unset, .unset, .unset] []))
    obtain ⟨T4, h4, X4, e4, E4, A4, D4, -, st4⟩ := newO X3 hx hZ hown (hw _ (List.mem_of_getElem? (i := 6) rfl)) (hw _ (List.mem_of_getElem? (i := 7) rfl)) (hw _ (List.mem_of_getElem? (i := 8) rfl)) e3 (g := (mkF m 52 #[.val (.long q1), .second, .val (.long q2), .second, .val (.long q3), .second, .val (.long q4), .second, .val (.int p5), .val (.int (1 : Int32)), .val (.long (own_life q4)), .second, .val (.long (own_life q3)), .second, .val (.long (q2 &&& (9223372036854775807 : Int64))), .second, .val (.long (q1 + (q2 &&& (9223372036854775807 : Int64)))), .second, .unset, .unset, .unset, .unset, .unset, .unset, .unset, .unset, .unset, .unset, .unset, .unset] [])) rfl (hb hby at_52) (by decide) (by decide)
    obtain ⟨b4, g4⟩ : ∃ z, z = h0.size := ⟨_, rfl⟩
    rw [← g4] at A4 D4 st4
    refine own_go st4 ?_
    have g_b4 : n0 ≤ b4 := Nat.le_trans Z0 (Nat.le_of_eq g4.symm)
    have Z4 := Nat.le_trans Z0 E4.1
    have F_afterWrite_b4 : Fld Z h4 b4 "com/example/unutkan/unutkan/core/FixedExpiration" "afterWrite" "J" (.long (0 : Int64)) := D4 (Or.inr (hw _ (List.mem_of_getElem? (i := 16) rfl))) (ty := .long) (by decide)
    have F_afterAccess_b4 : Fld Z h4 b4 "com/example/unutkan/unutkan/core/FixedExpiration" "afterAccess" "J" (.long (0 : Int64)) := D4 (Or.inr (hw _ (List.mem_of_getElem? (i := 18) rfl))) (ty := .long) (by decide)
    have F_jitter_b4 : Fld Z h4 b4 "com/example/unutkan/unutkan/core/FixedExpiration" "jitter" "D" (.double (0 : UInt64)) := D4 (Or.inr (hw _ (List.mem_of_getElem? (i := 20) rfl))) (ty := .double) (by decide)
    have F_boundByBoth_b4 : Fld Z h4 b4 "com/example/unutkan/unutkan/core/FixedExpiration" "boundByBoth" "Z" (.int (0 : Int32)) := D4 (Or.inr (hw _ (List.mem_of_getElem? (i := 23) rfl))) (ty := .boolean) (by decide)
    show own_Ends p e below s _ _ _ (T4.setTop (mkF m 55 #[.val (.long q1), .second, .val (.long q2), .second, .val (.long q3), .second, .val (.long q4), .second, .val (.int p5), .val (.int (1 : Int32)), .val (.long (own_life q4)), .second, .val (.long (own_life q3)), .second, .val (.long (q2 &&& (9223372036854775807 : Int64))), .second, .val (.long (q1 + (q2 &&& (9223372036854775807 : Int64)))), .second, .unset, .unset, .unset, .unset, .unset, .unset, .unset, .unset, .unset, .unset, .unset, .unset] [(.ref b4)]))
    refine own_go (fun _ k => XS.dup X4.here hx rfl (hb hby at_55) rfl rfl <| XS.lload X4.here hx rfl (hb hby at_56) rfl <| XS.lload X4.here hx rfl (hb hby at_58) rfl <| XS.dconst0 X4.here hx rfl (v := (0 : UInt64)) (hb hby at_60) rfl <| k) ?_
    show own_Ends p e below s _ _ _ (T4.setTop (mkF m 61 #[.val (.long q1), .second, .val (.long q2), .second, .val (.long q3), .second, .val (.long q4), .second, .val (.int p5), .val (.int (1 : Int32)), .val (.long (own_life q4)), .second, .val (.long (own_life q3)), .second, .val (.long (q2 &&& (9223372036854775807 : Int64))), .second, .val (.long (q1 + (q2 &&& (9223372036854775807 : Int64)))), .second, .unset, .unset, .unset, .unset, .unset, .unset, .unset, .unset, .unset, .unset, .unset, .unset] [(.double (0 : UInt64)), (.long (own_life q4)), (.long (own_life q3)), (.ref b4), (.ref b4)]))
    obtain ⟨_, _, ⟨T5, L5, k5, n5⟩, -, X5, ⟨Lc5, hQ5, l5, y5, z5⟩, st5⟩ := X4.specialBack hx (y := (⟨"com/example/unutkan/unutkan/core/FixedExpiration", "<init>", "(JJD)V"⟩ : MethodName)) rfl hown (mvT hZ (hw _ (List.mem_of_getElem? (i := 9) rfl))) (mvT hZ (hw _ (List.mem_of_getElem? (i := 10) rfl))) (mvT hZ (hw _ (List.mem_of_getElem? (i := 11) rfl))) (by decide) (backOf (W := 1) (rm2 l Z a0 hw [] b4 (own_life q3) (own_life q4) (0 : UInt64)  h4 n0 Z4 A4 F_afterWrite_b4 F_afterAccess_b4 F_jitter_b4 F_boundByBoth_b4 g_b4 ) hZ (hw _ (List.mem_of_getElem? (i := 11) rfl)) (hw _ (List.mem_of_getElem? (i := 8) rfl)) (by decide) (by decide)) (g := (mkF m 61 #[.val (.long q1), .second, .val (.long q2), .second, .val (.long q3), .second, .val (.long q4), .second, .val (.int p5), .val (.int (1 : Int32)), .val (.long (own_life q4)), .second, .val (.long (own_life q3)), .second, .val (.long (q2 &&& (9223372036854775807 : Int64))), .second, .val (.long (q1 + (q2 &&& (9223372036854775807 : Int64)))), .second, .unset, .unset, .unset, .unset, .unset, .unset, .unset, .unset, .unset, .unset, .unset, .unset] [(.double (0 : UInt64)), (.long (own_life q4)), (.long (own_life q3)), (.ref b4), (.ref b4)])) rfl (by rw [hml]; rfl) (Steps.refl _) (a := b4) (argsL := [(.long (own_life q3)), (.long (own_life q4)), (.double (0 : UInt64))]) (rest := [(.ref b4)]) (lenOf pd_1 rfl) rfl (by show 2 * 0 + _ ≤ _; exact Nat.le_of_eq rfl) (hb hby at_61) (fun _ _ => ⟨rfl, e4, Nat.le_of_ble_eq_true rfl, Nat.le_of_ble_eq_true rfl⟩)
    dsimp only [Pt.U, Pt.locs, Pt.cells, Pt.slots] at X5 l5 y5 z5 st5 hQ5
    subst l5 y5 z5
    obtain ⟨rfl, N5q, K5, Fc05, Fc15, Fc25, Fc35⟩ := hQ5
    have N5 := Fr.app N3 N5q
    refine own_go (fun _ k => st5.trans k) ?_
    have A4'5 := A4.keep K5
    have Z5 := Nat.le_trans Z4 K5.1
    show own_Ends p e below s _ _ _ (T5.setTop (mkF m 64 #[.val (.long q1), .second, .val (.long q2), .second, .val (.long q3), .second, .val (.long q4), .second, .val (.int p5), .val (.int (1 : Int32)), .val (.long (own_life q4)), .second, .val (.long (own_life q3)), .second, .val (.long (q2 &&& (9223372036854775807 : Int64))), .second, .val (.long (q1 + (q2 &&& (9223372036854775807 : Int64)))), .second, .unset, .unset, .unset, .unset, .unset, .unset, .unset, .unset, .unset, .unset, .unset, .unset] [(.ref b4)]))
    have Fbb : Fld Z T5.heap b4 "com/example/unutkan/unutkan/core/FixedExpiration" "boundByBoth" "Z" (.int (1 : Int32)) := by have q := Fc35; rw [show (nar .boolean (own_bb (own_life q3) (own_life q4))) = (1 : Int32) from by unfold own_bb; rw [if_neg (own_life_ne _), if_neg (own_life_ne _)]; decide] at q; exact q
    refine own_go (fun _ k => XS.astore X5.here hx rfl (hb hby at_64) rfl rfl (l' := #[.val (.long q1), .second, .val (.long q2), .second, .val (.long q3), .second, .val (.long q4), .second, .val (.int p5), .val (.int (1 : Int32)), .val (.long (own_life q4)), .second, .val (.long (own_life q3)), .second, .val (.long (q2 &&& (9223372036854775807 : Int64))), .second, .val (.long (q1 + (q2 &&& (9223372036854775807 : Int64)))), .second, .val (.ref b4), .unset, .unset, .unset, .unset, .unset, .unset, .unset, .unset, .unset, .unset, .unset]) rfl <| XS.aload X5.here hx rfl (hb hby at_66) rfl rfl <| XS.aconstNull X5.here hx rfl (hb hby at_68) <| XS.aconstNull X5.here hx rfl (hb hby at_69) <| k) ?_
    show own_Ends p e below s _ _ _ (T5.setTop (mkF m 70 #[.val (.long q1), .second, .val (.long q2), .second, .val (.long q3), .second, .val (.long q4), .second, .val (.int p5), .val (.int (1 : Int32)), .val (.long (own_life q4)), .second, .val (.long (own_life q3)), .second, .val (.long (q2 &&& (9223372036854775807 : Int64))), .second, .val (.long (q1 + (q2 &&& (9223372036854775807 : Int64)))), .second, .val (.ref b4), .unset, .unset, .unset, .unset, .unset, .unset, .unset, .unset, .unset, .unset, .unset] [.null, .null, (.ref b4)]))
    obtain ⟨cq6, kq6, q6a, q6b, q6c⟩ := isOf hZ rfl A4'5
    obtain ⟨_, _, ⟨T6, L6, k6, n6⟩, -, X6, ⟨Lc6, hQ6, l6, y6, z6⟩, st6⟩ := X5.virtualBack hx (y := (⟨"com/example/unutkan/unutkan/core/FixedExpiration", "newNode", "(Ljava/lang/Object;Ljava/lang/Object;)Lcom/example/unutkan/unutkan/core/Node;"⟩ : MethodName)) (z := (⟨"com/example/unutkan/unutkan/core/FixedExpiration", "newNode", "(Ljava/lang/Object;Ljava/lang/Object;)Lcom/example/unutkan/unutkan/core/Node;"⟩ : MethodName)) hown (mvT hZ (hw _ (List.mem_of_getElem? (i := 24) rfl))) (mvT hZ (hw _ (List.mem_of_getElem? (i := 25) rfl))) (notFace_of_selects (args := #[]) (mvT hZ (hw _ (List.mem_of_getElem? (i := 27) rfl)))) (mvT hZ (hw _ (List.mem_of_getElem? (i := 27) rfl))) (mvT hZ (hw _ (List.mem_of_getElem? (i := 26) rfl))) (by decide) (backOf (W := 0) (rmNNW l Z a0 hw [] b4 T5.heap n0 Z5 Fbb) hZ (hw _ (List.mem_of_getElem? (i := 28) rfl)) (hw _ (List.mem_of_getElem? (i := 8) rfl)) (by decide) (by decide)) q6a q6c (g := (mkF m 70 #[.val (.long q1), .second, .val (.long q2), .second, .val (.long q3), .second, .val (.long q4), .second, .val (.int p5), .val (.int (1 : Int32)), .val (.long (own_life q4)), .second, .val (.long (own_life q3)), .second, .val (.long (q2 &&& (9223372036854775807 : Int64))), .second, .val (.long (q1 + (q2 &&& (9223372036854775807 : Int64)))), .second, .val (.ref b4), .unset, .unset, .unset, .unset, .unset, .unset, .unset, .unset, .unset, .unset, .unset] [.null, .null, (.ref b4)])) rfl (by rw [hml]; rfl) (Steps.refl _) (argsL := [.null, .null]) (rest := []) (lenOf pd_3 rfl) rfl (by show 2 * 0 + _ ≤ _; exact Nat.le_of_eq rfl) (hb hby at_70) (fun _ _ => ⟨rfl, rfl, Nat.le_of_ble_eq_true rfl, Nat.le_of_ble_eq_true rfl⟩)
    dsimp only [Pt.U, Pt.locs, Pt.cells, Pt.slots] at X6 l6 y6 z6 st6 hQ6
    subst l6 y6 z6
    obtain ⟨b6, rfl, N6q, K6, g6, sz6, Eb6, Fw6⟩ := hQ6
    have N6 := Fr.app N5 N6q
    refine own_go (fun _ k => st6.trans k) ?_
    have A4'6 := A4'5.keep K6
    have Fc05'6 := Fc05.keep K6 nin0
    have Fc15'6 := Fc15.keep K6 nin0
    have Fc25'6 := Fc25.keep K6 nin0
    have Fbb'6 := Fbb.keep K6 nin0
    have Z6 := Nat.le_trans Z5 K6.1
    show own_Ends p e below s _ _ _ (T6.setTop (mkF m 73 #[.val (.long q1), .second, .val (.long q2), .second, .val (.long q3), .second, .val (.long q4), .second, .val (.int p5), .val (.int (1 : Int32)), .val (.long (own_life q4)), .second, .val (.long (own_life q3)), .second, .val (.long (q2 &&& (9223372036854775807 : Int64))), .second, .val (.long (q1 + (q2 &&& (9223372036854775807 : Int64)))), .second, .val (.ref b4), .unset, .unset, .unset, .unset, .unset, .unset, .unset, .unset, .unset, .unset, .unset] [(.ref b6)]))
    have ne_b4_b6 : b4 ≠ b6 := Nat.ne_of_lt (Nat.lt_of_lt_of_le A4'5.lt sz6)
    refine own_go (fun _ k => XS.astore X6.here hx rfl (hb hby at_73) rfl rfl (l' := #[.val (.long q1), .second, .val (.long q2), .second, .val (.long q3), .second, .val (.long q4), .second, .val (.int p5), .val (.int (1 : Int32)), .val (.long (own_life q4)), .second, .val (.long (own_life q3)), .second, .val (.long (q2 &&& (9223372036854775807 : Int64))), .second, .val (.long (q1 + (q2 &&& (9223372036854775807 : Int64)))), .second, .val (.ref b4), .val (.ref b6), .unset, .unset, .unset, .unset, .unset, .unset, .unset, .unset, .unset, .unset]) rfl <| XS.aload X6.here hx rfl (hb hby at_75) rfl rfl <| XS.aload X6.here hx rfl (hb hby at_77) rfl rfl <| XS.lloadN X6.here hx rfl (hb hby at_79) rfl <| k) ?_
    show own_Ends p e below s _ _ _ (T6.setTop (mkF m 80 #[.val (.long q1), .second, .val (.long q2), .second, .val (.long q3), .second, .val (.long q4), .second, .val (.int p5), .val (.int (1 : Int32)), .val (.long (own_life q4)), .second, .val (.long (own_life q3)), .second, .val (.long (q2 &&& (9223372036854775807 : Int64))), .second, .val (.long (q1 + (q2 &&& (9223372036854775807 : Int64)))), .second, .val (.ref b4), .val (.ref b6), .unset, .unset, .unset, .unset, .unset, .unset, .unset, .unset, .unset, .unset] [(.long q1), (.ref b6), (.ref b4)]))
    obtain ⟨cq7, kq7, q7a, q7b, q7c⟩ := isOf hZ rfl A4'6
    obtain ⟨_, _, ⟨T7, L7, k7, n7⟩, -, X7, ⟨Lc7, hQ7, l7, y7, z7⟩, st7⟩ := X6.virtualBack hx (y := (⟨"com/example/unutkan/unutkan/core/FixedExpiration", "lifetimeOfNew", "(Lcom/example/unutkan/unutkan/core/Node;J)J"⟩ : MethodName)) (z := (⟨"com/example/unutkan/unutkan/core/FixedExpiration", "lifetimeOfNew", "(Lcom/example/unutkan/unutkan/core/Node;J)J"⟩ : MethodName)) hown (mvT hZ (hw _ (List.mem_of_getElem? (i := 40) rfl))) (mvT hZ (hw _ (List.mem_of_getElem? (i := 41) rfl))) (notFace_of_selects (args := #[]) (mvT hZ (hw _ (List.mem_of_getElem? (i := 43) rfl)))) (mvT hZ (hw _ (List.mem_of_getElem? (i := 43) rfl))) (mvT hZ (hw _ (List.mem_of_getElem? (i := 42) rfl))) (by decide) (backOf (W := 0) (rmlifetimeOfNew1 l Z a0 hw [] b4 b6 q1 (own_life q3) (own_life q4) (0 : Int64) T6.heap n0 Z6 A4'6 Fc05'6 Fc15'6 Fc25'6 Fbb'6 Eb6 Fw6 g6 ne_b4_b6) hZ (hw _ (List.mem_of_getElem? (i := 44) rfl)) (hw _ (List.mem_of_getElem? (i := 8) rfl)) (by decide) (by decide)) q7a q7c (g := (mkF m 80 #[.val (.long q1), .second, .val (.long q2), .second, .val (.long q3), .second, .val (.long q4), .second, .val (.int p5), .val (.int (1 : Int32)), .val (.long (own_life q4)), .second, .val (.long (own_life q3)), .second, .val (.long (q2 &&& (9223372036854775807 : Int64))), .second, .val (.long (q1 + (q2 &&& (9223372036854775807 : Int64)))), .second, .val (.ref b4), .val (.ref b6), .unset, .unset, .unset, .unset, .unset, .unset, .unset, .unset, .unset, .unset] [(.long q1), (.ref b6), (.ref b4)])) rfl (by rw [hml]; rfl) (Steps.refl _) (argsL := [(.ref b6), (.long q1)]) (rest := []) (lenOf pd_5 rfl) rfl (by show 2 * 0 + _ ≤ _; exact Nat.le_of_eq rfl) (hb hby at_80) (fun _ _ => ⟨rfl, rfl, Nat.le_of_ble_eq_true rfl, Nat.le_of_ble_eq_true rfl⟩)
    dsimp only [Pt.U, Pt.locs, Pt.cells, Pt.slots] at X7 l7 y7 z7 st7 hQ7
    subst l7 y7 z7
    obtain ⟨rfl, N7q, K7, Fw7⟩ := hQ7
    have N7 := Fr.app N6 N7q
    refine own_go (fun _ k => st7.trans k) ?_
    have A4'7 := A4'6.keep K7
    have Fc05'7 := Fc05'6.keep K7 (ninS ne_b4_b6 nin0)
    have Fc15'7 := Fc15'6.keep K7 (ninS ne_b4_b6 nin0)
    have Fc25'7 := Fc25'6.keep K7 (ninS ne_b4_b6 nin0)
    have Fbb'7 := Fbb'6.keep K7 (ninS ne_b4_b6 nin0)
    have Eb6'7 := Eb6.keep K7
    have Z7 := Nat.le_trans Z6 K7.1
    show own_Ends p e below s _ _ _ (T7.setTop (mkF m 83 #[.val (.long q1), .second, .val (.long q2), .second, .val (.long q3), .second, .val (.long q4), .second, .val (.int p5), .val (.int (1 : Int32)), .val (.long (own_life q4)), .second, .val (.long (own_life q3)), .second, .val (.long (q2 &&& (9223372036854775807 : Int64))), .second, .val (.long (q1 + (q2 &&& (9223372036854775807 : Int64)))), .second, .val (.ref b4), .val (.ref b6), .unset, .unset, .unset, .unset, .unset, .unset, .unset, .unset, .unset, .unset] [(.long (own_minL (own_life q3) (own_life q4)))]))
    refine own_go (fun _ k => XS.lstore X7.here hx rfl (hb hby at_83) rfl (l' := #[.val (.long q1), .second, .val (.long q2), .second, .val (.long q3), .second, .val (.long q4), .second, .val (.int p5), .val (.int (1 : Int32)), .val (.long (own_life q4)), .second, .val (.long (own_life q3)), .second, .val (.long (q2 &&& (9223372036854775807 : Int64))), .second, .val (.long (q1 + (q2 &&& (9223372036854775807 : Int64)))), .second, .val (.ref b4), .val (.ref b6), .val (.long (own_minL (own_life q3) (own_life q4))), .second, .unset, .unset, .unset, .unset, .unset, .unset, .unset, .unset]) rfl <| XS.lloadN X7.here hx rfl (hb hby at_85) rfl <| XS.lload X7.here hx rfl (hb hby at_86) rfl <| XS.ladd X7.here hx rfl (hb hby at_88) rfl <| XS.lstore X7.here hx rfl (hb hby at_89) rfl (l' := #[.val (.long q1), .second, .val (.long q2), .second, .val (.long q3), .second, .val (.long q4), .second, .val (.int p5), .val (.int (1 : Int32)), .val (.long (own_life q4)), .second, .val (.long (own_life q3)), .second, .val (.long (q2 &&& (9223372036854775807 : Int64))), .second, .val (.long (q1 + (q2 &&& (9223372036854775807 : Int64)))), .second, .val (.ref b4), .val (.ref b6), .val (.long (own_minL (own_life q3) (own_life q4))), .second, .val (.long (q1 + (own_minL (own_life q3) (own_life q4)))), .second, .unset, .unset, .unset, .unset, .unset, .unset]) rfl <| XS.aload X7.here hx rfl (hb hby at_91) rfl rfl <| XS.aload X7.here hx rfl (hb hby at_93) rfl rfl <| XS.aconstNull X7.here hx rfl (hb hby at_95) <| XS.lload X7.here hx rfl (hb hby at_96) rfl <| XS.lload X7.here hx rfl (hb hby at_98) rfl <| k) ?_
    show own_Ends p e below s _ _ _ (T7.setTop (mkF m 100 #[.val (.long q1), .second, .val (.long q2), .second, .val (.long q3), .second, .val (.long q4), .second, .val (.int p5), .val (.int (1 : Int32)), .val (.long (own_life q4)), .second, .val (.long (own_life q3)), .second, .val (.long (q2 &&& (9223372036854775807 : Int64))), .second, .val (.long (q1 + (q2 &&& (9223372036854775807 : Int64)))), .second, .val (.ref b4), .val (.ref b6), .val (.long (own_minL (own_life q3) (own_life q4))), .second, .val (.long (q1 + (own_minL (own_life q3) (own_life q4)))), .second, .unset, .unset, .unset, .unset, .unset, .unset] [(.long (q1 + (q2 &&& (9223372036854775807 : Int64)))), (.long (q1 + (own_minL (own_life q3) (own_life q4)))), .null, (.ref b6), (.ref b4)]))
    obtain ⟨cq8, kq8, q8a, q8b, q8c⟩ := isOf hZ rfl A4'7
    obtain ⟨_, _, ⟨T8, L8, k8, n8⟩, -, X8, ⟨Lc8, hQ8, l8, y8, z8⟩, st8⟩ := X7.virtualBack hx (y := (⟨"com/example/unutkan/unutkan/core/FixedExpiration", "expiresAtAfterRead", "(Lcom/example/unutkan/unutkan/core/Node;Ljava/lang/Object;JJ)J"⟩ : MethodName)) (z := (⟨"com/example/unutkan/unutkan/core/FixedExpiration", "expiresAtAfterRead", "(Lcom/example/unutkan/unutkan/core/Node;Ljava/lang/Object;JJ)J"⟩ : MethodName)) hown (mvT hZ (hw _ (List.mem_of_getElem? (i := 57) rfl))) (mvT hZ (hw _ (List.mem_of_getElem? (i := 58) rfl))) (notFace_of_selects (args := #[]) (mvT hZ (hw _ (List.mem_of_getElem? (i := 60) rfl)))) (mvT hZ (hw _ (List.mem_of_getElem? (i := 60) rfl))) (mvT hZ (hw _ (List.mem_of_getElem? (i := 59) rfl))) (by decide) (backOf (W := 0) (rmEAR1 l Z a0 hw [] b4 b6 (q1 + (own_minL (own_life q3) (own_life q4))) (q1 + (q2 &&& (9223372036854775807 : Int64))) (own_life q4) (q1 + (own_life q3)) T7.heap n0 Z7 Fc15'7 Fbb'7 Eb6'7 Fw7) hZ (hw _ (List.mem_of_getElem? (i := 61) rfl)) (hw _ (List.mem_of_getElem? (i := 8) rfl)) (by decide) (by decide)) q8a q8c (g := (mkF m 100 #[.val (.long q1), .second, .val (.long q2), .second, .val (.long q3), .second, .val (.long q4), .second, .val (.int p5), .val (.int (1 : Int32)), .val (.long (own_life q4)), .second, .val (.long (own_life q3)), .second, .val (.long (q2 &&& (9223372036854775807 : Int64))), .second, .val (.long (q1 + (q2 &&& (9223372036854775807 : Int64)))), .second, .val (.ref b4), .val (.ref b6), .val (.long (own_minL (own_life q3) (own_life q4))), .second, .val (.long (q1 + (own_minL (own_life q3) (own_life q4)))), .second, .unset, .unset, .unset, .unset, .unset, .unset] [(.long (q1 + (q2 &&& (9223372036854775807 : Int64)))), (.long (q1 + (own_minL (own_life q3) (own_life q4)))), .null, (.ref b6), (.ref b4)])) rfl (by rw [hml]; rfl) (Steps.refl _) (argsL := [(.ref b6), .null, (.long (q1 + (own_minL (own_life q3) (own_life q4)))), (.long (q1 + (q2 &&& (9223372036854775807 : Int64))))]) (rest := []) (lenOf pd_7 rfl) rfl (by show 2 * 0 + _ ≤ _; exact Nat.le_of_eq rfl) (hb hby at_100) (fun _ _ => ⟨rfl, rfl, Nat.le_of_ble_eq_true rfl, Nat.le_of_ble_eq_true rfl⟩)
    dsimp only [Pt.U, Pt.locs, Pt.cells, Pt.slots] at X8 l8 y8 z8 st8 hQ8
    subst l8 y8 z8
    obtain ⟨rfl, N8q, e8⟩ := hQ8
    have N8 := Fr.app N7 N8q
    refine own_go (fun _ k => st8.trans k) ?_
    show own_Ends p e below s _ _ _ (T8.setTop (mkF m 103 #[.val (.long q1), .second, .val (.long q2), .second, .val (.long q3), .second, .val (.long q4), .second, .val (.int p5), .val (.int (1 : Int32)), .val (.long (own_life q4)), .second, .val (.long (own_life q3)), .second, .val (.long (q2 &&& (9223372036854775807 : Int64))), .second, .val (.long (q1 + (q2 &&& (9223372036854775807 : Int64)))), .second, .val (.ref b4), .val (.ref b6), .val (.long (own_minL (own_life q3) (own_life q4))), .second, .val (.long (q1 + (own_minL (own_life q3) (own_life q4)))), .second, .unset, .unset, .unset, .unset, .unset, .unset] [(.long (own_ear (q1 + (own_life q3)) (own_life q4) (q1 + (q2 &&& (9223372036854775807 : Int64)))))]))
    refine own_go (fun _ k => XS.lstore X8.here hx rfl (hb hby at_103) rfl (l' := #[.val (.long q1), .second, .val (.long q2), .second, .val (.long q3), .second, .val (.long q4), .second, .val (.int p5), .val (.int (1 : Int32)), .val (.long (own_life q4)), .second, .val (.long (own_life q3)), .second, .val (.long (q2 &&& (9223372036854775807 : Int64))), .second, .val (.long (q1 + (q2 &&& (9223372036854775807 : Int64)))), .second, .val (.ref b4), .val (.ref b6), .val (.long (own_minL (own_life q3) (own_life q4))), .second, .val (.long (q1 + (own_minL (own_life q3) (own_life q4)))), .second, .val (.long (own_ear (q1 + (own_life q3)) (own_life q4) (q1 + (q2 &&& (9223372036854775807 : Int64))))), .second, .unset, .unset, .unset, .unset]) rfl <| XS.iload X8.here hx rfl (hb hby at_105) rfl <| XS.ifNo X8.here hx rfl (hb hby at_107) rfl ((if0 _ _).trans (feq (by decide)).1) <| XS.lload X8.here hx rfl (hb hby at_110) rfl <| XS.lload X8.here hx rfl (hb hby at_112) rfl <| XS.lsub X8.here hx rfl (hb hby at_114) rfl <| XS.lstore X8.here hx rfl (hb hby at_115) rfl (l' := #[.val (.long q1), .second, .val (.long q2), .second, .val (.long q3), .second, .val (.long q4), .second, .val (.int p5), .val (.int (1 : Int32)), .val (.long (own_life q4)), .second, .val (.long (own_life q3)), .second, .val (.long (q2 &&& (9223372036854775807 : Int64))), .second, .val (.long (q1 + (q2 &&& (9223372036854775807 : Int64)))), .second, .val (.ref b4), .val (.ref b6), .val (.long (own_minL (own_life q3) (own_life q4))), .second, .val (.long (q1 + (own_minL (own_life q3) (own_life q4)))), .second, .val (.long (own_ear (q1 + (own_life q3)) (own_life q4) (q1 + (q2 &&& (9223372036854775807 : Int64))))), .second, .unset, .unset, .val (.long ((own_life q3) - (q2 &&& (9223372036854775807 : Int64)))), .second]) rfl <| XS.lload X8.here hx rfl (hb hby at_117) rfl <| XS.lload X8.here hx rfl (hb hby at_119) rfl <| XS.lload X8.here hx rfl (hb hby at_121) rfl <| k) ?_
    show own_Ends p e below s _ _ _ (T8.setTop (mkF m 123 #[.val (.long q1), .second, .val (.long q2), .second, .val (.long q3), .second, .val (.long q4), .second, .val (.int p5), .val (.int (1 : Int32)), .val (.long (own_life q4)), .second, .val (.long (own_life q3)), .second, .val (.long (q2 &&& (9223372036854775807 : Int64))), .second, .val (.long (q1 + (q2 &&& (9223372036854775807 : Int64)))), .second, .val (.ref b4), .val (.ref b6), .val (.long (own_minL (own_life q3) (own_life q4))), .second, .val (.long (q1 + (own_minL (own_life q3) (own_life q4)))), .second, .val (.long (own_ear (q1 + (own_life q3)) (own_life q4) (q1 + (q2 &&& (9223372036854775807 : Int64))))), .second, .unset, .unset, .val (.long ((own_life q3) - (q2 &&& (9223372036854775807 : Int64)))), .second] [(.long (own_life q4)), (.long ((own_life q3) - (q2 &&& (9223372036854775807 : Int64)))), (.long (q1 + (q2 &&& (9223372036854775807 : Int64))))]))
    obtain ⟨_, _, ⟨T9, L9, k9, n9⟩, -, X9, ⟨Lc9, hQ9, l9, y9, z9⟩, st9⟩ := Jvm.LawKit.callS X8 hx (y := (⟨"java/lang/Math", "min", "(JJ)J"⟩ : MethodName)) hown (mvT hZ (hw _ (List.mem_of_getElem? (i := 75) rfl))) (mvT hZ (hw _ (List.mem_of_getElem? (i := 54) rfl))) (mvT hZ (hw _ (List.mem_of_getElem? (i := 55) rfl))) (mvT hZ (hw _ (List.mem_of_getElem? (i := 56) rfl))) (by decide) (backOf (W := 2) (rm9 l Z a0 hw [] ((own_life q3) - (q2 &&& (9223372036854775807 : Int64))) (own_life q4) T7.heap n0 Z7) hZ (hw _ (List.mem_of_getElem? (i := 56) rfl)) (hw _ (List.mem_of_getElem? (i := 55) rfl)) (by decide) (by decide)) (g := (mkF m 123 #[.val (.long q1), .second, .val (.long q2), .second, .val (.long q3), .second, .val (.long q4), .second, .val (.int p5), .val (.int (1 : Int32)), .val (.long (own_life q4)), .second, .val (.long (own_life q3)), .second, .val (.long (q2 &&& (9223372036854775807 : Int64))), .second, .val (.long (q1 + (q2 &&& (9223372036854775807 : Int64)))), .second, .val (.ref b4), .val (.ref b6), .val (.long (own_minL (own_life q3) (own_life q4))), .second, .val (.long (q1 + (own_minL (own_life q3) (own_life q4)))), .second, .val (.long (own_ear (q1 + (own_life q3)) (own_life q4) (q1 + (q2 &&& (9223372036854775807 : Int64))))), .second, .unset, .unset, .val (.long ((own_life q3) - (q2 &&& (9223372036854775807 : Int64)))), .second] [(.long (own_life q4)), (.long ((own_life q3) - (q2 &&& (9223372036854775807 : Int64)))), (.long (q1 + (q2 &&& (9223372036854775807 : Int64))))])) rfl (by rw [hml]; rfl) (argsL := [(.long ((own_life q3) - (q2 &&& (9223372036854775807 : Int64)))), (.long (own_life q4))]) (rest := [(.long (q1 + (q2 &&& (9223372036854775807 : Int64))))]) (lenOf pd_6 rfl) rfl (by show 2 * 0 + _ ≤ _; exact Nat.le_of_eq rfl) (hb hby at_123) (fun _ _ => ⟨rfl, e8, Nat.le_of_ble_eq_true rfl, Nat.le_of_ble_eq_true rfl⟩)
    dsimp only [Pt.U, Pt.locs, Pt.cells, Pt.slots] at X9 l9 y9 z9 st9 hQ9
    subst l9 y9 z9
    obtain ⟨rfl, N9q, e9⟩ := hQ9
    have N9 := Fr.app N8 N9q
    refine own_go (fun _ k => st9 _ k) ?_
    show own_Ends p e below s _ _ _ (T9.setTop (mkF m 126 #[.val (.long q1), .second, .val (.long q2), .second, .val (.long q3), .second, .val (.long q4), .second, .val (.int p5), .val (.int (1 : Int32)), .val (.long (own_life q4)), .second, .val (.long (own_life q3)), .second, .val (.long (q2 &&& (9223372036854775807 : Int64))), .second, .val (.long (q1 + (q2 &&& (9223372036854775807 : Int64)))), .second, .val (.ref b4), .val (.ref b6), .val (.long (own_minL (own_life q3) (own_life q4))), .second, .val (.long (q1 + (own_minL (own_life q3) (own_life q4)))), .second, .val (.long (own_ear (q1 + (own_life q3)) (own_life q4) (q1 + (q2 &&& (9223372036854775807 : Int64))))), .second, .unset, .unset, .val (.long ((own_life q3) - (q2 &&& (9223372036854775807 : Int64)))), .second] [(.long (own_minL ((own_life q3) - (q2 &&& (9223372036854775807 : Int64))) (own_life q4))), (.long (q1 + (q2 &&& (9223372036854775807 : Int64))))]))
    refine own_go (fun _ k => XS.ladd X9.here hx rfl (hb hby at_126) rfl <| XS.lstore X9.here hx rfl (hb hby at_127) rfl (l' := #[.val (.long q1), .second, .val (.long q2), .second, .val (.long q3), .second, .val (.long q4), .second, .val (.int p5), .val (.int (1 : Int32)), .val (.long (own_life q4)), .second, .val (.long (own_life q3)), .second, .val (.long (q2 &&& (9223372036854775807 : Int64))), .second, .val (.long (q1 + (q2 &&& (9223372036854775807 : Int64)))), .second, .val (.ref b4), .val (.ref b6), .val (.long (own_minL (own_life q3) (own_life q4))), .second, .val (.long (q1 + (own_minL (own_life q3) (own_life q4)))), .second, .val (.long (own_ear (q1 + (own_life q3)) (own_life q4) (q1 + (q2 &&& (9223372036854775807 : Int64))))), .second, .val (.long ((q1 + (q2 &&& (9223372036854775807 : Int64))) + (own_minL ((own_life q3) - (q2 &&& (9223372036854775807 : Int64))) (own_life q4)))), .second, .val (.long ((own_life q3) - (q2 &&& (9223372036854775807 : Int64)))), .second]) rfl <| XS.goto X9.here hx rfl (pc0 := 129) (pc' := 139) rfl (hb hby at_129) (by decide) (by decide) <| XS.lload X9.here hx rfl (hb hby at_139) rfl <| XS.lload X9.here hx rfl (hb hby at_141) rfl <| XS.lcmp X9.here hx rfl (hb hby at_143) rfl <| XS.ifNo X9.here hx rfl (hb hby at_144) rfl ((if0 _ _).trans (teq ((lw_eq _ _).mpr (own_fin _ _ _ _))).2) <| XT.iconstV X9.here hx rfl (1 : Int32) (hb hby at_147) rfl <| XS.goto X9.here hx rfl (pc0 := 148) (pc' := 152) rfl (hb hby at_148) (by decide) (by decide) <| k) ?_
    show own_Ends p e below s _ _ _ (T9.setTop (mkF m 152 #[.val (.long q1), .second, .val (.long q2), .second, .val (.long q3), .second, .val (.long q4), .second, .val (.int p5), .val (.int (1 : Int32)), .val (.long (own_life q4)), .second, .val (.long (own_life q3)), .second, .val (.long (q2 &&& (9223372036854775807 : Int64))), .second, .val (.long (q1 + (q2 &&& (9223372036854775807 : Int64)))), .second, .val (.ref b4), .val (.ref b6), .val (.long (own_minL (own_life q3) (own_life q4))), .second, .val (.long (q1 + (own_minL (own_life q3) (own_life q4)))), .second, .val (.long (own_ear (q1 + (own_life q3)) (own_life q4) (q1 + (q2 &&& (9223372036854775807 : Int64))))), .second, .val (.long ((q1 + (q2 &&& (9223372036854775807 : Int64))) + (own_minL ((own_life q3) - (q2 &&& (9223372036854775807 : Int64))) (own_life q4)))), .second, .val (.long ((own_life q3) - (q2 &&& (9223372036854775807 : Int64)))), .second] [(.int (1 : Int32))]))
    exact own_retN X9 hx (t := .boolean) hrt (by simp) (hb hby at_152) hlk (show nar .boolean (1 : Int32) = (1 : Int32) from by decide) (by rw [e9]; exact ⟨rfl, N9⟩) (by decide) (by decide)
  · -- false
    refine own_go (fun _ k => XS.ifYes X0.here hx rfl (pc0 := 4) (pc' := 11) rfl (hb hby at_4) rfl ((if0 _ _).trans (feq hc4_1).2) (by decide) (by decide) <| XT.iconstV X0.here hx rfl (0 : Int32) (hb hby at_11) rfl <| XS.istore X0.here hx rfl (hb hby at_12) rfl (l' := #[.val (.long q1), .second, .val (.long q2), .second, .val (.long q3), .second, .val (.long q4), .second, .val (.int p5), .val (.int (0 : Int32)), .unset, .unset, .unset, .unset, .unset, .unset, .unset, .unset, .unset, .unset, .unset, .unset, .unset, .unset, .unset, .unset, .unset, .unset, .unset, .unset]) rfl <| XS.lload X0.here hx rfl (hb hby at_14) rfl <| k) ?_
    show own_Ends p e below s _ _ _ (s₁.setTop (mkF m 16 #[.val (.long q1), .second, .val (.long q2), .second, .val (.long q3), .second, .val (.long q4), .second, .val (.int p5), .val (.int (0 : Int32)), .unset, .unset, .unset, .unset, .unset, .unset, .unset, .unset, .unset, .unset, .unset, .unset, .unset, .unset, .unset, .unset, .unset, .unset, .unset, .unset] [(.long q4)]))
    obtain ⟨_, _, ⟨T10, L10, k10, n10⟩, -, X10, ⟨Lc10, hQ10, l10, y10, z10⟩, st10⟩ := Jvm.LawKit.callS X0 hx (y := (⟨"com/example/unutkan/unutkan/core/FixedExpirationExpiresAtAfterReadPinLaw", "lifetime", "(J)J"⟩ : MethodName)) hown (mvT hZ (hw _ (List.mem_of_getElem? (i := 0) rfl))) (mvT hZ (hw _ (List.mem_of_getElem? (i := 1) rfl))) (mvT hZ (hw _ (List.mem_of_getElem? (i := 2) rfl))) (mvT hZ (hw _ (List.mem_of_getElem? (i := 3) rfl))) (by decide) (backOf (W := 0) (rm1 l Z a0 hw [] q4 h0 n0 Z0) hZ (hw _ (List.mem_of_getElem? (i := 3) rfl)) (hw _ (List.mem_of_getElem? (i := 2) rfl)) (by decide) (by decide)) (g := (mkF m 16 #[.val (.long q1), .second, .val (.long q2), .second, .val (.long q3), .second, .val (.long q4), .second, .val (.int p5), .val (.int (0 : Int32)), .unset, .unset, .unset, .unset, .unset, .unset, .unset, .unset, .unset, .unset, .unset, .unset, .unset, .unset, .unset, .unset, .unset, .unset, .unset, .unset] [(.long q4)])) rfl (by rw [hml]; rfl) (argsL := [(.long q4)]) (rest := []) (lenOf pd_0 rfl) rfl (by show 2 * 0 + _ ≤ _; exact Nat.le_of_eq rfl) (hb hby at_16) (fun _ _ => ⟨rfl, e0, Nat.le_of_ble_eq_true rfl, Nat.le_of_ble_eq_true rfl⟩)
    dsimp only [Pt.U, Pt.locs, Pt.cells, Pt.slots] at X10 l10 y10 z10 st10 hQ10
    subst l10 y10 z10
    obtain ⟨rfl, N10q, e10⟩ := hQ10
    have N10 := Fr.app N0 N10q
    refine own_go (fun _ k => st10 _ k) ?_
    show own_Ends p e below s _ _ _ (T10.setTop (mkF m 19 #[.val (.long q1), .second, .val (.long q2), .second, .val (.long q3), .second, .val (.long q4), .second, .val (.int p5), .val (.int (0 : Int32)), .unset, .unset, .unset, .unset, .unset, .unset, .unset, .unset, .unset, .unset, .unset, .unset, .unset, .unset, .unset, .unset, .unset, .unset, .unset, .unset] [(.long (own_life q4))]))
    refine own_go (fun _ k => XS.lstore X10.here hx rfl (hb hby at_19) rfl (l' := #[.val (.long q1), .second, .val (.long q2), .second, .val (.long q3), .second, .val (.long q4), .second, .val (.int p5), .val (.int (0 : Int32)), .val (.long (own_life q4)), .second, .unset, .unset, .unset, .unset, .unset, .unset, .unset, .unset, .unset, .unset, .unset, .unset, .unset, .unset, .unset, .unset, .unset, .unset]) rfl <| XS.iload X10.here hx rfl (hb hby at_21) rfl <| XS.ifYes X10.here hx rfl (pc0 := 23) (pc' := 34) rfl (hb hby at_23) rfl ((if0 _ _).trans (teq (by decide)).1) (by decide) (by decide) <| X10.ldc2J hx hown (mvT hZ (hw _ (List.mem_of_getElem? (i := 4) rfl))) rfl (hb hby at_34) <| XS.lstore X10.here hx rfl (hb hby at_37) rfl (l' := #[.val (.long q1), .second, .val (.long q2), .second, .val (.long q3), .second, .val (.long q4), .second, .val (.int p5), .val (.int (0 : Int32)), .val (.long (own_life q4)), .second, .val (.long (9223372036854775807 : Int64)), .second, .unset, .unset, .unset, .unset, .unset, .unset, .unset, .unset, .unset, .unset, .unset, .unset, .unset, .unset, .unset, .unset]) rfl <| XS.lloadN X10.here hx rfl (hb hby at_39) rfl <| X10.ldc2J hx hown (mvT hZ (hw _ (List.mem_of_getElem? (i := 4) rfl))) rfl (hb hby at_40) <| XS.land X10.here hx rfl (hb hby at_43) rfl <| XS.lstore X10.here hx rfl (hb hby at_44) rfl (l' := #[.val (.long q1), .second, .val (.long q2), .second, .val (.long q3), .second, .val (.long q4), .second, .val (.int p5), .val (.int (0 : Int32)), .val (.long (own_life q4)), .second, .val (.long (9223372036854775807 : Int64)), .second, .val (.long (q2 &&& (9223372036854775807 : Int64))), .second, .unset, .unset, .unset, .unset, .unset, .unset, .unset, .unset, .unset, .unset, .unset, .unset, .unset, .unset]) rfl <| XS.lloadN X10.here hx rfl (hb hby at_46) rfl <| k) ?_
    show own_Ends p e below s _ _ _ (T10.setTop (mkF m 47 #[.val (.long q1), .second, .val (.long q2), .second, .val (.long q3), .second, .val (.long q4), .second, .val (.int p5), .val (.int (0 : Int32)), .val (.long (own_life q4)), .second, .val (.long (9223372036854775807 : Int64)), .second, .val (.long (q2 &&& (9223372036854775807 : Int64))), .second, .unset, .unset, .unset, .unset, .unset, .unset, .unset, .unset, .unset, .unset, .unset, .unset, .unset, .unset] [(.long q1)]))
    refine own_go (fun _ k => XS.lload X10.here hx rfl (hb hby at_47) rfl <| XS.ladd X10.here hx rfl (hb hby at_49) rfl <| XS.lstore X10.here hx rfl (hb hby at_50) rfl (l' := #[.val (.long q1), .second, .val (.long q2), .second, .val (.long q3), .second, .val (.long q4), .second, .val (.int p5), .val (.int (0 : Int32)), .val (.long (own_life q4)), .second, .val (.long (9223372036854775807 : Int64)), .second, .val (.long (q2 &&& (9223372036854775807 : Int64))), .second, .val (.long (q1 + (q2 &&& (9223372036854775807 : Int64)))), .second, .unset, .unset, .unset, .unset, .unset, .unset, .unset, .unset, .unset, .unset, .unset, .unset]) rfl <| k) ?_
    show own_Ends p e below s _ _ _ (T10.setTop (mkF m 52 #[.val (.long q1), .second, .val (.long q2), .second, .val (.long q3), .second, .val (.long q4), .second, .val (.int p5), .val (.int (0 : Int32)), .val (.long (own_life q4)), .second, .val (.long (9223372036854775807 : Int64)), .second, .val (.long (q2 &&& (9223372036854775807 : Int64))), .second, .val (.long (q1 + (q2 &&& (9223372036854775807 : Int64)))), .second, .unset, .unset, .unset, .unset, .unset, .unset, .unset, .unset, .unset, .unset, .unset, .unset] []))
    obtain ⟨T11, h11, X11, e11, E11, A11, D11, -, st11⟩ := newO X10 hx hZ hown (hw _ (List.mem_of_getElem? (i := 6) rfl)) (hw _ (List.mem_of_getElem? (i := 7) rfl)) (hw _ (List.mem_of_getElem? (i := 8) rfl)) e10 (g := (mkF m 52 #[.val (.long q1), .second, .val (.long q2), .second, .val (.long q3), .second, .val (.long q4), .second, .val (.int p5), .val (.int (0 : Int32)), .val (.long (own_life q4)), .second, .val (.long (9223372036854775807 : Int64)), .second, .val (.long (q2 &&& (9223372036854775807 : Int64))), .second, .val (.long (q1 + (q2 &&& (9223372036854775807 : Int64)))), .second, .unset, .unset, .unset, .unset, .unset, .unset, .unset, .unset, .unset, .unset, .unset, .unset] [])) rfl (hb hby at_52) (by decide) (by decide)
    obtain ⟨b11, g11⟩ : ∃ z, z = h0.size := ⟨_, rfl⟩
    rw [← g11] at A11 D11 st11
    refine own_go st11 ?_
    have g_b11 : n0 ≤ b11 := Nat.le_trans Z0 (Nat.le_of_eq g11.symm)
    have Z11 := Nat.le_trans Z0 E11.1
    have F_afterWrite_b11 : Fld Z h11 b11 "com/example/unutkan/unutkan/core/FixedExpiration" "afterWrite" "J" (.long (0 : Int64)) := D11 (Or.inr (hw _ (List.mem_of_getElem? (i := 16) rfl))) (ty := .long) (by decide)
    have F_afterAccess_b11 : Fld Z h11 b11 "com/example/unutkan/unutkan/core/FixedExpiration" "afterAccess" "J" (.long (0 : Int64)) := D11 (Or.inr (hw _ (List.mem_of_getElem? (i := 18) rfl))) (ty := .long) (by decide)
    have F_jitter_b11 : Fld Z h11 b11 "com/example/unutkan/unutkan/core/FixedExpiration" "jitter" "D" (.double (0 : UInt64)) := D11 (Or.inr (hw _ (List.mem_of_getElem? (i := 20) rfl))) (ty := .double) (by decide)
    have F_boundByBoth_b11 : Fld Z h11 b11 "com/example/unutkan/unutkan/core/FixedExpiration" "boundByBoth" "Z" (.int (0 : Int32)) := D11 (Or.inr (hw _ (List.mem_of_getElem? (i := 23) rfl))) (ty := .boolean) (by decide)
    show own_Ends p e below s _ _ _ (T11.setTop (mkF m 55 #[.val (.long q1), .second, .val (.long q2), .second, .val (.long q3), .second, .val (.long q4), .second, .val (.int p5), .val (.int (0 : Int32)), .val (.long (own_life q4)), .second, .val (.long (9223372036854775807 : Int64)), .second, .val (.long (q2 &&& (9223372036854775807 : Int64))), .second, .val (.long (q1 + (q2 &&& (9223372036854775807 : Int64)))), .second, .unset, .unset, .unset, .unset, .unset, .unset, .unset, .unset, .unset, .unset, .unset, .unset] [(.ref b11)]))
    refine own_go (fun _ k => XS.dup X11.here hx rfl (hb hby at_55) rfl rfl <| XS.lload X11.here hx rfl (hb hby at_56) rfl <| XS.lload X11.here hx rfl (hb hby at_58) rfl <| XS.dconst0 X11.here hx rfl (v := (0 : UInt64)) (hb hby at_60) rfl <| k) ?_
    show own_Ends p e below s _ _ _ (T11.setTop (mkF m 61 #[.val (.long q1), .second, .val (.long q2), .second, .val (.long q3), .second, .val (.long q4), .second, .val (.int p5), .val (.int (0 : Int32)), .val (.long (own_life q4)), .second, .val (.long (9223372036854775807 : Int64)), .second, .val (.long (q2 &&& (9223372036854775807 : Int64))), .second, .val (.long (q1 + (q2 &&& (9223372036854775807 : Int64)))), .second, .unset, .unset, .unset, .unset, .unset, .unset, .unset, .unset, .unset, .unset, .unset, .unset] [(.double (0 : UInt64)), (.long (own_life q4)), (.long (9223372036854775807 : Int64)), (.ref b11), (.ref b11)]))
    obtain ⟨_, _, ⟨T12, L12, k12, n12⟩, -, X12, ⟨Lc12, hQ12, l12, y12, z12⟩, st12⟩ := X11.specialBack hx (y := (⟨"com/example/unutkan/unutkan/core/FixedExpiration", "<init>", "(JJD)V"⟩ : MethodName)) rfl hown (mvT hZ (hw _ (List.mem_of_getElem? (i := 9) rfl))) (mvT hZ (hw _ (List.mem_of_getElem? (i := 10) rfl))) (mvT hZ (hw _ (List.mem_of_getElem? (i := 11) rfl))) (by decide) (backOf (W := 1) (rm2 l Z a0 hw [] b11 (9223372036854775807 : Int64) (own_life q4) (0 : UInt64)  h11 n0 Z11 A11 F_afterWrite_b11 F_afterAccess_b11 F_jitter_b11 F_boundByBoth_b11 g_b11 ) hZ (hw _ (List.mem_of_getElem? (i := 11) rfl)) (hw _ (List.mem_of_getElem? (i := 8) rfl)) (by decide) (by decide)) (g := (mkF m 61 #[.val (.long q1), .second, .val (.long q2), .second, .val (.long q3), .second, .val (.long q4), .second, .val (.int p5), .val (.int (0 : Int32)), .val (.long (own_life q4)), .second, .val (.long (9223372036854775807 : Int64)), .second, .val (.long (q2 &&& (9223372036854775807 : Int64))), .second, .val (.long (q1 + (q2 &&& (9223372036854775807 : Int64)))), .second, .unset, .unset, .unset, .unset, .unset, .unset, .unset, .unset, .unset, .unset, .unset, .unset] [(.double (0 : UInt64)), (.long (own_life q4)), (.long (9223372036854775807 : Int64)), (.ref b11), (.ref b11)])) rfl (by rw [hml]; rfl) (Steps.refl _) (a := b11) (argsL := [(.long (9223372036854775807 : Int64)), (.long (own_life q4)), (.double (0 : UInt64))]) (rest := [(.ref b11)]) (lenOf pd_1 rfl) rfl (by show 2 * 0 + _ ≤ _; exact Nat.le_of_eq rfl) (hb hby at_61) (fun _ _ => ⟨rfl, e11, Nat.le_of_ble_eq_true rfl, Nat.le_of_ble_eq_true rfl⟩)
    dsimp only [Pt.U, Pt.locs, Pt.cells, Pt.slots] at X12 l12 y12 z12 st12 hQ12
    subst l12 y12 z12
    obtain ⟨rfl, N12q, K12, Fc012, Fc112, Fc212, Fc312⟩ := hQ12
    have N12 := Fr.app N10 N12q
    refine own_go (fun _ k => st12.trans k) ?_
    have A11'12 := A11.keep K12
    have Z12 := Nat.le_trans Z11 K12.1
    show own_Ends p e below s _ _ _ (T12.setTop (mkF m 64 #[.val (.long q1), .second, .val (.long q2), .second, .val (.long q3), .second, .val (.long q4), .second, .val (.int p5), .val (.int (0 : Int32)), .val (.long (own_life q4)), .second, .val (.long (9223372036854775807 : Int64)), .second, .val (.long (q2 &&& (9223372036854775807 : Int64))), .second, .val (.long (q1 + (q2 &&& (9223372036854775807 : Int64)))), .second, .unset, .unset, .unset, .unset, .unset, .unset, .unset, .unset, .unset, .unset, .unset, .unset] [(.ref b11)]))
    have Fbb : Fld Z T12.heap b11 "com/example/unutkan/unutkan/core/FixedExpiration" "boundByBoth" "Z" (.int (0 : Int32)) := by have q := Fc312; rw [show (nar .boolean (own_bb (9223372036854775807 : Int64) (own_life q4))) = (0 : Int32) from by unfold own_bb; rw [if_pos rfl]; decide] at q; exact q
    refine own_go (fun _ k => XS.astore X12.here hx rfl (hb hby at_64) rfl rfl (l' := #[.val (.long q1), .second, .val (.long q2), .second, .val (.long q3), .second, .val (.long q4), .second, .val (.int p5), .val (.int (0 : Int32)), .val (.long (own_life q4)), .second, .val (.long (9223372036854775807 : Int64)), .second, .val (.long (q2 &&& (9223372036854775807 : Int64))), .second, .val (.long (q1 + (q2 &&& (9223372036854775807 : Int64)))), .second, .val (.ref b11), .unset, .unset, .unset, .unset, .unset, .unset, .unset, .unset, .unset, .unset, .unset]) rfl <| XS.aload X12.here hx rfl (hb hby at_66) rfl rfl <| XS.aconstNull X12.here hx rfl (hb hby at_68) <| XS.aconstNull X12.here hx rfl (hb hby at_69) <| k) ?_
    show own_Ends p e below s _ _ _ (T12.setTop (mkF m 70 #[.val (.long q1), .second, .val (.long q2), .second, .val (.long q3), .second, .val (.long q4), .second, .val (.int p5), .val (.int (0 : Int32)), .val (.long (own_life q4)), .second, .val (.long (9223372036854775807 : Int64)), .second, .val (.long (q2 &&& (9223372036854775807 : Int64))), .second, .val (.long (q1 + (q2 &&& (9223372036854775807 : Int64)))), .second, .val (.ref b11), .unset, .unset, .unset, .unset, .unset, .unset, .unset, .unset, .unset, .unset, .unset] [.null, .null, (.ref b11)]))
    obtain ⟨cq13, kq13, q13a, q13b, q13c⟩ := isOf hZ rfl A11'12
    obtain ⟨_, _, ⟨T13, L13, k13, n13⟩, -, X13, ⟨Lc13, hQ13, l13, y13, z13⟩, st13⟩ := X12.virtualBack hx (y := (⟨"com/example/unutkan/unutkan/core/FixedExpiration", "newNode", "(Ljava/lang/Object;Ljava/lang/Object;)Lcom/example/unutkan/unutkan/core/Node;"⟩ : MethodName)) (z := (⟨"com/example/unutkan/unutkan/core/FixedExpiration", "newNode", "(Ljava/lang/Object;Ljava/lang/Object;)Lcom/example/unutkan/unutkan/core/Node;"⟩ : MethodName)) hown (mvT hZ (hw _ (List.mem_of_getElem? (i := 24) rfl))) (mvT hZ (hw _ (List.mem_of_getElem? (i := 25) rfl))) (notFace_of_selects (args := #[]) (mvT hZ (hw _ (List.mem_of_getElem? (i := 27) rfl)))) (mvT hZ (hw _ (List.mem_of_getElem? (i := 27) rfl))) (mvT hZ (hw _ (List.mem_of_getElem? (i := 26) rfl))) (by decide) (backOf (W := 0) (rmNNP l Z a0 hw [] b11 T12.heap n0 Z12 Fbb) hZ (hw _ (List.mem_of_getElem? (i := 28) rfl)) (hw _ (List.mem_of_getElem? (i := 8) rfl)) (by decide) (by decide)) q13a q13c (g := (mkF m 70 #[.val (.long q1), .second, .val (.long q2), .second, .val (.long q3), .second, .val (.long q4), .second, .val (.int p5), .val (.int (0 : Int32)), .val (.long (own_life q4)), .second, .val (.long (9223372036854775807 : Int64)), .second, .val (.long (q2 &&& (9223372036854775807 : Int64))), .second, .val (.long (q1 + (q2 &&& (9223372036854775807 : Int64)))), .second, .val (.ref b11), .unset, .unset, .unset, .unset, .unset, .unset, .unset, .unset, .unset, .unset, .unset] [.null, .null, (.ref b11)])) rfl (by rw [hml]; rfl) (Steps.refl _) (argsL := [.null, .null]) (rest := []) (lenOf pd_3 rfl) rfl (by show 2 * 0 + _ ≤ _; exact Nat.le_of_eq rfl) (hb hby at_70) (fun _ _ => ⟨rfl, rfl, Nat.le_of_ble_eq_true rfl, Nat.le_of_ble_eq_true rfl⟩)
    dsimp only [Pt.U, Pt.locs, Pt.cells, Pt.slots] at X13 l13 y13 z13 st13 hQ13
    subst l13 y13 z13
    obtain ⟨b13, rfl, N13q, K13, g13, sz13, Eb13⟩ := hQ13
    have N13 := Fr.app N12 N13q
    refine own_go (fun _ k => st13.trans k) ?_
    have A11'13 := A11'12.keep K13
    have Fc012'13 := Fc012.keep K13 nin0
    have Fc112'13 := Fc112.keep K13 nin0
    have Fc212'13 := Fc212.keep K13 nin0
    have Fbb'13 := Fbb.keep K13 nin0
    have Z13 := Nat.le_trans Z12 K13.1
    show own_Ends p e below s _ _ _ (T13.setTop (mkF m 73 #[.val (.long q1), .second, .val (.long q2), .second, .val (.long q3), .second, .val (.long q4), .second, .val (.int p5), .val (.int (0 : Int32)), .val (.long (own_life q4)), .second, .val (.long (9223372036854775807 : Int64)), .second, .val (.long (q2 &&& (9223372036854775807 : Int64))), .second, .val (.long (q1 + (q2 &&& (9223372036854775807 : Int64)))), .second, .val (.ref b11), .unset, .unset, .unset, .unset, .unset, .unset, .unset, .unset, .unset, .unset, .unset] [(.ref b13)]))
    have ne_b11_b13 : b11 ≠ b13 := Nat.ne_of_lt (Nat.lt_of_lt_of_le A11'12.lt sz13)
    refine own_go (fun _ k => XS.astore X13.here hx rfl (hb hby at_73) rfl rfl (l' := #[.val (.long q1), .second, .val (.long q2), .second, .val (.long q3), .second, .val (.long q4), .second, .val (.int p5), .val (.int (0 : Int32)), .val (.long (own_life q4)), .second, .val (.long (9223372036854775807 : Int64)), .second, .val (.long (q2 &&& (9223372036854775807 : Int64))), .second, .val (.long (q1 + (q2 &&& (9223372036854775807 : Int64)))), .second, .val (.ref b11), .val (.ref b13), .unset, .unset, .unset, .unset, .unset, .unset, .unset, .unset, .unset, .unset]) rfl <| XS.aload X13.here hx rfl (hb hby at_75) rfl rfl <| XS.aload X13.here hx rfl (hb hby at_77) rfl rfl <| XS.lloadN X13.here hx rfl (hb hby at_79) rfl <| k) ?_
    show own_Ends p e below s _ _ _ (T13.setTop (mkF m 80 #[.val (.long q1), .second, .val (.long q2), .second, .val (.long q3), .second, .val (.long q4), .second, .val (.int p5), .val (.int (0 : Int32)), .val (.long (own_life q4)), .second, .val (.long (9223372036854775807 : Int64)), .second, .val (.long (q2 &&& (9223372036854775807 : Int64))), .second, .val (.long (q1 + (q2 &&& (9223372036854775807 : Int64)))), .second, .val (.ref b11), .val (.ref b13), .unset, .unset, .unset, .unset, .unset, .unset, .unset, .unset, .unset, .unset] [(.long q1), (.ref b13), (.ref b11)]))
    obtain ⟨cq14, kq14, q14a, q14b, q14c⟩ := isOf hZ rfl A11'13
    obtain ⟨_, _, ⟨T14, L14, k14, n14⟩, -, X14, ⟨Lc14, hQ14, l14, y14, z14⟩, st14⟩ := X13.virtualBack hx (y := (⟨"com/example/unutkan/unutkan/core/FixedExpiration", "lifetimeOfNew", "(Lcom/example/unutkan/unutkan/core/Node;J)J"⟩ : MethodName)) (z := (⟨"com/example/unutkan/unutkan/core/FixedExpiration", "lifetimeOfNew", "(Lcom/example/unutkan/unutkan/core/Node;J)J"⟩ : MethodName)) hown (mvT hZ (hw _ (List.mem_of_getElem? (i := 40) rfl))) (mvT hZ (hw _ (List.mem_of_getElem? (i := 41) rfl))) (notFace_of_selects (args := #[]) (mvT hZ (hw _ (List.mem_of_getElem? (i := 43) rfl)))) (mvT hZ (hw _ (List.mem_of_getElem? (i := 43) rfl))) (mvT hZ (hw _ (List.mem_of_getElem? (i := 42) rfl))) (by decide) (backOf (W := 0) (rmlifetimeOfNew0 l Z a0 hw [] b11 b13 q1 (9223372036854775807 : Int64) (own_life q4) T13.heap n0 Z13 A11'13 Fc012'13 Fc112'13 Fc212'13 Fbb'13) hZ (hw _ (List.mem_of_getElem? (i := 44) rfl)) (hw _ (List.mem_of_getElem? (i := 8) rfl)) (by decide) (by decide)) q14a q14c (g := (mkF m 80 #[.val (.long q1), .second, .val (.long q2), .second, .val (.long q3), .second, .val (.long q4), .second, .val (.int p5), .val (.int (0 : Int32)), .val (.long (own_life q4)), .second, .val (.long (9223372036854775807 : Int64)), .second, .val (.long (q2 &&& (9223372036854775807 : Int64))), .second, .val (.long (q1 + (q2 &&& (9223372036854775807 : Int64)))), .second, .val (.ref b11), .val (.ref b13), .unset, .unset, .unset, .unset, .unset, .unset, .unset, .unset, .unset, .unset] [(.long q1), (.ref b13), (.ref b11)])) rfl (by rw [hml]; rfl) (Steps.refl _) (argsL := [(.ref b13), (.long q1)]) (rest := []) (lenOf pd_5 rfl) rfl (by show 2 * 0 + _ ≤ _; exact Nat.le_of_eq rfl) (hb hby at_80) (fun _ _ => ⟨rfl, rfl, Nat.le_of_ble_eq_true rfl, Nat.le_of_ble_eq_true rfl⟩)
    dsimp only [Pt.U, Pt.locs, Pt.cells, Pt.slots] at X14 l14 y14 z14 st14 hQ14
    subst l14 y14 z14
    obtain ⟨rfl, N14q, e14⟩ := hQ14
    have N14 := Fr.app N13 N14q
    refine own_go (fun _ k => st14.trans k) ?_
    show own_Ends p e below s _ _ _ (T14.setTop (mkF m 83 #[.val (.long q1), .second, .val (.long q2), .second, .val (.long q3), .second, .val (.long q4), .second, .val (.int p5), .val (.int (0 : Int32)), .val (.long (own_life q4)), .second, .val (.long (9223372036854775807 : Int64)), .second, .val (.long (q2 &&& (9223372036854775807 : Int64))), .second, .val (.long (q1 + (q2 &&& (9223372036854775807 : Int64)))), .second, .val (.ref b11), .val (.ref b13), .unset, .unset, .unset, .unset, .unset, .unset, .unset, .unset, .unset, .unset] [(.long (own_minL (9223372036854775807 : Int64) (own_life q4)))]))
    refine own_go (fun _ k => XS.lstore X14.here hx rfl (hb hby at_83) rfl (l' := #[.val (.long q1), .second, .val (.long q2), .second, .val (.long q3), .second, .val (.long q4), .second, .val (.int p5), .val (.int (0 : Int32)), .val (.long (own_life q4)), .second, .val (.long (9223372036854775807 : Int64)), .second, .val (.long (q2 &&& (9223372036854775807 : Int64))), .second, .val (.long (q1 + (q2 &&& (9223372036854775807 : Int64)))), .second, .val (.ref b11), .val (.ref b13), .val (.long (own_minL (9223372036854775807 : Int64) (own_life q4))), .second, .unset, .unset, .unset, .unset, .unset, .unset, .unset, .unset]) rfl <| XS.lloadN X14.here hx rfl (hb hby at_85) rfl <| XS.lload X14.here hx rfl (hb hby at_86) rfl <| XS.ladd X14.here hx rfl (hb hby at_88) rfl <| XS.lstore X14.here hx rfl (hb hby at_89) rfl (l' := #[.val (.long q1), .second, .val (.long q2), .second, .val (.long q3), .second, .val (.long q4), .second, .val (.int p5), .val (.int (0 : Int32)), .val (.long (own_life q4)), .second, .val (.long (9223372036854775807 : Int64)), .second, .val (.long (q2 &&& (9223372036854775807 : Int64))), .second, .val (.long (q1 + (q2 &&& (9223372036854775807 : Int64)))), .second, .val (.ref b11), .val (.ref b13), .val (.long (own_minL (9223372036854775807 : Int64) (own_life q4))), .second, .val (.long (q1 + (own_minL (9223372036854775807 : Int64) (own_life q4)))), .second, .unset, .unset, .unset, .unset, .unset, .unset]) rfl <| XS.aload X14.here hx rfl (hb hby at_91) rfl rfl <| XS.aload X14.here hx rfl (hb hby at_93) rfl rfl <| XS.aconstNull X14.here hx rfl (hb hby at_95) <| XS.lload X14.here hx rfl (hb hby at_96) rfl <| XS.lload X14.here hx rfl (hb hby at_98) rfl <| k) ?_
    show own_Ends p e below s _ _ _ (T14.setTop (mkF m 100 #[.val (.long q1), .second, .val (.long q2), .second, .val (.long q3), .second, .val (.long q4), .second, .val (.int p5), .val (.int (0 : Int32)), .val (.long (own_life q4)), .second, .val (.long (9223372036854775807 : Int64)), .second, .val (.long (q2 &&& (9223372036854775807 : Int64))), .second, .val (.long (q1 + (q2 &&& (9223372036854775807 : Int64)))), .second, .val (.ref b11), .val (.ref b13), .val (.long (own_minL (9223372036854775807 : Int64) (own_life q4))), .second, .val (.long (q1 + (own_minL (9223372036854775807 : Int64) (own_life q4)))), .second, .unset, .unset, .unset, .unset, .unset, .unset] [(.long (q1 + (q2 &&& (9223372036854775807 : Int64)))), (.long (q1 + (own_minL (9223372036854775807 : Int64) (own_life q4)))), .null, (.ref b13), (.ref b11)]))
    obtain ⟨cq15, kq15, q15a, q15b, q15c⟩ := isOf hZ e14 A11'13
    obtain ⟨_, _, ⟨T15, L15, k15, n15⟩, -, X15, ⟨Lc15, hQ15, l15, y15, z15⟩, st15⟩ := X14.virtualBack hx (y := (⟨"com/example/unutkan/unutkan/core/FixedExpiration", "expiresAtAfterRead", "(Lcom/example/unutkan/unutkan/core/Node;Ljava/lang/Object;JJ)J"⟩ : MethodName)) (z := (⟨"com/example/unutkan/unutkan/core/FixedExpiration", "expiresAtAfterRead", "(Lcom/example/unutkan/unutkan/core/Node;Ljava/lang/Object;JJ)J"⟩ : MethodName)) hown (mvT hZ (hw _ (List.mem_of_getElem? (i := 57) rfl))) (mvT hZ (hw _ (List.mem_of_getElem? (i := 58) rfl))) (notFace_of_selects (args := #[]) (mvT hZ (hw _ (List.mem_of_getElem? (i := 60) rfl)))) (mvT hZ (hw _ (List.mem_of_getElem? (i := 60) rfl))) (mvT hZ (hw _ (List.mem_of_getElem? (i := 59) rfl))) (by decide) (backOf (W := 0) (rmEAR0 l Z a0 hw [] b11 b13 (q1 + (own_minL (9223372036854775807 : Int64) (own_life q4))) (q1 + (q2 &&& (9223372036854775807 : Int64))) (own_life q4) T13.heap n0 Z13 Fc112'13 Fbb'13) hZ (hw _ (List.mem_of_getElem? (i := 61) rfl)) (hw _ (List.mem_of_getElem? (i := 8) rfl)) (by decide) (by decide)) q15a q15c (g := (mkF m 100 #[.val (.long q1), .second, .val (.long q2), .second, .val (.long q3), .second, .val (.long q4), .second, .val (.int p5), .val (.int (0 : Int32)), .val (.long (own_life q4)), .second, .val (.long (9223372036854775807 : Int64)), .second, .val (.long (q2 &&& (9223372036854775807 : Int64))), .second, .val (.long (q1 + (q2 &&& (9223372036854775807 : Int64)))), .second, .val (.ref b11), .val (.ref b13), .val (.long (own_minL (9223372036854775807 : Int64) (own_life q4))), .second, .val (.long (q1 + (own_minL (9223372036854775807 : Int64) (own_life q4)))), .second, .unset, .unset, .unset, .unset, .unset, .unset] [(.long (q1 + (q2 &&& (9223372036854775807 : Int64)))), (.long (q1 + (own_minL (9223372036854775807 : Int64) (own_life q4)))), .null, (.ref b13), (.ref b11)])) rfl (by rw [hml]; rfl) (Steps.refl _) (argsL := [(.ref b13), .null, (.long (q1 + (own_minL (9223372036854775807 : Int64) (own_life q4)))), (.long (q1 + (q2 &&& (9223372036854775807 : Int64))))]) (rest := []) (lenOf pd_7 rfl) rfl (by show 2 * 0 + _ ≤ _; exact Nat.le_of_eq rfl) (hb hby at_100) (fun _ _ => ⟨rfl, e14, Nat.le_of_ble_eq_true rfl, Nat.le_of_ble_eq_true rfl⟩)
    dsimp only [Pt.U, Pt.locs, Pt.cells, Pt.slots] at X15 l15 y15 z15 st15 hQ15
    subst l15 y15 z15
    obtain ⟨rfl, N15q, e15⟩ := hQ15
    have N15 := Fr.app N14 N15q
    refine own_go (fun _ k => st15.trans k) ?_
    show own_Ends p e below s _ _ _ (T15.setTop (mkF m 103 #[.val (.long q1), .second, .val (.long q2), .second, .val (.long q3), .second, .val (.long q4), .second, .val (.int p5), .val (.int (0 : Int32)), .val (.long (own_life q4)), .second, .val (.long (9223372036854775807 : Int64)), .second, .val (.long (q2 &&& (9223372036854775807 : Int64))), .second, .val (.long (q1 + (q2 &&& (9223372036854775807 : Int64)))), .second, .val (.ref b11), .val (.ref b13), .val (.long (own_minL (9223372036854775807 : Int64) (own_life q4))), .second, .val (.long (q1 + (own_minL (9223372036854775807 : Int64) (own_life q4)))), .second, .unset, .unset, .unset, .unset, .unset, .unset] [(.long ((q1 + (q2 &&& (9223372036854775807 : Int64))) + (own_life q4)))]))
    refine own_go (fun _ k => XS.lstore X15.here hx rfl (hb hby at_103) rfl (l' := #[.val (.long q1), .second, .val (.long q2), .second, .val (.long q3), .second, .val (.long q4), .second, .val (.int p5), .val (.int (0 : Int32)), .val (.long (own_life q4)), .second, .val (.long (9223372036854775807 : Int64)), .second, .val (.long (q2 &&& (9223372036854775807 : Int64))), .second, .val (.long (q1 + (q2 &&& (9223372036854775807 : Int64)))), .second, .val (.ref b11), .val (.ref b13), .val (.long (own_minL (9223372036854775807 : Int64) (own_life q4))), .second, .val (.long (q1 + (own_minL (9223372036854775807 : Int64) (own_life q4)))), .second, .val (.long ((q1 + (q2 &&& (9223372036854775807 : Int64))) + (own_life q4))), .second, .unset, .unset, .unset, .unset]) rfl <| XS.iload X15.here hx rfl (hb hby at_105) rfl <| XS.ifYes X15.here hx rfl (pc0 := 107) (pc' := 132) rfl (hb hby at_107) rfl ((if0 _ _).trans (teq (by decide)).1) (by decide) (by decide) <| XS.lload X15.here hx rfl (hb hby at_132) rfl <| XS.lload X15.here hx rfl (hb hby at_134) rfl <| XS.ladd X15.here hx rfl (hb hby at_136) rfl <| XS.lstore X15.here hx rfl (hb hby at_137) rfl (l' := #[.val (.long q1), .second, .val (.long q2), .second, .val (.long q3), .second, .val (.long q4), .second, .val (.int p5), .val (.int (0 : Int32)), .val (.long (own_life q4)), .second, .val (.long (9223372036854775807 : Int64)), .second, .val (.long (q2 &&& (9223372036854775807 : Int64))), .second, .val (.long (q1 + (q2 &&& (9223372036854775807 : Int64)))), .second, .val (.ref b11), .val (.ref b13), .val (.long (own_minL (9223372036854775807 : Int64) (own_life q4))), .second, .val (.long (q1 + (own_minL (9223372036854775807 : Int64) (own_life q4)))), .second, .val (.long ((q1 + (q2 &&& (9223372036854775807 : Int64))) + (own_life q4))), .second, .val (.long ((q1 + (q2 &&& (9223372036854775807 : Int64))) + (own_life q4))), .second, .unset, .unset]) rfl <| XS.lload X15.here hx rfl (hb hby at_139) rfl <| XS.lload X15.here hx rfl (hb hby at_141) rfl <| XS.lcmp X15.here hx rfl (hb hby at_143) rfl <| k) ?_
    show own_Ends p e below s _ _ _ (T15.setTop (mkF m 144 #[.val (.long q1), .second, .val (.long q2), .second, .val (.long q3), .second, .val (.long q4), .second, .val (.int p5), .val (.int (0 : Int32)), .val (.long (own_life q4)), .second, .val (.long (9223372036854775807 : Int64)), .second, .val (.long (q2 &&& (9223372036854775807 : Int64))), .second, .val (.long (q1 + (q2 &&& (9223372036854775807 : Int64)))), .second, .val (.ref b11), .val (.ref b13), .val (.long (own_minL (9223372036854775807 : Int64) (own_life q4))), .second, .val (.long (q1 + (own_minL (9223372036854775807 : Int64) (own_life q4)))), .second, .val (.long ((q1 + (q2 &&& (9223372036854775807 : Int64))) + (own_life q4))), .second, .val (.long ((q1 + (q2 &&& (9223372036854775807 : Int64))) + (own_life q4))), .second, .unset, .unset] [(.int (lcmpW ((q1 + (q2 &&& (9223372036854775807 : Int64))) + (own_life q4)) ((q1 + (q2 &&& (9223372036854775807 : Int64))) + (own_life q4))))]))
    refine own_go (fun _ k => XS.ifNo X15.here hx rfl (hb hby at_144) rfl ((if0 _ _).trans (teq ((lw_eq _ _).mpr rfl)).2) <| XT.iconstV X15.here hx rfl (1 : Int32) (hb hby at_147) rfl <| XS.goto X15.here hx rfl (pc0 := 148) (pc' := 152) rfl (hb hby at_148) (by decide) (by decide) <| k) ?_
    show own_Ends p e below s _ _ _ (T15.setTop (mkF m 152 #[.val (.long q1), .second, .val (.long q2), .second, .val (.long q3), .second, .val (.long q4), .second, .val (.int p5), .val (.int (0 : Int32)), .val (.long (own_life q4)), .second, .val (.long (9223372036854775807 : Int64)), .second, .val (.long (q2 &&& (9223372036854775807 : Int64))), .second, .val (.long (q1 + (q2 &&& (9223372036854775807 : Int64)))), .second, .val (.ref b11), .val (.ref b13), .val (.long (own_minL (9223372036854775807 : Int64) (own_life q4))), .second, .val (.long (q1 + (own_minL (9223372036854775807 : Int64) (own_life q4)))), .second, .val (.long ((q1 + (q2 &&& (9223372036854775807 : Int64))) + (own_life q4))), .second, .val (.long ((q1 + (q2 &&& (9223372036854775807 : Int64))) + (own_life q4))), .second, .unset, .unset] [(.int (1 : Int32))]))
    exact own_retN X15 hx (t := .boolean) hrt (by simp) (hb hby at_152) hlk (show nar .boolean (1 : Int32) = (1 : Int32) from by decide) (by rw [e15]; exact ⟨rfl, N15⟩) (by decide) (by decide)
set_option maxRecDepth 65536 in
set_option maxHeartbeats 40000000 in
theorem comes_1 {Post : Tables → Env → Array Value → State → Outcome → State → Prop} (hpost : ∀ tb e args s v u, (limb_1_1.after args s (.returned v) u = true ∧ limb_1_2.after args s (.returned v) u = true ∧ True) → FrameEnd s (.returned v) u (Jvm.fieldLocs frame_1_writes args s ++ Jvm.arrayLocs frame_1_arrays args s ++ Jvm.staticLocs frame_1_statics s) 16 128 → Post tb e args s (.returned v) u) :
    ArmFor flags0 classFile x code maxLocals ret World_1 tables_1 room_1 Calls_1 rest_1 Pre_1 Post := by
  intro l hfl _ _ p e ha hc hk s m args below hf hA hF happ hP
  obtain ⟨hcalls, hrest, hpre⟩ := hP
  obtain ⟨-, -, -, hnamed, -, -, -, hat⟩ := (Spec.applies_iff hf).mp happ
  obtain ⟨hg, hn⟩ := and_e (Cond.before_iff.mp (show (Jvm.Cond.and given_1 narrow_1).before args s = true from hpre))
  obtain ⟨g1, g2⟩ := and_e hg
  obtain ⟨g3, g4⟩ := and_e g2
  obtain ⟨g5, g6⟩ := and_e g4
  obtain ⟨g7, g8⟩ := and_e g6
  obtain ⟨g9, g10⟩ := and_e g8
  obtain ⟨w0, w1, w2, w3, w4, rfl⟩ : ∃ w0 w1 w2 w3 w4 : Value, args = #[w0, w1, w2, w3, w4] := by
    have hs : args.size = 5 := by simpa [Cond.value, given_1] using g1
    obtain ⟨L⟩ := args
    match L, hs with
    | [w0, w1, w2, w3, w4], _ => exact ⟨w0, w1, w2, w3, w4, rfl⟩
  have hw := fun d (hd : d ∈ tables_1) => atoms_spec (ws := Jvm.Cond.code x code maxLocals ret :: tables_1) hat d (List.mem_cons_of_mem _ hd)
  have hfit : Fit s := fun {y c} hc i hi => by
    obtain ⟨ha, rfl⟩ := Array.getElem?_eq_some_iff.mp hc
    have q := List.all_eq_true.mp ((Array.all_eq_true_iff_forall_mem.mp hF) _ (Array.getElem_mem ha)) i (List.mem_range.mpr hi)
    simpa [Array.getElem?_eq_getElem hi] using q
  obtain ⟨i0, ei0⟩ := isL_v g3
  obtain rfl : w0 = (.long i0) := Option.some.inj ei0
  obtain ⟨i1, ei1⟩ := isL_v g5
  obtain rfl : w1 = (.long i1) := Option.some.inj ei1
  obtain ⟨i2, ei2⟩ := isL_v g7
  obtain rfl : w2 = (.long i2) := Option.some.inj ei2
  obtain ⟨i3, ei3⟩ := isL_v g9
  obtain rfl : w3 = (.long i3) := Option.some.inj ei3
  obtain ⟨i4, ei4⟩ := is_v g10
  obtain rfl : w4 = (.int i4) := Option.some.inj ei4
  obtain ⟨n, o, h1, h2, h3, _, L, rfl, ⟨rfl, N⟩, hq⟩ := rm0 l s _ hw tables_1 i0 i1 i2 i3 i4  s.heap s.heap.size (Nat.le_refl _)  p e ha hc hk s m _ below hf ((Spec.applies_iff_loose hf).mp happ).1 ⟨rfl, State.Warmed39.refl s, rfl⟩ trivial
  refine ⟨n, _, h1, h2, h3, hpost _ _ _ _ _ _ ⟨Cond.after_iff.mpr rfl, Cond.after_iff.mpr (eq_i res_at (Term.int_eval (1)) rfl), trivial⟩ ⟨hq.1, hq.2.1, (hq.2.2.sift fun y hy => Or.inr (N y hy)).mono (by decide) (by decide)⟩⟩
theorem main_1_1 : Claimed_1_1 := comes_1 fun _ _ _ _ _ _ h hF => ⟨h.1, hF⟩
theorem main_1_2 : Claimed_1_2 := comes_1 fun _ _ _ _ _ _ h hF => ⟨h.2.1, hF⟩
end Jvm.Pilot.@@N@@
namespace Jvm.Pilot.@@N@@
open Jvm Jvm.ClassFile Sem Op Lib Jvm.Free Jvm.Stand Jvm.Pilot.@@N@@.Jvm.D
/-! MADE BY PROGRAM (witnessworld.py) out of the Statement's table words and the real class files: 13 classes; the members and pool entries that the words name. The judged class is class 1, her method 2. -/
namespace start1
open Jvm.ClassFile
def u (s : String) : CpInfo := .utf8 (stringToUtf16 s)
/-- a pool by its gaps: so many unusable entries, then the entry; so many at the end -/
def gap : Nat → List CpInfo → List CpInfo
  | 0, r => r
  | n + 1, r => .unusable :: gap n r
def poolList (es : List (Nat × CpInfo)) (last : Nat) : List CpInfo := es.foldr (fun e r => gap e.1 (e.2 :: r)) (gap last [])
def pool (es : List (Nat × CpInfo)) (last : Nat) : Array CpInfo := ⟨poolList es last⟩
def fileOf (pool : Array CpInfo) (this : Nat) (attrs : Array Attribute := #[]) (ms : Array MethodInfo := #[]) (fl : Nat := 33) (sup : Nat := 0) (ifs : Array Nat := #[]) (fds : Array FieldInfo := #[]) : ClassFile where
  minorVersion := 0
  majorVersion := 65
  constantPool := pool
  accessFlags := fl
  thisClass := this
  superClass := sup
  interfaces := ifs
  fields := fds
  methods := ms
  attributes := attrs
def plain (name : String) (sup : Option ClassId) : Class where
  name := name
  kind := .ordinary
  loader := none
  accessFlags := 33
  super := sup
  interfaces := #[]
  cf := none
  fields := #[]
  methods := #[]
  instanceTypes := #[]
  staticTypes := #[]
  resolved := #[]
  callSites := []
  init := .initialized
  statics := none
  mirror := none

def pool0 : Array CpInfo := pool [(5, u "<init>"), (0, u "()V"), (1, .class_ 10), (1, u "java/lang/Object")] 113

def k0c0 : Code := { maxStack := 0, maxLocals := 1, code := object_method_1_code, exceptionTable := #[], attributes := #[] }
def k0m0 : Method := { name := "<init>", desc := "()V", sig := { parameters := [], returnType := none }, accessFlags := 1, code := some k0c0 }
/-- java/lang/Object -/
def k0 : Class := { plain "java/lang/Object" none with
  accessFlags := 33
  interfaces := #[]
  cf := some (fileOf pool0 8 #[] #[{ accessFlags := 1, nameIndex := 5, descriptorIndex := 6, attributes := #[] }] 33 0 #[] #[])
  fields := #[]
  methods := #[k0m0]
  instanceTypes := #[]
  staticTypes := #[]
  resolved := Array.replicate 124 none
  statics := none }

def pool1 : Array CpInfo := pool [(2, .class_ 4), (1, u "java/lang/Object"), (0, u "<init>"), (0, u "()V"), (2, .long 9223372036854775807), (1, .long 9223372036854775806), (1, .methodref 14 15), (0, .class_ 16), (0, .nameAndType 17 18), (0, u "com/example/unutkan/unutkan/core/FixedExpirationExpiresAtAfterReadPinLaw"), (0, u "lifetime"), (0, u "(J)J"), (0, .class_ 20), (0, u "com/example/unutkan/unutkan/core/FixedExpiration"), (0, .methodref 19 22), (0, .nameAndType 5 23), (0, u "(JJD)V"), (0, .methodref 19 25), (0, .nameAndType 26 27), (0, u "newNode"), (0, u "(Ljava/lang/Object;Ljava/lang/Object;)Lcom/example/unutkan/unutkan/core/Node;"), (0, .methodref 19 29), (0, .nameAndType 30 31), (0, u "lifetimeOfNew"), (0, u "(Lcom/example/unutkan/unutkan/core/Node;J)J"), (0, .methodref 19 33), (0, .nameAndType 34 35), (0, u "expiresAtAfterRead"), (0, u "(Lcom/example/unutkan/unutkan/core/Node;Ljava/lang/Object;JJ)J"), (0, .methodref 37 38), (0, .class_ 39), (0, .nameAndType 40 41), (0, u "java/lang/Math"), (0, u "min"), (0, u "(JJ)J"), (2, u "law"), (0, u "(JJJJI)Z")] 5

def k1m0 : Method := { name := "<init>", desc := "()V", sig := { parameters := [], returnType := none }, accessFlags := 1, code := none }
def k1c1 : Code := { maxStack := 6, maxLocals := 2, code := method_2_code, exceptionTable := #[], attributes := #[] }
def k1m1 : Method := { name := "lifetime", desc := "(J)J", sig := { parameters := [.long], returnType := some .long }, accessFlags := 10, code := some k1c1 }
def k1c2 : Code := { maxStack := 8, maxLocals := 30, code := code, exceptionTable := #[], attributes := #[] }
def k1m2 : Method := { name := "law", desc := "(JJJJI)Z", sig := { parameters := [.long, .long, .long, .long, .int], returnType := some .boolean }, accessFlags := 9, code := some k1c2 }
/-- com/example/unutkan/unutkan/core/FixedExpirationExpiresAtAfterReadPinLaw -/
def k1 : Class := { plain "com/example/unutkan/unutkan/core/FixedExpirationExpiresAtAfterReadPinLaw" (some 0) with
  accessFlags := 49
  interfaces := #[]
  cf := some (fileOf pool1 14 #[] #[{ accessFlags := 1, nameIndex := 5, descriptorIndex := 6, attributes := #[] }, { accessFlags := 10, nameIndex := 17, descriptorIndex := 18, attributes := #[] }, { accessFlags := 9, nameIndex := 44, descriptorIndex := 45, attributes := #[] }] 49 2 #[] #[])
  fields := #[]
  methods := #[k1m0, k1m1, k1m2]
  instanceTypes := #[]
  staticTypes := #[]
  resolved := Array.replicate 51 none
  statics := none }

def pool2 : Array CpInfo := pool [(6, .class_ 8), (1, u "com/example/unutkan/unutkan/core/Expiration"), (32, .class_ 42), (0, u "java/lang/Object")] 26

/-- com/example/unutkan/unutkan/core/Expiration -/
def k2 : Class := { plain "com/example/unutkan/unutkan/core/Expiration" (some 0) with
  accessFlags := 1537
  interfaces := #[]
  cf := some (fileOf pool2 6 #[] #[] 1537 41 #[] #[])
  fields := #[]
  methods := #[]
  instanceTypes := #[]
  staticTypes := #[]
  resolved := Array.replicate 69 none
  statics := none }

def pool3 : Array CpInfo := pool [(1, .methodref 2 3), (0, .class_ 4), (0, .nameAndType 5 6), (0, u "java/lang/Object"), (0, u "<init>"), (0, u "()V"), (0, .fieldref 8 9), (0, .class_ 10), (0, .nameAndType 11 12), (0, u "com/example/unutkan/unutkan/core/FixedExpiration"), (0, u "afterWrite"), (0, u "J"), (0, .fieldref 8 14), (0, .nameAndType 15 12), (0, u "afterAccess"), (0, .fieldref 8 17), (0, .nameAndType 18 19), (0, u "jitter"), (0, u "D"), (2, .long 9223372036854775807), (1, .fieldref 8 25), (0, .nameAndType 26 27), (0, u "boundByBoth"), (0, u "Z"), (0, .class_ 29), (0, u "com/example/unutkan/unutkan/core/FixedExpiration$WriteBoundNode"), (0, .methodref 28 31), (0, .nameAndType 5 32), (0, u "(Ljava/lang/Object;Ljava/lang/Object;)V"), (0, .class_ 34), (0, u "com/example/unutkan/unutkan/core/Node"), (0, .methodref 33 31), (0, .methodref 8 37), (0, .nameAndType 38 39), (0, u "lifetimeOfWrite"), (0, u "(Lcom/example/unutkan/unutkan/core/Node;J)J"), (0, .fieldref 28 41), (0, .nameAndType 42 12), (0, u "writeExpiresAt"), (0, .methodref 8 44), (0, .nameAndType 45 46), (0, u "jittered"), (0, u "(J)J"), (0, .methodref 48 49), (0, .class_ 50), (0, .nameAndType 51 52), (0, u "java/lang/Math"), (0, u "min"), (0, u "(JJ)J"), (14, .class_ 68), (0, u "com/example/unutkan/unutkan/core/Expiration"), (0, u "(JJD)V"), (3, u "newNode"), (0, u "(Ljava/lang/Object;Ljava/lang/Object;)Lcom/example/unutkan/unutkan/core/Node;"), (2, u "lifetimeOfNew"), (6, u "expiresAtAfterRead"), (0, u "(Lcom/example/unutkan/unutkan/core/Node;Ljava/lang/Object;JJ)J")] 7

def k3c0 : Code := { maxStack := 5, maxLocals := 7, code := prog_11_method_1_code, exceptionTable := #[], attributes := #[] }
def k3m0 : Method := { name := "<init>", desc := "(JJD)V", sig := { parameters := [.long, .long, .double], returnType := none }, accessFlags := 0, code := some k3c0 }
def k3c1 : Code := { maxStack := 4, maxLocals := 3, code := prog_11_method_2_code, exceptionTable := #[], attributes := #[] }
def k3m1 : Method := { name := "newNode", desc := "(Ljava/lang/Object;Ljava/lang/Object;)Lcom/example/unutkan/unutkan/core/Node;", sig := { parameters := [(.object "java/lang/Object"), (.object "java/lang/Object")], returnType := some (.object "com/example/unutkan/unutkan/core/Node") }, accessFlags := 1, code := some k3c1 }
def k3c2 : Code := { maxStack := 4, maxLocals := 4, code := prog_11_method_3_code, exceptionTable := #[], attributes := #[] }
def k3m2 : Method := { name := "lifetimeOfNew", desc := "(Lcom/example/unutkan/unutkan/core/Node;J)J", sig := { parameters := [(.object "com/example/unutkan/unutkan/core/Node"), .long], returnType := some .long }, accessFlags := 1, code := some k3c2 }
def k3c3 : Code := { maxStack := 4, maxLocals := 9, code := prog_11_method_6_code, exceptionTable := #[], attributes := #[] }
def k3m3 : Method := { name := "expiresAtAfterRead", desc := "(Lcom/example/unutkan/unutkan/core/Node;Ljava/lang/Object;JJ)J", sig := { parameters := [(.object "com/example/unutkan/unutkan/core/Node"), (.object "java/lang/Object"), .long, .long], returnType := some .long }, accessFlags := 1, code := some k3c3 }
def k3c4 : Code := { maxStack := 5, maxLocals := 6, code := prog_11_method_7_code, exceptionTable := #[], attributes := #[] }
def k3m4 : Method := { name := "lifetimeOfWrite", desc := "(Lcom/example/unutkan/unutkan/core/Node;J)J", sig := { parameters := [(.object "com/example/unutkan/unutkan/core/Node"), .long], returnType := some .long }, accessFlags := 2, code := some k3c4 }
def k3c5 : Code := { maxStack := 7, maxLocals := 5, code := prog_11_method_8_code, exceptionTable := #[], attributes := #[] }
def k3m5 : Method := { name := "jittered", desc := "(J)J", sig := { parameters := [.long], returnType := some .long }, accessFlags := 2, code := some k3c5 }
/-- com/example/unutkan/unutkan/core/FixedExpiration -/
def k3 : Class := { plain "com/example/unutkan/unutkan/core/FixedExpiration" (some 0) with
  accessFlags := 48
  interfaces := #[2]
  cf := some (fileOf pool3 8 #[.nestMembers #[28]] #[{ accessFlags := 0, nameIndex := 5, descriptorIndex := 69, attributes := #[] }, { accessFlags := 1, nameIndex := 73, descriptorIndex := 74, attributes := #[] }, { accessFlags := 1, nameIndex := 77, descriptorIndex := 39, attributes := #[] }, { accessFlags := 1, nameIndex := 84, descriptorIndex := 85, attributes := #[] }, { accessFlags := 2, nameIndex := 38, descriptorIndex := 39, attributes := #[] }, { accessFlags := 2, nameIndex := 45, descriptorIndex := 46, attributes := #[] }] 48 2 #[67] #[{ accessFlags := 18, nameIndex := 11, descriptorIndex := 12, attributes := #[] }, { accessFlags := 18, nameIndex := 15, descriptorIndex := 12, attributes := #[] }, { accessFlags := 18, nameIndex := 18, descriptorIndex := 19, attributes := #[] }, { accessFlags := 18, nameIndex := 26, descriptorIndex := 27, attributes := #[] }])
  fields := #[{ name := "afterWrite", type := .long, accessFlags := 18, slot := 0, constantValue := 0 }, { name := "afterAccess", type := .long, accessFlags := 18, slot := 1, constantValue := 0 }, { name := "jitter", type := .double, accessFlags := 18, slot := 2, constantValue := 0 }, { name := "boundByBoth", type := .boolean, accessFlags := 18, slot := 3, constantValue := 0 }]
  methods := #[k3m0, k3m1, k3m2, k3m3, k3m4, k3m5]
  instanceTypes := #[.long, .long, .double, .boolean]
  staticTypes := #[]
  resolved := Array.replicate 93 none
  statics := none }

def pool4 : Array CpInfo := pool [(1, .methodref 2 3), (0, .class_ 4), (0, .nameAndType 5 6), (0, u "java/lang/Object"), (0, u "<init>"), (0, u "()V"), (0, .fieldref 8 9), (0, .class_ 10), (0, .nameAndType 11 12), (0, u "com/example/unutkan/unutkan/core/Node"), (0, u "key"), (0, u "Ljava/lang/Object;"), (0, .fieldref 8 14), (0, .nameAndType 15 12), (0, u "value"), (2, u "VALUE"), (0, u "Ljava/lang/invoke/VarHandle;"), (12, u "EXPIRES_AT"), (17, u "expiresAt"), (16, u "tagged"), (0, u "Z"), (0, u "J"), (0, u "previousInPolicy"), (0, u "Lcom/example/unutkan/unutkan/core/Node;"), (1, u "nextInPolicy"), (0, u "policyState"), (0, u "B"), (0, u "previousInWheel"), (0, u "nextInWheel"), (0, u "wheelSlot"), (0, u "S"), (0, u "(Ljava/lang/Object;Ljava/lang/Object;)V")] 18

def k4c0 : Code := { maxStack := 2, maxLocals := 3, code := prog_18_method_1_code, exceptionTable := #[], attributes := #[] }
def k4m0 : Method := { name := "<init>", desc := "(Ljava/lang/Object;Ljava/lang/Object;)V", sig := { parameters := [(.object "java/lang/Object"), (.object "java/lang/Object")], returnType := none }, accessFlags := 0, code := some k4c0 }
/-- com/example/unutkan/unutkan/core/Node -/
def k4 : Class := { plain "com/example/unutkan/unutkan/core/Node" (some 0) with
  accessFlags := 32
  interfaces := #[]
  cf := some (fileOf pool4 8 #[] #[{ accessFlags := 0, nameIndex := 5, descriptorIndex := 80, attributes := #[] }] 32 2 #[] #[{ accessFlags := 26, nameIndex := 18, descriptorIndex := 19, attributes := #[] }, { accessFlags := 26, nameIndex := 32, descriptorIndex := 19, attributes := #[] }, { accessFlags := 16, nameIndex := 11, descriptorIndex := 12, attributes := #[] }, { accessFlags := 64, nameIndex := 15, descriptorIndex := 12, attributes := #[] }, { accessFlags := 64, nameIndex := 67, descriptorIndex := 68, attributes := #[] }, { accessFlags := 64, nameIndex := 50, descriptorIndex := 69, attributes := #[] }, { accessFlags := 0, nameIndex := 70, descriptorIndex := 71, attributes := #[] }, { accessFlags := 0, nameIndex := 73, descriptorIndex := 71, attributes := #[] }, { accessFlags := 0, nameIndex := 74, descriptorIndex := 75, attributes := #[] }, { accessFlags := 0, nameIndex := 76, descriptorIndex := 71, attributes := #[] }, { accessFlags := 0, nameIndex := 77, descriptorIndex := 71, attributes := #[] }, { accessFlags := 0, nameIndex := 78, descriptorIndex := 79, attributes := #[] }])
  fields := #[{ name := "VALUE", type := (.object "java/lang/invoke/VarHandle"), accessFlags := 26, slot := 0, constantValue := 0 }, { name := "EXPIRES_AT", type := (.object "java/lang/invoke/VarHandle"), accessFlags := 26, slot := 1, constantValue := 0 }, { name := "key", type := (.object "java/lang/Object"), accessFlags := 16, slot := 0, constantValue := 0 }, { name := "value", type := (.object "java/lang/Object"), accessFlags := 64, slot := 1, constantValue := 0 }, { name := "tagged", type := .boolean, accessFlags := 64, slot := 2, constantValue := 0 }, { name := "expiresAt", type := .long, accessFlags := 64, slot := 3, constantValue := 0 }, { name := "previousInPolicy", type := (.object "com/example/unutkan/unutkan/core/Node"), accessFlags := 0, slot := 4, constantValue := 0 }, { name := "nextInPolicy", type := (.object "com/example/unutkan/unutkan/core/Node"), accessFlags := 0, slot := 5, constantValue := 0 }, { name := "policyState", type := .byte, accessFlags := 0, slot := 6, constantValue := 0 }, { name := "previousInWheel", type := (.object "com/example/unutkan/unutkan/core/Node"), accessFlags := 0, slot := 7, constantValue := 0 }, { name := "nextInWheel", type := (.object "com/example/unutkan/unutkan/core/Node"), accessFlags := 0, slot := 8, constantValue := 0 }, { name := "wheelSlot", type := .short, accessFlags := 0, slot := 9, constantValue := 0 }]
  methods := #[k4m0]
  instanceTypes := #[(.object "java/lang/Object"), (.object "java/lang/Object"), .boolean, .long, (.object "com/example/unutkan/unutkan/core/Node"), (.object "com/example/unutkan/unutkan/core/Node"), .byte, (.object "com/example/unutkan/unutkan/core/Node"), (.object "com/example/unutkan/unutkan/core/Node"), .short]
  staticTypes := #[(.object "java/lang/invoke/VarHandle"), (.object "java/lang/invoke/VarHandle")]
  resolved := Array.replicate 99 none
  statics := none }

def pool5 : Array CpInfo := pool [(1, .class_ 2), (0, u "java/lang/Math"), (1, .class_ 6), (1, u "java/lang/Object"), (0, u "<init>"), (0, u "()V"), (89, .class_ 100), (1, u "java/lang/Math$RandomNumberGeneratorHolder"), (20, u "(JJ)J"), (50, u "negativeZeroFloatBits"), (0, u "J"), (2, u "negativeZeroDoubleBits"), (24, u "min"), (43, u "$assertionsDisabled"), (0, u "Z"), (91, u "twoToTheDoubleScaleDown"), (0, u "D"), (4, u "twoToTheDoubleScaleUp"), (9, u "E"), (3, u "PI"), (2, u "TAU"), (2, u "DEGREES_TO_RADIANS"), (0, u "RADIANS_TO_DEGREES")] 94

def k5m0 : Method := { name := "<init>", desc := "()V", sig := { parameters := [], returnType := none }, accessFlags := 2, code := none }
def k5c1 : Code := { maxStack := 4, maxLocals := 4, code := jdk_29_method_70_code, exceptionTable := #[], attributes := #[] }
def k5m1 : Method := { name := "min", desc := "(JJ)J", sig := { parameters := [.long, .long], returnType := some .long }, accessFlags := 9, code := some k5c1 }
/-- java/lang/Math -/
def k5 : Class := { plain "java/lang/Math" (some 0) with
  accessFlags := 49
  interfaces := #[]
  cf := some (fileOf pool5 1 #[.nestMembers #[98]] #[{ accessFlags := 2, nameIndex := 7, descriptorIndex := 8, attributes := #[] }, { accessFlags := 9, nameIndex := 201, descriptorIndex := 121, attributes := #[] }] 49 4 #[] #[{ accessFlags := 25, nameIndex := 354, descriptorIndex := 339, attributes := #[] }, { accessFlags := 25, nameIndex := 358, descriptorIndex := 339, attributes := #[] }, { accessFlags := 25, nameIndex := 361, descriptorIndex := 339, attributes := #[] }, { accessFlags := 26, nameIndex := 364, descriptorIndex := 339, attributes := #[] }, { accessFlags := 26, nameIndex := 365, descriptorIndex := 339, attributes := #[] }, { accessFlags := 26, nameIndex := 172, descriptorIndex := 173, attributes := #[] }, { accessFlags := 26, nameIndex := 176, descriptorIndex := 173, attributes := #[] }, { accessFlags := 8, nameIndex := 344, descriptorIndex := 339, attributes := #[] }, { accessFlags := 8, nameIndex := 338, descriptorIndex := 339, attributes := #[] }, { accessFlags := 4120, nameIndex := 245, descriptorIndex := 246, attributes := #[] }])
  fields := #[{ name := "E", type := .double, accessFlags := 25, slot := 0, constantValue := 0 }, { name := "PI", type := .double, accessFlags := 25, slot := 1, constantValue := 0 }, { name := "TAU", type := .double, accessFlags := 25, slot := 2, constantValue := 0 }, { name := "DEGREES_TO_RADIANS", type := .double, accessFlags := 26, slot := 3, constantValue := 0 }, { name := "RADIANS_TO_DEGREES", type := .double, accessFlags := 26, slot := 4, constantValue := 0 }, { name := "negativeZeroFloatBits", type := .long, accessFlags := 26, slot := 5, constantValue := 0 }, { name := "negativeZeroDoubleBits", type := .long, accessFlags := 26, slot := 6, constantValue := 0 }, { name := "twoToTheDoubleScaleUp", type := .double, accessFlags := 8, slot := 7, constantValue := 0 }, { name := "twoToTheDoubleScaleDown", type := .double, accessFlags := 8, slot := 8, constantValue := 0 }, { name := "$assertionsDisabled", type := .boolean, accessFlags := 4120, slot := 9, constantValue := 0 }]
  methods := #[k5m0, k5m1]
  instanceTypes := #[]
  staticTypes := #[.double, .double, .double, .double, .double, .long, .long, .double, .double, .boolean]
  resolved := Array.replicate 460 none
  statics := none }

def pool6 : Array CpInfo := pool [(1, .methodref 2 3), (0, .class_ 4), (0, .nameAndType 5 6), (0, u "com/example/unutkan/unutkan/core/Node"), (0, u "<init>"), (0, u "(Ljava/lang/Object;Ljava/lang/Object;)V"), (0, .class_ 8), (0, u "com/example/unutkan/unutkan/core/FixedExpiration$WriteBoundNode"), (0, u "writeExpiresAt"), (0, u "J"), (8, .class_ 20), (0, u "com/example/unutkan/unutkan/core/FixedExpiration")] 2

def k6c0 : Code := { maxStack := 3, maxLocals := 3, code := prog_12_method_1_code, exceptionTable := #[], attributes := #[] }
def k6m0 : Method := { name := "<init>", desc := "(Ljava/lang/Object;Ljava/lang/Object;)V", sig := { parameters := [(.object "java/lang/Object"), (.object "java/lang/Object")], returnType := none }, accessFlags := 0, code := some k6c0 }
/-- com/example/unutkan/unutkan/core/FixedExpiration$WriteBoundNode -/
def k6 : Class := { plain "com/example/unutkan/unutkan/core/FixedExpiration$WriteBoundNode" (some 4) with
  accessFlags := 48
  interfaces := #[]
  cf := some (fileOf pool6 7 #[.nestHost 19] #[{ accessFlags := 0, nameIndex := 5, descriptorIndex := 6, attributes := #[] }] 48 2 #[] #[{ accessFlags := 64, nameIndex := 9, descriptorIndex := 10, attributes := #[] }])
  fields := #[{ name := "writeExpiresAt", type := .long, accessFlags := 64, slot := 10, constantValue := 0 }]
  methods := #[k6m0]
  instanceTypes := #[(.object "java/lang/Object"), (.object "java/lang/Object"), .boolean, .long, (.object "com/example/unutkan/unutkan/core/Node"), (.object "com/example/unutkan/unutkan/core/Node"), .byte, (.object "com/example/unutkan/unutkan/core/Node"), (.object "com/example/unutkan/unutkan/core/Node"), .short, .long]
  staticTypes := #[]
  resolved := Array.replicate 23 none
  statics := none }

def pool7 : Array CpInfo := pool [(1, u "java/lang/Cloneable"), (0, .class_ 1), (0, u "java/lang/Object"), (0, .class_ 3)] 3

/-- java/lang/Cloneable -/
def k7 : Class := { plain "java/lang/Cloneable" (some 0) with
  accessFlags := 1537
  interfaces := #[]
  cf := some (fileOf pool7 2 #[] #[] 1537 4 #[] #[])
  fields := #[]
  methods := #[]
  instanceTypes := #[]
  staticTypes := #[]
  resolved := Array.replicate 8 none
  statics := none }

def pool8 : Array CpInfo := pool [(1, u "java/io/Serializable"), (0, .class_ 1), (0, u "java/lang/Object"), (0, .class_ 3)] 3

/-- java/io/Serializable -/
def k8 : Class := { plain "java/io/Serializable" (some 0) with
  accessFlags := 1537
  interfaces := #[]
  cf := some (fileOf pool8 2 #[] #[] 1537 4 #[] #[])
  fields := #[]
  methods := #[]
  instanceTypes := #[]
  staticTypes := #[]
  resolved := Array.replicate 8 none
  statics := none }

/-- the primitive byte -/
def k9 : Class := { plain "byte" none with kind := .primitive 'B', accessFlags := 0x411 }
/-- [B -/
def k10 : Class := { plain "[B" (some 0) with kind := .array 9 .byte, interfaces := #[7, 8], accessFlags := 1041 }

/-- the primitive int -/
def k11 : Class := { plain "int" none with kind := .primitive 'I', accessFlags := 0x411 }
/-- [I -/
def k12 : Class := { plain "[I" (some 0) with kind := .array 11 .int, interfaces := #[7, 8], accessFlags := 1041 }

def heap : Heap := #[]
def classes : Array Class := #[k0, k1, k2, k3, k4, k5, k6, k7, k8, k9, k10, k11, k12]
def interned : List (Array UInt16 × Addr) := []
def slotsUsed : Nat := 0
def theMethod : MethodId := ⟨1, 2⟩
def args0 : Array Value := #[.long 5, .long 6, .long 7, .long 8, .int 3]
def aboutOver (below : List Frame) : State where
  vm := { classes := classes, interned := interned.toArray }
  heap := heap
  slotsUsed := slotsUsed
  threads := #[{ frames := .invoking theMethod args0 :: below }]
def below0 : List Frame := [.native { method := ⟨0, 0⟩, args := #[] }]
def about1 : State := aboutOver below0
def p0 : Program := .bare "" "" ""
def e0 : Env := launch0.env 0 0 0
theorem w_frames : about1.frames = Frame.invoking theMethod args0 :: below0 := rfl
set_option maxRecDepth 65536 in
theorem w_args : argsFit about1.vm theMethod args0 = true := by decide +kernel
set_option maxRecDepth 65536 in
theorem w_heap : heapFits about1 = true := by decide +kernel
set_option maxRecDepth 65536 in
theorem w_runnable : about1.curStatus? = some .runnable := by decide +kernel
set_option maxRecDepth 65536 in
theorem w_alone : about1.alone = true := by decide +kernel
set_option maxRecDepth 65536 in
theorem w_named : about1.methodNamed? x = some theMethod := by decide +kernel
set_option maxRecDepth 65536 in
theorem w_hears : about1.hears theMethod below0 = true := by decide +kernel
set_option maxRecDepth 65536 in
theorem w_ripe : about1.ripe theMethod args0 below0 = true := by decide +kernel
theorem w_running : about1.status = .running := rfl
set_option maxRecDepth 65536 in
theorem w_room : about1.hasRoom e0.platform room_1 = true :=
  launch0.hasRoom_least _ room_1 (by decide +kernel) (by decide +kernel) (by decide +kernel) (by decide +kernel) (by decide +kernel) (by decide +kernel)
theorem allAtoms_all (ts : List Jvm.Cond) (a : Array Jvm.Value) (st : Jvm.State) : (allAtoms ts).before a st = ts.all (fun c => c.before a st) := by
  induction ts with
  | nil => rfl
  | cons c t ih =>
    show (Jvm.Cond.and c (allAtoms t)).before a st = _
    rw [Jvm.Cond.before_and, ih, List.all_cons]
def words1 : List Jvm.Cond := Jvm.Cond.code x code maxLocals ret :: tables_1
/-- a 'code' word, met by the world's own term for the bytes: nothing is compared byte by byte -/
theorem code_word {y : MethodName} {bytes : ByteArray} {mx : Nat} {rt : Option FieldType} {a : Array Value} {s : State} {m : MethodId} {meth : Method} {c : Code} (h1 : s.methodNamed? y = some m) (h2 : s.vm.method? m = some meth) (h3 : meth.code = some c) (h4 : c.code = bytes)
    (h5 : (c.maxLocals == mx && c.exceptionTable.isEmpty && decide (c.maxStack ≤ mostOperands) && decide (meth.sig.returnType = rt) && !meth.locks && decide (parseMethodDescriptor y.desc = some meth.sig)) = true) : (Jvm.Cond.code y bytes mx rt).before a s = true := by
  simp only [Bool.and_eq_true, beq_iff_eq, Bool.not_eq_true', decide_eq_true_eq] at h5
  obtain ⟨⟨⟨⟨⟨g1, g2⟩, g3⟩, g4⟩, g5⟩, g6⟩ := h5
  simp [Cond.before, Cond.holds, Cond.value, h1, h2, h3, h4, g1, g2, g3, g4, g5, g6]
def isCode : Jvm.Cond → Bool
  | .code _ _ _ _ => true
  | _ => false
theorem all_split {L : List Jvm.Cond} {P : Jvm.Cond → Bool} (h1 : L.all (fun c => isCode c || P c) = true) (h2 : ∀ c ∈ L.filter isCode, P c = true) : L.all P = true := by
  refine List.all_eq_true.mpr fun c hc => ?_
  have h := List.all_eq_true.mp h1 c hc
  rcases Bool.eq_false_or_eq_true (isCode c) with hi | hi
  · exact h2 c (List.mem_filter.mpr ⟨hc, hi⟩)
  · simpa [hi] using h
set_option maxRecDepth 65536 in
theorem w_c0 : (Jvm.Cond.code x code maxLocals ret).before args0 about1 = true := code_word (m := ⟨1, 2⟩) (meth := k1m2) (c := k1c2) (by decide +kernel) rfl rfl rfl (by decide +kernel)
set_option maxRecDepth 65536 in
theorem w_c1 : (Jvm.Cond.code ({ cls := "com/example/unutkan/unutkan/core/FixedExpirationExpiresAtAfterReadPinLaw", name := "lifetime", desc := "(J)J" } : Jvm.MethodName) method_2_code (2 : Nat) (Option.some Jvm.ClassFile.FieldType.long)).before args0 about1 = true := code_word (m := ⟨1, 1⟩) (meth := k1m1) (c := k1c1) (by decide +kernel) rfl rfl rfl (by decide +kernel)
set_option maxRecDepth 65536 in
theorem w_c2 : (Jvm.Cond.code ({ cls := "com/example/unutkan/unutkan/core/FixedExpiration", name := "<init>", desc := "(JJD)V" } : Jvm.MethodName) prog_11_method_1_code (7 : Nat) (Option.none : Option Jvm.ClassFile.FieldType)).before args0 about1 = true := code_word (m := ⟨3, 0⟩) (meth := k3m0) (c := k3c0) (by decide +kernel) rfl rfl rfl (by decide +kernel)
set_option maxRecDepth 65536 in
theorem w_c3 : (Jvm.Cond.code ({ cls := "java/lang/Object", name := "<init>", desc := "()V" } : Jvm.MethodName) object_method_1_code (1 : Nat) (Option.none : Option Jvm.ClassFile.FieldType)).before args0 about1 = true := code_word (m := ⟨0, 0⟩) (meth := k0m0) (c := k0c0) (by decide +kernel) rfl rfl rfl (by decide +kernel)
set_option maxRecDepth 65536 in
theorem w_c4 : (Jvm.Cond.code ({ cls := "com/example/unutkan/unutkan/core/FixedExpiration", name := "newNode", desc := "(Ljava/lang/Object;Ljava/lang/Object;)Lcom/example/unutkan/unutkan/core/Node;" } : Jvm.MethodName) prog_11_method_2_code (3 : Nat) (Option.some (Jvm.ClassFile.FieldType.object "com/example/unutkan/unutkan/core/Node"))).before args0 about1 = true := code_word (m := ⟨3, 1⟩) (meth := k3m1) (c := k3c1) (by decide +kernel) rfl rfl rfl (by decide +kernel)
set_option maxRecDepth 65536 in
theorem w_c5 : (Jvm.Cond.code ({ cls := "com/example/unutkan/unutkan/core/Node", name := "<init>", desc := "(Ljava/lang/Object;Ljava/lang/Object;)V" } : Jvm.MethodName) prog_18_method_1_code (3 : Nat) (Option.none : Option Jvm.ClassFile.FieldType)).before args0 about1 = true := code_word (m := ⟨4, 0⟩) (meth := k4m0) (c := k4c0) (by decide +kernel) rfl rfl rfl (by decide +kernel)
set_option maxRecDepth 65536 in
theorem w_c6 : (Jvm.Cond.code ({ cls := "com/example/unutkan/unutkan/core/FixedExpiration", name := "lifetimeOfNew", desc := "(Lcom/example/unutkan/unutkan/core/Node;J)J" } : Jvm.MethodName) prog_11_method_3_code (4 : Nat) (Option.some Jvm.ClassFile.FieldType.long)).before args0 about1 = true := code_word (m := ⟨3, 2⟩) (meth := k3m2) (c := k3c2) (by decide +kernel) rfl rfl rfl (by decide +kernel)
set_option maxRecDepth 65536 in
theorem w_c7 : (Jvm.Cond.code ({ cls := "com/example/unutkan/unutkan/core/FixedExpiration", name := "lifetimeOfWrite", desc := "(Lcom/example/unutkan/unutkan/core/Node;J)J" } : Jvm.MethodName) prog_11_method_7_code (6 : Nat) (Option.some Jvm.ClassFile.FieldType.long)).before args0 about1 = true := code_word (m := ⟨3, 4⟩) (meth := k3m4) (c := k3c4) (by decide +kernel) rfl rfl rfl (by decide +kernel)
set_option maxRecDepth 65536 in
theorem w_c8 : (Jvm.Cond.code ({ cls := "com/example/unutkan/unutkan/core/FixedExpiration", name := "jittered", desc := "(J)J" } : Jvm.MethodName) prog_11_method_8_code (5 : Nat) (Option.some Jvm.ClassFile.FieldType.long)).before args0 about1 = true := code_word (m := ⟨3, 5⟩) (meth := k3m5) (c := k3c5) (by decide +kernel) rfl rfl rfl (by decide +kernel)
set_option maxRecDepth 65536 in
theorem w_c9 : (Jvm.Cond.code ({ cls := "java/lang/Math", name := "min", desc := "(JJ)J" } : Jvm.MethodName) jdk_29_method_70_code (4 : Nat) (Option.some Jvm.ClassFile.FieldType.long)).before args0 about1 = true := code_word (m := ⟨5, 1⟩) (meth := k5m1) (c := k5c1) (by decide +kernel) rfl rfl rfl (by decide +kernel)
set_option maxRecDepth 65536 in
theorem w_c10 : (Jvm.Cond.code ({ cls := "com/example/unutkan/unutkan/core/FixedExpiration", name := "expiresAtAfterRead", desc := "(Lcom/example/unutkan/unutkan/core/Node;Ljava/lang/Object;JJ)J" } : Jvm.MethodName) prog_11_method_6_code (9 : Nat) (Option.some Jvm.ClassFile.FieldType.long)).before args0 about1 = true := code_word (m := ⟨3, 3⟩) (meth := k3m3) (c := k3c3) (by decide +kernel) rfl rfl rfl (by decide +kernel)
set_option maxRecDepth 65536 in
theorem w_c11 : (Jvm.Cond.code ({ cls := "com/example/unutkan/unutkan/core/FixedExpiration$WriteBoundNode", name := "<init>", desc := "(Ljava/lang/Object;Ljava/lang/Object;)V" } : Jvm.MethodName) prog_12_method_1_code (3 : Nat) (Option.none : Option Jvm.ClassFile.FieldType)).before args0 about1 = true := code_word (m := ⟨6, 0⟩) (meth := k6m0) (c := k6c0) (by decide +kernel) rfl rfl rfl (by decide +kernel)
def codes1 : List Jvm.Cond := [Jvm.Cond.code x code maxLocals ret, Jvm.Cond.code ({ cls := "com/example/unutkan/unutkan/core/FixedExpirationExpiresAtAfterReadPinLaw", name := "lifetime", desc := "(J)J" } : Jvm.MethodName) method_2_code (2 : Nat) (Option.some Jvm.ClassFile.FieldType.long), Jvm.Cond.code ({ cls := "com/example/unutkan/unutkan/core/FixedExpiration", name := "<init>", desc := "(JJD)V" } : Jvm.MethodName) prog_11_method_1_code (7 : Nat) (Option.none : Option Jvm.ClassFile.FieldType), Jvm.Cond.code ({ cls := "java/lang/Object", name := "<init>", desc := "()V" } : Jvm.MethodName) object_method_1_code (1 : Nat) (Option.none : Option Jvm.ClassFile.FieldType), Jvm.Cond.code ({ cls := "com/example/unutkan/unutkan/core/FixedExpiration", name := "newNode", desc := "(Ljava/lang/Object;Ljava/lang/Object;)Lcom/example/unutkan/unutkan/core/Node;" } : Jvm.MethodName) prog_11_method_2_code (3 : Nat) (Option.some (Jvm.ClassFile.FieldType.object "com/example/unutkan/unutkan/core/Node")), Jvm.Cond.code ({ cls := "com/example/unutkan/unutkan/core/Node", name := "<init>", desc := "(Ljava/lang/Object;Ljava/lang/Object;)V" } : Jvm.MethodName) prog_18_method_1_code (3 : Nat) (Option.none : Option Jvm.ClassFile.FieldType), Jvm.Cond.code ({ cls := "com/example/unutkan/unutkan/core/FixedExpiration", name := "lifetimeOfNew", desc := "(Lcom/example/unutkan/unutkan/core/Node;J)J" } : Jvm.MethodName) prog_11_method_3_code (4 : Nat) (Option.some Jvm.ClassFile.FieldType.long), Jvm.Cond.code ({ cls := "com/example/unutkan/unutkan/core/FixedExpiration", name := "lifetimeOfWrite", desc := "(Lcom/example/unutkan/unutkan/core/Node;J)J" } : Jvm.MethodName) prog_11_method_7_code (6 : Nat) (Option.some Jvm.ClassFile.FieldType.long), Jvm.Cond.code ({ cls := "com/example/unutkan/unutkan/core/FixedExpiration", name := "jittered", desc := "(J)J" } : Jvm.MethodName) prog_11_method_8_code (5 : Nat) (Option.some Jvm.ClassFile.FieldType.long), Jvm.Cond.code ({ cls := "java/lang/Math", name := "min", desc := "(JJ)J" } : Jvm.MethodName) jdk_29_method_70_code (4 : Nat) (Option.some Jvm.ClassFile.FieldType.long), Jvm.Cond.code ({ cls := "com/example/unutkan/unutkan/core/FixedExpiration", name := "expiresAtAfterRead", desc := "(Lcom/example/unutkan/unutkan/core/Node;Ljava/lang/Object;JJ)J" } : Jvm.MethodName) prog_11_method_6_code (9 : Nat) (Option.some Jvm.ClassFile.FieldType.long), Jvm.Cond.code ({ cls := "com/example/unutkan/unutkan/core/FixedExpiration$WriteBoundNode", name := "<init>", desc := "(Ljava/lang/Object;Ljava/lang/Object;)V" } : Jvm.MethodName) prog_12_method_1_code (3 : Nat) (Option.none : Option Jvm.ClassFile.FieldType)]
set_option maxRecDepth 65536 in
theorem codes_eq : words1.filter isCode = codes1 := rfl
theorem w_codes : ∀ c ∈ words1.filter isCode, c.before args0 about1 = true := by
  rw [codes_eq]
  intro c hc
  simp only [codes1, List.mem_cons, List.not_mem_nil, or_false] at hc
  rcases hc with rfl | rfl | rfl | rfl | rfl | rfl | rfl | rfl | rfl | rfl | rfl | rfl
  · exact w_c0
  · exact w_c1
  · exact w_c2
  · exact w_c3
  · exact w_c4
  · exact w_c5
  · exact w_c6
  · exact w_c7
  · exact w_c8
  · exact w_c9
  · exact w_c10
  · exact w_c11
set_option maxRecDepth 65536 in
theorem w_t1 : (words1.take 24).all (fun c => isCode c || c.before args0 about1) = true := by decide +kernel
set_option maxRecDepth 65536 in
theorem w_t2 : ((words1.drop 24).take 24).all (fun c => isCode c || c.before args0 about1) = true := by decide +kernel
set_option maxRecDepth 65536 in
theorem w_t3 : (((words1.drop 24).drop 24).take 24).all (fun c => isCode c || c.before args0 about1) = true := by decide +kernel
set_option maxRecDepth 65536 in
theorem w_t4 : (((words1.drop 24).drop 24).drop 24).all (fun c => isCode c || c.before args0 about1) = true := by decide +kernel
theorem w_tables : (allAtoms (Jvm.Cond.code x code maxLocals ret :: tables_1)).before args0 about1 = true := by
  rw [allAtoms_all]
  show words1.all (fun c => c.before args0 about1) = true
  refine all_split ?_ w_codes
  rw [← List.take_append_drop 24 words1, List.all_append, w_t1, ← List.take_append_drop 24 (words1.drop 24), List.all_append, w_t2, ← List.take_append_drop 24 ((words1.drop 24).drop 24), List.all_append, w_t3, w_t4]
  rfl
set_option maxRecDepth 65536 in
theorem w_case : (Jvm.Cond.and given_1 narrow_1).before args0 about1 = true := by decide +kernel
theorem w_applies : (headSpec (Jvm.Cond.code x code maxLocals ret :: tables_1) room_1).applies x e0.platform about1 = true :=
  (Spec.applies_iff w_frames).mpr ⟨w_running, w_runnable, w_alone, w_named, w_hears, w_ripe, w_room, w_tables⟩
theorem atStart : AtStart classFile x code maxLocals ret World_1 tables_1 room_1 Calls_1 rest_1 Pre_1 launch0 p0 e0 about1 theMethod args0 below0 :=
  ⟨lists_1, trivial, launch0.admits_env _ _ _, launch0.least_env, fairChoices_fair.cas, fairChoices_fair.clock, w_frames, w_args, w_heap, w_applies, trivial, trivial, w_case⟩
end start1
theorem witness_1 : WitnessClaimed_1 := ⟨start1.p0, start1.e0, start1.about1, start1.theMethod, start1.args0, start1.below0, start1.atStart⟩
end Jvm.Pilot.@@N@@
