import JvmDerived
import JvmDerived.Pilot.@@N@@Statement
import JvmDerived.Pilot.@@N@@Code
set_option linter.unusedVariables false
set_option linter.unusedSimpArgs false
namespace Jvm.RoadKit
open Sem ClassFile Op Lib Jvm.Stand Jvm.Free Jvm.LawKit
section New
variable {p : Program} {l : Launch} {e : Env} {R : Room} {s : State} {m : MethodId} {args : Array Value} {below : List Frame} {meth : Method} {c : Code} {T : State} {locs : List Loc} {cells slots : Nat}
theorem retI (X : Stand p l e R s m args below meth c T locs cells slots) (hx : p.tables.exec = Jvm.exec) {pc : Nat} {Ls : Array Slot} {z : Int32} {rest : List Value} (hret : meth.sig.returnType = some .int) (hd : decode c.code pc = .ok (.ireturn, 1)) {fs : List Frame}
    (hl : ∀ (f : JFrame) (acts : List Action), f.method = m → f.locked = none → f.entered = [] → (doReturn e (T.setTop f) acts (some (.int z))).1 = T.setFrames fs) : Steps p.tables e below (T.setTop (mkF m pc Ls (.int z :: rest))) (T.setFrames fs) := by
  have hm' : T.vm.method? m = some meth := X.method'
  have hn : narrow .int (.int z) = .int z := rfl
  show Steps p.tables e below (T.setTop { method := m, pc := pc, locals := Ls, stack := _ :: rest, locked := none }) _
  jvm_step X.here [X.here.top, hx, hd, hm', hret, hn]
  first | (intro acts; rw [hl _ acts rfl rfl rfl]) | rw [hl _ _ rfl rfl rfl]
  exact Steps.refl _
end New
/-! the walk in continuation form: from the state T at the frame f the run ends by a return, as Q says -/
section Own
variable {p : Program} {l : Launch} {e : Env} {R : Room} {s : State} {m : MethodId} {args : Array Value} {below : List Frame} {meth : Method} {c : Code} {T T' : State} {locs : List Loc} {cells slots k n : Nat} {Q : Option Value → Heap → List Loc → Prop} {f f' : JFrame}
def ownE (p : Program) (e : Env) (below : List Frame) (s : State) (Q : Option Value → Heap → List Loc → Prop) (k n : Nat) (T : State) (f : JFrame) : Prop :=
  ∃ s₂ o, Steps p.tables e below (T.setTop f) s₂ ∧ s₂.status = .running ∧ Ended s₂ below o ∧ ∃ v L, o = .returned v ∧ Q v s₂.heap L ∧ FrameEnd s o s₂ L k n
theorem ownE.go (g : ∀ t, Steps p.tables e below (T'.setTop f') t → Steps p.tables e below (T.setTop f) t) (h : ownE p e below s Q k n T' f') : ownE p e below s Q k n T f := by
  obtain ⟨s₂, o, h1, r⟩ := h
  exact ⟨s₂, o, g _ h1, r⟩
theorem ownE.goS (g : Steps p.tables e below (T.setTop f) (T'.setTop f')) (h : ownE p e below s Q k n T' f') : ownE p e below s Q k n T f := by
  obtain ⟨s₂, o, h1, r⟩ := h
  exact ⟨s₂, o, g.trans h1, r⟩
theorem ownE.ret (X : Stand p l e R s m args below meth c T locs cells slots) {v : Option Value} (hlk : meth.locks = false) (hv : meth.sig.returnType = none → v = none)
    (st : ∀ fs, (∀ (f : JFrame) (acts : List Action), f.method = m → f.locked = none → f.entered = [] → (doReturn e (T.setTop f) acts v).1 = T.setFrames fs) → Steps p.tables e below (T.setTop f) (T.setFrames fs))
    (hQ : Q v T.heap locs) (hk : cells ≤ k) (hn : slots ≤ n) : ownE p e below s Q k n T f := by
  obtain ⟨fs, hr, hrun, hended, hW, hsame⟩ := X.leave (v := v) hv hlk
  exact ⟨_, _, st fs hr, hrun, hended, _, _, rfl, hQ, ⟨_, rfl⟩, hW, hsame.mono hk hn⟩
theorem ownE.retI (X : Stand p l e R s m args below meth c T locs cells slots) (hx : p.tables.exec = Jvm.exec) (hlk : meth.locks = false) {pc : Nat} {Ls : Array Slot} {z : Int32} {rest : List Value} (hret : meth.sig.returnType = some .int) (hd : decode c.code pc = .ok (.ireturn, 1))
    (hQ : Q (some (.int z)) T.heap locs) (hk : cells ≤ k) (hn : slots ≤ n) : ownE p e below s Q k n T (mkF m pc Ls (.int z :: rest)) :=
  ownE.ret X hlk (fun h => by rw [hret] at h; cases h) (fun fs hr => Jvm.RoadKit.retI X hx hret hd hr) hQ hk hn
theorem ownE.retN (X : Stand p l e R s m args below meth c T locs cells slots) (hx : p.tables.exec = Jvm.exec) (hlk : meth.locks = false) {pc : Nat} {Ls : Array Slot} {z : Int32} {rest : List Value} {t : FieldType} (hret : meth.sig.returnType = some t) (ht : t = .boolean ∨ t = .byte ∨ t = .char ∨ t = .short) (hd : decode c.code pc = .ok (.ireturn, 1))
    (hQ : Q (some (.int (nar t z))) T.heap locs) (hk : cells ≤ k) (hn : slots ≤ n) : ownE p e below s Q k n T (mkF m pc Ls (.int z :: rest)) :=
  ownE.ret X hlk (fun h => by rw [hret] at h; cases h) (fun fs hr => Jvm.RoadKit.retN X hx hret ht hd hr) hQ hk hn
theorem ownE.retL (X : Stand p l e R s m args below meth c T locs cells slots) (hx : p.tables.exec = Jvm.exec) (hlk : meth.locks = false) {pc : Nat} {Ls : Array Slot} {z : Int64} {rest : List Value} (hret : meth.sig.returnType = some .long) (hd : decode c.code pc = .ok (.lreturn, 1))
    (hQ : Q (some (.long z)) T.heap locs) (hk : cells ≤ k) (hn : slots ≤ n) : ownE p e below s Q k n T (mkF m pc Ls (.long z :: rest)) :=
  ownE.ret X hlk (fun h => by rw [hret] at h; cases h) (fun fs hr => Jvm.RoadKit.retOut X hx hret rfl (Or.inr (Or.inl ⟨rfl, rfl, z, rfl⟩)) hd hr) hQ hk hn
theorem ownE.retA (X : Stand p l e R s m args below meth c T locs cells slots) (hx : p.tables.exec = Jvm.exec) (hlk : meth.locks = false) {pc : Nat} {Ls : Array Slot} {z : Value} {rest : List Value} {t : FieldType} (hret : meth.sig.returnType = some t) (ht : t.isReference = true) (hz : z.isRef = true) (hn' : narrow t z = z) (hd : decode c.code pc = .ok (.areturn, 1))
    (hQ : Q (some z) T.heap locs) (hk : cells ≤ k) (hn : slots ≤ n) : ownE p e below s Q k n T (mkF m pc Ls (z :: rest)) :=
  ownE.ret X hlk (fun h => by rw [hret] at h; cases h) (fun fs hr => Jvm.RoadKit.retOut X hx hret hn' (Or.inr (Or.inr (Or.inr (Or.inr ⟨rfl, ht, hz⟩)))) hd hr) hQ hk hn
theorem ownE.retV (X : Stand p l e R s m args below meth c T locs cells slots) (hx : p.tables.exec = Jvm.exec) (hlk : meth.locks = false) {pc : Nat} {Ls : Array Slot} (hret : meth.sig.returnType = none) (hd : decode c.code pc = .ok (.return_, 1))
    (hQ : Q none T.heap locs) (hk : cells ≤ k) (hn : slots ≤ n) : ownE p e below s Q k n T (mkF m pc Ls []) :=
  ownE.ret X hlk (fun _ => rfl) (fun fs hr => X.returnOut hx hret hd hr) hQ hk hn
end Own
theorem own_selP {s : State} {args : Array Value} {y : MethodName} {n : Nat} (wi : (Cond.instantiable y.cls n).before args s = true) (hi : (Cond.instanceMethod y).before args s = true) (hp : s.PrivateAt y) (hy : y.cls ≠ "java/lang/invoke/MethodHandle" ∧ y.cls ≠ "java/lang/invoke/VarHandle") : (Cond.selects y.cls y y).before args s = true := by
  obtain ⟨c, k, h1, h2, -, h4, -⟩ := Cond.instantiable_spec wi
  exact selects_self_of_private h1 h2 (by simp at h4; exact h4.1) hp hi hy
end Jvm.RoadKit
namespace Jvm.Pilot.@@N@@
open Jvm Jvm.ClassFile Sem Op Lib Jvm.Free Jvm.Stand Jvm.LawKit Jvm.RoadKit Bundle Jvm.Pilot.@@N@@.Jvm.D
theorem own_d2_0 : decode jdk_30_method_1_code 0 = .ok (.aload_n 0, 1) := by decide +kernel
theorem own_d2_1 : decode jdk_30_method_1_code 1 = .ok (.invokespecial 1, 3) := by decide +kernel
theorem own_d2_4 : decode jdk_30_method_1_code 4 = .ok (.return_, 1) := by decide +kernel
theorem own_pn0 : plainName "java/lang/Record" = true := by first | (simp [plainName, overriddenIn]; done) | decide +kernel
theorem own_ef2 (m : MethodId) (x0 : Addr) : entryFrame m #[(.ref x0)] 1 = mkF m 0 #[.val (.ref x0)] [] := by first | (simp [entryFrame, mkF, argsToLocals, Value.category]; done) | rfl
def own_Q2 (Z : State) (r0 : Addr) (h0 : Heap) (n0 : Nat) (v : Option Value) (h : Heap) (L : List Loc) : Prop := v = none ∧ Fr n0 L ∧ h = h0
set_option maxRecDepth 65536 in
set_option maxHeartbeats 40000000 in
theorem own_rm2 (l : Launch) (Z : State) (a0 : Array Value) (hw : ∀ d ∈ tables_1, d.before a0 Z = true) (ws : List Jvm.Cond) (r0 : Addr) (h0 : Heap) (n0 : Nat) (Z0 : n0 ≤ h0.size) :
    MetFree l (⟨"java/lang/Record", "<init>", "()V"⟩ : MethodName) (head1 (Jvm.Cond.code (⟨"java/lang/Record", "<init>", "()V"⟩ : MethodName) jdk_30_method_1_code 1 none :: ws) ({ frames := 1, cells := 0, slots := 0, locals := 12 } : Room)) (fun a U => a = #[(.ref r0)] ∧ Z.Warmed39 U.vm ∧ U.heap = h0) (fun _ _ _ _ _ => True) (fun _ U o U' => ∃ v L, o = .returned v ∧ own_Q2 Z r0 h0 n0 v U'.heap L ∧ FrameEnd U o U' L ({ frames := 1, cells := 0, slots := 0, locals := 12 } : Room).cells ({ frames := 1, cells := 0, slots := 0, locals := 12 } : Room).slots) := by
  refine MetFree.of_bodySF (plainFor_of_name own_pn0) hisR ?_
  intro p e s m args below meth c s₁ Bd hml0 hP hK
  obtain ⟨rfl, hZ, hh⟩ := hP
  have hx := Bd.exec
  have hby := Bd.bytes
  have hret := Bd.returns
  have hlk := BodyLoose.notSynchronized Bd
  have hml : c.maxLocals = 1 := hml0
  have hown : s.vm.findClass "java/lang/Record" = some m.cls := findClass_of_methodNamed Bd.named
  have hnm := (name_of_methodNamed Bd.named Bd.method).1
  have X0 : Stand p l e ({ frames := 1, cells := 0, slots := 0, locals := 12 } : Room) s m #[(.ref r0)] below meth c s₁ [] 0 0 := Stand.of_body Bd
  have e0 : s₁.heap = h0 := by rw [← hh, Bd.state]; rfl
  have N0 := Fr.nil n0
  have K0 : Keep h0 h0 [] := Keep.refl h0 _
  show ownE p e below s (own_Q2 Z r0 h0 n0) ({ frames := 1, cells := 0, slots := 0, locals := 12 } : Room).cells ({ frames := 1, cells := 0, slots := 0, locals := 12 } : Room).slots s₁ (entryFrame m #[(.ref r0)] 1)
  rw [own_ef2]
  refine ownE.go (T' := s₁) (f' := (mkF m 1 #[.val (.ref r0)] [(.ref r0)])) (fun t kt => ?_) ?_
  · show Steps p.tables e below (s₁.setTop (mkF m 0 #[.val (.ref r0)] [])) _
    refine XS.aloadN X0.here hx rfl (hb hby own_d2_0) rfl rfl ?_
    exact kt
  obtain ⟨T1, X1, e1, st1⟩ := initO X0 hx hZ hown (hw _ (List.mem_of_getElem? (i := 11) rfl)) (hw _ (List.mem_of_getElem? (i := 12) rfl)) (hw _ (List.mem_of_getElem? (i := 13) rfl)) e0 (g := (mkF m 1 #[.val (.ref r0)] [(.ref r0)])) rfl (by rw [hml]; rfl) rfl (hb hby own_d2_1) (by decide) (W := 0) (by show 2 * 0 + _ ≤ _; exact Nat.le_of_eq rfl) (by decide)
  refine ownE.go (T' := T1) (f' := (mkF m 4 #[.val (.ref r0)] [])) st1 ?_
  refine ownE.retV X1 hx hlk hret (hb hby own_d2_4) ?_ (by decide) (by decide)
  show own_Q2 Z r0 h0 n0 _ T1.heap _
  rw [e1]
  exact ⟨rfl, N0, rfl⟩
theorem own_pd1 : parseMethodDescriptor "()V" = some ⟨[], none⟩ := by decide +kernel
theorem own_d1_0 : decode prog_48_method_1_code 0 = .ok (.aload_n 0, 1) := by decide +kernel
theorem own_d1_1 : decode prog_48_method_1_code 1 = .ok (.invokespecial 1, 3) := by decide +kernel
theorem own_d1_4 : decode prog_48_method_1_code 4 = .ok (.aload_n 0, 1) := by decide +kernel
theorem own_d1_5 : decode prog_48_method_1_code 5 = .ok (.iload_n 1, 1) := by decide +kernel
theorem own_d1_6 : decode prog_48_method_1_code 6 = .ok (.putfield 7, 3) := by decide +kernel
theorem own_d1_9 : decode prog_48_method_1_code 9 = .ok (.aload_n 0, 1) := by decide +kernel
theorem own_d1_10 : decode prog_48_method_1_code 10 = .ok (.iload_n 2, 1) := by decide +kernel
theorem own_d1_11 : decode prog_48_method_1_code 11 = .ok (.putfield 13, 3) := by decide +kernel
theorem own_d1_14 : decode prog_48_method_1_code 14 = .ok (.return_, 1) := by decide +kernel
theorem own_pn2 : plainName "com/example/venus_flytrap/venusflytrap/StatusRange" = true := by first | (simp [plainName, overriddenIn]; done) | decide +kernel
theorem own_ef1 (m : MethodId) (x0 : Addr) (x1 : Int32) (x2 : Int32) : entryFrame m #[(.ref x0), (.int x1), (.int x2)] 3 = mkF m 0 #[.val (.ref x0), .val (.int x1), .val (.int x2)] [] := by first | (simp [entryFrame, mkF, argsToLocals, Value.category]; done) | rfl
def own_Q1 (Z : State) (r0 : Addr) (i1 : Int32) (i2 : Int32) (h0 : Heap) (n0 : Nat) (v : Option Value) (h : Heap) (L : List Loc) : Prop := v = none ∧ Fr n0 L ∧ Keep h0 h [r0] ∧ Exa Z h r0 "com/example/venus_flytrap/venusflytrap/StatusRange" ∧ Fld Z h r0 "com/example/venus_flytrap/venusflytrap/StatusRange" "lowest" "I" (.int i1) ∧ Fld Z h r0 "com/example/venus_flytrap/venusflytrap/StatusRange" "highest" "I" (.int i2)
set_option maxRecDepth 65536 in
set_option maxHeartbeats 40000000 in
theorem own_rm1 (l : Launch) (Z : State) (a0 : Array Value) (hw : ∀ d ∈ tables_1, d.before a0 Z = true) (ws : List Jvm.Cond) (r0 : Addr) (i1 : Int32) (i2 : Int32) (h0 : Heap) (n0 : Nat) (Z0 : n0 ≤ h0.size) (P0 : Fld Z h0 r0 "com/example/venus_flytrap/venusflytrap/StatusRange" "lowest" "I" (.int (0 : Int32))) (P1 : Fld Z h0 r0 "com/example/venus_flytrap/venusflytrap/StatusRange" "highest" "I" (.int (0 : Int32))) (P2 : Exa Z h0 r0 "com/example/venus_flytrap/venusflytrap/StatusRange") (P3 : n0 ≤ r0) :
    MetFree l (⟨"com/example/venus_flytrap/venusflytrap/StatusRange", "<init>", "(II)V"⟩ : MethodName) (head1 (Jvm.Cond.code (⟨"com/example/venus_flytrap/venusflytrap/StatusRange", "<init>", "(II)V"⟩ : MethodName) prog_48_method_1_code 3 none :: ws) ({ frames := 2, cells := 0, slots := 0, locals := 24 } : Room)) (fun a U => a = #[(.ref r0), (.int i1), (.int i2)] ∧ Z.Warmed39 U.vm ∧ U.heap = h0) (fun _ _ _ _ _ => True) (fun _ U o U' => ∃ v L, o = .returned v ∧ own_Q1 Z r0 i1 i2 h0 n0 v U'.heap L ∧ FrameEnd U o U' L ({ frames := 2, cells := 0, slots := 0, locals := 24 } : Room).cells ({ frames := 2, cells := 0, slots := 0, locals := 24 } : Room).slots) := by
  refine MetFree.of_bodySF (plainFor_of_name own_pn2) hisR ?_
  intro p e s m args below meth c s₁ Bd hml0 hP hK
  obtain ⟨rfl, hZ, hh⟩ := hP
  have hx := Bd.exec
  have hby := Bd.bytes
  have hret := Bd.returns
  have hlk := BodyLoose.notSynchronized Bd
  have hml : c.maxLocals = 3 := hml0
  have hown : s.vm.findClass "com/example/venus_flytrap/venusflytrap/StatusRange" = some m.cls := findClass_of_methodNamed Bd.named
  have hnm := (name_of_methodNamed Bd.named Bd.method).1
  have X0 : Stand p l e ({ frames := 2, cells := 0, slots := 0, locals := 24 } : Room) s m #[(.ref r0), (.int i1), (.int i2)] below meth c s₁ [] 0 0 := Stand.of_body Bd
  have e0 : s₁.heap = h0 := by rw [← hh, Bd.state]; rfl
  have N0 := Fr.nil n0
  have K0 : Keep h0 h0 [r0] := Keep.refl h0 _
  show ownE p e below s (own_Q1 Z r0 i1 i2 h0 n0) ({ frames := 2, cells := 0, slots := 0, locals := 24 } : Room).cells ({ frames := 2, cells := 0, slots := 0, locals := 24 } : Room).slots s₁ (entryFrame m #[(.ref r0), (.int i1), (.int i2)] 3)
  rw [own_ef1]
  refine ownE.go (T' := s₁) (f' := (mkF m 1 #[.val (.ref r0), .val (.int i1), .val (.int i2)] [(.ref r0)])) (fun t kt => ?_) ?_
  · show Steps p.tables e below (s₁.setTop (mkF m 0 #[.val (.ref r0), .val (.int i1), .val (.int i2)] [])) _
    refine XS.aloadN X0.here hx rfl (hb hby own_d1_0) rfl rfl ?_
    exact kt
  obtain ⟨_, _, ⟨T1, L1, k1, n1⟩, -, X1, ⟨Lc1, hQ1, l1, y1, z1⟩, st1⟩ := X0.specialBack hx (y := (⟨"java/lang/Record", "<init>", "()V"⟩ : MethodName)) rfl hown (mvT hZ (hw _ (List.mem_of_getElem? (i := 6) rfl))) (mvT hZ (hw _ (List.mem_of_getElem? (i := 7) rfl))) (mvT hZ (hw _ (List.mem_of_getElem? (i := 10) rfl))) (by decide) (backOf (W := 0) (own_rm2 l Z a0 hw [] r0 h0 n0 (Nat.le_trans Z0 K0.1) ) hZ (hw _ (List.mem_of_getElem? (i := 10) rfl)) (hw _ (List.mem_of_getElem? (i := 9) rfl)) (by decide) (by decide)) (g := (mkF m 1 #[.val (.ref r0), .val (.int i1), .val (.int i2)] [(.ref r0)])) rfl (by rw [hml]; rfl) (Steps.refl _) (a := r0) (argsL := []) (rest := []) (lenOf own_pd1 rfl) rfl (by show 2 * 0 + _ ≤ _; exact Nat.le_of_eq rfl) (hb hby own_d1_1) (fun _ _ => ⟨rfl, e0, (by decide : 0 + 0 ≤ _), (by decide : 0 + 0 ≤ _)⟩)
  dsimp only [Pt.U, Pt.locs, Pt.cells, Pt.slots] at X1 l1 y1 z1 st1 hQ1
  subst l1 y1 z1
  obtain ⟨rfl, N1q, e1⟩ := hQ1
  have N1 := Fr.app N0 N1q
  refine ownE.goS (T' := T1) (f' := (mkF m 4 #[.val (.ref r0), .val (.int i1), .val (.int i2)] [])) st1 ?_
  refine ownE.go (T' := T1) (f' := (mkF m 6 #[.val (.ref r0), .val (.int i1), .val (.int i2)] [(.int i1), (.ref r0)])) (fun t kt => ?_) ?_
  · show Steps p.tables e below (T1.setTop (mkF m 4 #[.val (.ref r0), .val (.int i1), .val (.int i2)] [])) _
    refine XS.aloadN X1.here hx rfl (hb hby own_d1_4) rfl rfl ?_
    show Steps p.tables e below (T1.setTop (mkF m 5 #[.val (.ref r0), .val (.int i1), .val (.int i2)] [(.ref r0)])) _
    refine XS.iloadN X1.here hx rfl (hb hby own_d1_5) rfl ?_
    exact kt
  obtain ⟨T2, h2, X2, e2, W2, st2⟩ := putF X1 hx hZ hown (host := "") (Or.inl (hw _ (List.mem_of_getElem? (i := 14) rfl))) Via.refl e1 P0 P2 (Or.inr ⟨(hw _ (List.mem_of_getElem? (i := 15) rfl)), rfl, hnm⟩) (hw _ (List.mem_of_getElem? (i := 1) rfl)) (ty := .int) (by decide) rfl rfl (g := (mkF m 6 #[.val (.ref r0), .val (.int i1), .val (.int i2)] [(.int i1), (.ref r0)])) rfl rfl (hb hby own_d1_6)
  have Fw2 : Fld Z h2 r0 "com/example/venus_flytrap/venusflytrap/StatusRange" "lowest" "I" (.int i1) := P0.same W2
  have cFld_r0_highest_2 : Fld Z h2 r0 "com/example/venus_flytrap/venusflytrap/StatusRange" "highest" "I" (.int (0 : Int32)) := P1.other W2 (Or.inr (slot_ne (Or.inr (hw _ (List.mem_of_getElem? (i := 17) rfl))) (Or.inr (hw _ (List.mem_of_getElem? (i := 15) rfl))) (by decide) (t := .int) (t' := .int) (by decide) (by decide)))
  have cExa_r0_2 : Exa Z h2 r0 "com/example/venus_flytrap/venusflytrap/StatusRange" := P2.wr W2
  have K2 : Keep h0 h2 [r0] := K0.wr W2 (Or.inl (List.mem_of_getElem? (i := 0) rfl))
  have N2 := Fr.snoc X2 N1 P3
  refine ownE.go (T' := T2) (f' := (mkF m 9 #[.val (.ref r0), .val (.int i1), .val (.int i2)] [])) st2 ?_
  refine ownE.go (T' := T2) (f' := (mkF m 11 #[.val (.ref r0), .val (.int i1), .val (.int i2)] [(.int i2), (.ref r0)])) (fun t kt => ?_) ?_
  · show Steps p.tables e below (T2.setTop (mkF m 9 #[.val (.ref r0), .val (.int i1), .val (.int i2)] [])) _
    refine XS.aloadN X2.here hx rfl (hb hby own_d1_9) rfl rfl ?_
    show Steps p.tables e below (T2.setTop (mkF m 10 #[.val (.ref r0), .val (.int i1), .val (.int i2)] [(.ref r0)])) _
    refine XS.iloadN X2.here hx rfl (hb hby own_d1_10) rfl ?_
    exact kt
  obtain ⟨T3, h3, X3, e3, W3, st3⟩ := putF X2 hx hZ hown (host := "") (Or.inl (hw _ (List.mem_of_getElem? (i := 16) rfl))) Via.refl e2 cFld_r0_highest_2 cExa_r0_2 (Or.inr ⟨(hw _ (List.mem_of_getElem? (i := 17) rfl)), rfl, hnm⟩) (hw _ (List.mem_of_getElem? (i := 1) rfl)) (ty := .int) (by decide) rfl rfl (g := (mkF m 11 #[.val (.ref r0), .val (.int i1), .val (.int i2)] [(.int i2), (.ref r0)])) rfl rfl (hb hby own_d1_11)
  have Fw3 : Fld Z h3 r0 "com/example/venus_flytrap/venusflytrap/StatusRange" "highest" "I" (.int i2) := cFld_r0_highest_2.same W3
  have cFld_r0_lowest_3 : Fld Z h3 r0 "com/example/venus_flytrap/venusflytrap/StatusRange" "lowest" "I" (.int i1) := Fw2.other W3 (Or.inr (slot_ne (Or.inr (hw _ (List.mem_of_getElem? (i := 15) rfl))) (Or.inr (hw _ (List.mem_of_getElem? (i := 17) rfl))) (by decide) (t := .int) (t' := .int) (by decide) (by decide)))
  have cExa_r0_3 : Exa Z h3 r0 "com/example/venus_flytrap/venusflytrap/StatusRange" := cExa_r0_2.wr W3
  have K3 : Keep h0 h3 [r0] := K2.wr W3 (Or.inl (List.mem_of_getElem? (i := 0) rfl))
  have N3 := Fr.snoc X3 N2 P3
  refine ownE.go (T' := T3) (f' := (mkF m 14 #[.val (.ref r0), .val (.int i1), .val (.int i2)] [])) st3 ?_
  refine ownE.retV X3 hx hlk hret (hb hby own_d1_14) ?_ (by decide) (by decide)
  show own_Q1 Z r0 i1 i2 h0 n0 _ T3.heap _
  rw [e3]
  exact ⟨rfl, N3, K3, cExa_r0_3, cFld_r0_lowest_3, Fw3⟩
theorem own_d4_0 : decode prog_48_method_2_code 0 = .ok (.iload_n 1, 1) := by decide +kernel
theorem own_d4_1 : decode prog_48_method_2_code 1 = .ok (.aload_n 0, 1) := by decide +kernel
theorem own_d4_2 : decode prog_48_method_2_code 2 = .ok (.getfield 7, 3) := by decide +kernel
theorem own_d4_5 : decode prog_48_method_2_code 5 = .ok (.if_icmp .lt 15, 3) := by decide +kernel
theorem own_d4_8 : decode prog_48_method_2_code 8 = .ok (.iload_n 1, 1) := by decide +kernel
theorem own_d4_9 : decode prog_48_method_2_code 9 = .ok (.aload_n 0, 1) := by decide +kernel
theorem own_d4_10 : decode prog_48_method_2_code 10 = .ok (.getfield 13, 3) := by decide +kernel
theorem own_d4_13 : decode prog_48_method_2_code 13 = .ok (.if_icmp .gt 7, 3) := by decide +kernel
theorem own_d4_16 : decode prog_48_method_2_code 16 = .ok (.iconst 1, 1) := by decide +kernel
theorem own_d4_17 : decode prog_48_method_2_code 17 = .ok (.goto 4, 3) := by decide +kernel
theorem own_d4_20 : decode prog_48_method_2_code 20 = .ok (.iconst 0, 1) := by decide +kernel
theorem own_d4_21 : decode prog_48_method_2_code 21 = .ok (.ireturn, 1) := by decide +kernel
theorem own_ef4 (m : MethodId) (x0 : Addr) (x1 : Int32) : entryFrame m #[(.ref x0), (.int x1)] 2 = mkF m 0 #[.val (.ref x0), .val (.int x1)] [] := by first | (simp [entryFrame, mkF, argsToLocals, Value.category]; done) | rfl
def own_f4 (i1 : Int32) (lo : Int32) (hi : Int32) : Int32 :=
  if i1 < lo then
    (0 : Int32)
  else
    if hi < i1 then
      (0 : Int32)
    else
      (1 : Int32)
def own_Q4 (Z : State) (r0 : Addr) (i1 : Int32) (lo : Int32) (hi : Int32) (h0 : Heap) (n0 : Nat) (v : Option Value) (h : Heap) (L : List Loc) : Prop := v = some (.int (own_f4 i1 lo hi)) ∧ Fr n0 L ∧ h = h0
set_option maxRecDepth 65536 in
set_option maxHeartbeats 40000000 in
theorem own_rm4 (l : Launch) (Z : State) (a0 : Array Value) (hw : ∀ d ∈ tables_1, d.before a0 Z = true) (ws : List Jvm.Cond) (r0 : Addr) (i1 : Int32) (lo : Int32) (hi : Int32) (h0 : Heap) (n0 : Nat) (Z0 : n0 ≤ h0.size) (P0 : Fld Z h0 r0 "com/example/venus_flytrap/venusflytrap/StatusRange" "lowest" "I" (.int lo)) (P1 : Fld Z h0 r0 "com/example/venus_flytrap/venusflytrap/StatusRange" "highest" "I" (.int hi)) :
    MetFree l (⟨"com/example/venus_flytrap/venusflytrap/StatusRange", "contains", "(I)Z"⟩ : MethodName) (head1 (Jvm.Cond.code (⟨"com/example/venus_flytrap/venusflytrap/StatusRange", "contains", "(I)Z"⟩ : MethodName) prog_48_method_2_code 2 (some .boolean) :: ws) ({ frames := 0, cells := 0, slots := 0, locals := 0 } : Room)) (fun a U => a = #[(.ref r0), (.int i1)] ∧ Z.Warmed39 U.vm ∧ U.heap = h0) (fun _ _ _ _ _ => True) (fun _ U o U' => ∃ v L, o = .returned v ∧ own_Q4 Z r0 i1 lo hi h0 n0 v U'.heap L ∧ FrameEnd U o U' L ({ frames := 0, cells := 0, slots := 0, locals := 0 } : Room).cells ({ frames := 0, cells := 0, slots := 0, locals := 0 } : Room).slots) := by
  refine MetFree.of_bodySF (plainFor_of_name own_pn2) hisR ?_
  intro p e s m args below meth c s₁ Bd hml0 hP hK
  obtain ⟨rfl, hZ, hh⟩ := hP
  have hx := Bd.exec
  have hby := Bd.bytes
  have hret := Bd.returns
  have hlk := BodyLoose.notSynchronized Bd
  have hml : c.maxLocals = 2 := hml0
  have hown : s.vm.findClass "com/example/venus_flytrap/venusflytrap/StatusRange" = some m.cls := findClass_of_methodNamed Bd.named
  have hnm := (name_of_methodNamed Bd.named Bd.method).1
  have X0 : Stand p l e ({ frames := 0, cells := 0, slots := 0, locals := 0 } : Room) s m #[(.ref r0), (.int i1)] below meth c s₁ [] 0 0 := Stand.of_body Bd
  have e0 : s₁.heap = h0 := by rw [← hh, Bd.state]; rfl
  have N0 := Fr.nil n0
  have K0 : Keep h0 h0 [] := Keep.refl h0 _
  show ownE p e below s (own_Q4 Z r0 i1 lo hi h0 n0) ({ frames := 0, cells := 0, slots := 0, locals := 0 } : Room).cells ({ frames := 0, cells := 0, slots := 0, locals := 0 } : Room).slots s₁ (entryFrame m #[(.ref r0), (.int i1)] 2)
  rw [own_ef4]
  refine ownE.go (T' := s₁) (f' := (mkF m 2 #[.val (.ref r0), .val (.int i1)] [(.ref r0), (.int i1)])) (fun t kt => ?_) ?_
  · show Steps p.tables e below (s₁.setTop (mkF m 0 #[.val (.ref r0), .val (.int i1)] [])) _
    refine XS.iloadN X0.here hx rfl (hb hby own_d4_0) rfl ?_
    show Steps p.tables e below (s₁.setTop (mkF m 1 #[.val (.ref r0), .val (.int i1)] [(.int i1)])) _
    refine XS.aloadN X0.here hx rfl (hb hby own_d4_1) rfl rfl ?_
    exact kt
  obtain ⟨T1, X1, e1, st1⟩ := getF X0 hx hZ hown (host := "") (Or.inl (hw _ (List.mem_of_getElem? (i := 14) rfl))) Via.refl e0 P0 (g := (mkF m 2 #[.val (.ref r0), .val (.int i1)] [(.ref r0), (.int i1)])) rfl rfl (hb hby own_d4_2)
  refine ownE.go (T' := T1) (f' := (mkF m 5 #[.val (.ref r0), .val (.int i1)] [(.int lo), (.int i1)])) st1 ?_
  by_cases hc2 : i1 < lo
  · -- pc 5
    refine ownE.go (T' := T1) (f' := (mkF m 20 #[.val (.ref r0), .val (.int i1)] [])) (fun t kt => XS.icmpYes (g := (mkF m 5 #[.val (.ref r0), .val (.int i1)] [(.int lo), (.int i1)])) X1.here hx rfl (pc0 := 5) (pc' := 20) rfl (hb hby own_d4_5) rfl (Jvm.Free.XT.ii_lt_t hc2) (by decide) (by decide) kt) ?_
    refine ownE.go (T' := T1) (f' := (mkF m 21 #[.val (.ref r0), .val (.int i1)] [(.int (0 : Int32))])) (fun t kt => ?_) ?_
    · show Steps p.tables e below (T1.setTop (mkF m 20 #[.val (.ref r0), .val (.int i1)] [])) _
      refine XS.iconst X1.here hx rfl (hb hby own_d4_20) ?_
      exact kt
    refine ownE.retN X1 hx hlk (t := .boolean) hret (by simp) (hb hby own_d4_21) ?_ (by decide) (by decide)
    show own_Q4 Z r0 i1 lo hi h0 n0 _ T1.heap _
    rw [e1]
    exact ⟨(by rw [own_f4, if_pos hc2] <;> first | rfl | decide), N0, rfl⟩
  · -- pc 5
    refine ownE.go (T' := T1) (f' := (mkF m 8 #[.val (.ref r0), .val (.int i1)] [])) (fun t kt => XS.icmpNo (g := (mkF m 5 #[.val (.ref r0), .val (.int i1)] [(.int lo), (.int i1)])) X1.here hx rfl (hb hby own_d4_5) rfl (Jvm.Free.XT.ii_lt_f hc2) kt) ?_
    refine ownE.go (T' := T1) (f' := (mkF m 10 #[.val (.ref r0), .val (.int i1)] [(.ref r0), (.int i1)])) (fun t kt => ?_) ?_
    · show Steps p.tables e below (T1.setTop (mkF m 8 #[.val (.ref r0), .val (.int i1)] [])) _
      refine XS.iloadN X1.here hx rfl (hb hby own_d4_8) rfl ?_
      show Steps p.tables e below (T1.setTop (mkF m 9 #[.val (.ref r0), .val (.int i1)] [(.int i1)])) _
      refine XS.aloadN X1.here hx rfl (hb hby own_d4_9) rfl rfl ?_
      exact kt
    obtain ⟨T3, X3, e3, st3⟩ := getF X1 hx hZ hown (host := "") (Or.inl (hw _ (List.mem_of_getElem? (i := 16) rfl))) Via.refl e1 P1 (g := (mkF m 10 #[.val (.ref r0), .val (.int i1)] [(.ref r0), (.int i1)])) rfl rfl (hb hby own_d4_10)
    refine ownE.go (T' := T3) (f' := (mkF m 13 #[.val (.ref r0), .val (.int i1)] [(.int hi), (.int i1)])) st3 ?_
    by_cases hc4 : hi < i1
    · -- pc 13
      refine ownE.go (T' := T3) (f' := (mkF m 20 #[.val (.ref r0), .val (.int i1)] [])) (fun t kt => XS.icmpYes (g := (mkF m 13 #[.val (.ref r0), .val (.int i1)] [(.int hi), (.int i1)])) X3.here hx rfl (pc0 := 13) (pc' := 20) rfl (hb hby own_d4_13) rfl (Jvm.Free.XT.ii_gt_t hc4) (by decide) (by decide) kt) ?_
      refine ownE.go (T' := T3) (f' := (mkF m 21 #[.val (.ref r0), .val (.int i1)] [(.int (0 : Int32))])) (fun t kt => ?_) ?_
      · show Steps p.tables e below (T3.setTop (mkF m 20 #[.val (.ref r0), .val (.int i1)] [])) _
        refine XS.iconst X3.here hx rfl (hb hby own_d4_20) ?_
        exact kt
      refine ownE.retN X3 hx hlk (t := .boolean) hret (by simp) (hb hby own_d4_21) ?_ (by decide) (by decide)
      show own_Q4 Z r0 i1 lo hi h0 n0 _ T3.heap _
      rw [e3]
      exact ⟨(by rw [own_f4, if_neg hc2, if_pos hc4] <;> first | rfl | decide), N0, rfl⟩
    · -- pc 13
      refine ownE.go (T' := T3) (f' := (mkF m 16 #[.val (.ref r0), .val (.int i1)] [])) (fun t kt => XS.icmpNo (g := (mkF m 13 #[.val (.ref r0), .val (.int i1)] [(.int hi), (.int i1)])) X3.here hx rfl (hb hby own_d4_13) rfl (Jvm.Free.XT.ii_gt_f hc4) kt) ?_
      refine ownE.go (T' := T3) (f' := (mkF m 21 #[.val (.ref r0), .val (.int i1)] [(.int (1 : Int32))])) (fun t kt => ?_) ?_
      · show Steps p.tables e below (T3.setTop (mkF m 16 #[.val (.ref r0), .val (.int i1)] [])) _
        refine XS.iconst X3.here hx rfl (hb hby own_d4_16) ?_
        show Steps p.tables e below (T3.setTop (mkF m 17 #[.val (.ref r0), .val (.int i1)] [(.int (1 : Int32))])) _
        refine XS.goto X3.here hx rfl (pc0 := 17) (pc' := 21) rfl (hb hby own_d4_17) (by decide) (by decide) ?_
        exact kt
      refine ownE.retN X3 hx hlk (t := .boolean) hret (by simp) (hb hby own_d4_21) ?_ (by decide) (by decide)
      show own_Q4 Z r0 i1 lo hi h0 n0 _ T3.heap _
      rw [e3]
      exact ⟨(by rw [own_f4, if_neg hc2, if_neg hc4] <;> first | rfl | decide), N0, rfl⟩
def own_j0_46_L6 (i0 : Int32) (i1 : Int32) (i2 : Int32) (i3 : Int32) : Int32 :=
  if (i3 &&& (3 : Int32)) = (0 : Int32) then
    (i0 + ((((i3.toUInt32 >>> ((2 : Int32) &&& 31).toUInt32).toInt32) &&& (3 : Int32)) - (1 : Int32)))
  else
    if (i3 &&& (3 : Int32)) = (1 : Int32) then
      (i1 + ((((i3.toUInt32 >>> ((2 : Int32) &&& 31).toUInt32).toInt32) &&& (3 : Int32)) - (1 : Int32)))
    else
      i2
theorem own_pd3 : parseMethodDescriptor "(II)V" = some ⟨[.int, .int], none⟩ := by decide +kernel
theorem own_pd4 : parseMethodDescriptor "(I)Z" = some ⟨[.int], some .boolean⟩ := by decide +kernel
def own_j0_101_S0 (i0 : Int32) (i1 : Int32) (i2 : Int32) (i3 : Int32) : Int32 :=
  if (((own_j0_46_L6 i0 i1 i2 i3).toInt64) - (i0.toInt64)) < (0 : Int64) then
    (0 : Int32)
  else
    if ((i1.toInt64) - (i0.toInt64)) < (((own_j0_46_L6 i0 i1 i2 i3).toInt64) - (i0.toInt64)) then
      (0 : Int32)
    else
      (1 : Int32)
theorem own_pn5 : plainName "com/example/venus_flytrap/venusflytrap/StatusRangeContainsPinLaw" = true := by first | (simp [plainName, overriddenIn]; done) | decide +kernel
theorem own_ef0 (m : MethodId) (x0 : Int32) (x1 : Int32) (x2 : Int32) (x3 : Int32) : entryFrame m #[(.int x0), (.int x1), (.int x2), (.int x3)] maxLocals = mkF m 0 #[.val (.int x0), .val (.int x1), .val (.int x2), .val (.int x3), .unset, .unset, .unset, .unset, .unset, .unset, .unset, .unset, .unset, .unset] [] := by first | (simp [entryFrame, mkF, argsToLocals, Value.category, maxLocals]; done) | rfl
def own_f0 (i0 : Int32) (i1 : Int32) (i2 : Int32) (i3 : Int32) : Int32 :=
  if (own_f4 (own_j0_46_L6 i0 i1 i2 i3) i0 i1) = (own_j0_101_S0 i0 i1 i2 i3) then
    (1 : Int32)
  else
    (0 : Int32)
def own_Q0 (Z : State) (i0 : Int32) (i1 : Int32) (i2 : Int32) (i3 : Int32) (h0 : Heap) (n0 : Nat) (v : Option Value) (h : Heap) (L : List Loc) : Prop := v = some (.int (own_f0 i0 i1 i2 i3)) ∧ Fr n0 L ∧ Keep h0 h []
set_option maxRecDepth 65536 in
set_option maxHeartbeats 40000000 in
theorem own_rm0 (l : Launch) (Z : State) (a0 : Array Value) (hw : ∀ d ∈ tables_1, d.before a0 Z = true) (ws : List Jvm.Cond) (i0 : Int32) (i1 : Int32) (i2 : Int32) (i3 : Int32) (h0 : Heap) (n0 : Nat) (Z0 : n0 ≤ h0.size) :
    MetFree l x (head1 (Jvm.Cond.code x code maxLocals ret :: ws) room_1) (fun a U => a = #[(.int i0), (.int i1), (.int i2), (.int i3)] ∧ Z.Warmed39 U.vm ∧ U.heap = h0) (fun _ _ _ _ _ => True) (fun _ U o U' => ∃ v L, o = .returned v ∧ own_Q0 Z i0 i1 i2 i3 h0 n0 v U'.heap L ∧ FrameEnd U o U' L 1 2) := by
  refine MetFree.of_bodySF (plainFor_of_name own_pn5) hisR ?_
  intro p e s m args below meth c s₁ Bd hml0 hP hK
  obtain ⟨rfl, hZ, hh⟩ := hP
  have hx := Bd.exec
  have hby := Bd.bytes
  have hret := Bd.returns
  have hlk := BodyLoose.notSynchronized Bd
  have hml : c.maxLocals = 14 := hml0
  have hown : s.vm.findClass "com/example/venus_flytrap/venusflytrap/StatusRangeContainsPinLaw" = some m.cls := findClass_of_methodNamed Bd.named
  have hnm := (name_of_methodNamed Bd.named Bd.method).1
  have X0 : Stand p l e room_1 s m #[(.int i0), (.int i1), (.int i2), (.int i3)] below meth c s₁ [] 0 0 := Stand.of_body Bd
  have e0 : s₁.heap = h0 := by rw [← hh, Bd.state]; rfl
  have N0 := Fr.nil n0
  have K0 : Keep h0 h0 [] := Keep.refl h0 _
  show ownE p e below s (own_Q0 Z i0 i1 i2 i3 h0 n0) 1 2 s₁ (entryFrame m #[(.int i0), (.int i1), (.int i2), (.int i3)] maxLocals)
  rw [own_ef0]
  refine ownE.go (T' := s₁) (f' := (mkF m 14 #[.val (.int i0), .val (.int i1), .val (.int i2), .val (.int i3), .val (.int (i3 &&& (3 : Int32))), .val (.int ((((i3.toUInt32 >>> ((2 : Int32) &&& 31).toUInt32).toInt32) &&& (3 : Int32)) - (1 : Int32))), .unset, .unset, .unset, .unset, .unset, .unset, .unset, .unset] [])) (fun t kt => ?_) ?_
  · show Steps p.tables e below (s₁.setTop (mkF m 0 #[.val (.int i0), .val (.int i1), .val (.int i2), .val (.int i3), .unset, .unset, .unset, .unset, .unset, .unset, .unset, .unset, .unset, .unset] [])) _
    refine XS.iloadN X0.here hx rfl (hb hby at_0) rfl ?_
    show Steps p.tables e below (s₁.setTop (mkF m 1 #[.val (.int i0), .val (.int i1), .val (.int i2), .val (.int i3), .unset, .unset, .unset, .unset, .unset, .unset, .unset, .unset, .unset, .unset] [(.int i3)])) _
    refine XS.iconst X0.here hx rfl (hb hby at_1) ?_
    show Steps p.tables e below (s₁.setTop (mkF m 2 #[.val (.int i0), .val (.int i1), .val (.int i2), .val (.int i3), .unset, .unset, .unset, .unset, .unset, .unset, .unset, .unset, .unset, .unset] [(.int (3 : Int32)), (.int i3)])) _
    refine XS.iand X0.here hx rfl (hb hby at_2) rfl ?_
    show Steps p.tables e below (s₁.setTop (mkF m 3 #[.val (.int i0), .val (.int i1), .val (.int i2), .val (.int i3), .unset, .unset, .unset, .unset, .unset, .unset, .unset, .unset, .unset, .unset] [(.int (i3 &&& (3 : Int32)))])) _
    refine XS.istore X0.here hx rfl (hb hby at_3) rfl (l' := #[.val (.int i0), .val (.int i1), .val (.int i2), .val (.int i3), .val (.int (i3 &&& (3 : Int32))), .unset, .unset, .unset, .unset, .unset, .unset, .unset, .unset, .unset]) rfl ?_
    show Steps p.tables e below (s₁.setTop (mkF m 5 #[.val (.int i0), .val (.int i1), .val (.int i2), .val (.int i3), .val (.int (i3 &&& (3 : Int32))), .unset, .unset, .unset, .unset, .unset, .unset, .unset, .unset, .unset] [])) _
    refine XS.iloadN X0.here hx rfl (hb hby at_5) rfl ?_
    show Steps p.tables e below (s₁.setTop (mkF m 6 #[.val (.int i0), .val (.int i1), .val (.int i2), .val (.int i3), .val (.int (i3 &&& (3 : Int32))), .unset, .unset, .unset, .unset, .unset, .unset, .unset, .unset, .unset] [(.int i3)])) _
    refine XS.iconst X0.here hx rfl (hb hby at_6) ?_
    show Steps p.tables e below (s₁.setTop (mkF m 7 #[.val (.int i0), .val (.int i1), .val (.int i2), .val (.int i3), .val (.int (i3 &&& (3 : Int32))), .unset, .unset, .unset, .unset, .unset, .unset, .unset, .unset, .unset] [(.int (2 : Int32)), (.int i3)])) _
    refine XS.iushr X0.here hx rfl (hb hby at_7) rfl ?_
    show Steps p.tables e below (s₁.setTop (mkF m 8 #[.val (.int i0), .val (.int i1), .val (.int i2), .val (.int i3), .val (.int (i3 &&& (3 : Int32))), .unset, .unset, .unset, .unset, .unset, .unset, .unset, .unset, .unset] [(.int ((i3.toUInt32 >>> ((2 : Int32) &&& 31).toUInt32).toInt32))])) _
    refine XS.iconst X0.here hx rfl (hb hby at_8) ?_
    show Steps p.tables e below (s₁.setTop (mkF m 9 #[.val (.int i0), .val (.int i1), .val (.int i2), .val (.int i3), .val (.int (i3 &&& (3 : Int32))), .unset, .unset, .unset, .unset, .unset, .unset, .unset, .unset, .unset] [(.int (3 : Int32)), (.int ((i3.toUInt32 >>> ((2 : Int32) &&& 31).toUInt32).toInt32))])) _
    refine XS.iand X0.here hx rfl (hb hby at_9) rfl ?_
    show Steps p.tables e below (s₁.setTop (mkF m 10 #[.val (.int i0), .val (.int i1), .val (.int i2), .val (.int i3), .val (.int (i3 &&& (3 : Int32))), .unset, .unset, .unset, .unset, .unset, .unset, .unset, .unset, .unset] [(.int (((i3.toUInt32 >>> ((2 : Int32) &&& 31).toUInt32).toInt32) &&& (3 : Int32)))])) _
    refine XS.iconst X0.here hx rfl (hb hby at_10) ?_
    show Steps p.tables e below (s₁.setTop (mkF m 11 #[.val (.int i0), .val (.int i1), .val (.int i2), .val (.int i3), .val (.int (i3 &&& (3 : Int32))), .unset, .unset, .unset, .unset, .unset, .unset, .unset, .unset, .unset] [(.int (1 : Int32)), (.int (((i3.toUInt32 >>> ((2 : Int32) &&& 31).toUInt32).toInt32) &&& (3 : Int32)))])) _
    refine XS.isub X0.here hx rfl (hb hby at_11) rfl ?_
    show Steps p.tables e below (s₁.setTop (mkF m 12 #[.val (.int i0), .val (.int i1), .val (.int i2), .val (.int i3), .val (.int (i3 &&& (3 : Int32))), .unset, .unset, .unset, .unset, .unset, .unset, .unset, .unset, .unset] [(.int ((((i3.toUInt32 >>> ((2 : Int32) &&& 31).toUInt32).toInt32) &&& (3 : Int32)) - (1 : Int32)))])) _
    refine XS.istore X0.here hx rfl (hb hby at_12) rfl (l' := #[.val (.int i0), .val (.int i1), .val (.int i2), .val (.int i3), .val (.int (i3 &&& (3 : Int32))), .val (.int ((((i3.toUInt32 >>> ((2 : Int32) &&& 31).toUInt32).toInt32) &&& (3 : Int32)) - (1 : Int32))), .unset, .unset, .unset, .unset, .unset, .unset, .unset, .unset]) rfl ?_
    exact kt
  have J4 : ∀ (TJ4 : State) (locsJ4 : List Loc), Stand p l e room_1 s m #[(.int i0), (.int i1), (.int i2), (.int i3)] below meth c TJ4 locsJ4 0 0 → TJ4.heap = h0 → Fr n0 locsJ4 → ownE p e below s (own_Q0 Z i0 i1 i2 i3 h0 n0) 1 2 TJ4 (mkF m 46 #[.val (.int i0), .val (.int i1), .val (.int i2), .val (.int i3), .val (.int (i3 &&& (3 : Int32))), .val (.int ((((i3.toUInt32 >>> ((2 : Int32) &&& 31).toUInt32).toInt32) &&& (3 : Int32)) - (1 : Int32))), .val (.int (own_j0_46_L6 i0 i1 i2 i3)), .unset, .unset, .unset, .unset, .unset, .unset, .unset] []) := by
    intro TJ4 locsJ4 XJ4 eJ4 NJ4
    obtain ⟨T5, h5, X5, e5, E5, A5, D5, -, st5⟩ := newO XJ4 hx hZ hown (hw _ (List.mem_of_getElem? (i := 0) rfl)) (hw _ (List.mem_of_getElem? (i := 1) rfl)) (hw _ (List.mem_of_getElem? (i := 2) rfl)) eJ4 (g := (mkF m 46 #[.val (.int i0), .val (.int i1), .val (.int i2), .val (.int i3), .val (.int (i3 &&& (3 : Int32))), .val (.int ((((i3.toUInt32 >>> ((2 : Int32) &&& 31).toUInt32).toInt32) &&& (3 : Int32)) - (1 : Int32))), .val (.int (own_j0_46_L6 i0 i1 i2 i3)), .unset, .unset, .unset, .unset, .unset, .unset, .unset] [])) rfl (hb hby at_46) (by decide) (by decide)
    obtain ⟨b5, g5⟩ : ∃ z, z = h0.size := ⟨_, rfl⟩
    rw [← g5] at A5 D5 st5
    have sz_b5 : h0.size ≤ b5 := Nat.le_trans K0.1 (Nat.le_of_eq g5.symm)
    have ge_b5 : n0 ≤ b5 := Nat.le_trans Z0 sz_b5
    have D5_lowest : Fld Z h5 b5 "com/example/venus_flytrap/venusflytrap/StatusRange" "lowest" "I" (.int (0 : Int32)) := D5 (Or.inr (hw _ (List.mem_of_getElem? (i := 15) rfl))) (ty := .int) (by decide)
    have D5_highest : Fld Z h5 b5 "com/example/venus_flytrap/venusflytrap/StatusRange" "highest" "I" (.int (0 : Int32)) := D5 (Or.inr (hw _ (List.mem_of_getElem? (i := 17) rfl))) (ty := .int) (by decide)
    have K5 : Keep h0 h5 [] := K0.ext E5
    refine ownE.go (T' := T5) (f' := (mkF m 49 #[.val (.int i0), .val (.int i1), .val (.int i2), .val (.int i3), .val (.int (i3 &&& (3 : Int32))), .val (.int ((((i3.toUInt32 >>> ((2 : Int32) &&& 31).toUInt32).toInt32) &&& (3 : Int32)) - (1 : Int32))), .val (.int (own_j0_46_L6 i0 i1 i2 i3)), .unset, .unset, .unset, .unset, .unset, .unset, .unset] [(.ref b5)])) st5 ?_
    refine ownE.go (T' := T5) (f' := (mkF m 52 #[.val (.int i0), .val (.int i1), .val (.int i2), .val (.int i3), .val (.int (i3 &&& (3 : Int32))), .val (.int ((((i3.toUInt32 >>> ((2 : Int32) &&& 31).toUInt32).toInt32) &&& (3 : Int32)) - (1 : Int32))), .val (.int (own_j0_46_L6 i0 i1 i2 i3)), .unset, .unset, .unset, .unset, .unset, .unset, .unset] [(.int i1), (.int i0), (.ref b5), (.ref b5)])) (fun t kt => ?_) ?_
    · show Steps p.tables e below (T5.setTop (mkF m 49 #[.val (.int i0), .val (.int i1), .val (.int i2), .val (.int i3), .val (.int (i3 &&& (3 : Int32))), .val (.int ((((i3.toUInt32 >>> ((2 : Int32) &&& 31).toUInt32).toInt32) &&& (3 : Int32)) - (1 : Int32))), .val (.int (own_j0_46_L6 i0 i1 i2 i3)), .unset, .unset, .unset, .unset, .unset, .unset, .unset] [(.ref b5)])) _
      refine XS.dup X5.here hx rfl (hb hby at_49) rfl rfl ?_
      show Steps p.tables e below (T5.setTop (mkF m 50 #[.val (.int i0), .val (.int i1), .val (.int i2), .val (.int i3), .val (.int (i3 &&& (3 : Int32))), .val (.int ((((i3.toUInt32 >>> ((2 : Int32) &&& 31).toUInt32).toInt32) &&& (3 : Int32)) - (1 : Int32))), .val (.int (own_j0_46_L6 i0 i1 i2 i3)), .unset, .unset, .unset, .unset, .unset, .unset, .unset] [(.ref b5), (.ref b5)])) _
      refine XS.iloadN X5.here hx rfl (hb hby at_50) rfl ?_
      show Steps p.tables e below (T5.setTop (mkF m 51 #[.val (.int i0), .val (.int i1), .val (.int i2), .val (.int i3), .val (.int (i3 &&& (3 : Int32))), .val (.int ((((i3.toUInt32 >>> ((2 : Int32) &&& 31).toUInt32).toInt32) &&& (3 : Int32)) - (1 : Int32))), .val (.int (own_j0_46_L6 i0 i1 i2 i3)), .unset, .unset, .unset, .unset, .unset, .unset, .unset] [(.int i0), (.ref b5), (.ref b5)])) _
      refine XS.iloadN X5.here hx rfl (hb hby at_51) rfl ?_
      exact kt
    obtain ⟨_, _, ⟨T6, L6, k6, n6⟩, -, X6, ⟨Lc6, hQ6, l6, y6, z6⟩, st6⟩ := X5.specialBack hx (y := (⟨"com/example/venus_flytrap/venusflytrap/StatusRange", "<init>", "(II)V"⟩ : MethodName)) rfl hown (mvT hZ (hw _ (List.mem_of_getElem? (i := 3) rfl))) (mvT hZ (hw _ (List.mem_of_getElem? (i := 4) rfl))) (mvT hZ (hw _ (List.mem_of_getElem? (i := 5) rfl))) (by decide) (backOf (W := 1) (own_rm1 l Z a0 hw [] b5 i0 i1 h5 n0 (Nat.le_trans Z0 K5.1) D5_lowest D5_highest A5 ge_b5) hZ (hw _ (List.mem_of_getElem? (i := 5) rfl)) (hw _ (List.mem_of_getElem? (i := 2) rfl)) (by decide) (by decide)) (g := (mkF m 52 #[.val (.int i0), .val (.int i1), .val (.int i2), .val (.int i3), .val (.int (i3 &&& (3 : Int32))), .val (.int ((((i3.toUInt32 >>> ((2 : Int32) &&& 31).toUInt32).toInt32) &&& (3 : Int32)) - (1 : Int32))), .val (.int (own_j0_46_L6 i0 i1 i2 i3)), .unset, .unset, .unset, .unset, .unset, .unset, .unset] [(.int i1), (.int i0), (.ref b5), (.ref b5)])) rfl (by rw [hml]; rfl) (Steps.refl _) (a := b5) (argsL := [(.int i0), (.int i1)]) (rest := [(.ref b5)]) (lenOf own_pd3 rfl) rfl (by show 2 * 0 + _ ≤ _; exact Nat.le_of_eq rfl) (hb hby at_52) (fun _ _ => ⟨rfl, e5, (by decide : 1 + 0 ≤ _), (by decide : 2 + 0 ≤ _)⟩)
    dsimp only [Pt.U, Pt.locs, Pt.cells, Pt.slots] at X6 l6 y6 z6 st6 hQ6
    subst l6 y6 z6
    obtain ⟨rfl, N6q, K6q, f6_0, f6_1, f6_2⟩ := hQ6
    have cExa_b5_6 : Exa Z T6.heap b5 "com/example/venus_flytrap/venusflytrap/StatusRange" := A5.keep K6q
    have K6 : Keep h0 T6.heap [] := K5.trans K6q (allS (Or.inr sz_b5) all0)
    have N6 := Fr.app NJ4 N6q
    refine ownE.goS (T' := T6) (f' := (mkF m 55 #[.val (.int i0), .val (.int i1), .val (.int i2), .val (.int i3), .val (.int (i3 &&& (3 : Int32))), .val (.int ((((i3.toUInt32 >>> ((2 : Int32) &&& 31).toUInt32).toInt32) &&& (3 : Int32)) - (1 : Int32))), .val (.int (own_j0_46_L6 i0 i1 i2 i3)), .unset, .unset, .unset, .unset, .unset, .unset, .unset] [(.ref b5)])) st6 ?_
    refine ownE.go (T' := T6) (f' := (mkF m 61 #[.val (.int i0), .val (.int i1), .val (.int i2), .val (.int i3), .val (.int (i3 &&& (3 : Int32))), .val (.int ((((i3.toUInt32 >>> ((2 : Int32) &&& 31).toUInt32).toInt32) &&& (3 : Int32)) - (1 : Int32))), .val (.int (own_j0_46_L6 i0 i1 i2 i3)), .val (.ref b5), .unset, .unset, .unset, .unset, .unset, .unset] [(.int (own_j0_46_L6 i0 i1 i2 i3)), (.ref b5)])) (fun t kt => ?_) ?_
    · show Steps p.tables e below (T6.setTop (mkF m 55 #[.val (.int i0), .val (.int i1), .val (.int i2), .val (.int i3), .val (.int (i3 &&& (3 : Int32))), .val (.int ((((i3.toUInt32 >>> ((2 : Int32) &&& 31).toUInt32).toInt32) &&& (3 : Int32)) - (1 : Int32))), .val (.int (own_j0_46_L6 i0 i1 i2 i3)), .unset, .unset, .unset, .unset, .unset, .unset, .unset] [(.ref b5)])) _
      refine XS.astore X6.here hx rfl (hb hby at_55) rfl rfl (l' := #[.val (.int i0), .val (.int i1), .val (.int i2), .val (.int i3), .val (.int (i3 &&& (3 : Int32))), .val (.int ((((i3.toUInt32 >>> ((2 : Int32) &&& 31).toUInt32).toInt32) &&& (3 : Int32)) - (1 : Int32))), .val (.int (own_j0_46_L6 i0 i1 i2 i3)), .val (.ref b5), .unset, .unset, .unset, .unset, .unset, .unset]) rfl ?_
      show Steps p.tables e below (T6.setTop (mkF m 57 #[.val (.int i0), .val (.int i1), .val (.int i2), .val (.int i3), .val (.int (i3 &&& (3 : Int32))), .val (.int ((((i3.toUInt32 >>> ((2 : Int32) &&& 31).toUInt32).toInt32) &&& (3 : Int32)) - (1 : Int32))), .val (.int (own_j0_46_L6 i0 i1 i2 i3)), .val (.ref b5), .unset, .unset, .unset, .unset, .unset, .unset] [])) _
      refine XS.aload X6.here hx rfl (hb hby at_57) rfl rfl ?_
      show Steps p.tables e below (T6.setTop (mkF m 59 #[.val (.int i0), .val (.int i1), .val (.int i2), .val (.int i3), .val (.int (i3 &&& (3 : Int32))), .val (.int ((((i3.toUInt32 >>> ((2 : Int32) &&& 31).toUInt32).toInt32) &&& (3 : Int32)) - (1 : Int32))), .val (.int (own_j0_46_L6 i0 i1 i2 i3)), .val (.ref b5), .unset, .unset, .unset, .unset, .unset, .unset] [(.ref b5)])) _
      refine XS.iload X6.here hx rfl (hb hby at_59) rfl ?_
      exact kt
    obtain ⟨cq7, kq7, q7a, q7b, q7c⟩ := isOf hZ rfl f6_0
    obtain ⟨_, _, ⟨T7, L7, k7, n7⟩, -, X7, ⟨Lc7, hQ7, l7, y7, z7⟩, st7⟩ := X6.virtualBack hx (y := (⟨"com/example/venus_flytrap/venusflytrap/StatusRange", "contains", "(I)Z"⟩ : MethodName)) (z := (⟨"com/example/venus_flytrap/venusflytrap/StatusRange", "contains", "(I)Z"⟩ : MethodName)) hown (mvT hZ (hw _ (List.mem_of_getElem? (i := 18) rfl))) (mvT hZ (hw _ (List.mem_of_getElem? (i := 19) rfl))) (notFace_of_selects (args := #[]) (mvT hZ (hw _ (List.mem_of_getElem? (i := 21) rfl)))) (mvT hZ (hw _ (List.mem_of_getElem? (i := 21) rfl))) (mvT hZ (hw _ (List.mem_of_getElem? (i := 20) rfl))) (by decide) (backOf (W := 0) (own_rm4 l Z a0 hw [] b5 (own_j0_46_L6 i0 i1 i2 i3) i0 i1 T6.heap n0 (Nat.le_trans Z0 K6.1) f6_1 f6_2) hZ (hw _ (List.mem_of_getElem? (i := 22) rfl)) (hw _ (List.mem_of_getElem? (i := 2) rfl)) (by decide) (by decide)) q7a q7c (g := (mkF m 61 #[.val (.int i0), .val (.int i1), .val (.int i2), .val (.int i3), .val (.int (i3 &&& (3 : Int32))), .val (.int ((((i3.toUInt32 >>> ((2 : Int32) &&& 31).toUInt32).toInt32) &&& (3 : Int32)) - (1 : Int32))), .val (.int (own_j0_46_L6 i0 i1 i2 i3)), .val (.ref b5), .unset, .unset, .unset, .unset, .unset, .unset] [(.int (own_j0_46_L6 i0 i1 i2 i3)), (.ref b5)])) rfl (by rw [hml]; rfl) (Steps.refl _) (argsL := [(.int (own_j0_46_L6 i0 i1 i2 i3))]) (rest := []) (lenOf own_pd4 rfl) rfl (by show 2 * 0 + _ ≤ _; exact Nat.le_of_eq rfl) (hb hby at_61) (fun _ _ => ⟨rfl, rfl, (by decide : 1 + 0 ≤ _), (by decide : 2 + 0 ≤ _)⟩)
    dsimp only [Pt.U, Pt.locs, Pt.cells, Pt.slots] at X7 l7 y7 z7 st7 hQ7
    subst l7 y7 z7
    obtain ⟨rfl, N7q, e7⟩ := hQ7
    have N7 := Fr.app N6 N7q
    refine ownE.goS (T' := T7) (f' := (mkF m 64 #[.val (.int i0), .val (.int i1), .val (.int i2), .val (.int i3), .val (.int (i3 &&& (3 : Int32))), .val (.int ((((i3.toUInt32 >>> ((2 : Int32) &&& 31).toUInt32).toInt32) &&& (3 : Int32)) - (1 : Int32))), .val (.int (own_j0_46_L6 i0 i1 i2 i3)), .val (.ref b5), .unset, .unset, .unset, .unset, .unset, .unset] [(.int (own_f4 (own_j0_46_L6 i0 i1 i2 i3) i0 i1))])) st7 ?_
    refine ownE.go (T' := T7) (f' := (mkF m 81 #[.val (.int i0), .val (.int i1), .val (.int i2), .val (.int i3), .val (.int (i3 &&& (3 : Int32))), .val (.int ((((i3.toUInt32 >>> ((2 : Int32) &&& 31).toUInt32).toInt32) &&& (3 : Int32)) - (1 : Int32))), .val (.int (own_j0_46_L6 i0 i1 i2 i3)), .val (.ref b5), .val (.int (own_f4 (own_j0_46_L6 i0 i1 i2 i3) i0 i1)), .val (.long (((own_j0_46_L6 i0 i1 i2 i3).toInt64) - (i0.toInt64))), .second, .val (.long ((i1.toInt64) - (i0.toInt64))), .second, .unset] [])) (fun t kt => ?_) ?_
    · show Steps p.tables e below (T7.setTop (mkF m 64 #[.val (.int i0), .val (.int i1), .val (.int i2), .val (.int i3), .val (.int (i3 &&& (3 : Int32))), .val (.int ((((i3.toUInt32 >>> ((2 : Int32) &&& 31).toUInt32).toInt32) &&& (3 : Int32)) - (1 : Int32))), .val (.int (own_j0_46_L6 i0 i1 i2 i3)), .val (.ref b5), .unset, .unset, .unset, .unset, .unset, .unset] [(.int (own_f4 (own_j0_46_L6 i0 i1 i2 i3) i0 i1))])) _
      refine XS.istore X7.here hx rfl (hb hby at_64) rfl (l' := #[.val (.int i0), .val (.int i1), .val (.int i2), .val (.int i3), .val (.int (i3 &&& (3 : Int32))), .val (.int ((((i3.toUInt32 >>> ((2 : Int32) &&& 31).toUInt32).toInt32) &&& (3 : Int32)) - (1 : Int32))), .val (.int (own_j0_46_L6 i0 i1 i2 i3)), .val (.ref b5), .val (.int (own_f4 (own_j0_46_L6 i0 i1 i2 i3) i0 i1)), .unset, .unset, .unset, .unset, .unset]) rfl ?_
      show Steps p.tables e below (T7.setTop (mkF m 66 #[.val (.int i0), .val (.int i1), .val (.int i2), .val (.int i3), .val (.int (i3 &&& (3 : Int32))), .val (.int ((((i3.toUInt32 >>> ((2 : Int32) &&& 31).toUInt32).toInt32) &&& (3 : Int32)) - (1 : Int32))), .val (.int (own_j0_46_L6 i0 i1 i2 i3)), .val (.ref b5), .val (.int (own_f4 (own_j0_46_L6 i0 i1 i2 i3) i0 i1)), .unset, .unset, .unset, .unset, .unset] [])) _
      refine XS.iload X7.here hx rfl (hb hby at_66) rfl ?_
      show Steps p.tables e below (T7.setTop (mkF m 68 #[.val (.int i0), .val (.int i1), .val (.int i2), .val (.int i3), .val (.int (i3 &&& (3 : Int32))), .val (.int ((((i3.toUInt32 >>> ((2 : Int32) &&& 31).toUInt32).toInt32) &&& (3 : Int32)) - (1 : Int32))), .val (.int (own_j0_46_L6 i0 i1 i2 i3)), .val (.ref b5), .val (.int (own_f4 (own_j0_46_L6 i0 i1 i2 i3) i0 i1)), .unset, .unset, .unset, .unset, .unset] [(.int (own_j0_46_L6 i0 i1 i2 i3))])) _
      refine XS.i2l X7.here hx rfl (hb hby at_68) rfl ?_
      show Steps p.tables e below (T7.setTop (mkF m 69 #[.val (.int i0), .val (.int i1), .val (.int i2), .val (.int i3), .val (.int (i3 &&& (3 : Int32))), .val (.int ((((i3.toUInt32 >>> ((2 : Int32) &&& 31).toUInt32).toInt32) &&& (3 : Int32)) - (1 : Int32))), .val (.int (own_j0_46_L6 i0 i1 i2 i3)), .val (.ref b5), .val (.int (own_f4 (own_j0_46_L6 i0 i1 i2 i3) i0 i1)), .unset, .unset, .unset, .unset, .unset] [(.long ((own_j0_46_L6 i0 i1 i2 i3).toInt64))])) _
      refine XS.iloadN X7.here hx rfl (hb hby at_69) rfl ?_
      show Steps p.tables e below (T7.setTop (mkF m 70 #[.val (.int i0), .val (.int i1), .val (.int i2), .val (.int i3), .val (.int (i3 &&& (3 : Int32))), .val (.int ((((i3.toUInt32 >>> ((2 : Int32) &&& 31).toUInt32).toInt32) &&& (3 : Int32)) - (1 : Int32))), .val (.int (own_j0_46_L6 i0 i1 i2 i3)), .val (.ref b5), .val (.int (own_f4 (own_j0_46_L6 i0 i1 i2 i3) i0 i1)), .unset, .unset, .unset, .unset, .unset] [(.int i0), (.long ((own_j0_46_L6 i0 i1 i2 i3).toInt64))])) _
      refine XS.i2l X7.here hx rfl (hb hby at_70) rfl ?_
      show Steps p.tables e below (T7.setTop (mkF m 71 #[.val (.int i0), .val (.int i1), .val (.int i2), .val (.int i3), .val (.int (i3 &&& (3 : Int32))), .val (.int ((((i3.toUInt32 >>> ((2 : Int32) &&& 31).toUInt32).toInt32) &&& (3 : Int32)) - (1 : Int32))), .val (.int (own_j0_46_L6 i0 i1 i2 i3)), .val (.ref b5), .val (.int (own_f4 (own_j0_46_L6 i0 i1 i2 i3) i0 i1)), .unset, .unset, .unset, .unset, .unset] [(.long (i0.toInt64)), (.long ((own_j0_46_L6 i0 i1 i2 i3).toInt64))])) _
      refine XS.lsub X7.here hx rfl (hb hby at_71) rfl ?_
      show Steps p.tables e below (T7.setTop (mkF m 72 #[.val (.int i0), .val (.int i1), .val (.int i2), .val (.int i3), .val (.int (i3 &&& (3 : Int32))), .val (.int ((((i3.toUInt32 >>> ((2 : Int32) &&& 31).toUInt32).toInt32) &&& (3 : Int32)) - (1 : Int32))), .val (.int (own_j0_46_L6 i0 i1 i2 i3)), .val (.ref b5), .val (.int (own_f4 (own_j0_46_L6 i0 i1 i2 i3) i0 i1)), .unset, .unset, .unset, .unset, .unset] [(.long (((own_j0_46_L6 i0 i1 i2 i3).toInt64) - (i0.toInt64)))])) _
      refine XS.lstore X7.here hx rfl (hb hby at_72) rfl (l' := #[.val (.int i0), .val (.int i1), .val (.int i2), .val (.int i3), .val (.int (i3 &&& (3 : Int32))), .val (.int ((((i3.toUInt32 >>> ((2 : Int32) &&& 31).toUInt32).toInt32) &&& (3 : Int32)) - (1 : Int32))), .val (.int (own_j0_46_L6 i0 i1 i2 i3)), .val (.ref b5), .val (.int (own_f4 (own_j0_46_L6 i0 i1 i2 i3) i0 i1)), .val (.long (((own_j0_46_L6 i0 i1 i2 i3).toInt64) - (i0.toInt64))), .second, .unset, .unset, .unset]) rfl ?_
      show Steps p.tables e below (T7.setTop (mkF m 74 #[.val (.int i0), .val (.int i1), .val (.int i2), .val (.int i3), .val (.int (i3 &&& (3 : Int32))), .val (.int ((((i3.toUInt32 >>> ((2 : Int32) &&& 31).toUInt32).toInt32) &&& (3 : Int32)) - (1 : Int32))), .val (.int (own_j0_46_L6 i0 i1 i2 i3)), .val (.ref b5), .val (.int (own_f4 (own_j0_46_L6 i0 i1 i2 i3) i0 i1)), .val (.long (((own_j0_46_L6 i0 i1 i2 i3).toInt64) - (i0.toInt64))), .second, .unset, .unset, .unset] [])) _
      refine XS.iloadN X7.here hx rfl (hb hby at_74) rfl ?_
      show Steps p.tables e below (T7.setTop (mkF m 75 #[.val (.int i0), .val (.int i1), .val (.int i2), .val (.int i3), .val (.int (i3 &&& (3 : Int32))), .val (.int ((((i3.toUInt32 >>> ((2 : Int32) &&& 31).toUInt32).toInt32) &&& (3 : Int32)) - (1 : Int32))), .val (.int (own_j0_46_L6 i0 i1 i2 i3)), .val (.ref b5), .val (.int (own_f4 (own_j0_46_L6 i0 i1 i2 i3) i0 i1)), .val (.long (((own_j0_46_L6 i0 i1 i2 i3).toInt64) - (i0.toInt64))), .second, .unset, .unset, .unset] [(.int i1)])) _
      refine XS.i2l X7.here hx rfl (hb hby at_75) rfl ?_
      show Steps p.tables e below (T7.setTop (mkF m 76 #[.val (.int i0), .val (.int i1), .val (.int i2), .val (.int i3), .val (.int (i3 &&& (3 : Int32))), .val (.int ((((i3.toUInt32 >>> ((2 : Int32) &&& 31).toUInt32).toInt32) &&& (3 : Int32)) - (1 : Int32))), .val (.int (own_j0_46_L6 i0 i1 i2 i3)), .val (.ref b5), .val (.int (own_f4 (own_j0_46_L6 i0 i1 i2 i3) i0 i1)), .val (.long (((own_j0_46_L6 i0 i1 i2 i3).toInt64) - (i0.toInt64))), .second, .unset, .unset, .unset] [(.long (i1.toInt64))])) _
      refine XS.iloadN X7.here hx rfl (hb hby at_76) rfl ?_
      show Steps p.tables e below (T7.setTop (mkF m 77 #[.val (.int i0), .val (.int i1), .val (.int i2), .val (.int i3), .val (.int (i3 &&& (3 : Int32))), .val (.int ((((i3.toUInt32 >>> ((2 : Int32) &&& 31).toUInt32).toInt32) &&& (3 : Int32)) - (1 : Int32))), .val (.int (own_j0_46_L6 i0 i1 i2 i3)), .val (.ref b5), .val (.int (own_f4 (own_j0_46_L6 i0 i1 i2 i3) i0 i1)), .val (.long (((own_j0_46_L6 i0 i1 i2 i3).toInt64) - (i0.toInt64))), .second, .unset, .unset, .unset] [(.int i0), (.long (i1.toInt64))])) _
      refine XS.i2l X7.here hx rfl (hb hby at_77) rfl ?_
      show Steps p.tables e below (T7.setTop (mkF m 78 #[.val (.int i0), .val (.int i1), .val (.int i2), .val (.int i3), .val (.int (i3 &&& (3 : Int32))), .val (.int ((((i3.toUInt32 >>> ((2 : Int32) &&& 31).toUInt32).toInt32) &&& (3 : Int32)) - (1 : Int32))), .val (.int (own_j0_46_L6 i0 i1 i2 i3)), .val (.ref b5), .val (.int (own_f4 (own_j0_46_L6 i0 i1 i2 i3) i0 i1)), .val (.long (((own_j0_46_L6 i0 i1 i2 i3).toInt64) - (i0.toInt64))), .second, .unset, .unset, .unset] [(.long (i0.toInt64)), (.long (i1.toInt64))])) _
      refine XS.lsub X7.here hx rfl (hb hby at_78) rfl ?_
      show Steps p.tables e below (T7.setTop (mkF m 79 #[.val (.int i0), .val (.int i1), .val (.int i2), .val (.int i3), .val (.int (i3 &&& (3 : Int32))), .val (.int ((((i3.toUInt32 >>> ((2 : Int32) &&& 31).toUInt32).toInt32) &&& (3 : Int32)) - (1 : Int32))), .val (.int (own_j0_46_L6 i0 i1 i2 i3)), .val (.ref b5), .val (.int (own_f4 (own_j0_46_L6 i0 i1 i2 i3) i0 i1)), .val (.long (((own_j0_46_L6 i0 i1 i2 i3).toInt64) - (i0.toInt64))), .second, .unset, .unset, .unset] [(.long ((i1.toInt64) - (i0.toInt64)))])) _
      refine XS.lstore X7.here hx rfl (hb hby at_79) rfl (l' := #[.val (.int i0), .val (.int i1), .val (.int i2), .val (.int i3), .val (.int (i3 &&& (3 : Int32))), .val (.int ((((i3.toUInt32 >>> ((2 : Int32) &&& 31).toUInt32).toInt32) &&& (3 : Int32)) - (1 : Int32))), .val (.int (own_j0_46_L6 i0 i1 i2 i3)), .val (.ref b5), .val (.int (own_f4 (own_j0_46_L6 i0 i1 i2 i3) i0 i1)), .val (.long (((own_j0_46_L6 i0 i1 i2 i3).toInt64) - (i0.toInt64))), .second, .val (.long ((i1.toInt64) - (i0.toInt64))), .second, .unset]) rfl ?_
      exact kt
    have J11 : ∀ (TJ11 : State) (locsJ11 : List Loc), Stand p l e room_1 s m #[(.int i0), (.int i1), (.int i2), (.int i3)] below meth c TJ11 locsJ11 1 2 → TJ11.heap = T6.heap → Fr n0 locsJ11 → ownE p e below s (own_Q0 Z i0 i1 i2 i3 h0 n0) 1 2 TJ11 (mkF m 101 #[.val (.int i0), .val (.int i1), .val (.int i2), .val (.int i3), .val (.int (i3 &&& (3 : Int32))), .val (.int ((((i3.toUInt32 >>> ((2 : Int32) &&& 31).toUInt32).toInt32) &&& (3 : Int32)) - (1 : Int32))), .val (.int (own_j0_46_L6 i0 i1 i2 i3)), .val (.ref b5), .val (.int (own_f4 (own_j0_46_L6 i0 i1 i2 i3) i0 i1)), .val (.long (((own_j0_46_L6 i0 i1 i2 i3).toInt64) - (i0.toInt64))), .second, .val (.long ((i1.toInt64) - (i0.toInt64))), .second, .unset] [(.int (own_j0_101_S0 i0 i1 i2 i3))]) := by
      intro TJ11 locsJ11 XJ11 eJ11 NJ11
      refine ownE.go (T' := TJ11) (f' := (mkF m 107 #[.val (.int i0), .val (.int i1), .val (.int i2), .val (.int i3), .val (.int (i3 &&& (3 : Int32))), .val (.int ((((i3.toUInt32 >>> ((2 : Int32) &&& 31).toUInt32).toInt32) &&& (3 : Int32)) - (1 : Int32))), .val (.int (own_j0_46_L6 i0 i1 i2 i3)), .val (.ref b5), .val (.int (own_f4 (own_j0_46_L6 i0 i1 i2 i3) i0 i1)), .val (.long (((own_j0_46_L6 i0 i1 i2 i3).toInt64) - (i0.toInt64))), .second, .val (.long ((i1.toInt64) - (i0.toInt64))), .second, .val (.int (own_j0_101_S0 i0 i1 i2 i3))] [(.int (own_j0_101_S0 i0 i1 i2 i3)), (.int (own_f4 (own_j0_46_L6 i0 i1 i2 i3) i0 i1))])) (fun t kt => ?_) ?_
      · show Steps p.tables e below (TJ11.setTop (mkF m 101 #[.val (.int i0), .val (.int i1), .val (.int i2), .val (.int i3), .val (.int (i3 &&& (3 : Int32))), .val (.int ((((i3.toUInt32 >>> ((2 : Int32) &&& 31).toUInt32).toInt32) &&& (3 : Int32)) - (1 : Int32))), .val (.int (own_j0_46_L6 i0 i1 i2 i3)), .val (.ref b5), .val (.int (own_f4 (own_j0_46_L6 i0 i1 i2 i3) i0 i1)), .val (.long (((own_j0_46_L6 i0 i1 i2 i3).toInt64) - (i0.toInt64))), .second, .val (.long ((i1.toInt64) - (i0.toInt64))), .second, .unset] [(.int (own_j0_101_S0 i0 i1 i2 i3))])) _
        refine XS.istore XJ11.here hx rfl (hb hby at_101) rfl (l' := #[.val (.int i0), .val (.int i1), .val (.int i2), .val (.int i3), .val (.int (i3 &&& (3 : Int32))), .val (.int ((((i3.toUInt32 >>> ((2 : Int32) &&& 31).toUInt32).toInt32) &&& (3 : Int32)) - (1 : Int32))), .val (.int (own_j0_46_L6 i0 i1 i2 i3)), .val (.ref b5), .val (.int (own_f4 (own_j0_46_L6 i0 i1 i2 i3) i0 i1)), .val (.long (((own_j0_46_L6 i0 i1 i2 i3).toInt64) - (i0.toInt64))), .second, .val (.long ((i1.toInt64) - (i0.toInt64))), .second, .val (.int (own_j0_101_S0 i0 i1 i2 i3))]) rfl ?_
        show Steps p.tables e below (TJ11.setTop (mkF m 103 #[.val (.int i0), .val (.int i1), .val (.int i2), .val (.int i3), .val (.int (i3 &&& (3 : Int32))), .val (.int ((((i3.toUInt32 >>> ((2 : Int32) &&& 31).toUInt32).toInt32) &&& (3 : Int32)) - (1 : Int32))), .val (.int (own_j0_46_L6 i0 i1 i2 i3)), .val (.ref b5), .val (.int (own_f4 (own_j0_46_L6 i0 i1 i2 i3) i0 i1)), .val (.long (((own_j0_46_L6 i0 i1 i2 i3).toInt64) - (i0.toInt64))), .second, .val (.long ((i1.toInt64) - (i0.toInt64))), .second, .val (.int (own_j0_101_S0 i0 i1 i2 i3))] [])) _
        refine XS.iload XJ11.here hx rfl (hb hby at_103) rfl ?_
        show Steps p.tables e below (TJ11.setTop (mkF m 105 #[.val (.int i0), .val (.int i1), .val (.int i2), .val (.int i3), .val (.int (i3 &&& (3 : Int32))), .val (.int ((((i3.toUInt32 >>> ((2 : Int32) &&& 31).toUInt32).toInt32) &&& (3 : Int32)) - (1 : Int32))), .val (.int (own_j0_46_L6 i0 i1 i2 i3)), .val (.ref b5), .val (.int (own_f4 (own_j0_46_L6 i0 i1 i2 i3) i0 i1)), .val (.long (((own_j0_46_L6 i0 i1 i2 i3).toInt64) - (i0.toInt64))), .second, .val (.long ((i1.toInt64) - (i0.toInt64))), .second, .val (.int (own_j0_101_S0 i0 i1 i2 i3))] [(.int (own_f4 (own_j0_46_L6 i0 i1 i2 i3) i0 i1))])) _
        refine XS.iload XJ11.here hx rfl (hb hby at_105) rfl ?_
        exact kt
      by_cases hc12 : (own_f4 (own_j0_46_L6 i0 i1 i2 i3) i0 i1) = (own_j0_101_S0 i0 i1 i2 i3)
      · -- pc 107
        refine ownE.go (T' := TJ11) (f' := (mkF m 110 #[.val (.int i0), .val (.int i1), .val (.int i2), .val (.int i3), .val (.int (i3 &&& (3 : Int32))), .val (.int ((((i3.toUInt32 >>> ((2 : Int32) &&& 31).toUInt32).toInt32) &&& (3 : Int32)) - (1 : Int32))), .val (.int (own_j0_46_L6 i0 i1 i2 i3)), .val (.ref b5), .val (.int (own_f4 (own_j0_46_L6 i0 i1 i2 i3) i0 i1)), .val (.long (((own_j0_46_L6 i0 i1 i2 i3).toInt64) - (i0.toInt64))), .second, .val (.long ((i1.toInt64) - (i0.toInt64))), .second, .val (.int (own_j0_101_S0 i0 i1 i2 i3))] [])) (fun t kt => XS.icmpNo (g := (mkF m 107 #[.val (.int i0), .val (.int i1), .val (.int i2), .val (.int i3), .val (.int (i3 &&& (3 : Int32))), .val (.int ((((i3.toUInt32 >>> ((2 : Int32) &&& 31).toUInt32).toInt32) &&& (3 : Int32)) - (1 : Int32))), .val (.int (own_j0_46_L6 i0 i1 i2 i3)), .val (.ref b5), .val (.int (own_f4 (own_j0_46_L6 i0 i1 i2 i3) i0 i1)), .val (.long (((own_j0_46_L6 i0 i1 i2 i3).toInt64) - (i0.toInt64))), .second, .val (.long ((i1.toInt64) - (i0.toInt64))), .second, .val (.int (own_j0_101_S0 i0 i1 i2 i3))] [(.int (own_j0_101_S0 i0 i1 i2 i3)), (.int (own_f4 (own_j0_46_L6 i0 i1 i2 i3) i0 i1))])) XJ11.here hx rfl (hb hby at_107) rfl (Jvm.Free.XT.ii_ne_f hc12) kt) ?_
        refine ownE.go (T' := TJ11) (f' := (mkF m 115 #[.val (.int i0), .val (.int i1), .val (.int i2), .val (.int i3), .val (.int (i3 &&& (3 : Int32))), .val (.int ((((i3.toUInt32 >>> ((2 : Int32) &&& 31).toUInt32).toInt32) &&& (3 : Int32)) - (1 : Int32))), .val (.int (own_j0_46_L6 i0 i1 i2 i3)), .val (.ref b5), .val (.int (own_f4 (own_j0_46_L6 i0 i1 i2 i3) i0 i1)), .val (.long (((own_j0_46_L6 i0 i1 i2 i3).toInt64) - (i0.toInt64))), .second, .val (.long ((i1.toInt64) - (i0.toInt64))), .second, .val (.int (own_j0_101_S0 i0 i1 i2 i3))] [(.int (1 : Int32))])) (fun t kt => ?_) ?_
        · show Steps p.tables e below (TJ11.setTop (mkF m 110 #[.val (.int i0), .val (.int i1), .val (.int i2), .val (.int i3), .val (.int (i3 &&& (3 : Int32))), .val (.int ((((i3.toUInt32 >>> ((2 : Int32) &&& 31).toUInt32).toInt32) &&& (3 : Int32)) - (1 : Int32))), .val (.int (own_j0_46_L6 i0 i1 i2 i3)), .val (.ref b5), .val (.int (own_f4 (own_j0_46_L6 i0 i1 i2 i3) i0 i1)), .val (.long (((own_j0_46_L6 i0 i1 i2 i3).toInt64) - (i0.toInt64))), .second, .val (.long ((i1.toInt64) - (i0.toInt64))), .second, .val (.int (own_j0_101_S0 i0 i1 i2 i3))] [])) _
          refine XS.iconst XJ11.here hx rfl (hb hby at_110) ?_
          show Steps p.tables e below (TJ11.setTop (mkF m 111 #[.val (.int i0), .val (.int i1), .val (.int i2), .val (.int i3), .val (.int (i3 &&& (3 : Int32))), .val (.int ((((i3.toUInt32 >>> ((2 : Int32) &&& 31).toUInt32).toInt32) &&& (3 : Int32)) - (1 : Int32))), .val (.int (own_j0_46_L6 i0 i1 i2 i3)), .val (.ref b5), .val (.int (own_f4 (own_j0_46_L6 i0 i1 i2 i3) i0 i1)), .val (.long (((own_j0_46_L6 i0 i1 i2 i3).toInt64) - (i0.toInt64))), .second, .val (.long ((i1.toInt64) - (i0.toInt64))), .second, .val (.int (own_j0_101_S0 i0 i1 i2 i3))] [(.int (1 : Int32))])) _
          refine XS.goto XJ11.here hx rfl (pc0 := 111) (pc' := 115) rfl (hb hby at_111) (by decide) (by decide) ?_
          exact kt
        refine ownE.retN XJ11 hx hlk (t := .boolean) hret (by simp) (hb hby at_115) ?_ (by decide) (by decide)
        show own_Q0 Z i0 i1 i2 i3 h0 n0 _ TJ11.heap _
        rw [eJ11]
        exact ⟨(by rw [own_f0, if_pos hc12] <;> first | rfl | decide), NJ11, K6⟩
      · -- pc 107
        refine ownE.go (T' := TJ11) (f' := (mkF m 114 #[.val (.int i0), .val (.int i1), .val (.int i2), .val (.int i3), .val (.int (i3 &&& (3 : Int32))), .val (.int ((((i3.toUInt32 >>> ((2 : Int32) &&& 31).toUInt32).toInt32) &&& (3 : Int32)) - (1 : Int32))), .val (.int (own_j0_46_L6 i0 i1 i2 i3)), .val (.ref b5), .val (.int (own_f4 (own_j0_46_L6 i0 i1 i2 i3) i0 i1)), .val (.long (((own_j0_46_L6 i0 i1 i2 i3).toInt64) - (i0.toInt64))), .second, .val (.long ((i1.toInt64) - (i0.toInt64))), .second, .val (.int (own_j0_101_S0 i0 i1 i2 i3))] [])) (fun t kt => XS.icmpYes (g := (mkF m 107 #[.val (.int i0), .val (.int i1), .val (.int i2), .val (.int i3), .val (.int (i3 &&& (3 : Int32))), .val (.int ((((i3.toUInt32 >>> ((2 : Int32) &&& 31).toUInt32).toInt32) &&& (3 : Int32)) - (1 : Int32))), .val (.int (own_j0_46_L6 i0 i1 i2 i3)), .val (.ref b5), .val (.int (own_f4 (own_j0_46_L6 i0 i1 i2 i3) i0 i1)), .val (.long (((own_j0_46_L6 i0 i1 i2 i3).toInt64) - (i0.toInt64))), .second, .val (.long ((i1.toInt64) - (i0.toInt64))), .second, .val (.int (own_j0_101_S0 i0 i1 i2 i3))] [(.int (own_j0_101_S0 i0 i1 i2 i3)), (.int (own_f4 (own_j0_46_L6 i0 i1 i2 i3) i0 i1))])) XJ11.here hx rfl (pc0 := 107) (pc' := 114) rfl (hb hby at_107) rfl (Jvm.Free.XT.ii_ne_t hc12) (by decide) (by decide) kt) ?_
        refine ownE.go (T' := TJ11) (f' := (mkF m 115 #[.val (.int i0), .val (.int i1), .val (.int i2), .val (.int i3), .val (.int (i3 &&& (3 : Int32))), .val (.int ((((i3.toUInt32 >>> ((2 : Int32) &&& 31).toUInt32).toInt32) &&& (3 : Int32)) - (1 : Int32))), .val (.int (own_j0_46_L6 i0 i1 i2 i3)), .val (.ref b5), .val (.int (own_f4 (own_j0_46_L6 i0 i1 i2 i3) i0 i1)), .val (.long (((own_j0_46_L6 i0 i1 i2 i3).toInt64) - (i0.toInt64))), .second, .val (.long ((i1.toInt64) - (i0.toInt64))), .second, .val (.int (own_j0_101_S0 i0 i1 i2 i3))] [(.int (0 : Int32))])) (fun t kt => ?_) ?_
        · show Steps p.tables e below (TJ11.setTop (mkF m 114 #[.val (.int i0), .val (.int i1), .val (.int i2), .val (.int i3), .val (.int (i3 &&& (3 : Int32))), .val (.int ((((i3.toUInt32 >>> ((2 : Int32) &&& 31).toUInt32).toInt32) &&& (3 : Int32)) - (1 : Int32))), .val (.int (own_j0_46_L6 i0 i1 i2 i3)), .val (.ref b5), .val (.int (own_f4 (own_j0_46_L6 i0 i1 i2 i3) i0 i1)), .val (.long (((own_j0_46_L6 i0 i1 i2 i3).toInt64) - (i0.toInt64))), .second, .val (.long ((i1.toInt64) - (i0.toInt64))), .second, .val (.int (own_j0_101_S0 i0 i1 i2 i3))] [])) _
          refine XS.iconst XJ11.here hx rfl (hb hby at_114) ?_
          exact kt
        refine ownE.retN XJ11 hx hlk (t := .boolean) hret (by simp) (hb hby at_115) ?_ (by decide) (by decide)
        show own_Q0 Z i0 i1 i2 i3 h0 n0 _ TJ11.heap _
        rw [eJ11]
        exact ⟨(by rw [own_f0, if_neg hc12] <;> first | rfl | decide), NJ11, K6⟩
    refine ownE.go (T' := T7) (f' := (mkF m 85 #[.val (.int i0), .val (.int i1), .val (.int i2), .val (.int i3), .val (.int (i3 &&& (3 : Int32))), .val (.int ((((i3.toUInt32 >>> ((2 : Int32) &&& 31).toUInt32).toInt32) &&& (3 : Int32)) - (1 : Int32))), .val (.int (own_j0_46_L6 i0 i1 i2 i3)), .val (.ref b5), .val (.int (own_f4 (own_j0_46_L6 i0 i1 i2 i3) i0 i1)), .val (.long (((own_j0_46_L6 i0 i1 i2 i3).toInt64) - (i0.toInt64))), .second, .val (.long ((i1.toInt64) - (i0.toInt64))), .second, .unset] [(.int (Jvm.Free.XT.cmpL (((own_j0_46_L6 i0 i1 i2 i3).toInt64) - (i0.toInt64)) (0 : Int64)))])) (fun t kt => ?_) ?_
    · show Steps p.tables e below (T7.setTop (mkF m 81 #[.val (.int i0), .val (.int i1), .val (.int i2), .val (.int i3), .val (.int (i3 &&& (3 : Int32))), .val (.int ((((i3.toUInt32 >>> ((2 : Int32) &&& 31).toUInt32).toInt32) &&& (3 : Int32)) - (1 : Int32))), .val (.int (own_j0_46_L6 i0 i1 i2 i3)), .val (.ref b5), .val (.int (own_f4 (own_j0_46_L6 i0 i1 i2 i3) i0 i1)), .val (.long (((own_j0_46_L6 i0 i1 i2 i3).toInt64) - (i0.toInt64))), .second, .val (.long ((i1.toInt64) - (i0.toInt64))), .second, .unset] [])) _
      refine XS.lload X7.here hx rfl (hb hby at_81) rfl ?_
      show Steps p.tables e below (T7.setTop (mkF m 83 #[.val (.int i0), .val (.int i1), .val (.int i2), .val (.int i3), .val (.int (i3 &&& (3 : Int32))), .val (.int ((((i3.toUInt32 >>> ((2 : Int32) &&& 31).toUInt32).toInt32) &&& (3 : Int32)) - (1 : Int32))), .val (.int (own_j0_46_L6 i0 i1 i2 i3)), .val (.ref b5), .val (.int (own_f4 (own_j0_46_L6 i0 i1 i2 i3) i0 i1)), .val (.long (((own_j0_46_L6 i0 i1 i2 i3).toInt64) - (i0.toInt64))), .second, .val (.long ((i1.toInt64) - (i0.toInt64))), .second, .unset] [(.long (((own_j0_46_L6 i0 i1 i2 i3).toInt64) - (i0.toInt64)))])) _
      refine XS.lconst X7.here hx rfl (hb hby at_83) ?_
      show Steps p.tables e below (T7.setTop (mkF m 84 #[.val (.int i0), .val (.int i1), .val (.int i2), .val (.int i3), .val (.int (i3 &&& (3 : Int32))), .val (.int ((((i3.toUInt32 >>> ((2 : Int32) &&& 31).toUInt32).toInt32) &&& (3 : Int32)) - (1 : Int32))), .val (.int (own_j0_46_L6 i0 i1 i2 i3)), .val (.ref b5), .val (.int (own_f4 (own_j0_46_L6 i0 i1 i2 i3) i0 i1)), .val (.long (((own_j0_46_L6 i0 i1 i2 i3).toInt64) - (i0.toInt64))), .second, .val (.long ((i1.toInt64) - (i0.toInt64))), .second, .unset] [(.long (0 : Int64)), (.long (((own_j0_46_L6 i0 i1 i2 i3).toInt64) - (i0.toInt64)))])) _
      refine XS.lcmp X7.here hx rfl (hb hby at_84) rfl ?_
      exact kt
    by_cases hc9 : (((own_j0_46_L6 i0 i1 i2 i3).toInt64) - (i0.toInt64)) < (0 : Int64)
    · -- pc 85
      refine ownE.go (T' := T7) (f' := (mkF m 100 #[.val (.int i0), .val (.int i1), .val (.int i2), .val (.int i3), .val (.int (i3 &&& (3 : Int32))), .val (.int ((((i3.toUInt32 >>> ((2 : Int32) &&& 31).toUInt32).toInt32) &&& (3 : Int32)) - (1 : Int32))), .val (.int (own_j0_46_L6 i0 i1 i2 i3)), .val (.ref b5), .val (.int (own_f4 (own_j0_46_L6 i0 i1 i2 i3) i0 i1)), .val (.long (((own_j0_46_L6 i0 i1 i2 i3).toInt64) - (i0.toInt64))), .second, .val (.long ((i1.toInt64) - (i0.toInt64))), .second, .unset] [])) (fun t kt => XS.ifYes (g := (mkF m 85 #[.val (.int i0), .val (.int i1), .val (.int i2), .val (.int i3), .val (.int (i3 &&& (3 : Int32))), .val (.int ((((i3.toUInt32 >>> ((2 : Int32) &&& 31).toUInt32).toInt32) &&& (3 : Int32)) - (1 : Int32))), .val (.int (own_j0_46_L6 i0 i1 i2 i3)), .val (.ref b5), .val (.int (own_f4 (own_j0_46_L6 i0 i1 i2 i3) i0 i1)), .val (.long (((own_j0_46_L6 i0 i1 i2 i3).toInt64) - (i0.toInt64))), .second, .val (.long ((i1.toInt64) - (i0.toInt64))), .second, .unset] [(.int (Jvm.Free.XT.cmpL (((own_j0_46_L6 i0 i1 i2 i3).toInt64) - (i0.toInt64)) (0 : Int64)))])) X7.here hx rfl (pc0 := 85) (pc' := 100) rfl (hb hby at_85) rfl (Jvm.Free.XT.ll_lt_t hc9) (by decide) (by decide) kt) ?_
      refine ownE.go (T' := T7) (f' := (mkF m 101 #[.val (.int i0), .val (.int i1), .val (.int i2), .val (.int i3), .val (.int (i3 &&& (3 : Int32))), .val (.int ((((i3.toUInt32 >>> ((2 : Int32) &&& 31).toUInt32).toInt32) &&& (3 : Int32)) - (1 : Int32))), .val (.int (own_j0_46_L6 i0 i1 i2 i3)), .val (.ref b5), .val (.int (own_f4 (own_j0_46_L6 i0 i1 i2 i3) i0 i1)), .val (.long (((own_j0_46_L6 i0 i1 i2 i3).toInt64) - (i0.toInt64))), .second, .val (.long ((i1.toInt64) - (i0.toInt64))), .second, .unset] [(.int (0 : Int32))])) (fun t kt => ?_) ?_
      · show Steps p.tables e below (T7.setTop (mkF m 100 #[.val (.int i0), .val (.int i1), .val (.int i2), .val (.int i3), .val (.int (i3 &&& (3 : Int32))), .val (.int ((((i3.toUInt32 >>> ((2 : Int32) &&& 31).toUInt32).toInt32) &&& (3 : Int32)) - (1 : Int32))), .val (.int (own_j0_46_L6 i0 i1 i2 i3)), .val (.ref b5), .val (.int (own_f4 (own_j0_46_L6 i0 i1 i2 i3) i0 i1)), .val (.long (((own_j0_46_L6 i0 i1 i2 i3).toInt64) - (i0.toInt64))), .second, .val (.long ((i1.toInt64) - (i0.toInt64))), .second, .unset] [])) _
        refine XS.iconst X7.here hx rfl (hb hby at_100) ?_
        exact kt
      have jj := J11 _ _ X7 e7 N7
      rw [show (own_j0_101_S0 i0 i1 i2 i3) = (0 : Int32) from by rw [own_j0_101_S0, if_pos hc9]] at jj
      exact jj
    · -- pc 85
      refine ownE.go (T' := T7) (f' := (mkF m 88 #[.val (.int i0), .val (.int i1), .val (.int i2), .val (.int i3), .val (.int (i3 &&& (3 : Int32))), .val (.int ((((i3.toUInt32 >>> ((2 : Int32) &&& 31).toUInt32).toInt32) &&& (3 : Int32)) - (1 : Int32))), .val (.int (own_j0_46_L6 i0 i1 i2 i3)), .val (.ref b5), .val (.int (own_f4 (own_j0_46_L6 i0 i1 i2 i3) i0 i1)), .val (.long (((own_j0_46_L6 i0 i1 i2 i3).toInt64) - (i0.toInt64))), .second, .val (.long ((i1.toInt64) - (i0.toInt64))), .second, .unset] [])) (fun t kt => XS.ifNo (g := (mkF m 85 #[.val (.int i0), .val (.int i1), .val (.int i2), .val (.int i3), .val (.int (i3 &&& (3 : Int32))), .val (.int ((((i3.toUInt32 >>> ((2 : Int32) &&& 31).toUInt32).toInt32) &&& (3 : Int32)) - (1 : Int32))), .val (.int (own_j0_46_L6 i0 i1 i2 i3)), .val (.ref b5), .val (.int (own_f4 (own_j0_46_L6 i0 i1 i2 i3) i0 i1)), .val (.long (((own_j0_46_L6 i0 i1 i2 i3).toInt64) - (i0.toInt64))), .second, .val (.long ((i1.toInt64) - (i0.toInt64))), .second, .unset] [(.int (Jvm.Free.XT.cmpL (((own_j0_46_L6 i0 i1 i2 i3).toInt64) - (i0.toInt64)) (0 : Int64)))])) X7.here hx rfl (hb hby at_85) rfl (Jvm.Free.XT.ll_lt_f hc9) kt) ?_
      refine ownE.go (T' := T7) (f' := (mkF m 93 #[.val (.int i0), .val (.int i1), .val (.int i2), .val (.int i3), .val (.int (i3 &&& (3 : Int32))), .val (.int ((((i3.toUInt32 >>> ((2 : Int32) &&& 31).toUInt32).toInt32) &&& (3 : Int32)) - (1 : Int32))), .val (.int (own_j0_46_L6 i0 i1 i2 i3)), .val (.ref b5), .val (.int (own_f4 (own_j0_46_L6 i0 i1 i2 i3) i0 i1)), .val (.long (((own_j0_46_L6 i0 i1 i2 i3).toInt64) - (i0.toInt64))), .second, .val (.long ((i1.toInt64) - (i0.toInt64))), .second, .unset] [(.int (Jvm.Free.XT.cmpL (((own_j0_46_L6 i0 i1 i2 i3).toInt64) - (i0.toInt64)) ((i1.toInt64) - (i0.toInt64))))])) (fun t kt => ?_) ?_
      · show Steps p.tables e below (T7.setTop (mkF m 88 #[.val (.int i0), .val (.int i1), .val (.int i2), .val (.int i3), .val (.int (i3 &&& (3 : Int32))), .val (.int ((((i3.toUInt32 >>> ((2 : Int32) &&& 31).toUInt32).toInt32) &&& (3 : Int32)) - (1 : Int32))), .val (.int (own_j0_46_L6 i0 i1 i2 i3)), .val (.ref b5), .val (.int (own_f4 (own_j0_46_L6 i0 i1 i2 i3) i0 i1)), .val (.long (((own_j0_46_L6 i0 i1 i2 i3).toInt64) - (i0.toInt64))), .second, .val (.long ((i1.toInt64) - (i0.toInt64))), .second, .unset] [])) _
        refine XS.lload X7.here hx rfl (hb hby at_88) rfl ?_
        show Steps p.tables e below (T7.setTop (mkF m 90 #[.val (.int i0), .val (.int i1), .val (.int i2), .val (.int i3), .val (.int (i3 &&& (3 : Int32))), .val (.int ((((i3.toUInt32 >>> ((2 : Int32) &&& 31).toUInt32).toInt32) &&& (3 : Int32)) - (1 : Int32))), .val (.int (own_j0_46_L6 i0 i1 i2 i3)), .val (.ref b5), .val (.int (own_f4 (own_j0_46_L6 i0 i1 i2 i3) i0 i1)), .val (.long (((own_j0_46_L6 i0 i1 i2 i3).toInt64) - (i0.toInt64))), .second, .val (.long ((i1.toInt64) - (i0.toInt64))), .second, .unset] [(.long (((own_j0_46_L6 i0 i1 i2 i3).toInt64) - (i0.toInt64)))])) _
        refine XS.lload X7.here hx rfl (hb hby at_90) rfl ?_
        show Steps p.tables e below (T7.setTop (mkF m 92 #[.val (.int i0), .val (.int i1), .val (.int i2), .val (.int i3), .val (.int (i3 &&& (3 : Int32))), .val (.int ((((i3.toUInt32 >>> ((2 : Int32) &&& 31).toUInt32).toInt32) &&& (3 : Int32)) - (1 : Int32))), .val (.int (own_j0_46_L6 i0 i1 i2 i3)), .val (.ref b5), .val (.int (own_f4 (own_j0_46_L6 i0 i1 i2 i3) i0 i1)), .val (.long (((own_j0_46_L6 i0 i1 i2 i3).toInt64) - (i0.toInt64))), .second, .val (.long ((i1.toInt64) - (i0.toInt64))), .second, .unset] [(.long ((i1.toInt64) - (i0.toInt64))), (.long (((own_j0_46_L6 i0 i1 i2 i3).toInt64) - (i0.toInt64)))])) _
        refine XS.lcmp X7.here hx rfl (hb hby at_92) rfl ?_
        exact kt
      by_cases hc10 : ((i1.toInt64) - (i0.toInt64)) < (((own_j0_46_L6 i0 i1 i2 i3).toInt64) - (i0.toInt64))
      · -- pc 93
        refine ownE.go (T' := T7) (f' := (mkF m 100 #[.val (.int i0), .val (.int i1), .val (.int i2), .val (.int i3), .val (.int (i3 &&& (3 : Int32))), .val (.int ((((i3.toUInt32 >>> ((2 : Int32) &&& 31).toUInt32).toInt32) &&& (3 : Int32)) - (1 : Int32))), .val (.int (own_j0_46_L6 i0 i1 i2 i3)), .val (.ref b5), .val (.int (own_f4 (own_j0_46_L6 i0 i1 i2 i3) i0 i1)), .val (.long (((own_j0_46_L6 i0 i1 i2 i3).toInt64) - (i0.toInt64))), .second, .val (.long ((i1.toInt64) - (i0.toInt64))), .second, .unset] [])) (fun t kt => XS.ifYes (g := (mkF m 93 #[.val (.int i0), .val (.int i1), .val (.int i2), .val (.int i3), .val (.int (i3 &&& (3 : Int32))), .val (.int ((((i3.toUInt32 >>> ((2 : Int32) &&& 31).toUInt32).toInt32) &&& (3 : Int32)) - (1 : Int32))), .val (.int (own_j0_46_L6 i0 i1 i2 i3)), .val (.ref b5), .val (.int (own_f4 (own_j0_46_L6 i0 i1 i2 i3) i0 i1)), .val (.long (((own_j0_46_L6 i0 i1 i2 i3).toInt64) - (i0.toInt64))), .second, .val (.long ((i1.toInt64) - (i0.toInt64))), .second, .unset] [(.int (Jvm.Free.XT.cmpL (((own_j0_46_L6 i0 i1 i2 i3).toInt64) - (i0.toInt64)) ((i1.toInt64) - (i0.toInt64))))])) X7.here hx rfl (pc0 := 93) (pc' := 100) rfl (hb hby at_93) rfl (Jvm.Free.XT.ll_gt_t hc10) (by decide) (by decide) kt) ?_
        refine ownE.go (T' := T7) (f' := (mkF m 101 #[.val (.int i0), .val (.int i1), .val (.int i2), .val (.int i3), .val (.int (i3 &&& (3 : Int32))), .val (.int ((((i3.toUInt32 >>> ((2 : Int32) &&& 31).toUInt32).toInt32) &&& (3 : Int32)) - (1 : Int32))), .val (.int (own_j0_46_L6 i0 i1 i2 i3)), .val (.ref b5), .val (.int (own_f4 (own_j0_46_L6 i0 i1 i2 i3) i0 i1)), .val (.long (((own_j0_46_L6 i0 i1 i2 i3).toInt64) - (i0.toInt64))), .second, .val (.long ((i1.toInt64) - (i0.toInt64))), .second, .unset] [(.int (0 : Int32))])) (fun t kt => ?_) ?_
        · show Steps p.tables e below (T7.setTop (mkF m 100 #[.val (.int i0), .val (.int i1), .val (.int i2), .val (.int i3), .val (.int (i3 &&& (3 : Int32))), .val (.int ((((i3.toUInt32 >>> ((2 : Int32) &&& 31).toUInt32).toInt32) &&& (3 : Int32)) - (1 : Int32))), .val (.int (own_j0_46_L6 i0 i1 i2 i3)), .val (.ref b5), .val (.int (own_f4 (own_j0_46_L6 i0 i1 i2 i3) i0 i1)), .val (.long (((own_j0_46_L6 i0 i1 i2 i3).toInt64) - (i0.toInt64))), .second, .val (.long ((i1.toInt64) - (i0.toInt64))), .second, .unset] [])) _
          refine XS.iconst X7.here hx rfl (hb hby at_100) ?_
          exact kt
        have jj := J11 _ _ X7 e7 N7
        rw [show (own_j0_101_S0 i0 i1 i2 i3) = (0 : Int32) from by rw [own_j0_101_S0, if_neg hc9, if_pos hc10]] at jj
        exact jj
      · -- pc 93
        refine ownE.go (T' := T7) (f' := (mkF m 96 #[.val (.int i0), .val (.int i1), .val (.int i2), .val (.int i3), .val (.int (i3 &&& (3 : Int32))), .val (.int ((((i3.toUInt32 >>> ((2 : Int32) &&& 31).toUInt32).toInt32) &&& (3 : Int32)) - (1 : Int32))), .val (.int (own_j0_46_L6 i0 i1 i2 i3)), .val (.ref b5), .val (.int (own_f4 (own_j0_46_L6 i0 i1 i2 i3) i0 i1)), .val (.long (((own_j0_46_L6 i0 i1 i2 i3).toInt64) - (i0.toInt64))), .second, .val (.long ((i1.toInt64) - (i0.toInt64))), .second, .unset] [])) (fun t kt => XS.ifNo (g := (mkF m 93 #[.val (.int i0), .val (.int i1), .val (.int i2), .val (.int i3), .val (.int (i3 &&& (3 : Int32))), .val (.int ((((i3.toUInt32 >>> ((2 : Int32) &&& 31).toUInt32).toInt32) &&& (3 : Int32)) - (1 : Int32))), .val (.int (own_j0_46_L6 i0 i1 i2 i3)), .val (.ref b5), .val (.int (own_f4 (own_j0_46_L6 i0 i1 i2 i3) i0 i1)), .val (.long (((own_j0_46_L6 i0 i1 i2 i3).toInt64) - (i0.toInt64))), .second, .val (.long ((i1.toInt64) - (i0.toInt64))), .second, .unset] [(.int (Jvm.Free.XT.cmpL (((own_j0_46_L6 i0 i1 i2 i3).toInt64) - (i0.toInt64)) ((i1.toInt64) - (i0.toInt64))))])) X7.here hx rfl (hb hby at_93) rfl (Jvm.Free.XT.ll_gt_f hc10) kt) ?_
        refine ownE.go (T' := T7) (f' := (mkF m 101 #[.val (.int i0), .val (.int i1), .val (.int i2), .val (.int i3), .val (.int (i3 &&& (3 : Int32))), .val (.int ((((i3.toUInt32 >>> ((2 : Int32) &&& 31).toUInt32).toInt32) &&& (3 : Int32)) - (1 : Int32))), .val (.int (own_j0_46_L6 i0 i1 i2 i3)), .val (.ref b5), .val (.int (own_f4 (own_j0_46_L6 i0 i1 i2 i3) i0 i1)), .val (.long (((own_j0_46_L6 i0 i1 i2 i3).toInt64) - (i0.toInt64))), .second, .val (.long ((i1.toInt64) - (i0.toInt64))), .second, .unset] [(.int (1 : Int32))])) (fun t kt => ?_) ?_
        · show Steps p.tables e below (T7.setTop (mkF m 96 #[.val (.int i0), .val (.int i1), .val (.int i2), .val (.int i3), .val (.int (i3 &&& (3 : Int32))), .val (.int ((((i3.toUInt32 >>> ((2 : Int32) &&& 31).toUInt32).toInt32) &&& (3 : Int32)) - (1 : Int32))), .val (.int (own_j0_46_L6 i0 i1 i2 i3)), .val (.ref b5), .val (.int (own_f4 (own_j0_46_L6 i0 i1 i2 i3) i0 i1)), .val (.long (((own_j0_46_L6 i0 i1 i2 i3).toInt64) - (i0.toInt64))), .second, .val (.long ((i1.toInt64) - (i0.toInt64))), .second, .unset] [])) _
          refine XS.iconst X7.here hx rfl (hb hby at_96) ?_
          show Steps p.tables e below (T7.setTop (mkF m 97 #[.val (.int i0), .val (.int i1), .val (.int i2), .val (.int i3), .val (.int (i3 &&& (3 : Int32))), .val (.int ((((i3.toUInt32 >>> ((2 : Int32) &&& 31).toUInt32).toInt32) &&& (3 : Int32)) - (1 : Int32))), .val (.int (own_j0_46_L6 i0 i1 i2 i3)), .val (.ref b5), .val (.int (own_f4 (own_j0_46_L6 i0 i1 i2 i3) i0 i1)), .val (.long (((own_j0_46_L6 i0 i1 i2 i3).toInt64) - (i0.toInt64))), .second, .val (.long ((i1.toInt64) - (i0.toInt64))), .second, .unset] [(.int (1 : Int32))])) _
          refine XS.goto X7.here hx rfl (pc0 := 97) (pc' := 101) rfl (hb hby at_97) (by decide) (by decide) ?_
          exact kt
        have jj := J11 _ _ X7 e7 N7
        rw [show (own_j0_101_S0 i0 i1 i2 i3) = (1 : Int32) from by rw [own_j0_101_S0, if_neg hc9, if_neg hc10]] at jj
        exact jj
  refine ownE.go (T' := s₁) (f' := (mkF m 16 #[.val (.int i0), .val (.int i1), .val (.int i2), .val (.int i3), .val (.int (i3 &&& (3 : Int32))), .val (.int ((((i3.toUInt32 >>> ((2 : Int32) &&& 31).toUInt32).toInt32) &&& (3 : Int32)) - (1 : Int32))), .unset, .unset, .unset, .unset, .unset, .unset, .unset, .unset] [(.int (i3 &&& (3 : Int32)))])) (fun t kt => ?_) ?_
  · show Steps p.tables e below (s₁.setTop (mkF m 14 #[.val (.int i0), .val (.int i1), .val (.int i2), .val (.int i3), .val (.int (i3 &&& (3 : Int32))), .val (.int ((((i3.toUInt32 >>> ((2 : Int32) &&& 31).toUInt32).toInt32) &&& (3 : Int32)) - (1 : Int32))), .unset, .unset, .unset, .unset, .unset, .unset, .unset, .unset] [])) _
    refine XS.iload X0.here hx rfl (hb hby at_14) rfl ?_
    exact kt
  by_cases hc2 : (i3 &&& (3 : Int32)) = (0 : Int32)
  · -- pc 16
    refine ownE.go (T' := s₁) (f' := (mkF m 19 #[.val (.int i0), .val (.int i1), .val (.int i2), .val (.int i3), .val (.int (i3 &&& (3 : Int32))), .val (.int ((((i3.toUInt32 >>> ((2 : Int32) &&& 31).toUInt32).toInt32) &&& (3 : Int32)) - (1 : Int32))), .unset, .unset, .unset, .unset, .unset, .unset, .unset, .unset] [])) (fun t kt => XS.ifNo (g := (mkF m 16 #[.val (.int i0), .val (.int i1), .val (.int i2), .val (.int i3), .val (.int (i3 &&& (3 : Int32))), .val (.int ((((i3.toUInt32 >>> ((2 : Int32) &&& 31).toUInt32).toInt32) &&& (3 : Int32)) - (1 : Int32))), .unset, .unset, .unset, .unset, .unset, .unset, .unset, .unset] [(.int (i3 &&& (3 : Int32)))])) X0.here hx rfl (hb hby at_16) rfl (Jvm.Free.XT.i0_ne_f hc2) kt) ?_
    refine ownE.go (T' := s₁) (f' := (mkF m 46 #[.val (.int i0), .val (.int i1), .val (.int i2), .val (.int i3), .val (.int (i3 &&& (3 : Int32))), .val (.int ((((i3.toUInt32 >>> ((2 : Int32) &&& 31).toUInt32).toInt32) &&& (3 : Int32)) - (1 : Int32))), .val (.int (i0 + ((((i3.toUInt32 >>> ((2 : Int32) &&& 31).toUInt32).toInt32) &&& (3 : Int32)) - (1 : Int32)))), .unset, .unset, .unset, .unset, .unset, .unset, .unset] [])) (fun t kt => ?_) ?_
    · show Steps p.tables e below (s₁.setTop (mkF m 19 #[.val (.int i0), .val (.int i1), .val (.int i2), .val (.int i3), .val (.int (i3 &&& (3 : Int32))), .val (.int ((((i3.toUInt32 >>> ((2 : Int32) &&& 31).toUInt32).toInt32) &&& (3 : Int32)) - (1 : Int32))), .unset, .unset, .unset, .unset, .unset, .unset, .unset, .unset] [])) _
      refine XS.iloadN X0.here hx rfl (hb hby at_19) rfl ?_
      show Steps p.tables e below (s₁.setTop (mkF m 20 #[.val (.int i0), .val (.int i1), .val (.int i2), .val (.int i3), .val (.int (i3 &&& (3 : Int32))), .val (.int ((((i3.toUInt32 >>> ((2 : Int32) &&& 31).toUInt32).toInt32) &&& (3 : Int32)) - (1 : Int32))), .unset, .unset, .unset, .unset, .unset, .unset, .unset, .unset] [(.int i0)])) _
      refine XS.iload X0.here hx rfl (hb hby at_20) rfl ?_
      show Steps p.tables e below (s₁.setTop (mkF m 22 #[.val (.int i0), .val (.int i1), .val (.int i2), .val (.int i3), .val (.int (i3 &&& (3 : Int32))), .val (.int ((((i3.toUInt32 >>> ((2 : Int32) &&& 31).toUInt32).toInt32) &&& (3 : Int32)) - (1 : Int32))), .unset, .unset, .unset, .unset, .unset, .unset, .unset, .unset] [(.int ((((i3.toUInt32 >>> ((2 : Int32) &&& 31).toUInt32).toInt32) &&& (3 : Int32)) - (1 : Int32))), (.int i0)])) _
      refine XS.iadd X0.here hx rfl (hb hby at_22) rfl ?_
      show Steps p.tables e below (s₁.setTop (mkF m 23 #[.val (.int i0), .val (.int i1), .val (.int i2), .val (.int i3), .val (.int (i3 &&& (3 : Int32))), .val (.int ((((i3.toUInt32 >>> ((2 : Int32) &&& 31).toUInt32).toInt32) &&& (3 : Int32)) - (1 : Int32))), .unset, .unset, .unset, .unset, .unset, .unset, .unset, .unset] [(.int (i0 + ((((i3.toUInt32 >>> ((2 : Int32) &&& 31).toUInt32).toInt32) &&& (3 : Int32)) - (1 : Int32))))])) _
      refine XS.istore X0.here hx rfl (hb hby at_23) rfl (l' := #[.val (.int i0), .val (.int i1), .val (.int i2), .val (.int i3), .val (.int (i3 &&& (3 : Int32))), .val (.int ((((i3.toUInt32 >>> ((2 : Int32) &&& 31).toUInt32).toInt32) &&& (3 : Int32)) - (1 : Int32))), .val (.int (i0 + ((((i3.toUInt32 >>> ((2 : Int32) &&& 31).toUInt32).toInt32) &&& (3 : Int32)) - (1 : Int32)))), .unset, .unset, .unset, .unset, .unset, .unset, .unset]) rfl ?_
      show Steps p.tables e below (s₁.setTop (mkF m 25 #[.val (.int i0), .val (.int i1), .val (.int i2), .val (.int i3), .val (.int (i3 &&& (3 : Int32))), .val (.int ((((i3.toUInt32 >>> ((2 : Int32) &&& 31).toUInt32).toInt32) &&& (3 : Int32)) - (1 : Int32))), .val (.int (i0 + ((((i3.toUInt32 >>> ((2 : Int32) &&& 31).toUInt32).toInt32) &&& (3 : Int32)) - (1 : Int32)))), .unset, .unset, .unset, .unset, .unset, .unset, .unset] [])) _
      refine XS.goto X0.here hx rfl (pc0 := 25) (pc' := 46) rfl (hb hby at_25) (by decide) (by decide) ?_
      exact kt
    have jj := J4 _ _ X0 e0 N0
    rw [show (own_j0_46_L6 i0 i1 i2 i3) = (i0 + ((((i3.toUInt32 >>> ((2 : Int32) &&& 31).toUInt32).toInt32) &&& (3 : Int32)) - (1 : Int32))) from by rw [own_j0_46_L6, if_pos hc2]] at jj
    exact jj
  · -- pc 16
    refine ownE.go (T' := s₁) (f' := (mkF m 28 #[.val (.int i0), .val (.int i1), .val (.int i2), .val (.int i3), .val (.int (i3 &&& (3 : Int32))), .val (.int ((((i3.toUInt32 >>> ((2 : Int32) &&& 31).toUInt32).toInt32) &&& (3 : Int32)) - (1 : Int32))), .unset, .unset, .unset, .unset, .unset, .unset, .unset, .unset] [])) (fun t kt => XS.ifYes (g := (mkF m 16 #[.val (.int i0), .val (.int i1), .val (.int i2), .val (.int i3), .val (.int (i3 &&& (3 : Int32))), .val (.int ((((i3.toUInt32 >>> ((2 : Int32) &&& 31).toUInt32).toInt32) &&& (3 : Int32)) - (1 : Int32))), .unset, .unset, .unset, .unset, .unset, .unset, .unset, .unset] [(.int (i3 &&& (3 : Int32)))])) X0.here hx rfl (pc0 := 16) (pc' := 28) rfl (hb hby at_16) rfl (Jvm.Free.XT.i0_ne_t hc2) (by decide) (by decide) kt) ?_
    refine ownE.go (T' := s₁) (f' := (mkF m 31 #[.val (.int i0), .val (.int i1), .val (.int i2), .val (.int i3), .val (.int (i3 &&& (3 : Int32))), .val (.int ((((i3.toUInt32 >>> ((2 : Int32) &&& 31).toUInt32).toInt32) &&& (3 : Int32)) - (1 : Int32))), .unset, .unset, .unset, .unset, .unset, .unset, .unset, .unset] [(.int (1 : Int32)), (.int (i3 &&& (3 : Int32)))])) (fun t kt => ?_) ?_
    · show Steps p.tables e below (s₁.setTop (mkF m 28 #[.val (.int i0), .val (.int i1), .val (.int i2), .val (.int i3), .val (.int (i3 &&& (3 : Int32))), .val (.int ((((i3.toUInt32 >>> ((2 : Int32) &&& 31).toUInt32).toInt32) &&& (3 : Int32)) - (1 : Int32))), .unset, .unset, .unset, .unset, .unset, .unset, .unset, .unset] [])) _
      refine XS.iload X0.here hx rfl (hb hby at_28) rfl ?_
      show Steps p.tables e below (s₁.setTop (mkF m 30 #[.val (.int i0), .val (.int i1), .val (.int i2), .val (.int i3), .val (.int (i3 &&& (3 : Int32))), .val (.int ((((i3.toUInt32 >>> ((2 : Int32) &&& 31).toUInt32).toInt32) &&& (3 : Int32)) - (1 : Int32))), .unset, .unset, .unset, .unset, .unset, .unset, .unset, .unset] [(.int (i3 &&& (3 : Int32)))])) _
      refine XS.iconst X0.here hx rfl (hb hby at_30) ?_
      exact kt
    by_cases hc3 : (i3 &&& (3 : Int32)) = (1 : Int32)
    · -- pc 31
      refine ownE.go (T' := s₁) (f' := (mkF m 34 #[.val (.int i0), .val (.int i1), .val (.int i2), .val (.int i3), .val (.int (i3 &&& (3 : Int32))), .val (.int ((((i3.toUInt32 >>> ((2 : Int32) &&& 31).toUInt32).toInt32) &&& (3 : Int32)) - (1 : Int32))), .unset, .unset, .unset, .unset, .unset, .unset, .unset, .unset] [])) (fun t kt => XS.icmpNo (g := (mkF m 31 #[.val (.int i0), .val (.int i1), .val (.int i2), .val (.int i3), .val (.int (i3 &&& (3 : Int32))), .val (.int ((((i3.toUInt32 >>> ((2 : Int32) &&& 31).toUInt32).toInt32) &&& (3 : Int32)) - (1 : Int32))), .unset, .unset, .unset, .unset, .unset, .unset, .unset, .unset] [(.int (1 : Int32)), (.int (i3 &&& (3 : Int32)))])) X0.here hx rfl (hb hby at_31) rfl (Jvm.Free.XT.ii_ne_f hc3) kt) ?_
      refine ownE.go (T' := s₁) (f' := (mkF m 46 #[.val (.int i0), .val (.int i1), .val (.int i2), .val (.int i3), .val (.int (i3 &&& (3 : Int32))), .val (.int ((((i3.toUInt32 >>> ((2 : Int32) &&& 31).toUInt32).toInt32) &&& (3 : Int32)) - (1 : Int32))), .val (.int (i1 + ((((i3.toUInt32 >>> ((2 : Int32) &&& 31).toUInt32).toInt32) &&& (3 : Int32)) - (1 : Int32)))), .unset, .unset, .unset, .unset, .unset, .unset, .unset] [])) (fun t kt => ?_) ?_
      · show Steps p.tables e below (s₁.setTop (mkF m 34 #[.val (.int i0), .val (.int i1), .val (.int i2), .val (.int i3), .val (.int (i3 &&& (3 : Int32))), .val (.int ((((i3.toUInt32 >>> ((2 : Int32) &&& 31).toUInt32).toInt32) &&& (3 : Int32)) - (1 : Int32))), .unset, .unset, .unset, .unset, .unset, .unset, .unset, .unset] [])) _
        refine XS.iloadN X0.here hx rfl (hb hby at_34) rfl ?_
        show Steps p.tables e below (s₁.setTop (mkF m 35 #[.val (.int i0), .val (.int i1), .val (.int i2), .val (.int i3), .val (.int (i3 &&& (3 : Int32))), .val (.int ((((i3.toUInt32 >>> ((2 : Int32) &&& 31).toUInt32).toInt32) &&& (3 : Int32)) - (1 : Int32))), .unset, .unset, .unset, .unset, .unset, .unset, .unset, .unset] [(.int i1)])) _
        refine XS.iload X0.here hx rfl (hb hby at_35) rfl ?_
        show Steps p.tables e below (s₁.setTop (mkF m 37 #[.val (.int i0), .val (.int i1), .val (.int i2), .val (.int i3), .val (.int (i3 &&& (3 : Int32))), .val (.int ((((i3.toUInt32 >>> ((2 : Int32) &&& 31).toUInt32).toInt32) &&& (3 : Int32)) - (1 : Int32))), .unset, .unset, .unset, .unset, .unset, .unset, .unset, .unset] [(.int ((((i3.toUInt32 >>> ((2 : Int32) &&& 31).toUInt32).toInt32) &&& (3 : Int32)) - (1 : Int32))), (.int i1)])) _
        refine XS.iadd X0.here hx rfl (hb hby at_37) rfl ?_
        show Steps p.tables e below (s₁.setTop (mkF m 38 #[.val (.int i0), .val (.int i1), .val (.int i2), .val (.int i3), .val (.int (i3 &&& (3 : Int32))), .val (.int ((((i3.toUInt32 >>> ((2 : Int32) &&& 31).toUInt32).toInt32) &&& (3 : Int32)) - (1 : Int32))), .unset, .unset, .unset, .unset, .unset, .unset, .unset, .unset] [(.int (i1 + ((((i3.toUInt32 >>> ((2 : Int32) &&& 31).toUInt32).toInt32) &&& (3 : Int32)) - (1 : Int32))))])) _
        refine XS.istore X0.here hx rfl (hb hby at_38) rfl (l' := #[.val (.int i0), .val (.int i1), .val (.int i2), .val (.int i3), .val (.int (i3 &&& (3 : Int32))), .val (.int ((((i3.toUInt32 >>> ((2 : Int32) &&& 31).toUInt32).toInt32) &&& (3 : Int32)) - (1 : Int32))), .val (.int (i1 + ((((i3.toUInt32 >>> ((2 : Int32) &&& 31).toUInt32).toInt32) &&& (3 : Int32)) - (1 : Int32)))), .unset, .unset, .unset, .unset, .unset, .unset, .unset]) rfl ?_
        show Steps p.tables e below (s₁.setTop (mkF m 40 #[.val (.int i0), .val (.int i1), .val (.int i2), .val (.int i3), .val (.int (i3 &&& (3 : Int32))), .val (.int ((((i3.toUInt32 >>> ((2 : Int32) &&& 31).toUInt32).toInt32) &&& (3 : Int32)) - (1 : Int32))), .val (.int (i1 + ((((i3.toUInt32 >>> ((2 : Int32) &&& 31).toUInt32).toInt32) &&& (3 : Int32)) - (1 : Int32)))), .unset, .unset, .unset, .unset, .unset, .unset, .unset] [])) _
        refine XS.goto X0.here hx rfl (pc0 := 40) (pc' := 46) rfl (hb hby at_40) (by decide) (by decide) ?_
        exact kt
      have jj := J4 _ _ X0 e0 N0
      rw [show (own_j0_46_L6 i0 i1 i2 i3) = (i1 + ((((i3.toUInt32 >>> ((2 : Int32) &&& 31).toUInt32).toInt32) &&& (3 : Int32)) - (1 : Int32))) from by rw [own_j0_46_L6, if_neg hc2, if_pos hc3]] at jj
      exact jj
    · -- pc 31
      refine ownE.go (T' := s₁) (f' := (mkF m 43 #[.val (.int i0), .val (.int i1), .val (.int i2), .val (.int i3), .val (.int (i3 &&& (3 : Int32))), .val (.int ((((i3.toUInt32 >>> ((2 : Int32) &&& 31).toUInt32).toInt32) &&& (3 : Int32)) - (1 : Int32))), .unset, .unset, .unset, .unset, .unset, .unset, .unset, .unset] [])) (fun t kt => XS.icmpYes (g := (mkF m 31 #[.val (.int i0), .val (.int i1), .val (.int i2), .val (.int i3), .val (.int (i3 &&& (3 : Int32))), .val (.int ((((i3.toUInt32 >>> ((2 : Int32) &&& 31).toUInt32).toInt32) &&& (3 : Int32)) - (1 : Int32))), .unset, .unset, .unset, .unset, .unset, .unset, .unset, .unset] [(.int (1 : Int32)), (.int (i3 &&& (3 : Int32)))])) X0.here hx rfl (pc0 := 31) (pc' := 43) rfl (hb hby at_31) rfl (Jvm.Free.XT.ii_ne_t hc3) (by decide) (by decide) kt) ?_
      refine ownE.go (T' := s₁) (f' := (mkF m 46 #[.val (.int i0), .val (.int i1), .val (.int i2), .val (.int i3), .val (.int (i3 &&& (3 : Int32))), .val (.int ((((i3.toUInt32 >>> ((2 : Int32) &&& 31).toUInt32).toInt32) &&& (3 : Int32)) - (1 : Int32))), .val (.int i2), .unset, .unset, .unset, .unset, .unset, .unset, .unset] [])) (fun t kt => ?_) ?_
      · show Steps p.tables e below (s₁.setTop (mkF m 43 #[.val (.int i0), .val (.int i1), .val (.int i2), .val (.int i3), .val (.int (i3 &&& (3 : Int32))), .val (.int ((((i3.toUInt32 >>> ((2 : Int32) &&& 31).toUInt32).toInt32) &&& (3 : Int32)) - (1 : Int32))), .unset, .unset, .unset, .unset, .unset, .unset, .unset, .unset] [])) _
        refine XS.iloadN X0.here hx rfl (hb hby at_43) rfl ?_
        show Steps p.tables e below (s₁.setTop (mkF m 44 #[.val (.int i0), .val (.int i1), .val (.int i2), .val (.int i3), .val (.int (i3 &&& (3 : Int32))), .val (.int ((((i3.toUInt32 >>> ((2 : Int32) &&& 31).toUInt32).toInt32) &&& (3 : Int32)) - (1 : Int32))), .unset, .unset, .unset, .unset, .unset, .unset, .unset, .unset] [(.int i2)])) _
        refine XS.istore X0.here hx rfl (hb hby at_44) rfl (l' := #[.val (.int i0), .val (.int i1), .val (.int i2), .val (.int i3), .val (.int (i3 &&& (3 : Int32))), .val (.int ((((i3.toUInt32 >>> ((2 : Int32) &&& 31).toUInt32).toInt32) &&& (3 : Int32)) - (1 : Int32))), .val (.int i2), .unset, .unset, .unset, .unset, .unset, .unset, .unset]) rfl ?_
        exact kt
      have jj := J4 _ _ X0 e0 N0
      rw [show (own_j0_46_L6 i0 i1 i2 i3) = i2 from by rw [own_j0_46_L6, if_neg hc2, if_neg hc3]] at jj
      exact jj
theorem own_law (a b c d : Int32) : own_f0 a b c d = 1 := by
  unfold own_f0
  rw [if_pos]
  unfold own_f4 own_j0_101_S0
  generalize own_j0_46_L6 a b c d = k
  have e1 := c_lsub k.toInt64 a.toInt64
  have e2 := c_lsub b.toInt64 a.toInt64
  rw [c_i2l, c_i2l] at e1 e2
  have ra := rng32 a
  have rb := rng32 b
  have rk := rng32 k
  have r1 := rng64 (k.toInt64 - a.toInt64)
  have r2 := rng64 (b.toInt64 - a.toInt64)
  have z : (0 : Int64).toInt = 0 := by decide
  simp only [Int32.lt_iff_toInt_lt, Int64.lt_iff_toInt_lt, z]
  by_cases h1 : k.toInt < a.toInt
  · rw [if_pos h1, if_pos (by omega)]
  · rw [if_neg h1]
    by_cases h2 : b.toInt < k.toInt
    · rw [if_pos h2, if_neg (by omega), if_pos (by omega)]
    · rw [if_neg h2, if_neg (by omega), if_neg (by omega)]

set_option maxRecDepth 65536 in
set_option maxHeartbeats 40000000 in
theorem comes_1 {Post : Tables → Env → Array Value → State → Outcome → State → Prop} (hpost : ∀ tb e args s v u, (limb_1_1.after args s (.returned v) u = true ∧ limb_1_2.after args s (.returned v) u = true ∧ True) → FrameEnd s (.returned v) u (Jvm.fieldLocs frame_1_writes args s ++ Jvm.arrayLocs frame_1_arrays args s ++ Jvm.staticLocs frame_1_statics s) 16 128 → Post tb e args s (.returned v) u) :
    ArmFor flags0 classFile x code maxLocals ret World_1 tables_1 room_1 Calls_1 rest_1 Pre_1 Post := by
  intro l hfl _ _ p e ha hc hk s m args below hf hA hF happ hP
  obtain ⟨hcalls, hrest, hpre⟩ := hP
  obtain ⟨-, -, -, hnamed, -, -, -, hat⟩ := (Spec.applies_iff hf).mp happ
  obtain ⟨hg, hn⟩ := and_e (Cond.before_iff.mp (show (Jvm.Cond.and given_1 narrow_1).before args s = true from hpre))
  obtain ⟨g1, g2⟩ := and_e hg
  obtain ⟨g3, g4⟩ := and_e g2
  obtain ⟨g5, g6⟩ := and_e g4
  obtain ⟨g7, g8⟩ := and_e g6
  obtain ⟨w0, w1, w2, w3, rfl⟩ : ∃ w0 w1 w2 w3 : Value, args = #[w0, w1, w2, w3] := by
    have hs : args.size = 4 := by simpa [Cond.value, given_1] using g1
    obtain ⟨L⟩ := args
    match L, hs with
    | [w0, w1, w2, w3], _ => exact ⟨w0, w1, w2, w3, rfl⟩
  have hw := fun d (hd : d ∈ tables_1) => atoms_spec (ws := Jvm.Cond.code x code maxLocals ret :: tables_1) hat d (List.mem_cons_of_mem _ hd)
  have hfit : Fit s := fun {y c} hc i hi => by
    obtain ⟨ha, rfl⟩ := Array.getElem?_eq_some_iff.mp hc
    have q := List.all_eq_true.mp ((Array.all_eq_true_iff_forall_mem.mp hF) _ (Array.getElem_mem ha)) i (List.mem_range.mpr hi)
    simpa [Array.getElem?_eq_getElem hi] using q
  obtain ⟨i0, ei0⟩ := is_v g3
  obtain rfl : w0 = (.int i0) := Option.some.inj ei0
  obtain ⟨i1, ei1⟩ := is_v g5
  obtain rfl : w1 = (.int i1) := Option.some.inj ei1
  obtain ⟨i2, ei2⟩ := is_v g7
  obtain rfl : w2 = (.int i2) := Option.some.inj ei2
  obtain ⟨i3, ei3⟩ := is_v g8
  obtain rfl : w3 = (.int i3) := Option.some.inj ei3
  obtain ⟨n, o, h1, h2, h3, _, L, rfl, ⟨rfl, N, -⟩, hq⟩ := own_rm0 l s _ hw tables_1 i0 i1 i2 i3  s.heap s.heap.size (Nat.le_refl _)  p e ha hc hk s m _ below hf ((Spec.applies_iff_loose hf).mp happ).1 ⟨rfl, State.Warmed39.refl s, rfl⟩ trivial
  refine ⟨n, _, h1, h2, h3, hpost _ _ _ _ _ _ ⟨Cond.after_iff.mpr rfl, Cond.after_iff.mpr (eq_i res_at (Term.int_eval (1)) (congrArg Value.int (own_law i0 i1 i2 i3))), trivial⟩ ⟨hq.1, hq.2.1, (hq.2.2.sift fun y hy => Or.inr (N y hy)).mono (by decide) (by decide)⟩⟩
theorem main_1_1 : Claimed_1_1 := comes_1 fun _ _ _ _ _ _ h hF => ⟨h.1, hF⟩
theorem main_1_2 : Claimed_1_2 := comes_1 fun _ _ _ _ _ _ h hF => ⟨h.2.1, hF⟩
end Jvm.Pilot.@@N@@
namespace Jvm.Pilot.@@N@@
open Jvm Jvm.ClassFile Sem Op Lib Jvm.Free Jvm.Stand Jvm.Pilot.@@N@@.Jvm.D
/-! MADE BY PROGRAM (witnessworld.py) out of the Statement's table words and the real class files: 10 classes; the members and pool entries that the words name. The judged class is class 1, her method 1. -/
namespace start1
open Jvm.ClassFile
def u (s : String) : CpInfo := .utf8 (stringToUtf16 s)
/-- a pool by its gaps: so many unusable entries, then the entry; so many at the end -/
def gap : Nat → List CpInfo → List CpInfo
  | 0, r => r
  | n + 1, r => .unusable :: gap n r
def poolList (es : List (Nat × CpInfo)) (last : Nat) : List CpInfo := es.foldr (fun e r => gap e.1 (e.2 :: r)) (gap last [])
def pool (es : List (Nat × CpInfo)) (last : Nat) : Array CpInfo := ⟨poolList es last⟩
def fileOf (pool : Array CpInfo) (this : Nat) (attrs : Array Attribute := #[]) (ms : Array MethodInfo := #[]) (fl : Nat := 33) (sup : Nat := 0) (ifs : Array Nat := #[]) (fds : Array FieldInfo := #[]) : ClassFile where
  minorVersion := 0
  majorVersion := 65
  constantPool := pool
  accessFlags := fl
  thisClass := this
  superClass := sup
  interfaces := ifs
  fields := fds
  methods := ms
  attributes := attrs
def plain (name : String) (sup : Option ClassId) : Class where
  name := name
  kind := .ordinary
  loader := none
  accessFlags := 33
  super := sup
  interfaces := #[]
  cf := none
  fields := #[]
  methods := #[]
  instanceTypes := #[]
  staticTypes := #[]
  resolved := #[]
  callSites := []
  init := .initialized
  statics := none
  mirror := none

def pool0 : Array CpInfo := pool [(5, u "<init>"), (0, u "()V"), (1, .class_ 10), (1, u "java/lang/Object")] 113

def k0c0 : Code := { maxStack := 0, maxLocals := 1, code := object_method_1_code, exceptionTable := #[], attributes := #[] }
def k0m0 : Method := { name := "<init>", desc := "()V", sig := { parameters := [], returnType := none }, accessFlags := 1, code := some k0c0 }
/-- java/lang/Object -/
def k0 : Class := { plain "java/lang/Object" none with
  accessFlags := 33
  interfaces := #[]
  cf := some (fileOf pool0 8 #[] #[{ accessFlags := 1, nameIndex := 5, descriptorIndex := 6, attributes := #[] }] 33 0 #[] #[])
  fields := #[]
  methods := #[k0m0]
  instanceTypes := #[]
  staticTypes := #[]
  resolved := Array.replicate 124 none
  statics := none }

def pool1 : Array CpInfo := pool [(2, .class_ 4), (1, u "java/lang/Object"), (0, u "<init>"), (0, u "()V"), (0, .class_ 8), (0, u "com/example/venus_flytrap/venusflytrap/StatusRange"), (0, .methodref 7 10), (0, .nameAndType 5 11), (0, u "(II)V"), (0, .methodref 7 13), (0, .nameAndType 14 15), (0, u "contains"), (0, u "(I)Z"), (0, .class_ 17), (0, u "com/example/venus_flytrap/venusflytrap/StatusRangeContainsPinLaw"), (2, u "law"), (0, u "(IIII)Z")] 3

def k1m0 : Method := { name := "<init>", desc := "()V", sig := { parameters := [], returnType := none }, accessFlags := 2, code := none }
def k1c1 : Code := { maxStack := 4, maxLocals := 14, code := code, exceptionTable := #[], attributes := #[] }
def k1m1 : Method := { name := "law", desc := "(IIII)Z", sig := { parameters := [.int, .int, .int, .int], returnType := some .boolean }, accessFlags := 9, code := some k1c1 }
/-- com/example/venus_flytrap/venusflytrap/StatusRangeContainsPinLaw -/
def k1 : Class := { plain "com/example/venus_flytrap/venusflytrap/StatusRangeContainsPinLaw" (some 0) with
  accessFlags := 49
  interfaces := #[]
  cf := some (fileOf pool1 16 #[] #[{ accessFlags := 2, nameIndex := 5, descriptorIndex := 6, attributes := #[] }, { accessFlags := 9, nameIndex := 20, descriptorIndex := 21, attributes := #[] }] 49 2 #[] #[])
  fields := #[]
  methods := #[k1m0, k1m1]
  instanceTypes := #[]
  staticTypes := #[]
  resolved := Array.replicate 25 none
  statics := none }

def pool2 : Array CpInfo := pool [(1, .methodref 2 3), (0, .class_ 4), (0, .nameAndType 5 6), (0, u "java/lang/Object"), (0, u "<init>"), (0, u "()V"), (0, .class_ 8), (0, u "java/lang/Record")] 13

def k2c0 : Code := { maxStack := 1, maxLocals := 1, code := jdk_30_method_1_code, exceptionTable := #[], attributes := #[] }
def k2m0 : Method := { name := "<init>", desc := "()V", sig := { parameters := [], returnType := none }, accessFlags := 4, code := some k2c0 }
/-- java/lang/Record -/
def k2 : Class := { plain "java/lang/Record" (some 0) with
  accessFlags := 1057
  interfaces := #[]
  cf := some (fileOf pool2 7 #[] #[{ accessFlags := 4, nameIndex := 5, descriptorIndex := 6, attributes := #[] }] 1057 2 #[] #[])
  fields := #[]
  methods := #[k2m0]
  instanceTypes := #[]
  staticTypes := #[]
  resolved := Array.replicate 22 none
  statics := none }

def pool3 : Array CpInfo := pool [(1, .methodref 2 3), (0, .class_ 4), (0, .nameAndType 5 6), (0, u "java/lang/Record"), (0, u "<init>"), (0, u "()V"), (0, .fieldref 8 9), (0, .class_ 10), (0, .nameAndType 11 12), (0, u "com/example/venus_flytrap/venusflytrap/StatusRange"), (0, u "lowest"), (0, u "I"), (0, .fieldref 8 14), (0, .nameAndType 15 12), (0, u "highest"), (14, u "(II)V"), (2, u "HTTP"), (0, u "Lcom/example/venus_flytrap/venusflytrap/StatusRange;"), (2, u "CLIENT_ERROR"), (5, u "SERVER_ERROR"), (4, u "ERROR"), (3, u "contains"), (0, u "(I)Z")] 37

def k3c0 : Code := { maxStack := 2, maxLocals := 3, code := prog_48_method_1_code, exceptionTable := #[], attributes := #[] }
def k3m0 : Method := { name := "<init>", desc := "(II)V", sig := { parameters := [.int, .int], returnType := none }, accessFlags := 0, code := some k3c0 }
def k3c1 : Code := { maxStack := 2, maxLocals := 2, code := prog_48_method_2_code, exceptionTable := #[], attributes := #[] }
def k3m1 : Method := { name := "contains", desc := "(I)Z", sig := { parameters := [.int], returnType := some .boolean }, accessFlags := 0, code := some k3c1 }
/-- com/example/venus_flytrap/venusflytrap/StatusRange -/
def k3 : Class := { plain "com/example/venus_flytrap/venusflytrap/StatusRange" (some 2) with
  accessFlags := 48
  interfaces := #[]
  cf := some (fileOf pool3 8 #[] #[{ accessFlags := 0, nameIndex := 5, descriptorIndex := 30, attributes := #[] }, { accessFlags := 0, nameIndex := 52, descriptorIndex := 53, attributes := #[] }] 48 2 #[] #[{ accessFlags := 18, nameIndex := 11, descriptorIndex := 12, attributes := #[] }, { accessFlags := 18, nameIndex := 15, descriptorIndex := 12, attributes := #[] }, { accessFlags := 24, nameIndex := 33, descriptorIndex := 34, attributes := #[] }, { accessFlags := 24, nameIndex := 37, descriptorIndex := 34, attributes := #[] }, { accessFlags := 24, nameIndex := 43, descriptorIndex := 34, attributes := #[] }, { accessFlags := 24, nameIndex := 48, descriptorIndex := 34, attributes := #[] }])
  fields := #[{ name := "lowest", type := .int, accessFlags := 18, slot := 0, constantValue := 0 }, { name := "highest", type := .int, accessFlags := 18, slot := 1, constantValue := 0 }, { name := "HTTP", type := (.object "com/example/venus_flytrap/venusflytrap/StatusRange"), accessFlags := 24, slot := 0, constantValue := 0 }, { name := "CLIENT_ERROR", type := (.object "com/example/venus_flytrap/venusflytrap/StatusRange"), accessFlags := 24, slot := 1, constantValue := 0 }, { name := "SERVER_ERROR", type := (.object "com/example/venus_flytrap/venusflytrap/StatusRange"), accessFlags := 24, slot := 2, constantValue := 0 }, { name := "ERROR", type := (.object "com/example/venus_flytrap/venusflytrap/StatusRange"), accessFlags := 24, slot := 3, constantValue := 0 }]
  methods := #[k3m0, k3m1]
  instanceTypes := #[.int, .int]
  staticTypes := #[(.object "com/example/venus_flytrap/venusflytrap/StatusRange"), (.object "com/example/venus_flytrap/venusflytrap/StatusRange"), (.object "com/example/venus_flytrap/venusflytrap/StatusRange"), (.object "com/example/venus_flytrap/venusflytrap/StatusRange")]
  resolved := Array.replicate 91 none
  statics := none }

def pool4 : Array CpInfo := pool [(1, u "java/lang/Cloneable"), (0, .class_ 1), (0, u "java/lang/Object"), (0, .class_ 3)] 3

/-- java/lang/Cloneable -/
def k4 : Class := { plain "java/lang/Cloneable" (some 0) with
  accessFlags := 1537
  interfaces := #[]
  cf := some (fileOf pool4 2 #[] #[] 1537 4 #[] #[])
  fields := #[]
  methods := #[]
  instanceTypes := #[]
  staticTypes := #[]
  resolved := Array.replicate 8 none
  statics := none }

def pool5 : Array CpInfo := pool [(1, u "java/io/Serializable"), (0, .class_ 1), (0, u "java/lang/Object"), (0, .class_ 3)] 3

/-- java/io/Serializable -/
def k5 : Class := { plain "java/io/Serializable" (some 0) with
  accessFlags := 1537
  interfaces := #[]
  cf := some (fileOf pool5 2 #[] #[] 1537 4 #[] #[])
  fields := #[]
  methods := #[]
  instanceTypes := #[]
  staticTypes := #[]
  resolved := Array.replicate 8 none
  statics := none }

/-- the primitive byte -/
def k6 : Class := { plain "byte" none with kind := .primitive 'B', accessFlags := 0x411 }
/-- [B -/
def k7 : Class := { plain "[B" (some 0) with kind := .array 6 .byte, interfaces := #[4, 5], accessFlags := 1041 }

/-- the primitive int -/
def k8 : Class := { plain "int" none with kind := .primitive 'I', accessFlags := 0x411 }
/-- [I -/
def k9 : Class := { plain "[I" (some 0) with kind := .array 8 .int, interfaces := #[4, 5], accessFlags := 1041 }

def heap : Heap := #[]
def classes : Array Class := #[k0, k1, k2, k3, k4, k5, k6, k7, k8, k9]
def interned : List (Array UInt16 × Addr) := []
def slotsUsed : Nat := 0
def theMethod : MethodId := ⟨1, 1⟩
def args0 : Array Value := #[.int 5, .int 5, .int 5, .int 5]
def aboutOver (below : List Frame) : State where
  vm := { classes := classes, interned := interned.toArray }
  heap := heap
  slotsUsed := slotsUsed
  threads := #[{ frames := .invoking theMethod args0 :: below }]
def below0 : List Frame := [.native { method := ⟨0, 0⟩, args := #[] }]
def about1 : State := aboutOver below0
def p0 : Program := .bare "" "" ""
def e0 : Env := launch0.env 0 0 0
theorem w_frames : about1.frames = Frame.invoking theMethod args0 :: below0 := rfl
set_option maxRecDepth 65536 in
theorem w_args : argsFit about1.vm theMethod args0 = true := by decide +kernel
set_option maxRecDepth 65536 in
theorem w_heap : heapFits about1 = true := by decide +kernel
set_option maxRecDepth 65536 in
theorem w_runnable : about1.curStatus? = some .runnable := by decide +kernel
set_option maxRecDepth 65536 in
theorem w_alone : about1.alone = true := by decide +kernel
set_option maxRecDepth 65536 in
theorem w_named : about1.methodNamed? x = some theMethod := by decide +kernel
set_option maxRecDepth 65536 in
theorem w_hears : about1.hears theMethod below0 = true := by decide +kernel
set_option maxRecDepth 65536 in
theorem w_ripe : about1.ripe theMethod args0 below0 = true := by decide +kernel
theorem w_running : about1.status = .running := rfl
set_option maxRecDepth 65536 in
theorem w_room : about1.hasRoom e0.platform room_1 = true :=
  launch0.hasRoom_least _ room_1 (by decide +kernel) (by decide +kernel) (by decide +kernel) (by decide +kernel) (by decide +kernel) (by decide +kernel)
theorem allAtoms_all (ts : List Jvm.Cond) (a : Array Jvm.Value) (st : Jvm.State) : (allAtoms ts).before a st = ts.all (fun c => c.before a st) := by
  induction ts with
  | nil => rfl
  | cons c t ih =>
    show (Jvm.Cond.and c (allAtoms t)).before a st = _
    rw [Jvm.Cond.before_and, ih, List.all_cons]
def words1 : List Jvm.Cond := Jvm.Cond.code x code maxLocals ret :: tables_1
/-- a 'code' word, met by the world's own term for the bytes: nothing is compared byte by byte -/
theorem code_word {y : MethodName} {bytes : ByteArray} {mx : Nat} {rt : Option FieldType} {a : Array Value} {s : State} {m : MethodId} {meth : Method} {c : Code} (h1 : s.methodNamed? y = some m) (h2 : s.vm.method? m = some meth) (h3 : meth.code = some c) (h4 : c.code = bytes)
    (h5 : (c.maxLocals == mx && c.exceptionTable.isEmpty && decide (c.maxStack ≤ mostOperands) && decide (meth.sig.returnType = rt) && !meth.locks && decide (parseMethodDescriptor y.desc = some meth.sig)) = true) : (Jvm.Cond.code y bytes mx rt).before a s = true := by
  simp only [Bool.and_eq_true, beq_iff_eq, Bool.not_eq_true', decide_eq_true_eq] at h5
  obtain ⟨⟨⟨⟨⟨g1, g2⟩, g3⟩, g4⟩, g5⟩, g6⟩ := h5
  simp [Cond.before, Cond.holds, Cond.value, h1, h2, h3, h4, g1, g2, g3, g4, g5, g6]
def isCode : Jvm.Cond → Bool
  | .code _ _ _ _ => true
  | _ => false
theorem all_split {L : List Jvm.Cond} {P : Jvm.Cond → Bool} (h1 : L.all (fun c => isCode c || P c) = true) (h2 : ∀ c ∈ L.filter isCode, P c = true) : L.all P = true := by
  refine List.all_eq_true.mpr fun c hc => ?_
  have h := List.all_eq_true.mp h1 c hc
  rcases Bool.eq_false_or_eq_true (isCode c) with hi | hi
  · exact h2 c (List.mem_filter.mpr ⟨hc, hi⟩)
  · simpa [hi] using h
set_option maxRecDepth 65536 in
theorem w_c0 : (Jvm.Cond.code x code maxLocals ret).before args0 about1 = true := code_word (m := ⟨1, 1⟩) (meth := k1m1) (c := k1c1) (by decide +kernel) rfl rfl rfl (by decide +kernel)
set_option maxRecDepth 65536 in
theorem w_c1 : (Jvm.Cond.code ({ cls := "com/example/venus_flytrap/venusflytrap/StatusRange", name := "<init>", desc := "(II)V" } : Jvm.MethodName) prog_48_method_1_code (3 : Nat) (Option.none : Option Jvm.ClassFile.FieldType)).before args0 about1 = true := code_word (m := ⟨3, 0⟩) (meth := k3m0) (c := k3c0) (by decide +kernel) rfl rfl rfl (by decide +kernel)
set_option maxRecDepth 65536 in
theorem w_c2 : (Jvm.Cond.code ({ cls := "java/lang/Record", name := "<init>", desc := "()V" } : Jvm.MethodName) jdk_30_method_1_code (1 : Nat) (Option.none : Option Jvm.ClassFile.FieldType)).before args0 about1 = true := code_word (m := ⟨2, 0⟩) (meth := k2m0) (c := k2c0) (by decide +kernel) rfl rfl rfl (by decide +kernel)
set_option maxRecDepth 65536 in
theorem w_c3 : (Jvm.Cond.code ({ cls := "java/lang/Object", name := "<init>", desc := "()V" } : Jvm.MethodName) object_method_1_code (1 : Nat) (Option.none : Option Jvm.ClassFile.FieldType)).before args0 about1 = true := code_word (m := ⟨0, 0⟩) (meth := k0m0) (c := k0c0) (by decide +kernel) rfl rfl rfl (by decide +kernel)
set_option maxRecDepth 65536 in
theorem w_c4 : (Jvm.Cond.code ({ cls := "com/example/venus_flytrap/venusflytrap/StatusRange", name := "contains", desc := "(I)Z" } : Jvm.MethodName) prog_48_method_2_code (2 : Nat) (Option.some Jvm.ClassFile.FieldType.boolean)).before args0 about1 = true := code_word (m := ⟨3, 1⟩) (meth := k3m1) (c := k3c1) (by decide +kernel) rfl rfl rfl (by decide +kernel)
def codes1 : List Jvm.Cond := [Jvm.Cond.code x code maxLocals ret, Jvm.Cond.code ({ cls := "com/example/venus_flytrap/venusflytrap/StatusRange", name := "<init>", desc := "(II)V" } : Jvm.MethodName) prog_48_method_1_code (3 : Nat) (Option.none : Option Jvm.ClassFile.FieldType), Jvm.Cond.code ({ cls := "java/lang/Record", name := "<init>", desc := "()V" } : Jvm.MethodName) jdk_30_method_1_code (1 : Nat) (Option.none : Option Jvm.ClassFile.FieldType), Jvm.Cond.code ({ cls := "java/lang/Object", name := "<init>", desc := "()V" } : Jvm.MethodName) object_method_1_code (1 : Nat) (Option.none : Option Jvm.ClassFile.FieldType), Jvm.Cond.code ({ cls := "com/example/venus_flytrap/venusflytrap/StatusRange", name := "contains", desc := "(I)Z" } : Jvm.MethodName) prog_48_method_2_code (2 : Nat) (Option.some Jvm.ClassFile.FieldType.boolean)]
set_option maxRecDepth 65536 in
theorem codes_eq : words1.filter isCode = codes1 := rfl
theorem w_codes : ∀ c ∈ words1.filter isCode, c.before args0 about1 = true := by
  rw [codes_eq]
  intro c hc
  simp only [codes1, List.mem_cons, List.not_mem_nil, or_false] at hc
  rcases hc with rfl | rfl | rfl | rfl | rfl
  · exact w_c0
  · exact w_c1
  · exact w_c2
  · exact w_c3
  · exact w_c4
set_option maxRecDepth 65536 in
theorem w_t1 : words1.all (fun c => isCode c || c.before args0 about1) = true := by decide +kernel
theorem w_tables : (allAtoms (Jvm.Cond.code x code maxLocals ret :: tables_1)).before args0 about1 = true := by
  rw [allAtoms_all]
  show words1.all (fun c => c.before args0 about1) = true
  refine all_split ?_ w_codes
  rw [w_t1]
set_option maxRecDepth 65536 in
theorem w_case : (Jvm.Cond.and given_1 narrow_1).before args0 about1 = true := by decide +kernel
theorem w_applies : (headSpec (Jvm.Cond.code x code maxLocals ret :: tables_1) room_1).applies x e0.platform about1 = true :=
  (Spec.applies_iff w_frames).mpr ⟨w_running, w_runnable, w_alone, w_named, w_hears, w_ripe, w_room, w_tables⟩
theorem atStart : AtStart classFile x code maxLocals ret World_1 tables_1 room_1 Calls_1 rest_1 Pre_1 launch0 p0 e0 about1 theMethod args0 below0 :=
  ⟨lists_1, trivial, launch0.admits_env _ _ _, launch0.least_env, fairChoices_fair.cas, fairChoices_fair.clock, w_frames, w_args, w_heap, w_applies, trivial, trivial, w_case⟩
end start1
theorem witness_1 : WitnessClaimed_1 := ⟨start1.p0, start1.e0, start1.about1, start1.theMethod, start1.args0, start1.below0, start1.atStart⟩
end Jvm.Pilot.@@N@@
