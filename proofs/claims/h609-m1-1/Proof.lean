import JvmDerived
import JvmDerived.Pilot.@@N@@Statement
import JvmDerived.Pilot.@@N@@Code
set_option linter.unusedVariables false
set_option linter.unusedSimpArgs false
namespace Jvm.RoadKit
open Sem ClassFile Op Lib Jvm.Stand Jvm.Free Jvm.LawKit
section New
variable {p : Program} {l : Launch} {e : Env} {R : Room} {s : State} {m : MethodId} {args : Array Value} {below : List Frame} {meth : Method} {c : Code} {T : State} {locs : List Loc} {cells slots : Nat}
theorem retI (X : Stand p l e R s m args below meth c T locs cells slots) (hx : p.tables.exec = Jvm.exec) {pc : Nat} {Ls : Array Slot} {z : Int32} {rest : List Value} (hret : meth.sig.returnType = some .int) (hd : decode c.code pc = .ok (.ireturn, 1)) {fs : List Frame}
    (hl : ∀ (f : JFrame) (acts : List Action), f.method = m → f.locked = none → f.entered = [] → (doReturn e (T.setTop f) acts (some (.int z))).1 = T.setFrames fs) : Steps p.tables e below (T.setTop (mkF m pc Ls (.int z :: rest))) (T.setFrames fs) := by
  have hm' : T.vm.method? m = some meth := X.method'
  have hn : narrow .int (.int z) = .int z := rfl
  show Steps p.tables e below (T.setTop { method := m, pc := pc, locals := Ls, stack := _ :: rest, locked := none }) _
  jvm_step X.here [X.here.top, hx, hd, hm', hret, hn]
  first | (intro acts; rw [hl _ acts rfl rfl rfl]) | rw [hl _ _ rfl rfl rfl]
  exact Steps.refl _
end New
/-! the walk in continuation form: from the state T at the frame f the run ends by a return, as Q says -/
section Own
variable {p : Program} {l : Launch} {e : Env} {R : Room} {s : State} {m : MethodId} {args : Array Value} {below : List Frame} {meth : Method} {c : Code} {T T' : State} {locs : List Loc} {cells slots k n : Nat} {Q : Option Value → Heap → List Loc → Prop} {f f' : JFrame}
def ownE (p : Program) (e : Env) (below : List Frame) (s : State) (Q : Option Value → Heap → List Loc → Prop) (k n : Nat) (T : State) (f : JFrame) : Prop :=
  ∃ s₂ o, Steps p.tables e below (T.setTop f) s₂ ∧ s₂.status = .running ∧ Ended s₂ below o ∧ ∃ v L, o = .returned v ∧ Q v s₂.heap L ∧ FrameEnd s o s₂ L k n
theorem ownE.go (g : ∀ t, Steps p.tables e below (T'.setTop f') t → Steps p.tables e below (T.setTop f) t) (h : ownE p e below s Q k n T' f') : ownE p e below s Q k n T f := by
  obtain ⟨s₂, o, h1, r⟩ := h
  exact ⟨s₂, o, g _ h1, r⟩
theorem ownE.goS (g : Steps p.tables e below (T.setTop f) (T'.setTop f')) (h : ownE p e below s Q k n T' f') : ownE p e below s Q k n T f := by
  obtain ⟨s₂, o, h1, r⟩ := h
  exact ⟨s₂, o, g.trans h1, r⟩
theorem ownE.ret (X : Stand p l e R s m args below meth c T locs cells slots) {v : Option Value} (hlk : meth.locks = false) (hv : meth.sig.returnType = none → v = none)
    (st : ∀ fs, (∀ (f : JFrame) (acts : List Action), f.method = m → f.locked = none → f.entered = [] → (doReturn e (T.setTop f) acts v).1 = T.setFrames fs) → Steps p.tables e below (T.setTop f) (T.setFrames fs))
    (hQ : Q v T.heap locs) (hk : cells ≤ k) (hn : slots ≤ n) : ownE p e below s Q k n T f := by
  obtain ⟨fs, hr, hrun, hended, hW, hsame⟩ := X.leave (v := v) hv hlk
  exact ⟨_, _, st fs hr, hrun, hended, _, _, rfl, hQ, ⟨_, rfl⟩, hW, hsame.mono hk hn⟩
theorem ownE.retI (X : Stand p l e R s m args below meth c T locs cells slots) (hx : p.tables.exec = Jvm.exec) (hlk : meth.locks = false) {pc : Nat} {Ls : Array Slot} {z : Int32} {rest : List Value} (hret : meth.sig.returnType = some .int) (hd : decode c.code pc = .ok (.ireturn, 1))
    (hQ : Q (some (.int z)) T.heap locs) (hk : cells ≤ k) (hn : slots ≤ n) : ownE p e below s Q k n T (mkF m pc Ls (.int z :: rest)) :=
  ownE.ret X hlk (fun h => by rw [hret] at h; cases h) (fun fs hr => Jvm.RoadKit.retI X hx hret hd hr) hQ hk hn
theorem ownE.retN (X : Stand p l e R s m args below meth c T locs cells slots) (hx : p.tables.exec = Jvm.exec) (hlk : meth.locks = false) {pc : Nat} {Ls : Array Slot} {z : Int32} {rest : List Value} {t : FieldType} (hret : meth.sig.returnType = some t) (ht : t = .boolean ∨ t = .byte ∨ t = .char ∨ t = .short) (hd : decode c.code pc = .ok (.ireturn, 1))
    (hQ : Q (some (.int (nar t z))) T.heap locs) (hk : cells ≤ k) (hn : slots ≤ n) : ownE p e below s Q k n T (mkF m pc Ls (.int z :: rest)) :=
  ownE.ret X hlk (fun h => by rw [hret] at h; cases h) (fun fs hr => Jvm.RoadKit.retN X hx hret ht hd hr) hQ hk hn
theorem ownE.retL (X : Stand p l e R s m args below meth c T locs cells slots) (hx : p.tables.exec = Jvm.exec) (hlk : meth.locks = false) {pc : Nat} {Ls : Array Slot} {z : Int64} {rest : List Value} (hret : meth.sig.returnType = some .long) (hd : decode c.code pc = .ok (.lreturn, 1))
    (hQ : Q (some (.long z)) T.heap locs) (hk : cells ≤ k) (hn : slots ≤ n) : ownE p e below s Q k n T (mkF m pc Ls (.long z :: rest)) :=
  ownE.ret X hlk (fun h => by rw [hret] at h; cases h) (fun fs hr => Jvm.RoadKit.retOut X hx hret rfl (Or.inr (Or.inl ⟨rfl, rfl, z, rfl⟩)) hd hr) hQ hk hn
theorem ownE.retA (X : Stand p l e R s m args below meth c T locs cells slots) (hx : p.tables.exec = Jvm.exec) (hlk : meth.locks = false) {pc : Nat} {Ls : Array Slot} {z : Value} {rest : List Value} {t : FieldType} (hret : meth.sig.returnType = some t) (ht : t.isReference = true) (hz : z.isRef = true) (hn' : narrow t z = z) (hd : decode c.code pc = .ok (.areturn, 1))
    (hQ : Q (some z) T.heap locs) (hk : cells ≤ k) (hn : slots ≤ n) : ownE p e below s Q k n T (mkF m pc Ls (z :: rest)) :=
  ownE.ret X hlk (fun h => by rw [hret] at h; cases h) (fun fs hr => Jvm.RoadKit.retOut X hx hret hn' (Or.inr (Or.inr (Or.inr (Or.inr ⟨rfl, ht, hz⟩)))) hd hr) hQ hk hn
theorem ownE.retV (X : Stand p l e R s m args below meth c T locs cells slots) (hx : p.tables.exec = Jvm.exec) (hlk : meth.locks = false) {pc : Nat} {Ls : Array Slot} (hret : meth.sig.returnType = none) (hd : decode c.code pc = .ok (.return_, 1))
    (hQ : Q none T.heap locs) (hk : cells ≤ k) (hn : slots ≤ n) : ownE p e below s Q k n T (mkF m pc Ls []) :=
  ownE.ret X hlk (fun _ => rfl) (fun fs hr => X.returnOut hx hret hd hr) hQ hk hn
end Own
theorem own_selP {s : State} {args : Array Value} {y : MethodName} {n : Nat} (wi : (Cond.instantiable y.cls n).before args s = true) (hi : (Cond.instanceMethod y).before args s = true) (hp : s.PrivateAt y) (hy : y.cls ≠ "java/lang/invoke/MethodHandle" ∧ y.cls ≠ "java/lang/invoke/VarHandle") : (Cond.selects y.cls y y).before args s = true := by
  obtain ⟨c, k, h1, h2, -, h4, -⟩ := Cond.instantiable_spec wi
  exact selects_self_of_private h1 h2 (by simp at h4; exact h4.1) hp hi hy
end Jvm.RoadKit
namespace Jvm.Pilot.@@N@@
open Jvm Jvm.ClassFile Sem Op Lib Jvm.Free Jvm.Stand Jvm.LawKit Jvm.RoadKit Bundle Jvm.Pilot.@@N@@.Jvm.D
theorem own_d2_0 : decode jdk_30_method_1_code 0 = .ok (.aload_n 0, 1) := by decide +kernel
theorem own_d2_1 : decode jdk_30_method_1_code 1 = .ok (.invokespecial 1, 3) := by decide +kernel
theorem own_d2_4 : decode jdk_30_method_1_code 4 = .ok (.return_, 1) := by decide +kernel
theorem own_pn0 : plainName "java/lang/Record" = true := by first | (simp [plainName, overriddenIn]; done) | decide +kernel
theorem own_ef2 (m : MethodId) (x0 : Addr) : entryFrame m #[(.ref x0)] 1 = mkF m 0 #[.val (.ref x0)] [] := by first | (simp [entryFrame, mkF, argsToLocals, Value.category]; done) | rfl
def own_Q2 (Z : State) (r0 : Addr) (h0 : Heap) (n0 : Nat) (v : Option Value) (h : Heap) (L : List Loc) : Prop := v = none ∧ Fr n0 L ∧ h = h0
set_option maxRecDepth 65536 in
set_option maxHeartbeats 40000000 in
theorem own_rm2 (l : Launch) (Z : State) (a0 : Array Value) (hw : ∀ d ∈ tables_1, d.before a0 Z = true) (ws : List Jvm.Cond) (r0 : Addr) (h0 : Heap) (n0 : Nat) (Z0 : n0 ≤ h0.size) :
    MetFree l (⟨"java/lang/Record", "<init>", "()V"⟩ : MethodName) (head1 (Jvm.Cond.code (⟨"java/lang/Record", "<init>", "()V"⟩ : MethodName) jdk_30_method_1_code 1 none :: ws) ({ frames := 1, cells := 0, slots := 0, locals := 12 } : Room)) (fun a U => a = #[(.ref r0)] ∧ Z.Warmed39 U.vm ∧ U.heap = h0) (fun _ _ _ _ _ => True) (fun _ U o U' => ∃ v L, o = .returned v ∧ own_Q2 Z r0 h0 n0 v U'.heap L ∧ FrameEnd U o U' L ({ frames := 1, cells := 0, slots := 0, locals := 12 } : Room).cells ({ frames := 1, cells := 0, slots := 0, locals := 12 } : Room).slots) := by
  refine MetFree.of_bodySF (plainFor_of_name own_pn0) hisR ?_
  intro p e s m args below meth c s₁ Bd hml0 hP hK
  obtain ⟨rfl, hZ, hh⟩ := hP
  have hx := Bd.exec
  have hby := Bd.bytes
  have hret := Bd.returns
  have hlk := BodyLoose.notSynchronized Bd
  have hml : c.maxLocals = 1 := hml0
  have hown : s.vm.findClass "java/lang/Record" = some m.cls := findClass_of_methodNamed Bd.named
  have hnm := (name_of_methodNamed Bd.named Bd.method).1
  have X0 : Stand p l e ({ frames := 1, cells := 0, slots := 0, locals := 12 } : Room) s m #[(.ref r0)] below meth c s₁ [] 0 0 := Stand.of_body Bd
  have e0 : s₁.heap = h0 := by rw [← hh, Bd.state]; rfl
  have N0 := Fr.nil n0
  have K0 : Keep h0 h0 [] := Keep.refl h0 _
  show ownE p e below s (own_Q2 Z r0 h0 n0) ({ frames := 1, cells := 0, slots := 0, locals := 12 } : Room).cells ({ frames := 1, cells := 0, slots := 0, locals := 12 } : Room).slots s₁ (entryFrame m #[(.ref r0)] 1)
  rw [own_ef2]
  refine ownE.go (T' := s₁) (f' := (mkF m 1 #[.val (.ref r0)] [(.ref r0)])) (fun t kt => ?_) ?_
  · show Steps p.tables e below (s₁.setTop (mkF m 0 #[.val (.ref r0)] [])) _
    refine XS.aloadN X0.here hx rfl (hb hby own_d2_0) rfl rfl ?_
    exact kt
  obtain ⟨T1, X1, e1, st1⟩ := initO X0 hx hZ hown (hw _ (List.mem_of_getElem? (i := 11) rfl)) (hw _ (List.mem_of_getElem? (i := 12) rfl)) (hw _ (List.mem_of_getElem? (i := 13) rfl)) e0 (g := (mkF m 1 #[.val (.ref r0)] [(.ref r0)])) rfl (by rw [hml]; rfl) rfl (hb hby own_d2_1) (by decide) (W := 0) (by show 2 * 0 + _ ≤ _; exact Nat.le_of_eq rfl) (by decide)
  refine ownE.go (T' := T1) (f' := (mkF m 4 #[.val (.ref r0)] [])) st1 ?_
  refine ownE.retV X1 hx hlk hret (hb hby own_d2_4) ?_ (by decide) (by decide)
  show own_Q2 Z r0 h0 n0 _ T1.heap _
  rw [e1]
  exact ⟨rfl, N0, rfl⟩
theorem own_pd1 : parseMethodDescriptor "()V" = some ⟨[], none⟩ := by decide +kernel
theorem own_d1_0 : decode prog_1_method_1_code 0 = .ok (.aload_n 0, 1) := by decide +kernel
theorem own_d1_1 : decode prog_1_method_1_code 1 = .ok (.invokespecial 1, 3) := by decide +kernel
theorem own_d1_4 : decode prog_1_method_1_code 4 = .ok (.iload_n 1, 1) := by decide +kernel
theorem own_d1_5 : decode prog_1_method_1_code 5 = .ok (.ifCond .lt 9, 3) := by decide +kernel
theorem own_d1_8 : decode prog_1_method_1_code 8 = .ok (.iload_n 1, 1) := by decide +kernel
theorem own_d1_9 : decode prog_1_method_1_code 9 = .ok (.bipush 7, 2) := by decide +kernel
theorem own_d1_11 : decode prog_1_method_1_code 11 = .ok (.if_icmp .le 17, 3) := by decide +kernel
theorem own_d1_28 : decode prog_1_method_1_code 28 = .ok (.aload_n 0, 1) := by decide +kernel
theorem own_d1_29 : decode prog_1_method_1_code 29 = .ok (.iload_n 1, 1) := by decide +kernel
theorem own_d1_30 : decode prog_1_method_1_code 30 = .ok (.putfield 16, 3) := by decide +kernel
theorem own_d1_33 : decode prog_1_method_1_code 33 = .ok (.return_, 1) := by decide +kernel
theorem own_pn2 : plainName "com/example/quayside/quayside/core/Access" = true := by first | (simp [plainName, overriddenIn]; done) | decide +kernel
theorem own_ef1 (m : MethodId) (x0 : Addr) (x1 : Int32) : entryFrame m #[(.ref x0), (.int x1)] 2 = mkF m 0 #[.val (.ref x0), .val (.int x1)] [] := by first | (simp [entryFrame, mkF, argsToLocals, Value.category]; done) | rfl
def own_Q1 (Z : State) (r0 : Addr) (i1 : Int32) (h0 : Heap) (n0 : Nat) (v : Option Value) (h : Heap) (L : List Loc) : Prop := v = none ∧ Fr n0 L ∧ Keep h0 h [r0] ∧ Exa Z h r0 "com/example/quayside/quayside/core/Access" ∧ Fld Z h r0 "com/example/quayside/quayside/core/Access" "bits" "I" (.int i1)
set_option maxRecDepth 65536 in
set_option maxHeartbeats 40000000 in
theorem own_rm1 (l : Launch) (Z : State) (a0 : Array Value) (hw : ∀ d ∈ tables_1, d.before a0 Z = true) (ws : List Jvm.Cond) (r0 : Addr) (i1 : Int32) (h0 : Heap) (n0 : Nat) (Z0 : n0 ≤ h0.size) (P0 : Fld Z h0 r0 "com/example/quayside/quayside/core/Access" "bits" "I" (.int (0 : Int32))) (P1 : Exa Z h0 r0 "com/example/quayside/quayside/core/Access") (P2 : n0 ≤ r0) (P3 : ¬ i1 < (0 : Int32)) (P4 : ¬ (7 : Int32) < i1) :
    MetFree l (⟨"com/example/quayside/quayside/core/Access", "<init>", "(I)V"⟩ : MethodName) (head1 (Jvm.Cond.code (⟨"com/example/quayside/quayside/core/Access", "<init>", "(I)V"⟩ : MethodName) prog_1_method_1_code 2 none :: ws) ({ frames := 2, cells := 0, slots := 0, locals := 24 } : Room)) (fun a U => a = #[(.ref r0), (.int i1)] ∧ Z.Warmed39 U.vm ∧ U.heap = h0) (fun _ _ _ _ _ => True) (fun _ U o U' => ∃ v L, o = .returned v ∧ own_Q1 Z r0 i1 h0 n0 v U'.heap L ∧ FrameEnd U o U' L ({ frames := 2, cells := 0, slots := 0, locals := 24 } : Room).cells ({ frames := 2, cells := 0, slots := 0, locals := 24 } : Room).slots) := by
  refine MetFree.of_bodySF (plainFor_of_name own_pn2) hisR ?_
  intro p e s m args below meth c s₁ Bd hml0 hP hK
  obtain ⟨rfl, hZ, hh⟩ := hP
  have hx := Bd.exec
  have hby := Bd.bytes
  have hret := Bd.returns
  have hlk := BodyLoose.notSynchronized Bd
  have hml : c.maxLocals = 2 := hml0
  have hown : s.vm.findClass "com/example/quayside/quayside/core/Access" = some m.cls := findClass_of_methodNamed Bd.named
  have hnm := (name_of_methodNamed Bd.named Bd.method).1
  have X0 : Stand p l e ({ frames := 2, cells := 0, slots := 0, locals := 24 } : Room) s m #[(.ref r0), (.int i1)] below meth c s₁ [] 0 0 := Stand.of_body Bd
  have e0 : s₁.heap = h0 := by rw [← hh, Bd.state]; rfl
  have N0 := Fr.nil n0
  have K0 : Keep h0 h0 [r0] := Keep.refl h0 _
  show ownE p e below s (own_Q1 Z r0 i1 h0 n0) ({ frames := 2, cells := 0, slots := 0, locals := 24 } : Room).cells ({ frames := 2, cells := 0, slots := 0, locals := 24 } : Room).slots s₁ (entryFrame m #[(.ref r0), (.int i1)] 2)
  rw [own_ef1]
  refine ownE.go (T' := s₁) (f' := (mkF m 1 #[.val (.ref r0), .val (.int i1)] [(.ref r0)])) (fun t kt => ?_) ?_
  · show Steps p.tables e below (s₁.setTop (mkF m 0 #[.val (.ref r0), .val (.int i1)] [])) _
    refine XS.aloadN X0.here hx rfl (hb hby own_d1_0) rfl rfl ?_
    exact kt
  obtain ⟨_, _, ⟨T1, L1, k1, n1⟩, -, X1, ⟨Lc1, hQ1, l1, y1, z1⟩, st1⟩ := X0.specialBack hx (y := (⟨"java/lang/Record", "<init>", "()V"⟩ : MethodName)) rfl hown (mvT hZ (hw _ (List.mem_of_getElem? (i := 6) rfl))) (mvT hZ (hw _ (List.mem_of_getElem? (i := 7) rfl))) (mvT hZ (hw _ (List.mem_of_getElem? (i := 10) rfl))) (by decide) (backOf (W := 0) (own_rm2 l Z a0 hw [] r0 h0 n0 (Nat.le_trans Z0 K0.1) ) hZ (hw _ (List.mem_of_getElem? (i := 10) rfl)) (hw _ (List.mem_of_getElem? (i := 9) rfl)) (by decide) (by decide)) (g := (mkF m 1 #[.val (.ref r0), .val (.int i1)] [(.ref r0)])) rfl (by rw [hml]; rfl) (Steps.refl _) (a := r0) (argsL := []) (rest := []) (lenOf own_pd1 rfl) rfl (by show 2 * 0 + _ ≤ _; exact Nat.le_of_eq rfl) (hb hby own_d1_1) (fun _ _ => ⟨rfl, e0, (by decide : 0 + 0 ≤ _), (by decide : 0 + 0 ≤ _)⟩)
  dsimp only [Pt.U, Pt.locs, Pt.cells, Pt.slots] at X1 l1 y1 z1 st1 hQ1
  subst l1 y1 z1
  obtain ⟨rfl, N1q, e1⟩ := hQ1
  have N1 := Fr.app N0 N1q
  refine ownE.goS (T' := T1) (f' := (mkF m 4 #[.val (.ref r0), .val (.int i1)] [])) st1 ?_
  refine ownE.go (T' := T1) (f' := (mkF m 5 #[.val (.ref r0), .val (.int i1)] [(.int i1)])) (fun t kt => ?_) ?_
  · show Steps p.tables e below (T1.setTop (mkF m 4 #[.val (.ref r0), .val (.int i1)] [])) _
    refine XS.iloadN X1.here hx rfl (hb hby own_d1_4) rfl ?_
    exact kt
  refine ownE.go (T' := T1) (f' := (mkF m 8 #[.val (.ref r0), .val (.int i1)] [])) (fun t kt => XS.ifNo (g := (mkF m 5 #[.val (.ref r0), .val (.int i1)] [(.int i1)])) X1.here hx rfl (hb hby own_d1_5) rfl (Jvm.Free.XT.i0_lt_f P3) kt) ?_
  refine ownE.go (T' := T1) (f' := (mkF m 11 #[.val (.ref r0), .val (.int i1)] [(.int (7 : Int32)), (.int i1)])) (fun t kt => ?_) ?_
  · show Steps p.tables e below (T1.setTop (mkF m 8 #[.val (.ref r0), .val (.int i1)] [])) _
    refine XS.iloadN X1.here hx rfl (hb hby own_d1_8) rfl ?_
    show Steps p.tables e below (T1.setTop (mkF m 9 #[.val (.ref r0), .val (.int i1)] [(.int i1)])) _
    refine XS.bipush X1.here hx rfl (hb hby own_d1_9) ?_
    exact kt
  refine ownE.go (T' := T1) (f' := (mkF m 28 #[.val (.ref r0), .val (.int i1)] [])) (fun t kt => XS.icmpYes (g := (mkF m 11 #[.val (.ref r0), .val (.int i1)] [(.int (7 : Int32)), (.int i1)])) X1.here hx rfl (pc0 := 11) (pc' := 28) rfl (hb hby own_d1_11) rfl (Jvm.Free.XT.ii_le_t P4) (by decide) (by decide) kt) ?_
  refine ownE.go (T' := T1) (f' := (mkF m 30 #[.val (.ref r0), .val (.int i1)] [(.int i1), (.ref r0)])) (fun t kt => ?_) ?_
  · show Steps p.tables e below (T1.setTop (mkF m 28 #[.val (.ref r0), .val (.int i1)] [])) _
    refine XS.aloadN X1.here hx rfl (hb hby own_d1_28) rfl rfl ?_
    show Steps p.tables e below (T1.setTop (mkF m 29 #[.val (.ref r0), .val (.int i1)] [(.ref r0)])) _
    refine XS.iloadN X1.here hx rfl (hb hby own_d1_29) rfl ?_
    exact kt
  obtain ⟨T2, h2, X2, e2, W2, st2⟩ := putF X1 hx hZ hown (host := "") (Or.inl (hw _ (List.mem_of_getElem? (i := 14) rfl))) Via.refl e1 P0 P1 (Or.inr ⟨(hw _ (List.mem_of_getElem? (i := 15) rfl)), rfl, hnm⟩) (hw _ (List.mem_of_getElem? (i := 1) rfl)) (ty := .int) (by decide) rfl rfl (g := (mkF m 30 #[.val (.ref r0), .val (.int i1)] [(.int i1), (.ref r0)])) rfl rfl (hb hby own_d1_30)
  have Fw2 : Fld Z h2 r0 "com/example/quayside/quayside/core/Access" "bits" "I" (.int i1) := P0.same W2
  have cExa_r0_2 : Exa Z h2 r0 "com/example/quayside/quayside/core/Access" := P1.wr W2
  have K2 : Keep h0 h2 [r0] := K0.wr W2 (Or.inl (List.mem_of_getElem? (i := 0) rfl))
  have N2 := Fr.snoc X2 N1 P2
  refine ownE.go (T' := T2) (f' := (mkF m 33 #[.val (.ref r0), .val (.int i1)] [])) st2 ?_
  refine ownE.retV X2 hx hlk hret (hb hby own_d1_33) ?_ (by decide) (by decide)
  show own_Q1 Z r0 i1 h0 n0 _ T2.heap _
  rw [e2]
  exact ⟨rfl, N2, K2, cExa_r0_2, Fw2⟩
theorem own_d4_0 : decode prog_1_method_3_code 0 = .ok (.iload_n 1, 1) := by decide +kernel
theorem own_d4_1 : decode prog_1_method_3_code 1 = .ok (.aload_n 0, 1) := by decide +kernel
theorem own_d4_2 : decode prog_1_method_3_code 2 = .ok (.getfield 16, 3) := by decide +kernel
theorem own_d4_5 : decode prog_1_method_3_code 5 = .ok (.iand, 1) := by decide +kernel
theorem own_d4_6 : decode prog_1_method_3_code 6 = .ok (.aload_n 0, 1) := by decide +kernel
theorem own_d4_7 : decode prog_1_method_3_code 7 = .ok (.getfield 16, 3) := by decide +kernel
theorem own_d4_10 : decode prog_1_method_3_code 10 = .ok (.if_icmp .ne 7, 3) := by decide +kernel
theorem own_d4_13 : decode prog_1_method_3_code 13 = .ok (.iconst 1, 1) := by decide +kernel
theorem own_d4_14 : decode prog_1_method_3_code 14 = .ok (.goto 4, 3) := by decide +kernel
theorem own_d4_17 : decode prog_1_method_3_code 17 = .ok (.iconst 0, 1) := by decide +kernel
theorem own_d4_18 : decode prog_1_method_3_code 18 = .ok (.ireturn, 1) := by decide +kernel
theorem own_ef4 (m : MethodId) (x0 : Addr) (x1 : Int32) : entryFrame m #[(.ref x0), (.int x1)] 2 = mkF m 0 #[.val (.ref x0), .val (.int x1)] [] := by first | (simp [entryFrame, mkF, argsToLocals, Value.category]; done) | rfl
def own_f4 (i1 : Int32) (bi : Int32) : Int32 :=
  if (i1 &&& bi) = bi then
    (1 : Int32)
  else
    (0 : Int32)
def own_Q4 (Z : State) (r0 : Addr) (i1 : Int32) (bi : Int32) (h0 : Heap) (n0 : Nat) (v : Option Value) (h : Heap) (L : List Loc) : Prop := v = some (.int (own_f4 i1 bi)) ∧ Fr n0 L ∧ h = h0
set_option maxRecDepth 65536 in
set_option maxHeartbeats 40000000 in
theorem own_rm4 (l : Launch) (Z : State) (a0 : Array Value) (hw : ∀ d ∈ tables_1, d.before a0 Z = true) (ws : List Jvm.Cond) (r0 : Addr) (i1 : Int32) (bi : Int32) (h0 : Heap) (n0 : Nat) (Z0 : n0 ≤ h0.size) (P0 : Fld Z h0 r0 "com/example/quayside/quayside/core/Access" "bits" "I" (.int bi)) :
    MetFree l (⟨"com/example/quayside/quayside/core/Access", "isGrantedBy", "(I)Z"⟩ : MethodName) (head1 (Jvm.Cond.code (⟨"com/example/quayside/quayside/core/Access", "isGrantedBy", "(I)Z"⟩ : MethodName) prog_1_method_3_code 2 (some .boolean) :: ws) ({ frames := 0, cells := 0, slots := 0, locals := 0 } : Room)) (fun a U => a = #[(.ref r0), (.int i1)] ∧ Z.Warmed39 U.vm ∧ U.heap = h0) (fun _ _ _ _ _ => True) (fun _ U o U' => ∃ v L, o = .returned v ∧ own_Q4 Z r0 i1 bi h0 n0 v U'.heap L ∧ FrameEnd U o U' L ({ frames := 0, cells := 0, slots := 0, locals := 0 } : Room).cells ({ frames := 0, cells := 0, slots := 0, locals := 0 } : Room).slots) := by
  refine MetFree.of_bodySF (plainFor_of_name own_pn2) hisR ?_
  intro p e s m args below meth c s₁ Bd hml0 hP hK
  obtain ⟨rfl, hZ, hh⟩ := hP
  have hx := Bd.exec
  have hby := Bd.bytes
  have hret := Bd.returns
  have hlk := BodyLoose.notSynchronized Bd
  have hml : c.maxLocals = 2 := hml0
  have hown : s.vm.findClass "com/example/quayside/quayside/core/Access" = some m.cls := findClass_of_methodNamed Bd.named
  have hnm := (name_of_methodNamed Bd.named Bd.method).1
  have X0 : Stand p l e ({ frames := 0, cells := 0, slots := 0, locals := 0 } : Room) s m #[(.ref r0), (.int i1)] below meth c s₁ [] 0 0 := Stand.of_body Bd
  have e0 : s₁.heap = h0 := by rw [← hh, Bd.state]; rfl
  have N0 := Fr.nil n0
  have K0 : Keep h0 h0 [] := Keep.refl h0 _
  show ownE p e below s (own_Q4 Z r0 i1 bi h0 n0) ({ frames := 0, cells := 0, slots := 0, locals := 0 } : Room).cells ({ frames := 0, cells := 0, slots := 0, locals := 0 } : Room).slots s₁ (entryFrame m #[(.ref r0), (.int i1)] 2)
  rw [own_ef4]
  refine ownE.go (T' := s₁) (f' := (mkF m 2 #[.val (.ref r0), .val (.int i1)] [(.ref r0), (.int i1)])) (fun t kt => ?_) ?_
  · show Steps p.tables e below (s₁.setTop (mkF m 0 #[.val (.ref r0), .val (.int i1)] [])) _
    refine XS.iloadN X0.here hx rfl (hb hby own_d4_0) rfl ?_
    show Steps p.tables e below (s₁.setTop (mkF m 1 #[.val (.ref r0), .val (.int i1)] [(.int i1)])) _
    refine XS.aloadN X0.here hx rfl (hb hby own_d4_1) rfl rfl ?_
    exact kt
  obtain ⟨T1, X1, e1, st1⟩ := getF X0 hx hZ hown (host := "") (Or.inl (hw _ (List.mem_of_getElem? (i := 14) rfl))) Via.refl e0 P0 (g := (mkF m 2 #[.val (.ref r0), .val (.int i1)] [(.ref r0), (.int i1)])) rfl rfl (hb hby own_d4_2)
  refine ownE.go (T' := T1) (f' := (mkF m 5 #[.val (.ref r0), .val (.int i1)] [(.int bi), (.int i1)])) st1 ?_
  refine ownE.go (T' := T1) (f' := (mkF m 7 #[.val (.ref r0), .val (.int i1)] [(.ref r0), (.int (i1 &&& bi))])) (fun t kt => ?_) ?_
  · show Steps p.tables e below (T1.setTop (mkF m 5 #[.val (.ref r0), .val (.int i1)] [(.int bi), (.int i1)])) _
    refine XS.iand X1.here hx rfl (hb hby own_d4_5) rfl ?_
    show Steps p.tables e below (T1.setTop (mkF m 6 #[.val (.ref r0), .val (.int i1)] [(.int (i1 &&& bi))])) _
    refine XS.aloadN X1.here hx rfl (hb hby own_d4_6) rfl rfl ?_
    exact kt
  obtain ⟨T2, X2, e2, st2⟩ := getF X1 hx hZ hown (host := "") (Or.inl (hw _ (List.mem_of_getElem? (i := 14) rfl))) Via.refl e1 P0 (g := (mkF m 7 #[.val (.ref r0), .val (.int i1)] [(.ref r0), (.int (i1 &&& bi))])) rfl rfl (hb hby own_d4_7)
  refine ownE.go (T' := T2) (f' := (mkF m 10 #[.val (.ref r0), .val (.int i1)] [(.int bi), (.int (i1 &&& bi))])) st2 ?_
  by_cases hc3 : (i1 &&& bi) = bi
  · -- pc 10
    refine ownE.go (T' := T2) (f' := (mkF m 13 #[.val (.ref r0), .val (.int i1)] [])) (fun t kt => XS.icmpNo (g := (mkF m 10 #[.val (.ref r0), .val (.int i1)] [(.int bi), (.int (i1 &&& bi))])) X2.here hx rfl (hb hby own_d4_10) rfl (Jvm.Free.XT.ii_ne_f hc3) kt) ?_
    refine ownE.go (T' := T2) (f' := (mkF m 18 #[.val (.ref r0), .val (.int i1)] [(.int (1 : Int32))])) (fun t kt => ?_) ?_
    · show Steps p.tables e below (T2.setTop (mkF m 13 #[.val (.ref r0), .val (.int i1)] [])) _
      refine XS.iconst X2.here hx rfl (hb hby own_d4_13) ?_
      show Steps p.tables e below (T2.setTop (mkF m 14 #[.val (.ref r0), .val (.int i1)] [(.int (1 : Int32))])) _
      refine XS.goto X2.here hx rfl (pc0 := 14) (pc' := 18) rfl (hb hby own_d4_14) (by decide) (by decide) ?_
      exact kt
    refine ownE.retN X2 hx hlk (t := .boolean) hret (by simp) (hb hby own_d4_18) ?_ (by decide) (by decide)
    show own_Q4 Z r0 i1 bi h0 n0 _ T2.heap _
    rw [e2]
    exact ⟨(by rw [own_f4, if_pos hc3] <;> first | rfl | decide), N0, rfl⟩
  · -- pc 10
    refine ownE.go (T' := T2) (f' := (mkF m 17 #[.val (.ref r0), .val (.int i1)] [])) (fun t kt => XS.icmpYes (g := (mkF m 10 #[.val (.ref r0), .val (.int i1)] [(.int bi), (.int (i1 &&& bi))])) X2.here hx rfl (pc0 := 10) (pc' := 17) rfl (hb hby own_d4_10) rfl (Jvm.Free.XT.ii_ne_t hc3) (by decide) (by decide) kt) ?_
    refine ownE.go (T' := T2) (f' := (mkF m 18 #[.val (.ref r0), .val (.int i1)] [(.int (0 : Int32))])) (fun t kt => ?_) ?_
    · show Steps p.tables e below (T2.setTop (mkF m 17 #[.val (.ref r0), .val (.int i1)] [])) _
      refine XS.iconst X2.here hx rfl (hb hby own_d4_17) ?_
      exact kt
    refine ownE.retN X2 hx hlk (t := .boolean) hret (by simp) (hb hby own_d4_18) ?_ (by decide) (by decide)
    show own_Q4 Z r0 i1 bi h0 n0 _ T2.heap _
    rw [e2]
    exact ⟨(by rw [own_f4, if_neg hc3] <;> first | rfl | decide), N0, rfl⟩
theorem own_m7 (x : Int32) : ¬ (x &&& (7 : Int32)) < (0 : Int32) ∧ ¬ (7 : Int32) < (x &&& (7 : Int32)) := by
  have h := c_mask x 7 3 (by decide) (by decide)
  rw [Int32.lt_iff_toInt_lt, Int32.lt_iff_toInt_lt, h]
  have e0 : (0 : Int32).toInt = 0 := by decide
  have e7 : (7 : Int32).toInt = 7 := by decide
  rw [e0, e7]
  omega
theorem own_pd3 : parseMethodDescriptor "(I)V" = some ⟨[.int], none⟩ := by decide +kernel
theorem own_pd4 : parseMethodDescriptor "(I)Z" = some ⟨[.int], some .boolean⟩ := by decide +kernel
def own_j0_45_S0 (i0 : Int32) (i1 : Int32) : Int32 :=
  if ((i0 &&& (7 : Int32)) &&& (4 : Int32)) = (0 : Int32) then
    (1 : Int32)
  else
    if ((i1 &&& (7 : Int32)) &&& (4 : Int32)) = (0 : Int32) then
      (0 : Int32)
    else
      (1 : Int32)
def own_j0_64_S0 (i0 : Int32) (i1 : Int32) : Int32 :=
  if ((i0 &&& (7 : Int32)) &&& (2 : Int32)) = (0 : Int32) then
    (1 : Int32)
  else
    if ((i1 &&& (7 : Int32)) &&& (2 : Int32)) = (0 : Int32) then
      (0 : Int32)
    else
      (1 : Int32)
def own_j0_83_S0 (i0 : Int32) (i1 : Int32) : Int32 :=
  if ((i0 &&& (7 : Int32)) &&& (1 : Int32)) = (0 : Int32) then
    (1 : Int32)
  else
    if ((i1 &&& (7 : Int32)) &&& (1 : Int32)) = (0 : Int32) then
      (0 : Int32)
    else
      (1 : Int32)
def own_j0_105_S0 (i0 : Int32) (i1 : Int32) : Int32 :=
  if (own_j0_45_S0 i0 i1) = (0 : Int32) then
    (0 : Int32)
  else
    if (own_j0_64_S0 i0 i1) = (0 : Int32) then
      (0 : Int32)
    else
      if (own_j0_83_S0 i0 i1) = (0 : Int32) then
        (0 : Int32)
      else
        (1 : Int32)
theorem own_pn5 : plainName "com/example/quayside/quayside/core/AccessIsGrantedByPinLaw" = true := by first | (simp [plainName, overriddenIn]; done) | decide +kernel
theorem own_ef0 (m : MethodId) (x0 : Int32) (x1 : Int32) : entryFrame m #[(.int x0), (.int x1)] maxLocals = mkF m 0 #[.val (.int x0), .val (.int x1), .unset, .unset, .unset, .unset, .unset, .unset, .unset, .unset] [] := by first | (simp [entryFrame, mkF, argsToLocals, Value.category, maxLocals]; done) | rfl
def own_f0 (i0 : Int32) (i1 : Int32) : Int32 :=
  if (own_f4 (i1 &&& (7 : Int32)) (i0 &&& (7 : Int32))) = (own_j0_105_S0 i0 i1) then
    (1 : Int32)
  else
    (0 : Int32)
def own_Q0 (Z : State) (i0 : Int32) (i1 : Int32) (h0 : Heap) (n0 : Nat) (v : Option Value) (h : Heap) (L : List Loc) : Prop := v = some (.int (own_f0 i0 i1)) ∧ Fr n0 L ∧ Keep h0 h []
set_option maxRecDepth 65536 in
set_option maxHeartbeats 40000000 in
theorem own_rm0 (l : Launch) (Z : State) (a0 : Array Value) (hw : ∀ d ∈ tables_1, d.before a0 Z = true) (ws : List Jvm.Cond) (i0 : Int32) (i1 : Int32) (h0 : Heap) (n0 : Nat) (Z0 : n0 ≤ h0.size) :
    MetFree l x (head1 (Jvm.Cond.code x code maxLocals ret :: ws) room_1) (fun a U => a = #[(.int i0), (.int i1)] ∧ Z.Warmed39 U.vm ∧ U.heap = h0) (fun _ _ _ _ _ => True) (fun _ U o U' => ∃ v L, o = .returned v ∧ own_Q0 Z i0 i1 h0 n0 v U'.heap L ∧ FrameEnd U o U' L 1 1) := by
  refine MetFree.of_bodySF (plainFor_of_name own_pn5) hisR ?_
  intro p e s m args below meth c s₁ Bd hml0 hP hK
  obtain ⟨rfl, hZ, hh⟩ := hP
  have hx := Bd.exec
  have hby := Bd.bytes
  have hret := Bd.returns
  have hlk := BodyLoose.notSynchronized Bd
  have hml : c.maxLocals = 10 := hml0
  have hown : s.vm.findClass "com/example/quayside/quayside/core/AccessIsGrantedByPinLaw" = some m.cls := findClass_of_methodNamed Bd.named
  have hnm := (name_of_methodNamed Bd.named Bd.method).1
  have X0 : Stand p l e room_1 s m #[(.int i0), (.int i1)] below meth c s₁ [] 0 0 := Stand.of_body Bd
  have e0 : s₁.heap = h0 := by rw [← hh, Bd.state]; rfl
  have N0 := Fr.nil n0
  have K0 : Keep h0 h0 [] := Keep.refl h0 _
  show ownE p e below s (own_Q0 Z i0 i1 h0 n0) 1 1 s₁ (entryFrame m #[(.int i0), (.int i1)] maxLocals)
  rw [own_ef0]
  refine ownE.go (T' := s₁) (f' := (mkF m 10 #[.val (.int i0), .val (.int i1), .val (.int (i0 &&& (7 : Int32))), .val (.int (i1 &&& (7 : Int32))), .unset, .unset, .unset, .unset, .unset, .unset] [])) (fun t kt => ?_) ?_
  · show Steps p.tables e below (s₁.setTop (mkF m 0 #[.val (.int i0), .val (.int i1), .unset, .unset, .unset, .unset, .unset, .unset, .unset, .unset] [])) _
    refine XS.iloadN X0.here hx rfl (hb hby at_0) rfl ?_
    show Steps p.tables e below (s₁.setTop (mkF m 1 #[.val (.int i0), .val (.int i1), .unset, .unset, .unset, .unset, .unset, .unset, .unset, .unset] [(.int i0)])) _
    refine XS.bipush X0.here hx rfl (hb hby at_1) ?_
    show Steps p.tables e below (s₁.setTop (mkF m 3 #[.val (.int i0), .val (.int i1), .unset, .unset, .unset, .unset, .unset, .unset, .unset, .unset] [(.int (7 : Int32)), (.int i0)])) _
    refine XS.iand X0.here hx rfl (hb hby at_3) rfl ?_
    show Steps p.tables e below (s₁.setTop (mkF m 4 #[.val (.int i0), .val (.int i1), .unset, .unset, .unset, .unset, .unset, .unset, .unset, .unset] [(.int (i0 &&& (7 : Int32)))])) _
    refine XS.istoreN X0.here hx rfl (hb hby at_4) rfl (l' := #[.val (.int i0), .val (.int i1), .val (.int (i0 &&& (7 : Int32))), .unset, .unset, .unset, .unset, .unset, .unset, .unset]) rfl ?_
    show Steps p.tables e below (s₁.setTop (mkF m 5 #[.val (.int i0), .val (.int i1), .val (.int (i0 &&& (7 : Int32))), .unset, .unset, .unset, .unset, .unset, .unset, .unset] [])) _
    refine XS.iloadN X0.here hx rfl (hb hby at_5) rfl ?_
    show Steps p.tables e below (s₁.setTop (mkF m 6 #[.val (.int i0), .val (.int i1), .val (.int (i0 &&& (7 : Int32))), .unset, .unset, .unset, .unset, .unset, .unset, .unset] [(.int i1)])) _
    refine XS.bipush X0.here hx rfl (hb hby at_6) ?_
    show Steps p.tables e below (s₁.setTop (mkF m 8 #[.val (.int i0), .val (.int i1), .val (.int (i0 &&& (7 : Int32))), .unset, .unset, .unset, .unset, .unset, .unset, .unset] [(.int (7 : Int32)), (.int i1)])) _
    refine XS.iand X0.here hx rfl (hb hby at_8) rfl ?_
    show Steps p.tables e below (s₁.setTop (mkF m 9 #[.val (.int i0), .val (.int i1), .val (.int (i0 &&& (7 : Int32))), .unset, .unset, .unset, .unset, .unset, .unset, .unset] [(.int (i1 &&& (7 : Int32)))])) _
    refine XS.istoreN X0.here hx rfl (hb hby at_9) rfl (l' := #[.val (.int i0), .val (.int i1), .val (.int (i0 &&& (7 : Int32))), .val (.int (i1 &&& (7 : Int32))), .unset, .unset, .unset, .unset, .unset, .unset]) rfl ?_
    exact kt
  obtain ⟨T1, h1, X1, e1, E1, A1, D1, -, st1⟩ := newO X0 hx hZ hown (hw _ (List.mem_of_getElem? (i := 0) rfl)) (hw _ (List.mem_of_getElem? (i := 1) rfl)) (hw _ (List.mem_of_getElem? (i := 2) rfl)) e0 (g := (mkF m 10 #[.val (.int i0), .val (.int i1), .val (.int (i0 &&& (7 : Int32))), .val (.int (i1 &&& (7 : Int32))), .unset, .unset, .unset, .unset, .unset, .unset] [])) rfl (hb hby at_10) (by decide) (by decide)
  obtain ⟨b1, g1⟩ : ∃ z, z = h0.size := ⟨_, rfl⟩
  rw [← g1] at A1 D1 st1
  have sz_b1 : h0.size ≤ b1 := Nat.le_trans K0.1 (Nat.le_of_eq g1.symm)
  have ge_b1 : n0 ≤ b1 := Nat.le_trans Z0 sz_b1
  have D1_bits : Fld Z h1 b1 "com/example/quayside/quayside/core/Access" "bits" "I" (.int (0 : Int32)) := D1 (Or.inr (hw _ (List.mem_of_getElem? (i := 15) rfl))) (ty := .int) (by decide)
  have K1 : Keep h0 h1 [] := K0.ext E1
  refine ownE.go (T' := T1) (f' := (mkF m 13 #[.val (.int i0), .val (.int i1), .val (.int (i0 &&& (7 : Int32))), .val (.int (i1 &&& (7 : Int32))), .unset, .unset, .unset, .unset, .unset, .unset] [(.ref b1)])) st1 ?_
  refine ownE.go (T' := T1) (f' := (mkF m 15 #[.val (.int i0), .val (.int i1), .val (.int (i0 &&& (7 : Int32))), .val (.int (i1 &&& (7 : Int32))), .unset, .unset, .unset, .unset, .unset, .unset] [(.int (i0 &&& (7 : Int32))), (.ref b1), (.ref b1)])) (fun t kt => ?_) ?_
  · show Steps p.tables e below (T1.setTop (mkF m 13 #[.val (.int i0), .val (.int i1), .val (.int (i0 &&& (7 : Int32))), .val (.int (i1 &&& (7 : Int32))), .unset, .unset, .unset, .unset, .unset, .unset] [(.ref b1)])) _
    refine XS.dup X1.here hx rfl (hb hby at_13) rfl rfl ?_
    show Steps p.tables e below (T1.setTop (mkF m 14 #[.val (.int i0), .val (.int i1), .val (.int (i0 &&& (7 : Int32))), .val (.int (i1 &&& (7 : Int32))), .unset, .unset, .unset, .unset, .unset, .unset] [(.ref b1), (.ref b1)])) _
    refine XS.iloadN X1.here hx rfl (hb hby at_14) rfl ?_
    exact kt
  obtain ⟨_, _, ⟨T2, L2, k2, n2⟩, -, X2, ⟨Lc2, hQ2, l2, y2, z2⟩, st2⟩ := X1.specialBack hx (y := (⟨"com/example/quayside/quayside/core/Access", "<init>", "(I)V"⟩ : MethodName)) rfl hown (mvT hZ (hw _ (List.mem_of_getElem? (i := 3) rfl))) (mvT hZ (hw _ (List.mem_of_getElem? (i := 4) rfl))) (mvT hZ (hw _ (List.mem_of_getElem? (i := 5) rfl))) (by decide) (backOf (W := 1) (own_rm1 l Z a0 hw [] b1 (i0 &&& (7 : Int32)) h1 n0 (Nat.le_trans Z0 K1.1) D1_bits A1 ge_b1 (own_m7 i0).1 (own_m7 i0).2) hZ (hw _ (List.mem_of_getElem? (i := 5) rfl)) (hw _ (List.mem_of_getElem? (i := 2) rfl)) (by decide) (by decide)) (g := (mkF m 15 #[.val (.int i0), .val (.int i1), .val (.int (i0 &&& (7 : Int32))), .val (.int (i1 &&& (7 : Int32))), .unset, .unset, .unset, .unset, .unset, .unset] [(.int (i0 &&& (7 : Int32))), (.ref b1), (.ref b1)])) rfl (by rw [hml]; rfl) (Steps.refl _) (a := b1) (argsL := [(.int (i0 &&& (7 : Int32)))]) (rest := [(.ref b1)]) (lenOf own_pd3 rfl) rfl (by show 2 * 0 + _ ≤ _; exact Nat.le_of_eq rfl) (hb hby at_15) (fun _ _ => ⟨rfl, e1, (by decide : 1 + 0 ≤ _), (by decide : 1 + 0 ≤ _)⟩)
  dsimp only [Pt.U, Pt.locs, Pt.cells, Pt.slots] at X2 l2 y2 z2 st2 hQ2
  subst l2 y2 z2
  obtain ⟨rfl, N2q, K2q, f2_0, f2_1⟩ := hQ2
  have cExa_b1_2 : Exa Z T2.heap b1 "com/example/quayside/quayside/core/Access" := A1.keep K2q
  have K2 : Keep h0 T2.heap [] := K1.trans K2q (allS (Or.inr sz_b1) all0)
  have N2 := Fr.app N0 N2q
  refine ownE.goS (T' := T2) (f' := (mkF m 18 #[.val (.int i0), .val (.int i1), .val (.int (i0 &&& (7 : Int32))), .val (.int (i1 &&& (7 : Int32))), .unset, .unset, .unset, .unset, .unset, .unset] [(.ref b1)])) st2 ?_
  refine ownE.go (T' := T2) (f' := (mkF m 23 #[.val (.int i0), .val (.int i1), .val (.int (i0 &&& (7 : Int32))), .val (.int (i1 &&& (7 : Int32))), .val (.ref b1), .unset, .unset, .unset, .unset, .unset] [(.int (i1 &&& (7 : Int32))), (.ref b1)])) (fun t kt => ?_) ?_
  · show Steps p.tables e below (T2.setTop (mkF m 18 #[.val (.int i0), .val (.int i1), .val (.int (i0 &&& (7 : Int32))), .val (.int (i1 &&& (7 : Int32))), .unset, .unset, .unset, .unset, .unset, .unset] [(.ref b1)])) _
    refine XS.astore X2.here hx rfl (hb hby at_18) rfl rfl (l' := #[.val (.int i0), .val (.int i1), .val (.int (i0 &&& (7 : Int32))), .val (.int (i1 &&& (7 : Int32))), .val (.ref b1), .unset, .unset, .unset, .unset, .unset]) rfl ?_
    show Steps p.tables e below (T2.setTop (mkF m 20 #[.val (.int i0), .val (.int i1), .val (.int (i0 &&& (7 : Int32))), .val (.int (i1 &&& (7 : Int32))), .val (.ref b1), .unset, .unset, .unset, .unset, .unset] [])) _
    refine XS.aload X2.here hx rfl (hb hby at_20) rfl rfl ?_
    show Steps p.tables e below (T2.setTop (mkF m 22 #[.val (.int i0), .val (.int i1), .val (.int (i0 &&& (7 : Int32))), .val (.int (i1 &&& (7 : Int32))), .val (.ref b1), .unset, .unset, .unset, .unset, .unset] [(.ref b1)])) _
    refine XS.iloadN X2.here hx rfl (hb hby at_22) rfl ?_
    exact kt
  obtain ⟨cq3, kq3, q3a, q3b, q3c⟩ := isOf hZ rfl f2_0
  obtain ⟨_, _, ⟨T3, L3, k3, n3⟩, -, X3, ⟨Lc3, hQ3, l3, y3, z3⟩, st3⟩ := X2.virtualBack hx (y := (⟨"com/example/quayside/quayside/core/Access", "isGrantedBy", "(I)Z"⟩ : MethodName)) (z := (⟨"com/example/quayside/quayside/core/Access", "isGrantedBy", "(I)Z"⟩ : MethodName)) hown (mvT hZ (hw _ (List.mem_of_getElem? (i := 16) rfl))) (mvT hZ (hw _ (List.mem_of_getElem? (i := 17) rfl))) (notFace_of_selects (args := #[]) (mvT hZ (hw _ (List.mem_of_getElem? (i := 19) rfl)))) (mvT hZ (hw _ (List.mem_of_getElem? (i := 19) rfl))) (mvT hZ (hw _ (List.mem_of_getElem? (i := 18) rfl))) (by decide) (backOf (W := 0) (own_rm4 l Z a0 hw [] b1 (i1 &&& (7 : Int32)) (i0 &&& (7 : Int32)) T2.heap n0 (Nat.le_trans Z0 K2.1) f2_1) hZ (hw _ (List.mem_of_getElem? (i := 20) rfl)) (hw _ (List.mem_of_getElem? (i := 2) rfl)) (by decide) (by decide)) q3a q3c (g := (mkF m 23 #[.val (.int i0), .val (.int i1), .val (.int (i0 &&& (7 : Int32))), .val (.int (i1 &&& (7 : Int32))), .val (.ref b1), .unset, .unset, .unset, .unset, .unset] [(.int (i1 &&& (7 : Int32))), (.ref b1)])) rfl (by rw [hml]; rfl) (Steps.refl _) (argsL := [(.int (i1 &&& (7 : Int32)))]) (rest := []) (lenOf own_pd4 rfl) rfl (by show 2 * 0 + _ ≤ _; exact Nat.le_of_eq rfl) (hb hby at_23) (fun _ _ => ⟨rfl, rfl, (by decide : 1 + 0 ≤ _), (by decide : 1 + 0 ≤ _)⟩)
  dsimp only [Pt.U, Pt.locs, Pt.cells, Pt.slots] at X3 l3 y3 z3 st3 hQ3
  subst l3 y3 z3
  obtain ⟨rfl, N3q, e3⟩ := hQ3
  have N3 := Fr.app N2 N3q
  refine ownE.goS (T' := T3) (f' := (mkF m 26 #[.val (.int i0), .val (.int i1), .val (.int (i0 &&& (7 : Int32))), .val (.int (i1 &&& (7 : Int32))), .val (.ref b1), .unset, .unset, .unset, .unset, .unset] [(.int (own_f4 (i1 &&& (7 : Int32)) (i0 &&& (7 : Int32))))])) st3 ?_
  refine ownE.go (T' := T3) (f' := (mkF m 28 #[.val (.int i0), .val (.int i1), .val (.int (i0 &&& (7 : Int32))), .val (.int (i1 &&& (7 : Int32))), .val (.ref b1), .val (.int (own_f4 (i1 &&& (7 : Int32)) (i0 &&& (7 : Int32)))), .unset, .unset, .unset, .unset] [])) (fun t kt => ?_) ?_
  · show Steps p.tables e below (T3.setTop (mkF m 26 #[.val (.int i0), .val (.int i1), .val (.int (i0 &&& (7 : Int32))), .val (.int (i1 &&& (7 : Int32))), .val (.ref b1), .unset, .unset, .unset, .unset, .unset] [(.int (own_f4 (i1 &&& (7 : Int32)) (i0 &&& (7 : Int32))))])) _
    refine XS.istore X3.here hx rfl (hb hby at_26) rfl (l' := #[.val (.int i0), .val (.int i1), .val (.int (i0 &&& (7 : Int32))), .val (.int (i1 &&& (7 : Int32))), .val (.ref b1), .val (.int (own_f4 (i1 &&& (7 : Int32)) (i0 &&& (7 : Int32)))), .unset, .unset, .unset, .unset]) rfl ?_
    exact kt
  have J7 : ∀ (TJ7 : State) (locsJ7 : List Loc), Stand p l e room_1 s m #[(.int i0), (.int i1)] below meth c TJ7 locsJ7 1 1 → TJ7.heap = T2.heap → Fr n0 locsJ7 → ownE p e below s (own_Q0 Z i0 i1 h0 n0) 1 1 TJ7 (mkF m 45 #[.val (.int i0), .val (.int i1), .val (.int (i0 &&& (7 : Int32))), .val (.int (i1 &&& (7 : Int32))), .val (.ref b1), .val (.int (own_f4 (i1 &&& (7 : Int32)) (i0 &&& (7 : Int32)))), .unset, .unset, .unset, .unset] [(.int (own_j0_45_S0 i0 i1))]) := by
    intro TJ7 locsJ7 XJ7 eJ7 NJ7
    refine ownE.go (T' := TJ7) (f' := (mkF m 47 #[.val (.int i0), .val (.int i1), .val (.int (i0 &&& (7 : Int32))), .val (.int (i1 &&& (7 : Int32))), .val (.ref b1), .val (.int (own_f4 (i1 &&& (7 : Int32)) (i0 &&& (7 : Int32)))), .val (.int (own_j0_45_S0 i0 i1)), .unset, .unset, .unset] [])) (fun t kt => ?_) ?_
    · show Steps p.tables e below (TJ7.setTop (mkF m 45 #[.val (.int i0), .val (.int i1), .val (.int (i0 &&& (7 : Int32))), .val (.int (i1 &&& (7 : Int32))), .val (.ref b1), .val (.int (own_f4 (i1 &&& (7 : Int32)) (i0 &&& (7 : Int32)))), .unset, .unset, .unset, .unset] [(.int (own_j0_45_S0 i0 i1))])) _
      refine XS.istore XJ7.here hx rfl (hb hby at_45) rfl (l' := #[.val (.int i0), .val (.int i1), .val (.int (i0 &&& (7 : Int32))), .val (.int (i1 &&& (7 : Int32))), .val (.ref b1), .val (.int (own_f4 (i1 &&& (7 : Int32)) (i0 &&& (7 : Int32)))), .val (.int (own_j0_45_S0 i0 i1)), .unset, .unset, .unset]) rfl ?_
      exact kt
    have J11 : ∀ (TJ11 : State) (locsJ11 : List Loc), Stand p l e room_1 s m #[(.int i0), (.int i1)] below meth c TJ11 locsJ11 1 1 → TJ11.heap = T2.heap → Fr n0 locsJ11 → ownE p e below s (own_Q0 Z i0 i1 h0 n0) 1 1 TJ11 (mkF m 64 #[.val (.int i0), .val (.int i1), .val (.int (i0 &&& (7 : Int32))), .val (.int (i1 &&& (7 : Int32))), .val (.ref b1), .val (.int (own_f4 (i1 &&& (7 : Int32)) (i0 &&& (7 : Int32)))), .val (.int (own_j0_45_S0 i0 i1)), .unset, .unset, .unset] [(.int (own_j0_64_S0 i0 i1))]) := by
      intro TJ11 locsJ11 XJ11 eJ11 NJ11
      refine ownE.go (T' := TJ11) (f' := (mkF m 66 #[.val (.int i0), .val (.int i1), .val (.int (i0 &&& (7 : Int32))), .val (.int (i1 &&& (7 : Int32))), .val (.ref b1), .val (.int (own_f4 (i1 &&& (7 : Int32)) (i0 &&& (7 : Int32)))), .val (.int (own_j0_45_S0 i0 i1)), .val (.int (own_j0_64_S0 i0 i1)), .unset, .unset] [])) (fun t kt => ?_) ?_
      · show Steps p.tables e below (TJ11.setTop (mkF m 64 #[.val (.int i0), .val (.int i1), .val (.int (i0 &&& (7 : Int32))), .val (.int (i1 &&& (7 : Int32))), .val (.ref b1), .val (.int (own_f4 (i1 &&& (7 : Int32)) (i0 &&& (7 : Int32)))), .val (.int (own_j0_45_S0 i0 i1)), .unset, .unset, .unset] [(.int (own_j0_64_S0 i0 i1))])) _
        refine XS.istore XJ11.here hx rfl (hb hby at_64) rfl (l' := #[.val (.int i0), .val (.int i1), .val (.int (i0 &&& (7 : Int32))), .val (.int (i1 &&& (7 : Int32))), .val (.ref b1), .val (.int (own_f4 (i1 &&& (7 : Int32)) (i0 &&& (7 : Int32)))), .val (.int (own_j0_45_S0 i0 i1)), .val (.int (own_j0_64_S0 i0 i1)), .unset, .unset]) rfl ?_
        exact kt
      have J15 : ∀ (TJ15 : State) (locsJ15 : List Loc), Stand p l e room_1 s m #[(.int i0), (.int i1)] below meth c TJ15 locsJ15 1 1 → TJ15.heap = T2.heap → Fr n0 locsJ15 → ownE p e below s (own_Q0 Z i0 i1 h0 n0) 1 1 TJ15 (mkF m 83 #[.val (.int i0), .val (.int i1), .val (.int (i0 &&& (7 : Int32))), .val (.int (i1 &&& (7 : Int32))), .val (.ref b1), .val (.int (own_f4 (i1 &&& (7 : Int32)) (i0 &&& (7 : Int32)))), .val (.int (own_j0_45_S0 i0 i1)), .val (.int (own_j0_64_S0 i0 i1)), .unset, .unset] [(.int (own_j0_83_S0 i0 i1))]) := by
        intro TJ15 locsJ15 XJ15 eJ15 NJ15
        refine ownE.go (T' := TJ15) (f' := (mkF m 85 #[.val (.int i0), .val (.int i1), .val (.int (i0 &&& (7 : Int32))), .val (.int (i1 &&& (7 : Int32))), .val (.ref b1), .val (.int (own_f4 (i1 &&& (7 : Int32)) (i0 &&& (7 : Int32)))), .val (.int (own_j0_45_S0 i0 i1)), .val (.int (own_j0_64_S0 i0 i1)), .val (.int (own_j0_83_S0 i0 i1)), .unset] [])) (fun t kt => ?_) ?_
        · show Steps p.tables e below (TJ15.setTop (mkF m 83 #[.val (.int i0), .val (.int i1), .val (.int (i0 &&& (7 : Int32))), .val (.int (i1 &&& (7 : Int32))), .val (.ref b1), .val (.int (own_f4 (i1 &&& (7 : Int32)) (i0 &&& (7 : Int32)))), .val (.int (own_j0_45_S0 i0 i1)), .val (.int (own_j0_64_S0 i0 i1)), .unset, .unset] [(.int (own_j0_83_S0 i0 i1))])) _
          refine XS.istore XJ15.here hx rfl (hb hby at_83) rfl (l' := #[.val (.int i0), .val (.int i1), .val (.int (i0 &&& (7 : Int32))), .val (.int (i1 &&& (7 : Int32))), .val (.ref b1), .val (.int (own_f4 (i1 &&& (7 : Int32)) (i0 &&& (7 : Int32)))), .val (.int (own_j0_45_S0 i0 i1)), .val (.int (own_j0_64_S0 i0 i1)), .val (.int (own_j0_83_S0 i0 i1)), .unset]) rfl ?_
          exact kt
        have J20 : ∀ (TJ20 : State) (locsJ20 : List Loc), Stand p l e room_1 s m #[(.int i0), (.int i1)] below meth c TJ20 locsJ20 1 1 → TJ20.heap = T2.heap → Fr n0 locsJ20 → ownE p e below s (own_Q0 Z i0 i1 h0 n0) 1 1 TJ20 (mkF m 105 #[.val (.int i0), .val (.int i1), .val (.int (i0 &&& (7 : Int32))), .val (.int (i1 &&& (7 : Int32))), .val (.ref b1), .val (.int (own_f4 (i1 &&& (7 : Int32)) (i0 &&& (7 : Int32)))), .val (.int (own_j0_45_S0 i0 i1)), .val (.int (own_j0_64_S0 i0 i1)), .val (.int (own_j0_83_S0 i0 i1)), .unset] [(.int (own_j0_105_S0 i0 i1))]) := by
          intro TJ20 locsJ20 XJ20 eJ20 NJ20
          refine ownE.go (T' := TJ20) (f' := (mkF m 111 #[.val (.int i0), .val (.int i1), .val (.int (i0 &&& (7 : Int32))), .val (.int (i1 &&& (7 : Int32))), .val (.ref b1), .val (.int (own_f4 (i1 &&& (7 : Int32)) (i0 &&& (7 : Int32)))), .val (.int (own_j0_45_S0 i0 i1)), .val (.int (own_j0_64_S0 i0 i1)), .val (.int (own_j0_83_S0 i0 i1)), .val (.int (own_j0_105_S0 i0 i1))] [(.int (own_j0_105_S0 i0 i1)), (.int (own_f4 (i1 &&& (7 : Int32)) (i0 &&& (7 : Int32))))])) (fun t kt => ?_) ?_
          · show Steps p.tables e below (TJ20.setTop (mkF m 105 #[.val (.int i0), .val (.int i1), .val (.int (i0 &&& (7 : Int32))), .val (.int (i1 &&& (7 : Int32))), .val (.ref b1), .val (.int (own_f4 (i1 &&& (7 : Int32)) (i0 &&& (7 : Int32)))), .val (.int (own_j0_45_S0 i0 i1)), .val (.int (own_j0_64_S0 i0 i1)), .val (.int (own_j0_83_S0 i0 i1)), .unset] [(.int (own_j0_105_S0 i0 i1))])) _
            refine XS.istore XJ20.here hx rfl (hb hby at_105) rfl (l' := #[.val (.int i0), .val (.int i1), .val (.int (i0 &&& (7 : Int32))), .val (.int (i1 &&& (7 : Int32))), .val (.ref b1), .val (.int (own_f4 (i1 &&& (7 : Int32)) (i0 &&& (7 : Int32)))), .val (.int (own_j0_45_S0 i0 i1)), .val (.int (own_j0_64_S0 i0 i1)), .val (.int (own_j0_83_S0 i0 i1)), .val (.int (own_j0_105_S0 i0 i1))]) rfl ?_
            show Steps p.tables e below (TJ20.setTop (mkF m 107 #[.val (.int i0), .val (.int i1), .val (.int (i0 &&& (7 : Int32))), .val (.int (i1 &&& (7 : Int32))), .val (.ref b1), .val (.int (own_f4 (i1 &&& (7 : Int32)) (i0 &&& (7 : Int32)))), .val (.int (own_j0_45_S0 i0 i1)), .val (.int (own_j0_64_S0 i0 i1)), .val (.int (own_j0_83_S0 i0 i1)), .val (.int (own_j0_105_S0 i0 i1))] [])) _
            refine XS.iload XJ20.here hx rfl (hb hby at_107) rfl ?_
            show Steps p.tables e below (TJ20.setTop (mkF m 109 #[.val (.int i0), .val (.int i1), .val (.int (i0 &&& (7 : Int32))), .val (.int (i1 &&& (7 : Int32))), .val (.ref b1), .val (.int (own_f4 (i1 &&& (7 : Int32)) (i0 &&& (7 : Int32)))), .val (.int (own_j0_45_S0 i0 i1)), .val (.int (own_j0_64_S0 i0 i1)), .val (.int (own_j0_83_S0 i0 i1)), .val (.int (own_j0_105_S0 i0 i1))] [(.int (own_f4 (i1 &&& (7 : Int32)) (i0 &&& (7 : Int32))))])) _
            refine XS.iload XJ20.here hx rfl (hb hby at_109) rfl ?_
            exact kt
          by_cases hc21 : (own_f4 (i1 &&& (7 : Int32)) (i0 &&& (7 : Int32))) = (own_j0_105_S0 i0 i1)
          · -- pc 111
            refine ownE.go (T' := TJ20) (f' := (mkF m 114 #[.val (.int i0), .val (.int i1), .val (.int (i0 &&& (7 : Int32))), .val (.int (i1 &&& (7 : Int32))), .val (.ref b1), .val (.int (own_f4 (i1 &&& (7 : Int32)) (i0 &&& (7 : Int32)))), .val (.int (own_j0_45_S0 i0 i1)), .val (.int (own_j0_64_S0 i0 i1)), .val (.int (own_j0_83_S0 i0 i1)), .val (.int (own_j0_105_S0 i0 i1))] [])) (fun t kt => XS.icmpNo (g := (mkF m 111 #[.val (.int i0), .val (.int i1), .val (.int (i0 &&& (7 : Int32))), .val (.int (i1 &&& (7 : Int32))), .val (.ref b1), .val (.int (own_f4 (i1 &&& (7 : Int32)) (i0 &&& (7 : Int32)))), .val (.int (own_j0_45_S0 i0 i1)), .val (.int (own_j0_64_S0 i0 i1)), .val (.int (own_j0_83_S0 i0 i1)), .val (.int (own_j0_105_S0 i0 i1))] [(.int (own_j0_105_S0 i0 i1)), (.int (own_f4 (i1 &&& (7 : Int32)) (i0 &&& (7 : Int32))))])) XJ20.here hx rfl (hb hby at_111) rfl (Jvm.Free.XT.ii_ne_f hc21) kt) ?_
            refine ownE.go (T' := TJ20) (f' := (mkF m 119 #[.val (.int i0), .val (.int i1), .val (.int (i0 &&& (7 : Int32))), .val (.int (i1 &&& (7 : Int32))), .val (.ref b1), .val (.int (own_f4 (i1 &&& (7 : Int32)) (i0 &&& (7 : Int32)))), .val (.int (own_j0_45_S0 i0 i1)), .val (.int (own_j0_64_S0 i0 i1)), .val (.int (own_j0_83_S0 i0 i1)), .val (.int (own_j0_105_S0 i0 i1))] [(.int (1 : Int32))])) (fun t kt => ?_) ?_
            · show Steps p.tables e below (TJ20.setTop (mkF m 114 #[.val (.int i0), .val (.int i1), .val (.int (i0 &&& (7 : Int32))), .val (.int (i1 &&& (7 : Int32))), .val (.ref b1), .val (.int (own_f4 (i1 &&& (7 : Int32)) (i0 &&& (7 : Int32)))), .val (.int (own_j0_45_S0 i0 i1)), .val (.int (own_j0_64_S0 i0 i1)), .val (.int (own_j0_83_S0 i0 i1)), .val (.int (own_j0_105_S0 i0 i1))] [])) _
              refine XS.iconst XJ20.here hx rfl (hb hby at_114) ?_
              show Steps p.tables e below (TJ20.setTop (mkF m 115 #[.val (.int i0), .val (.int i1), .val (.int (i0 &&& (7 : Int32))), .val (.int (i1 &&& (7 : Int32))), .val (.ref b1), .val (.int (own_f4 (i1 &&& (7 : Int32)) (i0 &&& (7 : Int32)))), .val (.int (own_j0_45_S0 i0 i1)), .val (.int (own_j0_64_S0 i0 i1)), .val (.int (own_j0_83_S0 i0 i1)), .val (.int (own_j0_105_S0 i0 i1))] [(.int (1 : Int32))])) _
              refine XS.goto XJ20.here hx rfl (pc0 := 115) (pc' := 119) rfl (hb hby at_115) (by decide) (by decide) ?_
              exact kt
            refine ownE.retN XJ20 hx hlk (t := .boolean) hret (by simp) (hb hby at_119) ?_ (by decide) (by decide)
            show own_Q0 Z i0 i1 h0 n0 _ TJ20.heap _
            rw [eJ20]
            exact ⟨(by rw [own_f0, if_pos hc21] <;> first | rfl | decide), NJ20, K2⟩
          · -- pc 111
            refine ownE.go (T' := TJ20) (f' := (mkF m 118 #[.val (.int i0), .val (.int i1), .val (.int (i0 &&& (7 : Int32))), .val (.int (i1 &&& (7 : Int32))), .val (.ref b1), .val (.int (own_f4 (i1 &&& (7 : Int32)) (i0 &&& (7 : Int32)))), .val (.int (own_j0_45_S0 i0 i1)), .val (.int (own_j0_64_S0 i0 i1)), .val (.int (own_j0_83_S0 i0 i1)), .val (.int (own_j0_105_S0 i0 i1))] [])) (fun t kt => XS.icmpYes (g := (mkF m 111 #[.val (.int i0), .val (.int i1), .val (.int (i0 &&& (7 : Int32))), .val (.int (i1 &&& (7 : Int32))), .val (.ref b1), .val (.int (own_f4 (i1 &&& (7 : Int32)) (i0 &&& (7 : Int32)))), .val (.int (own_j0_45_S0 i0 i1)), .val (.int (own_j0_64_S0 i0 i1)), .val (.int (own_j0_83_S0 i0 i1)), .val (.int (own_j0_105_S0 i0 i1))] [(.int (own_j0_105_S0 i0 i1)), (.int (own_f4 (i1 &&& (7 : Int32)) (i0 &&& (7 : Int32))))])) XJ20.here hx rfl (pc0 := 111) (pc' := 118) rfl (hb hby at_111) rfl (Jvm.Free.XT.ii_ne_t hc21) (by decide) (by decide) kt) ?_
            refine ownE.go (T' := TJ20) (f' := (mkF m 119 #[.val (.int i0), .val (.int i1), .val (.int (i0 &&& (7 : Int32))), .val (.int (i1 &&& (7 : Int32))), .val (.ref b1), .val (.int (own_f4 (i1 &&& (7 : Int32)) (i0 &&& (7 : Int32)))), .val (.int (own_j0_45_S0 i0 i1)), .val (.int (own_j0_64_S0 i0 i1)), .val (.int (own_j0_83_S0 i0 i1)), .val (.int (own_j0_105_S0 i0 i1))] [(.int (0 : Int32))])) (fun t kt => ?_) ?_
            · show Steps p.tables e below (TJ20.setTop (mkF m 118 #[.val (.int i0), .val (.int i1), .val (.int (i0 &&& (7 : Int32))), .val (.int (i1 &&& (7 : Int32))), .val (.ref b1), .val (.int (own_f4 (i1 &&& (7 : Int32)) (i0 &&& (7 : Int32)))), .val (.int (own_j0_45_S0 i0 i1)), .val (.int (own_j0_64_S0 i0 i1)), .val (.int (own_j0_83_S0 i0 i1)), .val (.int (own_j0_105_S0 i0 i1))] [])) _
              refine XS.iconst XJ20.here hx rfl (hb hby at_118) ?_
              exact kt
            refine ownE.retN XJ20 hx hlk (t := .boolean) hret (by simp) (hb hby at_119) ?_ (by decide) (by decide)
            show own_Q0 Z i0 i1 h0 n0 _ TJ20.heap _
            rw [eJ20]
            exact ⟨(by rw [own_f0, if_neg hc21] <;> first | rfl | decide), NJ20, K2⟩
        refine ownE.go (T' := TJ15) (f' := (mkF m 87 #[.val (.int i0), .val (.int i1), .val (.int (i0 &&& (7 : Int32))), .val (.int (i1 &&& (7 : Int32))), .val (.ref b1), .val (.int (own_f4 (i1 &&& (7 : Int32)) (i0 &&& (7 : Int32)))), .val (.int (own_j0_45_S0 i0 i1)), .val (.int (own_j0_64_S0 i0 i1)), .val (.int (own_j0_83_S0 i0 i1)), .unset] [(.int (own_j0_45_S0 i0 i1))])) (fun t kt => ?_) ?_
        · show Steps p.tables e below (TJ15.setTop (mkF m 85 #[.val (.int i0), .val (.int i1), .val (.int (i0 &&& (7 : Int32))), .val (.int (i1 &&& (7 : Int32))), .val (.ref b1), .val (.int (own_f4 (i1 &&& (7 : Int32)) (i0 &&& (7 : Int32)))), .val (.int (own_j0_45_S0 i0 i1)), .val (.int (own_j0_64_S0 i0 i1)), .val (.int (own_j0_83_S0 i0 i1)), .unset] [])) _
          refine XS.iload XJ15.here hx rfl (hb hby at_85) rfl ?_
          exact kt
        by_cases hc17 : (own_j0_45_S0 i0 i1) = (0 : Int32)
        · -- pc 87
          refine ownE.go (T' := TJ15) (f' := (mkF m 104 #[.val (.int i0), .val (.int i1), .val (.int (i0 &&& (7 : Int32))), .val (.int (i1 &&& (7 : Int32))), .val (.ref b1), .val (.int (own_f4 (i1 &&& (7 : Int32)) (i0 &&& (7 : Int32)))), .val (.int (own_j0_45_S0 i0 i1)), .val (.int (own_j0_64_S0 i0 i1)), .val (.int (own_j0_83_S0 i0 i1)), .unset] [])) (fun t kt => XS.ifYes (g := (mkF m 87 #[.val (.int i0), .val (.int i1), .val (.int (i0 &&& (7 : Int32))), .val (.int (i1 &&& (7 : Int32))), .val (.ref b1), .val (.int (own_f4 (i1 &&& (7 : Int32)) (i0 &&& (7 : Int32)))), .val (.int (own_j0_45_S0 i0 i1)), .val (.int (own_j0_64_S0 i0 i1)), .val (.int (own_j0_83_S0 i0 i1)), .unset] [(.int (own_j0_45_S0 i0 i1))])) XJ15.here hx rfl (pc0 := 87) (pc' := 104) rfl (hb hby at_87) rfl (Jvm.Free.XT.i0_eq_t hc17) (by decide) (by decide) kt) ?_
          refine ownE.go (T' := TJ15) (f' := (mkF m 105 #[.val (.int i0), .val (.int i1), .val (.int (i0 &&& (7 : Int32))), .val (.int (i1 &&& (7 : Int32))), .val (.ref b1), .val (.int (own_f4 (i1 &&& (7 : Int32)) (i0 &&& (7 : Int32)))), .val (.int (own_j0_45_S0 i0 i1)), .val (.int (own_j0_64_S0 i0 i1)), .val (.int (own_j0_83_S0 i0 i1)), .unset] [(.int (0 : Int32))])) (fun t kt => ?_) ?_
          · show Steps p.tables e below (TJ15.setTop (mkF m 104 #[.val (.int i0), .val (.int i1), .val (.int (i0 &&& (7 : Int32))), .val (.int (i1 &&& (7 : Int32))), .val (.ref b1), .val (.int (own_f4 (i1 &&& (7 : Int32)) (i0 &&& (7 : Int32)))), .val (.int (own_j0_45_S0 i0 i1)), .val (.int (own_j0_64_S0 i0 i1)), .val (.int (own_j0_83_S0 i0 i1)), .unset] [])) _
            refine XS.iconst XJ15.here hx rfl (hb hby at_104) ?_
            exact kt
          have jj := J20 _ _ XJ15 eJ15 NJ15
          rw [show (own_j0_105_S0 i0 i1) = (0 : Int32) from by rw [own_j0_105_S0, if_pos hc17]] at jj
          exact jj
        · -- pc 87
          refine ownE.go (T' := TJ15) (f' := (mkF m 90 #[.val (.int i0), .val (.int i1), .val (.int (i0 &&& (7 : Int32))), .val (.int (i1 &&& (7 : Int32))), .val (.ref b1), .val (.int (own_f4 (i1 &&& (7 : Int32)) (i0 &&& (7 : Int32)))), .val (.int (own_j0_45_S0 i0 i1)), .val (.int (own_j0_64_S0 i0 i1)), .val (.int (own_j0_83_S0 i0 i1)), .unset] [])) (fun t kt => XS.ifNo (g := (mkF m 87 #[.val (.int i0), .val (.int i1), .val (.int (i0 &&& (7 : Int32))), .val (.int (i1 &&& (7 : Int32))), .val (.ref b1), .val (.int (own_f4 (i1 &&& (7 : Int32)) (i0 &&& (7 : Int32)))), .val (.int (own_j0_45_S0 i0 i1)), .val (.int (own_j0_64_S0 i0 i1)), .val (.int (own_j0_83_S0 i0 i1)), .unset] [(.int (own_j0_45_S0 i0 i1))])) XJ15.here hx rfl (hb hby at_87) rfl (Jvm.Free.XT.i0_eq_f hc17) kt) ?_
          refine ownE.go (T' := TJ15) (f' := (mkF m 92 #[.val (.int i0), .val (.int i1), .val (.int (i0 &&& (7 : Int32))), .val (.int (i1 &&& (7 : Int32))), .val (.ref b1), .val (.int (own_f4 (i1 &&& (7 : Int32)) (i0 &&& (7 : Int32)))), .val (.int (own_j0_45_S0 i0 i1)), .val (.int (own_j0_64_S0 i0 i1)), .val (.int (own_j0_83_S0 i0 i1)), .unset] [(.int (own_j0_64_S0 i0 i1))])) (fun t kt => ?_) ?_
          · show Steps p.tables e below (TJ15.setTop (mkF m 90 #[.val (.int i0), .val (.int i1), .val (.int (i0 &&& (7 : Int32))), .val (.int (i1 &&& (7 : Int32))), .val (.ref b1), .val (.int (own_f4 (i1 &&& (7 : Int32)) (i0 &&& (7 : Int32)))), .val (.int (own_j0_45_S0 i0 i1)), .val (.int (own_j0_64_S0 i0 i1)), .val (.int (own_j0_83_S0 i0 i1)), .unset] [])) _
            refine XS.iload XJ15.here hx rfl (hb hby at_90) rfl ?_
            exact kt
          by_cases hc18 : (own_j0_64_S0 i0 i1) = (0 : Int32)
          · -- pc 92
            refine ownE.go (T' := TJ15) (f' := (mkF m 104 #[.val (.int i0), .val (.int i1), .val (.int (i0 &&& (7 : Int32))), .val (.int (i1 &&& (7 : Int32))), .val (.ref b1), .val (.int (own_f4 (i1 &&& (7 : Int32)) (i0 &&& (7 : Int32)))), .val (.int (own_j0_45_S0 i0 i1)), .val (.int (own_j0_64_S0 i0 i1)), .val (.int (own_j0_83_S0 i0 i1)), .unset] [])) (fun t kt => XS.ifYes (g := (mkF m 92 #[.val (.int i0), .val (.int i1), .val (.int (i0 &&& (7 : Int32))), .val (.int (i1 &&& (7 : Int32))), .val (.ref b1), .val (.int (own_f4 (i1 &&& (7 : Int32)) (i0 &&& (7 : Int32)))), .val (.int (own_j0_45_S0 i0 i1)), .val (.int (own_j0_64_S0 i0 i1)), .val (.int (own_j0_83_S0 i0 i1)), .unset] [(.int (own_j0_64_S0 i0 i1))])) XJ15.here hx rfl (pc0 := 92) (pc' := 104) rfl (hb hby at_92) rfl (Jvm.Free.XT.i0_eq_t hc18) (by decide) (by decide) kt) ?_
            refine ownE.go (T' := TJ15) (f' := (mkF m 105 #[.val (.int i0), .val (.int i1), .val (.int (i0 &&& (7 : Int32))), .val (.int (i1 &&& (7 : Int32))), .val (.ref b1), .val (.int (own_f4 (i1 &&& (7 : Int32)) (i0 &&& (7 : Int32)))), .val (.int (own_j0_45_S0 i0 i1)), .val (.int (own_j0_64_S0 i0 i1)), .val (.int (own_j0_83_S0 i0 i1)), .unset] [(.int (0 : Int32))])) (fun t kt => ?_) ?_
            · show Steps p.tables e below (TJ15.setTop (mkF m 104 #[.val (.int i0), .val (.int i1), .val (.int (i0 &&& (7 : Int32))), .val (.int (i1 &&& (7 : Int32))), .val (.ref b1), .val (.int (own_f4 (i1 &&& (7 : Int32)) (i0 &&& (7 : Int32)))), .val (.int (own_j0_45_S0 i0 i1)), .val (.int (own_j0_64_S0 i0 i1)), .val (.int (own_j0_83_S0 i0 i1)), .unset] [])) _
              refine XS.iconst XJ15.here hx rfl (hb hby at_104) ?_
              exact kt
            have jj := J20 _ _ XJ15 eJ15 NJ15
            rw [show (own_j0_105_S0 i0 i1) = (0 : Int32) from by rw [own_j0_105_S0, if_neg hc17, if_pos hc18]] at jj
            exact jj
          · -- pc 92
            refine ownE.go (T' := TJ15) (f' := (mkF m 95 #[.val (.int i0), .val (.int i1), .val (.int (i0 &&& (7 : Int32))), .val (.int (i1 &&& (7 : Int32))), .val (.ref b1), .val (.int (own_f4 (i1 &&& (7 : Int32)) (i0 &&& (7 : Int32)))), .val (.int (own_j0_45_S0 i0 i1)), .val (.int (own_j0_64_S0 i0 i1)), .val (.int (own_j0_83_S0 i0 i1)), .unset] [])) (fun t kt => XS.ifNo (g := (mkF m 92 #[.val (.int i0), .val (.int i1), .val (.int (i0 &&& (7 : Int32))), .val (.int (i1 &&& (7 : Int32))), .val (.ref b1), .val (.int (own_f4 (i1 &&& (7 : Int32)) (i0 &&& (7 : Int32)))), .val (.int (own_j0_45_S0 i0 i1)), .val (.int (own_j0_64_S0 i0 i1)), .val (.int (own_j0_83_S0 i0 i1)), .unset] [(.int (own_j0_64_S0 i0 i1))])) XJ15.here hx rfl (hb hby at_92) rfl (Jvm.Free.XT.i0_eq_f hc18) kt) ?_
            refine ownE.go (T' := TJ15) (f' := (mkF m 97 #[.val (.int i0), .val (.int i1), .val (.int (i0 &&& (7 : Int32))), .val (.int (i1 &&& (7 : Int32))), .val (.ref b1), .val (.int (own_f4 (i1 &&& (7 : Int32)) (i0 &&& (7 : Int32)))), .val (.int (own_j0_45_S0 i0 i1)), .val (.int (own_j0_64_S0 i0 i1)), .val (.int (own_j0_83_S0 i0 i1)), .unset] [(.int (own_j0_83_S0 i0 i1))])) (fun t kt => ?_) ?_
            · show Steps p.tables e below (TJ15.setTop (mkF m 95 #[.val (.int i0), .val (.int i1), .val (.int (i0 &&& (7 : Int32))), .val (.int (i1 &&& (7 : Int32))), .val (.ref b1), .val (.int (own_f4 (i1 &&& (7 : Int32)) (i0 &&& (7 : Int32)))), .val (.int (own_j0_45_S0 i0 i1)), .val (.int (own_j0_64_S0 i0 i1)), .val (.int (own_j0_83_S0 i0 i1)), .unset] [])) _
              refine XS.iload XJ15.here hx rfl (hb hby at_95) rfl ?_
              exact kt
            by_cases hc19 : (own_j0_83_S0 i0 i1) = (0 : Int32)
            · -- pc 97
              refine ownE.go (T' := TJ15) (f' := (mkF m 104 #[.val (.int i0), .val (.int i1), .val (.int (i0 &&& (7 : Int32))), .val (.int (i1 &&& (7 : Int32))), .val (.ref b1), .val (.int (own_f4 (i1 &&& (7 : Int32)) (i0 &&& (7 : Int32)))), .val (.int (own_j0_45_S0 i0 i1)), .val (.int (own_j0_64_S0 i0 i1)), .val (.int (own_j0_83_S0 i0 i1)), .unset] [])) (fun t kt => XS.ifYes (g := (mkF m 97 #[.val (.int i0), .val (.int i1), .val (.int (i0 &&& (7 : Int32))), .val (.int (i1 &&& (7 : Int32))), .val (.ref b1), .val (.int (own_f4 (i1 &&& (7 : Int32)) (i0 &&& (7 : Int32)))), .val (.int (own_j0_45_S0 i0 i1)), .val (.int (own_j0_64_S0 i0 i1)), .val (.int (own_j0_83_S0 i0 i1)), .unset] [(.int (own_j0_83_S0 i0 i1))])) XJ15.here hx rfl (pc0 := 97) (pc' := 104) rfl (hb hby at_97) rfl (Jvm.Free.XT.i0_eq_t hc19) (by decide) (by decide) kt) ?_
              refine ownE.go (T' := TJ15) (f' := (mkF m 105 #[.val (.int i0), .val (.int i1), .val (.int (i0 &&& (7 : Int32))), .val (.int (i1 &&& (7 : Int32))), .val (.ref b1), .val (.int (own_f4 (i1 &&& (7 : Int32)) (i0 &&& (7 : Int32)))), .val (.int (own_j0_45_S0 i0 i1)), .val (.int (own_j0_64_S0 i0 i1)), .val (.int (own_j0_83_S0 i0 i1)), .unset] [(.int (0 : Int32))])) (fun t kt => ?_) ?_
              · show Steps p.tables e below (TJ15.setTop (mkF m 104 #[.val (.int i0), .val (.int i1), .val (.int (i0 &&& (7 : Int32))), .val (.int (i1 &&& (7 : Int32))), .val (.ref b1), .val (.int (own_f4 (i1 &&& (7 : Int32)) (i0 &&& (7 : Int32)))), .val (.int (own_j0_45_S0 i0 i1)), .val (.int (own_j0_64_S0 i0 i1)), .val (.int (own_j0_83_S0 i0 i1)), .unset] [])) _
                refine XS.iconst XJ15.here hx rfl (hb hby at_104) ?_
                exact kt
              have jj := J20 _ _ XJ15 eJ15 NJ15
              rw [show (own_j0_105_S0 i0 i1) = (0 : Int32) from by rw [own_j0_105_S0, if_neg hc17, if_neg hc18, if_pos hc19]] at jj
              exact jj
            · -- pc 97
              refine ownE.go (T' := TJ15) (f' := (mkF m 100 #[.val (.int i0), .val (.int i1), .val (.int (i0 &&& (7 : Int32))), .val (.int (i1 &&& (7 : Int32))), .val (.ref b1), .val (.int (own_f4 (i1 &&& (7 : Int32)) (i0 &&& (7 : Int32)))), .val (.int (own_j0_45_S0 i0 i1)), .val (.int (own_j0_64_S0 i0 i1)), .val (.int (own_j0_83_S0 i0 i1)), .unset] [])) (fun t kt => XS.ifNo (g := (mkF m 97 #[.val (.int i0), .val (.int i1), .val (.int (i0 &&& (7 : Int32))), .val (.int (i1 &&& (7 : Int32))), .val (.ref b1), .val (.int (own_f4 (i1 &&& (7 : Int32)) (i0 &&& (7 : Int32)))), .val (.int (own_j0_45_S0 i0 i1)), .val (.int (own_j0_64_S0 i0 i1)), .val (.int (own_j0_83_S0 i0 i1)), .unset] [(.int (own_j0_83_S0 i0 i1))])) XJ15.here hx rfl (hb hby at_97) rfl (Jvm.Free.XT.i0_eq_f hc19) kt) ?_
              refine ownE.go (T' := TJ15) (f' := (mkF m 105 #[.val (.int i0), .val (.int i1), .val (.int (i0 &&& (7 : Int32))), .val (.int (i1 &&& (7 : Int32))), .val (.ref b1), .val (.int (own_f4 (i1 &&& (7 : Int32)) (i0 &&& (7 : Int32)))), .val (.int (own_j0_45_S0 i0 i1)), .val (.int (own_j0_64_S0 i0 i1)), .val (.int (own_j0_83_S0 i0 i1)), .unset] [(.int (1 : Int32))])) (fun t kt => ?_) ?_
              · show Steps p.tables e below (TJ15.setTop (mkF m 100 #[.val (.int i0), .val (.int i1), .val (.int (i0 &&& (7 : Int32))), .val (.int (i1 &&& (7 : Int32))), .val (.ref b1), .val (.int (own_f4 (i1 &&& (7 : Int32)) (i0 &&& (7 : Int32)))), .val (.int (own_j0_45_S0 i0 i1)), .val (.int (own_j0_64_S0 i0 i1)), .val (.int (own_j0_83_S0 i0 i1)), .unset] [])) _
                refine XS.iconst XJ15.here hx rfl (hb hby at_100) ?_
                show Steps p.tables e below (TJ15.setTop (mkF m 101 #[.val (.int i0), .val (.int i1), .val (.int (i0 &&& (7 : Int32))), .val (.int (i1 &&& (7 : Int32))), .val (.ref b1), .val (.int (own_f4 (i1 &&& (7 : Int32)) (i0 &&& (7 : Int32)))), .val (.int (own_j0_45_S0 i0 i1)), .val (.int (own_j0_64_S0 i0 i1)), .val (.int (own_j0_83_S0 i0 i1)), .unset] [(.int (1 : Int32))])) _
                refine XS.goto XJ15.here hx rfl (pc0 := 101) (pc' := 105) rfl (hb hby at_101) (by decide) (by decide) ?_
                exact kt
              have jj := J20 _ _ XJ15 eJ15 NJ15
              rw [show (own_j0_105_S0 i0 i1) = (1 : Int32) from by rw [own_j0_105_S0, if_neg hc17, if_neg hc18, if_neg hc19]] at jj
              exact jj
      refine ownE.go (T' := TJ11) (f' := (mkF m 69 #[.val (.int i0), .val (.int i1), .val (.int (i0 &&& (7 : Int32))), .val (.int (i1 &&& (7 : Int32))), .val (.ref b1), .val (.int (own_f4 (i1 &&& (7 : Int32)) (i0 &&& (7 : Int32)))), .val (.int (own_j0_45_S0 i0 i1)), .val (.int (own_j0_64_S0 i0 i1)), .unset, .unset] [(.int ((i0 &&& (7 : Int32)) &&& (1 : Int32)))])) (fun t kt => ?_) ?_
      · show Steps p.tables e below (TJ11.setTop (mkF m 66 #[.val (.int i0), .val (.int i1), .val (.int (i0 &&& (7 : Int32))), .val (.int (i1 &&& (7 : Int32))), .val (.ref b1), .val (.int (own_f4 (i1 &&& (7 : Int32)) (i0 &&& (7 : Int32)))), .val (.int (own_j0_45_S0 i0 i1)), .val (.int (own_j0_64_S0 i0 i1)), .unset, .unset] [])) _
        refine XS.iloadN XJ11.here hx rfl (hb hby at_66) rfl ?_
        show Steps p.tables e below (TJ11.setTop (mkF m 67 #[.val (.int i0), .val (.int i1), .val (.int (i0 &&& (7 : Int32))), .val (.int (i1 &&& (7 : Int32))), .val (.ref b1), .val (.int (own_f4 (i1 &&& (7 : Int32)) (i0 &&& (7 : Int32)))), .val (.int (own_j0_45_S0 i0 i1)), .val (.int (own_j0_64_S0 i0 i1)), .unset, .unset] [(.int (i0 &&& (7 : Int32)))])) _
        refine XS.iconst XJ11.here hx rfl (hb hby at_67) ?_
        show Steps p.tables e below (TJ11.setTop (mkF m 68 #[.val (.int i0), .val (.int i1), .val (.int (i0 &&& (7 : Int32))), .val (.int (i1 &&& (7 : Int32))), .val (.ref b1), .val (.int (own_f4 (i1 &&& (7 : Int32)) (i0 &&& (7 : Int32)))), .val (.int (own_j0_45_S0 i0 i1)), .val (.int (own_j0_64_S0 i0 i1)), .unset, .unset] [(.int (1 : Int32)), (.int (i0 &&& (7 : Int32)))])) _
        refine XS.iand XJ11.here hx rfl (hb hby at_68) rfl ?_
        exact kt
      by_cases hc13 : ((i0 &&& (7 : Int32)) &&& (1 : Int32)) = (0 : Int32)
      · -- pc 69
        refine ownE.go (T' := TJ11) (f' := (mkF m 78 #[.val (.int i0), .val (.int i1), .val (.int (i0 &&& (7 : Int32))), .val (.int (i1 &&& (7 : Int32))), .val (.ref b1), .val (.int (own_f4 (i1 &&& (7 : Int32)) (i0 &&& (7 : Int32)))), .val (.int (own_j0_45_S0 i0 i1)), .val (.int (own_j0_64_S0 i0 i1)), .unset, .unset] [])) (fun t kt => XS.ifYes (g := (mkF m 69 #[.val (.int i0), .val (.int i1), .val (.int (i0 &&& (7 : Int32))), .val (.int (i1 &&& (7 : Int32))), .val (.ref b1), .val (.int (own_f4 (i1 &&& (7 : Int32)) (i0 &&& (7 : Int32)))), .val (.int (own_j0_45_S0 i0 i1)), .val (.int (own_j0_64_S0 i0 i1)), .unset, .unset] [(.int ((i0 &&& (7 : Int32)) &&& (1 : Int32)))])) XJ11.here hx rfl (pc0 := 69) (pc' := 78) rfl (hb hby at_69) rfl (Jvm.Free.XT.i0_eq_t hc13) (by decide) (by decide) kt) ?_
        refine ownE.go (T' := TJ11) (f' := (mkF m 83 #[.val (.int i0), .val (.int i1), .val (.int (i0 &&& (7 : Int32))), .val (.int (i1 &&& (7 : Int32))), .val (.ref b1), .val (.int (own_f4 (i1 &&& (7 : Int32)) (i0 &&& (7 : Int32)))), .val (.int (own_j0_45_S0 i0 i1)), .val (.int (own_j0_64_S0 i0 i1)), .unset, .unset] [(.int (1 : Int32))])) (fun t kt => ?_) ?_
        · show Steps p.tables e below (TJ11.setTop (mkF m 78 #[.val (.int i0), .val (.int i1), .val (.int (i0 &&& (7 : Int32))), .val (.int (i1 &&& (7 : Int32))), .val (.ref b1), .val (.int (own_f4 (i1 &&& (7 : Int32)) (i0 &&& (7 : Int32)))), .val (.int (own_j0_45_S0 i0 i1)), .val (.int (own_j0_64_S0 i0 i1)), .unset, .unset] [])) _
          refine XS.iconst XJ11.here hx rfl (hb hby at_78) ?_
          show Steps p.tables e below (TJ11.setTop (mkF m 79 #[.val (.int i0), .val (.int i1), .val (.int (i0 &&& (7 : Int32))), .val (.int (i1 &&& (7 : Int32))), .val (.ref b1), .val (.int (own_f4 (i1 &&& (7 : Int32)) (i0 &&& (7 : Int32)))), .val (.int (own_j0_45_S0 i0 i1)), .val (.int (own_j0_64_S0 i0 i1)), .unset, .unset] [(.int (1 : Int32))])) _
          refine XS.goto XJ11.here hx rfl (pc0 := 79) (pc' := 83) rfl (hb hby at_79) (by decide) (by decide) ?_
          exact kt
        have jj := J15 _ _ XJ11 eJ11 NJ11
        rw [show (own_j0_83_S0 i0 i1) = (1 : Int32) from by rw [own_j0_83_S0, if_pos hc13]] at jj
        exact jj
      · -- pc 69
        refine ownE.go (T' := TJ11) (f' := (mkF m 72 #[.val (.int i0), .val (.int i1), .val (.int (i0 &&& (7 : Int32))), .val (.int (i1 &&& (7 : Int32))), .val (.ref b1), .val (.int (own_f4 (i1 &&& (7 : Int32)) (i0 &&& (7 : Int32)))), .val (.int (own_j0_45_S0 i0 i1)), .val (.int (own_j0_64_S0 i0 i1)), .unset, .unset] [])) (fun t kt => XS.ifNo (g := (mkF m 69 #[.val (.int i0), .val (.int i1), .val (.int (i0 &&& (7 : Int32))), .val (.int (i1 &&& (7 : Int32))), .val (.ref b1), .val (.int (own_f4 (i1 &&& (7 : Int32)) (i0 &&& (7 : Int32)))), .val (.int (own_j0_45_S0 i0 i1)), .val (.int (own_j0_64_S0 i0 i1)), .unset, .unset] [(.int ((i0 &&& (7 : Int32)) &&& (1 : Int32)))])) XJ11.here hx rfl (hb hby at_69) rfl (Jvm.Free.XT.i0_eq_f hc13) kt) ?_
        refine ownE.go (T' := TJ11) (f' := (mkF m 75 #[.val (.int i0), .val (.int i1), .val (.int (i0 &&& (7 : Int32))), .val (.int (i1 &&& (7 : Int32))), .val (.ref b1), .val (.int (own_f4 (i1 &&& (7 : Int32)) (i0 &&& (7 : Int32)))), .val (.int (own_j0_45_S0 i0 i1)), .val (.int (own_j0_64_S0 i0 i1)), .unset, .unset] [(.int ((i1 &&& (7 : Int32)) &&& (1 : Int32)))])) (fun t kt => ?_) ?_
        · show Steps p.tables e below (TJ11.setTop (mkF m 72 #[.val (.int i0), .val (.int i1), .val (.int (i0 &&& (7 : Int32))), .val (.int (i1 &&& (7 : Int32))), .val (.ref b1), .val (.int (own_f4 (i1 &&& (7 : Int32)) (i0 &&& (7 : Int32)))), .val (.int (own_j0_45_S0 i0 i1)), .val (.int (own_j0_64_S0 i0 i1)), .unset, .unset] [])) _
          refine XS.iloadN XJ11.here hx rfl (hb hby at_72) rfl ?_
          show Steps p.tables e below (TJ11.setTop (mkF m 73 #[.val (.int i0), .val (.int i1), .val (.int (i0 &&& (7 : Int32))), .val (.int (i1 &&& (7 : Int32))), .val (.ref b1), .val (.int (own_f4 (i1 &&& (7 : Int32)) (i0 &&& (7 : Int32)))), .val (.int (own_j0_45_S0 i0 i1)), .val (.int (own_j0_64_S0 i0 i1)), .unset, .unset] [(.int (i1 &&& (7 : Int32)))])) _
          refine XS.iconst XJ11.here hx rfl (hb hby at_73) ?_
          show Steps p.tables e below (TJ11.setTop (mkF m 74 #[.val (.int i0), .val (.int i1), .val (.int (i0 &&& (7 : Int32))), .val (.int (i1 &&& (7 : Int32))), .val (.ref b1), .val (.int (own_f4 (i1 &&& (7 : Int32)) (i0 &&& (7 : Int32)))), .val (.int (own_j0_45_S0 i0 i1)), .val (.int (own_j0_64_S0 i0 i1)), .unset, .unset] [(.int (1 : Int32)), (.int (i1 &&& (7 : Int32)))])) _
          refine XS.iand XJ11.here hx rfl (hb hby at_74) rfl ?_
          exact kt
        by_cases hc14 : ((i1 &&& (7 : Int32)) &&& (1 : Int32)) = (0 : Int32)
        · -- pc 75
          refine ownE.go (T' := TJ11) (f' := (mkF m 82 #[.val (.int i0), .val (.int i1), .val (.int (i0 &&& (7 : Int32))), .val (.int (i1 &&& (7 : Int32))), .val (.ref b1), .val (.int (own_f4 (i1 &&& (7 : Int32)) (i0 &&& (7 : Int32)))), .val (.int (own_j0_45_S0 i0 i1)), .val (.int (own_j0_64_S0 i0 i1)), .unset, .unset] [])) (fun t kt => XS.ifYes (g := (mkF m 75 #[.val (.int i0), .val (.int i1), .val (.int (i0 &&& (7 : Int32))), .val (.int (i1 &&& (7 : Int32))), .val (.ref b1), .val (.int (own_f4 (i1 &&& (7 : Int32)) (i0 &&& (7 : Int32)))), .val (.int (own_j0_45_S0 i0 i1)), .val (.int (own_j0_64_S0 i0 i1)), .unset, .unset] [(.int ((i1 &&& (7 : Int32)) &&& (1 : Int32)))])) XJ11.here hx rfl (pc0 := 75) (pc' := 82) rfl (hb hby at_75) rfl (Jvm.Free.XT.i0_eq_t hc14) (by decide) (by decide) kt) ?_
          refine ownE.go (T' := TJ11) (f' := (mkF m 83 #[.val (.int i0), .val (.int i1), .val (.int (i0 &&& (7 : Int32))), .val (.int (i1 &&& (7 : Int32))), .val (.ref b1), .val (.int (own_f4 (i1 &&& (7 : Int32)) (i0 &&& (7 : Int32)))), .val (.int (own_j0_45_S0 i0 i1)), .val (.int (own_j0_64_S0 i0 i1)), .unset, .unset] [(.int (0 : Int32))])) (fun t kt => ?_) ?_
          · show Steps p.tables e below (TJ11.setTop (mkF m 82 #[.val (.int i0), .val (.int i1), .val (.int (i0 &&& (7 : Int32))), .val (.int (i1 &&& (7 : Int32))), .val (.ref b1), .val (.int (own_f4 (i1 &&& (7 : Int32)) (i0 &&& (7 : Int32)))), .val (.int (own_j0_45_S0 i0 i1)), .val (.int (own_j0_64_S0 i0 i1)), .unset, .unset] [])) _
            refine XS.iconst XJ11.here hx rfl (hb hby at_82) ?_
            exact kt
          have jj := J15 _ _ XJ11 eJ11 NJ11
          rw [show (own_j0_83_S0 i0 i1) = (0 : Int32) from by rw [own_j0_83_S0, if_neg hc13, if_pos hc14]] at jj
          exact jj
        · -- pc 75
          refine ownE.go (T' := TJ11) (f' := (mkF m 78 #[.val (.int i0), .val (.int i1), .val (.int (i0 &&& (7 : Int32))), .val (.int (i1 &&& (7 : Int32))), .val (.ref b1), .val (.int (own_f4 (i1 &&& (7 : Int32)) (i0 &&& (7 : Int32)))), .val (.int (own_j0_45_S0 i0 i1)), .val (.int (own_j0_64_S0 i0 i1)), .unset, .unset] [])) (fun t kt => XS.ifNo (g := (mkF m 75 #[.val (.int i0), .val (.int i1), .val (.int (i0 &&& (7 : Int32))), .val (.int (i1 &&& (7 : Int32))), .val (.ref b1), .val (.int (own_f4 (i1 &&& (7 : Int32)) (i0 &&& (7 : Int32)))), .val (.int (own_j0_45_S0 i0 i1)), .val (.int (own_j0_64_S0 i0 i1)), .unset, .unset] [(.int ((i1 &&& (7 : Int32)) &&& (1 : Int32)))])) XJ11.here hx rfl (hb hby at_75) rfl (Jvm.Free.XT.i0_eq_f hc14) kt) ?_
          refine ownE.go (T' := TJ11) (f' := (mkF m 83 #[.val (.int i0), .val (.int i1), .val (.int (i0 &&& (7 : Int32))), .val (.int (i1 &&& (7 : Int32))), .val (.ref b1), .val (.int (own_f4 (i1 &&& (7 : Int32)) (i0 &&& (7 : Int32)))), .val (.int (own_j0_45_S0 i0 i1)), .val (.int (own_j0_64_S0 i0 i1)), .unset, .unset] [(.int (1 : Int32))])) (fun t kt => ?_) ?_
          · show Steps p.tables e below (TJ11.setTop (mkF m 78 #[.val (.int i0), .val (.int i1), .val (.int (i0 &&& (7 : Int32))), .val (.int (i1 &&& (7 : Int32))), .val (.ref b1), .val (.int (own_f4 (i1 &&& (7 : Int32)) (i0 &&& (7 : Int32)))), .val (.int (own_j0_45_S0 i0 i1)), .val (.int (own_j0_64_S0 i0 i1)), .unset, .unset] [])) _
            refine XS.iconst XJ11.here hx rfl (hb hby at_78) ?_
            show Steps p.tables e below (TJ11.setTop (mkF m 79 #[.val (.int i0), .val (.int i1), .val (.int (i0 &&& (7 : Int32))), .val (.int (i1 &&& (7 : Int32))), .val (.ref b1), .val (.int (own_f4 (i1 &&& (7 : Int32)) (i0 &&& (7 : Int32)))), .val (.int (own_j0_45_S0 i0 i1)), .val (.int (own_j0_64_S0 i0 i1)), .unset, .unset] [(.int (1 : Int32))])) _
            refine XS.goto XJ11.here hx rfl (pc0 := 79) (pc' := 83) rfl (hb hby at_79) (by decide) (by decide) ?_
            exact kt
          have jj := J15 _ _ XJ11 eJ11 NJ11
          rw [show (own_j0_83_S0 i0 i1) = (1 : Int32) from by rw [own_j0_83_S0, if_neg hc13, if_neg hc14]] at jj
          exact jj
    refine ownE.go (T' := TJ7) (f' := (mkF m 50 #[.val (.int i0), .val (.int i1), .val (.int (i0 &&& (7 : Int32))), .val (.int (i1 &&& (7 : Int32))), .val (.ref b1), .val (.int (own_f4 (i1 &&& (7 : Int32)) (i0 &&& (7 : Int32)))), .val (.int (own_j0_45_S0 i0 i1)), .unset, .unset, .unset] [(.int ((i0 &&& (7 : Int32)) &&& (2 : Int32)))])) (fun t kt => ?_) ?_
    · show Steps p.tables e below (TJ7.setTop (mkF m 47 #[.val (.int i0), .val (.int i1), .val (.int (i0 &&& (7 : Int32))), .val (.int (i1 &&& (7 : Int32))), .val (.ref b1), .val (.int (own_f4 (i1 &&& (7 : Int32)) (i0 &&& (7 : Int32)))), .val (.int (own_j0_45_S0 i0 i1)), .unset, .unset, .unset] [])) _
      refine XS.iloadN XJ7.here hx rfl (hb hby at_47) rfl ?_
      show Steps p.tables e below (TJ7.setTop (mkF m 48 #[.val (.int i0), .val (.int i1), .val (.int (i0 &&& (7 : Int32))), .val (.int (i1 &&& (7 : Int32))), .val (.ref b1), .val (.int (own_f4 (i1 &&& (7 : Int32)) (i0 &&& (7 : Int32)))), .val (.int (own_j0_45_S0 i0 i1)), .unset, .unset, .unset] [(.int (i0 &&& (7 : Int32)))])) _
      refine XS.iconst XJ7.here hx rfl (hb hby at_48) ?_
      show Steps p.tables e below (TJ7.setTop (mkF m 49 #[.val (.int i0), .val (.int i1), .val (.int (i0 &&& (7 : Int32))), .val (.int (i1 &&& (7 : Int32))), .val (.ref b1), .val (.int (own_f4 (i1 &&& (7 : Int32)) (i0 &&& (7 : Int32)))), .val (.int (own_j0_45_S0 i0 i1)), .unset, .unset, .unset] [(.int (2 : Int32)), (.int (i0 &&& (7 : Int32)))])) _
      refine XS.iand XJ7.here hx rfl (hb hby at_49) rfl ?_
      exact kt
    by_cases hc9 : ((i0 &&& (7 : Int32)) &&& (2 : Int32)) = (0 : Int32)
    · -- pc 50
      refine ownE.go (T' := TJ7) (f' := (mkF m 59 #[.val (.int i0), .val (.int i1), .val (.int (i0 &&& (7 : Int32))), .val (.int (i1 &&& (7 : Int32))), .val (.ref b1), .val (.int (own_f4 (i1 &&& (7 : Int32)) (i0 &&& (7 : Int32)))), .val (.int (own_j0_45_S0 i0 i1)), .unset, .unset, .unset] [])) (fun t kt => XS.ifYes (g := (mkF m 50 #[.val (.int i0), .val (.int i1), .val (.int (i0 &&& (7 : Int32))), .val (.int (i1 &&& (7 : Int32))), .val (.ref b1), .val (.int (own_f4 (i1 &&& (7 : Int32)) (i0 &&& (7 : Int32)))), .val (.int (own_j0_45_S0 i0 i1)), .unset, .unset, .unset] [(.int ((i0 &&& (7 : Int32)) &&& (2 : Int32)))])) XJ7.here hx rfl (pc0 := 50) (pc' := 59) rfl (hb hby at_50) rfl (Jvm.Free.XT.i0_eq_t hc9) (by decide) (by decide) kt) ?_
      refine ownE.go (T' := TJ7) (f' := (mkF m 64 #[.val (.int i0), .val (.int i1), .val (.int (i0 &&& (7 : Int32))), .val (.int (i1 &&& (7 : Int32))), .val (.ref b1), .val (.int (own_f4 (i1 &&& (7 : Int32)) (i0 &&& (7 : Int32)))), .val (.int (own_j0_45_S0 i0 i1)), .unset, .unset, .unset] [(.int (1 : Int32))])) (fun t kt => ?_) ?_
      · show Steps p.tables e below (TJ7.setTop (mkF m 59 #[.val (.int i0), .val (.int i1), .val (.int (i0 &&& (7 : Int32))), .val (.int (i1 &&& (7 : Int32))), .val (.ref b1), .val (.int (own_f4 (i1 &&& (7 : Int32)) (i0 &&& (7 : Int32)))), .val (.int (own_j0_45_S0 i0 i1)), .unset, .unset, .unset] [])) _
        refine XS.iconst XJ7.here hx rfl (hb hby at_59) ?_
        show Steps p.tables e below (TJ7.setTop (mkF m 60 #[.val (.int i0), .val (.int i1), .val (.int (i0 &&& (7 : Int32))), .val (.int (i1 &&& (7 : Int32))), .val (.ref b1), .val (.int (own_f4 (i1 &&& (7 : Int32)) (i0 &&& (7 : Int32)))), .val (.int (own_j0_45_S0 i0 i1)), .unset, .unset, .unset] [(.int (1 : Int32))])) _
        refine XS.goto XJ7.here hx rfl (pc0 := 60) (pc' := 64) rfl (hb hby at_60) (by decide) (by decide) ?_
        exact kt
      have jj := J11 _ _ XJ7 eJ7 NJ7
      rw [show (own_j0_64_S0 i0 i1) = (1 : Int32) from by rw [own_j0_64_S0, if_pos hc9]] at jj
      exact jj
    · -- pc 50
      refine ownE.go (T' := TJ7) (f' := (mkF m 53 #[.val (.int i0), .val (.int i1), .val (.int (i0 &&& (7 : Int32))), .val (.int (i1 &&& (7 : Int32))), .val (.ref b1), .val (.int (own_f4 (i1 &&& (7 : Int32)) (i0 &&& (7 : Int32)))), .val (.int (own_j0_45_S0 i0 i1)), .unset, .unset, .unset] [])) (fun t kt => XS.ifNo (g := (mkF m 50 #[.val (.int i0), .val (.int i1), .val (.int (i0 &&& (7 : Int32))), .val (.int (i1 &&& (7 : Int32))), .val (.ref b1), .val (.int (own_f4 (i1 &&& (7 : Int32)) (i0 &&& (7 : Int32)))), .val (.int (own_j0_45_S0 i0 i1)), .unset, .unset, .unset] [(.int ((i0 &&& (7 : Int32)) &&& (2 : Int32)))])) XJ7.here hx rfl (hb hby at_50) rfl (Jvm.Free.XT.i0_eq_f hc9) kt) ?_
      refine ownE.go (T' := TJ7) (f' := (mkF m 56 #[.val (.int i0), .val (.int i1), .val (.int (i0 &&& (7 : Int32))), .val (.int (i1 &&& (7 : Int32))), .val (.ref b1), .val (.int (own_f4 (i1 &&& (7 : Int32)) (i0 &&& (7 : Int32)))), .val (.int (own_j0_45_S0 i0 i1)), .unset, .unset, .unset] [(.int ((i1 &&& (7 : Int32)) &&& (2 : Int32)))])) (fun t kt => ?_) ?_
      · show Steps p.tables e below (TJ7.setTop (mkF m 53 #[.val (.int i0), .val (.int i1), .val (.int (i0 &&& (7 : Int32))), .val (.int (i1 &&& (7 : Int32))), .val (.ref b1), .val (.int (own_f4 (i1 &&& (7 : Int32)) (i0 &&& (7 : Int32)))), .val (.int (own_j0_45_S0 i0 i1)), .unset, .unset, .unset] [])) _
        refine XS.iloadN XJ7.here hx rfl (hb hby at_53) rfl ?_
        show Steps p.tables e below (TJ7.setTop (mkF m 54 #[.val (.int i0), .val (.int i1), .val (.int (i0 &&& (7 : Int32))), .val (.int (i1 &&& (7 : Int32))), .val (.ref b1), .val (.int (own_f4 (i1 &&& (7 : Int32)) (i0 &&& (7 : Int32)))), .val (.int (own_j0_45_S0 i0 i1)), .unset, .unset, .unset] [(.int (i1 &&& (7 : Int32)))])) _
        refine XS.iconst XJ7.here hx rfl (hb hby at_54) ?_
        show Steps p.tables e below (TJ7.setTop (mkF m 55 #[.val (.int i0), .val (.int i1), .val (.int (i0 &&& (7 : Int32))), .val (.int (i1 &&& (7 : Int32))), .val (.ref b1), .val (.int (own_f4 (i1 &&& (7 : Int32)) (i0 &&& (7 : Int32)))), .val (.int (own_j0_45_S0 i0 i1)), .unset, .unset, .unset] [(.int (2 : Int32)), (.int (i1 &&& (7 : Int32)))])) _
        refine XS.iand XJ7.here hx rfl (hb hby at_55) rfl ?_
        exact kt
      by_cases hc10 : ((i1 &&& (7 : Int32)) &&& (2 : Int32)) = (0 : Int32)
      · -- pc 56
        refine ownE.go (T' := TJ7) (f' := (mkF m 63 #[.val (.int i0), .val (.int i1), .val (.int (i0 &&& (7 : Int32))), .val (.int (i1 &&& (7 : Int32))), .val (.ref b1), .val (.int (own_f4 (i1 &&& (7 : Int32)) (i0 &&& (7 : Int32)))), .val (.int (own_j0_45_S0 i0 i1)), .unset, .unset, .unset] [])) (fun t kt => XS.ifYes (g := (mkF m 56 #[.val (.int i0), .val (.int i1), .val (.int (i0 &&& (7 : Int32))), .val (.int (i1 &&& (7 : Int32))), .val (.ref b1), .val (.int (own_f4 (i1 &&& (7 : Int32)) (i0 &&& (7 : Int32)))), .val (.int (own_j0_45_S0 i0 i1)), .unset, .unset, .unset] [(.int ((i1 &&& (7 : Int32)) &&& (2 : Int32)))])) XJ7.here hx rfl (pc0 := 56) (pc' := 63) rfl (hb hby at_56) rfl (Jvm.Free.XT.i0_eq_t hc10) (by decide) (by decide) kt) ?_
        refine ownE.go (T' := TJ7) (f' := (mkF m 64 #[.val (.int i0), .val (.int i1), .val (.int (i0 &&& (7 : Int32))), .val (.int (i1 &&& (7 : Int32))), .val (.ref b1), .val (.int (own_f4 (i1 &&& (7 : Int32)) (i0 &&& (7 : Int32)))), .val (.int (own_j0_45_S0 i0 i1)), .unset, .unset, .unset] [(.int (0 : Int32))])) (fun t kt => ?_) ?_
        · show Steps p.tables e below (TJ7.setTop (mkF m 63 #[.val (.int i0), .val (.int i1), .val (.int (i0 &&& (7 : Int32))), .val (.int (i1 &&& (7 : Int32))), .val (.ref b1), .val (.int (own_f4 (i1 &&& (7 : Int32)) (i0 &&& (7 : Int32)))), .val (.int (own_j0_45_S0 i0 i1)), .unset, .unset, .unset] [])) _
          refine XS.iconst XJ7.here hx rfl (hb hby at_63) ?_
          exact kt
        have jj := J11 _ _ XJ7 eJ7 NJ7
        rw [show (own_j0_64_S0 i0 i1) = (0 : Int32) from by rw [own_j0_64_S0, if_neg hc9, if_pos hc10]] at jj
        exact jj
      · -- pc 56
        refine ownE.go (T' := TJ7) (f' := (mkF m 59 #[.val (.int i0), .val (.int i1), .val (.int (i0 &&& (7 : Int32))), .val (.int (i1 &&& (7 : Int32))), .val (.ref b1), .val (.int (own_f4 (i1 &&& (7 : Int32)) (i0 &&& (7 : Int32)))), .val (.int (own_j0_45_S0 i0 i1)), .unset, .unset, .unset] [])) (fun t kt => XS.ifNo (g := (mkF m 56 #[.val (.int i0), .val (.int i1), .val (.int (i0 &&& (7 : Int32))), .val (.int (i1 &&& (7 : Int32))), .val (.ref b1), .val (.int (own_f4 (i1 &&& (7 : Int32)) (i0 &&& (7 : Int32)))), .val (.int (own_j0_45_S0 i0 i1)), .unset, .unset, .unset] [(.int ((i1 &&& (7 : Int32)) &&& (2 : Int32)))])) XJ7.here hx rfl (hb hby at_56) rfl (Jvm.Free.XT.i0_eq_f hc10) kt) ?_
        refine ownE.go (T' := TJ7) (f' := (mkF m 64 #[.val (.int i0), .val (.int i1), .val (.int (i0 &&& (7 : Int32))), .val (.int (i1 &&& (7 : Int32))), .val (.ref b1), .val (.int (own_f4 (i1 &&& (7 : Int32)) (i0 &&& (7 : Int32)))), .val (.int (own_j0_45_S0 i0 i1)), .unset, .unset, .unset] [(.int (1 : Int32))])) (fun t kt => ?_) ?_
        · show Steps p.tables e below (TJ7.setTop (mkF m 59 #[.val (.int i0), .val (.int i1), .val (.int (i0 &&& (7 : Int32))), .val (.int (i1 &&& (7 : Int32))), .val (.ref b1), .val (.int (own_f4 (i1 &&& (7 : Int32)) (i0 &&& (7 : Int32)))), .val (.int (own_j0_45_S0 i0 i1)), .unset, .unset, .unset] [])) _
          refine XS.iconst XJ7.here hx rfl (hb hby at_59) ?_
          show Steps p.tables e below (TJ7.setTop (mkF m 60 #[.val (.int i0), .val (.int i1), .val (.int (i0 &&& (7 : Int32))), .val (.int (i1 &&& (7 : Int32))), .val (.ref b1), .val (.int (own_f4 (i1 &&& (7 : Int32)) (i0 &&& (7 : Int32)))), .val (.int (own_j0_45_S0 i0 i1)), .unset, .unset, .unset] [(.int (1 : Int32))])) _
          refine XS.goto XJ7.here hx rfl (pc0 := 60) (pc' := 64) rfl (hb hby at_60) (by decide) (by decide) ?_
          exact kt
        have jj := J11 _ _ XJ7 eJ7 NJ7
        rw [show (own_j0_64_S0 i0 i1) = (1 : Int32) from by rw [own_j0_64_S0, if_neg hc9, if_neg hc10]] at jj
        exact jj
  refine ownE.go (T' := T3) (f' := (mkF m 31 #[.val (.int i0), .val (.int i1), .val (.int (i0 &&& (7 : Int32))), .val (.int (i1 &&& (7 : Int32))), .val (.ref b1), .val (.int (own_f4 (i1 &&& (7 : Int32)) (i0 &&& (7 : Int32)))), .unset, .unset, .unset, .unset] [(.int ((i0 &&& (7 : Int32)) &&& (4 : Int32)))])) (fun t kt => ?_) ?_
  · show Steps p.tables e below (T3.setTop (mkF m 28 #[.val (.int i0), .val (.int i1), .val (.int (i0 &&& (7 : Int32))), .val (.int (i1 &&& (7 : Int32))), .val (.ref b1), .val (.int (own_f4 (i1 &&& (7 : Int32)) (i0 &&& (7 : Int32)))), .unset, .unset, .unset, .unset] [])) _
    refine XS.iloadN X3.here hx rfl (hb hby at_28) rfl ?_
    show Steps p.tables e below (T3.setTop (mkF m 29 #[.val (.int i0), .val (.int i1), .val (.int (i0 &&& (7 : Int32))), .val (.int (i1 &&& (7 : Int32))), .val (.ref b1), .val (.int (own_f4 (i1 &&& (7 : Int32)) (i0 &&& (7 : Int32)))), .unset, .unset, .unset, .unset] [(.int (i0 &&& (7 : Int32)))])) _
    refine XS.iconst X3.here hx rfl (hb hby at_29) ?_
    show Steps p.tables e below (T3.setTop (mkF m 30 #[.val (.int i0), .val (.int i1), .val (.int (i0 &&& (7 : Int32))), .val (.int (i1 &&& (7 : Int32))), .val (.ref b1), .val (.int (own_f4 (i1 &&& (7 : Int32)) (i0 &&& (7 : Int32)))), .unset, .unset, .unset, .unset] [(.int (4 : Int32)), (.int (i0 &&& (7 : Int32)))])) _
    refine XS.iand X3.here hx rfl (hb hby at_30) rfl ?_
    exact kt
  by_cases hc5 : ((i0 &&& (7 : Int32)) &&& (4 : Int32)) = (0 : Int32)
  · -- pc 31
    refine ownE.go (T' := T3) (f' := (mkF m 40 #[.val (.int i0), .val (.int i1), .val (.int (i0 &&& (7 : Int32))), .val (.int (i1 &&& (7 : Int32))), .val (.ref b1), .val (.int (own_f4 (i1 &&& (7 : Int32)) (i0 &&& (7 : Int32)))), .unset, .unset, .unset, .unset] [])) (fun t kt => XS.ifYes (g := (mkF m 31 #[.val (.int i0), .val (.int i1), .val (.int (i0 &&& (7 : Int32))), .val (.int (i1 &&& (7 : Int32))), .val (.ref b1), .val (.int (own_f4 (i1 &&& (7 : Int32)) (i0 &&& (7 : Int32)))), .unset, .unset, .unset, .unset] [(.int ((i0 &&& (7 : Int32)) &&& (4 : Int32)))])) X3.here hx rfl (pc0 := 31) (pc' := 40) rfl (hb hby at_31) rfl (Jvm.Free.XT.i0_eq_t hc5) (by decide) (by decide) kt) ?_
    refine ownE.go (T' := T3) (f' := (mkF m 45 #[.val (.int i0), .val (.int i1), .val (.int (i0 &&& (7 : Int32))), .val (.int (i1 &&& (7 : Int32))), .val (.ref b1), .val (.int (own_f4 (i1 &&& (7 : Int32)) (i0 &&& (7 : Int32)))), .unset, .unset, .unset, .unset] [(.int (1 : Int32))])) (fun t kt => ?_) ?_
    · show Steps p.tables e below (T3.setTop (mkF m 40 #[.val (.int i0), .val (.int i1), .val (.int (i0 &&& (7 : Int32))), .val (.int (i1 &&& (7 : Int32))), .val (.ref b1), .val (.int (own_f4 (i1 &&& (7 : Int32)) (i0 &&& (7 : Int32)))), .unset, .unset, .unset, .unset] [])) _
      refine XS.iconst X3.here hx rfl (hb hby at_40) ?_
      show Steps p.tables e below (T3.setTop (mkF m 41 #[.val (.int i0), .val (.int i1), .val (.int (i0 &&& (7 : Int32))), .val (.int (i1 &&& (7 : Int32))), .val (.ref b1), .val (.int (own_f4 (i1 &&& (7 : Int32)) (i0 &&& (7 : Int32)))), .unset, .unset, .unset, .unset] [(.int (1 : Int32))])) _
      refine XS.goto X3.here hx rfl (pc0 := 41) (pc' := 45) rfl (hb hby at_41) (by decide) (by decide) ?_
      exact kt
    have jj := J7 _ _ X3 e3 N3
    rw [show (own_j0_45_S0 i0 i1) = (1 : Int32) from by rw [own_j0_45_S0, if_pos hc5]] at jj
    exact jj
  · -- pc 31
    refine ownE.go (T' := T3) (f' := (mkF m 34 #[.val (.int i0), .val (.int i1), .val (.int (i0 &&& (7 : Int32))), .val (.int (i1 &&& (7 : Int32))), .val (.ref b1), .val (.int (own_f4 (i1 &&& (7 : Int32)) (i0 &&& (7 : Int32)))), .unset, .unset, .unset, .unset] [])) (fun t kt => XS.ifNo (g := (mkF m 31 #[.val (.int i0), .val (.int i1), .val (.int (i0 &&& (7 : Int32))), .val (.int (i1 &&& (7 : Int32))), .val (.ref b1), .val (.int (own_f4 (i1 &&& (7 : Int32)) (i0 &&& (7 : Int32)))), .unset, .unset, .unset, .unset] [(.int ((i0 &&& (7 : Int32)) &&& (4 : Int32)))])) X3.here hx rfl (hb hby at_31) rfl (Jvm.Free.XT.i0_eq_f hc5) kt) ?_
    refine ownE.go (T' := T3) (f' := (mkF m 37 #[.val (.int i0), .val (.int i1), .val (.int (i0 &&& (7 : Int32))), .val (.int (i1 &&& (7 : Int32))), .val (.ref b1), .val (.int (own_f4 (i1 &&& (7 : Int32)) (i0 &&& (7 : Int32)))), .unset, .unset, .unset, .unset] [(.int ((i1 &&& (7 : Int32)) &&& (4 : Int32)))])) (fun t kt => ?_) ?_
    · show Steps p.tables e below (T3.setTop (mkF m 34 #[.val (.int i0), .val (.int i1), .val (.int (i0 &&& (7 : Int32))), .val (.int (i1 &&& (7 : Int32))), .val (.ref b1), .val (.int (own_f4 (i1 &&& (7 : Int32)) (i0 &&& (7 : Int32)))), .unset, .unset, .unset, .unset] [])) _
      refine XS.iloadN X3.here hx rfl (hb hby at_34) rfl ?_
      show Steps p.tables e below (T3.setTop (mkF m 35 #[.val (.int i0), .val (.int i1), .val (.int (i0 &&& (7 : Int32))), .val (.int (i1 &&& (7 : Int32))), .val (.ref b1), .val (.int (own_f4 (i1 &&& (7 : Int32)) (i0 &&& (7 : Int32)))), .unset, .unset, .unset, .unset] [(.int (i1 &&& (7 : Int32)))])) _
      refine XS.iconst X3.here hx rfl (hb hby at_35) ?_
      show Steps p.tables e below (T3.setTop (mkF m 36 #[.val (.int i0), .val (.int i1), .val (.int (i0 &&& (7 : Int32))), .val (.int (i1 &&& (7 : Int32))), .val (.ref b1), .val (.int (own_f4 (i1 &&& (7 : Int32)) (i0 &&& (7 : Int32)))), .unset, .unset, .unset, .unset] [(.int (4 : Int32)), (.int (i1 &&& (7 : Int32)))])) _
      refine XS.iand X3.here hx rfl (hb hby at_36) rfl ?_
      exact kt
    by_cases hc6 : ((i1 &&& (7 : Int32)) &&& (4 : Int32)) = (0 : Int32)
    · -- pc 37
      refine ownE.go (T' := T3) (f' := (mkF m 44 #[.val (.int i0), .val (.int i1), .val (.int (i0 &&& (7 : Int32))), .val (.int (i1 &&& (7 : Int32))), .val (.ref b1), .val (.int (own_f4 (i1 &&& (7 : Int32)) (i0 &&& (7 : Int32)))), .unset, .unset, .unset, .unset] [])) (fun t kt => XS.ifYes (g := (mkF m 37 #[.val (.int i0), .val (.int i1), .val (.int (i0 &&& (7 : Int32))), .val (.int (i1 &&& (7 : Int32))), .val (.ref b1), .val (.int (own_f4 (i1 &&& (7 : Int32)) (i0 &&& (7 : Int32)))), .unset, .unset, .unset, .unset] [(.int ((i1 &&& (7 : Int32)) &&& (4 : Int32)))])) X3.here hx rfl (pc0 := 37) (pc' := 44) rfl (hb hby at_37) rfl (Jvm.Free.XT.i0_eq_t hc6) (by decide) (by decide) kt) ?_
      refine ownE.go (T' := T3) (f' := (mkF m 45 #[.val (.int i0), .val (.int i1), .val (.int (i0 &&& (7 : Int32))), .val (.int (i1 &&& (7 : Int32))), .val (.ref b1), .val (.int (own_f4 (i1 &&& (7 : Int32)) (i0 &&& (7 : Int32)))), .unset, .unset, .unset, .unset] [(.int (0 : Int32))])) (fun t kt => ?_) ?_
      · show Steps p.tables e below (T3.setTop (mkF m 44 #[.val (.int i0), .val (.int i1), .val (.int (i0 &&& (7 : Int32))), .val (.int (i1 &&& (7 : Int32))), .val (.ref b1), .val (.int (own_f4 (i1 &&& (7 : Int32)) (i0 &&& (7 : Int32)))), .unset, .unset, .unset, .unset] [])) _
        refine XS.iconst X3.here hx rfl (hb hby at_44) ?_
        exact kt
      have jj := J7 _ _ X3 e3 N3
      rw [show (own_j0_45_S0 i0 i1) = (0 : Int32) from by rw [own_j0_45_S0, if_neg hc5, if_pos hc6]] at jj
      exact jj
    · -- pc 37
      refine ownE.go (T' := T3) (f' := (mkF m 40 #[.val (.int i0), .val (.int i1), .val (.int (i0 &&& (7 : Int32))), .val (.int (i1 &&& (7 : Int32))), .val (.ref b1), .val (.int (own_f4 (i1 &&& (7 : Int32)) (i0 &&& (7 : Int32)))), .unset, .unset, .unset, .unset] [])) (fun t kt => XS.ifNo (g := (mkF m 37 #[.val (.int i0), .val (.int i1), .val (.int (i0 &&& (7 : Int32))), .val (.int (i1 &&& (7 : Int32))), .val (.ref b1), .val (.int (own_f4 (i1 &&& (7 : Int32)) (i0 &&& (7 : Int32)))), .unset, .unset, .unset, .unset] [(.int ((i1 &&& (7 : Int32)) &&& (4 : Int32)))])) X3.here hx rfl (hb hby at_37) rfl (Jvm.Free.XT.i0_eq_f hc6) kt) ?_
      refine ownE.go (T' := T3) (f' := (mkF m 45 #[.val (.int i0), .val (.int i1), .val (.int (i0 &&& (7 : Int32))), .val (.int (i1 &&& (7 : Int32))), .val (.ref b1), .val (.int (own_f4 (i1 &&& (7 : Int32)) (i0 &&& (7 : Int32)))), .unset, .unset, .unset, .unset] [(.int (1 : Int32))])) (fun t kt => ?_) ?_
      · show Steps p.tables e below (T3.setTop (mkF m 40 #[.val (.int i0), .val (.int i1), .val (.int (i0 &&& (7 : Int32))), .val (.int (i1 &&& (7 : Int32))), .val (.ref b1), .val (.int (own_f4 (i1 &&& (7 : Int32)) (i0 &&& (7 : Int32)))), .unset, .unset, .unset, .unset] [])) _
        refine XS.iconst X3.here hx rfl (hb hby at_40) ?_
        show Steps p.tables e below (T3.setTop (mkF m 41 #[.val (.int i0), .val (.int i1), .val (.int (i0 &&& (7 : Int32))), .val (.int (i1 &&& (7 : Int32))), .val (.ref b1), .val (.int (own_f4 (i1 &&& (7 : Int32)) (i0 &&& (7 : Int32)))), .unset, .unset, .unset, .unset] [(.int (1 : Int32))])) _
        refine XS.goto X3.here hx rfl (pc0 := 41) (pc' := 45) rfl (hb hby at_41) (by decide) (by decide) ?_
        exact kt
      have jj := J7 _ _ X3 e3 N3
      rw [show (own_j0_45_S0 i0 i1) = (1 : Int32) from by rw [own_j0_45_S0, if_neg hc5, if_neg hc6]] at jj
      exact jj
theorem own_small (x : Int32) : (x &&& (7 : Int32) = 0) ∨ (x &&& (7 : Int32) = 1) ∨ (x &&& (7 : Int32) = 2) ∨ (x &&& (7 : Int32) = 3) ∨ (x &&& (7 : Int32) = 4) ∨ (x &&& (7 : Int32) = 5) ∨ (x &&& (7 : Int32) = 6) ∨ (x &&& (7 : Int32) = 7) := by
  have h3 := c_mask x 7 3 (by decide) (by decide)
  simp only [← Int32.toInt_inj, h3]
  have z0 : (0 : Int32).toInt = 0 := by decide
  have z1 : (1 : Int32).toInt = 1 := by decide
  have z2 : (2 : Int32).toInt = 2 := by decide
  have z3 : (3 : Int32).toInt = 3 := by decide
  have z4 : (4 : Int32).toInt = 4 := by decide
  have z5 : (5 : Int32).toInt = 5 := by decide
  have z6 : (6 : Int32).toInt = 6 := by decide
  have z7 : (7 : Int32).toInt = 7 := by decide
  rw [z0, z1, z2, z3, z4, z5, z6, z7]
  omega
theorem own_law (a b : Int32) : own_f0 a b = 1 := by
  unfold own_f0 own_f4 own_j0_105_S0 own_j0_45_S0 own_j0_64_S0 own_j0_83_S0
  rcases own_small a with h | h | h | h | h | h | h | h <;> rcases own_small b with h' | h' | h' | h' | h' | h' | h' | h' <;> rw [h, h'] <;> decide

set_option maxRecDepth 65536 in
set_option maxHeartbeats 40000000 in
theorem comes_1 {Post : Tables → Env → Array Value → State → Outcome → State → Prop} (hpost : ∀ tb e args s v u, (limb_1_1.after args s (.returned v) u = true ∧ limb_1_2.after args s (.returned v) u = true ∧ True) → FrameEnd s (.returned v) u (Jvm.fieldLocs frame_1_writes args s ++ Jvm.arrayLocs frame_1_arrays args s ++ Jvm.staticLocs frame_1_statics s) 16 128 → Post tb e args s (.returned v) u) :
    ArmFor flags0 classFile x code maxLocals ret World_1 tables_1 room_1 Calls_1 rest_1 Pre_1 Post := by
  intro l hfl _ _ p e ha hc hk s m args below hf hA hF happ hP
  obtain ⟨hcalls, hrest, hpre⟩ := hP
  obtain ⟨-, -, -, hnamed, -, -, -, hat⟩ := (Spec.applies_iff hf).mp happ
  obtain ⟨hg, hn⟩ := and_e (Cond.before_iff.mp (show (Jvm.Cond.and given_1 narrow_1).before args s = true from hpre))
  obtain ⟨g1, g2⟩ := and_e hg
  obtain ⟨g3, g4⟩ := and_e g2
  obtain ⟨w0, w1, rfl⟩ : ∃ w0 w1 : Value, args = #[w0, w1] := by
    have hs : args.size = 2 := by simpa [Cond.value, given_1] using g1
    obtain ⟨L⟩ := args
    match L, hs with
    | [w0, w1], _ => exact ⟨w0, w1, rfl⟩
  have hw := fun d (hd : d ∈ tables_1) => atoms_spec (ws := Jvm.Cond.code x code maxLocals ret :: tables_1) hat d (List.mem_cons_of_mem _ hd)
  have hfit : Fit s := fun {y c} hc i hi => by
    obtain ⟨ha, rfl⟩ := Array.getElem?_eq_some_iff.mp hc
    have q := List.all_eq_true.mp ((Array.all_eq_true_iff_forall_mem.mp hF) _ (Array.getElem_mem ha)) i (List.mem_range.mpr hi)
    simpa [Array.getElem?_eq_getElem hi] using q
  obtain ⟨i0, ei0⟩ := is_v g3
  obtain rfl : w0 = (.int i0) := Option.some.inj ei0
  obtain ⟨i1, ei1⟩ := is_v g4
  obtain rfl : w1 = (.int i1) := Option.some.inj ei1
  obtain ⟨n, o, h1, h2, h3, _, L, rfl, ⟨rfl, N, -⟩, hq⟩ := own_rm0 l s _ hw tables_1 i0 i1  s.heap s.heap.size (Nat.le_refl _)  p e ha hc hk s m _ below hf ((Spec.applies_iff_loose hf).mp happ).1 ⟨rfl, State.Warmed39.refl s, rfl⟩ trivial
  refine ⟨n, _, h1, h2, h3, hpost _ _ _ _ _ _ ⟨Cond.after_iff.mpr rfl, Cond.after_iff.mpr (eq_i res_at (Term.int_eval (1)) (congrArg Value.int (own_law i0 i1))), trivial⟩ ⟨hq.1, hq.2.1, (hq.2.2.sift fun y hy => Or.inr (N y hy)).mono (by decide) (by decide)⟩⟩
theorem main_1_1 : Claimed_1_1 := comes_1 fun _ _ _ _ _ _ h hF => ⟨h.1, hF⟩
theorem main_1_2 : Claimed_1_2 := comes_1 fun _ _ _ _ _ _ h hF => ⟨h.2.1, hF⟩
end Jvm.Pilot.@@N@@
namespace Jvm.Pilot.@@N@@
open Jvm Jvm.ClassFile Sem Op Lib Jvm.Free Jvm.Stand Jvm.Pilot.@@N@@.Jvm.D
/-! MADE BY PROGRAM (witnessworld.py) out of the Statement's table words and the real class files: 10 classes; the members and pool entries that the words name. The judged class is class 1, her method 1. -/
namespace start1
open Jvm.ClassFile
def u (s : String) : CpInfo := .utf8 (stringToUtf16 s)
/-- a pool by its gaps: so many unusable entries, then the entry; so many at the end -/
def gap : Nat → List CpInfo → List CpInfo
  | 0, r => r
  | n + 1, r => .unusable :: gap n r
def poolList (es : List (Nat × CpInfo)) (last : Nat) : List CpInfo := es.foldr (fun e r => gap e.1 (e.2 :: r)) (gap last [])
def pool (es : List (Nat × CpInfo)) (last : Nat) : Array CpInfo := ⟨poolList es last⟩
def fileOf (pool : Array CpInfo) (this : Nat) (attrs : Array Attribute := #[]) (ms : Array MethodInfo := #[]) (fl : Nat := 33) (sup : Nat := 0) (ifs : Array Nat := #[]) (fds : Array FieldInfo := #[]) : ClassFile where
  minorVersion := 0
  majorVersion := 65
  constantPool := pool
  accessFlags := fl
  thisClass := this
  superClass := sup
  interfaces := ifs
  fields := fds
  methods := ms
  attributes := attrs
def plain (name : String) (sup : Option ClassId) : Class where
  name := name
  kind := .ordinary
  loader := none
  accessFlags := 33
  super := sup
  interfaces := #[]
  cf := none
  fields := #[]
  methods := #[]
  instanceTypes := #[]
  staticTypes := #[]
  resolved := #[]
  callSites := []
  init := .initialized
  statics := none
  mirror := none

def pool0 : Array CpInfo := pool [(5, u "<init>"), (0, u "()V"), (1, .class_ 10), (1, u "java/lang/Object")] 113

def k0c0 : Code := { maxStack := 0, maxLocals := 1, code := object_method_1_code, exceptionTable := #[], attributes := #[] }
def k0m0 : Method := { name := "<init>", desc := "()V", sig := { parameters := [], returnType := none }, accessFlags := 1, code := some k0c0 }
/-- java/lang/Object -/
def k0 : Class := { plain "java/lang/Object" none with
  accessFlags := 33
  interfaces := #[]
  cf := some (fileOf pool0 8 #[] #[{ accessFlags := 1, nameIndex := 5, descriptorIndex := 6, attributes := #[] }] 33 0 #[] #[])
  fields := #[]
  methods := #[k0m0]
  instanceTypes := #[]
  staticTypes := #[]
  resolved := Array.replicate 124 none
  statics := none }

def pool1 : Array CpInfo := pool [(2, .class_ 4), (1, u "java/lang/Object"), (0, u "<init>"), (0, u "()V"), (0, .class_ 8), (0, u "com/example/quayside/quayside/core/Access"), (0, .methodref 7 10), (0, .nameAndType 5 11), (0, u "(I)V"), (0, .methodref 7 13), (0, .nameAndType 14 15), (0, u "isGrantedBy"), (0, u "(I)Z"), (0, .class_ 17), (0, u "com/example/quayside/quayside/core/AccessIsGrantedByPinLaw"), (2, u "law"), (0, u "(II)Z")] 3

def k1m0 : Method := { name := "<init>", desc := "()V", sig := { parameters := [], returnType := none }, accessFlags := 2, code := none }
def k1c1 : Code := { maxStack := 3, maxLocals := 10, code := code, exceptionTable := #[], attributes := #[] }
def k1m1 : Method := { name := "law", desc := "(II)Z", sig := { parameters := [.int, .int], returnType := some .boolean }, accessFlags := 9, code := some k1c1 }
/-- com/example/quayside/quayside/core/AccessIsGrantedByPinLaw -/
def k1 : Class := { plain "com/example/quayside/quayside/core/AccessIsGrantedByPinLaw" (some 0) with
  accessFlags := 49
  interfaces := #[]
  cf := some (fileOf pool1 16 #[] #[{ accessFlags := 2, nameIndex := 5, descriptorIndex := 6, attributes := #[] }, { accessFlags := 9, nameIndex := 20, descriptorIndex := 21, attributes := #[] }] 49 2 #[] #[])
  fields := #[]
  methods := #[k1m0, k1m1]
  instanceTypes := #[]
  staticTypes := #[]
  resolved := Array.replicate 25 none
  statics := none }

def pool2 : Array CpInfo := pool [(1, .methodref 2 3), (0, .class_ 4), (0, .nameAndType 5 6), (0, u "java/lang/Object"), (0, u "<init>"), (0, u "()V"), (0, .class_ 8), (0, u "java/lang/Record")] 13

def k2c0 : Code := { maxStack := 1, maxLocals := 1, code := jdk_30_method_1_code, exceptionTable := #[], attributes := #[] }
def k2m0 : Method := { name := "<init>", desc := "()V", sig := { parameters := [], returnType := none }, accessFlags := 4, code := some k2c0 }
/-- java/lang/Record -/
def k2 : Class := { plain "java/lang/Record" (some 0) with
  accessFlags := 1057
  interfaces := #[]
  cf := some (fileOf pool2 7 #[] #[{ accessFlags := 4, nameIndex := 5, descriptorIndex := 6, attributes := #[] }] 1057 2 #[] #[])
  fields := #[]
  methods := #[k2m0]
  instanceTypes := #[]
  staticTypes := #[]
  resolved := Array.replicate 22 none
  statics := none }

def pool3 : Array CpInfo := pool [(1, .methodref 2 3), (0, .class_ 4), (0, .nameAndType 5 6), (0, u "java/lang/Record"), (0, u "<init>"), (0, u "()V"), (9, .fieldref 17 18), (0, .class_ 19), (0, .nameAndType 20 21), (0, u "com/example/quayside/quayside/core/Access"), (0, u "bits"), (0, u "I"), (17, u "(I)V"), (21, u "READ"), (0, u "Lcom/example/quayside/quayside/core/Access;"), (2, u "WRITE"), (2, u "EXECUTE"), (2, u "READ_EXECUTE"), (2, u "WRITE_EXECUTE"), (2, u "ALL"), (6, u "isGrantedBy"), (0, u "(I)Z")] 36

def k3c0 : Code := { maxStack := 3, maxLocals := 2, code := prog_1_method_1_code, exceptionTable := #[], attributes := #[] }
def k3m0 : Method := { name := "<init>", desc := "(I)V", sig := { parameters := [.int], returnType := none }, accessFlags := 1, code := some k3c0 }
def k3c1 : Code := { maxStack := 2, maxLocals := 2, code := prog_1_method_3_code, exceptionTable := #[], attributes := #[] }
def k3m1 : Method := { name := "isGrantedBy", desc := "(I)Z", sig := { parameters := [.int], returnType := some .boolean }, accessFlags := 0, code := some k3c1 }
/-- com/example/quayside/quayside/core/Access -/
def k3 : Class := { plain "com/example/quayside/quayside/core/Access" (some 2) with
  accessFlags := 49
  interfaces := #[]
  cf := some (fileOf pool3 17 #[] #[{ accessFlags := 1, nameIndex := 5, descriptorIndex := 39, attributes := #[] }, { accessFlags := 0, nameIndex := 84, descriptorIndex := 85, attributes := #[] }] 49 2 #[] #[{ accessFlags := 18, nameIndex := 20, descriptorIndex := 21, attributes := #[] }, { accessFlags := 25, nameIndex := 61, descriptorIndex := 62, attributes := #[] }, { accessFlags := 25, nameIndex := 65, descriptorIndex := 62, attributes := #[] }, { accessFlags := 25, nameIndex := 68, descriptorIndex := 62, attributes := #[] }, { accessFlags := 25, nameIndex := 71, descriptorIndex := 62, attributes := #[] }, { accessFlags := 25, nameIndex := 74, descriptorIndex := 62, attributes := #[] }, { accessFlags := 25, nameIndex := 77, descriptorIndex := 62, attributes := #[] }])
  fields := #[{ name := "bits", type := .int, accessFlags := 18, slot := 0, constantValue := 0 }, { name := "READ", type := (.object "com/example/quayside/quayside/core/Access"), accessFlags := 25, slot := 0, constantValue := 0 }, { name := "WRITE", type := (.object "com/example/quayside/quayside/core/Access"), accessFlags := 25, slot := 1, constantValue := 0 }, { name := "EXECUTE", type := (.object "com/example/quayside/quayside/core/Access"), accessFlags := 25, slot := 2, constantValue := 0 }, { name := "READ_EXECUTE", type := (.object "com/example/quayside/quayside/core/Access"), accessFlags := 25, slot := 3, constantValue := 0 }, { name := "WRITE_EXECUTE", type := (.object "com/example/quayside/quayside/core/Access"), accessFlags := 25, slot := 4, constantValue := 0 }, { name := "ALL", type := (.object "com/example/quayside/quayside/core/Access"), accessFlags := 25, slot := 5, constantValue := 0 }]
  methods := #[k3m0, k3m1]
  instanceTypes := #[.int]
  staticTypes := #[(.object "com/example/quayside/quayside/core/Access"), (.object "com/example/quayside/quayside/core/Access"), (.object "com/example/quayside/quayside/core/Access"), (.object "com/example/quayside/quayside/core/Access"), (.object "com/example/quayside/quayside/core/Access"), (.object "com/example/quayside/quayside/core/Access")]
  resolved := Array.replicate 122 none
  statics := none }

def pool4 : Array CpInfo := pool [(1, u "java/lang/Cloneable"), (0, .class_ 1), (0, u "java/lang/Object"), (0, .class_ 3)] 3

/-- java/lang/Cloneable -/
def k4 : Class := { plain "java/lang/Cloneable" (some 0) with
  accessFlags := 1537
  interfaces := #[]
  cf := some (fileOf pool4 2 #[] #[] 1537 4 #[] #[])
  fields := #[]
  methods := #[]
  instanceTypes := #[]
  staticTypes := #[]
  resolved := Array.replicate 8 none
  statics := none }

def pool5 : Array CpInfo := pool [(1, u "java/io/Serializable"), (0, .class_ 1), (0, u "java/lang/Object"), (0, .class_ 3)] 3

/-- java/io/Serializable -/
def k5 : Class := { plain "java/io/Serializable" (some 0) with
  accessFlags := 1537
  interfaces := #[]
  cf := some (fileOf pool5 2 #[] #[] 1537 4 #[] #[])
  fields := #[]
  methods := #[]
  instanceTypes := #[]
  staticTypes := #[]
  resolved := Array.replicate 8 none
  statics := none }

/-- the primitive byte -/
def k6 : Class := { plain "byte" none with kind := .primitive 'B', accessFlags := 0x411 }
/-- [B -/
def k7 : Class := { plain "[B" (some 0) with kind := .array 6 .byte, interfaces := #[4, 5], accessFlags := 1041 }

/-- the primitive int -/
def k8 : Class := { plain "int" none with kind := .primitive 'I', accessFlags := 0x411 }
/-- [I -/
def k9 : Class := { plain "[I" (some 0) with kind := .array 8 .int, interfaces := #[4, 5], accessFlags := 1041 }

def heap : Heap := #[]
def classes : Array Class := #[k0, k1, k2, k3, k4, k5, k6, k7, k8, k9]
def interned : List (Array UInt16 × Addr) := []
def slotsUsed : Nat := 0
def theMethod : MethodId := ⟨1, 1⟩
def args0 : Array Value := #[.int 5, .int 5]
def aboutOver (below : List Frame) : State where
  vm := { classes := classes, interned := interned.toArray }
  heap := heap
  slotsUsed := slotsUsed
  threads := #[{ frames := .invoking theMethod args0 :: below }]
def below0 : List Frame := [.native { method := ⟨0, 0⟩, args := #[] }]
def about1 : State := aboutOver below0
def p0 : Program := .bare "" "" ""
def e0 : Env := launch0.env 0 0 0
theorem w_frames : about1.frames = Frame.invoking theMethod args0 :: below0 := rfl
set_option maxRecDepth 65536 in
theorem w_args : argsFit about1.vm theMethod args0 = true := by decide +kernel
set_option maxRecDepth 65536 in
theorem w_heap : heapFits about1 = true := by decide +kernel
set_option maxRecDepth 65536 in
theorem w_runnable : about1.curStatus? = some .runnable := by decide +kernel
set_option maxRecDepth 65536 in
theorem w_alone : about1.alone = true := by decide +kernel
set_option maxRecDepth 65536 in
theorem w_named : about1.methodNamed? x = some theMethod := by decide +kernel
set_option maxRecDepth 65536 in
theorem w_hears : about1.hears theMethod below0 = true := by decide +kernel
set_option maxRecDepth 65536 in
theorem w_ripe : about1.ripe theMethod args0 below0 = true := by decide +kernel
theorem w_running : about1.status = .running := rfl
set_option maxRecDepth 65536 in
theorem w_room : about1.hasRoom e0.platform room_1 = true :=
  launch0.hasRoom_least _ room_1 (by decide +kernel) (by decide +kernel) (by decide +kernel) (by decide +kernel) (by decide +kernel) (by decide +kernel)
theorem allAtoms_all (ts : List Jvm.Cond) (a : Array Jvm.Value) (st : Jvm.State) : (allAtoms ts).before a st = ts.all (fun c => c.before a st) := by
  induction ts with
  | nil => rfl
  | cons c t ih =>
    show (Jvm.Cond.and c (allAtoms t)).before a st = _
    rw [Jvm.Cond.before_and, ih, List.all_cons]
def words1 : List Jvm.Cond := Jvm.Cond.code x code maxLocals ret :: tables_1
/-- a 'code' word, met by the world's own term for the bytes: nothing is compared byte by byte -/
theorem code_word {y : MethodName} {bytes : ByteArray} {mx : Nat} {rt : Option FieldType} {a : Array Value} {s : State} {m : MethodId} {meth : Method} {c : Code} (h1 : s.methodNamed? y = some m) (h2 : s.vm.method? m = some meth) (h3 : meth.code = some c) (h4 : c.code = bytes)
    (h5 : (c.maxLocals == mx && c.exceptionTable.isEmpty && decide (c.maxStack ≤ mostOperands) && decide (meth.sig.returnType = rt) && !meth.locks && decide (parseMethodDescriptor y.desc = some meth.sig)) = true) : (Jvm.Cond.code y bytes mx rt).before a s = true := by
  simp only [Bool.and_eq_true, beq_iff_eq, Bool.not_eq_true', decide_eq_true_eq] at h5
  obtain ⟨⟨⟨⟨⟨g1, g2⟩, g3⟩, g4⟩, g5⟩, g6⟩ := h5
  simp [Cond.before, Cond.holds, Cond.value, h1, h2, h3, h4, g1, g2, g3, g4, g5, g6]
def isCode : Jvm.Cond → Bool
  | .code _ _ _ _ => true
  | _ => false
theorem all_split {L : List Jvm.Cond} {P : Jvm.Cond → Bool} (h1 : L.all (fun c => isCode c || P c) = true) (h2 : ∀ c ∈ L.filter isCode, P c = true) : L.all P = true := by
  refine List.all_eq_true.mpr fun c hc => ?_
  have h := List.all_eq_true.mp h1 c hc
  rcases Bool.eq_false_or_eq_true (isCode c) with hi | hi
  · exact h2 c (List.mem_filter.mpr ⟨hc, hi⟩)
  · simpa [hi] using h
set_option maxRecDepth 65536 in
theorem w_c0 : (Jvm.Cond.code x code maxLocals ret).before args0 about1 = true := code_word (m := ⟨1, 1⟩) (meth := k1m1) (c := k1c1) (by decide +kernel) rfl rfl rfl (by decide +kernel)
set_option maxRecDepth 65536 in
theorem w_c1 : (Jvm.Cond.code ({ cls := "com/example/quayside/quayside/core/Access", name := "<init>", desc := "(I)V" } : Jvm.MethodName) prog_1_method_1_code (2 : Nat) (Option.none : Option Jvm.ClassFile.FieldType)).before args0 about1 = true := code_word (m := ⟨3, 0⟩) (meth := k3m0) (c := k3c0) (by decide +kernel) rfl rfl rfl (by decide +kernel)
set_option maxRecDepth 65536 in
theorem w_c2 : (Jvm.Cond.code ({ cls := "java/lang/Record", name := "<init>", desc := "()V" } : Jvm.MethodName) jdk_30_method_1_code (1 : Nat) (Option.none : Option Jvm.ClassFile.FieldType)).before args0 about1 = true := code_word (m := ⟨2, 0⟩) (meth := k2m0) (c := k2c0) (by decide +kernel) rfl rfl rfl (by decide +kernel)
set_option maxRecDepth 65536 in
theorem w_c3 : (Jvm.Cond.code ({ cls := "java/lang/Object", name := "<init>", desc := "()V" } : Jvm.MethodName) object_method_1_code (1 : Nat) (Option.none : Option Jvm.ClassFile.FieldType)).before args0 about1 = true := code_word (m := ⟨0, 0⟩) (meth := k0m0) (c := k0c0) (by decide +kernel) rfl rfl rfl (by decide +kernel)
set_option maxRecDepth 65536 in
theorem w_c4 : (Jvm.Cond.code ({ cls := "com/example/quayside/quayside/core/Access", name := "isGrantedBy", desc := "(I)Z" } : Jvm.MethodName) prog_1_method_3_code (2 : Nat) (Option.some Jvm.ClassFile.FieldType.boolean)).before args0 about1 = true := code_word (m := ⟨3, 1⟩) (meth := k3m1) (c := k3c1) (by decide +kernel) rfl rfl rfl (by decide +kernel)
def codes1 : List Jvm.Cond := [Jvm.Cond.code x code maxLocals ret, Jvm.Cond.code ({ cls := "com/example/quayside/quayside/core/Access", name := "<init>", desc := "(I)V" } : Jvm.MethodName) prog_1_method_1_code (2 : Nat) (Option.none : Option Jvm.ClassFile.FieldType), Jvm.Cond.code ({ cls := "java/lang/Record", name := "<init>", desc := "()V" } : Jvm.MethodName) jdk_30_method_1_code (1 : Nat) (Option.none : Option Jvm.ClassFile.FieldType), Jvm.Cond.code ({ cls := "java/lang/Object", name := "<init>", desc := "()V" } : Jvm.MethodName) object_method_1_code (1 : Nat) (Option.none : Option Jvm.ClassFile.FieldType), Jvm.Cond.code ({ cls := "com/example/quayside/quayside/core/Access", name := "isGrantedBy", desc := "(I)Z" } : Jvm.MethodName) prog_1_method_3_code (2 : Nat) (Option.some Jvm.ClassFile.FieldType.boolean)]
set_option maxRecDepth 65536 in
theorem codes_eq : words1.filter isCode = codes1 := rfl
theorem w_codes : ∀ c ∈ words1.filter isCode, c.before args0 about1 = true := by
  rw [codes_eq]
  intro c hc
  simp only [codes1, List.mem_cons, List.not_mem_nil, or_false] at hc
  rcases hc with rfl | rfl | rfl | rfl | rfl
  · exact w_c0
  · exact w_c1
  · exact w_c2
  · exact w_c3
  · exact w_c4
set_option maxRecDepth 65536 in
theorem w_t1 : words1.all (fun c => isCode c || c.before args0 about1) = true := by decide +kernel
theorem w_tables : (allAtoms (Jvm.Cond.code x code maxLocals ret :: tables_1)).before args0 about1 = true := by
  rw [allAtoms_all]
  show words1.all (fun c => c.before args0 about1) = true
  refine all_split ?_ w_codes
  rw [w_t1]
set_option maxRecDepth 65536 in
theorem w_case : (Jvm.Cond.and given_1 narrow_1).before args0 about1 = true := by decide +kernel
theorem w_applies : (headSpec (Jvm.Cond.code x code maxLocals ret :: tables_1) room_1).applies x e0.platform about1 = true :=
  (Spec.applies_iff w_frames).mpr ⟨w_running, w_runnable, w_alone, w_named, w_hears, w_ripe, w_room, w_tables⟩
theorem atStart : AtStart classFile x code maxLocals ret World_1 tables_1 room_1 Calls_1 rest_1 Pre_1 launch0 p0 e0 about1 theMethod args0 below0 :=
  ⟨lists_1, trivial, launch0.admits_env _ _ _, launch0.least_env, fairChoices_fair.cas, fairChoices_fair.clock, w_frames, w_args, w_heap, w_applies, trivial, trivial, w_case⟩
end start1
theorem witness_1 : WitnessClaimed_1 := ⟨start1.p0, start1.e0, start1.about1, start1.theMethod, start1.args0, start1.below0, start1.atStart⟩
end Jvm.Pilot.@@N@@
