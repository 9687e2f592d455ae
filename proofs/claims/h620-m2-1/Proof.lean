import JvmDerived
import JvmDerived.Pilot.@@N@@Statement
import JvmDerived.Pilot.@@N@@Code
set_option linter.unusedVariables false
set_option linter.unusedSimpArgs false
namespace Jvm.RoadKit
open Sem ClassFile Op Lib Jvm.Stand Jvm.Free Jvm.LawKit
section New
variable {p : Program} {l : Launch} {e : Env} {R : Room} {s : State} {m : MethodId} {args : Array Value} {below : List Frame} {meth : Method} {c : Code} {T : State} {locs : List Loc} {cells slots : Nat}
theorem retI (X : Stand p l e R s m args below meth c T locs cells slots) (hx : p.tables.exec = Jvm.exec) {pc : Nat} {Ls : Array Slot} {z : Int32} {rest : List Value} (hret : meth.sig.returnType = some .int) (hd : decode c.code pc = .ok (.ireturn, 1)) {fs : List Frame}
    (hl : ∀ (f : JFrame) (acts : List Action), f.method = m → f.locked = none → f.entered = [] → (doReturn e (T.setTop f) acts (some (.int z))).1 = T.setFrames fs) : Steps p.tables e below (T.setTop (mkF m pc Ls (.int z :: rest))) (T.setFrames fs) := by
  have hm' : T.vm.method? m = some meth := X.method'
  have hn : narrow .int (.int z) = .int z := rfl
  show Steps p.tables e below (T.setTop { method := m, pc := pc, locals := Ls, stack := _ :: rest, locked := none }) _
  jvm_step X.here [X.here.top, hx, hd, hm', hret, hn]
  first | (intro acts; rw [hl _ acts rfl rfl rfl]) | rw [hl _ _ rfl rfl rfl]
  exact Steps.refl _
end New
/-! the walk in continuation form: from the state T at the frame f the run ends by a return, as Q says -/
section Own
variable {p : Program} {l : Launch} {e : Env} {R : Room} {s : State} {m : MethodId} {args : Array Value} {below : List Frame} {meth : Method} {c : Code} {T T' : State} {locs : List Loc} {cells slots k n : Nat} {Q : Option Value → Heap → List Loc → Prop} {f f' : JFrame}
def ownE (p : Program) (e : Env) (below : List Frame) (s : State) (Q : Option Value → Heap → List Loc → Prop) (k n : Nat) (T : State) (f : JFrame) : Prop :=
  ∃ s₂ o, Steps p.tables e below (T.setTop f) s₂ ∧ s₂.status = .running ∧ Ended s₂ below o ∧ ∃ v L, o = .returned v ∧ Q v s₂.heap L ∧ FrameEnd s o s₂ L k n
theorem ownE.go (g : ∀ t, Steps p.tables e below (T'.setTop f') t → Steps p.tables e below (T.setTop f) t) (h : ownE p e below s Q k n T' f') : ownE p e below s Q k n T f := by
  obtain ⟨s₂, o, h1, r⟩ := h
  exact ⟨s₂, o, g _ h1, r⟩
theorem ownE.goS (g : Steps p.tables e below (T.setTop f) (T'.setTop f')) (h : ownE p e below s Q k n T' f') : ownE p e below s Q k n T f := by
  obtain ⟨s₂, o, h1, r⟩ := h
  exact ⟨s₂, o, g.trans h1, r⟩
theorem ownE.ret (X : Stand p l e R s m args below meth c T locs cells slots) {v : Option Value} (hlk : meth.locks = false) (hv : meth.sig.returnType = none → v = none)
    (st : ∀ fs, (∀ (f : JFrame) (acts : List Action), f.method = m → f.locked = none → f.entered = [] → (doReturn e (T.setTop f) acts v).1 = T.setFrames fs) → Steps p.tables e below (T.setTop f) (T.setFrames fs))
    (hQ : Q v T.heap locs) (hk : cells ≤ k) (hn : slots ≤ n) : ownE p e below s Q k n T f := by
  obtain ⟨fs, hr, hrun, hended, hW, hsame⟩ := X.leave (v := v) hv hlk
  exact ⟨_, _, st fs hr, hrun, hended, _, _, rfl, hQ, ⟨_, rfl⟩, hW, hsame.mono hk hn⟩
theorem ownE.retI (X : Stand p l e R s m args below meth c T locs cells slots) (hx : p.tables.exec = Jvm.exec) (hlk : meth.locks = false) {pc : Nat} {Ls : Array Slot} {z : Int32} {rest : List Value} (hret : meth.sig.returnType = some .int) (hd : decode c.code pc = .ok (.ireturn, 1))
    (hQ : Q (some (.int z)) T.heap locs) (hk : cells ≤ k) (hn : slots ≤ n) : ownE p e below s Q k n T (mkF m pc Ls (.int z :: rest)) :=
  ownE.ret X hlk (fun h => by rw [hret] at h; cases h) (fun fs hr => Jvm.RoadKit.retI X hx hret hd hr) hQ hk hn
theorem ownE.retN (X : Stand p l e R s m args below meth c T locs cells slots) (hx : p.tables.exec = Jvm.exec) (hlk : meth.locks = false) {pc : Nat} {Ls : Array Slot} {z : Int32} {rest : List Value} {t : FieldType} (hret : meth.sig.returnType = some t) (ht : t = .boolean ∨ t = .byte ∨ t = .char ∨ t = .short) (hd : decode c.code pc = .ok (.ireturn, 1))
    (hQ : Q (some (.int (nar t z))) T.heap locs) (hk : cells ≤ k) (hn : slots ≤ n) : ownE p e below s Q k n T (mkF m pc Ls (.int z :: rest)) :=
  ownE.ret X hlk (fun h => by rw [hret] at h; cases h) (fun fs hr => Jvm.RoadKit.retN X hx hret ht hd hr) hQ hk hn
theorem ownE.retL (X : Stand p l e R s m args below meth c T locs cells slots) (hx : p.tables.exec = Jvm.exec) (hlk : meth.locks = false) {pc : Nat} {Ls : Array Slot} {z : Int64} {rest : List Value} (hret : meth.sig.returnType = some .long) (hd : decode c.code pc = .ok (.lreturn, 1))
    (hQ : Q (some (.long z)) T.heap locs) (hk : cells ≤ k) (hn : slots ≤ n) : ownE p e below s Q k n T (mkF m pc Ls (.long z :: rest)) :=
  ownE.ret X hlk (fun h => by rw [hret] at h; cases h) (fun fs hr => Jvm.RoadKit.retOut X hx hret rfl (Or.inr (Or.inl ⟨rfl, rfl, z, rfl⟩)) hd hr) hQ hk hn
theorem ownE.retA (X : Stand p l e R s m args below meth c T locs cells slots) (hx : p.tables.exec = Jvm.exec) (hlk : meth.locks = false) {pc : Nat} {Ls : Array Slot} {z : Value} {rest : List Value} {t : FieldType} (hret : meth.sig.returnType = some t) (ht : t.isReference = true) (hz : z.isRef = true) (hn' : narrow t z = z) (hd : decode c.code pc = .ok (.areturn, 1))
    (hQ : Q (some z) T.heap locs) (hk : cells ≤ k) (hn : slots ≤ n) : ownE p e below s Q k n T (mkF m pc Ls (z :: rest)) :=
  ownE.ret X hlk (fun h => by rw [hret] at h; cases h) (fun fs hr => Jvm.RoadKit.retOut X hx hret hn' (Or.inr (Or.inr (Or.inr (Or.inr ⟨rfl, ht, hz⟩)))) hd hr) hQ hk hn
theorem ownE.retV (X : Stand p l e R s m args below meth c T locs cells slots) (hx : p.tables.exec = Jvm.exec) (hlk : meth.locks = false) {pc : Nat} {Ls : Array Slot} (hret : meth.sig.returnType = none) (hd : decode c.code pc = .ok (.return_, 1))
    (hQ : Q none T.heap locs) (hk : cells ≤ k) (hn : slots ≤ n) : ownE p e below s Q k n T (mkF m pc Ls []) :=
  ownE.ret X hlk (fun _ => rfl) (fun fs hr => X.returnOut hx hret hd hr) hQ hk hn
end Own
theorem own_selP {s : State} {args : Array Value} {y : MethodName} {n : Nat} (wi : (Cond.instantiable y.cls n).before args s = true) (hi : (Cond.instanceMethod y).before args s = true) (hp : s.PrivateAt y) (hy : y.cls ≠ "java/lang/invoke/MethodHandle" ∧ y.cls ≠ "java/lang/invoke/VarHandle") : (Cond.selects y.cls y y).before args s = true := by
  obtain ⟨c, k, h1, h2, -, h4, -⟩ := Cond.instantiable_spec wi
  exact selects_self_of_private h1 h2 (by simp at h4; exact h4.1) hp hi hy
end Jvm.RoadKit
namespace Jvm.Pilot.@@N@@
open Jvm Jvm.ClassFile Sem Op Lib Jvm.Free Jvm.Stand Jvm.LawKit Jvm.RoadKit Bundle Jvm.Pilot.@@N@@.Jvm.D
theorem own_d2_0 : decode jdk_30_method_1_code 0 = .ok (.aload_n 0, 1) := by decide +kernel
theorem own_d2_1 : decode jdk_30_method_1_code 1 = .ok (.invokespecial 1, 3) := by decide +kernel
theorem own_d2_4 : decode jdk_30_method_1_code 4 = .ok (.return_, 1) := by decide +kernel
theorem own_pn0 : plainName "java/lang/Record" = true := by first | (simp [plainName, overriddenIn]; done) | decide +kernel
theorem own_ef2 (m : MethodId) (x0 : Addr) : entryFrame m #[(.ref x0)] 1 = mkF m 0 #[.val (.ref x0)] [] := by first | (simp [entryFrame, mkF, argsToLocals, Value.category]; done) | rfl
def own_Q2 (Z : State) (r0 : Addr) (h0 : Heap) (n0 : Nat) (v : Option Value) (h : Heap) (L : List Loc) : Prop := v = none ∧ Fr n0 L ∧ h = h0
set_option maxRecDepth 65536 in
set_option maxHeartbeats 40000000 in
theorem own_rm2 (l : Launch) (Z : State) (a0 : Array Value) (hw : ∀ d ∈ tables_1, d.before a0 Z = true) (ws : List Jvm.Cond) (r0 : Addr) (h0 : Heap) (n0 : Nat) (Z0 : n0 ≤ h0.size) :
    MetFree l (⟨"java/lang/Record", "<init>", "()V"⟩ : MethodName) (head1 (Jvm.Cond.code (⟨"java/lang/Record", "<init>", "()V"⟩ : MethodName) jdk_30_method_1_code 1 none :: ws) ({ frames := 1, cells := 0, slots := 0, locals := 12 } : Room)) (fun a U => a = #[(.ref r0)] ∧ Z.Warmed39 U.vm ∧ U.heap = h0) (fun _ _ _ _ _ => True) (fun _ U o U' => ∃ v L, o = .returned v ∧ own_Q2 Z r0 h0 n0 v U'.heap L ∧ FrameEnd U o U' L ({ frames := 1, cells := 0, slots := 0, locals := 12 } : Room).cells ({ frames := 1, cells := 0, slots := 0, locals := 12 } : Room).slots) := by
  refine MetFree.of_bodySF (plainFor_of_name own_pn0) hisR ?_
  intro p e s m args below meth c s₁ Bd hml0 hP hK
  obtain ⟨rfl, hZ, hh⟩ := hP
  have hx := Bd.exec
  have hby := Bd.bytes
  have hret := Bd.returns
  have hlk := BodyLoose.notSynchronized Bd
  have hml : c.maxLocals = 1 := hml0
  have hown : s.vm.findClass "java/lang/Record" = some m.cls := findClass_of_methodNamed Bd.named
  have hnm := (name_of_methodNamed Bd.named Bd.method).1
  have X0 : Stand p l e ({ frames := 1, cells := 0, slots := 0, locals := 12 } : Room) s m #[(.ref r0)] below meth c s₁ [] 0 0 := Stand.of_body Bd
  have e0 : s₁.heap = h0 := by rw [← hh, Bd.state]; rfl
  have N0 := Fr.nil n0
  have K0 : Keep h0 h0 [] := Keep.refl h0 _
  show ownE p e below s (own_Q2 Z r0 h0 n0) ({ frames := 1, cells := 0, slots := 0, locals := 12 } : Room).cells ({ frames := 1, cells := 0, slots := 0, locals := 12 } : Room).slots s₁ (entryFrame m #[(.ref r0)] 1)
  rw [own_ef2]
  refine ownE.go (T' := s₁) (f' := (mkF m 1 #[.val (.ref r0)] [(.ref r0)])) (fun t kt => ?_) ?_
  · show Steps p.tables e below (s₁.setTop (mkF m 0 #[.val (.ref r0)] [])) _
    refine XS.aloadN X0.here hx rfl (hb hby own_d2_0) rfl rfl ?_
    exact kt
  obtain ⟨T1, X1, e1, st1⟩ := initO X0 hx hZ hown (hw _ (List.mem_of_getElem? (i := 12) rfl)) (hw _ (List.mem_of_getElem? (i := 13) rfl)) (hw _ (List.mem_of_getElem? (i := 14) rfl)) e0 (g := (mkF m 1 #[.val (.ref r0)] [(.ref r0)])) rfl (by rw [hml]; rfl) rfl (hb hby own_d2_1) (by decide) (W := 0) (by show 2 * 0 + _ ≤ _; exact Nat.le_of_eq rfl) (by decide)
  refine ownE.go (T' := T1) (f' := (mkF m 4 #[.val (.ref r0)] [])) st1 ?_
  refine ownE.retV X1 hx hlk hret (hb hby own_d2_4) ?_ (by decide) (by decide)
  show own_Q2 Z r0 h0 n0 _ T1.heap _
  rw [e1]
  exact ⟨rfl, N0, rfl⟩
theorem own_pd1 : parseMethodDescriptor "()V" = some ⟨[], none⟩ := by decide +kernel
theorem own_d1_0 : decode prog_9_method_1_code 0 = .ok (.aload_n 0, 1) := by decide +kernel
theorem own_d1_1 : decode prog_9_method_1_code 1 = .ok (.invokespecial 5, 3) := by decide +kernel
theorem own_d1_4 : decode prog_9_method_1_code 4 = .ok (.aload_n 0, 1) := by decide +kernel
theorem own_d1_5 : decode prog_9_method_1_code 5 = .ok (.lload_n 1, 1) := by decide +kernel
theorem own_d1_6 : decode prog_9_method_1_code 6 = .ok (.putfield 11, 3) := by decide +kernel
theorem own_d1_9 : decode prog_9_method_1_code 9 = .ok (.aload_n 0, 1) := by decide +kernel
theorem own_d1_10 : decode prog_9_method_1_code 10 = .ok (.lload_n 3, 1) := by decide +kernel
theorem own_d1_11 : decode prog_9_method_1_code 11 = .ok (.putfield 15, 3) := by decide +kernel
theorem own_d1_14 : decode prog_9_method_1_code 14 = .ok (.return_, 1) := by decide +kernel
theorem own_pn2 : plainName "com/example/marrow/marrow/BsonDecimal128" = true := by first | (simp [plainName, overriddenIn]; done) | decide +kernel
theorem own_ef1 (m : MethodId) (x0 : Addr) (x1 : Int64) (x2 : Int64) : entryFrame m #[(.ref x0), (.long x1), (.long x2)] 5 = mkF m 0 #[.val (.ref x0), .val (.long x1), .second, .val (.long x2), .second] [] := by first | (simp [entryFrame, mkF, argsToLocals, Value.category]; done) | rfl
def own_Q1 (Z : State) (r0 : Addr) (j1 : Int64) (j2 : Int64) (h0 : Heap) (n0 : Nat) (v : Option Value) (h : Heap) (L : List Loc) : Prop := v = none ∧ Fr n0 L ∧ Keep h0 h [r0] ∧ Exa Z h r0 "com/example/marrow/marrow/BsonDecimal128" ∧ Fld Z h r0 "com/example/marrow/marrow/BsonDecimal128" "high" "J" (.long j1) ∧ Fld Z h r0 "com/example/marrow/marrow/BsonDecimal128" "low" "J" (.long j2)
set_option maxRecDepth 65536 in
set_option maxHeartbeats 40000000 in
theorem own_rm1 (l : Launch) (Z : State) (a0 : Array Value) (hw : ∀ d ∈ tables_1, d.before a0 Z = true) (ws : List Jvm.Cond) (r0 : Addr) (j1 : Int64) (j2 : Int64) (h0 : Heap) (n0 : Nat) (Z0 : n0 ≤ h0.size) (P0 : Fld Z h0 r0 "com/example/marrow/marrow/BsonDecimal128" "high" "J" (.long (0 : Int64))) (P1 : Fld Z h0 r0 "com/example/marrow/marrow/BsonDecimal128" "low" "J" (.long (0 : Int64))) (P2 : Exa Z h0 r0 "com/example/marrow/marrow/BsonDecimal128") (P3 : n0 ≤ r0) :
    MetFree l (⟨"com/example/marrow/marrow/BsonDecimal128", "<init>", "(JJ)V"⟩ : MethodName) (head1 (Jvm.Cond.code (⟨"com/example/marrow/marrow/BsonDecimal128", "<init>", "(JJ)V"⟩ : MethodName) prog_9_method_1_code 5 none :: ws) ({ frames := 2, cells := 0, slots := 0, locals := 24 } : Room)) (fun a U => a = #[(.ref r0), (.long j1), (.long j2)] ∧ Z.Warmed39 U.vm ∧ U.heap = h0) (fun _ _ _ _ _ => True) (fun _ U o U' => ∃ v L, o = .returned v ∧ own_Q1 Z r0 j1 j2 h0 n0 v U'.heap L ∧ FrameEnd U o U' L ({ frames := 2, cells := 0, slots := 0, locals := 24 } : Room).cells ({ frames := 2, cells := 0, slots := 0, locals := 24 } : Room).slots) := by
  refine MetFree.of_bodySF (plainFor_of_name own_pn2) hisR ?_
  intro p e s m args below meth c s₁ Bd hml0 hP hK
  obtain ⟨rfl, hZ, hh⟩ := hP
  have hx := Bd.exec
  have hby := Bd.bytes
  have hret := Bd.returns
  have hlk := BodyLoose.notSynchronized Bd
  have hml : c.maxLocals = 5 := hml0
  have hown : s.vm.findClass "com/example/marrow/marrow/BsonDecimal128" = some m.cls := findClass_of_methodNamed Bd.named
  have hnm := (name_of_methodNamed Bd.named Bd.method).1
  have X0 : Stand p l e ({ frames := 2, cells := 0, slots := 0, locals := 24 } : Room) s m #[(.ref r0), (.long j1), (.long j2)] below meth c s₁ [] 0 0 := Stand.of_body Bd
  have e0 : s₁.heap = h0 := by rw [← hh, Bd.state]; rfl
  have N0 := Fr.nil n0
  have K0 : Keep h0 h0 [r0] := Keep.refl h0 _
  show ownE p e below s (own_Q1 Z r0 j1 j2 h0 n0) ({ frames := 2, cells := 0, slots := 0, locals := 24 } : Room).cells ({ frames := 2, cells := 0, slots := 0, locals := 24 } : Room).slots s₁ (entryFrame m #[(.ref r0), (.long j1), (.long j2)] 5)
  rw [own_ef1]
  refine ownE.go (T' := s₁) (f' := (mkF m 1 #[.val (.ref r0), .val (.long j1), .second, .val (.long j2), .second] [(.ref r0)])) (fun t kt => ?_) ?_
  · show Steps p.tables e below (s₁.setTop (mkF m 0 #[.val (.ref r0), .val (.long j1), .second, .val (.long j2), .second] [])) _
    refine XS.aloadN X0.here hx rfl (hb hby own_d1_0) rfl rfl ?_
    exact kt
  obtain ⟨_, _, ⟨T1, L1, k1, n1⟩, -, X1, ⟨Lc1, hQ1, l1, y1, z1⟩, st1⟩ := X0.specialBack hx (y := (⟨"java/lang/Record", "<init>", "()V"⟩ : MethodName)) rfl hown (mvT hZ (hw _ (List.mem_of_getElem? (i := 7) rfl))) (mvT hZ (hw _ (List.mem_of_getElem? (i := 8) rfl))) (mvT hZ (hw _ (List.mem_of_getElem? (i := 11) rfl))) (by decide) (backOf (W := 0) (own_rm2 l Z a0 hw [] r0 h0 n0 (Nat.le_trans Z0 K0.1) ) hZ (hw _ (List.mem_of_getElem? (i := 11) rfl)) (hw _ (List.mem_of_getElem? (i := 10) rfl)) (by decide) (by decide)) (g := (mkF m 1 #[.val (.ref r0), .val (.long j1), .second, .val (.long j2), .second] [(.ref r0)])) rfl (by rw [hml]; rfl) (Steps.refl _) (a := r0) (argsL := []) (rest := []) (lenOf own_pd1 rfl) rfl (by show 2 * 0 + _ ≤ _; exact Nat.le_of_eq rfl) (hb hby own_d1_1) (fun _ _ => ⟨rfl, e0, (by decide : 0 + 0 ≤ _), (by decide : 0 + 0 ≤ _)⟩)
  dsimp only [Pt.U, Pt.locs, Pt.cells, Pt.slots] at X1 l1 y1 z1 st1 hQ1
  subst l1 y1 z1
  obtain ⟨rfl, N1q, e1⟩ := hQ1
  have N1 := Fr.app N0 N1q
  refine ownE.goS (T' := T1) (f' := (mkF m 4 #[.val (.ref r0), .val (.long j1), .second, .val (.long j2), .second] [])) st1 ?_
  refine ownE.go (T' := T1) (f' := (mkF m 6 #[.val (.ref r0), .val (.long j1), .second, .val (.long j2), .second] [(.long j1), (.ref r0)])) (fun t kt => ?_) ?_
  · show Steps p.tables e below (T1.setTop (mkF m 4 #[.val (.ref r0), .val (.long j1), .second, .val (.long j2), .second] [])) _
    refine XS.aloadN X1.here hx rfl (hb hby own_d1_4) rfl rfl ?_
    show Steps p.tables e below (T1.setTop (mkF m 5 #[.val (.ref r0), .val (.long j1), .second, .val (.long j2), .second] [(.ref r0)])) _
    refine XS.lloadN X1.here hx rfl (hb hby own_d1_5) rfl ?_
    exact kt
  obtain ⟨T2, h2, X2, e2, W2, st2⟩ := putF X1 hx hZ hown (host := "") (Or.inl (hw _ (List.mem_of_getElem? (i := 15) rfl))) Via.refl e1 P0 P2 (Or.inr ⟨(hw _ (List.mem_of_getElem? (i := 16) rfl)), rfl, hnm⟩) (hw _ (List.mem_of_getElem? (i := 2) rfl)) (ty := .long) (by decide) rfl rfl (g := (mkF m 6 #[.val (.ref r0), .val (.long j1), .second, .val (.long j2), .second] [(.long j1), (.ref r0)])) rfl rfl (hb hby own_d1_6)
  have Fw2 : Fld Z h2 r0 "com/example/marrow/marrow/BsonDecimal128" "high" "J" (.long j1) := P0.same W2
  have cFld_r0_low_2 : Fld Z h2 r0 "com/example/marrow/marrow/BsonDecimal128" "low" "J" (.long (0 : Int64)) := P1.other W2 (Or.inr (slot_ne (Or.inr (hw _ (List.mem_of_getElem? (i := 18) rfl))) (Or.inr (hw _ (List.mem_of_getElem? (i := 16) rfl))) (by decide) (t := .long) (t' := .long) (by decide) (by decide)))
  have cExa_r0_2 : Exa Z h2 r0 "com/example/marrow/marrow/BsonDecimal128" := P2.wr W2
  have K2 : Keep h0 h2 [r0] := K0.wr W2 (Or.inl (List.mem_of_getElem? (i := 0) rfl))
  have N2 := Fr.snoc X2 N1 P3
  refine ownE.go (T' := T2) (f' := (mkF m 9 #[.val (.ref r0), .val (.long j1), .second, .val (.long j2), .second] [])) st2 ?_
  refine ownE.go (T' := T2) (f' := (mkF m 11 #[.val (.ref r0), .val (.long j1), .second, .val (.long j2), .second] [(.long j2), (.ref r0)])) (fun t kt => ?_) ?_
  · show Steps p.tables e below (T2.setTop (mkF m 9 #[.val (.ref r0), .val (.long j1), .second, .val (.long j2), .second] [])) _
    refine XS.aloadN X2.here hx rfl (hb hby own_d1_9) rfl rfl ?_
    show Steps p.tables e below (T2.setTop (mkF m 10 #[.val (.ref r0), .val (.long j1), .second, .val (.long j2), .second] [(.ref r0)])) _
    refine XS.lloadN X2.here hx rfl (hb hby own_d1_10) rfl ?_
    exact kt
  obtain ⟨T3, h3, X3, e3, W3, st3⟩ := putF X2 hx hZ hown (host := "") (Or.inl (hw _ (List.mem_of_getElem? (i := 17) rfl))) Via.refl e2 cFld_r0_low_2 cExa_r0_2 (Or.inr ⟨(hw _ (List.mem_of_getElem? (i := 18) rfl)), rfl, hnm⟩) (hw _ (List.mem_of_getElem? (i := 2) rfl)) (ty := .long) (by decide) rfl rfl (g := (mkF m 11 #[.val (.ref r0), .val (.long j1), .second, .val (.long j2), .second] [(.long j2), (.ref r0)])) rfl rfl (hb hby own_d1_11)
  have Fw3 : Fld Z h3 r0 "com/example/marrow/marrow/BsonDecimal128" "low" "J" (.long j2) := cFld_r0_low_2.same W3
  have cFld_r0_high_3 : Fld Z h3 r0 "com/example/marrow/marrow/BsonDecimal128" "high" "J" (.long j1) := Fw2.other W3 (Or.inr (slot_ne (Or.inr (hw _ (List.mem_of_getElem? (i := 16) rfl))) (Or.inr (hw _ (List.mem_of_getElem? (i := 18) rfl))) (by decide) (t := .long) (t' := .long) (by decide) (by decide)))
  have cExa_r0_3 : Exa Z h3 r0 "com/example/marrow/marrow/BsonDecimal128" := cExa_r0_2.wr W3
  have K3 : Keep h0 h3 [r0] := K2.wr W3 (Or.inl (List.mem_of_getElem? (i := 0) rfl))
  have N3 := Fr.snoc X3 N2 P3
  refine ownE.go (T' := T3) (f' := (mkF m 14 #[.val (.ref r0), .val (.long j1), .second, .val (.long j2), .second] [])) st3 ?_
  refine ownE.retV X3 hx hlk hret (hb hby own_d1_14) ?_ (by decide) (by decide)
  show own_Q1 Z r0 j1 j2 h0 n0 _ T3.heap _
  rw [e3]
  exact ⟨rfl, N3, K3, cExa_r0_3, cFld_r0_high_3, Fw3⟩
theorem own_d4_0 : decode prog_9_method_4_code 0 = .ok (.aload_n 0, 1) := by decide +kernel
theorem own_d4_1 : decode prog_9_method_4_code 1 = .ok (.getfield 11, 3) := by decide +kernel
theorem own_d4_4 : decode prog_9_method_4_code 4 = .ok (.ldc2_w 58, 3) := by decide +kernel
theorem own_d4_7 : decode prog_9_method_4_code 7 = .ok (.land, 1) := by decide +kernel
theorem own_d4_8 : decode prog_9_method_4_code 8 = .ok (.ldc2_w 58, 3) := by decide +kernel
theorem own_d4_11 : decode prog_9_method_4_code 11 = .ok (.lcmp, 1) := by decide +kernel
theorem own_d4_12 : decode prog_9_method_4_code 12 = .ok (.ifCond .ne 7, 3) := by decide +kernel
theorem own_d4_15 : decode prog_9_method_4_code 15 = .ok (.iconst 1, 1) := by decide +kernel
theorem own_d4_16 : decode prog_9_method_4_code 16 = .ok (.goto 4, 3) := by decide +kernel
theorem own_d4_19 : decode prog_9_method_4_code 19 = .ok (.iconst 0, 1) := by decide +kernel
theorem own_d4_20 : decode prog_9_method_4_code 20 = .ok (.ireturn, 1) := by decide +kernel
theorem own_ef4 (m : MethodId) (x0 : Addr) : entryFrame m #[(.ref x0)] 1 = mkF m 0 #[.val (.ref x0)] [] := by first | (simp [entryFrame, mkF, argsToLocals, Value.category]; done) | rfl
def own_f4 (hi : Int64) : Int32 :=
  if (hi &&& (8935141660703064064 : Int64)) = (8935141660703064064 : Int64) then
    (1 : Int32)
  else
    (0 : Int32)
def own_Q4 (Z : State) (r0 : Addr) (hi : Int64) (h0 : Heap) (n0 : Nat) (v : Option Value) (h : Heap) (L : List Loc) : Prop := v = some (.int (own_f4 hi)) ∧ Fr n0 L ∧ h = h0
set_option maxRecDepth 65536 in
set_option maxHeartbeats 40000000 in
theorem own_rm4 (l : Launch) (Z : State) (a0 : Array Value) (hw : ∀ d ∈ tables_1, d.before a0 Z = true) (ws : List Jvm.Cond) (r0 : Addr) (hi : Int64) (h0 : Heap) (n0 : Nat) (Z0 : n0 ≤ h0.size) (P0 : Fld Z h0 r0 "com/example/marrow/marrow/BsonDecimal128" "high" "J" (.long hi)) :
    MetFree l (⟨"com/example/marrow/marrow/BsonDecimal128", "isNaN", "()Z"⟩ : MethodName) (head1 (Jvm.Cond.code (⟨"com/example/marrow/marrow/BsonDecimal128", "isNaN", "()Z"⟩ : MethodName) prog_9_method_4_code 1 (some .boolean) :: ws) ({ frames := 0, cells := 0, slots := 0, locals := 0 } : Room)) (fun a U => a = #[(.ref r0)] ∧ Z.Warmed39 U.vm ∧ U.heap = h0) (fun _ _ _ _ _ => True) (fun _ U o U' => ∃ v L, o = .returned v ∧ own_Q4 Z r0 hi h0 n0 v U'.heap L ∧ FrameEnd U o U' L ({ frames := 0, cells := 0, slots := 0, locals := 0 } : Room).cells ({ frames := 0, cells := 0, slots := 0, locals := 0 } : Room).slots) := by
  refine MetFree.of_bodySF (plainFor_of_name own_pn2) hisR ?_
  intro p e s m args below meth c s₁ Bd hml0 hP hK
  obtain ⟨rfl, hZ, hh⟩ := hP
  have hx := Bd.exec
  have hby := Bd.bytes
  have hret := Bd.returns
  have hlk := BodyLoose.notSynchronized Bd
  have hml : c.maxLocals = 1 := hml0
  have hown : s.vm.findClass "com/example/marrow/marrow/BsonDecimal128" = some m.cls := findClass_of_methodNamed Bd.named
  have hnm := (name_of_methodNamed Bd.named Bd.method).1
  have X0 : Stand p l e ({ frames := 0, cells := 0, slots := 0, locals := 0 } : Room) s m #[(.ref r0)] below meth c s₁ [] 0 0 := Stand.of_body Bd
  have e0 : s₁.heap = h0 := by rw [← hh, Bd.state]; rfl
  have N0 := Fr.nil n0
  have K0 : Keep h0 h0 [] := Keep.refl h0 _
  show ownE p e below s (own_Q4 Z r0 hi h0 n0) ({ frames := 0, cells := 0, slots := 0, locals := 0 } : Room).cells ({ frames := 0, cells := 0, slots := 0, locals := 0 } : Room).slots s₁ (entryFrame m #[(.ref r0)] 1)
  rw [own_ef4]
  refine ownE.go (T' := s₁) (f' := (mkF m 1 #[.val (.ref r0)] [(.ref r0)])) (fun t kt => ?_) ?_
  · show Steps p.tables e below (s₁.setTop (mkF m 0 #[.val (.ref r0)] [])) _
    refine XS.aloadN X0.here hx rfl (hb hby own_d4_0) rfl rfl ?_
    exact kt
  obtain ⟨T1, X1, e1, st1⟩ := getF X0 hx hZ hown (host := "") (Or.inl (hw _ (List.mem_of_getElem? (i := 15) rfl))) Via.refl e0 P0 (g := (mkF m 1 #[.val (.ref r0)] [(.ref r0)])) rfl rfl (hb hby own_d4_1)
  refine ownE.go (T' := T1) (f' := (mkF m 4 #[.val (.ref r0)] [(.long hi)])) st1 ?_
  refine ownE.go (T' := T1) (f' := (mkF m 12 #[.val (.ref r0)] [(.int (Jvm.Free.XT.cmpL (hi &&& (8935141660703064064 : Int64)) (8935141660703064064 : Int64)))])) (fun t kt => ?_) ?_
  · show Steps p.tables e below (T1.setTop (mkF m 4 #[.val (.ref r0)] [(.long hi)])) _
    refine X1.ldc2Long hx hown (mvT hZ (hw _ (List.mem_of_getElem? (i := 25) rfl))) (g := (mkF m 4 #[.val (.ref r0)] [(.long hi)])) rfl (hb hby own_d4_4) _ ?_
    show Steps p.tables e below (T1.setTop (mkF m 7 #[.val (.ref r0)] [(.long (8935141660703064064 : Int64)), (.long hi)])) _
    refine XS.land X1.here hx rfl (hb hby own_d4_7) rfl ?_
    show Steps p.tables e below (T1.setTop (mkF m 8 #[.val (.ref r0)] [(.long (hi &&& (8935141660703064064 : Int64)))])) _
    refine X1.ldc2Long hx hown (mvT hZ (hw _ (List.mem_of_getElem? (i := 25) rfl))) (g := (mkF m 8 #[.val (.ref r0)] [(.long (hi &&& (8935141660703064064 : Int64)))])) rfl (hb hby own_d4_8) _ ?_
    show Steps p.tables e below (T1.setTop (mkF m 11 #[.val (.ref r0)] [(.long (8935141660703064064 : Int64)), (.long (hi &&& (8935141660703064064 : Int64)))])) _
    refine XS.lcmp X1.here hx rfl (hb hby own_d4_11) rfl ?_
    exact kt
  by_cases hc2 : (hi &&& (8935141660703064064 : Int64)) = (8935141660703064064 : Int64)
  · -- pc 12
    refine ownE.go (T' := T1) (f' := (mkF m 15 #[.val (.ref r0)] [])) (fun t kt => XS.ifNo (g := (mkF m 12 #[.val (.ref r0)] [(.int (Jvm.Free.XT.cmpL (hi &&& (8935141660703064064 : Int64)) (8935141660703064064 : Int64)))])) X1.here hx rfl (hb hby own_d4_12) rfl (Jvm.Free.XT.ll_ne_f hc2) kt) ?_
    refine ownE.go (T' := T1) (f' := (mkF m 20 #[.val (.ref r0)] [(.int (1 : Int32))])) (fun t kt => ?_) ?_
    · show Steps p.tables e below (T1.setTop (mkF m 15 #[.val (.ref r0)] [])) _
      refine XS.iconst X1.here hx rfl (hb hby own_d4_15) ?_
      show Steps p.tables e below (T1.setTop (mkF m 16 #[.val (.ref r0)] [(.int (1 : Int32))])) _
      refine XS.goto X1.here hx rfl (pc0 := 16) (pc' := 20) rfl (hb hby own_d4_16) (by decide) (by decide) ?_
      exact kt
    refine ownE.retN X1 hx hlk (t := .boolean) hret (by simp) (hb hby own_d4_20) ?_ (by decide) (by decide)
    show own_Q4 Z r0 hi h0 n0 _ T1.heap _
    rw [e1]
    exact ⟨(by rw [own_f4, if_pos hc2] <;> first | rfl | decide), N0, rfl⟩
  · -- pc 12
    refine ownE.go (T' := T1) (f' := (mkF m 19 #[.val (.ref r0)] [])) (fun t kt => XS.ifYes (g := (mkF m 12 #[.val (.ref r0)] [(.int (Jvm.Free.XT.cmpL (hi &&& (8935141660703064064 : Int64)) (8935141660703064064 : Int64)))])) X1.here hx rfl (pc0 := 12) (pc' := 19) rfl (hb hby own_d4_12) rfl (Jvm.Free.XT.ll_ne_t hc2) (by decide) (by decide) kt) ?_
    refine ownE.go (T' := T1) (f' := (mkF m 20 #[.val (.ref r0)] [(.int (0 : Int32))])) (fun t kt => ?_) ?_
    · show Steps p.tables e below (T1.setTop (mkF m 19 #[.val (.ref r0)] [])) _
      refine XS.iconst X1.here hx rfl (hb hby own_d4_19) ?_
      exact kt
    refine ownE.retN X1 hx hlk (t := .boolean) hret (by simp) (hb hby own_d4_20) ?_ (by decide) (by decide)
    show own_Q4 Z r0 hi h0 n0 _ T1.heap _
    rw [e1]
    exact ⟨(by rw [own_f4, if_neg hc2] <;> first | rfl | decide), N0, rfl⟩
def own_j0_61_L5 (j0 : Int64) (j1 : Int64) (i2 : Int32) : Int64 :=
  if (i2 &&& (3 : Int32)) = (1 : Int32) then
    (j0 ||| (8935141660703064064 : Int64))
  else
    if (i2 &&& (3 : Int32)) = (2 : Int32) then
      ((j0 ||| (8935141660703064064 : Int64)) &&& (((1 : Int64) <<< (((58 : Int32) + ((((i2.toUInt32 >>> ((2 : Int32) &&& 31).toUInt32).toInt32) &&& (2147483647 : Int32)) % (5 : Int32))) &&& 0x3f).toInt64) ^^^ (-1 : Int64)))
    else
      j0
theorem own_pd3 : parseMethodDescriptor "(JJ)V" = some ⟨[.long, .long], none⟩ := by decide +kernel
def own_j0_94_S0 (j0 : Int64) (j1 : Int64) (i2 : Int32) : Int32 :=
  if ((((own_j0_61_L5 j0 j1 i2).toUInt64 >>> ((58 : Int32) &&& 0x3f).toInt64.toUInt64).toInt64) &&& (31 : Int64)) = (31 : Int64) then
    (1 : Int32)
  else
    (0 : Int32)
theorem own_pd4 : parseMethodDescriptor "()Z" = some ⟨[], some .boolean⟩ := by decide +kernel
theorem own_pn5 : plainName "com/example/marrow/marrow/BsonDecimal128IsNaNPinLaw" = true := by first | (simp [plainName, overriddenIn]; done) | decide +kernel
theorem own_ef0 (m : MethodId) (x0 : Int64) (x1 : Int64) (x2 : Int32) : entryFrame m #[(.long x0), (.long x1), (.int x2)] maxLocals = mkF m 0 #[.val (.long x0), .second, .val (.long x1), .second, .val (.int x2), .unset, .unset, .unset, .unset, .unset, .unset] [] := by first | (simp [entryFrame, mkF, argsToLocals, Value.category, maxLocals]; done) | rfl
def own_f0 (j0 : Int64) (j1 : Int64) (i2 : Int32) : Int32 :=
  if (own_f4 (own_j0_61_L5 j0 j1 i2)) = (own_j0_94_S0 j0 j1 i2) then
    (1 : Int32)
  else
    (0 : Int32)
def own_Q0 (Z : State) (j0 : Int64) (j1 : Int64) (i2 : Int32) (h0 : Heap) (n0 : Nat) (v : Option Value) (h : Heap) (L : List Loc) : Prop := v = some (.int (own_f0 j0 j1 i2)) ∧ Fr n0 L ∧ Keep h0 h []
set_option maxRecDepth 65536 in
set_option maxHeartbeats 40000000 in
theorem own_rm0 (l : Launch) (Z : State) (a0 : Array Value) (hw : ∀ d ∈ tables_1, d.before a0 Z = true) (ws : List Jvm.Cond) (j0 : Int64) (j1 : Int64) (i2 : Int32) (h0 : Heap) (n0 : Nat) (Z0 : n0 ≤ h0.size) :
    MetFree l x (head1 (Jvm.Cond.code x code maxLocals ret :: ws) room_1) (fun a U => a = #[(.long j0), (.long j1), (.int i2)] ∧ Z.Warmed39 U.vm ∧ U.heap = h0) (fun _ _ _ _ _ => True) (fun _ U o U' => ∃ v L, o = .returned v ∧ own_Q0 Z j0 j1 i2 h0 n0 v U'.heap L ∧ FrameEnd U o U' L 1 2) := by
  refine MetFree.of_bodySF (plainFor_of_name own_pn5) hisR ?_
  intro p e s m args below meth c s₁ Bd hml0 hP hK
  obtain ⟨rfl, hZ, hh⟩ := hP
  have hx := Bd.exec
  have hby := Bd.bytes
  have hret := Bd.returns
  have hlk := BodyLoose.notSynchronized Bd
  have hml : c.maxLocals = 11 := hml0
  have hown : s.vm.findClass "com/example/marrow/marrow/BsonDecimal128IsNaNPinLaw" = some m.cls := findClass_of_methodNamed Bd.named
  have hnm := (name_of_methodNamed Bd.named Bd.method).1
  have X0 : Stand p l e room_1 s m #[(.long j0), (.long j1), (.int i2)] below meth c s₁ [] 0 0 := Stand.of_body Bd
  have e0 : s₁.heap = h0 := by rw [← hh, Bd.state]; rfl
  have N0 := Fr.nil n0
  have K0 : Keep h0 h0 [] := Keep.refl h0 _
  show ownE p e below s (own_Q0 Z j0 j1 i2 h0 n0) 1 2 s₁ (entryFrame m #[(.long j0), (.long j1), (.int i2)] maxLocals)
  rw [own_ef0]
  refine ownE.go (T' := s₁) (f' := (mkF m 20 #[.val (.long j0), .second, .val (.long j1), .second, .val (.int i2), .val (.long j0), .second, .val (.int (i2 &&& (3 : Int32))), .val (.int ((((i2.toUInt32 >>> ((2 : Int32) &&& 31).toUInt32).toInt32) &&& (2147483647 : Int32)) % (5 : Int32))), .unset, .unset] [])) (fun t kt => ?_) ?_
  · show Steps p.tables e below (s₁.setTop (mkF m 0 #[.val (.long j0), .second, .val (.long j1), .second, .val (.int i2), .unset, .unset, .unset, .unset, .unset, .unset] [])) _
    refine XS.lloadN X0.here hx rfl (hb hby at_0) rfl ?_
    show Steps p.tables e below (s₁.setTop (mkF m 1 #[.val (.long j0), .second, .val (.long j1), .second, .val (.int i2), .unset, .unset, .unset, .unset, .unset, .unset] [(.long j0)])) _
    refine XS.lstore X0.here hx rfl (hb hby at_1) rfl (l' := #[.val (.long j0), .second, .val (.long j1), .second, .val (.int i2), .val (.long j0), .second, .unset, .unset, .unset, .unset]) rfl ?_
    show Steps p.tables e below (s₁.setTop (mkF m 3 #[.val (.long j0), .second, .val (.long j1), .second, .val (.int i2), .val (.long j0), .second, .unset, .unset, .unset, .unset] [])) _
    refine XS.iload X0.here hx rfl (hb hby at_3) rfl ?_
    show Steps p.tables e below (s₁.setTop (mkF m 5 #[.val (.long j0), .second, .val (.long j1), .second, .val (.int i2), .val (.long j0), .second, .unset, .unset, .unset, .unset] [(.int i2)])) _
    refine XS.iconst X0.here hx rfl (hb hby at_5) ?_
    show Steps p.tables e below (s₁.setTop (mkF m 6 #[.val (.long j0), .second, .val (.long j1), .second, .val (.int i2), .val (.long j0), .second, .unset, .unset, .unset, .unset] [(.int (3 : Int32)), (.int i2)])) _
    refine XS.iand X0.here hx rfl (hb hby at_6) rfl ?_
    show Steps p.tables e below (s₁.setTop (mkF m 7 #[.val (.long j0), .second, .val (.long j1), .second, .val (.int i2), .val (.long j0), .second, .unset, .unset, .unset, .unset] [(.int (i2 &&& (3 : Int32)))])) _
    refine XS.istore X0.here hx rfl (hb hby at_7) rfl (l' := #[.val (.long j0), .second, .val (.long j1), .second, .val (.int i2), .val (.long j0), .second, .val (.int (i2 &&& (3 : Int32))), .unset, .unset, .unset]) rfl ?_
    show Steps p.tables e below (s₁.setTop (mkF m 9 #[.val (.long j0), .second, .val (.long j1), .second, .val (.int i2), .val (.long j0), .second, .val (.int (i2 &&& (3 : Int32))), .unset, .unset, .unset] [])) _
    refine XS.iload X0.here hx rfl (hb hby at_9) rfl ?_
    show Steps p.tables e below (s₁.setTop (mkF m 11 #[.val (.long j0), .second, .val (.long j1), .second, .val (.int i2), .val (.long j0), .second, .val (.int (i2 &&& (3 : Int32))), .unset, .unset, .unset] [(.int i2)])) _
    refine XS.iconst X0.here hx rfl (hb hby at_11) ?_
    show Steps p.tables e below (s₁.setTop (mkF m 12 #[.val (.long j0), .second, .val (.long j1), .second, .val (.int i2), .val (.long j0), .second, .val (.int (i2 &&& (3 : Int32))), .unset, .unset, .unset] [(.int (2 : Int32)), (.int i2)])) _
    refine XS.iushr X0.here hx rfl (hb hby at_12) rfl ?_
    show Steps p.tables e below (s₁.setTop (mkF m 13 #[.val (.long j0), .second, .val (.long j1), .second, .val (.int i2), .val (.long j0), .second, .val (.int (i2 &&& (3 : Int32))), .unset, .unset, .unset] [(.int ((i2.toUInt32 >>> ((2 : Int32) &&& 31).toUInt32).toInt32))])) _
    refine X0.ldcInt hx hown (mvT hZ (hw _ (List.mem_of_getElem? (i := 0) rfl))) (g := (mkF m 13 #[.val (.long j0), .second, .val (.long j1), .second, .val (.int i2), .val (.long j0), .second, .val (.int (i2 &&& (3 : Int32))), .unset, .unset, .unset] [(.int ((i2.toUInt32 >>> ((2 : Int32) &&& 31).toUInt32).toInt32))])) rfl (hb hby at_13) _ ?_
    show Steps p.tables e below (s₁.setTop (mkF m 15 #[.val (.long j0), .second, .val (.long j1), .second, .val (.int i2), .val (.long j0), .second, .val (.int (i2 &&& (3 : Int32))), .unset, .unset, .unset] [(.int (2147483647 : Int32)), (.int ((i2.toUInt32 >>> ((2 : Int32) &&& 31).toUInt32).toInt32))])) _
    refine XS.iand X0.here hx rfl (hb hby at_15) rfl ?_
    show Steps p.tables e below (s₁.setTop (mkF m 16 #[.val (.long j0), .second, .val (.long j1), .second, .val (.int i2), .val (.long j0), .second, .val (.int (i2 &&& (3 : Int32))), .unset, .unset, .unset] [(.int (((i2.toUInt32 >>> ((2 : Int32) &&& 31).toUInt32).toInt32) &&& (2147483647 : Int32)))])) _
    refine XS.iconst X0.here hx rfl (hb hby at_16) ?_
    show Steps p.tables e below (s₁.setTop (mkF m 17 #[.val (.long j0), .second, .val (.long j1), .second, .val (.int i2), .val (.long j0), .second, .val (.int (i2 &&& (3 : Int32))), .unset, .unset, .unset] [(.int (5 : Int32)), (.int (((i2.toUInt32 >>> ((2 : Int32) &&& 31).toUInt32).toInt32) &&& (2147483647 : Int32)))])) _
    refine iremM X0 hx rfl (hb hby at_17) rfl (by decide) ?_
    show Steps p.tables e below (s₁.setTop (mkF m 18 #[.val (.long j0), .second, .val (.long j1), .second, .val (.int i2), .val (.long j0), .second, .val (.int (i2 &&& (3 : Int32))), .unset, .unset, .unset] [(.int ((((i2.toUInt32 >>> ((2 : Int32) &&& 31).toUInt32).toInt32) &&& (2147483647 : Int32)) % (5 : Int32)))])) _
    refine XS.istore X0.here hx rfl (hb hby at_18) rfl (l' := #[.val (.long j0), .second, .val (.long j1), .second, .val (.int i2), .val (.long j0), .second, .val (.int (i2 &&& (3 : Int32))), .val (.int ((((i2.toUInt32 >>> ((2 : Int32) &&& 31).toUInt32).toInt32) &&& (2147483647 : Int32)) % (5 : Int32))), .unset, .unset]) rfl ?_
    exact kt
  have J4 : ∀ (TJ4 : State) (locsJ4 : List Loc), Stand p l e room_1 s m #[(.long j0), (.long j1), (.int i2)] below meth c TJ4 locsJ4 0 0 → TJ4.heap = h0 → Fr n0 locsJ4 → ownE p e below s (own_Q0 Z j0 j1 i2 h0 n0) 1 2 TJ4 (mkF m 61 #[.val (.long j0), .second, .val (.long j1), .second, .val (.int i2), .val (.long (own_j0_61_L5 j0 j1 i2)), .second, .val (.int (i2 &&& (3 : Int32))), .val (.int ((((i2.toUInt32 >>> ((2 : Int32) &&& 31).toUInt32).toInt32) &&& (2147483647 : Int32)) % (5 : Int32))), .unset, .unset] []) := by
    intro TJ4 locsJ4 XJ4 eJ4 NJ4
    obtain ⟨T5, h5, X5, e5, E5, A5, D5, -, st5⟩ := newO XJ4 hx hZ hown (hw _ (List.mem_of_getElem? (i := 1) rfl)) (hw _ (List.mem_of_getElem? (i := 2) rfl)) (hw _ (List.mem_of_getElem? (i := 3) rfl)) eJ4 (g := (mkF m 61 #[.val (.long j0), .second, .val (.long j1), .second, .val (.int i2), .val (.long (own_j0_61_L5 j0 j1 i2)), .second, .val (.int (i2 &&& (3 : Int32))), .val (.int ((((i2.toUInt32 >>> ((2 : Int32) &&& 31).toUInt32).toInt32) &&& (2147483647 : Int32)) % (5 : Int32))), .unset, .unset] [])) rfl (hb hby at_61) (by decide) (by decide)
    obtain ⟨b5, g5⟩ : ∃ z, z = h0.size := ⟨_, rfl⟩
    rw [← g5] at A5 D5 st5
    have sz_b5 : h0.size ≤ b5 := Nat.le_trans K0.1 (Nat.le_of_eq g5.symm)
    have ge_b5 : n0 ≤ b5 := Nat.le_trans Z0 sz_b5
    have D5_high : Fld Z h5 b5 "com/example/marrow/marrow/BsonDecimal128" "high" "J" (.long (0 : Int64)) := D5 (Or.inr (hw _ (List.mem_of_getElem? (i := 16) rfl))) (ty := .long) (by decide)
    have D5_low : Fld Z h5 b5 "com/example/marrow/marrow/BsonDecimal128" "low" "J" (.long (0 : Int64)) := D5 (Or.inr (hw _ (List.mem_of_getElem? (i := 18) rfl))) (ty := .long) (by decide)
    have K5 : Keep h0 h5 [] := K0.ext E5
    refine ownE.go (T' := T5) (f' := (mkF m 64 #[.val (.long j0), .second, .val (.long j1), .second, .val (.int i2), .val (.long (own_j0_61_L5 j0 j1 i2)), .second, .val (.int (i2 &&& (3 : Int32))), .val (.int ((((i2.toUInt32 >>> ((2 : Int32) &&& 31).toUInt32).toInt32) &&& (2147483647 : Int32)) % (5 : Int32))), .unset, .unset] [(.ref b5)])) st5 ?_
    refine ownE.go (T' := T5) (f' := (mkF m 68 #[.val (.long j0), .second, .val (.long j1), .second, .val (.int i2), .val (.long (own_j0_61_L5 j0 j1 i2)), .second, .val (.int (i2 &&& (3 : Int32))), .val (.int ((((i2.toUInt32 >>> ((2 : Int32) &&& 31).toUInt32).toInt32) &&& (2147483647 : Int32)) % (5 : Int32))), .unset, .unset] [(.long j1), (.long (own_j0_61_L5 j0 j1 i2)), (.ref b5), (.ref b5)])) (fun t kt => ?_) ?_
    · show Steps p.tables e below (T5.setTop (mkF m 64 #[.val (.long j0), .second, .val (.long j1), .second, .val (.int i2), .val (.long (own_j0_61_L5 j0 j1 i2)), .second, .val (.int (i2 &&& (3 : Int32))), .val (.int ((((i2.toUInt32 >>> ((2 : Int32) &&& 31).toUInt32).toInt32) &&& (2147483647 : Int32)) % (5 : Int32))), .unset, .unset] [(.ref b5)])) _
      refine XS.dup X5.here hx rfl (hb hby at_64) rfl rfl ?_
      show Steps p.tables e below (T5.setTop (mkF m 65 #[.val (.long j0), .second, .val (.long j1), .second, .val (.int i2), .val (.long (own_j0_61_L5 j0 j1 i2)), .second, .val (.int (i2 &&& (3 : Int32))), .val (.int ((((i2.toUInt32 >>> ((2 : Int32) &&& 31).toUInt32).toInt32) &&& (2147483647 : Int32)) % (5 : Int32))), .unset, .unset] [(.ref b5), (.ref b5)])) _
      refine XS.lload X5.here hx rfl (hb hby at_65) rfl ?_
      show Steps p.tables e below (T5.setTop (mkF m 67 #[.val (.long j0), .second, .val (.long j1), .second, .val (.int i2), .val (.long (own_j0_61_L5 j0 j1 i2)), .second, .val (.int (i2 &&& (3 : Int32))), .val (.int ((((i2.toUInt32 >>> ((2 : Int32) &&& 31).toUInt32).toInt32) &&& (2147483647 : Int32)) % (5 : Int32))), .unset, .unset] [(.long (own_j0_61_L5 j0 j1 i2)), (.ref b5), (.ref b5)])) _
      refine XS.lloadN X5.here hx rfl (hb hby at_67) rfl ?_
      exact kt
    obtain ⟨_, _, ⟨T6, L6, k6, n6⟩, -, X6, ⟨Lc6, hQ6, l6, y6, z6⟩, st6⟩ := X5.specialBack hx (y := (⟨"com/example/marrow/marrow/BsonDecimal128", "<init>", "(JJ)V"⟩ : MethodName)) rfl hown (mvT hZ (hw _ (List.mem_of_getElem? (i := 4) rfl))) (mvT hZ (hw _ (List.mem_of_getElem? (i := 5) rfl))) (mvT hZ (hw _ (List.mem_of_getElem? (i := 6) rfl))) (by decide) (backOf (W := 1) (own_rm1 l Z a0 hw [] b5 (own_j0_61_L5 j0 j1 i2) j1 h5 n0 (Nat.le_trans Z0 K5.1) D5_high D5_low A5 ge_b5) hZ (hw _ (List.mem_of_getElem? (i := 6) rfl)) (hw _ (List.mem_of_getElem? (i := 3) rfl)) (by decide) (by decide)) (g := (mkF m 68 #[.val (.long j0), .second, .val (.long j1), .second, .val (.int i2), .val (.long (own_j0_61_L5 j0 j1 i2)), .second, .val (.int (i2 &&& (3 : Int32))), .val (.int ((((i2.toUInt32 >>> ((2 : Int32) &&& 31).toUInt32).toInt32) &&& (2147483647 : Int32)) % (5 : Int32))), .unset, .unset] [(.long j1), (.long (own_j0_61_L5 j0 j1 i2)), (.ref b5), (.ref b5)])) rfl (by rw [hml]; rfl) (Steps.refl _) (a := b5) (argsL := [(.long (own_j0_61_L5 j0 j1 i2)), (.long j1)]) (rest := [(.ref b5)]) (lenOf own_pd3 rfl) rfl (by show 2 * 0 + _ ≤ _; exact Nat.le_of_eq rfl) (hb hby at_68) (fun _ _ => ⟨rfl, e5, (by decide : 1 + 0 ≤ _), (by decide : 2 + 0 ≤ _)⟩)
    dsimp only [Pt.U, Pt.locs, Pt.cells, Pt.slots] at X6 l6 y6 z6 st6 hQ6
    subst l6 y6 z6
    obtain ⟨rfl, N6q, K6q, f6_0, f6_1, f6_2⟩ := hQ6
    have cExa_b5_6 : Exa Z T6.heap b5 "com/example/marrow/marrow/BsonDecimal128" := A5.keep K6q
    have K6 : Keep h0 T6.heap [] := K5.trans K6q (allS (Or.inr sz_b5) all0)
    have N6 := Fr.app NJ4 N6q
    refine ownE.goS (T' := T6) (f' := (mkF m 71 #[.val (.long j0), .second, .val (.long j1), .second, .val (.int i2), .val (.long (own_j0_61_L5 j0 j1 i2)), .second, .val (.int (i2 &&& (3 : Int32))), .val (.int ((((i2.toUInt32 >>> ((2 : Int32) &&& 31).toUInt32).toInt32) &&& (2147483647 : Int32)) % (5 : Int32))), .unset, .unset] [(.ref b5)])) st6 ?_
    refine ownE.go (T' := T6) (f' := (mkF m 73 #[.val (.long j0), .second, .val (.long j1), .second, .val (.int i2), .val (.long (own_j0_61_L5 j0 j1 i2)), .second, .val (.int (i2 &&& (3 : Int32))), .val (.int ((((i2.toUInt32 >>> ((2 : Int32) &&& 31).toUInt32).toInt32) &&& (2147483647 : Int32)) % (5 : Int32))), .val (.ref b5), .unset] [])) (fun t kt => ?_) ?_
    · show Steps p.tables e below (T6.setTop (mkF m 71 #[.val (.long j0), .second, .val (.long j1), .second, .val (.int i2), .val (.long (own_j0_61_L5 j0 j1 i2)), .second, .val (.int (i2 &&& (3 : Int32))), .val (.int ((((i2.toUInt32 >>> ((2 : Int32) &&& 31).toUInt32).toInt32) &&& (2147483647 : Int32)) % (5 : Int32))), .unset, .unset] [(.ref b5)])) _
      refine XS.astore X6.here hx rfl (hb hby at_71) rfl rfl (l' := #[.val (.long j0), .second, .val (.long j1), .second, .val (.int i2), .val (.long (own_j0_61_L5 j0 j1 i2)), .second, .val (.int (i2 &&& (3 : Int32))), .val (.int ((((i2.toUInt32 >>> ((2 : Int32) &&& 31).toUInt32).toInt32) &&& (2147483647 : Int32)) % (5 : Int32))), .val (.ref b5), .unset]) rfl ?_
      exact kt
    have J9 : ∀ (TJ9 : State) (locsJ9 : List Loc), Stand p l e room_1 s m #[(.long j0), (.long j1), (.int i2)] below meth c TJ9 locsJ9 1 2 → TJ9.heap = T6.heap → Fr n0 locsJ9 → ownE p e below s (own_Q0 Z j0 j1 i2 h0 n0) 1 2 TJ9 (mkF m 94 #[.val (.long j0), .second, .val (.long j1), .second, .val (.int i2), .val (.long (own_j0_61_L5 j0 j1 i2)), .second, .val (.int (i2 &&& (3 : Int32))), .val (.int ((((i2.toUInt32 >>> ((2 : Int32) &&& 31).toUInt32).toInt32) &&& (2147483647 : Int32)) % (5 : Int32))), .val (.ref b5), .unset] [(.int (own_j0_94_S0 j0 j1 i2))]) := by
      intro TJ9 locsJ9 XJ9 eJ9 NJ9
      refine ownE.go (T' := TJ9) (f' := (mkF m 98 #[.val (.long j0), .second, .val (.long j1), .second, .val (.int i2), .val (.long (own_j0_61_L5 j0 j1 i2)), .second, .val (.int (i2 &&& (3 : Int32))), .val (.int ((((i2.toUInt32 >>> ((2 : Int32) &&& 31).toUInt32).toInt32) &&& (2147483647 : Int32)) % (5 : Int32))), .val (.ref b5), .val (.int (own_j0_94_S0 j0 j1 i2))] [(.ref b5)])) (fun t kt => ?_) ?_
      · show Steps p.tables e below (TJ9.setTop (mkF m 94 #[.val (.long j0), .second, .val (.long j1), .second, .val (.int i2), .val (.long (own_j0_61_L5 j0 j1 i2)), .second, .val (.int (i2 &&& (3 : Int32))), .val (.int ((((i2.toUInt32 >>> ((2 : Int32) &&& 31).toUInt32).toInt32) &&& (2147483647 : Int32)) % (5 : Int32))), .val (.ref b5), .unset] [(.int (own_j0_94_S0 j0 j1 i2))])) _
        refine XS.istore XJ9.here hx rfl (hb hby at_94) rfl (l' := #[.val (.long j0), .second, .val (.long j1), .second, .val (.int i2), .val (.long (own_j0_61_L5 j0 j1 i2)), .second, .val (.int (i2 &&& (3 : Int32))), .val (.int ((((i2.toUInt32 >>> ((2 : Int32) &&& 31).toUInt32).toInt32) &&& (2147483647 : Int32)) % (5 : Int32))), .val (.ref b5), .val (.int (own_j0_94_S0 j0 j1 i2))]) rfl ?_
        show Steps p.tables e below (TJ9.setTop (mkF m 96 #[.val (.long j0), .second, .val (.long j1), .second, .val (.int i2), .val (.long (own_j0_61_L5 j0 j1 i2)), .second, .val (.int (i2 &&& (3 : Int32))), .val (.int ((((i2.toUInt32 >>> ((2 : Int32) &&& 31).toUInt32).toInt32) &&& (2147483647 : Int32)) % (5 : Int32))), .val (.ref b5), .val (.int (own_j0_94_S0 j0 j1 i2))] [])) _
        refine XS.aload XJ9.here hx rfl (hb hby at_96) rfl rfl ?_
        exact kt
      obtain ⟨cq10, kq10, q10a, q10b, q10c⟩ := isOf hZ eJ9 f6_0
      obtain ⟨_, _, ⟨T10, L10, k10, n10⟩, -, X10, ⟨Lc10, hQ10, l10, y10, z10⟩, st10⟩ := XJ9.virtualBack hx (y := (⟨"com/example/marrow/marrow/BsonDecimal128", "isNaN", "()Z"⟩ : MethodName)) (z := (⟨"com/example/marrow/marrow/BsonDecimal128", "isNaN", "()Z"⟩ : MethodName)) hown (mvT hZ (hw _ (List.mem_of_getElem? (i := 20) rfl))) (mvT hZ (hw _ (List.mem_of_getElem? (i := 21) rfl))) (notFace_of_selects (args := #[]) (mvT hZ (hw _ (List.mem_of_getElem? (i := 23) rfl)))) (mvT hZ (hw _ (List.mem_of_getElem? (i := 23) rfl))) (mvT hZ (hw _ (List.mem_of_getElem? (i := 22) rfl))) (by decide) (backOf (W := 0) (own_rm4 l Z a0 hw [] b5 (own_j0_61_L5 j0 j1 i2) T6.heap n0 (Nat.le_trans Z0 K6.1) f6_1) hZ (hw _ (List.mem_of_getElem? (i := 24) rfl)) (hw _ (List.mem_of_getElem? (i := 3) rfl)) (by decide) (by decide)) q10a q10c (g := (mkF m 98 #[.val (.long j0), .second, .val (.long j1), .second, .val (.int i2), .val (.long (own_j0_61_L5 j0 j1 i2)), .second, .val (.int (i2 &&& (3 : Int32))), .val (.int ((((i2.toUInt32 >>> ((2 : Int32) &&& 31).toUInt32).toInt32) &&& (2147483647 : Int32)) % (5 : Int32))), .val (.ref b5), .val (.int (own_j0_94_S0 j0 j1 i2))] [(.ref b5)])) rfl (by rw [hml]; rfl) (Steps.refl _) (argsL := []) (rest := []) (lenOf own_pd4 rfl) rfl (by show 2 * 0 + _ ≤ _; exact Nat.le_of_eq rfl) (hb hby at_98) (fun _ _ => ⟨rfl, eJ9, (by decide : 1 + 0 ≤ _), (by decide : 2 + 0 ≤ _)⟩)
      dsimp only [Pt.U, Pt.locs, Pt.cells, Pt.slots] at X10 l10 y10 z10 st10 hQ10
      subst l10 y10 z10
      obtain ⟨rfl, N10q, e10⟩ := hQ10
      have N10 := Fr.app NJ9 N10q
      refine ownE.goS (T' := T10) (f' := (mkF m 101 #[.val (.long j0), .second, .val (.long j1), .second, .val (.int i2), .val (.long (own_j0_61_L5 j0 j1 i2)), .second, .val (.int (i2 &&& (3 : Int32))), .val (.int ((((i2.toUInt32 >>> ((2 : Int32) &&& 31).toUInt32).toInt32) &&& (2147483647 : Int32)) % (5 : Int32))), .val (.ref b5), .val (.int (own_j0_94_S0 j0 j1 i2))] [(.int (own_f4 (own_j0_61_L5 j0 j1 i2)))])) st10 ?_
      refine ownE.go (T' := T10) (f' := (mkF m 103 #[.val (.long j0), .second, .val (.long j1), .second, .val (.int i2), .val (.long (own_j0_61_L5 j0 j1 i2)), .second, .val (.int (i2 &&& (3 : Int32))), .val (.int ((((i2.toUInt32 >>> ((2 : Int32) &&& 31).toUInt32).toInt32) &&& (2147483647 : Int32)) % (5 : Int32))), .val (.ref b5), .val (.int (own_j0_94_S0 j0 j1 i2))] [(.int (own_j0_94_S0 j0 j1 i2)), (.int (own_f4 (own_j0_61_L5 j0 j1 i2)))])) (fun t kt => ?_) ?_
      · show Steps p.tables e below (T10.setTop (mkF m 101 #[.val (.long j0), .second, .val (.long j1), .second, .val (.int i2), .val (.long (own_j0_61_L5 j0 j1 i2)), .second, .val (.int (i2 &&& (3 : Int32))), .val (.int ((((i2.toUInt32 >>> ((2 : Int32) &&& 31).toUInt32).toInt32) &&& (2147483647 : Int32)) % (5 : Int32))), .val (.ref b5), .val (.int (own_j0_94_S0 j0 j1 i2))] [(.int (own_f4 (own_j0_61_L5 j0 j1 i2)))])) _
        refine XS.iload X10.here hx rfl (hb hby at_101) rfl ?_
        exact kt
      by_cases hc11 : (own_f4 (own_j0_61_L5 j0 j1 i2)) = (own_j0_94_S0 j0 j1 i2)
      · -- pc 103
        refine ownE.go (T' := T10) (f' := (mkF m 106 #[.val (.long j0), .second, .val (.long j1), .second, .val (.int i2), .val (.long (own_j0_61_L5 j0 j1 i2)), .second, .val (.int (i2 &&& (3 : Int32))), .val (.int ((((i2.toUInt32 >>> ((2 : Int32) &&& 31).toUInt32).toInt32) &&& (2147483647 : Int32)) % (5 : Int32))), .val (.ref b5), .val (.int (own_j0_94_S0 j0 j1 i2))] [])) (fun t kt => XS.icmpNo (g := (mkF m 103 #[.val (.long j0), .second, .val (.long j1), .second, .val (.int i2), .val (.long (own_j0_61_L5 j0 j1 i2)), .second, .val (.int (i2 &&& (3 : Int32))), .val (.int ((((i2.toUInt32 >>> ((2 : Int32) &&& 31).toUInt32).toInt32) &&& (2147483647 : Int32)) % (5 : Int32))), .val (.ref b5), .val (.int (own_j0_94_S0 j0 j1 i2))] [(.int (own_j0_94_S0 j0 j1 i2)), (.int (own_f4 (own_j0_61_L5 j0 j1 i2)))])) X10.here hx rfl (hb hby at_103) rfl (Jvm.Free.XT.ii_ne_f hc11) kt) ?_
        refine ownE.go (T' := T10) (f' := (mkF m 111 #[.val (.long j0), .second, .val (.long j1), .second, .val (.int i2), .val (.long (own_j0_61_L5 j0 j1 i2)), .second, .val (.int (i2 &&& (3 : Int32))), .val (.int ((((i2.toUInt32 >>> ((2 : Int32) &&& 31).toUInt32).toInt32) &&& (2147483647 : Int32)) % (5 : Int32))), .val (.ref b5), .val (.int (own_j0_94_S0 j0 j1 i2))] [(.int (1 : Int32))])) (fun t kt => ?_) ?_
        · show Steps p.tables e below (T10.setTop (mkF m 106 #[.val (.long j0), .second, .val (.long j1), .second, .val (.int i2), .val (.long (own_j0_61_L5 j0 j1 i2)), .second, .val (.int (i2 &&& (3 : Int32))), .val (.int ((((i2.toUInt32 >>> ((2 : Int32) &&& 31).toUInt32).toInt32) &&& (2147483647 : Int32)) % (5 : Int32))), .val (.ref b5), .val (.int (own_j0_94_S0 j0 j1 i2))] [])) _
          refine XS.iconst X10.here hx rfl (hb hby at_106) ?_
          show Steps p.tables e below (T10.setTop (mkF m 107 #[.val (.long j0), .second, .val (.long j1), .second, .val (.int i2), .val (.long (own_j0_61_L5 j0 j1 i2)), .second, .val (.int (i2 &&& (3 : Int32))), .val (.int ((((i2.toUInt32 >>> ((2 : Int32) &&& 31).toUInt32).toInt32) &&& (2147483647 : Int32)) % (5 : Int32))), .val (.ref b5), .val (.int (own_j0_94_S0 j0 j1 i2))] [(.int (1 : Int32))])) _
          refine XS.goto X10.here hx rfl (pc0 := 107) (pc' := 111) rfl (hb hby at_107) (by decide) (by decide) ?_
          exact kt
        refine ownE.retN X10 hx hlk (t := .boolean) hret (by simp) (hb hby at_111) ?_ (by decide) (by decide)
        show own_Q0 Z j0 j1 i2 h0 n0 _ T10.heap _
        rw [e10]
        exact ⟨(by rw [own_f0, if_pos hc11] <;> first | rfl | decide), N10, K6⟩
      · -- pc 103
        refine ownE.go (T' := T10) (f' := (mkF m 110 #[.val (.long j0), .second, .val (.long j1), .second, .val (.int i2), .val (.long (own_j0_61_L5 j0 j1 i2)), .second, .val (.int (i2 &&& (3 : Int32))), .val (.int ((((i2.toUInt32 >>> ((2 : Int32) &&& 31).toUInt32).toInt32) &&& (2147483647 : Int32)) % (5 : Int32))), .val (.ref b5), .val (.int (own_j0_94_S0 j0 j1 i2))] [])) (fun t kt => XS.icmpYes (g := (mkF m 103 #[.val (.long j0), .second, .val (.long j1), .second, .val (.int i2), .val (.long (own_j0_61_L5 j0 j1 i2)), .second, .val (.int (i2 &&& (3 : Int32))), .val (.int ((((i2.toUInt32 >>> ((2 : Int32) &&& 31).toUInt32).toInt32) &&& (2147483647 : Int32)) % (5 : Int32))), .val (.ref b5), .val (.int (own_j0_94_S0 j0 j1 i2))] [(.int (own_j0_94_S0 j0 j1 i2)), (.int (own_f4 (own_j0_61_L5 j0 j1 i2)))])) X10.here hx rfl (pc0 := 103) (pc' := 110) rfl (hb hby at_103) rfl (Jvm.Free.XT.ii_ne_t hc11) (by decide) (by decide) kt) ?_
        refine ownE.go (T' := T10) (f' := (mkF m 111 #[.val (.long j0), .second, .val (.long j1), .second, .val (.int i2), .val (.long (own_j0_61_L5 j0 j1 i2)), .second, .val (.int (i2 &&& (3 : Int32))), .val (.int ((((i2.toUInt32 >>> ((2 : Int32) &&& 31).toUInt32).toInt32) &&& (2147483647 : Int32)) % (5 : Int32))), .val (.ref b5), .val (.int (own_j0_94_S0 j0 j1 i2))] [(.int (0 : Int32))])) (fun t kt => ?_) ?_
        · show Steps p.tables e below (T10.setTop (mkF m 110 #[.val (.long j0), .second, .val (.long j1), .second, .val (.int i2), .val (.long (own_j0_61_L5 j0 j1 i2)), .second, .val (.int (i2 &&& (3 : Int32))), .val (.int ((((i2.toUInt32 >>> ((2 : Int32) &&& 31).toUInt32).toInt32) &&& (2147483647 : Int32)) % (5 : Int32))), .val (.ref b5), .val (.int (own_j0_94_S0 j0 j1 i2))] [])) _
          refine XS.iconst X10.here hx rfl (hb hby at_110) ?_
          exact kt
        refine ownE.retN X10 hx hlk (t := .boolean) hret (by simp) (hb hby at_111) ?_ (by decide) (by decide)
        show own_Q0 Z j0 j1 i2 h0 n0 _ T10.heap _
        rw [e10]
        exact ⟨(by rw [own_f0, if_neg hc11] <;> first | rfl | decide), N10, K6⟩
    refine ownE.go (T' := T6) (f' := (mkF m 86 #[.val (.long j0), .second, .val (.long j1), .second, .val (.int i2), .val (.long (own_j0_61_L5 j0 j1 i2)), .second, .val (.int (i2 &&& (3 : Int32))), .val (.int ((((i2.toUInt32 >>> ((2 : Int32) &&& 31).toUInt32).toInt32) &&& (2147483647 : Int32)) % (5 : Int32))), .val (.ref b5), .unset] [(.int (Jvm.Free.XT.cmpL ((((own_j0_61_L5 j0 j1 i2).toUInt64 >>> ((58 : Int32) &&& 0x3f).toInt64.toUInt64).toInt64) &&& (31 : Int64)) (31 : Int64)))])) (fun t kt => ?_) ?_
    · show Steps p.tables e below (T6.setTop (mkF m 73 #[.val (.long j0), .second, .val (.long j1), .second, .val (.int i2), .val (.long (own_j0_61_L5 j0 j1 i2)), .second, .val (.int (i2 &&& (3 : Int32))), .val (.int ((((i2.toUInt32 >>> ((2 : Int32) &&& 31).toUInt32).toInt32) &&& (2147483647 : Int32)) % (5 : Int32))), .val (.ref b5), .unset] [])) _
      refine XS.lload X6.here hx rfl (hb hby at_73) rfl ?_
      show Steps p.tables e below (T6.setTop (mkF m 75 #[.val (.long j0), .second, .val (.long j1), .second, .val (.int i2), .val (.long (own_j0_61_L5 j0 j1 i2)), .second, .val (.int (i2 &&& (3 : Int32))), .val (.int ((((i2.toUInt32 >>> ((2 : Int32) &&& 31).toUInt32).toInt32) &&& (2147483647 : Int32)) % (5 : Int32))), .val (.ref b5), .unset] [(.long (own_j0_61_L5 j0 j1 i2))])) _
      refine XS.bipush X6.here hx rfl (hb hby at_75) ?_
      show Steps p.tables e below (T6.setTop (mkF m 77 #[.val (.long j0), .second, .val (.long j1), .second, .val (.int i2), .val (.long (own_j0_61_L5 j0 j1 i2)), .second, .val (.int (i2 &&& (3 : Int32))), .val (.int ((((i2.toUInt32 >>> ((2 : Int32) &&& 31).toUInt32).toInt32) &&& (2147483647 : Int32)) % (5 : Int32))), .val (.ref b5), .unset] [(.int (58 : Int32)), (.long (own_j0_61_L5 j0 j1 i2))])) _
      refine XS.lushr X6.here hx rfl (hb hby at_77) rfl ?_
      show Steps p.tables e below (T6.setTop (mkF m 78 #[.val (.long j0), .second, .val (.long j1), .second, .val (.int i2), .val (.long (own_j0_61_L5 j0 j1 i2)), .second, .val (.int (i2 &&& (3 : Int32))), .val (.int ((((i2.toUInt32 >>> ((2 : Int32) &&& 31).toUInt32).toInt32) &&& (2147483647 : Int32)) % (5 : Int32))), .val (.ref b5), .unset] [(.long (((own_j0_61_L5 j0 j1 i2).toUInt64 >>> ((58 : Int32) &&& 0x3f).toInt64.toUInt64).toInt64))])) _
      refine X6.ldc2Long hx hown (mvT hZ (hw _ (List.mem_of_getElem? (i := 19) rfl))) (g := (mkF m 78 #[.val (.long j0), .second, .val (.long j1), .second, .val (.int i2), .val (.long (own_j0_61_L5 j0 j1 i2)), .second, .val (.int (i2 &&& (3 : Int32))), .val (.int ((((i2.toUInt32 >>> ((2 : Int32) &&& 31).toUInt32).toInt32) &&& (2147483647 : Int32)) % (5 : Int32))), .val (.ref b5), .unset] [(.long (((own_j0_61_L5 j0 j1 i2).toUInt64 >>> ((58 : Int32) &&& 0x3f).toInt64.toUInt64).toInt64))])) rfl (hb hby at_78) _ ?_
      show Steps p.tables e below (T6.setTop (mkF m 81 #[.val (.long j0), .second, .val (.long j1), .second, .val (.int i2), .val (.long (own_j0_61_L5 j0 j1 i2)), .second, .val (.int (i2 &&& (3 : Int32))), .val (.int ((((i2.toUInt32 >>> ((2 : Int32) &&& 31).toUInt32).toInt32) &&& (2147483647 : Int32)) % (5 : Int32))), .val (.ref b5), .unset] [(.long (31 : Int64)), (.long (((own_j0_61_L5 j0 j1 i2).toUInt64 >>> ((58 : Int32) &&& 0x3f).toInt64.toUInt64).toInt64))])) _
      refine XS.land X6.here hx rfl (hb hby at_81) rfl ?_
      show Steps p.tables e below (T6.setTop (mkF m 82 #[.val (.long j0), .second, .val (.long j1), .second, .val (.int i2), .val (.long (own_j0_61_L5 j0 j1 i2)), .second, .val (.int (i2 &&& (3 : Int32))), .val (.int ((((i2.toUInt32 >>> ((2 : Int32) &&& 31).toUInt32).toInt32) &&& (2147483647 : Int32)) % (5 : Int32))), .val (.ref b5), .unset] [(.long ((((own_j0_61_L5 j0 j1 i2).toUInt64 >>> ((58 : Int32) &&& 0x3f).toInt64.toUInt64).toInt64) &&& (31 : Int64)))])) _
      refine X6.ldc2Long hx hown (mvT hZ (hw _ (List.mem_of_getElem? (i := 19) rfl))) (g := (mkF m 82 #[.val (.long j0), .second, .val (.long j1), .second, .val (.int i2), .val (.long (own_j0_61_L5 j0 j1 i2)), .second, .val (.int (i2 &&& (3 : Int32))), .val (.int ((((i2.toUInt32 >>> ((2 : Int32) &&& 31).toUInt32).toInt32) &&& (2147483647 : Int32)) % (5 : Int32))), .val (.ref b5), .unset] [(.long ((((own_j0_61_L5 j0 j1 i2).toUInt64 >>> ((58 : Int32) &&& 0x3f).toInt64.toUInt64).toInt64) &&& (31 : Int64)))])) rfl (hb hby at_82) _ ?_
      show Steps p.tables e below (T6.setTop (mkF m 85 #[.val (.long j0), .second, .val (.long j1), .second, .val (.int i2), .val (.long (own_j0_61_L5 j0 j1 i2)), .second, .val (.int (i2 &&& (3 : Int32))), .val (.int ((((i2.toUInt32 >>> ((2 : Int32) &&& 31).toUInt32).toInt32) &&& (2147483647 : Int32)) % (5 : Int32))), .val (.ref b5), .unset] [(.long (31 : Int64)), (.long ((((own_j0_61_L5 j0 j1 i2).toUInt64 >>> ((58 : Int32) &&& 0x3f).toInt64.toUInt64).toInt64) &&& (31 : Int64)))])) _
      refine XS.lcmp X6.here hx rfl (hb hby at_85) rfl ?_
      exact kt
    by_cases hc8 : ((((own_j0_61_L5 j0 j1 i2).toUInt64 >>> ((58 : Int32) &&& 0x3f).toInt64.toUInt64).toInt64) &&& (31 : Int64)) = (31 : Int64)
    · -- pc 86
      refine ownE.go (T' := T6) (f' := (mkF m 89 #[.val (.long j0), .second, .val (.long j1), .second, .val (.int i2), .val (.long (own_j0_61_L5 j0 j1 i2)), .second, .val (.int (i2 &&& (3 : Int32))), .val (.int ((((i2.toUInt32 >>> ((2 : Int32) &&& 31).toUInt32).toInt32) &&& (2147483647 : Int32)) % (5 : Int32))), .val (.ref b5), .unset] [])) (fun t kt => XS.ifNo (g := (mkF m 86 #[.val (.long j0), .second, .val (.long j1), .second, .val (.int i2), .val (.long (own_j0_61_L5 j0 j1 i2)), .second, .val (.int (i2 &&& (3 : Int32))), .val (.int ((((i2.toUInt32 >>> ((2 : Int32) &&& 31).toUInt32).toInt32) &&& (2147483647 : Int32)) % (5 : Int32))), .val (.ref b5), .unset] [(.int (Jvm.Free.XT.cmpL ((((own_j0_61_L5 j0 j1 i2).toUInt64 >>> ((58 : Int32) &&& 0x3f).toInt64.toUInt64).toInt64) &&& (31 : Int64)) (31 : Int64)))])) X6.here hx rfl (hb hby at_86) rfl (Jvm.Free.XT.ll_ne_f hc8) kt) ?_
      refine ownE.go (T' := T6) (f' := (mkF m 94 #[.val (.long j0), .second, .val (.long j1), .second, .val (.int i2), .val (.long (own_j0_61_L5 j0 j1 i2)), .second, .val (.int (i2 &&& (3 : Int32))), .val (.int ((((i2.toUInt32 >>> ((2 : Int32) &&& 31).toUInt32).toInt32) &&& (2147483647 : Int32)) % (5 : Int32))), .val (.ref b5), .unset] [(.int (1 : Int32))])) (fun t kt => ?_) ?_
      · show Steps p.tables e below (T6.setTop (mkF m 89 #[.val (.long j0), .second, .val (.long j1), .second, .val (.int i2), .val (.long (own_j0_61_L5 j0 j1 i2)), .second, .val (.int (i2 &&& (3 : Int32))), .val (.int ((((i2.toUInt32 >>> ((2 : Int32) &&& 31).toUInt32).toInt32) &&& (2147483647 : Int32)) % (5 : Int32))), .val (.ref b5), .unset] [])) _
        refine XS.iconst X6.here hx rfl (hb hby at_89) ?_
        show Steps p.tables e below (T6.setTop (mkF m 90 #[.val (.long j0), .second, .val (.long j1), .second, .val (.int i2), .val (.long (own_j0_61_L5 j0 j1 i2)), .second, .val (.int (i2 &&& (3 : Int32))), .val (.int ((((i2.toUInt32 >>> ((2 : Int32) &&& 31).toUInt32).toInt32) &&& (2147483647 : Int32)) % (5 : Int32))), .val (.ref b5), .unset] [(.int (1 : Int32))])) _
        refine XS.goto X6.here hx rfl (pc0 := 90) (pc' := 94) rfl (hb hby at_90) (by decide) (by decide) ?_
        exact kt
      have jj := J9 _ _ X6 rfl N6
      rw [show (own_j0_94_S0 j0 j1 i2) = (1 : Int32) from by rw [own_j0_94_S0, if_pos hc8]] at jj
      exact jj
    · -- pc 86
      refine ownE.go (T' := T6) (f' := (mkF m 93 #[.val (.long j0), .second, .val (.long j1), .second, .val (.int i2), .val (.long (own_j0_61_L5 j0 j1 i2)), .second, .val (.int (i2 &&& (3 : Int32))), .val (.int ((((i2.toUInt32 >>> ((2 : Int32) &&& 31).toUInt32).toInt32) &&& (2147483647 : Int32)) % (5 : Int32))), .val (.ref b5), .unset] [])) (fun t kt => XS.ifYes (g := (mkF m 86 #[.val (.long j0), .second, .val (.long j1), .second, .val (.int i2), .val (.long (own_j0_61_L5 j0 j1 i2)), .second, .val (.int (i2 &&& (3 : Int32))), .val (.int ((((i2.toUInt32 >>> ((2 : Int32) &&& 31).toUInt32).toInt32) &&& (2147483647 : Int32)) % (5 : Int32))), .val (.ref b5), .unset] [(.int (Jvm.Free.XT.cmpL ((((own_j0_61_L5 j0 j1 i2).toUInt64 >>> ((58 : Int32) &&& 0x3f).toInt64.toUInt64).toInt64) &&& (31 : Int64)) (31 : Int64)))])) X6.here hx rfl (pc0 := 86) (pc' := 93) rfl (hb hby at_86) rfl (Jvm.Free.XT.ll_ne_t hc8) (by decide) (by decide) kt) ?_
      refine ownE.go (T' := T6) (f' := (mkF m 94 #[.val (.long j0), .second, .val (.long j1), .second, .val (.int i2), .val (.long (own_j0_61_L5 j0 j1 i2)), .second, .val (.int (i2 &&& (3 : Int32))), .val (.int ((((i2.toUInt32 >>> ((2 : Int32) &&& 31).toUInt32).toInt32) &&& (2147483647 : Int32)) % (5 : Int32))), .val (.ref b5), .unset] [(.int (0 : Int32))])) (fun t kt => ?_) ?_
      · show Steps p.tables e below (T6.setTop (mkF m 93 #[.val (.long j0), .second, .val (.long j1), .second, .val (.int i2), .val (.long (own_j0_61_L5 j0 j1 i2)), .second, .val (.int (i2 &&& (3 : Int32))), .val (.int ((((i2.toUInt32 >>> ((2 : Int32) &&& 31).toUInt32).toInt32) &&& (2147483647 : Int32)) % (5 : Int32))), .val (.ref b5), .unset] [])) _
        refine XS.iconst X6.here hx rfl (hb hby at_93) ?_
        exact kt
      have jj := J9 _ _ X6 rfl N6
      rw [show (own_j0_94_S0 j0 j1 i2) = (0 : Int32) from by rw [own_j0_94_S0, if_neg hc8]] at jj
      exact jj
  refine ownE.go (T' := s₁) (f' := (mkF m 23 #[.val (.long j0), .second, .val (.long j1), .second, .val (.int i2), .val (.long j0), .second, .val (.int (i2 &&& (3 : Int32))), .val (.int ((((i2.toUInt32 >>> ((2 : Int32) &&& 31).toUInt32).toInt32) &&& (2147483647 : Int32)) % (5 : Int32))), .unset, .unset] [(.int (1 : Int32)), (.int (i2 &&& (3 : Int32)))])) (fun t kt => ?_) ?_
  · show Steps p.tables e below (s₁.setTop (mkF m 20 #[.val (.long j0), .second, .val (.long j1), .second, .val (.int i2), .val (.long j0), .second, .val (.int (i2 &&& (3 : Int32))), .val (.int ((((i2.toUInt32 >>> ((2 : Int32) &&& 31).toUInt32).toInt32) &&& (2147483647 : Int32)) % (5 : Int32))), .unset, .unset] [])) _
    refine XS.iload X0.here hx rfl (hb hby at_20) rfl ?_
    show Steps p.tables e below (s₁.setTop (mkF m 22 #[.val (.long j0), .second, .val (.long j1), .second, .val (.int i2), .val (.long j0), .second, .val (.int (i2 &&& (3 : Int32))), .val (.int ((((i2.toUInt32 >>> ((2 : Int32) &&& 31).toUInt32).toInt32) &&& (2147483647 : Int32)) % (5 : Int32))), .unset, .unset] [(.int (i2 &&& (3 : Int32)))])) _
    refine XS.iconst X0.here hx rfl (hb hby at_22) ?_
    exact kt
  by_cases hc2 : (i2 &&& (3 : Int32)) = (1 : Int32)
  · -- pc 23
    refine ownE.go (T' := s₁) (f' := (mkF m 26 #[.val (.long j0), .second, .val (.long j1), .second, .val (.int i2), .val (.long j0), .second, .val (.int (i2 &&& (3 : Int32))), .val (.int ((((i2.toUInt32 >>> ((2 : Int32) &&& 31).toUInt32).toInt32) &&& (2147483647 : Int32)) % (5 : Int32))), .unset, .unset] [])) (fun t kt => XS.icmpNo (g := (mkF m 23 #[.val (.long j0), .second, .val (.long j1), .second, .val (.int i2), .val (.long j0), .second, .val (.int (i2 &&& (3 : Int32))), .val (.int ((((i2.toUInt32 >>> ((2 : Int32) &&& 31).toUInt32).toInt32) &&& (2147483647 : Int32)) % (5 : Int32))), .unset, .unset] [(.int (1 : Int32)), (.int (i2 &&& (3 : Int32)))])) X0.here hx rfl (hb hby at_23) rfl (Jvm.Free.XT.ii_ne_f hc2) kt) ?_
    refine ownE.go (T' := s₁) (f' := (mkF m 61 #[.val (.long j0), .second, .val (.long j1), .second, .val (.int i2), .val (.long (j0 ||| (8935141660703064064 : Int64))), .second, .val (.int (i2 &&& (3 : Int32))), .val (.int ((((i2.toUInt32 >>> ((2 : Int32) &&& 31).toUInt32).toInt32) &&& (2147483647 : Int32)) % (5 : Int32))), .unset, .unset] [])) (fun t kt => ?_) ?_
    · show Steps p.tables e below (s₁.setTop (mkF m 26 #[.val (.long j0), .second, .val (.long j1), .second, .val (.int i2), .val (.long j0), .second, .val (.int (i2 &&& (3 : Int32))), .val (.int ((((i2.toUInt32 >>> ((2 : Int32) &&& 31).toUInt32).toInt32) &&& (2147483647 : Int32)) % (5 : Int32))), .unset, .unset] [])) _
      refine XS.lloadN X0.here hx rfl (hb hby at_26) rfl ?_
      show Steps p.tables e below (s₁.setTop (mkF m 27 #[.val (.long j0), .second, .val (.long j1), .second, .val (.int i2), .val (.long j0), .second, .val (.int (i2 &&& (3 : Int32))), .val (.int ((((i2.toUInt32 >>> ((2 : Int32) &&& 31).toUInt32).toInt32) &&& (2147483647 : Int32)) % (5 : Int32))), .unset, .unset] [(.long j0)])) _
      refine X0.ldc2Long hx hown (mvT hZ (hw _ (List.mem_of_getElem? (i := 26) rfl))) (g := (mkF m 27 #[.val (.long j0), .second, .val (.long j1), .second, .val (.int i2), .val (.long j0), .second, .val (.int (i2 &&& (3 : Int32))), .val (.int ((((i2.toUInt32 >>> ((2 : Int32) &&& 31).toUInt32).toInt32) &&& (2147483647 : Int32)) % (5 : Int32))), .unset, .unset] [(.long j0)])) rfl (hb hby at_27) _ ?_
      show Steps p.tables e below (s₁.setTop (mkF m 30 #[.val (.long j0), .second, .val (.long j1), .second, .val (.int i2), .val (.long j0), .second, .val (.int (i2 &&& (3 : Int32))), .val (.int ((((i2.toUInt32 >>> ((2 : Int32) &&& 31).toUInt32).toInt32) &&& (2147483647 : Int32)) % (5 : Int32))), .unset, .unset] [(.long (8935141660703064064 : Int64)), (.long j0)])) _
      refine XS.lor X0.here hx rfl (hb hby at_30) rfl ?_
      show Steps p.tables e below (s₁.setTop (mkF m 31 #[.val (.long j0), .second, .val (.long j1), .second, .val (.int i2), .val (.long j0), .second, .val (.int (i2 &&& (3 : Int32))), .val (.int ((((i2.toUInt32 >>> ((2 : Int32) &&& 31).toUInt32).toInt32) &&& (2147483647 : Int32)) % (5 : Int32))), .unset, .unset] [(.long (j0 ||| (8935141660703064064 : Int64)))])) _
      refine XS.lstore X0.here hx rfl (hb hby at_31) rfl (l' := #[.val (.long j0), .second, .val (.long j1), .second, .val (.int i2), .val (.long (j0 ||| (8935141660703064064 : Int64))), .second, .val (.int (i2 &&& (3 : Int32))), .val (.int ((((i2.toUInt32 >>> ((2 : Int32) &&& 31).toUInt32).toInt32) &&& (2147483647 : Int32)) % (5 : Int32))), .unset, .unset]) rfl ?_
      show Steps p.tables e below (s₁.setTop (mkF m 33 #[.val (.long j0), .second, .val (.long j1), .second, .val (.int i2), .val (.long (j0 ||| (8935141660703064064 : Int64))), .second, .val (.int (i2 &&& (3 : Int32))), .val (.int ((((i2.toUInt32 >>> ((2 : Int32) &&& 31).toUInt32).toInt32) &&& (2147483647 : Int32)) % (5 : Int32))), .unset, .unset] [])) _
      refine XS.goto X0.here hx rfl (pc0 := 33) (pc' := 61) rfl (hb hby at_33) (by decide) (by decide) ?_
      exact kt
    have jj := J4 _ _ X0 e0 N0
    rw [show (own_j0_61_L5 j0 j1 i2) = (j0 ||| (8935141660703064064 : Int64)) from by rw [own_j0_61_L5, if_pos hc2]] at jj
    exact jj
  · -- pc 23
    refine ownE.go (T' := s₁) (f' := (mkF m 36 #[.val (.long j0), .second, .val (.long j1), .second, .val (.int i2), .val (.long j0), .second, .val (.int (i2 &&& (3 : Int32))), .val (.int ((((i2.toUInt32 >>> ((2 : Int32) &&& 31).toUInt32).toInt32) &&& (2147483647 : Int32)) % (5 : Int32))), .unset, .unset] [])) (fun t kt => XS.icmpYes (g := (mkF m 23 #[.val (.long j0), .second, .val (.long j1), .second, .val (.int i2), .val (.long j0), .second, .val (.int (i2 &&& (3 : Int32))), .val (.int ((((i2.toUInt32 >>> ((2 : Int32) &&& 31).toUInt32).toInt32) &&& (2147483647 : Int32)) % (5 : Int32))), .unset, .unset] [(.int (1 : Int32)), (.int (i2 &&& (3 : Int32)))])) X0.here hx rfl (pc0 := 23) (pc' := 36) rfl (hb hby at_23) rfl (Jvm.Free.XT.ii_ne_t hc2) (by decide) (by decide) kt) ?_
    refine ownE.go (T' := s₁) (f' := (mkF m 39 #[.val (.long j0), .second, .val (.long j1), .second, .val (.int i2), .val (.long j0), .second, .val (.int (i2 &&& (3 : Int32))), .val (.int ((((i2.toUInt32 >>> ((2 : Int32) &&& 31).toUInt32).toInt32) &&& (2147483647 : Int32)) % (5 : Int32))), .unset, .unset] [(.int (2 : Int32)), (.int (i2 &&& (3 : Int32)))])) (fun t kt => ?_) ?_
    · show Steps p.tables e below (s₁.setTop (mkF m 36 #[.val (.long j0), .second, .val (.long j1), .second, .val (.int i2), .val (.long j0), .second, .val (.int (i2 &&& (3 : Int32))), .val (.int ((((i2.toUInt32 >>> ((2 : Int32) &&& 31).toUInt32).toInt32) &&& (2147483647 : Int32)) % (5 : Int32))), .unset, .unset] [])) _
      refine XS.iload X0.here hx rfl (hb hby at_36) rfl ?_
      show Steps p.tables e below (s₁.setTop (mkF m 38 #[.val (.long j0), .second, .val (.long j1), .second, .val (.int i2), .val (.long j0), .second, .val (.int (i2 &&& (3 : Int32))), .val (.int ((((i2.toUInt32 >>> ((2 : Int32) &&& 31).toUInt32).toInt32) &&& (2147483647 : Int32)) % (5 : Int32))), .unset, .unset] [(.int (i2 &&& (3 : Int32)))])) _
      refine XS.iconst X0.here hx rfl (hb hby at_38) ?_
      exact kt
    by_cases hc3 : (i2 &&& (3 : Int32)) = (2 : Int32)
    · -- pc 39
      refine ownE.go (T' := s₁) (f' := (mkF m 42 #[.val (.long j0), .second, .val (.long j1), .second, .val (.int i2), .val (.long j0), .second, .val (.int (i2 &&& (3 : Int32))), .val (.int ((((i2.toUInt32 >>> ((2 : Int32) &&& 31).toUInt32).toInt32) &&& (2147483647 : Int32)) % (5 : Int32))), .unset, .unset] [])) (fun t kt => XS.icmpNo (g := (mkF m 39 #[.val (.long j0), .second, .val (.long j1), .second, .val (.int i2), .val (.long j0), .second, .val (.int (i2 &&& (3 : Int32))), .val (.int ((((i2.toUInt32 >>> ((2 : Int32) &&& 31).toUInt32).toInt32) &&& (2147483647 : Int32)) % (5 : Int32))), .unset, .unset] [(.int (2 : Int32)), (.int (i2 &&& (3 : Int32)))])) X0.here hx rfl (hb hby at_39) rfl (Jvm.Free.XT.ii_ne_f hc3) kt) ?_
      refine ownE.go (T' := s₁) (f' := (mkF m 61 #[.val (.long j0), .second, .val (.long j1), .second, .val (.int i2), .val (.long ((j0 ||| (8935141660703064064 : Int64)) &&& (((1 : Int64) <<< (((58 : Int32) + ((((i2.toUInt32 >>> ((2 : Int32) &&& 31).toUInt32).toInt32) &&& (2147483647 : Int32)) % (5 : Int32))) &&& 0x3f).toInt64) ^^^ (-1 : Int64)))), .second, .val (.int (i2 &&& (3 : Int32))), .val (.int ((((i2.toUInt32 >>> ((2 : Int32) &&& 31).toUInt32).toInt32) &&& (2147483647 : Int32)) % (5 : Int32))), .unset, .unset] [])) (fun t kt => ?_) ?_
      · show Steps p.tables e below (s₁.setTop (mkF m 42 #[.val (.long j0), .second, .val (.long j1), .second, .val (.int i2), .val (.long j0), .second, .val (.int (i2 &&& (3 : Int32))), .val (.int ((((i2.toUInt32 >>> ((2 : Int32) &&& 31).toUInt32).toInt32) &&& (2147483647 : Int32)) % (5 : Int32))), .unset, .unset] [])) _
        refine XS.lloadN X0.here hx rfl (hb hby at_42) rfl ?_
        show Steps p.tables e below (s₁.setTop (mkF m 43 #[.val (.long j0), .second, .val (.long j1), .second, .val (.int i2), .val (.long j0), .second, .val (.int (i2 &&& (3 : Int32))), .val (.int ((((i2.toUInt32 >>> ((2 : Int32) &&& 31).toUInt32).toInt32) &&& (2147483647 : Int32)) % (5 : Int32))), .unset, .unset] [(.long j0)])) _
        refine X0.ldc2Long hx hown (mvT hZ (hw _ (List.mem_of_getElem? (i := 26) rfl))) (g := (mkF m 43 #[.val (.long j0), .second, .val (.long j1), .second, .val (.int i2), .val (.long j0), .second, .val (.int (i2 &&& (3 : Int32))), .val (.int ((((i2.toUInt32 >>> ((2 : Int32) &&& 31).toUInt32).toInt32) &&& (2147483647 : Int32)) % (5 : Int32))), .unset, .unset] [(.long j0)])) rfl (hb hby at_43) _ ?_
        show Steps p.tables e below (s₁.setTop (mkF m 46 #[.val (.long j0), .second, .val (.long j1), .second, .val (.int i2), .val (.long j0), .second, .val (.int (i2 &&& (3 : Int32))), .val (.int ((((i2.toUInt32 >>> ((2 : Int32) &&& 31).toUInt32).toInt32) &&& (2147483647 : Int32)) % (5 : Int32))), .unset, .unset] [(.long (8935141660703064064 : Int64)), (.long j0)])) _
        refine XS.lor X0.here hx rfl (hb hby at_46) rfl ?_
        show Steps p.tables e below (s₁.setTop (mkF m 47 #[.val (.long j0), .second, .val (.long j1), .second, .val (.int i2), .val (.long j0), .second, .val (.int (i2 &&& (3 : Int32))), .val (.int ((((i2.toUInt32 >>> ((2 : Int32) &&& 31).toUInt32).toInt32) &&& (2147483647 : Int32)) % (5 : Int32))), .unset, .unset] [(.long (j0 ||| (8935141660703064064 : Int64)))])) _
        refine XS.lconst X0.here hx rfl (hb hby at_47) ?_
        show Steps p.tables e below (s₁.setTop (mkF m 48 #[.val (.long j0), .second, .val (.long j1), .second, .val (.int i2), .val (.long j0), .second, .val (.int (i2 &&& (3 : Int32))), .val (.int ((((i2.toUInt32 >>> ((2 : Int32) &&& 31).toUInt32).toInt32) &&& (2147483647 : Int32)) % (5 : Int32))), .unset, .unset] [(.long (1 : Int64)), (.long (j0 ||| (8935141660703064064 : Int64)))])) _
        refine XS.bipush X0.here hx rfl (hb hby at_48) ?_
        show Steps p.tables e below (s₁.setTop (mkF m 50 #[.val (.long j0), .second, .val (.long j1), .second, .val (.int i2), .val (.long j0), .second, .val (.int (i2 &&& (3 : Int32))), .val (.int ((((i2.toUInt32 >>> ((2 : Int32) &&& 31).toUInt32).toInt32) &&& (2147483647 : Int32)) % (5 : Int32))), .unset, .unset] [(.int (58 : Int32)), (.long (1 : Int64)), (.long (j0 ||| (8935141660703064064 : Int64)))])) _
        refine XS.iload X0.here hx rfl (hb hby at_50) rfl ?_
        show Steps p.tables e below (s₁.setTop (mkF m 52 #[.val (.long j0), .second, .val (.long j1), .second, .val (.int i2), .val (.long j0), .second, .val (.int (i2 &&& (3 : Int32))), .val (.int ((((i2.toUInt32 >>> ((2 : Int32) &&& 31).toUInt32).toInt32) &&& (2147483647 : Int32)) % (5 : Int32))), .unset, .unset] [(.int ((((i2.toUInt32 >>> ((2 : Int32) &&& 31).toUInt32).toInt32) &&& (2147483647 : Int32)) % (5 : Int32))), (.int (58 : Int32)), (.long (1 : Int64)), (.long (j0 ||| (8935141660703064064 : Int64)))])) _
        refine XS.iadd X0.here hx rfl (hb hby at_52) rfl ?_
        show Steps p.tables e below (s₁.setTop (mkF m 53 #[.val (.long j0), .second, .val (.long j1), .second, .val (.int i2), .val (.long j0), .second, .val (.int (i2 &&& (3 : Int32))), .val (.int ((((i2.toUInt32 >>> ((2 : Int32) &&& 31).toUInt32).toInt32) &&& (2147483647 : Int32)) % (5 : Int32))), .unset, .unset] [(.int ((58 : Int32) + ((((i2.toUInt32 >>> ((2 : Int32) &&& 31).toUInt32).toInt32) &&& (2147483647 : Int32)) % (5 : Int32)))), (.long (1 : Int64)), (.long (j0 ||| (8935141660703064064 : Int64)))])) _
        refine XS.lshl X0.here hx rfl (hb hby at_53) rfl ?_
        show Steps p.tables e below (s₁.setTop (mkF m 54 #[.val (.long j0), .second, .val (.long j1), .second, .val (.int i2), .val (.long j0), .second, .val (.int (i2 &&& (3 : Int32))), .val (.int ((((i2.toUInt32 >>> ((2 : Int32) &&& 31).toUInt32).toInt32) &&& (2147483647 : Int32)) % (5 : Int32))), .unset, .unset] [(.long ((1 : Int64) <<< (((58 : Int32) + ((((i2.toUInt32 >>> ((2 : Int32) &&& 31).toUInt32).toInt32) &&& (2147483647 : Int32)) % (5 : Int32))) &&& 0x3f).toInt64)), (.long (j0 ||| (8935141660703064064 : Int64)))])) _
        refine X0.ldc2Long hx hown (mvT hZ (hw _ (List.mem_of_getElem? (i := 27) rfl))) (g := (mkF m 54 #[.val (.long j0), .second, .val (.long j1), .second, .val (.int i2), .val (.long j0), .second, .val (.int (i2 &&& (3 : Int32))), .val (.int ((((i2.toUInt32 >>> ((2 : Int32) &&& 31).toUInt32).toInt32) &&& (2147483647 : Int32)) % (5 : Int32))), .unset, .unset] [(.long ((1 : Int64) <<< (((58 : Int32) + ((((i2.toUInt32 >>> ((2 : Int32) &&& 31).toUInt32).toInt32) &&& (2147483647 : Int32)) % (5 : Int32))) &&& 0x3f).toInt64)), (.long (j0 ||| (8935141660703064064 : Int64)))])) rfl (hb hby at_54) _ ?_
        show Steps p.tables e below (s₁.setTop (mkF m 57 #[.val (.long j0), .second, .val (.long j1), .second, .val (.int i2), .val (.long j0), .second, .val (.int (i2 &&& (3 : Int32))), .val (.int ((((i2.toUInt32 >>> ((2 : Int32) &&& 31).toUInt32).toInt32) &&& (2147483647 : Int32)) % (5 : Int32))), .unset, .unset] [(.long (-1 : Int64)), (.long ((1 : Int64) <<< (((58 : Int32) + ((((i2.toUInt32 >>> ((2 : Int32) &&& 31).toUInt32).toInt32) &&& (2147483647 : Int32)) % (5 : Int32))) &&& 0x3f).toInt64)), (.long (j0 ||| (8935141660703064064 : Int64)))])) _
        refine XS.lxor X0.here hx rfl (hb hby at_57) rfl ?_
        show Steps p.tables e below (s₁.setTop (mkF m 58 #[.val (.long j0), .second, .val (.long j1), .second, .val (.int i2), .val (.long j0), .second, .val (.int (i2 &&& (3 : Int32))), .val (.int ((((i2.toUInt32 >>> ((2 : Int32) &&& 31).toUInt32).toInt32) &&& (2147483647 : Int32)) % (5 : Int32))), .unset, .unset] [(.long (((1 : Int64) <<< (((58 : Int32) + ((((i2.toUInt32 >>> ((2 : Int32) &&& 31).toUInt32).toInt32) &&& (2147483647 : Int32)) % (5 : Int32))) &&& 0x3f).toInt64) ^^^ (-1 : Int64))), (.long (j0 ||| (8935141660703064064 : Int64)))])) _
        refine XS.land X0.here hx rfl (hb hby at_58) rfl ?_
        show Steps p.tables e below (s₁.setTop (mkF m 59 #[.val (.long j0), .second, .val (.long j1), .second, .val (.int i2), .val (.long j0), .second, .val (.int (i2 &&& (3 : Int32))), .val (.int ((((i2.toUInt32 >>> ((2 : Int32) &&& 31).toUInt32).toInt32) &&& (2147483647 : Int32)) % (5 : Int32))), .unset, .unset] [(.long ((j0 ||| (8935141660703064064 : Int64)) &&& (((1 : Int64) <<< (((58 : Int32) + ((((i2.toUInt32 >>> ((2 : Int32) &&& 31).toUInt32).toInt32) &&& (2147483647 : Int32)) % (5 : Int32))) &&& 0x3f).toInt64) ^^^ (-1 : Int64))))])) _
        refine XS.lstore X0.here hx rfl (hb hby at_59) rfl (l' := #[.val (.long j0), .second, .val (.long j1), .second, .val (.int i2), .val (.long ((j0 ||| (8935141660703064064 : Int64)) &&& (((1 : Int64) <<< (((58 : Int32) + ((((i2.toUInt32 >>> ((2 : Int32) &&& 31).toUInt32).toInt32) &&& (2147483647 : Int32)) % (5 : Int32))) &&& 0x3f).toInt64) ^^^ (-1 : Int64)))), .second, .val (.int (i2 &&& (3 : Int32))), .val (.int ((((i2.toUInt32 >>> ((2 : Int32) &&& 31).toUInt32).toInt32) &&& (2147483647 : Int32)) % (5 : Int32))), .unset, .unset]) rfl ?_
        exact kt
      have jj := J4 _ _ X0 e0 N0
      rw [show (own_j0_61_L5 j0 j1 i2) = ((j0 ||| (8935141660703064064 : Int64)) &&& (((1 : Int64) <<< (((58 : Int32) + ((((i2.toUInt32 >>> ((2 : Int32) &&& 31).toUInt32).toInt32) &&& (2147483647 : Int32)) % (5 : Int32))) &&& 0x3f).toInt64) ^^^ (-1 : Int64))) from by rw [own_j0_61_L5, if_neg hc2, if_pos hc3]] at jj
      exact jj
    · -- pc 39
      refine ownE.go (T' := s₁) (f' := (mkF m 61 #[.val (.long j0), .second, .val (.long j1), .second, .val (.int i2), .val (.long j0), .second, .val (.int (i2 &&& (3 : Int32))), .val (.int ((((i2.toUInt32 >>> ((2 : Int32) &&& 31).toUInt32).toInt32) &&& (2147483647 : Int32)) % (5 : Int32))), .unset, .unset] [])) (fun t kt => XS.icmpYes (g := (mkF m 39 #[.val (.long j0), .second, .val (.long j1), .second, .val (.int i2), .val (.long j0), .second, .val (.int (i2 &&& (3 : Int32))), .val (.int ((((i2.toUInt32 >>> ((2 : Int32) &&& 31).toUInt32).toInt32) &&& (2147483647 : Int32)) % (5 : Int32))), .unset, .unset] [(.int (2 : Int32)), (.int (i2 &&& (3 : Int32)))])) X0.here hx rfl (pc0 := 39) (pc' := 61) rfl (hb hby at_39) rfl (Jvm.Free.XT.ii_ne_t hc3) (by decide) (by decide) kt) ?_
      have jj := J4 _ _ X0 e0 N0
      rw [show (own_j0_61_L5 j0 j1 i2) = j0 from by rw [own_j0_61_L5, if_neg hc2, if_neg hc3]] at jj
      exact jj
theorem own_and_shl (n m k : Nat) : n &&& (m <<< k) = ((n >>> k) &&& m) <<< k := by
  apply Nat.eq_of_testBit_eq
  intro i
  simp only [Nat.testBit_and, Nat.testBit_shiftLeft, Nat.testBit_shiftRight]
  by_cases h : k ≤ i
  · have e : k + (i - k) = i := by omega
    simp [h, e]
  · simp [h]
theorem own_ushr58 (h : Int64) : ((h.toUInt64 >>> ((58 : Int32) &&& 0x3f).toInt64.toUInt64).toInt64).toBitVec.toNat = h.toBitVec.toNat >>> 58 := by
  show (h.toUInt64 >>> ((58 : Int32) &&& 0x3f).toInt64.toUInt64).toBitVec.toNat = _
  rw [UInt64.toBitVec_shiftRight]
  have e : ((((58 : Int32) &&& 0x3f).toInt64.toUInt64).toBitVec % 64#64) = 58#64 := by decide
  rw [show (64 : BitVec 64) = 64#64 from rfl, e]
  rfl
theorem own_and64 (a b : Int64) : (a &&& b).toBitVec.toNat = a.toBitVec.toNat &&& b.toBitVec.toNat := by
  rw [Int64.toBitVec_and, BitVec.toNat_and]
theorem own_eq64 (a b : Int64) : a = b ↔ a.toBitVec.toNat = b.toBitVec.toNat := by
  rw [← BitVec.toNat_inj.symm, Int64.toBitVec_inj]
/-- the five bits above bit 58 -/
theorem own_five (h K V v : Int64) (hK : K.toBitVec.toNat = 31 <<< 58) (hV : V.toBitVec.toNat = v.toBitVec.toNat <<< 58) : (h &&& K = V) ↔ (((h.toUInt64 >>> ((58 : Int32) &&& 0x3f).toInt64.toUInt64).toInt64) &&& (31 : Int64) = v) := by
  rw [own_eq64, own_eq64, own_and64, own_and64, own_ushr58, hK, hV, own_and_shl]
  have e : (31 : Int64).toBitVec.toNat = 31 := by decide
  rw [e]
  generalize (h.toBitVec.toNat >>> 58) &&& 31 = q
  rw [Nat.shiftLeft_eq, Nat.shiftLeft_eq]
  omega
theorem own_law (a b : Int64) (c : Int32) : own_f0 a b c = 1 := by
  unfold own_f0
  rw [if_pos]
  unfold own_f4 own_j0_94_S0
  generalize own_j0_61_L5 a b c = h
  have q := own_five h 8935141660703064064 8935141660703064064 31 (by decide) (by decide)
  by_cases e : h &&& (8935141660703064064 : Int64) = 8935141660703064064
  · rw [if_pos e, if_pos (q.mp e)]
  · rw [if_neg e, if_neg (fun z => e (q.mpr z))]

set_option maxRecDepth 65536 in
set_option maxHeartbeats 40000000 in
theorem comes_1 {Post : Tables → Env → Array Value → State → Outcome → State → Prop} (hpost : ∀ tb e args s v u, (limb_1_1.after args s (.returned v) u = true ∧ limb_1_2.after args s (.returned v) u = true ∧ True) → FrameEnd s (.returned v) u (Jvm.fieldLocs frame_1_writes args s ++ Jvm.arrayLocs frame_1_arrays args s ++ Jvm.staticLocs frame_1_statics s) 16 128 → Post tb e args s (.returned v) u) :
    ArmFor flags0 classFile x code maxLocals ret World_1 tables_1 room_1 Calls_1 rest_1 Pre_1 Post := by
  intro l hfl _ _ p e ha hc hk s m args below hf hA hF happ hP
  obtain ⟨hcalls, hrest, hpre⟩ := hP
  obtain ⟨-, -, -, hnamed, -, -, -, hat⟩ := (Spec.applies_iff hf).mp happ
  obtain ⟨hg, hn⟩ := and_e (Cond.before_iff.mp (show (Jvm.Cond.and given_1 narrow_1).before args s = true from hpre))
  obtain ⟨g1, g2⟩ := and_e hg
  obtain ⟨g3, g4⟩ := and_e g2
  obtain ⟨g5, g6⟩ := and_e g4
  obtain ⟨w0, w1, w2, rfl⟩ : ∃ w0 w1 w2 : Value, args = #[w0, w1, w2] := by
    have hs : args.size = 3 := by simpa [Cond.value, given_1] using g1
    obtain ⟨L⟩ := args
    match L, hs with
    | [w0, w1, w2], _ => exact ⟨w0, w1, w2, rfl⟩
  have hw := fun d (hd : d ∈ tables_1) => atoms_spec (ws := Jvm.Cond.code x code maxLocals ret :: tables_1) hat d (List.mem_cons_of_mem _ hd)
  have hfit : Fit s := fun {y c} hc i hi => by
    obtain ⟨ha, rfl⟩ := Array.getElem?_eq_some_iff.mp hc
    have q := List.all_eq_true.mp ((Array.all_eq_true_iff_forall_mem.mp hF) _ (Array.getElem_mem ha)) i (List.mem_range.mpr hi)
    simpa [Array.getElem?_eq_getElem hi] using q
  obtain ⟨i0, ei0⟩ := isL_v g3
  obtain rfl : w0 = (.long i0) := Option.some.inj ei0
  obtain ⟨i1, ei1⟩ := isL_v g5
  obtain rfl : w1 = (.long i1) := Option.some.inj ei1
  obtain ⟨i2, ei2⟩ := is_v g6
  obtain rfl : w2 = (.int i2) := Option.some.inj ei2
  obtain ⟨n, o, h1, h2, h3, _, L, rfl, ⟨rfl, N, -⟩, hq⟩ := own_rm0 l s _ hw tables_1 i0 i1 i2  s.heap s.heap.size (Nat.le_refl _)  p e ha hc hk s m _ below hf ((Spec.applies_iff_loose hf).mp happ).1 ⟨rfl, State.Warmed39.refl s, rfl⟩ trivial
  refine ⟨n, _, h1, h2, h3, hpost _ _ _ _ _ _ ⟨Cond.after_iff.mpr rfl, Cond.after_iff.mpr (eq_i res_at (Term.int_eval (1)) (congrArg Value.int (own_law i0 i1 i2))), trivial⟩ ⟨hq.1, hq.2.1, (hq.2.2.sift fun y hy => Or.inr (N y hy)).mono (by decide) (by decide)⟩⟩
theorem main_1_1 : Claimed_1_1 := comes_1 fun _ _ _ _ _ _ h hF => ⟨h.1, hF⟩
theorem main_1_2 : Claimed_1_2 := comes_1 fun _ _ _ _ _ _ h hF => ⟨h.2.1, hF⟩
end Jvm.Pilot.@@N@@
namespace Jvm.Pilot.@@N@@
open Jvm Jvm.ClassFile Sem Op Lib Jvm.Free Jvm.Stand Jvm.Pilot.@@N@@.Jvm.D
/-! MADE BY PROGRAM (witnessworld.py) out of the Statement's table words and the real class files: 11 classes; the members and pool entries that the words name. The judged class is class 1, her method 1. -/
namespace start1
open Jvm.ClassFile
def u (s : String) : CpInfo := .utf8 (stringToUtf16 s)
/-- a pool by its gaps: so many unusable entries, then the entry; so many at the end -/
def gap : Nat → List CpInfo → List CpInfo
  | 0, r => r
  | n + 1, r => .unusable :: gap n r
def poolList (es : List (Nat × CpInfo)) (last : Nat) : List CpInfo := es.foldr (fun e r => gap e.1 (e.2 :: r)) (gap last [])
def pool (es : List (Nat × CpInfo)) (last : Nat) : Array CpInfo := ⟨poolList es last⟩
def fileOf (pool : Array CpInfo) (this : Nat) (attrs : Array Attribute := #[]) (ms : Array MethodInfo := #[]) (fl : Nat := 33) (sup : Nat := 0) (ifs : Array Nat := #[]) (fds : Array FieldInfo := #[]) : ClassFile where
  minorVersion := 0
  majorVersion := 65
  constantPool := pool
  accessFlags := fl
  thisClass := this
  superClass := sup
  interfaces := ifs
  fields := fds
  methods := ms
  attributes := attrs
def plain (name : String) (sup : Option ClassId) : Class where
  name := name
  kind := .ordinary
  loader := none
  accessFlags := 33
  super := sup
  interfaces := #[]
  cf := none
  fields := #[]
  methods := #[]
  instanceTypes := #[]
  staticTypes := #[]
  resolved := #[]
  callSites := []
  init := .initialized
  statics := none
  mirror := none

def pool0 : Array CpInfo := pool [(5, u "<init>"), (0, u "()V"), (1, .class_ 10), (1, u "java/lang/Object")] 113

def k0c0 : Code := { maxStack := 0, maxLocals := 1, code := object_method_1_code, exceptionTable := #[], attributes := #[] }
def k0m0 : Method := { name := "<init>", desc := "()V", sig := { parameters := [], returnType := none }, accessFlags := 1, code := some k0c0 }
/-- java/lang/Object -/
def k0 : Class := { plain "java/lang/Object" none with
  accessFlags := 33
  interfaces := #[]
  cf := some (fileOf pool0 8 #[] #[{ accessFlags := 1, nameIndex := 5, descriptorIndex := 6, attributes := #[] }] 33 0 #[] #[])
  fields := #[]
  methods := #[k0m0]
  instanceTypes := #[]
  staticTypes := #[]
  resolved := Array.replicate 124 none
  statics := none }

def pool1 : Array CpInfo := pool [(2, .class_ 4), (1, u "java/lang/Object"), (0, u "<init>"), (0, u "()V"), (0, .integer 2147483647), (0, .long 8935141660703064064), (1, .long 18446744073709551615), (1, .class_ 13), (0, u "com/example/marrow/marrow/BsonDecimal128"), (0, .methodref 12 15), (0, .nameAndType 5 16), (0, u "(JJ)V"), (0, .long 31), (1, .methodref 12 20), (0, .nameAndType 21 22), (0, u "isNaN"), (0, u "()Z"), (0, .class_ 24), (0, u "com/example/marrow/marrow/BsonDecimal128IsNaNPinLaw"), (2, u "law"), (0, u "(JJI)Z")] 3

def k1m0 : Method := { name := "<init>", desc := "()V", sig := { parameters := [], returnType := none }, accessFlags := 1, code := none }
def k1c1 : Code := { maxStack := 6, maxLocals := 11, code := code, exceptionTable := #[], attributes := #[] }
def k1m1 : Method := { name := "law", desc := "(JJI)Z", sig := { parameters := [.long, .long, .int], returnType := some .boolean }, accessFlags := 9, code := some k1c1 }
/-- com/example/marrow/marrow/BsonDecimal128IsNaNPinLaw -/
def k1 : Class := { plain "com/example/marrow/marrow/BsonDecimal128IsNaNPinLaw" (some 0) with
  accessFlags := 49
  interfaces := #[]
  cf := some (fileOf pool1 23 #[] #[{ accessFlags := 1, nameIndex := 5, descriptorIndex := 6, attributes := #[] }, { accessFlags := 9, nameIndex := 27, descriptorIndex := 28, attributes := #[] }] 49 2 #[] #[])
  fields := #[]
  methods := #[k1m0, k1m1]
  instanceTypes := #[]
  staticTypes := #[]
  resolved := Array.replicate 32 none
  statics := none }

def pool2 : Array CpInfo := pool [(1, .methodref 2 3), (0, .class_ 4), (0, .nameAndType 5 6), (0, u "java/lang/Object"), (0, u "<init>"), (0, u "()V"), (0, .class_ 8), (0, u "java/lang/Record")] 13

def k2c0 : Code := { maxStack := 1, maxLocals := 1, code := jdk_30_method_1_code, exceptionTable := #[], attributes := #[] }
def k2m0 : Method := { name := "<init>", desc := "()V", sig := { parameters := [], returnType := none }, accessFlags := 4, code := some k2c0 }
/-- java/lang/Record -/
def k2 : Class := { plain "java/lang/Record" (some 0) with
  accessFlags := 1057
  interfaces := #[]
  cf := some (fileOf pool2 7 #[] #[{ accessFlags := 4, nameIndex := 5, descriptorIndex := 6, attributes := #[] }] 1057 2 #[] #[])
  fields := #[]
  methods := #[k2m0]
  instanceTypes := #[]
  staticTypes := #[]
  resolved := Array.replicate 22 none
  statics := none }

def pool3 : Array CpInfo := pool [(1, .class_ 2), (0, u "com/example/marrow/marrow/BsonValue"), (0, .class_ 4), (0, u "java/lang/Object")] 47

/-- com/example/marrow/marrow/BsonValue -/
def k3 : Class := { plain "com/example/marrow/marrow/BsonValue" (some 0) with
  accessFlags := 1537
  interfaces := #[]
  cf := some (fileOf pool3 1 #[] #[] 1537 3 #[] #[])
  fields := #[]
  methods := #[]
  instanceTypes := #[]
  staticTypes := #[]
  resolved := Array.replicate 52 none
  statics := none }

def pool4 : Array CpInfo := pool [(1, .class_ 2), (0, u "com/example/marrow/marrow/BsonDecimal128"), (2, .methodref 6 7), (0, .class_ 8), (0, .nameAndType 9 10), (0, u "java/lang/Record"), (0, u "<init>"), (0, u "()V"), (0, .fieldref 1 12), (0, .nameAndType 13 14), (0, u "high"), (0, u "J"), (0, .fieldref 1 16), (0, .nameAndType 17 14), (0, u "low"), (40, .long 8935141660703064064), (3, u "(JJ)V"), (37, u "isNaN"), (0, u "()Z"), (44, u "Ljava/math/BigInteger;"), (20, u "MAX_COEFFICIENT"), (101, .class_ 270), (0, u "com/example/marrow/marrow/BsonValue"), (0, u "MIN_EXPONENT"), (0, u "I"), (2, u "MAX_EXPONENT"), (1, u "MAX_DIGITS"), (1, u "BIAS"), (1, u "SIGN"), (0, u "SPECIAL"), (0, u "INFINITY"), (0, u "NAN"), (0, u "SHIFTED"), (0, u "EXPONENT_AT"), (1, u "SHIFTED_EXPONENT_AT"), (1, u "EXPONENT_MASK"), (0, u "COEFFICIENT_MASK"), (0, u "EXPONENT_LIMIT")] 48

def k4c0 : Code := { maxStack := 3, maxLocals := 5, code := prog_9_method_1_code, exceptionTable := #[], attributes := #[] }
def k4m0 : Method := { name := "<init>", desc := "(JJ)V", sig := { parameters := [.long, .long], returnType := none }, accessFlags := 1, code := some k4c0 }
def k4c1 : Code := { maxStack := 4, maxLocals := 1, code := prog_9_method_4_code, exceptionTable := #[], attributes := #[] }
def k4m1 : Method := { name := "isNaN", desc := "()Z", sig := { parameters := [], returnType := some .boolean }, accessFlags := 1, code := some k4c1 }
/-- com/example/marrow/marrow/BsonDecimal128 -/
def k4 : Class := { plain "com/example/marrow/marrow/BsonDecimal128" (some 2) with
  accessFlags := 49
  interfaces := #[3]
  cf := some (fileOf pool4 1 #[] #[{ accessFlags := 1, nameIndex := 9, descriptorIndex := 62, attributes := #[] }, { accessFlags := 1, nameIndex := 100, descriptorIndex := 101, attributes := #[] }] 49 6 #[269] #[{ accessFlags := 18, nameIndex := 13, descriptorIndex := 14, attributes := #[] }, { accessFlags := 18, nameIndex := 17, descriptorIndex := 14, attributes := #[] }, { accessFlags := 25, nameIndex := 271, descriptorIndex := 272, attributes := #[] }, { accessFlags := 25, nameIndex := 275, descriptorIndex := 272, attributes := #[] }, { accessFlags := 26, nameIndex := 277, descriptorIndex := 272, attributes := #[] }, { accessFlags := 26, nameIndex := 167, descriptorIndex := 146, attributes := #[] }, { accessFlags := 26, nameIndex := 279, descriptorIndex := 272, attributes := #[] }, { accessFlags := 26, nameIndex := 281, descriptorIndex := 14, attributes := #[] }, { accessFlags := 26, nameIndex := 282, descriptorIndex := 14, attributes := #[] }, { accessFlags := 26, nameIndex := 283, descriptorIndex := 14, attributes := #[] }, { accessFlags := 26, nameIndex := 284, descriptorIndex := 14, attributes := #[] }, { accessFlags := 26, nameIndex := 285, descriptorIndex := 14, attributes := #[] }, { accessFlags := 26, nameIndex := 286, descriptorIndex := 272, attributes := #[] }, { accessFlags := 26, nameIndex := 288, descriptorIndex := 272, attributes := #[] }, { accessFlags := 26, nameIndex := 290, descriptorIndex := 14, attributes := #[] }, { accessFlags := 26, nameIndex := 291, descriptorIndex := 14, attributes := #[] }, { accessFlags := 26, nameIndex := 292, descriptorIndex := 14, attributes := #[] }])
  fields := #[{ name := "high", type := .long, accessFlags := 18, slot := 0, constantValue := 0 }, { name := "low", type := .long, accessFlags := 18, slot := 1, constantValue := 0 }, { name := "MIN_EXPONENT", type := .int, accessFlags := 25, slot := 0, constantValue := 0 }, { name := "MAX_EXPONENT", type := .int, accessFlags := 25, slot := 1, constantValue := 0 }, { name := "MAX_DIGITS", type := .int, accessFlags := 26, slot := 2, constantValue := 0 }, { name := "MAX_COEFFICIENT", type := (.object "java/math/BigInteger"), accessFlags := 26, slot := 3, constantValue := 0 }, { name := "BIAS", type := .int, accessFlags := 26, slot := 4, constantValue := 0 }, { name := "SIGN", type := .long, accessFlags := 26, slot := 5, constantValue := 0 }, { name := "SPECIAL", type := .long, accessFlags := 26, slot := 6, constantValue := 0 }, { name := "INFINITY", type := .long, accessFlags := 26, slot := 7, constantValue := 0 }, { name := "NAN", type := .long, accessFlags := 26, slot := 8, constantValue := 0 }, { name := "SHIFTED", type := .long, accessFlags := 26, slot := 9, constantValue := 0 }, { name := "EXPONENT_AT", type := .int, accessFlags := 26, slot := 10, constantValue := 0 }, { name := "SHIFTED_EXPONENT_AT", type := .int, accessFlags := 26, slot := 11, constantValue := 0 }, { name := "EXPONENT_MASK", type := .long, accessFlags := 26, slot := 12, constantValue := 0 }, { name := "COEFFICIENT_MASK", type := .long, accessFlags := 26, slot := 13, constantValue := 0 }, { name := "EXPONENT_LIMIT", type := .long, accessFlags := 26, slot := 14, constantValue := 0 }]
  methods := #[k4m0, k4m1]
  instanceTypes := #[.long, .long]
  staticTypes := #[.int, .int, .int, (.object "java/math/BigInteger"), .int, .long, .long, .long, .long, .long, .int, .int, .long, .long, .long]
  resolved := Array.replicate 341 none
  statics := none }

def pool5 : Array CpInfo := pool [(1, u "java/lang/Cloneable"), (0, .class_ 1), (0, u "java/lang/Object"), (0, .class_ 3)] 3

/-- java/lang/Cloneable -/
def k5 : Class := { plain "java/lang/Cloneable" (some 0) with
  accessFlags := 1537
  interfaces := #[]
  cf := some (fileOf pool5 2 #[] #[] 1537 4 #[] #[])
  fields := #[]
  methods := #[]
  instanceTypes := #[]
  staticTypes := #[]
  resolved := Array.replicate 8 none
  statics := none }

def pool6 : Array CpInfo := pool [(1, u "java/io/Serializable"), (0, .class_ 1), (0, u "java/lang/Object"), (0, .class_ 3)] 3

/-- java/io/Serializable -/
def k6 : Class := { plain "java/io/Serializable" (some 0) with
  accessFlags := 1537
  interfaces := #[]
  cf := some (fileOf pool6 2 #[] #[] 1537 4 #[] #[])
  fields := #[]
  methods := #[]
  instanceTypes := #[]
  staticTypes := #[]
  resolved := Array.replicate 8 none
  statics := none }

/-- the primitive byte -/
def k7 : Class := { plain "byte" none with kind := .primitive 'B', accessFlags := 0x411 }
/-- [B -/
def k8 : Class := { plain "[B" (some 0) with kind := .array 7 .byte, interfaces := #[5, 6], accessFlags := 1041 }

/-- the primitive int -/
def k9 : Class := { plain "int" none with kind := .primitive 'I', accessFlags := 0x411 }
/-- [I -/
def k10 : Class := { plain "[I" (some 0) with kind := .array 9 .int, interfaces := #[5, 6], accessFlags := 1041 }

def heap : Heap := #[]
def classes : Array Class := #[k0, k1, k2, k3, k4, k5, k6, k7, k8, k9, k10]
def interned : List (Array UInt16 × Addr) := []
def slotsUsed : Nat := 0
def theMethod : MethodId := ⟨1, 1⟩
def args0 : Array Value := #[.long 5, .long 5, .int 5]
def aboutOver (below : List Frame) : State where
  vm := { classes := classes, interned := interned.toArray }
  heap := heap
  slotsUsed := slotsUsed
  threads := #[{ frames := .invoking theMethod args0 :: below }]
def below0 : List Frame := [.native { method := ⟨0, 0⟩, args := #[] }]
def about1 : State := aboutOver below0
def p0 : Program := .bare "" "" ""
def e0 : Env := launch0.env 0 0 0
theorem w_frames : about1.frames = Frame.invoking theMethod args0 :: below0 := rfl
set_option maxRecDepth 65536 in
theorem w_args : argsFit about1.vm theMethod args0 = true := by decide +kernel
set_option maxRecDepth 65536 in
theorem w_heap : heapFits about1 = true := by decide +kernel
set_option maxRecDepth 65536 in
theorem w_runnable : about1.curStatus? = some .runnable := by decide +kernel
set_option maxRecDepth 65536 in
theorem w_alone : about1.alone = true := by decide +kernel
set_option maxRecDepth 65536 in
theorem w_named : about1.methodNamed? x = some theMethod := by decide +kernel
set_option maxRecDepth 65536 in
theorem w_hears : about1.hears theMethod below0 = true := by decide +kernel
set_option maxRecDepth 65536 in
theorem w_ripe : about1.ripe theMethod args0 below0 = true := by decide +kernel
theorem w_running : about1.status = .running := rfl
set_option maxRecDepth 65536 in
theorem w_room : about1.hasRoom e0.platform room_1 = true :=
  launch0.hasRoom_least _ room_1 (by decide +kernel) (by decide +kernel) (by decide +kernel) (by decide +kernel) (by decide +kernel) (by decide +kernel)
theorem allAtoms_all (ts : List Jvm.Cond) (a : Array Jvm.Value) (st : Jvm.State) : (allAtoms ts).before a st = ts.all (fun c => c.before a st) := by
  induction ts with
  | nil => rfl
  | cons c t ih =>
    show (Jvm.Cond.and c (allAtoms t)).before a st = _
    rw [Jvm.Cond.before_and, ih, List.all_cons]
def words1 : List Jvm.Cond := Jvm.Cond.code x code maxLocals ret :: tables_1
/-- a 'code' word, met by the world's own term for the bytes: nothing is compared byte by byte -/
theorem code_word {y : MethodName} {bytes : ByteArray} {mx : Nat} {rt : Option FieldType} {a : Array Value} {s : State} {m : MethodId} {meth : Method} {c : Code} (h1 : s.methodNamed? y = some m) (h2 : s.vm.method? m = some meth) (h3 : meth.code = some c) (h4 : c.code = bytes)
    (h5 : (c.maxLocals == mx && c.exceptionTable.isEmpty && decide (c.maxStack ≤ mostOperands) && decide (meth.sig.returnType = rt) && !meth.locks && decide (parseMethodDescriptor y.desc = some meth.sig)) = true) : (Jvm.Cond.code y bytes mx rt).before a s = true := by
  simp only [Bool.and_eq_true, beq_iff_eq, Bool.not_eq_true', decide_eq_true_eq] at h5
  obtain ⟨⟨⟨⟨⟨g1, g2⟩, g3⟩, g4⟩, g5⟩, g6⟩ := h5
  simp [Cond.before, Cond.holds, Cond.value, h1, h2, h3, h4, g1, g2, g3, g4, g5, g6]
def isCode : Jvm.Cond → Bool
  | .code _ _ _ _ => true
  | _ => false
theorem all_split {L : List Jvm.Cond} {P : Jvm.Cond → Bool} (h1 : L.all (fun c => isCode c || P c) = true) (h2 : ∀ c ∈ L.filter isCode, P c = true) : L.all P = true := by
  refine List.all_eq_true.mpr fun c hc => ?_
  have h := List.all_eq_true.mp h1 c hc
  rcases Bool.eq_false_or_eq_true (isCode c) with hi | hi
  · exact h2 c (List.mem_filter.mpr ⟨hc, hi⟩)
  · simpa [hi] using h
set_option maxRecDepth 65536 in
theorem w_c0 : (Jvm.Cond.code x code maxLocals ret).before args0 about1 = true := code_word (m := ⟨1, 1⟩) (meth := k1m1) (c := k1c1) (by decide +kernel) rfl rfl rfl (by decide +kernel)
set_option maxRecDepth 65536 in
theorem w_c1 : (Jvm.Cond.code ({ cls := "com/example/marrow/marrow/BsonDecimal128", name := "<init>", desc := "(JJ)V" } : Jvm.MethodName) prog_9_method_1_code (5 : Nat) (Option.none : Option Jvm.ClassFile.FieldType)).before args0 about1 = true := code_word (m := ⟨4, 0⟩) (meth := k4m0) (c := k4c0) (by decide +kernel) rfl rfl rfl (by decide +kernel)
set_option maxRecDepth 65536 in
theorem w_c2 : (Jvm.Cond.code ({ cls := "java/lang/Record", name := "<init>", desc := "()V" } : Jvm.MethodName) jdk_30_method_1_code (1 : Nat) (Option.none : Option Jvm.ClassFile.FieldType)).before args0 about1 = true := code_word (m := ⟨2, 0⟩) (meth := k2m0) (c := k2c0) (by decide +kernel) rfl rfl rfl (by decide +kernel)
set_option maxRecDepth 65536 in
theorem w_c3 : (Jvm.Cond.code ({ cls := "java/lang/Object", name := "<init>", desc := "()V" } : Jvm.MethodName) object_method_1_code (1 : Nat) (Option.none : Option Jvm.ClassFile.FieldType)).before args0 about1 = true := code_word (m := ⟨0, 0⟩) (meth := k0m0) (c := k0c0) (by decide +kernel) rfl rfl rfl (by decide +kernel)
set_option maxRecDepth 65536 in
theorem w_c4 : (Jvm.Cond.code ({ cls := "com/example/marrow/marrow/BsonDecimal128", name := "isNaN", desc := "()Z" } : Jvm.MethodName) prog_9_method_4_code (1 : Nat) (Option.some Jvm.ClassFile.FieldType.boolean)).before args0 about1 = true := code_word (m := ⟨4, 1⟩) (meth := k4m1) (c := k4c1) (by decide +kernel) rfl rfl rfl (by decide +kernel)
def codes1 : List Jvm.Cond := [Jvm.Cond.code x code maxLocals ret, Jvm.Cond.code ({ cls := "com/example/marrow/marrow/BsonDecimal128", name := "<init>", desc := "(JJ)V" } : Jvm.MethodName) prog_9_method_1_code (5 : Nat) (Option.none : Option Jvm.ClassFile.FieldType), Jvm.Cond.code ({ cls := "java/lang/Record", name := "<init>", desc := "()V" } : Jvm.MethodName) jdk_30_method_1_code (1 : Nat) (Option.none : Option Jvm.ClassFile.FieldType), Jvm.Cond.code ({ cls := "java/lang/Object", name := "<init>", desc := "()V" } : Jvm.MethodName) object_method_1_code (1 : Nat) (Option.none : Option Jvm.ClassFile.FieldType), Jvm.Cond.code ({ cls := "com/example/marrow/marrow/BsonDecimal128", name := "isNaN", desc := "()Z" } : Jvm.MethodName) prog_9_method_4_code (1 : Nat) (Option.some Jvm.ClassFile.FieldType.boolean)]
set_option maxRecDepth 65536 in
theorem codes_eq : words1.filter isCode = codes1 := rfl
theorem w_codes : ∀ c ∈ words1.filter isCode, c.before args0 about1 = true := by
  rw [codes_eq]
  intro c hc
  simp only [codes1, List.mem_cons, List.not_mem_nil, or_false] at hc
  rcases hc with rfl | rfl | rfl | rfl | rfl
  · exact w_c0
  · exact w_c1
  · exact w_c2
  · exact w_c3
  · exact w_c4
set_option maxRecDepth 65536 in
theorem w_t1 : (words1.take 24).all (fun c => isCode c || c.before args0 about1) = true := by decide +kernel
set_option maxRecDepth 65536 in
theorem w_t2 : (words1.drop 24).all (fun c => isCode c || c.before args0 about1) = true := by decide +kernel
theorem w_tables : (allAtoms (Jvm.Cond.code x code maxLocals ret :: tables_1)).before args0 about1 = true := by
  rw [allAtoms_all]
  show words1.all (fun c => c.before args0 about1) = true
  refine all_split ?_ w_codes
  rw [← List.take_append_drop 24 words1, List.all_append, w_t1, w_t2]
  rfl
set_option maxRecDepth 65536 in
theorem w_case : (Jvm.Cond.and given_1 narrow_1).before args0 about1 = true := by decide +kernel
theorem w_applies : (headSpec (Jvm.Cond.code x code maxLocals ret :: tables_1) room_1).applies x e0.platform about1 = true :=
  (Spec.applies_iff w_frames).mpr ⟨w_running, w_runnable, w_alone, w_named, w_hears, w_ripe, w_room, w_tables⟩
theorem atStart : AtStart classFile x code maxLocals ret World_1 tables_1 room_1 Calls_1 rest_1 Pre_1 launch0 p0 e0 about1 theMethod args0 below0 :=
  ⟨lists_1, trivial, launch0.admits_env _ _ _, launch0.least_env, fairChoices_fair.cas, fairChoices_fair.clock, w_frames, w_args, w_heap, w_applies, trivial, trivial, w_case⟩
end start1
theorem witness_1 : WitnessClaimed_1 := ⟨start1.p0, start1.e0, start1.about1, start1.theMethod, start1.args0, start1.below0, start1.atStart⟩
end Jvm.Pilot.@@N@@
