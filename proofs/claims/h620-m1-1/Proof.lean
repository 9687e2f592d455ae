import JvmDerived
import JvmDerived.Pilot.@@N@@Statement
import JvmDerived.Pilot.@@N@@Code
set_option linter.unusedVariables false
set_option linter.unusedSimpArgs false
namespace Jvm.RoadKit
open Sem ClassFile Op Lib Jvm.Stand Jvm.Free Jvm.LawKit
section New
variable {p : Program} {l : Launch} {e : Env} {R : Room} {s : State} {m : MethodId} {args : Array Value} {below : List Frame} {meth : Method} {c : Code} {T : State} {locs : List Loc} {cells slots : Nat}
theorem retI (X : Stand p l e R s m args below meth c T locs cells slots) (hx : p.tables.exec = Jvm.exec) {pc : Nat} {Ls : Array Slot} {z : Int32} {rest : List Value} (hret : meth.sig.returnType = some .int) (hd : decode c.code pc = .ok (.ireturn, 1)) {fs : List Frame}
    (hl : ∀ (f : JFrame) (acts : List Action), f.method = m → f.locked = none → f.entered = [] → (doReturn e (T.setTop f) acts (some (.int z))).1 = T.setFrames fs) : Steps p.tables e below (T.setTop (mkF m pc Ls (.int z :: rest))) (T.setFrames fs) := by
  have hm' : T.vm.method? m = some meth := X.method'
  have hn : narrow .int (.int z) = .int z := rfl
  show Steps p.tables e below (T.setTop { method := m, pc := pc, locals := Ls, stack := _ :: rest, locked := none }) _
  jvm_step X.here [X.here.top, hx, hd, hm', hret, hn]
  first | (intro acts; rw [hl _ acts rfl rfl rfl]) | rw [hl _ _ rfl rfl rfl]
  exact Steps.refl _
end New
/-! the walk in continuation form: from the state T at the frame f the run ends by a return, as Q says -/
section Own
variable {p : Program} {l : Launch} {e : Env} {R : Room} {s : State} {m : MethodId} {args : Array Value} {below : List Frame} {meth : Method} {c : Code} {T T' : State} {locs : List Loc} {cells slots k n : Nat} {Q : Option Value → Heap → List Loc → Prop} {f f' : JFrame}
def ownE (p : Program) (e : Env) (below : List Frame) (s : State) (Q : Option Value → Heap → List Loc → Prop) (k n : Nat) (T : State) (f : JFrame) : Prop :=
  ∃ s₂ o, Steps p.tables e below (T.setTop f) s₂ ∧ s₂.status = .running ∧ Ended s₂ below o ∧ ∃ v L, o = .returned v ∧ Q v s₂.heap L ∧ FrameEnd s o s₂ L k n
theorem ownE.go (g : ∀ t, Steps p.tables e below (T'.setTop f') t → Steps p.tables e below (T.setTop f) t) (h : ownE p e below s Q k n T' f') : ownE p e below s Q k n T f := by
  obtain ⟨s₂, o, h1, r⟩ := h
  exact ⟨s₂, o, g _ h1, r⟩
theorem ownE.goS (g : Steps p.tables e below (T.setTop f) (T'.setTop f')) (h : ownE p e below s Q k n T' f') : ownE p e below s Q k n T f := by
  obtain ⟨s₂, o, h1, r⟩ := h
  exact ⟨s₂, o, g.trans h1, r⟩
theorem ownE.ret (X : Stand p l e R s m args below meth c T locs cells slots) {v : Option Value} (hlk : meth.locks = false) (hv : meth.sig.returnType = none → v = none)
    (st : ∀ fs, (∀ (f : JFrame) (acts : List Action), f.method = m → f.locked = none → f.entered = [] → (doReturn e (T.setTop f) acts v).1 = T.setFrames fs) → Steps p.tables e below (T.setTop f) (T.setFrames fs))
    (hQ : Q v T.heap locs) (hk : cells ≤ k) (hn : slots ≤ n) : ownE p e below s Q k n T f := by
  obtain ⟨fs, hr, hrun, hended, hW, hsame⟩ := X.leave (v := v) hv hlk
  exact ⟨_, _, st fs hr, hrun, hended, _, _, rfl, hQ, ⟨_, rfl⟩, hW, hsame.mono hk hn⟩
theorem ownE.retI (X : Stand p l e R s m args below meth c T locs cells slots) (hx : p.tables.exec = Jvm.exec) (hlk : meth.locks = false) {pc : Nat} {Ls : Array Slot} {z : Int32} {rest : List Value} (hret : meth.sig.returnType = some .int) (hd : decode c.code pc = .ok (.ireturn, 1))
    (hQ : Q (some (.int z)) T.heap locs) (hk : cells ≤ k) (hn : slots ≤ n) : ownE p e below s Q k n T (mkF m pc Ls (.int z :: rest)) :=
  ownE.ret X hlk (fun h => by rw [hret] at h; cases h) (fun fs hr => Jvm.RoadKit.retI X hx hret hd hr) hQ hk hn
theorem ownE.retN (X : Stand p l e R s m args below meth c T locs cells slots) (hx : p.tables.exec = Jvm.exec) (hlk : meth.locks = false) {pc : Nat} {Ls : Array Slot} {z : Int32} {rest : List Value} {t : FieldType} (hret : meth.sig.returnType = some t) (ht : t = .boolean ∨ t = .byte ∨ t = .char ∨ t = .short) (hd : decode c.code pc = .ok (.ireturn, 1))
    (hQ : Q (some (.int (nar t z))) T.heap locs) (hk : cells ≤ k) (hn : slots ≤ n) : ownE p e below s Q k n T (mkF m pc Ls (.int z :: rest)) :=
  ownE.ret X hlk (fun h => by rw [hret] at h; cases h) (fun fs hr => Jvm.RoadKit.retN X hx hret ht hd hr) hQ hk hn
theorem ownE.retL (X : Stand p l e R s m args below meth c T locs cells slots) (hx : p.tables.exec = Jvm.exec) (hlk : meth.locks = false) {pc : Nat} {Ls : Array Slot} {z : Int64} {rest : List Value} (hret : meth.sig.returnType = some .long) (hd : decode c.code pc = .ok (.lreturn, 1))
    (hQ : Q (some (.long z)) T.heap locs) (hk : cells ≤ k) (hn : slots ≤ n) : ownE p e below s Q k n T (mkF m pc Ls (.long z :: rest)) :=
  ownE.ret X hlk (fun h => by rw [hret] at h; cases h) (fun fs hr => Jvm.RoadKit.retOut X hx hret rfl (Or.inr (Or.inl ⟨rfl, rfl, z, rfl⟩)) hd hr) hQ hk hn
theorem ownE.retA (X : Stand p l e R s m args below meth c T locs cells slots) (hx : p.tables.exec = Jvm.exec) (hlk : meth.locks = false) {pc : Nat} {Ls : Array Slot} {z : Value} {rest : List Value} {t : FieldType} (hret : meth.sig.returnType = some t) (ht : t.isReference = true) (hz : z.isRef = true) (hn' : narrow t z = z) (hd : decode c.code pc = .ok (.areturn, 1))
    (hQ : Q (some z) T.heap locs) (hk : cells ≤ k) (hn : slots ≤ n) : ownE p e below s Q k n T (mkF m pc Ls (z :: rest)) :=
  ownE.ret X hlk (fun h => by rw [hret] at h; cases h) (fun fs hr => Jvm.RoadKit.retOut X hx hret hn' (Or.inr (Or.inr (Or.inr (Or.inr ⟨rfl, ht, hz⟩)))) hd hr) hQ hk hn
theorem ownE.retV (X : Stand p l e R s m args below meth c T locs cells slots) (hx : p.tables.exec = Jvm.exec) (hlk : meth.locks = false) {pc : Nat} {Ls : Array Slot} (hret : meth.sig.returnType = none) (hd : decode c.code pc = .ok (.return_, 1))
    (hQ : Q none T.heap locs) (hk : cells ≤ k) (hn : slots ≤ n) : ownE p e below s Q k n T (mkF m pc Ls []) :=
  ownE.ret X hlk (fun _ => rfl) (fun fs hr => X.returnOut hx hret hd hr) hQ hk hn
end Own
theorem own_selP {s : State} {args : Array Value} {y : MethodName} {n : Nat} (wi : (Cond.instantiable y.cls n).before args s = true) (hi : (Cond.instanceMethod y).before args s = true) (hp : s.PrivateAt y) (hy : y.cls ≠ "java/lang/invoke/MethodHandle" ∧ y.cls ≠ "java/lang/invoke/VarHandle") : (Cond.selects y.cls y y).before args s = true := by
  obtain ⟨c, k, h1, h2, -, h4, -⟩ := Cond.instantiable_spec wi
  exact selects_self_of_private h1 h2 (by simp at h4; exact h4.1) hp hi hy
end Jvm.RoadKit
namespace Jvm.Pilot.@@N@@
open Jvm Jvm.ClassFile Sem Op Lib Jvm.Free Jvm.Stand Jvm.LawKit Jvm.RoadKit Bundle Jvm.Pilot.@@N@@.Jvm.D
theorem own_d2_0 : decode jdk_30_method_1_code 0 = .ok (.aload_n 0, 1) := by decide +kernel
theorem own_d2_1 : decode jdk_30_method_1_code 1 = .ok (.invokespecial 1, 3) := by decide +kernel
theorem own_d2_4 : decode jdk_30_method_1_code 4 = .ok (.return_, 1) := by decide +kernel
theorem own_pn0 : plainName "java/lang/Record" = true := by first | (simp [plainName, overriddenIn]; done) | decide +kernel
theorem own_ef2 (m : MethodId) (x0 : Addr) : entryFrame m #[(.ref x0)] 1 = mkF m 0 #[.val (.ref x0)] [] := by first | (simp [entryFrame, mkF, argsToLocals, Value.category]; done) | rfl
def own_Q2 (Z : State) (r0 : Addr) (h0 : Heap) (n0 : Nat) (v : Option Value) (h : Heap) (L : List Loc) : Prop := v = none ∧ Fr n0 L ∧ h = h0
set_option maxRecDepth 65536 in
set_option maxHeartbeats 40000000 in
theorem own_rm2 (l : Launch) (Z : State) (a0 : Array Value) (hw : ∀ d ∈ tables_1, d.before a0 Z = true) (ws : List Jvm.Cond) (r0 : Addr) (h0 : Heap) (n0 : Nat) (Z0 : n0 ≤ h0.size) :
    MetFree l (⟨"java/lang/Record", "<init>", "()V"⟩ : MethodName) (head1 (Jvm.Cond.code (⟨"java/lang/Record", "<init>", "()V"⟩ : MethodName) jdk_30_method_1_code 1 none :: ws) ({ frames := 1, cells := 0, slots := 0, locals := 12 } : Room)) (fun a U => a = #[(.ref r0)] ∧ Z.Warmed39 U.vm ∧ U.heap = h0) (fun _ _ _ _ _ => True) (fun _ U o U' => ∃ v L, o = .returned v ∧ own_Q2 Z r0 h0 n0 v U'.heap L ∧ FrameEnd U o U' L ({ frames := 1, cells := 0, slots := 0, locals := 12 } : Room).cells ({ frames := 1, cells := 0, slots := 0, locals := 12 } : Room).slots) := by
  refine MetFree.of_bodySF (plainFor_of_name own_pn0) hisR ?_
  intro p e s m args below meth c s₁ Bd hml0 hP hK
  obtain ⟨rfl, hZ, hh⟩ := hP
  have hx := Bd.exec
  have hby := Bd.bytes
  have hret := Bd.returns
  have hlk := BodyLoose.notSynchronized Bd
  have hml : c.maxLocals = 1 := hml0
  have hown : s.vm.findClass "java/lang/Record" = some m.cls := findClass_of_methodNamed Bd.named
  have hnm := (name_of_methodNamed Bd.named Bd.method).1
  have X0 : Stand p l e ({ frames := 1, cells := 0, slots := 0, locals := 12 } : Room) s m #[(.ref r0)] below meth c s₁ [] 0 0 := Stand.of_body Bd
  have e0 : s₁.heap = h0 := by rw [← hh, Bd.state]; rfl
  have N0 := Fr.nil n0
  have K0 : Keep h0 h0 [] := Keep.refl h0 _
  show ownE p e below s (own_Q2 Z r0 h0 n0) ({ frames := 1, cells := 0, slots := 0, locals := 12 } : Room).cells ({ frames := 1, cells := 0, slots := 0, locals := 12 } : Room).slots s₁ (entryFrame m #[(.ref r0)] 1)
  rw [own_ef2]
  refine ownE.go (T' := s₁) (f' := (mkF m 1 #[.val (.ref r0)] [(.ref r0)])) (fun t kt => ?_) ?_
  · show Steps p.tables e below (s₁.setTop (mkF m 0 #[.val (.ref r0)] [])) _
    refine XS.aloadN X0.here hx rfl (hb hby own_d2_0) rfl rfl ?_
    exact kt
  obtain ⟨T1, X1, e1, st1⟩ := initO X0 hx hZ hown (hw _ (List.mem_of_getElem? (i := 13) rfl)) (hw _ (List.mem_of_getElem? (i := 14) rfl)) (hw _ (List.mem_of_getElem? (i := 15) rfl)) e0 (g := (mkF m 1 #[.val (.ref r0)] [(.ref r0)])) rfl (by rw [hml]; rfl) rfl (hb hby own_d2_1) (by decide) (W := 0) (by show 2 * 0 + _ ≤ _; exact Nat.le_of_eq rfl) (by decide)
  refine ownE.go (T' := T1) (f' := (mkF m 4 #[.val (.ref r0)] [])) st1 ?_
  refine ownE.retV X1 hx hlk hret (hb hby own_d2_4) ?_ (by decide) (by decide)
  show own_Q2 Z r0 h0 n0 _ T1.heap _
  rw [e1]
  exact ⟨rfl, N0, rfl⟩
theorem own_pd1 : parseMethodDescriptor "()V" = some ⟨[], none⟩ := by decide +kernel
theorem own_d1_0 : decode prog_9_method_1_code 0 = .ok (.aload_n 0, 1) := by decide +kernel
theorem own_d1_1 : decode prog_9_method_1_code 1 = .ok (.invokespecial 5, 3) := by decide +kernel
theorem own_d1_4 : decode prog_9_method_1_code 4 = .ok (.aload_n 0, 1) := by decide +kernel
theorem own_d1_5 : decode prog_9_method_1_code 5 = .ok (.lload_n 1, 1) := by decide +kernel
theorem own_d1_6 : decode prog_9_method_1_code 6 = .ok (.putfield 11, 3) := by decide +kernel
theorem own_d1_9 : decode prog_9_method_1_code 9 = .ok (.aload_n 0, 1) := by decide +kernel
theorem own_d1_10 : decode prog_9_method_1_code 10 = .ok (.lload_n 3, 1) := by decide +kernel
theorem own_d1_11 : decode prog_9_method_1_code 11 = .ok (.putfield 15, 3) := by decide +kernel
theorem own_d1_14 : decode prog_9_method_1_code 14 = .ok (.return_, 1) := by decide +kernel
theorem own_pn2 : plainName "com/example/marrow/marrow/BsonDecimal128" = true := by first | (simp [plainName, overriddenIn]; done) | decide +kernel
theorem own_ef1 (m : MethodId) (x0 : Addr) (x1 : Int64) (x2 : Int64) : entryFrame m #[(.ref x0), (.long x1), (.long x2)] 5 = mkF m 0 #[.val (.ref x0), .val (.long x1), .second, .val (.long x2), .second] [] := by first | (simp [entryFrame, mkF, argsToLocals, Value.category]; done) | rfl
def own_Q1 (Z : State) (r0 : Addr) (j1 : Int64) (j2 : Int64) (h0 : Heap) (n0 : Nat) (v : Option Value) (h : Heap) (L : List Loc) : Prop := v = none ∧ Fr n0 L ∧ Keep h0 h [r0] ∧ Exa Z h r0 "com/example/marrow/marrow/BsonDecimal128" ∧ Fld Z h r0 "com/example/marrow/marrow/BsonDecimal128" "high" "J" (.long j1) ∧ Fld Z h r0 "com/example/marrow/marrow/BsonDecimal128" "low" "J" (.long j2)
set_option maxRecDepth 65536 in
set_option maxHeartbeats 40000000 in
theorem own_rm1 (l : Launch) (Z : State) (a0 : Array Value) (hw : ∀ d ∈ tables_1, d.before a0 Z = true) (ws : List Jvm.Cond) (r0 : Addr) (j1 : Int64) (j2 : Int64) (h0 : Heap) (n0 : Nat) (Z0 : n0 ≤ h0.size) (P0 : Fld Z h0 r0 "com/example/marrow/marrow/BsonDecimal128" "high" "J" (.long (0 : Int64))) (P1 : Fld Z h0 r0 "com/example/marrow/marrow/BsonDecimal128" "low" "J" (.long (0 : Int64))) (P2 : Exa Z h0 r0 "com/example/marrow/marrow/BsonDecimal128") (P3 : n0 ≤ r0) :
    MetFree l (⟨"com/example/marrow/marrow/BsonDecimal128", "<init>", "(JJ)V"⟩ : MethodName) (head1 (Jvm.Cond.code (⟨"com/example/marrow/marrow/BsonDecimal128", "<init>", "(JJ)V"⟩ : MethodName) prog_9_method_1_code 5 none :: ws) ({ frames := 2, cells := 0, slots := 0, locals := 24 } : Room)) (fun a U => a = #[(.ref r0), (.long j1), (.long j2)] ∧ Z.Warmed39 U.vm ∧ U.heap = h0) (fun _ _ _ _ _ => True) (fun _ U o U' => ∃ v L, o = .returned v ∧ own_Q1 Z r0 j1 j2 h0 n0 v U'.heap L ∧ FrameEnd U o U' L ({ frames := 2, cells := 0, slots := 0, locals := 24 } : Room).cells ({ frames := 2, cells := 0, slots := 0, locals := 24 } : Room).slots) := by
  refine MetFree.of_bodySF (plainFor_of_name own_pn2) hisR ?_
  intro p e s m args below meth c s₁ Bd hml0 hP hK
  obtain ⟨rfl, hZ, hh⟩ := hP
  have hx := Bd.exec
  have hby := Bd.bytes
  have hret := Bd.returns
  have hlk := BodyLoose.notSynchronized Bd
  have hml : c.maxLocals = 5 := hml0
  have hown : s.vm.findClass "com/example/marrow/marrow/BsonDecimal128" = some m.cls := findClass_of_methodNamed Bd.named
  have hnm := (name_of_methodNamed Bd.named Bd.method).1
  have X0 : Stand p l e ({ frames := 2, cells := 0, slots := 0, locals := 24 } : Room) s m #[(.ref r0), (.long j1), (.long j2)] below meth c s₁ [] 0 0 := Stand.of_body Bd
  have e0 : s₁.heap = h0 := by rw [← hh, Bd.state]; rfl
  have N0 := Fr.nil n0
  have K0 : Keep h0 h0 [r0] := Keep.refl h0 _
  show ownE p e below s (own_Q1 Z r0 j1 j2 h0 n0) ({ frames := 2, cells := 0, slots := 0, locals := 24 } : Room).cells ({ frames := 2, cells := 0, slots := 0, locals := 24 } : Room).slots s₁ (entryFrame m #[(.ref r0), (.long j1), (.long j2)] 5)
  rw [own_ef1]
  refine ownE.go (T' := s₁) (f' := (mkF m 1 #[.val (.ref r0), .val (.long j1), .second, .val (.long j2), .second] [(.ref r0)])) (fun t kt => ?_) ?_
  · show Steps p.tables e below (s₁.setTop (mkF m 0 #[.val (.ref r0), .val (.long j1), .second, .val (.long j2), .second] [])) _
    refine XS.aloadN X0.here hx rfl (hb hby own_d1_0) rfl rfl ?_
    exact kt
  obtain ⟨_, _, ⟨T1, L1, k1, n1⟩, -, X1, ⟨Lc1, hQ1, l1, y1, z1⟩, st1⟩ := X0.specialBack hx (y := (⟨"java/lang/Record", "<init>", "()V"⟩ : MethodName)) rfl hown (mvT hZ (hw _ (List.mem_of_getElem? (i := 8) rfl))) (mvT hZ (hw _ (List.mem_of_getElem? (i := 9) rfl))) (mvT hZ (hw _ (List.mem_of_getElem? (i := 12) rfl))) (by decide) (backOf (W := 0) (own_rm2 l Z a0 hw [] r0 h0 n0 (Nat.le_trans Z0 K0.1) ) hZ (hw _ (List.mem_of_getElem? (i := 12) rfl)) (hw _ (List.mem_of_getElem? (i := 11) rfl)) (by decide) (by decide)) (g := (mkF m 1 #[.val (.ref r0), .val (.long j1), .second, .val (.long j2), .second] [(.ref r0)])) rfl (by rw [hml]; rfl) (Steps.refl _) (a := r0) (argsL := []) (rest := []) (lenOf own_pd1 rfl) rfl (by show 2 * 0 + _ ≤ _; exact Nat.le_of_eq rfl) (hb hby own_d1_1) (fun _ _ => ⟨rfl, e0, (by decide : 0 + 0 ≤ _), (by decide : 0 + 0 ≤ _)⟩)
  dsimp only [Pt.U, Pt.locs, Pt.cells, Pt.slots] at X1 l1 y1 z1 st1 hQ1
  subst l1 y1 z1
  obtain ⟨rfl, N1q, e1⟩ := hQ1
  have N1 := Fr.app N0 N1q
  refine ownE.goS (T' := T1) (f' := (mkF m 4 #[.val (.ref r0), .val (.long j1), .second, .val (.long j2), .second] [])) st1 ?_
  refine ownE.go (T' := T1) (f' := (mkF m 6 #[.val (.ref r0), .val (.long j1), .second, .val (.long j2), .second] [(.long j1), (.ref r0)])) (fun t kt => ?_) ?_
  · show Steps p.tables e below (T1.setTop (mkF m 4 #[.val (.ref r0), .val (.long j1), .second, .val (.long j2), .second] [])) _
    refine XS.aloadN X1.here hx rfl (hb hby own_d1_4) rfl rfl ?_
    show Steps p.tables e below (T1.setTop (mkF m 5 #[.val (.ref r0), .val (.long j1), .second, .val (.long j2), .second] [(.ref r0)])) _
    refine XS.lloadN X1.here hx rfl (hb hby own_d1_5) rfl ?_
    exact kt
  obtain ⟨T2, h2, X2, e2, W2, st2⟩ := putF X1 hx hZ hown (host := "") (Or.inl (hw _ (List.mem_of_getElem? (i := 16) rfl))) Via.refl e1 P0 P2 (Or.inr ⟨(hw _ (List.mem_of_getElem? (i := 17) rfl)), rfl, hnm⟩) (hw _ (List.mem_of_getElem? (i := 3) rfl)) (ty := .long) (by decide) rfl rfl (g := (mkF m 6 #[.val (.ref r0), .val (.long j1), .second, .val (.long j2), .second] [(.long j1), (.ref r0)])) rfl rfl (hb hby own_d1_6)
  have Fw2 : Fld Z h2 r0 "com/example/marrow/marrow/BsonDecimal128" "high" "J" (.long j1) := P0.same W2
  have cFld_r0_low_2 : Fld Z h2 r0 "com/example/marrow/marrow/BsonDecimal128" "low" "J" (.long (0 : Int64)) := P1.other W2 (Or.inr (slot_ne (Or.inr (hw _ (List.mem_of_getElem? (i := 19) rfl))) (Or.inr (hw _ (List.mem_of_getElem? (i := 17) rfl))) (by decide) (t := .long) (t' := .long) (by decide) (by decide)))
  have cExa_r0_2 : Exa Z h2 r0 "com/example/marrow/marrow/BsonDecimal128" := P2.wr W2
  have K2 : Keep h0 h2 [r0] := K0.wr W2 (Or.inl (List.mem_of_getElem? (i := 0) rfl))
  have N2 := Fr.snoc X2 N1 P3
  refine ownE.go (T' := T2) (f' := (mkF m 9 #[.val (.ref r0), .val (.long j1), .second, .val (.long j2), .second] [])) st2 ?_
  refine ownE.go (T' := T2) (f' := (mkF m 11 #[.val (.ref r0), .val (.long j1), .second, .val (.long j2), .second] [(.long j2), (.ref r0)])) (fun t kt => ?_) ?_
  · show Steps p.tables e below (T2.setTop (mkF m 9 #[.val (.ref r0), .val (.long j1), .second, .val (.long j2), .second] [])) _
    refine XS.aloadN X2.here hx rfl (hb hby own_d1_9) rfl rfl ?_
    show Steps p.tables e below (T2.setTop (mkF m 10 #[.val (.ref r0), .val (.long j1), .second, .val (.long j2), .second] [(.ref r0)])) _
    refine XS.lloadN X2.here hx rfl (hb hby own_d1_10) rfl ?_
    exact kt
  obtain ⟨T3, h3, X3, e3, W3, st3⟩ := putF X2 hx hZ hown (host := "") (Or.inl (hw _ (List.mem_of_getElem? (i := 18) rfl))) Via.refl e2 cFld_r0_low_2 cExa_r0_2 (Or.inr ⟨(hw _ (List.mem_of_getElem? (i := 19) rfl)), rfl, hnm⟩) (hw _ (List.mem_of_getElem? (i := 3) rfl)) (ty := .long) (by decide) rfl rfl (g := (mkF m 11 #[.val (.ref r0), .val (.long j1), .second, .val (.long j2), .second] [(.long j2), (.ref r0)])) rfl rfl (hb hby own_d1_11)
  have Fw3 : Fld Z h3 r0 "com/example/marrow/marrow/BsonDecimal128" "low" "J" (.long j2) := cFld_r0_low_2.same W3
  have cFld_r0_high_3 : Fld Z h3 r0 "com/example/marrow/marrow/BsonDecimal128" "high" "J" (.long j1) := Fw2.other W3 (Or.inr (slot_ne (Or.inr (hw _ (List.mem_of_getElem? (i := 17) rfl))) (Or.inr (hw _ (List.mem_of_getElem? (i := 19) rfl))) (by decide) (t := .long) (t' := .long) (by decide) (by decide)))
  have cExa_r0_3 : Exa Z h3 r0 "com/example/marrow/marrow/BsonDecimal128" := cExa_r0_2.wr W3
  have K3 : Keep h0 h3 [r0] := K2.wr W3 (Or.inl (List.mem_of_getElem? (i := 0) rfl))
  have N3 := Fr.snoc X3 N2 P3
  refine ownE.go (T' := T3) (f' := (mkF m 14 #[.val (.ref r0), .val (.long j1), .second, .val (.long j2), .second] [])) st3 ?_
  refine ownE.retV X3 hx hlk hret (hb hby own_d1_14) ?_ (by decide) (by decide)
  show own_Q1 Z r0 j1 j2 h0 n0 _ T3.heap _
  rw [e3]
  exact ⟨rfl, N3, K3, cExa_r0_3, cFld_r0_high_3, Fw3⟩
theorem own_d4_0 : decode prog_9_method_5_code 0 = .ok (.aload_n 0, 1) := by decide +kernel
theorem own_d4_1 : decode prog_9_method_5_code 1 = .ok (.getfield 11, 3) := by decide +kernel
theorem own_d4_4 : decode prog_9_method_5_code 4 = .ok (.ldc2_w 58, 3) := by decide +kernel
theorem own_d4_7 : decode prog_9_method_5_code 7 = .ok (.land, 1) := by decide +kernel
theorem own_d4_8 : decode prog_9_method_5_code 8 = .ok (.ldc2_w 67, 3) := by decide +kernel
theorem own_d4_11 : decode prog_9_method_5_code 11 = .ok (.lcmp, 1) := by decide +kernel
theorem own_d4_12 : decode prog_9_method_5_code 12 = .ok (.ifCond .ne 7, 3) := by decide +kernel
theorem own_d4_15 : decode prog_9_method_5_code 15 = .ok (.iconst 1, 1) := by decide +kernel
theorem own_d4_16 : decode prog_9_method_5_code 16 = .ok (.goto 4, 3) := by decide +kernel
theorem own_d4_19 : decode prog_9_method_5_code 19 = .ok (.iconst 0, 1) := by decide +kernel
theorem own_d4_20 : decode prog_9_method_5_code 20 = .ok (.ireturn, 1) := by decide +kernel
theorem own_ef4 (m : MethodId) (x0 : Addr) : entryFrame m #[(.ref x0)] 1 = mkF m 0 #[.val (.ref x0)] [] := by first | (simp [entryFrame, mkF, argsToLocals, Value.category]; done) | rfl
def own_f4 (hi : Int64) : Int32 :=
  if (hi &&& (8935141660703064064 : Int64)) = (8646911284551352320 : Int64) then
    (1 : Int32)
  else
    (0 : Int32)
def own_Q4 (Z : State) (r0 : Addr) (hi : Int64) (h0 : Heap) (n0 : Nat) (v : Option Value) (h : Heap) (L : List Loc) : Prop := v = some (.int (own_f4 hi)) ∧ Fr n0 L ∧ h = h0
set_option maxRecDepth 65536 in
set_option maxHeartbeats 40000000 in
theorem own_rm4 (l : Launch) (Z : State) (a0 : Array Value) (hw : ∀ d ∈ tables_1, d.before a0 Z = true) (ws : List Jvm.Cond) (r0 : Addr) (hi : Int64) (h0 : Heap) (n0 : Nat) (Z0 : n0 ≤ h0.size) (P0 : Fld Z h0 r0 "com/example/marrow/marrow/BsonDecimal128" "high" "J" (.long hi)) :
    MetFree l (⟨"com/example/marrow/marrow/BsonDecimal128", "isInfinite", "()Z"⟩ : MethodName) (head1 (Jvm.Cond.code (⟨"com/example/marrow/marrow/BsonDecimal128", "isInfinite", "()Z"⟩ : MethodName) prog_9_method_5_code 1 (some .boolean) :: ws) ({ frames := 0, cells := 0, slots := 0, locals := 0 } : Room)) (fun a U => a = #[(.ref r0)] ∧ Z.Warmed39 U.vm ∧ U.heap = h0) (fun _ _ _ _ _ => True) (fun _ U o U' => ∃ v L, o = .returned v ∧ own_Q4 Z r0 hi h0 n0 v U'.heap L ∧ FrameEnd U o U' L ({ frames := 0, cells := 0, slots := 0, locals := 0 } : Room).cells ({ frames := 0, cells := 0, slots := 0, locals := 0 } : Room).slots) := by
  refine MetFree.of_bodySF (plainFor_of_name own_pn2) hisR ?_
  intro p e s m args below meth c s₁ Bd hml0 hP hK
  obtain ⟨rfl, hZ, hh⟩ := hP
  have hx := Bd.exec
  have hby := Bd.bytes
  have hret := Bd.returns
  have hlk := BodyLoose.notSynchronized Bd
  have hml : c.maxLocals = 1 := hml0
  have hown : s.vm.findClass "com/example/marrow/marrow/BsonDecimal128" = some m.cls := findClass_of_methodNamed Bd.named
  have hnm := (name_of_methodNamed Bd.named Bd.method).1
  have X0 : Stand p l e ({ frames := 0, cells := 0, slots := 0, locals := 0 } : Room) s m #[(.ref r0)] below meth c s₁ [] 0 0 := Stand.of_body Bd
  have e0 : s₁.heap = h0 := by rw [← hh, Bd.state]; rfl
  have N0 := Fr.nil n0
  have K0 : Keep h0 h0 [] := Keep.refl h0 _
  show ownE p e below s (own_Q4 Z r0 hi h0 n0) ({ frames := 0, cells := 0, slots := 0, locals := 0 } : Room).cells ({ frames := 0, cells := 0, slots := 0, locals := 0 } : Room).slots s₁ (entryFrame m #[(.ref r0)] 1)
  rw [own_ef4]
  refine ownE.go (T' := s₁) (f' := (mkF m 1 #[.val (.ref r0)] [(.ref r0)])) (fun t kt => ?_) ?_
  · show Steps p.tables e below (s₁.setTop (mkF m 0 #[.val (.ref r0)] [])) _
    refine XS.aloadN X0.here hx rfl (hb hby own_d4_0) rfl rfl ?_
    exact kt
  obtain ⟨T1, X1, e1, st1⟩ := getF X0 hx hZ hown (host := "") (Or.inl (hw _ (List.mem_of_getElem? (i := 16) rfl))) Via.refl e0 P0 (g := (mkF m 1 #[.val (.ref r0)] [(.ref r0)])) rfl rfl (hb hby own_d4_1)
  refine ownE.go (T' := T1) (f' := (mkF m 4 #[.val (.ref r0)] [(.long hi)])) st1 ?_
  refine ownE.go (T' := T1) (f' := (mkF m 12 #[.val (.ref r0)] [(.int (Jvm.Free.XT.cmpL (hi &&& (8935141660703064064 : Int64)) (8646911284551352320 : Int64)))])) (fun t kt => ?_) ?_
  · show Steps p.tables e below (T1.setTop (mkF m 4 #[.val (.ref r0)] [(.long hi)])) _
    refine X1.ldc2Long hx hown (mvT hZ (hw _ (List.mem_of_getElem? (i := 25) rfl))) (g := (mkF m 4 #[.val (.ref r0)] [(.long hi)])) rfl (hb hby own_d4_4) _ ?_
    show Steps p.tables e below (T1.setTop (mkF m 7 #[.val (.ref r0)] [(.long (8935141660703064064 : Int64)), (.long hi)])) _
    refine XS.land X1.here hx rfl (hb hby own_d4_7) rfl ?_
    show Steps p.tables e below (T1.setTop (mkF m 8 #[.val (.ref r0)] [(.long (hi &&& (8935141660703064064 : Int64)))])) _
    refine X1.ldc2Long hx hown (mvT hZ (hw _ (List.mem_of_getElem? (i := 26) rfl))) (g := (mkF m 8 #[.val (.ref r0)] [(.long (hi &&& (8935141660703064064 : Int64)))])) rfl (hb hby own_d4_8) _ ?_
    show Steps p.tables e below (T1.setTop (mkF m 11 #[.val (.ref r0)] [(.long (8646911284551352320 : Int64)), (.long (hi &&& (8935141660703064064 : Int64)))])) _
    refine XS.lcmp X1.here hx rfl (hb hby own_d4_11) rfl ?_
    exact kt
  by_cases hc2 : (hi &&& (8935141660703064064 : Int64)) = (8646911284551352320 : Int64)
  · -- pc 12
    refine ownE.go (T' := T1) (f' := (mkF m 15 #[.val (.ref r0)] [])) (fun t kt => XS.ifNo (g := (mkF m 12 #[.val (.ref r0)] [(.int (Jvm.Free.XT.cmpL (hi &&& (8935141660703064064 : Int64)) (8646911284551352320 : Int64)))])) X1.here hx rfl (hb hby own_d4_12) rfl (Jvm.Free.XT.ll_ne_f hc2) kt) ?_
    refine ownE.go (T' := T1) (f' := (mkF m 20 #[.val (.ref r0)] [(.int (1 : Int32))])) (fun t kt => ?_) ?_
    · show Steps p.tables e below (T1.setTop (mkF m 15 #[.val (.ref r0)] [])) _
      refine XS.iconst X1.here hx rfl (hb hby own_d4_15) ?_
      show Steps p.tables e below (T1.setTop (mkF m 16 #[.val (.ref r0)] [(.int (1 : Int32))])) _
      refine XS.goto X1.here hx rfl (pc0 := 16) (pc' := 20) rfl (hb hby own_d4_16) (by decide) (by decide) ?_
      exact kt
    refine ownE.retN X1 hx hlk (t := .boolean) hret (by simp) (hb hby own_d4_20) ?_ (by decide) (by decide)
    show own_Q4 Z r0 hi h0 n0 _ T1.heap _
    rw [e1]
    exact ⟨(by rw [own_f4, if_pos hc2] <;> first | rfl | decide), N0, rfl⟩
  · -- pc 12
    refine ownE.go (T' := T1) (f' := (mkF m 19 #[.val (.ref r0)] [])) (fun t kt => XS.ifYes (g := (mkF m 12 #[.val (.ref r0)] [(.int (Jvm.Free.XT.cmpL (hi &&& (8935141660703064064 : Int64)) (8646911284551352320 : Int64)))])) X1.here hx rfl (pc0 := 12) (pc' := 19) rfl (hb hby own_d4_12) rfl (Jvm.Free.XT.ll_ne_t hc2) (by decide) (by decide) kt) ?_
    refine ownE.go (T' := T1) (f' := (mkF m 20 #[.val (.ref r0)] [(.int (0 : Int32))])) (fun t kt => ?_) ?_
    · show Steps p.tables e below (T1.setTop (mkF m 19 #[.val (.ref r0)] [])) _
      refine XS.iconst X1.here hx rfl (hb hby own_d4_19) ?_
      exact kt
    refine ownE.retN X1 hx hlk (t := .boolean) hret (by simp) (hb hby own_d4_20) ?_ (by decide) (by decide)
    show own_Q4 Z r0 hi h0 n0 _ T1.heap _
    rw [e1]
    exact ⟨(by rw [own_f4, if_neg hc2] <;> first | rfl | decide), N0, rfl⟩
def own_j0_21_S0 (j0 : Int64) (j1 : Int64) (i2 : Int32) (i3 : Int32) : Int64 :=
  if (i3 &&& (1 : Int32)) = (0 : Int32) then
    (0 : Int64)
  else
    (-9223372036854775808 : Int64)
def own_j0_48_S0 (j0 : Int64) (j1 : Int64) (i2 : Int32) (i3 : Int32) : Int32 :=
  if (i2 &&& (31 : Int32)) = (30 : Int32) then
    (1 : Int32)
  else
    (0 : Int32)
theorem own_pd3 : parseMethodDescriptor "(JJ)V" = some ⟨[.long, .long], none⟩ := by decide +kernel
theorem own_pd4 : parseMethodDescriptor "()Z" = some ⟨[], some .boolean⟩ := by decide +kernel
def own_j0_85_S0 (j0 : Int64) (j1 : Int64) (i2 : Int32) (i3 : Int32) : Int32 :=
  if (((j0.toUInt64 >>> ((58 : Int32) &&& 0x3f).toInt64.toUInt64).toInt64) &&& (31 : Int64)) = (30 : Int64) then
    (1 : Int32)
  else
    (0 : Int32)
theorem own_pn5 : plainName "com/example/marrow/marrow/BsonDecimal128IsInfinitePinLaw" = true := by first | (simp [plainName, overriddenIn]; done) | decide +kernel
theorem own_ef0 (m : MethodId) (x0 : Int64) (x1 : Int64) (x2 : Int32) (x3 : Int32) : entryFrame m #[(.long x0), (.long x1), (.int x2), (.int x3)] maxLocals = mkF m 0 #[.val (.long x0), .second, .val (.long x1), .second, .val (.int x2), .val (.int x3), .unset, .unset, .unset, .unset, .unset, .unset, .unset] [] := by first | (simp [entryFrame, mkF, argsToLocals, Value.category, maxLocals]; done) | rfl
def own_f0 (j0 : Int64) (j1 : Int64) (i2 : Int32) (i3 : Int32) : Int32 :=
  if (own_f4 (((own_j0_21_S0 j0 j1 i2 i3) ||| (((i2 &&& (31 : Int32)).toInt64) <<< ((58 : Int32) &&& 0x3f).toInt64)) ||| (j0 &&& (288230376151711743 : Int64)))) = (own_j0_48_S0 j0 j1 i2 i3) then
    if (own_f4 j0) = (own_j0_85_S0 j0 j1 i2 i3) then
      (1 : Int32)
    else
      (0 : Int32)
  else
    (0 : Int32)
def own_Q0 (Z : State) (j0 : Int64) (j1 : Int64) (i2 : Int32) (i3 : Int32) (h0 : Heap) (n0 : Nat) (v : Option Value) (h : Heap) (L : List Loc) : Prop := v = some (.int (own_f0 j0 j1 i2 i3)) ∧ Fr n0 L ∧ Keep h0 h []
set_option maxRecDepth 65536 in
set_option maxHeartbeats 40000000 in
theorem own_rm0 (l : Launch) (Z : State) (a0 : Array Value) (hw : ∀ d ∈ tables_1, d.before a0 Z = true) (ws : List Jvm.Cond) (j0 : Int64) (j1 : Int64) (i2 : Int32) (i3 : Int32) (h0 : Heap) (n0 : Nat) (Z0 : n0 ≤ h0.size) :
    MetFree l x (head1 (Jvm.Cond.code x code maxLocals ret :: ws) room_1) (fun a U => a = #[(.long j0), (.long j1), (.int i2), (.int i3)] ∧ Z.Warmed39 U.vm ∧ U.heap = h0) (fun _ _ _ _ _ => True) (fun _ U o U' => ∃ v L, o = .returned v ∧ own_Q0 Z j0 j1 i2 i3 h0 n0 v U'.heap L ∧ FrameEnd U o U' L 2 4) := by
  refine MetFree.of_bodySF (plainFor_of_name own_pn5) hisR ?_
  intro p e s m args below meth c s₁ Bd hml0 hP hK
  obtain ⟨rfl, hZ, hh⟩ := hP
  have hx := Bd.exec
  have hby := Bd.bytes
  have hret := Bd.returns
  have hlk := BodyLoose.notSynchronized Bd
  have hml : c.maxLocals = 13 := hml0
  have hown : s.vm.findClass "com/example/marrow/marrow/BsonDecimal128IsInfinitePinLaw" = some m.cls := findClass_of_methodNamed Bd.named
  have hnm := (name_of_methodNamed Bd.named Bd.method).1
  have X0 : Stand p l e room_1 s m #[(.long j0), (.long j1), (.int i2), (.int i3)] below meth c s₁ [] 0 0 := Stand.of_body Bd
  have e0 : s₁.heap = h0 := by rw [← hh, Bd.state]; rfl
  have N0 := Fr.nil n0
  have K0 : Keep h0 h0 [] := Keep.refl h0 _
  show ownE p e below s (own_Q0 Z j0 j1 i2 i3 h0 n0) 2 4 s₁ (entryFrame m #[(.long j0), (.long j1), (.int i2), (.int i3)] maxLocals)
  rw [own_ef0]
  refine ownE.go (T' := s₁) (f' := (mkF m 7 #[.val (.long j0), .second, .val (.long j1), .second, .val (.int i2), .val (.int i3), .val (.int (i2 &&& (31 : Int32))), .unset, .unset, .unset, .unset, .unset, .unset] [])) (fun t kt => ?_) ?_
  · show Steps p.tables e below (s₁.setTop (mkF m 0 #[.val (.long j0), .second, .val (.long j1), .second, .val (.int i2), .val (.int i3), .unset, .unset, .unset, .unset, .unset, .unset, .unset] [])) _
    refine XS.iload X0.here hx rfl (hb hby at_0) rfl ?_
    show Steps p.tables e below (s₁.setTop (mkF m 2 #[.val (.long j0), .second, .val (.long j1), .second, .val (.int i2), .val (.int i3), .unset, .unset, .unset, .unset, .unset, .unset, .unset] [(.int i2)])) _
    refine XS.bipush X0.here hx rfl (hb hby at_2) ?_
    show Steps p.tables e below (s₁.setTop (mkF m 4 #[.val (.long j0), .second, .val (.long j1), .second, .val (.int i2), .val (.int i3), .unset, .unset, .unset, .unset, .unset, .unset, .unset] [(.int (31 : Int32)), (.int i2)])) _
    refine XS.iand X0.here hx rfl (hb hby at_4) rfl ?_
    show Steps p.tables e below (s₁.setTop (mkF m 5 #[.val (.long j0), .second, .val (.long j1), .second, .val (.int i2), .val (.int i3), .unset, .unset, .unset, .unset, .unset, .unset, .unset] [(.int (i2 &&& (31 : Int32)))])) _
    refine XS.istore X0.here hx rfl (hb hby at_5) rfl (l' := #[.val (.long j0), .second, .val (.long j1), .second, .val (.int i2), .val (.int i3), .val (.int (i2 &&& (31 : Int32))), .unset, .unset, .unset, .unset, .unset, .unset]) rfl ?_
    exact kt
  have J3 : ∀ (TJ3 : State) (locsJ3 : List Loc), Stand p l e room_1 s m #[(.long j0), (.long j1), (.int i2), (.int i3)] below meth c TJ3 locsJ3 0 0 → TJ3.heap = h0 → Fr n0 locsJ3 → ownE p e below s (own_Q0 Z j0 j1 i2 i3 h0 n0) 2 4 TJ3 (mkF m 21 #[.val (.long j0), .second, .val (.long j1), .second, .val (.int i2), .val (.int i3), .val (.int (i2 &&& (31 : Int32))), .unset, .unset, .unset, .unset, .unset, .unset] [(.long (own_j0_21_S0 j0 j1 i2 i3))]) := by
    intro TJ3 locsJ3 XJ3 eJ3 NJ3
    refine ownE.go (T' := TJ3) (f' := (mkF m 36 #[.val (.long j0), .second, .val (.long j1), .second, .val (.int i2), .val (.int i3), .val (.int (i2 &&& (31 : Int32))), .val (.long (((own_j0_21_S0 j0 j1 i2 i3) ||| (((i2 &&& (31 : Int32)).toInt64) <<< ((58 : Int32) &&& 0x3f).toInt64)) ||| (j0 &&& (288230376151711743 : Int64)))), .second, .unset, .unset, .unset, .unset] [])) (fun t kt => ?_) ?_
    · show Steps p.tables e below (TJ3.setTop (mkF m 21 #[.val (.long j0), .second, .val (.long j1), .second, .val (.int i2), .val (.int i3), .val (.int (i2 &&& (31 : Int32))), .unset, .unset, .unset, .unset, .unset, .unset] [(.long (own_j0_21_S0 j0 j1 i2 i3))])) _
      refine XS.iload XJ3.here hx rfl (hb hby at_21) rfl ?_
      show Steps p.tables e below (TJ3.setTop (mkF m 23 #[.val (.long j0), .second, .val (.long j1), .second, .val (.int i2), .val (.int i3), .val (.int (i2 &&& (31 : Int32))), .unset, .unset, .unset, .unset, .unset, .unset] [(.int (i2 &&& (31 : Int32))), (.long (own_j0_21_S0 j0 j1 i2 i3))])) _
      refine XS.i2l XJ3.here hx rfl (hb hby at_23) rfl ?_
      show Steps p.tables e below (TJ3.setTop (mkF m 24 #[.val (.long j0), .second, .val (.long j1), .second, .val (.int i2), .val (.int i3), .val (.int (i2 &&& (31 : Int32))), .unset, .unset, .unset, .unset, .unset, .unset] [(.long ((i2 &&& (31 : Int32)).toInt64)), (.long (own_j0_21_S0 j0 j1 i2 i3))])) _
      refine XS.bipush XJ3.here hx rfl (hb hby at_24) ?_
      show Steps p.tables e below (TJ3.setTop (mkF m 26 #[.val (.long j0), .second, .val (.long j1), .second, .val (.int i2), .val (.int i3), .val (.int (i2 &&& (31 : Int32))), .unset, .unset, .unset, .unset, .unset, .unset] [(.int (58 : Int32)), (.long ((i2 &&& (31 : Int32)).toInt64)), (.long (own_j0_21_S0 j0 j1 i2 i3))])) _
      refine XS.lshl XJ3.here hx rfl (hb hby at_26) rfl ?_
      show Steps p.tables e below (TJ3.setTop (mkF m 27 #[.val (.long j0), .second, .val (.long j1), .second, .val (.int i2), .val (.int i3), .val (.int (i2 &&& (31 : Int32))), .unset, .unset, .unset, .unset, .unset, .unset] [(.long (((i2 &&& (31 : Int32)).toInt64) <<< ((58 : Int32) &&& 0x3f).toInt64)), (.long (own_j0_21_S0 j0 j1 i2 i3))])) _
      refine XS.lor XJ3.here hx rfl (hb hby at_27) rfl ?_
      show Steps p.tables e below (TJ3.setTop (mkF m 28 #[.val (.long j0), .second, .val (.long j1), .second, .val (.int i2), .val (.int i3), .val (.int (i2 &&& (31 : Int32))), .unset, .unset, .unset, .unset, .unset, .unset] [(.long ((own_j0_21_S0 j0 j1 i2 i3) ||| (((i2 &&& (31 : Int32)).toInt64) <<< ((58 : Int32) &&& 0x3f).toInt64)))])) _
      refine XS.lloadN XJ3.here hx rfl (hb hby at_28) rfl ?_
      show Steps p.tables e below (TJ3.setTop (mkF m 29 #[.val (.long j0), .second, .val (.long j1), .second, .val (.int i2), .val (.int i3), .val (.int (i2 &&& (31 : Int32))), .unset, .unset, .unset, .unset, .unset, .unset] [(.long j0), (.long ((own_j0_21_S0 j0 j1 i2 i3) ||| (((i2 &&& (31 : Int32)).toInt64) <<< ((58 : Int32) &&& 0x3f).toInt64)))])) _
      refine XJ3.ldc2Long hx hown (mvT hZ (hw _ (List.mem_of_getElem? (i := 1) rfl))) (g := (mkF m 29 #[.val (.long j0), .second, .val (.long j1), .second, .val (.int i2), .val (.int i3), .val (.int (i2 &&& (31 : Int32))), .unset, .unset, .unset, .unset, .unset, .unset] [(.long j0), (.long ((own_j0_21_S0 j0 j1 i2 i3) ||| (((i2 &&& (31 : Int32)).toInt64) <<< ((58 : Int32) &&& 0x3f).toInt64)))])) rfl (hb hby at_29) _ ?_
      show Steps p.tables e below (TJ3.setTop (mkF m 32 #[.val (.long j0), .second, .val (.long j1), .second, .val (.int i2), .val (.int i3), .val (.int (i2 &&& (31 : Int32))), .unset, .unset, .unset, .unset, .unset, .unset] [(.long (288230376151711743 : Int64)), (.long j0), (.long ((own_j0_21_S0 j0 j1 i2 i3) ||| (((i2 &&& (31 : Int32)).toInt64) <<< ((58 : Int32) &&& 0x3f).toInt64)))])) _
      refine XS.land XJ3.here hx rfl (hb hby at_32) rfl ?_
      show Steps p.tables e below (TJ3.setTop (mkF m 33 #[.val (.long j0), .second, .val (.long j1), .second, .val (.int i2), .val (.int i3), .val (.int (i2 &&& (31 : Int32))), .unset, .unset, .unset, .unset, .unset, .unset] [(.long (j0 &&& (288230376151711743 : Int64))), (.long ((own_j0_21_S0 j0 j1 i2 i3) ||| (((i2 &&& (31 : Int32)).toInt64) <<< ((58 : Int32) &&& 0x3f).toInt64)))])) _
      refine XS.lor XJ3.here hx rfl (hb hby at_33) rfl ?_
      show Steps p.tables e below (TJ3.setTop (mkF m 34 #[.val (.long j0), .second, .val (.long j1), .second, .val (.int i2), .val (.int i3), .val (.int (i2 &&& (31 : Int32))), .unset, .unset, .unset, .unset, .unset, .unset] [(.long (((own_j0_21_S0 j0 j1 i2 i3) ||| (((i2 &&& (31 : Int32)).toInt64) <<< ((58 : Int32) &&& 0x3f).toInt64)) ||| (j0 &&& (288230376151711743 : Int64))))])) _
      refine XS.lstore XJ3.here hx rfl (hb hby at_34) rfl (l' := #[.val (.long j0), .second, .val (.long j1), .second, .val (.int i2), .val (.int i3), .val (.int (i2 &&& (31 : Int32))), .val (.long (((own_j0_21_S0 j0 j1 i2 i3) ||| (((i2 &&& (31 : Int32)).toInt64) <<< ((58 : Int32) &&& 0x3f).toInt64)) ||| (j0 &&& (288230376151711743 : Int64)))), .second, .unset, .unset, .unset, .unset]) rfl ?_
      exact kt
    have J6 : ∀ (TJ6 : State) (locsJ6 : List Loc), Stand p l e room_1 s m #[(.long j0), (.long j1), (.int i2), (.int i3)] below meth c TJ6 locsJ6 0 0 → TJ6.heap = h0 → Fr n0 locsJ6 → ownE p e below s (own_Q0 Z j0 j1 i2 i3 h0 n0) 2 4 TJ6 (mkF m 48 #[.val (.long j0), .second, .val (.long j1), .second, .val (.int i2), .val (.int i3), .val (.int (i2 &&& (31 : Int32))), .val (.long (((own_j0_21_S0 j0 j1 i2 i3) ||| (((i2 &&& (31 : Int32)).toInt64) <<< ((58 : Int32) &&& 0x3f).toInt64)) ||| (j0 &&& (288230376151711743 : Int64)))), .second, .unset, .unset, .unset, .unset] [(.int (own_j0_48_S0 j0 j1 i2 i3))]) := by
      intro TJ6 locsJ6 XJ6 eJ6 NJ6
      refine ownE.go (T' := TJ6) (f' := (mkF m 50 #[.val (.long j0), .second, .val (.long j1), .second, .val (.int i2), .val (.int i3), .val (.int (i2 &&& (31 : Int32))), .val (.long (((own_j0_21_S0 j0 j1 i2 i3) ||| (((i2 &&& (31 : Int32)).toInt64) <<< ((58 : Int32) &&& 0x3f).toInt64)) ||| (j0 &&& (288230376151711743 : Int64)))), .second, .val (.int (own_j0_48_S0 j0 j1 i2 i3)), .unset, .unset, .unset] [])) (fun t kt => ?_) ?_
      · show Steps p.tables e below (TJ6.setTop (mkF m 48 #[.val (.long j0), .second, .val (.long j1), .second, .val (.int i2), .val (.int i3), .val (.int (i2 &&& (31 : Int32))), .val (.long (((own_j0_21_S0 j0 j1 i2 i3) ||| (((i2 &&& (31 : Int32)).toInt64) <<< ((58 : Int32) &&& 0x3f).toInt64)) ||| (j0 &&& (288230376151711743 : Int64)))), .second, .unset, .unset, .unset, .unset] [(.int (own_j0_48_S0 j0 j1 i2 i3))])) _
        refine XS.istore XJ6.here hx rfl (hb hby at_48) rfl (l' := #[.val (.long j0), .second, .val (.long j1), .second, .val (.int i2), .val (.int i3), .val (.int (i2 &&& (31 : Int32))), .val (.long (((own_j0_21_S0 j0 j1 i2 i3) ||| (((i2 &&& (31 : Int32)).toInt64) <<< ((58 : Int32) &&& 0x3f).toInt64)) ||| (j0 &&& (288230376151711743 : Int64)))), .second, .val (.int (own_j0_48_S0 j0 j1 i2 i3)), .unset, .unset, .unset]) rfl ?_
        exact kt
      obtain ⟨T7, h7, X7, e7, E7, A7, D7, -, st7⟩ := newO XJ6 hx hZ hown (hw _ (List.mem_of_getElem? (i := 2) rfl)) (hw _ (List.mem_of_getElem? (i := 3) rfl)) (hw _ (List.mem_of_getElem? (i := 4) rfl)) eJ6 (g := (mkF m 50 #[.val (.long j0), .second, .val (.long j1), .second, .val (.int i2), .val (.int i3), .val (.int (i2 &&& (31 : Int32))), .val (.long (((own_j0_21_S0 j0 j1 i2 i3) ||| (((i2 &&& (31 : Int32)).toInt64) <<< ((58 : Int32) &&& 0x3f).toInt64)) ||| (j0 &&& (288230376151711743 : Int64)))), .second, .val (.int (own_j0_48_S0 j0 j1 i2 i3)), .unset, .unset, .unset] [])) rfl (hb hby at_50) (by decide) (by decide)
      obtain ⟨b7, g7⟩ : ∃ z, z = h0.size := ⟨_, rfl⟩
      rw [← g7] at A7 D7 st7
      have sz_b7 : h0.size ≤ b7 := Nat.le_trans K0.1 (Nat.le_of_eq g7.symm)
      have ge_b7 : n0 ≤ b7 := Nat.le_trans Z0 sz_b7
      have D7_high : Fld Z h7 b7 "com/example/marrow/marrow/BsonDecimal128" "high" "J" (.long (0 : Int64)) := D7 (Or.inr (hw _ (List.mem_of_getElem? (i := 17) rfl))) (ty := .long) (by decide)
      have D7_low : Fld Z h7 b7 "com/example/marrow/marrow/BsonDecimal128" "low" "J" (.long (0 : Int64)) := D7 (Or.inr (hw _ (List.mem_of_getElem? (i := 19) rfl))) (ty := .long) (by decide)
      have K7 : Keep h0 h7 [] := K0.ext E7
      refine ownE.go (T' := T7) (f' := (mkF m 53 #[.val (.long j0), .second, .val (.long j1), .second, .val (.int i2), .val (.int i3), .val (.int (i2 &&& (31 : Int32))), .val (.long (((own_j0_21_S0 j0 j1 i2 i3) ||| (((i2 &&& (31 : Int32)).toInt64) <<< ((58 : Int32) &&& 0x3f).toInt64)) ||| (j0 &&& (288230376151711743 : Int64)))), .second, .val (.int (own_j0_48_S0 j0 j1 i2 i3)), .unset, .unset, .unset] [(.ref b7)])) st7 ?_
      refine ownE.go (T' := T7) (f' := (mkF m 57 #[.val (.long j0), .second, .val (.long j1), .second, .val (.int i2), .val (.int i3), .val (.int (i2 &&& (31 : Int32))), .val (.long (((own_j0_21_S0 j0 j1 i2 i3) ||| (((i2 &&& (31 : Int32)).toInt64) <<< ((58 : Int32) &&& 0x3f).toInt64)) ||| (j0 &&& (288230376151711743 : Int64)))), .second, .val (.int (own_j0_48_S0 j0 j1 i2 i3)), .unset, .unset, .unset] [(.long j1), (.long (((own_j0_21_S0 j0 j1 i2 i3) ||| (((i2 &&& (31 : Int32)).toInt64) <<< ((58 : Int32) &&& 0x3f).toInt64)) ||| (j0 &&& (288230376151711743 : Int64)))), (.ref b7), (.ref b7)])) (fun t kt => ?_) ?_
      · show Steps p.tables e below (T7.setTop (mkF m 53 #[.val (.long j0), .second, .val (.long j1), .second, .val (.int i2), .val (.int i3), .val (.int (i2 &&& (31 : Int32))), .val (.long (((own_j0_21_S0 j0 j1 i2 i3) ||| (((i2 &&& (31 : Int32)).toInt64) <<< ((58 : Int32) &&& 0x3f).toInt64)) ||| (j0 &&& (288230376151711743 : Int64)))), .second, .val (.int (own_j0_48_S0 j0 j1 i2 i3)), .unset, .unset, .unset] [(.ref b7)])) _
        refine XS.dup X7.here hx rfl (hb hby at_53) rfl rfl ?_
        show Steps p.tables e below (T7.setTop (mkF m 54 #[.val (.long j0), .second, .val (.long j1), .second, .val (.int i2), .val (.int i3), .val (.int (i2 &&& (31 : Int32))), .val (.long (((own_j0_21_S0 j0 j1 i2 i3) ||| (((i2 &&& (31 : Int32)).toInt64) <<< ((58 : Int32) &&& 0x3f).toInt64)) ||| (j0 &&& (288230376151711743 : Int64)))), .second, .val (.int (own_j0_48_S0 j0 j1 i2 i3)), .unset, .unset, .unset] [(.ref b7), (.ref b7)])) _
        refine XS.lload X7.here hx rfl (hb hby at_54) rfl ?_
        show Steps p.tables e below (T7.setTop (mkF m 56 #[.val (.long j0), .second, .val (.long j1), .second, .val (.int i2), .val (.int i3), .val (.int (i2 &&& (31 : Int32))), .val (.long (((own_j0_21_S0 j0 j1 i2 i3) ||| (((i2 &&& (31 : Int32)).toInt64) <<< ((58 : Int32) &&& 0x3f).toInt64)) ||| (j0 &&& (288230376151711743 : Int64)))), .second, .val (.int (own_j0_48_S0 j0 j1 i2 i3)), .unset, .unset, .unset] [(.long (((own_j0_21_S0 j0 j1 i2 i3) ||| (((i2 &&& (31 : Int32)).toInt64) <<< ((58 : Int32) &&& 0x3f).toInt64)) ||| (j0 &&& (288230376151711743 : Int64)))), (.ref b7), (.ref b7)])) _
        refine XS.lloadN X7.here hx rfl (hb hby at_56) rfl ?_
        exact kt
      obtain ⟨_, _, ⟨T8, L8, k8, n8⟩, -, X8, ⟨Lc8, hQ8, l8, y8, z8⟩, st8⟩ := X7.specialBack hx (y := (⟨"com/example/marrow/marrow/BsonDecimal128", "<init>", "(JJ)V"⟩ : MethodName)) rfl hown (mvT hZ (hw _ (List.mem_of_getElem? (i := 5) rfl))) (mvT hZ (hw _ (List.mem_of_getElem? (i := 6) rfl))) (mvT hZ (hw _ (List.mem_of_getElem? (i := 7) rfl))) (by decide) (backOf (W := 1) (own_rm1 l Z a0 hw [] b7 (((own_j0_21_S0 j0 j1 i2 i3) ||| (((i2 &&& (31 : Int32)).toInt64) <<< ((58 : Int32) &&& 0x3f).toInt64)) ||| (j0 &&& (288230376151711743 : Int64))) j1 h7 n0 (Nat.le_trans Z0 K7.1) D7_high D7_low A7 ge_b7) hZ (hw _ (List.mem_of_getElem? (i := 7) rfl)) (hw _ (List.mem_of_getElem? (i := 4) rfl)) (by decide) (by decide)) (g := (mkF m 57 #[.val (.long j0), .second, .val (.long j1), .second, .val (.int i2), .val (.int i3), .val (.int (i2 &&& (31 : Int32))), .val (.long (((own_j0_21_S0 j0 j1 i2 i3) ||| (((i2 &&& (31 : Int32)).toInt64) <<< ((58 : Int32) &&& 0x3f).toInt64)) ||| (j0 &&& (288230376151711743 : Int64)))), .second, .val (.int (own_j0_48_S0 j0 j1 i2 i3)), .unset, .unset, .unset] [(.long j1), (.long (((own_j0_21_S0 j0 j1 i2 i3) ||| (((i2 &&& (31 : Int32)).toInt64) <<< ((58 : Int32) &&& 0x3f).toInt64)) ||| (j0 &&& (288230376151711743 : Int64)))), (.ref b7), (.ref b7)])) rfl (by rw [hml]; rfl) (Steps.refl _) (a := b7) (argsL := [(.long (((own_j0_21_S0 j0 j1 i2 i3) ||| (((i2 &&& (31 : Int32)).toInt64) <<< ((58 : Int32) &&& 0x3f).toInt64)) ||| (j0 &&& (288230376151711743 : Int64)))), (.long j1)]) (rest := [(.ref b7)]) (lenOf own_pd3 rfl) rfl (by show 2 * 0 + _ ≤ _; exact Nat.le_of_eq rfl) (hb hby at_57) (fun _ _ => ⟨rfl, e7, (by decide : 1 + 0 ≤ _), (by decide : 2 + 0 ≤ _)⟩)
      dsimp only [Pt.U, Pt.locs, Pt.cells, Pt.slots] at X8 l8 y8 z8 st8 hQ8
      subst l8 y8 z8
      obtain ⟨rfl, N8q, K8q, f8_0, f8_1, f8_2⟩ := hQ8
      have cExa_b7_8 : Exa Z T8.heap b7 "com/example/marrow/marrow/BsonDecimal128" := A7.keep K8q
      have K8 : Keep h0 T8.heap [] := K7.trans K8q (allS (Or.inr sz_b7) all0)
      have N8 := Fr.app NJ6 N8q
      refine ownE.goS (T' := T8) (f' := (mkF m 60 #[.val (.long j0), .second, .val (.long j1), .second, .val (.int i2), .val (.int i3), .val (.int (i2 &&& (31 : Int32))), .val (.long (((own_j0_21_S0 j0 j1 i2 i3) ||| (((i2 &&& (31 : Int32)).toInt64) <<< ((58 : Int32) &&& 0x3f).toInt64)) ||| (j0 &&& (288230376151711743 : Int64)))), .second, .val (.int (own_j0_48_S0 j0 j1 i2 i3)), .unset, .unset, .unset] [(.ref b7)])) st8 ?_
      obtain ⟨cq9, kq9, q9a, q9b, q9c⟩ := isOf hZ rfl f8_0
      obtain ⟨_, _, ⟨T9, L9, k9, n9⟩, -, X9, ⟨Lc9, hQ9, l9, y9, z9⟩, st9⟩ := X8.virtualBack hx (y := (⟨"com/example/marrow/marrow/BsonDecimal128", "isInfinite", "()Z"⟩ : MethodName)) (z := (⟨"com/example/marrow/marrow/BsonDecimal128", "isInfinite", "()Z"⟩ : MethodName)) hown (mvT hZ (hw _ (List.mem_of_getElem? (i := 20) rfl))) (mvT hZ (hw _ (List.mem_of_getElem? (i := 21) rfl))) (notFace_of_selects (args := #[]) (mvT hZ (hw _ (List.mem_of_getElem? (i := 23) rfl)))) (mvT hZ (hw _ (List.mem_of_getElem? (i := 23) rfl))) (mvT hZ (hw _ (List.mem_of_getElem? (i := 22) rfl))) (by decide) (backOf (W := 0) (own_rm4 l Z a0 hw [] b7 (((own_j0_21_S0 j0 j1 i2 i3) ||| (((i2 &&& (31 : Int32)).toInt64) <<< ((58 : Int32) &&& 0x3f).toInt64)) ||| (j0 &&& (288230376151711743 : Int64))) T8.heap n0 (Nat.le_trans Z0 K8.1) f8_1) hZ (hw _ (List.mem_of_getElem? (i := 24) rfl)) (hw _ (List.mem_of_getElem? (i := 4) rfl)) (by decide) (by decide)) q9a q9c (g := (mkF m 60 #[.val (.long j0), .second, .val (.long j1), .second, .val (.int i2), .val (.int i3), .val (.int (i2 &&& (31 : Int32))), .val (.long (((own_j0_21_S0 j0 j1 i2 i3) ||| (((i2 &&& (31 : Int32)).toInt64) <<< ((58 : Int32) &&& 0x3f).toInt64)) ||| (j0 &&& (288230376151711743 : Int64)))), .second, .val (.int (own_j0_48_S0 j0 j1 i2 i3)), .unset, .unset, .unset] [(.ref b7)])) rfl (by rw [hml]; rfl) (Steps.refl _) (argsL := []) (rest := []) (lenOf own_pd4 rfl) rfl (by show 2 * 0 + _ ≤ _; exact Nat.le_of_eq rfl) (hb hby at_60) (fun _ _ => ⟨rfl, rfl, (by decide : 1 + 0 ≤ _), (by decide : 2 + 0 ≤ _)⟩)
      dsimp only [Pt.U, Pt.locs, Pt.cells, Pt.slots] at X9 l9 y9 z9 st9 hQ9
      subst l9 y9 z9
      obtain ⟨rfl, N9q, e9⟩ := hQ9
      have N9 := Fr.app N8 N9q
      refine ownE.goS (T' := T9) (f' := (mkF m 63 #[.val (.long j0), .second, .val (.long j1), .second, .val (.int i2), .val (.int i3), .val (.int (i2 &&& (31 : Int32))), .val (.long (((own_j0_21_S0 j0 j1 i2 i3) ||| (((i2 &&& (31 : Int32)).toInt64) <<< ((58 : Int32) &&& 0x3f).toInt64)) ||| (j0 &&& (288230376151711743 : Int64)))), .second, .val (.int (own_j0_48_S0 j0 j1 i2 i3)), .unset, .unset, .unset] [(.int (own_f4 (((own_j0_21_S0 j0 j1 i2 i3) ||| (((i2 &&& (31 : Int32)).toInt64) <<< ((58 : Int32) &&& 0x3f).toInt64)) ||| (j0 &&& (288230376151711743 : Int64)))))])) st9 ?_
      refine ownE.go (T' := T9) (f' := (mkF m 65 #[.val (.long j0), .second, .val (.long j1), .second, .val (.int i2), .val (.int i3), .val (.int (i2 &&& (31 : Int32))), .val (.long (((own_j0_21_S0 j0 j1 i2 i3) ||| (((i2 &&& (31 : Int32)).toInt64) <<< ((58 : Int32) &&& 0x3f).toInt64)) ||| (j0 &&& (288230376151711743 : Int64)))), .second, .val (.int (own_j0_48_S0 j0 j1 i2 i3)), .val (.int (own_f4 (((own_j0_21_S0 j0 j1 i2 i3) ||| (((i2 &&& (31 : Int32)).toInt64) <<< ((58 : Int32) &&& 0x3f).toInt64)) ||| (j0 &&& (288230376151711743 : Int64))))), .unset, .unset] [])) (fun t kt => ?_) ?_
      · show Steps p.tables e below (T9.setTop (mkF m 63 #[.val (.long j0), .second, .val (.long j1), .second, .val (.int i2), .val (.int i3), .val (.int (i2 &&& (31 : Int32))), .val (.long (((own_j0_21_S0 j0 j1 i2 i3) ||| (((i2 &&& (31 : Int32)).toInt64) <<< ((58 : Int32) &&& 0x3f).toInt64)) ||| (j0 &&& (288230376151711743 : Int64)))), .second, .val (.int (own_j0_48_S0 j0 j1 i2 i3)), .unset, .unset, .unset] [(.int (own_f4 (((own_j0_21_S0 j0 j1 i2 i3) ||| (((i2 &&& (31 : Int32)).toInt64) <<< ((58 : Int32) &&& 0x3f).toInt64)) ||| (j0 &&& (288230376151711743 : Int64)))))])) _
        refine XS.istore X9.here hx rfl (hb hby at_63) rfl (l' := #[.val (.long j0), .second, .val (.long j1), .second, .val (.int i2), .val (.int i3), .val (.int (i2 &&& (31 : Int32))), .val (.long (((own_j0_21_S0 j0 j1 i2 i3) ||| (((i2 &&& (31 : Int32)).toInt64) <<< ((58 : Int32) &&& 0x3f).toInt64)) ||| (j0 &&& (288230376151711743 : Int64)))), .second, .val (.int (own_j0_48_S0 j0 j1 i2 i3)), .val (.int (own_f4 (((own_j0_21_S0 j0 j1 i2 i3) ||| (((i2 &&& (31 : Int32)).toInt64) <<< ((58 : Int32) &&& 0x3f).toInt64)) ||| (j0 &&& (288230376151711743 : Int64))))), .unset, .unset]) rfl ?_
        exact kt
      have J12 : ∀ (TJ12 : State) (locsJ12 : List Loc), Stand p l e room_1 s m #[(.long j0), (.long j1), (.int i2), (.int i3)] below meth c TJ12 locsJ12 1 2 → TJ12.heap = T8.heap → Fr n0 locsJ12 → ownE p e below s (own_Q0 Z j0 j1 i2 i3 h0 n0) 2 4 TJ12 (mkF m 85 #[.val (.long j0), .second, .val (.long j1), .second, .val (.int i2), .val (.int i3), .val (.int (i2 &&& (31 : Int32))), .val (.long (((own_j0_21_S0 j0 j1 i2 i3) ||| (((i2 &&& (31 : Int32)).toInt64) <<< ((58 : Int32) &&& 0x3f).toInt64)) ||| (j0 &&& (288230376151711743 : Int64)))), .second, .val (.int (own_j0_48_S0 j0 j1 i2 i3)), .val (.int (own_f4 (((own_j0_21_S0 j0 j1 i2 i3) ||| (((i2 &&& (31 : Int32)).toInt64) <<< ((58 : Int32) &&& 0x3f).toInt64)) ||| (j0 &&& (288230376151711743 : Int64))))), .unset, .unset] [(.int (own_j0_85_S0 j0 j1 i2 i3))]) := by
        intro TJ12 locsJ12 XJ12 eJ12 NJ12
        refine ownE.go (T' := TJ12) (f' := (mkF m 87 #[.val (.long j0), .second, .val (.long j1), .second, .val (.int i2), .val (.int i3), .val (.int (i2 &&& (31 : Int32))), .val (.long (((own_j0_21_S0 j0 j1 i2 i3) ||| (((i2 &&& (31 : Int32)).toInt64) <<< ((58 : Int32) &&& 0x3f).toInt64)) ||| (j0 &&& (288230376151711743 : Int64)))), .second, .val (.int (own_j0_48_S0 j0 j1 i2 i3)), .val (.int (own_f4 (((own_j0_21_S0 j0 j1 i2 i3) ||| (((i2 &&& (31 : Int32)).toInt64) <<< ((58 : Int32) &&& 0x3f).toInt64)) ||| (j0 &&& (288230376151711743 : Int64))))), .val (.int (own_j0_85_S0 j0 j1 i2 i3)), .unset] [])) (fun t kt => ?_) ?_
        · show Steps p.tables e below (TJ12.setTop (mkF m 85 #[.val (.long j0), .second, .val (.long j1), .second, .val (.int i2), .val (.int i3), .val (.int (i2 &&& (31 : Int32))), .val (.long (((own_j0_21_S0 j0 j1 i2 i3) ||| (((i2 &&& (31 : Int32)).toInt64) <<< ((58 : Int32) &&& 0x3f).toInt64)) ||| (j0 &&& (288230376151711743 : Int64)))), .second, .val (.int (own_j0_48_S0 j0 j1 i2 i3)), .val (.int (own_f4 (((own_j0_21_S0 j0 j1 i2 i3) ||| (((i2 &&& (31 : Int32)).toInt64) <<< ((58 : Int32) &&& 0x3f).toInt64)) ||| (j0 &&& (288230376151711743 : Int64))))), .unset, .unset] [(.int (own_j0_85_S0 j0 j1 i2 i3))])) _
          refine XS.istore XJ12.here hx rfl (hb hby at_85) rfl (l' := #[.val (.long j0), .second, .val (.long j1), .second, .val (.int i2), .val (.int i3), .val (.int (i2 &&& (31 : Int32))), .val (.long (((own_j0_21_S0 j0 j1 i2 i3) ||| (((i2 &&& (31 : Int32)).toInt64) <<< ((58 : Int32) &&& 0x3f).toInt64)) ||| (j0 &&& (288230376151711743 : Int64)))), .second, .val (.int (own_j0_48_S0 j0 j1 i2 i3)), .val (.int (own_f4 (((own_j0_21_S0 j0 j1 i2 i3) ||| (((i2 &&& (31 : Int32)).toInt64) <<< ((58 : Int32) &&& 0x3f).toInt64)) ||| (j0 &&& (288230376151711743 : Int64))))), .val (.int (own_j0_85_S0 j0 j1 i2 i3)), .unset]) rfl ?_
          exact kt
        obtain ⟨T13, h13, X13, e13, E13, A13, D13, -, st13⟩ := newO XJ12 hx hZ hown (hw _ (List.mem_of_getElem? (i := 2) rfl)) (hw _ (List.mem_of_getElem? (i := 3) rfl)) (hw _ (List.mem_of_getElem? (i := 4) rfl)) eJ12 (g := (mkF m 87 #[.val (.long j0), .second, .val (.long j1), .second, .val (.int i2), .val (.int i3), .val (.int (i2 &&& (31 : Int32))), .val (.long (((own_j0_21_S0 j0 j1 i2 i3) ||| (((i2 &&& (31 : Int32)).toInt64) <<< ((58 : Int32) &&& 0x3f).toInt64)) ||| (j0 &&& (288230376151711743 : Int64)))), .second, .val (.int (own_j0_48_S0 j0 j1 i2 i3)), .val (.int (own_f4 (((own_j0_21_S0 j0 j1 i2 i3) ||| (((i2 &&& (31 : Int32)).toInt64) <<< ((58 : Int32) &&& 0x3f).toInt64)) ||| (j0 &&& (288230376151711743 : Int64))))), .val (.int (own_j0_85_S0 j0 j1 i2 i3)), .unset] [])) rfl (hb hby at_87) (by decide) (by decide)
        obtain ⟨b13, g13⟩ : ∃ z, z = T8.heap.size := ⟨_, rfl⟩
        rw [← g13] at A13 D13 st13
        have ne_b7_b13 : b7 ≠ b13 := Nat.ne_of_lt (Nat.lt_of_lt_of_le f8_0.lt (Nat.le_of_eq g13.symm))
        have sz_b13 : h0.size ≤ b13 := Nat.le_trans K8.1 (Nat.le_of_eq g13.symm)
        have ge_b13 : n0 ≤ b13 := Nat.le_trans Z0 sz_b13
        have cExa_b7_13 : Exa Z h13 b7 "com/example/marrow/marrow/BsonDecimal128" := f8_0.ext E13
        have cFld_b7_high_13 : Fld Z h13 b7 "com/example/marrow/marrow/BsonDecimal128" "high" "J" (.long (((own_j0_21_S0 j0 j1 i2 i3) ||| (((i2 &&& (31 : Int32)).toInt64) <<< ((58 : Int32) &&& 0x3f).toInt64)) ||| (j0 &&& (288230376151711743 : Int64)))) := f8_1.ext E13
        have cFld_b7_low_13 : Fld Z h13 b7 "com/example/marrow/marrow/BsonDecimal128" "low" "J" (.long j1) := f8_2.ext E13
        have D13_high : Fld Z h13 b13 "com/example/marrow/marrow/BsonDecimal128" "high" "J" (.long (0 : Int64)) := D13 (Or.inr (hw _ (List.mem_of_getElem? (i := 17) rfl))) (ty := .long) (by decide)
        have D13_low : Fld Z h13 b13 "com/example/marrow/marrow/BsonDecimal128" "low" "J" (.long (0 : Int64)) := D13 (Or.inr (hw _ (List.mem_of_getElem? (i := 19) rfl))) (ty := .long) (by decide)
        have K13 : Keep h0 h13 [] := K8.ext E13
        refine ownE.go (T' := T13) (f' := (mkF m 90 #[.val (.long j0), .second, .val (.long j1), .second, .val (.int i2), .val (.int i3), .val (.int (i2 &&& (31 : Int32))), .val (.long (((own_j0_21_S0 j0 j1 i2 i3) ||| (((i2 &&& (31 : Int32)).toInt64) <<< ((58 : Int32) &&& 0x3f).toInt64)) ||| (j0 &&& (288230376151711743 : Int64)))), .second, .val (.int (own_j0_48_S0 j0 j1 i2 i3)), .val (.int (own_f4 (((own_j0_21_S0 j0 j1 i2 i3) ||| (((i2 &&& (31 : Int32)).toInt64) <<< ((58 : Int32) &&& 0x3f).toInt64)) ||| (j0 &&& (288230376151711743 : Int64))))), .val (.int (own_j0_85_S0 j0 j1 i2 i3)), .unset] [(.ref b13)])) st13 ?_
        refine ownE.go (T' := T13) (f' := (mkF m 93 #[.val (.long j0), .second, .val (.long j1), .second, .val (.int i2), .val (.int i3), .val (.int (i2 &&& (31 : Int32))), .val (.long (((own_j0_21_S0 j0 j1 i2 i3) ||| (((i2 &&& (31 : Int32)).toInt64) <<< ((58 : Int32) &&& 0x3f).toInt64)) ||| (j0 &&& (288230376151711743 : Int64)))), .second, .val (.int (own_j0_48_S0 j0 j1 i2 i3)), .val (.int (own_f4 (((own_j0_21_S0 j0 j1 i2 i3) ||| (((i2 &&& (31 : Int32)).toInt64) <<< ((58 : Int32) &&& 0x3f).toInt64)) ||| (j0 &&& (288230376151711743 : Int64))))), .val (.int (own_j0_85_S0 j0 j1 i2 i3)), .unset] [(.long j1), (.long j0), (.ref b13), (.ref b13)])) (fun t kt => ?_) ?_
        · show Steps p.tables e below (T13.setTop (mkF m 90 #[.val (.long j0), .second, .val (.long j1), .second, .val (.int i2), .val (.int i3), .val (.int (i2 &&& (31 : Int32))), .val (.long (((own_j0_21_S0 j0 j1 i2 i3) ||| (((i2 &&& (31 : Int32)).toInt64) <<< ((58 : Int32) &&& 0x3f).toInt64)) ||| (j0 &&& (288230376151711743 : Int64)))), .second, .val (.int (own_j0_48_S0 j0 j1 i2 i3)), .val (.int (own_f4 (((own_j0_21_S0 j0 j1 i2 i3) ||| (((i2 &&& (31 : Int32)).toInt64) <<< ((58 : Int32) &&& 0x3f).toInt64)) ||| (j0 &&& (288230376151711743 : Int64))))), .val (.int (own_j0_85_S0 j0 j1 i2 i3)), .unset] [(.ref b13)])) _
          refine XS.dup X13.here hx rfl (hb hby at_90) rfl rfl ?_
          show Steps p.tables e below (T13.setTop (mkF m 91 #[.val (.long j0), .second, .val (.long j1), .second, .val (.int i2), .val (.int i3), .val (.int (i2 &&& (31 : Int32))), .val (.long (((own_j0_21_S0 j0 j1 i2 i3) ||| (((i2 &&& (31 : Int32)).toInt64) <<< ((58 : Int32) &&& 0x3f).toInt64)) ||| (j0 &&& (288230376151711743 : Int64)))), .second, .val (.int (own_j0_48_S0 j0 j1 i2 i3)), .val (.int (own_f4 (((own_j0_21_S0 j0 j1 i2 i3) ||| (((i2 &&& (31 : Int32)).toInt64) <<< ((58 : Int32) &&& 0x3f).toInt64)) ||| (j0 &&& (288230376151711743 : Int64))))), .val (.int (own_j0_85_S0 j0 j1 i2 i3)), .unset] [(.ref b13), (.ref b13)])) _
          refine XS.lloadN X13.here hx rfl (hb hby at_91) rfl ?_
          show Steps p.tables e below (T13.setTop (mkF m 92 #[.val (.long j0), .second, .val (.long j1), .second, .val (.int i2), .val (.int i3), .val (.int (i2 &&& (31 : Int32))), .val (.long (((own_j0_21_S0 j0 j1 i2 i3) ||| (((i2 &&& (31 : Int32)).toInt64) <<< ((58 : Int32) &&& 0x3f).toInt64)) ||| (j0 &&& (288230376151711743 : Int64)))), .second, .val (.int (own_j0_48_S0 j0 j1 i2 i3)), .val (.int (own_f4 (((own_j0_21_S0 j0 j1 i2 i3) ||| (((i2 &&& (31 : Int32)).toInt64) <<< ((58 : Int32) &&& 0x3f).toInt64)) ||| (j0 &&& (288230376151711743 : Int64))))), .val (.int (own_j0_85_S0 j0 j1 i2 i3)), .unset] [(.long j0), (.ref b13), (.ref b13)])) _
          refine XS.lloadN X13.here hx rfl (hb hby at_92) rfl ?_
          exact kt
        obtain ⟨_, _, ⟨T14, L14, k14, n14⟩, -, X14, ⟨Lc14, hQ14, l14, y14, z14⟩, st14⟩ := X13.specialBack hx (y := (⟨"com/example/marrow/marrow/BsonDecimal128", "<init>", "(JJ)V"⟩ : MethodName)) rfl hown (mvT hZ (hw _ (List.mem_of_getElem? (i := 5) rfl))) (mvT hZ (hw _ (List.mem_of_getElem? (i := 6) rfl))) (mvT hZ (hw _ (List.mem_of_getElem? (i := 7) rfl))) (by decide) (backOf (W := 1) (own_rm1 l Z a0 hw [] b13 j0 j1 h13 n0 (Nat.le_trans Z0 K13.1) D13_high D13_low A13 ge_b13) hZ (hw _ (List.mem_of_getElem? (i := 7) rfl)) (hw _ (List.mem_of_getElem? (i := 4) rfl)) (by decide) (by decide)) (g := (mkF m 93 #[.val (.long j0), .second, .val (.long j1), .second, .val (.int i2), .val (.int i3), .val (.int (i2 &&& (31 : Int32))), .val (.long (((own_j0_21_S0 j0 j1 i2 i3) ||| (((i2 &&& (31 : Int32)).toInt64) <<< ((58 : Int32) &&& 0x3f).toInt64)) ||| (j0 &&& (288230376151711743 : Int64)))), .second, .val (.int (own_j0_48_S0 j0 j1 i2 i3)), .val (.int (own_f4 (((own_j0_21_S0 j0 j1 i2 i3) ||| (((i2 &&& (31 : Int32)).toInt64) <<< ((58 : Int32) &&& 0x3f).toInt64)) ||| (j0 &&& (288230376151711743 : Int64))))), .val (.int (own_j0_85_S0 j0 j1 i2 i3)), .unset] [(.long j1), (.long j0), (.ref b13), (.ref b13)])) rfl (by rw [hml]; rfl) (Steps.refl _) (a := b13) (argsL := [(.long j0), (.long j1)]) (rest := [(.ref b13)]) (lenOf own_pd3 rfl) rfl (by show 2 * 0 + _ ≤ _; exact Nat.le_of_eq rfl) (hb hby at_93) (fun _ _ => ⟨rfl, e13, (by decide : 2 + 0 ≤ _), (by decide : 4 + 0 ≤ _)⟩)
        dsimp only [Pt.U, Pt.locs, Pt.cells, Pt.slots] at X14 l14 y14 z14 st14 hQ14
        subst l14 y14 z14
        obtain ⟨rfl, N14q, K14q, f14_0, f14_1, f14_2⟩ := hQ14
        have cExa_b7_14 : Exa Z T14.heap b7 "com/example/marrow/marrow/BsonDecimal128" := cExa_b7_13.keep K14q
        have cFld_b7_high_14 : Fld Z T14.heap b7 "com/example/marrow/marrow/BsonDecimal128" "high" "J" (.long (((own_j0_21_S0 j0 j1 i2 i3) ||| (((i2 &&& (31 : Int32)).toInt64) <<< ((58 : Int32) &&& 0x3f).toInt64)) ||| (j0 &&& (288230376151711743 : Int64)))) := cFld_b7_high_13.keep K14q (ninS ne_b7_b13 nin0)
        have cFld_b7_low_14 : Fld Z T14.heap b7 "com/example/marrow/marrow/BsonDecimal128" "low" "J" (.long j1) := cFld_b7_low_13.keep K14q (ninS ne_b7_b13 nin0)
        have cExa_b13_14 : Exa Z T14.heap b13 "com/example/marrow/marrow/BsonDecimal128" := A13.keep K14q
        have K14 : Keep h0 T14.heap [] := K13.trans K14q (allS (Or.inr sz_b13) all0)
        have N14 := Fr.app NJ12 N14q
        refine ownE.goS (T' := T14) (f' := (mkF m 96 #[.val (.long j0), .second, .val (.long j1), .second, .val (.int i2), .val (.int i3), .val (.int (i2 &&& (31 : Int32))), .val (.long (((own_j0_21_S0 j0 j1 i2 i3) ||| (((i2 &&& (31 : Int32)).toInt64) <<< ((58 : Int32) &&& 0x3f).toInt64)) ||| (j0 &&& (288230376151711743 : Int64)))), .second, .val (.int (own_j0_48_S0 j0 j1 i2 i3)), .val (.int (own_f4 (((own_j0_21_S0 j0 j1 i2 i3) ||| (((i2 &&& (31 : Int32)).toInt64) <<< ((58 : Int32) &&& 0x3f).toInt64)) ||| (j0 &&& (288230376151711743 : Int64))))), .val (.int (own_j0_85_S0 j0 j1 i2 i3)), .unset] [(.ref b13)])) st14 ?_
        obtain ⟨cq15, kq15, q15a, q15b, q15c⟩ := isOf hZ rfl f14_0
        obtain ⟨_, _, ⟨T15, L15, k15, n15⟩, -, X15, ⟨Lc15, hQ15, l15, y15, z15⟩, st15⟩ := X14.virtualBack hx (y := (⟨"com/example/marrow/marrow/BsonDecimal128", "isInfinite", "()Z"⟩ : MethodName)) (z := (⟨"com/example/marrow/marrow/BsonDecimal128", "isInfinite", "()Z"⟩ : MethodName)) hown (mvT hZ (hw _ (List.mem_of_getElem? (i := 20) rfl))) (mvT hZ (hw _ (List.mem_of_getElem? (i := 21) rfl))) (notFace_of_selects (args := #[]) (mvT hZ (hw _ (List.mem_of_getElem? (i := 23) rfl)))) (mvT hZ (hw _ (List.mem_of_getElem? (i := 23) rfl))) (mvT hZ (hw _ (List.mem_of_getElem? (i := 22) rfl))) (by decide) (backOf (W := 0) (own_rm4 l Z a0 hw [] b13 j0 T14.heap n0 (Nat.le_trans Z0 K14.1) f14_1) hZ (hw _ (List.mem_of_getElem? (i := 24) rfl)) (hw _ (List.mem_of_getElem? (i := 4) rfl)) (by decide) (by decide)) q15a q15c (g := (mkF m 96 #[.val (.long j0), .second, .val (.long j1), .second, .val (.int i2), .val (.int i3), .val (.int (i2 &&& (31 : Int32))), .val (.long (((own_j0_21_S0 j0 j1 i2 i3) ||| (((i2 &&& (31 : Int32)).toInt64) <<< ((58 : Int32) &&& 0x3f).toInt64)) ||| (j0 &&& (288230376151711743 : Int64)))), .second, .val (.int (own_j0_48_S0 j0 j1 i2 i3)), .val (.int (own_f4 (((own_j0_21_S0 j0 j1 i2 i3) ||| (((i2 &&& (31 : Int32)).toInt64) <<< ((58 : Int32) &&& 0x3f).toInt64)) ||| (j0 &&& (288230376151711743 : Int64))))), .val (.int (own_j0_85_S0 j0 j1 i2 i3)), .unset] [(.ref b13)])) rfl (by rw [hml]; rfl) (Steps.refl _) (argsL := []) (rest := []) (lenOf own_pd4 rfl) rfl (by show 2 * 0 + _ ≤ _; exact Nat.le_of_eq rfl) (hb hby at_96) (fun _ _ => ⟨rfl, rfl, (by decide : 2 + 0 ≤ _), (by decide : 4 + 0 ≤ _)⟩)
        dsimp only [Pt.U, Pt.locs, Pt.cells, Pt.slots] at X15 l15 y15 z15 st15 hQ15
        subst l15 y15 z15
        obtain ⟨rfl, N15q, e15⟩ := hQ15
        have N15 := Fr.app N14 N15q
        refine ownE.goS (T' := T15) (f' := (mkF m 99 #[.val (.long j0), .second, .val (.long j1), .second, .val (.int i2), .val (.int i3), .val (.int (i2 &&& (31 : Int32))), .val (.long (((own_j0_21_S0 j0 j1 i2 i3) ||| (((i2 &&& (31 : Int32)).toInt64) <<< ((58 : Int32) &&& 0x3f).toInt64)) ||| (j0 &&& (288230376151711743 : Int64)))), .second, .val (.int (own_j0_48_S0 j0 j1 i2 i3)), .val (.int (own_f4 (((own_j0_21_S0 j0 j1 i2 i3) ||| (((i2 &&& (31 : Int32)).toInt64) <<< ((58 : Int32) &&& 0x3f).toInt64)) ||| (j0 &&& (288230376151711743 : Int64))))), .val (.int (own_j0_85_S0 j0 j1 i2 i3)), .unset] [(.int (own_f4 j0))])) st15 ?_
        refine ownE.go (T' := T15) (f' := (mkF m 105 #[.val (.long j0), .second, .val (.long j1), .second, .val (.int i2), .val (.int i3), .val (.int (i2 &&& (31 : Int32))), .val (.long (((own_j0_21_S0 j0 j1 i2 i3) ||| (((i2 &&& (31 : Int32)).toInt64) <<< ((58 : Int32) &&& 0x3f).toInt64)) ||| (j0 &&& (288230376151711743 : Int64)))), .second, .val (.int (own_j0_48_S0 j0 j1 i2 i3)), .val (.int (own_f4 (((own_j0_21_S0 j0 j1 i2 i3) ||| (((i2 &&& (31 : Int32)).toInt64) <<< ((58 : Int32) &&& 0x3f).toInt64)) ||| (j0 &&& (288230376151711743 : Int64))))), .val (.int (own_j0_85_S0 j0 j1 i2 i3)), .val (.int (own_f4 j0))] [(.int (own_j0_48_S0 j0 j1 i2 i3)), (.int (own_f4 (((own_j0_21_S0 j0 j1 i2 i3) ||| (((i2 &&& (31 : Int32)).toInt64) <<< ((58 : Int32) &&& 0x3f).toInt64)) ||| (j0 &&& (288230376151711743 : Int64)))))])) (fun t kt => ?_) ?_
        · show Steps p.tables e below (T15.setTop (mkF m 99 #[.val (.long j0), .second, .val (.long j1), .second, .val (.int i2), .val (.int i3), .val (.int (i2 &&& (31 : Int32))), .val (.long (((own_j0_21_S0 j0 j1 i2 i3) ||| (((i2 &&& (31 : Int32)).toInt64) <<< ((58 : Int32) &&& 0x3f).toInt64)) ||| (j0 &&& (288230376151711743 : Int64)))), .second, .val (.int (own_j0_48_S0 j0 j1 i2 i3)), .val (.int (own_f4 (((own_j0_21_S0 j0 j1 i2 i3) ||| (((i2 &&& (31 : Int32)).toInt64) <<< ((58 : Int32) &&& 0x3f).toInt64)) ||| (j0 &&& (288230376151711743 : Int64))))), .val (.int (own_j0_85_S0 j0 j1 i2 i3)), .unset] [(.int (own_f4 j0))])) _
          refine XS.istore X15.here hx rfl (hb hby at_99) rfl (l' := #[.val (.long j0), .second, .val (.long j1), .second, .val (.int i2), .val (.int i3), .val (.int (i2 &&& (31 : Int32))), .val (.long (((own_j0_21_S0 j0 j1 i2 i3) ||| (((i2 &&& (31 : Int32)).toInt64) <<< ((58 : Int32) &&& 0x3f).toInt64)) ||| (j0 &&& (288230376151711743 : Int64)))), .second, .val (.int (own_j0_48_S0 j0 j1 i2 i3)), .val (.int (own_f4 (((own_j0_21_S0 j0 j1 i2 i3) ||| (((i2 &&& (31 : Int32)).toInt64) <<< ((58 : Int32) &&& 0x3f).toInt64)) ||| (j0 &&& (288230376151711743 : Int64))))), .val (.int (own_j0_85_S0 j0 j1 i2 i3)), .val (.int (own_f4 j0))]) rfl ?_
          show Steps p.tables e below (T15.setTop (mkF m 101 #[.val (.long j0), .second, .val (.long j1), .second, .val (.int i2), .val (.int i3), .val (.int (i2 &&& (31 : Int32))), .val (.long (((own_j0_21_S0 j0 j1 i2 i3) ||| (((i2 &&& (31 : Int32)).toInt64) <<< ((58 : Int32) &&& 0x3f).toInt64)) ||| (j0 &&& (288230376151711743 : Int64)))), .second, .val (.int (own_j0_48_S0 j0 j1 i2 i3)), .val (.int (own_f4 (((own_j0_21_S0 j0 j1 i2 i3) ||| (((i2 &&& (31 : Int32)).toInt64) <<< ((58 : Int32) &&& 0x3f).toInt64)) ||| (j0 &&& (288230376151711743 : Int64))))), .val (.int (own_j0_85_S0 j0 j1 i2 i3)), .val (.int (own_f4 j0))] [])) _
          refine XS.iload X15.here hx rfl (hb hby at_101) rfl ?_
          show Steps p.tables e below (T15.setTop (mkF m 103 #[.val (.long j0), .second, .val (.long j1), .second, .val (.int i2), .val (.int i3), .val (.int (i2 &&& (31 : Int32))), .val (.long (((own_j0_21_S0 j0 j1 i2 i3) ||| (((i2 &&& (31 : Int32)).toInt64) <<< ((58 : Int32) &&& 0x3f).toInt64)) ||| (j0 &&& (288230376151711743 : Int64)))), .second, .val (.int (own_j0_48_S0 j0 j1 i2 i3)), .val (.int (own_f4 (((own_j0_21_S0 j0 j1 i2 i3) ||| (((i2 &&& (31 : Int32)).toInt64) <<< ((58 : Int32) &&& 0x3f).toInt64)) ||| (j0 &&& (288230376151711743 : Int64))))), .val (.int (own_j0_85_S0 j0 j1 i2 i3)), .val (.int (own_f4 j0))] [(.int (own_f4 (((own_j0_21_S0 j0 j1 i2 i3) ||| (((i2 &&& (31 : Int32)).toInt64) <<< ((58 : Int32) &&& 0x3f).toInt64)) ||| (j0 &&& (288230376151711743 : Int64)))))])) _
          refine XS.iload X15.here hx rfl (hb hby at_103) rfl ?_
          exact kt
        by_cases hc16 : (own_f4 (((own_j0_21_S0 j0 j1 i2 i3) ||| (((i2 &&& (31 : Int32)).toInt64) <<< ((58 : Int32) &&& 0x3f).toInt64)) ||| (j0 &&& (288230376151711743 : Int64)))) = (own_j0_48_S0 j0 j1 i2 i3)
        · -- pc 105
          refine ownE.go (T' := T15) (f' := (mkF m 108 #[.val (.long j0), .second, .val (.long j1), .second, .val (.int i2), .val (.int i3), .val (.int (i2 &&& (31 : Int32))), .val (.long (((own_j0_21_S0 j0 j1 i2 i3) ||| (((i2 &&& (31 : Int32)).toInt64) <<< ((58 : Int32) &&& 0x3f).toInt64)) ||| (j0 &&& (288230376151711743 : Int64)))), .second, .val (.int (own_j0_48_S0 j0 j1 i2 i3)), .val (.int (own_f4 (((own_j0_21_S0 j0 j1 i2 i3) ||| (((i2 &&& (31 : Int32)).toInt64) <<< ((58 : Int32) &&& 0x3f).toInt64)) ||| (j0 &&& (288230376151711743 : Int64))))), .val (.int (own_j0_85_S0 j0 j1 i2 i3)), .val (.int (own_f4 j0))] [])) (fun t kt => XS.icmpNo (g := (mkF m 105 #[.val (.long j0), .second, .val (.long j1), .second, .val (.int i2), .val (.int i3), .val (.int (i2 &&& (31 : Int32))), .val (.long (((own_j0_21_S0 j0 j1 i2 i3) ||| (((i2 &&& (31 : Int32)).toInt64) <<< ((58 : Int32) &&& 0x3f).toInt64)) ||| (j0 &&& (288230376151711743 : Int64)))), .second, .val (.int (own_j0_48_S0 j0 j1 i2 i3)), .val (.int (own_f4 (((own_j0_21_S0 j0 j1 i2 i3) ||| (((i2 &&& (31 : Int32)).toInt64) <<< ((58 : Int32) &&& 0x3f).toInt64)) ||| (j0 &&& (288230376151711743 : Int64))))), .val (.int (own_j0_85_S0 j0 j1 i2 i3)), .val (.int (own_f4 j0))] [(.int (own_j0_48_S0 j0 j1 i2 i3)), (.int (own_f4 (((own_j0_21_S0 j0 j1 i2 i3) ||| (((i2 &&& (31 : Int32)).toInt64) <<< ((58 : Int32) &&& 0x3f).toInt64)) ||| (j0 &&& (288230376151711743 : Int64)))))])) X15.here hx rfl (hb hby at_105) rfl (Jvm.Free.XT.ii_ne_f hc16) kt) ?_
          refine ownE.go (T' := T15) (f' := (mkF m 112 #[.val (.long j0), .second, .val (.long j1), .second, .val (.int i2), .val (.int i3), .val (.int (i2 &&& (31 : Int32))), .val (.long (((own_j0_21_S0 j0 j1 i2 i3) ||| (((i2 &&& (31 : Int32)).toInt64) <<< ((58 : Int32) &&& 0x3f).toInt64)) ||| (j0 &&& (288230376151711743 : Int64)))), .second, .val (.int (own_j0_48_S0 j0 j1 i2 i3)), .val (.int (own_f4 (((own_j0_21_S0 j0 j1 i2 i3) ||| (((i2 &&& (31 : Int32)).toInt64) <<< ((58 : Int32) &&& 0x3f).toInt64)) ||| (j0 &&& (288230376151711743 : Int64))))), .val (.int (own_j0_85_S0 j0 j1 i2 i3)), .val (.int (own_f4 j0))] [(.int (own_j0_85_S0 j0 j1 i2 i3)), (.int (own_f4 j0))])) (fun t kt => ?_) ?_
          · show Steps p.tables e below (T15.setTop (mkF m 108 #[.val (.long j0), .second, .val (.long j1), .second, .val (.int i2), .val (.int i3), .val (.int (i2 &&& (31 : Int32))), .val (.long (((own_j0_21_S0 j0 j1 i2 i3) ||| (((i2 &&& (31 : Int32)).toInt64) <<< ((58 : Int32) &&& 0x3f).toInt64)) ||| (j0 &&& (288230376151711743 : Int64)))), .second, .val (.int (own_j0_48_S0 j0 j1 i2 i3)), .val (.int (own_f4 (((own_j0_21_S0 j0 j1 i2 i3) ||| (((i2 &&& (31 : Int32)).toInt64) <<< ((58 : Int32) &&& 0x3f).toInt64)) ||| (j0 &&& (288230376151711743 : Int64))))), .val (.int (own_j0_85_S0 j0 j1 i2 i3)), .val (.int (own_f4 j0))] [])) _
            refine XS.iload X15.here hx rfl (hb hby at_108) rfl ?_
            show Steps p.tables e below (T15.setTop (mkF m 110 #[.val (.long j0), .second, .val (.long j1), .second, .val (.int i2), .val (.int i3), .val (.int (i2 &&& (31 : Int32))), .val (.long (((own_j0_21_S0 j0 j1 i2 i3) ||| (((i2 &&& (31 : Int32)).toInt64) <<< ((58 : Int32) &&& 0x3f).toInt64)) ||| (j0 &&& (288230376151711743 : Int64)))), .second, .val (.int (own_j0_48_S0 j0 j1 i2 i3)), .val (.int (own_f4 (((own_j0_21_S0 j0 j1 i2 i3) ||| (((i2 &&& (31 : Int32)).toInt64) <<< ((58 : Int32) &&& 0x3f).toInt64)) ||| (j0 &&& (288230376151711743 : Int64))))), .val (.int (own_j0_85_S0 j0 j1 i2 i3)), .val (.int (own_f4 j0))] [(.int (own_f4 j0))])) _
            refine XS.iload X15.here hx rfl (hb hby at_110) rfl ?_
            exact kt
          by_cases hc17 : (own_f4 j0) = (own_j0_85_S0 j0 j1 i2 i3)
          · -- pc 112
            refine ownE.go (T' := T15) (f' := (mkF m 115 #[.val (.long j0), .second, .val (.long j1), .second, .val (.int i2), .val (.int i3), .val (.int (i2 &&& (31 : Int32))), .val (.long (((own_j0_21_S0 j0 j1 i2 i3) ||| (((i2 &&& (31 : Int32)).toInt64) <<< ((58 : Int32) &&& 0x3f).toInt64)) ||| (j0 &&& (288230376151711743 : Int64)))), .second, .val (.int (own_j0_48_S0 j0 j1 i2 i3)), .val (.int (own_f4 (((own_j0_21_S0 j0 j1 i2 i3) ||| (((i2 &&& (31 : Int32)).toInt64) <<< ((58 : Int32) &&& 0x3f).toInt64)) ||| (j0 &&& (288230376151711743 : Int64))))), .val (.int (own_j0_85_S0 j0 j1 i2 i3)), .val (.int (own_f4 j0))] [])) (fun t kt => XS.icmpNo (g := (mkF m 112 #[.val (.long j0), .second, .val (.long j1), .second, .val (.int i2), .val (.int i3), .val (.int (i2 &&& (31 : Int32))), .val (.long (((own_j0_21_S0 j0 j1 i2 i3) ||| (((i2 &&& (31 : Int32)).toInt64) <<< ((58 : Int32) &&& 0x3f).toInt64)) ||| (j0 &&& (288230376151711743 : Int64)))), .second, .val (.int (own_j0_48_S0 j0 j1 i2 i3)), .val (.int (own_f4 (((own_j0_21_S0 j0 j1 i2 i3) ||| (((i2 &&& (31 : Int32)).toInt64) <<< ((58 : Int32) &&& 0x3f).toInt64)) ||| (j0 &&& (288230376151711743 : Int64))))), .val (.int (own_j0_85_S0 j0 j1 i2 i3)), .val (.int (own_f4 j0))] [(.int (own_j0_85_S0 j0 j1 i2 i3)), (.int (own_f4 j0))])) X15.here hx rfl (hb hby at_112) rfl (Jvm.Free.XT.ii_ne_f hc17) kt) ?_
            refine ownE.go (T' := T15) (f' := (mkF m 120 #[.val (.long j0), .second, .val (.long j1), .second, .val (.int i2), .val (.int i3), .val (.int (i2 &&& (31 : Int32))), .val (.long (((own_j0_21_S0 j0 j1 i2 i3) ||| (((i2 &&& (31 : Int32)).toInt64) <<< ((58 : Int32) &&& 0x3f).toInt64)) ||| (j0 &&& (288230376151711743 : Int64)))), .second, .val (.int (own_j0_48_S0 j0 j1 i2 i3)), .val (.int (own_f4 (((own_j0_21_S0 j0 j1 i2 i3) ||| (((i2 &&& (31 : Int32)).toInt64) <<< ((58 : Int32) &&& 0x3f).toInt64)) ||| (j0 &&& (288230376151711743 : Int64))))), .val (.int (own_j0_85_S0 j0 j1 i2 i3)), .val (.int (own_f4 j0))] [(.int (1 : Int32))])) (fun t kt => ?_) ?_
            · show Steps p.tables e below (T15.setTop (mkF m 115 #[.val (.long j0), .second, .val (.long j1), .second, .val (.int i2), .val (.int i3), .val (.int (i2 &&& (31 : Int32))), .val (.long (((own_j0_21_S0 j0 j1 i2 i3) ||| (((i2 &&& (31 : Int32)).toInt64) <<< ((58 : Int32) &&& 0x3f).toInt64)) ||| (j0 &&& (288230376151711743 : Int64)))), .second, .val (.int (own_j0_48_S0 j0 j1 i2 i3)), .val (.int (own_f4 (((own_j0_21_S0 j0 j1 i2 i3) ||| (((i2 &&& (31 : Int32)).toInt64) <<< ((58 : Int32) &&& 0x3f).toInt64)) ||| (j0 &&& (288230376151711743 : Int64))))), .val (.int (own_j0_85_S0 j0 j1 i2 i3)), .val (.int (own_f4 j0))] [])) _
              refine XS.iconst X15.here hx rfl (hb hby at_115) ?_
              show Steps p.tables e below (T15.setTop (mkF m 116 #[.val (.long j0), .second, .val (.long j1), .second, .val (.int i2), .val (.int i3), .val (.int (i2 &&& (31 : Int32))), .val (.long (((own_j0_21_S0 j0 j1 i2 i3) ||| (((i2 &&& (31 : Int32)).toInt64) <<< ((58 : Int32) &&& 0x3f).toInt64)) ||| (j0 &&& (288230376151711743 : Int64)))), .second, .val (.int (own_j0_48_S0 j0 j1 i2 i3)), .val (.int (own_f4 (((own_j0_21_S0 j0 j1 i2 i3) ||| (((i2 &&& (31 : Int32)).toInt64) <<< ((58 : Int32) &&& 0x3f).toInt64)) ||| (j0 &&& (288230376151711743 : Int64))))), .val (.int (own_j0_85_S0 j0 j1 i2 i3)), .val (.int (own_f4 j0))] [(.int (1 : Int32))])) _
              refine XS.goto X15.here hx rfl (pc0 := 116) (pc' := 120) rfl (hb hby at_116) (by decide) (by decide) ?_
              exact kt
            refine ownE.retN X15 hx hlk (t := .boolean) hret (by simp) (hb hby at_120) ?_ (by decide) (by decide)
            show own_Q0 Z j0 j1 i2 i3 h0 n0 _ T15.heap _
            rw [e15]
            exact ⟨(by rw [own_f0, if_pos hc16, if_pos hc17] <;> first | rfl | decide), N15, K14⟩
          · -- pc 112
            refine ownE.go (T' := T15) (f' := (mkF m 119 #[.val (.long j0), .second, .val (.long j1), .second, .val (.int i2), .val (.int i3), .val (.int (i2 &&& (31 : Int32))), .val (.long (((own_j0_21_S0 j0 j1 i2 i3) ||| (((i2 &&& (31 : Int32)).toInt64) <<< ((58 : Int32) &&& 0x3f).toInt64)) ||| (j0 &&& (288230376151711743 : Int64)))), .second, .val (.int (own_j0_48_S0 j0 j1 i2 i3)), .val (.int (own_f4 (((own_j0_21_S0 j0 j1 i2 i3) ||| (((i2 &&& (31 : Int32)).toInt64) <<< ((58 : Int32) &&& 0x3f).toInt64)) ||| (j0 &&& (288230376151711743 : Int64))))), .val (.int (own_j0_85_S0 j0 j1 i2 i3)), .val (.int (own_f4 j0))] [])) (fun t kt => XS.icmpYes (g := (mkF m 112 #[.val (.long j0), .second, .val (.long j1), .second, .val (.int i2), .val (.int i3), .val (.int (i2 &&& (31 : Int32))), .val (.long (((own_j0_21_S0 j0 j1 i2 i3) ||| (((i2 &&& (31 : Int32)).toInt64) <<< ((58 : Int32) &&& 0x3f).toInt64)) ||| (j0 &&& (288230376151711743 : Int64)))), .second, .val (.int (own_j0_48_S0 j0 j1 i2 i3)), .val (.int (own_f4 (((own_j0_21_S0 j0 j1 i2 i3) ||| (((i2 &&& (31 : Int32)).toInt64) <<< ((58 : Int32) &&& 0x3f).toInt64)) ||| (j0 &&& (288230376151711743 : Int64))))), .val (.int (own_j0_85_S0 j0 j1 i2 i3)), .val (.int (own_f4 j0))] [(.int (own_j0_85_S0 j0 j1 i2 i3)), (.int (own_f4 j0))])) X15.here hx rfl (pc0 := 112) (pc' := 119) rfl (hb hby at_112) rfl (Jvm.Free.XT.ii_ne_t hc17) (by decide) (by decide) kt) ?_
            refine ownE.go (T' := T15) (f' := (mkF m 120 #[.val (.long j0), .second, .val (.long j1), .second, .val (.int i2), .val (.int i3), .val (.int (i2 &&& (31 : Int32))), .val (.long (((own_j0_21_S0 j0 j1 i2 i3) ||| (((i2 &&& (31 : Int32)).toInt64) <<< ((58 : Int32) &&& 0x3f).toInt64)) ||| (j0 &&& (288230376151711743 : Int64)))), .second, .val (.int (own_j0_48_S0 j0 j1 i2 i3)), .val (.int (own_f4 (((own_j0_21_S0 j0 j1 i2 i3) ||| (((i2 &&& (31 : Int32)).toInt64) <<< ((58 : Int32) &&& 0x3f).toInt64)) ||| (j0 &&& (288230376151711743 : Int64))))), .val (.int (own_j0_85_S0 j0 j1 i2 i3)), .val (.int (own_f4 j0))] [(.int (0 : Int32))])) (fun t kt => ?_) ?_
            · show Steps p.tables e below (T15.setTop (mkF m 119 #[.val (.long j0), .second, .val (.long j1), .second, .val (.int i2), .val (.int i3), .val (.int (i2 &&& (31 : Int32))), .val (.long (((own_j0_21_S0 j0 j1 i2 i3) ||| (((i2 &&& (31 : Int32)).toInt64) <<< ((58 : Int32) &&& 0x3f).toInt64)) ||| (j0 &&& (288230376151711743 : Int64)))), .second, .val (.int (own_j0_48_S0 j0 j1 i2 i3)), .val (.int (own_f4 (((own_j0_21_S0 j0 j1 i2 i3) ||| (((i2 &&& (31 : Int32)).toInt64) <<< ((58 : Int32) &&& 0x3f).toInt64)) ||| (j0 &&& (288230376151711743 : Int64))))), .val (.int (own_j0_85_S0 j0 j1 i2 i3)), .val (.int (own_f4 j0))] [])) _
              refine XS.iconst X15.here hx rfl (hb hby at_119) ?_
              exact kt
            refine ownE.retN X15 hx hlk (t := .boolean) hret (by simp) (hb hby at_120) ?_ (by decide) (by decide)
            show own_Q0 Z j0 j1 i2 i3 h0 n0 _ T15.heap _
            rw [e15]
            exact ⟨(by rw [own_f0, if_pos hc16, if_neg hc17] <;> first | rfl | decide), N15, K14⟩
        · -- pc 105
          refine ownE.go (T' := T15) (f' := (mkF m 119 #[.val (.long j0), .second, .val (.long j1), .second, .val (.int i2), .val (.int i3), .val (.int (i2 &&& (31 : Int32))), .val (.long (((own_j0_21_S0 j0 j1 i2 i3) ||| (((i2 &&& (31 : Int32)).toInt64) <<< ((58 : Int32) &&& 0x3f).toInt64)) ||| (j0 &&& (288230376151711743 : Int64)))), .second, .val (.int (own_j0_48_S0 j0 j1 i2 i3)), .val (.int (own_f4 (((own_j0_21_S0 j0 j1 i2 i3) ||| (((i2 &&& (31 : Int32)).toInt64) <<< ((58 : Int32) &&& 0x3f).toInt64)) ||| (j0 &&& (288230376151711743 : Int64))))), .val (.int (own_j0_85_S0 j0 j1 i2 i3)), .val (.int (own_f4 j0))] [])) (fun t kt => XS.icmpYes (g := (mkF m 105 #[.val (.long j0), .second, .val (.long j1), .second, .val (.int i2), .val (.int i3), .val (.int (i2 &&& (31 : Int32))), .val (.long (((own_j0_21_S0 j0 j1 i2 i3) ||| (((i2 &&& (31 : Int32)).toInt64) <<< ((58 : Int32) &&& 0x3f).toInt64)) ||| (j0 &&& (288230376151711743 : Int64)))), .second, .val (.int (own_j0_48_S0 j0 j1 i2 i3)), .val (.int (own_f4 (((own_j0_21_S0 j0 j1 i2 i3) ||| (((i2 &&& (31 : Int32)).toInt64) <<< ((58 : Int32) &&& 0x3f).toInt64)) ||| (j0 &&& (288230376151711743 : Int64))))), .val (.int (own_j0_85_S0 j0 j1 i2 i3)), .val (.int (own_f4 j0))] [(.int (own_j0_48_S0 j0 j1 i2 i3)), (.int (own_f4 (((own_j0_21_S0 j0 j1 i2 i3) ||| (((i2 &&& (31 : Int32)).toInt64) <<< ((58 : Int32) &&& 0x3f).toInt64)) ||| (j0 &&& (288230376151711743 : Int64)))))])) X15.here hx rfl (pc0 := 105) (pc' := 119) rfl (hb hby at_105) rfl (Jvm.Free.XT.ii_ne_t hc16) (by decide) (by decide) kt) ?_
          refine ownE.go (T' := T15) (f' := (mkF m 120 #[.val (.long j0), .second, .val (.long j1), .second, .val (.int i2), .val (.int i3), .val (.int (i2 &&& (31 : Int32))), .val (.long (((own_j0_21_S0 j0 j1 i2 i3) ||| (((i2 &&& (31 : Int32)).toInt64) <<< ((58 : Int32) &&& 0x3f).toInt64)) ||| (j0 &&& (288230376151711743 : Int64)))), .second, .val (.int (own_j0_48_S0 j0 j1 i2 i3)), .val (.int (own_f4 (((own_j0_21_S0 j0 j1 i2 i3) ||| (((i2 &&& (31 : Int32)).toInt64) <<< ((58 : Int32) &&& 0x3f).toInt64)) ||| (j0 &&& (288230376151711743 : Int64))))), .val (.int (own_j0_85_S0 j0 j1 i2 i3)), .val (.int (own_f4 j0))] [(.int (0 : Int32))])) (fun t kt => ?_) ?_
          · show Steps p.tables e below (T15.setTop (mkF m 119 #[.val (.long j0), .second, .val (.long j1), .second, .val (.int i2), .val (.int i3), .val (.int (i2 &&& (31 : Int32))), .val (.long (((own_j0_21_S0 j0 j1 i2 i3) ||| (((i2 &&& (31 : Int32)).toInt64) <<< ((58 : Int32) &&& 0x3f).toInt64)) ||| (j0 &&& (288230376151711743 : Int64)))), .second, .val (.int (own_j0_48_S0 j0 j1 i2 i3)), .val (.int (own_f4 (((own_j0_21_S0 j0 j1 i2 i3) ||| (((i2 &&& (31 : Int32)).toInt64) <<< ((58 : Int32) &&& 0x3f).toInt64)) ||| (j0 &&& (288230376151711743 : Int64))))), .val (.int (own_j0_85_S0 j0 j1 i2 i3)), .val (.int (own_f4 j0))] [])) _
            refine XS.iconst X15.here hx rfl (hb hby at_119) ?_
            exact kt
          refine ownE.retN X15 hx hlk (t := .boolean) hret (by simp) (hb hby at_120) ?_ (by decide) (by decide)
          show own_Q0 Z j0 j1 i2 i3 h0 n0 _ T15.heap _
          rw [e15]
          exact ⟨(by rw [own_f0, if_neg hc16] <;> first | rfl | decide), N15, K14⟩
      refine ownE.go (T' := T9) (f' := (mkF m 77 #[.val (.long j0), .second, .val (.long j1), .second, .val (.int i2), .val (.int i3), .val (.int (i2 &&& (31 : Int32))), .val (.long (((own_j0_21_S0 j0 j1 i2 i3) ||| (((i2 &&& (31 : Int32)).toInt64) <<< ((58 : Int32) &&& 0x3f).toInt64)) ||| (j0 &&& (288230376151711743 : Int64)))), .second, .val (.int (own_j0_48_S0 j0 j1 i2 i3)), .val (.int (own_f4 (((own_j0_21_S0 j0 j1 i2 i3) ||| (((i2 &&& (31 : Int32)).toInt64) <<< ((58 : Int32) &&& 0x3f).toInt64)) ||| (j0 &&& (288230376151711743 : Int64))))), .unset, .unset] [(.int (Jvm.Free.XT.cmpL (((j0.toUInt64 >>> ((58 : Int32) &&& 0x3f).toInt64.toUInt64).toInt64) &&& (31 : Int64)) (30 : Int64)))])) (fun t kt => ?_) ?_
      · show Steps p.tables e below (T9.setTop (mkF m 65 #[.val (.long j0), .second, .val (.long j1), .second, .val (.int i2), .val (.int i3), .val (.int (i2 &&& (31 : Int32))), .val (.long (((own_j0_21_S0 j0 j1 i2 i3) ||| (((i2 &&& (31 : Int32)).toInt64) <<< ((58 : Int32) &&& 0x3f).toInt64)) ||| (j0 &&& (288230376151711743 : Int64)))), .second, .val (.int (own_j0_48_S0 j0 j1 i2 i3)), .val (.int (own_f4 (((own_j0_21_S0 j0 j1 i2 i3) ||| (((i2 &&& (31 : Int32)).toInt64) <<< ((58 : Int32) &&& 0x3f).toInt64)) ||| (j0 &&& (288230376151711743 : Int64))))), .unset, .unset] [])) _
        refine XS.lloadN X9.here hx rfl (hb hby at_65) rfl ?_
        show Steps p.tables e below (T9.setTop (mkF m 66 #[.val (.long j0), .second, .val (.long j1), .second, .val (.int i2), .val (.int i3), .val (.int (i2 &&& (31 : Int32))), .val (.long (((own_j0_21_S0 j0 j1 i2 i3) ||| (((i2 &&& (31 : Int32)).toInt64) <<< ((58 : Int32) &&& 0x3f).toInt64)) ||| (j0 &&& (288230376151711743 : Int64)))), .second, .val (.int (own_j0_48_S0 j0 j1 i2 i3)), .val (.int (own_f4 (((own_j0_21_S0 j0 j1 i2 i3) ||| (((i2 &&& (31 : Int32)).toInt64) <<< ((58 : Int32) &&& 0x3f).toInt64)) ||| (j0 &&& (288230376151711743 : Int64))))), .unset, .unset] [(.long j0)])) _
        refine XS.bipush X9.here hx rfl (hb hby at_66) ?_
        show Steps p.tables e below (T9.setTop (mkF m 68 #[.val (.long j0), .second, .val (.long j1), .second, .val (.int i2), .val (.int i3), .val (.int (i2 &&& (31 : Int32))), .val (.long (((own_j0_21_S0 j0 j1 i2 i3) ||| (((i2 &&& (31 : Int32)).toInt64) <<< ((58 : Int32) &&& 0x3f).toInt64)) ||| (j0 &&& (288230376151711743 : Int64)))), .second, .val (.int (own_j0_48_S0 j0 j1 i2 i3)), .val (.int (own_f4 (((own_j0_21_S0 j0 j1 i2 i3) ||| (((i2 &&& (31 : Int32)).toInt64) <<< ((58 : Int32) &&& 0x3f).toInt64)) ||| (j0 &&& (288230376151711743 : Int64))))), .unset, .unset] [(.int (58 : Int32)), (.long j0)])) _
        refine XS.lushr X9.here hx rfl (hb hby at_68) rfl ?_
        show Steps p.tables e below (T9.setTop (mkF m 69 #[.val (.long j0), .second, .val (.long j1), .second, .val (.int i2), .val (.int i3), .val (.int (i2 &&& (31 : Int32))), .val (.long (((own_j0_21_S0 j0 j1 i2 i3) ||| (((i2 &&& (31 : Int32)).toInt64) <<< ((58 : Int32) &&& 0x3f).toInt64)) ||| (j0 &&& (288230376151711743 : Int64)))), .second, .val (.int (own_j0_48_S0 j0 j1 i2 i3)), .val (.int (own_f4 (((own_j0_21_S0 j0 j1 i2 i3) ||| (((i2 &&& (31 : Int32)).toInt64) <<< ((58 : Int32) &&& 0x3f).toInt64)) ||| (j0 &&& (288230376151711743 : Int64))))), .unset, .unset] [(.long ((j0.toUInt64 >>> ((58 : Int32) &&& 0x3f).toInt64.toUInt64).toInt64))])) _
        refine X9.ldc2Long hx hown (mvT hZ (hw _ (List.mem_of_getElem? (i := 27) rfl))) (g := (mkF m 69 #[.val (.long j0), .second, .val (.long j1), .second, .val (.int i2), .val (.int i3), .val (.int (i2 &&& (31 : Int32))), .val (.long (((own_j0_21_S0 j0 j1 i2 i3) ||| (((i2 &&& (31 : Int32)).toInt64) <<< ((58 : Int32) &&& 0x3f).toInt64)) ||| (j0 &&& (288230376151711743 : Int64)))), .second, .val (.int (own_j0_48_S0 j0 j1 i2 i3)), .val (.int (own_f4 (((own_j0_21_S0 j0 j1 i2 i3) ||| (((i2 &&& (31 : Int32)).toInt64) <<< ((58 : Int32) &&& 0x3f).toInt64)) ||| (j0 &&& (288230376151711743 : Int64))))), .unset, .unset] [(.long ((j0.toUInt64 >>> ((58 : Int32) &&& 0x3f).toInt64.toUInt64).toInt64))])) rfl (hb hby at_69) _ ?_
        show Steps p.tables e below (T9.setTop (mkF m 72 #[.val (.long j0), .second, .val (.long j1), .second, .val (.int i2), .val (.int i3), .val (.int (i2 &&& (31 : Int32))), .val (.long (((own_j0_21_S0 j0 j1 i2 i3) ||| (((i2 &&& (31 : Int32)).toInt64) <<< ((58 : Int32) &&& 0x3f).toInt64)) ||| (j0 &&& (288230376151711743 : Int64)))), .second, .val (.int (own_j0_48_S0 j0 j1 i2 i3)), .val (.int (own_f4 (((own_j0_21_S0 j0 j1 i2 i3) ||| (((i2 &&& (31 : Int32)).toInt64) <<< ((58 : Int32) &&& 0x3f).toInt64)) ||| (j0 &&& (288230376151711743 : Int64))))), .unset, .unset] [(.long (31 : Int64)), (.long ((j0.toUInt64 >>> ((58 : Int32) &&& 0x3f).toInt64.toUInt64).toInt64))])) _
        refine XS.land X9.here hx rfl (hb hby at_72) rfl ?_
        show Steps p.tables e below (T9.setTop (mkF m 73 #[.val (.long j0), .second, .val (.long j1), .second, .val (.int i2), .val (.int i3), .val (.int (i2 &&& (31 : Int32))), .val (.long (((own_j0_21_S0 j0 j1 i2 i3) ||| (((i2 &&& (31 : Int32)).toInt64) <<< ((58 : Int32) &&& 0x3f).toInt64)) ||| (j0 &&& (288230376151711743 : Int64)))), .second, .val (.int (own_j0_48_S0 j0 j1 i2 i3)), .val (.int (own_f4 (((own_j0_21_S0 j0 j1 i2 i3) ||| (((i2 &&& (31 : Int32)).toInt64) <<< ((58 : Int32) &&& 0x3f).toInt64)) ||| (j0 &&& (288230376151711743 : Int64))))), .unset, .unset] [(.long (((j0.toUInt64 >>> ((58 : Int32) &&& 0x3f).toInt64.toUInt64).toInt64) &&& (31 : Int64)))])) _
        refine X9.ldc2Long hx hown (mvT hZ (hw _ (List.mem_of_getElem? (i := 28) rfl))) (g := (mkF m 73 #[.val (.long j0), .second, .val (.long j1), .second, .val (.int i2), .val (.int i3), .val (.int (i2 &&& (31 : Int32))), .val (.long (((own_j0_21_S0 j0 j1 i2 i3) ||| (((i2 &&& (31 : Int32)).toInt64) <<< ((58 : Int32) &&& 0x3f).toInt64)) ||| (j0 &&& (288230376151711743 : Int64)))), .second, .val (.int (own_j0_48_S0 j0 j1 i2 i3)), .val (.int (own_f4 (((own_j0_21_S0 j0 j1 i2 i3) ||| (((i2 &&& (31 : Int32)).toInt64) <<< ((58 : Int32) &&& 0x3f).toInt64)) ||| (j0 &&& (288230376151711743 : Int64))))), .unset, .unset] [(.long (((j0.toUInt64 >>> ((58 : Int32) &&& 0x3f).toInt64.toUInt64).toInt64) &&& (31 : Int64)))])) rfl (hb hby at_73) _ ?_
        show Steps p.tables e below (T9.setTop (mkF m 76 #[.val (.long j0), .second, .val (.long j1), .second, .val (.int i2), .val (.int i3), .val (.int (i2 &&& (31 : Int32))), .val (.long (((own_j0_21_S0 j0 j1 i2 i3) ||| (((i2 &&& (31 : Int32)).toInt64) <<< ((58 : Int32) &&& 0x3f).toInt64)) ||| (j0 &&& (288230376151711743 : Int64)))), .second, .val (.int (own_j0_48_S0 j0 j1 i2 i3)), .val (.int (own_f4 (((own_j0_21_S0 j0 j1 i2 i3) ||| (((i2 &&& (31 : Int32)).toInt64) <<< ((58 : Int32) &&& 0x3f).toInt64)) ||| (j0 &&& (288230376151711743 : Int64))))), .unset, .unset] [(.long (30 : Int64)), (.long (((j0.toUInt64 >>> ((58 : Int32) &&& 0x3f).toInt64.toUInt64).toInt64) &&& (31 : Int64)))])) _
        refine XS.lcmp X9.here hx rfl (hb hby at_76) rfl ?_
        exact kt
      by_cases hc11 : (((j0.toUInt64 >>> ((58 : Int32) &&& 0x3f).toInt64.toUInt64).toInt64) &&& (31 : Int64)) = (30 : Int64)
      · -- pc 77
        refine ownE.go (T' := T9) (f' := (mkF m 80 #[.val (.long j0), .second, .val (.long j1), .second, .val (.int i2), .val (.int i3), .val (.int (i2 &&& (31 : Int32))), .val (.long (((own_j0_21_S0 j0 j1 i2 i3) ||| (((i2 &&& (31 : Int32)).toInt64) <<< ((58 : Int32) &&& 0x3f).toInt64)) ||| (j0 &&& (288230376151711743 : Int64)))), .second, .val (.int (own_j0_48_S0 j0 j1 i2 i3)), .val (.int (own_f4 (((own_j0_21_S0 j0 j1 i2 i3) ||| (((i2 &&& (31 : Int32)).toInt64) <<< ((58 : Int32) &&& 0x3f).toInt64)) ||| (j0 &&& (288230376151711743 : Int64))))), .unset, .unset] [])) (fun t kt => XS.ifNo (g := (mkF m 77 #[.val (.long j0), .second, .val (.long j1), .second, .val (.int i2), .val (.int i3), .val (.int (i2 &&& (31 : Int32))), .val (.long (((own_j0_21_S0 j0 j1 i2 i3) ||| (((i2 &&& (31 : Int32)).toInt64) <<< ((58 : Int32) &&& 0x3f).toInt64)) ||| (j0 &&& (288230376151711743 : Int64)))), .second, .val (.int (own_j0_48_S0 j0 j1 i2 i3)), .val (.int (own_f4 (((own_j0_21_S0 j0 j1 i2 i3) ||| (((i2 &&& (31 : Int32)).toInt64) <<< ((58 : Int32) &&& 0x3f).toInt64)) ||| (j0 &&& (288230376151711743 : Int64))))), .unset, .unset] [(.int (Jvm.Free.XT.cmpL (((j0.toUInt64 >>> ((58 : Int32) &&& 0x3f).toInt64.toUInt64).toInt64) &&& (31 : Int64)) (30 : Int64)))])) X9.here hx rfl (hb hby at_77) rfl (Jvm.Free.XT.ll_ne_f hc11) kt) ?_
        refine ownE.go (T' := T9) (f' := (mkF m 85 #[.val (.long j0), .second, .val (.long j1), .second, .val (.int i2), .val (.int i3), .val (.int (i2 &&& (31 : Int32))), .val (.long (((own_j0_21_S0 j0 j1 i2 i3) ||| (((i2 &&& (31 : Int32)).toInt64) <<< ((58 : Int32) &&& 0x3f).toInt64)) ||| (j0 &&& (288230376151711743 : Int64)))), .second, .val (.int (own_j0_48_S0 j0 j1 i2 i3)), .val (.int (own_f4 (((own_j0_21_S0 j0 j1 i2 i3) ||| (((i2 &&& (31 : Int32)).toInt64) <<< ((58 : Int32) &&& 0x3f).toInt64)) ||| (j0 &&& (288230376151711743 : Int64))))), .unset, .unset] [(.int (1 : Int32))])) (fun t kt => ?_) ?_
        · show Steps p.tables e below (T9.setTop (mkF m 80 #[.val (.long j0), .second, .val (.long j1), .second, .val (.int i2), .val (.int i3), .val (.int (i2 &&& (31 : Int32))), .val (.long (((own_j0_21_S0 j0 j1 i2 i3) ||| (((i2 &&& (31 : Int32)).toInt64) <<< ((58 : Int32) &&& 0x3f).toInt64)) ||| (j0 &&& (288230376151711743 : Int64)))), .second, .val (.int (own_j0_48_S0 j0 j1 i2 i3)), .val (.int (own_f4 (((own_j0_21_S0 j0 j1 i2 i3) ||| (((i2 &&& (31 : Int32)).toInt64) <<< ((58 : Int32) &&& 0x3f).toInt64)) ||| (j0 &&& (288230376151711743 : Int64))))), .unset, .unset] [])) _
          refine XS.iconst X9.here hx rfl (hb hby at_80) ?_
          show Steps p.tables e below (T9.setTop (mkF m 81 #[.val (.long j0), .second, .val (.long j1), .second, .val (.int i2), .val (.int i3), .val (.int (i2 &&& (31 : Int32))), .val (.long (((own_j0_21_S0 j0 j1 i2 i3) ||| (((i2 &&& (31 : Int32)).toInt64) <<< ((58 : Int32) &&& 0x3f).toInt64)) ||| (j0 &&& (288230376151711743 : Int64)))), .second, .val (.int (own_j0_48_S0 j0 j1 i2 i3)), .val (.int (own_f4 (((own_j0_21_S0 j0 j1 i2 i3) ||| (((i2 &&& (31 : Int32)).toInt64) <<< ((58 : Int32) &&& 0x3f).toInt64)) ||| (j0 &&& (288230376151711743 : Int64))))), .unset, .unset] [(.int (1 : Int32))])) _
          refine XS.goto X9.here hx rfl (pc0 := 81) (pc' := 85) rfl (hb hby at_81) (by decide) (by decide) ?_
          exact kt
        have jj := J12 _ _ X9 e9 N9
        rw [show (own_j0_85_S0 j0 j1 i2 i3) = (1 : Int32) from by rw [own_j0_85_S0, if_pos hc11]] at jj
        exact jj
      · -- pc 77
        refine ownE.go (T' := T9) (f' := (mkF m 84 #[.val (.long j0), .second, .val (.long j1), .second, .val (.int i2), .val (.int i3), .val (.int (i2 &&& (31 : Int32))), .val (.long (((own_j0_21_S0 j0 j1 i2 i3) ||| (((i2 &&& (31 : Int32)).toInt64) <<< ((58 : Int32) &&& 0x3f).toInt64)) ||| (j0 &&& (288230376151711743 : Int64)))), .second, .val (.int (own_j0_48_S0 j0 j1 i2 i3)), .val (.int (own_f4 (((own_j0_21_S0 j0 j1 i2 i3) ||| (((i2 &&& (31 : Int32)).toInt64) <<< ((58 : Int32) &&& 0x3f).toInt64)) ||| (j0 &&& (288230376151711743 : Int64))))), .unset, .unset] [])) (fun t kt => XS.ifYes (g := (mkF m 77 #[.val (.long j0), .second, .val (.long j1), .second, .val (.int i2), .val (.int i3), .val (.int (i2 &&& (31 : Int32))), .val (.long (((own_j0_21_S0 j0 j1 i2 i3) ||| (((i2 &&& (31 : Int32)).toInt64) <<< ((58 : Int32) &&& 0x3f).toInt64)) ||| (j0 &&& (288230376151711743 : Int64)))), .second, .val (.int (own_j0_48_S0 j0 j1 i2 i3)), .val (.int (own_f4 (((own_j0_21_S0 j0 j1 i2 i3) ||| (((i2 &&& (31 : Int32)).toInt64) <<< ((58 : Int32) &&& 0x3f).toInt64)) ||| (j0 &&& (288230376151711743 : Int64))))), .unset, .unset] [(.int (Jvm.Free.XT.cmpL (((j0.toUInt64 >>> ((58 : Int32) &&& 0x3f).toInt64.toUInt64).toInt64) &&& (31 : Int64)) (30 : Int64)))])) X9.here hx rfl (pc0 := 77) (pc' := 84) rfl (hb hby at_77) rfl (Jvm.Free.XT.ll_ne_t hc11) (by decide) (by decide) kt) ?_
        refine ownE.go (T' := T9) (f' := (mkF m 85 #[.val (.long j0), .second, .val (.long j1), .second, .val (.int i2), .val (.int i3), .val (.int (i2 &&& (31 : Int32))), .val (.long (((own_j0_21_S0 j0 j1 i2 i3) ||| (((i2 &&& (31 : Int32)).toInt64) <<< ((58 : Int32) &&& 0x3f).toInt64)) ||| (j0 &&& (288230376151711743 : Int64)))), .second, .val (.int (own_j0_48_S0 j0 j1 i2 i3)), .val (.int (own_f4 (((own_j0_21_S0 j0 j1 i2 i3) ||| (((i2 &&& (31 : Int32)).toInt64) <<< ((58 : Int32) &&& 0x3f).toInt64)) ||| (j0 &&& (288230376151711743 : Int64))))), .unset, .unset] [(.int (0 : Int32))])) (fun t kt => ?_) ?_
        · show Steps p.tables e below (T9.setTop (mkF m 84 #[.val (.long j0), .second, .val (.long j1), .second, .val (.int i2), .val (.int i3), .val (.int (i2 &&& (31 : Int32))), .val (.long (((own_j0_21_S0 j0 j1 i2 i3) ||| (((i2 &&& (31 : Int32)).toInt64) <<< ((58 : Int32) &&& 0x3f).toInt64)) ||| (j0 &&& (288230376151711743 : Int64)))), .second, .val (.int (own_j0_48_S0 j0 j1 i2 i3)), .val (.int (own_f4 (((own_j0_21_S0 j0 j1 i2 i3) ||| (((i2 &&& (31 : Int32)).toInt64) <<< ((58 : Int32) &&& 0x3f).toInt64)) ||| (j0 &&& (288230376151711743 : Int64))))), .unset, .unset] [])) _
          refine XS.iconst X9.here hx rfl (hb hby at_84) ?_
          exact kt
        have jj := J12 _ _ X9 e9 N9
        rw [show (own_j0_85_S0 j0 j1 i2 i3) = (0 : Int32) from by rw [own_j0_85_S0, if_neg hc11]] at jj
        exact jj
    refine ownE.go (T' := TJ3) (f' := (mkF m 40 #[.val (.long j0), .second, .val (.long j1), .second, .val (.int i2), .val (.int i3), .val (.int (i2 &&& (31 : Int32))), .val (.long (((own_j0_21_S0 j0 j1 i2 i3) ||| (((i2 &&& (31 : Int32)).toInt64) <<< ((58 : Int32) &&& 0x3f).toInt64)) ||| (j0 &&& (288230376151711743 : Int64)))), .second, .unset, .unset, .unset, .unset] [(.int (30 : Int32)), (.int (i2 &&& (31 : Int32)))])) (fun t kt => ?_) ?_
    · show Steps p.tables e below (TJ3.setTop (mkF m 36 #[.val (.long j0), .second, .val (.long j1), .second, .val (.int i2), .val (.int i3), .val (.int (i2 &&& (31 : Int32))), .val (.long (((own_j0_21_S0 j0 j1 i2 i3) ||| (((i2 &&& (31 : Int32)).toInt64) <<< ((58 : Int32) &&& 0x3f).toInt64)) ||| (j0 &&& (288230376151711743 : Int64)))), .second, .unset, .unset, .unset, .unset] [])) _
      refine XS.iload XJ3.here hx rfl (hb hby at_36) rfl ?_
      show Steps p.tables e below (TJ3.setTop (mkF m 38 #[.val (.long j0), .second, .val (.long j1), .second, .val (.int i2), .val (.int i3), .val (.int (i2 &&& (31 : Int32))), .val (.long (((own_j0_21_S0 j0 j1 i2 i3) ||| (((i2 &&& (31 : Int32)).toInt64) <<< ((58 : Int32) &&& 0x3f).toInt64)) ||| (j0 &&& (288230376151711743 : Int64)))), .second, .unset, .unset, .unset, .unset] [(.int (i2 &&& (31 : Int32)))])) _
      refine XS.bipush XJ3.here hx rfl (hb hby at_38) ?_
      exact kt
    by_cases hc5 : (i2 &&& (31 : Int32)) = (30 : Int32)
    · -- pc 40
      refine ownE.go (T' := TJ3) (f' := (mkF m 43 #[.val (.long j0), .second, .val (.long j1), .second, .val (.int i2), .val (.int i3), .val (.int (i2 &&& (31 : Int32))), .val (.long (((own_j0_21_S0 j0 j1 i2 i3) ||| (((i2 &&& (31 : Int32)).toInt64) <<< ((58 : Int32) &&& 0x3f).toInt64)) ||| (j0 &&& (288230376151711743 : Int64)))), .second, .unset, .unset, .unset, .unset] [])) (fun t kt => XS.icmpNo (g := (mkF m 40 #[.val (.long j0), .second, .val (.long j1), .second, .val (.int i2), .val (.int i3), .val (.int (i2 &&& (31 : Int32))), .val (.long (((own_j0_21_S0 j0 j1 i2 i3) ||| (((i2 &&& (31 : Int32)).toInt64) <<< ((58 : Int32) &&& 0x3f).toInt64)) ||| (j0 &&& (288230376151711743 : Int64)))), .second, .unset, .unset, .unset, .unset] [(.int (30 : Int32)), (.int (i2 &&& (31 : Int32)))])) XJ3.here hx rfl (hb hby at_40) rfl (Jvm.Free.XT.ii_ne_f hc5) kt) ?_
      refine ownE.go (T' := TJ3) (f' := (mkF m 48 #[.val (.long j0), .second, .val (.long j1), .second, .val (.int i2), .val (.int i3), .val (.int (i2 &&& (31 : Int32))), .val (.long (((own_j0_21_S0 j0 j1 i2 i3) ||| (((i2 &&& (31 : Int32)).toInt64) <<< ((58 : Int32) &&& 0x3f).toInt64)) ||| (j0 &&& (288230376151711743 : Int64)))), .second, .unset, .unset, .unset, .unset] [(.int (1 : Int32))])) (fun t kt => ?_) ?_
      · show Steps p.tables e below (TJ3.setTop (mkF m 43 #[.val (.long j0), .second, .val (.long j1), .second, .val (.int i2), .val (.int i3), .val (.int (i2 &&& (31 : Int32))), .val (.long (((own_j0_21_S0 j0 j1 i2 i3) ||| (((i2 &&& (31 : Int32)).toInt64) <<< ((58 : Int32) &&& 0x3f).toInt64)) ||| (j0 &&& (288230376151711743 : Int64)))), .second, .unset, .unset, .unset, .unset] [])) _
        refine XS.iconst XJ3.here hx rfl (hb hby at_43) ?_
        show Steps p.tables e below (TJ3.setTop (mkF m 44 #[.val (.long j0), .second, .val (.long j1), .second, .val (.int i2), .val (.int i3), .val (.int (i2 &&& (31 : Int32))), .val (.long (((own_j0_21_S0 j0 j1 i2 i3) ||| (((i2 &&& (31 : Int32)).toInt64) <<< ((58 : Int32) &&& 0x3f).toInt64)) ||| (j0 &&& (288230376151711743 : Int64)))), .second, .unset, .unset, .unset, .unset] [(.int (1 : Int32))])) _
        refine XS.goto XJ3.here hx rfl (pc0 := 44) (pc' := 48) rfl (hb hby at_44) (by decide) (by decide) ?_
        exact kt
      have jj := J6 _ _ XJ3 eJ3 NJ3
      rw [show (own_j0_48_S0 j0 j1 i2 i3) = (1 : Int32) from by rw [own_j0_48_S0, if_pos hc5]] at jj
      exact jj
    · -- pc 40
      refine ownE.go (T' := TJ3) (f' := (mkF m 47 #[.val (.long j0), .second, .val (.long j1), .second, .val (.int i2), .val (.int i3), .val (.int (i2 &&& (31 : Int32))), .val (.long (((own_j0_21_S0 j0 j1 i2 i3) ||| (((i2 &&& (31 : Int32)).toInt64) <<< ((58 : Int32) &&& 0x3f).toInt64)) ||| (j0 &&& (288230376151711743 : Int64)))), .second, .unset, .unset, .unset, .unset] [])) (fun t kt => XS.icmpYes (g := (mkF m 40 #[.val (.long j0), .second, .val (.long j1), .second, .val (.int i2), .val (.int i3), .val (.int (i2 &&& (31 : Int32))), .val (.long (((own_j0_21_S0 j0 j1 i2 i3) ||| (((i2 &&& (31 : Int32)).toInt64) <<< ((58 : Int32) &&& 0x3f).toInt64)) ||| (j0 &&& (288230376151711743 : Int64)))), .second, .unset, .unset, .unset, .unset] [(.int (30 : Int32)), (.int (i2 &&& (31 : Int32)))])) XJ3.here hx rfl (pc0 := 40) (pc' := 47) rfl (hb hby at_40) rfl (Jvm.Free.XT.ii_ne_t hc5) (by decide) (by decide) kt) ?_
      refine ownE.go (T' := TJ3) (f' := (mkF m 48 #[.val (.long j0), .second, .val (.long j1), .second, .val (.int i2), .val (.int i3), .val (.int (i2 &&& (31 : Int32))), .val (.long (((own_j0_21_S0 j0 j1 i2 i3) ||| (((i2 &&& (31 : Int32)).toInt64) <<< ((58 : Int32) &&& 0x3f).toInt64)) ||| (j0 &&& (288230376151711743 : Int64)))), .second, .unset, .unset, .unset, .unset] [(.int (0 : Int32))])) (fun t kt => ?_) ?_
      · show Steps p.tables e below (TJ3.setTop (mkF m 47 #[.val (.long j0), .second, .val (.long j1), .second, .val (.int i2), .val (.int i3), .val (.int (i2 &&& (31 : Int32))), .val (.long (((own_j0_21_S0 j0 j1 i2 i3) ||| (((i2 &&& (31 : Int32)).toInt64) <<< ((58 : Int32) &&& 0x3f).toInt64)) ||| (j0 &&& (288230376151711743 : Int64)))), .second, .unset, .unset, .unset, .unset] [])) _
        refine XS.iconst XJ3.here hx rfl (hb hby at_47) ?_
        exact kt
      have jj := J6 _ _ XJ3 eJ3 NJ3
      rw [show (own_j0_48_S0 j0 j1 i2 i3) = (0 : Int32) from by rw [own_j0_48_S0, if_neg hc5]] at jj
      exact jj
  refine ownE.go (T' := s₁) (f' := (mkF m 11 #[.val (.long j0), .second, .val (.long j1), .second, .val (.int i2), .val (.int i3), .val (.int (i2 &&& (31 : Int32))), .unset, .unset, .unset, .unset, .unset, .unset] [(.int (i3 &&& (1 : Int32)))])) (fun t kt => ?_) ?_
  · show Steps p.tables e below (s₁.setTop (mkF m 7 #[.val (.long j0), .second, .val (.long j1), .second, .val (.int i2), .val (.int i3), .val (.int (i2 &&& (31 : Int32))), .unset, .unset, .unset, .unset, .unset, .unset] [])) _
    refine XS.iload X0.here hx rfl (hb hby at_7) rfl ?_
    show Steps p.tables e below (s₁.setTop (mkF m 9 #[.val (.long j0), .second, .val (.long j1), .second, .val (.int i2), .val (.int i3), .val (.int (i2 &&& (31 : Int32))), .unset, .unset, .unset, .unset, .unset, .unset] [(.int i3)])) _
    refine XS.iconst X0.here hx rfl (hb hby at_9) ?_
    show Steps p.tables e below (s₁.setTop (mkF m 10 #[.val (.long j0), .second, .val (.long j1), .second, .val (.int i2), .val (.int i3), .val (.int (i2 &&& (31 : Int32))), .unset, .unset, .unset, .unset, .unset, .unset] [(.int (1 : Int32)), (.int i3)])) _
    refine XS.iand X0.here hx rfl (hb hby at_10) rfl ?_
    exact kt
  by_cases hc2 : (i3 &&& (1 : Int32)) = (0 : Int32)
  · -- pc 11
    refine ownE.go (T' := s₁) (f' := (mkF m 20 #[.val (.long j0), .second, .val (.long j1), .second, .val (.int i2), .val (.int i3), .val (.int (i2 &&& (31 : Int32))), .unset, .unset, .unset, .unset, .unset, .unset] [])) (fun t kt => XS.ifYes (g := (mkF m 11 #[.val (.long j0), .second, .val (.long j1), .second, .val (.int i2), .val (.int i3), .val (.int (i2 &&& (31 : Int32))), .unset, .unset, .unset, .unset, .unset, .unset] [(.int (i3 &&& (1 : Int32)))])) X0.here hx rfl (pc0 := 11) (pc' := 20) rfl (hb hby at_11) rfl (Jvm.Free.XT.i0_eq_t hc2) (by decide) (by decide) kt) ?_
    refine ownE.go (T' := s₁) (f' := (mkF m 21 #[.val (.long j0), .second, .val (.long j1), .second, .val (.int i2), .val (.int i3), .val (.int (i2 &&& (31 : Int32))), .unset, .unset, .unset, .unset, .unset, .unset] [(.long (0 : Int64))])) (fun t kt => ?_) ?_
    · show Steps p.tables e below (s₁.setTop (mkF m 20 #[.val (.long j0), .second, .val (.long j1), .second, .val (.int i2), .val (.int i3), .val (.int (i2 &&& (31 : Int32))), .unset, .unset, .unset, .unset, .unset, .unset] [])) _
      refine XS.lconst X0.here hx rfl (hb hby at_20) ?_
      exact kt
    have jj := J3 _ _ X0 e0 N0
    rw [show (own_j0_21_S0 j0 j1 i2 i3) = (0 : Int64) from by rw [own_j0_21_S0, if_pos hc2]] at jj
    exact jj
  · -- pc 11
    refine ownE.go (T' := s₁) (f' := (mkF m 14 #[.val (.long j0), .second, .val (.long j1), .second, .val (.int i2), .val (.int i3), .val (.int (i2 &&& (31 : Int32))), .unset, .unset, .unset, .unset, .unset, .unset] [])) (fun t kt => XS.ifNo (g := (mkF m 11 #[.val (.long j0), .second, .val (.long j1), .second, .val (.int i2), .val (.int i3), .val (.int (i2 &&& (31 : Int32))), .unset, .unset, .unset, .unset, .unset, .unset] [(.int (i3 &&& (1 : Int32)))])) X0.here hx rfl (hb hby at_11) rfl (Jvm.Free.XT.i0_eq_f hc2) kt) ?_
    refine ownE.go (T' := s₁) (f' := (mkF m 21 #[.val (.long j0), .second, .val (.long j1), .second, .val (.int i2), .val (.int i3), .val (.int (i2 &&& (31 : Int32))), .unset, .unset, .unset, .unset, .unset, .unset] [(.long (-9223372036854775808 : Int64))])) (fun t kt => ?_) ?_
    · show Steps p.tables e below (s₁.setTop (mkF m 14 #[.val (.long j0), .second, .val (.long j1), .second, .val (.int i2), .val (.int i3), .val (.int (i2 &&& (31 : Int32))), .unset, .unset, .unset, .unset, .unset, .unset] [])) _
      refine X0.ldc2Long hx hown (mvT hZ (hw _ (List.mem_of_getElem? (i := 0) rfl))) (g := (mkF m 14 #[.val (.long j0), .second, .val (.long j1), .second, .val (.int i2), .val (.int i3), .val (.int (i2 &&& (31 : Int32))), .unset, .unset, .unset, .unset, .unset, .unset] [])) rfl (hb hby at_14) _ ?_
      show Steps p.tables e below (s₁.setTop (mkF m 17 #[.val (.long j0), .second, .val (.long j1), .second, .val (.int i2), .val (.int i3), .val (.int (i2 &&& (31 : Int32))), .unset, .unset, .unset, .unset, .unset, .unset] [(.long (-9223372036854775808 : Int64))])) _
      refine XS.goto X0.here hx rfl (pc0 := 17) (pc' := 21) rfl (hb hby at_17) (by decide) (by decide) ?_
      exact kt
    have jj := J3 _ _ X0 e0 N0
    rw [show (own_j0_21_S0 j0 j1 i2 i3) = (-9223372036854775808 : Int64) from by rw [own_j0_21_S0, if_neg hc2]] at jj
    exact jj
theorem own_and_shl (n m k : Nat) : n &&& (m <<< k) = ((n >>> k) &&& m) <<< k := by
  apply Nat.eq_of_testBit_eq
  intro i
  simp only [Nat.testBit_and, Nat.testBit_shiftLeft, Nat.testBit_shiftRight]
  by_cases h : k ≤ i
  · have e : k + (i - k) = i := by omega
    simp [h, e]
  · simp [h]
theorem own_ushr58 (h : Int64) : ((h.toUInt64 >>> ((58 : Int32) &&& 0x3f).toInt64.toUInt64).toInt64).toBitVec.toNat = h.toBitVec.toNat >>> 58 := by
  show (h.toUInt64 >>> ((58 : Int32) &&& 0x3f).toInt64.toUInt64).toBitVec.toNat = _
  rw [UInt64.toBitVec_shiftRight]
  have e : ((((58 : Int32) &&& 0x3f).toInt64.toUInt64).toBitVec % 64#64) = 58#64 := by decide
  rw [show (64 : BitVec 64) = 64#64 from rfl, e]
  rfl
theorem own_and64 (a b : Int64) : (a &&& b).toBitVec.toNat = a.toBitVec.toNat &&& b.toBitVec.toNat := by
  rw [Int64.toBitVec_and, BitVec.toNat_and]
theorem own_eq64 (a b : Int64) : a = b ↔ a.toBitVec.toNat = b.toBitVec.toNat := by
  rw [← BitVec.toNat_inj.symm, Int64.toBitVec_inj]
/-- the five bits above bit 58 -/
theorem own_five (h K V v : Int64) (hK : K.toBitVec.toNat = 31 <<< 58) (hV : V.toBitVec.toNat = v.toBitVec.toNat <<< 58) : (h &&& K = V) ↔ (((h.toUInt64 >>> ((58 : Int32) &&& 0x3f).toInt64.toUInt64).toInt64) &&& (31 : Int64) = v) := by
  rw [own_eq64, own_eq64, own_and64, own_and64, own_ushr58, hK, hV, own_and_shl]
  have e : (31 : Int64).toBitVec.toNat = 31 := by decide
  rw [e]
  generalize (h.toBitVec.toNat >>> 58) &&& 31 = q
  rw [Nat.shiftLeft_eq, Nat.shiftLeft_eq]
  omega
theorem own_raw (h : Int64) : own_f4 h = if ((((h.toUInt64 >>> ((58 : Int32) &&& 0x3f).toInt64.toUInt64).toInt64) &&& (31 : Int64)) = (30 : Int64)) then (1 : Int32) else (0 : Int32) := by
  unfold own_f4
  have q := own_five h 8935141660703064064 8646911284551352320 30 (by decide) (by decide)
  by_cases e : h &&& (8935141660703064064 : Int64) = 8646911284551352320
  · rw [if_pos e, if_pos (q.mp e)]
  · rw [if_neg e, if_neg (fun z => e (q.mpr z))]
theorem own_or64 (a b : Int64) : (a ||| b).toBitVec.toNat = a.toBitVec.toNat ||| b.toBitVec.toNat := by
  rw [Int64.toBitVec_or, BitVec.toNat_or]
theorem own_built (s : Int64) (hs : s = 0 ∨ s = -9223372036854775808) (f : Int32) (r : Int64) (hf : 0 ≤ f.toInt ∧ f.toInt < 32) :
    (((((s ||| (f.toInt64 <<< ((58 : Int32) &&& 0x3f).toInt64)) ||| (r &&& (288230376151711743 : Int64))).toUInt64 >>> ((58 : Int32) &&& 0x3f).toInt64.toUInt64).toInt64) &&& (31 : Int64)).toBitVec.toNat = f.toInt.toNat := by
  rw [own_and64, own_ushr58, own_or64, own_or64, own_and64]
  have e : (31 : Int64).toBitVec.toNat = 31 := by decide
  have e2 : (288230376151711743 : Int64).toBitVec.toNat = 288230376151711743 := by decide
  have e3 : (f.toInt64 <<< ((58 : Int32) &&& 0x3f).toInt64).toBitVec.toNat = f.toInt.toNat <<< 58 := by
    have hh := c_lshl f.toInt64 58 58 (by decide)
    have hi := c_i2l f
    have hn : (f.toInt64 <<< ((58 : Int32) &&& 0x3f).toInt64).toInt = (f.toInt64 <<< ((58 : Int32) &&& 0x3f).toInt64).toBitVec.toInt := rfl
    generalize f.toInt64 <<< ((58 : Int32) &&& 0x3f).toInt64 = z at hh hn ⊢
    have hz := z.toBitVec.isLt
    rw [BitVec.toInt_eq_toNat_cond] at hn
    rw [Nat.shiftLeft_eq]
    have p : ((2 ^ 58 : Nat) : Int) = 288230376151711744 := by decide
    have p2 : (2 : Nat) ^ 58 = 288230376151711744 := by decide
    have p3 : (2 : Nat) ^ 64 = 18446744073709551616 := by decide
    rw [hi, p] at hh
    rw [p2]
    rw [p3] at hz hn
    split at hn <;> omega
  rw [e, e2, e3]
  have g : f.toInt.toNat < 32 := by omega
  generalize f.toInt.toNat = n at g ⊢
  have hr : r.toBitVec.toNat &&& 288230376151711743 < 2 ^ 58 := Nat.lt_of_le_of_lt Nat.and_le_right (by decide)
  generalize r.toBitVec.toNat &&& 288230376151711743 = q at hr ⊢
  rw [Nat.shiftRight_or_distrib, Nat.shiftRight_or_distrib]
  have h1 : q >>> 58 = 0 := by rw [Nat.shiftRight_eq_div_pow]; exact Nat.div_eq_of_lt hr
  have h2 : (n <<< 58) >>> 58 = n := by rw [Nat.shiftLeft_shiftRight]
  have h3 : s.toBitVec.toNat >>> 58 = 0 ∨ s.toBitVec.toNat >>> 58 = 32 := by
    rcases hs with rfl | rfl
    · left; decide
    · right; decide
  rw [h1, h2]
  have h4 : n &&& 31 = n := by
    rw [show (31 : Nat) = 2 ^ 5 - 1 from rfl, Nat.and_two_pow_sub_one_eq_mod]
    exact Nat.mod_eq_of_lt g
  rcases h3 with h3 | h3
  · rw [h3]; simp [h4]
  · rw [h3, Nat.or_zero, Nat.and_or_distrib_right, h4]; simp
theorem own_law (a b : Int64) (c d : Int32) : own_f0 a b c d = 1 := by
  have hs : own_j0_21_S0 a b c d = 0 ∨ own_j0_21_S0 a b c d = -9223372036854775808 := by
    unfold own_j0_21_S0
    split
    · exact Or.inl rfl
    · exact Or.inr rfl
  have hf : 0 ≤ (c &&& (31 : Int32)).toInt ∧ (c &&& (31 : Int32)).toInt < 32 := by
    have h := c_mask c 31 5 (by decide) (by decide)
    have p : ((2 ^ 5 : Nat) : Int) = 32 := by decide
    rw [h, p]
    omega
  have w := own_built (own_j0_21_S0 a b c d) hs (c &&& (31 : Int32)) a hf
  unfold own_f0
  rw [own_raw, own_raw]
  unfold own_j0_48_S0 own_j0_85_S0
  rw [if_pos, if_pos rfl]
  generalize (((own_j0_21_S0 a b c d ||| (c &&& (31 : Int32)).toInt64 <<< ((58 : Int32) &&& 0x3f).toInt64 ||| a &&& (288230376151711743 : Int64)).toUInt64 >>> ((58 : Int32) &&& 0x3f).toInt64.toUInt64).toInt64) &&& (31 : Int64) = z at w ⊢
  have k : z = 30 ↔ c &&& (31 : Int32) = 30 := by
    rw [own_eq64, ← Int32.toInt_inj, w]
    have e1 : (30 : Int64).toBitVec.toNat = 30 := by decide
    have e2 : (30 : Int32).toInt = 30 := by decide
    rw [e1, e2]
    omega
  by_cases e : z = 30
  · rw [if_pos e, if_pos (k.mp e)]
  · rw [if_neg e, if_neg (fun q => e (k.mpr q))]

set_option maxRecDepth 65536 in
set_option maxHeartbeats 40000000 in
theorem comes_1 {Post : Tables → Env → Array Value → State → Outcome → State → Prop} (hpost : ∀ tb e args s v u, (limb_1_1.after args s (.returned v) u = true ∧ limb_1_2.after args s (.returned v) u = true ∧ True) → FrameEnd s (.returned v) u (Jvm.fieldLocs frame_1_writes args s ++ Jvm.arrayLocs frame_1_arrays args s ++ Jvm.staticLocs frame_1_statics s) 16 128 → Post tb e args s (.returned v) u) :
    ArmFor flags0 classFile x code maxLocals ret World_1 tables_1 room_1 Calls_1 rest_1 Pre_1 Post := by
  intro l hfl _ _ p e ha hc hk s m args below hf hA hF happ hP
  obtain ⟨hcalls, hrest, hpre⟩ := hP
  obtain ⟨-, -, -, hnamed, -, -, -, hat⟩ := (Spec.applies_iff hf).mp happ
  obtain ⟨hg, hn⟩ := and_e (Cond.before_iff.mp (show (Jvm.Cond.and given_1 narrow_1).before args s = true from hpre))
  obtain ⟨g1, g2⟩ := and_e hg
  obtain ⟨g3, g4⟩ := and_e g2
  obtain ⟨g5, g6⟩ := and_e g4
  obtain ⟨g7, g8⟩ := and_e g6
  obtain ⟨w0, w1, w2, w3, rfl⟩ : ∃ w0 w1 w2 w3 : Value, args = #[w0, w1, w2, w3] := by
    have hs : args.size = 4 := by simpa [Cond.value, given_1] using g1
    obtain ⟨L⟩ := args
    match L, hs with
    | [w0, w1, w2, w3], _ => exact ⟨w0, w1, w2, w3, rfl⟩
  have hw := fun d (hd : d ∈ tables_1) => atoms_spec (ws := Jvm.Cond.code x code maxLocals ret :: tables_1) hat d (List.mem_cons_of_mem _ hd)
  have hfit : Fit s := fun {y c} hc i hi => by
    obtain ⟨ha, rfl⟩ := Array.getElem?_eq_some_iff.mp hc
    have q := List.all_eq_true.mp ((Array.all_eq_true_iff_forall_mem.mp hF) _ (Array.getElem_mem ha)) i (List.mem_range.mpr hi)
    simpa [Array.getElem?_eq_getElem hi] using q
  obtain ⟨i0, ei0⟩ := isL_v g3
  obtain rfl : w0 = (.long i0) := Option.some.inj ei0
  obtain ⟨i1, ei1⟩ := isL_v g5
  obtain rfl : w1 = (.long i1) := Option.some.inj ei1
  obtain ⟨i2, ei2⟩ := is_v g7
  obtain rfl : w2 = (.int i2) := Option.some.inj ei2
  obtain ⟨i3, ei3⟩ := is_v g8
  obtain rfl : w3 = (.int i3) := Option.some.inj ei3
  obtain ⟨n, o, h1, h2, h3, _, L, rfl, ⟨rfl, N, -⟩, hq⟩ := own_rm0 l s _ hw tables_1 i0 i1 i2 i3  s.heap s.heap.size (Nat.le_refl _)  p e ha hc hk s m _ below hf ((Spec.applies_iff_loose hf).mp happ).1 ⟨rfl, State.Warmed39.refl s, rfl⟩ trivial
  refine ⟨n, _, h1, h2, h3, hpost _ _ _ _ _ _ ⟨Cond.after_iff.mpr rfl, Cond.after_iff.mpr (eq_i res_at (Term.int_eval (1)) (congrArg Value.int (own_law i0 i1 i2 i3))), trivial⟩ ⟨hq.1, hq.2.1, (hq.2.2.sift fun y hy => Or.inr (N y hy)).mono (by decide) (by decide)⟩⟩
theorem main_1_1 : Claimed_1_1 := comes_1 fun _ _ _ _ _ _ h hF => ⟨h.1, hF⟩
theorem main_1_2 : Claimed_1_2 := comes_1 fun _ _ _ _ _ _ h hF => ⟨h.2.1, hF⟩
end Jvm.Pilot.@@N@@
namespace Jvm.Pilot.@@N@@
open Jvm Jvm.ClassFile Sem Op Lib Jvm.Free Jvm.Stand Jvm.Pilot.@@N@@.Jvm.D
/-! MADE BY PROGRAM (witnessworld.py) out of the Statement's table words and the real class files: 11 classes; the members and pool entries that the words name. The judged class is class 1, her method 1. -/
namespace start1
open Jvm.ClassFile
def u (s : String) : CpInfo := .utf8 (stringToUtf16 s)
/-- a pool by its gaps: so many unusable entries, then the entry; so many at the end -/
def gap : Nat → List CpInfo → List CpInfo
  | 0, r => r
  | n + 1, r => .unusable :: gap n r
def poolList (es : List (Nat × CpInfo)) (last : Nat) : List CpInfo := es.foldr (fun e r => gap e.1 (e.2 :: r)) (gap last [])
def pool (es : List (Nat × CpInfo)) (last : Nat) : Array CpInfo := ⟨poolList es last⟩
def fileOf (pool : Array CpInfo) (this : Nat) (attrs : Array Attribute := #[]) (ms : Array MethodInfo := #[]) (fl : Nat := 33) (sup : Nat := 0) (ifs : Array Nat := #[]) (fds : Array FieldInfo := #[]) : ClassFile where
  minorVersion := 0
  majorVersion := 65
  constantPool := pool
  accessFlags := fl
  thisClass := this
  superClass := sup
  interfaces := ifs
  fields := fds
  methods := ms
  attributes := attrs
def plain (name : String) (sup : Option ClassId) : Class where
  name := name
  kind := .ordinary
  loader := none
  accessFlags := 33
  super := sup
  interfaces := #[]
  cf := none
  fields := #[]
  methods := #[]
  instanceTypes := #[]
  staticTypes := #[]
  resolved := #[]
  callSites := []
  init := .initialized
  statics := none
  mirror := none

def pool0 : Array CpInfo := pool [(5, u "<init>"), (0, u "()V"), (1, .class_ 10), (1, u "java/lang/Object")] 113

def k0c0 : Code := { maxStack := 0, maxLocals := 1, code := object_method_1_code, exceptionTable := #[], attributes := #[] }
def k0m0 : Method := { name := "<init>", desc := "()V", sig := { parameters := [], returnType := none }, accessFlags := 1, code := some k0c0 }
/-- java/lang/Object -/
def k0 : Class := { plain "java/lang/Object" none with
  accessFlags := 33
  interfaces := #[]
  cf := some (fileOf pool0 8 #[] #[{ accessFlags := 1, nameIndex := 5, descriptorIndex := 6, attributes := #[] }] 33 0 #[] #[])
  fields := #[]
  methods := #[k0m0]
  instanceTypes := #[]
  staticTypes := #[]
  resolved := Array.replicate 124 none
  statics := none }

def pool1 : Array CpInfo := pool [(2, .class_ 4), (1, u "java/lang/Object"), (0, u "<init>"), (0, u "()V"), (2, .long 9223372036854775808), (1, .class_ 12), (0, u "com/example/marrow/marrow/BsonDecimal128IsInfinitePinLaw"), (0, .long 288230376151711743), (1, .class_ 16), (0, u "com/example/marrow/marrow/BsonDecimal128"), (0, .methodref 15 18), (0, .nameAndType 5 19), (0, u "(JJ)V"), (0, .methodref 15 21), (0, .nameAndType 22 23), (0, u "isInfinite"), (0, u "()Z"), (0, .long 31), (1, .long 30), (1, u "REST_MASK"), (0, u "J"), (3, u "law"), (0, u "(JJII)Z")] 3

def k1m0 : Method := { name := "<init>", desc := "()V", sig := { parameters := [], returnType := none }, accessFlags := 1, code := none }
def k1c1 : Code := { maxStack := 6, maxLocals := 13, code := code, exceptionTable := #[], attributes := #[] }
def k1m1 : Method := { name := "law", desc := "(JJII)Z", sig := { parameters := [.long, .long, .int, .int], returnType := some .boolean }, accessFlags := 9, code := some k1c1 }
/-- com/example/marrow/marrow/BsonDecimal128IsInfinitePinLaw -/
def k1 : Class := { plain "com/example/marrow/marrow/BsonDecimal128IsInfinitePinLaw" (some 0) with
  accessFlags := 49
  interfaces := #[]
  cf := some (fileOf pool1 11 #[] #[{ accessFlags := 1, nameIndex := 5, descriptorIndex := 6, attributes := #[] }, { accessFlags := 9, nameIndex := 33, descriptorIndex := 34, attributes := #[] }] 49 2 #[] #[{ accessFlags := 26, nameIndex := 28, descriptorIndex := 29, attributes := #[] }])
  fields := #[{ name := "REST_MASK", type := .long, accessFlags := 26, slot := 0, constantValue := 0 }]
  methods := #[k1m0, k1m1]
  instanceTypes := #[]
  staticTypes := #[.long]
  resolved := Array.replicate 38 none
  statics := none }

def pool2 : Array CpInfo := pool [(1, .methodref 2 3), (0, .class_ 4), (0, .nameAndType 5 6), (0, u "java/lang/Object"), (0, u "<init>"), (0, u "()V"), (0, .class_ 8), (0, u "java/lang/Record")] 13

def k2c0 : Code := { maxStack := 1, maxLocals := 1, code := jdk_30_method_1_code, exceptionTable := #[], attributes := #[] }
def k2m0 : Method := { name := "<init>", desc := "()V", sig := { parameters := [], returnType := none }, accessFlags := 4, code := some k2c0 }
/-- java/lang/Record -/
def k2 : Class := { plain "java/lang/Record" (some 0) with
  accessFlags := 1057
  interfaces := #[]
  cf := some (fileOf pool2 7 #[] #[{ accessFlags := 4, nameIndex := 5, descriptorIndex := 6, attributes := #[] }] 1057 2 #[] #[])
  fields := #[]
  methods := #[k2m0]
  instanceTypes := #[]
  staticTypes := #[]
  resolved := Array.replicate 22 none
  statics := none }

def pool3 : Array CpInfo := pool [(1, .class_ 2), (0, u "com/example/marrow/marrow/BsonValue"), (0, .class_ 4), (0, u "java/lang/Object")] 47

/-- com/example/marrow/marrow/BsonValue -/
def k3 : Class := { plain "com/example/marrow/marrow/BsonValue" (some 0) with
  accessFlags := 1537
  interfaces := #[]
  cf := some (fileOf pool3 1 #[] #[] 1537 3 #[] #[])
  fields := #[]
  methods := #[]
  instanceTypes := #[]
  staticTypes := #[]
  resolved := Array.replicate 52 none
  statics := none }

def pool4 : Array CpInfo := pool [(1, .class_ 2), (0, u "com/example/marrow/marrow/BsonDecimal128"), (2, .methodref 6 7), (0, .class_ 8), (0, .nameAndType 9 10), (0, u "java/lang/Record"), (0, u "<init>"), (0, u "()V"), (0, .fieldref 1 12), (0, .nameAndType 13 14), (0, u "high"), (0, u "J"), (0, .fieldref 1 16), (0, .nameAndType 17 14), (0, u "low"), (40, .long 8935141660703064064), (3, u "(JJ)V"), (4, .long 8646911284551352320), (33, u "()Z"), (2, u "isInfinite"), (41, u "Ljava/math/BigInteger;"), (20, u "MAX_COEFFICIENT"), (101, .class_ 270), (0, u "com/example/marrow/marrow/BsonValue"), (0, u "MIN_EXPONENT"), (0, u "I"), (2, u "MAX_EXPONENT"), (1, u "MAX_DIGITS"), (1, u "BIAS"), (1, u "SIGN"), (0, u "SPECIAL"), (0, u "INFINITY"), (0, u "NAN"), (0, u "SHIFTED"), (0, u "EXPONENT_AT"), (1, u "SHIFTED_EXPONENT_AT"), (1, u "EXPONENT_MASK"), (0, u "COEFFICIENT_MASK"), (0, u "EXPONENT_LIMIT")] 48

def k4c0 : Code := { maxStack := 3, maxLocals := 5, code := prog_9_method_1_code, exceptionTable := #[], attributes := #[] }
def k4m0 : Method := { name := "<init>", desc := "(JJ)V", sig := { parameters := [.long, .long], returnType := none }, accessFlags := 1, code := some k4c0 }
def k4c1 : Code := { maxStack := 4, maxLocals := 1, code := prog_9_method_5_code, exceptionTable := #[], attributes := #[] }
def k4m1 : Method := { name := "isInfinite", desc := "()Z", sig := { parameters := [], returnType := some .boolean }, accessFlags := 1, code := some k4c1 }
/-- com/example/marrow/marrow/BsonDecimal128 -/
def k4 : Class := { plain "com/example/marrow/marrow/BsonDecimal128" (some 2) with
  accessFlags := 49
  interfaces := #[3]
  cf := some (fileOf pool4 1 #[] #[{ accessFlags := 1, nameIndex := 9, descriptorIndex := 62, attributes := #[] }, { accessFlags := 1, nameIndex := 104, descriptorIndex := 101, attributes := #[] }] 49 6 #[269] #[{ accessFlags := 18, nameIndex := 13, descriptorIndex := 14, attributes := #[] }, { accessFlags := 18, nameIndex := 17, descriptorIndex := 14, attributes := #[] }, { accessFlags := 25, nameIndex := 271, descriptorIndex := 272, attributes := #[] }, { accessFlags := 25, nameIndex := 275, descriptorIndex := 272, attributes := #[] }, { accessFlags := 26, nameIndex := 277, descriptorIndex := 272, attributes := #[] }, { accessFlags := 26, nameIndex := 167, descriptorIndex := 146, attributes := #[] }, { accessFlags := 26, nameIndex := 279, descriptorIndex := 272, attributes := #[] }, { accessFlags := 26, nameIndex := 281, descriptorIndex := 14, attributes := #[] }, { accessFlags := 26, nameIndex := 282, descriptorIndex := 14, attributes := #[] }, { accessFlags := 26, nameIndex := 283, descriptorIndex := 14, attributes := #[] }, { accessFlags := 26, nameIndex := 284, descriptorIndex := 14, attributes := #[] }, { accessFlags := 26, nameIndex := 285, descriptorIndex := 14, attributes := #[] }, { accessFlags := 26, nameIndex := 286, descriptorIndex := 272, attributes := #[] }, { accessFlags := 26, nameIndex := 288, descriptorIndex := 272, attributes := #[] }, { accessFlags := 26, nameIndex := 290, descriptorIndex := 14, attributes := #[] }, { accessFlags := 26, nameIndex := 291, descriptorIndex := 14, attributes := #[] }, { accessFlags := 26, nameIndex := 292, descriptorIndex := 14, attributes := #[] }])
  fields := #[{ name := "high", type := .long, accessFlags := 18, slot := 0, constantValue := 0 }, { name := "low", type := .long, accessFlags := 18, slot := 1, constantValue := 0 }, { name := "MIN_EXPONENT", type := .int, accessFlags := 25, slot := 0, constantValue := 0 }, { name := "MAX_EXPONENT", type := .int, accessFlags := 25, slot := 1, constantValue := 0 }, { name := "MAX_DIGITS", type := .int, accessFlags := 26, slot := 2, constantValue := 0 }, { name := "MAX_COEFFICIENT", type := (.object "java/math/BigInteger"), accessFlags := 26, slot := 3, constantValue := 0 }, { name := "BIAS", type := .int, accessFlags := 26, slot := 4, constantValue := 0 }, { name := "SIGN", type := .long, accessFlags := 26, slot := 5, constantValue := 0 }, { name := "SPECIAL", type := .long, accessFlags := 26, slot := 6, constantValue := 0 }, { name := "INFINITY", type := .long, accessFlags := 26, slot := 7, constantValue := 0 }, { name := "NAN", type := .long, accessFlags := 26, slot := 8, constantValue := 0 }, { name := "SHIFTED", type := .long, accessFlags := 26, slot := 9, constantValue := 0 }, { name := "EXPONENT_AT", type := .int, accessFlags := 26, slot := 10, constantValue := 0 }, { name := "SHIFTED_EXPONENT_AT", type := .int, accessFlags := 26, slot := 11, constantValue := 0 }, { name := "EXPONENT_MASK", type := .long, accessFlags := 26, slot := 12, constantValue := 0 }, { name := "COEFFICIENT_MASK", type := .long, accessFlags := 26, slot := 13, constantValue := 0 }, { name := "EXPONENT_LIMIT", type := .long, accessFlags := 26, slot := 14, constantValue := 0 }]
  methods := #[k4m0, k4m1]
  instanceTypes := #[.long, .long]
  staticTypes := #[.int, .int, .int, (.object "java/math/BigInteger"), .int, .long, .long, .long, .long, .long, .int, .int, .long, .long, .long]
  resolved := Array.replicate 341 none
  statics := none }

def pool5 : Array CpInfo := pool [(1, u "java/lang/Cloneable"), (0, .class_ 1), (0, u "java/lang/Object"), (0, .class_ 3)] 3

/-- java/lang/Cloneable -/
def k5 : Class := { plain "java/lang/Cloneable" (some 0) with
  accessFlags := 1537
  interfaces := #[]
  cf := some (fileOf pool5 2 #[] #[] 1537 4 #[] #[])
  fields := #[]
  methods := #[]
  instanceTypes := #[]
  staticTypes := #[]
  resolved := Array.replicate 8 none
  statics := none }

def pool6 : Array CpInfo := pool [(1, u "java/io/Serializable"), (0, .class_ 1), (0, u "java/lang/Object"), (0, .class_ 3)] 3

/-- java/io/Serializable -/
def k6 : Class := { plain "java/io/Serializable" (some 0) with
  accessFlags := 1537
  interfaces := #[]
  cf := some (fileOf pool6 2 #[] #[] 1537 4 #[] #[])
  fields := #[]
  methods := #[]
  instanceTypes := #[]
  staticTypes := #[]
  resolved := Array.replicate 8 none
  statics := none }

/-- the primitive byte -/
def k7 : Class := { plain "byte" none with kind := .primitive 'B', accessFlags := 0x411 }
/-- [B -/
def k8 : Class := { plain "[B" (some 0) with kind := .array 7 .byte, interfaces := #[5, 6], accessFlags := 1041 }

/-- the primitive int -/
def k9 : Class := { plain "int" none with kind := .primitive 'I', accessFlags := 0x411 }
/-- [I -/
def k10 : Class := { plain "[I" (some 0) with kind := .array 9 .int, interfaces := #[5, 6], accessFlags := 1041 }

def heap : Heap := #[]
def classes : Array Class := #[k0, k1, k2, k3, k4, k5, k6, k7, k8, k9, k10]
def interned : List (Array UInt16 × Addr) := []
def slotsUsed : Nat := 0
def theMethod : MethodId := ⟨1, 1⟩
def args0 : Array Value := #[.long 5, .long 5, .int 5, .int 5]
def aboutOver (below : List Frame) : State where
  vm := { classes := classes, interned := interned.toArray }
  heap := heap
  slotsUsed := slotsUsed
  threads := #[{ frames := .invoking theMethod args0 :: below }]
def below0 : List Frame := [.native { method := ⟨0, 0⟩, args := #[] }]
def about1 : State := aboutOver below0
def p0 : Program := .bare "" "" ""
def e0 : Env := launch0.env 0 0 0
theorem w_frames : about1.frames = Frame.invoking theMethod args0 :: below0 := rfl
set_option maxRecDepth 65536 in
theorem w_args : argsFit about1.vm theMethod args0 = true := by decide +kernel
set_option maxRecDepth 65536 in
theorem w_heap : heapFits about1 = true := by decide +kernel
set_option maxRecDepth 65536 in
theorem w_runnable : about1.curStatus? = some .runnable := by decide +kernel
set_option maxRecDepth 65536 in
theorem w_alone : about1.alone = true := by decide +kernel
set_option maxRecDepth 65536 in
theorem w_named : about1.methodNamed? x = some theMethod := by decide +kernel
set_option maxRecDepth 65536 in
theorem w_hears : about1.hears theMethod below0 = true := by decide +kernel
set_option maxRecDepth 65536 in
theorem w_ripe : about1.ripe theMethod args0 below0 = true := by decide +kernel
theorem w_running : about1.status = .running := rfl
set_option maxRecDepth 65536 in
theorem w_room : about1.hasRoom e0.platform room_1 = true :=
  launch0.hasRoom_least _ room_1 (by decide +kernel) (by decide +kernel) (by decide +kernel) (by decide +kernel) (by decide +kernel) (by decide +kernel)
theorem allAtoms_all (ts : List Jvm.Cond) (a : Array Jvm.Value) (st : Jvm.State) : (allAtoms ts).before a st = ts.all (fun c => c.before a st) := by
  induction ts with
  | nil => rfl
  | cons c t ih =>
    show (Jvm.Cond.and c (allAtoms t)).before a st = _
    rw [Jvm.Cond.before_and, ih, List.all_cons]
def words1 : List Jvm.Cond := Jvm.Cond.code x code maxLocals ret :: tables_1
/-- a 'code' word, met by the world's own term for the bytes: nothing is compared byte by byte -/
theorem code_word {y : MethodName} {bytes : ByteArray} {mx : Nat} {rt : Option FieldType} {a : Array Value} {s : State} {m : MethodId} {meth : Method} {c : Code} (h1 : s.methodNamed? y = some m) (h2 : s.vm.method? m = some meth) (h3 : meth.code = some c) (h4 : c.code = bytes)
    (h5 : (c.maxLocals == mx && c.exceptionTable.isEmpty && decide (c.maxStack ≤ mostOperands) && decide (meth.sig.returnType = rt) && !meth.locks && decide (parseMethodDescriptor y.desc = some meth.sig)) = true) : (Jvm.Cond.code y bytes mx rt).before a s = true := by
  simp only [Bool.and_eq_true, beq_iff_eq, Bool.not_eq_true', decide_eq_true_eq] at h5
  obtain ⟨⟨⟨⟨⟨g1, g2⟩, g3⟩, g4⟩, g5⟩, g6⟩ := h5
  simp [Cond.before, Cond.holds, Cond.value, h1, h2, h3, h4, g1, g2, g3, g4, g5, g6]
def isCode : Jvm.Cond → Bool
  | .code _ _ _ _ => true
  | _ => false
theorem all_split {L : List Jvm.Cond} {P : Jvm.Cond → Bool} (h1 : L.all (fun c => isCode c || P c) = true) (h2 : ∀ c ∈ L.filter isCode, P c = true) : L.all P = true := by
  refine List.all_eq_true.mpr fun c hc => ?_
  have h := List.all_eq_true.mp h1 c hc
  rcases Bool.eq_false_or_eq_true (isCode c) with hi | hi
  · exact h2 c (List.mem_filter.mpr ⟨hc, hi⟩)
  · simpa [hi] using h
set_option maxRecDepth 65536 in
theorem w_c0 : (Jvm.Cond.code x code maxLocals ret).before args0 about1 = true := code_word (m := ⟨1, 1⟩) (meth := k1m1) (c := k1c1) (by decide +kernel) rfl rfl rfl (by decide +kernel)
set_option maxRecDepth 65536 in
theorem w_c1 : (Jvm.Cond.code ({ cls := "com/example/marrow/marrow/BsonDecimal128", name := "<init>", desc := "(JJ)V" } : Jvm.MethodName) prog_9_method_1_code (5 : Nat) (Option.none : Option Jvm.ClassFile.FieldType)).before args0 about1 = true := code_word (m := ⟨4, 0⟩) (meth := k4m0) (c := k4c0) (by decide +kernel) rfl rfl rfl (by decide +kernel)
set_option maxRecDepth 65536 in
theorem w_c2 : (Jvm.Cond.code ({ cls := "java/lang/Record", name := "<init>", desc := "()V" } : Jvm.MethodName) jdk_30_method_1_code (1 : Nat) (Option.none : Option Jvm.ClassFile.FieldType)).before args0 about1 = true := code_word (m := ⟨2, 0⟩) (meth := k2m0) (c := k2c0) (by decide +kernel) rfl rfl rfl (by decide +kernel)
set_option maxRecDepth 65536 in
theorem w_c3 : (Jvm.Cond.code ({ cls := "java/lang/Object", name := "<init>", desc := "()V" } : Jvm.MethodName) object_method_1_code (1 : Nat) (Option.none : Option Jvm.ClassFile.FieldType)).before args0 about1 = true := code_word (m := ⟨0, 0⟩) (meth := k0m0) (c := k0c0) (by decide +kernel) rfl rfl rfl (by decide +kernel)
set_option maxRecDepth 65536 in
theorem w_c4 : (Jvm.Cond.code ({ cls := "com/example/marrow/marrow/BsonDecimal128", name := "isInfinite", desc := "()Z" } : Jvm.MethodName) prog_9_method_5_code (1 : Nat) (Option.some Jvm.ClassFile.FieldType.boolean)).before args0 about1 = true := code_word (m := ⟨4, 1⟩) (meth := k4m1) (c := k4c1) (by decide +kernel) rfl rfl rfl (by decide +kernel)
def codes1 : List Jvm.Cond := [Jvm.Cond.code x code maxLocals ret, Jvm.Cond.code ({ cls := "com/example/marrow/marrow/BsonDecimal128", name := "<init>", desc := "(JJ)V" } : Jvm.MethodName) prog_9_method_1_code (5 : Nat) (Option.none : Option Jvm.ClassFile.FieldType), Jvm.Cond.code ({ cls := "java/lang/Record", name := "<init>", desc := "()V" } : Jvm.MethodName) jdk_30_method_1_code (1 : Nat) (Option.none : Option Jvm.ClassFile.FieldType), Jvm.Cond.code ({ cls := "java/lang/Object", name := "<init>", desc := "()V" } : Jvm.MethodName) object_method_1_code (1 : Nat) (Option.none : Option Jvm.ClassFile.FieldType), Jvm.Cond.code ({ cls := "com/example/marrow/marrow/BsonDecimal128", name := "isInfinite", desc := "()Z" } : Jvm.MethodName) prog_9_method_5_code (1 : Nat) (Option.some Jvm.ClassFile.FieldType.boolean)]
set_option maxRecDepth 65536 in
theorem codes_eq : words1.filter isCode = codes1 := rfl
theorem w_codes : ∀ c ∈ words1.filter isCode, c.before args0 about1 = true := by
  rw [codes_eq]
  intro c hc
  simp only [codes1, List.mem_cons, List.not_mem_nil, or_false] at hc
  rcases hc with rfl | rfl | rfl | rfl | rfl
  · exact w_c0
  · exact w_c1
  · exact w_c2
  · exact w_c3
  · exact w_c4
set_option maxRecDepth 65536 in
theorem w_t1 : (words1.take 24).all (fun c => isCode c || c.before args0 about1) = true := by decide +kernel
set_option maxRecDepth 65536 in
theorem w_t2 : (words1.drop 24).all (fun c => isCode c || c.before args0 about1) = true := by decide +kernel
theorem w_tables : (allAtoms (Jvm.Cond.code x code maxLocals ret :: tables_1)).before args0 about1 = true := by
  rw [allAtoms_all]
  show words1.all (fun c => c.before args0 about1) = true
  refine all_split ?_ w_codes
  rw [← List.take_append_drop 24 words1, List.all_append, w_t1, w_t2]
  rfl
set_option maxRecDepth 65536 in
theorem w_case : (Jvm.Cond.and given_1 narrow_1).before args0 about1 = true := by decide +kernel
theorem w_applies : (headSpec (Jvm.Cond.code x code maxLocals ret :: tables_1) room_1).applies x e0.platform about1 = true :=
  (Spec.applies_iff w_frames).mpr ⟨w_running, w_runnable, w_alone, w_named, w_hears, w_ripe, w_room, w_tables⟩
theorem atStart : AtStart classFile x code maxLocals ret World_1 tables_1 room_1 Calls_1 rest_1 Pre_1 launch0 p0 e0 about1 theMethod args0 below0 :=
  ⟨lists_1, trivial, launch0.admits_env _ _ _, launch0.least_env, fairChoices_fair.cas, fairChoices_fair.clock, w_frames, w_args, w_heap, w_applies, trivial, trivial, w_case⟩
end start1
theorem witness_1 : WitnessClaimed_1 := ⟨start1.p0, start1.e0, start1.about1, start1.theMethod, start1.args0, start1.below0, start1.atStart⟩
end Jvm.Pilot.@@N@@
