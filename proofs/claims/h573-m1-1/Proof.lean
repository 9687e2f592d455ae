import JvmDerived
import JvmDerived.Pilot.@@N@@Statement
import JvmDerived.Pilot.@@N@@Code
set_option linter.unusedVariables false
set_option linter.unusedSimpArgs false
namespace Jvm.RoadKit
open Sem ClassFile Op Lib Jvm.Stand Jvm.Free Jvm.LawKit
section New
variable {p : Program} {l : Launch} {e : Env} {R : Room} {s : State} {m : MethodId} {args : Array Value} {below : List Frame} {meth : Method} {c : Code} {T : State} {locs : List Loc} {cells slots : Nat}
theorem retI (X : Stand p l e R s m args below meth c T locs cells slots) (hx : p.tables.exec = Jvm.exec) {pc : Nat} {Ls : Array Slot} {z : Int32} {rest : List Value} (hret : meth.sig.returnType = some .int) (hd : decode c.code pc = .ok (.ireturn, 1)) {fs : List Frame}
    (hl : ∀ (f : JFrame) (acts : List Action), f.method = m → f.locked = none → f.entered = [] → (doReturn e (T.setTop f) acts (some (.int z))).1 = T.setFrames fs) : Steps p.tables e below (T.setTop (mkF m pc Ls (.int z :: rest))) (T.setFrames fs) := by
  have hm' : T.vm.method? m = some meth := X.method'
  have hn : narrow .int (.int z) = .int z := rfl
  show Steps p.tables e below (T.setTop { method := m, pc := pc, locals := Ls, stack := _ :: rest, locked := none }) _
  jvm_step X.here [X.here.top, hx, hd, hm', hret, hn]
  first | (intro acts; rw [hl _ acts rfl rfl rfl]) | rw [hl _ _ rfl rfl rfl]
  exact Steps.refl _
end New
/-! the walk in continuation form: from the state T at the frame f the run ends by a return, as Q says -/
section Own
variable {p : Program} {l : Launch} {e : Env} {R : Room} {s : State} {m : MethodId} {args : Array Value} {below : List Frame} {meth : Method} {c : Code} {T T' : State} {locs : List Loc} {cells slots k n : Nat} {Q : Option Value → Heap → List Loc → Prop} {f f' : JFrame}
def ownE (p : Program) (e : Env) (below : List Frame) (s : State) (Q : Option Value → Heap → List Loc → Prop) (k n : Nat) (T : State) (f : JFrame) : Prop :=
  ∃ s₂ o, Steps p.tables e below (T.setTop f) s₂ ∧ s₂.status = .running ∧ Ended s₂ below o ∧ ∃ v L, o = .returned v ∧ Q v s₂.heap L ∧ FrameEnd s o s₂ L k n
theorem ownE.go (g : ∀ t, Steps p.tables e below (T'.setTop f') t → Steps p.tables e below (T.setTop f) t) (h : ownE p e below s Q k n T' f') : ownE p e below s Q k n T f := by
  obtain ⟨s₂, o, h1, r⟩ := h
  exact ⟨s₂, o, g _ h1, r⟩
theorem ownE.goS (g : Steps p.tables e below (T.setTop f) (T'.setTop f')) (h : ownE p e below s Q k n T' f') : ownE p e below s Q k n T f := by
  obtain ⟨s₂, o, h1, r⟩ := h
  exact ⟨s₂, o, g.trans h1, r⟩
theorem ownE.ret (X : Stand p l e R s m args below meth c T locs cells slots) {v : Option Value} (hlk : meth.locks = false) (hv : meth.sig.returnType = none → v = none)
    (st : ∀ fs, (∀ (f : JFrame) (acts : List Action), f.method = m → f.locked = none → f.entered = [] → (doReturn e (T.setTop f) acts v).1 = T.setFrames fs) → Steps p.tables e below (T.setTop f) (T.setFrames fs))
    (hQ : Q v T.heap locs) (hk : cells ≤ k) (hn : slots ≤ n) : ownE p e below s Q k n T f := by
  obtain ⟨fs, hr, hrun, hended, hW, hsame⟩ := X.leave (v := v) hv hlk
  exact ⟨_, _, st fs hr, hrun, hended, _, _, rfl, hQ, ⟨_, rfl⟩, hW, hsame.mono hk hn⟩
theorem ownE.retI (X : Stand p l e R s m args below meth c T locs cells slots) (hx : p.tables.exec = Jvm.exec) (hlk : meth.locks = false) {pc : Nat} {Ls : Array Slot} {z : Int32} {rest : List Value} (hret : meth.sig.returnType = some .int) (hd : decode c.code pc = .ok (.ireturn, 1))
    (hQ : Q (some (.int z)) T.heap locs) (hk : cells ≤ k) (hn : slots ≤ n) : ownE p e below s Q k n T (mkF m pc Ls (.int z :: rest)) :=
  ownE.ret X hlk (fun h => by rw [hret] at h; cases h) (fun fs hr => Jvm.RoadKit.retI X hx hret hd hr) hQ hk hn
theorem ownE.retN (X : Stand p l e R s m args below meth c T locs cells slots) (hx : p.tables.exec = Jvm.exec) (hlk : meth.locks = false) {pc : Nat} {Ls : Array Slot} {z : Int32} {rest : List Value} {t : FieldType} (hret : meth.sig.returnType = some t) (ht : t = .boolean ∨ t = .byte ∨ t = .char ∨ t = .short) (hd : decode c.code pc = .ok (.ireturn, 1))
    (hQ : Q (some (.int (nar t z))) T.heap locs) (hk : cells ≤ k) (hn : slots ≤ n) : ownE p e below s Q k n T (mkF m pc Ls (.int z :: rest)) :=
  ownE.ret X hlk (fun h => by rw [hret] at h; cases h) (fun fs hr => Jvm.RoadKit.retN X hx hret ht hd hr) hQ hk hn
theorem ownE.retL (X : Stand p l e R s m args below meth c T locs cells slots) (hx : p.tables.exec = Jvm.exec) (hlk : meth.locks = false) {pc : Nat} {Ls : Array Slot} {z : Int64} {rest : List Value} (hret : meth.sig.returnType = some .long) (hd : decode c.code pc = .ok (.lreturn, 1))
    (hQ : Q (some (.long z)) T.heap locs) (hk : cells ≤ k) (hn : slots ≤ n) : ownE p e below s Q k n T (mkF m pc Ls (.long z :: rest)) :=
  ownE.ret X hlk (fun h => by rw [hret] at h; cases h) (fun fs hr => Jvm.RoadKit.retOut X hx hret rfl (Or.inr (Or.inl ⟨rfl, rfl, z, rfl⟩)) hd hr) hQ hk hn
theorem ownE.retA (X : Stand p l e R s m args below meth c T locs cells slots) (hx : p.tables.exec = Jvm.exec) (hlk : meth.locks = false) {pc : Nat} {Ls : Array Slot} {z : Value} {rest : List Value} {t : FieldType} (hret : meth.sig.returnType = some t) (ht : t.isReference = true) (hz : z.isRef = true) (hn' : narrow t z = z) (hd : decode c.code pc = .ok (.areturn, 1))
    (hQ : Q (some z) T.heap locs) (hk : cells ≤ k) (hn : slots ≤ n) : ownE p e below s Q k n T (mkF m pc Ls (z :: rest)) :=
  ownE.ret X hlk (fun h => by rw [hret] at h; cases h) (fun fs hr => Jvm.RoadKit.retOut X hx hret hn' (Or.inr (Or.inr (Or.inr (Or.inr ⟨rfl, ht, hz⟩)))) hd hr) hQ hk hn
theorem ownE.retV (X : Stand p l e R s m args below meth c T locs cells slots) (hx : p.tables.exec = Jvm.exec) (hlk : meth.locks = false) {pc : Nat} {Ls : Array Slot} (hret : meth.sig.returnType = none) (hd : decode c.code pc = .ok (.return_, 1))
    (hQ : Q none T.heap locs) (hk : cells ≤ k) (hn : slots ≤ n) : ownE p e below s Q k n T (mkF m pc Ls []) :=
  ownE.ret X hlk (fun _ => rfl) (fun fs hr => X.returnOut hx hret hd hr) hQ hk hn
end Own
theorem own_selP {s : State} {args : Array Value} {y : MethodName} {n : Nat} (wi : (Cond.instantiable y.cls n).before args s = true) (hi : (Cond.instanceMethod y).before args s = true) (hp : s.PrivateAt y) (hy : y.cls ≠ "java/lang/invoke/MethodHandle" ∧ y.cls ≠ "java/lang/invoke/VarHandle") : (Cond.selects y.cls y y).before args s = true := by
  obtain ⟨c, k, h1, h2, -, h4, -⟩ := Cond.instantiable_spec wi
  exact selects_self_of_private h1 h2 (by simp at h4; exact h4.1) hp hi hy
end Jvm.RoadKit
namespace Jvm.Pilot.@@N@@
open Jvm Jvm.ClassFile Sem Op Lib Jvm.Free Jvm.Stand Jvm.LawKit Jvm.RoadKit Bundle Jvm.Pilot.@@N@@.Jvm.D
theorem own_d1_0 : decode prog_11_method_2_code 0 = .ok (.iconst 1, 1) := by decide +kernel
theorem own_d1_1 : decode prog_11_method_2_code 1 = .ok (.istore_n 1, 1) := by decide +kernel
theorem own_d1_2 : decode prog_11_method_2_code 2 = .ok (.iconst 0, 1) := by decide +kernel
theorem own_d1_3 : decode prog_11_method_2_code 3 = .ok (.istore_n 2, 1) := by decide +kernel
theorem own_d1_4 : decode prog_11_method_2_code 4 = .ok (.iload_n 2, 1) := by decide +kernel
theorem own_d1_5 : decode prog_11_method_2_code 5 = .ok (.aload_n 0, 1) := by decide +kernel
theorem own_d1_6 : decode prog_11_method_2_code 6 = .ok (.arraylength, 1) := by decide +kernel
theorem own_d1_7 : decode prog_11_method_2_code 7 = .ok (.if_icmp .ge 25, 3) := by decide +kernel
theorem own_d1_32 : decode prog_11_method_2_code 32 = .ok (.iload_n 1, 1) := by decide +kernel
theorem own_d1_33 : decode prog_11_method_2_code 33 = .ok (.ireturn, 1) := by decide +kernel
theorem own_pn0 : plainName "com/example/libvalise/libvalise/ZipFormat" = true := by first | (simp [plainName, overriddenIn]; done) | decide +kernel
theorem own_ef1n0 (m : MethodId) (x0 : Addr) : entryFrame m #[(.ref x0)] 3 = mkF m 0 #[.val (.ref x0), .unset, .unset] [] := by first | (simp [entryFrame, mkF, argsToLocals, Value.category]; done) | rfl
def own_asc0  : Int32 :=
  (1 : Int32)
def own_Q1n0 (Z : State) (r0 : Addr) (kk : ClassId) (h0 : Heap) (n0 : Nat) (v : Option Value) (h : Heap) (L : List Loc) : Prop := v = some (.int (1 : Int32)) ∧ Fr n0 L ∧ h = h0
set_option maxRecDepth 65536 in
set_option maxHeartbeats 40000000 in
theorem own_rm1n0 (l : Launch) (Z : State) (a0 : Array Value) (hw : ∀ d ∈ tables_1, d.before a0 Z = true) (ws : List Jvm.Cond) (r0 : Addr) (kk : ClassId) (h0 : Heap) (n0 : Nat) (Z0 : n0 ≤ h0.size) (P0 : Arv Z h0 r0 kk .byte (0 : Int32) [] (.int (0 : Int32))) :
    MetFree l (⟨"com/example/libvalise/libvalise/ZipFormat", "isAscii", "([B)Z"⟩ : MethodName) (head1 (Jvm.Cond.code (⟨"com/example/libvalise/libvalise/ZipFormat", "isAscii", "([B)Z"⟩ : MethodName) prog_11_method_2_code 3 (some .boolean) :: ws) ({ frames := 0, cells := 0, slots := 0, locals := 0 } : Room)) (fun a U => a = #[(.ref r0)] ∧ Z.Warmed39 U.vm ∧ U.heap = h0) (fun _ _ _ _ _ => True) (fun _ U o U' => ∃ v L, o = .returned v ∧ own_Q1n0 Z r0 kk h0 n0 v U'.heap L ∧ FrameEnd U o U' L ({ frames := 0, cells := 0, slots := 0, locals := 0 } : Room).cells ({ frames := 0, cells := 0, slots := 0, locals := 0 } : Room).slots) := by
  refine MetFree.of_bodySF (plainFor_of_name own_pn0) hisR ?_
  intro p e s m args below meth c s₁ Bd hml0 hP hK
  obtain ⟨rfl, hZ, hh⟩ := hP
  have hx := Bd.exec
  have hby := Bd.bytes
  have hret := Bd.returns
  have hlk := BodyLoose.notSynchronized Bd
  have hml : c.maxLocals = 3 := hml0
  have hown : s.vm.findClass "com/example/libvalise/libvalise/ZipFormat" = some m.cls := findClass_of_methodNamed Bd.named
  have hnm := (name_of_methodNamed Bd.named Bd.method).1
  have X0 : Stand p l e ({ frames := 0, cells := 0, slots := 0, locals := 0 } : Room) s m #[(.ref r0)] below meth c s₁ [] 0 0 := Stand.of_body Bd
  have e0 : s₁.heap = h0 := by rw [← hh, Bd.state]; rfl
  have N0 := Fr.nil n0
  have K0 : Keep h0 h0 [] := Keep.refl h0 _
  show ownE p e below s (own_Q1n0 Z r0 kk h0 n0) ({ frames := 0, cells := 0, slots := 0, locals := 0 } : Room).cells ({ frames := 0, cells := 0, slots := 0, locals := 0 } : Room).slots s₁ (entryFrame m #[(.ref r0)] 3)
  rw [own_ef1n0]
  refine ownE.go (T' := s₁) (f' := (mkF m 6 #[.val (.ref r0), .val (.int (1 : Int32)), .val (.int (0 : Int32))] [(.ref r0), (.int (0 : Int32))])) (fun t kt => ?_) ?_
  · show Steps p.tables e below (s₁.setTop (mkF m 0 #[.val (.ref r0), .unset, .unset] [])) _
    refine XS.iconst X0.here hx rfl (hb hby own_d1_0) ?_
    show Steps p.tables e below (s₁.setTop (mkF m 1 #[.val (.ref r0), .unset, .unset] [(.int (1 : Int32))])) _
    refine XS.istoreN X0.here hx rfl (hb hby own_d1_1) rfl (l' := #[.val (.ref r0), .val (.int (1 : Int32)), .unset]) rfl ?_
    show Steps p.tables e below (s₁.setTop (mkF m 2 #[.val (.ref r0), .val (.int (1 : Int32)), .unset] [])) _
    refine XS.iconst X0.here hx rfl (hb hby own_d1_2) ?_
    show Steps p.tables e below (s₁.setTop (mkF m 3 #[.val (.ref r0), .val (.int (1 : Int32)), .unset] [(.int (0 : Int32))])) _
    refine XS.istoreN X0.here hx rfl (hb hby own_d1_3) rfl (l' := #[.val (.ref r0), .val (.int (1 : Int32)), .val (.int (0 : Int32))]) rfl ?_
    show Steps p.tables e below (s₁.setTop (mkF m 4 #[.val (.ref r0), .val (.int (1 : Int32)), .val (.int (0 : Int32))] [])) _
    refine XS.iloadN X0.here hx rfl (hb hby own_d1_4) rfl ?_
    show Steps p.tables e below (s₁.setTop (mkF m 5 #[.val (.ref r0), .val (.int (1 : Int32)), .val (.int (0 : Int32))] [(.int (0 : Int32))])) _
    refine XS.aloadN X0.here hx rfl (hb hby own_d1_5) rfl rfl ?_
    exact kt
  obtain ⟨cl1, Ar1, q1, S1, Nn1, Hh1, G1⟩ := id P0
  refine ownE.go (T' := s₁) (f' := (mkF m 7 #[.val (.ref r0), .val (.int (1 : Int32)), .val (.int (0 : Int32))] [(.int (0 : Int32)), (.int (0 : Int32))])) (fun t kt => X0.arraylength hx (by rw [e0]; exact Ar1.1) (State.isArrayOf_alike hZ.alike Ar1.2.1) (g := (mkF m 6 #[.val (.ref r0), .val (.int (1 : Int32)), .val (.int (0 : Int32))] [(.ref r0), (.int (0 : Int32))])) rfl rfl (hb hby own_d1_6) _ (by rw [len_of S1 Nn1]; exact kt)) ?_
  refine ownE.go (T' := s₁) (f' := (mkF m 32 #[.val (.ref r0), .val (.int (1 : Int32)), .val (.int (0 : Int32))] [])) (fun t kt => XS.icmpYes (g := (mkF m 7 #[.val (.ref r0), .val (.int (1 : Int32)), .val (.int (0 : Int32))] [(.int (0 : Int32)), (.int (0 : Int32))])) X0.here hx rfl (pc0 := 7) (pc' := 32) rfl (hb hby own_d1_7) rfl (Jvm.Free.XT.ii_ge_t (by decide)) (by decide) (by decide) kt) ?_
  refine ownE.go (T' := s₁) (f' := (mkF m 33 #[.val (.ref r0), .val (.int (1 : Int32)), .val (.int (0 : Int32))] [(.int (1 : Int32))])) (fun t kt => ?_) ?_
  · show Steps p.tables e below (s₁.setTop (mkF m 32 #[.val (.ref r0), .val (.int (1 : Int32)), .val (.int (0 : Int32))] [])) _
    refine XS.iloadN X0.here hx rfl (hb hby own_d1_32) rfl ?_
    exact kt
  refine ownE.retN X0 hx hlk (t := .boolean) hret (by simp) (hb hby own_d1_33) ?_ (by decide) (by decide)
  show own_Q1n0 Z r0 kk h0 n0 _ s₁.heap _
  rw [e0]
  exact ⟨(by first | rfl | decide), N0, rfl⟩
theorem own_d1_10 : decode prog_11_method_2_code 10 = .ok (.iload_n 1, 1) := by decide +kernel
theorem own_d1_11 : decode prog_11_method_2_code 11 = .ok (.ifCond .eq 21, 3) := by decide +kernel
theorem own_d1_14 : decode prog_11_method_2_code 14 = .ok (.aload_n 0, 1) := by decide +kernel
theorem own_d1_15 : decode prog_11_method_2_code 15 = .ok (.iload_n 2, 1) := by decide +kernel
theorem own_d1_16 : decode prog_11_method_2_code 16 = .ok (.baload, 1) := by decide +kernel
theorem own_d1_17 : decode prog_11_method_2_code 17 = .ok (.ifCond .lt 7, 3) := by decide +kernel
theorem own_d1_20 : decode prog_11_method_2_code 20 = .ok (.iconst 1, 1) := by decide +kernel
theorem own_d1_21 : decode prog_11_method_2_code 21 = .ok (.goto 4, 3) := by decide +kernel
theorem own_d1_24 : decode prog_11_method_2_code 24 = .ok (.iconst 0, 1) := by decide +kernel
theorem own_d1_25 : decode prog_11_method_2_code 25 = .ok (.istore_n 1, 1) := by decide +kernel
theorem own_d1_26 : decode prog_11_method_2_code 26 = .ok (.iinc 2 1, 3) := by decide +kernel
theorem own_d1_29 : decode prog_11_method_2_code 29 = .ok (.goto (-25), 3) := by decide +kernel
theorem own_ef1n1 (m : MethodId) (x0 : Addr) : entryFrame m #[(.ref x0)] 3 = mkF m 0 #[.val (.ref x0), .unset, .unset] [] := by first | (simp [entryFrame, mkF, argsToLocals, Value.category]; done) | rfl
def own_asc1 (b0 : Int32) : Int32 :=
  if b0 < (0 : Int32) then
    (0 : Int32)
  else
    (1 : Int32)
def own_Q1n1 (Z : State) (r0 : Addr) (kk : ClassId) (b0 : Int32) (h0 : Heap) (n0 : Nat) (v : Option Value) (h : Heap) (L : List Loc) : Prop := v = some (.int (own_asc1 b0)) ∧ Fr n0 L ∧ h = h0
set_option maxRecDepth 65536 in
set_option maxHeartbeats 40000000 in
theorem own_rm1n1 (l : Launch) (Z : State) (a0 : Array Value) (hw : ∀ d ∈ tables_1, d.before a0 Z = true) (ws : List Jvm.Cond) (r0 : Addr) (kk : ClassId) (b0 : Int32) (h0 : Heap) (n0 : Nat) (Z0 : n0 ≤ h0.size) (P0 : Arv Z h0 r0 kk .byte (1 : Int32) [(.int b0)] (.int (0 : Int32))) :
    MetFree l (⟨"com/example/libvalise/libvalise/ZipFormat", "isAscii", "([B)Z"⟩ : MethodName) (head1 (Jvm.Cond.code (⟨"com/example/libvalise/libvalise/ZipFormat", "isAscii", "([B)Z"⟩ : MethodName) prog_11_method_2_code 3 (some .boolean) :: ws) ({ frames := 0, cells := 0, slots := 0, locals := 0 } : Room)) (fun a U => a = #[(.ref r0)] ∧ Z.Warmed39 U.vm ∧ U.heap = h0) (fun _ _ _ _ _ => True) (fun _ U o U' => ∃ v L, o = .returned v ∧ own_Q1n1 Z r0 kk b0 h0 n0 v U'.heap L ∧ FrameEnd U o U' L ({ frames := 0, cells := 0, slots := 0, locals := 0 } : Room).cells ({ frames := 0, cells := 0, slots := 0, locals := 0 } : Room).slots) := by
  refine MetFree.of_bodySF (plainFor_of_name own_pn0) hisR ?_
  intro p e s m args below meth c s₁ Bd hml0 hP hK
  obtain ⟨rfl, hZ, hh⟩ := hP
  have hx := Bd.exec
  have hby := Bd.bytes
  have hret := Bd.returns
  have hlk := BodyLoose.notSynchronized Bd
  have hml : c.maxLocals = 3 := hml0
  have hown : s.vm.findClass "com/example/libvalise/libvalise/ZipFormat" = some m.cls := findClass_of_methodNamed Bd.named
  have hnm := (name_of_methodNamed Bd.named Bd.method).1
  have X0 : Stand p l e ({ frames := 0, cells := 0, slots := 0, locals := 0 } : Room) s m #[(.ref r0)] below meth c s₁ [] 0 0 := Stand.of_body Bd
  have e0 : s₁.heap = h0 := by rw [← hh, Bd.state]; rfl
  have N0 := Fr.nil n0
  have K0 : Keep h0 h0 [] := Keep.refl h0 _
  show ownE p e below s (own_Q1n1 Z r0 kk b0 h0 n0) ({ frames := 0, cells := 0, slots := 0, locals := 0 } : Room).cells ({ frames := 0, cells := 0, slots := 0, locals := 0 } : Room).slots s₁ (entryFrame m #[(.ref r0)] 3)
  rw [own_ef1n1]
  refine ownE.go (T' := s₁) (f' := (mkF m 6 #[.val (.ref r0), .val (.int (1 : Int32)), .val (.int (0 : Int32))] [(.ref r0), (.int (0 : Int32))])) (fun t kt => ?_) ?_
  · show Steps p.tables e below (s₁.setTop (mkF m 0 #[.val (.ref r0), .unset, .unset] [])) _
    refine XS.iconst X0.here hx rfl (hb hby own_d1_0) ?_
    show Steps p.tables e below (s₁.setTop (mkF m 1 #[.val (.ref r0), .unset, .unset] [(.int (1 : Int32))])) _
    refine XS.istoreN X0.here hx rfl (hb hby own_d1_1) rfl (l' := #[.val (.ref r0), .val (.int (1 : Int32)), .unset]) rfl ?_
    show Steps p.tables e below (s₁.setTop (mkF m 2 #[.val (.ref r0), .val (.int (1 : Int32)), .unset] [])) _
    refine XS.iconst X0.here hx rfl (hb hby own_d1_2) ?_
    show Steps p.tables e below (s₁.setTop (mkF m 3 #[.val (.ref r0), .val (.int (1 : Int32)), .unset] [(.int (0 : Int32))])) _
    refine XS.istoreN X0.here hx rfl (hb hby own_d1_3) rfl (l' := #[.val (.ref r0), .val (.int (1 : Int32)), .val (.int (0 : Int32))]) rfl ?_
    show Steps p.tables e below (s₁.setTop (mkF m 4 #[.val (.ref r0), .val (.int (1 : Int32)), .val (.int (0 : Int32))] [])) _
    refine XS.iloadN X0.here hx rfl (hb hby own_d1_4) rfl ?_
    show Steps p.tables e below (s₁.setTop (mkF m 5 #[.val (.ref r0), .val (.int (1 : Int32)), .val (.int (0 : Int32))] [(.int (0 : Int32))])) _
    refine XS.aloadN X0.here hx rfl (hb hby own_d1_5) rfl rfl ?_
    exact kt
  obtain ⟨cl1, Ar1, q1, S1, Nn1, Hh1, G1⟩ := id P0
  refine ownE.go (T' := s₁) (f' := (mkF m 7 #[.val (.ref r0), .val (.int (1 : Int32)), .val (.int (0 : Int32))] [(.int (1 : Int32)), (.int (0 : Int32))])) (fun t kt => X0.arraylength hx (by rw [e0]; exact Ar1.1) (State.isArrayOf_alike hZ.alike Ar1.2.1) (g := (mkF m 6 #[.val (.ref r0), .val (.int (1 : Int32)), .val (.int (0 : Int32))] [(.ref r0), (.int (0 : Int32))])) rfl rfl (hb hby own_d1_6) _ (by rw [len_of S1 Nn1]; exact kt)) ?_
  refine ownE.go (T' := s₁) (f' := (mkF m 10 #[.val (.ref r0), .val (.int (1 : Int32)), .val (.int (0 : Int32))] [])) (fun t kt => XS.icmpNo (g := (mkF m 7 #[.val (.ref r0), .val (.int (1 : Int32)), .val (.int (0 : Int32))] [(.int (1 : Int32)), (.int (0 : Int32))])) X0.here hx rfl (hb hby own_d1_7) rfl (Jvm.Free.XT.ii_ge_f (by decide)) kt) ?_
  refine ownE.go (T' := s₁) (f' := (mkF m 11 #[.val (.ref r0), .val (.int (1 : Int32)), .val (.int (0 : Int32))] [(.int (1 : Int32))])) (fun t kt => ?_) ?_
  · show Steps p.tables e below (s₁.setTop (mkF m 10 #[.val (.ref r0), .val (.int (1 : Int32)), .val (.int (0 : Int32))] [])) _
    refine XS.iloadN X0.here hx rfl (hb hby own_d1_10) rfl ?_
    exact kt
  refine ownE.go (T' := s₁) (f' := (mkF m 14 #[.val (.ref r0), .val (.int (1 : Int32)), .val (.int (0 : Int32))] [])) (fun t kt => XS.ifNo (g := (mkF m 11 #[.val (.ref r0), .val (.int (1 : Int32)), .val (.int (0 : Int32))] [(.int (1 : Int32))])) X0.here hx rfl (hb hby own_d1_11) rfl (Jvm.Free.XT.i0_eq_f (by decide)) kt) ?_
  refine ownE.go (T' := s₁) (f' := (mkF m 16 #[.val (.ref r0), .val (.int (1 : Int32)), .val (.int (0 : Int32))] [(.int (0 : Int32)), (.ref r0)])) (fun t kt => ?_) ?_
  · show Steps p.tables e below (s₁.setTop (mkF m 14 #[.val (.ref r0), .val (.int (1 : Int32)), .val (.int (0 : Int32))] [])) _
    refine XS.aloadN X0.here hx rfl (hb hby own_d1_14) rfl rfl ?_
    show Steps p.tables e below (s₁.setTop (mkF m 15 #[.val (.ref r0), .val (.int (1 : Int32)), .val (.int (0 : Int32))] [(.ref r0)])) _
    refine XS.iloadN X0.here hx rfl (hb hby own_d1_15) rfl ?_
    exact kt
  obtain ⟨cl2, Ar2, q2, S2, Nn2, Hh2, G2⟩ := id P0
  refine ownE.go (T' := s₁) (f' := (mkF m 17 #[.val (.ref r0), .val (.int (1 : Int32)), .val (.int (0 : Int32))] [(.int b0)])) (fun t kt => X0.baloadBytes hx (j := (0 : Int32)) (v := (.int b0)) (by rw [e0]; exact Ar2.1) (State.isArrayOf_alike hZ.alike Ar2.2.1) Ar2.2.2 (inb_of S2 ⟨by decide, by decide⟩) (Hh2.at (inb_of S2 ⟨by decide, by decide⟩) rfl) (g := (mkF m 16 #[.val (.ref r0), .val (.int (1 : Int32)), .val (.int (0 : Int32))] [(.int (0 : Int32)), (.ref r0)])) rfl rfl (hb hby own_d1_16) _ kt) ?_
  by_cases hc3 : b0 < (0 : Int32)
  · -- pc 17
    refine ownE.go (T' := s₁) (f' := (mkF m 24 #[.val (.ref r0), .val (.int (1 : Int32)), .val (.int (0 : Int32))] [])) (fun t kt => XS.ifYes (g := (mkF m 17 #[.val (.ref r0), .val (.int (1 : Int32)), .val (.int (0 : Int32))] [(.int b0)])) X0.here hx rfl (pc0 := 17) (pc' := 24) rfl (hb hby own_d1_17) rfl (Jvm.Free.XT.i0_lt_t hc3) (by decide) (by decide) kt) ?_
    refine ownE.go (T' := s₁) (f' := (mkF m 6 #[.val (.ref r0), .val (.int (0 : Int32)), .val (.int (1 : Int32))] [(.ref r0), (.int (1 : Int32))])) (fun t kt => ?_) ?_
    · show Steps p.tables e below (s₁.setTop (mkF m 24 #[.val (.ref r0), .val (.int (1 : Int32)), .val (.int (0 : Int32))] [])) _
      refine XS.iconst X0.here hx rfl (hb hby own_d1_24) ?_
      show Steps p.tables e below (s₁.setTop (mkF m 25 #[.val (.ref r0), .val (.int (1 : Int32)), .val (.int (0 : Int32))] [(.int (0 : Int32))])) _
      refine XS.istoreN X0.here hx rfl (hb hby own_d1_25) rfl (l' := #[.val (.ref r0), .val (.int (0 : Int32)), .val (.int (0 : Int32))]) rfl ?_
      show Steps p.tables e below (s₁.setTop (mkF m 26 #[.val (.ref r0), .val (.int (0 : Int32)), .val (.int (0 : Int32))] [])) _
      refine XS.iinc X0.here hx rfl (hb hby own_d1_26) rfl (l' := #[.val (.ref r0), .val (.int (0 : Int32)), .val (.int (1 : Int32))]) rfl ?_
      show Steps p.tables e below (s₁.setTop (mkF m 29 #[.val (.ref r0), .val (.int (0 : Int32)), .val (.int (1 : Int32))] [])) _
      refine XS.goto X0.here hx rfl (pc0 := 29) (pc' := 4) rfl (hb hby own_d1_29) (by decide) (by decide) ?_
      show Steps p.tables e below (s₁.setTop (mkF m 4 #[.val (.ref r0), .val (.int (0 : Int32)), .val (.int (1 : Int32))] [])) _
      refine XS.iloadN X0.here hx rfl (hb hby own_d1_4) rfl ?_
      show Steps p.tables e below (s₁.setTop (mkF m 5 #[.val (.ref r0), .val (.int (0 : Int32)), .val (.int (1 : Int32))] [(.int (1 : Int32))])) _
      refine XS.aloadN X0.here hx rfl (hb hby own_d1_5) rfl rfl ?_
      exact kt
    obtain ⟨cl4, Ar4, q4, S4, Nn4, Hh4, G4⟩ := id P0
    refine ownE.go (T' := s₁) (f' := (mkF m 7 #[.val (.ref r0), .val (.int (0 : Int32)), .val (.int (1 : Int32))] [(.int (1 : Int32)), (.int (1 : Int32))])) (fun t kt => X0.arraylength hx (by rw [e0]; exact Ar4.1) (State.isArrayOf_alike hZ.alike Ar4.2.1) (g := (mkF m 6 #[.val (.ref r0), .val (.int (0 : Int32)), .val (.int (1 : Int32))] [(.ref r0), (.int (1 : Int32))])) rfl rfl (hb hby own_d1_6) _ (by rw [len_of S4 Nn4]; exact kt)) ?_
    refine ownE.go (T' := s₁) (f' := (mkF m 32 #[.val (.ref r0), .val (.int (0 : Int32)), .val (.int (1 : Int32))] [])) (fun t kt => XS.icmpYes (g := (mkF m 7 #[.val (.ref r0), .val (.int (0 : Int32)), .val (.int (1 : Int32))] [(.int (1 : Int32)), (.int (1 : Int32))])) X0.here hx rfl (pc0 := 7) (pc' := 32) rfl (hb hby own_d1_7) rfl (Jvm.Free.XT.ii_ge_t (by decide)) (by decide) (by decide) kt) ?_
    refine ownE.go (T' := s₁) (f' := (mkF m 33 #[.val (.ref r0), .val (.int (0 : Int32)), .val (.int (1 : Int32))] [(.int (0 : Int32))])) (fun t kt => ?_) ?_
    · show Steps p.tables e below (s₁.setTop (mkF m 32 #[.val (.ref r0), .val (.int (0 : Int32)), .val (.int (1 : Int32))] [])) _
      refine XS.iloadN X0.here hx rfl (hb hby own_d1_32) rfl ?_
      exact kt
    refine ownE.retN X0 hx hlk (t := .boolean) hret (by simp) (hb hby own_d1_33) ?_ (by decide) (by decide)
    show own_Q1n1 Z r0 kk b0 h0 n0 _ s₁.heap _
    rw [e0]
    exact ⟨(by rw [own_asc1, if_pos hc3] <;> first | rfl | decide), N0, rfl⟩
  · -- pc 17
    refine ownE.go (T' := s₁) (f' := (mkF m 20 #[.val (.ref r0), .val (.int (1 : Int32)), .val (.int (0 : Int32))] [])) (fun t kt => XS.ifNo (g := (mkF m 17 #[.val (.ref r0), .val (.int (1 : Int32)), .val (.int (0 : Int32))] [(.int b0)])) X0.here hx rfl (hb hby own_d1_17) rfl (Jvm.Free.XT.i0_lt_f hc3) kt) ?_
    refine ownE.go (T' := s₁) (f' := (mkF m 6 #[.val (.ref r0), .val (.int (1 : Int32)), .val (.int (1 : Int32))] [(.ref r0), (.int (1 : Int32))])) (fun t kt => ?_) ?_
    · show Steps p.tables e below (s₁.setTop (mkF m 20 #[.val (.ref r0), .val (.int (1 : Int32)), .val (.int (0 : Int32))] [])) _
      refine XS.iconst X0.here hx rfl (hb hby own_d1_20) ?_
      show Steps p.tables e below (s₁.setTop (mkF m 21 #[.val (.ref r0), .val (.int (1 : Int32)), .val (.int (0 : Int32))] [(.int (1 : Int32))])) _
      refine XS.goto X0.here hx rfl (pc0 := 21) (pc' := 25) rfl (hb hby own_d1_21) (by decide) (by decide) ?_
      show Steps p.tables e below (s₁.setTop (mkF m 25 #[.val (.ref r0), .val (.int (1 : Int32)), .val (.int (0 : Int32))] [(.int (1 : Int32))])) _
      refine XS.istoreN X0.here hx rfl (hb hby own_d1_25) rfl (l' := #[.val (.ref r0), .val (.int (1 : Int32)), .val (.int (0 : Int32))]) rfl ?_
      show Steps p.tables e below (s₁.setTop (mkF m 26 #[.val (.ref r0), .val (.int (1 : Int32)), .val (.int (0 : Int32))] [])) _
      refine XS.iinc X0.here hx rfl (hb hby own_d1_26) rfl (l' := #[.val (.ref r0), .val (.int (1 : Int32)), .val (.int (1 : Int32))]) rfl ?_
      show Steps p.tables e below (s₁.setTop (mkF m 29 #[.val (.ref r0), .val (.int (1 : Int32)), .val (.int (1 : Int32))] [])) _
      refine XS.goto X0.here hx rfl (pc0 := 29) (pc' := 4) rfl (hb hby own_d1_29) (by decide) (by decide) ?_
      show Steps p.tables e below (s₁.setTop (mkF m 4 #[.val (.ref r0), .val (.int (1 : Int32)), .val (.int (1 : Int32))] [])) _
      refine XS.iloadN X0.here hx rfl (hb hby own_d1_4) rfl ?_
      show Steps p.tables e below (s₁.setTop (mkF m 5 #[.val (.ref r0), .val (.int (1 : Int32)), .val (.int (1 : Int32))] [(.int (1 : Int32))])) _
      refine XS.aloadN X0.here hx rfl (hb hby own_d1_5) rfl rfl ?_
      exact kt
    obtain ⟨cl5, Ar5, q5, S5, Nn5, Hh5, G5⟩ := id P0
    refine ownE.go (T' := s₁) (f' := (mkF m 7 #[.val (.ref r0), .val (.int (1 : Int32)), .val (.int (1 : Int32))] [(.int (1 : Int32)), (.int (1 : Int32))])) (fun t kt => X0.arraylength hx (by rw [e0]; exact Ar5.1) (State.isArrayOf_alike hZ.alike Ar5.2.1) (g := (mkF m 6 #[.val (.ref r0), .val (.int (1 : Int32)), .val (.int (1 : Int32))] [(.ref r0), (.int (1 : Int32))])) rfl rfl (hb hby own_d1_6) _ (by rw [len_of S5 Nn5]; exact kt)) ?_
    refine ownE.go (T' := s₁) (f' := (mkF m 32 #[.val (.ref r0), .val (.int (1 : Int32)), .val (.int (1 : Int32))] [])) (fun t kt => XS.icmpYes (g := (mkF m 7 #[.val (.ref r0), .val (.int (1 : Int32)), .val (.int (1 : Int32))] [(.int (1 : Int32)), (.int (1 : Int32))])) X0.here hx rfl (pc0 := 7) (pc' := 32) rfl (hb hby own_d1_7) rfl (Jvm.Free.XT.ii_ge_t (by decide)) (by decide) (by decide) kt) ?_
    refine ownE.go (T' := s₁) (f' := (mkF m 33 #[.val (.ref r0), .val (.int (1 : Int32)), .val (.int (1 : Int32))] [(.int (1 : Int32))])) (fun t kt => ?_) ?_
    · show Steps p.tables e below (s₁.setTop (mkF m 32 #[.val (.ref r0), .val (.int (1 : Int32)), .val (.int (1 : Int32))] [])) _
      refine XS.iloadN X0.here hx rfl (hb hby own_d1_32) rfl ?_
      exact kt
    refine ownE.retN X0 hx hlk (t := .boolean) hret (by simp) (hb hby own_d1_33) ?_ (by decide) (by decide)
    show own_Q1n1 Z r0 kk b0 h0 n0 _ s₁.heap _
    rw [e0]
    exact ⟨(by rw [own_asc1, if_neg hc3] <;> first | rfl | decide), N0, rfl⟩
theorem own_ef1n2 (m : MethodId) (x0 : Addr) : entryFrame m #[(.ref x0)] 3 = mkF m 0 #[.val (.ref x0), .unset, .unset] [] := by first | (simp [entryFrame, mkF, argsToLocals, Value.category]; done) | rfl
def own_asc2 (b0 : Int32) (b1 : Int32) : Int32 :=
  if b0 < (0 : Int32) then
    (0 : Int32)
  else
    if b1 < (0 : Int32) then
      (0 : Int32)
    else
      (1 : Int32)
def own_Q1n2 (Z : State) (r0 : Addr) (kk : ClassId) (b0 : Int32) (b1 : Int32) (h0 : Heap) (n0 : Nat) (v : Option Value) (h : Heap) (L : List Loc) : Prop := v = some (.int (own_asc2 b0 b1)) ∧ Fr n0 L ∧ h = h0
set_option maxRecDepth 65536 in
set_option maxHeartbeats 40000000 in
theorem own_rm1n2 (l : Launch) (Z : State) (a0 : Array Value) (hw : ∀ d ∈ tables_1, d.before a0 Z = true) (ws : List Jvm.Cond) (r0 : Addr) (kk : ClassId) (b0 : Int32) (b1 : Int32) (h0 : Heap) (n0 : Nat) (Z0 : n0 ≤ h0.size) (P0 : Arv Z h0 r0 kk .byte (2 : Int32) [(.int b0), (.int b1)] (.int (0 : Int32))) :
    MetFree l (⟨"com/example/libvalise/libvalise/ZipFormat", "isAscii", "([B)Z"⟩ : MethodName) (head1 (Jvm.Cond.code (⟨"com/example/libvalise/libvalise/ZipFormat", "isAscii", "([B)Z"⟩ : MethodName) prog_11_method_2_code 3 (some .boolean) :: ws) ({ frames := 0, cells := 0, slots := 0, locals := 0 } : Room)) (fun a U => a = #[(.ref r0)] ∧ Z.Warmed39 U.vm ∧ U.heap = h0) (fun _ _ _ _ _ => True) (fun _ U o U' => ∃ v L, o = .returned v ∧ own_Q1n2 Z r0 kk b0 b1 h0 n0 v U'.heap L ∧ FrameEnd U o U' L ({ frames := 0, cells := 0, slots := 0, locals := 0 } : Room).cells ({ frames := 0, cells := 0, slots := 0, locals := 0 } : Room).slots) := by
  refine MetFree.of_bodySF (plainFor_of_name own_pn0) hisR ?_
  intro p e s m args below meth c s₁ Bd hml0 hP hK
  obtain ⟨rfl, hZ, hh⟩ := hP
  have hx := Bd.exec
  have hby := Bd.bytes
  have hret := Bd.returns
  have hlk := BodyLoose.notSynchronized Bd
  have hml : c.maxLocals = 3 := hml0
  have hown : s.vm.findClass "com/example/libvalise/libvalise/ZipFormat" = some m.cls := findClass_of_methodNamed Bd.named
  have hnm := (name_of_methodNamed Bd.named Bd.method).1
  have X0 : Stand p l e ({ frames := 0, cells := 0, slots := 0, locals := 0 } : Room) s m #[(.ref r0)] below meth c s₁ [] 0 0 := Stand.of_body Bd
  have e0 : s₁.heap = h0 := by rw [← hh, Bd.state]; rfl
  have N0 := Fr.nil n0
  have K0 : Keep h0 h0 [] := Keep.refl h0 _
  show ownE p e below s (own_Q1n2 Z r0 kk b0 b1 h0 n0) ({ frames := 0, cells := 0, slots := 0, locals := 0 } : Room).cells ({ frames := 0, cells := 0, slots := 0, locals := 0 } : Room).slots s₁ (entryFrame m #[(.ref r0)] 3)
  rw [own_ef1n2]
  refine ownE.go (T' := s₁) (f' := (mkF m 6 #[.val (.ref r0), .val (.int (1 : Int32)), .val (.int (0 : Int32))] [(.ref r0), (.int (0 : Int32))])) (fun t kt => ?_) ?_
  · show Steps p.tables e below (s₁.setTop (mkF m 0 #[.val (.ref r0), .unset, .unset] [])) _
    refine XS.iconst X0.here hx rfl (hb hby own_d1_0) ?_
    show Steps p.tables e below (s₁.setTop (mkF m 1 #[.val (.ref r0), .unset, .unset] [(.int (1 : Int32))])) _
    refine XS.istoreN X0.here hx rfl (hb hby own_d1_1) rfl (l' := #[.val (.ref r0), .val (.int (1 : Int32)), .unset]) rfl ?_
    show Steps p.tables e below (s₁.setTop (mkF m 2 #[.val (.ref r0), .val (.int (1 : Int32)), .unset] [])) _
    refine XS.iconst X0.here hx rfl (hb hby own_d1_2) ?_
    show Steps p.tables e below (s₁.setTop (mkF m 3 #[.val (.ref r0), .val (.int (1 : Int32)), .unset] [(.int (0 : Int32))])) _
    refine XS.istoreN X0.here hx rfl (hb hby own_d1_3) rfl (l' := #[.val (.ref r0), .val (.int (1 : Int32)), .val (.int (0 : Int32))]) rfl ?_
    show Steps p.tables e below (s₁.setTop (mkF m 4 #[.val (.ref r0), .val (.int (1 : Int32)), .val (.int (0 : Int32))] [])) _
    refine XS.iloadN X0.here hx rfl (hb hby own_d1_4) rfl ?_
    show Steps p.tables e below (s₁.setTop (mkF m 5 #[.val (.ref r0), .val (.int (1 : Int32)), .val (.int (0 : Int32))] [(.int (0 : Int32))])) _
    refine XS.aloadN X0.here hx rfl (hb hby own_d1_5) rfl rfl ?_
    exact kt
  obtain ⟨cl1, Ar1, q1, S1, Nn1, Hh1, G1⟩ := id P0
  refine ownE.go (T' := s₁) (f' := (mkF m 7 #[.val (.ref r0), .val (.int (1 : Int32)), .val (.int (0 : Int32))] [(.int (2 : Int32)), (.int (0 : Int32))])) (fun t kt => X0.arraylength hx (by rw [e0]; exact Ar1.1) (State.isArrayOf_alike hZ.alike Ar1.2.1) (g := (mkF m 6 #[.val (.ref r0), .val (.int (1 : Int32)), .val (.int (0 : Int32))] [(.ref r0), (.int (0 : Int32))])) rfl rfl (hb hby own_d1_6) _ (by rw [len_of S1 Nn1]; exact kt)) ?_
  refine ownE.go (T' := s₁) (f' := (mkF m 10 #[.val (.ref r0), .val (.int (1 : Int32)), .val (.int (0 : Int32))] [])) (fun t kt => XS.icmpNo (g := (mkF m 7 #[.val (.ref r0), .val (.int (1 : Int32)), .val (.int (0 : Int32))] [(.int (2 : Int32)), (.int (0 : Int32))])) X0.here hx rfl (hb hby own_d1_7) rfl (Jvm.Free.XT.ii_ge_f (by decide)) kt) ?_
  refine ownE.go (T' := s₁) (f' := (mkF m 11 #[.val (.ref r0), .val (.int (1 : Int32)), .val (.int (0 : Int32))] [(.int (1 : Int32))])) (fun t kt => ?_) ?_
  · show Steps p.tables e below (s₁.setTop (mkF m 10 #[.val (.ref r0), .val (.int (1 : Int32)), .val (.int (0 : Int32))] [])) _
    refine XS.iloadN X0.here hx rfl (hb hby own_d1_10) rfl ?_
    exact kt
  refine ownE.go (T' := s₁) (f' := (mkF m 14 #[.val (.ref r0), .val (.int (1 : Int32)), .val (.int (0 : Int32))] [])) (fun t kt => XS.ifNo (g := (mkF m 11 #[.val (.ref r0), .val (.int (1 : Int32)), .val (.int (0 : Int32))] [(.int (1 : Int32))])) X0.here hx rfl (hb hby own_d1_11) rfl (Jvm.Free.XT.i0_eq_f (by decide)) kt) ?_
  refine ownE.go (T' := s₁) (f' := (mkF m 16 #[.val (.ref r0), .val (.int (1 : Int32)), .val (.int (0 : Int32))] [(.int (0 : Int32)), (.ref r0)])) (fun t kt => ?_) ?_
  · show Steps p.tables e below (s₁.setTop (mkF m 14 #[.val (.ref r0), .val (.int (1 : Int32)), .val (.int (0 : Int32))] [])) _
    refine XS.aloadN X0.here hx rfl (hb hby own_d1_14) rfl rfl ?_
    show Steps p.tables e below (s₁.setTop (mkF m 15 #[.val (.ref r0), .val (.int (1 : Int32)), .val (.int (0 : Int32))] [(.ref r0)])) _
    refine XS.iloadN X0.here hx rfl (hb hby own_d1_15) rfl ?_
    exact kt
  obtain ⟨cl2, Ar2, q2, S2, Nn2, Hh2, G2⟩ := id P0
  refine ownE.go (T' := s₁) (f' := (mkF m 17 #[.val (.ref r0), .val (.int (1 : Int32)), .val (.int (0 : Int32))] [(.int b0)])) (fun t kt => X0.baloadBytes hx (j := (0 : Int32)) (v := (.int b0)) (by rw [e0]; exact Ar2.1) (State.isArrayOf_alike hZ.alike Ar2.2.1) Ar2.2.2 (inb_of S2 ⟨by decide, by decide⟩) (Hh2.at (inb_of S2 ⟨by decide, by decide⟩) rfl) (g := (mkF m 16 #[.val (.ref r0), .val (.int (1 : Int32)), .val (.int (0 : Int32))] [(.int (0 : Int32)), (.ref r0)])) rfl rfl (hb hby own_d1_16) _ kt) ?_
  by_cases hc3 : b0 < (0 : Int32)
  · -- pc 17
    refine ownE.go (T' := s₁) (f' := (mkF m 24 #[.val (.ref r0), .val (.int (1 : Int32)), .val (.int (0 : Int32))] [])) (fun t kt => XS.ifYes (g := (mkF m 17 #[.val (.ref r0), .val (.int (1 : Int32)), .val (.int (0 : Int32))] [(.int b0)])) X0.here hx rfl (pc0 := 17) (pc' := 24) rfl (hb hby own_d1_17) rfl (Jvm.Free.XT.i0_lt_t hc3) (by decide) (by decide) kt) ?_
    refine ownE.go (T' := s₁) (f' := (mkF m 6 #[.val (.ref r0), .val (.int (0 : Int32)), .val (.int (1 : Int32))] [(.ref r0), (.int (1 : Int32))])) (fun t kt => ?_) ?_
    · show Steps p.tables e below (s₁.setTop (mkF m 24 #[.val (.ref r0), .val (.int (1 : Int32)), .val (.int (0 : Int32))] [])) _
      refine XS.iconst X0.here hx rfl (hb hby own_d1_24) ?_
      show Steps p.tables e below (s₁.setTop (mkF m 25 #[.val (.ref r0), .val (.int (1 : Int32)), .val (.int (0 : Int32))] [(.int (0 : Int32))])) _
      refine XS.istoreN X0.here hx rfl (hb hby own_d1_25) rfl (l' := #[.val (.ref r0), .val (.int (0 : Int32)), .val (.int (0 : Int32))]) rfl ?_
      show Steps p.tables e below (s₁.setTop (mkF m 26 #[.val (.ref r0), .val (.int (0 : Int32)), .val (.int (0 : Int32))] [])) _
      refine XS.iinc X0.here hx rfl (hb hby own_d1_26) rfl (l' := #[.val (.ref r0), .val (.int (0 : Int32)), .val (.int (1 : Int32))]) rfl ?_
      show Steps p.tables e below (s₁.setTop (mkF m 29 #[.val (.ref r0), .val (.int (0 : Int32)), .val (.int (1 : Int32))] [])) _
      refine XS.goto X0.here hx rfl (pc0 := 29) (pc' := 4) rfl (hb hby own_d1_29) (by decide) (by decide) ?_
      show Steps p.tables e below (s₁.setTop (mkF m 4 #[.val (.ref r0), .val (.int (0 : Int32)), .val (.int (1 : Int32))] [])) _
      refine XS.iloadN X0.here hx rfl (hb hby own_d1_4) rfl ?_
      show Steps p.tables e below (s₁.setTop (mkF m 5 #[.val (.ref r0), .val (.int (0 : Int32)), .val (.int (1 : Int32))] [(.int (1 : Int32))])) _
      refine XS.aloadN X0.here hx rfl (hb hby own_d1_5) rfl rfl ?_
      exact kt
    obtain ⟨cl4, Ar4, q4, S4, Nn4, Hh4, G4⟩ := id P0
    refine ownE.go (T' := s₁) (f' := (mkF m 7 #[.val (.ref r0), .val (.int (0 : Int32)), .val (.int (1 : Int32))] [(.int (2 : Int32)), (.int (1 : Int32))])) (fun t kt => X0.arraylength hx (by rw [e0]; exact Ar4.1) (State.isArrayOf_alike hZ.alike Ar4.2.1) (g := (mkF m 6 #[.val (.ref r0), .val (.int (0 : Int32)), .val (.int (1 : Int32))] [(.ref r0), (.int (1 : Int32))])) rfl rfl (hb hby own_d1_6) _ (by rw [len_of S4 Nn4]; exact kt)) ?_
    refine ownE.go (T' := s₁) (f' := (mkF m 10 #[.val (.ref r0), .val (.int (0 : Int32)), .val (.int (1 : Int32))] [])) (fun t kt => XS.icmpNo (g := (mkF m 7 #[.val (.ref r0), .val (.int (0 : Int32)), .val (.int (1 : Int32))] [(.int (2 : Int32)), (.int (1 : Int32))])) X0.here hx rfl (hb hby own_d1_7) rfl (Jvm.Free.XT.ii_ge_f (by decide)) kt) ?_
    refine ownE.go (T' := s₁) (f' := (mkF m 11 #[.val (.ref r0), .val (.int (0 : Int32)), .val (.int (1 : Int32))] [(.int (0 : Int32))])) (fun t kt => ?_) ?_
    · show Steps p.tables e below (s₁.setTop (mkF m 10 #[.val (.ref r0), .val (.int (0 : Int32)), .val (.int (1 : Int32))] [])) _
      refine XS.iloadN X0.here hx rfl (hb hby own_d1_10) rfl ?_
      exact kt
    refine ownE.go (T' := s₁) (f' := (mkF m 32 #[.val (.ref r0), .val (.int (0 : Int32)), .val (.int (1 : Int32))] [])) (fun t kt => XS.ifYes (g := (mkF m 11 #[.val (.ref r0), .val (.int (0 : Int32)), .val (.int (1 : Int32))] [(.int (0 : Int32))])) X0.here hx rfl (pc0 := 11) (pc' := 32) rfl (hb hby own_d1_11) rfl (Jvm.Free.XT.i0_eq_t (by decide)) (by decide) (by decide) kt) ?_
    refine ownE.go (T' := s₁) (f' := (mkF m 33 #[.val (.ref r0), .val (.int (0 : Int32)), .val (.int (1 : Int32))] [(.int (0 : Int32))])) (fun t kt => ?_) ?_
    · show Steps p.tables e below (s₁.setTop (mkF m 32 #[.val (.ref r0), .val (.int (0 : Int32)), .val (.int (1 : Int32))] [])) _
      refine XS.iloadN X0.here hx rfl (hb hby own_d1_32) rfl ?_
      exact kt
    refine ownE.retN X0 hx hlk (t := .boolean) hret (by simp) (hb hby own_d1_33) ?_ (by decide) (by decide)
    show own_Q1n2 Z r0 kk b0 b1 h0 n0 _ s₁.heap _
    rw [e0]
    exact ⟨(by rw [own_asc2, if_pos hc3] <;> first | rfl | decide), N0, rfl⟩
  · -- pc 17
    refine ownE.go (T' := s₁) (f' := (mkF m 20 #[.val (.ref r0), .val (.int (1 : Int32)), .val (.int (0 : Int32))] [])) (fun t kt => XS.ifNo (g := (mkF m 17 #[.val (.ref r0), .val (.int (1 : Int32)), .val (.int (0 : Int32))] [(.int b0)])) X0.here hx rfl (hb hby own_d1_17) rfl (Jvm.Free.XT.i0_lt_f hc3) kt) ?_
    refine ownE.go (T' := s₁) (f' := (mkF m 6 #[.val (.ref r0), .val (.int (1 : Int32)), .val (.int (1 : Int32))] [(.ref r0), (.int (1 : Int32))])) (fun t kt => ?_) ?_
    · show Steps p.tables e below (s₁.setTop (mkF m 20 #[.val (.ref r0), .val (.int (1 : Int32)), .val (.int (0 : Int32))] [])) _
      refine XS.iconst X0.here hx rfl (hb hby own_d1_20) ?_
      show Steps p.tables e below (s₁.setTop (mkF m 21 #[.val (.ref r0), .val (.int (1 : Int32)), .val (.int (0 : Int32))] [(.int (1 : Int32))])) _
      refine XS.goto X0.here hx rfl (pc0 := 21) (pc' := 25) rfl (hb hby own_d1_21) (by decide) (by decide) ?_
      show Steps p.tables e below (s₁.setTop (mkF m 25 #[.val (.ref r0), .val (.int (1 : Int32)), .val (.int (0 : Int32))] [(.int (1 : Int32))])) _
      refine XS.istoreN X0.here hx rfl (hb hby own_d1_25) rfl (l' := #[.val (.ref r0), .val (.int (1 : Int32)), .val (.int (0 : Int32))]) rfl ?_
      show Steps p.tables e below (s₁.setTop (mkF m 26 #[.val (.ref r0), .val (.int (1 : Int32)), .val (.int (0 : Int32))] [])) _
      refine XS.iinc X0.here hx rfl (hb hby own_d1_26) rfl (l' := #[.val (.ref r0), .val (.int (1 : Int32)), .val (.int (1 : Int32))]) rfl ?_
      show Steps p.tables e below (s₁.setTop (mkF m 29 #[.val (.ref r0), .val (.int (1 : Int32)), .val (.int (1 : Int32))] [])) _
      refine XS.goto X0.here hx rfl (pc0 := 29) (pc' := 4) rfl (hb hby own_d1_29) (by decide) (by decide) ?_
      show Steps p.tables e below (s₁.setTop (mkF m 4 #[.val (.ref r0), .val (.int (1 : Int32)), .val (.int (1 : Int32))] [])) _
      refine XS.iloadN X0.here hx rfl (hb hby own_d1_4) rfl ?_
      show Steps p.tables e below (s₁.setTop (mkF m 5 #[.val (.ref r0), .val (.int (1 : Int32)), .val (.int (1 : Int32))] [(.int (1 : Int32))])) _
      refine XS.aloadN X0.here hx rfl (hb hby own_d1_5) rfl rfl ?_
      exact kt
    obtain ⟨cl5, Ar5, q5, S5, Nn5, Hh5, G5⟩ := id P0
    refine ownE.go (T' := s₁) (f' := (mkF m 7 #[.val (.ref r0), .val (.int (1 : Int32)), .val (.int (1 : Int32))] [(.int (2 : Int32)), (.int (1 : Int32))])) (fun t kt => X0.arraylength hx (by rw [e0]; exact Ar5.1) (State.isArrayOf_alike hZ.alike Ar5.2.1) (g := (mkF m 6 #[.val (.ref r0), .val (.int (1 : Int32)), .val (.int (1 : Int32))] [(.ref r0), (.int (1 : Int32))])) rfl rfl (hb hby own_d1_6) _ (by rw [len_of S5 Nn5]; exact kt)) ?_
    refine ownE.go (T' := s₁) (f' := (mkF m 10 #[.val (.ref r0), .val (.int (1 : Int32)), .val (.int (1 : Int32))] [])) (fun t kt => XS.icmpNo (g := (mkF m 7 #[.val (.ref r0), .val (.int (1 : Int32)), .val (.int (1 : Int32))] [(.int (2 : Int32)), (.int (1 : Int32))])) X0.here hx rfl (hb hby own_d1_7) rfl (Jvm.Free.XT.ii_ge_f (by decide)) kt) ?_
    refine ownE.go (T' := s₁) (f' := (mkF m 11 #[.val (.ref r0), .val (.int (1 : Int32)), .val (.int (1 : Int32))] [(.int (1 : Int32))])) (fun t kt => ?_) ?_
    · show Steps p.tables e below (s₁.setTop (mkF m 10 #[.val (.ref r0), .val (.int (1 : Int32)), .val (.int (1 : Int32))] [])) _
      refine XS.iloadN X0.here hx rfl (hb hby own_d1_10) rfl ?_
      exact kt
    refine ownE.go (T' := s₁) (f' := (mkF m 14 #[.val (.ref r0), .val (.int (1 : Int32)), .val (.int (1 : Int32))] [])) (fun t kt => XS.ifNo (g := (mkF m 11 #[.val (.ref r0), .val (.int (1 : Int32)), .val (.int (1 : Int32))] [(.int (1 : Int32))])) X0.here hx rfl (hb hby own_d1_11) rfl (Jvm.Free.XT.i0_eq_f (by decide)) kt) ?_
    refine ownE.go (T' := s₁) (f' := (mkF m 16 #[.val (.ref r0), .val (.int (1 : Int32)), .val (.int (1 : Int32))] [(.int (1 : Int32)), (.ref r0)])) (fun t kt => ?_) ?_
    · show Steps p.tables e below (s₁.setTop (mkF m 14 #[.val (.ref r0), .val (.int (1 : Int32)), .val (.int (1 : Int32))] [])) _
      refine XS.aloadN X0.here hx rfl (hb hby own_d1_14) rfl rfl ?_
      show Steps p.tables e below (s₁.setTop (mkF m 15 #[.val (.ref r0), .val (.int (1 : Int32)), .val (.int (1 : Int32))] [(.ref r0)])) _
      refine XS.iloadN X0.here hx rfl (hb hby own_d1_15) rfl ?_
      exact kt
    obtain ⟨cl6, Ar6, q6, S6, Nn6, Hh6, G6⟩ := id P0
    refine ownE.go (T' := s₁) (f' := (mkF m 17 #[.val (.ref r0), .val (.int (1 : Int32)), .val (.int (1 : Int32))] [(.int b1)])) (fun t kt => X0.baloadBytes hx (j := (1 : Int32)) (v := (.int b1)) (by rw [e0]; exact Ar6.1) (State.isArrayOf_alike hZ.alike Ar6.2.1) Ar6.2.2 (inb_of S6 ⟨by decide, by decide⟩) (Hh6.at (inb_of S6 ⟨by decide, by decide⟩) rfl) (g := (mkF m 16 #[.val (.ref r0), .val (.int (1 : Int32)), .val (.int (1 : Int32))] [(.int (1 : Int32)), (.ref r0)])) rfl rfl (hb hby own_d1_16) _ kt) ?_
    by_cases hc7 : b1 < (0 : Int32)
    · -- pc 17
      refine ownE.go (T' := s₁) (f' := (mkF m 24 #[.val (.ref r0), .val (.int (1 : Int32)), .val (.int (1 : Int32))] [])) (fun t kt => XS.ifYes (g := (mkF m 17 #[.val (.ref r0), .val (.int (1 : Int32)), .val (.int (1 : Int32))] [(.int b1)])) X0.here hx rfl (pc0 := 17) (pc' := 24) rfl (hb hby own_d1_17) rfl (Jvm.Free.XT.i0_lt_t hc7) (by decide) (by decide) kt) ?_
      refine ownE.go (T' := s₁) (f' := (mkF m 6 #[.val (.ref r0), .val (.int (0 : Int32)), .val (.int (2 : Int32))] [(.ref r0), (.int (2 : Int32))])) (fun t kt => ?_) ?_
      · show Steps p.tables e below (s₁.setTop (mkF m 24 #[.val (.ref r0), .val (.int (1 : Int32)), .val (.int (1 : Int32))] [])) _
        refine XS.iconst X0.here hx rfl (hb hby own_d1_24) ?_
        show Steps p.tables e below (s₁.setTop (mkF m 25 #[.val (.ref r0), .val (.int (1 : Int32)), .val (.int (1 : Int32))] [(.int (0 : Int32))])) _
        refine XS.istoreN X0.here hx rfl (hb hby own_d1_25) rfl (l' := #[.val (.ref r0), .val (.int (0 : Int32)), .val (.int (1 : Int32))]) rfl ?_
        show Steps p.tables e below (s₁.setTop (mkF m 26 #[.val (.ref r0), .val (.int (0 : Int32)), .val (.int (1 : Int32))] [])) _
        refine XS.iinc X0.here hx rfl (hb hby own_d1_26) rfl (l' := #[.val (.ref r0), .val (.int (0 : Int32)), .val (.int (2 : Int32))]) rfl ?_
        show Steps p.tables e below (s₁.setTop (mkF m 29 #[.val (.ref r0), .val (.int (0 : Int32)), .val (.int (2 : Int32))] [])) _
        refine XS.goto X0.here hx rfl (pc0 := 29) (pc' := 4) rfl (hb hby own_d1_29) (by decide) (by decide) ?_
        show Steps p.tables e below (s₁.setTop (mkF m 4 #[.val (.ref r0), .val (.int (0 : Int32)), .val (.int (2 : Int32))] [])) _
        refine XS.iloadN X0.here hx rfl (hb hby own_d1_4) rfl ?_
        show Steps p.tables e below (s₁.setTop (mkF m 5 #[.val (.ref r0), .val (.int (0 : Int32)), .val (.int (2 : Int32))] [(.int (2 : Int32))])) _
        refine XS.aloadN X0.here hx rfl (hb hby own_d1_5) rfl rfl ?_
        exact kt
      obtain ⟨cl8, Ar8, q8, S8, Nn8, Hh8, G8⟩ := id P0
      refine ownE.go (T' := s₁) (f' := (mkF m 7 #[.val (.ref r0), .val (.int (0 : Int32)), .val (.int (2 : Int32))] [(.int (2 : Int32)), (.int (2 : Int32))])) (fun t kt => X0.arraylength hx (by rw [e0]; exact Ar8.1) (State.isArrayOf_alike hZ.alike Ar8.2.1) (g := (mkF m 6 #[.val (.ref r0), .val (.int (0 : Int32)), .val (.int (2 : Int32))] [(.ref r0), (.int (2 : Int32))])) rfl rfl (hb hby own_d1_6) _ (by rw [len_of S8 Nn8]; exact kt)) ?_
      refine ownE.go (T' := s₁) (f' := (mkF m 32 #[.val (.ref r0), .val (.int (0 : Int32)), .val (.int (2 : Int32))] [])) (fun t kt => XS.icmpYes (g := (mkF m 7 #[.val (.ref r0), .val (.int (0 : Int32)), .val (.int (2 : Int32))] [(.int (2 : Int32)), (.int (2 : Int32))])) X0.here hx rfl (pc0 := 7) (pc' := 32) rfl (hb hby own_d1_7) rfl (Jvm.Free.XT.ii_ge_t (by decide)) (by decide) (by decide) kt) ?_
      refine ownE.go (T' := s₁) (f' := (mkF m 33 #[.val (.ref r0), .val (.int (0 : Int32)), .val (.int (2 : Int32))] [(.int (0 : Int32))])) (fun t kt => ?_) ?_
      · show Steps p.tables e below (s₁.setTop (mkF m 32 #[.val (.ref r0), .val (.int (0 : Int32)), .val (.int (2 : Int32))] [])) _
        refine XS.iloadN X0.here hx rfl (hb hby own_d1_32) rfl ?_
        exact kt
      refine ownE.retN X0 hx hlk (t := .boolean) hret (by simp) (hb hby own_d1_33) ?_ (by decide) (by decide)
      show own_Q1n2 Z r0 kk b0 b1 h0 n0 _ s₁.heap _
      rw [e0]
      exact ⟨(by rw [own_asc2, if_neg hc3, if_pos hc7] <;> first | rfl | decide), N0, rfl⟩
    · -- pc 17
      refine ownE.go (T' := s₁) (f' := (mkF m 20 #[.val (.ref r0), .val (.int (1 : Int32)), .val (.int (1 : Int32))] [])) (fun t kt => XS.ifNo (g := (mkF m 17 #[.val (.ref r0), .val (.int (1 : Int32)), .val (.int (1 : Int32))] [(.int b1)])) X0.here hx rfl (hb hby own_d1_17) rfl (Jvm.Free.XT.i0_lt_f hc7) kt) ?_
      refine ownE.go (T' := s₁) (f' := (mkF m 6 #[.val (.ref r0), .val (.int (1 : Int32)), .val (.int (2 : Int32))] [(.ref r0), (.int (2 : Int32))])) (fun t kt => ?_) ?_
      · show Steps p.tables e below (s₁.setTop (mkF m 20 #[.val (.ref r0), .val (.int (1 : Int32)), .val (.int (1 : Int32))] [])) _
        refine XS.iconst X0.here hx rfl (hb hby own_d1_20) ?_
        show Steps p.tables e below (s₁.setTop (mkF m 21 #[.val (.ref r0), .val (.int (1 : Int32)), .val (.int (1 : Int32))] [(.int (1 : Int32))])) _
        refine XS.goto X0.here hx rfl (pc0 := 21) (pc' := 25) rfl (hb hby own_d1_21) (by decide) (by decide) ?_
        show Steps p.tables e below (s₁.setTop (mkF m 25 #[.val (.ref r0), .val (.int (1 : Int32)), .val (.int (1 : Int32))] [(.int (1 : Int32))])) _
        refine XS.istoreN X0.here hx rfl (hb hby own_d1_25) rfl (l' := #[.val (.ref r0), .val (.int (1 : Int32)), .val (.int (1 : Int32))]) rfl ?_
        show Steps p.tables e below (s₁.setTop (mkF m 26 #[.val (.ref r0), .val (.int (1 : Int32)), .val (.int (1 : Int32))] [])) _
        refine XS.iinc X0.here hx rfl (hb hby own_d1_26) rfl (l' := #[.val (.ref r0), .val (.int (1 : Int32)), .val (.int (2 : Int32))]) rfl ?_
        show Steps p.tables e below (s₁.setTop (mkF m 29 #[.val (.ref r0), .val (.int (1 : Int32)), .val (.int (2 : Int32))] [])) _
        refine XS.goto X0.here hx rfl (pc0 := 29) (pc' := 4) rfl (hb hby own_d1_29) (by decide) (by decide) ?_
        show Steps p.tables e below (s₁.setTop (mkF m 4 #[.val (.ref r0), .val (.int (1 : Int32)), .val (.int (2 : Int32))] [])) _
        refine XS.iloadN X0.here hx rfl (hb hby own_d1_4) rfl ?_
        show Steps p.tables e below (s₁.setTop (mkF m 5 #[.val (.ref r0), .val (.int (1 : Int32)), .val (.int (2 : Int32))] [(.int (2 : Int32))])) _
        refine XS.aloadN X0.here hx rfl (hb hby own_d1_5) rfl rfl ?_
        exact kt
      obtain ⟨cl9, Ar9, q9, S9, Nn9, Hh9, G9⟩ := id P0
      refine ownE.go (T' := s₁) (f' := (mkF m 7 #[.val (.ref r0), .val (.int (1 : Int32)), .val (.int (2 : Int32))] [(.int (2 : Int32)), (.int (2 : Int32))])) (fun t kt => X0.arraylength hx (by rw [e0]; exact Ar9.1) (State.isArrayOf_alike hZ.alike Ar9.2.1) (g := (mkF m 6 #[.val (.ref r0), .val (.int (1 : Int32)), .val (.int (2 : Int32))] [(.ref r0), (.int (2 : Int32))])) rfl rfl (hb hby own_d1_6) _ (by rw [len_of S9 Nn9]; exact kt)) ?_
      refine ownE.go (T' := s₁) (f' := (mkF m 32 #[.val (.ref r0), .val (.int (1 : Int32)), .val (.int (2 : Int32))] [])) (fun t kt => XS.icmpYes (g := (mkF m 7 #[.val (.ref r0), .val (.int (1 : Int32)), .val (.int (2 : Int32))] [(.int (2 : Int32)), (.int (2 : Int32))])) X0.here hx rfl (pc0 := 7) (pc' := 32) rfl (hb hby own_d1_7) rfl (Jvm.Free.XT.ii_ge_t (by decide)) (by decide) (by decide) kt) ?_
      refine ownE.go (T' := s₁) (f' := (mkF m 33 #[.val (.ref r0), .val (.int (1 : Int32)), .val (.int (2 : Int32))] [(.int (1 : Int32))])) (fun t kt => ?_) ?_
      · show Steps p.tables e below (s₁.setTop (mkF m 32 #[.val (.ref r0), .val (.int (1 : Int32)), .val (.int (2 : Int32))] [])) _
        refine XS.iloadN X0.here hx rfl (hb hby own_d1_32) rfl ?_
        exact kt
      refine ownE.retN X0 hx hlk (t := .boolean) hret (by simp) (hb hby own_d1_33) ?_ (by decide) (by decide)
      show own_Q1n2 Z r0 kk b0 b1 h0 n0 _ s₁.heap _
      rw [e0]
      exact ⟨(by rw [own_asc2, if_neg hc3, if_neg hc7] <;> first | rfl | decide), N0, rfl⟩
theorem own_ef1n3 (m : MethodId) (x0 : Addr) : entryFrame m #[(.ref x0)] 3 = mkF m 0 #[.val (.ref x0), .unset, .unset] [] := by first | (simp [entryFrame, mkF, argsToLocals, Value.category]; done) | rfl
def own_asc3 (b0 : Int32) (b1 : Int32) (b2 : Int32) : Int32 :=
  if b0 < (0 : Int32) then
    (0 : Int32)
  else
    if b1 < (0 : Int32) then
      (0 : Int32)
    else
      if b2 < (0 : Int32) then
        (0 : Int32)
      else
        (1 : Int32)
def own_Q1n3 (Z : State) (r0 : Addr) (kk : ClassId) (b0 : Int32) (b1 : Int32) (b2 : Int32) (h0 : Heap) (n0 : Nat) (v : Option Value) (h : Heap) (L : List Loc) : Prop := v = some (.int (own_asc3 b0 b1 b2)) ∧ Fr n0 L ∧ h = h0
set_option maxRecDepth 65536 in
set_option maxHeartbeats 40000000 in
theorem own_rm1n3 (l : Launch) (Z : State) (a0 : Array Value) (hw : ∀ d ∈ tables_1, d.before a0 Z = true) (ws : List Jvm.Cond) (r0 : Addr) (kk : ClassId) (b0 : Int32) (b1 : Int32) (b2 : Int32) (h0 : Heap) (n0 : Nat) (Z0 : n0 ≤ h0.size) (P0 : Arv Z h0 r0 kk .byte (3 : Int32) [(.int b0), (.int b1), (.int b2)] (.int (0 : Int32))) :
    MetFree l (⟨"com/example/libvalise/libvalise/ZipFormat", "isAscii", "([B)Z"⟩ : MethodName) (head1 (Jvm.Cond.code (⟨"com/example/libvalise/libvalise/ZipFormat", "isAscii", "([B)Z"⟩ : MethodName) prog_11_method_2_code 3 (some .boolean) :: ws) ({ frames := 0, cells := 0, slots := 0, locals := 0 } : Room)) (fun a U => a = #[(.ref r0)] ∧ Z.Warmed39 U.vm ∧ U.heap = h0) (fun _ _ _ _ _ => True) (fun _ U o U' => ∃ v L, o = .returned v ∧ own_Q1n3 Z r0 kk b0 b1 b2 h0 n0 v U'.heap L ∧ FrameEnd U o U' L ({ frames := 0, cells := 0, slots := 0, locals := 0 } : Room).cells ({ frames := 0, cells := 0, slots := 0, locals := 0 } : Room).slots) := by
  refine MetFree.of_bodySF (plainFor_of_name own_pn0) hisR ?_
  intro p e s m args below meth c s₁ Bd hml0 hP hK
  obtain ⟨rfl, hZ, hh⟩ := hP
  have hx := Bd.exec
  have hby := Bd.bytes
  have hret := Bd.returns
  have hlk := BodyLoose.notSynchronized Bd
  have hml : c.maxLocals = 3 := hml0
  have hown : s.vm.findClass "com/example/libvalise/libvalise/ZipFormat" = some m.cls := findClass_of_methodNamed Bd.named
  have hnm := (name_of_methodNamed Bd.named Bd.method).1
  have X0 : Stand p l e ({ frames := 0, cells := 0, slots := 0, locals := 0 } : Room) s m #[(.ref r0)] below meth c s₁ [] 0 0 := Stand.of_body Bd
  have e0 : s₁.heap = h0 := by rw [← hh, Bd.state]; rfl
  have N0 := Fr.nil n0
  have K0 : Keep h0 h0 [] := Keep.refl h0 _
  show ownE p e below s (own_Q1n3 Z r0 kk b0 b1 b2 h0 n0) ({ frames := 0, cells := 0, slots := 0, locals := 0 } : Room).cells ({ frames := 0, cells := 0, slots := 0, locals := 0 } : Room).slots s₁ (entryFrame m #[(.ref r0)] 3)
  rw [own_ef1n3]
  refine ownE.go (T' := s₁) (f' := (mkF m 6 #[.val (.ref r0), .val (.int (1 : Int32)), .val (.int (0 : Int32))] [(.ref r0), (.int (0 : Int32))])) (fun t kt => ?_) ?_
  · show Steps p.tables e below (s₁.setTop (mkF m 0 #[.val (.ref r0), .unset, .unset] [])) _
    refine XS.iconst X0.here hx rfl (hb hby own_d1_0) ?_
    show Steps p.tables e below (s₁.setTop (mkF m 1 #[.val (.ref r0), .unset, .unset] [(.int (1 : Int32))])) _
    refine XS.istoreN X0.here hx rfl (hb hby own_d1_1) rfl (l' := #[.val (.ref r0), .val (.int (1 : Int32)), .unset]) rfl ?_
    show Steps p.tables e below (s₁.setTop (mkF m 2 #[.val (.ref r0), .val (.int (1 : Int32)), .unset] [])) _
    refine XS.iconst X0.here hx rfl (hb hby own_d1_2) ?_
    show Steps p.tables e below (s₁.setTop (mkF m 3 #[.val (.ref r0), .val (.int (1 : Int32)), .unset] [(.int (0 : Int32))])) _
    refine XS.istoreN X0.here hx rfl (hb hby own_d1_3) rfl (l' := #[.val (.ref r0), .val (.int (1 : Int32)), .val (.int (0 : Int32))]) rfl ?_
    show Steps p.tables e below (s₁.setTop (mkF m 4 #[.val (.ref r0), .val (.int (1 : Int32)), .val (.int (0 : Int32))] [])) _
    refine XS.iloadN X0.here hx rfl (hb hby own_d1_4) rfl ?_
    show Steps p.tables e below (s₁.setTop (mkF m 5 #[.val (.ref r0), .val (.int (1 : Int32)), .val (.int (0 : Int32))] [(.int (0 : Int32))])) _
    refine XS.aloadN X0.here hx rfl (hb hby own_d1_5) rfl rfl ?_
    exact kt
  obtain ⟨cl1, Ar1, q1, S1, Nn1, Hh1, G1⟩ := id P0
  refine ownE.go (T' := s₁) (f' := (mkF m 7 #[.val (.ref r0), .val (.int (1 : Int32)), .val (.int (0 : Int32))] [(.int (3 : Int32)), (.int (0 : Int32))])) (fun t kt => X0.arraylength hx (by rw [e0]; exact Ar1.1) (State.isArrayOf_alike hZ.alike Ar1.2.1) (g := (mkF m 6 #[.val (.ref r0), .val (.int (1 : Int32)), .val (.int (0 : Int32))] [(.ref r0), (.int (0 : Int32))])) rfl rfl (hb hby own_d1_6) _ (by rw [len_of S1 Nn1]; exact kt)) ?_
  refine ownE.go (T' := s₁) (f' := (mkF m 10 #[.val (.ref r0), .val (.int (1 : Int32)), .val (.int (0 : Int32))] [])) (fun t kt => XS.icmpNo (g := (mkF m 7 #[.val (.ref r0), .val (.int (1 : Int32)), .val (.int (0 : Int32))] [(.int (3 : Int32)), (.int (0 : Int32))])) X0.here hx rfl (hb hby own_d1_7) rfl (Jvm.Free.XT.ii_ge_f (by decide)) kt) ?_
  refine ownE.go (T' := s₁) (f' := (mkF m 11 #[.val (.ref r0), .val (.int (1 : Int32)), .val (.int (0 : Int32))] [(.int (1 : Int32))])) (fun t kt => ?_) ?_
  · show Steps p.tables e below (s₁.setTop (mkF m 10 #[.val (.ref r0), .val (.int (1 : Int32)), .val (.int (0 : Int32))] [])) _
    refine XS.iloadN X0.here hx rfl (hb hby own_d1_10) rfl ?_
    exact kt
  refine ownE.go (T' := s₁) (f' := (mkF m 14 #[.val (.ref r0), .val (.int (1 : Int32)), .val (.int (0 : Int32))] [])) (fun t kt => XS.ifNo (g := (mkF m 11 #[.val (.ref r0), .val (.int (1 : Int32)), .val (.int (0 : Int32))] [(.int (1 : Int32))])) X0.here hx rfl (hb hby own_d1_11) rfl (Jvm.Free.XT.i0_eq_f (by decide)) kt) ?_
  refine ownE.go (T' := s₁) (f' := (mkF m 16 #[.val (.ref r0), .val (.int (1 : Int32)), .val (.int (0 : Int32))] [(.int (0 : Int32)), (.ref r0)])) (fun t kt => ?_) ?_
  · show Steps p.tables e below (s₁.setTop (mkF m 14 #[.val (.ref r0), .val (.int (1 : Int32)), .val (.int (0 : Int32))] [])) _
    refine XS.aloadN X0.here hx rfl (hb hby own_d1_14) rfl rfl ?_
    show Steps p.tables e below (s₁.setTop (mkF m 15 #[.val (.ref r0), .val (.int (1 : Int32)), .val (.int (0 : Int32))] [(.ref r0)])) _
    refine XS.iloadN X0.here hx rfl (hb hby own_d1_15) rfl ?_
    exact kt
  obtain ⟨cl2, Ar2, q2, S2, Nn2, Hh2, G2⟩ := id P0
  refine ownE.go (T' := s₁) (f' := (mkF m 17 #[.val (.ref r0), .val (.int (1 : Int32)), .val (.int (0 : Int32))] [(.int b0)])) (fun t kt => X0.baloadBytes hx (j := (0 : Int32)) (v := (.int b0)) (by rw [e0]; exact Ar2.1) (State.isArrayOf_alike hZ.alike Ar2.2.1) Ar2.2.2 (inb_of S2 ⟨by decide, by decide⟩) (Hh2.at (inb_of S2 ⟨by decide, by decide⟩) rfl) (g := (mkF m 16 #[.val (.ref r0), .val (.int (1 : Int32)), .val (.int (0 : Int32))] [(.int (0 : Int32)), (.ref r0)])) rfl rfl (hb hby own_d1_16) _ kt) ?_
  by_cases hc3 : b0 < (0 : Int32)
  · -- pc 17
    refine ownE.go (T' := s₁) (f' := (mkF m 24 #[.val (.ref r0), .val (.int (1 : Int32)), .val (.int (0 : Int32))] [])) (fun t kt => XS.ifYes (g := (mkF m 17 #[.val (.ref r0), .val (.int (1 : Int32)), .val (.int (0 : Int32))] [(.int b0)])) X0.here hx rfl (pc0 := 17) (pc' := 24) rfl (hb hby own_d1_17) rfl (Jvm.Free.XT.i0_lt_t hc3) (by decide) (by decide) kt) ?_
    refine ownE.go (T' := s₁) (f' := (mkF m 6 #[.val (.ref r0), .val (.int (0 : Int32)), .val (.int (1 : Int32))] [(.ref r0), (.int (1 : Int32))])) (fun t kt => ?_) ?_
    · show Steps p.tables e below (s₁.setTop (mkF m 24 #[.val (.ref r0), .val (.int (1 : Int32)), .val (.int (0 : Int32))] [])) _
      refine XS.iconst X0.here hx rfl (hb hby own_d1_24) ?_
      show Steps p.tables e below (s₁.setTop (mkF m 25 #[.val (.ref r0), .val (.int (1 : Int32)), .val (.int (0 : Int32))] [(.int (0 : Int32))])) _
      refine XS.istoreN X0.here hx rfl (hb hby own_d1_25) rfl (l' := #[.val (.ref r0), .val (.int (0 : Int32)), .val (.int (0 : Int32))]) rfl ?_
      show Steps p.tables e below (s₁.setTop (mkF m 26 #[.val (.ref r0), .val (.int (0 : Int32)), .val (.int (0 : Int32))] [])) _
      refine XS.iinc X0.here hx rfl (hb hby own_d1_26) rfl (l' := #[.val (.ref r0), .val (.int (0 : Int32)), .val (.int (1 : Int32))]) rfl ?_
      show Steps p.tables e below (s₁.setTop (mkF m 29 #[.val (.ref r0), .val (.int (0 : Int32)), .val (.int (1 : Int32))] [])) _
      refine XS.goto X0.here hx rfl (pc0 := 29) (pc' := 4) rfl (hb hby own_d1_29) (by decide) (by decide) ?_
      show Steps p.tables e below (s₁.setTop (mkF m 4 #[.val (.ref r0), .val (.int (0 : Int32)), .val (.int (1 : Int32))] [])) _
      refine XS.iloadN X0.here hx rfl (hb hby own_d1_4) rfl ?_
      show Steps p.tables e below (s₁.setTop (mkF m 5 #[.val (.ref r0), .val (.int (0 : Int32)), .val (.int (1 : Int32))] [(.int (1 : Int32))])) _
      refine XS.aloadN X0.here hx rfl (hb hby own_d1_5) rfl rfl ?_
      exact kt
    obtain ⟨cl4, Ar4, q4, S4, Nn4, Hh4, G4⟩ := id P0
    refine ownE.go (T' := s₁) (f' := (mkF m 7 #[.val (.ref r0), .val (.int (0 : Int32)), .val (.int (1 : Int32))] [(.int (3 : Int32)), (.int (1 : Int32))])) (fun t kt => X0.arraylength hx (by rw [e0]; exact Ar4.1) (State.isArrayOf_alike hZ.alike Ar4.2.1) (g := (mkF m 6 #[.val (.ref r0), .val (.int (0 : Int32)), .val (.int (1 : Int32))] [(.ref r0), (.int (1 : Int32))])) rfl rfl (hb hby own_d1_6) _ (by rw [len_of S4 Nn4]; exact kt)) ?_
    refine ownE.go (T' := s₁) (f' := (mkF m 10 #[.val (.ref r0), .val (.int (0 : Int32)), .val (.int (1 : Int32))] [])) (fun t kt => XS.icmpNo (g := (mkF m 7 #[.val (.ref r0), .val (.int (0 : Int32)), .val (.int (1 : Int32))] [(.int (3 : Int32)), (.int (1 : Int32))])) X0.here hx rfl (hb hby own_d1_7) rfl (Jvm.Free.XT.ii_ge_f (by decide)) kt) ?_
    refine ownE.go (T' := s₁) (f' := (mkF m 11 #[.val (.ref r0), .val (.int (0 : Int32)), .val (.int (1 : Int32))] [(.int (0 : Int32))])) (fun t kt => ?_) ?_
    · show Steps p.tables e below (s₁.setTop (mkF m 10 #[.val (.ref r0), .val (.int (0 : Int32)), .val (.int (1 : Int32))] [])) _
      refine XS.iloadN X0.here hx rfl (hb hby own_d1_10) rfl ?_
      exact kt
    refine ownE.go (T' := s₁) (f' := (mkF m 32 #[.val (.ref r0), .val (.int (0 : Int32)), .val (.int (1 : Int32))] [])) (fun t kt => XS.ifYes (g := (mkF m 11 #[.val (.ref r0), .val (.int (0 : Int32)), .val (.int (1 : Int32))] [(.int (0 : Int32))])) X0.here hx rfl (pc0 := 11) (pc' := 32) rfl (hb hby own_d1_11) rfl (Jvm.Free.XT.i0_eq_t (by decide)) (by decide) (by decide) kt) ?_
    refine ownE.go (T' := s₁) (f' := (mkF m 33 #[.val (.ref r0), .val (.int (0 : Int32)), .val (.int (1 : Int32))] [(.int (0 : Int32))])) (fun t kt => ?_) ?_
    · show Steps p.tables e below (s₁.setTop (mkF m 32 #[.val (.ref r0), .val (.int (0 : Int32)), .val (.int (1 : Int32))] [])) _
      refine XS.iloadN X0.here hx rfl (hb hby own_d1_32) rfl ?_
      exact kt
    refine ownE.retN X0 hx hlk (t := .boolean) hret (by simp) (hb hby own_d1_33) ?_ (by decide) (by decide)
    show own_Q1n3 Z r0 kk b0 b1 b2 h0 n0 _ s₁.heap _
    rw [e0]
    exact ⟨(by rw [own_asc3, if_pos hc3] <;> first | rfl | decide), N0, rfl⟩
  · -- pc 17
    refine ownE.go (T' := s₁) (f' := (mkF m 20 #[.val (.ref r0), .val (.int (1 : Int32)), .val (.int (0 : Int32))] [])) (fun t kt => XS.ifNo (g := (mkF m 17 #[.val (.ref r0), .val (.int (1 : Int32)), .val (.int (0 : Int32))] [(.int b0)])) X0.here hx rfl (hb hby own_d1_17) rfl (Jvm.Free.XT.i0_lt_f hc3) kt) ?_
    refine ownE.go (T' := s₁) (f' := (mkF m 6 #[.val (.ref r0), .val (.int (1 : Int32)), .val (.int (1 : Int32))] [(.ref r0), (.int (1 : Int32))])) (fun t kt => ?_) ?_
    · show Steps p.tables e below (s₁.setTop (mkF m 20 #[.val (.ref r0), .val (.int (1 : Int32)), .val (.int (0 : Int32))] [])) _
      refine XS.iconst X0.here hx rfl (hb hby own_d1_20) ?_
      show Steps p.tables e below (s₁.setTop (mkF m 21 #[.val (.ref r0), .val (.int (1 : Int32)), .val (.int (0 : Int32))] [(.int (1 : Int32))])) _
      refine XS.goto X0.here hx rfl (pc0 := 21) (pc' := 25) rfl (hb hby own_d1_21) (by decide) (by decide) ?_
      show Steps p.tables e below (s₁.setTop (mkF m 25 #[.val (.ref r0), .val (.int (1 : Int32)), .val (.int (0 : Int32))] [(.int (1 : Int32))])) _
      refine XS.istoreN X0.here hx rfl (hb hby own_d1_25) rfl (l' := #[.val (.ref r0), .val (.int (1 : Int32)), .val (.int (0 : Int32))]) rfl ?_
      show Steps p.tables e below (s₁.setTop (mkF m 26 #[.val (.ref r0), .val (.int (1 : Int32)), .val (.int (0 : Int32))] [])) _
      refine XS.iinc X0.here hx rfl (hb hby own_d1_26) rfl (l' := #[.val (.ref r0), .val (.int (1 : Int32)), .val (.int (1 : Int32))]) rfl ?_
      show Steps p.tables e below (s₁.setTop (mkF m 29 #[.val (.ref r0), .val (.int (1 : Int32)), .val (.int (1 : Int32))] [])) _
      refine XS.goto X0.here hx rfl (pc0 := 29) (pc' := 4) rfl (hb hby own_d1_29) (by decide) (by decide) ?_
      show Steps p.tables e below (s₁.setTop (mkF m 4 #[.val (.ref r0), .val (.int (1 : Int32)), .val (.int (1 : Int32))] [])) _
      refine XS.iloadN X0.here hx rfl (hb hby own_d1_4) rfl ?_
      show Steps p.tables e below (s₁.setTop (mkF m 5 #[.val (.ref r0), .val (.int (1 : Int32)), .val (.int (1 : Int32))] [(.int (1 : Int32))])) _
      refine XS.aloadN X0.here hx rfl (hb hby own_d1_5) rfl rfl ?_
      exact kt
    obtain ⟨cl5, Ar5, q5, S5, Nn5, Hh5, G5⟩ := id P0
    refine ownE.go (T' := s₁) (f' := (mkF m 7 #[.val (.ref r0), .val (.int (1 : Int32)), .val (.int (1 : Int32))] [(.int (3 : Int32)), (.int (1 : Int32))])) (fun t kt => X0.arraylength hx (by rw [e0]; exact Ar5.1) (State.isArrayOf_alike hZ.alike Ar5.2.1) (g := (mkF m 6 #[.val (.ref r0), .val (.int (1 : Int32)), .val (.int (1 : Int32))] [(.ref r0), (.int (1 : Int32))])) rfl rfl (hb hby own_d1_6) _ (by rw [len_of S5 Nn5]; exact kt)) ?_
    refine ownE.go (T' := s₁) (f' := (mkF m 10 #[.val (.ref r0), .val (.int (1 : Int32)), .val (.int (1 : Int32))] [])) (fun t kt => XS.icmpNo (g := (mkF m 7 #[.val (.ref r0), .val (.int (1 : Int32)), .val (.int (1 : Int32))] [(.int (3 : Int32)), (.int (1 : Int32))])) X0.here hx rfl (hb hby own_d1_7) rfl (Jvm.Free.XT.ii_ge_f (by decide)) kt) ?_
    refine ownE.go (T' := s₁) (f' := (mkF m 11 #[.val (.ref r0), .val (.int (1 : Int32)), .val (.int (1 : Int32))] [(.int (1 : Int32))])) (fun t kt => ?_) ?_
    · show Steps p.tables e below (s₁.setTop (mkF m 10 #[.val (.ref r0), .val (.int (1 : Int32)), .val (.int (1 : Int32))] [])) _
      refine XS.iloadN X0.here hx rfl (hb hby own_d1_10) rfl ?_
      exact kt
    refine ownE.go (T' := s₁) (f' := (mkF m 14 #[.val (.ref r0), .val (.int (1 : Int32)), .val (.int (1 : Int32))] [])) (fun t kt => XS.ifNo (g := (mkF m 11 #[.val (.ref r0), .val (.int (1 : Int32)), .val (.int (1 : Int32))] [(.int (1 : Int32))])) X0.here hx rfl (hb hby own_d1_11) rfl (Jvm.Free.XT.i0_eq_f (by decide)) kt) ?_
    refine ownE.go (T' := s₁) (f' := (mkF m 16 #[.val (.ref r0), .val (.int (1 : Int32)), .val (.int (1 : Int32))] [(.int (1 : Int32)), (.ref r0)])) (fun t kt => ?_) ?_
    · show Steps p.tables e below (s₁.setTop (mkF m 14 #[.val (.ref r0), .val (.int (1 : Int32)), .val (.int (1 : Int32))] [])) _
      refine XS.aloadN X0.here hx rfl (hb hby own_d1_14) rfl rfl ?_
      show Steps p.tables e below (s₁.setTop (mkF m 15 #[.val (.ref r0), .val (.int (1 : Int32)), .val (.int (1 : Int32))] [(.ref r0)])) _
      refine XS.iloadN X0.here hx rfl (hb hby own_d1_15) rfl ?_
      exact kt
    obtain ⟨cl6, Ar6, q6, S6, Nn6, Hh6, G6⟩ := id P0
    refine ownE.go (T' := s₁) (f' := (mkF m 17 #[.val (.ref r0), .val (.int (1 : Int32)), .val (.int (1 : Int32))] [(.int b1)])) (fun t kt => X0.baloadBytes hx (j := (1 : Int32)) (v := (.int b1)) (by rw [e0]; exact Ar6.1) (State.isArrayOf_alike hZ.alike Ar6.2.1) Ar6.2.2 (inb_of S6 ⟨by decide, by decide⟩) (Hh6.at (inb_of S6 ⟨by decide, by decide⟩) rfl) (g := (mkF m 16 #[.val (.ref r0), .val (.int (1 : Int32)), .val (.int (1 : Int32))] [(.int (1 : Int32)), (.ref r0)])) rfl rfl (hb hby own_d1_16) _ kt) ?_
    by_cases hc7 : b1 < (0 : Int32)
    · -- pc 17
      refine ownE.go (T' := s₁) (f' := (mkF m 24 #[.val (.ref r0), .val (.int (1 : Int32)), .val (.int (1 : Int32))] [])) (fun t kt => XS.ifYes (g := (mkF m 17 #[.val (.ref r0), .val (.int (1 : Int32)), .val (.int (1 : Int32))] [(.int b1)])) X0.here hx rfl (pc0 := 17) (pc' := 24) rfl (hb hby own_d1_17) rfl (Jvm.Free.XT.i0_lt_t hc7) (by decide) (by decide) kt) ?_
      refine ownE.go (T' := s₁) (f' := (mkF m 6 #[.val (.ref r0), .val (.int (0 : Int32)), .val (.int (2 : Int32))] [(.ref r0), (.int (2 : Int32))])) (fun t kt => ?_) ?_
      · show Steps p.tables e below (s₁.setTop (mkF m 24 #[.val (.ref r0), .val (.int (1 : Int32)), .val (.int (1 : Int32))] [])) _
        refine XS.iconst X0.here hx rfl (hb hby own_d1_24) ?_
        show Steps p.tables e below (s₁.setTop (mkF m 25 #[.val (.ref r0), .val (.int (1 : Int32)), .val (.int (1 : Int32))] [(.int (0 : Int32))])) _
        refine XS.istoreN X0.here hx rfl (hb hby own_d1_25) rfl (l' := #[.val (.ref r0), .val (.int (0 : Int32)), .val (.int (1 : Int32))]) rfl ?_
        show Steps p.tables e below (s₁.setTop (mkF m 26 #[.val (.ref r0), .val (.int (0 : Int32)), .val (.int (1 : Int32))] [])) _
        refine XS.iinc X0.here hx rfl (hb hby own_d1_26) rfl (l' := #[.val (.ref r0), .val (.int (0 : Int32)), .val (.int (2 : Int32))]) rfl ?_
        show Steps p.tables e below (s₁.setTop (mkF m 29 #[.val (.ref r0), .val (.int (0 : Int32)), .val (.int (2 : Int32))] [])) _
        refine XS.goto X0.here hx rfl (pc0 := 29) (pc' := 4) rfl (hb hby own_d1_29) (by decide) (by decide) ?_
        show Steps p.tables e below (s₁.setTop (mkF m 4 #[.val (.ref r0), .val (.int (0 : Int32)), .val (.int (2 : Int32))] [])) _
        refine XS.iloadN X0.here hx rfl (hb hby own_d1_4) rfl ?_
        show Steps p.tables e below (s₁.setTop (mkF m 5 #[.val (.ref r0), .val (.int (0 : Int32)), .val (.int (2 : Int32))] [(.int (2 : Int32))])) _
        refine XS.aloadN X0.here hx rfl (hb hby own_d1_5) rfl rfl ?_
        exact kt
      obtain ⟨cl8, Ar8, q8, S8, Nn8, Hh8, G8⟩ := id P0
      refine ownE.go (T' := s₁) (f' := (mkF m 7 #[.val (.ref r0), .val (.int (0 : Int32)), .val (.int (2 : Int32))] [(.int (3 : Int32)), (.int (2 : Int32))])) (fun t kt => X0.arraylength hx (by rw [e0]; exact Ar8.1) (State.isArrayOf_alike hZ.alike Ar8.2.1) (g := (mkF m 6 #[.val (.ref r0), .val (.int (0 : Int32)), .val (.int (2 : Int32))] [(.ref r0), (.int (2 : Int32))])) rfl rfl (hb hby own_d1_6) _ (by rw [len_of S8 Nn8]; exact kt)) ?_
      refine ownE.go (T' := s₁) (f' := (mkF m 10 #[.val (.ref r0), .val (.int (0 : Int32)), .val (.int (2 : Int32))] [])) (fun t kt => XS.icmpNo (g := (mkF m 7 #[.val (.ref r0), .val (.int (0 : Int32)), .val (.int (2 : Int32))] [(.int (3 : Int32)), (.int (2 : Int32))])) X0.here hx rfl (hb hby own_d1_7) rfl (Jvm.Free.XT.ii_ge_f (by decide)) kt) ?_
      refine ownE.go (T' := s₁) (f' := (mkF m 11 #[.val (.ref r0), .val (.int (0 : Int32)), .val (.int (2 : Int32))] [(.int (0 : Int32))])) (fun t kt => ?_) ?_
      · show Steps p.tables e below (s₁.setTop (mkF m 10 #[.val (.ref r0), .val (.int (0 : Int32)), .val (.int (2 : Int32))] [])) _
        refine XS.iloadN X0.here hx rfl (hb hby own_d1_10) rfl ?_
        exact kt
      refine ownE.go (T' := s₁) (f' := (mkF m 32 #[.val (.ref r0), .val (.int (0 : Int32)), .val (.int (2 : Int32))] [])) (fun t kt => XS.ifYes (g := (mkF m 11 #[.val (.ref r0), .val (.int (0 : Int32)), .val (.int (2 : Int32))] [(.int (0 : Int32))])) X0.here hx rfl (pc0 := 11) (pc' := 32) rfl (hb hby own_d1_11) rfl (Jvm.Free.XT.i0_eq_t (by decide)) (by decide) (by decide) kt) ?_
      refine ownE.go (T' := s₁) (f' := (mkF m 33 #[.val (.ref r0), .val (.int (0 : Int32)), .val (.int (2 : Int32))] [(.int (0 : Int32))])) (fun t kt => ?_) ?_
      · show Steps p.tables e below (s₁.setTop (mkF m 32 #[.val (.ref r0), .val (.int (0 : Int32)), .val (.int (2 : Int32))] [])) _
        refine XS.iloadN X0.here hx rfl (hb hby own_d1_32) rfl ?_
        exact kt
      refine ownE.retN X0 hx hlk (t := .boolean) hret (by simp) (hb hby own_d1_33) ?_ (by decide) (by decide)
      show own_Q1n3 Z r0 kk b0 b1 b2 h0 n0 _ s₁.heap _
      rw [e0]
      exact ⟨(by rw [own_asc3, if_neg hc3, if_pos hc7] <;> first | rfl | decide), N0, rfl⟩
    · -- pc 17
      refine ownE.go (T' := s₁) (f' := (mkF m 20 #[.val (.ref r0), .val (.int (1 : Int32)), .val (.int (1 : Int32))] [])) (fun t kt => XS.ifNo (g := (mkF m 17 #[.val (.ref r0), .val (.int (1 : Int32)), .val (.int (1 : Int32))] [(.int b1)])) X0.here hx rfl (hb hby own_d1_17) rfl (Jvm.Free.XT.i0_lt_f hc7) kt) ?_
      refine ownE.go (T' := s₁) (f' := (mkF m 6 #[.val (.ref r0), .val (.int (1 : Int32)), .val (.int (2 : Int32))] [(.ref r0), (.int (2 : Int32))])) (fun t kt => ?_) ?_
      · show Steps p.tables e below (s₁.setTop (mkF m 20 #[.val (.ref r0), .val (.int (1 : Int32)), .val (.int (1 : Int32))] [])) _
        refine XS.iconst X0.here hx rfl (hb hby own_d1_20) ?_
        show Steps p.tables e below (s₁.setTop (mkF m 21 #[.val (.ref r0), .val (.int (1 : Int32)), .val (.int (1 : Int32))] [(.int (1 : Int32))])) _
        refine XS.goto X0.here hx rfl (pc0 := 21) (pc' := 25) rfl (hb hby own_d1_21) (by decide) (by decide) ?_
        show Steps p.tables e below (s₁.setTop (mkF m 25 #[.val (.ref r0), .val (.int (1 : Int32)), .val (.int (1 : Int32))] [(.int (1 : Int32))])) _
        refine XS.istoreN X0.here hx rfl (hb hby own_d1_25) rfl (l' := #[.val (.ref r0), .val (.int (1 : Int32)), .val (.int (1 : Int32))]) rfl ?_
        show Steps p.tables e below (s₁.setTop (mkF m 26 #[.val (.ref r0), .val (.int (1 : Int32)), .val (.int (1 : Int32))] [])) _
        refine XS.iinc X0.here hx rfl (hb hby own_d1_26) rfl (l' := #[.val (.ref r0), .val (.int (1 : Int32)), .val (.int (2 : Int32))]) rfl ?_
        show Steps p.tables e below (s₁.setTop (mkF m 29 #[.val (.ref r0), .val (.int (1 : Int32)), .val (.int (2 : Int32))] [])) _
        refine XS.goto X0.here hx rfl (pc0 := 29) (pc' := 4) rfl (hb hby own_d1_29) (by decide) (by decide) ?_
        show Steps p.tables e below (s₁.setTop (mkF m 4 #[.val (.ref r0), .val (.int (1 : Int32)), .val (.int (2 : Int32))] [])) _
        refine XS.iloadN X0.here hx rfl (hb hby own_d1_4) rfl ?_
        show Steps p.tables e below (s₁.setTop (mkF m 5 #[.val (.ref r0), .val (.int (1 : Int32)), .val (.int (2 : Int32))] [(.int (2 : Int32))])) _
        refine XS.aloadN X0.here hx rfl (hb hby own_d1_5) rfl rfl ?_
        exact kt
      obtain ⟨cl9, Ar9, q9, S9, Nn9, Hh9, G9⟩ := id P0
      refine ownE.go (T' := s₁) (f' := (mkF m 7 #[.val (.ref r0), .val (.int (1 : Int32)), .val (.int (2 : Int32))] [(.int (3 : Int32)), (.int (2 : Int32))])) (fun t kt => X0.arraylength hx (by rw [e0]; exact Ar9.1) (State.isArrayOf_alike hZ.alike Ar9.2.1) (g := (mkF m 6 #[.val (.ref r0), .val (.int (1 : Int32)), .val (.int (2 : Int32))] [(.ref r0), (.int (2 : Int32))])) rfl rfl (hb hby own_d1_6) _ (by rw [len_of S9 Nn9]; exact kt)) ?_
      refine ownE.go (T' := s₁) (f' := (mkF m 10 #[.val (.ref r0), .val (.int (1 : Int32)), .val (.int (2 : Int32))] [])) (fun t kt => XS.icmpNo (g := (mkF m 7 #[.val (.ref r0), .val (.int (1 : Int32)), .val (.int (2 : Int32))] [(.int (3 : Int32)), (.int (2 : Int32))])) X0.here hx rfl (hb hby own_d1_7) rfl (Jvm.Free.XT.ii_ge_f (by decide)) kt) ?_
      refine ownE.go (T' := s₁) (f' := (mkF m 11 #[.val (.ref r0), .val (.int (1 : Int32)), .val (.int (2 : Int32))] [(.int (1 : Int32))])) (fun t kt => ?_) ?_
      · show Steps p.tables e below (s₁.setTop (mkF m 10 #[.val (.ref r0), .val (.int (1 : Int32)), .val (.int (2 : Int32))] [])) _
        refine XS.iloadN X0.here hx rfl (hb hby own_d1_10) rfl ?_
        exact kt
      refine ownE.go (T' := s₁) (f' := (mkF m 14 #[.val (.ref r0), .val (.int (1 : Int32)), .val (.int (2 : Int32))] [])) (fun t kt => XS.ifNo (g := (mkF m 11 #[.val (.ref r0), .val (.int (1 : Int32)), .val (.int (2 : Int32))] [(.int (1 : Int32))])) X0.here hx rfl (hb hby own_d1_11) rfl (Jvm.Free.XT.i0_eq_f (by decide)) kt) ?_
      refine ownE.go (T' := s₁) (f' := (mkF m 16 #[.val (.ref r0), .val (.int (1 : Int32)), .val (.int (2 : Int32))] [(.int (2 : Int32)), (.ref r0)])) (fun t kt => ?_) ?_
      · show Steps p.tables e below (s₁.setTop (mkF m 14 #[.val (.ref r0), .val (.int (1 : Int32)), .val (.int (2 : Int32))] [])) _
        refine XS.aloadN X0.here hx rfl (hb hby own_d1_14) rfl rfl ?_
        show Steps p.tables e below (s₁.setTop (mkF m 15 #[.val (.ref r0), .val (.int (1 : Int32)), .val (.int (2 : Int32))] [(.ref r0)])) _
        refine XS.iloadN X0.here hx rfl (hb hby own_d1_15) rfl ?_
        exact kt
      obtain ⟨cl10, Ar10, q10, S10, Nn10, Hh10, G10⟩ := id P0
      refine ownE.go (T' := s₁) (f' := (mkF m 17 #[.val (.ref r0), .val (.int (1 : Int32)), .val (.int (2 : Int32))] [(.int b2)])) (fun t kt => X0.baloadBytes hx (j := (2 : Int32)) (v := (.int b2)) (by rw [e0]; exact Ar10.1) (State.isArrayOf_alike hZ.alike Ar10.2.1) Ar10.2.2 (inb_of S10 ⟨by decide, by decide⟩) (Hh10.at (inb_of S10 ⟨by decide, by decide⟩) rfl) (g := (mkF m 16 #[.val (.ref r0), .val (.int (1 : Int32)), .val (.int (2 : Int32))] [(.int (2 : Int32)), (.ref r0)])) rfl rfl (hb hby own_d1_16) _ kt) ?_
      by_cases hc11 : b2 < (0 : Int32)
      · -- pc 17
        refine ownE.go (T' := s₁) (f' := (mkF m 24 #[.val (.ref r0), .val (.int (1 : Int32)), .val (.int (2 : Int32))] [])) (fun t kt => XS.ifYes (g := (mkF m 17 #[.val (.ref r0), .val (.int (1 : Int32)), .val (.int (2 : Int32))] [(.int b2)])) X0.here hx rfl (pc0 := 17) (pc' := 24) rfl (hb hby own_d1_17) rfl (Jvm.Free.XT.i0_lt_t hc11) (by decide) (by decide) kt) ?_
        refine ownE.go (T' := s₁) (f' := (mkF m 6 #[.val (.ref r0), .val (.int (0 : Int32)), .val (.int (3 : Int32))] [(.ref r0), (.int (3 : Int32))])) (fun t kt => ?_) ?_
        · show Steps p.tables e below (s₁.setTop (mkF m 24 #[.val (.ref r0), .val (.int (1 : Int32)), .val (.int (2 : Int32))] [])) _
          refine XS.iconst X0.here hx rfl (hb hby own_d1_24) ?_
          show Steps p.tables e below (s₁.setTop (mkF m 25 #[.val (.ref r0), .val (.int (1 : Int32)), .val (.int (2 : Int32))] [(.int (0 : Int32))])) _
          refine XS.istoreN X0.here hx rfl (hb hby own_d1_25) rfl (l' := #[.val (.ref r0), .val (.int (0 : Int32)), .val (.int (2 : Int32))]) rfl ?_
          show Steps p.tables e below (s₁.setTop (mkF m 26 #[.val (.ref r0), .val (.int (0 : Int32)), .val (.int (2 : Int32))] [])) _
          refine XS.iinc X0.here hx rfl (hb hby own_d1_26) rfl (l' := #[.val (.ref r0), .val (.int (0 : Int32)), .val (.int (3 : Int32))]) rfl ?_
          show Steps p.tables e below (s₁.setTop (mkF m 29 #[.val (.ref r0), .val (.int (0 : Int32)), .val (.int (3 : Int32))] [])) _
          refine XS.goto X0.here hx rfl (pc0 := 29) (pc' := 4) rfl (hb hby own_d1_29) (by decide) (by decide) ?_
          show Steps p.tables e below (s₁.setTop (mkF m 4 #[.val (.ref r0), .val (.int (0 : Int32)), .val (.int (3 : Int32))] [])) _
          refine XS.iloadN X0.here hx rfl (hb hby own_d1_4) rfl ?_
          show Steps p.tables e below (s₁.setTop (mkF m 5 #[.val (.ref r0), .val (.int (0 : Int32)), .val (.int (3 : Int32))] [(.int (3 : Int32))])) _
          refine XS.aloadN X0.here hx rfl (hb hby own_d1_5) rfl rfl ?_
          exact kt
        obtain ⟨cl12, Ar12, q12, S12, Nn12, Hh12, G12⟩ := id P0
        refine ownE.go (T' := s₁) (f' := (mkF m 7 #[.val (.ref r0), .val (.int (0 : Int32)), .val (.int (3 : Int32))] [(.int (3 : Int32)), (.int (3 : Int32))])) (fun t kt => X0.arraylength hx (by rw [e0]; exact Ar12.1) (State.isArrayOf_alike hZ.alike Ar12.2.1) (g := (mkF m 6 #[.val (.ref r0), .val (.int (0 : Int32)), .val (.int (3 : Int32))] [(.ref r0), (.int (3 : Int32))])) rfl rfl (hb hby own_d1_6) _ (by rw [len_of S12 Nn12]; exact kt)) ?_
        refine ownE.go (T' := s₁) (f' := (mkF m 32 #[.val (.ref r0), .val (.int (0 : Int32)), .val (.int (3 : Int32))] [])) (fun t kt => XS.icmpYes (g := (mkF m 7 #[.val (.ref r0), .val (.int (0 : Int32)), .val (.int (3 : Int32))] [(.int (3 : Int32)), (.int (3 : Int32))])) X0.here hx rfl (pc0 := 7) (pc' := 32) rfl (hb hby own_d1_7) rfl (Jvm.Free.XT.ii_ge_t (by decide)) (by decide) (by decide) kt) ?_
        refine ownE.go (T' := s₁) (f' := (mkF m 33 #[.val (.ref r0), .val (.int (0 : Int32)), .val (.int (3 : Int32))] [(.int (0 : Int32))])) (fun t kt => ?_) ?_
        · show Steps p.tables e below (s₁.setTop (mkF m 32 #[.val (.ref r0), .val (.int (0 : Int32)), .val (.int (3 : Int32))] [])) _
          refine XS.iloadN X0.here hx rfl (hb hby own_d1_32) rfl ?_
          exact kt
        refine ownE.retN X0 hx hlk (t := .boolean) hret (by simp) (hb hby own_d1_33) ?_ (by decide) (by decide)
        show own_Q1n3 Z r0 kk b0 b1 b2 h0 n0 _ s₁.heap _
        rw [e0]
        exact ⟨(by rw [own_asc3, if_neg hc3, if_neg hc7, if_pos hc11] <;> first | rfl | decide), N0, rfl⟩
      · -- pc 17
        refine ownE.go (T' := s₁) (f' := (mkF m 20 #[.val (.ref r0), .val (.int (1 : Int32)), .val (.int (2 : Int32))] [])) (fun t kt => XS.ifNo (g := (mkF m 17 #[.val (.ref r0), .val (.int (1 : Int32)), .val (.int (2 : Int32))] [(.int b2)])) X0.here hx rfl (hb hby own_d1_17) rfl (Jvm.Free.XT.i0_lt_f hc11) kt) ?_
        refine ownE.go (T' := s₁) (f' := (mkF m 6 #[.val (.ref r0), .val (.int (1 : Int32)), .val (.int (3 : Int32))] [(.ref r0), (.int (3 : Int32))])) (fun t kt => ?_) ?_
        · show Steps p.tables e below (s₁.setTop (mkF m 20 #[.val (.ref r0), .val (.int (1 : Int32)), .val (.int (2 : Int32))] [])) _
          refine XS.iconst X0.here hx rfl (hb hby own_d1_20) ?_
          show Steps p.tables e below (s₁.setTop (mkF m 21 #[.val (.ref r0), .val (.int (1 : Int32)), .val (.int (2 : Int32))] [(.int (1 : Int32))])) _
          refine XS.goto X0.here hx rfl (pc0 := 21) (pc' := 25) rfl (hb hby own_d1_21) (by decide) (by decide) ?_
          show Steps p.tables e below (s₁.setTop (mkF m 25 #[.val (.ref r0), .val (.int (1 : Int32)), .val (.int (2 : Int32))] [(.int (1 : Int32))])) _
          refine XS.istoreN X0.here hx rfl (hb hby own_d1_25) rfl (l' := #[.val (.ref r0), .val (.int (1 : Int32)), .val (.int (2 : Int32))]) rfl ?_
          show Steps p.tables e below (s₁.setTop (mkF m 26 #[.val (.ref r0), .val (.int (1 : Int32)), .val (.int (2 : Int32))] [])) _
          refine XS.iinc X0.here hx rfl (hb hby own_d1_26) rfl (l' := #[.val (.ref r0), .val (.int (1 : Int32)), .val (.int (3 : Int32))]) rfl ?_
          show Steps p.tables e below (s₁.setTop (mkF m 29 #[.val (.ref r0), .val (.int (1 : Int32)), .val (.int (3 : Int32))] [])) _
          refine XS.goto X0.here hx rfl (pc0 := 29) (pc' := 4) rfl (hb hby own_d1_29) (by decide) (by decide) ?_
          show Steps p.tables e below (s₁.setTop (mkF m 4 #[.val (.ref r0), .val (.int (1 : Int32)), .val (.int (3 : Int32))] [])) _
          refine XS.iloadN X0.here hx rfl (hb hby own_d1_4) rfl ?_
          show Steps p.tables e below (s₁.setTop (mkF m 5 #[.val (.ref r0), .val (.int (1 : Int32)), .val (.int (3 : Int32))] [(.int (3 : Int32))])) _
          refine XS.aloadN X0.here hx rfl (hb hby own_d1_5) rfl rfl ?_
          exact kt
        obtain ⟨cl13, Ar13, q13, S13, Nn13, Hh13, G13⟩ := id P0
        refine ownE.go (T' := s₁) (f' := (mkF m 7 #[.val (.ref r0), .val (.int (1 : Int32)), .val (.int (3 : Int32))] [(.int (3 : Int32)), (.int (3 : Int32))])) (fun t kt => X0.arraylength hx (by rw [e0]; exact Ar13.1) (State.isArrayOf_alike hZ.alike Ar13.2.1) (g := (mkF m 6 #[.val (.ref r0), .val (.int (1 : Int32)), .val (.int (3 : Int32))] [(.ref r0), (.int (3 : Int32))])) rfl rfl (hb hby own_d1_6) _ (by rw [len_of S13 Nn13]; exact kt)) ?_
        refine ownE.go (T' := s₁) (f' := (mkF m 32 #[.val (.ref r0), .val (.int (1 : Int32)), .val (.int (3 : Int32))] [])) (fun t kt => XS.icmpYes (g := (mkF m 7 #[.val (.ref r0), .val (.int (1 : Int32)), .val (.int (3 : Int32))] [(.int (3 : Int32)), (.int (3 : Int32))])) X0.here hx rfl (pc0 := 7) (pc' := 32) rfl (hb hby own_d1_7) rfl (Jvm.Free.XT.ii_ge_t (by decide)) (by decide) (by decide) kt) ?_
        refine ownE.go (T' := s₁) (f' := (mkF m 33 #[.val (.ref r0), .val (.int (1 : Int32)), .val (.int (3 : Int32))] [(.int (1 : Int32))])) (fun t kt => ?_) ?_
        · show Steps p.tables e below (s₁.setTop (mkF m 32 #[.val (.ref r0), .val (.int (1 : Int32)), .val (.int (3 : Int32))] [])) _
          refine XS.iloadN X0.here hx rfl (hb hby own_d1_32) rfl ?_
          exact kt
        refine ownE.retN X0 hx hlk (t := .boolean) hret (by simp) (hb hby own_d1_33) ?_ (by decide) (by decide)
        show own_Q1n3 Z r0 kk b0 b1 b2 h0 n0 _ s₁.heap _
        rw [e0]
        exact ⟨(by rw [own_asc3, if_neg hc3, if_neg hc7, if_neg hc11] <;> first | rfl | decide), N0, rfl⟩
theorem own_ef1n4 (m : MethodId) (x0 : Addr) : entryFrame m #[(.ref x0)] 3 = mkF m 0 #[.val (.ref x0), .unset, .unset] [] := by first | (simp [entryFrame, mkF, argsToLocals, Value.category]; done) | rfl
def own_asc4 (b0 : Int32) (b1 : Int32) (b2 : Int32) (b3 : Int32) : Int32 :=
  if b0 < (0 : Int32) then
    (0 : Int32)
  else
    if b1 < (0 : Int32) then
      (0 : Int32)
    else
      if b2 < (0 : Int32) then
        (0 : Int32)
      else
        if b3 < (0 : Int32) then
          (0 : Int32)
        else
          (1 : Int32)
def own_Q1n4 (Z : State) (r0 : Addr) (kk : ClassId) (b0 : Int32) (b1 : Int32) (b2 : Int32) (b3 : Int32) (h0 : Heap) (n0 : Nat) (v : Option Value) (h : Heap) (L : List Loc) : Prop := v = some (.int (own_asc4 b0 b1 b2 b3)) ∧ Fr n0 L ∧ h = h0
set_option maxRecDepth 65536 in
set_option maxHeartbeats 40000000 in
theorem own_rm1n4 (l : Launch) (Z : State) (a0 : Array Value) (hw : ∀ d ∈ tables_1, d.before a0 Z = true) (ws : List Jvm.Cond) (r0 : Addr) (kk : ClassId) (b0 : Int32) (b1 : Int32) (b2 : Int32) (b3 : Int32) (h0 : Heap) (n0 : Nat) (Z0 : n0 ≤ h0.size) (P0 : Arv Z h0 r0 kk .byte (4 : Int32) [(.int b0), (.int b1), (.int b2), (.int b3)] (.int (0 : Int32))) :
    MetFree l (⟨"com/example/libvalise/libvalise/ZipFormat", "isAscii", "([B)Z"⟩ : MethodName) (head1 (Jvm.Cond.code (⟨"com/example/libvalise/libvalise/ZipFormat", "isAscii", "([B)Z"⟩ : MethodName) prog_11_method_2_code 3 (some .boolean) :: ws) ({ frames := 0, cells := 0, slots := 0, locals := 0 } : Room)) (fun a U => a = #[(.ref r0)] ∧ Z.Warmed39 U.vm ∧ U.heap = h0) (fun _ _ _ _ _ => True) (fun _ U o U' => ∃ v L, o = .returned v ∧ own_Q1n4 Z r0 kk b0 b1 b2 b3 h0 n0 v U'.heap L ∧ FrameEnd U o U' L ({ frames := 0, cells := 0, slots := 0, locals := 0 } : Room).cells ({ frames := 0, cells := 0, slots := 0, locals := 0 } : Room).slots) := by
  refine MetFree.of_bodySF (plainFor_of_name own_pn0) hisR ?_
  intro p e s m args below meth c s₁ Bd hml0 hP hK
  obtain ⟨rfl, hZ, hh⟩ := hP
  have hx := Bd.exec
  have hby := Bd.bytes
  have hret := Bd.returns
  have hlk := BodyLoose.notSynchronized Bd
  have hml : c.maxLocals = 3 := hml0
  have hown : s.vm.findClass "com/example/libvalise/libvalise/ZipFormat" = some m.cls := findClass_of_methodNamed Bd.named
  have hnm := (name_of_methodNamed Bd.named Bd.method).1
  have X0 : Stand p l e ({ frames := 0, cells := 0, slots := 0, locals := 0 } : Room) s m #[(.ref r0)] below meth c s₁ [] 0 0 := Stand.of_body Bd
  have e0 : s₁.heap = h0 := by rw [← hh, Bd.state]; rfl
  have N0 := Fr.nil n0
  have K0 : Keep h0 h0 [] := Keep.refl h0 _
  show ownE p e below s (own_Q1n4 Z r0 kk b0 b1 b2 b3 h0 n0) ({ frames := 0, cells := 0, slots := 0, locals := 0 } : Room).cells ({ frames := 0, cells := 0, slots := 0, locals := 0 } : Room).slots s₁ (entryFrame m #[(.ref r0)] 3)
  rw [own_ef1n4]
  refine ownE.go (T' := s₁) (f' := (mkF m 6 #[.val (.ref r0), .val (.int (1 : Int32)), .val (.int (0 : Int32))] [(.ref r0), (.int (0 : Int32))])) (fun t kt => ?_) ?_
  · show Steps p.tables e below (s₁.setTop (mkF m 0 #[.val (.ref r0), .unset, .unset] [])) _
    refine XS.iconst X0.here hx rfl (hb hby own_d1_0) ?_
    show Steps p.tables e below (s₁.setTop (mkF m 1 #[.val (.ref r0), .unset, .unset] [(.int (1 : Int32))])) _
    refine XS.istoreN X0.here hx rfl (hb hby own_d1_1) rfl (l' := #[.val (.ref r0), .val (.int (1 : Int32)), .unset]) rfl ?_
    show Steps p.tables e below (s₁.setTop (mkF m 2 #[.val (.ref r0), .val (.int (1 : Int32)), .unset] [])) _
    refine XS.iconst X0.here hx rfl (hb hby own_d1_2) ?_
    show Steps p.tables e below (s₁.setTop (mkF m 3 #[.val (.ref r0), .val (.int (1 : Int32)), .unset] [(.int (0 : Int32))])) _
    refine XS.istoreN X0.here hx rfl (hb hby own_d1_3) rfl (l' := #[.val (.ref r0), .val (.int (1 : Int32)), .val (.int (0 : Int32))]) rfl ?_
    show Steps p.tables e below (s₁.setTop (mkF m 4 #[.val (.ref r0), .val (.int (1 : Int32)), .val (.int (0 : Int32))] [])) _
    refine XS.iloadN X0.here hx rfl (hb hby own_d1_4) rfl ?_
    show Steps p.tables e below (s₁.setTop (mkF m 5 #[.val (.ref r0), .val (.int (1 : Int32)), .val (.int (0 : Int32))] [(.int (0 : Int32))])) _
    refine XS.aloadN X0.here hx rfl (hb hby own_d1_5) rfl rfl ?_
    exact kt
  obtain ⟨cl1, Ar1, q1, S1, Nn1, Hh1, G1⟩ := id P0
  refine ownE.go (T' := s₁) (f' := (mkF m 7 #[.val (.ref r0), .val (.int (1 : Int32)), .val (.int (0 : Int32))] [(.int (4 : Int32)), (.int (0 : Int32))])) (fun t kt => X0.arraylength hx (by rw [e0]; exact Ar1.1) (State.isArrayOf_alike hZ.alike Ar1.2.1) (g := (mkF m 6 #[.val (.ref r0), .val (.int (1 : Int32)), .val (.int (0 : Int32))] [(.ref r0), (.int (0 : Int32))])) rfl rfl (hb hby own_d1_6) _ (by rw [len_of S1 Nn1]; exact kt)) ?_
  refine ownE.go (T' := s₁) (f' := (mkF m 10 #[.val (.ref r0), .val (.int (1 : Int32)), .val (.int (0 : Int32))] [])) (fun t kt => XS.icmpNo (g := (mkF m 7 #[.val (.ref r0), .val (.int (1 : Int32)), .val (.int (0 : Int32))] [(.int (4 : Int32)), (.int (0 : Int32))])) X0.here hx rfl (hb hby own_d1_7) rfl (Jvm.Free.XT.ii_ge_f (by decide)) kt) ?_
  refine ownE.go (T' := s₁) (f' := (mkF m 11 #[.val (.ref r0), .val (.int (1 : Int32)), .val (.int (0 : Int32))] [(.int (1 : Int32))])) (fun t kt => ?_) ?_
  · show Steps p.tables e below (s₁.setTop (mkF m 10 #[.val (.ref r0), .val (.int (1 : Int32)), .val (.int (0 : Int32))] [])) _
    refine XS.iloadN X0.here hx rfl (hb hby own_d1_10) rfl ?_
    exact kt
  refine ownE.go (T' := s₁) (f' := (mkF m 14 #[.val (.ref r0), .val (.int (1 : Int32)), .val (.int (0 : Int32))] [])) (fun t kt => XS.ifNo (g := (mkF m 11 #[.val (.ref r0), .val (.int (1 : Int32)), .val (.int (0 : Int32))] [(.int (1 : Int32))])) X0.here hx rfl (hb hby own_d1_11) rfl (Jvm.Free.XT.i0_eq_f (by decide)) kt) ?_
  refine ownE.go (T' := s₁) (f' := (mkF m 16 #[.val (.ref r0), .val (.int (1 : Int32)), .val (.int (0 : Int32))] [(.int (0 : Int32)), (.ref r0)])) (fun t kt => ?_) ?_
  · show Steps p.tables e below (s₁.setTop (mkF m 14 #[.val (.ref r0), .val (.int (1 : Int32)), .val (.int (0 : Int32))] [])) _
    refine XS.aloadN X0.here hx rfl (hb hby own_d1_14) rfl rfl ?_
    show Steps p.tables e below (s₁.setTop (mkF m 15 #[.val (.ref r0), .val (.int (1 : Int32)), .val (.int (0 : Int32))] [(.ref r0)])) _
    refine XS.iloadN X0.here hx rfl (hb hby own_d1_15) rfl ?_
    exact kt
  obtain ⟨cl2, Ar2, q2, S2, Nn2, Hh2, G2⟩ := id P0
  refine ownE.go (T' := s₁) (f' := (mkF m 17 #[.val (.ref r0), .val (.int (1 : Int32)), .val (.int (0 : Int32))] [(.int b0)])) (fun t kt => X0.baloadBytes hx (j := (0 : Int32)) (v := (.int b0)) (by rw [e0]; exact Ar2.1) (State.isArrayOf_alike hZ.alike Ar2.2.1) Ar2.2.2 (inb_of S2 ⟨by decide, by decide⟩) (Hh2.at (inb_of S2 ⟨by decide, by decide⟩) rfl) (g := (mkF m 16 #[.val (.ref r0), .val (.int (1 : Int32)), .val (.int (0 : Int32))] [(.int (0 : Int32)), (.ref r0)])) rfl rfl (hb hby own_d1_16) _ kt) ?_
  by_cases hc3 : b0 < (0 : Int32)
  · -- pc 17
    refine ownE.go (T' := s₁) (f' := (mkF m 24 #[.val (.ref r0), .val (.int (1 : Int32)), .val (.int (0 : Int32))] [])) (fun t kt => XS.ifYes (g := (mkF m 17 #[.val (.ref r0), .val (.int (1 : Int32)), .val (.int (0 : Int32))] [(.int b0)])) X0.here hx rfl (pc0 := 17) (pc' := 24) rfl (hb hby own_d1_17) rfl (Jvm.Free.XT.i0_lt_t hc3) (by decide) (by decide) kt) ?_
    refine ownE.go (T' := s₁) (f' := (mkF m 6 #[.val (.ref r0), .val (.int (0 : Int32)), .val (.int (1 : Int32))] [(.ref r0), (.int (1 : Int32))])) (fun t kt => ?_) ?_
    · show Steps p.tables e below (s₁.setTop (mkF m 24 #[.val (.ref r0), .val (.int (1 : Int32)), .val (.int (0 : Int32))] [])) _
      refine XS.iconst X0.here hx rfl (hb hby own_d1_24) ?_
      show Steps p.tables e below (s₁.setTop (mkF m 25 #[.val (.ref r0), .val (.int (1 : Int32)), .val (.int (0 : Int32))] [(.int (0 : Int32))])) _
      refine XS.istoreN X0.here hx rfl (hb hby own_d1_25) rfl (l' := #[.val (.ref r0), .val (.int (0 : Int32)), .val (.int (0 : Int32))]) rfl ?_
      show Steps p.tables e below (s₁.setTop (mkF m 26 #[.val (.ref r0), .val (.int (0 : Int32)), .val (.int (0 : Int32))] [])) _
      refine XS.iinc X0.here hx rfl (hb hby own_d1_26) rfl (l' := #[.val (.ref r0), .val (.int (0 : Int32)), .val (.int (1 : Int32))]) rfl ?_
      show Steps p.tables e below (s₁.setTop (mkF m 29 #[.val (.ref r0), .val (.int (0 : Int32)), .val (.int (1 : Int32))] [])) _
      refine XS.goto X0.here hx rfl (pc0 := 29) (pc' := 4) rfl (hb hby own_d1_29) (by decide) (by decide) ?_
      show Steps p.tables e below (s₁.setTop (mkF m 4 #[.val (.ref r0), .val (.int (0 : Int32)), .val (.int (1 : Int32))] [])) _
      refine XS.iloadN X0.here hx rfl (hb hby own_d1_4) rfl ?_
      show Steps p.tables e below (s₁.setTop (mkF m 5 #[.val (.ref r0), .val (.int (0 : Int32)), .val (.int (1 : Int32))] [(.int (1 : Int32))])) _
      refine XS.aloadN X0.here hx rfl (hb hby own_d1_5) rfl rfl ?_
      exact kt
    obtain ⟨cl4, Ar4, q4, S4, Nn4, Hh4, G4⟩ := id P0
    refine ownE.go (T' := s₁) (f' := (mkF m 7 #[.val (.ref r0), .val (.int (0 : Int32)), .val (.int (1 : Int32))] [(.int (4 : Int32)), (.int (1 : Int32))])) (fun t kt => X0.arraylength hx (by rw [e0]; exact Ar4.1) (State.isArrayOf_alike hZ.alike Ar4.2.1) (g := (mkF m 6 #[.val (.ref r0), .val (.int (0 : Int32)), .val (.int (1 : Int32))] [(.ref r0), (.int (1 : Int32))])) rfl rfl (hb hby own_d1_6) _ (by rw [len_of S4 Nn4]; exact kt)) ?_
    refine ownE.go (T' := s₁) (f' := (mkF m 10 #[.val (.ref r0), .val (.int (0 : Int32)), .val (.int (1 : Int32))] [])) (fun t kt => XS.icmpNo (g := (mkF m 7 #[.val (.ref r0), .val (.int (0 : Int32)), .val (.int (1 : Int32))] [(.int (4 : Int32)), (.int (1 : Int32))])) X0.here hx rfl (hb hby own_d1_7) rfl (Jvm.Free.XT.ii_ge_f (by decide)) kt) ?_
    refine ownE.go (T' := s₁) (f' := (mkF m 11 #[.val (.ref r0), .val (.int (0 : Int32)), .val (.int (1 : Int32))] [(.int (0 : Int32))])) (fun t kt => ?_) ?_
    · show Steps p.tables e below (s₁.setTop (mkF m 10 #[.val (.ref r0), .val (.int (0 : Int32)), .val (.int (1 : Int32))] [])) _
      refine XS.iloadN X0.here hx rfl (hb hby own_d1_10) rfl ?_
      exact kt
    refine ownE.go (T' := s₁) (f' := (mkF m 32 #[.val (.ref r0), .val (.int (0 : Int32)), .val (.int (1 : Int32))] [])) (fun t kt => XS.ifYes (g := (mkF m 11 #[.val (.ref r0), .val (.int (0 : Int32)), .val (.int (1 : Int32))] [(.int (0 : Int32))])) X0.here hx rfl (pc0 := 11) (pc' := 32) rfl (hb hby own_d1_11) rfl (Jvm.Free.XT.i0_eq_t (by decide)) (by decide) (by decide) kt) ?_
    refine ownE.go (T' := s₁) (f' := (mkF m 33 #[.val (.ref r0), .val (.int (0 : Int32)), .val (.int (1 : Int32))] [(.int (0 : Int32))])) (fun t kt => ?_) ?_
    · show Steps p.tables e below (s₁.setTop (mkF m 32 #[.val (.ref r0), .val (.int (0 : Int32)), .val (.int (1 : Int32))] [])) _
      refine XS.iloadN X0.here hx rfl (hb hby own_d1_32) rfl ?_
      exact kt
    refine ownE.retN X0 hx hlk (t := .boolean) hret (by simp) (hb hby own_d1_33) ?_ (by decide) (by decide)
    show own_Q1n4 Z r0 kk b0 b1 b2 b3 h0 n0 _ s₁.heap _
    rw [e0]
    exact ⟨(by rw [own_asc4, if_pos hc3] <;> first | rfl | decide), N0, rfl⟩
  · -- pc 17
    refine ownE.go (T' := s₁) (f' := (mkF m 20 #[.val (.ref r0), .val (.int (1 : Int32)), .val (.int (0 : Int32))] [])) (fun t kt => XS.ifNo (g := (mkF m 17 #[.val (.ref r0), .val (.int (1 : Int32)), .val (.int (0 : Int32))] [(.int b0)])) X0.here hx rfl (hb hby own_d1_17) rfl (Jvm.Free.XT.i0_lt_f hc3) kt) ?_
    refine ownE.go (T' := s₁) (f' := (mkF m 6 #[.val (.ref r0), .val (.int (1 : Int32)), .val (.int (1 : Int32))] [(.ref r0), (.int (1 : Int32))])) (fun t kt => ?_) ?_
    · show Steps p.tables e below (s₁.setTop (mkF m 20 #[.val (.ref r0), .val (.int (1 : Int32)), .val (.int (0 : Int32))] [])) _
      refine XS.iconst X0.here hx rfl (hb hby own_d1_20) ?_
      show Steps p.tables e below (s₁.setTop (mkF m 21 #[.val (.ref r0), .val (.int (1 : Int32)), .val (.int (0 : Int32))] [(.int (1 : Int32))])) _
      refine XS.goto X0.here hx rfl (pc0 := 21) (pc' := 25) rfl (hb hby own_d1_21) (by decide) (by decide) ?_
      show Steps p.tables e below (s₁.setTop (mkF m 25 #[.val (.ref r0), .val (.int (1 : Int32)), .val (.int (0 : Int32))] [(.int (1 : Int32))])) _
      refine XS.istoreN X0.here hx rfl (hb hby own_d1_25) rfl (l' := #[.val (.ref r0), .val (.int (1 : Int32)), .val (.int (0 : Int32))]) rfl ?_
      show Steps p.tables e below (s₁.setTop (mkF m 26 #[.val (.ref r0), .val (.int (1 : Int32)), .val (.int (0 : Int32))] [])) _
      refine XS.iinc X0.here hx rfl (hb hby own_d1_26) rfl (l' := #[.val (.ref r0), .val (.int (1 : Int32)), .val (.int (1 : Int32))]) rfl ?_
      show Steps p.tables e below (s₁.setTop (mkF m 29 #[.val (.ref r0), .val (.int (1 : Int32)), .val (.int (1 : Int32))] [])) _
      refine XS.goto X0.here hx rfl (pc0 := 29) (pc' := 4) rfl (hb hby own_d1_29) (by decide) (by decide) ?_
      show Steps p.tables e below (s₁.setTop (mkF m 4 #[.val (.ref r0), .val (.int (1 : Int32)), .val (.int (1 : Int32))] [])) _
      refine XS.iloadN X0.here hx rfl (hb hby own_d1_4) rfl ?_
      show Steps p.tables e below (s₁.setTop (mkF m 5 #[.val (.ref r0), .val (.int (1 : Int32)), .val (.int (1 : Int32))] [(.int (1 : Int32))])) _
      refine XS.aloadN X0.here hx rfl (hb hby own_d1_5) rfl rfl ?_
      exact kt
    obtain ⟨cl5, Ar5, q5, S5, Nn5, Hh5, G5⟩ := id P0
    refine ownE.go (T' := s₁) (f' := (mkF m 7 #[.val (.ref r0), .val (.int (1 : Int32)), .val (.int (1 : Int32))] [(.int (4 : Int32)), (.int (1 : Int32))])) (fun t kt => X0.arraylength hx (by rw [e0]; exact Ar5.1) (State.isArrayOf_alike hZ.alike Ar5.2.1) (g := (mkF m 6 #[.val (.ref r0), .val (.int (1 : Int32)), .val (.int (1 : Int32))] [(.ref r0), (.int (1 : Int32))])) rfl rfl (hb hby own_d1_6) _ (by rw [len_of S5 Nn5]; exact kt)) ?_
    refine ownE.go (T' := s₁) (f' := (mkF m 10 #[.val (.ref r0), .val (.int (1 : Int32)), .val (.int (1 : Int32))] [])) (fun t kt => XS.icmpNo (g := (mkF m 7 #[.val (.ref r0), .val (.int (1 : Int32)), .val (.int (1 : Int32))] [(.int (4 : Int32)), (.int (1 : Int32))])) X0.here hx rfl (hb hby own_d1_7) rfl (Jvm.Free.XT.ii_ge_f (by decide)) kt) ?_
    refine ownE.go (T' := s₁) (f' := (mkF m 11 #[.val (.ref r0), .val (.int (1 : Int32)), .val (.int (1 : Int32))] [(.int (1 : Int32))])) (fun t kt => ?_) ?_
    · show Steps p.tables e below (s₁.setTop (mkF m 10 #[.val (.ref r0), .val (.int (1 : Int32)), .val (.int (1 : Int32))] [])) _
      refine XS.iloadN X0.here hx rfl (hb hby own_d1_10) rfl ?_
      exact kt
    refine ownE.go (T' := s₁) (f' := (mkF m 14 #[.val (.ref r0), .val (.int (1 : Int32)), .val (.int (1 : Int32))] [])) (fun t kt => XS.ifNo (g := (mkF m 11 #[.val (.ref r0), .val (.int (1 : Int32)), .val (.int (1 : Int32))] [(.int (1 : Int32))])) X0.here hx rfl (hb hby own_d1_11) rfl (Jvm.Free.XT.i0_eq_f (by decide)) kt) ?_
    refine ownE.go (T' := s₁) (f' := (mkF m 16 #[.val (.ref r0), .val (.int (1 : Int32)), .val (.int (1 : Int32))] [(.int (1 : Int32)), (.ref r0)])) (fun t kt => ?_) ?_
    · show Steps p.tables e below (s₁.setTop (mkF m 14 #[.val (.ref r0), .val (.int (1 : Int32)), .val (.int (1 : Int32))] [])) _
      refine XS.aloadN X0.here hx rfl (hb hby own_d1_14) rfl rfl ?_
      show Steps p.tables e below (s₁.setTop (mkF m 15 #[.val (.ref r0), .val (.int (1 : Int32)), .val (.int (1 : Int32))] [(.ref r0)])) _
      refine XS.iloadN X0.here hx rfl (hb hby own_d1_15) rfl ?_
      exact kt
    obtain ⟨cl6, Ar6, q6, S6, Nn6, Hh6, G6⟩ := id P0
    refine ownE.go (T' := s₁) (f' := (mkF m 17 #[.val (.ref r0), .val (.int (1 : Int32)), .val (.int (1 : Int32))] [(.int b1)])) (fun t kt => X0.baloadBytes hx (j := (1 : Int32)) (v := (.int b1)) (by rw [e0]; exact Ar6.1) (State.isArrayOf_alike hZ.alike Ar6.2.1) Ar6.2.2 (inb_of S6 ⟨by decide, by decide⟩) (Hh6.at (inb_of S6 ⟨by decide, by decide⟩) rfl) (g := (mkF m 16 #[.val (.ref r0), .val (.int (1 : Int32)), .val (.int (1 : Int32))] [(.int (1 : Int32)), (.ref r0)])) rfl rfl (hb hby own_d1_16) _ kt) ?_
    by_cases hc7 : b1 < (0 : Int32)
    · -- pc 17
      refine ownE.go (T' := s₁) (f' := (mkF m 24 #[.val (.ref r0), .val (.int (1 : Int32)), .val (.int (1 : Int32))] [])) (fun t kt => XS.ifYes (g := (mkF m 17 #[.val (.ref r0), .val (.int (1 : Int32)), .val (.int (1 : Int32))] [(.int b1)])) X0.here hx rfl (pc0 := 17) (pc' := 24) rfl (hb hby own_d1_17) rfl (Jvm.Free.XT.i0_lt_t hc7) (by decide) (by decide) kt) ?_
      refine ownE.go (T' := s₁) (f' := (mkF m 6 #[.val (.ref r0), .val (.int (0 : Int32)), .val (.int (2 : Int32))] [(.ref r0), (.int (2 : Int32))])) (fun t kt => ?_) ?_
      · show Steps p.tables e below (s₁.setTop (mkF m 24 #[.val (.ref r0), .val (.int (1 : Int32)), .val (.int (1 : Int32))] [])) _
        refine XS.iconst X0.here hx rfl (hb hby own_d1_24) ?_
        show Steps p.tables e below (s₁.setTop (mkF m 25 #[.val (.ref r0), .val (.int (1 : Int32)), .val (.int (1 : Int32))] [(.int (0 : Int32))])) _
        refine XS.istoreN X0.here hx rfl (hb hby own_d1_25) rfl (l' := #[.val (.ref r0), .val (.int (0 : Int32)), .val (.int (1 : Int32))]) rfl ?_
        show Steps p.tables e below (s₁.setTop (mkF m 26 #[.val (.ref r0), .val (.int (0 : Int32)), .val (.int (1 : Int32))] [])) _
        refine XS.iinc X0.here hx rfl (hb hby own_d1_26) rfl (l' := #[.val (.ref r0), .val (.int (0 : Int32)), .val (.int (2 : Int32))]) rfl ?_
        show Steps p.tables e below (s₁.setTop (mkF m 29 #[.val (.ref r0), .val (.int (0 : Int32)), .val (.int (2 : Int32))] [])) _
        refine XS.goto X0.here hx rfl (pc0 := 29) (pc' := 4) rfl (hb hby own_d1_29) (by decide) (by decide) ?_
        show Steps p.tables e below (s₁.setTop (mkF m 4 #[.val (.ref r0), .val (.int (0 : Int32)), .val (.int (2 : Int32))] [])) _
        refine XS.iloadN X0.here hx rfl (hb hby own_d1_4) rfl ?_
        show Steps p.tables e below (s₁.setTop (mkF m 5 #[.val (.ref r0), .val (.int (0 : Int32)), .val (.int (2 : Int32))] [(.int (2 : Int32))])) _
        refine XS.aloadN X0.here hx rfl (hb hby own_d1_5) rfl rfl ?_
        exact kt
      obtain ⟨cl8, Ar8, q8, S8, Nn8, Hh8, G8⟩ := id P0
      refine ownE.go (T' := s₁) (f' := (mkF m 7 #[.val (.ref r0), .val (.int (0 : Int32)), .val (.int (2 : Int32))] [(.int (4 : Int32)), (.int (2 : Int32))])) (fun t kt => X0.arraylength hx (by rw [e0]; exact Ar8.1) (State.isArrayOf_alike hZ.alike Ar8.2.1) (g := (mkF m 6 #[.val (.ref r0), .val (.int (0 : Int32)), .val (.int (2 : Int32))] [(.ref r0), (.int (2 : Int32))])) rfl rfl (hb hby own_d1_6) _ (by rw [len_of S8 Nn8]; exact kt)) ?_
      refine ownE.go (T' := s₁) (f' := (mkF m 10 #[.val (.ref r0), .val (.int (0 : Int32)), .val (.int (2 : Int32))] [])) (fun t kt => XS.icmpNo (g := (mkF m 7 #[.val (.ref r0), .val (.int (0 : Int32)), .val (.int (2 : Int32))] [(.int (4 : Int32)), (.int (2 : Int32))])) X0.here hx rfl (hb hby own_d1_7) rfl (Jvm.Free.XT.ii_ge_f (by decide)) kt) ?_
      refine ownE.go (T' := s₁) (f' := (mkF m 11 #[.val (.ref r0), .val (.int (0 : Int32)), .val (.int (2 : Int32))] [(.int (0 : Int32))])) (fun t kt => ?_) ?_
      · show Steps p.tables e below (s₁.setTop (mkF m 10 #[.val (.ref r0), .val (.int (0 : Int32)), .val (.int (2 : Int32))] [])) _
        refine XS.iloadN X0.here hx rfl (hb hby own_d1_10) rfl ?_
        exact kt
      refine ownE.go (T' := s₁) (f' := (mkF m 32 #[.val (.ref r0), .val (.int (0 : Int32)), .val (.int (2 : Int32))] [])) (fun t kt => XS.ifYes (g := (mkF m 11 #[.val (.ref r0), .val (.int (0 : Int32)), .val (.int (2 : Int32))] [(.int (0 : Int32))])) X0.here hx rfl (pc0 := 11) (pc' := 32) rfl (hb hby own_d1_11) rfl (Jvm.Free.XT.i0_eq_t (by decide)) (by decide) (by decide) kt) ?_
      refine ownE.go (T' := s₁) (f' := (mkF m 33 #[.val (.ref r0), .val (.int (0 : Int32)), .val (.int (2 : Int32))] [(.int (0 : Int32))])) (fun t kt => ?_) ?_
      · show Steps p.tables e below (s₁.setTop (mkF m 32 #[.val (.ref r0), .val (.int (0 : Int32)), .val (.int (2 : Int32))] [])) _
        refine XS.iloadN X0.here hx rfl (hb hby own_d1_32) rfl ?_
        exact kt
      refine ownE.retN X0 hx hlk (t := .boolean) hret (by simp) (hb hby own_d1_33) ?_ (by decide) (by decide)
      show own_Q1n4 Z r0 kk b0 b1 b2 b3 h0 n0 _ s₁.heap _
      rw [e0]
      exact ⟨(by rw [own_asc4, if_neg hc3, if_pos hc7] <;> first | rfl | decide), N0, rfl⟩
    · -- pc 17
      refine ownE.go (T' := s₁) (f' := (mkF m 20 #[.val (.ref r0), .val (.int (1 : Int32)), .val (.int (1 : Int32))] [])) (fun t kt => XS.ifNo (g := (mkF m 17 #[.val (.ref r0), .val (.int (1 : Int32)), .val (.int (1 : Int32))] [(.int b1)])) X0.here hx rfl (hb hby own_d1_17) rfl (Jvm.Free.XT.i0_lt_f hc7) kt) ?_
      refine ownE.go (T' := s₁) (f' := (mkF m 6 #[.val (.ref r0), .val (.int (1 : Int32)), .val (.int (2 : Int32))] [(.ref r0), (.int (2 : Int32))])) (fun t kt => ?_) ?_
      · show Steps p.tables e below (s₁.setTop (mkF m 20 #[.val (.ref r0), .val (.int (1 : Int32)), .val (.int (1 : Int32))] [])) _
        refine XS.iconst X0.here hx rfl (hb hby own_d1_20) ?_
        show Steps p.tables e below (s₁.setTop (mkF m 21 #[.val (.ref r0), .val (.int (1 : Int32)), .val (.int (1 : Int32))] [(.int (1 : Int32))])) _
        refine XS.goto X0.here hx rfl (pc0 := 21) (pc' := 25) rfl (hb hby own_d1_21) (by decide) (by decide) ?_
        show Steps p.tables e below (s₁.setTop (mkF m 25 #[.val (.ref r0), .val (.int (1 : Int32)), .val (.int (1 : Int32))] [(.int (1 : Int32))])) _
        refine XS.istoreN X0.here hx rfl (hb hby own_d1_25) rfl (l' := #[.val (.ref r0), .val (.int (1 : Int32)), .val (.int (1 : Int32))]) rfl ?_
        show Steps p.tables e below (s₁.setTop (mkF m 26 #[.val (.ref r0), .val (.int (1 : Int32)), .val (.int (1 : Int32))] [])) _
        refine XS.iinc X0.here hx rfl (hb hby own_d1_26) rfl (l' := #[.val (.ref r0), .val (.int (1 : Int32)), .val (.int (2 : Int32))]) rfl ?_
        show Steps p.tables e below (s₁.setTop (mkF m 29 #[.val (.ref r0), .val (.int (1 : Int32)), .val (.int (2 : Int32))] [])) _
        refine XS.goto X0.here hx rfl (pc0 := 29) (pc' := 4) rfl (hb hby own_d1_29) (by decide) (by decide) ?_
        show Steps p.tables e below (s₁.setTop (mkF m 4 #[.val (.ref r0), .val (.int (1 : Int32)), .val (.int (2 : Int32))] [])) _
        refine XS.iloadN X0.here hx rfl (hb hby own_d1_4) rfl ?_
        show Steps p.tables e below (s₁.setTop (mkF m 5 #[.val (.ref r0), .val (.int (1 : Int32)), .val (.int (2 : Int32))] [(.int (2 : Int32))])) _
        refine XS.aloadN X0.here hx rfl (hb hby own_d1_5) rfl rfl ?_
        exact kt
      obtain ⟨cl9, Ar9, q9, S9, Nn9, Hh9, G9⟩ := id P0
      refine ownE.go (T' := s₁) (f' := (mkF m 7 #[.val (.ref r0), .val (.int (1 : Int32)), .val (.int (2 : Int32))] [(.int (4 : Int32)), (.int (2 : Int32))])) (fun t kt => X0.arraylength hx (by rw [e0]; exact Ar9.1) (State.isArrayOf_alike hZ.alike Ar9.2.1) (g := (mkF m 6 #[.val (.ref r0), .val (.int (1 : Int32)), .val (.int (2 : Int32))] [(.ref r0), (.int (2 : Int32))])) rfl rfl (hb hby own_d1_6) _ (by rw [len_of S9 Nn9]; exact kt)) ?_
      refine ownE.go (T' := s₁) (f' := (mkF m 10 #[.val (.ref r0), .val (.int (1 : Int32)), .val (.int (2 : Int32))] [])) (fun t kt => XS.icmpNo (g := (mkF m 7 #[.val (.ref r0), .val (.int (1 : Int32)), .val (.int (2 : Int32))] [(.int (4 : Int32)), (.int (2 : Int32))])) X0.here hx rfl (hb hby own_d1_7) rfl (Jvm.Free.XT.ii_ge_f (by decide)) kt) ?_
      refine ownE.go (T' := s₁) (f' := (mkF m 11 #[.val (.ref r0), .val (.int (1 : Int32)), .val (.int (2 : Int32))] [(.int (1 : Int32))])) (fun t kt => ?_) ?_
      · show Steps p.tables e below (s₁.setTop (mkF m 10 #[.val (.ref r0), .val (.int (1 : Int32)), .val (.int (2 : Int32))] [])) _
        refine XS.iloadN X0.here hx rfl (hb hby own_d1_10) rfl ?_
        exact kt
      refine ownE.go (T' := s₁) (f' := (mkF m 14 #[.val (.ref r0), .val (.int (1 : Int32)), .val (.int (2 : Int32))] [])) (fun t kt => XS.ifNo (g := (mkF m 11 #[.val (.ref r0), .val (.int (1 : Int32)), .val (.int (2 : Int32))] [(.int (1 : Int32))])) X0.here hx rfl (hb hby own_d1_11) rfl (Jvm.Free.XT.i0_eq_f (by decide)) kt) ?_
      refine ownE.go (T' := s₁) (f' := (mkF m 16 #[.val (.ref r0), .val (.int (1 : Int32)), .val (.int (2 : Int32))] [(.int (2 : Int32)), (.ref r0)])) (fun t kt => ?_) ?_
      · show Steps p.tables e below (s₁.setTop (mkF m 14 #[.val (.ref r0), .val (.int (1 : Int32)), .val (.int (2 : Int32))] [])) _
        refine XS.aloadN X0.here hx rfl (hb hby own_d1_14) rfl rfl ?_
        show Steps p.tables e below (s₁.setTop (mkF m 15 #[.val (.ref r0), .val (.int (1 : Int32)), .val (.int (2 : Int32))] [(.ref r0)])) _
        refine XS.iloadN X0.here hx rfl (hb hby own_d1_15) rfl ?_
        exact kt
      obtain ⟨cl10, Ar10, q10, S10, Nn10, Hh10, G10⟩ := id P0
      refine ownE.go (T' := s₁) (f' := (mkF m 17 #[.val (.ref r0), .val (.int (1 : Int32)), .val (.int (2 : Int32))] [(.int b2)])) (fun t kt => X0.baloadBytes hx (j := (2 : Int32)) (v := (.int b2)) (by rw [e0]; exact Ar10.1) (State.isArrayOf_alike hZ.alike Ar10.2.1) Ar10.2.2 (inb_of S10 ⟨by decide, by decide⟩) (Hh10.at (inb_of S10 ⟨by decide, by decide⟩) rfl) (g := (mkF m 16 #[.val (.ref r0), .val (.int (1 : Int32)), .val (.int (2 : Int32))] [(.int (2 : Int32)), (.ref r0)])) rfl rfl (hb hby own_d1_16) _ kt) ?_
      by_cases hc11 : b2 < (0 : Int32)
      · -- pc 17
        refine ownE.go (T' := s₁) (f' := (mkF m 24 #[.val (.ref r0), .val (.int (1 : Int32)), .val (.int (2 : Int32))] [])) (fun t kt => XS.ifYes (g := (mkF m 17 #[.val (.ref r0), .val (.int (1 : Int32)), .val (.int (2 : Int32))] [(.int b2)])) X0.here hx rfl (pc0 := 17) (pc' := 24) rfl (hb hby own_d1_17) rfl (Jvm.Free.XT.i0_lt_t hc11) (by decide) (by decide) kt) ?_
        refine ownE.go (T' := s₁) (f' := (mkF m 6 #[.val (.ref r0), .val (.int (0 : Int32)), .val (.int (3 : Int32))] [(.ref r0), (.int (3 : Int32))])) (fun t kt => ?_) ?_
        · show Steps p.tables e below (s₁.setTop (mkF m 24 #[.val (.ref r0), .val (.int (1 : Int32)), .val (.int (2 : Int32))] [])) _
          refine XS.iconst X0.here hx rfl (hb hby own_d1_24) ?_
          show Steps p.tables e below (s₁.setTop (mkF m 25 #[.val (.ref r0), .val (.int (1 : Int32)), .val (.int (2 : Int32))] [(.int (0 : Int32))])) _
          refine XS.istoreN X0.here hx rfl (hb hby own_d1_25) rfl (l' := #[.val (.ref r0), .val (.int (0 : Int32)), .val (.int (2 : Int32))]) rfl ?_
          show Steps p.tables e below (s₁.setTop (mkF m 26 #[.val (.ref r0), .val (.int (0 : Int32)), .val (.int (2 : Int32))] [])) _
          refine XS.iinc X0.here hx rfl (hb hby own_d1_26) rfl (l' := #[.val (.ref r0), .val (.int (0 : Int32)), .val (.int (3 : Int32))]) rfl ?_
          show Steps p.tables e below (s₁.setTop (mkF m 29 #[.val (.ref r0), .val (.int (0 : Int32)), .val (.int (3 : Int32))] [])) _
          refine XS.goto X0.here hx rfl (pc0 := 29) (pc' := 4) rfl (hb hby own_d1_29) (by decide) (by decide) ?_
          show Steps p.tables e below (s₁.setTop (mkF m 4 #[.val (.ref r0), .val (.int (0 : Int32)), .val (.int (3 : Int32))] [])) _
          refine XS.iloadN X0.here hx rfl (hb hby own_d1_4) rfl ?_
          show Steps p.tables e below (s₁.setTop (mkF m 5 #[.val (.ref r0), .val (.int (0 : Int32)), .val (.int (3 : Int32))] [(.int (3 : Int32))])) _
          refine XS.aloadN X0.here hx rfl (hb hby own_d1_5) rfl rfl ?_
          exact kt
        obtain ⟨cl12, Ar12, q12, S12, Nn12, Hh12, G12⟩ := id P0
        refine ownE.go (T' := s₁) (f' := (mkF m 7 #[.val (.ref r0), .val (.int (0 : Int32)), .val (.int (3 : Int32))] [(.int (4 : Int32)), (.int (3 : Int32))])) (fun t kt => X0.arraylength hx (by rw [e0]; exact Ar12.1) (State.isArrayOf_alike hZ.alike Ar12.2.1) (g := (mkF m 6 #[.val (.ref r0), .val (.int (0 : Int32)), .val (.int (3 : Int32))] [(.ref r0), (.int (3 : Int32))])) rfl rfl (hb hby own_d1_6) _ (by rw [len_of S12 Nn12]; exact kt)) ?_
        refine ownE.go (T' := s₁) (f' := (mkF m 10 #[.val (.ref r0), .val (.int (0 : Int32)), .val (.int (3 : Int32))] [])) (fun t kt => XS.icmpNo (g := (mkF m 7 #[.val (.ref r0), .val (.int (0 : Int32)), .val (.int (3 : Int32))] [(.int (4 : Int32)), (.int (3 : Int32))])) X0.here hx rfl (hb hby own_d1_7) rfl (Jvm.Free.XT.ii_ge_f (by decide)) kt) ?_
        refine ownE.go (T' := s₁) (f' := (mkF m 11 #[.val (.ref r0), .val (.int (0 : Int32)), .val (.int (3 : Int32))] [(.int (0 : Int32))])) (fun t kt => ?_) ?_
        · show Steps p.tables e below (s₁.setTop (mkF m 10 #[.val (.ref r0), .val (.int (0 : Int32)), .val (.int (3 : Int32))] [])) _
          refine XS.iloadN X0.here hx rfl (hb hby own_d1_10) rfl ?_
          exact kt
        refine ownE.go (T' := s₁) (f' := (mkF m 32 #[.val (.ref r0), .val (.int (0 : Int32)), .val (.int (3 : Int32))] [])) (fun t kt => XS.ifYes (g := (mkF m 11 #[.val (.ref r0), .val (.int (0 : Int32)), .val (.int (3 : Int32))] [(.int (0 : Int32))])) X0.here hx rfl (pc0 := 11) (pc' := 32) rfl (hb hby own_d1_11) rfl (Jvm.Free.XT.i0_eq_t (by decide)) (by decide) (by decide) kt) ?_
        refine ownE.go (T' := s₁) (f' := (mkF m 33 #[.val (.ref r0), .val (.int (0 : Int32)), .val (.int (3 : Int32))] [(.int (0 : Int32))])) (fun t kt => ?_) ?_
        · show Steps p.tables e below (s₁.setTop (mkF m 32 #[.val (.ref r0), .val (.int (0 : Int32)), .val (.int (3 : Int32))] [])) _
          refine XS.iloadN X0.here hx rfl (hb hby own_d1_32) rfl ?_
          exact kt
        refine ownE.retN X0 hx hlk (t := .boolean) hret (by simp) (hb hby own_d1_33) ?_ (by decide) (by decide)
        show own_Q1n4 Z r0 kk b0 b1 b2 b3 h0 n0 _ s₁.heap _
        rw [e0]
        exact ⟨(by rw [own_asc4, if_neg hc3, if_neg hc7, if_pos hc11] <;> first | rfl | decide), N0, rfl⟩
      · -- pc 17
        refine ownE.go (T' := s₁) (f' := (mkF m 20 #[.val (.ref r0), .val (.int (1 : Int32)), .val (.int (2 : Int32))] [])) (fun t kt => XS.ifNo (g := (mkF m 17 #[.val (.ref r0), .val (.int (1 : Int32)), .val (.int (2 : Int32))] [(.int b2)])) X0.here hx rfl (hb hby own_d1_17) rfl (Jvm.Free.XT.i0_lt_f hc11) kt) ?_
        refine ownE.go (T' := s₁) (f' := (mkF m 6 #[.val (.ref r0), .val (.int (1 : Int32)), .val (.int (3 : Int32))] [(.ref r0), (.int (3 : Int32))])) (fun t kt => ?_) ?_
        · show Steps p.tables e below (s₁.setTop (mkF m 20 #[.val (.ref r0), .val (.int (1 : Int32)), .val (.int (2 : Int32))] [])) _
          refine XS.iconst X0.here hx rfl (hb hby own_d1_20) ?_
          show Steps p.tables e below (s₁.setTop (mkF m 21 #[.val (.ref r0), .val (.int (1 : Int32)), .val (.int (2 : Int32))] [(.int (1 : Int32))])) _
          refine XS.goto X0.here hx rfl (pc0 := 21) (pc' := 25) rfl (hb hby own_d1_21) (by decide) (by decide) ?_
          show Steps p.tables e below (s₁.setTop (mkF m 25 #[.val (.ref r0), .val (.int (1 : Int32)), .val (.int (2 : Int32))] [(.int (1 : Int32))])) _
          refine XS.istoreN X0.here hx rfl (hb hby own_d1_25) rfl (l' := #[.val (.ref r0), .val (.int (1 : Int32)), .val (.int (2 : Int32))]) rfl ?_
          show Steps p.tables e below (s₁.setTop (mkF m 26 #[.val (.ref r0), .val (.int (1 : Int32)), .val (.int (2 : Int32))] [])) _
          refine XS.iinc X0.here hx rfl (hb hby own_d1_26) rfl (l' := #[.val (.ref r0), .val (.int (1 : Int32)), .val (.int (3 : Int32))]) rfl ?_
          show Steps p.tables e below (s₁.setTop (mkF m 29 #[.val (.ref r0), .val (.int (1 : Int32)), .val (.int (3 : Int32))] [])) _
          refine XS.goto X0.here hx rfl (pc0 := 29) (pc' := 4) rfl (hb hby own_d1_29) (by decide) (by decide) ?_
          show Steps p.tables e below (s₁.setTop (mkF m 4 #[.val (.ref r0), .val (.int (1 : Int32)), .val (.int (3 : Int32))] [])) _
          refine XS.iloadN X0.here hx rfl (hb hby own_d1_4) rfl ?_
          show Steps p.tables e below (s₁.setTop (mkF m 5 #[.val (.ref r0), .val (.int (1 : Int32)), .val (.int (3 : Int32))] [(.int (3 : Int32))])) _
          refine XS.aloadN X0.here hx rfl (hb hby own_d1_5) rfl rfl ?_
          exact kt
        obtain ⟨cl13, Ar13, q13, S13, Nn13, Hh13, G13⟩ := id P0
        refine ownE.go (T' := s₁) (f' := (mkF m 7 #[.val (.ref r0), .val (.int (1 : Int32)), .val (.int (3 : Int32))] [(.int (4 : Int32)), (.int (3 : Int32))])) (fun t kt => X0.arraylength hx (by rw [e0]; exact Ar13.1) (State.isArrayOf_alike hZ.alike Ar13.2.1) (g := (mkF m 6 #[.val (.ref r0), .val (.int (1 : Int32)), .val (.int (3 : Int32))] [(.ref r0), (.int (3 : Int32))])) rfl rfl (hb hby own_d1_6) _ (by rw [len_of S13 Nn13]; exact kt)) ?_
        refine ownE.go (T' := s₁) (f' := (mkF m 10 #[.val (.ref r0), .val (.int (1 : Int32)), .val (.int (3 : Int32))] [])) (fun t kt => XS.icmpNo (g := (mkF m 7 #[.val (.ref r0), .val (.int (1 : Int32)), .val (.int (3 : Int32))] [(.int (4 : Int32)), (.int (3 : Int32))])) X0.here hx rfl (hb hby own_d1_7) rfl (Jvm.Free.XT.ii_ge_f (by decide)) kt) ?_
        refine ownE.go (T' := s₁) (f' := (mkF m 11 #[.val (.ref r0), .val (.int (1 : Int32)), .val (.int (3 : Int32))] [(.int (1 : Int32))])) (fun t kt => ?_) ?_
        · show Steps p.tables e below (s₁.setTop (mkF m 10 #[.val (.ref r0), .val (.int (1 : Int32)), .val (.int (3 : Int32))] [])) _
          refine XS.iloadN X0.here hx rfl (hb hby own_d1_10) rfl ?_
          exact kt
        refine ownE.go (T' := s₁) (f' := (mkF m 14 #[.val (.ref r0), .val (.int (1 : Int32)), .val (.int (3 : Int32))] [])) (fun t kt => XS.ifNo (g := (mkF m 11 #[.val (.ref r0), .val (.int (1 : Int32)), .val (.int (3 : Int32))] [(.int (1 : Int32))])) X0.here hx rfl (hb hby own_d1_11) rfl (Jvm.Free.XT.i0_eq_f (by decide)) kt) ?_
        refine ownE.go (T' := s₁) (f' := (mkF m 16 #[.val (.ref r0), .val (.int (1 : Int32)), .val (.int (3 : Int32))] [(.int (3 : Int32)), (.ref r0)])) (fun t kt => ?_) ?_
        · show Steps p.tables e below (s₁.setTop (mkF m 14 #[.val (.ref r0), .val (.int (1 : Int32)), .val (.int (3 : Int32))] [])) _
          refine XS.aloadN X0.here hx rfl (hb hby own_d1_14) rfl rfl ?_
          show Steps p.tables e below (s₁.setTop (mkF m 15 #[.val (.ref r0), .val (.int (1 : Int32)), .val (.int (3 : Int32))] [(.ref r0)])) _
          refine XS.iloadN X0.here hx rfl (hb hby own_d1_15) rfl ?_
          exact kt
        obtain ⟨cl14, Ar14, q14, S14, Nn14, Hh14, G14⟩ := id P0
        refine ownE.go (T' := s₁) (f' := (mkF m 17 #[.val (.ref r0), .val (.int (1 : Int32)), .val (.int (3 : Int32))] [(.int b3)])) (fun t kt => X0.baloadBytes hx (j := (3 : Int32)) (v := (.int b3)) (by rw [e0]; exact Ar14.1) (State.isArrayOf_alike hZ.alike Ar14.2.1) Ar14.2.2 (inb_of S14 ⟨by decide, by decide⟩) (Hh14.at (inb_of S14 ⟨by decide, by decide⟩) rfl) (g := (mkF m 16 #[.val (.ref r0), .val (.int (1 : Int32)), .val (.int (3 : Int32))] [(.int (3 : Int32)), (.ref r0)])) rfl rfl (hb hby own_d1_16) _ kt) ?_
        by_cases hc15 : b3 < (0 : Int32)
        · -- pc 17
          refine ownE.go (T' := s₁) (f' := (mkF m 24 #[.val (.ref r0), .val (.int (1 : Int32)), .val (.int (3 : Int32))] [])) (fun t kt => XS.ifYes (g := (mkF m 17 #[.val (.ref r0), .val (.int (1 : Int32)), .val (.int (3 : Int32))] [(.int b3)])) X0.here hx rfl (pc0 := 17) (pc' := 24) rfl (hb hby own_d1_17) rfl (Jvm.Free.XT.i0_lt_t hc15) (by decide) (by decide) kt) ?_
          refine ownE.go (T' := s₁) (f' := (mkF m 6 #[.val (.ref r0), .val (.int (0 : Int32)), .val (.int (4 : Int32))] [(.ref r0), (.int (4 : Int32))])) (fun t kt => ?_) ?_
          · show Steps p.tables e below (s₁.setTop (mkF m 24 #[.val (.ref r0), .val (.int (1 : Int32)), .val (.int (3 : Int32))] [])) _
            refine XS.iconst X0.here hx rfl (hb hby own_d1_24) ?_
            show Steps p.tables e below (s₁.setTop (mkF m 25 #[.val (.ref r0), .val (.int (1 : Int32)), .val (.int (3 : Int32))] [(.int (0 : Int32))])) _
            refine XS.istoreN X0.here hx rfl (hb hby own_d1_25) rfl (l' := #[.val (.ref r0), .val (.int (0 : Int32)), .val (.int (3 : Int32))]) rfl ?_
            show Steps p.tables e below (s₁.setTop (mkF m 26 #[.val (.ref r0), .val (.int (0 : Int32)), .val (.int (3 : Int32))] [])) _
            refine XS.iinc X0.here hx rfl (hb hby own_d1_26) rfl (l' := #[.val (.ref r0), .val (.int (0 : Int32)), .val (.int (4 : Int32))]) rfl ?_
            show Steps p.tables e below (s₁.setTop (mkF m 29 #[.val (.ref r0), .val (.int (0 : Int32)), .val (.int (4 : Int32))] [])) _
            refine XS.goto X0.here hx rfl (pc0 := 29) (pc' := 4) rfl (hb hby own_d1_29) (by decide) (by decide) ?_
            show Steps p.tables e below (s₁.setTop (mkF m 4 #[.val (.ref r0), .val (.int (0 : Int32)), .val (.int (4 : Int32))] [])) _
            refine XS.iloadN X0.here hx rfl (hb hby own_d1_4) rfl ?_
            show Steps p.tables e below (s₁.setTop (mkF m 5 #[.val (.ref r0), .val (.int (0 : Int32)), .val (.int (4 : Int32))] [(.int (4 : Int32))])) _
            refine XS.aloadN X0.here hx rfl (hb hby own_d1_5) rfl rfl ?_
            exact kt
          obtain ⟨cl16, Ar16, q16, S16, Nn16, Hh16, G16⟩ := id P0
          refine ownE.go (T' := s₁) (f' := (mkF m 7 #[.val (.ref r0), .val (.int (0 : Int32)), .val (.int (4 : Int32))] [(.int (4 : Int32)), (.int (4 : Int32))])) (fun t kt => X0.arraylength hx (by rw [e0]; exact Ar16.1) (State.isArrayOf_alike hZ.alike Ar16.2.1) (g := (mkF m 6 #[.val (.ref r0), .val (.int (0 : Int32)), .val (.int (4 : Int32))] [(.ref r0), (.int (4 : Int32))])) rfl rfl (hb hby own_d1_6) _ (by rw [len_of S16 Nn16]; exact kt)) ?_
          refine ownE.go (T' := s₁) (f' := (mkF m 32 #[.val (.ref r0), .val (.int (0 : Int32)), .val (.int (4 : Int32))] [])) (fun t kt => XS.icmpYes (g := (mkF m 7 #[.val (.ref r0), .val (.int (0 : Int32)), .val (.int (4 : Int32))] [(.int (4 : Int32)), (.int (4 : Int32))])) X0.here hx rfl (pc0 := 7) (pc' := 32) rfl (hb hby own_d1_7) rfl (Jvm.Free.XT.ii_ge_t (by decide)) (by decide) (by decide) kt) ?_
          refine ownE.go (T' := s₁) (f' := (mkF m 33 #[.val (.ref r0), .val (.int (0 : Int32)), .val (.int (4 : Int32))] [(.int (0 : Int32))])) (fun t kt => ?_) ?_
          · show Steps p.tables e below (s₁.setTop (mkF m 32 #[.val (.ref r0), .val (.int (0 : Int32)), .val (.int (4 : Int32))] [])) _
            refine XS.iloadN X0.here hx rfl (hb hby own_d1_32) rfl ?_
            exact kt
          refine ownE.retN X0 hx hlk (t := .boolean) hret (by simp) (hb hby own_d1_33) ?_ (by decide) (by decide)
          show own_Q1n4 Z r0 kk b0 b1 b2 b3 h0 n0 _ s₁.heap _
          rw [e0]
          exact ⟨(by rw [own_asc4, if_neg hc3, if_neg hc7, if_neg hc11, if_pos hc15] <;> first | rfl | decide), N0, rfl⟩
        · -- pc 17
          refine ownE.go (T' := s₁) (f' := (mkF m 20 #[.val (.ref r0), .val (.int (1 : Int32)), .val (.int (3 : Int32))] [])) (fun t kt => XS.ifNo (g := (mkF m 17 #[.val (.ref r0), .val (.int (1 : Int32)), .val (.int (3 : Int32))] [(.int b3)])) X0.here hx rfl (hb hby own_d1_17) rfl (Jvm.Free.XT.i0_lt_f hc15) kt) ?_
          refine ownE.go (T' := s₁) (f' := (mkF m 6 #[.val (.ref r0), .val (.int (1 : Int32)), .val (.int (4 : Int32))] [(.ref r0), (.int (4 : Int32))])) (fun t kt => ?_) ?_
          · show Steps p.tables e below (s₁.setTop (mkF m 20 #[.val (.ref r0), .val (.int (1 : Int32)), .val (.int (3 : Int32))] [])) _
            refine XS.iconst X0.here hx rfl (hb hby own_d1_20) ?_
            show Steps p.tables e below (s₁.setTop (mkF m 21 #[.val (.ref r0), .val (.int (1 : Int32)), .val (.int (3 : Int32))] [(.int (1 : Int32))])) _
            refine XS.goto X0.here hx rfl (pc0 := 21) (pc' := 25) rfl (hb hby own_d1_21) (by decide) (by decide) ?_
            show Steps p.tables e below (s₁.setTop (mkF m 25 #[.val (.ref r0), .val (.int (1 : Int32)), .val (.int (3 : Int32))] [(.int (1 : Int32))])) _
            refine XS.istoreN X0.here hx rfl (hb hby own_d1_25) rfl (l' := #[.val (.ref r0), .val (.int (1 : Int32)), .val (.int (3 : Int32))]) rfl ?_
            show Steps p.tables e below (s₁.setTop (mkF m 26 #[.val (.ref r0), .val (.int (1 : Int32)), .val (.int (3 : Int32))] [])) _
            refine XS.iinc X0.here hx rfl (hb hby own_d1_26) rfl (l' := #[.val (.ref r0), .val (.int (1 : Int32)), .val (.int (4 : Int32))]) rfl ?_
            show Steps p.tables e below (s₁.setTop (mkF m 29 #[.val (.ref r0), .val (.int (1 : Int32)), .val (.int (4 : Int32))] [])) _
            refine XS.goto X0.here hx rfl (pc0 := 29) (pc' := 4) rfl (hb hby own_d1_29) (by decide) (by decide) ?_
            show Steps p.tables e below (s₁.setTop (mkF m 4 #[.val (.ref r0), .val (.int (1 : Int32)), .val (.int (4 : Int32))] [])) _
            refine XS.iloadN X0.here hx rfl (hb hby own_d1_4) rfl ?_
            show Steps p.tables e below (s₁.setTop (mkF m 5 #[.val (.ref r0), .val (.int (1 : Int32)), .val (.int (4 : Int32))] [(.int (4 : Int32))])) _
            refine XS.aloadN X0.here hx rfl (hb hby own_d1_5) rfl rfl ?_
            exact kt
          obtain ⟨cl17, Ar17, q17, S17, Nn17, Hh17, G17⟩ := id P0
          refine ownE.go (T' := s₁) (f' := (mkF m 7 #[.val (.ref r0), .val (.int (1 : Int32)), .val (.int (4 : Int32))] [(.int (4 : Int32)), (.int (4 : Int32))])) (fun t kt => X0.arraylength hx (by rw [e0]; exact Ar17.1) (State.isArrayOf_alike hZ.alike Ar17.2.1) (g := (mkF m 6 #[.val (.ref r0), .val (.int (1 : Int32)), .val (.int (4 : Int32))] [(.ref r0), (.int (4 : Int32))])) rfl rfl (hb hby own_d1_6) _ (by rw [len_of S17 Nn17]; exact kt)) ?_
          refine ownE.go (T' := s₁) (f' := (mkF m 32 #[.val (.ref r0), .val (.int (1 : Int32)), .val (.int (4 : Int32))] [])) (fun t kt => XS.icmpYes (g := (mkF m 7 #[.val (.ref r0), .val (.int (1 : Int32)), .val (.int (4 : Int32))] [(.int (4 : Int32)), (.int (4 : Int32))])) X0.here hx rfl (pc0 := 7) (pc' := 32) rfl (hb hby own_d1_7) rfl (Jvm.Free.XT.ii_ge_t (by decide)) (by decide) (by decide) kt) ?_
          refine ownE.go (T' := s₁) (f' := (mkF m 33 #[.val (.ref r0), .val (.int (1 : Int32)), .val (.int (4 : Int32))] [(.int (1 : Int32))])) (fun t kt => ?_) ?_
          · show Steps p.tables e below (s₁.setTop (mkF m 32 #[.val (.ref r0), .val (.int (1 : Int32)), .val (.int (4 : Int32))] [])) _
            refine XS.iloadN X0.here hx rfl (hb hby own_d1_32) rfl ?_
            exact kt
          refine ownE.retN X0 hx hlk (t := .boolean) hret (by simp) (hb hby own_d1_33) ?_ (by decide) (by decide)
          show own_Q1n4 Z r0 kk b0 b1 b2 b3 h0 n0 _ s₁.heap _
          rw [e0]
          exact ⟨(by rw [own_asc4, if_neg hc3, if_neg hc7, if_neg hc11, if_neg hc15] <;> first | rfl | decide), N0, rfl⟩
theorem own_fives (x : Int32) : (x &&& (2147483647 : Int32)) % (5 : Int32) = 0 ∨ (x &&& (2147483647 : Int32)) % (5 : Int32) = 1 ∨ (x &&& (2147483647 : Int32)) % (5 : Int32) = 2 ∨ (x &&& (2147483647 : Int32)) % (5 : Int32) = 3 ∨ (x &&& (2147483647 : Int32)) % (5 : Int32) = 4 := by
  have h := c_mask x 2147483647 31 (by decide) (by decide)
  have p : ((2 ^ 31 : Nat) : Int) = 2147483648 := by decide
  rw [p] at h
  have q := (c_irem (x &&& 2147483647) 5 5 (by decide)).1 (by omega)
  simp only [← Int32.toInt_inj, q]
  have z0 : (0 : Int32).toInt = 0 := by decide
  have z1 : (1 : Int32).toInt = 1 := by decide
  have z2 : (2 : Int32).toInt = 2 := by decide
  have z3 : (3 : Int32).toInt = 3 := by decide
  have z4 : (4 : Int32).toInt = 4 := by decide
  rw [z0, z1, z2, z3, z4]
  omega
theorem own_pd1 : parseMethodDescriptor "([B)Z" = some ⟨[(.array .byte)], some .boolean⟩ := by decide +kernel
def own_j0_184_S0 (i0 : Int32) (i1 : Int32) (i2 : Int32) (i3 : Int32) (i4 : Int32) : Int32 :=
  if (i1.toInt8.toInt32) < (0 : Int32) then
    (0 : Int32)
  else
    (1 : Int32)
def own_j0_184_S0_2 (i0 : Int32) (i1 : Int32) (i2 : Int32) (i3 : Int32) (i4 : Int32) : Int32 :=
  if (i1.toInt8.toInt32) < (0 : Int32) then
    (0 : Int32)
  else
    if (i2.toInt8.toInt32) < (0 : Int32) then
      (0 : Int32)
    else
      (1 : Int32)
def own_j0_184_S0_3 (i0 : Int32) (i1 : Int32) (i2 : Int32) (i3 : Int32) (i4 : Int32) : Int32 :=
  if (i1.toInt8.toInt32) < (0 : Int32) then
    (0 : Int32)
  else
    if (i2.toInt8.toInt32) < (0 : Int32) then
      (0 : Int32)
    else
      if (i3.toInt8.toInt32) < (0 : Int32) then
        (0 : Int32)
      else
        (1 : Int32)
def own_j0_184_S0_4 (i0 : Int32) (i1 : Int32) (i2 : Int32) (i3 : Int32) (i4 : Int32) : Int32 :=
  if (i1.toInt8.toInt32) < (0 : Int32) then
    (0 : Int32)
  else
    if (i2.toInt8.toInt32) < (0 : Int32) then
      (0 : Int32)
    else
      if (i3.toInt8.toInt32) < (0 : Int32) then
        (0 : Int32)
      else
        if (i4.toInt8.toInt32) < (0 : Int32) then
          (0 : Int32)
        else
          (1 : Int32)
theorem own_pn2 : plainName "com/example/libvalise/libvalise/ZipFormatIsAsciiPinLaw" = true := by first | (simp [plainName, overriddenIn]; done) | decide +kernel
theorem own_ef0 (m : MethodId) (x0 : Int32) (x1 : Int32) (x2 : Int32) (x3 : Int32) (x4 : Int32) : entryFrame m #[(.int x0), (.int x1), (.int x2), (.int x3), (.int x4)] maxLocals = mkF m 0 #[.val (.int x0), .val (.int x1), .val (.int x2), .val (.int x3), .val (.int x4), .unset, .unset, .unset, .unset, .unset, .unset, .unset] [] := by first | (simp [entryFrame, mkF, argsToLocals, Value.category, maxLocals]; done) | rfl
def own_f0 (i0 : Int32) (i1 : Int32) (i2 : Int32) (i3 : Int32) (i4 : Int32) : Int32 :=
  if ((i0 &&& (2147483647 : Int32)) % (5 : Int32)) = (0 : Int32) then
    (1 : Int32)
  else
    if ((i0 &&& (2147483647 : Int32)) % (5 : Int32)) = (1 : Int32) then
      if (own_asc1 ((i1.toInt8.toInt32).toInt8.toInt32)) = (own_j0_184_S0 i0 i1 i2 i3 i4) then
        (1 : Int32)
      else
        (0 : Int32)
    else
      if ((i0 &&& (2147483647 : Int32)) % (5 : Int32)) = (2 : Int32) then
        if (own_asc2 ((i1.toInt8.toInt32).toInt8.toInt32) ((i2.toInt8.toInt32).toInt8.toInt32)) = (own_j0_184_S0_2 i0 i1 i2 i3 i4) then
          (1 : Int32)
        else
          (0 : Int32)
      else
        if ((i0 &&& (2147483647 : Int32)) % (5 : Int32)) = (3 : Int32) then
          if (own_asc3 ((i1.toInt8.toInt32).toInt8.toInt32) ((i2.toInt8.toInt32).toInt8.toInt32) ((i3.toInt8.toInt32).toInt8.toInt32)) = (own_j0_184_S0_3 i0 i1 i2 i3 i4) then
            (1 : Int32)
          else
            (0 : Int32)
        else
          if (own_asc4 ((i1.toInt8.toInt32).toInt8.toInt32) ((i2.toInt8.toInt32).toInt8.toInt32) ((i3.toInt8.toInt32).toInt8.toInt32) ((i4.toInt8.toInt32).toInt8.toInt32)) = (own_j0_184_S0_4 i0 i1 i2 i3 i4) then
            (1 : Int32)
          else
            (0 : Int32)
def own_Q0 (Z : State) (i0 : Int32) (i1 : Int32) (i2 : Int32) (i3 : Int32) (i4 : Int32) (h0 : Heap) (n0 : Nat) (v : Option Value) (h : Heap) (L : List Loc) : Prop := v = some (.int (own_f0 i0 i1 i2 i3 i4)) ∧ Fr n0 L ∧ Keep h0 h []
set_option maxRecDepth 65536 in
set_option maxHeartbeats 40000000 in
theorem own_rm0 (l : Launch) (Z : State) (a0 : Array Value) (hw : ∀ d ∈ tables_1, d.before a0 Z = true) (ws : List Jvm.Cond) (i0 : Int32) (i1 : Int32) (i2 : Int32) (i3 : Int32) (i4 : Int32) (h0 : Heap) (n0 : Nat) (Z0 : n0 ≤ h0.size) :
    MetFree l x (head1 (Jvm.Cond.code x code maxLocals ret :: ws) room_1) (fun a U => a = #[(.int i0), (.int i1), (.int i2), (.int i3), (.int i4)] ∧ Z.Warmed39 U.vm ∧ U.heap = h0) (fun _ _ _ _ _ => True) (fun _ U o U' => ∃ v L, o = .returned v ∧ own_Q0 Z i0 i1 i2 i3 i4 h0 n0 v U'.heap L ∧ FrameEnd U o U' L 1 4) := by
  refine MetFree.of_bodySF (plainFor_of_name own_pn2) hisR ?_
  intro p e s m args below meth c s₁ Bd hml0 hP hK
  obtain ⟨rfl, hZ, hh⟩ := hP
  have hx := Bd.exec
  have hby := Bd.bytes
  have hret := Bd.returns
  have hlk := BodyLoose.notSynchronized Bd
  have hml : c.maxLocals = 12 := hml0
  have hown : s.vm.findClass "com/example/libvalise/libvalise/ZipFormatIsAsciiPinLaw" = some m.cls := findClass_of_methodNamed Bd.named
  have hnm := (name_of_methodNamed Bd.named Bd.method).1
  have X0 : Stand p l e room_1 s m #[(.int i0), (.int i1), (.int i2), (.int i3), (.int i4)] below meth c s₁ [] 0 0 := Stand.of_body Bd
  have e0 : s₁.heap = h0 := by rw [← hh, Bd.state]; rfl
  have N0 := Fr.nil n0
  have K0 : Keep h0 h0 [] := Keep.refl h0 _
  show ownE p e below s (own_Q0 Z i0 i1 i2 i3 i4 h0 n0) 1 4 s₁ (entryFrame m #[(.int i0), (.int i1), (.int i2), (.int i3), (.int i4)] maxLocals)
  rw [own_ef0]
  refine ownE.go (T' := s₁) (f' := (mkF m 25 #[.val (.int i0), .val (.int i1), .val (.int i2), .val (.int i3), .val (.int i4), .val (.int ((i0 &&& (2147483647 : Int32)) % (5 : Int32))), .val (.int (i1.toInt8.toInt32)), .val (.int (i2.toInt8.toInt32)), .val (.int (i3.toInt8.toInt32)), .val (.int (i4.toInt8.toInt32)), .unset, .unset] [])) (fun t kt => ?_) ?_
  · show Steps p.tables e below (s₁.setTop (mkF m 0 #[.val (.int i0), .val (.int i1), .val (.int i2), .val (.int i3), .val (.int i4), .unset, .unset, .unset, .unset, .unset, .unset, .unset] [])) _
    refine XS.iloadN X0.here hx rfl (hb hby at_0) rfl ?_
    show Steps p.tables e below (s₁.setTop (mkF m 1 #[.val (.int i0), .val (.int i1), .val (.int i2), .val (.int i3), .val (.int i4), .unset, .unset, .unset, .unset, .unset, .unset, .unset] [(.int i0)])) _
    refine X0.ldcInt hx hown (mvT hZ (hw _ (List.mem_of_getElem? (i := 0) rfl))) (g := (mkF m 1 #[.val (.int i0), .val (.int i1), .val (.int i2), .val (.int i3), .val (.int i4), .unset, .unset, .unset, .unset, .unset, .unset, .unset] [(.int i0)])) rfl (hb hby at_1) _ ?_
    show Steps p.tables e below (s₁.setTop (mkF m 3 #[.val (.int i0), .val (.int i1), .val (.int i2), .val (.int i3), .val (.int i4), .unset, .unset, .unset, .unset, .unset, .unset, .unset] [(.int (2147483647 : Int32)), (.int i0)])) _
    refine XS.iand X0.here hx rfl (hb hby at_3) rfl ?_
    show Steps p.tables e below (s₁.setTop (mkF m 4 #[.val (.int i0), .val (.int i1), .val (.int i2), .val (.int i3), .val (.int i4), .unset, .unset, .unset, .unset, .unset, .unset, .unset] [(.int (i0 &&& (2147483647 : Int32)))])) _
    refine XS.iconst X0.here hx rfl (hb hby at_4) ?_
    show Steps p.tables e below (s₁.setTop (mkF m 5 #[.val (.int i0), .val (.int i1), .val (.int i2), .val (.int i3), .val (.int i4), .unset, .unset, .unset, .unset, .unset, .unset, .unset] [(.int (5 : Int32)), (.int (i0 &&& (2147483647 : Int32)))])) _
    refine iremM X0 hx rfl (hb hby at_5) rfl (by decide) ?_
    show Steps p.tables e below (s₁.setTop (mkF m 6 #[.val (.int i0), .val (.int i1), .val (.int i2), .val (.int i3), .val (.int i4), .unset, .unset, .unset, .unset, .unset, .unset, .unset] [(.int ((i0 &&& (2147483647 : Int32)) % (5 : Int32)))])) _
    refine XS.istore X0.here hx rfl (hb hby at_6) rfl (l' := #[.val (.int i0), .val (.int i1), .val (.int i2), .val (.int i3), .val (.int i4), .val (.int ((i0 &&& (2147483647 : Int32)) % (5 : Int32))), .unset, .unset, .unset, .unset, .unset, .unset]) rfl ?_
    show Steps p.tables e below (s₁.setTop (mkF m 8 #[.val (.int i0), .val (.int i1), .val (.int i2), .val (.int i3), .val (.int i4), .val (.int ((i0 &&& (2147483647 : Int32)) % (5 : Int32))), .unset, .unset, .unset, .unset, .unset, .unset] [])) _
    refine XS.iloadN X0.here hx rfl (hb hby at_8) rfl ?_
    show Steps p.tables e below (s₁.setTop (mkF m 9 #[.val (.int i0), .val (.int i1), .val (.int i2), .val (.int i3), .val (.int i4), .val (.int ((i0 &&& (2147483647 : Int32)) % (5 : Int32))), .unset, .unset, .unset, .unset, .unset, .unset] [(.int i1)])) _
    refine XS.i2b X0.here hx rfl (hb hby at_9) rfl ?_
    show Steps p.tables e below (s₁.setTop (mkF m 10 #[.val (.int i0), .val (.int i1), .val (.int i2), .val (.int i3), .val (.int i4), .val (.int ((i0 &&& (2147483647 : Int32)) % (5 : Int32))), .unset, .unset, .unset, .unset, .unset, .unset] [(.int (i1.toInt8.toInt32))])) _
    refine XS.istore X0.here hx rfl (hb hby at_10) rfl (l' := #[.val (.int i0), .val (.int i1), .val (.int i2), .val (.int i3), .val (.int i4), .val (.int ((i0 &&& (2147483647 : Int32)) % (5 : Int32))), .val (.int (i1.toInt8.toInt32)), .unset, .unset, .unset, .unset, .unset]) rfl ?_
    show Steps p.tables e below (s₁.setTop (mkF m 12 #[.val (.int i0), .val (.int i1), .val (.int i2), .val (.int i3), .val (.int i4), .val (.int ((i0 &&& (2147483647 : Int32)) % (5 : Int32))), .val (.int (i1.toInt8.toInt32)), .unset, .unset, .unset, .unset, .unset] [])) _
    refine XS.iloadN X0.here hx rfl (hb hby at_12) rfl ?_
    show Steps p.tables e below (s₁.setTop (mkF m 13 #[.val (.int i0), .val (.int i1), .val (.int i2), .val (.int i3), .val (.int i4), .val (.int ((i0 &&& (2147483647 : Int32)) % (5 : Int32))), .val (.int (i1.toInt8.toInt32)), .unset, .unset, .unset, .unset, .unset] [(.int i2)])) _
    refine XS.i2b X0.here hx rfl (hb hby at_13) rfl ?_
    show Steps p.tables e below (s₁.setTop (mkF m 14 #[.val (.int i0), .val (.int i1), .val (.int i2), .val (.int i3), .val (.int i4), .val (.int ((i0 &&& (2147483647 : Int32)) % (5 : Int32))), .val (.int (i1.toInt8.toInt32)), .unset, .unset, .unset, .unset, .unset] [(.int (i2.toInt8.toInt32))])) _
    refine XS.istore X0.here hx rfl (hb hby at_14) rfl (l' := #[.val (.int i0), .val (.int i1), .val (.int i2), .val (.int i3), .val (.int i4), .val (.int ((i0 &&& (2147483647 : Int32)) % (5 : Int32))), .val (.int (i1.toInt8.toInt32)), .val (.int (i2.toInt8.toInt32)), .unset, .unset, .unset, .unset]) rfl ?_
    show Steps p.tables e below (s₁.setTop (mkF m 16 #[.val (.int i0), .val (.int i1), .val (.int i2), .val (.int i3), .val (.int i4), .val (.int ((i0 &&& (2147483647 : Int32)) % (5 : Int32))), .val (.int (i1.toInt8.toInt32)), .val (.int (i2.toInt8.toInt32)), .unset, .unset, .unset, .unset] [])) _
    refine XS.iloadN X0.here hx rfl (hb hby at_16) rfl ?_
    show Steps p.tables e below (s₁.setTop (mkF m 17 #[.val (.int i0), .val (.int i1), .val (.int i2), .val (.int i3), .val (.int i4), .val (.int ((i0 &&& (2147483647 : Int32)) % (5 : Int32))), .val (.int (i1.toInt8.toInt32)), .val (.int (i2.toInt8.toInt32)), .unset, .unset, .unset, .unset] [(.int i3)])) _
    refine XS.i2b X0.here hx rfl (hb hby at_17) rfl ?_
    show Steps p.tables e below (s₁.setTop (mkF m 18 #[.val (.int i0), .val (.int i1), .val (.int i2), .val (.int i3), .val (.int i4), .val (.int ((i0 &&& (2147483647 : Int32)) % (5 : Int32))), .val (.int (i1.toInt8.toInt32)), .val (.int (i2.toInt8.toInt32)), .unset, .unset, .unset, .unset] [(.int (i3.toInt8.toInt32))])) _
    refine XS.istore X0.here hx rfl (hb hby at_18) rfl (l' := #[.val (.int i0), .val (.int i1), .val (.int i2), .val (.int i3), .val (.int i4), .val (.int ((i0 &&& (2147483647 : Int32)) % (5 : Int32))), .val (.int (i1.toInt8.toInt32)), .val (.int (i2.toInt8.toInt32)), .val (.int (i3.toInt8.toInt32)), .unset, .unset, .unset]) rfl ?_
    show Steps p.tables e below (s₁.setTop (mkF m 20 #[.val (.int i0), .val (.int i1), .val (.int i2), .val (.int i3), .val (.int i4), .val (.int ((i0 &&& (2147483647 : Int32)) % (5 : Int32))), .val (.int (i1.toInt8.toInt32)), .val (.int (i2.toInt8.toInt32)), .val (.int (i3.toInt8.toInt32)), .unset, .unset, .unset] [])) _
    refine XS.iload X0.here hx rfl (hb hby at_20) rfl ?_
    show Steps p.tables e below (s₁.setTop (mkF m 22 #[.val (.int i0), .val (.int i1), .val (.int i2), .val (.int i3), .val (.int i4), .val (.int ((i0 &&& (2147483647 : Int32)) % (5 : Int32))), .val (.int (i1.toInt8.toInt32)), .val (.int (i2.toInt8.toInt32)), .val (.int (i3.toInt8.toInt32)), .unset, .unset, .unset] [(.int i4)])) _
    refine XS.i2b X0.here hx rfl (hb hby at_22) rfl ?_
    show Steps p.tables e below (s₁.setTop (mkF m 23 #[.val (.int i0), .val (.int i1), .val (.int i2), .val (.int i3), .val (.int i4), .val (.int ((i0 &&& (2147483647 : Int32)) % (5 : Int32))), .val (.int (i1.toInt8.toInt32)), .val (.int (i2.toInt8.toInt32)), .val (.int (i3.toInt8.toInt32)), .unset, .unset, .unset] [(.int (i4.toInt8.toInt32))])) _
    refine XS.istore X0.here hx rfl (hb hby at_23) rfl (l' := #[.val (.int i0), .val (.int i1), .val (.int i2), .val (.int i3), .val (.int i4), .val (.int ((i0 &&& (2147483647 : Int32)) % (5 : Int32))), .val (.int (i1.toInt8.toInt32)), .val (.int (i2.toInt8.toInt32)), .val (.int (i3.toInt8.toInt32)), .val (.int (i4.toInt8.toInt32)), .unset, .unset]) rfl ?_
    exact kt
  rcases own_fives i0 with hk1 | hk1 | hk1 | hk1 | hk1
  · -- ((i0 &&& (2147483647 : Int32)) % (5 : Int32)) = 0
    have hf1 : (mkF m 25 #[.val (.int i0), .val (.int i1), .val (.int i2), .val (.int i3), .val (.int i4), .val (.int ((i0 &&& (2147483647 : Int32)) % (5 : Int32))), .val (.int (i1.toInt8.toInt32)), .val (.int (i2.toInt8.toInt32)), .val (.int (i3.toInt8.toInt32)), .val (.int (i4.toInt8.toInt32)), .unset, .unset] []) = (mkF m 25 #[.val (.int i0), .val (.int i1), .val (.int i2), .val (.int i3), .val (.int i4), .val (.int (0 : Int32)), .val (.int (i1.toInt8.toInt32)), .val (.int (i2.toInt8.toInt32)), .val (.int (i3.toInt8.toInt32)), .val (.int (i4.toInt8.toInt32)), .unset, .unset] []) := by rw [hk1]
    rw [hf1]
    refine ownE.go (T' := s₁) (f' := (mkF m 27 #[.val (.int i0), .val (.int i1), .val (.int i2), .val (.int i3), .val (.int i4), .val (.int (0 : Int32)), .val (.int (i1.toInt8.toInt32)), .val (.int (i2.toInt8.toInt32)), .val (.int (i3.toInt8.toInt32)), .val (.int (i4.toInt8.toInt32)), .unset, .unset] [(.int (0 : Int32))])) (fun t kt => ?_) ?_
    · show Steps p.tables e below (s₁.setTop (mkF m 25 #[.val (.int i0), .val (.int i1), .val (.int i2), .val (.int i3), .val (.int i4), .val (.int (0 : Int32)), .val (.int (i1.toInt8.toInt32)), .val (.int (i2.toInt8.toInt32)), .val (.int (i3.toInt8.toInt32)), .val (.int (i4.toInt8.toInt32)), .unset, .unset] [])) _
      refine XS.iload X0.here hx rfl (hb hby at_25) rfl ?_
      exact kt
    refine ownE.go (T' := s₁) (f' := (mkF m 30 #[.val (.int i0), .val (.int i1), .val (.int i2), .val (.int i3), .val (.int i4), .val (.int (0 : Int32)), .val (.int (i1.toInt8.toInt32)), .val (.int (i2.toInt8.toInt32)), .val (.int (i3.toInt8.toInt32)), .val (.int (i4.toInt8.toInt32)), .unset, .unset] [])) (fun t kt => XS.ifNo (g := (mkF m 27 #[.val (.int i0), .val (.int i1), .val (.int i2), .val (.int i3), .val (.int i4), .val (.int (0 : Int32)), .val (.int (i1.toInt8.toInt32)), .val (.int (i2.toInt8.toInt32)), .val (.int (i3.toInt8.toInt32)), .val (.int (i4.toInt8.toInt32)), .unset, .unset] [(.int (0 : Int32))])) X0.here hx rfl (hb hby at_27) rfl (Jvm.Free.XT.i0_ne_f (by decide)) kt) ?_
    refine ownE.go (T' := s₁) (f' := (mkF m 31 #[.val (.int i0), .val (.int i1), .val (.int i2), .val (.int i3), .val (.int i4), .val (.int (0 : Int32)), .val (.int (i1.toInt8.toInt32)), .val (.int (i2.toInt8.toInt32)), .val (.int (i3.toInt8.toInt32)), .val (.int (i4.toInt8.toInt32)), .unset, .unset] [(.int (0 : Int32))])) (fun t kt => ?_) ?_
    · show Steps p.tables e below (s₁.setTop (mkF m 30 #[.val (.int i0), .val (.int i1), .val (.int i2), .val (.int i3), .val (.int i4), .val (.int (0 : Int32)), .val (.int (i1.toInt8.toInt32)), .val (.int (i2.toInt8.toInt32)), .val (.int (i3.toInt8.toInt32)), .val (.int (i4.toInt8.toInt32)), .unset, .unset] [])) _
      refine XS.iconst X0.here hx rfl (hb hby at_30) ?_
      exact kt
    obtain ⟨T2, h2, k2, X2, e2, E2, A2, st2⟩ := newP X0 hx hZ (hw _ (List.mem_of_getElem? (i := 1) rfl)) e0 (g := (mkF m 31 #[.val (.int i0), .val (.int i1), .val (.int i2), .val (.int i3), .val (.int i4), .val (.int (0 : Int32)), .val (.int (i1.toInt8.toInt32)), .val (.int (i2.toInt8.toInt32)), .val (.int (i3.toInt8.toInt32)), .val (.int (i4.toInt8.toInt32)), .unset, .unset] [(.int (0 : Int32))])) rfl (hb hby at_31) rfl (by decide) (cap := 0) (by decide) (by decide) (by decide) (by decide)
    obtain ⟨b2, g2⟩ : ∃ z, z = h0.size := ⟨_, rfl⟩
    rw [← g2] at A2 st2
    have sz_b2 : h0.size ≤ b2 := Nat.le_trans K0.1 (Nat.le_of_eq g2.symm)
    have ge_b2 : n0 ≤ b2 := Nat.le_trans Z0 sz_b2
    have V2 : Arv Z h2 b2 k2 .byte (0 : Int32) [] (.int (0 : Int32)) := (Arv.new A2 (by decide)).pad (pad_rep [] (.int (0 : Int32)) 0)
    have K2 : Keep h0 h2 [] := K0.ext E2
    refine ownE.go (T' := T2) (f' := (mkF m 33 #[.val (.int i0), .val (.int i1), .val (.int i2), .val (.int i3), .val (.int i4), .val (.int (0 : Int32)), .val (.int (i1.toInt8.toInt32)), .val (.int (i2.toInt8.toInt32)), .val (.int (i3.toInt8.toInt32)), .val (.int (i4.toInt8.toInt32)), .unset, .unset] [(.ref b2)])) st2 ?_
    refine ownE.go (T' := T2) (f' := (mkF m 135 #[.val (.int i0), .val (.int i1), .val (.int i2), .val (.int i3), .val (.int i4), .val (.int (0 : Int32)), .val (.int (i1.toInt8.toInt32)), .val (.int (i2.toInt8.toInt32)), .val (.int (i3.toInt8.toInt32)), .val (.int (i4.toInt8.toInt32)), .val (.ref b2), .unset] [])) (fun t kt => ?_) ?_
    · show Steps p.tables e below (T2.setTop (mkF m 33 #[.val (.int i0), .val (.int i1), .val (.int i2), .val (.int i3), .val (.int i4), .val (.int (0 : Int32)), .val (.int (i1.toInt8.toInt32)), .val (.int (i2.toInt8.toInt32)), .val (.int (i3.toInt8.toInt32)), .val (.int (i4.toInt8.toInt32)), .unset, .unset] [(.ref b2)])) _
      refine XS.astore X2.here hx rfl (hb hby at_33) rfl rfl (l' := #[.val (.int i0), .val (.int i1), .val (.int i2), .val (.int i3), .val (.int i4), .val (.int (0 : Int32)), .val (.int (i1.toInt8.toInt32)), .val (.int (i2.toInt8.toInt32)), .val (.int (i3.toInt8.toInt32)), .val (.int (i4.toInt8.toInt32)), .val (.ref b2), .unset]) rfl ?_
      show Steps p.tables e below (T2.setTop (mkF m 35 #[.val (.int i0), .val (.int i1), .val (.int i2), .val (.int i3), .val (.int i4), .val (.int (0 : Int32)), .val (.int (i1.toInt8.toInt32)), .val (.int (i2.toInt8.toInt32)), .val (.int (i3.toInt8.toInt32)), .val (.int (i4.toInt8.toInt32)), .val (.ref b2), .unset] [])) _
      refine XS.goto X2.here hx rfl (pc0 := 35) (pc' := 135) rfl (hb hby at_35) (by decide) (by decide) ?_
      exact kt
    have J4 : ∀ (TJ4 : State) (locsJ4 : List Loc), Stand p l e room_1 s m #[(.int i0), (.int i1), (.int i2), (.int i3), (.int i4)] below meth c TJ4 locsJ4 1 0 → TJ4.heap = h2 → Fr n0 locsJ4 → ownE p e below s (own_Q0 Z i0 i1 i2 i3 i4 h0 n0) 1 4 TJ4 (mkF m 184 #[.val (.int i0), .val (.int i1), .val (.int i2), .val (.int i3), .val (.int i4), .val (.int (0 : Int32)), .val (.int (i1.toInt8.toInt32)), .val (.int (i2.toInt8.toInt32)), .val (.int (i3.toInt8.toInt32)), .val (.int (i4.toInt8.toInt32)), .val (.ref b2), .unset] [(.int (1 : Int32))]) := by
      intro TJ4 locsJ4 XJ4 eJ4 NJ4
      refine ownE.go (T' := TJ4) (f' := (mkF m 188 #[.val (.int i0), .val (.int i1), .val (.int i2), .val (.int i3), .val (.int i4), .val (.int (0 : Int32)), .val (.int (i1.toInt8.toInt32)), .val (.int (i2.toInt8.toInt32)), .val (.int (i3.toInt8.toInt32)), .val (.int (i4.toInt8.toInt32)), .val (.ref b2), .val (.int (1 : Int32))] [(.ref b2)])) (fun t kt => ?_) ?_
      · show Steps p.tables e below (TJ4.setTop (mkF m 184 #[.val (.int i0), .val (.int i1), .val (.int i2), .val (.int i3), .val (.int i4), .val (.int (0 : Int32)), .val (.int (i1.toInt8.toInt32)), .val (.int (i2.toInt8.toInt32)), .val (.int (i3.toInt8.toInt32)), .val (.int (i4.toInt8.toInt32)), .val (.ref b2), .unset] [(.int (1 : Int32))])) _
        refine XS.istore XJ4.here hx rfl (hb hby at_184) rfl (l' := #[.val (.int i0), .val (.int i1), .val (.int i2), .val (.int i3), .val (.int i4), .val (.int (0 : Int32)), .val (.int (i1.toInt8.toInt32)), .val (.int (i2.toInt8.toInt32)), .val (.int (i3.toInt8.toInt32)), .val (.int (i4.toInt8.toInt32)), .val (.ref b2), .val (.int (1 : Int32))]) rfl ?_
        show Steps p.tables e below (TJ4.setTop (mkF m 186 #[.val (.int i0), .val (.int i1), .val (.int i2), .val (.int i3), .val (.int i4), .val (.int (0 : Int32)), .val (.int (i1.toInt8.toInt32)), .val (.int (i2.toInt8.toInt32)), .val (.int (i3.toInt8.toInt32)), .val (.int (i4.toInt8.toInt32)), .val (.ref b2), .val (.int (1 : Int32))] [])) _
        refine XS.aload XJ4.here hx rfl (hb hby at_186) rfl rfl ?_
        exact kt
      obtain ⟨_, _, ⟨T5, L5, k5, n5⟩, -, X5, ⟨Lc5, hQ5, l5, y5, z5⟩, st5⟩ := Jvm.LawKit.callS XJ4 hx (y := (⟨"com/example/libvalise/libvalise/ZipFormat", "isAscii", "([B)Z"⟩ : MethodName)) hown (mvT hZ (hw _ (List.mem_of_getElem? (i := 2) rfl))) (mvT hZ (hw _ (List.mem_of_getElem? (i := 3) rfl))) (mvT hZ (hw _ (List.mem_of_getElem? (i := 4) rfl))) (mvT hZ (hw _ (List.mem_of_getElem? (i := 5) rfl))) (by decide) (backOf (W := 0) (own_rm1n0 l Z a0 hw [] b2 k2 h2 n0 (Nat.le_trans Z0 K2.1) V2) hZ (hw _ (List.mem_of_getElem? (i := 5) rfl)) (hw _ (List.mem_of_getElem? (i := 4) rfl)) (by decide) (by decide)) (g := (mkF m 188 #[.val (.int i0), .val (.int i1), .val (.int i2), .val (.int i3), .val (.int i4), .val (.int (0 : Int32)), .val (.int (i1.toInt8.toInt32)), .val (.int (i2.toInt8.toInt32)), .val (.int (i3.toInt8.toInt32)), .val (.int (i4.toInt8.toInt32)), .val (.ref b2), .val (.int (1 : Int32))] [(.ref b2)])) rfl (by rw [hml]; rfl) (argsL := [(.ref b2)]) (rest := []) (lenOf own_pd1 rfl) rfl (by show 2 * 0 + _ ≤ _; exact Nat.le_of_eq rfl) (hb hby at_188) (fun _ _ => ⟨rfl, eJ4, (by decide : 1 + 0 ≤ _), (by decide : 0 + 0 ≤ _)⟩)
      dsimp only [Pt.U, Pt.locs, Pt.cells, Pt.slots] at X5 l5 y5 z5 st5 hQ5
      subst l5 y5 z5
      obtain ⟨rfl, N5q, e5⟩ := hQ5
      have N5 := Fr.app NJ4 N5q
      refine ownE.go (T' := T5) (f' := (mkF m 191 #[.val (.int i0), .val (.int i1), .val (.int i2), .val (.int i3), .val (.int i4), .val (.int (0 : Int32)), .val (.int (i1.toInt8.toInt32)), .val (.int (i2.toInt8.toInt32)), .val (.int (i3.toInt8.toInt32)), .val (.int (i4.toInt8.toInt32)), .val (.ref b2), .val (.int (1 : Int32))] [(.int (1 : Int32))])) st5 ?_
      refine ownE.go (T' := T5) (f' := (mkF m 193 #[.val (.int i0), .val (.int i1), .val (.int i2), .val (.int i3), .val (.int i4), .val (.int (0 : Int32)), .val (.int (i1.toInt8.toInt32)), .val (.int (i2.toInt8.toInt32)), .val (.int (i3.toInt8.toInt32)), .val (.int (i4.toInt8.toInt32)), .val (.ref b2), .val (.int (1 : Int32))] [(.int (1 : Int32)), (.int (1 : Int32))])) (fun t kt => ?_) ?_
      · show Steps p.tables e below (T5.setTop (mkF m 191 #[.val (.int i0), .val (.int i1), .val (.int i2), .val (.int i3), .val (.int i4), .val (.int (0 : Int32)), .val (.int (i1.toInt8.toInt32)), .val (.int (i2.toInt8.toInt32)), .val (.int (i3.toInt8.toInt32)), .val (.int (i4.toInt8.toInt32)), .val (.ref b2), .val (.int (1 : Int32))] [(.int (1 : Int32))])) _
        refine XS.iload X5.here hx rfl (hb hby at_191) rfl ?_
        exact kt
      refine ownE.go (T' := T5) (f' := (mkF m 196 #[.val (.int i0), .val (.int i1), .val (.int i2), .val (.int i3), .val (.int i4), .val (.int (0 : Int32)), .val (.int (i1.toInt8.toInt32)), .val (.int (i2.toInt8.toInt32)), .val (.int (i3.toInt8.toInt32)), .val (.int (i4.toInt8.toInt32)), .val (.ref b2), .val (.int (1 : Int32))] [])) (fun t kt => XS.icmpNo (g := (mkF m 193 #[.val (.int i0), .val (.int i1), .val (.int i2), .val (.int i3), .val (.int i4), .val (.int (0 : Int32)), .val (.int (i1.toInt8.toInt32)), .val (.int (i2.toInt8.toInt32)), .val (.int (i3.toInt8.toInt32)), .val (.int (i4.toInt8.toInt32)), .val (.ref b2), .val (.int (1 : Int32))] [(.int (1 : Int32)), (.int (1 : Int32))])) X5.here hx rfl (hb hby at_193) rfl (Jvm.Free.XT.ii_ne_f (by decide)) kt) ?_
      refine ownE.go (T' := T5) (f' := (mkF m 201 #[.val (.int i0), .val (.int i1), .val (.int i2), .val (.int i3), .val (.int i4), .val (.int (0 : Int32)), .val (.int (i1.toInt8.toInt32)), .val (.int (i2.toInt8.toInt32)), .val (.int (i3.toInt8.toInt32)), .val (.int (i4.toInt8.toInt32)), .val (.ref b2), .val (.int (1 : Int32))] [(.int (1 : Int32))])) (fun t kt => ?_) ?_
      · show Steps p.tables e below (T5.setTop (mkF m 196 #[.val (.int i0), .val (.int i1), .val (.int i2), .val (.int i3), .val (.int i4), .val (.int (0 : Int32)), .val (.int (i1.toInt8.toInt32)), .val (.int (i2.toInt8.toInt32)), .val (.int (i3.toInt8.toInt32)), .val (.int (i4.toInt8.toInt32)), .val (.ref b2), .val (.int (1 : Int32))] [])) _
        refine XS.iconst X5.here hx rfl (hb hby at_196) ?_
        show Steps p.tables e below (T5.setTop (mkF m 197 #[.val (.int i0), .val (.int i1), .val (.int i2), .val (.int i3), .val (.int i4), .val (.int (0 : Int32)), .val (.int (i1.toInt8.toInt32)), .val (.int (i2.toInt8.toInt32)), .val (.int (i3.toInt8.toInt32)), .val (.int (i4.toInt8.toInt32)), .val (.ref b2), .val (.int (1 : Int32))] [(.int (1 : Int32))])) _
        refine XS.goto X5.here hx rfl (pc0 := 197) (pc' := 201) rfl (hb hby at_197) (by decide) (by decide) ?_
        exact kt
      refine ownE.retN X5 hx hlk (t := .boolean) hret (by simp) (hb hby at_201) ?_ (by decide) (by decide)
      show own_Q0 Z i0 i1 i2 i3 i4 h0 n0 _ T5.heap _
      rw [e5]
      exact ⟨(by rw [own_f0, if_pos hk1] <;> first | rfl | decide), N5, K2⟩
    refine ownE.go (T' := T2) (f' := (mkF m 138 #[.val (.int i0), .val (.int i1), .val (.int i2), .val (.int i3), .val (.int i4), .val (.int (0 : Int32)), .val (.int (i1.toInt8.toInt32)), .val (.int (i2.toInt8.toInt32)), .val (.int (i3.toInt8.toInt32)), .val (.int (i4.toInt8.toInt32)), .val (.ref b2), .unset] [(.int (1 : Int32)), (.int (0 : Int32))])) (fun t kt => ?_) ?_
    · show Steps p.tables e below (T2.setTop (mkF m 135 #[.val (.int i0), .val (.int i1), .val (.int i2), .val (.int i3), .val (.int i4), .val (.int (0 : Int32)), .val (.int (i1.toInt8.toInt32)), .val (.int (i2.toInt8.toInt32)), .val (.int (i3.toInt8.toInt32)), .val (.int (i4.toInt8.toInt32)), .val (.ref b2), .unset] [])) _
      refine XS.iload X2.here hx rfl (hb hby at_135) rfl ?_
      show Steps p.tables e below (T2.setTop (mkF m 137 #[.val (.int i0), .val (.int i1), .val (.int i2), .val (.int i3), .val (.int i4), .val (.int (0 : Int32)), .val (.int (i1.toInt8.toInt32)), .val (.int (i2.toInt8.toInt32)), .val (.int (i3.toInt8.toInt32)), .val (.int (i4.toInt8.toInt32)), .val (.ref b2), .unset] [(.int (0 : Int32))])) _
      refine XS.iconst X2.here hx rfl (hb hby at_137) ?_
      exact kt
    refine ownE.go (T' := T2) (f' := (mkF m 146 #[.val (.int i0), .val (.int i1), .val (.int i2), .val (.int i3), .val (.int i4), .val (.int (0 : Int32)), .val (.int (i1.toInt8.toInt32)), .val (.int (i2.toInt8.toInt32)), .val (.int (i3.toInt8.toInt32)), .val (.int (i4.toInt8.toInt32)), .val (.ref b2), .unset] [])) (fun t kt => XS.icmpYes (g := (mkF m 138 #[.val (.int i0), .val (.int i1), .val (.int i2), .val (.int i3), .val (.int i4), .val (.int (0 : Int32)), .val (.int (i1.toInt8.toInt32)), .val (.int (i2.toInt8.toInt32)), .val (.int (i3.toInt8.toInt32)), .val (.int (i4.toInt8.toInt32)), .val (.ref b2), .unset] [(.int (1 : Int32)), (.int (0 : Int32))])) X2.here hx rfl (pc0 := 138) (pc' := 146) rfl (hb hby at_138) rfl (Jvm.Free.XT.ii_lt_t (by decide)) (by decide) (by decide) kt) ?_
    refine ownE.go (T' := T2) (f' := (mkF m 149 #[.val (.int i0), .val (.int i1), .val (.int i2), .val (.int i3), .val (.int i4), .val (.int (0 : Int32)), .val (.int (i1.toInt8.toInt32)), .val (.int (i2.toInt8.toInt32)), .val (.int (i3.toInt8.toInt32)), .val (.int (i4.toInt8.toInt32)), .val (.ref b2), .unset] [(.int (2 : Int32)), (.int (0 : Int32))])) (fun t kt => ?_) ?_
    · show Steps p.tables e below (T2.setTop (mkF m 146 #[.val (.int i0), .val (.int i1), .val (.int i2), .val (.int i3), .val (.int i4), .val (.int (0 : Int32)), .val (.int (i1.toInt8.toInt32)), .val (.int (i2.toInt8.toInt32)), .val (.int (i3.toInt8.toInt32)), .val (.int (i4.toInt8.toInt32)), .val (.ref b2), .unset] [])) _
      refine XS.iload X2.here hx rfl (hb hby at_146) rfl ?_
      show Steps p.tables e below (T2.setTop (mkF m 148 #[.val (.int i0), .val (.int i1), .val (.int i2), .val (.int i3), .val (.int i4), .val (.int (0 : Int32)), .val (.int (i1.toInt8.toInt32)), .val (.int (i2.toInt8.toInt32)), .val (.int (i3.toInt8.toInt32)), .val (.int (i4.toInt8.toInt32)), .val (.ref b2), .unset] [(.int (0 : Int32))])) _
      refine XS.iconst X2.here hx rfl (hb hby at_148) ?_
      exact kt
    refine ownE.go (T' := T2) (f' := (mkF m 157 #[.val (.int i0), .val (.int i1), .val (.int i2), .val (.int i3), .val (.int i4), .val (.int (0 : Int32)), .val (.int (i1.toInt8.toInt32)), .val (.int (i2.toInt8.toInt32)), .val (.int (i3.toInt8.toInt32)), .val (.int (i4.toInt8.toInt32)), .val (.ref b2), .unset] [])) (fun t kt => XS.icmpYes (g := (mkF m 149 #[.val (.int i0), .val (.int i1), .val (.int i2), .val (.int i3), .val (.int i4), .val (.int (0 : Int32)), .val (.int (i1.toInt8.toInt32)), .val (.int (i2.toInt8.toInt32)), .val (.int (i3.toInt8.toInt32)), .val (.int (i4.toInt8.toInt32)), .val (.ref b2), .unset] [(.int (2 : Int32)), (.int (0 : Int32))])) X2.here hx rfl (pc0 := 149) (pc' := 157) rfl (hb hby at_149) rfl (Jvm.Free.XT.ii_lt_t (by decide)) (by decide) (by decide) kt) ?_
    refine ownE.go (T' := T2) (f' := (mkF m 160 #[.val (.int i0), .val (.int i1), .val (.int i2), .val (.int i3), .val (.int i4), .val (.int (0 : Int32)), .val (.int (i1.toInt8.toInt32)), .val (.int (i2.toInt8.toInt32)), .val (.int (i3.toInt8.toInt32)), .val (.int (i4.toInt8.toInt32)), .val (.ref b2), .unset] [(.int (3 : Int32)), (.int (0 : Int32))])) (fun t kt => ?_) ?_
    · show Steps p.tables e below (T2.setTop (mkF m 157 #[.val (.int i0), .val (.int i1), .val (.int i2), .val (.int i3), .val (.int i4), .val (.int (0 : Int32)), .val (.int (i1.toInt8.toInt32)), .val (.int (i2.toInt8.toInt32)), .val (.int (i3.toInt8.toInt32)), .val (.int (i4.toInt8.toInt32)), .val (.ref b2), .unset] [])) _
      refine XS.iload X2.here hx rfl (hb hby at_157) rfl ?_
      show Steps p.tables e below (T2.setTop (mkF m 159 #[.val (.int i0), .val (.int i1), .val (.int i2), .val (.int i3), .val (.int i4), .val (.int (0 : Int32)), .val (.int (i1.toInt8.toInt32)), .val (.int (i2.toInt8.toInt32)), .val (.int (i3.toInt8.toInt32)), .val (.int (i4.toInt8.toInt32)), .val (.ref b2), .unset] [(.int (0 : Int32))])) _
      refine XS.iconst X2.here hx rfl (hb hby at_159) ?_
      exact kt
    refine ownE.go (T' := T2) (f' := (mkF m 168 #[.val (.int i0), .val (.int i1), .val (.int i2), .val (.int i3), .val (.int i4), .val (.int (0 : Int32)), .val (.int (i1.toInt8.toInt32)), .val (.int (i2.toInt8.toInt32)), .val (.int (i3.toInt8.toInt32)), .val (.int (i4.toInt8.toInt32)), .val (.ref b2), .unset] [])) (fun t kt => XS.icmpYes (g := (mkF m 160 #[.val (.int i0), .val (.int i1), .val (.int i2), .val (.int i3), .val (.int i4), .val (.int (0 : Int32)), .val (.int (i1.toInt8.toInt32)), .val (.int (i2.toInt8.toInt32)), .val (.int (i3.toInt8.toInt32)), .val (.int (i4.toInt8.toInt32)), .val (.ref b2), .unset] [(.int (3 : Int32)), (.int (0 : Int32))])) X2.here hx rfl (pc0 := 160) (pc' := 168) rfl (hb hby at_160) rfl (Jvm.Free.XT.ii_lt_t (by decide)) (by decide) (by decide) kt) ?_
    refine ownE.go (T' := T2) (f' := (mkF m 171 #[.val (.int i0), .val (.int i1), .val (.int i2), .val (.int i3), .val (.int i4), .val (.int (0 : Int32)), .val (.int (i1.toInt8.toInt32)), .val (.int (i2.toInt8.toInt32)), .val (.int (i3.toInt8.toInt32)), .val (.int (i4.toInt8.toInt32)), .val (.ref b2), .unset] [(.int (4 : Int32)), (.int (0 : Int32))])) (fun t kt => ?_) ?_
    · show Steps p.tables e below (T2.setTop (mkF m 168 #[.val (.int i0), .val (.int i1), .val (.int i2), .val (.int i3), .val (.int i4), .val (.int (0 : Int32)), .val (.int (i1.toInt8.toInt32)), .val (.int (i2.toInt8.toInt32)), .val (.int (i3.toInt8.toInt32)), .val (.int (i4.toInt8.toInt32)), .val (.ref b2), .unset] [])) _
      refine XS.iload X2.here hx rfl (hb hby at_168) rfl ?_
      show Steps p.tables e below (T2.setTop (mkF m 170 #[.val (.int i0), .val (.int i1), .val (.int i2), .val (.int i3), .val (.int i4), .val (.int (0 : Int32)), .val (.int (i1.toInt8.toInt32)), .val (.int (i2.toInt8.toInt32)), .val (.int (i3.toInt8.toInt32)), .val (.int (i4.toInt8.toInt32)), .val (.ref b2), .unset] [(.int (0 : Int32))])) _
      refine XS.iconst X2.here hx rfl (hb hby at_170) ?_
      exact kt
    refine ownE.go (T' := T2) (f' := (mkF m 179 #[.val (.int i0), .val (.int i1), .val (.int i2), .val (.int i3), .val (.int i4), .val (.int (0 : Int32)), .val (.int (i1.toInt8.toInt32)), .val (.int (i2.toInt8.toInt32)), .val (.int (i3.toInt8.toInt32)), .val (.int (i4.toInt8.toInt32)), .val (.ref b2), .unset] [])) (fun t kt => XS.icmpYes (g := (mkF m 171 #[.val (.int i0), .val (.int i1), .val (.int i2), .val (.int i3), .val (.int i4), .val (.int (0 : Int32)), .val (.int (i1.toInt8.toInt32)), .val (.int (i2.toInt8.toInt32)), .val (.int (i3.toInt8.toInt32)), .val (.int (i4.toInt8.toInt32)), .val (.ref b2), .unset] [(.int (4 : Int32)), (.int (0 : Int32))])) X2.here hx rfl (pc0 := 171) (pc' := 179) rfl (hb hby at_171) rfl (Jvm.Free.XT.ii_lt_t (by decide)) (by decide) (by decide) kt) ?_
    refine ownE.go (T' := T2) (f' := (mkF m 184 #[.val (.int i0), .val (.int i1), .val (.int i2), .val (.int i3), .val (.int i4), .val (.int (0 : Int32)), .val (.int (i1.toInt8.toInt32)), .val (.int (i2.toInt8.toInt32)), .val (.int (i3.toInt8.toInt32)), .val (.int (i4.toInt8.toInt32)), .val (.ref b2), .unset] [(.int (1 : Int32))])) (fun t kt => ?_) ?_
    · show Steps p.tables e below (T2.setTop (mkF m 179 #[.val (.int i0), .val (.int i1), .val (.int i2), .val (.int i3), .val (.int i4), .val (.int (0 : Int32)), .val (.int (i1.toInt8.toInt32)), .val (.int (i2.toInt8.toInt32)), .val (.int (i3.toInt8.toInt32)), .val (.int (i4.toInt8.toInt32)), .val (.ref b2), .unset] [])) _
      refine XS.iconst X2.here hx rfl (hb hby at_179) ?_
      show Steps p.tables e below (T2.setTop (mkF m 180 #[.val (.int i0), .val (.int i1), .val (.int i2), .val (.int i3), .val (.int i4), .val (.int (0 : Int32)), .val (.int (i1.toInt8.toInt32)), .val (.int (i2.toInt8.toInt32)), .val (.int (i3.toInt8.toInt32)), .val (.int (i4.toInt8.toInt32)), .val (.ref b2), .unset] [(.int (1 : Int32))])) _
      refine XS.goto X2.here hx rfl (pc0 := 180) (pc' := 184) rfl (hb hby at_180) (by decide) (by decide) ?_
      exact kt
    have jj := J4 _ _ X2 e2 N0
    exact jj
  · -- ((i0 &&& (2147483647 : Int32)) % (5 : Int32)) = 1
    have hf1 : (mkF m 25 #[.val (.int i0), .val (.int i1), .val (.int i2), .val (.int i3), .val (.int i4), .val (.int ((i0 &&& (2147483647 : Int32)) % (5 : Int32))), .val (.int (i1.toInt8.toInt32)), .val (.int (i2.toInt8.toInt32)), .val (.int (i3.toInt8.toInt32)), .val (.int (i4.toInt8.toInt32)), .unset, .unset] []) = (mkF m 25 #[.val (.int i0), .val (.int i1), .val (.int i2), .val (.int i3), .val (.int i4), .val (.int (1 : Int32)), .val (.int (i1.toInt8.toInt32)), .val (.int (i2.toInt8.toInt32)), .val (.int (i3.toInt8.toInt32)), .val (.int (i4.toInt8.toInt32)), .unset, .unset] []) := by rw [hk1]
    rw [hf1]
    have hk1_0 : ¬ ((i0 &&& (2147483647 : Int32)) % (5 : Int32)) = (0 : Int32) := by rw [hk1]; decide
    refine ownE.go (T' := s₁) (f' := (mkF m 27 #[.val (.int i0), .val (.int i1), .val (.int i2), .val (.int i3), .val (.int i4), .val (.int (1 : Int32)), .val (.int (i1.toInt8.toInt32)), .val (.int (i2.toInt8.toInt32)), .val (.int (i3.toInt8.toInt32)), .val (.int (i4.toInt8.toInt32)), .unset, .unset] [(.int (1 : Int32))])) (fun t kt => ?_) ?_
    · show Steps p.tables e below (s₁.setTop (mkF m 25 #[.val (.int i0), .val (.int i1), .val (.int i2), .val (.int i3), .val (.int i4), .val (.int (1 : Int32)), .val (.int (i1.toInt8.toInt32)), .val (.int (i2.toInt8.toInt32)), .val (.int (i3.toInt8.toInt32)), .val (.int (i4.toInt8.toInt32)), .unset, .unset] [])) _
      refine XS.iload X0.here hx rfl (hb hby at_25) rfl ?_
      exact kt
    refine ownE.go (T' := s₁) (f' := (mkF m 38 #[.val (.int i0), .val (.int i1), .val (.int i2), .val (.int i3), .val (.int i4), .val (.int (1 : Int32)), .val (.int (i1.toInt8.toInt32)), .val (.int (i2.toInt8.toInt32)), .val (.int (i3.toInt8.toInt32)), .val (.int (i4.toInt8.toInt32)), .unset, .unset] [])) (fun t kt => XS.ifYes (g := (mkF m 27 #[.val (.int i0), .val (.int i1), .val (.int i2), .val (.int i3), .val (.int i4), .val (.int (1 : Int32)), .val (.int (i1.toInt8.toInt32)), .val (.int (i2.toInt8.toInt32)), .val (.int (i3.toInt8.toInt32)), .val (.int (i4.toInt8.toInt32)), .unset, .unset] [(.int (1 : Int32))])) X0.here hx rfl (pc0 := 27) (pc' := 38) rfl (hb hby at_27) rfl (Jvm.Free.XT.i0_ne_t (by decide)) (by decide) (by decide) kt) ?_
    refine ownE.go (T' := s₁) (f' := (mkF m 41 #[.val (.int i0), .val (.int i1), .val (.int i2), .val (.int i3), .val (.int i4), .val (.int (1 : Int32)), .val (.int (i1.toInt8.toInt32)), .val (.int (i2.toInt8.toInt32)), .val (.int (i3.toInt8.toInt32)), .val (.int (i4.toInt8.toInt32)), .unset, .unset] [(.int (1 : Int32)), (.int (1 : Int32))])) (fun t kt => ?_) ?_
    · show Steps p.tables e below (s₁.setTop (mkF m 38 #[.val (.int i0), .val (.int i1), .val (.int i2), .val (.int i3), .val (.int i4), .val (.int (1 : Int32)), .val (.int (i1.toInt8.toInt32)), .val (.int (i2.toInt8.toInt32)), .val (.int (i3.toInt8.toInt32)), .val (.int (i4.toInt8.toInt32)), .unset, .unset] [])) _
      refine XS.iload X0.here hx rfl (hb hby at_38) rfl ?_
      show Steps p.tables e below (s₁.setTop (mkF m 40 #[.val (.int i0), .val (.int i1), .val (.int i2), .val (.int i3), .val (.int i4), .val (.int (1 : Int32)), .val (.int (i1.toInt8.toInt32)), .val (.int (i2.toInt8.toInt32)), .val (.int (i3.toInt8.toInt32)), .val (.int (i4.toInt8.toInt32)), .unset, .unset] [(.int (1 : Int32))])) _
      refine XS.iconst X0.here hx rfl (hb hby at_40) ?_
      exact kt
    refine ownE.go (T' := s₁) (f' := (mkF m 44 #[.val (.int i0), .val (.int i1), .val (.int i2), .val (.int i3), .val (.int i4), .val (.int (1 : Int32)), .val (.int (i1.toInt8.toInt32)), .val (.int (i2.toInt8.toInt32)), .val (.int (i3.toInt8.toInt32)), .val (.int (i4.toInt8.toInt32)), .unset, .unset] [])) (fun t kt => XS.icmpNo (g := (mkF m 41 #[.val (.int i0), .val (.int i1), .val (.int i2), .val (.int i3), .val (.int i4), .val (.int (1 : Int32)), .val (.int (i1.toInt8.toInt32)), .val (.int (i2.toInt8.toInt32)), .val (.int (i3.toInt8.toInt32)), .val (.int (i4.toInt8.toInt32)), .unset, .unset] [(.int (1 : Int32)), (.int (1 : Int32))])) X0.here hx rfl (hb hby at_41) rfl (Jvm.Free.XT.ii_ne_f (by decide)) kt) ?_
    refine ownE.go (T' := s₁) (f' := (mkF m 45 #[.val (.int i0), .val (.int i1), .val (.int i2), .val (.int i3), .val (.int i4), .val (.int (1 : Int32)), .val (.int (i1.toInt8.toInt32)), .val (.int (i2.toInt8.toInt32)), .val (.int (i3.toInt8.toInt32)), .val (.int (i4.toInt8.toInt32)), .unset, .unset] [(.int (1 : Int32))])) (fun t kt => ?_) ?_
    · show Steps p.tables e below (s₁.setTop (mkF m 44 #[.val (.int i0), .val (.int i1), .val (.int i2), .val (.int i3), .val (.int i4), .val (.int (1 : Int32)), .val (.int (i1.toInt8.toInt32)), .val (.int (i2.toInt8.toInt32)), .val (.int (i3.toInt8.toInt32)), .val (.int (i4.toInt8.toInt32)), .unset, .unset] [])) _
      refine XS.iconst X0.here hx rfl (hb hby at_44) ?_
      exact kt
    obtain ⟨T6, h6, k6, X6, e6, E6, A6, st6⟩ := newP X0 hx hZ (hw _ (List.mem_of_getElem? (i := 1) rfl)) e0 (g := (mkF m 45 #[.val (.int i0), .val (.int i1), .val (.int i2), .val (.int i3), .val (.int i4), .val (.int (1 : Int32)), .val (.int (i1.toInt8.toInt32)), .val (.int (i2.toInt8.toInt32)), .val (.int (i3.toInt8.toInt32)), .val (.int (i4.toInt8.toInt32)), .unset, .unset] [(.int (1 : Int32))])) rfl (hb hby at_45) rfl (by decide) (cap := 1) (by decide) (by decide) (by decide) (by decide)
    obtain ⟨b6, g6⟩ : ∃ z, z = h0.size := ⟨_, rfl⟩
    rw [← g6] at A6 st6
    have sz_b6 : h0.size ≤ b6 := Nat.le_trans K0.1 (Nat.le_of_eq g6.symm)
    have ge_b6 : n0 ≤ b6 := Nat.le_trans Z0 sz_b6
    have V6 : Arv Z h6 b6 k6 .byte (1 : Int32) [(.int (0 : Int32))] (.int (0 : Int32)) := (Arv.new A6 (by decide)).pad (pad_rep [] (.int (0 : Int32)) 1)
    have K6 : Keep h0 h6 [] := K0.ext E6
    refine ownE.go (T' := T6) (f' := (mkF m 47 #[.val (.int i0), .val (.int i1), .val (.int i2), .val (.int i3), .val (.int i4), .val (.int (1 : Int32)), .val (.int (i1.toInt8.toInt32)), .val (.int (i2.toInt8.toInt32)), .val (.int (i3.toInt8.toInt32)), .val (.int (i4.toInt8.toInt32)), .unset, .unset] [(.ref b6)])) st6 ?_
    refine ownE.go (T' := T6) (f' := (mkF m 51 #[.val (.int i0), .val (.int i1), .val (.int i2), .val (.int i3), .val (.int i4), .val (.int (1 : Int32)), .val (.int (i1.toInt8.toInt32)), .val (.int (i2.toInt8.toInt32)), .val (.int (i3.toInt8.toInt32)), .val (.int (i4.toInt8.toInt32)), .unset, .unset] [(.int (i1.toInt8.toInt32)), (.int (0 : Int32)), (.ref b6), (.ref b6)])) (fun t kt => ?_) ?_
    · show Steps p.tables e below (T6.setTop (mkF m 47 #[.val (.int i0), .val (.int i1), .val (.int i2), .val (.int i3), .val (.int i4), .val (.int (1 : Int32)), .val (.int (i1.toInt8.toInt32)), .val (.int (i2.toInt8.toInt32)), .val (.int (i3.toInt8.toInt32)), .val (.int (i4.toInt8.toInt32)), .unset, .unset] [(.ref b6)])) _
      refine XS.dup X6.here hx rfl (hb hby at_47) rfl rfl ?_
      show Steps p.tables e below (T6.setTop (mkF m 48 #[.val (.int i0), .val (.int i1), .val (.int i2), .val (.int i3), .val (.int i4), .val (.int (1 : Int32)), .val (.int (i1.toInt8.toInt32)), .val (.int (i2.toInt8.toInt32)), .val (.int (i3.toInt8.toInt32)), .val (.int (i4.toInt8.toInt32)), .unset, .unset] [(.ref b6), (.ref b6)])) _
      refine XS.iconst X6.here hx rfl (hb hby at_48) ?_
      show Steps p.tables e below (T6.setTop (mkF m 49 #[.val (.int i0), .val (.int i1), .val (.int i2), .val (.int i3), .val (.int i4), .val (.int (1 : Int32)), .val (.int (i1.toInt8.toInt32)), .val (.int (i2.toInt8.toInt32)), .val (.int (i3.toInt8.toInt32)), .val (.int (i4.toInt8.toInt32)), .unset, .unset] [(.int (0 : Int32)), (.ref b6), (.ref b6)])) _
      refine XS.iload X6.here hx rfl (hb hby at_49) rfl ?_
      exact kt
    obtain ⟨cl7, Ar7, q7, S7, Nn7, Hh7, G7⟩ := id V6
    have hin7 : ¬ ((0 : Int32) < 0 ∨ cl7.slots.size ≤ ((0 : Int32)).toNatClampNeg) := inb_of S7 ⟨by decide, by decide⟩
    obtain ⟨T7, h7, X7, e7, W7, st7⟩ := stB X6 hx hZ e6 Ar7 (j := (0 : Int32)) hin7 (g := (mkF m 51 #[.val (.int i0), .val (.int i1), .val (.int i2), .val (.int i3), .val (.int i4), .val (.int (1 : Int32)), .val (.int (i1.toInt8.toInt32)), .val (.int (i2.toInt8.toInt32)), .val (.int (i3.toInt8.toInt32)), .val (.int (i4.toInt8.toInt32)), .unset, .unset] [(.int (i1.toInt8.toInt32)), (.int (0 : Int32)), (.ref b6), (.ref b6)])) rfl rfl (hb hby at_51)
    have V7 : Arv Z h7 b6 k6 .byte (1 : Int32) [(.int ((i1.toInt8.toInt32).toInt8.toInt32))] (.int (0 : Int32)) := Arv.set Ar7 q7 S7 Nn7 Hh7 G7 (fits_nar_byte _) W7 0 rfl (Nat.le_of_ble_eq_true rfl)
    have K7 : Keep h0 h7 [] := K6.wr W7 (Or.inr sz_b6)
    have N7 := Fr.snoc X7 N0 ge_b6
    refine ownE.go (T' := T7) (f' := (mkF m 52 #[.val (.int i0), .val (.int i1), .val (.int i2), .val (.int i3), .val (.int i4), .val (.int (1 : Int32)), .val (.int (i1.toInt8.toInt32)), .val (.int (i2.toInt8.toInt32)), .val (.int (i3.toInt8.toInt32)), .val (.int (i4.toInt8.toInt32)), .unset, .unset] [(.ref b6)])) st7 ?_
    refine ownE.go (T' := T7) (f' := (mkF m 135 #[.val (.int i0), .val (.int i1), .val (.int i2), .val (.int i3), .val (.int i4), .val (.int (1 : Int32)), .val (.int (i1.toInt8.toInt32)), .val (.int (i2.toInt8.toInt32)), .val (.int (i3.toInt8.toInt32)), .val (.int (i4.toInt8.toInt32)), .val (.ref b6), .unset] [])) (fun t kt => ?_) ?_
    · show Steps p.tables e below (T7.setTop (mkF m 52 #[.val (.int i0), .val (.int i1), .val (.int i2), .val (.int i3), .val (.int i4), .val (.int (1 : Int32)), .val (.int (i1.toInt8.toInt32)), .val (.int (i2.toInt8.toInt32)), .val (.int (i3.toInt8.toInt32)), .val (.int (i4.toInt8.toInt32)), .unset, .unset] [(.ref b6)])) _
      refine XS.astore X7.here hx rfl (hb hby at_52) rfl rfl (l' := #[.val (.int i0), .val (.int i1), .val (.int i2), .val (.int i3), .val (.int i4), .val (.int (1 : Int32)), .val (.int (i1.toInt8.toInt32)), .val (.int (i2.toInt8.toInt32)), .val (.int (i3.toInt8.toInt32)), .val (.int (i4.toInt8.toInt32)), .val (.ref b6), .unset]) rfl ?_
      show Steps p.tables e below (T7.setTop (mkF m 54 #[.val (.int i0), .val (.int i1), .val (.int i2), .val (.int i3), .val (.int i4), .val (.int (1 : Int32)), .val (.int (i1.toInt8.toInt32)), .val (.int (i2.toInt8.toInt32)), .val (.int (i3.toInt8.toInt32)), .val (.int (i4.toInt8.toInt32)), .val (.ref b6), .unset] [])) _
      refine XS.goto X7.here hx rfl (pc0 := 54) (pc' := 135) rfl (hb hby at_54) (by decide) (by decide) ?_
      exact kt
    have J10 : ∀ (TJ10 : State) (locsJ10 : List Loc), Stand p l e room_1 s m #[(.int i0), (.int i1), (.int i2), (.int i3), (.int i4)] below meth c TJ10 locsJ10 1 1 → TJ10.heap = h7 → Fr n0 locsJ10 → ownE p e below s (own_Q0 Z i0 i1 i2 i3 i4 h0 n0) 1 4 TJ10 (mkF m 184 #[.val (.int i0), .val (.int i1), .val (.int i2), .val (.int i3), .val (.int i4), .val (.int (1 : Int32)), .val (.int (i1.toInt8.toInt32)), .val (.int (i2.toInt8.toInt32)), .val (.int (i3.toInt8.toInt32)), .val (.int (i4.toInt8.toInt32)), .val (.ref b6), .unset] [(.int (own_j0_184_S0 i0 i1 i2 i3 i4))]) := by
      intro TJ10 locsJ10 XJ10 eJ10 NJ10
      refine ownE.go (T' := TJ10) (f' := (mkF m 188 #[.val (.int i0), .val (.int i1), .val (.int i2), .val (.int i3), .val (.int i4), .val (.int (1 : Int32)), .val (.int (i1.toInt8.toInt32)), .val (.int (i2.toInt8.toInt32)), .val (.int (i3.toInt8.toInt32)), .val (.int (i4.toInt8.toInt32)), .val (.ref b6), .val (.int (own_j0_184_S0 i0 i1 i2 i3 i4))] [(.ref b6)])) (fun t kt => ?_) ?_
      · show Steps p.tables e below (TJ10.setTop (mkF m 184 #[.val (.int i0), .val (.int i1), .val (.int i2), .val (.int i3), .val (.int i4), .val (.int (1 : Int32)), .val (.int (i1.toInt8.toInt32)), .val (.int (i2.toInt8.toInt32)), .val (.int (i3.toInt8.toInt32)), .val (.int (i4.toInt8.toInt32)), .val (.ref b6), .unset] [(.int (own_j0_184_S0 i0 i1 i2 i3 i4))])) _
        refine XS.istore XJ10.here hx rfl (hb hby at_184) rfl (l' := #[.val (.int i0), .val (.int i1), .val (.int i2), .val (.int i3), .val (.int i4), .val (.int (1 : Int32)), .val (.int (i1.toInt8.toInt32)), .val (.int (i2.toInt8.toInt32)), .val (.int (i3.toInt8.toInt32)), .val (.int (i4.toInt8.toInt32)), .val (.ref b6), .val (.int (own_j0_184_S0 i0 i1 i2 i3 i4))]) rfl ?_
        show Steps p.tables e below (TJ10.setTop (mkF m 186 #[.val (.int i0), .val (.int i1), .val (.int i2), .val (.int i3), .val (.int i4), .val (.int (1 : Int32)), .val (.int (i1.toInt8.toInt32)), .val (.int (i2.toInt8.toInt32)), .val (.int (i3.toInt8.toInt32)), .val (.int (i4.toInt8.toInt32)), .val (.ref b6), .val (.int (own_j0_184_S0 i0 i1 i2 i3 i4))] [])) _
        refine XS.aload XJ10.here hx rfl (hb hby at_186) rfl rfl ?_
        exact kt
      obtain ⟨_, _, ⟨T11, L11, k11, n11⟩, -, X11, ⟨Lc11, hQ11, l11, y11, z11⟩, st11⟩ := Jvm.LawKit.callS XJ10 hx (y := (⟨"com/example/libvalise/libvalise/ZipFormat", "isAscii", "([B)Z"⟩ : MethodName)) hown (mvT hZ (hw _ (List.mem_of_getElem? (i := 2) rfl))) (mvT hZ (hw _ (List.mem_of_getElem? (i := 3) rfl))) (mvT hZ (hw _ (List.mem_of_getElem? (i := 4) rfl))) (mvT hZ (hw _ (List.mem_of_getElem? (i := 5) rfl))) (by decide) (backOf (W := 0) (own_rm1n1 l Z a0 hw [] b6 k6 ((i1.toInt8.toInt32).toInt8.toInt32) h7 n0 (Nat.le_trans Z0 K7.1) V7) hZ (hw _ (List.mem_of_getElem? (i := 5) rfl)) (hw _ (List.mem_of_getElem? (i := 4) rfl)) (by decide) (by decide)) (g := (mkF m 188 #[.val (.int i0), .val (.int i1), .val (.int i2), .val (.int i3), .val (.int i4), .val (.int (1 : Int32)), .val (.int (i1.toInt8.toInt32)), .val (.int (i2.toInt8.toInt32)), .val (.int (i3.toInt8.toInt32)), .val (.int (i4.toInt8.toInt32)), .val (.ref b6), .val (.int (own_j0_184_S0 i0 i1 i2 i3 i4))] [(.ref b6)])) rfl (by rw [hml]; rfl) (argsL := [(.ref b6)]) (rest := []) (lenOf own_pd1 rfl) rfl (by show 2 * 0 + _ ≤ _; exact Nat.le_of_eq rfl) (hb hby at_188) (fun _ _ => ⟨rfl, eJ10, (by decide : 1 + 0 ≤ _), (by decide : 1 + 0 ≤ _)⟩)
      dsimp only [Pt.U, Pt.locs, Pt.cells, Pt.slots] at X11 l11 y11 z11 st11 hQ11
      subst l11 y11 z11
      obtain ⟨rfl, N11q, e11⟩ := hQ11
      have N11 := Fr.app NJ10 N11q
      refine ownE.go (T' := T11) (f' := (mkF m 191 #[.val (.int i0), .val (.int i1), .val (.int i2), .val (.int i3), .val (.int i4), .val (.int (1 : Int32)), .val (.int (i1.toInt8.toInt32)), .val (.int (i2.toInt8.toInt32)), .val (.int (i3.toInt8.toInt32)), .val (.int (i4.toInt8.toInt32)), .val (.ref b6), .val (.int (own_j0_184_S0 i0 i1 i2 i3 i4))] [(.int (own_asc1 ((i1.toInt8.toInt32).toInt8.toInt32)))])) st11 ?_
      refine ownE.go (T' := T11) (f' := (mkF m 193 #[.val (.int i0), .val (.int i1), .val (.int i2), .val (.int i3), .val (.int i4), .val (.int (1 : Int32)), .val (.int (i1.toInt8.toInt32)), .val (.int (i2.toInt8.toInt32)), .val (.int (i3.toInt8.toInt32)), .val (.int (i4.toInt8.toInt32)), .val (.ref b6), .val (.int (own_j0_184_S0 i0 i1 i2 i3 i4))] [(.int (own_j0_184_S0 i0 i1 i2 i3 i4)), (.int (own_asc1 ((i1.toInt8.toInt32).toInt8.toInt32)))])) (fun t kt => ?_) ?_
      · show Steps p.tables e below (T11.setTop (mkF m 191 #[.val (.int i0), .val (.int i1), .val (.int i2), .val (.int i3), .val (.int i4), .val (.int (1 : Int32)), .val (.int (i1.toInt8.toInt32)), .val (.int (i2.toInt8.toInt32)), .val (.int (i3.toInt8.toInt32)), .val (.int (i4.toInt8.toInt32)), .val (.ref b6), .val (.int (own_j0_184_S0 i0 i1 i2 i3 i4))] [(.int (own_asc1 ((i1.toInt8.toInt32).toInt8.toInt32)))])) _
        refine XS.iload X11.here hx rfl (hb hby at_191) rfl ?_
        exact kt
      by_cases hc12 : (own_asc1 ((i1.toInt8.toInt32).toInt8.toInt32)) = (own_j0_184_S0 i0 i1 i2 i3 i4)
      · -- pc 193
        refine ownE.go (T' := T11) (f' := (mkF m 196 #[.val (.int i0), .val (.int i1), .val (.int i2), .val (.int i3), .val (.int i4), .val (.int (1 : Int32)), .val (.int (i1.toInt8.toInt32)), .val (.int (i2.toInt8.toInt32)), .val (.int (i3.toInt8.toInt32)), .val (.int (i4.toInt8.toInt32)), .val (.ref b6), .val (.int (own_j0_184_S0 i0 i1 i2 i3 i4))] [])) (fun t kt => XS.icmpNo (g := (mkF m 193 #[.val (.int i0), .val (.int i1), .val (.int i2), .val (.int i3), .val (.int i4), .val (.int (1 : Int32)), .val (.int (i1.toInt8.toInt32)), .val (.int (i2.toInt8.toInt32)), .val (.int (i3.toInt8.toInt32)), .val (.int (i4.toInt8.toInt32)), .val (.ref b6), .val (.int (own_j0_184_S0 i0 i1 i2 i3 i4))] [(.int (own_j0_184_S0 i0 i1 i2 i3 i4)), (.int (own_asc1 ((i1.toInt8.toInt32).toInt8.toInt32)))])) X11.here hx rfl (hb hby at_193) rfl (Jvm.Free.XT.ii_ne_f hc12) kt) ?_
        refine ownE.go (T' := T11) (f' := (mkF m 201 #[.val (.int i0), .val (.int i1), .val (.int i2), .val (.int i3), .val (.int i4), .val (.int (1 : Int32)), .val (.int (i1.toInt8.toInt32)), .val (.int (i2.toInt8.toInt32)), .val (.int (i3.toInt8.toInt32)), .val (.int (i4.toInt8.toInt32)), .val (.ref b6), .val (.int (own_j0_184_S0 i0 i1 i2 i3 i4))] [(.int (1 : Int32))])) (fun t kt => ?_) ?_
        · show Steps p.tables e below (T11.setTop (mkF m 196 #[.val (.int i0), .val (.int i1), .val (.int i2), .val (.int i3), .val (.int i4), .val (.int (1 : Int32)), .val (.int (i1.toInt8.toInt32)), .val (.int (i2.toInt8.toInt32)), .val (.int (i3.toInt8.toInt32)), .val (.int (i4.toInt8.toInt32)), .val (.ref b6), .val (.int (own_j0_184_S0 i0 i1 i2 i3 i4))] [])) _
          refine XS.iconst X11.here hx rfl (hb hby at_196) ?_
          show Steps p.tables e below (T11.setTop (mkF m 197 #[.val (.int i0), .val (.int i1), .val (.int i2), .val (.int i3), .val (.int i4), .val (.int (1 : Int32)), .val (.int (i1.toInt8.toInt32)), .val (.int (i2.toInt8.toInt32)), .val (.int (i3.toInt8.toInt32)), .val (.int (i4.toInt8.toInt32)), .val (.ref b6), .val (.int (own_j0_184_S0 i0 i1 i2 i3 i4))] [(.int (1 : Int32))])) _
          refine XS.goto X11.here hx rfl (pc0 := 197) (pc' := 201) rfl (hb hby at_197) (by decide) (by decide) ?_
          exact kt
        refine ownE.retN X11 hx hlk (t := .boolean) hret (by simp) (hb hby at_201) ?_ (by decide) (by decide)
        show own_Q0 Z i0 i1 i2 i3 i4 h0 n0 _ T11.heap _
        rw [e11]
        exact ⟨(by rw [own_f0, if_neg hk1_0, if_pos hk1, if_pos hc12] <;> first | rfl | decide), N11, K7⟩
      · -- pc 193
        refine ownE.go (T' := T11) (f' := (mkF m 200 #[.val (.int i0), .val (.int i1), .val (.int i2), .val (.int i3), .val (.int i4), .val (.int (1 : Int32)), .val (.int (i1.toInt8.toInt32)), .val (.int (i2.toInt8.toInt32)), .val (.int (i3.toInt8.toInt32)), .val (.int (i4.toInt8.toInt32)), .val (.ref b6), .val (.int (own_j0_184_S0 i0 i1 i2 i3 i4))] [])) (fun t kt => XS.icmpYes (g := (mkF m 193 #[.val (.int i0), .val (.int i1), .val (.int i2), .val (.int i3), .val (.int i4), .val (.int (1 : Int32)), .val (.int (i1.toInt8.toInt32)), .val (.int (i2.toInt8.toInt32)), .val (.int (i3.toInt8.toInt32)), .val (.int (i4.toInt8.toInt32)), .val (.ref b6), .val (.int (own_j0_184_S0 i0 i1 i2 i3 i4))] [(.int (own_j0_184_S0 i0 i1 i2 i3 i4)), (.int (own_asc1 ((i1.toInt8.toInt32).toInt8.toInt32)))])) X11.here hx rfl (pc0 := 193) (pc' := 200) rfl (hb hby at_193) rfl (Jvm.Free.XT.ii_ne_t hc12) (by decide) (by decide) kt) ?_
        refine ownE.go (T' := T11) (f' := (mkF m 201 #[.val (.int i0), .val (.int i1), .val (.int i2), .val (.int i3), .val (.int i4), .val (.int (1 : Int32)), .val (.int (i1.toInt8.toInt32)), .val (.int (i2.toInt8.toInt32)), .val (.int (i3.toInt8.toInt32)), .val (.int (i4.toInt8.toInt32)), .val (.ref b6), .val (.int (own_j0_184_S0 i0 i1 i2 i3 i4))] [(.int (0 : Int32))])) (fun t kt => ?_) ?_
        · show Steps p.tables e below (T11.setTop (mkF m 200 #[.val (.int i0), .val (.int i1), .val (.int i2), .val (.int i3), .val (.int i4), .val (.int (1 : Int32)), .val (.int (i1.toInt8.toInt32)), .val (.int (i2.toInt8.toInt32)), .val (.int (i3.toInt8.toInt32)), .val (.int (i4.toInt8.toInt32)), .val (.ref b6), .val (.int (own_j0_184_S0 i0 i1 i2 i3 i4))] [])) _
          refine XS.iconst X11.here hx rfl (hb hby at_200) ?_
          exact kt
        refine ownE.retN X11 hx hlk (t := .boolean) hret (by simp) (hb hby at_201) ?_ (by decide) (by decide)
        show own_Q0 Z i0 i1 i2 i3 i4 h0 n0 _ T11.heap _
        rw [e11]
        exact ⟨(by rw [own_f0, if_neg hk1_0, if_pos hk1, if_neg hc12] <;> first | rfl | decide), N11, K7⟩
    refine ownE.go (T' := T7) (f' := (mkF m 138 #[.val (.int i0), .val (.int i1), .val (.int i2), .val (.int i3), .val (.int i4), .val (.int (1 : Int32)), .val (.int (i1.toInt8.toInt32)), .val (.int (i2.toInt8.toInt32)), .val (.int (i3.toInt8.toInt32)), .val (.int (i4.toInt8.toInt32)), .val (.ref b6), .unset] [(.int (1 : Int32)), (.int (1 : Int32))])) (fun t kt => ?_) ?_
    · show Steps p.tables e below (T7.setTop (mkF m 135 #[.val (.int i0), .val (.int i1), .val (.int i2), .val (.int i3), .val (.int i4), .val (.int (1 : Int32)), .val (.int (i1.toInt8.toInt32)), .val (.int (i2.toInt8.toInt32)), .val (.int (i3.toInt8.toInt32)), .val (.int (i4.toInt8.toInt32)), .val (.ref b6), .unset] [])) _
      refine XS.iload X7.here hx rfl (hb hby at_135) rfl ?_
      show Steps p.tables e below (T7.setTop (mkF m 137 #[.val (.int i0), .val (.int i1), .val (.int i2), .val (.int i3), .val (.int i4), .val (.int (1 : Int32)), .val (.int (i1.toInt8.toInt32)), .val (.int (i2.toInt8.toInt32)), .val (.int (i3.toInt8.toInt32)), .val (.int (i4.toInt8.toInt32)), .val (.ref b6), .unset] [(.int (1 : Int32))])) _
      refine XS.iconst X7.here hx rfl (hb hby at_137) ?_
      exact kt
    refine ownE.go (T' := T7) (f' := (mkF m 141 #[.val (.int i0), .val (.int i1), .val (.int i2), .val (.int i3), .val (.int i4), .val (.int (1 : Int32)), .val (.int (i1.toInt8.toInt32)), .val (.int (i2.toInt8.toInt32)), .val (.int (i3.toInt8.toInt32)), .val (.int (i4.toInt8.toInt32)), .val (.ref b6), .unset] [])) (fun t kt => XS.icmpNo (g := (mkF m 138 #[.val (.int i0), .val (.int i1), .val (.int i2), .val (.int i3), .val (.int i4), .val (.int (1 : Int32)), .val (.int (i1.toInt8.toInt32)), .val (.int (i2.toInt8.toInt32)), .val (.int (i3.toInt8.toInt32)), .val (.int (i4.toInt8.toInt32)), .val (.ref b6), .unset] [(.int (1 : Int32)), (.int (1 : Int32))])) X7.here hx rfl (hb hby at_138) rfl (Jvm.Free.XT.ii_lt_f (by decide)) kt) ?_
    refine ownE.go (T' := T7) (f' := (mkF m 143 #[.val (.int i0), .val (.int i1), .val (.int i2), .val (.int i3), .val (.int i4), .val (.int (1 : Int32)), .val (.int (i1.toInt8.toInt32)), .val (.int (i2.toInt8.toInt32)), .val (.int (i3.toInt8.toInt32)), .val (.int (i4.toInt8.toInt32)), .val (.ref b6), .unset] [(.int (i1.toInt8.toInt32))])) (fun t kt => ?_) ?_
    · show Steps p.tables e below (T7.setTop (mkF m 141 #[.val (.int i0), .val (.int i1), .val (.int i2), .val (.int i3), .val (.int i4), .val (.int (1 : Int32)), .val (.int (i1.toInt8.toInt32)), .val (.int (i2.toInt8.toInt32)), .val (.int (i3.toInt8.toInt32)), .val (.int (i4.toInt8.toInt32)), .val (.ref b6), .unset] [])) _
      refine XS.iload X7.here hx rfl (hb hby at_141) rfl ?_
      exact kt
    by_cases hc9 : (i1.toInt8.toInt32) < (0 : Int32)
    · -- pc 143
      refine ownE.go (T' := T7) (f' := (mkF m 183 #[.val (.int i0), .val (.int i1), .val (.int i2), .val (.int i3), .val (.int i4), .val (.int (1 : Int32)), .val (.int (i1.toInt8.toInt32)), .val (.int (i2.toInt8.toInt32)), .val (.int (i3.toInt8.toInt32)), .val (.int (i4.toInt8.toInt32)), .val (.ref b6), .unset] [])) (fun t kt => XS.ifYes (g := (mkF m 143 #[.val (.int i0), .val (.int i1), .val (.int i2), .val (.int i3), .val (.int i4), .val (.int (1 : Int32)), .val (.int (i1.toInt8.toInt32)), .val (.int (i2.toInt8.toInt32)), .val (.int (i3.toInt8.toInt32)), .val (.int (i4.toInt8.toInt32)), .val (.ref b6), .unset] [(.int (i1.toInt8.toInt32))])) X7.here hx rfl (pc0 := 143) (pc' := 183) rfl (hb hby at_143) rfl (Jvm.Free.XT.i0_lt_t hc9) (by decide) (by decide) kt) ?_
      refine ownE.go (T' := T7) (f' := (mkF m 184 #[.val (.int i0), .val (.int i1), .val (.int i2), .val (.int i3), .val (.int i4), .val (.int (1 : Int32)), .val (.int (i1.toInt8.toInt32)), .val (.int (i2.toInt8.toInt32)), .val (.int (i3.toInt8.toInt32)), .val (.int (i4.toInt8.toInt32)), .val (.ref b6), .unset] [(.int (0 : Int32))])) (fun t kt => ?_) ?_
      · show Steps p.tables e below (T7.setTop (mkF m 183 #[.val (.int i0), .val (.int i1), .val (.int i2), .val (.int i3), .val (.int i4), .val (.int (1 : Int32)), .val (.int (i1.toInt8.toInt32)), .val (.int (i2.toInt8.toInt32)), .val (.int (i3.toInt8.toInt32)), .val (.int (i4.toInt8.toInt32)), .val (.ref b6), .unset] [])) _
        refine XS.iconst X7.here hx rfl (hb hby at_183) ?_
        exact kt
      have jj := J10 _ _ X7 e7 N7
      rw [show (own_j0_184_S0 i0 i1 i2 i3 i4) = (0 : Int32) from by rw [own_j0_184_S0, if_pos hc9]] at jj
      exact jj
    · -- pc 143
      refine ownE.go (T' := T7) (f' := (mkF m 146 #[.val (.int i0), .val (.int i1), .val (.int i2), .val (.int i3), .val (.int i4), .val (.int (1 : Int32)), .val (.int (i1.toInt8.toInt32)), .val (.int (i2.toInt8.toInt32)), .val (.int (i3.toInt8.toInt32)), .val (.int (i4.toInt8.toInt32)), .val (.ref b6), .unset] [])) (fun t kt => XS.ifNo (g := (mkF m 143 #[.val (.int i0), .val (.int i1), .val (.int i2), .val (.int i3), .val (.int i4), .val (.int (1 : Int32)), .val (.int (i1.toInt8.toInt32)), .val (.int (i2.toInt8.toInt32)), .val (.int (i3.toInt8.toInt32)), .val (.int (i4.toInt8.toInt32)), .val (.ref b6), .unset] [(.int (i1.toInt8.toInt32))])) X7.here hx rfl (hb hby at_143) rfl (Jvm.Free.XT.i0_lt_f hc9) kt) ?_
      refine ownE.go (T' := T7) (f' := (mkF m 149 #[.val (.int i0), .val (.int i1), .val (.int i2), .val (.int i3), .val (.int i4), .val (.int (1 : Int32)), .val (.int (i1.toInt8.toInt32)), .val (.int (i2.toInt8.toInt32)), .val (.int (i3.toInt8.toInt32)), .val (.int (i4.toInt8.toInt32)), .val (.ref b6), .unset] [(.int (2 : Int32)), (.int (1 : Int32))])) (fun t kt => ?_) ?_
      · show Steps p.tables e below (T7.setTop (mkF m 146 #[.val (.int i0), .val (.int i1), .val (.int i2), .val (.int i3), .val (.int i4), .val (.int (1 : Int32)), .val (.int (i1.toInt8.toInt32)), .val (.int (i2.toInt8.toInt32)), .val (.int (i3.toInt8.toInt32)), .val (.int (i4.toInt8.toInt32)), .val (.ref b6), .unset] [])) _
        refine XS.iload X7.here hx rfl (hb hby at_146) rfl ?_
        show Steps p.tables e below (T7.setTop (mkF m 148 #[.val (.int i0), .val (.int i1), .val (.int i2), .val (.int i3), .val (.int i4), .val (.int (1 : Int32)), .val (.int (i1.toInt8.toInt32)), .val (.int (i2.toInt8.toInt32)), .val (.int (i3.toInt8.toInt32)), .val (.int (i4.toInt8.toInt32)), .val (.ref b6), .unset] [(.int (1 : Int32))])) _
        refine XS.iconst X7.here hx rfl (hb hby at_148) ?_
        exact kt
      refine ownE.go (T' := T7) (f' := (mkF m 157 #[.val (.int i0), .val (.int i1), .val (.int i2), .val (.int i3), .val (.int i4), .val (.int (1 : Int32)), .val (.int (i1.toInt8.toInt32)), .val (.int (i2.toInt8.toInt32)), .val (.int (i3.toInt8.toInt32)), .val (.int (i4.toInt8.toInt32)), .val (.ref b6), .unset] [])) (fun t kt => XS.icmpYes (g := (mkF m 149 #[.val (.int i0), .val (.int i1), .val (.int i2), .val (.int i3), .val (.int i4), .val (.int (1 : Int32)), .val (.int (i1.toInt8.toInt32)), .val (.int (i2.toInt8.toInt32)), .val (.int (i3.toInt8.toInt32)), .val (.int (i4.toInt8.toInt32)), .val (.ref b6), .unset] [(.int (2 : Int32)), (.int (1 : Int32))])) X7.here hx rfl (pc0 := 149) (pc' := 157) rfl (hb hby at_149) rfl (Jvm.Free.XT.ii_lt_t (by decide)) (by decide) (by decide) kt) ?_
      refine ownE.go (T' := T7) (f' := (mkF m 160 #[.val (.int i0), .val (.int i1), .val (.int i2), .val (.int i3), .val (.int i4), .val (.int (1 : Int32)), .val (.int (i1.toInt8.toInt32)), .val (.int (i2.toInt8.toInt32)), .val (.int (i3.toInt8.toInt32)), .val (.int (i4.toInt8.toInt32)), .val (.ref b6), .unset] [(.int (3 : Int32)), (.int (1 : Int32))])) (fun t kt => ?_) ?_
      · show Steps p.tables e below (T7.setTop (mkF m 157 #[.val (.int i0), .val (.int i1), .val (.int i2), .val (.int i3), .val (.int i4), .val (.int (1 : Int32)), .val (.int (i1.toInt8.toInt32)), .val (.int (i2.toInt8.toInt32)), .val (.int (i3.toInt8.toInt32)), .val (.int (i4.toInt8.toInt32)), .val (.ref b6), .unset] [])) _
        refine XS.iload X7.here hx rfl (hb hby at_157) rfl ?_
        show Steps p.tables e below (T7.setTop (mkF m 159 #[.val (.int i0), .val (.int i1), .val (.int i2), .val (.int i3), .val (.int i4), .val (.int (1 : Int32)), .val (.int (i1.toInt8.toInt32)), .val (.int (i2.toInt8.toInt32)), .val (.int (i3.toInt8.toInt32)), .val (.int (i4.toInt8.toInt32)), .val (.ref b6), .unset] [(.int (1 : Int32))])) _
        refine XS.iconst X7.here hx rfl (hb hby at_159) ?_
        exact kt
      refine ownE.go (T' := T7) (f' := (mkF m 168 #[.val (.int i0), .val (.int i1), .val (.int i2), .val (.int i3), .val (.int i4), .val (.int (1 : Int32)), .val (.int (i1.toInt8.toInt32)), .val (.int (i2.toInt8.toInt32)), .val (.int (i3.toInt8.toInt32)), .val (.int (i4.toInt8.toInt32)), .val (.ref b6), .unset] [])) (fun t kt => XS.icmpYes (g := (mkF m 160 #[.val (.int i0), .val (.int i1), .val (.int i2), .val (.int i3), .val (.int i4), .val (.int (1 : Int32)), .val (.int (i1.toInt8.toInt32)), .val (.int (i2.toInt8.toInt32)), .val (.int (i3.toInt8.toInt32)), .val (.int (i4.toInt8.toInt32)), .val (.ref b6), .unset] [(.int (3 : Int32)), (.int (1 : Int32))])) X7.here hx rfl (pc0 := 160) (pc' := 168) rfl (hb hby at_160) rfl (Jvm.Free.XT.ii_lt_t (by decide)) (by decide) (by decide) kt) ?_
      refine ownE.go (T' := T7) (f' := (mkF m 171 #[.val (.int i0), .val (.int i1), .val (.int i2), .val (.int i3), .val (.int i4), .val (.int (1 : Int32)), .val (.int (i1.toInt8.toInt32)), .val (.int (i2.toInt8.toInt32)), .val (.int (i3.toInt8.toInt32)), .val (.int (i4.toInt8.toInt32)), .val (.ref b6), .unset] [(.int (4 : Int32)), (.int (1 : Int32))])) (fun t kt => ?_) ?_
      · show Steps p.tables e below (T7.setTop (mkF m 168 #[.val (.int i0), .val (.int i1), .val (.int i2), .val (.int i3), .val (.int i4), .val (.int (1 : Int32)), .val (.int (i1.toInt8.toInt32)), .val (.int (i2.toInt8.toInt32)), .val (.int (i3.toInt8.toInt32)), .val (.int (i4.toInt8.toInt32)), .val (.ref b6), .unset] [])) _
        refine XS.iload X7.here hx rfl (hb hby at_168) rfl ?_
        show Steps p.tables e below (T7.setTop (mkF m 170 #[.val (.int i0), .val (.int i1), .val (.int i2), .val (.int i3), .val (.int i4), .val (.int (1 : Int32)), .val (.int (i1.toInt8.toInt32)), .val (.int (i2.toInt8.toInt32)), .val (.int (i3.toInt8.toInt32)), .val (.int (i4.toInt8.toInt32)), .val (.ref b6), .unset] [(.int (1 : Int32))])) _
        refine XS.iconst X7.here hx rfl (hb hby at_170) ?_
        exact kt
      refine ownE.go (T' := T7) (f' := (mkF m 179 #[.val (.int i0), .val (.int i1), .val (.int i2), .val (.int i3), .val (.int i4), .val (.int (1 : Int32)), .val (.int (i1.toInt8.toInt32)), .val (.int (i2.toInt8.toInt32)), .val (.int (i3.toInt8.toInt32)), .val (.int (i4.toInt8.toInt32)), .val (.ref b6), .unset] [])) (fun t kt => XS.icmpYes (g := (mkF m 171 #[.val (.int i0), .val (.int i1), .val (.int i2), .val (.int i3), .val (.int i4), .val (.int (1 : Int32)), .val (.int (i1.toInt8.toInt32)), .val (.int (i2.toInt8.toInt32)), .val (.int (i3.toInt8.toInt32)), .val (.int (i4.toInt8.toInt32)), .val (.ref b6), .unset] [(.int (4 : Int32)), (.int (1 : Int32))])) X7.here hx rfl (pc0 := 171) (pc' := 179) rfl (hb hby at_171) rfl (Jvm.Free.XT.ii_lt_t (by decide)) (by decide) (by decide) kt) ?_
      refine ownE.go (T' := T7) (f' := (mkF m 184 #[.val (.int i0), .val (.int i1), .val (.int i2), .val (.int i3), .val (.int i4), .val (.int (1 : Int32)), .val (.int (i1.toInt8.toInt32)), .val (.int (i2.toInt8.toInt32)), .val (.int (i3.toInt8.toInt32)), .val (.int (i4.toInt8.toInt32)), .val (.ref b6), .unset] [(.int (1 : Int32))])) (fun t kt => ?_) ?_
      · show Steps p.tables e below (T7.setTop (mkF m 179 #[.val (.int i0), .val (.int i1), .val (.int i2), .val (.int i3), .val (.int i4), .val (.int (1 : Int32)), .val (.int (i1.toInt8.toInt32)), .val (.int (i2.toInt8.toInt32)), .val (.int (i3.toInt8.toInt32)), .val (.int (i4.toInt8.toInt32)), .val (.ref b6), .unset] [])) _
        refine XS.iconst X7.here hx rfl (hb hby at_179) ?_
        show Steps p.tables e below (T7.setTop (mkF m 180 #[.val (.int i0), .val (.int i1), .val (.int i2), .val (.int i3), .val (.int i4), .val (.int (1 : Int32)), .val (.int (i1.toInt8.toInt32)), .val (.int (i2.toInt8.toInt32)), .val (.int (i3.toInt8.toInt32)), .val (.int (i4.toInt8.toInt32)), .val (.ref b6), .unset] [(.int (1 : Int32))])) _
        refine XS.goto X7.here hx rfl (pc0 := 180) (pc' := 184) rfl (hb hby at_180) (by decide) (by decide) ?_
        exact kt
      have jj := J10 _ _ X7 e7 N7
      rw [show (own_j0_184_S0 i0 i1 i2 i3 i4) = (1 : Int32) from by rw [own_j0_184_S0, if_neg hc9]] at jj
      exact jj
  · -- ((i0 &&& (2147483647 : Int32)) % (5 : Int32)) = 2
    have hf1 : (mkF m 25 #[.val (.int i0), .val (.int i1), .val (.int i2), .val (.int i3), .val (.int i4), .val (.int ((i0 &&& (2147483647 : Int32)) % (5 : Int32))), .val (.int (i1.toInt8.toInt32)), .val (.int (i2.toInt8.toInt32)), .val (.int (i3.toInt8.toInt32)), .val (.int (i4.toInt8.toInt32)), .unset, .unset] []) = (mkF m 25 #[.val (.int i0), .val (.int i1), .val (.int i2), .val (.int i3), .val (.int i4), .val (.int (2 : Int32)), .val (.int (i1.toInt8.toInt32)), .val (.int (i2.toInt8.toInt32)), .val (.int (i3.toInt8.toInt32)), .val (.int (i4.toInt8.toInt32)), .unset, .unset] []) := by rw [hk1]
    rw [hf1]
    have hk1_0 : ¬ ((i0 &&& (2147483647 : Int32)) % (5 : Int32)) = (0 : Int32) := by rw [hk1]; decide
    have hk1_1 : ¬ ((i0 &&& (2147483647 : Int32)) % (5 : Int32)) = (1 : Int32) := by rw [hk1]; decide
    refine ownE.go (T' := s₁) (f' := (mkF m 27 #[.val (.int i0), .val (.int i1), .val (.int i2), .val (.int i3), .val (.int i4), .val (.int (2 : Int32)), .val (.int (i1.toInt8.toInt32)), .val (.int (i2.toInt8.toInt32)), .val (.int (i3.toInt8.toInt32)), .val (.int (i4.toInt8.toInt32)), .unset, .unset] [(.int (2 : Int32))])) (fun t kt => ?_) ?_
    · show Steps p.tables e below (s₁.setTop (mkF m 25 #[.val (.int i0), .val (.int i1), .val (.int i2), .val (.int i3), .val (.int i4), .val (.int (2 : Int32)), .val (.int (i1.toInt8.toInt32)), .val (.int (i2.toInt8.toInt32)), .val (.int (i3.toInt8.toInt32)), .val (.int (i4.toInt8.toInt32)), .unset, .unset] [])) _
      refine XS.iload X0.here hx rfl (hb hby at_25) rfl ?_
      exact kt
    refine ownE.go (T' := s₁) (f' := (mkF m 38 #[.val (.int i0), .val (.int i1), .val (.int i2), .val (.int i3), .val (.int i4), .val (.int (2 : Int32)), .val (.int (i1.toInt8.toInt32)), .val (.int (i2.toInt8.toInt32)), .val (.int (i3.toInt8.toInt32)), .val (.int (i4.toInt8.toInt32)), .unset, .unset] [])) (fun t kt => XS.ifYes (g := (mkF m 27 #[.val (.int i0), .val (.int i1), .val (.int i2), .val (.int i3), .val (.int i4), .val (.int (2 : Int32)), .val (.int (i1.toInt8.toInt32)), .val (.int (i2.toInt8.toInt32)), .val (.int (i3.toInt8.toInt32)), .val (.int (i4.toInt8.toInt32)), .unset, .unset] [(.int (2 : Int32))])) X0.here hx rfl (pc0 := 27) (pc' := 38) rfl (hb hby at_27) rfl (Jvm.Free.XT.i0_ne_t (by decide)) (by decide) (by decide) kt) ?_
    refine ownE.go (T' := s₁) (f' := (mkF m 41 #[.val (.int i0), .val (.int i1), .val (.int i2), .val (.int i3), .val (.int i4), .val (.int (2 : Int32)), .val (.int (i1.toInt8.toInt32)), .val (.int (i2.toInt8.toInt32)), .val (.int (i3.toInt8.toInt32)), .val (.int (i4.toInt8.toInt32)), .unset, .unset] [(.int (1 : Int32)), (.int (2 : Int32))])) (fun t kt => ?_) ?_
    · show Steps p.tables e below (s₁.setTop (mkF m 38 #[.val (.int i0), .val (.int i1), .val (.int i2), .val (.int i3), .val (.int i4), .val (.int (2 : Int32)), .val (.int (i1.toInt8.toInt32)), .val (.int (i2.toInt8.toInt32)), .val (.int (i3.toInt8.toInt32)), .val (.int (i4.toInt8.toInt32)), .unset, .unset] [])) _
      refine XS.iload X0.here hx rfl (hb hby at_38) rfl ?_
      show Steps p.tables e below (s₁.setTop (mkF m 40 #[.val (.int i0), .val (.int i1), .val (.int i2), .val (.int i3), .val (.int i4), .val (.int (2 : Int32)), .val (.int (i1.toInt8.toInt32)), .val (.int (i2.toInt8.toInt32)), .val (.int (i3.toInt8.toInt32)), .val (.int (i4.toInt8.toInt32)), .unset, .unset] [(.int (2 : Int32))])) _
      refine XS.iconst X0.here hx rfl (hb hby at_40) ?_
      exact kt
    refine ownE.go (T' := s₁) (f' := (mkF m 57 #[.val (.int i0), .val (.int i1), .val (.int i2), .val (.int i3), .val (.int i4), .val (.int (2 : Int32)), .val (.int (i1.toInt8.toInt32)), .val (.int (i2.toInt8.toInt32)), .val (.int (i3.toInt8.toInt32)), .val (.int (i4.toInt8.toInt32)), .unset, .unset] [])) (fun t kt => XS.icmpYes (g := (mkF m 41 #[.val (.int i0), .val (.int i1), .val (.int i2), .val (.int i3), .val (.int i4), .val (.int (2 : Int32)), .val (.int (i1.toInt8.toInt32)), .val (.int (i2.toInt8.toInt32)), .val (.int (i3.toInt8.toInt32)), .val (.int (i4.toInt8.toInt32)), .unset, .unset] [(.int (1 : Int32)), (.int (2 : Int32))])) X0.here hx rfl (pc0 := 41) (pc' := 57) rfl (hb hby at_41) rfl (Jvm.Free.XT.ii_ne_t (by decide)) (by decide) (by decide) kt) ?_
    refine ownE.go (T' := s₁) (f' := (mkF m 60 #[.val (.int i0), .val (.int i1), .val (.int i2), .val (.int i3), .val (.int i4), .val (.int (2 : Int32)), .val (.int (i1.toInt8.toInt32)), .val (.int (i2.toInt8.toInt32)), .val (.int (i3.toInt8.toInt32)), .val (.int (i4.toInt8.toInt32)), .unset, .unset] [(.int (2 : Int32)), (.int (2 : Int32))])) (fun t kt => ?_) ?_
    · show Steps p.tables e below (s₁.setTop (mkF m 57 #[.val (.int i0), .val (.int i1), .val (.int i2), .val (.int i3), .val (.int i4), .val (.int (2 : Int32)), .val (.int (i1.toInt8.toInt32)), .val (.int (i2.toInt8.toInt32)), .val (.int (i3.toInt8.toInt32)), .val (.int (i4.toInt8.toInt32)), .unset, .unset] [])) _
      refine XS.iload X0.here hx rfl (hb hby at_57) rfl ?_
      show Steps p.tables e below (s₁.setTop (mkF m 59 #[.val (.int i0), .val (.int i1), .val (.int i2), .val (.int i3), .val (.int i4), .val (.int (2 : Int32)), .val (.int (i1.toInt8.toInt32)), .val (.int (i2.toInt8.toInt32)), .val (.int (i3.toInt8.toInt32)), .val (.int (i4.toInt8.toInt32)), .unset, .unset] [(.int (2 : Int32))])) _
      refine XS.iconst X0.here hx rfl (hb hby at_59) ?_
      exact kt
    refine ownE.go (T' := s₁) (f' := (mkF m 63 #[.val (.int i0), .val (.int i1), .val (.int i2), .val (.int i3), .val (.int i4), .val (.int (2 : Int32)), .val (.int (i1.toInt8.toInt32)), .val (.int (i2.toInt8.toInt32)), .val (.int (i3.toInt8.toInt32)), .val (.int (i4.toInt8.toInt32)), .unset, .unset] [])) (fun t kt => XS.icmpNo (g := (mkF m 60 #[.val (.int i0), .val (.int i1), .val (.int i2), .val (.int i3), .val (.int i4), .val (.int (2 : Int32)), .val (.int (i1.toInt8.toInt32)), .val (.int (i2.toInt8.toInt32)), .val (.int (i3.toInt8.toInt32)), .val (.int (i4.toInt8.toInt32)), .unset, .unset] [(.int (2 : Int32)), (.int (2 : Int32))])) X0.here hx rfl (hb hby at_60) rfl (Jvm.Free.XT.ii_ne_f (by decide)) kt) ?_
    refine ownE.go (T' := s₁) (f' := (mkF m 64 #[.val (.int i0), .val (.int i1), .val (.int i2), .val (.int i3), .val (.int i4), .val (.int (2 : Int32)), .val (.int (i1.toInt8.toInt32)), .val (.int (i2.toInt8.toInt32)), .val (.int (i3.toInt8.toInt32)), .val (.int (i4.toInt8.toInt32)), .unset, .unset] [(.int (2 : Int32))])) (fun t kt => ?_) ?_
    · show Steps p.tables e below (s₁.setTop (mkF m 63 #[.val (.int i0), .val (.int i1), .val (.int i2), .val (.int i3), .val (.int i4), .val (.int (2 : Int32)), .val (.int (i1.toInt8.toInt32)), .val (.int (i2.toInt8.toInt32)), .val (.int (i3.toInt8.toInt32)), .val (.int (i4.toInt8.toInt32)), .unset, .unset] [])) _
      refine XS.iconst X0.here hx rfl (hb hby at_63) ?_
      exact kt
    obtain ⟨T13, h13, k13, X13, e13, E13, A13, st13⟩ := newP X0 hx hZ (hw _ (List.mem_of_getElem? (i := 1) rfl)) e0 (g := (mkF m 64 #[.val (.int i0), .val (.int i1), .val (.int i2), .val (.int i3), .val (.int i4), .val (.int (2 : Int32)), .val (.int (i1.toInt8.toInt32)), .val (.int (i2.toInt8.toInt32)), .val (.int (i3.toInt8.toInt32)), .val (.int (i4.toInt8.toInt32)), .unset, .unset] [(.int (2 : Int32))])) rfl (hb hby at_64) rfl (by decide) (cap := 2) (by decide) (by decide) (by decide) (by decide)
    obtain ⟨b13, g13⟩ : ∃ z, z = h0.size := ⟨_, rfl⟩
    rw [← g13] at A13 st13
    have sz_b13 : h0.size ≤ b13 := Nat.le_trans K0.1 (Nat.le_of_eq g13.symm)
    have ge_b13 : n0 ≤ b13 := Nat.le_trans Z0 sz_b13
    have V13 : Arv Z h13 b13 k13 .byte (2 : Int32) [(.int (0 : Int32)), (.int (0 : Int32))] (.int (0 : Int32)) := (Arv.new A13 (by decide)).pad (pad_rep [] (.int (0 : Int32)) 2)
    have K13 : Keep h0 h13 [] := K0.ext E13
    refine ownE.go (T' := T13) (f' := (mkF m 66 #[.val (.int i0), .val (.int i1), .val (.int i2), .val (.int i3), .val (.int i4), .val (.int (2 : Int32)), .val (.int (i1.toInt8.toInt32)), .val (.int (i2.toInt8.toInt32)), .val (.int (i3.toInt8.toInt32)), .val (.int (i4.toInt8.toInt32)), .unset, .unset] [(.ref b13)])) st13 ?_
    refine ownE.go (T' := T13) (f' := (mkF m 70 #[.val (.int i0), .val (.int i1), .val (.int i2), .val (.int i3), .val (.int i4), .val (.int (2 : Int32)), .val (.int (i1.toInt8.toInt32)), .val (.int (i2.toInt8.toInt32)), .val (.int (i3.toInt8.toInt32)), .val (.int (i4.toInt8.toInt32)), .unset, .unset] [(.int (i1.toInt8.toInt32)), (.int (0 : Int32)), (.ref b13), (.ref b13)])) (fun t kt => ?_) ?_
    · show Steps p.tables e below (T13.setTop (mkF m 66 #[.val (.int i0), .val (.int i1), .val (.int i2), .val (.int i3), .val (.int i4), .val (.int (2 : Int32)), .val (.int (i1.toInt8.toInt32)), .val (.int (i2.toInt8.toInt32)), .val (.int (i3.toInt8.toInt32)), .val (.int (i4.toInt8.toInt32)), .unset, .unset] [(.ref b13)])) _
      refine XS.dup X13.here hx rfl (hb hby at_66) rfl rfl ?_
      show Steps p.tables e below (T13.setTop (mkF m 67 #[.val (.int i0), .val (.int i1), .val (.int i2), .val (.int i3), .val (.int i4), .val (.int (2 : Int32)), .val (.int (i1.toInt8.toInt32)), .val (.int (i2.toInt8.toInt32)), .val (.int (i3.toInt8.toInt32)), .val (.int (i4.toInt8.toInt32)), .unset, .unset] [(.ref b13), (.ref b13)])) _
      refine XS.iconst X13.here hx rfl (hb hby at_67) ?_
      show Steps p.tables e below (T13.setTop (mkF m 68 #[.val (.int i0), .val (.int i1), .val (.int i2), .val (.int i3), .val (.int i4), .val (.int (2 : Int32)), .val (.int (i1.toInt8.toInt32)), .val (.int (i2.toInt8.toInt32)), .val (.int (i3.toInt8.toInt32)), .val (.int (i4.toInt8.toInt32)), .unset, .unset] [(.int (0 : Int32)), (.ref b13), (.ref b13)])) _
      refine XS.iload X13.here hx rfl (hb hby at_68) rfl ?_
      exact kt
    obtain ⟨cl14, Ar14, q14, S14, Nn14, Hh14, G14⟩ := id V13
    have hin14 : ¬ ((0 : Int32) < 0 ∨ cl14.slots.size ≤ ((0 : Int32)).toNatClampNeg) := inb_of S14 ⟨by decide, by decide⟩
    obtain ⟨T14, h14, X14, e14, W14, st14⟩ := stB X13 hx hZ e13 Ar14 (j := (0 : Int32)) hin14 (g := (mkF m 70 #[.val (.int i0), .val (.int i1), .val (.int i2), .val (.int i3), .val (.int i4), .val (.int (2 : Int32)), .val (.int (i1.toInt8.toInt32)), .val (.int (i2.toInt8.toInt32)), .val (.int (i3.toInt8.toInt32)), .val (.int (i4.toInt8.toInt32)), .unset, .unset] [(.int (i1.toInt8.toInt32)), (.int (0 : Int32)), (.ref b13), (.ref b13)])) rfl rfl (hb hby at_70)
    have V14 : Arv Z h14 b13 k13 .byte (2 : Int32) [(.int ((i1.toInt8.toInt32).toInt8.toInt32)), (.int (0 : Int32))] (.int (0 : Int32)) := Arv.set Ar14 q14 S14 Nn14 Hh14 G14 (fits_nar_byte _) W14 0 rfl (Nat.le_of_ble_eq_true rfl)
    have K14 : Keep h0 h14 [] := K13.wr W14 (Or.inr sz_b13)
    have N14 := Fr.snoc X14 N0 ge_b13
    refine ownE.go (T' := T14) (f' := (mkF m 71 #[.val (.int i0), .val (.int i1), .val (.int i2), .val (.int i3), .val (.int i4), .val (.int (2 : Int32)), .val (.int (i1.toInt8.toInt32)), .val (.int (i2.toInt8.toInt32)), .val (.int (i3.toInt8.toInt32)), .val (.int (i4.toInt8.toInt32)), .unset, .unset] [(.ref b13)])) st14 ?_
    refine ownE.go (T' := T14) (f' := (mkF m 75 #[.val (.int i0), .val (.int i1), .val (.int i2), .val (.int i3), .val (.int i4), .val (.int (2 : Int32)), .val (.int (i1.toInt8.toInt32)), .val (.int (i2.toInt8.toInt32)), .val (.int (i3.toInt8.toInt32)), .val (.int (i4.toInt8.toInt32)), .unset, .unset] [(.int (i2.toInt8.toInt32)), (.int (1 : Int32)), (.ref b13), (.ref b13)])) (fun t kt => ?_) ?_
    · show Steps p.tables e below (T14.setTop (mkF m 71 #[.val (.int i0), .val (.int i1), .val (.int i2), .val (.int i3), .val (.int i4), .val (.int (2 : Int32)), .val (.int (i1.toInt8.toInt32)), .val (.int (i2.toInt8.toInt32)), .val (.int (i3.toInt8.toInt32)), .val (.int (i4.toInt8.toInt32)), .unset, .unset] [(.ref b13)])) _
      refine XS.dup X14.here hx rfl (hb hby at_71) rfl rfl ?_
      show Steps p.tables e below (T14.setTop (mkF m 72 #[.val (.int i0), .val (.int i1), .val (.int i2), .val (.int i3), .val (.int i4), .val (.int (2 : Int32)), .val (.int (i1.toInt8.toInt32)), .val (.int (i2.toInt8.toInt32)), .val (.int (i3.toInt8.toInt32)), .val (.int (i4.toInt8.toInt32)), .unset, .unset] [(.ref b13), (.ref b13)])) _
      refine XS.iconst X14.here hx rfl (hb hby at_72) ?_
      show Steps p.tables e below (T14.setTop (mkF m 73 #[.val (.int i0), .val (.int i1), .val (.int i2), .val (.int i3), .val (.int i4), .val (.int (2 : Int32)), .val (.int (i1.toInt8.toInt32)), .val (.int (i2.toInt8.toInt32)), .val (.int (i3.toInt8.toInt32)), .val (.int (i4.toInt8.toInt32)), .unset, .unset] [(.int (1 : Int32)), (.ref b13), (.ref b13)])) _
      refine XS.iload X14.here hx rfl (hb hby at_73) rfl ?_
      exact kt
    obtain ⟨cl15, Ar15, q15, S15, Nn15, Hh15, G15⟩ := id V14
    have hin15 : ¬ ((1 : Int32) < 0 ∨ cl15.slots.size ≤ ((1 : Int32)).toNatClampNeg) := inb_of S15 ⟨by decide, by decide⟩
    obtain ⟨T15, h15, X15, e15, W15, st15⟩ := stB X14 hx hZ e14 Ar15 (j := (1 : Int32)) hin15 (g := (mkF m 75 #[.val (.int i0), .val (.int i1), .val (.int i2), .val (.int i3), .val (.int i4), .val (.int (2 : Int32)), .val (.int (i1.toInt8.toInt32)), .val (.int (i2.toInt8.toInt32)), .val (.int (i3.toInt8.toInt32)), .val (.int (i4.toInt8.toInt32)), .unset, .unset] [(.int (i2.toInt8.toInt32)), (.int (1 : Int32)), (.ref b13), (.ref b13)])) rfl rfl (hb hby at_75)
    have V15 : Arv Z h15 b13 k13 .byte (2 : Int32) [(.int ((i1.toInt8.toInt32).toInt8.toInt32)), (.int ((i2.toInt8.toInt32).toInt8.toInt32))] (.int (0 : Int32)) := Arv.set Ar15 q15 S15 Nn15 Hh15 G15 (fits_nar_byte _) W15 1 rfl (Nat.le_of_ble_eq_true rfl)
    have K15 : Keep h0 h15 [] := K14.wr W15 (Or.inr sz_b13)
    have N15 := Fr.snoc X15 N14 ge_b13
    refine ownE.go (T' := T15) (f' := (mkF m 76 #[.val (.int i0), .val (.int i1), .val (.int i2), .val (.int i3), .val (.int i4), .val (.int (2 : Int32)), .val (.int (i1.toInt8.toInt32)), .val (.int (i2.toInt8.toInt32)), .val (.int (i3.toInt8.toInt32)), .val (.int (i4.toInt8.toInt32)), .unset, .unset] [(.ref b13)])) st15 ?_
    refine ownE.go (T' := T15) (f' := (mkF m 135 #[.val (.int i0), .val (.int i1), .val (.int i2), .val (.int i3), .val (.int i4), .val (.int (2 : Int32)), .val (.int (i1.toInt8.toInt32)), .val (.int (i2.toInt8.toInt32)), .val (.int (i3.toInt8.toInt32)), .val (.int (i4.toInt8.toInt32)), .val (.ref b13), .unset] [])) (fun t kt => ?_) ?_
    · show Steps p.tables e below (T15.setTop (mkF m 76 #[.val (.int i0), .val (.int i1), .val (.int i2), .val (.int i3), .val (.int i4), .val (.int (2 : Int32)), .val (.int (i1.toInt8.toInt32)), .val (.int (i2.toInt8.toInt32)), .val (.int (i3.toInt8.toInt32)), .val (.int (i4.toInt8.toInt32)), .unset, .unset] [(.ref b13)])) _
      refine XS.astore X15.here hx rfl (hb hby at_76) rfl rfl (l' := #[.val (.int i0), .val (.int i1), .val (.int i2), .val (.int i3), .val (.int i4), .val (.int (2 : Int32)), .val (.int (i1.toInt8.toInt32)), .val (.int (i2.toInt8.toInt32)), .val (.int (i3.toInt8.toInt32)), .val (.int (i4.toInt8.toInt32)), .val (.ref b13), .unset]) rfl ?_
      show Steps p.tables e below (T15.setTop (mkF m 78 #[.val (.int i0), .val (.int i1), .val (.int i2), .val (.int i3), .val (.int i4), .val (.int (2 : Int32)), .val (.int (i1.toInt8.toInt32)), .val (.int (i2.toInt8.toInt32)), .val (.int (i3.toInt8.toInt32)), .val (.int (i4.toInt8.toInt32)), .val (.ref b13), .unset] [])) _
      refine XS.goto X15.here hx rfl (pc0 := 78) (pc' := 135) rfl (hb hby at_78) (by decide) (by decide) ?_
      exact kt
    have J19 : ∀ (TJ19 : State) (locsJ19 : List Loc), Stand p l e room_1 s m #[(.int i0), (.int i1), (.int i2), (.int i3), (.int i4)] below meth c TJ19 locsJ19 1 2 → TJ19.heap = h15 → Fr n0 locsJ19 → ownE p e below s (own_Q0 Z i0 i1 i2 i3 i4 h0 n0) 1 4 TJ19 (mkF m 184 #[.val (.int i0), .val (.int i1), .val (.int i2), .val (.int i3), .val (.int i4), .val (.int (2 : Int32)), .val (.int (i1.toInt8.toInt32)), .val (.int (i2.toInt8.toInt32)), .val (.int (i3.toInt8.toInt32)), .val (.int (i4.toInt8.toInt32)), .val (.ref b13), .unset] [(.int (own_j0_184_S0_2 i0 i1 i2 i3 i4))]) := by
      intro TJ19 locsJ19 XJ19 eJ19 NJ19
      refine ownE.go (T' := TJ19) (f' := (mkF m 188 #[.val (.int i0), .val (.int i1), .val (.int i2), .val (.int i3), .val (.int i4), .val (.int (2 : Int32)), .val (.int (i1.toInt8.toInt32)), .val (.int (i2.toInt8.toInt32)), .val (.int (i3.toInt8.toInt32)), .val (.int (i4.toInt8.toInt32)), .val (.ref b13), .val (.int (own_j0_184_S0_2 i0 i1 i2 i3 i4))] [(.ref b13)])) (fun t kt => ?_) ?_
      · show Steps p.tables e below (TJ19.setTop (mkF m 184 #[.val (.int i0), .val (.int i1), .val (.int i2), .val (.int i3), .val (.int i4), .val (.int (2 : Int32)), .val (.int (i1.toInt8.toInt32)), .val (.int (i2.toInt8.toInt32)), .val (.int (i3.toInt8.toInt32)), .val (.int (i4.toInt8.toInt32)), .val (.ref b13), .unset] [(.int (own_j0_184_S0_2 i0 i1 i2 i3 i4))])) _
        refine XS.istore XJ19.here hx rfl (hb hby at_184) rfl (l' := #[.val (.int i0), .val (.int i1), .val (.int i2), .val (.int i3), .val (.int i4), .val (.int (2 : Int32)), .val (.int (i1.toInt8.toInt32)), .val (.int (i2.toInt8.toInt32)), .val (.int (i3.toInt8.toInt32)), .val (.int (i4.toInt8.toInt32)), .val (.ref b13), .val (.int (own_j0_184_S0_2 i0 i1 i2 i3 i4))]) rfl ?_
        show Steps p.tables e below (TJ19.setTop (mkF m 186 #[.val (.int i0), .val (.int i1), .val (.int i2), .val (.int i3), .val (.int i4), .val (.int (2 : Int32)), .val (.int (i1.toInt8.toInt32)), .val (.int (i2.toInt8.toInt32)), .val (.int (i3.toInt8.toInt32)), .val (.int (i4.toInt8.toInt32)), .val (.ref b13), .val (.int (own_j0_184_S0_2 i0 i1 i2 i3 i4))] [])) _
        refine XS.aload XJ19.here hx rfl (hb hby at_186) rfl rfl ?_
        exact kt
      obtain ⟨_, _, ⟨T20, L20, k20, n20⟩, -, X20, ⟨Lc20, hQ20, l20, y20, z20⟩, st20⟩ := Jvm.LawKit.callS XJ19 hx (y := (⟨"com/example/libvalise/libvalise/ZipFormat", "isAscii", "([B)Z"⟩ : MethodName)) hown (mvT hZ (hw _ (List.mem_of_getElem? (i := 2) rfl))) (mvT hZ (hw _ (List.mem_of_getElem? (i := 3) rfl))) (mvT hZ (hw _ (List.mem_of_getElem? (i := 4) rfl))) (mvT hZ (hw _ (List.mem_of_getElem? (i := 5) rfl))) (by decide) (backOf (W := 0) (own_rm1n2 l Z a0 hw [] b13 k13 ((i1.toInt8.toInt32).toInt8.toInt32) ((i2.toInt8.toInt32).toInt8.toInt32) h15 n0 (Nat.le_trans Z0 K15.1) V15) hZ (hw _ (List.mem_of_getElem? (i := 5) rfl)) (hw _ (List.mem_of_getElem? (i := 4) rfl)) (by decide) (by decide)) (g := (mkF m 188 #[.val (.int i0), .val (.int i1), .val (.int i2), .val (.int i3), .val (.int i4), .val (.int (2 : Int32)), .val (.int (i1.toInt8.toInt32)), .val (.int (i2.toInt8.toInt32)), .val (.int (i3.toInt8.toInt32)), .val (.int (i4.toInt8.toInt32)), .val (.ref b13), .val (.int (own_j0_184_S0_2 i0 i1 i2 i3 i4))] [(.ref b13)])) rfl (by rw [hml]; rfl) (argsL := [(.ref b13)]) (rest := []) (lenOf own_pd1 rfl) rfl (by show 2 * 0 + _ ≤ _; exact Nat.le_of_eq rfl) (hb hby at_188) (fun _ _ => ⟨rfl, eJ19, (by decide : 1 + 0 ≤ _), (by decide : 2 + 0 ≤ _)⟩)
      dsimp only [Pt.U, Pt.locs, Pt.cells, Pt.slots] at X20 l20 y20 z20 st20 hQ20
      subst l20 y20 z20
      obtain ⟨rfl, N20q, e20⟩ := hQ20
      have N20 := Fr.app NJ19 N20q
      refine ownE.go (T' := T20) (f' := (mkF m 191 #[.val (.int i0), .val (.int i1), .val (.int i2), .val (.int i3), .val (.int i4), .val (.int (2 : Int32)), .val (.int (i1.toInt8.toInt32)), .val (.int (i2.toInt8.toInt32)), .val (.int (i3.toInt8.toInt32)), .val (.int (i4.toInt8.toInt32)), .val (.ref b13), .val (.int (own_j0_184_S0_2 i0 i1 i2 i3 i4))] [(.int (own_asc2 ((i1.toInt8.toInt32).toInt8.toInt32) ((i2.toInt8.toInt32).toInt8.toInt32)))])) st20 ?_
      refine ownE.go (T' := T20) (f' := (mkF m 193 #[.val (.int i0), .val (.int i1), .val (.int i2), .val (.int i3), .val (.int i4), .val (.int (2 : Int32)), .val (.int (i1.toInt8.toInt32)), .val (.int (i2.toInt8.toInt32)), .val (.int (i3.toInt8.toInt32)), .val (.int (i4.toInt8.toInt32)), .val (.ref b13), .val (.int (own_j0_184_S0_2 i0 i1 i2 i3 i4))] [(.int (own_j0_184_S0_2 i0 i1 i2 i3 i4)), (.int (own_asc2 ((i1.toInt8.toInt32).toInt8.toInt32) ((i2.toInt8.toInt32).toInt8.toInt32)))])) (fun t kt => ?_) ?_
      · show Steps p.tables e below (T20.setTop (mkF m 191 #[.val (.int i0), .val (.int i1), .val (.int i2), .val (.int i3), .val (.int i4), .val (.int (2 : Int32)), .val (.int (i1.toInt8.toInt32)), .val (.int (i2.toInt8.toInt32)), .val (.int (i3.toInt8.toInt32)), .val (.int (i4.toInt8.toInt32)), .val (.ref b13), .val (.int (own_j0_184_S0_2 i0 i1 i2 i3 i4))] [(.int (own_asc2 ((i1.toInt8.toInt32).toInt8.toInt32) ((i2.toInt8.toInt32).toInt8.toInt32)))])) _
        refine XS.iload X20.here hx rfl (hb hby at_191) rfl ?_
        exact kt
      by_cases hc21 : (own_asc2 ((i1.toInt8.toInt32).toInt8.toInt32) ((i2.toInt8.toInt32).toInt8.toInt32)) = (own_j0_184_S0_2 i0 i1 i2 i3 i4)
      · -- pc 193
        refine ownE.go (T' := T20) (f' := (mkF m 196 #[.val (.int i0), .val (.int i1), .val (.int i2), .val (.int i3), .val (.int i4), .val (.int (2 : Int32)), .val (.int (i1.toInt8.toInt32)), .val (.int (i2.toInt8.toInt32)), .val (.int (i3.toInt8.toInt32)), .val (.int (i4.toInt8.toInt32)), .val (.ref b13), .val (.int (own_j0_184_S0_2 i0 i1 i2 i3 i4))] [])) (fun t kt => XS.icmpNo (g := (mkF m 193 #[.val (.int i0), .val (.int i1), .val (.int i2), .val (.int i3), .val (.int i4), .val (.int (2 : Int32)), .val (.int (i1.toInt8.toInt32)), .val (.int (i2.toInt8.toInt32)), .val (.int (i3.toInt8.toInt32)), .val (.int (i4.toInt8.toInt32)), .val (.ref b13), .val (.int (own_j0_184_S0_2 i0 i1 i2 i3 i4))] [(.int (own_j0_184_S0_2 i0 i1 i2 i3 i4)), (.int (own_asc2 ((i1.toInt8.toInt32).toInt8.toInt32) ((i2.toInt8.toInt32).toInt8.toInt32)))])) X20.here hx rfl (hb hby at_193) rfl (Jvm.Free.XT.ii_ne_f hc21) kt) ?_
        refine ownE.go (T' := T20) (f' := (mkF m 201 #[.val (.int i0), .val (.int i1), .val (.int i2), .val (.int i3), .val (.int i4), .val (.int (2 : Int32)), .val (.int (i1.toInt8.toInt32)), .val (.int (i2.toInt8.toInt32)), .val (.int (i3.toInt8.toInt32)), .val (.int (i4.toInt8.toInt32)), .val (.ref b13), .val (.int (own_j0_184_S0_2 i0 i1 i2 i3 i4))] [(.int (1 : Int32))])) (fun t kt => ?_) ?_
        · show Steps p.tables e below (T20.setTop (mkF m 196 #[.val (.int i0), .val (.int i1), .val (.int i2), .val (.int i3), .val (.int i4), .val (.int (2 : Int32)), .val (.int (i1.toInt8.toInt32)), .val (.int (i2.toInt8.toInt32)), .val (.int (i3.toInt8.toInt32)), .val (.int (i4.toInt8.toInt32)), .val (.ref b13), .val (.int (own_j0_184_S0_2 i0 i1 i2 i3 i4))] [])) _
          refine XS.iconst X20.here hx rfl (hb hby at_196) ?_
          show Steps p.tables e below (T20.setTop (mkF m 197 #[.val (.int i0), .val (.int i1), .val (.int i2), .val (.int i3), .val (.int i4), .val (.int (2 : Int32)), .val (.int (i1.toInt8.toInt32)), .val (.int (i2.toInt8.toInt32)), .val (.int (i3.toInt8.toInt32)), .val (.int (i4.toInt8.toInt32)), .val (.ref b13), .val (.int (own_j0_184_S0_2 i0 i1 i2 i3 i4))] [(.int (1 : Int32))])) _
          refine XS.goto X20.here hx rfl (pc0 := 197) (pc' := 201) rfl (hb hby at_197) (by decide) (by decide) ?_
          exact kt
        refine ownE.retN X20 hx hlk (t := .boolean) hret (by simp) (hb hby at_201) ?_ (by decide) (by decide)
        show own_Q0 Z i0 i1 i2 i3 i4 h0 n0 _ T20.heap _
        rw [e20]
        exact ⟨(by rw [own_f0, if_neg hk1_0, if_neg hk1_1, if_pos hk1, if_pos hc21] <;> first | rfl | decide), N20, K15⟩
      · -- pc 193
        refine ownE.go (T' := T20) (f' := (mkF m 200 #[.val (.int i0), .val (.int i1), .val (.int i2), .val (.int i3), .val (.int i4), .val (.int (2 : Int32)), .val (.int (i1.toInt8.toInt32)), .val (.int (i2.toInt8.toInt32)), .val (.int (i3.toInt8.toInt32)), .val (.int (i4.toInt8.toInt32)), .val (.ref b13), .val (.int (own_j0_184_S0_2 i0 i1 i2 i3 i4))] [])) (fun t kt => XS.icmpYes (g := (mkF m 193 #[.val (.int i0), .val (.int i1), .val (.int i2), .val (.int i3), .val (.int i4), .val (.int (2 : Int32)), .val (.int (i1.toInt8.toInt32)), .val (.int (i2.toInt8.toInt32)), .val (.int (i3.toInt8.toInt32)), .val (.int (i4.toInt8.toInt32)), .val (.ref b13), .val (.int (own_j0_184_S0_2 i0 i1 i2 i3 i4))] [(.int (own_j0_184_S0_2 i0 i1 i2 i3 i4)), (.int (own_asc2 ((i1.toInt8.toInt32).toInt8.toInt32) ((i2.toInt8.toInt32).toInt8.toInt32)))])) X20.here hx rfl (pc0 := 193) (pc' := 200) rfl (hb hby at_193) rfl (Jvm.Free.XT.ii_ne_t hc21) (by decide) (by decide) kt) ?_
        refine ownE.go (T' := T20) (f' := (mkF m 201 #[.val (.int i0), .val (.int i1), .val (.int i2), .val (.int i3), .val (.int i4), .val (.int (2 : Int32)), .val (.int (i1.toInt8.toInt32)), .val (.int (i2.toInt8.toInt32)), .val (.int (i3.toInt8.toInt32)), .val (.int (i4.toInt8.toInt32)), .val (.ref b13), .val (.int (own_j0_184_S0_2 i0 i1 i2 i3 i4))] [(.int (0 : Int32))])) (fun t kt => ?_) ?_
        · show Steps p.tables e below (T20.setTop (mkF m 200 #[.val (.int i0), .val (.int i1), .val (.int i2), .val (.int i3), .val (.int i4), .val (.int (2 : Int32)), .val (.int (i1.toInt8.toInt32)), .val (.int (i2.toInt8.toInt32)), .val (.int (i3.toInt8.toInt32)), .val (.int (i4.toInt8.toInt32)), .val (.ref b13), .val (.int (own_j0_184_S0_2 i0 i1 i2 i3 i4))] [])) _
          refine XS.iconst X20.here hx rfl (hb hby at_200) ?_
          exact kt
        refine ownE.retN X20 hx hlk (t := .boolean) hret (by simp) (hb hby at_201) ?_ (by decide) (by decide)
        show own_Q0 Z i0 i1 i2 i3 i4 h0 n0 _ T20.heap _
        rw [e20]
        exact ⟨(by rw [own_f0, if_neg hk1_0, if_neg hk1_1, if_pos hk1, if_neg hc21] <;> first | rfl | decide), N20, K15⟩
    refine ownE.go (T' := T15) (f' := (mkF m 138 #[.val (.int i0), .val (.int i1), .val (.int i2), .val (.int i3), .val (.int i4), .val (.int (2 : Int32)), .val (.int (i1.toInt8.toInt32)), .val (.int (i2.toInt8.toInt32)), .val (.int (i3.toInt8.toInt32)), .val (.int (i4.toInt8.toInt32)), .val (.ref b13), .unset] [(.int (1 : Int32)), (.int (2 : Int32))])) (fun t kt => ?_) ?_
    · show Steps p.tables e below (T15.setTop (mkF m 135 #[.val (.int i0), .val (.int i1), .val (.int i2), .val (.int i3), .val (.int i4), .val (.int (2 : Int32)), .val (.int (i1.toInt8.toInt32)), .val (.int (i2.toInt8.toInt32)), .val (.int (i3.toInt8.toInt32)), .val (.int (i4.toInt8.toInt32)), .val (.ref b13), .unset] [])) _
      refine XS.iload X15.here hx rfl (hb hby at_135) rfl ?_
      show Steps p.tables e below (T15.setTop (mkF m 137 #[.val (.int i0), .val (.int i1), .val (.int i2), .val (.int i3), .val (.int i4), .val (.int (2 : Int32)), .val (.int (i1.toInt8.toInt32)), .val (.int (i2.toInt8.toInt32)), .val (.int (i3.toInt8.toInt32)), .val (.int (i4.toInt8.toInt32)), .val (.ref b13), .unset] [(.int (2 : Int32))])) _
      refine XS.iconst X15.here hx rfl (hb hby at_137) ?_
      exact kt
    refine ownE.go (T' := T15) (f' := (mkF m 141 #[.val (.int i0), .val (.int i1), .val (.int i2), .val (.int i3), .val (.int i4), .val (.int (2 : Int32)), .val (.int (i1.toInt8.toInt32)), .val (.int (i2.toInt8.toInt32)), .val (.int (i3.toInt8.toInt32)), .val (.int (i4.toInt8.toInt32)), .val (.ref b13), .unset] [])) (fun t kt => XS.icmpNo (g := (mkF m 138 #[.val (.int i0), .val (.int i1), .val (.int i2), .val (.int i3), .val (.int i4), .val (.int (2 : Int32)), .val (.int (i1.toInt8.toInt32)), .val (.int (i2.toInt8.toInt32)), .val (.int (i3.toInt8.toInt32)), .val (.int (i4.toInt8.toInt32)), .val (.ref b13), .unset] [(.int (1 : Int32)), (.int (2 : Int32))])) X15.here hx rfl (hb hby at_138) rfl (Jvm.Free.XT.ii_lt_f (by decide)) kt) ?_
    refine ownE.go (T' := T15) (f' := (mkF m 143 #[.val (.int i0), .val (.int i1), .val (.int i2), .val (.int i3), .val (.int i4), .val (.int (2 : Int32)), .val (.int (i1.toInt8.toInt32)), .val (.int (i2.toInt8.toInt32)), .val (.int (i3.toInt8.toInt32)), .val (.int (i4.toInt8.toInt32)), .val (.ref b13), .unset] [(.int (i1.toInt8.toInt32))])) (fun t kt => ?_) ?_
    · show Steps p.tables e below (T15.setTop (mkF m 141 #[.val (.int i0), .val (.int i1), .val (.int i2), .val (.int i3), .val (.int i4), .val (.int (2 : Int32)), .val (.int (i1.toInt8.toInt32)), .val (.int (i2.toInt8.toInt32)), .val (.int (i3.toInt8.toInt32)), .val (.int (i4.toInt8.toInt32)), .val (.ref b13), .unset] [])) _
      refine XS.iload X15.here hx rfl (hb hby at_141) rfl ?_
      exact kt
    by_cases hc17 : (i1.toInt8.toInt32) < (0 : Int32)
    · -- pc 143
      refine ownE.go (T' := T15) (f' := (mkF m 183 #[.val (.int i0), .val (.int i1), .val (.int i2), .val (.int i3), .val (.int i4), .val (.int (2 : Int32)), .val (.int (i1.toInt8.toInt32)), .val (.int (i2.toInt8.toInt32)), .val (.int (i3.toInt8.toInt32)), .val (.int (i4.toInt8.toInt32)), .val (.ref b13), .unset] [])) (fun t kt => XS.ifYes (g := (mkF m 143 #[.val (.int i0), .val (.int i1), .val (.int i2), .val (.int i3), .val (.int i4), .val (.int (2 : Int32)), .val (.int (i1.toInt8.toInt32)), .val (.int (i2.toInt8.toInt32)), .val (.int (i3.toInt8.toInt32)), .val (.int (i4.toInt8.toInt32)), .val (.ref b13), .unset] [(.int (i1.toInt8.toInt32))])) X15.here hx rfl (pc0 := 143) (pc' := 183) rfl (hb hby at_143) rfl (Jvm.Free.XT.i0_lt_t hc17) (by decide) (by decide) kt) ?_
      refine ownE.go (T' := T15) (f' := (mkF m 184 #[.val (.int i0), .val (.int i1), .val (.int i2), .val (.int i3), .val (.int i4), .val (.int (2 : Int32)), .val (.int (i1.toInt8.toInt32)), .val (.int (i2.toInt8.toInt32)), .val (.int (i3.toInt8.toInt32)), .val (.int (i4.toInt8.toInt32)), .val (.ref b13), .unset] [(.int (0 : Int32))])) (fun t kt => ?_) ?_
      · show Steps p.tables e below (T15.setTop (mkF m 183 #[.val (.int i0), .val (.int i1), .val (.int i2), .val (.int i3), .val (.int i4), .val (.int (2 : Int32)), .val (.int (i1.toInt8.toInt32)), .val (.int (i2.toInt8.toInt32)), .val (.int (i3.toInt8.toInt32)), .val (.int (i4.toInt8.toInt32)), .val (.ref b13), .unset] [])) _
        refine XS.iconst X15.here hx rfl (hb hby at_183) ?_
        exact kt
      have jj := J19 _ _ X15 e15 N15
      rw [show (own_j0_184_S0_2 i0 i1 i2 i3 i4) = (0 : Int32) from by rw [own_j0_184_S0_2, if_pos hc17]] at jj
      exact jj
    · -- pc 143
      refine ownE.go (T' := T15) (f' := (mkF m 146 #[.val (.int i0), .val (.int i1), .val (.int i2), .val (.int i3), .val (.int i4), .val (.int (2 : Int32)), .val (.int (i1.toInt8.toInt32)), .val (.int (i2.toInt8.toInt32)), .val (.int (i3.toInt8.toInt32)), .val (.int (i4.toInt8.toInt32)), .val (.ref b13), .unset] [])) (fun t kt => XS.ifNo (g := (mkF m 143 #[.val (.int i0), .val (.int i1), .val (.int i2), .val (.int i3), .val (.int i4), .val (.int (2 : Int32)), .val (.int (i1.toInt8.toInt32)), .val (.int (i2.toInt8.toInt32)), .val (.int (i3.toInt8.toInt32)), .val (.int (i4.toInt8.toInt32)), .val (.ref b13), .unset] [(.int (i1.toInt8.toInt32))])) X15.here hx rfl (hb hby at_143) rfl (Jvm.Free.XT.i0_lt_f hc17) kt) ?_
      refine ownE.go (T' := T15) (f' := (mkF m 149 #[.val (.int i0), .val (.int i1), .val (.int i2), .val (.int i3), .val (.int i4), .val (.int (2 : Int32)), .val (.int (i1.toInt8.toInt32)), .val (.int (i2.toInt8.toInt32)), .val (.int (i3.toInt8.toInt32)), .val (.int (i4.toInt8.toInt32)), .val (.ref b13), .unset] [(.int (2 : Int32)), (.int (2 : Int32))])) (fun t kt => ?_) ?_
      · show Steps p.tables e below (T15.setTop (mkF m 146 #[.val (.int i0), .val (.int i1), .val (.int i2), .val (.int i3), .val (.int i4), .val (.int (2 : Int32)), .val (.int (i1.toInt8.toInt32)), .val (.int (i2.toInt8.toInt32)), .val (.int (i3.toInt8.toInt32)), .val (.int (i4.toInt8.toInt32)), .val (.ref b13), .unset] [])) _
        refine XS.iload X15.here hx rfl (hb hby at_146) rfl ?_
        show Steps p.tables e below (T15.setTop (mkF m 148 #[.val (.int i0), .val (.int i1), .val (.int i2), .val (.int i3), .val (.int i4), .val (.int (2 : Int32)), .val (.int (i1.toInt8.toInt32)), .val (.int (i2.toInt8.toInt32)), .val (.int (i3.toInt8.toInt32)), .val (.int (i4.toInt8.toInt32)), .val (.ref b13), .unset] [(.int (2 : Int32))])) _
        refine XS.iconst X15.here hx rfl (hb hby at_148) ?_
        exact kt
      refine ownE.go (T' := T15) (f' := (mkF m 152 #[.val (.int i0), .val (.int i1), .val (.int i2), .val (.int i3), .val (.int i4), .val (.int (2 : Int32)), .val (.int (i1.toInt8.toInt32)), .val (.int (i2.toInt8.toInt32)), .val (.int (i3.toInt8.toInt32)), .val (.int (i4.toInt8.toInt32)), .val (.ref b13), .unset] [])) (fun t kt => XS.icmpNo (g := (mkF m 149 #[.val (.int i0), .val (.int i1), .val (.int i2), .val (.int i3), .val (.int i4), .val (.int (2 : Int32)), .val (.int (i1.toInt8.toInt32)), .val (.int (i2.toInt8.toInt32)), .val (.int (i3.toInt8.toInt32)), .val (.int (i4.toInt8.toInt32)), .val (.ref b13), .unset] [(.int (2 : Int32)), (.int (2 : Int32))])) X15.here hx rfl (hb hby at_149) rfl (Jvm.Free.XT.ii_lt_f (by decide)) kt) ?_
      refine ownE.go (T' := T15) (f' := (mkF m 154 #[.val (.int i0), .val (.int i1), .val (.int i2), .val (.int i3), .val (.int i4), .val (.int (2 : Int32)), .val (.int (i1.toInt8.toInt32)), .val (.int (i2.toInt8.toInt32)), .val (.int (i3.toInt8.toInt32)), .val (.int (i4.toInt8.toInt32)), .val (.ref b13), .unset] [(.int (i2.toInt8.toInt32))])) (fun t kt => ?_) ?_
      · show Steps p.tables e below (T15.setTop (mkF m 152 #[.val (.int i0), .val (.int i1), .val (.int i2), .val (.int i3), .val (.int i4), .val (.int (2 : Int32)), .val (.int (i1.toInt8.toInt32)), .val (.int (i2.toInt8.toInt32)), .val (.int (i3.toInt8.toInt32)), .val (.int (i4.toInt8.toInt32)), .val (.ref b13), .unset] [])) _
        refine XS.iload X15.here hx rfl (hb hby at_152) rfl ?_
        exact kt
      by_cases hc18 : (i2.toInt8.toInt32) < (0 : Int32)
      · -- pc 154
        refine ownE.go (T' := T15) (f' := (mkF m 183 #[.val (.int i0), .val (.int i1), .val (.int i2), .val (.int i3), .val (.int i4), .val (.int (2 : Int32)), .val (.int (i1.toInt8.toInt32)), .val (.int (i2.toInt8.toInt32)), .val (.int (i3.toInt8.toInt32)), .val (.int (i4.toInt8.toInt32)), .val (.ref b13), .unset] [])) (fun t kt => XS.ifYes (g := (mkF m 154 #[.val (.int i0), .val (.int i1), .val (.int i2), .val (.int i3), .val (.int i4), .val (.int (2 : Int32)), .val (.int (i1.toInt8.toInt32)), .val (.int (i2.toInt8.toInt32)), .val (.int (i3.toInt8.toInt32)), .val (.int (i4.toInt8.toInt32)), .val (.ref b13), .unset] [(.int (i2.toInt8.toInt32))])) X15.here hx rfl (pc0 := 154) (pc' := 183) rfl (hb hby at_154) rfl (Jvm.Free.XT.i0_lt_t hc18) (by decide) (by decide) kt) ?_
        refine ownE.go (T' := T15) (f' := (mkF m 184 #[.val (.int i0), .val (.int i1), .val (.int i2), .val (.int i3), .val (.int i4), .val (.int (2 : Int32)), .val (.int (i1.toInt8.toInt32)), .val (.int (i2.toInt8.toInt32)), .val (.int (i3.toInt8.toInt32)), .val (.int (i4.toInt8.toInt32)), .val (.ref b13), .unset] [(.int (0 : Int32))])) (fun t kt => ?_) ?_
        · show Steps p.tables e below (T15.setTop (mkF m 183 #[.val (.int i0), .val (.int i1), .val (.int i2), .val (.int i3), .val (.int i4), .val (.int (2 : Int32)), .val (.int (i1.toInt8.toInt32)), .val (.int (i2.toInt8.toInt32)), .val (.int (i3.toInt8.toInt32)), .val (.int (i4.toInt8.toInt32)), .val (.ref b13), .unset] [])) _
          refine XS.iconst X15.here hx rfl (hb hby at_183) ?_
          exact kt
        have jj := J19 _ _ X15 e15 N15
        rw [show (own_j0_184_S0_2 i0 i1 i2 i3 i4) = (0 : Int32) from by rw [own_j0_184_S0_2, if_neg hc17, if_pos hc18]] at jj
        exact jj
      · -- pc 154
        refine ownE.go (T' := T15) (f' := (mkF m 157 #[.val (.int i0), .val (.int i1), .val (.int i2), .val (.int i3), .val (.int i4), .val (.int (2 : Int32)), .val (.int (i1.toInt8.toInt32)), .val (.int (i2.toInt8.toInt32)), .val (.int (i3.toInt8.toInt32)), .val (.int (i4.toInt8.toInt32)), .val (.ref b13), .unset] [])) (fun t kt => XS.ifNo (g := (mkF m 154 #[.val (.int i0), .val (.int i1), .val (.int i2), .val (.int i3), .val (.int i4), .val (.int (2 : Int32)), .val (.int (i1.toInt8.toInt32)), .val (.int (i2.toInt8.toInt32)), .val (.int (i3.toInt8.toInt32)), .val (.int (i4.toInt8.toInt32)), .val (.ref b13), .unset] [(.int (i2.toInt8.toInt32))])) X15.here hx rfl (hb hby at_154) rfl (Jvm.Free.XT.i0_lt_f hc18) kt) ?_
        refine ownE.go (T' := T15) (f' := (mkF m 160 #[.val (.int i0), .val (.int i1), .val (.int i2), .val (.int i3), .val (.int i4), .val (.int (2 : Int32)), .val (.int (i1.toInt8.toInt32)), .val (.int (i2.toInt8.toInt32)), .val (.int (i3.toInt8.toInt32)), .val (.int (i4.toInt8.toInt32)), .val (.ref b13), .unset] [(.int (3 : Int32)), (.int (2 : Int32))])) (fun t kt => ?_) ?_
        · show Steps p.tables e below (T15.setTop (mkF m 157 #[.val (.int i0), .val (.int i1), .val (.int i2), .val (.int i3), .val (.int i4), .val (.int (2 : Int32)), .val (.int (i1.toInt8.toInt32)), .val (.int (i2.toInt8.toInt32)), .val (.int (i3.toInt8.toInt32)), .val (.int (i4.toInt8.toInt32)), .val (.ref b13), .unset] [])) _
          refine XS.iload X15.here hx rfl (hb hby at_157) rfl ?_
          show Steps p.tables e below (T15.setTop (mkF m 159 #[.val (.int i0), .val (.int i1), .val (.int i2), .val (.int i3), .val (.int i4), .val (.int (2 : Int32)), .val (.int (i1.toInt8.toInt32)), .val (.int (i2.toInt8.toInt32)), .val (.int (i3.toInt8.toInt32)), .val (.int (i4.toInt8.toInt32)), .val (.ref b13), .unset] [(.int (2 : Int32))])) _
          refine XS.iconst X15.here hx rfl (hb hby at_159) ?_
          exact kt
        refine ownE.go (T' := T15) (f' := (mkF m 168 #[.val (.int i0), .val (.int i1), .val (.int i2), .val (.int i3), .val (.int i4), .val (.int (2 : Int32)), .val (.int (i1.toInt8.toInt32)), .val (.int (i2.toInt8.toInt32)), .val (.int (i3.toInt8.toInt32)), .val (.int (i4.toInt8.toInt32)), .val (.ref b13), .unset] [])) (fun t kt => XS.icmpYes (g := (mkF m 160 #[.val (.int i0), .val (.int i1), .val (.int i2), .val (.int i3), .val (.int i4), .val (.int (2 : Int32)), .val (.int (i1.toInt8.toInt32)), .val (.int (i2.toInt8.toInt32)), .val (.int (i3.toInt8.toInt32)), .val (.int (i4.toInt8.toInt32)), .val (.ref b13), .unset] [(.int (3 : Int32)), (.int (2 : Int32))])) X15.here hx rfl (pc0 := 160) (pc' := 168) rfl (hb hby at_160) rfl (Jvm.Free.XT.ii_lt_t (by decide)) (by decide) (by decide) kt) ?_
        refine ownE.go (T' := T15) (f' := (mkF m 171 #[.val (.int i0), .val (.int i1), .val (.int i2), .val (.int i3), .val (.int i4), .val (.int (2 : Int32)), .val (.int (i1.toInt8.toInt32)), .val (.int (i2.toInt8.toInt32)), .val (.int (i3.toInt8.toInt32)), .val (.int (i4.toInt8.toInt32)), .val (.ref b13), .unset] [(.int (4 : Int32)), (.int (2 : Int32))])) (fun t kt => ?_) ?_
        · show Steps p.tables e below (T15.setTop (mkF m 168 #[.val (.int i0), .val (.int i1), .val (.int i2), .val (.int i3), .val (.int i4), .val (.int (2 : Int32)), .val (.int (i1.toInt8.toInt32)), .val (.int (i2.toInt8.toInt32)), .val (.int (i3.toInt8.toInt32)), .val (.int (i4.toInt8.toInt32)), .val (.ref b13), .unset] [])) _
          refine XS.iload X15.here hx rfl (hb hby at_168) rfl ?_
          show Steps p.tables e below (T15.setTop (mkF m 170 #[.val (.int i0), .val (.int i1), .val (.int i2), .val (.int i3), .val (.int i4), .val (.int (2 : Int32)), .val (.int (i1.toInt8.toInt32)), .val (.int (i2.toInt8.toInt32)), .val (.int (i3.toInt8.toInt32)), .val (.int (i4.toInt8.toInt32)), .val (.ref b13), .unset] [(.int (2 : Int32))])) _
          refine XS.iconst X15.here hx rfl (hb hby at_170) ?_
          exact kt
        refine ownE.go (T' := T15) (f' := (mkF m 179 #[.val (.int i0), .val (.int i1), .val (.int i2), .val (.int i3), .val (.int i4), .val (.int (2 : Int32)), .val (.int (i1.toInt8.toInt32)), .val (.int (i2.toInt8.toInt32)), .val (.int (i3.toInt8.toInt32)), .val (.int (i4.toInt8.toInt32)), .val (.ref b13), .unset] [])) (fun t kt => XS.icmpYes (g := (mkF m 171 #[.val (.int i0), .val (.int i1), .val (.int i2), .val (.int i3), .val (.int i4), .val (.int (2 : Int32)), .val (.int (i1.toInt8.toInt32)), .val (.int (i2.toInt8.toInt32)), .val (.int (i3.toInt8.toInt32)), .val (.int (i4.toInt8.toInt32)), .val (.ref b13), .unset] [(.int (4 : Int32)), (.int (2 : Int32))])) X15.here hx rfl (pc0 := 171) (pc' := 179) rfl (hb hby at_171) rfl (Jvm.Free.XT.ii_lt_t (by decide)) (by decide) (by decide) kt) ?_
        refine ownE.go (T' := T15) (f' := (mkF m 184 #[.val (.int i0), .val (.int i1), .val (.int i2), .val (.int i3), .val (.int i4), .val (.int (2 : Int32)), .val (.int (i1.toInt8.toInt32)), .val (.int (i2.toInt8.toInt32)), .val (.int (i3.toInt8.toInt32)), .val (.int (i4.toInt8.toInt32)), .val (.ref b13), .unset] [(.int (1 : Int32))])) (fun t kt => ?_) ?_
        · show Steps p.tables e below (T15.setTop (mkF m 179 #[.val (.int i0), .val (.int i1), .val (.int i2), .val (.int i3), .val (.int i4), .val (.int (2 : Int32)), .val (.int (i1.toInt8.toInt32)), .val (.int (i2.toInt8.toInt32)), .val (.int (i3.toInt8.toInt32)), .val (.int (i4.toInt8.toInt32)), .val (.ref b13), .unset] [])) _
          refine XS.iconst X15.here hx rfl (hb hby at_179) ?_
          show Steps p.tables e below (T15.setTop (mkF m 180 #[.val (.int i0), .val (.int i1), .val (.int i2), .val (.int i3), .val (.int i4), .val (.int (2 : Int32)), .val (.int (i1.toInt8.toInt32)), .val (.int (i2.toInt8.toInt32)), .val (.int (i3.toInt8.toInt32)), .val (.int (i4.toInt8.toInt32)), .val (.ref b13), .unset] [(.int (1 : Int32))])) _
          refine XS.goto X15.here hx rfl (pc0 := 180) (pc' := 184) rfl (hb hby at_180) (by decide) (by decide) ?_
          exact kt
        have jj := J19 _ _ X15 e15 N15
        rw [show (own_j0_184_S0_2 i0 i1 i2 i3 i4) = (1 : Int32) from by rw [own_j0_184_S0_2, if_neg hc17, if_neg hc18]] at jj
        exact jj
  · -- ((i0 &&& (2147483647 : Int32)) % (5 : Int32)) = 3
    have hf1 : (mkF m 25 #[.val (.int i0), .val (.int i1), .val (.int i2), .val (.int i3), .val (.int i4), .val (.int ((i0 &&& (2147483647 : Int32)) % (5 : Int32))), .val (.int (i1.toInt8.toInt32)), .val (.int (i2.toInt8.toInt32)), .val (.int (i3.toInt8.toInt32)), .val (.int (i4.toInt8.toInt32)), .unset, .unset] []) = (mkF m 25 #[.val (.int i0), .val (.int i1), .val (.int i2), .val (.int i3), .val (.int i4), .val (.int (3 : Int32)), .val (.int (i1.toInt8.toInt32)), .val (.int (i2.toInt8.toInt32)), .val (.int (i3.toInt8.toInt32)), .val (.int (i4.toInt8.toInt32)), .unset, .unset] []) := by rw [hk1]
    rw [hf1]
    have hk1_0 : ¬ ((i0 &&& (2147483647 : Int32)) % (5 : Int32)) = (0 : Int32) := by rw [hk1]; decide
    have hk1_1 : ¬ ((i0 &&& (2147483647 : Int32)) % (5 : Int32)) = (1 : Int32) := by rw [hk1]; decide
    have hk1_2 : ¬ ((i0 &&& (2147483647 : Int32)) % (5 : Int32)) = (2 : Int32) := by rw [hk1]; decide
    refine ownE.go (T' := s₁) (f' := (mkF m 27 #[.val (.int i0), .val (.int i1), .val (.int i2), .val (.int i3), .val (.int i4), .val (.int (3 : Int32)), .val (.int (i1.toInt8.toInt32)), .val (.int (i2.toInt8.toInt32)), .val (.int (i3.toInt8.toInt32)), .val (.int (i4.toInt8.toInt32)), .unset, .unset] [(.int (3 : Int32))])) (fun t kt => ?_) ?_
    · show Steps p.tables e below (s₁.setTop (mkF m 25 #[.val (.int i0), .val (.int i1), .val (.int i2), .val (.int i3), .val (.int i4), .val (.int (3 : Int32)), .val (.int (i1.toInt8.toInt32)), .val (.int (i2.toInt8.toInt32)), .val (.int (i3.toInt8.toInt32)), .val (.int (i4.toInt8.toInt32)), .unset, .unset] [])) _
      refine XS.iload X0.here hx rfl (hb hby at_25) rfl ?_
      exact kt
    refine ownE.go (T' := s₁) (f' := (mkF m 38 #[.val (.int i0), .val (.int i1), .val (.int i2), .val (.int i3), .val (.int i4), .val (.int (3 : Int32)), .val (.int (i1.toInt8.toInt32)), .val (.int (i2.toInt8.toInt32)), .val (.int (i3.toInt8.toInt32)), .val (.int (i4.toInt8.toInt32)), .unset, .unset] [])) (fun t kt => XS.ifYes (g := (mkF m 27 #[.val (.int i0), .val (.int i1), .val (.int i2), .val (.int i3), .val (.int i4), .val (.int (3 : Int32)), .val (.int (i1.toInt8.toInt32)), .val (.int (i2.toInt8.toInt32)), .val (.int (i3.toInt8.toInt32)), .val (.int (i4.toInt8.toInt32)), .unset, .unset] [(.int (3 : Int32))])) X0.here hx rfl (pc0 := 27) (pc' := 38) rfl (hb hby at_27) rfl (Jvm.Free.XT.i0_ne_t (by decide)) (by decide) (by decide) kt) ?_
    refine ownE.go (T' := s₁) (f' := (mkF m 41 #[.val (.int i0), .val (.int i1), .val (.int i2), .val (.int i3), .val (.int i4), .val (.int (3 : Int32)), .val (.int (i1.toInt8.toInt32)), .val (.int (i2.toInt8.toInt32)), .val (.int (i3.toInt8.toInt32)), .val (.int (i4.toInt8.toInt32)), .unset, .unset] [(.int (1 : Int32)), (.int (3 : Int32))])) (fun t kt => ?_) ?_
    · show Steps p.tables e below (s₁.setTop (mkF m 38 #[.val (.int i0), .val (.int i1), .val (.int i2), .val (.int i3), .val (.int i4), .val (.int (3 : Int32)), .val (.int (i1.toInt8.toInt32)), .val (.int (i2.toInt8.toInt32)), .val (.int (i3.toInt8.toInt32)), .val (.int (i4.toInt8.toInt32)), .unset, .unset] [])) _
      refine XS.iload X0.here hx rfl (hb hby at_38) rfl ?_
      show Steps p.tables e below (s₁.setTop (mkF m 40 #[.val (.int i0), .val (.int i1), .val (.int i2), .val (.int i3), .val (.int i4), .val (.int (3 : Int32)), .val (.int (i1.toInt8.toInt32)), .val (.int (i2.toInt8.toInt32)), .val (.int (i3.toInt8.toInt32)), .val (.int (i4.toInt8.toInt32)), .unset, .unset] [(.int (3 : Int32))])) _
      refine XS.iconst X0.here hx rfl (hb hby at_40) ?_
      exact kt
    refine ownE.go (T' := s₁) (f' := (mkF m 57 #[.val (.int i0), .val (.int i1), .val (.int i2), .val (.int i3), .val (.int i4), .val (.int (3 : Int32)), .val (.int (i1.toInt8.toInt32)), .val (.int (i2.toInt8.toInt32)), .val (.int (i3.toInt8.toInt32)), .val (.int (i4.toInt8.toInt32)), .unset, .unset] [])) (fun t kt => XS.icmpYes (g := (mkF m 41 #[.val (.int i0), .val (.int i1), .val (.int i2), .val (.int i3), .val (.int i4), .val (.int (3 : Int32)), .val (.int (i1.toInt8.toInt32)), .val (.int (i2.toInt8.toInt32)), .val (.int (i3.toInt8.toInt32)), .val (.int (i4.toInt8.toInt32)), .unset, .unset] [(.int (1 : Int32)), (.int (3 : Int32))])) X0.here hx rfl (pc0 := 41) (pc' := 57) rfl (hb hby at_41) rfl (Jvm.Free.XT.ii_ne_t (by decide)) (by decide) (by decide) kt) ?_
    refine ownE.go (T' := s₁) (f' := (mkF m 60 #[.val (.int i0), .val (.int i1), .val (.int i2), .val (.int i3), .val (.int i4), .val (.int (3 : Int32)), .val (.int (i1.toInt8.toInt32)), .val (.int (i2.toInt8.toInt32)), .val (.int (i3.toInt8.toInt32)), .val (.int (i4.toInt8.toInt32)), .unset, .unset] [(.int (2 : Int32)), (.int (3 : Int32))])) (fun t kt => ?_) ?_
    · show Steps p.tables e below (s₁.setTop (mkF m 57 #[.val (.int i0), .val (.int i1), .val (.int i2), .val (.int i3), .val (.int i4), .val (.int (3 : Int32)), .val (.int (i1.toInt8.toInt32)), .val (.int (i2.toInt8.toInt32)), .val (.int (i3.toInt8.toInt32)), .val (.int (i4.toInt8.toInt32)), .unset, .unset] [])) _
      refine XS.iload X0.here hx rfl (hb hby at_57) rfl ?_
      show Steps p.tables e below (s₁.setTop (mkF m 59 #[.val (.int i0), .val (.int i1), .val (.int i2), .val (.int i3), .val (.int i4), .val (.int (3 : Int32)), .val (.int (i1.toInt8.toInt32)), .val (.int (i2.toInt8.toInt32)), .val (.int (i3.toInt8.toInt32)), .val (.int (i4.toInt8.toInt32)), .unset, .unset] [(.int (3 : Int32))])) _
      refine XS.iconst X0.here hx rfl (hb hby at_59) ?_
      exact kt
    refine ownE.go (T' := s₁) (f' := (mkF m 81 #[.val (.int i0), .val (.int i1), .val (.int i2), .val (.int i3), .val (.int i4), .val (.int (3 : Int32)), .val (.int (i1.toInt8.toInt32)), .val (.int (i2.toInt8.toInt32)), .val (.int (i3.toInt8.toInt32)), .val (.int (i4.toInt8.toInt32)), .unset, .unset] [])) (fun t kt => XS.icmpYes (g := (mkF m 60 #[.val (.int i0), .val (.int i1), .val (.int i2), .val (.int i3), .val (.int i4), .val (.int (3 : Int32)), .val (.int (i1.toInt8.toInt32)), .val (.int (i2.toInt8.toInt32)), .val (.int (i3.toInt8.toInt32)), .val (.int (i4.toInt8.toInt32)), .unset, .unset] [(.int (2 : Int32)), (.int (3 : Int32))])) X0.here hx rfl (pc0 := 60) (pc' := 81) rfl (hb hby at_60) rfl (Jvm.Free.XT.ii_ne_t (by decide)) (by decide) (by decide) kt) ?_
    refine ownE.go (T' := s₁) (f' := (mkF m 84 #[.val (.int i0), .val (.int i1), .val (.int i2), .val (.int i3), .val (.int i4), .val (.int (3 : Int32)), .val (.int (i1.toInt8.toInt32)), .val (.int (i2.toInt8.toInt32)), .val (.int (i3.toInt8.toInt32)), .val (.int (i4.toInt8.toInt32)), .unset, .unset] [(.int (3 : Int32)), (.int (3 : Int32))])) (fun t kt => ?_) ?_
    · show Steps p.tables e below (s₁.setTop (mkF m 81 #[.val (.int i0), .val (.int i1), .val (.int i2), .val (.int i3), .val (.int i4), .val (.int (3 : Int32)), .val (.int (i1.toInt8.toInt32)), .val (.int (i2.toInt8.toInt32)), .val (.int (i3.toInt8.toInt32)), .val (.int (i4.toInt8.toInt32)), .unset, .unset] [])) _
      refine XS.iload X0.here hx rfl (hb hby at_81) rfl ?_
      show Steps p.tables e below (s₁.setTop (mkF m 83 #[.val (.int i0), .val (.int i1), .val (.int i2), .val (.int i3), .val (.int i4), .val (.int (3 : Int32)), .val (.int (i1.toInt8.toInt32)), .val (.int (i2.toInt8.toInt32)), .val (.int (i3.toInt8.toInt32)), .val (.int (i4.toInt8.toInt32)), .unset, .unset] [(.int (3 : Int32))])) _
      refine XS.iconst X0.here hx rfl (hb hby at_83) ?_
      exact kt
    refine ownE.go (T' := s₁) (f' := (mkF m 87 #[.val (.int i0), .val (.int i1), .val (.int i2), .val (.int i3), .val (.int i4), .val (.int (3 : Int32)), .val (.int (i1.toInt8.toInt32)), .val (.int (i2.toInt8.toInt32)), .val (.int (i3.toInt8.toInt32)), .val (.int (i4.toInt8.toInt32)), .unset, .unset] [])) (fun t kt => XS.icmpNo (g := (mkF m 84 #[.val (.int i0), .val (.int i1), .val (.int i2), .val (.int i3), .val (.int i4), .val (.int (3 : Int32)), .val (.int (i1.toInt8.toInt32)), .val (.int (i2.toInt8.toInt32)), .val (.int (i3.toInt8.toInt32)), .val (.int (i4.toInt8.toInt32)), .unset, .unset] [(.int (3 : Int32)), (.int (3 : Int32))])) X0.here hx rfl (hb hby at_84) rfl (Jvm.Free.XT.ii_ne_f (by decide)) kt) ?_
    refine ownE.go (T' := s₁) (f' := (mkF m 88 #[.val (.int i0), .val (.int i1), .val (.int i2), .val (.int i3), .val (.int i4), .val (.int (3 : Int32)), .val (.int (i1.toInt8.toInt32)), .val (.int (i2.toInt8.toInt32)), .val (.int (i3.toInt8.toInt32)), .val (.int (i4.toInt8.toInt32)), .unset, .unset] [(.int (3 : Int32))])) (fun t kt => ?_) ?_
    · show Steps p.tables e below (s₁.setTop (mkF m 87 #[.val (.int i0), .val (.int i1), .val (.int i2), .val (.int i3), .val (.int i4), .val (.int (3 : Int32)), .val (.int (i1.toInt8.toInt32)), .val (.int (i2.toInt8.toInt32)), .val (.int (i3.toInt8.toInt32)), .val (.int (i4.toInt8.toInt32)), .unset, .unset] [])) _
      refine XS.iconst X0.here hx rfl (hb hby at_87) ?_
      exact kt
    obtain ⟨T22, h22, k22, X22, e22, E22, A22, st22⟩ := newP X0 hx hZ (hw _ (List.mem_of_getElem? (i := 1) rfl)) e0 (g := (mkF m 88 #[.val (.int i0), .val (.int i1), .val (.int i2), .val (.int i3), .val (.int i4), .val (.int (3 : Int32)), .val (.int (i1.toInt8.toInt32)), .val (.int (i2.toInt8.toInt32)), .val (.int (i3.toInt8.toInt32)), .val (.int (i4.toInt8.toInt32)), .unset, .unset] [(.int (3 : Int32))])) rfl (hb hby at_88) rfl (by decide) (cap := 3) (by decide) (by decide) (by decide) (by decide)
    obtain ⟨b22, g22⟩ : ∃ z, z = h0.size := ⟨_, rfl⟩
    rw [← g22] at A22 st22
    have sz_b22 : h0.size ≤ b22 := Nat.le_trans K0.1 (Nat.le_of_eq g22.symm)
    have ge_b22 : n0 ≤ b22 := Nat.le_trans Z0 sz_b22
    have V22 : Arv Z h22 b22 k22 .byte (3 : Int32) [(.int (0 : Int32)), (.int (0 : Int32)), (.int (0 : Int32))] (.int (0 : Int32)) := (Arv.new A22 (by decide)).pad (pad_rep [] (.int (0 : Int32)) 3)
    have K22 : Keep h0 h22 [] := K0.ext E22
    refine ownE.go (T' := T22) (f' := (mkF m 90 #[.val (.int i0), .val (.int i1), .val (.int i2), .val (.int i3), .val (.int i4), .val (.int (3 : Int32)), .val (.int (i1.toInt8.toInt32)), .val (.int (i2.toInt8.toInt32)), .val (.int (i3.toInt8.toInt32)), .val (.int (i4.toInt8.toInt32)), .unset, .unset] [(.ref b22)])) st22 ?_
    refine ownE.go (T' := T22) (f' := (mkF m 94 #[.val (.int i0), .val (.int i1), .val (.int i2), .val (.int i3), .val (.int i4), .val (.int (3 : Int32)), .val (.int (i1.toInt8.toInt32)), .val (.int (i2.toInt8.toInt32)), .val (.int (i3.toInt8.toInt32)), .val (.int (i4.toInt8.toInt32)), .unset, .unset] [(.int (i1.toInt8.toInt32)), (.int (0 : Int32)), (.ref b22), (.ref b22)])) (fun t kt => ?_) ?_
    · show Steps p.tables e below (T22.setTop (mkF m 90 #[.val (.int i0), .val (.int i1), .val (.int i2), .val (.int i3), .val (.int i4), .val (.int (3 : Int32)), .val (.int (i1.toInt8.toInt32)), .val (.int (i2.toInt8.toInt32)), .val (.int (i3.toInt8.toInt32)), .val (.int (i4.toInt8.toInt32)), .unset, .unset] [(.ref b22)])) _
      refine XS.dup X22.here hx rfl (hb hby at_90) rfl rfl ?_
      show Steps p.tables e below (T22.setTop (mkF m 91 #[.val (.int i0), .val (.int i1), .val (.int i2), .val (.int i3), .val (.int i4), .val (.int (3 : Int32)), .val (.int (i1.toInt8.toInt32)), .val (.int (i2.toInt8.toInt32)), .val (.int (i3.toInt8.toInt32)), .val (.int (i4.toInt8.toInt32)), .unset, .unset] [(.ref b22), (.ref b22)])) _
      refine XS.iconst X22.here hx rfl (hb hby at_91) ?_
      show Steps p.tables e below (T22.setTop (mkF m 92 #[.val (.int i0), .val (.int i1), .val (.int i2), .val (.int i3), .val (.int i4), .val (.int (3 : Int32)), .val (.int (i1.toInt8.toInt32)), .val (.int (i2.toInt8.toInt32)), .val (.int (i3.toInt8.toInt32)), .val (.int (i4.toInt8.toInt32)), .unset, .unset] [(.int (0 : Int32)), (.ref b22), (.ref b22)])) _
      refine XS.iload X22.here hx rfl (hb hby at_92) rfl ?_
      exact kt
    obtain ⟨cl23, Ar23, q23, S23, Nn23, Hh23, G23⟩ := id V22
    have hin23 : ¬ ((0 : Int32) < 0 ∨ cl23.slots.size ≤ ((0 : Int32)).toNatClampNeg) := inb_of S23 ⟨by decide, by decide⟩
    obtain ⟨T23, h23, X23, e23, W23, st23⟩ := stB X22 hx hZ e22 Ar23 (j := (0 : Int32)) hin23 (g := (mkF m 94 #[.val (.int i0), .val (.int i1), .val (.int i2), .val (.int i3), .val (.int i4), .val (.int (3 : Int32)), .val (.int (i1.toInt8.toInt32)), .val (.int (i2.toInt8.toInt32)), .val (.int (i3.toInt8.toInt32)), .val (.int (i4.toInt8.toInt32)), .unset, .unset] [(.int (i1.toInt8.toInt32)), (.int (0 : Int32)), (.ref b22), (.ref b22)])) rfl rfl (hb hby at_94)
    have V23 : Arv Z h23 b22 k22 .byte (3 : Int32) [(.int ((i1.toInt8.toInt32).toInt8.toInt32)), (.int (0 : Int32)), (.int (0 : Int32))] (.int (0 : Int32)) := Arv.set Ar23 q23 S23 Nn23 Hh23 G23 (fits_nar_byte _) W23 0 rfl (Nat.le_of_ble_eq_true rfl)
    have K23 : Keep h0 h23 [] := K22.wr W23 (Or.inr sz_b22)
    have N23 := Fr.snoc X23 N0 ge_b22
    refine ownE.go (T' := T23) (f' := (mkF m 95 #[.val (.int i0), .val (.int i1), .val (.int i2), .val (.int i3), .val (.int i4), .val (.int (3 : Int32)), .val (.int (i1.toInt8.toInt32)), .val (.int (i2.toInt8.toInt32)), .val (.int (i3.toInt8.toInt32)), .val (.int (i4.toInt8.toInt32)), .unset, .unset] [(.ref b22)])) st23 ?_
    refine ownE.go (T' := T23) (f' := (mkF m 99 #[.val (.int i0), .val (.int i1), .val (.int i2), .val (.int i3), .val (.int i4), .val (.int (3 : Int32)), .val (.int (i1.toInt8.toInt32)), .val (.int (i2.toInt8.toInt32)), .val (.int (i3.toInt8.toInt32)), .val (.int (i4.toInt8.toInt32)), .unset, .unset] [(.int (i2.toInt8.toInt32)), (.int (1 : Int32)), (.ref b22), (.ref b22)])) (fun t kt => ?_) ?_
    · show Steps p.tables e below (T23.setTop (mkF m 95 #[.val (.int i0), .val (.int i1), .val (.int i2), .val (.int i3), .val (.int i4), .val (.int (3 : Int32)), .val (.int (i1.toInt8.toInt32)), .val (.int (i2.toInt8.toInt32)), .val (.int (i3.toInt8.toInt32)), .val (.int (i4.toInt8.toInt32)), .unset, .unset] [(.ref b22)])) _
      refine XS.dup X23.here hx rfl (hb hby at_95) rfl rfl ?_
      show Steps p.tables e below (T23.setTop (mkF m 96 #[.val (.int i0), .val (.int i1), .val (.int i2), .val (.int i3), .val (.int i4), .val (.int (3 : Int32)), .val (.int (i1.toInt8.toInt32)), .val (.int (i2.toInt8.toInt32)), .val (.int (i3.toInt8.toInt32)), .val (.int (i4.toInt8.toInt32)), .unset, .unset] [(.ref b22), (.ref b22)])) _
      refine XS.iconst X23.here hx rfl (hb hby at_96) ?_
      show Steps p.tables e below (T23.setTop (mkF m 97 #[.val (.int i0), .val (.int i1), .val (.int i2), .val (.int i3), .val (.int i4), .val (.int (3 : Int32)), .val (.int (i1.toInt8.toInt32)), .val (.int (i2.toInt8.toInt32)), .val (.int (i3.toInt8.toInt32)), .val (.int (i4.toInt8.toInt32)), .unset, .unset] [(.int (1 : Int32)), (.ref b22), (.ref b22)])) _
      refine XS.iload X23.here hx rfl (hb hby at_97) rfl ?_
      exact kt
    obtain ⟨cl24, Ar24, q24, S24, Nn24, Hh24, G24⟩ := id V23
    have hin24 : ¬ ((1 : Int32) < 0 ∨ cl24.slots.size ≤ ((1 : Int32)).toNatClampNeg) := inb_of S24 ⟨by decide, by decide⟩
    obtain ⟨T24, h24, X24, e24, W24, st24⟩ := stB X23 hx hZ e23 Ar24 (j := (1 : Int32)) hin24 (g := (mkF m 99 #[.val (.int i0), .val (.int i1), .val (.int i2), .val (.int i3), .val (.int i4), .val (.int (3 : Int32)), .val (.int (i1.toInt8.toInt32)), .val (.int (i2.toInt8.toInt32)), .val (.int (i3.toInt8.toInt32)), .val (.int (i4.toInt8.toInt32)), .unset, .unset] [(.int (i2.toInt8.toInt32)), (.int (1 : Int32)), (.ref b22), (.ref b22)])) rfl rfl (hb hby at_99)
    have V24 : Arv Z h24 b22 k22 .byte (3 : Int32) [(.int ((i1.toInt8.toInt32).toInt8.toInt32)), (.int ((i2.toInt8.toInt32).toInt8.toInt32)), (.int (0 : Int32))] (.int (0 : Int32)) := Arv.set Ar24 q24 S24 Nn24 Hh24 G24 (fits_nar_byte _) W24 1 rfl (Nat.le_of_ble_eq_true rfl)
    have K24 : Keep h0 h24 [] := K23.wr W24 (Or.inr sz_b22)
    have N24 := Fr.snoc X24 N23 ge_b22
    refine ownE.go (T' := T24) (f' := (mkF m 100 #[.val (.int i0), .val (.int i1), .val (.int i2), .val (.int i3), .val (.int i4), .val (.int (3 : Int32)), .val (.int (i1.toInt8.toInt32)), .val (.int (i2.toInt8.toInt32)), .val (.int (i3.toInt8.toInt32)), .val (.int (i4.toInt8.toInt32)), .unset, .unset] [(.ref b22)])) st24 ?_
    refine ownE.go (T' := T24) (f' := (mkF m 104 #[.val (.int i0), .val (.int i1), .val (.int i2), .val (.int i3), .val (.int i4), .val (.int (3 : Int32)), .val (.int (i1.toInt8.toInt32)), .val (.int (i2.toInt8.toInt32)), .val (.int (i3.toInt8.toInt32)), .val (.int (i4.toInt8.toInt32)), .unset, .unset] [(.int (i3.toInt8.toInt32)), (.int (2 : Int32)), (.ref b22), (.ref b22)])) (fun t kt => ?_) ?_
    · show Steps p.tables e below (T24.setTop (mkF m 100 #[.val (.int i0), .val (.int i1), .val (.int i2), .val (.int i3), .val (.int i4), .val (.int (3 : Int32)), .val (.int (i1.toInt8.toInt32)), .val (.int (i2.toInt8.toInt32)), .val (.int (i3.toInt8.toInt32)), .val (.int (i4.toInt8.toInt32)), .unset, .unset] [(.ref b22)])) _
      refine XS.dup X24.here hx rfl (hb hby at_100) rfl rfl ?_
      show Steps p.tables e below (T24.setTop (mkF m 101 #[.val (.int i0), .val (.int i1), .val (.int i2), .val (.int i3), .val (.int i4), .val (.int (3 : Int32)), .val (.int (i1.toInt8.toInt32)), .val (.int (i2.toInt8.toInt32)), .val (.int (i3.toInt8.toInt32)), .val (.int (i4.toInt8.toInt32)), .unset, .unset] [(.ref b22), (.ref b22)])) _
      refine XS.iconst X24.here hx rfl (hb hby at_101) ?_
      show Steps p.tables e below (T24.setTop (mkF m 102 #[.val (.int i0), .val (.int i1), .val (.int i2), .val (.int i3), .val (.int i4), .val (.int (3 : Int32)), .val (.int (i1.toInt8.toInt32)), .val (.int (i2.toInt8.toInt32)), .val (.int (i3.toInt8.toInt32)), .val (.int (i4.toInt8.toInt32)), .unset, .unset] [(.int (2 : Int32)), (.ref b22), (.ref b22)])) _
      refine XS.iload X24.here hx rfl (hb hby at_102) rfl ?_
      exact kt
    obtain ⟨cl25, Ar25, q25, S25, Nn25, Hh25, G25⟩ := id V24
    have hin25 : ¬ ((2 : Int32) < 0 ∨ cl25.slots.size ≤ ((2 : Int32)).toNatClampNeg) := inb_of S25 ⟨by decide, by decide⟩
    obtain ⟨T25, h25, X25, e25, W25, st25⟩ := stB X24 hx hZ e24 Ar25 (j := (2 : Int32)) hin25 (g := (mkF m 104 #[.val (.int i0), .val (.int i1), .val (.int i2), .val (.int i3), .val (.int i4), .val (.int (3 : Int32)), .val (.int (i1.toInt8.toInt32)), .val (.int (i2.toInt8.toInt32)), .val (.int (i3.toInt8.toInt32)), .val (.int (i4.toInt8.toInt32)), .unset, .unset] [(.int (i3.toInt8.toInt32)), (.int (2 : Int32)), (.ref b22), (.ref b22)])) rfl rfl (hb hby at_104)
    have V25 : Arv Z h25 b22 k22 .byte (3 : Int32) [(.int ((i1.toInt8.toInt32).toInt8.toInt32)), (.int ((i2.toInt8.toInt32).toInt8.toInt32)), (.int ((i3.toInt8.toInt32).toInt8.toInt32))] (.int (0 : Int32)) := Arv.set Ar25 q25 S25 Nn25 Hh25 G25 (fits_nar_byte _) W25 2 rfl (Nat.le_of_ble_eq_true rfl)
    have K25 : Keep h0 h25 [] := K24.wr W25 (Or.inr sz_b22)
    have N25 := Fr.snoc X25 N24 ge_b22
    refine ownE.go (T' := T25) (f' := (mkF m 105 #[.val (.int i0), .val (.int i1), .val (.int i2), .val (.int i3), .val (.int i4), .val (.int (3 : Int32)), .val (.int (i1.toInt8.toInt32)), .val (.int (i2.toInt8.toInt32)), .val (.int (i3.toInt8.toInt32)), .val (.int (i4.toInt8.toInt32)), .unset, .unset] [(.ref b22)])) st25 ?_
    refine ownE.go (T' := T25) (f' := (mkF m 135 #[.val (.int i0), .val (.int i1), .val (.int i2), .val (.int i3), .val (.int i4), .val (.int (3 : Int32)), .val (.int (i1.toInt8.toInt32)), .val (.int (i2.toInt8.toInt32)), .val (.int (i3.toInt8.toInt32)), .val (.int (i4.toInt8.toInt32)), .val (.ref b22), .unset] [])) (fun t kt => ?_) ?_
    · show Steps p.tables e below (T25.setTop (mkF m 105 #[.val (.int i0), .val (.int i1), .val (.int i2), .val (.int i3), .val (.int i4), .val (.int (3 : Int32)), .val (.int (i1.toInt8.toInt32)), .val (.int (i2.toInt8.toInt32)), .val (.int (i3.toInt8.toInt32)), .val (.int (i4.toInt8.toInt32)), .unset, .unset] [(.ref b22)])) _
      refine XS.astore X25.here hx rfl (hb hby at_105) rfl rfl (l' := #[.val (.int i0), .val (.int i1), .val (.int i2), .val (.int i3), .val (.int i4), .val (.int (3 : Int32)), .val (.int (i1.toInt8.toInt32)), .val (.int (i2.toInt8.toInt32)), .val (.int (i3.toInt8.toInt32)), .val (.int (i4.toInt8.toInt32)), .val (.ref b22), .unset]) rfl ?_
      show Steps p.tables e below (T25.setTop (mkF m 107 #[.val (.int i0), .val (.int i1), .val (.int i2), .val (.int i3), .val (.int i4), .val (.int (3 : Int32)), .val (.int (i1.toInt8.toInt32)), .val (.int (i2.toInt8.toInt32)), .val (.int (i3.toInt8.toInt32)), .val (.int (i4.toInt8.toInt32)), .val (.ref b22), .unset] [])) _
      refine XS.goto X25.here hx rfl (pc0 := 107) (pc' := 135) rfl (hb hby at_107) (by decide) (by decide) ?_
      exact kt
    have J30 : ∀ (TJ30 : State) (locsJ30 : List Loc), Stand p l e room_1 s m #[(.int i0), (.int i1), (.int i2), (.int i3), (.int i4)] below meth c TJ30 locsJ30 1 3 → TJ30.heap = h25 → Fr n0 locsJ30 → ownE p e below s (own_Q0 Z i0 i1 i2 i3 i4 h0 n0) 1 4 TJ30 (mkF m 184 #[.val (.int i0), .val (.int i1), .val (.int i2), .val (.int i3), .val (.int i4), .val (.int (3 : Int32)), .val (.int (i1.toInt8.toInt32)), .val (.int (i2.toInt8.toInt32)), .val (.int (i3.toInt8.toInt32)), .val (.int (i4.toInt8.toInt32)), .val (.ref b22), .unset] [(.int (own_j0_184_S0_3 i0 i1 i2 i3 i4))]) := by
      intro TJ30 locsJ30 XJ30 eJ30 NJ30
      refine ownE.go (T' := TJ30) (f' := (mkF m 188 #[.val (.int i0), .val (.int i1), .val (.int i2), .val (.int i3), .val (.int i4), .val (.int (3 : Int32)), .val (.int (i1.toInt8.toInt32)), .val (.int (i2.toInt8.toInt32)), .val (.int (i3.toInt8.toInt32)), .val (.int (i4.toInt8.toInt32)), .val (.ref b22), .val (.int (own_j0_184_S0_3 i0 i1 i2 i3 i4))] [(.ref b22)])) (fun t kt => ?_) ?_
      · show Steps p.tables e below (TJ30.setTop (mkF m 184 #[.val (.int i0), .val (.int i1), .val (.int i2), .val (.int i3), .val (.int i4), .val (.int (3 : Int32)), .val (.int (i1.toInt8.toInt32)), .val (.int (i2.toInt8.toInt32)), .val (.int (i3.toInt8.toInt32)), .val (.int (i4.toInt8.toInt32)), .val (.ref b22), .unset] [(.int (own_j0_184_S0_3 i0 i1 i2 i3 i4))])) _
        refine XS.istore XJ30.here hx rfl (hb hby at_184) rfl (l' := #[.val (.int i0), .val (.int i1), .val (.int i2), .val (.int i3), .val (.int i4), .val (.int (3 : Int32)), .val (.int (i1.toInt8.toInt32)), .val (.int (i2.toInt8.toInt32)), .val (.int (i3.toInt8.toInt32)), .val (.int (i4.toInt8.toInt32)), .val (.ref b22), .val (.int (own_j0_184_S0_3 i0 i1 i2 i3 i4))]) rfl ?_
        show Steps p.tables e below (TJ30.setTop (mkF m 186 #[.val (.int i0), .val (.int i1), .val (.int i2), .val (.int i3), .val (.int i4), .val (.int (3 : Int32)), .val (.int (i1.toInt8.toInt32)), .val (.int (i2.toInt8.toInt32)), .val (.int (i3.toInt8.toInt32)), .val (.int (i4.toInt8.toInt32)), .val (.ref b22), .val (.int (own_j0_184_S0_3 i0 i1 i2 i3 i4))] [])) _
        refine XS.aload XJ30.here hx rfl (hb hby at_186) rfl rfl ?_
        exact kt
      obtain ⟨_, _, ⟨T31, L31, k31, n31⟩, -, X31, ⟨Lc31, hQ31, l31, y31, z31⟩, st31⟩ := Jvm.LawKit.callS XJ30 hx (y := (⟨"com/example/libvalise/libvalise/ZipFormat", "isAscii", "([B)Z"⟩ : MethodName)) hown (mvT hZ (hw _ (List.mem_of_getElem? (i := 2) rfl))) (mvT hZ (hw _ (List.mem_of_getElem? (i := 3) rfl))) (mvT hZ (hw _ (List.mem_of_getElem? (i := 4) rfl))) (mvT hZ (hw _ (List.mem_of_getElem? (i := 5) rfl))) (by decide) (backOf (W := 0) (own_rm1n3 l Z a0 hw [] b22 k22 ((i1.toInt8.toInt32).toInt8.toInt32) ((i2.toInt8.toInt32).toInt8.toInt32) ((i3.toInt8.toInt32).toInt8.toInt32) h25 n0 (Nat.le_trans Z0 K25.1) V25) hZ (hw _ (List.mem_of_getElem? (i := 5) rfl)) (hw _ (List.mem_of_getElem? (i := 4) rfl)) (by decide) (by decide)) (g := (mkF m 188 #[.val (.int i0), .val (.int i1), .val (.int i2), .val (.int i3), .val (.int i4), .val (.int (3 : Int32)), .val (.int (i1.toInt8.toInt32)), .val (.int (i2.toInt8.toInt32)), .val (.int (i3.toInt8.toInt32)), .val (.int (i4.toInt8.toInt32)), .val (.ref b22), .val (.int (own_j0_184_S0_3 i0 i1 i2 i3 i4))] [(.ref b22)])) rfl (by rw [hml]; rfl) (argsL := [(.ref b22)]) (rest := []) (lenOf own_pd1 rfl) rfl (by show 2 * 0 + _ ≤ _; exact Nat.le_of_eq rfl) (hb hby at_188) (fun _ _ => ⟨rfl, eJ30, (by decide : 1 + 0 ≤ _), (by decide : 3 + 0 ≤ _)⟩)
      dsimp only [Pt.U, Pt.locs, Pt.cells, Pt.slots] at X31 l31 y31 z31 st31 hQ31
      subst l31 y31 z31
      obtain ⟨rfl, N31q, e31⟩ := hQ31
      have N31 := Fr.app NJ30 N31q
      refine ownE.go (T' := T31) (f' := (mkF m 191 #[.val (.int i0), .val (.int i1), .val (.int i2), .val (.int i3), .val (.int i4), .val (.int (3 : Int32)), .val (.int (i1.toInt8.toInt32)), .val (.int (i2.toInt8.toInt32)), .val (.int (i3.toInt8.toInt32)), .val (.int (i4.toInt8.toInt32)), .val (.ref b22), .val (.int (own_j0_184_S0_3 i0 i1 i2 i3 i4))] [(.int (own_asc3 ((i1.toInt8.toInt32).toInt8.toInt32) ((i2.toInt8.toInt32).toInt8.toInt32) ((i3.toInt8.toInt32).toInt8.toInt32)))])) st31 ?_
      refine ownE.go (T' := T31) (f' := (mkF m 193 #[.val (.int i0), .val (.int i1), .val (.int i2), .val (.int i3), .val (.int i4), .val (.int (3 : Int32)), .val (.int (i1.toInt8.toInt32)), .val (.int (i2.toInt8.toInt32)), .val (.int (i3.toInt8.toInt32)), .val (.int (i4.toInt8.toInt32)), .val (.ref b22), .val (.int (own_j0_184_S0_3 i0 i1 i2 i3 i4))] [(.int (own_j0_184_S0_3 i0 i1 i2 i3 i4)), (.int (own_asc3 ((i1.toInt8.toInt32).toInt8.toInt32) ((i2.toInt8.toInt32).toInt8.toInt32) ((i3.toInt8.toInt32).toInt8.toInt32)))])) (fun t kt => ?_) ?_
      · show Steps p.tables e below (T31.setTop (mkF m 191 #[.val (.int i0), .val (.int i1), .val (.int i2), .val (.int i3), .val (.int i4), .val (.int (3 : Int32)), .val (.int (i1.toInt8.toInt32)), .val (.int (i2.toInt8.toInt32)), .val (.int (i3.toInt8.toInt32)), .val (.int (i4.toInt8.toInt32)), .val (.ref b22), .val (.int (own_j0_184_S0_3 i0 i1 i2 i3 i4))] [(.int (own_asc3 ((i1.toInt8.toInt32).toInt8.toInt32) ((i2.toInt8.toInt32).toInt8.toInt32) ((i3.toInt8.toInt32).toInt8.toInt32)))])) _
        refine XS.iload X31.here hx rfl (hb hby at_191) rfl ?_
        exact kt
      by_cases hc32 : (own_asc3 ((i1.toInt8.toInt32).toInt8.toInt32) ((i2.toInt8.toInt32).toInt8.toInt32) ((i3.toInt8.toInt32).toInt8.toInt32)) = (own_j0_184_S0_3 i0 i1 i2 i3 i4)
      · -- pc 193
        refine ownE.go (T' := T31) (f' := (mkF m 196 #[.val (.int i0), .val (.int i1), .val (.int i2), .val (.int i3), .val (.int i4), .val (.int (3 : Int32)), .val (.int (i1.toInt8.toInt32)), .val (.int (i2.toInt8.toInt32)), .val (.int (i3.toInt8.toInt32)), .val (.int (i4.toInt8.toInt32)), .val (.ref b22), .val (.int (own_j0_184_S0_3 i0 i1 i2 i3 i4))] [])) (fun t kt => XS.icmpNo (g := (mkF m 193 #[.val (.int i0), .val (.int i1), .val (.int i2), .val (.int i3), .val (.int i4), .val (.int (3 : Int32)), .val (.int (i1.toInt8.toInt32)), .val (.int (i2.toInt8.toInt32)), .val (.int (i3.toInt8.toInt32)), .val (.int (i4.toInt8.toInt32)), .val (.ref b22), .val (.int (own_j0_184_S0_3 i0 i1 i2 i3 i4))] [(.int (own_j0_184_S0_3 i0 i1 i2 i3 i4)), (.int (own_asc3 ((i1.toInt8.toInt32).toInt8.toInt32) ((i2.toInt8.toInt32).toInt8.toInt32) ((i3.toInt8.toInt32).toInt8.toInt32)))])) X31.here hx rfl (hb hby at_193) rfl (Jvm.Free.XT.ii_ne_f hc32) kt) ?_
        refine ownE.go (T' := T31) (f' := (mkF m 201 #[.val (.int i0), .val (.int i1), .val (.int i2), .val (.int i3), .val (.int i4), .val (.int (3 : Int32)), .val (.int (i1.toInt8.toInt32)), .val (.int (i2.toInt8.toInt32)), .val (.int (i3.toInt8.toInt32)), .val (.int (i4.toInt8.toInt32)), .val (.ref b22), .val (.int (own_j0_184_S0_3 i0 i1 i2 i3 i4))] [(.int (1 : Int32))])) (fun t kt => ?_) ?_
        · show Steps p.tables e below (T31.setTop (mkF m 196 #[.val (.int i0), .val (.int i1), .val (.int i2), .val (.int i3), .val (.int i4), .val (.int (3 : Int32)), .val (.int (i1.toInt8.toInt32)), .val (.int (i2.toInt8.toInt32)), .val (.int (i3.toInt8.toInt32)), .val (.int (i4.toInt8.toInt32)), .val (.ref b22), .val (.int (own_j0_184_S0_3 i0 i1 i2 i3 i4))] [])) _
          refine XS.iconst X31.here hx rfl (hb hby at_196) ?_
          show Steps p.tables e below (T31.setTop (mkF m 197 #[.val (.int i0), .val (.int i1), .val (.int i2), .val (.int i3), .val (.int i4), .val (.int (3 : Int32)), .val (.int (i1.toInt8.toInt32)), .val (.int (i2.toInt8.toInt32)), .val (.int (i3.toInt8.toInt32)), .val (.int (i4.toInt8.toInt32)), .val (.ref b22), .val (.int (own_j0_184_S0_3 i0 i1 i2 i3 i4))] [(.int (1 : Int32))])) _
          refine XS.goto X31.here hx rfl (pc0 := 197) (pc' := 201) rfl (hb hby at_197) (by decide) (by decide) ?_
          exact kt
        refine ownE.retN X31 hx hlk (t := .boolean) hret (by simp) (hb hby at_201) ?_ (by decide) (by decide)
        show own_Q0 Z i0 i1 i2 i3 i4 h0 n0 _ T31.heap _
        rw [e31]
        exact ⟨(by rw [own_f0, if_neg hk1_0, if_neg hk1_1, if_neg hk1_2, if_pos hk1, if_pos hc32] <;> first | rfl | decide), N31, K25⟩
      · -- pc 193
        refine ownE.go (T' := T31) (f' := (mkF m 200 #[.val (.int i0), .val (.int i1), .val (.int i2), .val (.int i3), .val (.int i4), .val (.int (3 : Int32)), .val (.int (i1.toInt8.toInt32)), .val (.int (i2.toInt8.toInt32)), .val (.int (i3.toInt8.toInt32)), .val (.int (i4.toInt8.toInt32)), .val (.ref b22), .val (.int (own_j0_184_S0_3 i0 i1 i2 i3 i4))] [])) (fun t kt => XS.icmpYes (g := (mkF m 193 #[.val (.int i0), .val (.int i1), .val (.int i2), .val (.int i3), .val (.int i4), .val (.int (3 : Int32)), .val (.int (i1.toInt8.toInt32)), .val (.int (i2.toInt8.toInt32)), .val (.int (i3.toInt8.toInt32)), .val (.int (i4.toInt8.toInt32)), .val (.ref b22), .val (.int (own_j0_184_S0_3 i0 i1 i2 i3 i4))] [(.int (own_j0_184_S0_3 i0 i1 i2 i3 i4)), (.int (own_asc3 ((i1.toInt8.toInt32).toInt8.toInt32) ((i2.toInt8.toInt32).toInt8.toInt32) ((i3.toInt8.toInt32).toInt8.toInt32)))])) X31.here hx rfl (pc0 := 193) (pc' := 200) rfl (hb hby at_193) rfl (Jvm.Free.XT.ii_ne_t hc32) (by decide) (by decide) kt) ?_
        refine ownE.go (T' := T31) (f' := (mkF m 201 #[.val (.int i0), .val (.int i1), .val (.int i2), .val (.int i3), .val (.int i4), .val (.int (3 : Int32)), .val (.int (i1.toInt8.toInt32)), .val (.int (i2.toInt8.toInt32)), .val (.int (i3.toInt8.toInt32)), .val (.int (i4.toInt8.toInt32)), .val (.ref b22), .val (.int (own_j0_184_S0_3 i0 i1 i2 i3 i4))] [(.int (0 : Int32))])) (fun t kt => ?_) ?_
        · show Steps p.tables e below (T31.setTop (mkF m 200 #[.val (.int i0), .val (.int i1), .val (.int i2), .val (.int i3), .val (.int i4), .val (.int (3 : Int32)), .val (.int (i1.toInt8.toInt32)), .val (.int (i2.toInt8.toInt32)), .val (.int (i3.toInt8.toInt32)), .val (.int (i4.toInt8.toInt32)), .val (.ref b22), .val (.int (own_j0_184_S0_3 i0 i1 i2 i3 i4))] [])) _
          refine XS.iconst X31.here hx rfl (hb hby at_200) ?_
          exact kt
        refine ownE.retN X31 hx hlk (t := .boolean) hret (by simp) (hb hby at_201) ?_ (by decide) (by decide)
        show own_Q0 Z i0 i1 i2 i3 i4 h0 n0 _ T31.heap _
        rw [e31]
        exact ⟨(by rw [own_f0, if_neg hk1_0, if_neg hk1_1, if_neg hk1_2, if_pos hk1, if_neg hc32] <;> first | rfl | decide), N31, K25⟩
    refine ownE.go (T' := T25) (f' := (mkF m 138 #[.val (.int i0), .val (.int i1), .val (.int i2), .val (.int i3), .val (.int i4), .val (.int (3 : Int32)), .val (.int (i1.toInt8.toInt32)), .val (.int (i2.toInt8.toInt32)), .val (.int (i3.toInt8.toInt32)), .val (.int (i4.toInt8.toInt32)), .val (.ref b22), .unset] [(.int (1 : Int32)), (.int (3 : Int32))])) (fun t kt => ?_) ?_
    · show Steps p.tables e below (T25.setTop (mkF m 135 #[.val (.int i0), .val (.int i1), .val (.int i2), .val (.int i3), .val (.int i4), .val (.int (3 : Int32)), .val (.int (i1.toInt8.toInt32)), .val (.int (i2.toInt8.toInt32)), .val (.int (i3.toInt8.toInt32)), .val (.int (i4.toInt8.toInt32)), .val (.ref b22), .unset] [])) _
      refine XS.iload X25.here hx rfl (hb hby at_135) rfl ?_
      show Steps p.tables e below (T25.setTop (mkF m 137 #[.val (.int i0), .val (.int i1), .val (.int i2), .val (.int i3), .val (.int i4), .val (.int (3 : Int32)), .val (.int (i1.toInt8.toInt32)), .val (.int (i2.toInt8.toInt32)), .val (.int (i3.toInt8.toInt32)), .val (.int (i4.toInt8.toInt32)), .val (.ref b22), .unset] [(.int (3 : Int32))])) _
      refine XS.iconst X25.here hx rfl (hb hby at_137) ?_
      exact kt
    refine ownE.go (T' := T25) (f' := (mkF m 141 #[.val (.int i0), .val (.int i1), .val (.int i2), .val (.int i3), .val (.int i4), .val (.int (3 : Int32)), .val (.int (i1.toInt8.toInt32)), .val (.int (i2.toInt8.toInt32)), .val (.int (i3.toInt8.toInt32)), .val (.int (i4.toInt8.toInt32)), .val (.ref b22), .unset] [])) (fun t kt => XS.icmpNo (g := (mkF m 138 #[.val (.int i0), .val (.int i1), .val (.int i2), .val (.int i3), .val (.int i4), .val (.int (3 : Int32)), .val (.int (i1.toInt8.toInt32)), .val (.int (i2.toInt8.toInt32)), .val (.int (i3.toInt8.toInt32)), .val (.int (i4.toInt8.toInt32)), .val (.ref b22), .unset] [(.int (1 : Int32)), (.int (3 : Int32))])) X25.here hx rfl (hb hby at_138) rfl (Jvm.Free.XT.ii_lt_f (by decide)) kt) ?_
    refine ownE.go (T' := T25) (f' := (mkF m 143 #[.val (.int i0), .val (.int i1), .val (.int i2), .val (.int i3), .val (.int i4), .val (.int (3 : Int32)), .val (.int (i1.toInt8.toInt32)), .val (.int (i2.toInt8.toInt32)), .val (.int (i3.toInt8.toInt32)), .val (.int (i4.toInt8.toInt32)), .val (.ref b22), .unset] [(.int (i1.toInt8.toInt32))])) (fun t kt => ?_) ?_
    · show Steps p.tables e below (T25.setTop (mkF m 141 #[.val (.int i0), .val (.int i1), .val (.int i2), .val (.int i3), .val (.int i4), .val (.int (3 : Int32)), .val (.int (i1.toInt8.toInt32)), .val (.int (i2.toInt8.toInt32)), .val (.int (i3.toInt8.toInt32)), .val (.int (i4.toInt8.toInt32)), .val (.ref b22), .unset] [])) _
      refine XS.iload X25.here hx rfl (hb hby at_141) rfl ?_
      exact kt
    by_cases hc27 : (i1.toInt8.toInt32) < (0 : Int32)
    · -- pc 143
      refine ownE.go (T' := T25) (f' := (mkF m 183 #[.val (.int i0), .val (.int i1), .val (.int i2), .val (.int i3), .val (.int i4), .val (.int (3 : Int32)), .val (.int (i1.toInt8.toInt32)), .val (.int (i2.toInt8.toInt32)), .val (.int (i3.toInt8.toInt32)), .val (.int (i4.toInt8.toInt32)), .val (.ref b22), .unset] [])) (fun t kt => XS.ifYes (g := (mkF m 143 #[.val (.int i0), .val (.int i1), .val (.int i2), .val (.int i3), .val (.int i4), .val (.int (3 : Int32)), .val (.int (i1.toInt8.toInt32)), .val (.int (i2.toInt8.toInt32)), .val (.int (i3.toInt8.toInt32)), .val (.int (i4.toInt8.toInt32)), .val (.ref b22), .unset] [(.int (i1.toInt8.toInt32))])) X25.here hx rfl (pc0 := 143) (pc' := 183) rfl (hb hby at_143) rfl (Jvm.Free.XT.i0_lt_t hc27) (by decide) (by decide) kt) ?_
      refine ownE.go (T' := T25) (f' := (mkF m 184 #[.val (.int i0), .val (.int i1), .val (.int i2), .val (.int i3), .val (.int i4), .val (.int (3 : Int32)), .val (.int (i1.toInt8.toInt32)), .val (.int (i2.toInt8.toInt32)), .val (.int (i3.toInt8.toInt32)), .val (.int (i4.toInt8.toInt32)), .val (.ref b22), .unset] [(.int (0 : Int32))])) (fun t kt => ?_) ?_
      · show Steps p.tables e below (T25.setTop (mkF m 183 #[.val (.int i0), .val (.int i1), .val (.int i2), .val (.int i3), .val (.int i4), .val (.int (3 : Int32)), .val (.int (i1.toInt8.toInt32)), .val (.int (i2.toInt8.toInt32)), .val (.int (i3.toInt8.toInt32)), .val (.int (i4.toInt8.toInt32)), .val (.ref b22), .unset] [])) _
        refine XS.iconst X25.here hx rfl (hb hby at_183) ?_
        exact kt
      have jj := J30 _ _ X25 e25 N25
      rw [show (own_j0_184_S0_3 i0 i1 i2 i3 i4) = (0 : Int32) from by rw [own_j0_184_S0_3, if_pos hc27]] at jj
      exact jj
    · -- pc 143
      refine ownE.go (T' := T25) (f' := (mkF m 146 #[.val (.int i0), .val (.int i1), .val (.int i2), .val (.int i3), .val (.int i4), .val (.int (3 : Int32)), .val (.int (i1.toInt8.toInt32)), .val (.int (i2.toInt8.toInt32)), .val (.int (i3.toInt8.toInt32)), .val (.int (i4.toInt8.toInt32)), .val (.ref b22), .unset] [])) (fun t kt => XS.ifNo (g := (mkF m 143 #[.val (.int i0), .val (.int i1), .val (.int i2), .val (.int i3), .val (.int i4), .val (.int (3 : Int32)), .val (.int (i1.toInt8.toInt32)), .val (.int (i2.toInt8.toInt32)), .val (.int (i3.toInt8.toInt32)), .val (.int (i4.toInt8.toInt32)), .val (.ref b22), .unset] [(.int (i1.toInt8.toInt32))])) X25.here hx rfl (hb hby at_143) rfl (Jvm.Free.XT.i0_lt_f hc27) kt) ?_
      refine ownE.go (T' := T25) (f' := (mkF m 149 #[.val (.int i0), .val (.int i1), .val (.int i2), .val (.int i3), .val (.int i4), .val (.int (3 : Int32)), .val (.int (i1.toInt8.toInt32)), .val (.int (i2.toInt8.toInt32)), .val (.int (i3.toInt8.toInt32)), .val (.int (i4.toInt8.toInt32)), .val (.ref b22), .unset] [(.int (2 : Int32)), (.int (3 : Int32))])) (fun t kt => ?_) ?_
      · show Steps p.tables e below (T25.setTop (mkF m 146 #[.val (.int i0), .val (.int i1), .val (.int i2), .val (.int i3), .val (.int i4), .val (.int (3 : Int32)), .val (.int (i1.toInt8.toInt32)), .val (.int (i2.toInt8.toInt32)), .val (.int (i3.toInt8.toInt32)), .val (.int (i4.toInt8.toInt32)), .val (.ref b22), .unset] [])) _
        refine XS.iload X25.here hx rfl (hb hby at_146) rfl ?_
        show Steps p.tables e below (T25.setTop (mkF m 148 #[.val (.int i0), .val (.int i1), .val (.int i2), .val (.int i3), .val (.int i4), .val (.int (3 : Int32)), .val (.int (i1.toInt8.toInt32)), .val (.int (i2.toInt8.toInt32)), .val (.int (i3.toInt8.toInt32)), .val (.int (i4.toInt8.toInt32)), .val (.ref b22), .unset] [(.int (3 : Int32))])) _
        refine XS.iconst X25.here hx rfl (hb hby at_148) ?_
        exact kt
      refine ownE.go (T' := T25) (f' := (mkF m 152 #[.val (.int i0), .val (.int i1), .val (.int i2), .val (.int i3), .val (.int i4), .val (.int (3 : Int32)), .val (.int (i1.toInt8.toInt32)), .val (.int (i2.toInt8.toInt32)), .val (.int (i3.toInt8.toInt32)), .val (.int (i4.toInt8.toInt32)), .val (.ref b22), .unset] [])) (fun t kt => XS.icmpNo (g := (mkF m 149 #[.val (.int i0), .val (.int i1), .val (.int i2), .val (.int i3), .val (.int i4), .val (.int (3 : Int32)), .val (.int (i1.toInt8.toInt32)), .val (.int (i2.toInt8.toInt32)), .val (.int (i3.toInt8.toInt32)), .val (.int (i4.toInt8.toInt32)), .val (.ref b22), .unset] [(.int (2 : Int32)), (.int (3 : Int32))])) X25.here hx rfl (hb hby at_149) rfl (Jvm.Free.XT.ii_lt_f (by decide)) kt) ?_
      refine ownE.go (T' := T25) (f' := (mkF m 154 #[.val (.int i0), .val (.int i1), .val (.int i2), .val (.int i3), .val (.int i4), .val (.int (3 : Int32)), .val (.int (i1.toInt8.toInt32)), .val (.int (i2.toInt8.toInt32)), .val (.int (i3.toInt8.toInt32)), .val (.int (i4.toInt8.toInt32)), .val (.ref b22), .unset] [(.int (i2.toInt8.toInt32))])) (fun t kt => ?_) ?_
      · show Steps p.tables e below (T25.setTop (mkF m 152 #[.val (.int i0), .val (.int i1), .val (.int i2), .val (.int i3), .val (.int i4), .val (.int (3 : Int32)), .val (.int (i1.toInt8.toInt32)), .val (.int (i2.toInt8.toInt32)), .val (.int (i3.toInt8.toInt32)), .val (.int (i4.toInt8.toInt32)), .val (.ref b22), .unset] [])) _
        refine XS.iload X25.here hx rfl (hb hby at_152) rfl ?_
        exact kt
      by_cases hc28 : (i2.toInt8.toInt32) < (0 : Int32)
      · -- pc 154
        refine ownE.go (T' := T25) (f' := (mkF m 183 #[.val (.int i0), .val (.int i1), .val (.int i2), .val (.int i3), .val (.int i4), .val (.int (3 : Int32)), .val (.int (i1.toInt8.toInt32)), .val (.int (i2.toInt8.toInt32)), .val (.int (i3.toInt8.toInt32)), .val (.int (i4.toInt8.toInt32)), .val (.ref b22), .unset] [])) (fun t kt => XS.ifYes (g := (mkF m 154 #[.val (.int i0), .val (.int i1), .val (.int i2), .val (.int i3), .val (.int i4), .val (.int (3 : Int32)), .val (.int (i1.toInt8.toInt32)), .val (.int (i2.toInt8.toInt32)), .val (.int (i3.toInt8.toInt32)), .val (.int (i4.toInt8.toInt32)), .val (.ref b22), .unset] [(.int (i2.toInt8.toInt32))])) X25.here hx rfl (pc0 := 154) (pc' := 183) rfl (hb hby at_154) rfl (Jvm.Free.XT.i0_lt_t hc28) (by decide) (by decide) kt) ?_
        refine ownE.go (T' := T25) (f' := (mkF m 184 #[.val (.int i0), .val (.int i1), .val (.int i2), .val (.int i3), .val (.int i4), .val (.int (3 : Int32)), .val (.int (i1.toInt8.toInt32)), .val (.int (i2.toInt8.toInt32)), .val (.int (i3.toInt8.toInt32)), .val (.int (i4.toInt8.toInt32)), .val (.ref b22), .unset] [(.int (0 : Int32))])) (fun t kt => ?_) ?_
        · show Steps p.tables e below (T25.setTop (mkF m 183 #[.val (.int i0), .val (.int i1), .val (.int i2), .val (.int i3), .val (.int i4), .val (.int (3 : Int32)), .val (.int (i1.toInt8.toInt32)), .val (.int (i2.toInt8.toInt32)), .val (.int (i3.toInt8.toInt32)), .val (.int (i4.toInt8.toInt32)), .val (.ref b22), .unset] [])) _
          refine XS.iconst X25.here hx rfl (hb hby at_183) ?_
          exact kt
        have jj := J30 _ _ X25 e25 N25
        rw [show (own_j0_184_S0_3 i0 i1 i2 i3 i4) = (0 : Int32) from by rw [own_j0_184_S0_3, if_neg hc27, if_pos hc28]] at jj
        exact jj
      · -- pc 154
        refine ownE.go (T' := T25) (f' := (mkF m 157 #[.val (.int i0), .val (.int i1), .val (.int i2), .val (.int i3), .val (.int i4), .val (.int (3 : Int32)), .val (.int (i1.toInt8.toInt32)), .val (.int (i2.toInt8.toInt32)), .val (.int (i3.toInt8.toInt32)), .val (.int (i4.toInt8.toInt32)), .val (.ref b22), .unset] [])) (fun t kt => XS.ifNo (g := (mkF m 154 #[.val (.int i0), .val (.int i1), .val (.int i2), .val (.int i3), .val (.int i4), .val (.int (3 : Int32)), .val (.int (i1.toInt8.toInt32)), .val (.int (i2.toInt8.toInt32)), .val (.int (i3.toInt8.toInt32)), .val (.int (i4.toInt8.toInt32)), .val (.ref b22), .unset] [(.int (i2.toInt8.toInt32))])) X25.here hx rfl (hb hby at_154) rfl (Jvm.Free.XT.i0_lt_f hc28) kt) ?_
        refine ownE.go (T' := T25) (f' := (mkF m 160 #[.val (.int i0), .val (.int i1), .val (.int i2), .val (.int i3), .val (.int i4), .val (.int (3 : Int32)), .val (.int (i1.toInt8.toInt32)), .val (.int (i2.toInt8.toInt32)), .val (.int (i3.toInt8.toInt32)), .val (.int (i4.toInt8.toInt32)), .val (.ref b22), .unset] [(.int (3 : Int32)), (.int (3 : Int32))])) (fun t kt => ?_) ?_
        · show Steps p.tables e below (T25.setTop (mkF m 157 #[.val (.int i0), .val (.int i1), .val (.int i2), .val (.int i3), .val (.int i4), .val (.int (3 : Int32)), .val (.int (i1.toInt8.toInt32)), .val (.int (i2.toInt8.toInt32)), .val (.int (i3.toInt8.toInt32)), .val (.int (i4.toInt8.toInt32)), .val (.ref b22), .unset] [])) _
          refine XS.iload X25.here hx rfl (hb hby at_157) rfl ?_
          show Steps p.tables e below (T25.setTop (mkF m 159 #[.val (.int i0), .val (.int i1), .val (.int i2), .val (.int i3), .val (.int i4), .val (.int (3 : Int32)), .val (.int (i1.toInt8.toInt32)), .val (.int (i2.toInt8.toInt32)), .val (.int (i3.toInt8.toInt32)), .val (.int (i4.toInt8.toInt32)), .val (.ref b22), .unset] [(.int (3 : Int32))])) _
          refine XS.iconst X25.here hx rfl (hb hby at_159) ?_
          exact kt
        refine ownE.go (T' := T25) (f' := (mkF m 163 #[.val (.int i0), .val (.int i1), .val (.int i2), .val (.int i3), .val (.int i4), .val (.int (3 : Int32)), .val (.int (i1.toInt8.toInt32)), .val (.int (i2.toInt8.toInt32)), .val (.int (i3.toInt8.toInt32)), .val (.int (i4.toInt8.toInt32)), .val (.ref b22), .unset] [])) (fun t kt => XS.icmpNo (g := (mkF m 160 #[.val (.int i0), .val (.int i1), .val (.int i2), .val (.int i3), .val (.int i4), .val (.int (3 : Int32)), .val (.int (i1.toInt8.toInt32)), .val (.int (i2.toInt8.toInt32)), .val (.int (i3.toInt8.toInt32)), .val (.int (i4.toInt8.toInt32)), .val (.ref b22), .unset] [(.int (3 : Int32)), (.int (3 : Int32))])) X25.here hx rfl (hb hby at_160) rfl (Jvm.Free.XT.ii_lt_f (by decide)) kt) ?_
        refine ownE.go (T' := T25) (f' := (mkF m 165 #[.val (.int i0), .val (.int i1), .val (.int i2), .val (.int i3), .val (.int i4), .val (.int (3 : Int32)), .val (.int (i1.toInt8.toInt32)), .val (.int (i2.toInt8.toInt32)), .val (.int (i3.toInt8.toInt32)), .val (.int (i4.toInt8.toInt32)), .val (.ref b22), .unset] [(.int (i3.toInt8.toInt32))])) (fun t kt => ?_) ?_
        · show Steps p.tables e below (T25.setTop (mkF m 163 #[.val (.int i0), .val (.int i1), .val (.int i2), .val (.int i3), .val (.int i4), .val (.int (3 : Int32)), .val (.int (i1.toInt8.toInt32)), .val (.int (i2.toInt8.toInt32)), .val (.int (i3.toInt8.toInt32)), .val (.int (i4.toInt8.toInt32)), .val (.ref b22), .unset] [])) _
          refine XS.iload X25.here hx rfl (hb hby at_163) rfl ?_
          exact kt
        by_cases hc29 : (i3.toInt8.toInt32) < (0 : Int32)
        · -- pc 165
          refine ownE.go (T' := T25) (f' := (mkF m 183 #[.val (.int i0), .val (.int i1), .val (.int i2), .val (.int i3), .val (.int i4), .val (.int (3 : Int32)), .val (.int (i1.toInt8.toInt32)), .val (.int (i2.toInt8.toInt32)), .val (.int (i3.toInt8.toInt32)), .val (.int (i4.toInt8.toInt32)), .val (.ref b22), .unset] [])) (fun t kt => XS.ifYes (g := (mkF m 165 #[.val (.int i0), .val (.int i1), .val (.int i2), .val (.int i3), .val (.int i4), .val (.int (3 : Int32)), .val (.int (i1.toInt8.toInt32)), .val (.int (i2.toInt8.toInt32)), .val (.int (i3.toInt8.toInt32)), .val (.int (i4.toInt8.toInt32)), .val (.ref b22), .unset] [(.int (i3.toInt8.toInt32))])) X25.here hx rfl (pc0 := 165) (pc' := 183) rfl (hb hby at_165) rfl (Jvm.Free.XT.i0_lt_t hc29) (by decide) (by decide) kt) ?_
          refine ownE.go (T' := T25) (f' := (mkF m 184 #[.val (.int i0), .val (.int i1), .val (.int i2), .val (.int i3), .val (.int i4), .val (.int (3 : Int32)), .val (.int (i1.toInt8.toInt32)), .val (.int (i2.toInt8.toInt32)), .val (.int (i3.toInt8.toInt32)), .val (.int (i4.toInt8.toInt32)), .val (.ref b22), .unset] [(.int (0 : Int32))])) (fun t kt => ?_) ?_
          · show Steps p.tables e below (T25.setTop (mkF m 183 #[.val (.int i0), .val (.int i1), .val (.int i2), .val (.int i3), .val (.int i4), .val (.int (3 : Int32)), .val (.int (i1.toInt8.toInt32)), .val (.int (i2.toInt8.toInt32)), .val (.int (i3.toInt8.toInt32)), .val (.int (i4.toInt8.toInt32)), .val (.ref b22), .unset] [])) _
            refine XS.iconst X25.here hx rfl (hb hby at_183) ?_
            exact kt
          have jj := J30 _ _ X25 e25 N25
          rw [show (own_j0_184_S0_3 i0 i1 i2 i3 i4) = (0 : Int32) from by rw [own_j0_184_S0_3, if_neg hc27, if_neg hc28, if_pos hc29]] at jj
          exact jj
        · -- pc 165
          refine ownE.go (T' := T25) (f' := (mkF m 168 #[.val (.int i0), .val (.int i1), .val (.int i2), .val (.int i3), .val (.int i4), .val (.int (3 : Int32)), .val (.int (i1.toInt8.toInt32)), .val (.int (i2.toInt8.toInt32)), .val (.int (i3.toInt8.toInt32)), .val (.int (i4.toInt8.toInt32)), .val (.ref b22), .unset] [])) (fun t kt => XS.ifNo (g := (mkF m 165 #[.val (.int i0), .val (.int i1), .val (.int i2), .val (.int i3), .val (.int i4), .val (.int (3 : Int32)), .val (.int (i1.toInt8.toInt32)), .val (.int (i2.toInt8.toInt32)), .val (.int (i3.toInt8.toInt32)), .val (.int (i4.toInt8.toInt32)), .val (.ref b22), .unset] [(.int (i3.toInt8.toInt32))])) X25.here hx rfl (hb hby at_165) rfl (Jvm.Free.XT.i0_lt_f hc29) kt) ?_
          refine ownE.go (T' := T25) (f' := (mkF m 171 #[.val (.int i0), .val (.int i1), .val (.int i2), .val (.int i3), .val (.int i4), .val (.int (3 : Int32)), .val (.int (i1.toInt8.toInt32)), .val (.int (i2.toInt8.toInt32)), .val (.int (i3.toInt8.toInt32)), .val (.int (i4.toInt8.toInt32)), .val (.ref b22), .unset] [(.int (4 : Int32)), (.int (3 : Int32))])) (fun t kt => ?_) ?_
          · show Steps p.tables e below (T25.setTop (mkF m 168 #[.val (.int i0), .val (.int i1), .val (.int i2), .val (.int i3), .val (.int i4), .val (.int (3 : Int32)), .val (.int (i1.toInt8.toInt32)), .val (.int (i2.toInt8.toInt32)), .val (.int (i3.toInt8.toInt32)), .val (.int (i4.toInt8.toInt32)), .val (.ref b22), .unset] [])) _
            refine XS.iload X25.here hx rfl (hb hby at_168) rfl ?_
            show Steps p.tables e below (T25.setTop (mkF m 170 #[.val (.int i0), .val (.int i1), .val (.int i2), .val (.int i3), .val (.int i4), .val (.int (3 : Int32)), .val (.int (i1.toInt8.toInt32)), .val (.int (i2.toInt8.toInt32)), .val (.int (i3.toInt8.toInt32)), .val (.int (i4.toInt8.toInt32)), .val (.ref b22), .unset] [(.int (3 : Int32))])) _
            refine XS.iconst X25.here hx rfl (hb hby at_170) ?_
            exact kt
          refine ownE.go (T' := T25) (f' := (mkF m 179 #[.val (.int i0), .val (.int i1), .val (.int i2), .val (.int i3), .val (.int i4), .val (.int (3 : Int32)), .val (.int (i1.toInt8.toInt32)), .val (.int (i2.toInt8.toInt32)), .val (.int (i3.toInt8.toInt32)), .val (.int (i4.toInt8.toInt32)), .val (.ref b22), .unset] [])) (fun t kt => XS.icmpYes (g := (mkF m 171 #[.val (.int i0), .val (.int i1), .val (.int i2), .val (.int i3), .val (.int i4), .val (.int (3 : Int32)), .val (.int (i1.toInt8.toInt32)), .val (.int (i2.toInt8.toInt32)), .val (.int (i3.toInt8.toInt32)), .val (.int (i4.toInt8.toInt32)), .val (.ref b22), .unset] [(.int (4 : Int32)), (.int (3 : Int32))])) X25.here hx rfl (pc0 := 171) (pc' := 179) rfl (hb hby at_171) rfl (Jvm.Free.XT.ii_lt_t (by decide)) (by decide) (by decide) kt) ?_
          refine ownE.go (T' := T25) (f' := (mkF m 184 #[.val (.int i0), .val (.int i1), .val (.int i2), .val (.int i3), .val (.int i4), .val (.int (3 : Int32)), .val (.int (i1.toInt8.toInt32)), .val (.int (i2.toInt8.toInt32)), .val (.int (i3.toInt8.toInt32)), .val (.int (i4.toInt8.toInt32)), .val (.ref b22), .unset] [(.int (1 : Int32))])) (fun t kt => ?_) ?_
          · show Steps p.tables e below (T25.setTop (mkF m 179 #[.val (.int i0), .val (.int i1), .val (.int i2), .val (.int i3), .val (.int i4), .val (.int (3 : Int32)), .val (.int (i1.toInt8.toInt32)), .val (.int (i2.toInt8.toInt32)), .val (.int (i3.toInt8.toInt32)), .val (.int (i4.toInt8.toInt32)), .val (.ref b22), .unset] [])) _
            refine XS.iconst X25.here hx rfl (hb hby at_179) ?_
            show Steps p.tables e below (T25.setTop (mkF m 180 #[.val (.int i0), .val (.int i1), .val (.int i2), .val (.int i3), .val (.int i4), .val (.int (3 : Int32)), .val (.int (i1.toInt8.toInt32)), .val (.int (i2.toInt8.toInt32)), .val (.int (i3.toInt8.toInt32)), .val (.int (i4.toInt8.toInt32)), .val (.ref b22), .unset] [(.int (1 : Int32))])) _
            refine XS.goto X25.here hx rfl (pc0 := 180) (pc' := 184) rfl (hb hby at_180) (by decide) (by decide) ?_
            exact kt
          have jj := J30 _ _ X25 e25 N25
          rw [show (own_j0_184_S0_3 i0 i1 i2 i3 i4) = (1 : Int32) from by rw [own_j0_184_S0_3, if_neg hc27, if_neg hc28, if_neg hc29]] at jj
          exact jj
  · -- ((i0 &&& (2147483647 : Int32)) % (5 : Int32)) = 4
    have hf1 : (mkF m 25 #[.val (.int i0), .val (.int i1), .val (.int i2), .val (.int i3), .val (.int i4), .val (.int ((i0 &&& (2147483647 : Int32)) % (5 : Int32))), .val (.int (i1.toInt8.toInt32)), .val (.int (i2.toInt8.toInt32)), .val (.int (i3.toInt8.toInt32)), .val (.int (i4.toInt8.toInt32)), .unset, .unset] []) = (mkF m 25 #[.val (.int i0), .val (.int i1), .val (.int i2), .val (.int i3), .val (.int i4), .val (.int (4 : Int32)), .val (.int (i1.toInt8.toInt32)), .val (.int (i2.toInt8.toInt32)), .val (.int (i3.toInt8.toInt32)), .val (.int (i4.toInt8.toInt32)), .unset, .unset] []) := by rw [hk1]
    rw [hf1]
    have hk1_0 : ¬ ((i0 &&& (2147483647 : Int32)) % (5 : Int32)) = (0 : Int32) := by rw [hk1]; decide
    have hk1_1 : ¬ ((i0 &&& (2147483647 : Int32)) % (5 : Int32)) = (1 : Int32) := by rw [hk1]; decide
    have hk1_2 : ¬ ((i0 &&& (2147483647 : Int32)) % (5 : Int32)) = (2 : Int32) := by rw [hk1]; decide
    have hk1_3 : ¬ ((i0 &&& (2147483647 : Int32)) % (5 : Int32)) = (3 : Int32) := by rw [hk1]; decide
    refine ownE.go (T' := s₁) (f' := (mkF m 27 #[.val (.int i0), .val (.int i1), .val (.int i2), .val (.int i3), .val (.int i4), .val (.int (4 : Int32)), .val (.int (i1.toInt8.toInt32)), .val (.int (i2.toInt8.toInt32)), .val (.int (i3.toInt8.toInt32)), .val (.int (i4.toInt8.toInt32)), .unset, .unset] [(.int (4 : Int32))])) (fun t kt => ?_) ?_
    · show Steps p.tables e below (s₁.setTop (mkF m 25 #[.val (.int i0), .val (.int i1), .val (.int i2), .val (.int i3), .val (.int i4), .val (.int (4 : Int32)), .val (.int (i1.toInt8.toInt32)), .val (.int (i2.toInt8.toInt32)), .val (.int (i3.toInt8.toInt32)), .val (.int (i4.toInt8.toInt32)), .unset, .unset] [])) _
      refine XS.iload X0.here hx rfl (hb hby at_25) rfl ?_
      exact kt
    refine ownE.go (T' := s₁) (f' := (mkF m 38 #[.val (.int i0), .val (.int i1), .val (.int i2), .val (.int i3), .val (.int i4), .val (.int (4 : Int32)), .val (.int (i1.toInt8.toInt32)), .val (.int (i2.toInt8.toInt32)), .val (.int (i3.toInt8.toInt32)), .val (.int (i4.toInt8.toInt32)), .unset, .unset] [])) (fun t kt => XS.ifYes (g := (mkF m 27 #[.val (.int i0), .val (.int i1), .val (.int i2), .val (.int i3), .val (.int i4), .val (.int (4 : Int32)), .val (.int (i1.toInt8.toInt32)), .val (.int (i2.toInt8.toInt32)), .val (.int (i3.toInt8.toInt32)), .val (.int (i4.toInt8.toInt32)), .unset, .unset] [(.int (4 : Int32))])) X0.here hx rfl (pc0 := 27) (pc' := 38) rfl (hb hby at_27) rfl (Jvm.Free.XT.i0_ne_t (by decide)) (by decide) (by decide) kt) ?_
    refine ownE.go (T' := s₁) (f' := (mkF m 41 #[.val (.int i0), .val (.int i1), .val (.int i2), .val (.int i3), .val (.int i4), .val (.int (4 : Int32)), .val (.int (i1.toInt8.toInt32)), .val (.int (i2.toInt8.toInt32)), .val (.int (i3.toInt8.toInt32)), .val (.int (i4.toInt8.toInt32)), .unset, .unset] [(.int (1 : Int32)), (.int (4 : Int32))])) (fun t kt => ?_) ?_
    · show Steps p.tables e below (s₁.setTop (mkF m 38 #[.val (.int i0), .val (.int i1), .val (.int i2), .val (.int i3), .val (.int i4), .val (.int (4 : Int32)), .val (.int (i1.toInt8.toInt32)), .val (.int (i2.toInt8.toInt32)), .val (.int (i3.toInt8.toInt32)), .val (.int (i4.toInt8.toInt32)), .unset, .unset] [])) _
      refine XS.iload X0.here hx rfl (hb hby at_38) rfl ?_
      show Steps p.tables e below (s₁.setTop (mkF m 40 #[.val (.int i0), .val (.int i1), .val (.int i2), .val (.int i3), .val (.int i4), .val (.int (4 : Int32)), .val (.int (i1.toInt8.toInt32)), .val (.int (i2.toInt8.toInt32)), .val (.int (i3.toInt8.toInt32)), .val (.int (i4.toInt8.toInt32)), .unset, .unset] [(.int (4 : Int32))])) _
      refine XS.iconst X0.here hx rfl (hb hby at_40) ?_
      exact kt
    refine ownE.go (T' := s₁) (f' := (mkF m 57 #[.val (.int i0), .val (.int i1), .val (.int i2), .val (.int i3), .val (.int i4), .val (.int (4 : Int32)), .val (.int (i1.toInt8.toInt32)), .val (.int (i2.toInt8.toInt32)), .val (.int (i3.toInt8.toInt32)), .val (.int (i4.toInt8.toInt32)), .unset, .unset] [])) (fun t kt => XS.icmpYes (g := (mkF m 41 #[.val (.int i0), .val (.int i1), .val (.int i2), .val (.int i3), .val (.int i4), .val (.int (4 : Int32)), .val (.int (i1.toInt8.toInt32)), .val (.int (i2.toInt8.toInt32)), .val (.int (i3.toInt8.toInt32)), .val (.int (i4.toInt8.toInt32)), .unset, .unset] [(.int (1 : Int32)), (.int (4 : Int32))])) X0.here hx rfl (pc0 := 41) (pc' := 57) rfl (hb hby at_41) rfl (Jvm.Free.XT.ii_ne_t (by decide)) (by decide) (by decide) kt) ?_
    refine ownE.go (T' := s₁) (f' := (mkF m 60 #[.val (.int i0), .val (.int i1), .val (.int i2), .val (.int i3), .val (.int i4), .val (.int (4 : Int32)), .val (.int (i1.toInt8.toInt32)), .val (.int (i2.toInt8.toInt32)), .val (.int (i3.toInt8.toInt32)), .val (.int (i4.toInt8.toInt32)), .unset, .unset] [(.int (2 : Int32)), (.int (4 : Int32))])) (fun t kt => ?_) ?_
    · show Steps p.tables e below (s₁.setTop (mkF m 57 #[.val (.int i0), .val (.int i1), .val (.int i2), .val (.int i3), .val (.int i4), .val (.int (4 : Int32)), .val (.int (i1.toInt8.toInt32)), .val (.int (i2.toInt8.toInt32)), .val (.int (i3.toInt8.toInt32)), .val (.int (i4.toInt8.toInt32)), .unset, .unset] [])) _
      refine XS.iload X0.here hx rfl (hb hby at_57) rfl ?_
      show Steps p.tables e below (s₁.setTop (mkF m 59 #[.val (.int i0), .val (.int i1), .val (.int i2), .val (.int i3), .val (.int i4), .val (.int (4 : Int32)), .val (.int (i1.toInt8.toInt32)), .val (.int (i2.toInt8.toInt32)), .val (.int (i3.toInt8.toInt32)), .val (.int (i4.toInt8.toInt32)), .unset, .unset] [(.int (4 : Int32))])) _
      refine XS.iconst X0.here hx rfl (hb hby at_59) ?_
      exact kt
    refine ownE.go (T' := s₁) (f' := (mkF m 81 #[.val (.int i0), .val (.int i1), .val (.int i2), .val (.int i3), .val (.int i4), .val (.int (4 : Int32)), .val (.int (i1.toInt8.toInt32)), .val (.int (i2.toInt8.toInt32)), .val (.int (i3.toInt8.toInt32)), .val (.int (i4.toInt8.toInt32)), .unset, .unset] [])) (fun t kt => XS.icmpYes (g := (mkF m 60 #[.val (.int i0), .val (.int i1), .val (.int i2), .val (.int i3), .val (.int i4), .val (.int (4 : Int32)), .val (.int (i1.toInt8.toInt32)), .val (.int (i2.toInt8.toInt32)), .val (.int (i3.toInt8.toInt32)), .val (.int (i4.toInt8.toInt32)), .unset, .unset] [(.int (2 : Int32)), (.int (4 : Int32))])) X0.here hx rfl (pc0 := 60) (pc' := 81) rfl (hb hby at_60) rfl (Jvm.Free.XT.ii_ne_t (by decide)) (by decide) (by decide) kt) ?_
    refine ownE.go (T' := s₁) (f' := (mkF m 84 #[.val (.int i0), .val (.int i1), .val (.int i2), .val (.int i3), .val (.int i4), .val (.int (4 : Int32)), .val (.int (i1.toInt8.toInt32)), .val (.int (i2.toInt8.toInt32)), .val (.int (i3.toInt8.toInt32)), .val (.int (i4.toInt8.toInt32)), .unset, .unset] [(.int (3 : Int32)), (.int (4 : Int32))])) (fun t kt => ?_) ?_
    · show Steps p.tables e below (s₁.setTop (mkF m 81 #[.val (.int i0), .val (.int i1), .val (.int i2), .val (.int i3), .val (.int i4), .val (.int (4 : Int32)), .val (.int (i1.toInt8.toInt32)), .val (.int (i2.toInt8.toInt32)), .val (.int (i3.toInt8.toInt32)), .val (.int (i4.toInt8.toInt32)), .unset, .unset] [])) _
      refine XS.iload X0.here hx rfl (hb hby at_81) rfl ?_
      show Steps p.tables e below (s₁.setTop (mkF m 83 #[.val (.int i0), .val (.int i1), .val (.int i2), .val (.int i3), .val (.int i4), .val (.int (4 : Int32)), .val (.int (i1.toInt8.toInt32)), .val (.int (i2.toInt8.toInt32)), .val (.int (i3.toInt8.toInt32)), .val (.int (i4.toInt8.toInt32)), .unset, .unset] [(.int (4 : Int32))])) _
      refine XS.iconst X0.here hx rfl (hb hby at_83) ?_
      exact kt
    refine ownE.go (T' := s₁) (f' := (mkF m 110 #[.val (.int i0), .val (.int i1), .val (.int i2), .val (.int i3), .val (.int i4), .val (.int (4 : Int32)), .val (.int (i1.toInt8.toInt32)), .val (.int (i2.toInt8.toInt32)), .val (.int (i3.toInt8.toInt32)), .val (.int (i4.toInt8.toInt32)), .unset, .unset] [])) (fun t kt => XS.icmpYes (g := (mkF m 84 #[.val (.int i0), .val (.int i1), .val (.int i2), .val (.int i3), .val (.int i4), .val (.int (4 : Int32)), .val (.int (i1.toInt8.toInt32)), .val (.int (i2.toInt8.toInt32)), .val (.int (i3.toInt8.toInt32)), .val (.int (i4.toInt8.toInt32)), .unset, .unset] [(.int (3 : Int32)), (.int (4 : Int32))])) X0.here hx rfl (pc0 := 84) (pc' := 110) rfl (hb hby at_84) rfl (Jvm.Free.XT.ii_ne_t (by decide)) (by decide) (by decide) kt) ?_
    refine ownE.go (T' := s₁) (f' := (mkF m 111 #[.val (.int i0), .val (.int i1), .val (.int i2), .val (.int i3), .val (.int i4), .val (.int (4 : Int32)), .val (.int (i1.toInt8.toInt32)), .val (.int (i2.toInt8.toInt32)), .val (.int (i3.toInt8.toInt32)), .val (.int (i4.toInt8.toInt32)), .unset, .unset] [(.int (4 : Int32))])) (fun t kt => ?_) ?_
    · show Steps p.tables e below (s₁.setTop (mkF m 110 #[.val (.int i0), .val (.int i1), .val (.int i2), .val (.int i3), .val (.int i4), .val (.int (4 : Int32)), .val (.int (i1.toInt8.toInt32)), .val (.int (i2.toInt8.toInt32)), .val (.int (i3.toInt8.toInt32)), .val (.int (i4.toInt8.toInt32)), .unset, .unset] [])) _
      refine XS.iconst X0.here hx rfl (hb hby at_110) ?_
      exact kt
    obtain ⟨T33, h33, k33, X33, e33, E33, A33, st33⟩ := newP X0 hx hZ (hw _ (List.mem_of_getElem? (i := 1) rfl)) e0 (g := (mkF m 111 #[.val (.int i0), .val (.int i1), .val (.int i2), .val (.int i3), .val (.int i4), .val (.int (4 : Int32)), .val (.int (i1.toInt8.toInt32)), .val (.int (i2.toInt8.toInt32)), .val (.int (i3.toInt8.toInt32)), .val (.int (i4.toInt8.toInt32)), .unset, .unset] [(.int (4 : Int32))])) rfl (hb hby at_111) rfl (by decide) (cap := 4) (by decide) (by decide) (by decide) (by decide)
    obtain ⟨b33, g33⟩ : ∃ z, z = h0.size := ⟨_, rfl⟩
    rw [← g33] at A33 st33
    have sz_b33 : h0.size ≤ b33 := Nat.le_trans K0.1 (Nat.le_of_eq g33.symm)
    have ge_b33 : n0 ≤ b33 := Nat.le_trans Z0 sz_b33
    have V33 : Arv Z h33 b33 k33 .byte (4 : Int32) [(.int (0 : Int32)), (.int (0 : Int32)), (.int (0 : Int32)), (.int (0 : Int32))] (.int (0 : Int32)) := (Arv.new A33 (by decide)).pad (pad_rep [] (.int (0 : Int32)) 4)
    have K33 : Keep h0 h33 [] := K0.ext E33
    refine ownE.go (T' := T33) (f' := (mkF m 113 #[.val (.int i0), .val (.int i1), .val (.int i2), .val (.int i3), .val (.int i4), .val (.int (4 : Int32)), .val (.int (i1.toInt8.toInt32)), .val (.int (i2.toInt8.toInt32)), .val (.int (i3.toInt8.toInt32)), .val (.int (i4.toInt8.toInt32)), .unset, .unset] [(.ref b33)])) st33 ?_
    refine ownE.go (T' := T33) (f' := (mkF m 117 #[.val (.int i0), .val (.int i1), .val (.int i2), .val (.int i3), .val (.int i4), .val (.int (4 : Int32)), .val (.int (i1.toInt8.toInt32)), .val (.int (i2.toInt8.toInt32)), .val (.int (i3.toInt8.toInt32)), .val (.int (i4.toInt8.toInt32)), .unset, .unset] [(.int (i1.toInt8.toInt32)), (.int (0 : Int32)), (.ref b33), (.ref b33)])) (fun t kt => ?_) ?_
    · show Steps p.tables e below (T33.setTop (mkF m 113 #[.val (.int i0), .val (.int i1), .val (.int i2), .val (.int i3), .val (.int i4), .val (.int (4 : Int32)), .val (.int (i1.toInt8.toInt32)), .val (.int (i2.toInt8.toInt32)), .val (.int (i3.toInt8.toInt32)), .val (.int (i4.toInt8.toInt32)), .unset, .unset] [(.ref b33)])) _
      refine XS.dup X33.here hx rfl (hb hby at_113) rfl rfl ?_
      show Steps p.tables e below (T33.setTop (mkF m 114 #[.val (.int i0), .val (.int i1), .val (.int i2), .val (.int i3), .val (.int i4), .val (.int (4 : Int32)), .val (.int (i1.toInt8.toInt32)), .val (.int (i2.toInt8.toInt32)), .val (.int (i3.toInt8.toInt32)), .val (.int (i4.toInt8.toInt32)), .unset, .unset] [(.ref b33), (.ref b33)])) _
      refine XS.iconst X33.here hx rfl (hb hby at_114) ?_
      show Steps p.tables e below (T33.setTop (mkF m 115 #[.val (.int i0), .val (.int i1), .val (.int i2), .val (.int i3), .val (.int i4), .val (.int (4 : Int32)), .val (.int (i1.toInt8.toInt32)), .val (.int (i2.toInt8.toInt32)), .val (.int (i3.toInt8.toInt32)), .val (.int (i4.toInt8.toInt32)), .unset, .unset] [(.int (0 : Int32)), (.ref b33), (.ref b33)])) _
      refine XS.iload X33.here hx rfl (hb hby at_115) rfl ?_
      exact kt
    obtain ⟨cl34, Ar34, q34, S34, Nn34, Hh34, G34⟩ := id V33
    have hin34 : ¬ ((0 : Int32) < 0 ∨ cl34.slots.size ≤ ((0 : Int32)).toNatClampNeg) := inb_of S34 ⟨by decide, by decide⟩
    obtain ⟨T34, h34, X34, e34, W34, st34⟩ := stB X33 hx hZ e33 Ar34 (j := (0 : Int32)) hin34 (g := (mkF m 117 #[.val (.int i0), .val (.int i1), .val (.int i2), .val (.int i3), .val (.int i4), .val (.int (4 : Int32)), .val (.int (i1.toInt8.toInt32)), .val (.int (i2.toInt8.toInt32)), .val (.int (i3.toInt8.toInt32)), .val (.int (i4.toInt8.toInt32)), .unset, .unset] [(.int (i1.toInt8.toInt32)), (.int (0 : Int32)), (.ref b33), (.ref b33)])) rfl rfl (hb hby at_117)
    have V34 : Arv Z h34 b33 k33 .byte (4 : Int32) [(.int ((i1.toInt8.toInt32).toInt8.toInt32)), (.int (0 : Int32)), (.int (0 : Int32)), (.int (0 : Int32))] (.int (0 : Int32)) := Arv.set Ar34 q34 S34 Nn34 Hh34 G34 (fits_nar_byte _) W34 0 rfl (Nat.le_of_ble_eq_true rfl)
    have K34 : Keep h0 h34 [] := K33.wr W34 (Or.inr sz_b33)
    have N34 := Fr.snoc X34 N0 ge_b33
    refine ownE.go (T' := T34) (f' := (mkF m 118 #[.val (.int i0), .val (.int i1), .val (.int i2), .val (.int i3), .val (.int i4), .val (.int (4 : Int32)), .val (.int (i1.toInt8.toInt32)), .val (.int (i2.toInt8.toInt32)), .val (.int (i3.toInt8.toInt32)), .val (.int (i4.toInt8.toInt32)), .unset, .unset] [(.ref b33)])) st34 ?_
    refine ownE.go (T' := T34) (f' := (mkF m 122 #[.val (.int i0), .val (.int i1), .val (.int i2), .val (.int i3), .val (.int i4), .val (.int (4 : Int32)), .val (.int (i1.toInt8.toInt32)), .val (.int (i2.toInt8.toInt32)), .val (.int (i3.toInt8.toInt32)), .val (.int (i4.toInt8.toInt32)), .unset, .unset] [(.int (i2.toInt8.toInt32)), (.int (1 : Int32)), (.ref b33), (.ref b33)])) (fun t kt => ?_) ?_
    · show Steps p.tables e below (T34.setTop (mkF m 118 #[.val (.int i0), .val (.int i1), .val (.int i2), .val (.int i3), .val (.int i4), .val (.int (4 : Int32)), .val (.int (i1.toInt8.toInt32)), .val (.int (i2.toInt8.toInt32)), .val (.int (i3.toInt8.toInt32)), .val (.int (i4.toInt8.toInt32)), .unset, .unset] [(.ref b33)])) _
      refine XS.dup X34.here hx rfl (hb hby at_118) rfl rfl ?_
      show Steps p.tables e below (T34.setTop (mkF m 119 #[.val (.int i0), .val (.int i1), .val (.int i2), .val (.int i3), .val (.int i4), .val (.int (4 : Int32)), .val (.int (i1.toInt8.toInt32)), .val (.int (i2.toInt8.toInt32)), .val (.int (i3.toInt8.toInt32)), .val (.int (i4.toInt8.toInt32)), .unset, .unset] [(.ref b33), (.ref b33)])) _
      refine XS.iconst X34.here hx rfl (hb hby at_119) ?_
      show Steps p.tables e below (T34.setTop (mkF m 120 #[.val (.int i0), .val (.int i1), .val (.int i2), .val (.int i3), .val (.int i4), .val (.int (4 : Int32)), .val (.int (i1.toInt8.toInt32)), .val (.int (i2.toInt8.toInt32)), .val (.int (i3.toInt8.toInt32)), .val (.int (i4.toInt8.toInt32)), .unset, .unset] [(.int (1 : Int32)), (.ref b33), (.ref b33)])) _
      refine XS.iload X34.here hx rfl (hb hby at_120) rfl ?_
      exact kt
    obtain ⟨cl35, Ar35, q35, S35, Nn35, Hh35, G35⟩ := id V34
    have hin35 : ¬ ((1 : Int32) < 0 ∨ cl35.slots.size ≤ ((1 : Int32)).toNatClampNeg) := inb_of S35 ⟨by decide, by decide⟩
    obtain ⟨T35, h35, X35, e35, W35, st35⟩ := stB X34 hx hZ e34 Ar35 (j := (1 : Int32)) hin35 (g := (mkF m 122 #[.val (.int i0), .val (.int i1), .val (.int i2), .val (.int i3), .val (.int i4), .val (.int (4 : Int32)), .val (.int (i1.toInt8.toInt32)), .val (.int (i2.toInt8.toInt32)), .val (.int (i3.toInt8.toInt32)), .val (.int (i4.toInt8.toInt32)), .unset, .unset] [(.int (i2.toInt8.toInt32)), (.int (1 : Int32)), (.ref b33), (.ref b33)])) rfl rfl (hb hby at_122)
    have V35 : Arv Z h35 b33 k33 .byte (4 : Int32) [(.int ((i1.toInt8.toInt32).toInt8.toInt32)), (.int ((i2.toInt8.toInt32).toInt8.toInt32)), (.int (0 : Int32)), (.int (0 : Int32))] (.int (0 : Int32)) := Arv.set Ar35 q35 S35 Nn35 Hh35 G35 (fits_nar_byte _) W35 1 rfl (Nat.le_of_ble_eq_true rfl)
    have K35 : Keep h0 h35 [] := K34.wr W35 (Or.inr sz_b33)
    have N35 := Fr.snoc X35 N34 ge_b33
    refine ownE.go (T' := T35) (f' := (mkF m 123 #[.val (.int i0), .val (.int i1), .val (.int i2), .val (.int i3), .val (.int i4), .val (.int (4 : Int32)), .val (.int (i1.toInt8.toInt32)), .val (.int (i2.toInt8.toInt32)), .val (.int (i3.toInt8.toInt32)), .val (.int (i4.toInt8.toInt32)), .unset, .unset] [(.ref b33)])) st35 ?_
    refine ownE.go (T' := T35) (f' := (mkF m 127 #[.val (.int i0), .val (.int i1), .val (.int i2), .val (.int i3), .val (.int i4), .val (.int (4 : Int32)), .val (.int (i1.toInt8.toInt32)), .val (.int (i2.toInt8.toInt32)), .val (.int (i3.toInt8.toInt32)), .val (.int (i4.toInt8.toInt32)), .unset, .unset] [(.int (i3.toInt8.toInt32)), (.int (2 : Int32)), (.ref b33), (.ref b33)])) (fun t kt => ?_) ?_
    · show Steps p.tables e below (T35.setTop (mkF m 123 #[.val (.int i0), .val (.int i1), .val (.int i2), .val (.int i3), .val (.int i4), .val (.int (4 : Int32)), .val (.int (i1.toInt8.toInt32)), .val (.int (i2.toInt8.toInt32)), .val (.int (i3.toInt8.toInt32)), .val (.int (i4.toInt8.toInt32)), .unset, .unset] [(.ref b33)])) _
      refine XS.dup X35.here hx rfl (hb hby at_123) rfl rfl ?_
      show Steps p.tables e below (T35.setTop (mkF m 124 #[.val (.int i0), .val (.int i1), .val (.int i2), .val (.int i3), .val (.int i4), .val (.int (4 : Int32)), .val (.int (i1.toInt8.toInt32)), .val (.int (i2.toInt8.toInt32)), .val (.int (i3.toInt8.toInt32)), .val (.int (i4.toInt8.toInt32)), .unset, .unset] [(.ref b33), (.ref b33)])) _
      refine XS.iconst X35.here hx rfl (hb hby at_124) ?_
      show Steps p.tables e below (T35.setTop (mkF m 125 #[.val (.int i0), .val (.int i1), .val (.int i2), .val (.int i3), .val (.int i4), .val (.int (4 : Int32)), .val (.int (i1.toInt8.toInt32)), .val (.int (i2.toInt8.toInt32)), .val (.int (i3.toInt8.toInt32)), .val (.int (i4.toInt8.toInt32)), .unset, .unset] [(.int (2 : Int32)), (.ref b33), (.ref b33)])) _
      refine XS.iload X35.here hx rfl (hb hby at_125) rfl ?_
      exact kt
    obtain ⟨cl36, Ar36, q36, S36, Nn36, Hh36, G36⟩ := id V35
    have hin36 : ¬ ((2 : Int32) < 0 ∨ cl36.slots.size ≤ ((2 : Int32)).toNatClampNeg) := inb_of S36 ⟨by decide, by decide⟩
    obtain ⟨T36, h36, X36, e36, W36, st36⟩ := stB X35 hx hZ e35 Ar36 (j := (2 : Int32)) hin36 (g := (mkF m 127 #[.val (.int i0), .val (.int i1), .val (.int i2), .val (.int i3), .val (.int i4), .val (.int (4 : Int32)), .val (.int (i1.toInt8.toInt32)), .val (.int (i2.toInt8.toInt32)), .val (.int (i3.toInt8.toInt32)), .val (.int (i4.toInt8.toInt32)), .unset, .unset] [(.int (i3.toInt8.toInt32)), (.int (2 : Int32)), (.ref b33), (.ref b33)])) rfl rfl (hb hby at_127)
    have V36 : Arv Z h36 b33 k33 .byte (4 : Int32) [(.int ((i1.toInt8.toInt32).toInt8.toInt32)), (.int ((i2.toInt8.toInt32).toInt8.toInt32)), (.int ((i3.toInt8.toInt32).toInt8.toInt32)), (.int (0 : Int32))] (.int (0 : Int32)) := Arv.set Ar36 q36 S36 Nn36 Hh36 G36 (fits_nar_byte _) W36 2 rfl (Nat.le_of_ble_eq_true rfl)
    have K36 : Keep h0 h36 [] := K35.wr W36 (Or.inr sz_b33)
    have N36 := Fr.snoc X36 N35 ge_b33
    refine ownE.go (T' := T36) (f' := (mkF m 128 #[.val (.int i0), .val (.int i1), .val (.int i2), .val (.int i3), .val (.int i4), .val (.int (4 : Int32)), .val (.int (i1.toInt8.toInt32)), .val (.int (i2.toInt8.toInt32)), .val (.int (i3.toInt8.toInt32)), .val (.int (i4.toInt8.toInt32)), .unset, .unset] [(.ref b33)])) st36 ?_
    refine ownE.go (T' := T36) (f' := (mkF m 132 #[.val (.int i0), .val (.int i1), .val (.int i2), .val (.int i3), .val (.int i4), .val (.int (4 : Int32)), .val (.int (i1.toInt8.toInt32)), .val (.int (i2.toInt8.toInt32)), .val (.int (i3.toInt8.toInt32)), .val (.int (i4.toInt8.toInt32)), .unset, .unset] [(.int (i4.toInt8.toInt32)), (.int (3 : Int32)), (.ref b33), (.ref b33)])) (fun t kt => ?_) ?_
    · show Steps p.tables e below (T36.setTop (mkF m 128 #[.val (.int i0), .val (.int i1), .val (.int i2), .val (.int i3), .val (.int i4), .val (.int (4 : Int32)), .val (.int (i1.toInt8.toInt32)), .val (.int (i2.toInt8.toInt32)), .val (.int (i3.toInt8.toInt32)), .val (.int (i4.toInt8.toInt32)), .unset, .unset] [(.ref b33)])) _
      refine XS.dup X36.here hx rfl (hb hby at_128) rfl rfl ?_
      show Steps p.tables e below (T36.setTop (mkF m 129 #[.val (.int i0), .val (.int i1), .val (.int i2), .val (.int i3), .val (.int i4), .val (.int (4 : Int32)), .val (.int (i1.toInt8.toInt32)), .val (.int (i2.toInt8.toInt32)), .val (.int (i3.toInt8.toInt32)), .val (.int (i4.toInt8.toInt32)), .unset, .unset] [(.ref b33), (.ref b33)])) _
      refine XS.iconst X36.here hx rfl (hb hby at_129) ?_
      show Steps p.tables e below (T36.setTop (mkF m 130 #[.val (.int i0), .val (.int i1), .val (.int i2), .val (.int i3), .val (.int i4), .val (.int (4 : Int32)), .val (.int (i1.toInt8.toInt32)), .val (.int (i2.toInt8.toInt32)), .val (.int (i3.toInt8.toInt32)), .val (.int (i4.toInt8.toInt32)), .unset, .unset] [(.int (3 : Int32)), (.ref b33), (.ref b33)])) _
      refine XS.iload X36.here hx rfl (hb hby at_130) rfl ?_
      exact kt
    obtain ⟨cl37, Ar37, q37, S37, Nn37, Hh37, G37⟩ := id V36
    have hin37 : ¬ ((3 : Int32) < 0 ∨ cl37.slots.size ≤ ((3 : Int32)).toNatClampNeg) := inb_of S37 ⟨by decide, by decide⟩
    obtain ⟨T37, h37, X37, e37, W37, st37⟩ := stB X36 hx hZ e36 Ar37 (j := (3 : Int32)) hin37 (g := (mkF m 132 #[.val (.int i0), .val (.int i1), .val (.int i2), .val (.int i3), .val (.int i4), .val (.int (4 : Int32)), .val (.int (i1.toInt8.toInt32)), .val (.int (i2.toInt8.toInt32)), .val (.int (i3.toInt8.toInt32)), .val (.int (i4.toInt8.toInt32)), .unset, .unset] [(.int (i4.toInt8.toInt32)), (.int (3 : Int32)), (.ref b33), (.ref b33)])) rfl rfl (hb hby at_132)
    have V37 : Arv Z h37 b33 k33 .byte (4 : Int32) [(.int ((i1.toInt8.toInt32).toInt8.toInt32)), (.int ((i2.toInt8.toInt32).toInt8.toInt32)), (.int ((i3.toInt8.toInt32).toInt8.toInt32)), (.int ((i4.toInt8.toInt32).toInt8.toInt32))] (.int (0 : Int32)) := Arv.set Ar37 q37 S37 Nn37 Hh37 G37 (fits_nar_byte _) W37 3 rfl (Nat.le_of_ble_eq_true rfl)
    have K37 : Keep h0 h37 [] := K36.wr W37 (Or.inr sz_b33)
    have N37 := Fr.snoc X37 N36 ge_b33
    refine ownE.go (T' := T37) (f' := (mkF m 133 #[.val (.int i0), .val (.int i1), .val (.int i2), .val (.int i3), .val (.int i4), .val (.int (4 : Int32)), .val (.int (i1.toInt8.toInt32)), .val (.int (i2.toInt8.toInt32)), .val (.int (i3.toInt8.toInt32)), .val (.int (i4.toInt8.toInt32)), .unset, .unset] [(.ref b33)])) st37 ?_
    refine ownE.go (T' := T37) (f' := (mkF m 135 #[.val (.int i0), .val (.int i1), .val (.int i2), .val (.int i3), .val (.int i4), .val (.int (4 : Int32)), .val (.int (i1.toInt8.toInt32)), .val (.int (i2.toInt8.toInt32)), .val (.int (i3.toInt8.toInt32)), .val (.int (i4.toInt8.toInt32)), .val (.ref b33), .unset] [])) (fun t kt => ?_) ?_
    · show Steps p.tables e below (T37.setTop (mkF m 133 #[.val (.int i0), .val (.int i1), .val (.int i2), .val (.int i3), .val (.int i4), .val (.int (4 : Int32)), .val (.int (i1.toInt8.toInt32)), .val (.int (i2.toInt8.toInt32)), .val (.int (i3.toInt8.toInt32)), .val (.int (i4.toInt8.toInt32)), .unset, .unset] [(.ref b33)])) _
      refine XS.astore X37.here hx rfl (hb hby at_133) rfl rfl (l' := #[.val (.int i0), .val (.int i1), .val (.int i2), .val (.int i3), .val (.int i4), .val (.int (4 : Int32)), .val (.int (i1.toInt8.toInt32)), .val (.int (i2.toInt8.toInt32)), .val (.int (i3.toInt8.toInt32)), .val (.int (i4.toInt8.toInt32)), .val (.ref b33), .unset]) rfl ?_
      exact kt
    have J43 : ∀ (TJ43 : State) (locsJ43 : List Loc), Stand p l e room_1 s m #[(.int i0), (.int i1), (.int i2), (.int i3), (.int i4)] below meth c TJ43 locsJ43 1 4 → TJ43.heap = h37 → Fr n0 locsJ43 → ownE p e below s (own_Q0 Z i0 i1 i2 i3 i4 h0 n0) 1 4 TJ43 (mkF m 184 #[.val (.int i0), .val (.int i1), .val (.int i2), .val (.int i3), .val (.int i4), .val (.int (4 : Int32)), .val (.int (i1.toInt8.toInt32)), .val (.int (i2.toInt8.toInt32)), .val (.int (i3.toInt8.toInt32)), .val (.int (i4.toInt8.toInt32)), .val (.ref b33), .unset] [(.int (own_j0_184_S0_4 i0 i1 i2 i3 i4))]) := by
      intro TJ43 locsJ43 XJ43 eJ43 NJ43
      refine ownE.go (T' := TJ43) (f' := (mkF m 188 #[.val (.int i0), .val (.int i1), .val (.int i2), .val (.int i3), .val (.int i4), .val (.int (4 : Int32)), .val (.int (i1.toInt8.toInt32)), .val (.int (i2.toInt8.toInt32)), .val (.int (i3.toInt8.toInt32)), .val (.int (i4.toInt8.toInt32)), .val (.ref b33), .val (.int (own_j0_184_S0_4 i0 i1 i2 i3 i4))] [(.ref b33)])) (fun t kt => ?_) ?_
      · show Steps p.tables e below (TJ43.setTop (mkF m 184 #[.val (.int i0), .val (.int i1), .val (.int i2), .val (.int i3), .val (.int i4), .val (.int (4 : Int32)), .val (.int (i1.toInt8.toInt32)), .val (.int (i2.toInt8.toInt32)), .val (.int (i3.toInt8.toInt32)), .val (.int (i4.toInt8.toInt32)), .val (.ref b33), .unset] [(.int (own_j0_184_S0_4 i0 i1 i2 i3 i4))])) _
        refine XS.istore XJ43.here hx rfl (hb hby at_184) rfl (l' := #[.val (.int i0), .val (.int i1), .val (.int i2), .val (.int i3), .val (.int i4), .val (.int (4 : Int32)), .val (.int (i1.toInt8.toInt32)), .val (.int (i2.toInt8.toInt32)), .val (.int (i3.toInt8.toInt32)), .val (.int (i4.toInt8.toInt32)), .val (.ref b33), .val (.int (own_j0_184_S0_4 i0 i1 i2 i3 i4))]) rfl ?_
        show Steps p.tables e below (TJ43.setTop (mkF m 186 #[.val (.int i0), .val (.int i1), .val (.int i2), .val (.int i3), .val (.int i4), .val (.int (4 : Int32)), .val (.int (i1.toInt8.toInt32)), .val (.int (i2.toInt8.toInt32)), .val (.int (i3.toInt8.toInt32)), .val (.int (i4.toInt8.toInt32)), .val (.ref b33), .val (.int (own_j0_184_S0_4 i0 i1 i2 i3 i4))] [])) _
        refine XS.aload XJ43.here hx rfl (hb hby at_186) rfl rfl ?_
        exact kt
      obtain ⟨_, _, ⟨T44, L44, k44, n44⟩, -, X44, ⟨Lc44, hQ44, l44, y44, z44⟩, st44⟩ := Jvm.LawKit.callS XJ43 hx (y := (⟨"com/example/libvalise/libvalise/ZipFormat", "isAscii", "([B)Z"⟩ : MethodName)) hown (mvT hZ (hw _ (List.mem_of_getElem? (i := 2) rfl))) (mvT hZ (hw _ (List.mem_of_getElem? (i := 3) rfl))) (mvT hZ (hw _ (List.mem_of_getElem? (i := 4) rfl))) (mvT hZ (hw _ (List.mem_of_getElem? (i := 5) rfl))) (by decide) (backOf (W := 0) (own_rm1n4 l Z a0 hw [] b33 k33 ((i1.toInt8.toInt32).toInt8.toInt32) ((i2.toInt8.toInt32).toInt8.toInt32) ((i3.toInt8.toInt32).toInt8.toInt32) ((i4.toInt8.toInt32).toInt8.toInt32) h37 n0 (Nat.le_trans Z0 K37.1) V37) hZ (hw _ (List.mem_of_getElem? (i := 5) rfl)) (hw _ (List.mem_of_getElem? (i := 4) rfl)) (by decide) (by decide)) (g := (mkF m 188 #[.val (.int i0), .val (.int i1), .val (.int i2), .val (.int i3), .val (.int i4), .val (.int (4 : Int32)), .val (.int (i1.toInt8.toInt32)), .val (.int (i2.toInt8.toInt32)), .val (.int (i3.toInt8.toInt32)), .val (.int (i4.toInt8.toInt32)), .val (.ref b33), .val (.int (own_j0_184_S0_4 i0 i1 i2 i3 i4))] [(.ref b33)])) rfl (by rw [hml]; rfl) (argsL := [(.ref b33)]) (rest := []) (lenOf own_pd1 rfl) rfl (by show 2 * 0 + _ ≤ _; exact Nat.le_of_eq rfl) (hb hby at_188) (fun _ _ => ⟨rfl, eJ43, (by decide : 1 + 0 ≤ _), (by decide : 4 + 0 ≤ _)⟩)
      dsimp only [Pt.U, Pt.locs, Pt.cells, Pt.slots] at X44 l44 y44 z44 st44 hQ44
      subst l44 y44 z44
      obtain ⟨rfl, N44q, e44⟩ := hQ44
      have N44 := Fr.app NJ43 N44q
      refine ownE.go (T' := T44) (f' := (mkF m 191 #[.val (.int i0), .val (.int i1), .val (.int i2), .val (.int i3), .val (.int i4), .val (.int (4 : Int32)), .val (.int (i1.toInt8.toInt32)), .val (.int (i2.toInt8.toInt32)), .val (.int (i3.toInt8.toInt32)), .val (.int (i4.toInt8.toInt32)), .val (.ref b33), .val (.int (own_j0_184_S0_4 i0 i1 i2 i3 i4))] [(.int (own_asc4 ((i1.toInt8.toInt32).toInt8.toInt32) ((i2.toInt8.toInt32).toInt8.toInt32) ((i3.toInt8.toInt32).toInt8.toInt32) ((i4.toInt8.toInt32).toInt8.toInt32)))])) st44 ?_
      refine ownE.go (T' := T44) (f' := (mkF m 193 #[.val (.int i0), .val (.int i1), .val (.int i2), .val (.int i3), .val (.int i4), .val (.int (4 : Int32)), .val (.int (i1.toInt8.toInt32)), .val (.int (i2.toInt8.toInt32)), .val (.int (i3.toInt8.toInt32)), .val (.int (i4.toInt8.toInt32)), .val (.ref b33), .val (.int (own_j0_184_S0_4 i0 i1 i2 i3 i4))] [(.int (own_j0_184_S0_4 i0 i1 i2 i3 i4)), (.int (own_asc4 ((i1.toInt8.toInt32).toInt8.toInt32) ((i2.toInt8.toInt32).toInt8.toInt32) ((i3.toInt8.toInt32).toInt8.toInt32) ((i4.toInt8.toInt32).toInt8.toInt32)))])) (fun t kt => ?_) ?_
      · show Steps p.tables e below (T44.setTop (mkF m 191 #[.val (.int i0), .val (.int i1), .val (.int i2), .val (.int i3), .val (.int i4), .val (.int (4 : Int32)), .val (.int (i1.toInt8.toInt32)), .val (.int (i2.toInt8.toInt32)), .val (.int (i3.toInt8.toInt32)), .val (.int (i4.toInt8.toInt32)), .val (.ref b33), .val (.int (own_j0_184_S0_4 i0 i1 i2 i3 i4))] [(.int (own_asc4 ((i1.toInt8.toInt32).toInt8.toInt32) ((i2.toInt8.toInt32).toInt8.toInt32) ((i3.toInt8.toInt32).toInt8.toInt32) ((i4.toInt8.toInt32).toInt8.toInt32)))])) _
        refine XS.iload X44.here hx rfl (hb hby at_191) rfl ?_
        exact kt
      by_cases hc45 : (own_asc4 ((i1.toInt8.toInt32).toInt8.toInt32) ((i2.toInt8.toInt32).toInt8.toInt32) ((i3.toInt8.toInt32).toInt8.toInt32) ((i4.toInt8.toInt32).toInt8.toInt32)) = (own_j0_184_S0_4 i0 i1 i2 i3 i4)
      · -- pc 193
        refine ownE.go (T' := T44) (f' := (mkF m 196 #[.val (.int i0), .val (.int i1), .val (.int i2), .val (.int i3), .val (.int i4), .val (.int (4 : Int32)), .val (.int (i1.toInt8.toInt32)), .val (.int (i2.toInt8.toInt32)), .val (.int (i3.toInt8.toInt32)), .val (.int (i4.toInt8.toInt32)), .val (.ref b33), .val (.int (own_j0_184_S0_4 i0 i1 i2 i3 i4))] [])) (fun t kt => XS.icmpNo (g := (mkF m 193 #[.val (.int i0), .val (.int i1), .val (.int i2), .val (.int i3), .val (.int i4), .val (.int (4 : Int32)), .val (.int (i1.toInt8.toInt32)), .val (.int (i2.toInt8.toInt32)), .val (.int (i3.toInt8.toInt32)), .val (.int (i4.toInt8.toInt32)), .val (.ref b33), .val (.int (own_j0_184_S0_4 i0 i1 i2 i3 i4))] [(.int (own_j0_184_S0_4 i0 i1 i2 i3 i4)), (.int (own_asc4 ((i1.toInt8.toInt32).toInt8.toInt32) ((i2.toInt8.toInt32).toInt8.toInt32) ((i3.toInt8.toInt32).toInt8.toInt32) ((i4.toInt8.toInt32).toInt8.toInt32)))])) X44.here hx rfl (hb hby at_193) rfl (Jvm.Free.XT.ii_ne_f hc45) kt) ?_
        refine ownE.go (T' := T44) (f' := (mkF m 201 #[.val (.int i0), .val (.int i1), .val (.int i2), .val (.int i3), .val (.int i4), .val (.int (4 : Int32)), .val (.int (i1.toInt8.toInt32)), .val (.int (i2.toInt8.toInt32)), .val (.int (i3.toInt8.toInt32)), .val (.int (i4.toInt8.toInt32)), .val (.ref b33), .val (.int (own_j0_184_S0_4 i0 i1 i2 i3 i4))] [(.int (1 : Int32))])) (fun t kt => ?_) ?_
        · show Steps p.tables e below (T44.setTop (mkF m 196 #[.val (.int i0), .val (.int i1), .val (.int i2), .val (.int i3), .val (.int i4), .val (.int (4 : Int32)), .val (.int (i1.toInt8.toInt32)), .val (.int (i2.toInt8.toInt32)), .val (.int (i3.toInt8.toInt32)), .val (.int (i4.toInt8.toInt32)), .val (.ref b33), .val (.int (own_j0_184_S0_4 i0 i1 i2 i3 i4))] [])) _
          refine XS.iconst X44.here hx rfl (hb hby at_196) ?_
          show Steps p.tables e below (T44.setTop (mkF m 197 #[.val (.int i0), .val (.int i1), .val (.int i2), .val (.int i3), .val (.int i4), .val (.int (4 : Int32)), .val (.int (i1.toInt8.toInt32)), .val (.int (i2.toInt8.toInt32)), .val (.int (i3.toInt8.toInt32)), .val (.int (i4.toInt8.toInt32)), .val (.ref b33), .val (.int (own_j0_184_S0_4 i0 i1 i2 i3 i4))] [(.int (1 : Int32))])) _
          refine XS.goto X44.here hx rfl (pc0 := 197) (pc' := 201) rfl (hb hby at_197) (by decide) (by decide) ?_
          exact kt
        refine ownE.retN X44 hx hlk (t := .boolean) hret (by simp) (hb hby at_201) ?_ (by decide) (by decide)
        show own_Q0 Z i0 i1 i2 i3 i4 h0 n0 _ T44.heap _
        rw [e44]
        exact ⟨(by rw [own_f0, if_neg hk1_0, if_neg hk1_1, if_neg hk1_2, if_neg hk1_3, if_pos hc45] <;> first | rfl | decide), N44, K37⟩
      · -- pc 193
        refine ownE.go (T' := T44) (f' := (mkF m 200 #[.val (.int i0), .val (.int i1), .val (.int i2), .val (.int i3), .val (.int i4), .val (.int (4 : Int32)), .val (.int (i1.toInt8.toInt32)), .val (.int (i2.toInt8.toInt32)), .val (.int (i3.toInt8.toInt32)), .val (.int (i4.toInt8.toInt32)), .val (.ref b33), .val (.int (own_j0_184_S0_4 i0 i1 i2 i3 i4))] [])) (fun t kt => XS.icmpYes (g := (mkF m 193 #[.val (.int i0), .val (.int i1), .val (.int i2), .val (.int i3), .val (.int i4), .val (.int (4 : Int32)), .val (.int (i1.toInt8.toInt32)), .val (.int (i2.toInt8.toInt32)), .val (.int (i3.toInt8.toInt32)), .val (.int (i4.toInt8.toInt32)), .val (.ref b33), .val (.int (own_j0_184_S0_4 i0 i1 i2 i3 i4))] [(.int (own_j0_184_S0_4 i0 i1 i2 i3 i4)), (.int (own_asc4 ((i1.toInt8.toInt32).toInt8.toInt32) ((i2.toInt8.toInt32).toInt8.toInt32) ((i3.toInt8.toInt32).toInt8.toInt32) ((i4.toInt8.toInt32).toInt8.toInt32)))])) X44.here hx rfl (pc0 := 193) (pc' := 200) rfl (hb hby at_193) rfl (Jvm.Free.XT.ii_ne_t hc45) (by decide) (by decide) kt) ?_
        refine ownE.go (T' := T44) (f' := (mkF m 201 #[.val (.int i0), .val (.int i1), .val (.int i2), .val (.int i3), .val (.int i4), .val (.int (4 : Int32)), .val (.int (i1.toInt8.toInt32)), .val (.int (i2.toInt8.toInt32)), .val (.int (i3.toInt8.toInt32)), .val (.int (i4.toInt8.toInt32)), .val (.ref b33), .val (.int (own_j0_184_S0_4 i0 i1 i2 i3 i4))] [(.int (0 : Int32))])) (fun t kt => ?_) ?_
        · show Steps p.tables e below (T44.setTop (mkF m 200 #[.val (.int i0), .val (.int i1), .val (.int i2), .val (.int i3), .val (.int i4), .val (.int (4 : Int32)), .val (.int (i1.toInt8.toInt32)), .val (.int (i2.toInt8.toInt32)), .val (.int (i3.toInt8.toInt32)), .val (.int (i4.toInt8.toInt32)), .val (.ref b33), .val (.int (own_j0_184_S0_4 i0 i1 i2 i3 i4))] [])) _
          refine XS.iconst X44.here hx rfl (hb hby at_200) ?_
          exact kt
        refine ownE.retN X44 hx hlk (t := .boolean) hret (by simp) (hb hby at_201) ?_ (by decide) (by decide)
        show own_Q0 Z i0 i1 i2 i3 i4 h0 n0 _ T44.heap _
        rw [e44]
        exact ⟨(by rw [own_f0, if_neg hk1_0, if_neg hk1_1, if_neg hk1_2, if_neg hk1_3, if_neg hc45] <;> first | rfl | decide), N44, K37⟩
    refine ownE.go (T' := T37) (f' := (mkF m 138 #[.val (.int i0), .val (.int i1), .val (.int i2), .val (.int i3), .val (.int i4), .val (.int (4 : Int32)), .val (.int (i1.toInt8.toInt32)), .val (.int (i2.toInt8.toInt32)), .val (.int (i3.toInt8.toInt32)), .val (.int (i4.toInt8.toInt32)), .val (.ref b33), .unset] [(.int (1 : Int32)), (.int (4 : Int32))])) (fun t kt => ?_) ?_
    · show Steps p.tables e below (T37.setTop (mkF m 135 #[.val (.int i0), .val (.int i1), .val (.int i2), .val (.int i3), .val (.int i4), .val (.int (4 : Int32)), .val (.int (i1.toInt8.toInt32)), .val (.int (i2.toInt8.toInt32)), .val (.int (i3.toInt8.toInt32)), .val (.int (i4.toInt8.toInt32)), .val (.ref b33), .unset] [])) _
      refine XS.iload X37.here hx rfl (hb hby at_135) rfl ?_
      show Steps p.tables e below (T37.setTop (mkF m 137 #[.val (.int i0), .val (.int i1), .val (.int i2), .val (.int i3), .val (.int i4), .val (.int (4 : Int32)), .val (.int (i1.toInt8.toInt32)), .val (.int (i2.toInt8.toInt32)), .val (.int (i3.toInt8.toInt32)), .val (.int (i4.toInt8.toInt32)), .val (.ref b33), .unset] [(.int (4 : Int32))])) _
      refine XS.iconst X37.here hx rfl (hb hby at_137) ?_
      exact kt
    refine ownE.go (T' := T37) (f' := (mkF m 141 #[.val (.int i0), .val (.int i1), .val (.int i2), .val (.int i3), .val (.int i4), .val (.int (4 : Int32)), .val (.int (i1.toInt8.toInt32)), .val (.int (i2.toInt8.toInt32)), .val (.int (i3.toInt8.toInt32)), .val (.int (i4.toInt8.toInt32)), .val (.ref b33), .unset] [])) (fun t kt => XS.icmpNo (g := (mkF m 138 #[.val (.int i0), .val (.int i1), .val (.int i2), .val (.int i3), .val (.int i4), .val (.int (4 : Int32)), .val (.int (i1.toInt8.toInt32)), .val (.int (i2.toInt8.toInt32)), .val (.int (i3.toInt8.toInt32)), .val (.int (i4.toInt8.toInt32)), .val (.ref b33), .unset] [(.int (1 : Int32)), (.int (4 : Int32))])) X37.here hx rfl (hb hby at_138) rfl (Jvm.Free.XT.ii_lt_f (by decide)) kt) ?_
    refine ownE.go (T' := T37) (f' := (mkF m 143 #[.val (.int i0), .val (.int i1), .val (.int i2), .val (.int i3), .val (.int i4), .val (.int (4 : Int32)), .val (.int (i1.toInt8.toInt32)), .val (.int (i2.toInt8.toInt32)), .val (.int (i3.toInt8.toInt32)), .val (.int (i4.toInt8.toInt32)), .val (.ref b33), .unset] [(.int (i1.toInt8.toInt32))])) (fun t kt => ?_) ?_
    · show Steps p.tables e below (T37.setTop (mkF m 141 #[.val (.int i0), .val (.int i1), .val (.int i2), .val (.int i3), .val (.int i4), .val (.int (4 : Int32)), .val (.int (i1.toInt8.toInt32)), .val (.int (i2.toInt8.toInt32)), .val (.int (i3.toInt8.toInt32)), .val (.int (i4.toInt8.toInt32)), .val (.ref b33), .unset] [])) _
      refine XS.iload X37.here hx rfl (hb hby at_141) rfl ?_
      exact kt
    by_cases hc39 : (i1.toInt8.toInt32) < (0 : Int32)
    · -- pc 143
      refine ownE.go (T' := T37) (f' := (mkF m 183 #[.val (.int i0), .val (.int i1), .val (.int i2), .val (.int i3), .val (.int i4), .val (.int (4 : Int32)), .val (.int (i1.toInt8.toInt32)), .val (.int (i2.toInt8.toInt32)), .val (.int (i3.toInt8.toInt32)), .val (.int (i4.toInt8.toInt32)), .val (.ref b33), .unset] [])) (fun t kt => XS.ifYes (g := (mkF m 143 #[.val (.int i0), .val (.int i1), .val (.int i2), .val (.int i3), .val (.int i4), .val (.int (4 : Int32)), .val (.int (i1.toInt8.toInt32)), .val (.int (i2.toInt8.toInt32)), .val (.int (i3.toInt8.toInt32)), .val (.int (i4.toInt8.toInt32)), .val (.ref b33), .unset] [(.int (i1.toInt8.toInt32))])) X37.here hx rfl (pc0 := 143) (pc' := 183) rfl (hb hby at_143) rfl (Jvm.Free.XT.i0_lt_t hc39) (by decide) (by decide) kt) ?_
      refine ownE.go (T' := T37) (f' := (mkF m 184 #[.val (.int i0), .val (.int i1), .val (.int i2), .val (.int i3), .val (.int i4), .val (.int (4 : Int32)), .val (.int (i1.toInt8.toInt32)), .val (.int (i2.toInt8.toInt32)), .val (.int (i3.toInt8.toInt32)), .val (.int (i4.toInt8.toInt32)), .val (.ref b33), .unset] [(.int (0 : Int32))])) (fun t kt => ?_) ?_
      · show Steps p.tables e below (T37.setTop (mkF m 183 #[.val (.int i0), .val (.int i1), .val (.int i2), .val (.int i3), .val (.int i4), .val (.int (4 : Int32)), .val (.int (i1.toInt8.toInt32)), .val (.int (i2.toInt8.toInt32)), .val (.int (i3.toInt8.toInt32)), .val (.int (i4.toInt8.toInt32)), .val (.ref b33), .unset] [])) _
        refine XS.iconst X37.here hx rfl (hb hby at_183) ?_
        exact kt
      have jj := J43 _ _ X37 e37 N37
      rw [show (own_j0_184_S0_4 i0 i1 i2 i3 i4) = (0 : Int32) from by rw [own_j0_184_S0_4, if_pos hc39]] at jj
      exact jj
    · -- pc 143
      refine ownE.go (T' := T37) (f' := (mkF m 146 #[.val (.int i0), .val (.int i1), .val (.int i2), .val (.int i3), .val (.int i4), .val (.int (4 : Int32)), .val (.int (i1.toInt8.toInt32)), .val (.int (i2.toInt8.toInt32)), .val (.int (i3.toInt8.toInt32)), .val (.int (i4.toInt8.toInt32)), .val (.ref b33), .unset] [])) (fun t kt => XS.ifNo (g := (mkF m 143 #[.val (.int i0), .val (.int i1), .val (.int i2), .val (.int i3), .val (.int i4), .val (.int (4 : Int32)), .val (.int (i1.toInt8.toInt32)), .val (.int (i2.toInt8.toInt32)), .val (.int (i3.toInt8.toInt32)), .val (.int (i4.toInt8.toInt32)), .val (.ref b33), .unset] [(.int (i1.toInt8.toInt32))])) X37.here hx rfl (hb hby at_143) rfl (Jvm.Free.XT.i0_lt_f hc39) kt) ?_
      refine ownE.go (T' := T37) (f' := (mkF m 149 #[.val (.int i0), .val (.int i1), .val (.int i2), .val (.int i3), .val (.int i4), .val (.int (4 : Int32)), .val (.int (i1.toInt8.toInt32)), .val (.int (i2.toInt8.toInt32)), .val (.int (i3.toInt8.toInt32)), .val (.int (i4.toInt8.toInt32)), .val (.ref b33), .unset] [(.int (2 : Int32)), (.int (4 : Int32))])) (fun t kt => ?_) ?_
      · show Steps p.tables e below (T37.setTop (mkF m 146 #[.val (.int i0), .val (.int i1), .val (.int i2), .val (.int i3), .val (.int i4), .val (.int (4 : Int32)), .val (.int (i1.toInt8.toInt32)), .val (.int (i2.toInt8.toInt32)), .val (.int (i3.toInt8.toInt32)), .val (.int (i4.toInt8.toInt32)), .val (.ref b33), .unset] [])) _
        refine XS.iload X37.here hx rfl (hb hby at_146) rfl ?_
        show Steps p.tables e below (T37.setTop (mkF m 148 #[.val (.int i0), .val (.int i1), .val (.int i2), .val (.int i3), .val (.int i4), .val (.int (4 : Int32)), .val (.int (i1.toInt8.toInt32)), .val (.int (i2.toInt8.toInt32)), .val (.int (i3.toInt8.toInt32)), .val (.int (i4.toInt8.toInt32)), .val (.ref b33), .unset] [(.int (4 : Int32))])) _
        refine XS.iconst X37.here hx rfl (hb hby at_148) ?_
        exact kt
      refine ownE.go (T' := T37) (f' := (mkF m 152 #[.val (.int i0), .val (.int i1), .val (.int i2), .val (.int i3), .val (.int i4), .val (.int (4 : Int32)), .val (.int (i1.toInt8.toInt32)), .val (.int (i2.toInt8.toInt32)), .val (.int (i3.toInt8.toInt32)), .val (.int (i4.toInt8.toInt32)), .val (.ref b33), .unset] [])) (fun t kt => XS.icmpNo (g := (mkF m 149 #[.val (.int i0), .val (.int i1), .val (.int i2), .val (.int i3), .val (.int i4), .val (.int (4 : Int32)), .val (.int (i1.toInt8.toInt32)), .val (.int (i2.toInt8.toInt32)), .val (.int (i3.toInt8.toInt32)), .val (.int (i4.toInt8.toInt32)), .val (.ref b33), .unset] [(.int (2 : Int32)), (.int (4 : Int32))])) X37.here hx rfl (hb hby at_149) rfl (Jvm.Free.XT.ii_lt_f (by decide)) kt) ?_
      refine ownE.go (T' := T37) (f' := (mkF m 154 #[.val (.int i0), .val (.int i1), .val (.int i2), .val (.int i3), .val (.int i4), .val (.int (4 : Int32)), .val (.int (i1.toInt8.toInt32)), .val (.int (i2.toInt8.toInt32)), .val (.int (i3.toInt8.toInt32)), .val (.int (i4.toInt8.toInt32)), .val (.ref b33), .unset] [(.int (i2.toInt8.toInt32))])) (fun t kt => ?_) ?_
      · show Steps p.tables e below (T37.setTop (mkF m 152 #[.val (.int i0), .val (.int i1), .val (.int i2), .val (.int i3), .val (.int i4), .val (.int (4 : Int32)), .val (.int (i1.toInt8.toInt32)), .val (.int (i2.toInt8.toInt32)), .val (.int (i3.toInt8.toInt32)), .val (.int (i4.toInt8.toInt32)), .val (.ref b33), .unset] [])) _
        refine XS.iload X37.here hx rfl (hb hby at_152) rfl ?_
        exact kt
      by_cases hc40 : (i2.toInt8.toInt32) < (0 : Int32)
      · -- pc 154
        refine ownE.go (T' := T37) (f' := (mkF m 183 #[.val (.int i0), .val (.int i1), .val (.int i2), .val (.int i3), .val (.int i4), .val (.int (4 : Int32)), .val (.int (i1.toInt8.toInt32)), .val (.int (i2.toInt8.toInt32)), .val (.int (i3.toInt8.toInt32)), .val (.int (i4.toInt8.toInt32)), .val (.ref b33), .unset] [])) (fun t kt => XS.ifYes (g := (mkF m 154 #[.val (.int i0), .val (.int i1), .val (.int i2), .val (.int i3), .val (.int i4), .val (.int (4 : Int32)), .val (.int (i1.toInt8.toInt32)), .val (.int (i2.toInt8.toInt32)), .val (.int (i3.toInt8.toInt32)), .val (.int (i4.toInt8.toInt32)), .val (.ref b33), .unset] [(.int (i2.toInt8.toInt32))])) X37.here hx rfl (pc0 := 154) (pc' := 183) rfl (hb hby at_154) rfl (Jvm.Free.XT.i0_lt_t hc40) (by decide) (by decide) kt) ?_
        refine ownE.go (T' := T37) (f' := (mkF m 184 #[.val (.int i0), .val (.int i1), .val (.int i2), .val (.int i3), .val (.int i4), .val (.int (4 : Int32)), .val (.int (i1.toInt8.toInt32)), .val (.int (i2.toInt8.toInt32)), .val (.int (i3.toInt8.toInt32)), .val (.int (i4.toInt8.toInt32)), .val (.ref b33), .unset] [(.int (0 : Int32))])) (fun t kt => ?_) ?_
        · show Steps p.tables e below (T37.setTop (mkF m 183 #[.val (.int i0), .val (.int i1), .val (.int i2), .val (.int i3), .val (.int i4), .val (.int (4 : Int32)), .val (.int (i1.toInt8.toInt32)), .val (.int (i2.toInt8.toInt32)), .val (.int (i3.toInt8.toInt32)), .val (.int (i4.toInt8.toInt32)), .val (.ref b33), .unset] [])) _
          refine XS.iconst X37.here hx rfl (hb hby at_183) ?_
          exact kt
        have jj := J43 _ _ X37 e37 N37
        rw [show (own_j0_184_S0_4 i0 i1 i2 i3 i4) = (0 : Int32) from by rw [own_j0_184_S0_4, if_neg hc39, if_pos hc40]] at jj
        exact jj
      · -- pc 154
        refine ownE.go (T' := T37) (f' := (mkF m 157 #[.val (.int i0), .val (.int i1), .val (.int i2), .val (.int i3), .val (.int i4), .val (.int (4 : Int32)), .val (.int (i1.toInt8.toInt32)), .val (.int (i2.toInt8.toInt32)), .val (.int (i3.toInt8.toInt32)), .val (.int (i4.toInt8.toInt32)), .val (.ref b33), .unset] [])) (fun t kt => XS.ifNo (g := (mkF m 154 #[.val (.int i0), .val (.int i1), .val (.int i2), .val (.int i3), .val (.int i4), .val (.int (4 : Int32)), .val (.int (i1.toInt8.toInt32)), .val (.int (i2.toInt8.toInt32)), .val (.int (i3.toInt8.toInt32)), .val (.int (i4.toInt8.toInt32)), .val (.ref b33), .unset] [(.int (i2.toInt8.toInt32))])) X37.here hx rfl (hb hby at_154) rfl (Jvm.Free.XT.i0_lt_f hc40) kt) ?_
        refine ownE.go (T' := T37) (f' := (mkF m 160 #[.val (.int i0), .val (.int i1), .val (.int i2), .val (.int i3), .val (.int i4), .val (.int (4 : Int32)), .val (.int (i1.toInt8.toInt32)), .val (.int (i2.toInt8.toInt32)), .val (.int (i3.toInt8.toInt32)), .val (.int (i4.toInt8.toInt32)), .val (.ref b33), .unset] [(.int (3 : Int32)), (.int (4 : Int32))])) (fun t kt => ?_) ?_
        · show Steps p.tables e below (T37.setTop (mkF m 157 #[.val (.int i0), .val (.int i1), .val (.int i2), .val (.int i3), .val (.int i4), .val (.int (4 : Int32)), .val (.int (i1.toInt8.toInt32)), .val (.int (i2.toInt8.toInt32)), .val (.int (i3.toInt8.toInt32)), .val (.int (i4.toInt8.toInt32)), .val (.ref b33), .unset] [])) _
          refine XS.iload X37.here hx rfl (hb hby at_157) rfl ?_
          show Steps p.tables e below (T37.setTop (mkF m 159 #[.val (.int i0), .val (.int i1), .val (.int i2), .val (.int i3), .val (.int i4), .val (.int (4 : Int32)), .val (.int (i1.toInt8.toInt32)), .val (.int (i2.toInt8.toInt32)), .val (.int (i3.toInt8.toInt32)), .val (.int (i4.toInt8.toInt32)), .val (.ref b33), .unset] [(.int (4 : Int32))])) _
          refine XS.iconst X37.here hx rfl (hb hby at_159) ?_
          exact kt
        refine ownE.go (T' := T37) (f' := (mkF m 163 #[.val (.int i0), .val (.int i1), .val (.int i2), .val (.int i3), .val (.int i4), .val (.int (4 : Int32)), .val (.int (i1.toInt8.toInt32)), .val (.int (i2.toInt8.toInt32)), .val (.int (i3.toInt8.toInt32)), .val (.int (i4.toInt8.toInt32)), .val (.ref b33), .unset] [])) (fun t kt => XS.icmpNo (g := (mkF m 160 #[.val (.int i0), .val (.int i1), .val (.int i2), .val (.int i3), .val (.int i4), .val (.int (4 : Int32)), .val (.int (i1.toInt8.toInt32)), .val (.int (i2.toInt8.toInt32)), .val (.int (i3.toInt8.toInt32)), .val (.int (i4.toInt8.toInt32)), .val (.ref b33), .unset] [(.int (3 : Int32)), (.int (4 : Int32))])) X37.here hx rfl (hb hby at_160) rfl (Jvm.Free.XT.ii_lt_f (by decide)) kt) ?_
        refine ownE.go (T' := T37) (f' := (mkF m 165 #[.val (.int i0), .val (.int i1), .val (.int i2), .val (.int i3), .val (.int i4), .val (.int (4 : Int32)), .val (.int (i1.toInt8.toInt32)), .val (.int (i2.toInt8.toInt32)), .val (.int (i3.toInt8.toInt32)), .val (.int (i4.toInt8.toInt32)), .val (.ref b33), .unset] [(.int (i3.toInt8.toInt32))])) (fun t kt => ?_) ?_
        · show Steps p.tables e below (T37.setTop (mkF m 163 #[.val (.int i0), .val (.int i1), .val (.int i2), .val (.int i3), .val (.int i4), .val (.int (4 : Int32)), .val (.int (i1.toInt8.toInt32)), .val (.int (i2.toInt8.toInt32)), .val (.int (i3.toInt8.toInt32)), .val (.int (i4.toInt8.toInt32)), .val (.ref b33), .unset] [])) _
          refine XS.iload X37.here hx rfl (hb hby at_163) rfl ?_
          exact kt
        by_cases hc41 : (i3.toInt8.toInt32) < (0 : Int32)
        · -- pc 165
          refine ownE.go (T' := T37) (f' := (mkF m 183 #[.val (.int i0), .val (.int i1), .val (.int i2), .val (.int i3), .val (.int i4), .val (.int (4 : Int32)), .val (.int (i1.toInt8.toInt32)), .val (.int (i2.toInt8.toInt32)), .val (.int (i3.toInt8.toInt32)), .val (.int (i4.toInt8.toInt32)), .val (.ref b33), .unset] [])) (fun t kt => XS.ifYes (g := (mkF m 165 #[.val (.int i0), .val (.int i1), .val (.int i2), .val (.int i3), .val (.int i4), .val (.int (4 : Int32)), .val (.int (i1.toInt8.toInt32)), .val (.int (i2.toInt8.toInt32)), .val (.int (i3.toInt8.toInt32)), .val (.int (i4.toInt8.toInt32)), .val (.ref b33), .unset] [(.int (i3.toInt8.toInt32))])) X37.here hx rfl (pc0 := 165) (pc' := 183) rfl (hb hby at_165) rfl (Jvm.Free.XT.i0_lt_t hc41) (by decide) (by decide) kt) ?_
          refine ownE.go (T' := T37) (f' := (mkF m 184 #[.val (.int i0), .val (.int i1), .val (.int i2), .val (.int i3), .val (.int i4), .val (.int (4 : Int32)), .val (.int (i1.toInt8.toInt32)), .val (.int (i2.toInt8.toInt32)), .val (.int (i3.toInt8.toInt32)), .val (.int (i4.toInt8.toInt32)), .val (.ref b33), .unset] [(.int (0 : Int32))])) (fun t kt => ?_) ?_
          · show Steps p.tables e below (T37.setTop (mkF m 183 #[.val (.int i0), .val (.int i1), .val (.int i2), .val (.int i3), .val (.int i4), .val (.int (4 : Int32)), .val (.int (i1.toInt8.toInt32)), .val (.int (i2.toInt8.toInt32)), .val (.int (i3.toInt8.toInt32)), .val (.int (i4.toInt8.toInt32)), .val (.ref b33), .unset] [])) _
            refine XS.iconst X37.here hx rfl (hb hby at_183) ?_
            exact kt
          have jj := J43 _ _ X37 e37 N37
          rw [show (own_j0_184_S0_4 i0 i1 i2 i3 i4) = (0 : Int32) from by rw [own_j0_184_S0_4, if_neg hc39, if_neg hc40, if_pos hc41]] at jj
          exact jj
        · -- pc 165
          refine ownE.go (T' := T37) (f' := (mkF m 168 #[.val (.int i0), .val (.int i1), .val (.int i2), .val (.int i3), .val (.int i4), .val (.int (4 : Int32)), .val (.int (i1.toInt8.toInt32)), .val (.int (i2.toInt8.toInt32)), .val (.int (i3.toInt8.toInt32)), .val (.int (i4.toInt8.toInt32)), .val (.ref b33), .unset] [])) (fun t kt => XS.ifNo (g := (mkF m 165 #[.val (.int i0), .val (.int i1), .val (.int i2), .val (.int i3), .val (.int i4), .val (.int (4 : Int32)), .val (.int (i1.toInt8.toInt32)), .val (.int (i2.toInt8.toInt32)), .val (.int (i3.toInt8.toInt32)), .val (.int (i4.toInt8.toInt32)), .val (.ref b33), .unset] [(.int (i3.toInt8.toInt32))])) X37.here hx rfl (hb hby at_165) rfl (Jvm.Free.XT.i0_lt_f hc41) kt) ?_
          refine ownE.go (T' := T37) (f' := (mkF m 171 #[.val (.int i0), .val (.int i1), .val (.int i2), .val (.int i3), .val (.int i4), .val (.int (4 : Int32)), .val (.int (i1.toInt8.toInt32)), .val (.int (i2.toInt8.toInt32)), .val (.int (i3.toInt8.toInt32)), .val (.int (i4.toInt8.toInt32)), .val (.ref b33), .unset] [(.int (4 : Int32)), (.int (4 : Int32))])) (fun t kt => ?_) ?_
          · show Steps p.tables e below (T37.setTop (mkF m 168 #[.val (.int i0), .val (.int i1), .val (.int i2), .val (.int i3), .val (.int i4), .val (.int (4 : Int32)), .val (.int (i1.toInt8.toInt32)), .val (.int (i2.toInt8.toInt32)), .val (.int (i3.toInt8.toInt32)), .val (.int (i4.toInt8.toInt32)), .val (.ref b33), .unset] [])) _
            refine XS.iload X37.here hx rfl (hb hby at_168) rfl ?_
            show Steps p.tables e below (T37.setTop (mkF m 170 #[.val (.int i0), .val (.int i1), .val (.int i2), .val (.int i3), .val (.int i4), .val (.int (4 : Int32)), .val (.int (i1.toInt8.toInt32)), .val (.int (i2.toInt8.toInt32)), .val (.int (i3.toInt8.toInt32)), .val (.int (i4.toInt8.toInt32)), .val (.ref b33), .unset] [(.int (4 : Int32))])) _
            refine XS.iconst X37.here hx rfl (hb hby at_170) ?_
            exact kt
          refine ownE.go (T' := T37) (f' := (mkF m 174 #[.val (.int i0), .val (.int i1), .val (.int i2), .val (.int i3), .val (.int i4), .val (.int (4 : Int32)), .val (.int (i1.toInt8.toInt32)), .val (.int (i2.toInt8.toInt32)), .val (.int (i3.toInt8.toInt32)), .val (.int (i4.toInt8.toInt32)), .val (.ref b33), .unset] [])) (fun t kt => XS.icmpNo (g := (mkF m 171 #[.val (.int i0), .val (.int i1), .val (.int i2), .val (.int i3), .val (.int i4), .val (.int (4 : Int32)), .val (.int (i1.toInt8.toInt32)), .val (.int (i2.toInt8.toInt32)), .val (.int (i3.toInt8.toInt32)), .val (.int (i4.toInt8.toInt32)), .val (.ref b33), .unset] [(.int (4 : Int32)), (.int (4 : Int32))])) X37.here hx rfl (hb hby at_171) rfl (Jvm.Free.XT.ii_lt_f (by decide)) kt) ?_
          refine ownE.go (T' := T37) (f' := (mkF m 176 #[.val (.int i0), .val (.int i1), .val (.int i2), .val (.int i3), .val (.int i4), .val (.int (4 : Int32)), .val (.int (i1.toInt8.toInt32)), .val (.int (i2.toInt8.toInt32)), .val (.int (i3.toInt8.toInt32)), .val (.int (i4.toInt8.toInt32)), .val (.ref b33), .unset] [(.int (i4.toInt8.toInt32))])) (fun t kt => ?_) ?_
          · show Steps p.tables e below (T37.setTop (mkF m 174 #[.val (.int i0), .val (.int i1), .val (.int i2), .val (.int i3), .val (.int i4), .val (.int (4 : Int32)), .val (.int (i1.toInt8.toInt32)), .val (.int (i2.toInt8.toInt32)), .val (.int (i3.toInt8.toInt32)), .val (.int (i4.toInt8.toInt32)), .val (.ref b33), .unset] [])) _
            refine XS.iload X37.here hx rfl (hb hby at_174) rfl ?_
            exact kt
          by_cases hc42 : (i4.toInt8.toInt32) < (0 : Int32)
          · -- pc 176
            refine ownE.go (T' := T37) (f' := (mkF m 183 #[.val (.int i0), .val (.int i1), .val (.int i2), .val (.int i3), .val (.int i4), .val (.int (4 : Int32)), .val (.int (i1.toInt8.toInt32)), .val (.int (i2.toInt8.toInt32)), .val (.int (i3.toInt8.toInt32)), .val (.int (i4.toInt8.toInt32)), .val (.ref b33), .unset] [])) (fun t kt => XS.ifYes (g := (mkF m 176 #[.val (.int i0), .val (.int i1), .val (.int i2), .val (.int i3), .val (.int i4), .val (.int (4 : Int32)), .val (.int (i1.toInt8.toInt32)), .val (.int (i2.toInt8.toInt32)), .val (.int (i3.toInt8.toInt32)), .val (.int (i4.toInt8.toInt32)), .val (.ref b33), .unset] [(.int (i4.toInt8.toInt32))])) X37.here hx rfl (pc0 := 176) (pc' := 183) rfl (hb hby at_176) rfl (Jvm.Free.XT.i0_lt_t hc42) (by decide) (by decide) kt) ?_
            refine ownE.go (T' := T37) (f' := (mkF m 184 #[.val (.int i0), .val (.int i1), .val (.int i2), .val (.int i3), .val (.int i4), .val (.int (4 : Int32)), .val (.int (i1.toInt8.toInt32)), .val (.int (i2.toInt8.toInt32)), .val (.int (i3.toInt8.toInt32)), .val (.int (i4.toInt8.toInt32)), .val (.ref b33), .unset] [(.int (0 : Int32))])) (fun t kt => ?_) ?_
            · show Steps p.tables e below (T37.setTop (mkF m 183 #[.val (.int i0), .val (.int i1), .val (.int i2), .val (.int i3), .val (.int i4), .val (.int (4 : Int32)), .val (.int (i1.toInt8.toInt32)), .val (.int (i2.toInt8.toInt32)), .val (.int (i3.toInt8.toInt32)), .val (.int (i4.toInt8.toInt32)), .val (.ref b33), .unset] [])) _
              refine XS.iconst X37.here hx rfl (hb hby at_183) ?_
              exact kt
            have jj := J43 _ _ X37 e37 N37
            rw [show (own_j0_184_S0_4 i0 i1 i2 i3 i4) = (0 : Int32) from by rw [own_j0_184_S0_4, if_neg hc39, if_neg hc40, if_neg hc41, if_pos hc42]] at jj
            exact jj
          · -- pc 176
            refine ownE.go (T' := T37) (f' := (mkF m 179 #[.val (.int i0), .val (.int i1), .val (.int i2), .val (.int i3), .val (.int i4), .val (.int (4 : Int32)), .val (.int (i1.toInt8.toInt32)), .val (.int (i2.toInt8.toInt32)), .val (.int (i3.toInt8.toInt32)), .val (.int (i4.toInt8.toInt32)), .val (.ref b33), .unset] [])) (fun t kt => XS.ifNo (g := (mkF m 176 #[.val (.int i0), .val (.int i1), .val (.int i2), .val (.int i3), .val (.int i4), .val (.int (4 : Int32)), .val (.int (i1.toInt8.toInt32)), .val (.int (i2.toInt8.toInt32)), .val (.int (i3.toInt8.toInt32)), .val (.int (i4.toInt8.toInt32)), .val (.ref b33), .unset] [(.int (i4.toInt8.toInt32))])) X37.here hx rfl (hb hby at_176) rfl (Jvm.Free.XT.i0_lt_f hc42) kt) ?_
            refine ownE.go (T' := T37) (f' := (mkF m 184 #[.val (.int i0), .val (.int i1), .val (.int i2), .val (.int i3), .val (.int i4), .val (.int (4 : Int32)), .val (.int (i1.toInt8.toInt32)), .val (.int (i2.toInt8.toInt32)), .val (.int (i3.toInt8.toInt32)), .val (.int (i4.toInt8.toInt32)), .val (.ref b33), .unset] [(.int (1 : Int32))])) (fun t kt => ?_) ?_
            · show Steps p.tables e below (T37.setTop (mkF m 179 #[.val (.int i0), .val (.int i1), .val (.int i2), .val (.int i3), .val (.int i4), .val (.int (4 : Int32)), .val (.int (i1.toInt8.toInt32)), .val (.int (i2.toInt8.toInt32)), .val (.int (i3.toInt8.toInt32)), .val (.int (i4.toInt8.toInt32)), .val (.ref b33), .unset] [])) _
              refine XS.iconst X37.here hx rfl (hb hby at_179) ?_
              show Steps p.tables e below (T37.setTop (mkF m 180 #[.val (.int i0), .val (.int i1), .val (.int i2), .val (.int i3), .val (.int i4), .val (.int (4 : Int32)), .val (.int (i1.toInt8.toInt32)), .val (.int (i2.toInt8.toInt32)), .val (.int (i3.toInt8.toInt32)), .val (.int (i4.toInt8.toInt32)), .val (.ref b33), .unset] [(.int (1 : Int32))])) _
              refine XS.goto X37.here hx rfl (pc0 := 180) (pc' := 184) rfl (hb hby at_180) (by decide) (by decide) ?_
              exact kt
            have jj := J43 _ _ X37 e37 N37
            rw [show (own_j0_184_S0_4 i0 i1 i2 i3 i4) = (1 : Int32) from by rw [own_j0_184_S0_4, if_neg hc39, if_neg hc40, if_neg hc41, if_neg hc42]] at jj
            exact jj
theorem own_bb (x : Int32) : x.toInt8.toInt32.toInt8.toInt32 = x.toInt8.toInt32 := by
  rw [Int8.toInt8_toInt32]
theorem own_law (a b c d e : Int32) : own_f0 a b c d e = 1 := by
  unfold own_f0
  simp only [own_bb]
  have e1 : own_asc0 = (1 : Int32) := rfl
  have e2 : own_asc1 (b.toInt8.toInt32) = own_j0_184_S0 a b c d e := rfl
  have e3 : own_asc2 (b.toInt8.toInt32) (c.toInt8.toInt32) = own_j0_184_S0_2 a b c d e := rfl
  have e4 : own_asc3 (b.toInt8.toInt32) (c.toInt8.toInt32) (d.toInt8.toInt32) = own_j0_184_S0_3 a b c d e := rfl
  have e5 : own_asc4 (b.toInt8.toInt32) (c.toInt8.toInt32) (d.toInt8.toInt32) (e.toInt8.toInt32) = own_j0_184_S0_4 a b c d e := rfl
  rw [if_pos e2, if_pos e3, if_pos e4, if_pos e5]
  simp

set_option maxRecDepth 65536 in
set_option maxHeartbeats 40000000 in
theorem comes_1 {Post : Tables → Env → Array Value → State → Outcome → State → Prop} (hpost : ∀ tb e args s v u, (limb_1_1.after args s (.returned v) u = true ∧ limb_1_2.after args s (.returned v) u = true ∧ True) → FrameEnd s (.returned v) u (Jvm.fieldLocs frame_1_writes args s ++ Jvm.arrayLocs frame_1_arrays args s ++ Jvm.staticLocs frame_1_statics s) 16 128 → Post tb e args s (.returned v) u) :
    ArmFor flags0 classFile x code maxLocals ret World_1 tables_1 room_1 Calls_1 rest_1 Pre_1 Post := by
  intro l hfl _ _ p e ha hc hk s m args below hf hA hF happ hP
  obtain ⟨hcalls, hrest, hpre⟩ := hP
  obtain ⟨-, -, -, hnamed, -, -, -, hat⟩ := (Spec.applies_iff hf).mp happ
  obtain ⟨hg, hn⟩ := and_e (Cond.before_iff.mp (show (Jvm.Cond.and given_1 narrow_1).before args s = true from hpre))
  obtain ⟨g1, g2⟩ := and_e hg
  obtain ⟨g3, g4⟩ := and_e g2
  obtain ⟨g5, g6⟩ := and_e g4
  obtain ⟨g7, g8⟩ := and_e g6
  obtain ⟨g9, g10⟩ := and_e g8
  obtain ⟨w0, w1, w2, w3, w4, rfl⟩ : ∃ w0 w1 w2 w3 w4 : Value, args = #[w0, w1, w2, w3, w4] := by
    have hs : args.size = 5 := by simpa [Cond.value, given_1] using g1
    obtain ⟨L⟩ := args
    match L, hs with
    | [w0, w1, w2, w3, w4], _ => exact ⟨w0, w1, w2, w3, w4, rfl⟩
  have hw := fun d (hd : d ∈ tables_1) => atoms_spec (ws := Jvm.Cond.code x code maxLocals ret :: tables_1) hat d (List.mem_cons_of_mem _ hd)
  have hfit : Fit s := fun {y c} hc i hi => by
    obtain ⟨ha, rfl⟩ := Array.getElem?_eq_some_iff.mp hc
    have q := List.all_eq_true.mp ((Array.all_eq_true_iff_forall_mem.mp hF) _ (Array.getElem_mem ha)) i (List.mem_range.mpr hi)
    simpa [Array.getElem?_eq_getElem hi] using q
  obtain ⟨i0, ei0⟩ := is_v g3
  obtain rfl : w0 = (.int i0) := Option.some.inj ei0
  obtain ⟨i1, ei1⟩ := is_v g5
  obtain rfl : w1 = (.int i1) := Option.some.inj ei1
  obtain ⟨i2, ei2⟩ := is_v g7
  obtain rfl : w2 = (.int i2) := Option.some.inj ei2
  obtain ⟨i3, ei3⟩ := is_v g9
  obtain rfl : w3 = (.int i3) := Option.some.inj ei3
  obtain ⟨i4, ei4⟩ := is_v g10
  obtain rfl : w4 = (.int i4) := Option.some.inj ei4
  obtain ⟨n, o, h1, h2, h3, _, L, rfl, ⟨rfl, N, -⟩, hq⟩ := own_rm0 l s _ hw tables_1 i0 i1 i2 i3 i4  s.heap s.heap.size (Nat.le_refl _)  p e ha hc hk s m _ below hf ((Spec.applies_iff_loose hf).mp happ).1 ⟨rfl, State.Warmed39.refl s, rfl⟩ trivial
  refine ⟨n, _, h1, h2, h3, hpost _ _ _ _ _ _ ⟨Cond.after_iff.mpr rfl, Cond.after_iff.mpr (eq_i res_at (Term.int_eval (1)) (congrArg Value.int (own_law i0 i1 i2 i3 i4))), trivial⟩ ⟨hq.1, hq.2.1, (hq.2.2.sift fun y hy => Or.inr (N y hy)).mono (by decide) (by decide)⟩⟩
theorem main_1_1 : Claimed_1_1 := comes_1 fun _ _ _ _ _ _ h hF => ⟨h.1, hF⟩
theorem main_1_2 : Claimed_1_2 := comes_1 fun _ _ _ _ _ _ h hF => ⟨h.2.1, hF⟩
end Jvm.Pilot.@@N@@
namespace Jvm.Pilot.@@N@@
open Jvm Jvm.ClassFile Sem Op Lib Jvm.Free Jvm.Stand Jvm.Pilot.@@N@@.Jvm.D
/-! MADE BY PROGRAM (witnessworld.py) out of the Statement's table words and the real class files: 9 classes; the members and pool entries that the words name. The judged class is class 1, her method 1. -/
namespace start1
open Jvm.ClassFile
def u (s : String) : CpInfo := .utf8 (stringToUtf16 s)
/-- a pool by its gaps: so many unusable entries, then the entry; so many at the end -/
def gap : Nat → List CpInfo → List CpInfo
  | 0, r => r
  | n + 1, r => .unusable :: gap n r
def poolList (es : List (Nat × CpInfo)) (last : Nat) : List CpInfo := es.foldr (fun e r => gap e.1 (e.2 :: r)) (gap last [])
def pool (es : List (Nat × CpInfo)) (last : Nat) : Array CpInfo := ⟨poolList es last⟩
def fileOf (pool : Array CpInfo) (this : Nat) (attrs : Array Attribute := #[]) (ms : Array MethodInfo := #[]) (fl : Nat := 33) (sup : Nat := 0) (ifs : Array Nat := #[]) (fds : Array FieldInfo := #[]) : ClassFile where
  minorVersion := 0
  majorVersion := 65
  constantPool := pool
  accessFlags := fl
  thisClass := this
  superClass := sup
  interfaces := ifs
  fields := fds
  methods := ms
  attributes := attrs
def plain (name : String) (sup : Option ClassId) : Class where
  name := name
  kind := .ordinary
  loader := none
  accessFlags := 33
  super := sup
  interfaces := #[]
  cf := none
  fields := #[]
  methods := #[]
  instanceTypes := #[]
  staticTypes := #[]
  resolved := #[]
  callSites := []
  init := .initialized
  statics := none
  mirror := none

def pool0 : Array CpInfo := pool [(5, u "<init>"), (0, u "()V"), (1, .class_ 10), (1, u "java/lang/Object")] 113

def k0m0 : Method := { name := "<init>", desc := "()V", sig := { parameters := [], returnType := none }, accessFlags := 1, code := none }
/-- java/lang/Object -/
def k0 : Class := { plain "java/lang/Object" none with
  accessFlags := 33
  interfaces := #[]
  cf := some (fileOf pool0 8 #[] #[{ accessFlags := 1, nameIndex := 5, descriptorIndex := 6, attributes := #[] }] 33 0 #[] #[])
  fields := #[]
  methods := #[k0m0]
  instanceTypes := #[]
  staticTypes := #[]
  resolved := Array.replicate 124 none
  statics := none }

def pool1 : Array CpInfo := pool [(2, .class_ 4), (1, u "java/lang/Object"), (0, u "<init>"), (0, u "()V"), (0, .integer 2147483647), (0, .methodref 9 10), (0, .class_ 11), (0, .nameAndType 12 13), (0, u "com/example/libvalise/libvalise/ZipFormat"), (0, u "isAscii"), (0, u "([B)Z"), (0, .class_ 15), (0, u "com/example/libvalise/libvalise/ZipFormatIsAsciiPinLaw"), (2, u "law"), (0, u "(IIIII)Z")] 5

def k1m0 : Method := { name := "<init>", desc := "()V", sig := { parameters := [], returnType := none }, accessFlags := 2, code := none }
def k1c1 : Code := { maxStack := 4, maxLocals := 12, code := code, exceptionTable := #[], attributes := #[] }
def k1m1 : Method := { name := "law", desc := "(IIIII)Z", sig := { parameters := [.int, .int, .int, .int, .int], returnType := some .boolean }, accessFlags := 9, code := some k1c1 }
/-- com/example/libvalise/libvalise/ZipFormatIsAsciiPinLaw -/
def k1 : Class := { plain "com/example/libvalise/libvalise/ZipFormatIsAsciiPinLaw" (some 0) with
  accessFlags := 49
  interfaces := #[]
  cf := some (fileOf pool1 14 #[] #[{ accessFlags := 2, nameIndex := 5, descriptorIndex := 6, attributes := #[] }, { accessFlags := 9, nameIndex := 18, descriptorIndex := 19, attributes := #[] }] 49 2 #[] #[])
  fields := #[]
  methods := #[k1m0, k1m1]
  instanceTypes := #[]
  staticTypes := #[]
  resolved := Array.replicate 25 none
  statics := none }

def pool2 : Array CpInfo := pool [(2, .class_ 4), (1, u "java/lang/Object"), (0, u "<init>"), (0, u "()V"), (20, .class_ 28), (0, u "com/example/libvalise/libvalise/ZipFormat"), (1, u "LOCAL_HEADER"), (0, u "I"), (2, u "CENTRAL_HEADER"), (1, u "ZIP64_END"), (1, u "ZIP64_END_LOCATOR"), (1, u "END"), (0, u "LOCAL_HEADER_LENGTH"), (1, u "CENTRAL_HEADER_LENGTH"), (1, u "END_LENGTH"), (1, u "ZIP64_END_LOCATOR_LENGTH"), (1, u "ZIP64_END_LENGTH"), (1, u "STORED"), (1, u "DEFLATED"), (1, u "DATA_DESCRIPTOR_FLAG"), (0, u "UTF8_NAME_FLAG"), (1, u "ZIP64_EXTRA"), (1, u "MAX_32"), (0, u "J"), (2, u "MAX_16"), (1, u "UNIX_HOST"), (1, u "UNIX_TYPE_BITS"), (1, u "UNIX_PERMISSION_BITS"), (1, u "UNIX_REGULAR_FILE"), (1, u "UNIX_FOLDER"), (1, u "UNIX_SYMBOLIC_LINK"), (3, u "isAscii"), (0, u "([B)Z")] 4

def k2m0 : Method := { name := "<init>", desc := "()V", sig := { parameters := [], returnType := none }, accessFlags := 2, code := none }
def k2c1 : Code := { maxStack := 2, maxLocals := 3, code := prog_11_method_2_code, exceptionTable := #[], attributes := #[] }
def k2m1 : Method := { name := "isAscii", desc := "([B)Z", sig := { parameters := [(.array .byte)], returnType := some .boolean }, accessFlags := 8, code := some k2c1 }
/-- com/example/libvalise/libvalise/ZipFormat -/
def k2 : Class := { plain "com/example/libvalise/libvalise/ZipFormat" (some 0) with
  accessFlags := 48
  interfaces := #[]
  cf := some (fileOf pool2 27 #[] #[{ accessFlags := 2, nameIndex := 5, descriptorIndex := 6, attributes := #[] }, { accessFlags := 8, nameIndex := 80, descriptorIndex := 81, attributes := #[] }] 48 2 #[] #[{ accessFlags := 24, nameIndex := 30, descriptorIndex := 31, attributes := #[] }, { accessFlags := 24, nameIndex := 34, descriptorIndex := 31, attributes := #[] }, { accessFlags := 24, nameIndex := 36, descriptorIndex := 31, attributes := #[] }, { accessFlags := 24, nameIndex := 38, descriptorIndex := 31, attributes := #[] }, { accessFlags := 24, nameIndex := 40, descriptorIndex := 31, attributes := #[] }, { accessFlags := 24, nameIndex := 41, descriptorIndex := 31, attributes := #[] }, { accessFlags := 24, nameIndex := 43, descriptorIndex := 31, attributes := #[] }, { accessFlags := 24, nameIndex := 45, descriptorIndex := 31, attributes := #[] }, { accessFlags := 24, nameIndex := 47, descriptorIndex := 31, attributes := #[] }, { accessFlags := 24, nameIndex := 49, descriptorIndex := 31, attributes := #[] }, { accessFlags := 24, nameIndex := 51, descriptorIndex := 31, attributes := #[] }, { accessFlags := 24, nameIndex := 53, descriptorIndex := 31, attributes := #[] }, { accessFlags := 24, nameIndex := 55, descriptorIndex := 31, attributes := #[] }, { accessFlags := 24, nameIndex := 56, descriptorIndex := 31, attributes := #[] }, { accessFlags := 24, nameIndex := 58, descriptorIndex := 31, attributes := #[] }, { accessFlags := 24, nameIndex := 60, descriptorIndex := 61, attributes := #[] }, { accessFlags := 24, nameIndex := 64, descriptorIndex := 31, attributes := #[] }, { accessFlags := 24, nameIndex := 66, descriptorIndex := 31, attributes := #[] }, { accessFlags := 24, nameIndex := 68, descriptorIndex := 31, attributes := #[] }, { accessFlags := 24, nameIndex := 70, descriptorIndex := 31, attributes := #[] }, { accessFlags := 24, nameIndex := 72, descriptorIndex := 31, attributes := #[] }, { accessFlags := 24, nameIndex := 74, descriptorIndex := 31, attributes := #[] }, { accessFlags := 24, nameIndex := 76, descriptorIndex := 31, attributes := #[] }])
  fields := #[{ name := "LOCAL_HEADER", type := .int, accessFlags := 24, slot := 0, constantValue := 0 }, { name := "CENTRAL_HEADER", type := .int, accessFlags := 24, slot := 1, constantValue := 0 }, { name := "ZIP64_END", type := .int, accessFlags := 24, slot := 2, constantValue := 0 }, { name := "ZIP64_END_LOCATOR", type := .int, accessFlags := 24, slot := 3, constantValue := 0 }, { name := "END", type := .int, accessFlags := 24, slot := 4, constantValue := 0 }, { name := "LOCAL_HEADER_LENGTH", type := .int, accessFlags := 24, slot := 5, constantValue := 0 }, { name := "CENTRAL_HEADER_LENGTH", type := .int, accessFlags := 24, slot := 6, constantValue := 0 }, { name := "END_LENGTH", type := .int, accessFlags := 24, slot := 7, constantValue := 0 }, { name := "ZIP64_END_LOCATOR_LENGTH", type := .int, accessFlags := 24, slot := 8, constantValue := 0 }, { name := "ZIP64_END_LENGTH", type := .int, accessFlags := 24, slot := 9, constantValue := 0 }, { name := "STORED", type := .int, accessFlags := 24, slot := 10, constantValue := 0 }, { name := "DEFLATED", type := .int, accessFlags := 24, slot := 11, constantValue := 0 }, { name := "DATA_DESCRIPTOR_FLAG", type := .int, accessFlags := 24, slot := 12, constantValue := 0 }, { name := "UTF8_NAME_FLAG", type := .int, accessFlags := 24, slot := 13, constantValue := 0 }, { name := "ZIP64_EXTRA", type := .int, accessFlags := 24, slot := 14, constantValue := 0 }, { name := "MAX_32", type := .long, accessFlags := 24, slot := 15, constantValue := 0 }, { name := "MAX_16", type := .int, accessFlags := 24, slot := 16, constantValue := 0 }, { name := "UNIX_HOST", type := .int, accessFlags := 24, slot := 17, constantValue := 0 }, { name := "UNIX_TYPE_BITS", type := .int, accessFlags := 24, slot := 18, constantValue := 0 }, { name := "UNIX_PERMISSION_BITS", type := .int, accessFlags := 24, slot := 19, constantValue := 0 }, { name := "UNIX_REGULAR_FILE", type := .int, accessFlags := 24, slot := 20, constantValue := 0 }, { name := "UNIX_FOLDER", type := .int, accessFlags := 24, slot := 21, constantValue := 0 }, { name := "UNIX_SYMBOLIC_LINK", type := .int, accessFlags := 24, slot := 22, constantValue := 0 }]
  methods := #[k2m0, k2m1]
  instanceTypes := #[]
  staticTypes := #[.int, .int, .int, .int, .int, .int, .int, .int, .int, .int, .int, .int, .int, .int, .int, .long, .int, .int, .int, .int, .int, .int, .int]
  resolved := Array.replicate 86 none
  statics := none }

def pool3 : Array CpInfo := pool [(1, u "java/lang/Cloneable"), (0, .class_ 1), (0, u "java/lang/Object"), (0, .class_ 3)] 3

/-- java/lang/Cloneable -/
def k3 : Class := { plain "java/lang/Cloneable" (some 0) with
  accessFlags := 1537
  interfaces := #[]
  cf := some (fileOf pool3 2 #[] #[] 1537 4 #[] #[])
  fields := #[]
  methods := #[]
  instanceTypes := #[]
  staticTypes := #[]
  resolved := Array.replicate 8 none
  statics := none }

def pool4 : Array CpInfo := pool [(1, u "java/io/Serializable"), (0, .class_ 1), (0, u "java/lang/Object"), (0, .class_ 3)] 3

/-- java/io/Serializable -/
def k4 : Class := { plain "java/io/Serializable" (some 0) with
  accessFlags := 1537
  interfaces := #[]
  cf := some (fileOf pool4 2 #[] #[] 1537 4 #[] #[])
  fields := #[]
  methods := #[]
  instanceTypes := #[]
  staticTypes := #[]
  resolved := Array.replicate 8 none
  statics := none }

/-- the primitive byte -/
def k5 : Class := { plain "byte" none with kind := .primitive 'B', accessFlags := 0x411 }
/-- [B -/
def k6 : Class := { plain "[B" (some 0) with kind := .array 5 .byte, interfaces := #[3, 4], accessFlags := 1041 }

/-- the primitive int -/
def k7 : Class := { plain "int" none with kind := .primitive 'I', accessFlags := 0x411 }
/-- [I -/
def k8 : Class := { plain "[I" (some 0) with kind := .array 7 .int, interfaces := #[3, 4], accessFlags := 1041 }

def heap : Heap := #[]
def classes : Array Class := #[k0, k1, k2, k3, k4, k5, k6, k7, k8]
def interned : List (Array UInt16 × Addr) := []
def slotsUsed : Nat := 0
def theMethod : MethodId := ⟨1, 1⟩
def args0 : Array Value := #[.int 5, .int 5, .int 5, .int 5, .int 5]
def aboutOver (below : List Frame) : State where
  vm := { classes := classes, interned := interned.toArray }
  heap := heap
  slotsUsed := slotsUsed
  threads := #[{ frames := .invoking theMethod args0 :: below }]
def below0 : List Frame := [.native { method := ⟨0, 0⟩, args := #[] }]
def about1 : State := aboutOver below0
def p0 : Program := .bare "" "" ""
def e0 : Env := launch0.env 0 0 0
theorem w_frames : about1.frames = Frame.invoking theMethod args0 :: below0 := rfl
set_option maxRecDepth 65536 in
theorem w_args : argsFit about1.vm theMethod args0 = true := by decide +kernel
set_option maxRecDepth 65536 in
theorem w_heap : heapFits about1 = true := by decide +kernel
set_option maxRecDepth 65536 in
theorem w_runnable : about1.curStatus? = some .runnable := by decide +kernel
set_option maxRecDepth 65536 in
theorem w_alone : about1.alone = true := by decide +kernel
set_option maxRecDepth 65536 in
theorem w_named : about1.methodNamed? x = some theMethod := by decide +kernel
set_option maxRecDepth 65536 in
theorem w_hears : about1.hears theMethod below0 = true := by decide +kernel
set_option maxRecDepth 65536 in
theorem w_ripe : about1.ripe theMethod args0 below0 = true := by decide +kernel
theorem w_running : about1.status = .running := rfl
set_option maxRecDepth 65536 in
theorem w_room : about1.hasRoom e0.platform room_1 = true :=
  launch0.hasRoom_least _ room_1 (by decide +kernel) (by decide +kernel) (by decide +kernel) (by decide +kernel) (by decide +kernel) (by decide +kernel)
theorem allAtoms_all (ts : List Jvm.Cond) (a : Array Jvm.Value) (st : Jvm.State) : (allAtoms ts).before a st = ts.all (fun c => c.before a st) := by
  induction ts with
  | nil => rfl
  | cons c t ih =>
    show (Jvm.Cond.and c (allAtoms t)).before a st = _
    rw [Jvm.Cond.before_and, ih, List.all_cons]
def words1 : List Jvm.Cond := Jvm.Cond.code x code maxLocals ret :: tables_1
/-- a 'code' word, met by the world's own term for the bytes: nothing is compared byte by byte -/
theorem code_word {y : MethodName} {bytes : ByteArray} {mx : Nat} {rt : Option FieldType} {a : Array Value} {s : State} {m : MethodId} {meth : Method} {c : Code} (h1 : s.methodNamed? y = some m) (h2 : s.vm.method? m = some meth) (h3 : meth.code = some c) (h4 : c.code = bytes)
    (h5 : (c.maxLocals == mx && c.exceptionTable.isEmpty && decide (c.maxStack ≤ mostOperands) && decide (meth.sig.returnType = rt) && !meth.locks && decide (parseMethodDescriptor y.desc = some meth.sig)) = true) : (Jvm.Cond.code y bytes mx rt).before a s = true := by
  simp only [Bool.and_eq_true, beq_iff_eq, Bool.not_eq_true', decide_eq_true_eq] at h5
  obtain ⟨⟨⟨⟨⟨g1, g2⟩, g3⟩, g4⟩, g5⟩, g6⟩ := h5
  simp [Cond.before, Cond.holds, Cond.value, h1, h2, h3, h4, g1, g2, g3, g4, g5, g6]
def isCode : Jvm.Cond → Bool
  | .code _ _ _ _ => true
  | _ => false
theorem all_split {L : List Jvm.Cond} {P : Jvm.Cond → Bool} (h1 : L.all (fun c => isCode c || P c) = true) (h2 : ∀ c ∈ L.filter isCode, P c = true) : L.all P = true := by
  refine List.all_eq_true.mpr fun c hc => ?_
  have h := List.all_eq_true.mp h1 c hc
  rcases Bool.eq_false_or_eq_true (isCode c) with hi | hi
  · exact h2 c (List.mem_filter.mpr ⟨hc, hi⟩)
  · simpa [hi] using h
set_option maxRecDepth 65536 in
theorem w_c0 : (Jvm.Cond.code x code maxLocals ret).before args0 about1 = true := code_word (m := ⟨1, 1⟩) (meth := k1m1) (c := k1c1) (by decide +kernel) rfl rfl rfl (by decide +kernel)
set_option maxRecDepth 65536 in
theorem w_c1 : (Jvm.Cond.code ({ cls := "com/example/libvalise/libvalise/ZipFormat", name := "isAscii", desc := "([B)Z" } : Jvm.MethodName) prog_11_method_2_code (3 : Nat) (Option.some Jvm.ClassFile.FieldType.boolean)).before args0 about1 = true := code_word (m := ⟨2, 1⟩) (meth := k2m1) (c := k2c1) (by decide +kernel) rfl rfl rfl (by decide +kernel)
def codes1 : List Jvm.Cond := [Jvm.Cond.code x code maxLocals ret, Jvm.Cond.code ({ cls := "com/example/libvalise/libvalise/ZipFormat", name := "isAscii", desc := "([B)Z" } : Jvm.MethodName) prog_11_method_2_code (3 : Nat) (Option.some Jvm.ClassFile.FieldType.boolean)]
set_option maxRecDepth 65536 in
theorem codes_eq : words1.filter isCode = codes1 := rfl
theorem w_codes : ∀ c ∈ words1.filter isCode, c.before args0 about1 = true := by
  rw [codes_eq]
  intro c hc
  simp only [codes1, List.mem_cons, List.not_mem_nil, or_false] at hc
  rcases hc with rfl | rfl
  · exact w_c0
  · exact w_c1
set_option maxRecDepth 65536 in
theorem w_t1 : words1.all (fun c => isCode c || c.before args0 about1) = true := by decide +kernel
theorem w_tables : (allAtoms (Jvm.Cond.code x code maxLocals ret :: tables_1)).before args0 about1 = true := by
  rw [allAtoms_all]
  show words1.all (fun c => c.before args0 about1) = true
  refine all_split ?_ w_codes
  rw [w_t1]
set_option maxRecDepth 65536 in
theorem w_case : (Jvm.Cond.and given_1 narrow_1).before args0 about1 = true := by decide +kernel
theorem w_applies : (headSpec (Jvm.Cond.code x code maxLocals ret :: tables_1) room_1).applies x e0.platform about1 = true :=
  (Spec.applies_iff w_frames).mpr ⟨w_running, w_runnable, w_alone, w_named, w_hears, w_ripe, w_room, w_tables⟩
theorem atStart : AtStart classFile x code maxLocals ret World_1 tables_1 room_1 Calls_1 rest_1 Pre_1 launch0 p0 e0 about1 theMethod args0 below0 :=
  ⟨lists_1, trivial, launch0.admits_env _ _ _, launch0.least_env, fairChoices_fair.cas, fairChoices_fair.clock, w_frames, w_args, w_heap, w_applies, trivial, trivial, w_case⟩
end start1
theorem witness_1 : WitnessClaimed_1 := ⟨start1.p0, start1.e0, start1.about1, start1.theMethod, start1.args0, start1.below0, start1.atStart⟩
end Jvm.Pilot.@@N@@
