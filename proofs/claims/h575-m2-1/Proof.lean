import JvmDerived
import JvmDerived.Pilot.@@N@@Statement
import JvmDerived.Pilot.@@N@@Code
set_option linter.unusedVariables false
set_option linter.unusedSimpArgs false
namespace Jvm.RoadKit
open Sem ClassFile Op Lib Jvm.Stand Jvm.Free Jvm.LawKit
section New
variable {p : Program} {l : Launch} {e : Env} {R : Room} {s : State} {m : MethodId} {args : Array Value} {below : List Frame} {meth : Method} {c : Code} {T : State} {locs : List Loc} {cells slots : Nat}
theorem retI (X : Stand p l e R s m args below meth c T locs cells slots) (hx : p.tables.exec = Jvm.exec) {pc : Nat} {Ls : Array Slot} {z : Int32} {rest : List Value} (hret : meth.sig.returnType = some .int) (hd : decode c.code pc = .ok (.ireturn, 1)) {fs : List Frame}
    (hl : ∀ (f : JFrame) (acts : List Action), f.method = m → f.locked = none → f.entered = [] → (doReturn e (T.setTop f) acts (some (.int z))).1 = T.setFrames fs) : Steps p.tables e below (T.setTop (mkF m pc Ls (.int z :: rest))) (T.setFrames fs) := by
  have hm' : T.vm.method? m = some meth := X.method'
  have hn : narrow .int (.int z) = .int z := rfl
  show Steps p.tables e below (T.setTop { method := m, pc := pc, locals := Ls, stack := _ :: rest, locked := none }) _
  jvm_step X.here [X.here.top, hx, hd, hm', hret, hn]
  first | (intro acts; rw [hl _ acts rfl rfl rfl]) | rw [hl _ _ rfl rfl rfl]
  exact Steps.refl _
end New
/-! the walk in continuation form: from the state T at the frame f the run ends by a return, as Q says -/
section Own
variable {p : Program} {l : Launch} {e : Env} {R : Room} {s : State} {m : MethodId} {args : Array Value} {below : List Frame} {meth : Method} {c : Code} {T T' : State} {locs : List Loc} {cells slots k n : Nat} {Q : Option Value → Heap → List Loc → Prop} {f f' : JFrame}
def ownE (p : Program) (e : Env) (below : List Frame) (s : State) (Q : Option Value → Heap → List Loc → Prop) (k n : Nat) (T : State) (f : JFrame) : Prop :=
  ∃ s₂ o, Steps p.tables e below (T.setTop f) s₂ ∧ s₂.status = .running ∧ Ended s₂ below o ∧ ∃ v L, o = .returned v ∧ Q v s₂.heap L ∧ FrameEnd s o s₂ L k n
theorem ownE.go (g : ∀ t, Steps p.tables e below (T'.setTop f') t → Steps p.tables e below (T.setTop f) t) (h : ownE p e below s Q k n T' f') : ownE p e below s Q k n T f := by
  obtain ⟨s₂, o, h1, r⟩ := h
  exact ⟨s₂, o, g _ h1, r⟩
theorem ownE.goS (g : Steps p.tables e below (T.setTop f) (T'.setTop f')) (h : ownE p e below s Q k n T' f') : ownE p e below s Q k n T f := by
  obtain ⟨s₂, o, h1, r⟩ := h
  exact ⟨s₂, o, g.trans h1, r⟩
theorem ownE.ret (X : Stand p l e R s m args below meth c T locs cells slots) {v : Option Value} (hlk : meth.locks = false) (hv : meth.sig.returnType = none → v = none)
    (st : ∀ fs, (∀ (f : JFrame) (acts : List Action), f.method = m → f.locked = none → f.entered = [] → (doReturn e (T.setTop f) acts v).1 = T.setFrames fs) → Steps p.tables e below (T.setTop f) (T.setFrames fs))
    (hQ : Q v T.heap locs) (hk : cells ≤ k) (hn : slots ≤ n) : ownE p e below s Q k n T f := by
  obtain ⟨fs, hr, hrun, hended, hW, hsame⟩ := X.leave (v := v) hv hlk
  exact ⟨_, _, st fs hr, hrun, hended, _, _, rfl, hQ, ⟨_, rfl⟩, hW, hsame.mono hk hn⟩
theorem ownE.retI (X : Stand p l e R s m args below meth c T locs cells slots) (hx : p.tables.exec = Jvm.exec) (hlk : meth.locks = false) {pc : Nat} {Ls : Array Slot} {z : Int32} {rest : List Value} (hret : meth.sig.returnType = some .int) (hd : decode c.code pc = .ok (.ireturn, 1))
    (hQ : Q (some (.int z)) T.heap locs) (hk : cells ≤ k) (hn : slots ≤ n) : ownE p e below s Q k n T (mkF m pc Ls (.int z :: rest)) :=
  ownE.ret X hlk (fun h => by rw [hret] at h; cases h) (fun fs hr => Jvm.RoadKit.retI X hx hret hd hr) hQ hk hn
theorem ownE.retN (X : Stand p l e R s m args below meth c T locs cells slots) (hx : p.tables.exec = Jvm.exec) (hlk : meth.locks = false) {pc : Nat} {Ls : Array Slot} {z : Int32} {rest : List Value} {t : FieldType} (hret : meth.sig.returnType = some t) (ht : t = .boolean ∨ t = .byte ∨ t = .char ∨ t = .short) (hd : decode c.code pc = .ok (.ireturn, 1))
    (hQ : Q (some (.int (nar t z))) T.heap locs) (hk : cells ≤ k) (hn : slots ≤ n) : ownE p e below s Q k n T (mkF m pc Ls (.int z :: rest)) :=
  ownE.ret X hlk (fun h => by rw [hret] at h; cases h) (fun fs hr => Jvm.RoadKit.retN X hx hret ht hd hr) hQ hk hn
theorem ownE.retL (X : Stand p l e R s m args below meth c T locs cells slots) (hx : p.tables.exec = Jvm.exec) (hlk : meth.locks = false) {pc : Nat} {Ls : Array Slot} {z : Int64} {rest : List Value} (hret : meth.sig.returnType = some .long) (hd : decode c.code pc = .ok (.lreturn, 1))
    (hQ : Q (some (.long z)) T.heap locs) (hk : cells ≤ k) (hn : slots ≤ n) : ownE p e below s Q k n T (mkF m pc Ls (.long z :: rest)) :=
  ownE.ret X hlk (fun h => by rw [hret] at h; cases h) (fun fs hr => Jvm.RoadKit.retOut X hx hret rfl (Or.inr (Or.inl ⟨rfl, rfl, z, rfl⟩)) hd hr) hQ hk hn
theorem ownE.retA (X : Stand p l e R s m args below meth c T locs cells slots) (hx : p.tables.exec = Jvm.exec) (hlk : meth.locks = false) {pc : Nat} {Ls : Array Slot} {z : Value} {rest : List Value} {t : FieldType} (hret : meth.sig.returnType = some t) (ht : t.isReference = true) (hz : z.isRef = true) (hn' : narrow t z = z) (hd : decode c.code pc = .ok (.areturn, 1))
    (hQ : Q (some z) T.heap locs) (hk : cells ≤ k) (hn : slots ≤ n) : ownE p e below s Q k n T (mkF m pc Ls (z :: rest)) :=
  ownE.ret X hlk (fun h => by rw [hret] at h; cases h) (fun fs hr => Jvm.RoadKit.retOut X hx hret hn' (Or.inr (Or.inr (Or.inr (Or.inr ⟨rfl, ht, hz⟩)))) hd hr) hQ hk hn
theorem ownE.retV (X : Stand p l e R s m args below meth c T locs cells slots) (hx : p.tables.exec = Jvm.exec) (hlk : meth.locks = false) {pc : Nat} {Ls : Array Slot} (hret : meth.sig.returnType = none) (hd : decode c.code pc = .ok (.return_, 1))
    (hQ : Q none T.heap locs) (hk : cells ≤ k) (hn : slots ≤ n) : ownE p e below s Q k n T (mkF m pc Ls []) :=
  ownE.ret X hlk (fun _ => rfl) (fun fs hr => X.returnOut hx hret hd hr) hQ hk hn
end Own
theorem own_selP {s : State} {args : Array Value} {y : MethodName} {n : Nat} (wi : (Cond.instantiable y.cls n).before args s = true) (hi : (Cond.instanceMethod y).before args s = true) (hp : s.PrivateAt y) (hy : y.cls ≠ "java/lang/invoke/MethodHandle" ∧ y.cls ≠ "java/lang/invoke/VarHandle") : (Cond.selects y.cls y y).before args s = true := by
  obtain ⟨c, k, h1, h2, -, h4, -⟩ := Cond.instantiable_spec wi
  exact selects_self_of_private h1 h2 (by simp at h4; exact h4.1) hp hi hy
end Jvm.RoadKit
namespace Jvm.Pilot.@@N@@
open Jvm Jvm.ClassFile Sem Op Lib Jvm.Free Jvm.Stand Jvm.LawKit Jvm.RoadKit Bundle Jvm.Pilot.@@N@@.Jvm.D
theorem own_d1_0 : decode prog_15_method_4_code 0 = .ok (.iload_n 0, 1) := by decide +kernel
theorem own_d1_1 : decode prog_15_method_4_code 1 = .ok (.bipush 32, 2) := by decide +kernel
theorem own_d1_3 : decode prog_15_method_4_code 3 = .ok (.if_icmp .eq 9, 3) := by decide +kernel
theorem own_d1_6 : decode prog_15_method_4_code 6 = .ok (.iload_n 0, 1) := by decide +kernel
theorem own_d1_7 : decode prog_15_method_4_code 7 = .ok (.bipush 9, 2) := by decide +kernel
theorem own_d1_9 : decode prog_15_method_4_code 9 = .ok (.if_icmp .ne 7, 3) := by decide +kernel
theorem own_d1_12 : decode prog_15_method_4_code 12 = .ok (.iconst 1, 1) := by decide +kernel
theorem own_d1_13 : decode prog_15_method_4_code 13 = .ok (.goto 4, 3) := by decide +kernel
theorem own_d1_16 : decode prog_15_method_4_code 16 = .ok (.iconst 0, 1) := by decide +kernel
theorem own_d1_17 : decode prog_15_method_4_code 17 = .ok (.ireturn, 1) := by decide +kernel
theorem own_pn0 : plainName "com/example/venus_flytrap/venusflytrap/HttpSyntax" = true := by first | (simp [plainName, overriddenIn]; done) | decide +kernel
theorem own_ef1 (m : MethodId) (x0 : Int32) : entryFrame m #[(.int x0)] 1 = mkF m 0 #[.val (.int x0)] [] := by first | (simp [entryFrame, mkF, argsToLocals, Value.category]; done) | rfl
def own_f1 (i0 : Int32) : Int32 :=
  if i0 = (32 : Int32) then
    (1 : Int32)
  else
    if i0 = (9 : Int32) then
      (1 : Int32)
    else
      (0 : Int32)
def own_Q1 (Z : State) (i0 : Int32) (h0 : Heap) (n0 : Nat) (v : Option Value) (h : Heap) (L : List Loc) : Prop := v = some (.int (own_f1 i0)) ∧ Fr n0 L ∧ h = h0
set_option maxRecDepth 65536 in
set_option maxHeartbeats 40000000 in
theorem own_rm1 (l : Launch) (Z : State) (a0 : Array Value) (hw : ∀ d ∈ tables_1, d.before a0 Z = true) (ws : List Jvm.Cond) (i0 : Int32) (h0 : Heap) (n0 : Nat) (Z0 : n0 ≤ h0.size) :
    MetFree l (⟨"com/example/venus_flytrap/venusflytrap/HttpSyntax", "isSpace", "(I)Z"⟩ : MethodName) (head1 (Jvm.Cond.code (⟨"com/example/venus_flytrap/venusflytrap/HttpSyntax", "isSpace", "(I)Z"⟩ : MethodName) prog_15_method_4_code 1 (some .boolean) :: ws) ({ frames := 0, cells := 0, slots := 0, locals := 0 } : Room)) (fun a U => a = #[(.int i0)] ∧ Z.Warmed39 U.vm ∧ U.heap = h0) (fun _ _ _ _ _ => True) (fun _ U o U' => ∃ v L, o = .returned v ∧ own_Q1 Z i0 h0 n0 v U'.heap L ∧ FrameEnd U o U' L ({ frames := 0, cells := 0, slots := 0, locals := 0 } : Room).cells ({ frames := 0, cells := 0, slots := 0, locals := 0 } : Room).slots) := by
  refine MetFree.of_bodySF (plainFor_of_name own_pn0) hisR ?_
  intro p e s m args below meth c s₁ Bd hml0 hP hK
  obtain ⟨rfl, hZ, hh⟩ := hP
  have hx := Bd.exec
  have hby := Bd.bytes
  have hret := Bd.returns
  have hlk := BodyLoose.notSynchronized Bd
  have hml : c.maxLocals = 1 := hml0
  have hown : s.vm.findClass "com/example/venus_flytrap/venusflytrap/HttpSyntax" = some m.cls := findClass_of_methodNamed Bd.named
  have hnm := (name_of_methodNamed Bd.named Bd.method).1
  have X0 : Stand p l e ({ frames := 0, cells := 0, slots := 0, locals := 0 } : Room) s m #[(.int i0)] below meth c s₁ [] 0 0 := Stand.of_body Bd
  have e0 : s₁.heap = h0 := by rw [← hh, Bd.state]; rfl
  have N0 := Fr.nil n0
  have K0 : Keep h0 h0 [] := Keep.refl h0 _
  show ownE p e below s (own_Q1 Z i0 h0 n0) ({ frames := 0, cells := 0, slots := 0, locals := 0 } : Room).cells ({ frames := 0, cells := 0, slots := 0, locals := 0 } : Room).slots s₁ (entryFrame m #[(.int i0)] 1)
  rw [own_ef1]
  refine ownE.go (T' := s₁) (f' := (mkF m 3 #[.val (.int i0)] [(.int (32 : Int32)), (.int i0)])) (fun t kt => ?_) ?_
  · show Steps p.tables e below (s₁.setTop (mkF m 0 #[.val (.int i0)] [])) _
    refine XS.iloadN X0.here hx rfl (hb hby own_d1_0) rfl ?_
    show Steps p.tables e below (s₁.setTop (mkF m 1 #[.val (.int i0)] [(.int i0)])) _
    refine XS.bipush X0.here hx rfl (hb hby own_d1_1) ?_
    exact kt
  by_cases hc1 : i0 = (32 : Int32)
  · -- pc 3
    refine ownE.go (T' := s₁) (f' := (mkF m 12 #[.val (.int i0)] [])) (fun t kt => XS.icmpYes (g := (mkF m 3 #[.val (.int i0)] [(.int (32 : Int32)), (.int i0)])) X0.here hx rfl (pc0 := 3) (pc' := 12) rfl (hb hby own_d1_3) rfl (Jvm.Free.XT.ii_eq_t hc1) (by decide) (by decide) kt) ?_
    refine ownE.go (T' := s₁) (f' := (mkF m 17 #[.val (.int i0)] [(.int (1 : Int32))])) (fun t kt => ?_) ?_
    · show Steps p.tables e below (s₁.setTop (mkF m 12 #[.val (.int i0)] [])) _
      refine XS.iconst X0.here hx rfl (hb hby own_d1_12) ?_
      show Steps p.tables e below (s₁.setTop (mkF m 13 #[.val (.int i0)] [(.int (1 : Int32))])) _
      refine XS.goto X0.here hx rfl (pc0 := 13) (pc' := 17) rfl (hb hby own_d1_13) (by decide) (by decide) ?_
      exact kt
    refine ownE.retN X0 hx hlk (t := .boolean) hret (by simp) (hb hby own_d1_17) ?_ (by decide) (by decide)
    show own_Q1 Z i0 h0 n0 _ s₁.heap _
    rw [e0]
    exact ⟨(by rw [own_f1, if_pos hc1] <;> first | rfl | decide), N0, rfl⟩
  · -- pc 3
    refine ownE.go (T' := s₁) (f' := (mkF m 6 #[.val (.int i0)] [])) (fun t kt => XS.icmpNo (g := (mkF m 3 #[.val (.int i0)] [(.int (32 : Int32)), (.int i0)])) X0.here hx rfl (hb hby own_d1_3) rfl (Jvm.Free.XT.ii_eq_f hc1) kt) ?_
    refine ownE.go (T' := s₁) (f' := (mkF m 9 #[.val (.int i0)] [(.int (9 : Int32)), (.int i0)])) (fun t kt => ?_) ?_
    · show Steps p.tables e below (s₁.setTop (mkF m 6 #[.val (.int i0)] [])) _
      refine XS.iloadN X0.here hx rfl (hb hby own_d1_6) rfl ?_
      show Steps p.tables e below (s₁.setTop (mkF m 7 #[.val (.int i0)] [(.int i0)])) _
      refine XS.bipush X0.here hx rfl (hb hby own_d1_7) ?_
      exact kt
    by_cases hc2 : i0 = (9 : Int32)
    · -- pc 9
      refine ownE.go (T' := s₁) (f' := (mkF m 12 #[.val (.int i0)] [])) (fun t kt => XS.icmpNo (g := (mkF m 9 #[.val (.int i0)] [(.int (9 : Int32)), (.int i0)])) X0.here hx rfl (hb hby own_d1_9) rfl (Jvm.Free.XT.ii_ne_f hc2) kt) ?_
      refine ownE.go (T' := s₁) (f' := (mkF m 17 #[.val (.int i0)] [(.int (1 : Int32))])) (fun t kt => ?_) ?_
      · show Steps p.tables e below (s₁.setTop (mkF m 12 #[.val (.int i0)] [])) _
        refine XS.iconst X0.here hx rfl (hb hby own_d1_12) ?_
        show Steps p.tables e below (s₁.setTop (mkF m 13 #[.val (.int i0)] [(.int (1 : Int32))])) _
        refine XS.goto X0.here hx rfl (pc0 := 13) (pc' := 17) rfl (hb hby own_d1_13) (by decide) (by decide) ?_
        exact kt
      refine ownE.retN X0 hx hlk (t := .boolean) hret (by simp) (hb hby own_d1_17) ?_ (by decide) (by decide)
      show own_Q1 Z i0 h0 n0 _ s₁.heap _
      rw [e0]
      exact ⟨(by rw [own_f1, if_neg hc1, if_pos hc2] <;> first | rfl | decide), N0, rfl⟩
    · -- pc 9
      refine ownE.go (T' := s₁) (f' := (mkF m 16 #[.val (.int i0)] [])) (fun t kt => XS.icmpYes (g := (mkF m 9 #[.val (.int i0)] [(.int (9 : Int32)), (.int i0)])) X0.here hx rfl (pc0 := 9) (pc' := 16) rfl (hb hby own_d1_9) rfl (Jvm.Free.XT.ii_ne_t hc2) (by decide) (by decide) kt) ?_
      refine ownE.go (T' := s₁) (f' := (mkF m 17 #[.val (.int i0)] [(.int (0 : Int32))])) (fun t kt => ?_) ?_
      · show Steps p.tables e below (s₁.setTop (mkF m 16 #[.val (.int i0)] [])) _
        refine XS.iconst X0.here hx rfl (hb hby own_d1_16) ?_
        exact kt
      refine ownE.retN X0 hx hlk (t := .boolean) hret (by simp) (hb hby own_d1_17) ?_ (by decide) (by decide)
      show own_Q1 Z i0 h0 n0 _ s₁.heap _
      rw [e0]
      exact ⟨(by rw [own_f1, if_neg hc1, if_neg hc2] <;> first | rfl | decide), N0, rfl⟩
theorem own_pd1 : parseMethodDescriptor "(I)Z" = some ⟨[.int], some .boolean⟩ := by decide +kernel
def own_j0_29_S0 (i0 : Int32) (i1 : Int32) : Int32 :=
  if (((i0.toInt64) - (9 : Int64)) * ((i0.toInt64) - (32 : Int64))) = (0 : Int64) then
    (1 : Int32)
  else
    (0 : Int32)
def own_j0_47_S0 (i0 : Int32) (i1 : Int32) : Int32 :=
  if (i1 &&& (1 : Int32)) = (0 : Int32) then
    (32 : Int32)
  else
    (9 : Int32)
def own_j0_88_S0 (i0 : Int32) (i1 : Int32) : Int32 :=
  if (((own_j0_47_S0 i0 i1) + ((i1 >>> ((1 : Int32) &&& 31)) &&& (3 : Int32))) - (1 : Int32)) = (own_j0_47_S0 i0 i1) then
    (1 : Int32)
  else
    (0 : Int32)
theorem own_pn2 : plainName "com/example/venus_flytrap/venusflytrap/HttpSyntaxIsSpacePinLaw" = true := by first | (simp [plainName, overriddenIn]; done) | decide +kernel
theorem own_ef0 (m : MethodId) (x0 : Int32) (x1 : Int32) : entryFrame m #[(.int x0), (.int x1)] maxLocals = mkF m 0 #[.val (.int x0), .val (.int x1), .unset, .unset, .unset, .unset] [] := by first | (simp [entryFrame, mkF, argsToLocals, Value.category, maxLocals]; done) | rfl
def own_f0 (i0 : Int32) (i1 : Int32) : Int32 :=
  if (own_f1 i0) = (own_j0_29_S0 i0 i1) then
    if (own_f1 (own_j0_47_S0 i0 i1)) = (0 : Int32) then
      (0 : Int32)
    else
      if (own_f1 (((own_j0_47_S0 i0 i1) + ((i1 >>> ((1 : Int32) &&& 31)) &&& (3 : Int32))) - (1 : Int32))) = (own_j0_88_S0 i0 i1) then
        (1 : Int32)
      else
        (0 : Int32)
  else
    (0 : Int32)
def own_Q0 (Z : State) (i0 : Int32) (i1 : Int32) (h0 : Heap) (n0 : Nat) (v : Option Value) (h : Heap) (L : List Loc) : Prop := v = some (.int (own_f0 i0 i1)) ∧ Fr n0 L ∧ h = h0
set_option maxRecDepth 65536 in
set_option maxHeartbeats 40000000 in
theorem own_rm0 (l : Launch) (Z : State) (a0 : Array Value) (hw : ∀ d ∈ tables_1, d.before a0 Z = true) (ws : List Jvm.Cond) (i0 : Int32) (i1 : Int32) (h0 : Heap) (n0 : Nat) (Z0 : n0 ≤ h0.size) :
    MetFree l x (head1 (Jvm.Cond.code x code maxLocals ret :: ws) room_1) (fun a U => a = #[(.int i0), (.int i1)] ∧ Z.Warmed39 U.vm ∧ U.heap = h0) (fun _ _ _ _ _ => True) (fun _ U o U' => ∃ v L, o = .returned v ∧ own_Q0 Z i0 i1 h0 n0 v U'.heap L ∧ FrameEnd U o U' L 0 0) := by
  refine MetFree.of_bodySF (plainFor_of_name own_pn2) hisR ?_
  intro p e s m args below meth c s₁ Bd hml0 hP hK
  obtain ⟨rfl, hZ, hh⟩ := hP
  have hx := Bd.exec
  have hby := Bd.bytes
  have hret := Bd.returns
  have hlk := BodyLoose.notSynchronized Bd
  have hml : c.maxLocals = 6 := hml0
  have hown : s.vm.findClass "com/example/venus_flytrap/venusflytrap/HttpSyntaxIsSpacePinLaw" = some m.cls := findClass_of_methodNamed Bd.named
  have hnm := (name_of_methodNamed Bd.named Bd.method).1
  have X0 : Stand p l e room_1 s m #[(.int i0), (.int i1)] below meth c s₁ [] 0 0 := Stand.of_body Bd
  have e0 : s₁.heap = h0 := by rw [← hh, Bd.state]; rfl
  have N0 := Fr.nil n0
  have K0 : Keep h0 h0 [] := Keep.refl h0 _
  show ownE p e below s (own_Q0 Z i0 i1 h0 n0) 0 0 s₁ (entryFrame m #[(.int i0), (.int i1)] maxLocals)
  rw [own_ef0]
  refine ownE.go (T' := s₁) (f' := (mkF m 15 #[.val (.int i0), .val (.int i1), .val (.long (((i0.toInt64) - (9 : Int64)) * ((i0.toInt64) - (32 : Int64)))), .second, .unset, .unset] [(.int i0)])) (fun t kt => ?_) ?_
  · show Steps p.tables e below (s₁.setTop (mkF m 0 #[.val (.int i0), .val (.int i1), .unset, .unset, .unset, .unset] [])) _
    refine XS.iloadN X0.here hx rfl (hb hby at_0) rfl ?_
    show Steps p.tables e below (s₁.setTop (mkF m 1 #[.val (.int i0), .val (.int i1), .unset, .unset, .unset, .unset] [(.int i0)])) _
    refine XS.i2l X0.here hx rfl (hb hby at_1) rfl ?_
    show Steps p.tables e below (s₁.setTop (mkF m 2 #[.val (.int i0), .val (.int i1), .unset, .unset, .unset, .unset] [(.long (i0.toInt64))])) _
    refine X0.ldc2Long hx hown (mvT hZ (hw _ (List.mem_of_getElem? (i := 0) rfl))) (g := (mkF m 2 #[.val (.int i0), .val (.int i1), .unset, .unset, .unset, .unset] [(.long (i0.toInt64))])) rfl (hb hby at_2) _ ?_
    show Steps p.tables e below (s₁.setTop (mkF m 5 #[.val (.int i0), .val (.int i1), .unset, .unset, .unset, .unset] [(.long (9 : Int64)), (.long (i0.toInt64))])) _
    refine XS.lsub X0.here hx rfl (hb hby at_5) rfl ?_
    show Steps p.tables e below (s₁.setTop (mkF m 6 #[.val (.int i0), .val (.int i1), .unset, .unset, .unset, .unset] [(.long ((i0.toInt64) - (9 : Int64)))])) _
    refine XS.iloadN X0.here hx rfl (hb hby at_6) rfl ?_
    show Steps p.tables e below (s₁.setTop (mkF m 7 #[.val (.int i0), .val (.int i1), .unset, .unset, .unset, .unset] [(.int i0), (.long ((i0.toInt64) - (9 : Int64)))])) _
    refine XS.i2l X0.here hx rfl (hb hby at_7) rfl ?_
    show Steps p.tables e below (s₁.setTop (mkF m 8 #[.val (.int i0), .val (.int i1), .unset, .unset, .unset, .unset] [(.long (i0.toInt64)), (.long ((i0.toInt64) - (9 : Int64)))])) _
    refine X0.ldc2Long hx hown (mvT hZ (hw _ (List.mem_of_getElem? (i := 1) rfl))) (g := (mkF m 8 #[.val (.int i0), .val (.int i1), .unset, .unset, .unset, .unset] [(.long (i0.toInt64)), (.long ((i0.toInt64) - (9 : Int64)))])) rfl (hb hby at_8) _ ?_
    show Steps p.tables e below (s₁.setTop (mkF m 11 #[.val (.int i0), .val (.int i1), .unset, .unset, .unset, .unset] [(.long (32 : Int64)), (.long (i0.toInt64)), (.long ((i0.toInt64) - (9 : Int64)))])) _
    refine XS.lsub X0.here hx rfl (hb hby at_11) rfl ?_
    show Steps p.tables e below (s₁.setTop (mkF m 12 #[.val (.int i0), .val (.int i1), .unset, .unset, .unset, .unset] [(.long ((i0.toInt64) - (32 : Int64))), (.long ((i0.toInt64) - (9 : Int64)))])) _
    refine XS.lmul X0.here hx rfl (hb hby at_12) rfl ?_
    show Steps p.tables e below (s₁.setTop (mkF m 13 #[.val (.int i0), .val (.int i1), .unset, .unset, .unset, .unset] [(.long (((i0.toInt64) - (9 : Int64)) * ((i0.toInt64) - (32 : Int64))))])) _
    refine XS.lstoreN X0.here hx rfl (hb hby at_13) rfl (l' := #[.val (.int i0), .val (.int i1), .val (.long (((i0.toInt64) - (9 : Int64)) * ((i0.toInt64) - (32 : Int64)))), .second, .unset, .unset]) rfl ?_
    show Steps p.tables e below (s₁.setTop (mkF m 14 #[.val (.int i0), .val (.int i1), .val (.long (((i0.toInt64) - (9 : Int64)) * ((i0.toInt64) - (32 : Int64)))), .second, .unset, .unset] [])) _
    refine XS.iloadN X0.here hx rfl (hb hby at_14) rfl ?_
    exact kt
  obtain ⟨_, _, ⟨T1, L1, k1, n1⟩, -, X1, ⟨Lc1, hQ1, l1, y1, z1⟩, st1⟩ := Jvm.LawKit.callS X0 hx (y := (⟨"com/example/venus_flytrap/venusflytrap/HttpSyntax", "isSpace", "(I)Z"⟩ : MethodName)) hown (mvT hZ (hw _ (List.mem_of_getElem? (i := 2) rfl))) (mvT hZ (hw _ (List.mem_of_getElem? (i := 3) rfl))) (mvT hZ (hw _ (List.mem_of_getElem? (i := 4) rfl))) (mvT hZ (hw _ (List.mem_of_getElem? (i := 5) rfl))) (by decide) (backOf (W := 0) (own_rm1 l Z a0 hw [] i0 h0 n0 (Nat.le_trans Z0 K0.1) ) hZ (hw _ (List.mem_of_getElem? (i := 5) rfl)) (hw _ (List.mem_of_getElem? (i := 4) rfl)) (by decide) (by decide)) (g := (mkF m 15 #[.val (.int i0), .val (.int i1), .val (.long (((i0.toInt64) - (9 : Int64)) * ((i0.toInt64) - (32 : Int64)))), .second, .unset, .unset] [(.int i0)])) rfl (by rw [hml]; rfl) (argsL := [(.int i0)]) (rest := []) (lenOf own_pd1 rfl) rfl (by show 2 * 0 + _ ≤ _; exact Nat.le_of_eq rfl) (hb hby at_15) (fun _ _ => ⟨rfl, e0, (by decide : 0 + 0 ≤ _), (by decide : 0 + 0 ≤ _)⟩)
  dsimp only [Pt.U, Pt.locs, Pt.cells, Pt.slots] at X1 l1 y1 z1 st1 hQ1
  subst l1 y1 z1
  obtain ⟨rfl, N1q, e1⟩ := hQ1
  have N1 := Fr.app N0 N1q
  refine ownE.go (T' := T1) (f' := (mkF m 18 #[.val (.int i0), .val (.int i1), .val (.long (((i0.toInt64) - (9 : Int64)) * ((i0.toInt64) - (32 : Int64)))), .second, .unset, .unset] [(.int (own_f1 i0))])) st1 ?_
  have J4 : ∀ (TJ4 : State) (locsJ4 : List Loc), Stand p l e room_1 s m #[(.int i0), (.int i1)] below meth c TJ4 locsJ4 0 0 → TJ4.heap = h0 → Fr n0 locsJ4 → ownE p e below s (own_Q0 Z i0 i1 h0 n0) 0 0 TJ4 (mkF m 29 #[.val (.int i0), .val (.int i1), .val (.long (((i0.toInt64) - (9 : Int64)) * ((i0.toInt64) - (32 : Int64)))), .second, .unset, .unset] [(.int (own_j0_29_S0 i0 i1)), (.int (own_f1 i0))]) := by
    intro TJ4 locsJ4 XJ4 eJ4 NJ4
    by_cases hc5 : (own_f1 i0) = (own_j0_29_S0 i0 i1)
    · -- pc 29
      refine ownE.go (T' := TJ4) (f' := (mkF m 34 #[.val (.int i0), .val (.int i1), .val (.long (((i0.toInt64) - (9 : Int64)) * ((i0.toInt64) - (32 : Int64)))), .second, .unset, .unset] [])) (fun t kt => XS.icmpYes (g := (mkF m 29 #[.val (.int i0), .val (.int i1), .val (.long (((i0.toInt64) - (9 : Int64)) * ((i0.toInt64) - (32 : Int64)))), .second, .unset, .unset] [(.int (own_j0_29_S0 i0 i1)), (.int (own_f1 i0))])) XJ4.here hx rfl (pc0 := 29) (pc' := 34) rfl (hb hby at_29) rfl (Jvm.Free.XT.ii_eq_t hc5) (by decide) (by decide) kt) ?_
      have J8 : ∀ (TJ8 : State) (locsJ8 : List Loc), Stand p l e room_1 s m #[(.int i0), (.int i1)] below meth c TJ8 locsJ8 0 0 → TJ8.heap = h0 → Fr n0 locsJ8 → ownE p e below s (own_Q0 Z i0 i1 h0 n0) 0 0 TJ8 (mkF m 47 #[.val (.int i0), .val (.int i1), .val (.long (((i0.toInt64) - (9 : Int64)) * ((i0.toInt64) - (32 : Int64)))), .second, .unset, .unset] [(.int (own_j0_47_S0 i0 i1))]) := by
        intro TJ8 locsJ8 XJ8 eJ8 NJ8
        refine ownE.go (T' := TJ8) (f' := (mkF m 63 #[.val (.int i0), .val (.int i1), .val (.long (((i0.toInt64) - (9 : Int64)) * ((i0.toInt64) - (32 : Int64)))), .second, .val (.int (own_j0_47_S0 i0 i1)), .val (.int (((own_j0_47_S0 i0 i1) + ((i1 >>> ((1 : Int32) &&& 31)) &&& (3 : Int32))) - (1 : Int32)))] [(.int (own_j0_47_S0 i0 i1))])) (fun t kt => ?_) ?_
        · show Steps p.tables e below (TJ8.setTop (mkF m 47 #[.val (.int i0), .val (.int i1), .val (.long (((i0.toInt64) - (9 : Int64)) * ((i0.toInt64) - (32 : Int64)))), .second, .unset, .unset] [(.int (own_j0_47_S0 i0 i1))])) _
          refine XS.istore XJ8.here hx rfl (hb hby at_47) rfl (l' := #[.val (.int i0), .val (.int i1), .val (.long (((i0.toInt64) - (9 : Int64)) * ((i0.toInt64) - (32 : Int64)))), .second, .val (.int (own_j0_47_S0 i0 i1)), .unset]) rfl ?_
          show Steps p.tables e below (TJ8.setTop (mkF m 49 #[.val (.int i0), .val (.int i1), .val (.long (((i0.toInt64) - (9 : Int64)) * ((i0.toInt64) - (32 : Int64)))), .second, .val (.int (own_j0_47_S0 i0 i1)), .unset] [])) _
          refine XS.iload XJ8.here hx rfl (hb hby at_49) rfl ?_
          show Steps p.tables e below (TJ8.setTop (mkF m 51 #[.val (.int i0), .val (.int i1), .val (.long (((i0.toInt64) - (9 : Int64)) * ((i0.toInt64) - (32 : Int64)))), .second, .val (.int (own_j0_47_S0 i0 i1)), .unset] [(.int (own_j0_47_S0 i0 i1))])) _
          refine XS.iloadN XJ8.here hx rfl (hb hby at_51) rfl ?_
          show Steps p.tables e below (TJ8.setTop (mkF m 52 #[.val (.int i0), .val (.int i1), .val (.long (((i0.toInt64) - (9 : Int64)) * ((i0.toInt64) - (32 : Int64)))), .second, .val (.int (own_j0_47_S0 i0 i1)), .unset] [(.int i1), (.int (own_j0_47_S0 i0 i1))])) _
          refine XS.iconst XJ8.here hx rfl (hb hby at_52) ?_
          show Steps p.tables e below (TJ8.setTop (mkF m 53 #[.val (.int i0), .val (.int i1), .val (.long (((i0.toInt64) - (9 : Int64)) * ((i0.toInt64) - (32 : Int64)))), .second, .val (.int (own_j0_47_S0 i0 i1)), .unset] [(.int (1 : Int32)), (.int i1), (.int (own_j0_47_S0 i0 i1))])) _
          refine XS.ishr XJ8.here hx rfl (hb hby at_53) rfl ?_
          show Steps p.tables e below (TJ8.setTop (mkF m 54 #[.val (.int i0), .val (.int i1), .val (.long (((i0.toInt64) - (9 : Int64)) * ((i0.toInt64) - (32 : Int64)))), .second, .val (.int (own_j0_47_S0 i0 i1)), .unset] [(.int (i1 >>> ((1 : Int32) &&& 31))), (.int (own_j0_47_S0 i0 i1))])) _
          refine XS.iconst XJ8.here hx rfl (hb hby at_54) ?_
          show Steps p.tables e below (TJ8.setTop (mkF m 55 #[.val (.int i0), .val (.int i1), .val (.long (((i0.toInt64) - (9 : Int64)) * ((i0.toInt64) - (32 : Int64)))), .second, .val (.int (own_j0_47_S0 i0 i1)), .unset] [(.int (3 : Int32)), (.int (i1 >>> ((1 : Int32) &&& 31))), (.int (own_j0_47_S0 i0 i1))])) _
          refine XS.iand XJ8.here hx rfl (hb hby at_55) rfl ?_
          show Steps p.tables e below (TJ8.setTop (mkF m 56 #[.val (.int i0), .val (.int i1), .val (.long (((i0.toInt64) - (9 : Int64)) * ((i0.toInt64) - (32 : Int64)))), .second, .val (.int (own_j0_47_S0 i0 i1)), .unset] [(.int ((i1 >>> ((1 : Int32) &&& 31)) &&& (3 : Int32))), (.int (own_j0_47_S0 i0 i1))])) _
          refine XS.iadd XJ8.here hx rfl (hb hby at_56) rfl ?_
          show Steps p.tables e below (TJ8.setTop (mkF m 57 #[.val (.int i0), .val (.int i1), .val (.long (((i0.toInt64) - (9 : Int64)) * ((i0.toInt64) - (32 : Int64)))), .second, .val (.int (own_j0_47_S0 i0 i1)), .unset] [(.int ((own_j0_47_S0 i0 i1) + ((i1 >>> ((1 : Int32) &&& 31)) &&& (3 : Int32))))])) _
          refine XS.iconst XJ8.here hx rfl (hb hby at_57) ?_
          show Steps p.tables e below (TJ8.setTop (mkF m 58 #[.val (.int i0), .val (.int i1), .val (.long (((i0.toInt64) - (9 : Int64)) * ((i0.toInt64) - (32 : Int64)))), .second, .val (.int (own_j0_47_S0 i0 i1)), .unset] [(.int (1 : Int32)), (.int ((own_j0_47_S0 i0 i1) + ((i1 >>> ((1 : Int32) &&& 31)) &&& (3 : Int32))))])) _
          refine XS.isub XJ8.here hx rfl (hb hby at_58) rfl ?_
          show Steps p.tables e below (TJ8.setTop (mkF m 59 #[.val (.int i0), .val (.int i1), .val (.long (((i0.toInt64) - (9 : Int64)) * ((i0.toInt64) - (32 : Int64)))), .second, .val (.int (own_j0_47_S0 i0 i1)), .unset] [(.int (((own_j0_47_S0 i0 i1) + ((i1 >>> ((1 : Int32) &&& 31)) &&& (3 : Int32))) - (1 : Int32)))])) _
          refine XS.istore XJ8.here hx rfl (hb hby at_59) rfl (l' := #[.val (.int i0), .val (.int i1), .val (.long (((i0.toInt64) - (9 : Int64)) * ((i0.toInt64) - (32 : Int64)))), .second, .val (.int (own_j0_47_S0 i0 i1)), .val (.int (((own_j0_47_S0 i0 i1) + ((i1 >>> ((1 : Int32) &&& 31)) &&& (3 : Int32))) - (1 : Int32)))]) rfl ?_
          show Steps p.tables e below (TJ8.setTop (mkF m 61 #[.val (.int i0), .val (.int i1), .val (.long (((i0.toInt64) - (9 : Int64)) * ((i0.toInt64) - (32 : Int64)))), .second, .val (.int (own_j0_47_S0 i0 i1)), .val (.int (((own_j0_47_S0 i0 i1) + ((i1 >>> ((1 : Int32) &&& 31)) &&& (3 : Int32))) - (1 : Int32)))] [])) _
          refine XS.iload XJ8.here hx rfl (hb hby at_61) rfl ?_
          exact kt
        obtain ⟨_, _, ⟨T9, L9, k9, n9⟩, -, X9, ⟨Lc9, hQ9, l9, y9, z9⟩, st9⟩ := Jvm.LawKit.callS XJ8 hx (y := (⟨"com/example/venus_flytrap/venusflytrap/HttpSyntax", "isSpace", "(I)Z"⟩ : MethodName)) hown (mvT hZ (hw _ (List.mem_of_getElem? (i := 2) rfl))) (mvT hZ (hw _ (List.mem_of_getElem? (i := 3) rfl))) (mvT hZ (hw _ (List.mem_of_getElem? (i := 4) rfl))) (mvT hZ (hw _ (List.mem_of_getElem? (i := 5) rfl))) (by decide) (backOf (W := 0) (own_rm1 l Z a0 hw [] (own_j0_47_S0 i0 i1) h0 n0 (Nat.le_trans Z0 K0.1) ) hZ (hw _ (List.mem_of_getElem? (i := 5) rfl)) (hw _ (List.mem_of_getElem? (i := 4) rfl)) (by decide) (by decide)) (g := (mkF m 63 #[.val (.int i0), .val (.int i1), .val (.long (((i0.toInt64) - (9 : Int64)) * ((i0.toInt64) - (32 : Int64)))), .second, .val (.int (own_j0_47_S0 i0 i1)), .val (.int (((own_j0_47_S0 i0 i1) + ((i1 >>> ((1 : Int32) &&& 31)) &&& (3 : Int32))) - (1 : Int32)))] [(.int (own_j0_47_S0 i0 i1))])) rfl (by rw [hml]; rfl) (argsL := [(.int (own_j0_47_S0 i0 i1))]) (rest := []) (lenOf own_pd1 rfl) rfl (by show 2 * 0 + _ ≤ _; exact Nat.le_of_eq rfl) (hb hby at_63) (fun _ _ => ⟨rfl, eJ8, (by decide : 0 + 0 ≤ _), (by decide : 0 + 0 ≤ _)⟩)
        dsimp only [Pt.U, Pt.locs, Pt.cells, Pt.slots] at X9 l9 y9 z9 st9 hQ9
        subst l9 y9 z9
        obtain ⟨rfl, N9q, e9⟩ := hQ9
        have N9 := Fr.app NJ8 N9q
        refine ownE.go (T' := T9) (f' := (mkF m 66 #[.val (.int i0), .val (.int i1), .val (.long (((i0.toInt64) - (9 : Int64)) * ((i0.toInt64) - (32 : Int64)))), .second, .val (.int (own_j0_47_S0 i0 i1)), .val (.int (((own_j0_47_S0 i0 i1) + ((i1 >>> ((1 : Int32) &&& 31)) &&& (3 : Int32))) - (1 : Int32)))] [(.int (own_f1 (own_j0_47_S0 i0 i1)))])) st9 ?_
        by_cases hc10 : (own_f1 (own_j0_47_S0 i0 i1)) = (0 : Int32)
        · -- pc 66
          refine ownE.go (T' := T9) (f' := (mkF m 69 #[.val (.int i0), .val (.int i1), .val (.long (((i0.toInt64) - (9 : Int64)) * ((i0.toInt64) - (32 : Int64)))), .second, .val (.int (own_j0_47_S0 i0 i1)), .val (.int (((own_j0_47_S0 i0 i1) + ((i1 >>> ((1 : Int32) &&& 31)) &&& (3 : Int32))) - (1 : Int32)))] [])) (fun t kt => XS.ifNo (g := (mkF m 66 #[.val (.int i0), .val (.int i1), .val (.long (((i0.toInt64) - (9 : Int64)) * ((i0.toInt64) - (32 : Int64)))), .second, .val (.int (own_j0_47_S0 i0 i1)), .val (.int (((own_j0_47_S0 i0 i1) + ((i1 >>> ((1 : Int32) &&& 31)) &&& (3 : Int32))) - (1 : Int32)))] [(.int (own_f1 (own_j0_47_S0 i0 i1)))])) X9.here hx rfl (hb hby at_66) rfl (Jvm.Free.XT.i0_ne_f hc10) kt) ?_
          refine ownE.go (T' := T9) (f' := (mkF m 70 #[.val (.int i0), .val (.int i1), .val (.long (((i0.toInt64) - (9 : Int64)) * ((i0.toInt64) - (32 : Int64)))), .second, .val (.int (own_j0_47_S0 i0 i1)), .val (.int (((own_j0_47_S0 i0 i1) + ((i1 >>> ((1 : Int32) &&& 31)) &&& (3 : Int32))) - (1 : Int32)))] [(.int (0 : Int32))])) (fun t kt => ?_) ?_
          · show Steps p.tables e below (T9.setTop (mkF m 69 #[.val (.int i0), .val (.int i1), .val (.long (((i0.toInt64) - (9 : Int64)) * ((i0.toInt64) - (32 : Int64)))), .second, .val (.int (own_j0_47_S0 i0 i1)), .val (.int (((own_j0_47_S0 i0 i1) + ((i1 >>> ((1 : Int32) &&& 31)) &&& (3 : Int32))) - (1 : Int32)))] [])) _
            refine XS.iconst X9.here hx rfl (hb hby at_69) ?_
            exact kt
          refine ownE.retN X9 hx hlk (t := .boolean) hret (by simp) (hb hby at_70) ?_ (by decide) (by decide)
          show own_Q0 Z i0 i1 h0 n0 _ T9.heap _
          rw [e9]
          exact ⟨(by rw [own_f0, if_pos hc5, if_pos hc10] <;> first | rfl | decide), N9, rfl⟩
        · -- pc 66
          refine ownE.go (T' := T9) (f' := (mkF m 71 #[.val (.int i0), .val (.int i1), .val (.long (((i0.toInt64) - (9 : Int64)) * ((i0.toInt64) - (32 : Int64)))), .second, .val (.int (own_j0_47_S0 i0 i1)), .val (.int (((own_j0_47_S0 i0 i1) + ((i1 >>> ((1 : Int32) &&& 31)) &&& (3 : Int32))) - (1 : Int32)))] [])) (fun t kt => XS.ifYes (g := (mkF m 66 #[.val (.int i0), .val (.int i1), .val (.long (((i0.toInt64) - (9 : Int64)) * ((i0.toInt64) - (32 : Int64)))), .second, .val (.int (own_j0_47_S0 i0 i1)), .val (.int (((own_j0_47_S0 i0 i1) + ((i1 >>> ((1 : Int32) &&& 31)) &&& (3 : Int32))) - (1 : Int32)))] [(.int (own_f1 (own_j0_47_S0 i0 i1)))])) X9.here hx rfl (pc0 := 66) (pc' := 71) rfl (hb hby at_66) rfl (Jvm.Free.XT.i0_ne_t hc10) (by decide) (by decide) kt) ?_
          refine ownE.go (T' := T9) (f' := (mkF m 73 #[.val (.int i0), .val (.int i1), .val (.long (((i0.toInt64) - (9 : Int64)) * ((i0.toInt64) - (32 : Int64)))), .second, .val (.int (own_j0_47_S0 i0 i1)), .val (.int (((own_j0_47_S0 i0 i1) + ((i1 >>> ((1 : Int32) &&& 31)) &&& (3 : Int32))) - (1 : Int32)))] [(.int (((own_j0_47_S0 i0 i1) + ((i1 >>> ((1 : Int32) &&& 31)) &&& (3 : Int32))) - (1 : Int32)))])) (fun t kt => ?_) ?_
          · show Steps p.tables e below (T9.setTop (mkF m 71 #[.val (.int i0), .val (.int i1), .val (.long (((i0.toInt64) - (9 : Int64)) * ((i0.toInt64) - (32 : Int64)))), .second, .val (.int (own_j0_47_S0 i0 i1)), .val (.int (((own_j0_47_S0 i0 i1) + ((i1 >>> ((1 : Int32) &&& 31)) &&& (3 : Int32))) - (1 : Int32)))] [])) _
            refine XS.iload X9.here hx rfl (hb hby at_71) rfl ?_
            exact kt
          obtain ⟨_, _, ⟨T11, L11, k11, n11⟩, -, X11, ⟨Lc11, hQ11, l11, y11, z11⟩, st11⟩ := Jvm.LawKit.callS X9 hx (y := (⟨"com/example/venus_flytrap/venusflytrap/HttpSyntax", "isSpace", "(I)Z"⟩ : MethodName)) hown (mvT hZ (hw _ (List.mem_of_getElem? (i := 2) rfl))) (mvT hZ (hw _ (List.mem_of_getElem? (i := 3) rfl))) (mvT hZ (hw _ (List.mem_of_getElem? (i := 4) rfl))) (mvT hZ (hw _ (List.mem_of_getElem? (i := 5) rfl))) (by decide) (backOf (W := 0) (own_rm1 l Z a0 hw [] (((own_j0_47_S0 i0 i1) + ((i1 >>> ((1 : Int32) &&& 31)) &&& (3 : Int32))) - (1 : Int32)) h0 n0 (Nat.le_trans Z0 K0.1) ) hZ (hw _ (List.mem_of_getElem? (i := 5) rfl)) (hw _ (List.mem_of_getElem? (i := 4) rfl)) (by decide) (by decide)) (g := (mkF m 73 #[.val (.int i0), .val (.int i1), .val (.long (((i0.toInt64) - (9 : Int64)) * ((i0.toInt64) - (32 : Int64)))), .second, .val (.int (own_j0_47_S0 i0 i1)), .val (.int (((own_j0_47_S0 i0 i1) + ((i1 >>> ((1 : Int32) &&& 31)) &&& (3 : Int32))) - (1 : Int32)))] [(.int (((own_j0_47_S0 i0 i1) + ((i1 >>> ((1 : Int32) &&& 31)) &&& (3 : Int32))) - (1 : Int32)))])) rfl (by rw [hml]; rfl) (argsL := [(.int (((own_j0_47_S0 i0 i1) + ((i1 >>> ((1 : Int32) &&& 31)) &&& (3 : Int32))) - (1 : Int32)))]) (rest := []) (lenOf own_pd1 rfl) rfl (by show 2 * 0 + _ ≤ _; exact Nat.le_of_eq rfl) (hb hby at_73) (fun _ _ => ⟨rfl, e9, (by decide : 0 + 0 ≤ _), (by decide : 0 + 0 ≤ _)⟩)
          dsimp only [Pt.U, Pt.locs, Pt.cells, Pt.slots] at X11 l11 y11 z11 st11 hQ11
          subst l11 y11 z11
          obtain ⟨rfl, N11q, e11⟩ := hQ11
          have N11 := Fr.app N9 N11q
          refine ownE.go (T' := T11) (f' := (mkF m 76 #[.val (.int i0), .val (.int i1), .val (.long (((i0.toInt64) - (9 : Int64)) * ((i0.toInt64) - (32 : Int64)))), .second, .val (.int (own_j0_47_S0 i0 i1)), .val (.int (((own_j0_47_S0 i0 i1) + ((i1 >>> ((1 : Int32) &&& 31)) &&& (3 : Int32))) - (1 : Int32)))] [(.int (own_f1 (((own_j0_47_S0 i0 i1) + ((i1 >>> ((1 : Int32) &&& 31)) &&& (3 : Int32))) - (1 : Int32))))])) st11 ?_
          have J14 : ∀ (TJ14 : State) (locsJ14 : List Loc), Stand p l e room_1 s m #[(.int i0), (.int i1)] below meth c TJ14 locsJ14 0 0 → TJ14.heap = h0 → Fr n0 locsJ14 → ownE p e below s (own_Q0 Z i0 i1 h0 n0) 0 0 TJ14 (mkF m 88 #[.val (.int i0), .val (.int i1), .val (.long (((i0.toInt64) - (9 : Int64)) * ((i0.toInt64) - (32 : Int64)))), .second, .val (.int (own_j0_47_S0 i0 i1)), .val (.int (((own_j0_47_S0 i0 i1) + ((i1 >>> ((1 : Int32) &&& 31)) &&& (3 : Int32))) - (1 : Int32)))] [(.int (own_j0_88_S0 i0 i1)), (.int (own_f1 (((own_j0_47_S0 i0 i1) + ((i1 >>> ((1 : Int32) &&& 31)) &&& (3 : Int32))) - (1 : Int32))))]) := by
            intro TJ14 locsJ14 XJ14 eJ14 NJ14
            by_cases hc15 : (own_f1 (((own_j0_47_S0 i0 i1) + ((i1 >>> ((1 : Int32) &&& 31)) &&& (3 : Int32))) - (1 : Int32))) = (own_j0_88_S0 i0 i1)
            · -- pc 88
              refine ownE.go (T' := TJ14) (f' := (mkF m 91 #[.val (.int i0), .val (.int i1), .val (.long (((i0.toInt64) - (9 : Int64)) * ((i0.toInt64) - (32 : Int64)))), .second, .val (.int (own_j0_47_S0 i0 i1)), .val (.int (((own_j0_47_S0 i0 i1) + ((i1 >>> ((1 : Int32) &&& 31)) &&& (3 : Int32))) - (1 : Int32)))] [])) (fun t kt => XS.icmpNo (g := (mkF m 88 #[.val (.int i0), .val (.int i1), .val (.long (((i0.toInt64) - (9 : Int64)) * ((i0.toInt64) - (32 : Int64)))), .second, .val (.int (own_j0_47_S0 i0 i1)), .val (.int (((own_j0_47_S0 i0 i1) + ((i1 >>> ((1 : Int32) &&& 31)) &&& (3 : Int32))) - (1 : Int32)))] [(.int (own_j0_88_S0 i0 i1)), (.int (own_f1 (((own_j0_47_S0 i0 i1) + ((i1 >>> ((1 : Int32) &&& 31)) &&& (3 : Int32))) - (1 : Int32))))])) XJ14.here hx rfl (hb hby at_88) rfl (Jvm.Free.XT.ii_ne_f hc15) kt) ?_
              refine ownE.go (T' := TJ14) (f' := (mkF m 96 #[.val (.int i0), .val (.int i1), .val (.long (((i0.toInt64) - (9 : Int64)) * ((i0.toInt64) - (32 : Int64)))), .second, .val (.int (own_j0_47_S0 i0 i1)), .val (.int (((own_j0_47_S0 i0 i1) + ((i1 >>> ((1 : Int32) &&& 31)) &&& (3 : Int32))) - (1 : Int32)))] [(.int (1 : Int32))])) (fun t kt => ?_) ?_
              · show Steps p.tables e below (TJ14.setTop (mkF m 91 #[.val (.int i0), .val (.int i1), .val (.long (((i0.toInt64) - (9 : Int64)) * ((i0.toInt64) - (32 : Int64)))), .second, .val (.int (own_j0_47_S0 i0 i1)), .val (.int (((own_j0_47_S0 i0 i1) + ((i1 >>> ((1 : Int32) &&& 31)) &&& (3 : Int32))) - (1 : Int32)))] [])) _
                refine XS.iconst XJ14.here hx rfl (hb hby at_91) ?_
                show Steps p.tables e below (TJ14.setTop (mkF m 92 #[.val (.int i0), .val (.int i1), .val (.long (((i0.toInt64) - (9 : Int64)) * ((i0.toInt64) - (32 : Int64)))), .second, .val (.int (own_j0_47_S0 i0 i1)), .val (.int (((own_j0_47_S0 i0 i1) + ((i1 >>> ((1 : Int32) &&& 31)) &&& (3 : Int32))) - (1 : Int32)))] [(.int (1 : Int32))])) _
                refine XS.goto XJ14.here hx rfl (pc0 := 92) (pc' := 96) rfl (hb hby at_92) (by decide) (by decide) ?_
                exact kt
              refine ownE.retN XJ14 hx hlk (t := .boolean) hret (by simp) (hb hby at_96) ?_ (by decide) (by decide)
              show own_Q0 Z i0 i1 h0 n0 _ TJ14.heap _
              rw [eJ14]
              exact ⟨(by rw [own_f0, if_pos hc5, if_neg hc10, if_pos hc15] <;> first | rfl | decide), NJ14, rfl⟩
            · -- pc 88
              refine ownE.go (T' := TJ14) (f' := (mkF m 95 #[.val (.int i0), .val (.int i1), .val (.long (((i0.toInt64) - (9 : Int64)) * ((i0.toInt64) - (32 : Int64)))), .second, .val (.int (own_j0_47_S0 i0 i1)), .val (.int (((own_j0_47_S0 i0 i1) + ((i1 >>> ((1 : Int32) &&& 31)) &&& (3 : Int32))) - (1 : Int32)))] [])) (fun t kt => XS.icmpYes (g := (mkF m 88 #[.val (.int i0), .val (.int i1), .val (.long (((i0.toInt64) - (9 : Int64)) * ((i0.toInt64) - (32 : Int64)))), .second, .val (.int (own_j0_47_S0 i0 i1)), .val (.int (((own_j0_47_S0 i0 i1) + ((i1 >>> ((1 : Int32) &&& 31)) &&& (3 : Int32))) - (1 : Int32)))] [(.int (own_j0_88_S0 i0 i1)), (.int (own_f1 (((own_j0_47_S0 i0 i1) + ((i1 >>> ((1 : Int32) &&& 31)) &&& (3 : Int32))) - (1 : Int32))))])) XJ14.here hx rfl (pc0 := 88) (pc' := 95) rfl (hb hby at_88) rfl (Jvm.Free.XT.ii_ne_t hc15) (by decide) (by decide) kt) ?_
              refine ownE.go (T' := TJ14) (f' := (mkF m 96 #[.val (.int i0), .val (.int i1), .val (.long (((i0.toInt64) - (9 : Int64)) * ((i0.toInt64) - (32 : Int64)))), .second, .val (.int (own_j0_47_S0 i0 i1)), .val (.int (((own_j0_47_S0 i0 i1) + ((i1 >>> ((1 : Int32) &&& 31)) &&& (3 : Int32))) - (1 : Int32)))] [(.int (0 : Int32))])) (fun t kt => ?_) ?_
              · show Steps p.tables e below (TJ14.setTop (mkF m 95 #[.val (.int i0), .val (.int i1), .val (.long (((i0.toInt64) - (9 : Int64)) * ((i0.toInt64) - (32 : Int64)))), .second, .val (.int (own_j0_47_S0 i0 i1)), .val (.int (((own_j0_47_S0 i0 i1) + ((i1 >>> ((1 : Int32) &&& 31)) &&& (3 : Int32))) - (1 : Int32)))] [])) _
                refine XS.iconst XJ14.here hx rfl (hb hby at_95) ?_
                exact kt
              refine ownE.retN XJ14 hx hlk (t := .boolean) hret (by simp) (hb hby at_96) ?_ (by decide) (by decide)
              show own_Q0 Z i0 i1 h0 n0 _ TJ14.heap _
              rw [eJ14]
              exact ⟨(by rw [own_f0, if_pos hc5, if_neg hc10, if_neg hc15] <;> first | rfl | decide), NJ14, rfl⟩
          refine ownE.go (T' := T11) (f' := (mkF m 80 #[.val (.int i0), .val (.int i1), .val (.long (((i0.toInt64) - (9 : Int64)) * ((i0.toInt64) - (32 : Int64)))), .second, .val (.int (own_j0_47_S0 i0 i1)), .val (.int (((own_j0_47_S0 i0 i1) + ((i1 >>> ((1 : Int32) &&& 31)) &&& (3 : Int32))) - (1 : Int32)))] [(.int (own_j0_47_S0 i0 i1)), (.int (((own_j0_47_S0 i0 i1) + ((i1 >>> ((1 : Int32) &&& 31)) &&& (3 : Int32))) - (1 : Int32))), (.int (own_f1 (((own_j0_47_S0 i0 i1) + ((i1 >>> ((1 : Int32) &&& 31)) &&& (3 : Int32))) - (1 : Int32))))])) (fun t kt => ?_) ?_
          · show Steps p.tables e below (T11.setTop (mkF m 76 #[.val (.int i0), .val (.int i1), .val (.long (((i0.toInt64) - (9 : Int64)) * ((i0.toInt64) - (32 : Int64)))), .second, .val (.int (own_j0_47_S0 i0 i1)), .val (.int (((own_j0_47_S0 i0 i1) + ((i1 >>> ((1 : Int32) &&& 31)) &&& (3 : Int32))) - (1 : Int32)))] [(.int (own_f1 (((own_j0_47_S0 i0 i1) + ((i1 >>> ((1 : Int32) &&& 31)) &&& (3 : Int32))) - (1 : Int32))))])) _
            refine XS.iload X11.here hx rfl (hb hby at_76) rfl ?_
            show Steps p.tables e below (T11.setTop (mkF m 78 #[.val (.int i0), .val (.int i1), .val (.long (((i0.toInt64) - (9 : Int64)) * ((i0.toInt64) - (32 : Int64)))), .second, .val (.int (own_j0_47_S0 i0 i1)), .val (.int (((own_j0_47_S0 i0 i1) + ((i1 >>> ((1 : Int32) &&& 31)) &&& (3 : Int32))) - (1 : Int32)))] [(.int (((own_j0_47_S0 i0 i1) + ((i1 >>> ((1 : Int32) &&& 31)) &&& (3 : Int32))) - (1 : Int32))), (.int (own_f1 (((own_j0_47_S0 i0 i1) + ((i1 >>> ((1 : Int32) &&& 31)) &&& (3 : Int32))) - (1 : Int32))))])) _
            refine XS.iload X11.here hx rfl (hb hby at_78) rfl ?_
            exact kt
          by_cases hc13 : (((own_j0_47_S0 i0 i1) + ((i1 >>> ((1 : Int32) &&& 31)) &&& (3 : Int32))) - (1 : Int32)) = (own_j0_47_S0 i0 i1)
          · -- pc 80
            refine ownE.go (T' := T11) (f' := (mkF m 83 #[.val (.int i0), .val (.int i1), .val (.long (((i0.toInt64) - (9 : Int64)) * ((i0.toInt64) - (32 : Int64)))), .second, .val (.int (own_j0_47_S0 i0 i1)), .val (.int (((own_j0_47_S0 i0 i1) + ((i1 >>> ((1 : Int32) &&& 31)) &&& (3 : Int32))) - (1 : Int32)))] [(.int (own_f1 (((own_j0_47_S0 i0 i1) + ((i1 >>> ((1 : Int32) &&& 31)) &&& (3 : Int32))) - (1 : Int32))))])) (fun t kt => XS.icmpNo (g := (mkF m 80 #[.val (.int i0), .val (.int i1), .val (.long (((i0.toInt64) - (9 : Int64)) * ((i0.toInt64) - (32 : Int64)))), .second, .val (.int (own_j0_47_S0 i0 i1)), .val (.int (((own_j0_47_S0 i0 i1) + ((i1 >>> ((1 : Int32) &&& 31)) &&& (3 : Int32))) - (1 : Int32)))] [(.int (own_j0_47_S0 i0 i1)), (.int (((own_j0_47_S0 i0 i1) + ((i1 >>> ((1 : Int32) &&& 31)) &&& (3 : Int32))) - (1 : Int32))), (.int (own_f1 (((own_j0_47_S0 i0 i1) + ((i1 >>> ((1 : Int32) &&& 31)) &&& (3 : Int32))) - (1 : Int32))))])) X11.here hx rfl (hb hby at_80) rfl (Jvm.Free.XT.ii_ne_f hc13) kt) ?_
            refine ownE.go (T' := T11) (f' := (mkF m 88 #[.val (.int i0), .val (.int i1), .val (.long (((i0.toInt64) - (9 : Int64)) * ((i0.toInt64) - (32 : Int64)))), .second, .val (.int (own_j0_47_S0 i0 i1)), .val (.int (((own_j0_47_S0 i0 i1) + ((i1 >>> ((1 : Int32) &&& 31)) &&& (3 : Int32))) - (1 : Int32)))] [(.int (1 : Int32)), (.int (own_f1 (((own_j0_47_S0 i0 i1) + ((i1 >>> ((1 : Int32) &&& 31)) &&& (3 : Int32))) - (1 : Int32))))])) (fun t kt => ?_) ?_
            · show Steps p.tables e below (T11.setTop (mkF m 83 #[.val (.int i0), .val (.int i1), .val (.long (((i0.toInt64) - (9 : Int64)) * ((i0.toInt64) - (32 : Int64)))), .second, .val (.int (own_j0_47_S0 i0 i1)), .val (.int (((own_j0_47_S0 i0 i1) + ((i1 >>> ((1 : Int32) &&& 31)) &&& (3 : Int32))) - (1 : Int32)))] [(.int (own_f1 (((own_j0_47_S0 i0 i1) + ((i1 >>> ((1 : Int32) &&& 31)) &&& (3 : Int32))) - (1 : Int32))))])) _
              refine XS.iconst X11.here hx rfl (hb hby at_83) ?_
              show Steps p.tables e below (T11.setTop (mkF m 84 #[.val (.int i0), .val (.int i1), .val (.long (((i0.toInt64) - (9 : Int64)) * ((i0.toInt64) - (32 : Int64)))), .second, .val (.int (own_j0_47_S0 i0 i1)), .val (.int (((own_j0_47_S0 i0 i1) + ((i1 >>> ((1 : Int32) &&& 31)) &&& (3 : Int32))) - (1 : Int32)))] [(.int (1 : Int32)), (.int (own_f1 (((own_j0_47_S0 i0 i1) + ((i1 >>> ((1 : Int32) &&& 31)) &&& (3 : Int32))) - (1 : Int32))))])) _
              refine XS.goto X11.here hx rfl (pc0 := 84) (pc' := 88) rfl (hb hby at_84) (by decide) (by decide) ?_
              exact kt
            have jj := J14 _ _ X11 e11 N11
            rw [show (own_j0_88_S0 i0 i1) = (1 : Int32) from by rw [own_j0_88_S0, if_pos hc13]] at jj
            exact jj
          · -- pc 80
            refine ownE.go (T' := T11) (f' := (mkF m 87 #[.val (.int i0), .val (.int i1), .val (.long (((i0.toInt64) - (9 : Int64)) * ((i0.toInt64) - (32 : Int64)))), .second, .val (.int (own_j0_47_S0 i0 i1)), .val (.int (((own_j0_47_S0 i0 i1) + ((i1 >>> ((1 : Int32) &&& 31)) &&& (3 : Int32))) - (1 : Int32)))] [(.int (own_f1 (((own_j0_47_S0 i0 i1) + ((i1 >>> ((1 : Int32) &&& 31)) &&& (3 : Int32))) - (1 : Int32))))])) (fun t kt => XS.icmpYes (g := (mkF m 80 #[.val (.int i0), .val (.int i1), .val (.long (((i0.toInt64) - (9 : Int64)) * ((i0.toInt64) - (32 : Int64)))), .second, .val (.int (own_j0_47_S0 i0 i1)), .val (.int (((own_j0_47_S0 i0 i1) + ((i1 >>> ((1 : Int32) &&& 31)) &&& (3 : Int32))) - (1 : Int32)))] [(.int (own_j0_47_S0 i0 i1)), (.int (((own_j0_47_S0 i0 i1) + ((i1 >>> ((1 : Int32) &&& 31)) &&& (3 : Int32))) - (1 : Int32))), (.int (own_f1 (((own_j0_47_S0 i0 i1) + ((i1 >>> ((1 : Int32) &&& 31)) &&& (3 : Int32))) - (1 : Int32))))])) X11.here hx rfl (pc0 := 80) (pc' := 87) rfl (hb hby at_80) rfl (Jvm.Free.XT.ii_ne_t hc13) (by decide) (by decide) kt) ?_
            refine ownE.go (T' := T11) (f' := (mkF m 88 #[.val (.int i0), .val (.int i1), .val (.long (((i0.toInt64) - (9 : Int64)) * ((i0.toInt64) - (32 : Int64)))), .second, .val (.int (own_j0_47_S0 i0 i1)), .val (.int (((own_j0_47_S0 i0 i1) + ((i1 >>> ((1 : Int32) &&& 31)) &&& (3 : Int32))) - (1 : Int32)))] [(.int (0 : Int32)), (.int (own_f1 (((own_j0_47_S0 i0 i1) + ((i1 >>> ((1 : Int32) &&& 31)) &&& (3 : Int32))) - (1 : Int32))))])) (fun t kt => ?_) ?_
            · show Steps p.tables e below (T11.setTop (mkF m 87 #[.val (.int i0), .val (.int i1), .val (.long (((i0.toInt64) - (9 : Int64)) * ((i0.toInt64) - (32 : Int64)))), .second, .val (.int (own_j0_47_S0 i0 i1)), .val (.int (((own_j0_47_S0 i0 i1) + ((i1 >>> ((1 : Int32) &&& 31)) &&& (3 : Int32))) - (1 : Int32)))] [(.int (own_f1 (((own_j0_47_S0 i0 i1) + ((i1 >>> ((1 : Int32) &&& 31)) &&& (3 : Int32))) - (1 : Int32))))])) _
              refine XS.iconst X11.here hx rfl (hb hby at_87) ?_
              exact kt
            have jj := J14 _ _ X11 e11 N11
            rw [show (own_j0_88_S0 i0 i1) = (0 : Int32) from by rw [own_j0_88_S0, if_neg hc13]] at jj
            exact jj
      refine ownE.go (T' := TJ4) (f' := (mkF m 37 #[.val (.int i0), .val (.int i1), .val (.long (((i0.toInt64) - (9 : Int64)) * ((i0.toInt64) - (32 : Int64)))), .second, .unset, .unset] [(.int (i1 &&& (1 : Int32)))])) (fun t kt => ?_) ?_
      · show Steps p.tables e below (TJ4.setTop (mkF m 34 #[.val (.int i0), .val (.int i1), .val (.long (((i0.toInt64) - (9 : Int64)) * ((i0.toInt64) - (32 : Int64)))), .second, .unset, .unset] [])) _
        refine XS.iloadN XJ4.here hx rfl (hb hby at_34) rfl ?_
        show Steps p.tables e below (TJ4.setTop (mkF m 35 #[.val (.int i0), .val (.int i1), .val (.long (((i0.toInt64) - (9 : Int64)) * ((i0.toInt64) - (32 : Int64)))), .second, .unset, .unset] [(.int i1)])) _
        refine XS.iconst XJ4.here hx rfl (hb hby at_35) ?_
        show Steps p.tables e below (TJ4.setTop (mkF m 36 #[.val (.int i0), .val (.int i1), .val (.long (((i0.toInt64) - (9 : Int64)) * ((i0.toInt64) - (32 : Int64)))), .second, .unset, .unset] [(.int (1 : Int32)), (.int i1)])) _
        refine XS.iand XJ4.here hx rfl (hb hby at_36) rfl ?_
        exact kt
      by_cases hc7 : (i1 &&& (1 : Int32)) = (0 : Int32)
      · -- pc 37
        refine ownE.go (T' := TJ4) (f' := (mkF m 45 #[.val (.int i0), .val (.int i1), .val (.long (((i0.toInt64) - (9 : Int64)) * ((i0.toInt64) - (32 : Int64)))), .second, .unset, .unset] [])) (fun t kt => XS.ifYes (g := (mkF m 37 #[.val (.int i0), .val (.int i1), .val (.long (((i0.toInt64) - (9 : Int64)) * ((i0.toInt64) - (32 : Int64)))), .second, .unset, .unset] [(.int (i1 &&& (1 : Int32)))])) XJ4.here hx rfl (pc0 := 37) (pc' := 45) rfl (hb hby at_37) rfl (Jvm.Free.XT.i0_eq_t hc7) (by decide) (by decide) kt) ?_
        refine ownE.go (T' := TJ4) (f' := (mkF m 47 #[.val (.int i0), .val (.int i1), .val (.long (((i0.toInt64) - (9 : Int64)) * ((i0.toInt64) - (32 : Int64)))), .second, .unset, .unset] [(.int (32 : Int32))])) (fun t kt => ?_) ?_
        · show Steps p.tables e below (TJ4.setTop (mkF m 45 #[.val (.int i0), .val (.int i1), .val (.long (((i0.toInt64) - (9 : Int64)) * ((i0.toInt64) - (32 : Int64)))), .second, .unset, .unset] [])) _
          refine XS.bipush XJ4.here hx rfl (hb hby at_45) ?_
          exact kt
        have jj := J8 _ _ XJ4 eJ4 NJ4
        rw [show (own_j0_47_S0 i0 i1) = (32 : Int32) from by rw [own_j0_47_S0, if_pos hc7]] at jj
        exact jj
      · -- pc 37
        refine ownE.go (T' := TJ4) (f' := (mkF m 40 #[.val (.int i0), .val (.int i1), .val (.long (((i0.toInt64) - (9 : Int64)) * ((i0.toInt64) - (32 : Int64)))), .second, .unset, .unset] [])) (fun t kt => XS.ifNo (g := (mkF m 37 #[.val (.int i0), .val (.int i1), .val (.long (((i0.toInt64) - (9 : Int64)) * ((i0.toInt64) - (32 : Int64)))), .second, .unset, .unset] [(.int (i1 &&& (1 : Int32)))])) XJ4.here hx rfl (hb hby at_37) rfl (Jvm.Free.XT.i0_eq_f hc7) kt) ?_
        refine ownE.go (T' := TJ4) (f' := (mkF m 47 #[.val (.int i0), .val (.int i1), .val (.long (((i0.toInt64) - (9 : Int64)) * ((i0.toInt64) - (32 : Int64)))), .second, .unset, .unset] [(.int (9 : Int32))])) (fun t kt => ?_) ?_
        · show Steps p.tables e below (TJ4.setTop (mkF m 40 #[.val (.int i0), .val (.int i1), .val (.long (((i0.toInt64) - (9 : Int64)) * ((i0.toInt64) - (32 : Int64)))), .second, .unset, .unset] [])) _
          refine XS.bipush XJ4.here hx rfl (hb hby at_40) ?_
          show Steps p.tables e below (TJ4.setTop (mkF m 42 #[.val (.int i0), .val (.int i1), .val (.long (((i0.toInt64) - (9 : Int64)) * ((i0.toInt64) - (32 : Int64)))), .second, .unset, .unset] [(.int (9 : Int32))])) _
          refine XS.goto XJ4.here hx rfl (pc0 := 42) (pc' := 47) rfl (hb hby at_42) (by decide) (by decide) ?_
          exact kt
        have jj := J8 _ _ XJ4 eJ4 NJ4
        rw [show (own_j0_47_S0 i0 i1) = (9 : Int32) from by rw [own_j0_47_S0, if_neg hc7]] at jj
        exact jj
    · -- pc 29
      refine ownE.go (T' := TJ4) (f' := (mkF m 32 #[.val (.int i0), .val (.int i1), .val (.long (((i0.toInt64) - (9 : Int64)) * ((i0.toInt64) - (32 : Int64)))), .second, .unset, .unset] [])) (fun t kt => XS.icmpNo (g := (mkF m 29 #[.val (.int i0), .val (.int i1), .val (.long (((i0.toInt64) - (9 : Int64)) * ((i0.toInt64) - (32 : Int64)))), .second, .unset, .unset] [(.int (own_j0_29_S0 i0 i1)), (.int (own_f1 i0))])) XJ4.here hx rfl (hb hby at_29) rfl (Jvm.Free.XT.ii_eq_f hc5) kt) ?_
      refine ownE.go (T' := TJ4) (f' := (mkF m 33 #[.val (.int i0), .val (.int i1), .val (.long (((i0.toInt64) - (9 : Int64)) * ((i0.toInt64) - (32 : Int64)))), .second, .unset, .unset] [(.int (0 : Int32))])) (fun t kt => ?_) ?_
      · show Steps p.tables e below (TJ4.setTop (mkF m 32 #[.val (.int i0), .val (.int i1), .val (.long (((i0.toInt64) - (9 : Int64)) * ((i0.toInt64) - (32 : Int64)))), .second, .unset, .unset] [])) _
        refine XS.iconst XJ4.here hx rfl (hb hby at_32) ?_
        exact kt
      refine ownE.retN XJ4 hx hlk (t := .boolean) hret (by simp) (hb hby at_33) ?_ (by decide) (by decide)
      show own_Q0 Z i0 i1 h0 n0 _ TJ4.heap _
      rw [eJ4]
      exact ⟨(by rw [own_f0, if_neg hc5] <;> first | rfl | decide), NJ4, rfl⟩
  refine ownE.go (T' := T1) (f' := (mkF m 21 #[.val (.int i0), .val (.int i1), .val (.long (((i0.toInt64) - (9 : Int64)) * ((i0.toInt64) - (32 : Int64)))), .second, .unset, .unset] [(.int (Jvm.Free.XT.cmpL (((i0.toInt64) - (9 : Int64)) * ((i0.toInt64) - (32 : Int64))) (0 : Int64))), (.int (own_f1 i0))])) (fun t kt => ?_) ?_
  · show Steps p.tables e below (T1.setTop (mkF m 18 #[.val (.int i0), .val (.int i1), .val (.long (((i0.toInt64) - (9 : Int64)) * ((i0.toInt64) - (32 : Int64)))), .second, .unset, .unset] [(.int (own_f1 i0))])) _
    refine XS.lloadN X1.here hx rfl (hb hby at_18) rfl ?_
    show Steps p.tables e below (T1.setTop (mkF m 19 #[.val (.int i0), .val (.int i1), .val (.long (((i0.toInt64) - (9 : Int64)) * ((i0.toInt64) - (32 : Int64)))), .second, .unset, .unset] [(.long (((i0.toInt64) - (9 : Int64)) * ((i0.toInt64) - (32 : Int64)))), (.int (own_f1 i0))])) _
    refine XS.lconst X1.here hx rfl (hb hby at_19) ?_
    show Steps p.tables e below (T1.setTop (mkF m 20 #[.val (.int i0), .val (.int i1), .val (.long (((i0.toInt64) - (9 : Int64)) * ((i0.toInt64) - (32 : Int64)))), .second, .unset, .unset] [(.long (0 : Int64)), (.long (((i0.toInt64) - (9 : Int64)) * ((i0.toInt64) - (32 : Int64)))), (.int (own_f1 i0))])) _
    refine XS.lcmp X1.here hx rfl (hb hby at_20) rfl ?_
    exact kt
  by_cases hc3 : (((i0.toInt64) - (9 : Int64)) * ((i0.toInt64) - (32 : Int64))) = (0 : Int64)
  · -- pc 21
    refine ownE.go (T' := T1) (f' := (mkF m 24 #[.val (.int i0), .val (.int i1), .val (.long (((i0.toInt64) - (9 : Int64)) * ((i0.toInt64) - (32 : Int64)))), .second, .unset, .unset] [(.int (own_f1 i0))])) (fun t kt => XS.ifNo (g := (mkF m 21 #[.val (.int i0), .val (.int i1), .val (.long (((i0.toInt64) - (9 : Int64)) * ((i0.toInt64) - (32 : Int64)))), .second, .unset, .unset] [(.int (Jvm.Free.XT.cmpL (((i0.toInt64) - (9 : Int64)) * ((i0.toInt64) - (32 : Int64))) (0 : Int64))), (.int (own_f1 i0))])) X1.here hx rfl (hb hby at_21) rfl (Jvm.Free.XT.ll_ne_f hc3) kt) ?_
    refine ownE.go (T' := T1) (f' := (mkF m 29 #[.val (.int i0), .val (.int i1), .val (.long (((i0.toInt64) - (9 : Int64)) * ((i0.toInt64) - (32 : Int64)))), .second, .unset, .unset] [(.int (1 : Int32)), (.int (own_f1 i0))])) (fun t kt => ?_) ?_
    · show Steps p.tables e below (T1.setTop (mkF m 24 #[.val (.int i0), .val (.int i1), .val (.long (((i0.toInt64) - (9 : Int64)) * ((i0.toInt64) - (32 : Int64)))), .second, .unset, .unset] [(.int (own_f1 i0))])) _
      refine XS.iconst X1.here hx rfl (hb hby at_24) ?_
      show Steps p.tables e below (T1.setTop (mkF m 25 #[.val (.int i0), .val (.int i1), .val (.long (((i0.toInt64) - (9 : Int64)) * ((i0.toInt64) - (32 : Int64)))), .second, .unset, .unset] [(.int (1 : Int32)), (.int (own_f1 i0))])) _
      refine XS.goto X1.here hx rfl (pc0 := 25) (pc' := 29) rfl (hb hby at_25) (by decide) (by decide) ?_
      exact kt
    have jj := J4 _ _ X1 e1 N1
    rw [show (own_j0_29_S0 i0 i1) = (1 : Int32) from by rw [own_j0_29_S0, if_pos hc3]] at jj
    exact jj
  · -- pc 21
    refine ownE.go (T' := T1) (f' := (mkF m 28 #[.val (.int i0), .val (.int i1), .val (.long (((i0.toInt64) - (9 : Int64)) * ((i0.toInt64) - (32 : Int64)))), .second, .unset, .unset] [(.int (own_f1 i0))])) (fun t kt => XS.ifYes (g := (mkF m 21 #[.val (.int i0), .val (.int i1), .val (.long (((i0.toInt64) - (9 : Int64)) * ((i0.toInt64) - (32 : Int64)))), .second, .unset, .unset] [(.int (Jvm.Free.XT.cmpL (((i0.toInt64) - (9 : Int64)) * ((i0.toInt64) - (32 : Int64))) (0 : Int64))), (.int (own_f1 i0))])) X1.here hx rfl (pc0 := 21) (pc' := 28) rfl (hb hby at_21) rfl (Jvm.Free.XT.ll_ne_t hc3) (by decide) (by decide) kt) ?_
    refine ownE.go (T' := T1) (f' := (mkF m 29 #[.val (.int i0), .val (.int i1), .val (.long (((i0.toInt64) - (9 : Int64)) * ((i0.toInt64) - (32 : Int64)))), .second, .unset, .unset] [(.int (0 : Int32)), (.int (own_f1 i0))])) (fun t kt => ?_) ?_
    · show Steps p.tables e below (T1.setTop (mkF m 28 #[.val (.int i0), .val (.int i1), .val (.long (((i0.toInt64) - (9 : Int64)) * ((i0.toInt64) - (32 : Int64)))), .second, .unset, .unset] [(.int (own_f1 i0))])) _
      refine XS.iconst X1.here hx rfl (hb hby at_28) ?_
      exact kt
    have jj := J4 _ _ X1 e1 N1
    rw [show (own_j0_29_S0 i0 i1) = (0 : Int32) from by rw [own_j0_29_S0, if_neg hc3]] at jj
    exact jj
theorem own_sp (c : Int32) : own_f1 c = if c = 32 ∨ c = 9 then 1 else 0 := by
  unfold own_f1
  by_cases h : c = 32
  · simp [h]
  · by_cases h2 : c = 9 <;> simp [h, h2]
theorem own_prod (x : Int32) : ((x.toInt64 - (9 : Int64)) * (x.toInt64 - (32 : Int64)) = (0 : Int64)) ↔ (x = 32 ∨ x = 9) := by
  have b := rng32 x
  have e1 : (x.toInt64 - (9 : Int64)).toInt = x.toInt - 9 := by
    have := c_lsub x.toInt64 9
    have e := c_i2l x
    have n : (9 : Int64).toInt = 9 := by decide
    have r := rng64 (x.toInt64 - (9 : Int64))
    omega
  have e2 : (x.toInt64 - (32 : Int64)).toInt = x.toInt - 32 := by
    have := c_lsub x.toInt64 32
    have e := c_i2l x
    have n : (32 : Int64).toInt = 32 := by decide
    have r := rng64 (x.toInt64 - (32 : Int64))
    omega
  have m := c_lmul (x.toInt64 - (9 : Int64)) (x.toInt64 - (32 : Int64))
  rw [e1, e2] at m
  rw [← Int64.toInt_inj, ← Int32.toInt_inj, ← Int32.toInt_inj]
  have z : (0 : Int64).toInt = 0 := by decide
  have z1 : (32 : Int32).toInt = 32 := by decide
  have z2 : (9 : Int32).toInt = 9 := by decide
  rw [z, z1, z2]
  have r := rng64 ((x.toInt64 - (9 : Int64)) * (x.toInt64 - (32 : Int64)))
  constructor
  · intro h
    rw [h] at m
    by_cases h1 : x.toInt = 32
    · exact Or.inl h1
    · by_cases h2 : x.toInt = 9
      · exact Or.inr h2
      · exfalso
        have p0 : (x.toInt - 9) * (x.toInt - 32) ≠ 0 := by
          intro q
          rcases Int.mul_eq_zero.mp q with q | q <;> omega
        have hb : -9223372036854775808 < (x.toInt - 9) * (x.toInt - 32) ∧ (x.toInt - 9) * (x.toInt - 32) < 9223372036854775808 := by
          have := mc (a := x.toInt - 9) (b := x.toInt - 32) (l1 := -2147483657) (h1 := 2147483638) (l2 := -2147483680) (h2 := 2147483615) (by omega) (by omega) (by omega) (by omega)
          omega
        omega
  · intro h
    rcases h with h | h
    · rw [h] at m
      have : (32 - 9 : Int) * (32 - 32) = 0 := by decide
      rw [this] at m
      omega
    · rw [h] at m
      have : (9 - 9 : Int) * (9 - 32) = 0 := by decide
      rw [this] at m
      omega
theorem own_near (y t : Int32) (ht : t = 32 ∨ t = 9) : own_f1 ((t + ((y >>> ((1 : Int32) &&& 31)) &&& (3 : Int32))) - (1 : Int32)) = if (t + ((y >>> ((1 : Int32) &&& 31)) &&& (3 : Int32))) - (1 : Int32) = t then 1 else 0 := by
  rw [own_sp]
  generalize y >>> ((1 : Int32) &&& 31) = q
  have h3 := c_mask q 3 2 (by decide) (by decide)
  have b : (q &&& 3 = 0) ∨ (q &&& 3 = 1) ∨ (q &&& 3 = 2) ∨ (q &&& 3 = 3) := by
    simp only [← Int32.toInt_inj, h3]
    have z0 : (0 : Int32).toInt = 0 := by decide
    have z1 : (1 : Int32).toInt = 1 := by decide
    have z2 : (2 : Int32).toInt = 2 := by decide
    have z3 : (3 : Int32).toInt = 3 := by decide
    rw [z0, z1, z2, z3]
    omega
  rcases ht with rfl | rfl <;> rcases b with b | b | b | b <;> rw [b] <;> decide
theorem own_law (x y : Int32) : own_f0 x y = 1 := by
  have ht : own_j0_47_S0 x y = 32 ∨ own_j0_47_S0 x y = 9 := by
    unfold own_j0_47_S0
    split
    · exact Or.inl rfl
    · exact Or.inr rfl
  have h1 : own_f1 x = own_j0_29_S0 x y := by
    unfold own_j0_29_S0
    rw [own_sp]
    by_cases h : x = 32 ∨ x = 9
    · rw [if_pos h, if_pos ((own_prod x).mpr h)]
    · rw [if_neg h, if_neg (fun q => h ((own_prod x).mp q))]
  have h2 : ¬ own_f1 (own_j0_47_S0 x y) = 0 := by
    rcases ht with h | h <;> rw [h] <;> decide
  have h3 : own_f1 (((own_j0_47_S0 x y) + ((y >>> ((1 : Int32) &&& 31)) &&& (3 : Int32))) - (1 : Int32)) = own_j0_88_S0 x y := by
    rw [own_near y _ ht]
    rfl
  unfold own_f0
  rw [if_pos h1, if_neg h2, if_pos h3]

set_option maxRecDepth 65536 in
set_option maxHeartbeats 40000000 in
theorem comes_1 {Post : Tables → Env → Array Value → State → Outcome → State → Prop} (hpost : ∀ tb e args s v u, (limb_1_1.after args s (.returned v) u = true ∧ limb_1_2.after args s (.returned v) u = true ∧ True) → FrameEnd s (.returned v) u (Jvm.fieldLocs frame_1_writes args s ++ Jvm.arrayLocs frame_1_arrays args s ++ Jvm.staticLocs frame_1_statics s) 0 0 → Post tb e args s (.returned v) u) :
    ArmFor flags0 classFile x code maxLocals ret World_1 tables_1 room_1 Calls_1 rest_1 Pre_1 Post := by
  intro l hfl _ _ p e ha hc hk s m args below hf hA hF happ hP
  obtain ⟨hcalls, hrest, hpre⟩ := hP
  obtain ⟨-, -, -, hnamed, -, -, -, hat⟩ := (Spec.applies_iff hf).mp happ
  obtain ⟨hg, hn⟩ := and_e (Cond.before_iff.mp (show (Jvm.Cond.and given_1 narrow_1).before args s = true from hpre))
  obtain ⟨g1, g2⟩ := and_e hg
  obtain ⟨g3, g4⟩ := and_e g2
  obtain ⟨w0, w1, rfl⟩ : ∃ w0 w1 : Value, args = #[w0, w1] := by
    have hs : args.size = 2 := by simpa [Cond.value, given_1] using g1
    obtain ⟨L⟩ := args
    match L, hs with
    | [w0, w1], _ => exact ⟨w0, w1, rfl⟩
  have hw := fun d (hd : d ∈ tables_1) => atoms_spec (ws := Jvm.Cond.code x code maxLocals ret :: tables_1) hat d (List.mem_cons_of_mem _ hd)
  have hfit : Fit s := fun {y c} hc i hi => by
    obtain ⟨ha, rfl⟩ := Array.getElem?_eq_some_iff.mp hc
    have q := List.all_eq_true.mp ((Array.all_eq_true_iff_forall_mem.mp hF) _ (Array.getElem_mem ha)) i (List.mem_range.mpr hi)
    simpa [Array.getElem?_eq_getElem hi] using q
  obtain ⟨i0, ei0⟩ := is_v g3
  obtain rfl : w0 = (.int i0) := Option.some.inj ei0
  obtain ⟨i1, ei1⟩ := is_v g4
  obtain rfl : w1 = (.int i1) := Option.some.inj ei1
  obtain ⟨n, o, h1, h2, h3, _, L, rfl, ⟨rfl, N, -⟩, hq⟩ := own_rm0 l s _ hw tables_1 i0 i1  s.heap s.heap.size (Nat.le_refl _)  p e ha hc hk s m _ below hf ((Spec.applies_iff_loose hf).mp happ).1 ⟨rfl, State.Warmed39.refl s, rfl⟩ trivial
  refine ⟨n, _, h1, h2, h3, hpost _ _ _ _ _ _ ⟨Cond.after_iff.mpr rfl, Cond.after_iff.mpr (eq_i res_at (Term.int_eval (1)) (congrArg Value.int (own_law i0 i1))), trivial⟩ ⟨hq.1, hq.2.1, (hq.2.2.sift fun y hy => Or.inr (N y hy)).mono (by decide) (by decide)⟩⟩
theorem main_1_1 : Claimed_1_1 := comes_1 fun _ _ _ _ _ _ h hF => ⟨h.1, hF⟩
theorem main_1_2 : Claimed_1_2 := comes_1 fun _ _ _ _ _ _ h hF => ⟨h.2.1, hF⟩
end Jvm.Pilot.@@N@@
namespace Jvm.Pilot.@@N@@
open Jvm Jvm.ClassFile Sem Op Lib Jvm.Free Jvm.Stand Jvm.Pilot.@@N@@.Jvm.D
/-! MADE BY PROGRAM (witnessworld.py) out of the Statement's table words and the real class files: 9 classes; the members and pool entries that the words name. The judged class is class 1, her method 1. -/
namespace start1
open Jvm.ClassFile
def u (s : String) : CpInfo := .utf8 (stringToUtf16 s)
/-- a pool by its gaps: so many unusable entries, then the entry; so many at the end -/
def gap : Nat → List CpInfo → List CpInfo
  | 0, r => r
  | n + 1, r => .unusable :: gap n r
def poolList (es : List (Nat × CpInfo)) (last : Nat) : List CpInfo := es.foldr (fun e r => gap e.1 (e.2 :: r)) (gap last [])
def pool (es : List (Nat × CpInfo)) (last : Nat) : Array CpInfo := ⟨poolList es last⟩
def fileOf (pool : Array CpInfo) (this : Nat) (attrs : Array Attribute := #[]) (ms : Array MethodInfo := #[]) (fl : Nat := 33) (sup : Nat := 0) (ifs : Array Nat := #[]) (fds : Array FieldInfo := #[]) : ClassFile where
  minorVersion := 0
  majorVersion := 65
  constantPool := pool
  accessFlags := fl
  thisClass := this
  superClass := sup
  interfaces := ifs
  fields := fds
  methods := ms
  attributes := attrs
def plain (name : String) (sup : Option ClassId) : Class where
  name := name
  kind := .ordinary
  loader := none
  accessFlags := 33
  super := sup
  interfaces := #[]
  cf := none
  fields := #[]
  methods := #[]
  instanceTypes := #[]
  staticTypes := #[]
  resolved := #[]
  callSites := []
  init := .initialized
  statics := none
  mirror := none

def pool0 : Array CpInfo := pool [(5, u "<init>"), (0, u "()V"), (1, .class_ 10), (1, u "java/lang/Object")] 113

def k0m0 : Method := { name := "<init>", desc := "()V", sig := { parameters := [], returnType := none }, accessFlags := 1, code := none }
/-- java/lang/Object -/
def k0 : Class := { plain "java/lang/Object" none with
  accessFlags := 33
  interfaces := #[]
  cf := some (fileOf pool0 8 #[] #[{ accessFlags := 1, nameIndex := 5, descriptorIndex := 6, attributes := #[] }] 33 0 #[] #[])
  fields := #[]
  methods := #[k0m0]
  instanceTypes := #[]
  staticTypes := #[]
  resolved := Array.replicate 124 none
  statics := none }

def pool1 : Array CpInfo := pool [(2, .class_ 4), (1, u "java/lang/Object"), (0, u "<init>"), (0, u "()V"), (0, .long 9), (1, .long 32), (1, .methodref 12 13), (0, .class_ 14), (0, .nameAndType 15 16), (0, u "com/example/venus_flytrap/venusflytrap/HttpSyntax"), (0, u "isSpace"), (0, u "(I)Z"), (0, .class_ 18), (0, u "com/example/venus_flytrap/venusflytrap/HttpSyntaxIsSpacePinLaw"), (2, u "law"), (0, u "(II)Z")] 3

def k1m0 : Method := { name := "<init>", desc := "()V", sig := { parameters := [], returnType := none }, accessFlags := 2, code := none }
def k1c1 : Code := { maxStack := 6, maxLocals := 6, code := code, exceptionTable := #[], attributes := #[] }
def k1m1 : Method := { name := "law", desc := "(II)Z", sig := { parameters := [.int, .int], returnType := some .boolean }, accessFlags := 9, code := some k1c1 }
/-- com/example/venus_flytrap/venusflytrap/HttpSyntaxIsSpacePinLaw -/
def k1 : Class := { plain "com/example/venus_flytrap/venusflytrap/HttpSyntaxIsSpacePinLaw" (some 0) with
  accessFlags := 49
  interfaces := #[]
  cf := some (fileOf pool1 17 #[] #[{ accessFlags := 2, nameIndex := 5, descriptorIndex := 6, attributes := #[] }, { accessFlags := 9, nameIndex := 21, descriptorIndex := 22, attributes := #[] }] 49 2 #[] #[])
  fields := #[]
  methods := #[k1m0, k1m1]
  instanceTypes := #[]
  staticTypes := #[]
  resolved := Array.replicate 26 none
  statics := none }

def pool2 : Array CpInfo := pool [(2, .class_ 4), (1, u "java/lang/Object"), (0, u "<init>"), (0, u "()V"), (25, u "(I)Z"), (0, .class_ 34), (0, u "com/example/venus_flytrap/venusflytrap/HttpSyntax"), (16, u "isSpace"), (16, u "TOKEN_SYMBOLS"), (0, u "Ljava/lang/String;"), (1, u "MAX_WEIGHT"), (0, u "I")] 35

def k2m0 : Method := { name := "<init>", desc := "()V", sig := { parameters := [], returnType := none }, accessFlags := 2, code := none }
def k2c1 : Code := { maxStack := 2, maxLocals := 1, code := prog_15_method_4_code, exceptionTable := #[], attributes := #[] }
def k2m1 : Method := { name := "isSpace", desc := "(I)Z", sig := { parameters := [.int], returnType := some .boolean }, accessFlags := 8, code := some k2c1 }
/-- com/example/venus_flytrap/venusflytrap/HttpSyntax -/
def k2 : Class := { plain "com/example/venus_flytrap/venusflytrap/HttpSyntax" (some 0) with
  accessFlags := 48
  interfaces := #[]
  cf := some (fileOf pool2 33 #[] #[{ accessFlags := 2, nameIndex := 5, descriptorIndex := 6, attributes := #[] }, { accessFlags := 8, nameIndex := 51, descriptorIndex := 32, attributes := #[] }] 48 2 #[] #[{ accessFlags := 26, nameIndex := 68, descriptorIndex := 69, attributes := #[] }, { accessFlags := 24, nameIndex := 71, descriptorIndex := 72, attributes := #[] }])
  fields := #[{ name := "TOKEN_SYMBOLS", type := (.object "java/lang/String"), accessFlags := 26, slot := 0, constantValue := 0 }, { name := "MAX_WEIGHT", type := .int, accessFlags := 24, slot := 1, constantValue := 0 }]
  methods := #[k2m0, k2m1]
  instanceTypes := #[]
  staticTypes := #[(.object "java/lang/String"), .int]
  resolved := Array.replicate 108 none
  statics := none }

def pool3 : Array CpInfo := pool [(1, u "java/lang/Cloneable"), (0, .class_ 1), (0, u "java/lang/Object"), (0, .class_ 3)] 3

/-- java/lang/Cloneable -/
def k3 : Class := { plain "java/lang/Cloneable" (some 0) with
  accessFlags := 1537
  interfaces := #[]
  cf := some (fileOf pool3 2 #[] #[] 1537 4 #[] #[])
  fields := #[]
  methods := #[]
  instanceTypes := #[]
  staticTypes := #[]
  resolved := Array.replicate 8 none
  statics := none }

def pool4 : Array CpInfo := pool [(1, u "java/io/Serializable"), (0, .class_ 1), (0, u "java/lang/Object"), (0, .class_ 3)] 3

/-- java/io/Serializable -/
def k4 : Class := { plain "java/io/Serializable" (some 0) with
  accessFlags := 1537
  interfaces := #[]
  cf := some (fileOf pool4 2 #[] #[] 1537 4 #[] #[])
  fields := #[]
  methods := #[]
  instanceTypes := #[]
  staticTypes := #[]
  resolved := Array.replicate 8 none
  statics := none }

/-- the primitive byte -/
def k5 : Class := { plain "byte" none with kind := .primitive 'B', accessFlags := 0x411 }
/-- [B -/
def k6 : Class := { plain "[B" (some 0) with kind := .array 5 .byte, interfaces := #[3, 4], accessFlags := 1041 }

/-- the primitive int -/
def k7 : Class := { plain "int" none with kind := .primitive 'I', accessFlags := 0x411 }
/-- [I -/
def k8 : Class := { plain "[I" (some 0) with kind := .array 7 .int, interfaces := #[3, 4], accessFlags := 1041 }

def heap : Heap := #[]
def classes : Array Class := #[k0, k1, k2, k3, k4, k5, k6, k7, k8]
def interned : List (Array UInt16 × Addr) := []
def slotsUsed : Nat := 0
def theMethod : MethodId := ⟨1, 1⟩
def args0 : Array Value := #[.int 5, .int 5]
def aboutOver (below : List Frame) : State where
  vm := { classes := classes, interned := interned.toArray }
  heap := heap
  slotsUsed := slotsUsed
  threads := #[{ frames := .invoking theMethod args0 :: below }]
def below0 : List Frame := [.native { method := ⟨0, 0⟩, args := #[] }]
def about1 : State := aboutOver below0
def p0 : Program := .bare "" "" ""
def e0 : Env := launch0.env 0 0 0
theorem w_frames : about1.frames = Frame.invoking theMethod args0 :: below0 := rfl
set_option maxRecDepth 65536 in
theorem w_args : argsFit about1.vm theMethod args0 = true := by decide +kernel
set_option maxRecDepth 65536 in
theorem w_heap : heapFits about1 = true := by decide +kernel
set_option maxRecDepth 65536 in
theorem w_runnable : about1.curStatus? = some .runnable := by decide +kernel
set_option maxRecDepth 65536 in
theorem w_alone : about1.alone = true := by decide +kernel
set_option maxRecDepth 65536 in
theorem w_named : about1.methodNamed? x = some theMethod := by decide +kernel
set_option maxRecDepth 65536 in
theorem w_hears : about1.hears theMethod below0 = true := by decide +kernel
set_option maxRecDepth 65536 in
theorem w_ripe : about1.ripe theMethod args0 below0 = true := by decide +kernel
theorem w_running : about1.status = .running := rfl
set_option maxRecDepth 65536 in
theorem w_room : about1.hasRoom e0.platform room_1 = true :=
  launch0.hasRoom_least _ room_1 (by decide +kernel) (by decide +kernel) (by decide +kernel) (by decide +kernel) (by decide +kernel) (by decide +kernel)
theorem allAtoms_all (ts : List Jvm.Cond) (a : Array Jvm.Value) (st : Jvm.State) : (allAtoms ts).before a st = ts.all (fun c => c.before a st) := by
  induction ts with
  | nil => rfl
  | cons c t ih =>
    show (Jvm.Cond.and c (allAtoms t)).before a st = _
    rw [Jvm.Cond.before_and, ih, List.all_cons]
def words1 : List Jvm.Cond := Jvm.Cond.code x code maxLocals ret :: tables_1
/-- a 'code' word, met by the world's own term for the bytes: nothing is compared byte by byte -/
theorem code_word {y : MethodName} {bytes : ByteArray} {mx : Nat} {rt : Option FieldType} {a : Array Value} {s : State} {m : MethodId} {meth : Method} {c : Code} (h1 : s.methodNamed? y = some m) (h2 : s.vm.method? m = some meth) (h3 : meth.code = some c) (h4 : c.code = bytes)
    (h5 : (c.maxLocals == mx && c.exceptionTable.isEmpty && decide (c.maxStack ≤ mostOperands) && decide (meth.sig.returnType = rt) && !meth.locks && decide (parseMethodDescriptor y.desc = some meth.sig)) = true) : (Jvm.Cond.code y bytes mx rt).before a s = true := by
  simp only [Bool.and_eq_true, beq_iff_eq, Bool.not_eq_true', decide_eq_true_eq] at h5
  obtain ⟨⟨⟨⟨⟨g1, g2⟩, g3⟩, g4⟩, g5⟩, g6⟩ := h5
  simp [Cond.before, Cond.holds, Cond.value, h1, h2, h3, h4, g1, g2, g3, g4, g5, g6]
def isCode : Jvm.Cond → Bool
  | .code _ _ _ _ => true
  | _ => false
theorem all_split {L : List Jvm.Cond} {P : Jvm.Cond → Bool} (h1 : L.all (fun c => isCode c || P c) = true) (h2 : ∀ c ∈ L.filter isCode, P c = true) : L.all P = true := by
  refine List.all_eq_true.mpr fun c hc => ?_
  have h := List.all_eq_true.mp h1 c hc
  rcases Bool.eq_false_or_eq_true (isCode c) with hi | hi
  · exact h2 c (List.mem_filter.mpr ⟨hc, hi⟩)
  · simpa [hi] using h
set_option maxRecDepth 65536 in
theorem w_c0 : (Jvm.Cond.code x code maxLocals ret).before args0 about1 = true := code_word (m := ⟨1, 1⟩) (meth := k1m1) (c := k1c1) (by decide +kernel) rfl rfl rfl (by decide +kernel)
set_option maxRecDepth 65536 in
theorem w_c1 : (Jvm.Cond.code ({ cls := "com/example/venus_flytrap/venusflytrap/HttpSyntax", name := "isSpace", desc := "(I)Z" } : Jvm.MethodName) prog_15_method_4_code (1 : Nat) (Option.some Jvm.ClassFile.FieldType.boolean)).before args0 about1 = true := code_word (m := ⟨2, 1⟩) (meth := k2m1) (c := k2c1) (by decide +kernel) rfl rfl rfl (by decide +kernel)
def codes1 : List Jvm.Cond := [Jvm.Cond.code x code maxLocals ret, Jvm.Cond.code ({ cls := "com/example/venus_flytrap/venusflytrap/HttpSyntax", name := "isSpace", desc := "(I)Z" } : Jvm.MethodName) prog_15_method_4_code (1 : Nat) (Option.some Jvm.ClassFile.FieldType.boolean)]
set_option maxRecDepth 65536 in
theorem codes_eq : words1.filter isCode = codes1 := rfl
theorem w_codes : ∀ c ∈ words1.filter isCode, c.before args0 about1 = true := by
  rw [codes_eq]
  intro c hc
  simp only [codes1, List.mem_cons, List.not_mem_nil, or_false] at hc
  rcases hc with rfl | rfl
  · exact w_c0
  · exact w_c1
set_option maxRecDepth 65536 in
theorem w_t1 : words1.all (fun c => isCode c || c.before args0 about1) = true := by decide +kernel
theorem w_tables : (allAtoms (Jvm.Cond.code x code maxLocals ret :: tables_1)).before args0 about1 = true := by
  rw [allAtoms_all]
  show words1.all (fun c => c.before args0 about1) = true
  refine all_split ?_ w_codes
  rw [w_t1]
set_option maxRecDepth 65536 in
theorem w_case : (Jvm.Cond.and given_1 narrow_1).before args0 about1 = true := by decide +kernel
theorem w_applies : (headSpec (Jvm.Cond.code x code maxLocals ret :: tables_1) room_1).applies x e0.platform about1 = true :=
  (Spec.applies_iff w_frames).mpr ⟨w_running, w_runnable, w_alone, w_named, w_hears, w_ripe, w_room, w_tables⟩
theorem atStart : AtStart classFile x code maxLocals ret World_1 tables_1 room_1 Calls_1 rest_1 Pre_1 launch0 p0 e0 about1 theMethod args0 below0 :=
  ⟨lists_1, trivial, launch0.admits_env _ _ _, launch0.least_env, fairChoices_fair.cas, fairChoices_fair.clock, w_frames, w_args, w_heap, w_applies, trivial, trivial, w_case⟩
end start1
theorem witness_1 : WitnessClaimed_1 := ⟨start1.p0, start1.e0, start1.about1, start1.theMethod, start1.args0, start1.below0, start1.atStart⟩
end Jvm.Pilot.@@N@@
