import JvmDerived
import JvmDerived.Pilot.@@N@@Statement
import JvmDerived.Pilot.@@N@@Code
set_option linter.unusedVariables false
set_option linter.unusedSimpArgs false
namespace Jvm.RoadKit
open Sem ClassFile Op Lib Jvm.Stand Jvm.Free Jvm.LawKit
section New
variable {p : Program} {l : Launch} {e : Env} {R : Room} {s : State} {m : MethodId} {args : Array Value} {below : List Frame} {meth : Method} {c : Code} {T : State} {locs : List Loc} {cells slots : Nat}
theorem retI (X : Stand p l e R s m args below meth c T locs cells slots) (hx : p.tables.exec = Jvm.exec) {pc : Nat} {Ls : Array Slot} {z : Int32} {rest : List Value} (hret : meth.sig.returnType = some .int) (hd : decode c.code pc = .ok (.ireturn, 1)) {fs : List Frame}
    (hl : ∀ (f : JFrame) (acts : List Action), f.method = m → f.locked = none → f.entered = [] → (doReturn e (T.setTop f) acts (some (.int z))).1 = T.setFrames fs) : Steps p.tables e below (T.setTop (mkF m pc Ls (.int z :: rest))) (T.setFrames fs) := by
  have hm' : T.vm.method? m = some meth := X.method'
  have hn : narrow .int (.int z) = .int z := rfl
  show Steps p.tables e below (T.setTop { method := m, pc := pc, locals := Ls, stack := _ :: rest, locked := none }) _
  jvm_step X.here [X.here.top, hx, hd, hm', hret, hn]
  first | (intro acts; rw [hl _ acts rfl rfl rfl]) | rw [hl _ _ rfl rfl rfl]
  exact Steps.refl _
end New
/-! the walk in continuation form: from the state T at the frame f the run ends by a return, as Q says -/
section Own
variable {p : Program} {l : Launch} {e : Env} {R : Room} {s : State} {m : MethodId} {args : Array Value} {below : List Frame} {meth : Method} {c : Code} {T T' : State} {locs : List Loc} {cells slots k n : Nat} {Q : Option Value → Heap → List Loc → Prop} {f f' : JFrame}
def ownE (p : Program) (e : Env) (below : List Frame) (s : State) (Q : Option Value → Heap → List Loc → Prop) (k n : Nat) (T : State) (f : JFrame) : Prop :=
  ∃ s₂ o, Steps p.tables e below (T.setTop f) s₂ ∧ s₂.status = .running ∧ Ended s₂ below o ∧ ∃ v L, o = .returned v ∧ Q v s₂.heap L ∧ FrameEnd s o s₂ L k n
theorem ownE.go (g : ∀ t, Steps p.tables e below (T'.setTop f') t → Steps p.tables e below (T.setTop f) t) (h : ownE p e below s Q k n T' f') : ownE p e below s Q k n T f := by
  obtain ⟨s₂, o, h1, r⟩ := h
  exact ⟨s₂, o, g _ h1, r⟩
theorem ownE.goS (g : Steps p.tables e below (T.setTop f) (T'.setTop f')) (h : ownE p e below s Q k n T' f') : ownE p e below s Q k n T f := by
  obtain ⟨s₂, o, h1, r⟩ := h
  exact ⟨s₂, o, g.trans h1, r⟩
theorem ownE.ret (X : Stand p l e R s m args below meth c T locs cells slots) {v : Option Value} (hlk : meth.locks = false) (hv : meth.sig.returnType = none → v = none)
    (st : ∀ fs, (∀ (f : JFrame) (acts : List Action), f.method = m → f.locked = none → f.entered = [] → (doReturn e (T.setTop f) acts v).1 = T.setFrames fs) → Steps p.tables e below (T.setTop f) (T.setFrames fs))
    (hQ : Q v T.heap locs) (hk : cells ≤ k) (hn : slots ≤ n) : ownE p e below s Q k n T f := by
  obtain ⟨fs, hr, hrun, hended, hW, hsame⟩ := X.leave (v := v) hv hlk
  exact ⟨_, _, st fs hr, hrun, hended, _, _, rfl, hQ, ⟨_, rfl⟩, hW, hsame.mono hk hn⟩
theorem ownE.retI (X : Stand p l e R s m args below meth c T locs cells slots) (hx : p.tables.exec = Jvm.exec) (hlk : meth.locks = false) {pc : Nat} {Ls : Array Slot} {z : Int32} {rest : List Value} (hret : meth.sig.returnType = some .int) (hd : decode c.code pc = .ok (.ireturn, 1))
    (hQ : Q (some (.int z)) T.heap locs) (hk : cells ≤ k) (hn : slots ≤ n) : ownE p e below s Q k n T (mkF m pc Ls (.int z :: rest)) :=
  ownE.ret X hlk (fun h => by rw [hret] at h; cases h) (fun fs hr => Jvm.RoadKit.retI X hx hret hd hr) hQ hk hn
theorem ownE.retN (X : Stand p l e R s m args below meth c T locs cells slots) (hx : p.tables.exec = Jvm.exec) (hlk : meth.locks = false) {pc : Nat} {Ls : Array Slot} {z : Int32} {rest : List Value} {t : FieldType} (hret : meth.sig.returnType = some t) (ht : t = .boolean ∨ t = .byte ∨ t = .char ∨ t = .short) (hd : decode c.code pc = .ok (.ireturn, 1))
    (hQ : Q (some (.int (nar t z))) T.heap locs) (hk : cells ≤ k) (hn : slots ≤ n) : ownE p e below s Q k n T (mkF m pc Ls (.int z :: rest)) :=
  ownE.ret X hlk (fun h => by rw [hret] at h; cases h) (fun fs hr => Jvm.RoadKit.retN X hx hret ht hd hr) hQ hk hn
theorem ownE.retL (X : Stand p l e R s m args below meth c T locs cells slots) (hx : p.tables.exec = Jvm.exec) (hlk : meth.locks = false) {pc : Nat} {Ls : Array Slot} {z : Int64} {rest : List Value} (hret : meth.sig.returnType = some .long) (hd : decode c.code pc = .ok (.lreturn, 1))
    (hQ : Q (some (.long z)) T.heap locs) (hk : cells ≤ k) (hn : slots ≤ n) : ownE p e below s Q k n T (mkF m pc Ls (.long z :: rest)) :=
  ownE.ret X hlk (fun h => by rw [hret] at h; cases h) (fun fs hr => Jvm.RoadKit.retOut X hx hret rfl (Or.inr (Or.inl ⟨rfl, rfl, z, rfl⟩)) hd hr) hQ hk hn
theorem ownE.retA (X : Stand p l e R s m args below meth c T locs cells slots) (hx : p.tables.exec = Jvm.exec) (hlk : meth.locks = false) {pc : Nat} {Ls : Array Slot} {z : Value} {rest : List Value} {t : FieldType} (hret : meth.sig.returnType = some t) (ht : t.isReference = true) (hz : z.isRef = true) (hn' : narrow t z = z) (hd : decode c.code pc = .ok (.areturn, 1))
    (hQ : Q (some z) T.heap locs) (hk : cells ≤ k) (hn : slots ≤ n) : ownE p e below s Q k n T (mkF m pc Ls (z :: rest)) :=
  ownE.ret X hlk (fun h => by rw [hret] at h; cases h) (fun fs hr => Jvm.RoadKit.retOut X hx hret hn' (Or.inr (Or.inr (Or.inr (Or.inr ⟨rfl, ht, hz⟩)))) hd hr) hQ hk hn
theorem ownE.retV (X : Stand p l e R s m args below meth c T locs cells slots) (hx : p.tables.exec = Jvm.exec) (hlk : meth.locks = false) {pc : Nat} {Ls : Array Slot} (hret : meth.sig.returnType = none) (hd : decode c.code pc = .ok (.return_, 1))
    (hQ : Q none T.heap locs) (hk : cells ≤ k) (hn : slots ≤ n) : ownE p e below s Q k n T (mkF m pc Ls []) :=
  ownE.ret X hlk (fun _ => rfl) (fun fs hr => X.returnOut hx hret hd hr) hQ hk hn
end Own
theorem own_selP {s : State} {args : Array Value} {y : MethodName} {n : Nat} (wi : (Cond.instantiable y.cls n).before args s = true) (hi : (Cond.instanceMethod y).before args s = true) (hp : s.PrivateAt y) (hy : y.cls ≠ "java/lang/invoke/MethodHandle" ∧ y.cls ≠ "java/lang/invoke/VarHandle") : (Cond.selects y.cls y y).before args s = true := by
  obtain ⟨c, k, h1, h2, -, h4, -⟩ := Cond.instantiable_spec wi
  exact selects_self_of_private h1 h2 (by simp at h4; exact h4.1) hp hi hy
end Jvm.RoadKit
namespace Jvm.Pilot.@@N@@
open Jvm Jvm.ClassFile Sem Op Lib Jvm.Free Jvm.Stand Jvm.LawKit Jvm.RoadKit Bundle Jvm.Pilot.@@N@@.Jvm.D
theorem own_d1_0 : decode method_2_code 0 = .ok (.iload_n 0, 1) := by decide +kernel
theorem own_d1_1 : decode method_2_code 1 = .ok (.ifCond .ne 6, 3) := by decide +kernel
theorem own_d1_4 : decode method_2_code 4 = .ok (.bipush 10, 2) := by decide +kernel
theorem own_d1_6 : decode method_2_code 6 = .ok (.ireturn, 1) := by decide +kernel
theorem own_d1_7 : decode method_2_code 7 = .ok (.iload_n 0, 1) := by decide +kernel
theorem own_d1_8 : decode method_2_code 8 = .ok (.iconst 1, 1) := by decide +kernel
theorem own_d1_9 : decode method_2_code 9 = .ok (.if_icmp .ne 6, 3) := by decide +kernel
theorem own_d1_12 : decode method_2_code 12 = .ok (.bipush 13, 2) := by decide +kernel
theorem own_d1_14 : decode method_2_code 14 = .ok (.ireturn, 1) := by decide +kernel
theorem own_d1_15 : decode method_2_code 15 = .ok (.iload_n 0, 1) := by decide +kernel
theorem own_d1_16 : decode method_2_code 16 = .ok (.iconst 2, 1) := by decide +kernel
theorem own_d1_17 : decode method_2_code 17 = .ok (.if_icmp .ne 7, 3) := by decide +kernel
theorem own_d1_20 : decode method_2_code 20 = .ok (.sipush 133, 3) := by decide +kernel
theorem own_d1_23 : decode method_2_code 23 = .ok (.ireturn, 1) := by decide +kernel
theorem own_d1_24 : decode method_2_code 24 = .ok (.iload_n 0, 1) := by decide +kernel
theorem own_d1_25 : decode method_2_code 25 = .ok (.iconst 3, 1) := by decide +kernel
theorem own_d1_26 : decode method_2_code 26 = .ok (.if_icmp .ne 7, 3) := by decide +kernel
theorem own_d1_29 : decode method_2_code 29 = .ok (.sipush 8232, 3) := by decide +kernel
theorem own_d1_32 : decode method_2_code 32 = .ok (.ireturn, 1) := by decide +kernel
theorem own_d1_33 : decode method_2_code 33 = .ok (.iload_n 1, 1) := by decide +kernel
theorem own_d1_34 : decode method_2_code 34 = .ok (.ireturn, 1) := by decide +kernel
theorem own_pn0 : plainName "traceward/schema/LineBreaksBreaksLinePinLaw" = true := by first | (simp [plainName, overriddenIn]; done) | decide +kernel
theorem own_ef1 (m : MethodId) (x0 : Int32) (x1 : Int32) : entryFrame m #[(.int x0), (.int x1)] 2 = mkF m 0 #[.val (.int x0), .val (.int x1)] [] := by first | (simp [entryFrame, mkF, argsToLocals, Value.category]; done) | rfl
def own_f1 (i0 : Int32) (i1 : Int32) : Int32 :=
  if i0 = (0 : Int32) then
    (10 : Int32)
  else
    if i0 = (1 : Int32) then
      (13 : Int32)
    else
      if i0 = (2 : Int32) then
        (133 : Int32)
      else
        if i0 = (3 : Int32) then
          (8232 : Int32)
        else
          i1
def own_Q1 (Z : State) (i0 : Int32) (i1 : Int32) (h0 : Heap) (n0 : Nat) (v : Option Value) (h : Heap) (L : List Loc) : Prop := v = some (.int (own_f1 i0 i1)) ∧ Fr n0 L ∧ h = h0
set_option maxRecDepth 65536 in
set_option maxHeartbeats 40000000 in
theorem own_rm1 (l : Launch) (Z : State) (a0 : Array Value) (hw : ∀ d ∈ tables_1, d.before a0 Z = true) (ws : List Jvm.Cond) (i0 : Int32) (i1 : Int32) (h0 : Heap) (n0 : Nat) (Z0 : n0 ≤ h0.size) :
    MetFree l (⟨"traceward/schema/LineBreaksBreaksLinePinLaw", "pick", "(II)I"⟩ : MethodName) (head1 (Jvm.Cond.code (⟨"traceward/schema/LineBreaksBreaksLinePinLaw", "pick", "(II)I"⟩ : MethodName) method_2_code 2 (some .int) :: ws) ({ frames := 0, cells := 0, slots := 0, locals := 0 } : Room)) (fun a U => a = #[(.int i0), (.int i1)] ∧ Z.Warmed39 U.vm ∧ U.heap = h0) (fun _ _ _ _ _ => True) (fun _ U o U' => ∃ v L, o = .returned v ∧ own_Q1 Z i0 i1 h0 n0 v U'.heap L ∧ FrameEnd U o U' L ({ frames := 0, cells := 0, slots := 0, locals := 0 } : Room).cells ({ frames := 0, cells := 0, slots := 0, locals := 0 } : Room).slots) := by
  refine MetFree.of_bodySF (plainFor_of_name own_pn0) hisR ?_
  intro p e s m args below meth c s₁ Bd hml0 hP hK
  obtain ⟨rfl, hZ, hh⟩ := hP
  have hx := Bd.exec
  have hby := Bd.bytes
  have hret := Bd.returns
  have hlk := BodyLoose.notSynchronized Bd
  have hml : c.maxLocals = 2 := hml0
  have hown : s.vm.findClass "traceward/schema/LineBreaksBreaksLinePinLaw" = some m.cls := findClass_of_methodNamed Bd.named
  have hnm := (name_of_methodNamed Bd.named Bd.method).1
  have X0 : Stand p l e ({ frames := 0, cells := 0, slots := 0, locals := 0 } : Room) s m #[(.int i0), (.int i1)] below meth c s₁ [] 0 0 := Stand.of_body Bd
  have e0 : s₁.heap = h0 := by rw [← hh, Bd.state]; rfl
  have N0 := Fr.nil n0
  have K0 : Keep h0 h0 [] := Keep.refl h0 _
  show ownE p e below s (own_Q1 Z i0 i1 h0 n0) ({ frames := 0, cells := 0, slots := 0, locals := 0 } : Room).cells ({ frames := 0, cells := 0, slots := 0, locals := 0 } : Room).slots s₁ (entryFrame m #[(.int i0), (.int i1)] 2)
  rw [own_ef1]
  refine ownE.go (T' := s₁) (f' := (mkF m 1 #[.val (.int i0), .val (.int i1)] [(.int i0)])) (fun t kt => ?_) ?_
  · show Steps p.tables e below (s₁.setTop (mkF m 0 #[.val (.int i0), .val (.int i1)] [])) _
    refine XS.iloadN X0.here hx rfl (hb hby own_d1_0) rfl ?_
    exact kt
  by_cases hc1 : i0 = (0 : Int32)
  · -- pc 1
    refine ownE.go (T' := s₁) (f' := (mkF m 4 #[.val (.int i0), .val (.int i1)] [])) (fun t kt => XS.ifNo (g := (mkF m 1 #[.val (.int i0), .val (.int i1)] [(.int i0)])) X0.here hx rfl (hb hby own_d1_1) rfl (Jvm.Free.XT.i0_ne_f hc1) kt) ?_
    refine ownE.go (T' := s₁) (f' := (mkF m 6 #[.val (.int i0), .val (.int i1)] [(.int (10 : Int32))])) (fun t kt => ?_) ?_
    · show Steps p.tables e below (s₁.setTop (mkF m 4 #[.val (.int i0), .val (.int i1)] [])) _
      refine XS.bipush X0.here hx rfl (hb hby own_d1_4) ?_
      exact kt
    refine ownE.retI X0 hx hlk hret (hb hby own_d1_6) ?_ (by decide) (by decide)
    show own_Q1 Z i0 i1 h0 n0 _ s₁.heap _
    rw [e0]
    exact ⟨(by rw [own_f1, if_pos hc1] <;> first | rfl | decide), N0, rfl⟩
  · -- pc 1
    refine ownE.go (T' := s₁) (f' := (mkF m 7 #[.val (.int i0), .val (.int i1)] [])) (fun t kt => XS.ifYes (g := (mkF m 1 #[.val (.int i0), .val (.int i1)] [(.int i0)])) X0.here hx rfl (pc0 := 1) (pc' := 7) rfl (hb hby own_d1_1) rfl (Jvm.Free.XT.i0_ne_t hc1) (by decide) (by decide) kt) ?_
    refine ownE.go (T' := s₁) (f' := (mkF m 9 #[.val (.int i0), .val (.int i1)] [(.int (1 : Int32)), (.int i0)])) (fun t kt => ?_) ?_
    · show Steps p.tables e below (s₁.setTop (mkF m 7 #[.val (.int i0), .val (.int i1)] [])) _
      refine XS.iloadN X0.here hx rfl (hb hby own_d1_7) rfl ?_
      show Steps p.tables e below (s₁.setTop (mkF m 8 #[.val (.int i0), .val (.int i1)] [(.int i0)])) _
      refine XS.iconst X0.here hx rfl (hb hby own_d1_8) ?_
      exact kt
    by_cases hc2 : i0 = (1 : Int32)
    · -- pc 9
      refine ownE.go (T' := s₁) (f' := (mkF m 12 #[.val (.int i0), .val (.int i1)] [])) (fun t kt => XS.icmpNo (g := (mkF m 9 #[.val (.int i0), .val (.int i1)] [(.int (1 : Int32)), (.int i0)])) X0.here hx rfl (hb hby own_d1_9) rfl (Jvm.Free.XT.ii_ne_f hc2) kt) ?_
      refine ownE.go (T' := s₁) (f' := (mkF m 14 #[.val (.int i0), .val (.int i1)] [(.int (13 : Int32))])) (fun t kt => ?_) ?_
      · show Steps p.tables e below (s₁.setTop (mkF m 12 #[.val (.int i0), .val (.int i1)] [])) _
        refine XS.bipush X0.here hx rfl (hb hby own_d1_12) ?_
        exact kt
      refine ownE.retI X0 hx hlk hret (hb hby own_d1_14) ?_ (by decide) (by decide)
      show own_Q1 Z i0 i1 h0 n0 _ s₁.heap _
      rw [e0]
      exact ⟨(by rw [own_f1, if_neg hc1, if_pos hc2] <;> first | rfl | decide), N0, rfl⟩
    · -- pc 9
      refine ownE.go (T' := s₁) (f' := (mkF m 15 #[.val (.int i0), .val (.int i1)] [])) (fun t kt => XS.icmpYes (g := (mkF m 9 #[.val (.int i0), .val (.int i1)] [(.int (1 : Int32)), (.int i0)])) X0.here hx rfl (pc0 := 9) (pc' := 15) rfl (hb hby own_d1_9) rfl (Jvm.Free.XT.ii_ne_t hc2) (by decide) (by decide) kt) ?_
      refine ownE.go (T' := s₁) (f' := (mkF m 17 #[.val (.int i0), .val (.int i1)] [(.int (2 : Int32)), (.int i0)])) (fun t kt => ?_) ?_
      · show Steps p.tables e below (s₁.setTop (mkF m 15 #[.val (.int i0), .val (.int i1)] [])) _
        refine XS.iloadN X0.here hx rfl (hb hby own_d1_15) rfl ?_
        show Steps p.tables e below (s₁.setTop (mkF m 16 #[.val (.int i0), .val (.int i1)] [(.int i0)])) _
        refine XS.iconst X0.here hx rfl (hb hby own_d1_16) ?_
        exact kt
      by_cases hc3 : i0 = (2 : Int32)
      · -- pc 17
        refine ownE.go (T' := s₁) (f' := (mkF m 20 #[.val (.int i0), .val (.int i1)] [])) (fun t kt => XS.icmpNo (g := (mkF m 17 #[.val (.int i0), .val (.int i1)] [(.int (2 : Int32)), (.int i0)])) X0.here hx rfl (hb hby own_d1_17) rfl (Jvm.Free.XT.ii_ne_f hc3) kt) ?_
        refine ownE.go (T' := s₁) (f' := (mkF m 23 #[.val (.int i0), .val (.int i1)] [(.int (133 : Int32))])) (fun t kt => ?_) ?_
        · show Steps p.tables e below (s₁.setTop (mkF m 20 #[.val (.int i0), .val (.int i1)] [])) _
          refine XS.sipush X0.here hx rfl (hb hby own_d1_20) ?_
          exact kt
        refine ownE.retI X0 hx hlk hret (hb hby own_d1_23) ?_ (by decide) (by decide)
        show own_Q1 Z i0 i1 h0 n0 _ s₁.heap _
        rw [e0]
        exact ⟨(by rw [own_f1, if_neg hc1, if_neg hc2, if_pos hc3] <;> first | rfl | decide), N0, rfl⟩
      · -- pc 17
        refine ownE.go (T' := s₁) (f' := (mkF m 24 #[.val (.int i0), .val (.int i1)] [])) (fun t kt => XS.icmpYes (g := (mkF m 17 #[.val (.int i0), .val (.int i1)] [(.int (2 : Int32)), (.int i0)])) X0.here hx rfl (pc0 := 17) (pc' := 24) rfl (hb hby own_d1_17) rfl (Jvm.Free.XT.ii_ne_t hc3) (by decide) (by decide) kt) ?_
        refine ownE.go (T' := s₁) (f' := (mkF m 26 #[.val (.int i0), .val (.int i1)] [(.int (3 : Int32)), (.int i0)])) (fun t kt => ?_) ?_
        · show Steps p.tables e below (s₁.setTop (mkF m 24 #[.val (.int i0), .val (.int i1)] [])) _
          refine XS.iloadN X0.here hx rfl (hb hby own_d1_24) rfl ?_
          show Steps p.tables e below (s₁.setTop (mkF m 25 #[.val (.int i0), .val (.int i1)] [(.int i0)])) _
          refine XS.iconst X0.here hx rfl (hb hby own_d1_25) ?_
          exact kt
        by_cases hc4 : i0 = (3 : Int32)
        · -- pc 26
          refine ownE.go (T' := s₁) (f' := (mkF m 29 #[.val (.int i0), .val (.int i1)] [])) (fun t kt => XS.icmpNo (g := (mkF m 26 #[.val (.int i0), .val (.int i1)] [(.int (3 : Int32)), (.int i0)])) X0.here hx rfl (hb hby own_d1_26) rfl (Jvm.Free.XT.ii_ne_f hc4) kt) ?_
          refine ownE.go (T' := s₁) (f' := (mkF m 32 #[.val (.int i0), .val (.int i1)] [(.int (8232 : Int32))])) (fun t kt => ?_) ?_
          · show Steps p.tables e below (s₁.setTop (mkF m 29 #[.val (.int i0), .val (.int i1)] [])) _
            refine XS.sipush X0.here hx rfl (hb hby own_d1_29) ?_
            exact kt
          refine ownE.retI X0 hx hlk hret (hb hby own_d1_32) ?_ (by decide) (by decide)
          show own_Q1 Z i0 i1 h0 n0 _ s₁.heap _
          rw [e0]
          exact ⟨(by rw [own_f1, if_neg hc1, if_neg hc2, if_neg hc3, if_pos hc4] <;> first | rfl | decide), N0, rfl⟩
        · -- pc 26
          refine ownE.go (T' := s₁) (f' := (mkF m 33 #[.val (.int i0), .val (.int i1)] [])) (fun t kt => XS.icmpYes (g := (mkF m 26 #[.val (.int i0), .val (.int i1)] [(.int (3 : Int32)), (.int i0)])) X0.here hx rfl (pc0 := 26) (pc' := 33) rfl (hb hby own_d1_26) rfl (Jvm.Free.XT.ii_ne_t hc4) (by decide) (by decide) kt) ?_
          refine ownE.go (T' := s₁) (f' := (mkF m 34 #[.val (.int i0), .val (.int i1)] [(.int i1)])) (fun t kt => ?_) ?_
          · show Steps p.tables e below (s₁.setTop (mkF m 33 #[.val (.int i0), .val (.int i1)] [])) _
            refine XS.iloadN X0.here hx rfl (hb hby own_d1_33) rfl ?_
            exact kt
          refine ownE.retI X0 hx hlk hret (hb hby own_d1_34) ?_ (by decide) (by decide)
          show own_Q1 Z i0 i1 h0 n0 _ s₁.heap _
          rw [e0]
          exact ⟨(by rw [own_f1, if_neg hc1, if_neg hc2, if_neg hc3, if_neg hc4] <;> first | rfl | decide), N0, rfl⟩
theorem own_d2_0 : decode prog_84_method_2_code 0 = .ok (.iload_n 0, 1) := by decide +kernel
theorem own_d2_1 : decode prog_84_method_2_code 1 = .ok (.bipush 10, 2) := by decide +kernel
theorem own_d2_3 : decode prog_84_method_2_code 3 = .ok (.if_icmp .eq 27, 3) := by decide +kernel
theorem own_d2_6 : decode prog_84_method_2_code 6 = .ok (.iload_n 0, 1) := by decide +kernel
theorem own_d2_7 : decode prog_84_method_2_code 7 = .ok (.bipush 13, 2) := by decide +kernel
theorem own_d2_9 : decode prog_84_method_2_code 9 = .ok (.if_icmp .eq 21, 3) := by decide +kernel
theorem own_d2_12 : decode prog_84_method_2_code 12 = .ok (.iload_n 1, 1) := by decide +kernel
theorem own_d2_13 : decode prog_84_method_2_code 13 = .ok (.ifCond .eq 21, 3) := by decide +kernel
theorem own_d2_16 : decode prog_84_method_2_code 16 = .ok (.iload_n 0, 1) := by decide +kernel
theorem own_d2_17 : decode prog_84_method_2_code 17 = .ok (.sipush 133, 3) := by decide +kernel
theorem own_d2_20 : decode prog_84_method_2_code 20 = .ok (.if_icmp .eq 10, 3) := by decide +kernel
theorem own_d2_23 : decode prog_84_method_2_code 23 = .ok (.iload_n 0, 1) := by decide +kernel
theorem own_d2_24 : decode prog_84_method_2_code 24 = .ok (.sipush 8232, 3) := by decide +kernel
theorem own_d2_27 : decode prog_84_method_2_code 27 = .ok (.if_icmp .ne 7, 3) := by decide +kernel
theorem own_d2_30 : decode prog_84_method_2_code 30 = .ok (.iconst 1, 1) := by decide +kernel
theorem own_d2_31 : decode prog_84_method_2_code 31 = .ok (.goto 4, 3) := by decide +kernel
theorem own_d2_34 : decode prog_84_method_2_code 34 = .ok (.iconst 0, 1) := by decide +kernel
theorem own_d2_35 : decode prog_84_method_2_code 35 = .ok (.ireturn, 1) := by decide +kernel
theorem own_pn1 : plainName "traceward/schema/LineBreaks" = true := by first | (simp [plainName, overriddenIn]; done) | decide +kernel
theorem own_ef2 (m : MethodId) (x0 : Int32) (x1 : Int32) : entryFrame m #[(.int x0), (.int x1)] 2 = mkF m 0 #[.val (.int x0), .val (.int x1)] [] := by first | (simp [entryFrame, mkF, argsToLocals, Value.category]; done) | rfl
def own_f2 (i0 : Int32) (i1 : Int32) : Int32 :=
  if i0 = (10 : Int32) then
    (1 : Int32)
  else
    if i0 = (13 : Int32) then
      (1 : Int32)
    else
      if i1 = (0 : Int32) then
        (0 : Int32)
      else
        if i0 = (133 : Int32) then
          (1 : Int32)
        else
          if i0 = (8232 : Int32) then
            (1 : Int32)
          else
            (0 : Int32)
def own_Q2 (Z : State) (i0 : Int32) (i1 : Int32) (h0 : Heap) (n0 : Nat) (v : Option Value) (h : Heap) (L : List Loc) : Prop := v = some (.int (own_f2 i0 i1)) ∧ Fr n0 L ∧ h = h0
set_option maxRecDepth 65536 in
set_option maxHeartbeats 40000000 in
theorem own_rm2 (l : Launch) (Z : State) (a0 : Array Value) (hw : ∀ d ∈ tables_1, d.before a0 Z = true) (ws : List Jvm.Cond) (i0 : Int32) (i1 : Int32) (h0 : Heap) (n0 : Nat) (Z0 : n0 ≤ h0.size) :
    MetFree l (⟨"traceward/schema/LineBreaks", "breaksLine", "(IZ)Z"⟩ : MethodName) (head1 (Jvm.Cond.code (⟨"traceward/schema/LineBreaks", "breaksLine", "(IZ)Z"⟩ : MethodName) prog_84_method_2_code 2 (some .boolean) :: ws) ({ frames := 0, cells := 0, slots := 0, locals := 0 } : Room)) (fun a U => a = #[(.int i0), (.int i1)] ∧ Z.Warmed39 U.vm ∧ U.heap = h0) (fun _ _ _ _ _ => True) (fun _ U o U' => ∃ v L, o = .returned v ∧ own_Q2 Z i0 i1 h0 n0 v U'.heap L ∧ FrameEnd U o U' L ({ frames := 0, cells := 0, slots := 0, locals := 0 } : Room).cells ({ frames := 0, cells := 0, slots := 0, locals := 0 } : Room).slots) := by
  refine MetFree.of_bodySF (plainFor_of_name own_pn1) hisR ?_
  intro p e s m args below meth c s₁ Bd hml0 hP hK
  obtain ⟨rfl, hZ, hh⟩ := hP
  have hx := Bd.exec
  have hby := Bd.bytes
  have hret := Bd.returns
  have hlk := BodyLoose.notSynchronized Bd
  have hml : c.maxLocals = 2 := hml0
  have hown : s.vm.findClass "traceward/schema/LineBreaks" = some m.cls := findClass_of_methodNamed Bd.named
  have hnm := (name_of_methodNamed Bd.named Bd.method).1
  have X0 : Stand p l e ({ frames := 0, cells := 0, slots := 0, locals := 0 } : Room) s m #[(.int i0), (.int i1)] below meth c s₁ [] 0 0 := Stand.of_body Bd
  have e0 : s₁.heap = h0 := by rw [← hh, Bd.state]; rfl
  have N0 := Fr.nil n0
  have K0 : Keep h0 h0 [] := Keep.refl h0 _
  show ownE p e below s (own_Q2 Z i0 i1 h0 n0) ({ frames := 0, cells := 0, slots := 0, locals := 0 } : Room).cells ({ frames := 0, cells := 0, slots := 0, locals := 0 } : Room).slots s₁ (entryFrame m #[(.int i0), (.int i1)] 2)
  rw [own_ef2]
  refine ownE.go (T' := s₁) (f' := (mkF m 3 #[.val (.int i0), .val (.int i1)] [(.int (10 : Int32)), (.int i0)])) (fun t kt => ?_) ?_
  · show Steps p.tables e below (s₁.setTop (mkF m 0 #[.val (.int i0), .val (.int i1)] [])) _
    refine XS.iloadN X0.here hx rfl (hb hby own_d2_0) rfl ?_
    show Steps p.tables e below (s₁.setTop (mkF m 1 #[.val (.int i0), .val (.int i1)] [(.int i0)])) _
    refine XS.bipush X0.here hx rfl (hb hby own_d2_1) ?_
    exact kt
  by_cases hc1 : i0 = (10 : Int32)
  · -- pc 3
    refine ownE.go (T' := s₁) (f' := (mkF m 30 #[.val (.int i0), .val (.int i1)] [])) (fun t kt => XS.icmpYes (g := (mkF m 3 #[.val (.int i0), .val (.int i1)] [(.int (10 : Int32)), (.int i0)])) X0.here hx rfl (pc0 := 3) (pc' := 30) rfl (hb hby own_d2_3) rfl (Jvm.Free.XT.ii_eq_t hc1) (by decide) (by decide) kt) ?_
    refine ownE.go (T' := s₁) (f' := (mkF m 35 #[.val (.int i0), .val (.int i1)] [(.int (1 : Int32))])) (fun t kt => ?_) ?_
    · show Steps p.tables e below (s₁.setTop (mkF m 30 #[.val (.int i0), .val (.int i1)] [])) _
      refine XS.iconst X0.here hx rfl (hb hby own_d2_30) ?_
      show Steps p.tables e below (s₁.setTop (mkF m 31 #[.val (.int i0), .val (.int i1)] [(.int (1 : Int32))])) _
      refine XS.goto X0.here hx rfl (pc0 := 31) (pc' := 35) rfl (hb hby own_d2_31) (by decide) (by decide) ?_
      exact kt
    refine ownE.retN X0 hx hlk (t := .boolean) hret (by simp) (hb hby own_d2_35) ?_ (by decide) (by decide)
    show own_Q2 Z i0 i1 h0 n0 _ s₁.heap _
    rw [e0]
    exact ⟨(by rw [own_f2, if_pos hc1] <;> first | rfl | decide), N0, rfl⟩
  · -- pc 3
    refine ownE.go (T' := s₁) (f' := (mkF m 6 #[.val (.int i0), .val (.int i1)] [])) (fun t kt => XS.icmpNo (g := (mkF m 3 #[.val (.int i0), .val (.int i1)] [(.int (10 : Int32)), (.int i0)])) X0.here hx rfl (hb hby own_d2_3) rfl (Jvm.Free.XT.ii_eq_f hc1) kt) ?_
    refine ownE.go (T' := s₁) (f' := (mkF m 9 #[.val (.int i0), .val (.int i1)] [(.int (13 : Int32)), (.int i0)])) (fun t kt => ?_) ?_
    · show Steps p.tables e below (s₁.setTop (mkF m 6 #[.val (.int i0), .val (.int i1)] [])) _
      refine XS.iloadN X0.here hx rfl (hb hby own_d2_6) rfl ?_
      show Steps p.tables e below (s₁.setTop (mkF m 7 #[.val (.int i0), .val (.int i1)] [(.int i0)])) _
      refine XS.bipush X0.here hx rfl (hb hby own_d2_7) ?_
      exact kt
    by_cases hc2 : i0 = (13 : Int32)
    · -- pc 9
      refine ownE.go (T' := s₁) (f' := (mkF m 30 #[.val (.int i0), .val (.int i1)] [])) (fun t kt => XS.icmpYes (g := (mkF m 9 #[.val (.int i0), .val (.int i1)] [(.int (13 : Int32)), (.int i0)])) X0.here hx rfl (pc0 := 9) (pc' := 30) rfl (hb hby own_d2_9) rfl (Jvm.Free.XT.ii_eq_t hc2) (by decide) (by decide) kt) ?_
      refine ownE.go (T' := s₁) (f' := (mkF m 35 #[.val (.int i0), .val (.int i1)] [(.int (1 : Int32))])) (fun t kt => ?_) ?_
      · show Steps p.tables e below (s₁.setTop (mkF m 30 #[.val (.int i0), .val (.int i1)] [])) _
        refine XS.iconst X0.here hx rfl (hb hby own_d2_30) ?_
        show Steps p.tables e below (s₁.setTop (mkF m 31 #[.val (.int i0), .val (.int i1)] [(.int (1 : Int32))])) _
        refine XS.goto X0.here hx rfl (pc0 := 31) (pc' := 35) rfl (hb hby own_d2_31) (by decide) (by decide) ?_
        exact kt
      refine ownE.retN X0 hx hlk (t := .boolean) hret (by simp) (hb hby own_d2_35) ?_ (by decide) (by decide)
      show own_Q2 Z i0 i1 h0 n0 _ s₁.heap _
      rw [e0]
      exact ⟨(by rw [own_f2, if_neg hc1, if_pos hc2] <;> first | rfl | decide), N0, rfl⟩
    · -- pc 9
      refine ownE.go (T' := s₁) (f' := (mkF m 12 #[.val (.int i0), .val (.int i1)] [])) (fun t kt => XS.icmpNo (g := (mkF m 9 #[.val (.int i0), .val (.int i1)] [(.int (13 : Int32)), (.int i0)])) X0.here hx rfl (hb hby own_d2_9) rfl (Jvm.Free.XT.ii_eq_f hc2) kt) ?_
      refine ownE.go (T' := s₁) (f' := (mkF m 13 #[.val (.int i0), .val (.int i1)] [(.int i1)])) (fun t kt => ?_) ?_
      · show Steps p.tables e below (s₁.setTop (mkF m 12 #[.val (.int i0), .val (.int i1)] [])) _
        refine XS.iloadN X0.here hx rfl (hb hby own_d2_12) rfl ?_
        exact kt
      by_cases hc3 : i1 = (0 : Int32)
      · -- pc 13
        refine ownE.go (T' := s₁) (f' := (mkF m 34 #[.val (.int i0), .val (.int i1)] [])) (fun t kt => XS.ifYes (g := (mkF m 13 #[.val (.int i0), .val (.int i1)] [(.int i1)])) X0.here hx rfl (pc0 := 13) (pc' := 34) rfl (hb hby own_d2_13) rfl (Jvm.Free.XT.i0_eq_t hc3) (by decide) (by decide) kt) ?_
        refine ownE.go (T' := s₁) (f' := (mkF m 35 #[.val (.int i0), .val (.int i1)] [(.int (0 : Int32))])) (fun t kt => ?_) ?_
        · show Steps p.tables e below (s₁.setTop (mkF m 34 #[.val (.int i0), .val (.int i1)] [])) _
          refine XS.iconst X0.here hx rfl (hb hby own_d2_34) ?_
          exact kt
        refine ownE.retN X0 hx hlk (t := .boolean) hret (by simp) (hb hby own_d2_35) ?_ (by decide) (by decide)
        show own_Q2 Z i0 i1 h0 n0 _ s₁.heap _
        rw [e0]
        exact ⟨(by rw [own_f2, if_neg hc1, if_neg hc2, if_pos hc3] <;> first | rfl | decide), N0, rfl⟩
      · -- pc 13
        refine ownE.go (T' := s₁) (f' := (mkF m 16 #[.val (.int i0), .val (.int i1)] [])) (fun t kt => XS.ifNo (g := (mkF m 13 #[.val (.int i0), .val (.int i1)] [(.int i1)])) X0.here hx rfl (hb hby own_d2_13) rfl (Jvm.Free.XT.i0_eq_f hc3) kt) ?_
        refine ownE.go (T' := s₁) (f' := (mkF m 20 #[.val (.int i0), .val (.int i1)] [(.int (133 : Int32)), (.int i0)])) (fun t kt => ?_) ?_
        · show Steps p.tables e below (s₁.setTop (mkF m 16 #[.val (.int i0), .val (.int i1)] [])) _
          refine XS.iloadN X0.here hx rfl (hb hby own_d2_16) rfl ?_
          show Steps p.tables e below (s₁.setTop (mkF m 17 #[.val (.int i0), .val (.int i1)] [(.int i0)])) _
          refine XS.sipush X0.here hx rfl (hb hby own_d2_17) ?_
          exact kt
        by_cases hc4 : i0 = (133 : Int32)
        · -- pc 20
          refine ownE.go (T' := s₁) (f' := (mkF m 30 #[.val (.int i0), .val (.int i1)] [])) (fun t kt => XS.icmpYes (g := (mkF m 20 #[.val (.int i0), .val (.int i1)] [(.int (133 : Int32)), (.int i0)])) X0.here hx rfl (pc0 := 20) (pc' := 30) rfl (hb hby own_d2_20) rfl (Jvm.Free.XT.ii_eq_t hc4) (by decide) (by decide) kt) ?_
          refine ownE.go (T' := s₁) (f' := (mkF m 35 #[.val (.int i0), .val (.int i1)] [(.int (1 : Int32))])) (fun t kt => ?_) ?_
          · show Steps p.tables e below (s₁.setTop (mkF m 30 #[.val (.int i0), .val (.int i1)] [])) _
            refine XS.iconst X0.here hx rfl (hb hby own_d2_30) ?_
            show Steps p.tables e below (s₁.setTop (mkF m 31 #[.val (.int i0), .val (.int i1)] [(.int (1 : Int32))])) _
            refine XS.goto X0.here hx rfl (pc0 := 31) (pc' := 35) rfl (hb hby own_d2_31) (by decide) (by decide) ?_
            exact kt
          refine ownE.retN X0 hx hlk (t := .boolean) hret (by simp) (hb hby own_d2_35) ?_ (by decide) (by decide)
          show own_Q2 Z i0 i1 h0 n0 _ s₁.heap _
          rw [e0]
          exact ⟨(by rw [own_f2, if_neg hc1, if_neg hc2, if_neg hc3, if_pos hc4] <;> first | rfl | decide), N0, rfl⟩
        · -- pc 20
          refine ownE.go (T' := s₁) (f' := (mkF m 23 #[.val (.int i0), .val (.int i1)] [])) (fun t kt => XS.icmpNo (g := (mkF m 20 #[.val (.int i0), .val (.int i1)] [(.int (133 : Int32)), (.int i0)])) X0.here hx rfl (hb hby own_d2_20) rfl (Jvm.Free.XT.ii_eq_f hc4) kt) ?_
          refine ownE.go (T' := s₁) (f' := (mkF m 27 #[.val (.int i0), .val (.int i1)] [(.int (8232 : Int32)), (.int i0)])) (fun t kt => ?_) ?_
          · show Steps p.tables e below (s₁.setTop (mkF m 23 #[.val (.int i0), .val (.int i1)] [])) _
            refine XS.iloadN X0.here hx rfl (hb hby own_d2_23) rfl ?_
            show Steps p.tables e below (s₁.setTop (mkF m 24 #[.val (.int i0), .val (.int i1)] [(.int i0)])) _
            refine XS.sipush X0.here hx rfl (hb hby own_d2_24) ?_
            exact kt
          by_cases hc5 : i0 = (8232 : Int32)
          · -- pc 27
            refine ownE.go (T' := s₁) (f' := (mkF m 30 #[.val (.int i0), .val (.int i1)] [])) (fun t kt => XS.icmpNo (g := (mkF m 27 #[.val (.int i0), .val (.int i1)] [(.int (8232 : Int32)), (.int i0)])) X0.here hx rfl (hb hby own_d2_27) rfl (Jvm.Free.XT.ii_ne_f hc5) kt) ?_
            refine ownE.go (T' := s₁) (f' := (mkF m 35 #[.val (.int i0), .val (.int i1)] [(.int (1 : Int32))])) (fun t kt => ?_) ?_
            · show Steps p.tables e below (s₁.setTop (mkF m 30 #[.val (.int i0), .val (.int i1)] [])) _
              refine XS.iconst X0.here hx rfl (hb hby own_d2_30) ?_
              show Steps p.tables e below (s₁.setTop (mkF m 31 #[.val (.int i0), .val (.int i1)] [(.int (1 : Int32))])) _
              refine XS.goto X0.here hx rfl (pc0 := 31) (pc' := 35) rfl (hb hby own_d2_31) (by decide) (by decide) ?_
              exact kt
            refine ownE.retN X0 hx hlk (t := .boolean) hret (by simp) (hb hby own_d2_35) ?_ (by decide) (by decide)
            show own_Q2 Z i0 i1 h0 n0 _ s₁.heap _
            rw [e0]
            exact ⟨(by rw [own_f2, if_neg hc1, if_neg hc2, if_neg hc3, if_neg hc4, if_pos hc5] <;> first | rfl | decide), N0, rfl⟩
          · -- pc 27
            refine ownE.go (T' := s₁) (f' := (mkF m 34 #[.val (.int i0), .val (.int i1)] [])) (fun t kt => XS.icmpYes (g := (mkF m 27 #[.val (.int i0), .val (.int i1)] [(.int (8232 : Int32)), (.int i0)])) X0.here hx rfl (pc0 := 27) (pc' := 34) rfl (hb hby own_d2_27) rfl (Jvm.Free.XT.ii_ne_t hc5) (by decide) (by decide) kt) ?_
            refine ownE.go (T' := s₁) (f' := (mkF m 35 #[.val (.int i0), .val (.int i1)] [(.int (0 : Int32))])) (fun t kt => ?_) ?_
            · show Steps p.tables e below (s₁.setTop (mkF m 34 #[.val (.int i0), .val (.int i1)] [])) _
              refine XS.iconst X0.here hx rfl (hb hby own_d2_34) ?_
              exact kt
            refine ownE.retN X0 hx hlk (t := .boolean) hret (by simp) (hb hby own_d2_35) ?_ (by decide) (by decide)
            show own_Q2 Z i0 i1 h0 n0 _ s₁.heap _
            rw [e0]
            exact ⟨(by rw [own_f2, if_neg hc1, if_neg hc2, if_neg hc3, if_neg hc4, if_neg hc5] <;> first | rfl | decide), N0, rfl⟩
theorem own_d3_0 : decode method_3_code 0 = .ok (.iload_n 0, 1) := by decide +kernel
theorem own_d3_1 : decode method_3_code 1 = .ok (.bipush 10, 2) := by decide +kernel
theorem own_d3_3 : decode method_3_code 3 = .ok (.if_icmp .ne 5, 3) := by decide +kernel
theorem own_d3_6 : decode method_3_code 6 = .ok (.iconst 1, 1) := by decide +kernel
theorem own_d3_7 : decode method_3_code 7 = .ok (.ireturn, 1) := by decide +kernel
theorem own_d3_8 : decode method_3_code 8 = .ok (.iload_n 0, 1) := by decide +kernel
theorem own_d3_9 : decode method_3_code 9 = .ok (.bipush 13, 2) := by decide +kernel
theorem own_d3_11 : decode method_3_code 11 = .ok (.if_icmp .ne 5, 3) := by decide +kernel
theorem own_d3_14 : decode method_3_code 14 = .ok (.iconst 1, 1) := by decide +kernel
theorem own_d3_15 : decode method_3_code 15 = .ok (.ireturn, 1) := by decide +kernel
theorem own_d3_16 : decode method_3_code 16 = .ok (.iload_n 1, 1) := by decide +kernel
theorem own_d3_17 : decode method_3_code 17 = .ok (.ifCond .ne 5, 3) := by decide +kernel
theorem own_d3_20 : decode method_3_code 20 = .ok (.iconst 0, 1) := by decide +kernel
theorem own_d3_21 : decode method_3_code 21 = .ok (.ireturn, 1) := by decide +kernel
theorem own_d3_22 : decode method_3_code 22 = .ok (.iload_n 0, 1) := by decide +kernel
theorem own_d3_23 : decode method_3_code 23 = .ok (.sipush 133, 3) := by decide +kernel
theorem own_d3_26 : decode method_3_code 26 = .ok (.if_icmp .ne 5, 3) := by decide +kernel
theorem own_d3_29 : decode method_3_code 29 = .ok (.iconst 1, 1) := by decide +kernel
theorem own_d3_30 : decode method_3_code 30 = .ok (.ireturn, 1) := by decide +kernel
theorem own_d3_31 : decode method_3_code 31 = .ok (.iload_n 0, 1) := by decide +kernel
theorem own_d3_32 : decode method_3_code 32 = .ok (.sipush 8232, 3) := by decide +kernel
theorem own_d3_35 : decode method_3_code 35 = .ok (.if_icmp .ne 5, 3) := by decide +kernel
theorem own_d3_38 : decode method_3_code 38 = .ok (.iconst 1, 1) := by decide +kernel
theorem own_d3_39 : decode method_3_code 39 = .ok (.ireturn, 1) := by decide +kernel
theorem own_d3_40 : decode method_3_code 40 = .ok (.iconst 0, 1) := by decide +kernel
theorem own_d3_41 : decode method_3_code 41 = .ok (.ireturn, 1) := by decide +kernel
theorem own_ef3 (m : MethodId) (x0 : Int32) (x1 : Int32) : entryFrame m #[(.int x0), (.int x1)] 2 = mkF m 0 #[.val (.int x0), .val (.int x1)] [] := by first | (simp [entryFrame, mkF, argsToLocals, Value.category]; done) | rfl
def own_f3 (i0 : Int32) (i1 : Int32) : Int32 :=
  if i0 = (10 : Int32) then
    (1 : Int32)
  else
    if i0 = (13 : Int32) then
      (1 : Int32)
    else
      if i1 = (0 : Int32) then
        (0 : Int32)
      else
        if i0 = (133 : Int32) then
          (1 : Int32)
        else
          if i0 = (8232 : Int32) then
            (1 : Int32)
          else
            (0 : Int32)
def own_Q3 (Z : State) (i0 : Int32) (i1 : Int32) (h0 : Heap) (n0 : Nat) (v : Option Value) (h : Heap) (L : List Loc) : Prop := v = some (.int (own_f3 i0 i1)) ∧ Fr n0 L ∧ h = h0
set_option maxRecDepth 65536 in
set_option maxHeartbeats 40000000 in
theorem own_rm3 (l : Launch) (Z : State) (a0 : Array Value) (hw : ∀ d ∈ tables_1, d.before a0 Z = true) (ws : List Jvm.Cond) (i0 : Int32) (i1 : Int32) (h0 : Heap) (n0 : Nat) (Z0 : n0 ≤ h0.size) :
    MetFree l (⟨"traceward/schema/LineBreaksBreaksLinePinLaw", "expected", "(IZ)Z"⟩ : MethodName) (head1 (Jvm.Cond.code (⟨"traceward/schema/LineBreaksBreaksLinePinLaw", "expected", "(IZ)Z"⟩ : MethodName) method_3_code 2 (some .boolean) :: ws) ({ frames := 0, cells := 0, slots := 0, locals := 0 } : Room)) (fun a U => a = #[(.int i0), (.int i1)] ∧ Z.Warmed39 U.vm ∧ U.heap = h0) (fun _ _ _ _ _ => True) (fun _ U o U' => ∃ v L, o = .returned v ∧ own_Q3 Z i0 i1 h0 n0 v U'.heap L ∧ FrameEnd U o U' L ({ frames := 0, cells := 0, slots := 0, locals := 0 } : Room).cells ({ frames := 0, cells := 0, slots := 0, locals := 0 } : Room).slots) := by
  refine MetFree.of_bodySF (plainFor_of_name own_pn0) hisR ?_
  intro p e s m args below meth c s₁ Bd hml0 hP hK
  obtain ⟨rfl, hZ, hh⟩ := hP
  have hx := Bd.exec
  have hby := Bd.bytes
  have hret := Bd.returns
  have hlk := BodyLoose.notSynchronized Bd
  have hml : c.maxLocals = 2 := hml0
  have hown : s.vm.findClass "traceward/schema/LineBreaksBreaksLinePinLaw" = some m.cls := findClass_of_methodNamed Bd.named
  have hnm := (name_of_methodNamed Bd.named Bd.method).1
  have X0 : Stand p l e ({ frames := 0, cells := 0, slots := 0, locals := 0 } : Room) s m #[(.int i0), (.int i1)] below meth c s₁ [] 0 0 := Stand.of_body Bd
  have e0 : s₁.heap = h0 := by rw [← hh, Bd.state]; rfl
  have N0 := Fr.nil n0
  have K0 : Keep h0 h0 [] := Keep.refl h0 _
  show ownE p e below s (own_Q3 Z i0 i1 h0 n0) ({ frames := 0, cells := 0, slots := 0, locals := 0 } : Room).cells ({ frames := 0, cells := 0, slots := 0, locals := 0 } : Room).slots s₁ (entryFrame m #[(.int i0), (.int i1)] 2)
  rw [own_ef3]
  refine ownE.go (T' := s₁) (f' := (mkF m 3 #[.val (.int i0), .val (.int i1)] [(.int (10 : Int32)), (.int i0)])) (fun t kt => ?_) ?_
  · show Steps p.tables e below (s₁.setTop (mkF m 0 #[.val (.int i0), .val (.int i1)] [])) _
    refine XS.iloadN X0.here hx rfl (hb hby own_d3_0) rfl ?_
    show Steps p.tables e below (s₁.setTop (mkF m 1 #[.val (.int i0), .val (.int i1)] [(.int i0)])) _
    refine XS.bipush X0.here hx rfl (hb hby own_d3_1) ?_
    exact kt
  by_cases hc1 : i0 = (10 : Int32)
  · -- pc 3
    refine ownE.go (T' := s₁) (f' := (mkF m 6 #[.val (.int i0), .val (.int i1)] [])) (fun t kt => XS.icmpNo (g := (mkF m 3 #[.val (.int i0), .val (.int i1)] [(.int (10 : Int32)), (.int i0)])) X0.here hx rfl (hb hby own_d3_3) rfl (Jvm.Free.XT.ii_ne_f hc1) kt) ?_
    refine ownE.go (T' := s₁) (f' := (mkF m 7 #[.val (.int i0), .val (.int i1)] [(.int (1 : Int32))])) (fun t kt => ?_) ?_
    · show Steps p.tables e below (s₁.setTop (mkF m 6 #[.val (.int i0), .val (.int i1)] [])) _
      refine XS.iconst X0.here hx rfl (hb hby own_d3_6) ?_
      exact kt
    refine ownE.retN X0 hx hlk (t := .boolean) hret (by simp) (hb hby own_d3_7) ?_ (by decide) (by decide)
    show own_Q3 Z i0 i1 h0 n0 _ s₁.heap _
    rw [e0]
    exact ⟨(by rw [own_f3, if_pos hc1] <;> first | rfl | decide), N0, rfl⟩
  · -- pc 3
    refine ownE.go (T' := s₁) (f' := (mkF m 8 #[.val (.int i0), .val (.int i1)] [])) (fun t kt => XS.icmpYes (g := (mkF m 3 #[.val (.int i0), .val (.int i1)] [(.int (10 : Int32)), (.int i0)])) X0.here hx rfl (pc0 := 3) (pc' := 8) rfl (hb hby own_d3_3) rfl (Jvm.Free.XT.ii_ne_t hc1) (by decide) (by decide) kt) ?_
    refine ownE.go (T' := s₁) (f' := (mkF m 11 #[.val (.int i0), .val (.int i1)] [(.int (13 : Int32)), (.int i0)])) (fun t kt => ?_) ?_
    · show Steps p.tables e below (s₁.setTop (mkF m 8 #[.val (.int i0), .val (.int i1)] [])) _
      refine XS.iloadN X0.here hx rfl (hb hby own_d3_8) rfl ?_
      show Steps p.tables e below (s₁.setTop (mkF m 9 #[.val (.int i0), .val (.int i1)] [(.int i0)])) _
      refine XS.bipush X0.here hx rfl (hb hby own_d3_9) ?_
      exact kt
    by_cases hc2 : i0 = (13 : Int32)
    · -- pc 11
      refine ownE.go (T' := s₁) (f' := (mkF m 14 #[.val (.int i0), .val (.int i1)] [])) (fun t kt => XS.icmpNo (g := (mkF m 11 #[.val (.int i0), .val (.int i1)] [(.int (13 : Int32)), (.int i0)])) X0.here hx rfl (hb hby own_d3_11) rfl (Jvm.Free.XT.ii_ne_f hc2) kt) ?_
      refine ownE.go (T' := s₁) (f' := (mkF m 15 #[.val (.int i0), .val (.int i1)] [(.int (1 : Int32))])) (fun t kt => ?_) ?_
      · show Steps p.tables e below (s₁.setTop (mkF m 14 #[.val (.int i0), .val (.int i1)] [])) _
        refine XS.iconst X0.here hx rfl (hb hby own_d3_14) ?_
        exact kt
      refine ownE.retN X0 hx hlk (t := .boolean) hret (by simp) (hb hby own_d3_15) ?_ (by decide) (by decide)
      show own_Q3 Z i0 i1 h0 n0 _ s₁.heap _
      rw [e0]
      exact ⟨(by rw [own_f3, if_neg hc1, if_pos hc2] <;> first | rfl | decide), N0, rfl⟩
    · -- pc 11
      refine ownE.go (T' := s₁) (f' := (mkF m 16 #[.val (.int i0), .val (.int i1)] [])) (fun t kt => XS.icmpYes (g := (mkF m 11 #[.val (.int i0), .val (.int i1)] [(.int (13 : Int32)), (.int i0)])) X0.here hx rfl (pc0 := 11) (pc' := 16) rfl (hb hby own_d3_11) rfl (Jvm.Free.XT.ii_ne_t hc2) (by decide) (by decide) kt) ?_
      refine ownE.go (T' := s₁) (f' := (mkF m 17 #[.val (.int i0), .val (.int i1)] [(.int i1)])) (fun t kt => ?_) ?_
      · show Steps p.tables e below (s₁.setTop (mkF m 16 #[.val (.int i0), .val (.int i1)] [])) _
        refine XS.iloadN X0.here hx rfl (hb hby own_d3_16) rfl ?_
        exact kt
      by_cases hc3 : i1 = (0 : Int32)
      · -- pc 17
        refine ownE.go (T' := s₁) (f' := (mkF m 20 #[.val (.int i0), .val (.int i1)] [])) (fun t kt => XS.ifNo (g := (mkF m 17 #[.val (.int i0), .val (.int i1)] [(.int i1)])) X0.here hx rfl (hb hby own_d3_17) rfl (Jvm.Free.XT.i0_ne_f hc3) kt) ?_
        refine ownE.go (T' := s₁) (f' := (mkF m 21 #[.val (.int i0), .val (.int i1)] [(.int (0 : Int32))])) (fun t kt => ?_) ?_
        · show Steps p.tables e below (s₁.setTop (mkF m 20 #[.val (.int i0), .val (.int i1)] [])) _
          refine XS.iconst X0.here hx rfl (hb hby own_d3_20) ?_
          exact kt
        refine ownE.retN X0 hx hlk (t := .boolean) hret (by simp) (hb hby own_d3_21) ?_ (by decide) (by decide)
        show own_Q3 Z i0 i1 h0 n0 _ s₁.heap _
        rw [e0]
        exact ⟨(by rw [own_f3, if_neg hc1, if_neg hc2, if_pos hc3] <;> first | rfl | decide), N0, rfl⟩
      · -- pc 17
        refine ownE.go (T' := s₁) (f' := (mkF m 22 #[.val (.int i0), .val (.int i1)] [])) (fun t kt => XS.ifYes (g := (mkF m 17 #[.val (.int i0), .val (.int i1)] [(.int i1)])) X0.here hx rfl (pc0 := 17) (pc' := 22) rfl (hb hby own_d3_17) rfl (Jvm.Free.XT.i0_ne_t hc3) (by decide) (by decide) kt) ?_
        refine ownE.go (T' := s₁) (f' := (mkF m 26 #[.val (.int i0), .val (.int i1)] [(.int (133 : Int32)), (.int i0)])) (fun t kt => ?_) ?_
        · show Steps p.tables e below (s₁.setTop (mkF m 22 #[.val (.int i0), .val (.int i1)] [])) _
          refine XS.iloadN X0.here hx rfl (hb hby own_d3_22) rfl ?_
          show Steps p.tables e below (s₁.setTop (mkF m 23 #[.val (.int i0), .val (.int i1)] [(.int i0)])) _
          refine XS.sipush X0.here hx rfl (hb hby own_d3_23) ?_
          exact kt
        by_cases hc4 : i0 = (133 : Int32)
        · -- pc 26
          refine ownE.go (T' := s₁) (f' := (mkF m 29 #[.val (.int i0), .val (.int i1)] [])) (fun t kt => XS.icmpNo (g := (mkF m 26 #[.val (.int i0), .val (.int i1)] [(.int (133 : Int32)), (.int i0)])) X0.here hx rfl (hb hby own_d3_26) rfl (Jvm.Free.XT.ii_ne_f hc4) kt) ?_
          refine ownE.go (T' := s₁) (f' := (mkF m 30 #[.val (.int i0), .val (.int i1)] [(.int (1 : Int32))])) (fun t kt => ?_) ?_
          · show Steps p.tables e below (s₁.setTop (mkF m 29 #[.val (.int i0), .val (.int i1)] [])) _
            refine XS.iconst X0.here hx rfl (hb hby own_d3_29) ?_
            exact kt
          refine ownE.retN X0 hx hlk (t := .boolean) hret (by simp) (hb hby own_d3_30) ?_ (by decide) (by decide)
          show own_Q3 Z i0 i1 h0 n0 _ s₁.heap _
          rw [e0]
          exact ⟨(by rw [own_f3, if_neg hc1, if_neg hc2, if_neg hc3, if_pos hc4] <;> first | rfl | decide), N0, rfl⟩
        · -- pc 26
          refine ownE.go (T' := s₁) (f' := (mkF m 31 #[.val (.int i0), .val (.int i1)] [])) (fun t kt => XS.icmpYes (g := (mkF m 26 #[.val (.int i0), .val (.int i1)] [(.int (133 : Int32)), (.int i0)])) X0.here hx rfl (pc0 := 26) (pc' := 31) rfl (hb hby own_d3_26) rfl (Jvm.Free.XT.ii_ne_t hc4) (by decide) (by decide) kt) ?_
          refine ownE.go (T' := s₁) (f' := (mkF m 35 #[.val (.int i0), .val (.int i1)] [(.int (8232 : Int32)), (.int i0)])) (fun t kt => ?_) ?_
          · show Steps p.tables e below (s₁.setTop (mkF m 31 #[.val (.int i0), .val (.int i1)] [])) _
            refine XS.iloadN X0.here hx rfl (hb hby own_d3_31) rfl ?_
            show Steps p.tables e below (s₁.setTop (mkF m 32 #[.val (.int i0), .val (.int i1)] [(.int i0)])) _
            refine XS.sipush X0.here hx rfl (hb hby own_d3_32) ?_
            exact kt
          by_cases hc5 : i0 = (8232 : Int32)
          · -- pc 35
            refine ownE.go (T' := s₁) (f' := (mkF m 38 #[.val (.int i0), .val (.int i1)] [])) (fun t kt => XS.icmpNo (g := (mkF m 35 #[.val (.int i0), .val (.int i1)] [(.int (8232 : Int32)), (.int i0)])) X0.here hx rfl (hb hby own_d3_35) rfl (Jvm.Free.XT.ii_ne_f hc5) kt) ?_
            refine ownE.go (T' := s₁) (f' := (mkF m 39 #[.val (.int i0), .val (.int i1)] [(.int (1 : Int32))])) (fun t kt => ?_) ?_
            · show Steps p.tables e below (s₁.setTop (mkF m 38 #[.val (.int i0), .val (.int i1)] [])) _
              refine XS.iconst X0.here hx rfl (hb hby own_d3_38) ?_
              exact kt
            refine ownE.retN X0 hx hlk (t := .boolean) hret (by simp) (hb hby own_d3_39) ?_ (by decide) (by decide)
            show own_Q3 Z i0 i1 h0 n0 _ s₁.heap _
            rw [e0]
            exact ⟨(by rw [own_f3, if_neg hc1, if_neg hc2, if_neg hc3, if_neg hc4, if_pos hc5] <;> first | rfl | decide), N0, rfl⟩
          · -- pc 35
            refine ownE.go (T' := s₁) (f' := (mkF m 40 #[.val (.int i0), .val (.int i1)] [])) (fun t kt => XS.icmpYes (g := (mkF m 35 #[.val (.int i0), .val (.int i1)] [(.int (8232 : Int32)), (.int i0)])) X0.here hx rfl (pc0 := 35) (pc' := 40) rfl (hb hby own_d3_35) rfl (Jvm.Free.XT.ii_ne_t hc5) (by decide) (by decide) kt) ?_
            refine ownE.go (T' := s₁) (f' := (mkF m 41 #[.val (.int i0), .val (.int i1)] [(.int (0 : Int32))])) (fun t kt => ?_) ?_
            · show Steps p.tables e below (s₁.setTop (mkF m 40 #[.val (.int i0), .val (.int i1)] [])) _
              refine XS.iconst X0.here hx rfl (hb hby own_d3_40) ?_
              exact kt
            refine ownE.retN X0 hx hlk (t := .boolean) hret (by simp) (hb hby own_d3_41) ?_ (by decide) (by decide)
            show own_Q3 Z i0 i1 h0 n0 _ s₁.heap _
            rw [e0]
            exact ⟨(by rw [own_f3, if_neg hc1, if_neg hc2, if_neg hc3, if_neg hc4, if_neg hc5] <;> first | rfl | decide), N0, rfl⟩
def own_j0_11_S0 (i0 : Int32) (i1 : Int32) : Int32 :=
  if (i1 &&& (1 : Int32)) = (0 : Int32) then
    (0 : Int32)
  else
    (1 : Int32)
theorem own_pd2 : parseMethodDescriptor "(II)I" = some ⟨[.int, .int], some .int⟩ := by decide +kernel
theorem own_pd3 : parseMethodDescriptor "(IZ)Z" = some ⟨[.int, .boolean], some .boolean⟩ := by decide +kernel
theorem own_ef0 (m : MethodId) (x0 : Int32) (x1 : Int32) : entryFrame m #[(.int x0), (.int x1)] maxLocals = mkF m 0 #[.val (.int x0), .val (.int x1), .unset, .unset, .unset, .unset, .unset, .unset] [] := by first | (simp [entryFrame, mkF, argsToLocals, Value.category, maxLocals]; done) | rfl
def own_f0 (i0 : Int32) (i1 : Int32) : Int32 :=
  if (own_f2 (own_f1 (((i1.toUInt32 >>> ((1 : Int32) &&& 31).toUInt32).toInt32) &&& (7 : Int32)) i0) (own_j0_11_S0 i0 i1)) = (own_f3 (own_f1 (((i1.toUInt32 >>> ((1 : Int32) &&& 31).toUInt32).toInt32) &&& (7 : Int32)) i0) (own_j0_11_S0 i0 i1)) then
    if (own_f2 (own_f1 (((i1.toUInt32 >>> ((1 : Int32) &&& 31).toUInt32).toInt32) &&& (7 : Int32)) i0) (0 : Int32)) = (0 : Int32) then
      if (own_f2 (own_f1 (((i1.toUInt32 >>> ((1 : Int32) &&& 31).toUInt32).toInt32) &&& (7 : Int32)) i0) (0 : Int32)) = (own_f3 (own_f1 (((i1.toUInt32 >>> ((1 : Int32) &&& 31).toUInt32).toInt32) &&& (7 : Int32)) i0) (0 : Int32)) then
        if (own_f2 (own_f1 (((i1.toUInt32 >>> ((1 : Int32) &&& 31).toUInt32).toInt32) &&& (7 : Int32)) i0) (1 : Int32)) = (own_f3 (own_f1 (((i1.toUInt32 >>> ((1 : Int32) &&& 31).toUInt32).toInt32) &&& (7 : Int32)) i0) (1 : Int32)) then
          (1 : Int32)
        else
          (0 : Int32)
      else
        (0 : Int32)
    else
      if (own_f2 (own_f1 (((i1.toUInt32 >>> ((1 : Int32) &&& 31).toUInt32).toInt32) &&& (7 : Int32)) i0) (1 : Int32)) = (0 : Int32) then
        (0 : Int32)
      else
        if (own_f2 (own_f1 (((i1.toUInt32 >>> ((1 : Int32) &&& 31).toUInt32).toInt32) &&& (7 : Int32)) i0) (0 : Int32)) = (own_f3 (own_f1 (((i1.toUInt32 >>> ((1 : Int32) &&& 31).toUInt32).toInt32) &&& (7 : Int32)) i0) (0 : Int32)) then
          if (own_f2 (own_f1 (((i1.toUInt32 >>> ((1 : Int32) &&& 31).toUInt32).toInt32) &&& (7 : Int32)) i0) (1 : Int32)) = (own_f3 (own_f1 (((i1.toUInt32 >>> ((1 : Int32) &&& 31).toUInt32).toInt32) &&& (7 : Int32)) i0) (1 : Int32)) then
            (1 : Int32)
          else
            (0 : Int32)
        else
          (0 : Int32)
  else
    (0 : Int32)
def own_Q0 (Z : State) (i0 : Int32) (i1 : Int32) (h0 : Heap) (n0 : Nat) (v : Option Value) (h : Heap) (L : List Loc) : Prop := v = some (.int (own_f0 i0 i1)) ∧ Fr n0 L ∧ h = h0
set_option maxRecDepth 65536 in
set_option maxHeartbeats 40000000 in
theorem own_rm0 (l : Launch) (Z : State) (a0 : Array Value) (hw : ∀ d ∈ tables_1, d.before a0 Z = true) (ws : List Jvm.Cond) (i0 : Int32) (i1 : Int32) (h0 : Heap) (n0 : Nat) (Z0 : n0 ≤ h0.size) :
    MetFree l x (head1 (Jvm.Cond.code x code maxLocals ret :: ws) room_1) (fun a U => a = #[(.int i0), (.int i1)] ∧ Z.Warmed39 U.vm ∧ U.heap = h0) (fun _ _ _ _ _ => True) (fun _ U o U' => ∃ v L, o = .returned v ∧ own_Q0 Z i0 i1 h0 n0 v U'.heap L ∧ FrameEnd U o U' L 0 0) := by
  refine MetFree.of_bodySF (plainFor_of_name own_pn0) hisR ?_
  intro p e s m args below meth c s₁ Bd hml0 hP hK
  obtain ⟨rfl, hZ, hh⟩ := hP
  have hx := Bd.exec
  have hby := Bd.bytes
  have hret := Bd.returns
  have hlk := BodyLoose.notSynchronized Bd
  have hml : c.maxLocals = 8 := hml0
  have hown : s.vm.findClass "traceward/schema/LineBreaksBreaksLinePinLaw" = some m.cls := findClass_of_methodNamed Bd.named
  have hnm := (name_of_methodNamed Bd.named Bd.method).1
  have X0 : Stand p l e room_1 s m #[(.int i0), (.int i1)] below meth c s₁ [] 0 0 := Stand.of_body Bd
  have e0 : s₁.heap = h0 := by rw [← hh, Bd.state]; rfl
  have N0 := Fr.nil n0
  have K0 : Keep h0 h0 [] := Keep.refl h0 _
  show ownE p e below s (own_Q0 Z i0 i1 h0 n0) 0 0 s₁ (entryFrame m #[(.int i0), (.int i1)] maxLocals)
  rw [own_ef0]
  have J3 : ∀ (TJ3 : State) (locsJ3 : List Loc), Stand p l e room_1 s m #[(.int i0), (.int i1)] below meth c TJ3 locsJ3 0 0 → TJ3.heap = h0 → Fr n0 locsJ3 → ownE p e below s (own_Q0 Z i0 i1 h0 n0) 0 0 TJ3 (mkF m 11 #[.val (.int i0), .val (.int i1), .unset, .unset, .unset, .unset, .unset, .unset] [(.int (own_j0_11_S0 i0 i1))]) := by
    intro TJ3 locsJ3 XJ3 eJ3 NJ3
    refine ownE.go (T' := TJ3) (f' := (mkF m 21 #[.val (.int i0), .val (.int i1), .val (.int (own_j0_11_S0 i0 i1)), .val (.int (((i1.toUInt32 >>> ((1 : Int32) &&& 31).toUInt32).toInt32) &&& (7 : Int32))), .unset, .unset, .unset, .unset] [(.int i0), (.int (((i1.toUInt32 >>> ((1 : Int32) &&& 31).toUInt32).toInt32) &&& (7 : Int32)))])) (fun t kt => ?_) ?_
    · show Steps p.tables e below (TJ3.setTop (mkF m 11 #[.val (.int i0), .val (.int i1), .unset, .unset, .unset, .unset, .unset, .unset] [(.int (own_j0_11_S0 i0 i1))])) _
      refine XS.istoreN XJ3.here hx rfl (hb hby at_11) rfl (l' := #[.val (.int i0), .val (.int i1), .val (.int (own_j0_11_S0 i0 i1)), .unset, .unset, .unset, .unset, .unset]) rfl ?_
      show Steps p.tables e below (TJ3.setTop (mkF m 12 #[.val (.int i0), .val (.int i1), .val (.int (own_j0_11_S0 i0 i1)), .unset, .unset, .unset, .unset, .unset] [])) _
      refine XS.iloadN XJ3.here hx rfl (hb hby at_12) rfl ?_
      show Steps p.tables e below (TJ3.setTop (mkF m 13 #[.val (.int i0), .val (.int i1), .val (.int (own_j0_11_S0 i0 i1)), .unset, .unset, .unset, .unset, .unset] [(.int i1)])) _
      refine XS.iconst XJ3.here hx rfl (hb hby at_13) ?_
      show Steps p.tables e below (TJ3.setTop (mkF m 14 #[.val (.int i0), .val (.int i1), .val (.int (own_j0_11_S0 i0 i1)), .unset, .unset, .unset, .unset, .unset] [(.int (1 : Int32)), (.int i1)])) _
      refine XS.iushr XJ3.here hx rfl (hb hby at_14) rfl ?_
      show Steps p.tables e below (TJ3.setTop (mkF m 15 #[.val (.int i0), .val (.int i1), .val (.int (own_j0_11_S0 i0 i1)), .unset, .unset, .unset, .unset, .unset] [(.int ((i1.toUInt32 >>> ((1 : Int32) &&& 31).toUInt32).toInt32))])) _
      refine XS.bipush XJ3.here hx rfl (hb hby at_15) ?_
      show Steps p.tables e below (TJ3.setTop (mkF m 17 #[.val (.int i0), .val (.int i1), .val (.int (own_j0_11_S0 i0 i1)), .unset, .unset, .unset, .unset, .unset] [(.int (7 : Int32)), (.int ((i1.toUInt32 >>> ((1 : Int32) &&& 31).toUInt32).toInt32))])) _
      refine XS.iand XJ3.here hx rfl (hb hby at_17) rfl ?_
      show Steps p.tables e below (TJ3.setTop (mkF m 18 #[.val (.int i0), .val (.int i1), .val (.int (own_j0_11_S0 i0 i1)), .unset, .unset, .unset, .unset, .unset] [(.int (((i1.toUInt32 >>> ((1 : Int32) &&& 31).toUInt32).toInt32) &&& (7 : Int32)))])) _
      refine XS.istoreN XJ3.here hx rfl (hb hby at_18) rfl (l' := #[.val (.int i0), .val (.int i1), .val (.int (own_j0_11_S0 i0 i1)), .val (.int (((i1.toUInt32 >>> ((1 : Int32) &&& 31).toUInt32).toInt32) &&& (7 : Int32))), .unset, .unset, .unset, .unset]) rfl ?_
      show Steps p.tables e below (TJ3.setTop (mkF m 19 #[.val (.int i0), .val (.int i1), .val (.int (own_j0_11_S0 i0 i1)), .val (.int (((i1.toUInt32 >>> ((1 : Int32) &&& 31).toUInt32).toInt32) &&& (7 : Int32))), .unset, .unset, .unset, .unset] [])) _
      refine XS.iloadN XJ3.here hx rfl (hb hby at_19) rfl ?_
      show Steps p.tables e below (TJ3.setTop (mkF m 20 #[.val (.int i0), .val (.int i1), .val (.int (own_j0_11_S0 i0 i1)), .val (.int (((i1.toUInt32 >>> ((1 : Int32) &&& 31).toUInt32).toInt32) &&& (7 : Int32))), .unset, .unset, .unset, .unset] [(.int (((i1.toUInt32 >>> ((1 : Int32) &&& 31).toUInt32).toInt32) &&& (7 : Int32)))])) _
      refine XS.iloadN XJ3.here hx rfl (hb hby at_20) rfl ?_
      exact kt
    obtain ⟨_, _, ⟨T4, L4, k4, n4⟩, -, X4, ⟨Lc4, hQ4, l4, y4, z4⟩, st4⟩ := Jvm.LawKit.callS XJ3 hx (y := (⟨"traceward/schema/LineBreaksBreaksLinePinLaw", "pick", "(II)I"⟩ : MethodName)) hown (mvT hZ (hw _ (List.mem_of_getElem? (i := 0) rfl))) (mvT hZ (hw _ (List.mem_of_getElem? (i := 1) rfl))) (mvT hZ (hw _ (List.mem_of_getElem? (i := 2) rfl))) (mvT hZ (hw _ (List.mem_of_getElem? (i := 3) rfl))) (by decide) (backOf (W := 0) (own_rm1 l Z a0 hw [] (((i1.toUInt32 >>> ((1 : Int32) &&& 31).toUInt32).toInt32) &&& (7 : Int32)) i0 h0 n0 (Nat.le_trans Z0 K0.1) ) hZ (hw _ (List.mem_of_getElem? (i := 3) rfl)) (hw _ (List.mem_of_getElem? (i := 2) rfl)) (by decide) (by decide)) (g := (mkF m 21 #[.val (.int i0), .val (.int i1), .val (.int (own_j0_11_S0 i0 i1)), .val (.int (((i1.toUInt32 >>> ((1 : Int32) &&& 31).toUInt32).toInt32) &&& (7 : Int32))), .unset, .unset, .unset, .unset] [(.int i0), (.int (((i1.toUInt32 >>> ((1 : Int32) &&& 31).toUInt32).toInt32) &&& (7 : Int32)))])) rfl (by rw [hml]; rfl) (argsL := [(.int (((i1.toUInt32 >>> ((1 : Int32) &&& 31).toUInt32).toInt32) &&& (7 : Int32))), (.int i0)]) (rest := []) (lenOf own_pd2 rfl) rfl (by show 2 * 0 + _ ≤ _; exact Nat.le_of_eq rfl) (hb hby at_21) (fun _ _ => ⟨rfl, eJ3, (by decide : 0 + 0 ≤ _), (by decide : 0 + 0 ≤ _)⟩)
    dsimp only [Pt.U, Pt.locs, Pt.cells, Pt.slots] at X4 l4 y4 z4 st4 hQ4
    subst l4 y4 z4
    obtain ⟨rfl, N4q, e4⟩ := hQ4
    have N4 := Fr.app NJ3 N4q
    refine ownE.go (T' := T4) (f' := (mkF m 24 #[.val (.int i0), .val (.int i1), .val (.int (own_j0_11_S0 i0 i1)), .val (.int (((i1.toUInt32 >>> ((1 : Int32) &&& 31).toUInt32).toInt32) &&& (7 : Int32))), .unset, .unset, .unset, .unset] [(.int (own_f1 (((i1.toUInt32 >>> ((1 : Int32) &&& 31).toUInt32).toInt32) &&& (7 : Int32)) i0))])) st4 ?_
    refine ownE.go (T' := T4) (f' := (mkF m 29 #[.val (.int i0), .val (.int i1), .val (.int (own_j0_11_S0 i0 i1)), .val (.int (((i1.toUInt32 >>> ((1 : Int32) &&& 31).toUInt32).toInt32) &&& (7 : Int32))), .val (.int (own_f1 (((i1.toUInt32 >>> ((1 : Int32) &&& 31).toUInt32).toInt32) &&& (7 : Int32)) i0)), .unset, .unset, .unset] [(.int (own_j0_11_S0 i0 i1)), (.int (own_f1 (((i1.toUInt32 >>> ((1 : Int32) &&& 31).toUInt32).toInt32) &&& (7 : Int32)) i0))])) (fun t kt => ?_) ?_
    · show Steps p.tables e below (T4.setTop (mkF m 24 #[.val (.int i0), .val (.int i1), .val (.int (own_j0_11_S0 i0 i1)), .val (.int (((i1.toUInt32 >>> ((1 : Int32) &&& 31).toUInt32).toInt32) &&& (7 : Int32))), .unset, .unset, .unset, .unset] [(.int (own_f1 (((i1.toUInt32 >>> ((1 : Int32) &&& 31).toUInt32).toInt32) &&& (7 : Int32)) i0))])) _
      refine XS.istore X4.here hx rfl (hb hby at_24) rfl (l' := #[.val (.int i0), .val (.int i1), .val (.int (own_j0_11_S0 i0 i1)), .val (.int (((i1.toUInt32 >>> ((1 : Int32) &&& 31).toUInt32).toInt32) &&& (7 : Int32))), .val (.int (own_f1 (((i1.toUInt32 >>> ((1 : Int32) &&& 31).toUInt32).toInt32) &&& (7 : Int32)) i0)), .unset, .unset, .unset]) rfl ?_
      show Steps p.tables e below (T4.setTop (mkF m 26 #[.val (.int i0), .val (.int i1), .val (.int (own_j0_11_S0 i0 i1)), .val (.int (((i1.toUInt32 >>> ((1 : Int32) &&& 31).toUInt32).toInt32) &&& (7 : Int32))), .val (.int (own_f1 (((i1.toUInt32 >>> ((1 : Int32) &&& 31).toUInt32).toInt32) &&& (7 : Int32)) i0)), .unset, .unset, .unset] [])) _
      refine XS.iload X4.here hx rfl (hb hby at_26) rfl ?_
      show Steps p.tables e below (T4.setTop (mkF m 28 #[.val (.int i0), .val (.int i1), .val (.int (own_j0_11_S0 i0 i1)), .val (.int (((i1.toUInt32 >>> ((1 : Int32) &&& 31).toUInt32).toInt32) &&& (7 : Int32))), .val (.int (own_f1 (((i1.toUInt32 >>> ((1 : Int32) &&& 31).toUInt32).toInt32) &&& (7 : Int32)) i0)), .unset, .unset, .unset] [(.int (own_f1 (((i1.toUInt32 >>> ((1 : Int32) &&& 31).toUInt32).toInt32) &&& (7 : Int32)) i0))])) _
      refine XS.iloadN X4.here hx rfl (hb hby at_28) rfl ?_
      exact kt
    obtain ⟨_, _, ⟨T5, L5, k5, n5⟩, -, X5, ⟨Lc5, hQ5, l5, y5, z5⟩, st5⟩ := Jvm.LawKit.callS X4 hx (y := (⟨"traceward/schema/LineBreaks", "breaksLine", "(IZ)Z"⟩ : MethodName)) hown (mvT hZ (hw _ (List.mem_of_getElem? (i := 4) rfl))) (mvT hZ (hw _ (List.mem_of_getElem? (i := 5) rfl))) (mvT hZ (hw _ (List.mem_of_getElem? (i := 6) rfl))) (mvT hZ (hw _ (List.mem_of_getElem? (i := 7) rfl))) (by decide) (backOf (W := 0) (own_rm2 l Z a0 hw [] (own_f1 (((i1.toUInt32 >>> ((1 : Int32) &&& 31).toUInt32).toInt32) &&& (7 : Int32)) i0) (own_j0_11_S0 i0 i1) h0 n0 (Nat.le_trans Z0 K0.1) ) hZ (hw _ (List.mem_of_getElem? (i := 7) rfl)) (hw _ (List.mem_of_getElem? (i := 6) rfl)) (by decide) (by decide)) (g := (mkF m 29 #[.val (.int i0), .val (.int i1), .val (.int (own_j0_11_S0 i0 i1)), .val (.int (((i1.toUInt32 >>> ((1 : Int32) &&& 31).toUInt32).toInt32) &&& (7 : Int32))), .val (.int (own_f1 (((i1.toUInt32 >>> ((1 : Int32) &&& 31).toUInt32).toInt32) &&& (7 : Int32)) i0)), .unset, .unset, .unset] [(.int (own_j0_11_S0 i0 i1)), (.int (own_f1 (((i1.toUInt32 >>> ((1 : Int32) &&& 31).toUInt32).toInt32) &&& (7 : Int32)) i0))])) rfl (by rw [hml]; rfl) (argsL := [(.int (own_f1 (((i1.toUInt32 >>> ((1 : Int32) &&& 31).toUInt32).toInt32) &&& (7 : Int32)) i0)), (.int (own_j0_11_S0 i0 i1))]) (rest := []) (lenOf own_pd3 rfl) rfl (by show 2 * 0 + _ ≤ _; exact Nat.le_of_eq rfl) (hb hby at_29) (fun _ _ => ⟨rfl, e4, (by decide : 0 + 0 ≤ _), (by decide : 0 + 0 ≤ _)⟩)
    dsimp only [Pt.U, Pt.locs, Pt.cells, Pt.slots] at X5 l5 y5 z5 st5 hQ5
    subst l5 y5 z5
    obtain ⟨rfl, N5q, e5⟩ := hQ5
    have N5 := Fr.app N4 N5q
    refine ownE.go (T' := T5) (f' := (mkF m 32 #[.val (.int i0), .val (.int i1), .val (.int (own_j0_11_S0 i0 i1)), .val (.int (((i1.toUInt32 >>> ((1 : Int32) &&& 31).toUInt32).toInt32) &&& (7 : Int32))), .val (.int (own_f1 (((i1.toUInt32 >>> ((1 : Int32) &&& 31).toUInt32).toInt32) &&& (7 : Int32)) i0)), .unset, .unset, .unset] [(.int (own_f2 (own_f1 (((i1.toUInt32 >>> ((1 : Int32) &&& 31).toUInt32).toInt32) &&& (7 : Int32)) i0) (own_j0_11_S0 i0 i1)))])) st5 ?_
    refine ownE.go (T' := T5) (f' := (mkF m 37 #[.val (.int i0), .val (.int i1), .val (.int (own_j0_11_S0 i0 i1)), .val (.int (((i1.toUInt32 >>> ((1 : Int32) &&& 31).toUInt32).toInt32) &&& (7 : Int32))), .val (.int (own_f1 (((i1.toUInt32 >>> ((1 : Int32) &&& 31).toUInt32).toInt32) &&& (7 : Int32)) i0)), .val (.int (own_f2 (own_f1 (((i1.toUInt32 >>> ((1 : Int32) &&& 31).toUInt32).toInt32) &&& (7 : Int32)) i0) (own_j0_11_S0 i0 i1))), .unset, .unset] [(.int (0 : Int32)), (.int (own_f1 (((i1.toUInt32 >>> ((1 : Int32) &&& 31).toUInt32).toInt32) &&& (7 : Int32)) i0))])) (fun t kt => ?_) ?_
    · show Steps p.tables e below (T5.setTop (mkF m 32 #[.val (.int i0), .val (.int i1), .val (.int (own_j0_11_S0 i0 i1)), .val (.int (((i1.toUInt32 >>> ((1 : Int32) &&& 31).toUInt32).toInt32) &&& (7 : Int32))), .val (.int (own_f1 (((i1.toUInt32 >>> ((1 : Int32) &&& 31).toUInt32).toInt32) &&& (7 : Int32)) i0)), .unset, .unset, .unset] [(.int (own_f2 (own_f1 (((i1.toUInt32 >>> ((1 : Int32) &&& 31).toUInt32).toInt32) &&& (7 : Int32)) i0) (own_j0_11_S0 i0 i1)))])) _
      refine XS.istore X5.here hx rfl (hb hby at_32) rfl (l' := #[.val (.int i0), .val (.int i1), .val (.int (own_j0_11_S0 i0 i1)), .val (.int (((i1.toUInt32 >>> ((1 : Int32) &&& 31).toUInt32).toInt32) &&& (7 : Int32))), .val (.int (own_f1 (((i1.toUInt32 >>> ((1 : Int32) &&& 31).toUInt32).toInt32) &&& (7 : Int32)) i0)), .val (.int (own_f2 (own_f1 (((i1.toUInt32 >>> ((1 : Int32) &&& 31).toUInt32).toInt32) &&& (7 : Int32)) i0) (own_j0_11_S0 i0 i1))), .unset, .unset]) rfl ?_
      show Steps p.tables e below (T5.setTop (mkF m 34 #[.val (.int i0), .val (.int i1), .val (.int (own_j0_11_S0 i0 i1)), .val (.int (((i1.toUInt32 >>> ((1 : Int32) &&& 31).toUInt32).toInt32) &&& (7 : Int32))), .val (.int (own_f1 (((i1.toUInt32 >>> ((1 : Int32) &&& 31).toUInt32).toInt32) &&& (7 : Int32)) i0)), .val (.int (own_f2 (own_f1 (((i1.toUInt32 >>> ((1 : Int32) &&& 31).toUInt32).toInt32) &&& (7 : Int32)) i0) (own_j0_11_S0 i0 i1))), .unset, .unset] [])) _
      refine XS.iload X5.here hx rfl (hb hby at_34) rfl ?_
      show Steps p.tables e below (T5.setTop (mkF m 36 #[.val (.int i0), .val (.int i1), .val (.int (own_j0_11_S0 i0 i1)), .val (.int (((i1.toUInt32 >>> ((1 : Int32) &&& 31).toUInt32).toInt32) &&& (7 : Int32))), .val (.int (own_f1 (((i1.toUInt32 >>> ((1 : Int32) &&& 31).toUInt32).toInt32) &&& (7 : Int32)) i0)), .val (.int (own_f2 (own_f1 (((i1.toUInt32 >>> ((1 : Int32) &&& 31).toUInt32).toInt32) &&& (7 : Int32)) i0) (own_j0_11_S0 i0 i1))), .unset, .unset] [(.int (own_f1 (((i1.toUInt32 >>> ((1 : Int32) &&& 31).toUInt32).toInt32) &&& (7 : Int32)) i0))])) _
      refine XS.iconst X5.here hx rfl (hb hby at_36) ?_
      exact kt
    obtain ⟨_, _, ⟨T6, L6, k6, n6⟩, -, X6, ⟨Lc6, hQ6, l6, y6, z6⟩, st6⟩ := Jvm.LawKit.callS X5 hx (y := (⟨"traceward/schema/LineBreaks", "breaksLine", "(IZ)Z"⟩ : MethodName)) hown (mvT hZ (hw _ (List.mem_of_getElem? (i := 4) rfl))) (mvT hZ (hw _ (List.mem_of_getElem? (i := 5) rfl))) (mvT hZ (hw _ (List.mem_of_getElem? (i := 6) rfl))) (mvT hZ (hw _ (List.mem_of_getElem? (i := 7) rfl))) (by decide) (backOf (W := 0) (own_rm2 l Z a0 hw [] (own_f1 (((i1.toUInt32 >>> ((1 : Int32) &&& 31).toUInt32).toInt32) &&& (7 : Int32)) i0) (0 : Int32) h0 n0 (Nat.le_trans Z0 K0.1) ) hZ (hw _ (List.mem_of_getElem? (i := 7) rfl)) (hw _ (List.mem_of_getElem? (i := 6) rfl)) (by decide) (by decide)) (g := (mkF m 37 #[.val (.int i0), .val (.int i1), .val (.int (own_j0_11_S0 i0 i1)), .val (.int (((i1.toUInt32 >>> ((1 : Int32) &&& 31).toUInt32).toInt32) &&& (7 : Int32))), .val (.int (own_f1 (((i1.toUInt32 >>> ((1 : Int32) &&& 31).toUInt32).toInt32) &&& (7 : Int32)) i0)), .val (.int (own_f2 (own_f1 (((i1.toUInt32 >>> ((1 : Int32) &&& 31).toUInt32).toInt32) &&& (7 : Int32)) i0) (own_j0_11_S0 i0 i1))), .unset, .unset] [(.int (0 : Int32)), (.int (own_f1 (((i1.toUInt32 >>> ((1 : Int32) &&& 31).toUInt32).toInt32) &&& (7 : Int32)) i0))])) rfl (by rw [hml]; rfl) (argsL := [(.int (own_f1 (((i1.toUInt32 >>> ((1 : Int32) &&& 31).toUInt32).toInt32) &&& (7 : Int32)) i0)), (.int (0 : Int32))]) (rest := []) (lenOf own_pd3 rfl) rfl (by show 2 * 0 + _ ≤ _; exact Nat.le_of_eq rfl) (hb hby at_37) (fun _ _ => ⟨rfl, e5, (by decide : 0 + 0 ≤ _), (by decide : 0 + 0 ≤ _)⟩)
    dsimp only [Pt.U, Pt.locs, Pt.cells, Pt.slots] at X6 l6 y6 z6 st6 hQ6
    subst l6 y6 z6
    obtain ⟨rfl, N6q, e6⟩ := hQ6
    have N6 := Fr.app N5 N6q
    refine ownE.go (T' := T6) (f' := (mkF m 40 #[.val (.int i0), .val (.int i1), .val (.int (own_j0_11_S0 i0 i1)), .val (.int (((i1.toUInt32 >>> ((1 : Int32) &&& 31).toUInt32).toInt32) &&& (7 : Int32))), .val (.int (own_f1 (((i1.toUInt32 >>> ((1 : Int32) &&& 31).toUInt32).toInt32) &&& (7 : Int32)) i0)), .val (.int (own_f2 (own_f1 (((i1.toUInt32 >>> ((1 : Int32) &&& 31).toUInt32).toInt32) &&& (7 : Int32)) i0) (own_j0_11_S0 i0 i1))), .unset, .unset] [(.int (own_f2 (own_f1 (((i1.toUInt32 >>> ((1 : Int32) &&& 31).toUInt32).toInt32) &&& (7 : Int32)) i0) (0 : Int32)))])) st6 ?_
    refine ownE.go (T' := T6) (f' := (mkF m 45 #[.val (.int i0), .val (.int i1), .val (.int (own_j0_11_S0 i0 i1)), .val (.int (((i1.toUInt32 >>> ((1 : Int32) &&& 31).toUInt32).toInt32) &&& (7 : Int32))), .val (.int (own_f1 (((i1.toUInt32 >>> ((1 : Int32) &&& 31).toUInt32).toInt32) &&& (7 : Int32)) i0)), .val (.int (own_f2 (own_f1 (((i1.toUInt32 >>> ((1 : Int32) &&& 31).toUInt32).toInt32) &&& (7 : Int32)) i0) (own_j0_11_S0 i0 i1))), .val (.int (own_f2 (own_f1 (((i1.toUInt32 >>> ((1 : Int32) &&& 31).toUInt32).toInt32) &&& (7 : Int32)) i0) (0 : Int32))), .unset] [(.int (1 : Int32)), (.int (own_f1 (((i1.toUInt32 >>> ((1 : Int32) &&& 31).toUInt32).toInt32) &&& (7 : Int32)) i0))])) (fun t kt => ?_) ?_
    · show Steps p.tables e below (T6.setTop (mkF m 40 #[.val (.int i0), .val (.int i1), .val (.int (own_j0_11_S0 i0 i1)), .val (.int (((i1.toUInt32 >>> ((1 : Int32) &&& 31).toUInt32).toInt32) &&& (7 : Int32))), .val (.int (own_f1 (((i1.toUInt32 >>> ((1 : Int32) &&& 31).toUInt32).toInt32) &&& (7 : Int32)) i0)), .val (.int (own_f2 (own_f1 (((i1.toUInt32 >>> ((1 : Int32) &&& 31).toUInt32).toInt32) &&& (7 : Int32)) i0) (own_j0_11_S0 i0 i1))), .unset, .unset] [(.int (own_f2 (own_f1 (((i1.toUInt32 >>> ((1 : Int32) &&& 31).toUInt32).toInt32) &&& (7 : Int32)) i0) (0 : Int32)))])) _
      refine XS.istore X6.here hx rfl (hb hby at_40) rfl (l' := #[.val (.int i0), .val (.int i1), .val (.int (own_j0_11_S0 i0 i1)), .val (.int (((i1.toUInt32 >>> ((1 : Int32) &&& 31).toUInt32).toInt32) &&& (7 : Int32))), .val (.int (own_f1 (((i1.toUInt32 >>> ((1 : Int32) &&& 31).toUInt32).toInt32) &&& (7 : Int32)) i0)), .val (.int (own_f2 (own_f1 (((i1.toUInt32 >>> ((1 : Int32) &&& 31).toUInt32).toInt32) &&& (7 : Int32)) i0) (own_j0_11_S0 i0 i1))), .val (.int (own_f2 (own_f1 (((i1.toUInt32 >>> ((1 : Int32) &&& 31).toUInt32).toInt32) &&& (7 : Int32)) i0) (0 : Int32))), .unset]) rfl ?_
      show Steps p.tables e below (T6.setTop (mkF m 42 #[.val (.int i0), .val (.int i1), .val (.int (own_j0_11_S0 i0 i1)), .val (.int (((i1.toUInt32 >>> ((1 : Int32) &&& 31).toUInt32).toInt32) &&& (7 : Int32))), .val (.int (own_f1 (((i1.toUInt32 >>> ((1 : Int32) &&& 31).toUInt32).toInt32) &&& (7 : Int32)) i0)), .val (.int (own_f2 (own_f1 (((i1.toUInt32 >>> ((1 : Int32) &&& 31).toUInt32).toInt32) &&& (7 : Int32)) i0) (own_j0_11_S0 i0 i1))), .val (.int (own_f2 (own_f1 (((i1.toUInt32 >>> ((1 : Int32) &&& 31).toUInt32).toInt32) &&& (7 : Int32)) i0) (0 : Int32))), .unset] [])) _
      refine XS.iload X6.here hx rfl (hb hby at_42) rfl ?_
      show Steps p.tables e below (T6.setTop (mkF m 44 #[.val (.int i0), .val (.int i1), .val (.int (own_j0_11_S0 i0 i1)), .val (.int (((i1.toUInt32 >>> ((1 : Int32) &&& 31).toUInt32).toInt32) &&& (7 : Int32))), .val (.int (own_f1 (((i1.toUInt32 >>> ((1 : Int32) &&& 31).toUInt32).toInt32) &&& (7 : Int32)) i0)), .val (.int (own_f2 (own_f1 (((i1.toUInt32 >>> ((1 : Int32) &&& 31).toUInt32).toInt32) &&& (7 : Int32)) i0) (own_j0_11_S0 i0 i1))), .val (.int (own_f2 (own_f1 (((i1.toUInt32 >>> ((1 : Int32) &&& 31).toUInt32).toInt32) &&& (7 : Int32)) i0) (0 : Int32))), .unset] [(.int (own_f1 (((i1.toUInt32 >>> ((1 : Int32) &&& 31).toUInt32).toInt32) &&& (7 : Int32)) i0))])) _
      refine XS.iconst X6.here hx rfl (hb hby at_44) ?_
      exact kt
    obtain ⟨_, _, ⟨T7, L7, k7, n7⟩, -, X7, ⟨Lc7, hQ7, l7, y7, z7⟩, st7⟩ := Jvm.LawKit.callS X6 hx (y := (⟨"traceward/schema/LineBreaks", "breaksLine", "(IZ)Z"⟩ : MethodName)) hown (mvT hZ (hw _ (List.mem_of_getElem? (i := 4) rfl))) (mvT hZ (hw _ (List.mem_of_getElem? (i := 5) rfl))) (mvT hZ (hw _ (List.mem_of_getElem? (i := 6) rfl))) (mvT hZ (hw _ (List.mem_of_getElem? (i := 7) rfl))) (by decide) (backOf (W := 0) (own_rm2 l Z a0 hw [] (own_f1 (((i1.toUInt32 >>> ((1 : Int32) &&& 31).toUInt32).toInt32) &&& (7 : Int32)) i0) (1 : Int32) h0 n0 (Nat.le_trans Z0 K0.1) ) hZ (hw _ (List.mem_of_getElem? (i := 7) rfl)) (hw _ (List.mem_of_getElem? (i := 6) rfl)) (by decide) (by decide)) (g := (mkF m 45 #[.val (.int i0), .val (.int i1), .val (.int (own_j0_11_S0 i0 i1)), .val (.int (((i1.toUInt32 >>> ((1 : Int32) &&& 31).toUInt32).toInt32) &&& (7 : Int32))), .val (.int (own_f1 (((i1.toUInt32 >>> ((1 : Int32) &&& 31).toUInt32).toInt32) &&& (7 : Int32)) i0)), .val (.int (own_f2 (own_f1 (((i1.toUInt32 >>> ((1 : Int32) &&& 31).toUInt32).toInt32) &&& (7 : Int32)) i0) (own_j0_11_S0 i0 i1))), .val (.int (own_f2 (own_f1 (((i1.toUInt32 >>> ((1 : Int32) &&& 31).toUInt32).toInt32) &&& (7 : Int32)) i0) (0 : Int32))), .unset] [(.int (1 : Int32)), (.int (own_f1 (((i1.toUInt32 >>> ((1 : Int32) &&& 31).toUInt32).toInt32) &&& (7 : Int32)) i0))])) rfl (by rw [hml]; rfl) (argsL := [(.int (own_f1 (((i1.toUInt32 >>> ((1 : Int32) &&& 31).toUInt32).toInt32) &&& (7 : Int32)) i0)), (.int (1 : Int32))]) (rest := []) (lenOf own_pd3 rfl) rfl (by show 2 * 0 + _ ≤ _; exact Nat.le_of_eq rfl) (hb hby at_45) (fun _ _ => ⟨rfl, e6, (by decide : 0 + 0 ≤ _), (by decide : 0 + 0 ≤ _)⟩)
    dsimp only [Pt.U, Pt.locs, Pt.cells, Pt.slots] at X7 l7 y7 z7 st7 hQ7
    subst l7 y7 z7
    obtain ⟨rfl, N7q, e7⟩ := hQ7
    have N7 := Fr.app N6 N7q
    refine ownE.go (T' := T7) (f' := (mkF m 48 #[.val (.int i0), .val (.int i1), .val (.int (own_j0_11_S0 i0 i1)), .val (.int (((i1.toUInt32 >>> ((1 : Int32) &&& 31).toUInt32).toInt32) &&& (7 : Int32))), .val (.int (own_f1 (((i1.toUInt32 >>> ((1 : Int32) &&& 31).toUInt32).toInt32) &&& (7 : Int32)) i0)), .val (.int (own_f2 (own_f1 (((i1.toUInt32 >>> ((1 : Int32) &&& 31).toUInt32).toInt32) &&& (7 : Int32)) i0) (own_j0_11_S0 i0 i1))), .val (.int (own_f2 (own_f1 (((i1.toUInt32 >>> ((1 : Int32) &&& 31).toUInt32).toInt32) &&& (7 : Int32)) i0) (0 : Int32))), .unset] [(.int (own_f2 (own_f1 (((i1.toUInt32 >>> ((1 : Int32) &&& 31).toUInt32).toInt32) &&& (7 : Int32)) i0) (1 : Int32)))])) st7 ?_
    refine ownE.go (T' := T7) (f' := (mkF m 55 #[.val (.int i0), .val (.int i1), .val (.int (own_j0_11_S0 i0 i1)), .val (.int (((i1.toUInt32 >>> ((1 : Int32) &&& 31).toUInt32).toInt32) &&& (7 : Int32))), .val (.int (own_f1 (((i1.toUInt32 >>> ((1 : Int32) &&& 31).toUInt32).toInt32) &&& (7 : Int32)) i0)), .val (.int (own_f2 (own_f1 (((i1.toUInt32 >>> ((1 : Int32) &&& 31).toUInt32).toInt32) &&& (7 : Int32)) i0) (own_j0_11_S0 i0 i1))), .val (.int (own_f2 (own_f1 (((i1.toUInt32 >>> ((1 : Int32) &&& 31).toUInt32).toInt32) &&& (7 : Int32)) i0) (0 : Int32))), .val (.int (own_f2 (own_f1 (((i1.toUInt32 >>> ((1 : Int32) &&& 31).toUInt32).toInt32) &&& (7 : Int32)) i0) (1 : Int32)))] [(.int (own_j0_11_S0 i0 i1)), (.int (own_f1 (((i1.toUInt32 >>> ((1 : Int32) &&& 31).toUInt32).toInt32) &&& (7 : Int32)) i0)), (.int (own_f2 (own_f1 (((i1.toUInt32 >>> ((1 : Int32) &&& 31).toUInt32).toInt32) &&& (7 : Int32)) i0) (own_j0_11_S0 i0 i1)))])) (fun t kt => ?_) ?_
    · show Steps p.tables e below (T7.setTop (mkF m 48 #[.val (.int i0), .val (.int i1), .val (.int (own_j0_11_S0 i0 i1)), .val (.int (((i1.toUInt32 >>> ((1 : Int32) &&& 31).toUInt32).toInt32) &&& (7 : Int32))), .val (.int (own_f1 (((i1.toUInt32 >>> ((1 : Int32) &&& 31).toUInt32).toInt32) &&& (7 : Int32)) i0)), .val (.int (own_f2 (own_f1 (((i1.toUInt32 >>> ((1 : Int32) &&& 31).toUInt32).toInt32) &&& (7 : Int32)) i0) (own_j0_11_S0 i0 i1))), .val (.int (own_f2 (own_f1 (((i1.toUInt32 >>> ((1 : Int32) &&& 31).toUInt32).toInt32) &&& (7 : Int32)) i0) (0 : Int32))), .unset] [(.int (own_f2 (own_f1 (((i1.toUInt32 >>> ((1 : Int32) &&& 31).toUInt32).toInt32) &&& (7 : Int32)) i0) (1 : Int32)))])) _
      refine XS.istore X7.here hx rfl (hb hby at_48) rfl (l' := #[.val (.int i0), .val (.int i1), .val (.int (own_j0_11_S0 i0 i1)), .val (.int (((i1.toUInt32 >>> ((1 : Int32) &&& 31).toUInt32).toInt32) &&& (7 : Int32))), .val (.int (own_f1 (((i1.toUInt32 >>> ((1 : Int32) &&& 31).toUInt32).toInt32) &&& (7 : Int32)) i0)), .val (.int (own_f2 (own_f1 (((i1.toUInt32 >>> ((1 : Int32) &&& 31).toUInt32).toInt32) &&& (7 : Int32)) i0) (own_j0_11_S0 i0 i1))), .val (.int (own_f2 (own_f1 (((i1.toUInt32 >>> ((1 : Int32) &&& 31).toUInt32).toInt32) &&& (7 : Int32)) i0) (0 : Int32))), .val (.int (own_f2 (own_f1 (((i1.toUInt32 >>> ((1 : Int32) &&& 31).toUInt32).toInt32) &&& (7 : Int32)) i0) (1 : Int32)))]) rfl ?_
      show Steps p.tables e below (T7.setTop (mkF m 50 #[.val (.int i0), .val (.int i1), .val (.int (own_j0_11_S0 i0 i1)), .val (.int (((i1.toUInt32 >>> ((1 : Int32) &&& 31).toUInt32).toInt32) &&& (7 : Int32))), .val (.int (own_f1 (((i1.toUInt32 >>> ((1 : Int32) &&& 31).toUInt32).toInt32) &&& (7 : Int32)) i0)), .val (.int (own_f2 (own_f1 (((i1.toUInt32 >>> ((1 : Int32) &&& 31).toUInt32).toInt32) &&& (7 : Int32)) i0) (own_j0_11_S0 i0 i1))), .val (.int (own_f2 (own_f1 (((i1.toUInt32 >>> ((1 : Int32) &&& 31).toUInt32).toInt32) &&& (7 : Int32)) i0) (0 : Int32))), .val (.int (own_f2 (own_f1 (((i1.toUInt32 >>> ((1 : Int32) &&& 31).toUInt32).toInt32) &&& (7 : Int32)) i0) (1 : Int32)))] [])) _
      refine XS.iload X7.here hx rfl (hb hby at_50) rfl ?_
      show Steps p.tables e below (T7.setTop (mkF m 52 #[.val (.int i0), .val (.int i1), .val (.int (own_j0_11_S0 i0 i1)), .val (.int (((i1.toUInt32 >>> ((1 : Int32) &&& 31).toUInt32).toInt32) &&& (7 : Int32))), .val (.int (own_f1 (((i1.toUInt32 >>> ((1 : Int32) &&& 31).toUInt32).toInt32) &&& (7 : Int32)) i0)), .val (.int (own_f2 (own_f1 (((i1.toUInt32 >>> ((1 : Int32) &&& 31).toUInt32).toInt32) &&& (7 : Int32)) i0) (own_j0_11_S0 i0 i1))), .val (.int (own_f2 (own_f1 (((i1.toUInt32 >>> ((1 : Int32) &&& 31).toUInt32).toInt32) &&& (7 : Int32)) i0) (0 : Int32))), .val (.int (own_f2 (own_f1 (((i1.toUInt32 >>> ((1 : Int32) &&& 31).toUInt32).toInt32) &&& (7 : Int32)) i0) (1 : Int32)))] [(.int (own_f2 (own_f1 (((i1.toUInt32 >>> ((1 : Int32) &&& 31).toUInt32).toInt32) &&& (7 : Int32)) i0) (own_j0_11_S0 i0 i1)))])) _
      refine XS.iload X7.here hx rfl (hb hby at_52) rfl ?_
      show Steps p.tables e below (T7.setTop (mkF m 54 #[.val (.int i0), .val (.int i1), .val (.int (own_j0_11_S0 i0 i1)), .val (.int (((i1.toUInt32 >>> ((1 : Int32) &&& 31).toUInt32).toInt32) &&& (7 : Int32))), .val (.int (own_f1 (((i1.toUInt32 >>> ((1 : Int32) &&& 31).toUInt32).toInt32) &&& (7 : Int32)) i0)), .val (.int (own_f2 (own_f1 (((i1.toUInt32 >>> ((1 : Int32) &&& 31).toUInt32).toInt32) &&& (7 : Int32)) i0) (own_j0_11_S0 i0 i1))), .val (.int (own_f2 (own_f1 (((i1.toUInt32 >>> ((1 : Int32) &&& 31).toUInt32).toInt32) &&& (7 : Int32)) i0) (0 : Int32))), .val (.int (own_f2 (own_f1 (((i1.toUInt32 >>> ((1 : Int32) &&& 31).toUInt32).toInt32) &&& (7 : Int32)) i0) (1 : Int32)))] [(.int (own_f1 (((i1.toUInt32 >>> ((1 : Int32) &&& 31).toUInt32).toInt32) &&& (7 : Int32)) i0)), (.int (own_f2 (own_f1 (((i1.toUInt32 >>> ((1 : Int32) &&& 31).toUInt32).toInt32) &&& (7 : Int32)) i0) (own_j0_11_S0 i0 i1)))])) _
      refine XS.iloadN X7.here hx rfl (hb hby at_54) rfl ?_
      exact kt
    obtain ⟨_, _, ⟨T8, L8, k8, n8⟩, -, X8, ⟨Lc8, hQ8, l8, y8, z8⟩, st8⟩ := Jvm.LawKit.callS X7 hx (y := (⟨"traceward/schema/LineBreaksBreaksLinePinLaw", "expected", "(IZ)Z"⟩ : MethodName)) hown (mvT hZ (hw _ (List.mem_of_getElem? (i := 8) rfl))) (mvT hZ (hw _ (List.mem_of_getElem? (i := 9) rfl))) (mvT hZ (hw _ (List.mem_of_getElem? (i := 2) rfl))) (mvT hZ (hw _ (List.mem_of_getElem? (i := 10) rfl))) (by decide) (backOf (W := 1) (own_rm3 l Z a0 hw [] (own_f1 (((i1.toUInt32 >>> ((1 : Int32) &&& 31).toUInt32).toInt32) &&& (7 : Int32)) i0) (own_j0_11_S0 i0 i1) h0 n0 (Nat.le_trans Z0 K0.1) ) hZ (hw _ (List.mem_of_getElem? (i := 10) rfl)) (hw _ (List.mem_of_getElem? (i := 2) rfl)) (by decide) (by decide)) (g := (mkF m 55 #[.val (.int i0), .val (.int i1), .val (.int (own_j0_11_S0 i0 i1)), .val (.int (((i1.toUInt32 >>> ((1 : Int32) &&& 31).toUInt32).toInt32) &&& (7 : Int32))), .val (.int (own_f1 (((i1.toUInt32 >>> ((1 : Int32) &&& 31).toUInt32).toInt32) &&& (7 : Int32)) i0)), .val (.int (own_f2 (own_f1 (((i1.toUInt32 >>> ((1 : Int32) &&& 31).toUInt32).toInt32) &&& (7 : Int32)) i0) (own_j0_11_S0 i0 i1))), .val (.int (own_f2 (own_f1 (((i1.toUInt32 >>> ((1 : Int32) &&& 31).toUInt32).toInt32) &&& (7 : Int32)) i0) (0 : Int32))), .val (.int (own_f2 (own_f1 (((i1.toUInt32 >>> ((1 : Int32) &&& 31).toUInt32).toInt32) &&& (7 : Int32)) i0) (1 : Int32)))] [(.int (own_j0_11_S0 i0 i1)), (.int (own_f1 (((i1.toUInt32 >>> ((1 : Int32) &&& 31).toUInt32).toInt32) &&& (7 : Int32)) i0)), (.int (own_f2 (own_f1 (((i1.toUInt32 >>> ((1 : Int32) &&& 31).toUInt32).toInt32) &&& (7 : Int32)) i0) (own_j0_11_S0 i0 i1)))])) rfl (by rw [hml]; rfl) (argsL := [(.int (own_f1 (((i1.toUInt32 >>> ((1 : Int32) &&& 31).toUInt32).toInt32) &&& (7 : Int32)) i0)), (.int (own_j0_11_S0 i0 i1))]) (rest := [(.int (own_f2 (own_f1 (((i1.toUInt32 >>> ((1 : Int32) &&& 31).toUInt32).toInt32) &&& (7 : Int32)) i0) (own_j0_11_S0 i0 i1)))]) (lenOf own_pd3 rfl) rfl (by show 2 * 0 + _ ≤ _; exact Nat.le_of_eq rfl) (hb hby at_55) (fun _ _ => ⟨rfl, e7, (by decide : 0 + 0 ≤ _), (by decide : 0 + 0 ≤ _)⟩)
    dsimp only [Pt.U, Pt.locs, Pt.cells, Pt.slots] at X8 l8 y8 z8 st8 hQ8
    subst l8 y8 z8
    obtain ⟨rfl, N8q, e8⟩ := hQ8
    have N8 := Fr.app N7 N8q
    refine ownE.go (T' := T8) (f' := (mkF m 58 #[.val (.int i0), .val (.int i1), .val (.int (own_j0_11_S0 i0 i1)), .val (.int (((i1.toUInt32 >>> ((1 : Int32) &&& 31).toUInt32).toInt32) &&& (7 : Int32))), .val (.int (own_f1 (((i1.toUInt32 >>> ((1 : Int32) &&& 31).toUInt32).toInt32) &&& (7 : Int32)) i0)), .val (.int (own_f2 (own_f1 (((i1.toUInt32 >>> ((1 : Int32) &&& 31).toUInt32).toInt32) &&& (7 : Int32)) i0) (own_j0_11_S0 i0 i1))), .val (.int (own_f2 (own_f1 (((i1.toUInt32 >>> ((1 : Int32) &&& 31).toUInt32).toInt32) &&& (7 : Int32)) i0) (0 : Int32))), .val (.int (own_f2 (own_f1 (((i1.toUInt32 >>> ((1 : Int32) &&& 31).toUInt32).toInt32) &&& (7 : Int32)) i0) (1 : Int32)))] [(.int (own_f3 (own_f1 (((i1.toUInt32 >>> ((1 : Int32) &&& 31).toUInt32).toInt32) &&& (7 : Int32)) i0) (own_j0_11_S0 i0 i1))), (.int (own_f2 (own_f1 (((i1.toUInt32 >>> ((1 : Int32) &&& 31).toUInt32).toInt32) &&& (7 : Int32)) i0) (own_j0_11_S0 i0 i1)))])) st8 ?_
    by_cases hc9 : (own_f2 (own_f1 (((i1.toUInt32 >>> ((1 : Int32) &&& 31).toUInt32).toInt32) &&& (7 : Int32)) i0) (own_j0_11_S0 i0 i1)) = (own_f3 (own_f1 (((i1.toUInt32 >>> ((1 : Int32) &&& 31).toUInt32).toInt32) &&& (7 : Int32)) i0) (own_j0_11_S0 i0 i1))
    · -- pc 58
      refine ownE.go (T' := T8) (f' := (mkF m 63 #[.val (.int i0), .val (.int i1), .val (.int (own_j0_11_S0 i0 i1)), .val (.int (((i1.toUInt32 >>> ((1 : Int32) &&& 31).toUInt32).toInt32) &&& (7 : Int32))), .val (.int (own_f1 (((i1.toUInt32 >>> ((1 : Int32) &&& 31).toUInt32).toInt32) &&& (7 : Int32)) i0)), .val (.int (own_f2 (own_f1 (((i1.toUInt32 >>> ((1 : Int32) &&& 31).toUInt32).toInt32) &&& (7 : Int32)) i0) (own_j0_11_S0 i0 i1))), .val (.int (own_f2 (own_f1 (((i1.toUInt32 >>> ((1 : Int32) &&& 31).toUInt32).toInt32) &&& (7 : Int32)) i0) (0 : Int32))), .val (.int (own_f2 (own_f1 (((i1.toUInt32 >>> ((1 : Int32) &&& 31).toUInt32).toInt32) &&& (7 : Int32)) i0) (1 : Int32)))] [])) (fun t kt => XS.icmpYes (g := (mkF m 58 #[.val (.int i0), .val (.int i1), .val (.int (own_j0_11_S0 i0 i1)), .val (.int (((i1.toUInt32 >>> ((1 : Int32) &&& 31).toUInt32).toInt32) &&& (7 : Int32))), .val (.int (own_f1 (((i1.toUInt32 >>> ((1 : Int32) &&& 31).toUInt32).toInt32) &&& (7 : Int32)) i0)), .val (.int (own_f2 (own_f1 (((i1.toUInt32 >>> ((1 : Int32) &&& 31).toUInt32).toInt32) &&& (7 : Int32)) i0) (own_j0_11_S0 i0 i1))), .val (.int (own_f2 (own_f1 (((i1.toUInt32 >>> ((1 : Int32) &&& 31).toUInt32).toInt32) &&& (7 : Int32)) i0) (0 : Int32))), .val (.int (own_f2 (own_f1 (((i1.toUInt32 >>> ((1 : Int32) &&& 31).toUInt32).toInt32) &&& (7 : Int32)) i0) (1 : Int32)))] [(.int (own_f3 (own_f1 (((i1.toUInt32 >>> ((1 : Int32) &&& 31).toUInt32).toInt32) &&& (7 : Int32)) i0) (own_j0_11_S0 i0 i1))), (.int (own_f2 (own_f1 (((i1.toUInt32 >>> ((1 : Int32) &&& 31).toUInt32).toInt32) &&& (7 : Int32)) i0) (own_j0_11_S0 i0 i1)))])) X8.here hx rfl (pc0 := 58) (pc' := 63) rfl (hb hby at_58) rfl (Jvm.Free.XT.ii_eq_t hc9) (by decide) (by decide) kt) ?_
      refine ownE.go (T' := T8) (f' := (mkF m 65 #[.val (.int i0), .val (.int i1), .val (.int (own_j0_11_S0 i0 i1)), .val (.int (((i1.toUInt32 >>> ((1 : Int32) &&& 31).toUInt32).toInt32) &&& (7 : Int32))), .val (.int (own_f1 (((i1.toUInt32 >>> ((1 : Int32) &&& 31).toUInt32).toInt32) &&& (7 : Int32)) i0)), .val (.int (own_f2 (own_f1 (((i1.toUInt32 >>> ((1 : Int32) &&& 31).toUInt32).toInt32) &&& (7 : Int32)) i0) (own_j0_11_S0 i0 i1))), .val (.int (own_f2 (own_f1 (((i1.toUInt32 >>> ((1 : Int32) &&& 31).toUInt32).toInt32) &&& (7 : Int32)) i0) (0 : Int32))), .val (.int (own_f2 (own_f1 (((i1.toUInt32 >>> ((1 : Int32) &&& 31).toUInt32).toInt32) &&& (7 : Int32)) i0) (1 : Int32)))] [(.int (own_f2 (own_f1 (((i1.toUInt32 >>> ((1 : Int32) &&& 31).toUInt32).toInt32) &&& (7 : Int32)) i0) (0 : Int32)))])) (fun t kt => ?_) ?_
      · show Steps p.tables e below (T8.setTop (mkF m 63 #[.val (.int i0), .val (.int i1), .val (.int (own_j0_11_S0 i0 i1)), .val (.int (((i1.toUInt32 >>> ((1 : Int32) &&& 31).toUInt32).toInt32) &&& (7 : Int32))), .val (.int (own_f1 (((i1.toUInt32 >>> ((1 : Int32) &&& 31).toUInt32).toInt32) &&& (7 : Int32)) i0)), .val (.int (own_f2 (own_f1 (((i1.toUInt32 >>> ((1 : Int32) &&& 31).toUInt32).toInt32) &&& (7 : Int32)) i0) (own_j0_11_S0 i0 i1))), .val (.int (own_f2 (own_f1 (((i1.toUInt32 >>> ((1 : Int32) &&& 31).toUInt32).toInt32) &&& (7 : Int32)) i0) (0 : Int32))), .val (.int (own_f2 (own_f1 (((i1.toUInt32 >>> ((1 : Int32) &&& 31).toUInt32).toInt32) &&& (7 : Int32)) i0) (1 : Int32)))] [])) _
        refine XS.iload X8.here hx rfl (hb hby at_63) rfl ?_
        exact kt
      by_cases hc10 : (own_f2 (own_f1 (((i1.toUInt32 >>> ((1 : Int32) &&& 31).toUInt32).toInt32) &&& (7 : Int32)) i0) (0 : Int32)) = (0 : Int32)
      · -- pc 65
        refine ownE.go (T' := T8) (f' := (mkF m 75 #[.val (.int i0), .val (.int i1), .val (.int (own_j0_11_S0 i0 i1)), .val (.int (((i1.toUInt32 >>> ((1 : Int32) &&& 31).toUInt32).toInt32) &&& (7 : Int32))), .val (.int (own_f1 (((i1.toUInt32 >>> ((1 : Int32) &&& 31).toUInt32).toInt32) &&& (7 : Int32)) i0)), .val (.int (own_f2 (own_f1 (((i1.toUInt32 >>> ((1 : Int32) &&& 31).toUInt32).toInt32) &&& (7 : Int32)) i0) (own_j0_11_S0 i0 i1))), .val (.int (own_f2 (own_f1 (((i1.toUInt32 >>> ((1 : Int32) &&& 31).toUInt32).toInt32) &&& (7 : Int32)) i0) (0 : Int32))), .val (.int (own_f2 (own_f1 (((i1.toUInt32 >>> ((1 : Int32) &&& 31).toUInt32).toInt32) &&& (7 : Int32)) i0) (1 : Int32)))] [])) (fun t kt => XS.ifYes (g := (mkF m 65 #[.val (.int i0), .val (.int i1), .val (.int (own_j0_11_S0 i0 i1)), .val (.int (((i1.toUInt32 >>> ((1 : Int32) &&& 31).toUInt32).toInt32) &&& (7 : Int32))), .val (.int (own_f1 (((i1.toUInt32 >>> ((1 : Int32) &&& 31).toUInt32).toInt32) &&& (7 : Int32)) i0)), .val (.int (own_f2 (own_f1 (((i1.toUInt32 >>> ((1 : Int32) &&& 31).toUInt32).toInt32) &&& (7 : Int32)) i0) (own_j0_11_S0 i0 i1))), .val (.int (own_f2 (own_f1 (((i1.toUInt32 >>> ((1 : Int32) &&& 31).toUInt32).toInt32) &&& (7 : Int32)) i0) (0 : Int32))), .val (.int (own_f2 (own_f1 (((i1.toUInt32 >>> ((1 : Int32) &&& 31).toUInt32).toInt32) &&& (7 : Int32)) i0) (1 : Int32)))] [(.int (own_f2 (own_f1 (((i1.toUInt32 >>> ((1 : Int32) &&& 31).toUInt32).toInt32) &&& (7 : Int32)) i0) (0 : Int32)))])) X8.here hx rfl (pc0 := 65) (pc' := 75) rfl (hb hby at_65) rfl (Jvm.Free.XT.i0_eq_t hc10) (by decide) (by decide) kt) ?_
        refine ownE.go (T' := T8) (f' := (mkF m 80 #[.val (.int i0), .val (.int i1), .val (.int (own_j0_11_S0 i0 i1)), .val (.int (((i1.toUInt32 >>> ((1 : Int32) &&& 31).toUInt32).toInt32) &&& (7 : Int32))), .val (.int (own_f1 (((i1.toUInt32 >>> ((1 : Int32) &&& 31).toUInt32).toInt32) &&& (7 : Int32)) i0)), .val (.int (own_f2 (own_f1 (((i1.toUInt32 >>> ((1 : Int32) &&& 31).toUInt32).toInt32) &&& (7 : Int32)) i0) (own_j0_11_S0 i0 i1))), .val (.int (own_f2 (own_f1 (((i1.toUInt32 >>> ((1 : Int32) &&& 31).toUInt32).toInt32) &&& (7 : Int32)) i0) (0 : Int32))), .val (.int (own_f2 (own_f1 (((i1.toUInt32 >>> ((1 : Int32) &&& 31).toUInt32).toInt32) &&& (7 : Int32)) i0) (1 : Int32)))] [(.int (0 : Int32)), (.int (own_f1 (((i1.toUInt32 >>> ((1 : Int32) &&& 31).toUInt32).toInt32) &&& (7 : Int32)) i0)), (.int (own_f2 (own_f1 (((i1.toUInt32 >>> ((1 : Int32) &&& 31).toUInt32).toInt32) &&& (7 : Int32)) i0) (0 : Int32)))])) (fun t kt => ?_) ?_
        · show Steps p.tables e below (T8.setTop (mkF m 75 #[.val (.int i0), .val (.int i1), .val (.int (own_j0_11_S0 i0 i1)), .val (.int (((i1.toUInt32 >>> ((1 : Int32) &&& 31).toUInt32).toInt32) &&& (7 : Int32))), .val (.int (own_f1 (((i1.toUInt32 >>> ((1 : Int32) &&& 31).toUInt32).toInt32) &&& (7 : Int32)) i0)), .val (.int (own_f2 (own_f1 (((i1.toUInt32 >>> ((1 : Int32) &&& 31).toUInt32).toInt32) &&& (7 : Int32)) i0) (own_j0_11_S0 i0 i1))), .val (.int (own_f2 (own_f1 (((i1.toUInt32 >>> ((1 : Int32) &&& 31).toUInt32).toInt32) &&& (7 : Int32)) i0) (0 : Int32))), .val (.int (own_f2 (own_f1 (((i1.toUInt32 >>> ((1 : Int32) &&& 31).toUInt32).toInt32) &&& (7 : Int32)) i0) (1 : Int32)))] [])) _
          refine XS.iload X8.here hx rfl (hb hby at_75) rfl ?_
          show Steps p.tables e below (T8.setTop (mkF m 77 #[.val (.int i0), .val (.int i1), .val (.int (own_j0_11_S0 i0 i1)), .val (.int (((i1.toUInt32 >>> ((1 : Int32) &&& 31).toUInt32).toInt32) &&& (7 : Int32))), .val (.int (own_f1 (((i1.toUInt32 >>> ((1 : Int32) &&& 31).toUInt32).toInt32) &&& (7 : Int32)) i0)), .val (.int (own_f2 (own_f1 (((i1.toUInt32 >>> ((1 : Int32) &&& 31).toUInt32).toInt32) &&& (7 : Int32)) i0) (own_j0_11_S0 i0 i1))), .val (.int (own_f2 (own_f1 (((i1.toUInt32 >>> ((1 : Int32) &&& 31).toUInt32).toInt32) &&& (7 : Int32)) i0) (0 : Int32))), .val (.int (own_f2 (own_f1 (((i1.toUInt32 >>> ((1 : Int32) &&& 31).toUInt32).toInt32) &&& (7 : Int32)) i0) (1 : Int32)))] [(.int (own_f2 (own_f1 (((i1.toUInt32 >>> ((1 : Int32) &&& 31).toUInt32).toInt32) &&& (7 : Int32)) i0) (0 : Int32)))])) _
          refine XS.iload X8.here hx rfl (hb hby at_77) rfl ?_
          show Steps p.tables e below (T8.setTop (mkF m 79 #[.val (.int i0), .val (.int i1), .val (.int (own_j0_11_S0 i0 i1)), .val (.int (((i1.toUInt32 >>> ((1 : Int32) &&& 31).toUInt32).toInt32) &&& (7 : Int32))), .val (.int (own_f1 (((i1.toUInt32 >>> ((1 : Int32) &&& 31).toUInt32).toInt32) &&& (7 : Int32)) i0)), .val (.int (own_f2 (own_f1 (((i1.toUInt32 >>> ((1 : Int32) &&& 31).toUInt32).toInt32) &&& (7 : Int32)) i0) (own_j0_11_S0 i0 i1))), .val (.int (own_f2 (own_f1 (((i1.toUInt32 >>> ((1 : Int32) &&& 31).toUInt32).toInt32) &&& (7 : Int32)) i0) (0 : Int32))), .val (.int (own_f2 (own_f1 (((i1.toUInt32 >>> ((1 : Int32) &&& 31).toUInt32).toInt32) &&& (7 : Int32)) i0) (1 : Int32)))] [(.int (own_f1 (((i1.toUInt32 >>> ((1 : Int32) &&& 31).toUInt32).toInt32) &&& (7 : Int32)) i0)), (.int (own_f2 (own_f1 (((i1.toUInt32 >>> ((1 : Int32) &&& 31).toUInt32).toInt32) &&& (7 : Int32)) i0) (0 : Int32)))])) _
          refine XS.iconst X8.here hx rfl (hb hby at_79) ?_
          exact kt
        obtain ⟨_, _, ⟨T11, L11, k11, n11⟩, -, X11, ⟨Lc11, hQ11, l11, y11, z11⟩, st11⟩ := Jvm.LawKit.callS X8 hx (y := (⟨"traceward/schema/LineBreaksBreaksLinePinLaw", "expected", "(IZ)Z"⟩ : MethodName)) hown (mvT hZ (hw _ (List.mem_of_getElem? (i := 8) rfl))) (mvT hZ (hw _ (List.mem_of_getElem? (i := 9) rfl))) (mvT hZ (hw _ (List.mem_of_getElem? (i := 2) rfl))) (mvT hZ (hw _ (List.mem_of_getElem? (i := 10) rfl))) (by decide) (backOf (W := 1) (own_rm3 l Z a0 hw [] (own_f1 (((i1.toUInt32 >>> ((1 : Int32) &&& 31).toUInt32).toInt32) &&& (7 : Int32)) i0) (0 : Int32) h0 n0 (Nat.le_trans Z0 K0.1) ) hZ (hw _ (List.mem_of_getElem? (i := 10) rfl)) (hw _ (List.mem_of_getElem? (i := 2) rfl)) (by decide) (by decide)) (g := (mkF m 80 #[.val (.int i0), .val (.int i1), .val (.int (own_j0_11_S0 i0 i1)), .val (.int (((i1.toUInt32 >>> ((1 : Int32) &&& 31).toUInt32).toInt32) &&& (7 : Int32))), .val (.int (own_f1 (((i1.toUInt32 >>> ((1 : Int32) &&& 31).toUInt32).toInt32) &&& (7 : Int32)) i0)), .val (.int (own_f2 (own_f1 (((i1.toUInt32 >>> ((1 : Int32) &&& 31).toUInt32).toInt32) &&& (7 : Int32)) i0) (own_j0_11_S0 i0 i1))), .val (.int (own_f2 (own_f1 (((i1.toUInt32 >>> ((1 : Int32) &&& 31).toUInt32).toInt32) &&& (7 : Int32)) i0) (0 : Int32))), .val (.int (own_f2 (own_f1 (((i1.toUInt32 >>> ((1 : Int32) &&& 31).toUInt32).toInt32) &&& (7 : Int32)) i0) (1 : Int32)))] [(.int (0 : Int32)), (.int (own_f1 (((i1.toUInt32 >>> ((1 : Int32) &&& 31).toUInt32).toInt32) &&& (7 : Int32)) i0)), (.int (own_f2 (own_f1 (((i1.toUInt32 >>> ((1 : Int32) &&& 31).toUInt32).toInt32) &&& (7 : Int32)) i0) (0 : Int32)))])) rfl (by rw [hml]; rfl) (argsL := [(.int (own_f1 (((i1.toUInt32 >>> ((1 : Int32) &&& 31).toUInt32).toInt32) &&& (7 : Int32)) i0)), (.int (0 : Int32))]) (rest := [(.int (own_f2 (own_f1 (((i1.toUInt32 >>> ((1 : Int32) &&& 31).toUInt32).toInt32) &&& (7 : Int32)) i0) (0 : Int32)))]) (lenOf own_pd3 rfl) rfl (by show 2 * 0 + _ ≤ _; exact Nat.le_of_eq rfl) (hb hby at_80) (fun _ _ => ⟨rfl, e8, (by decide : 0 + 0 ≤ _), (by decide : 0 + 0 ≤ _)⟩)
        dsimp only [Pt.U, Pt.locs, Pt.cells, Pt.slots] at X11 l11 y11 z11 st11 hQ11
        subst l11 y11 z11
        obtain ⟨rfl, N11q, e11⟩ := hQ11
        have N11 := Fr.app N8 N11q
        refine ownE.go (T' := T11) (f' := (mkF m 83 #[.val (.int i0), .val (.int i1), .val (.int (own_j0_11_S0 i0 i1)), .val (.int (((i1.toUInt32 >>> ((1 : Int32) &&& 31).toUInt32).toInt32) &&& (7 : Int32))), .val (.int (own_f1 (((i1.toUInt32 >>> ((1 : Int32) &&& 31).toUInt32).toInt32) &&& (7 : Int32)) i0)), .val (.int (own_f2 (own_f1 (((i1.toUInt32 >>> ((1 : Int32) &&& 31).toUInt32).toInt32) &&& (7 : Int32)) i0) (own_j0_11_S0 i0 i1))), .val (.int (own_f2 (own_f1 (((i1.toUInt32 >>> ((1 : Int32) &&& 31).toUInt32).toInt32) &&& (7 : Int32)) i0) (0 : Int32))), .val (.int (own_f2 (own_f1 (((i1.toUInt32 >>> ((1 : Int32) &&& 31).toUInt32).toInt32) &&& (7 : Int32)) i0) (1 : Int32)))] [(.int (own_f3 (own_f1 (((i1.toUInt32 >>> ((1 : Int32) &&& 31).toUInt32).toInt32) &&& (7 : Int32)) i0) (0 : Int32))), (.int (own_f2 (own_f1 (((i1.toUInt32 >>> ((1 : Int32) &&& 31).toUInt32).toInt32) &&& (7 : Int32)) i0) (0 : Int32)))])) st11 ?_
        by_cases hc12 : (own_f2 (own_f1 (((i1.toUInt32 >>> ((1 : Int32) &&& 31).toUInt32).toInt32) &&& (7 : Int32)) i0) (0 : Int32)) = (own_f3 (own_f1 (((i1.toUInt32 >>> ((1 : Int32) &&& 31).toUInt32).toInt32) &&& (7 : Int32)) i0) (0 : Int32))
        · -- pc 83
          refine ownE.go (T' := T11) (f' := (mkF m 86 #[.val (.int i0), .val (.int i1), .val (.int (own_j0_11_S0 i0 i1)), .val (.int (((i1.toUInt32 >>> ((1 : Int32) &&& 31).toUInt32).toInt32) &&& (7 : Int32))), .val (.int (own_f1 (((i1.toUInt32 >>> ((1 : Int32) &&& 31).toUInt32).toInt32) &&& (7 : Int32)) i0)), .val (.int (own_f2 (own_f1 (((i1.toUInt32 >>> ((1 : Int32) &&& 31).toUInt32).toInt32) &&& (7 : Int32)) i0) (own_j0_11_S0 i0 i1))), .val (.int (own_f2 (own_f1 (((i1.toUInt32 >>> ((1 : Int32) &&& 31).toUInt32).toInt32) &&& (7 : Int32)) i0) (0 : Int32))), .val (.int (own_f2 (own_f1 (((i1.toUInt32 >>> ((1 : Int32) &&& 31).toUInt32).toInt32) &&& (7 : Int32)) i0) (1 : Int32)))] [])) (fun t kt => XS.icmpNo (g := (mkF m 83 #[.val (.int i0), .val (.int i1), .val (.int (own_j0_11_S0 i0 i1)), .val (.int (((i1.toUInt32 >>> ((1 : Int32) &&& 31).toUInt32).toInt32) &&& (7 : Int32))), .val (.int (own_f1 (((i1.toUInt32 >>> ((1 : Int32) &&& 31).toUInt32).toInt32) &&& (7 : Int32)) i0)), .val (.int (own_f2 (own_f1 (((i1.toUInt32 >>> ((1 : Int32) &&& 31).toUInt32).toInt32) &&& (7 : Int32)) i0) (own_j0_11_S0 i0 i1))), .val (.int (own_f2 (own_f1 (((i1.toUInt32 >>> ((1 : Int32) &&& 31).toUInt32).toInt32) &&& (7 : Int32)) i0) (0 : Int32))), .val (.int (own_f2 (own_f1 (((i1.toUInt32 >>> ((1 : Int32) &&& 31).toUInt32).toInt32) &&& (7 : Int32)) i0) (1 : Int32)))] [(.int (own_f3 (own_f1 (((i1.toUInt32 >>> ((1 : Int32) &&& 31).toUInt32).toInt32) &&& (7 : Int32)) i0) (0 : Int32))), (.int (own_f2 (own_f1 (((i1.toUInt32 >>> ((1 : Int32) &&& 31).toUInt32).toInt32) &&& (7 : Int32)) i0) (0 : Int32)))])) X11.here hx rfl (hb hby at_83) rfl (Jvm.Free.XT.ii_ne_f hc12) kt) ?_
          refine ownE.go (T' := T11) (f' := (mkF m 91 #[.val (.int i0), .val (.int i1), .val (.int (own_j0_11_S0 i0 i1)), .val (.int (((i1.toUInt32 >>> ((1 : Int32) &&& 31).toUInt32).toInt32) &&& (7 : Int32))), .val (.int (own_f1 (((i1.toUInt32 >>> ((1 : Int32) &&& 31).toUInt32).toInt32) &&& (7 : Int32)) i0)), .val (.int (own_f2 (own_f1 (((i1.toUInt32 >>> ((1 : Int32) &&& 31).toUInt32).toInt32) &&& (7 : Int32)) i0) (own_j0_11_S0 i0 i1))), .val (.int (own_f2 (own_f1 (((i1.toUInt32 >>> ((1 : Int32) &&& 31).toUInt32).toInt32) &&& (7 : Int32)) i0) (0 : Int32))), .val (.int (own_f2 (own_f1 (((i1.toUInt32 >>> ((1 : Int32) &&& 31).toUInt32).toInt32) &&& (7 : Int32)) i0) (1 : Int32)))] [(.int (1 : Int32)), (.int (own_f1 (((i1.toUInt32 >>> ((1 : Int32) &&& 31).toUInt32).toInt32) &&& (7 : Int32)) i0)), (.int (own_f2 (own_f1 (((i1.toUInt32 >>> ((1 : Int32) &&& 31).toUInt32).toInt32) &&& (7 : Int32)) i0) (1 : Int32)))])) (fun t kt => ?_) ?_
          · show Steps p.tables e below (T11.setTop (mkF m 86 #[.val (.int i0), .val (.int i1), .val (.int (own_j0_11_S0 i0 i1)), .val (.int (((i1.toUInt32 >>> ((1 : Int32) &&& 31).toUInt32).toInt32) &&& (7 : Int32))), .val (.int (own_f1 (((i1.toUInt32 >>> ((1 : Int32) &&& 31).toUInt32).toInt32) &&& (7 : Int32)) i0)), .val (.int (own_f2 (own_f1 (((i1.toUInt32 >>> ((1 : Int32) &&& 31).toUInt32).toInt32) &&& (7 : Int32)) i0) (own_j0_11_S0 i0 i1))), .val (.int (own_f2 (own_f1 (((i1.toUInt32 >>> ((1 : Int32) &&& 31).toUInt32).toInt32) &&& (7 : Int32)) i0) (0 : Int32))), .val (.int (own_f2 (own_f1 (((i1.toUInt32 >>> ((1 : Int32) &&& 31).toUInt32).toInt32) &&& (7 : Int32)) i0) (1 : Int32)))] [])) _
            refine XS.iload X11.here hx rfl (hb hby at_86) rfl ?_
            show Steps p.tables e below (T11.setTop (mkF m 88 #[.val (.int i0), .val (.int i1), .val (.int (own_j0_11_S0 i0 i1)), .val (.int (((i1.toUInt32 >>> ((1 : Int32) &&& 31).toUInt32).toInt32) &&& (7 : Int32))), .val (.int (own_f1 (((i1.toUInt32 >>> ((1 : Int32) &&& 31).toUInt32).toInt32) &&& (7 : Int32)) i0)), .val (.int (own_f2 (own_f1 (((i1.toUInt32 >>> ((1 : Int32) &&& 31).toUInt32).toInt32) &&& (7 : Int32)) i0) (own_j0_11_S0 i0 i1))), .val (.int (own_f2 (own_f1 (((i1.toUInt32 >>> ((1 : Int32) &&& 31).toUInt32).toInt32) &&& (7 : Int32)) i0) (0 : Int32))), .val (.int (own_f2 (own_f1 (((i1.toUInt32 >>> ((1 : Int32) &&& 31).toUInt32).toInt32) &&& (7 : Int32)) i0) (1 : Int32)))] [(.int (own_f2 (own_f1 (((i1.toUInt32 >>> ((1 : Int32) &&& 31).toUInt32).toInt32) &&& (7 : Int32)) i0) (1 : Int32)))])) _
            refine XS.iload X11.here hx rfl (hb hby at_88) rfl ?_
            show Steps p.tables e below (T11.setTop (mkF m 90 #[.val (.int i0), .val (.int i1), .val (.int (own_j0_11_S0 i0 i1)), .val (.int (((i1.toUInt32 >>> ((1 : Int32) &&& 31).toUInt32).toInt32) &&& (7 : Int32))), .val (.int (own_f1 (((i1.toUInt32 >>> ((1 : Int32) &&& 31).toUInt32).toInt32) &&& (7 : Int32)) i0)), .val (.int (own_f2 (own_f1 (((i1.toUInt32 >>> ((1 : Int32) &&& 31).toUInt32).toInt32) &&& (7 : Int32)) i0) (own_j0_11_S0 i0 i1))), .val (.int (own_f2 (own_f1 (((i1.toUInt32 >>> ((1 : Int32) &&& 31).toUInt32).toInt32) &&& (7 : Int32)) i0) (0 : Int32))), .val (.int (own_f2 (own_f1 (((i1.toUInt32 >>> ((1 : Int32) &&& 31).toUInt32).toInt32) &&& (7 : Int32)) i0) (1 : Int32)))] [(.int (own_f1 (((i1.toUInt32 >>> ((1 : Int32) &&& 31).toUInt32).toInt32) &&& (7 : Int32)) i0)), (.int (own_f2 (own_f1 (((i1.toUInt32 >>> ((1 : Int32) &&& 31).toUInt32).toInt32) &&& (7 : Int32)) i0) (1 : Int32)))])) _
            refine XS.iconst X11.here hx rfl (hb hby at_90) ?_
            exact kt
          obtain ⟨_, _, ⟨T13, L13, k13, n13⟩, -, X13, ⟨Lc13, hQ13, l13, y13, z13⟩, st13⟩ := Jvm.LawKit.callS X11 hx (y := (⟨"traceward/schema/LineBreaksBreaksLinePinLaw", "expected", "(IZ)Z"⟩ : MethodName)) hown (mvT hZ (hw _ (List.mem_of_getElem? (i := 8) rfl))) (mvT hZ (hw _ (List.mem_of_getElem? (i := 9) rfl))) (mvT hZ (hw _ (List.mem_of_getElem? (i := 2) rfl))) (mvT hZ (hw _ (List.mem_of_getElem? (i := 10) rfl))) (by decide) (backOf (W := 1) (own_rm3 l Z a0 hw [] (own_f1 (((i1.toUInt32 >>> ((1 : Int32) &&& 31).toUInt32).toInt32) &&& (7 : Int32)) i0) (1 : Int32) h0 n0 (Nat.le_trans Z0 K0.1) ) hZ (hw _ (List.mem_of_getElem? (i := 10) rfl)) (hw _ (List.mem_of_getElem? (i := 2) rfl)) (by decide) (by decide)) (g := (mkF m 91 #[.val (.int i0), .val (.int i1), .val (.int (own_j0_11_S0 i0 i1)), .val (.int (((i1.toUInt32 >>> ((1 : Int32) &&& 31).toUInt32).toInt32) &&& (7 : Int32))), .val (.int (own_f1 (((i1.toUInt32 >>> ((1 : Int32) &&& 31).toUInt32).toInt32) &&& (7 : Int32)) i0)), .val (.int (own_f2 (own_f1 (((i1.toUInt32 >>> ((1 : Int32) &&& 31).toUInt32).toInt32) &&& (7 : Int32)) i0) (own_j0_11_S0 i0 i1))), .val (.int (own_f2 (own_f1 (((i1.toUInt32 >>> ((1 : Int32) &&& 31).toUInt32).toInt32) &&& (7 : Int32)) i0) (0 : Int32))), .val (.int (own_f2 (own_f1 (((i1.toUInt32 >>> ((1 : Int32) &&& 31).toUInt32).toInt32) &&& (7 : Int32)) i0) (1 : Int32)))] [(.int (1 : Int32)), (.int (own_f1 (((i1.toUInt32 >>> ((1 : Int32) &&& 31).toUInt32).toInt32) &&& (7 : Int32)) i0)), (.int (own_f2 (own_f1 (((i1.toUInt32 >>> ((1 : Int32) &&& 31).toUInt32).toInt32) &&& (7 : Int32)) i0) (1 : Int32)))])) rfl (by rw [hml]; rfl) (argsL := [(.int (own_f1 (((i1.toUInt32 >>> ((1 : Int32) &&& 31).toUInt32).toInt32) &&& (7 : Int32)) i0)), (.int (1 : Int32))]) (rest := [(.int (own_f2 (own_f1 (((i1.toUInt32 >>> ((1 : Int32) &&& 31).toUInt32).toInt32) &&& (7 : Int32)) i0) (1 : Int32)))]) (lenOf own_pd3 rfl) rfl (by show 2 * 0 + _ ≤ _; exact Nat.le_of_eq rfl) (hb hby at_91) (fun _ _ => ⟨rfl, e11, (by decide : 0 + 0 ≤ _), (by decide : 0 + 0 ≤ _)⟩)
          dsimp only [Pt.U, Pt.locs, Pt.cells, Pt.slots] at X13 l13 y13 z13 st13 hQ13
          subst l13 y13 z13
          obtain ⟨rfl, N13q, e13⟩ := hQ13
          have N13 := Fr.app N11 N13q
          refine ownE.go (T' := T13) (f' := (mkF m 94 #[.val (.int i0), .val (.int i1), .val (.int (own_j0_11_S0 i0 i1)), .val (.int (((i1.toUInt32 >>> ((1 : Int32) &&& 31).toUInt32).toInt32) &&& (7 : Int32))), .val (.int (own_f1 (((i1.toUInt32 >>> ((1 : Int32) &&& 31).toUInt32).toInt32) &&& (7 : Int32)) i0)), .val (.int (own_f2 (own_f1 (((i1.toUInt32 >>> ((1 : Int32) &&& 31).toUInt32).toInt32) &&& (7 : Int32)) i0) (own_j0_11_S0 i0 i1))), .val (.int (own_f2 (own_f1 (((i1.toUInt32 >>> ((1 : Int32) &&& 31).toUInt32).toInt32) &&& (7 : Int32)) i0) (0 : Int32))), .val (.int (own_f2 (own_f1 (((i1.toUInt32 >>> ((1 : Int32) &&& 31).toUInt32).toInt32) &&& (7 : Int32)) i0) (1 : Int32)))] [(.int (own_f3 (own_f1 (((i1.toUInt32 >>> ((1 : Int32) &&& 31).toUInt32).toInt32) &&& (7 : Int32)) i0) (1 : Int32))), (.int (own_f2 (own_f1 (((i1.toUInt32 >>> ((1 : Int32) &&& 31).toUInt32).toInt32) &&& (7 : Int32)) i0) (1 : Int32)))])) st13 ?_
          by_cases hc14 : (own_f2 (own_f1 (((i1.toUInt32 >>> ((1 : Int32) &&& 31).toUInt32).toInt32) &&& (7 : Int32)) i0) (1 : Int32)) = (own_f3 (own_f1 (((i1.toUInt32 >>> ((1 : Int32) &&& 31).toUInt32).toInt32) &&& (7 : Int32)) i0) (1 : Int32))
          · -- pc 94
            refine ownE.go (T' := T13) (f' := (mkF m 97 #[.val (.int i0), .val (.int i1), .val (.int (own_j0_11_S0 i0 i1)), .val (.int (((i1.toUInt32 >>> ((1 : Int32) &&& 31).toUInt32).toInt32) &&& (7 : Int32))), .val (.int (own_f1 (((i1.toUInt32 >>> ((1 : Int32) &&& 31).toUInt32).toInt32) &&& (7 : Int32)) i0)), .val (.int (own_f2 (own_f1 (((i1.toUInt32 >>> ((1 : Int32) &&& 31).toUInt32).toInt32) &&& (7 : Int32)) i0) (own_j0_11_S0 i0 i1))), .val (.int (own_f2 (own_f1 (((i1.toUInt32 >>> ((1 : Int32) &&& 31).toUInt32).toInt32) &&& (7 : Int32)) i0) (0 : Int32))), .val (.int (own_f2 (own_f1 (((i1.toUInt32 >>> ((1 : Int32) &&& 31).toUInt32).toInt32) &&& (7 : Int32)) i0) (1 : Int32)))] [])) (fun t kt => XS.icmpNo (g := (mkF m 94 #[.val (.int i0), .val (.int i1), .val (.int (own_j0_11_S0 i0 i1)), .val (.int (((i1.toUInt32 >>> ((1 : Int32) &&& 31).toUInt32).toInt32) &&& (7 : Int32))), .val (.int (own_f1 (((i1.toUInt32 >>> ((1 : Int32) &&& 31).toUInt32).toInt32) &&& (7 : Int32)) i0)), .val (.int (own_f2 (own_f1 (((i1.toUInt32 >>> ((1 : Int32) &&& 31).toUInt32).toInt32) &&& (7 : Int32)) i0) (own_j0_11_S0 i0 i1))), .val (.int (own_f2 (own_f1 (((i1.toUInt32 >>> ((1 : Int32) &&& 31).toUInt32).toInt32) &&& (7 : Int32)) i0) (0 : Int32))), .val (.int (own_f2 (own_f1 (((i1.toUInt32 >>> ((1 : Int32) &&& 31).toUInt32).toInt32) &&& (7 : Int32)) i0) (1 : Int32)))] [(.int (own_f3 (own_f1 (((i1.toUInt32 >>> ((1 : Int32) &&& 31).toUInt32).toInt32) &&& (7 : Int32)) i0) (1 : Int32))), (.int (own_f2 (own_f1 (((i1.toUInt32 >>> ((1 : Int32) &&& 31).toUInt32).toInt32) &&& (7 : Int32)) i0) (1 : Int32)))])) X13.here hx rfl (hb hby at_94) rfl (Jvm.Free.XT.ii_ne_f hc14) kt) ?_
            refine ownE.go (T' := T13) (f' := (mkF m 102 #[.val (.int i0), .val (.int i1), .val (.int (own_j0_11_S0 i0 i1)), .val (.int (((i1.toUInt32 >>> ((1 : Int32) &&& 31).toUInt32).toInt32) &&& (7 : Int32))), .val (.int (own_f1 (((i1.toUInt32 >>> ((1 : Int32) &&& 31).toUInt32).toInt32) &&& (7 : Int32)) i0)), .val (.int (own_f2 (own_f1 (((i1.toUInt32 >>> ((1 : Int32) &&& 31).toUInt32).toInt32) &&& (7 : Int32)) i0) (own_j0_11_S0 i0 i1))), .val (.int (own_f2 (own_f1 (((i1.toUInt32 >>> ((1 : Int32) &&& 31).toUInt32).toInt32) &&& (7 : Int32)) i0) (0 : Int32))), .val (.int (own_f2 (own_f1 (((i1.toUInt32 >>> ((1 : Int32) &&& 31).toUInt32).toInt32) &&& (7 : Int32)) i0) (1 : Int32)))] [(.int (1 : Int32))])) (fun t kt => ?_) ?_
            · show Steps p.tables e below (T13.setTop (mkF m 97 #[.val (.int i0), .val (.int i1), .val (.int (own_j0_11_S0 i0 i1)), .val (.int (((i1.toUInt32 >>> ((1 : Int32) &&& 31).toUInt32).toInt32) &&& (7 : Int32))), .val (.int (own_f1 (((i1.toUInt32 >>> ((1 : Int32) &&& 31).toUInt32).toInt32) &&& (7 : Int32)) i0)), .val (.int (own_f2 (own_f1 (((i1.toUInt32 >>> ((1 : Int32) &&& 31).toUInt32).toInt32) &&& (7 : Int32)) i0) (own_j0_11_S0 i0 i1))), .val (.int (own_f2 (own_f1 (((i1.toUInt32 >>> ((1 : Int32) &&& 31).toUInt32).toInt32) &&& (7 : Int32)) i0) (0 : Int32))), .val (.int (own_f2 (own_f1 (((i1.toUInt32 >>> ((1 : Int32) &&& 31).toUInt32).toInt32) &&& (7 : Int32)) i0) (1 : Int32)))] [])) _
              refine XS.iconst X13.here hx rfl (hb hby at_97) ?_
              show Steps p.tables e below (T13.setTop (mkF m 98 #[.val (.int i0), .val (.int i1), .val (.int (own_j0_11_S0 i0 i1)), .val (.int (((i1.toUInt32 >>> ((1 : Int32) &&& 31).toUInt32).toInt32) &&& (7 : Int32))), .val (.int (own_f1 (((i1.toUInt32 >>> ((1 : Int32) &&& 31).toUInt32).toInt32) &&& (7 : Int32)) i0)), .val (.int (own_f2 (own_f1 (((i1.toUInt32 >>> ((1 : Int32) &&& 31).toUInt32).toInt32) &&& (7 : Int32)) i0) (own_j0_11_S0 i0 i1))), .val (.int (own_f2 (own_f1 (((i1.toUInt32 >>> ((1 : Int32) &&& 31).toUInt32).toInt32) &&& (7 : Int32)) i0) (0 : Int32))), .val (.int (own_f2 (own_f1 (((i1.toUInt32 >>> ((1 : Int32) &&& 31).toUInt32).toInt32) &&& (7 : Int32)) i0) (1 : Int32)))] [(.int (1 : Int32))])) _
              refine XS.goto X13.here hx rfl (pc0 := 98) (pc' := 102) rfl (hb hby at_98) (by decide) (by decide) ?_
              exact kt
            refine ownE.retN X13 hx hlk (t := .boolean) hret (by simp) (hb hby at_102) ?_ (by decide) (by decide)
            show own_Q0 Z i0 i1 h0 n0 _ T13.heap _
            rw [e13]
            exact ⟨(by rw [own_f0, if_pos hc9, if_pos hc10, if_pos hc12, if_pos hc14] <;> first | rfl | decide), N13, rfl⟩
          · -- pc 94
            refine ownE.go (T' := T13) (f' := (mkF m 101 #[.val (.int i0), .val (.int i1), .val (.int (own_j0_11_S0 i0 i1)), .val (.int (((i1.toUInt32 >>> ((1 : Int32) &&& 31).toUInt32).toInt32) &&& (7 : Int32))), .val (.int (own_f1 (((i1.toUInt32 >>> ((1 : Int32) &&& 31).toUInt32).toInt32) &&& (7 : Int32)) i0)), .val (.int (own_f2 (own_f1 (((i1.toUInt32 >>> ((1 : Int32) &&& 31).toUInt32).toInt32) &&& (7 : Int32)) i0) (own_j0_11_S0 i0 i1))), .val (.int (own_f2 (own_f1 (((i1.toUInt32 >>> ((1 : Int32) &&& 31).toUInt32).toInt32) &&& (7 : Int32)) i0) (0 : Int32))), .val (.int (own_f2 (own_f1 (((i1.toUInt32 >>> ((1 : Int32) &&& 31).toUInt32).toInt32) &&& (7 : Int32)) i0) (1 : Int32)))] [])) (fun t kt => XS.icmpYes (g := (mkF m 94 #[.val (.int i0), .val (.int i1), .val (.int (own_j0_11_S0 i0 i1)), .val (.int (((i1.toUInt32 >>> ((1 : Int32) &&& 31).toUInt32).toInt32) &&& (7 : Int32))), .val (.int (own_f1 (((i1.toUInt32 >>> ((1 : Int32) &&& 31).toUInt32).toInt32) &&& (7 : Int32)) i0)), .val (.int (own_f2 (own_f1 (((i1.toUInt32 >>> ((1 : Int32) &&& 31).toUInt32).toInt32) &&& (7 : Int32)) i0) (own_j0_11_S0 i0 i1))), .val (.int (own_f2 (own_f1 (((i1.toUInt32 >>> ((1 : Int32) &&& 31).toUInt32).toInt32) &&& (7 : Int32)) i0) (0 : Int32))), .val (.int (own_f2 (own_f1 (((i1.toUInt32 >>> ((1 : Int32) &&& 31).toUInt32).toInt32) &&& (7 : Int32)) i0) (1 : Int32)))] [(.int (own_f3 (own_f1 (((i1.toUInt32 >>> ((1 : Int32) &&& 31).toUInt32).toInt32) &&& (7 : Int32)) i0) (1 : Int32))), (.int (own_f2 (own_f1 (((i1.toUInt32 >>> ((1 : Int32) &&& 31).toUInt32).toInt32) &&& (7 : Int32)) i0) (1 : Int32)))])) X13.here hx rfl (pc0 := 94) (pc' := 101) rfl (hb hby at_94) rfl (Jvm.Free.XT.ii_ne_t hc14) (by decide) (by decide) kt) ?_
            refine ownE.go (T' := T13) (f' := (mkF m 102 #[.val (.int i0), .val (.int i1), .val (.int (own_j0_11_S0 i0 i1)), .val (.int (((i1.toUInt32 >>> ((1 : Int32) &&& 31).toUInt32).toInt32) &&& (7 : Int32))), .val (.int (own_f1 (((i1.toUInt32 >>> ((1 : Int32) &&& 31).toUInt32).toInt32) &&& (7 : Int32)) i0)), .val (.int (own_f2 (own_f1 (((i1.toUInt32 >>> ((1 : Int32) &&& 31).toUInt32).toInt32) &&& (7 : Int32)) i0) (own_j0_11_S0 i0 i1))), .val (.int (own_f2 (own_f1 (((i1.toUInt32 >>> ((1 : Int32) &&& 31).toUInt32).toInt32) &&& (7 : Int32)) i0) (0 : Int32))), .val (.int (own_f2 (own_f1 (((i1.toUInt32 >>> ((1 : Int32) &&& 31).toUInt32).toInt32) &&& (7 : Int32)) i0) (1 : Int32)))] [(.int (0 : Int32))])) (fun t kt => ?_) ?_
            · show Steps p.tables e below (T13.setTop (mkF m 101 #[.val (.int i0), .val (.int i1), .val (.int (own_j0_11_S0 i0 i1)), .val (.int (((i1.toUInt32 >>> ((1 : Int32) &&& 31).toUInt32).toInt32) &&& (7 : Int32))), .val (.int (own_f1 (((i1.toUInt32 >>> ((1 : Int32) &&& 31).toUInt32).toInt32) &&& (7 : Int32)) i0)), .val (.int (own_f2 (own_f1 (((i1.toUInt32 >>> ((1 : Int32) &&& 31).toUInt32).toInt32) &&& (7 : Int32)) i0) (own_j0_11_S0 i0 i1))), .val (.int (own_f2 (own_f1 (((i1.toUInt32 >>> ((1 : Int32) &&& 31).toUInt32).toInt32) &&& (7 : Int32)) i0) (0 : Int32))), .val (.int (own_f2 (own_f1 (((i1.toUInt32 >>> ((1 : Int32) &&& 31).toUInt32).toInt32) &&& (7 : Int32)) i0) (1 : Int32)))] [])) _
              refine XS.iconst X13.here hx rfl (hb hby at_101) ?_
              exact kt
            refine ownE.retN X13 hx hlk (t := .boolean) hret (by simp) (hb hby at_102) ?_ (by decide) (by decide)
            show own_Q0 Z i0 i1 h0 n0 _ T13.heap _
            rw [e13]
            exact ⟨(by rw [own_f0, if_pos hc9, if_pos hc10, if_pos hc12, if_neg hc14] <;> first | rfl | decide), N13, rfl⟩
        · -- pc 83
          refine ownE.go (T' := T11) (f' := (mkF m 101 #[.val (.int i0), .val (.int i1), .val (.int (own_j0_11_S0 i0 i1)), .val (.int (((i1.toUInt32 >>> ((1 : Int32) &&& 31).toUInt32).toInt32) &&& (7 : Int32))), .val (.int (own_f1 (((i1.toUInt32 >>> ((1 : Int32) &&& 31).toUInt32).toInt32) &&& (7 : Int32)) i0)), .val (.int (own_f2 (own_f1 (((i1.toUInt32 >>> ((1 : Int32) &&& 31).toUInt32).toInt32) &&& (7 : Int32)) i0) (own_j0_11_S0 i0 i1))), .val (.int (own_f2 (own_f1 (((i1.toUInt32 >>> ((1 : Int32) &&& 31).toUInt32).toInt32) &&& (7 : Int32)) i0) (0 : Int32))), .val (.int (own_f2 (own_f1 (((i1.toUInt32 >>> ((1 : Int32) &&& 31).toUInt32).toInt32) &&& (7 : Int32)) i0) (1 : Int32)))] [])) (fun t kt => XS.icmpYes (g := (mkF m 83 #[.val (.int i0), .val (.int i1), .val (.int (own_j0_11_S0 i0 i1)), .val (.int (((i1.toUInt32 >>> ((1 : Int32) &&& 31).toUInt32).toInt32) &&& (7 : Int32))), .val (.int (own_f1 (((i1.toUInt32 >>> ((1 : Int32) &&& 31).toUInt32).toInt32) &&& (7 : Int32)) i0)), .val (.int (own_f2 (own_f1 (((i1.toUInt32 >>> ((1 : Int32) &&& 31).toUInt32).toInt32) &&& (7 : Int32)) i0) (own_j0_11_S0 i0 i1))), .val (.int (own_f2 (own_f1 (((i1.toUInt32 >>> ((1 : Int32) &&& 31).toUInt32).toInt32) &&& (7 : Int32)) i0) (0 : Int32))), .val (.int (own_f2 (own_f1 (((i1.toUInt32 >>> ((1 : Int32) &&& 31).toUInt32).toInt32) &&& (7 : Int32)) i0) (1 : Int32)))] [(.int (own_f3 (own_f1 (((i1.toUInt32 >>> ((1 : Int32) &&& 31).toUInt32).toInt32) &&& (7 : Int32)) i0) (0 : Int32))), (.int (own_f2 (own_f1 (((i1.toUInt32 >>> ((1 : Int32) &&& 31).toUInt32).toInt32) &&& (7 : Int32)) i0) (0 : Int32)))])) X11.here hx rfl (pc0 := 83) (pc' := 101) rfl (hb hby at_83) rfl (Jvm.Free.XT.ii_ne_t hc12) (by decide) (by decide) kt) ?_
          refine ownE.go (T' := T11) (f' := (mkF m 102 #[.val (.int i0), .val (.int i1), .val (.int (own_j0_11_S0 i0 i1)), .val (.int (((i1.toUInt32 >>> ((1 : Int32) &&& 31).toUInt32).toInt32) &&& (7 : Int32))), .val (.int (own_f1 (((i1.toUInt32 >>> ((1 : Int32) &&& 31).toUInt32).toInt32) &&& (7 : Int32)) i0)), .val (.int (own_f2 (own_f1 (((i1.toUInt32 >>> ((1 : Int32) &&& 31).toUInt32).toInt32) &&& (7 : Int32)) i0) (own_j0_11_S0 i0 i1))), .val (.int (own_f2 (own_f1 (((i1.toUInt32 >>> ((1 : Int32) &&& 31).toUInt32).toInt32) &&& (7 : Int32)) i0) (0 : Int32))), .val (.int (own_f2 (own_f1 (((i1.toUInt32 >>> ((1 : Int32) &&& 31).toUInt32).toInt32) &&& (7 : Int32)) i0) (1 : Int32)))] [(.int (0 : Int32))])) (fun t kt => ?_) ?_
          · show Steps p.tables e below (T11.setTop (mkF m 101 #[.val (.int i0), .val (.int i1), .val (.int (own_j0_11_S0 i0 i1)), .val (.int (((i1.toUInt32 >>> ((1 : Int32) &&& 31).toUInt32).toInt32) &&& (7 : Int32))), .val (.int (own_f1 (((i1.toUInt32 >>> ((1 : Int32) &&& 31).toUInt32).toInt32) &&& (7 : Int32)) i0)), .val (.int (own_f2 (own_f1 (((i1.toUInt32 >>> ((1 : Int32) &&& 31).toUInt32).toInt32) &&& (7 : Int32)) i0) (own_j0_11_S0 i0 i1))), .val (.int (own_f2 (own_f1 (((i1.toUInt32 >>> ((1 : Int32) &&& 31).toUInt32).toInt32) &&& (7 : Int32)) i0) (0 : Int32))), .val (.int (own_f2 (own_f1 (((i1.toUInt32 >>> ((1 : Int32) &&& 31).toUInt32).toInt32) &&& (7 : Int32)) i0) (1 : Int32)))] [])) _
            refine XS.iconst X11.here hx rfl (hb hby at_101) ?_
            exact kt
          refine ownE.retN X11 hx hlk (t := .boolean) hret (by simp) (hb hby at_102) ?_ (by decide) (by decide)
          show own_Q0 Z i0 i1 h0 n0 _ T11.heap _
          rw [e11]
          exact ⟨(by rw [own_f0, if_pos hc9, if_pos hc10, if_neg hc12] <;> first | rfl | decide), N11, rfl⟩
      · -- pc 65
        refine ownE.go (T' := T8) (f' := (mkF m 68 #[.val (.int i0), .val (.int i1), .val (.int (own_j0_11_S0 i0 i1)), .val (.int (((i1.toUInt32 >>> ((1 : Int32) &&& 31).toUInt32).toInt32) &&& (7 : Int32))), .val (.int (own_f1 (((i1.toUInt32 >>> ((1 : Int32) &&& 31).toUInt32).toInt32) &&& (7 : Int32)) i0)), .val (.int (own_f2 (own_f1 (((i1.toUInt32 >>> ((1 : Int32) &&& 31).toUInt32).toInt32) &&& (7 : Int32)) i0) (own_j0_11_S0 i0 i1))), .val (.int (own_f2 (own_f1 (((i1.toUInt32 >>> ((1 : Int32) &&& 31).toUInt32).toInt32) &&& (7 : Int32)) i0) (0 : Int32))), .val (.int (own_f2 (own_f1 (((i1.toUInt32 >>> ((1 : Int32) &&& 31).toUInt32).toInt32) &&& (7 : Int32)) i0) (1 : Int32)))] [])) (fun t kt => XS.ifNo (g := (mkF m 65 #[.val (.int i0), .val (.int i1), .val (.int (own_j0_11_S0 i0 i1)), .val (.int (((i1.toUInt32 >>> ((1 : Int32) &&& 31).toUInt32).toInt32) &&& (7 : Int32))), .val (.int (own_f1 (((i1.toUInt32 >>> ((1 : Int32) &&& 31).toUInt32).toInt32) &&& (7 : Int32)) i0)), .val (.int (own_f2 (own_f1 (((i1.toUInt32 >>> ((1 : Int32) &&& 31).toUInt32).toInt32) &&& (7 : Int32)) i0) (own_j0_11_S0 i0 i1))), .val (.int (own_f2 (own_f1 (((i1.toUInt32 >>> ((1 : Int32) &&& 31).toUInt32).toInt32) &&& (7 : Int32)) i0) (0 : Int32))), .val (.int (own_f2 (own_f1 (((i1.toUInt32 >>> ((1 : Int32) &&& 31).toUInt32).toInt32) &&& (7 : Int32)) i0) (1 : Int32)))] [(.int (own_f2 (own_f1 (((i1.toUInt32 >>> ((1 : Int32) &&& 31).toUInt32).toInt32) &&& (7 : Int32)) i0) (0 : Int32)))])) X8.here hx rfl (hb hby at_65) rfl (Jvm.Free.XT.i0_eq_f hc10) kt) ?_
        refine ownE.go (T' := T8) (f' := (mkF m 70 #[.val (.int i0), .val (.int i1), .val (.int (own_j0_11_S0 i0 i1)), .val (.int (((i1.toUInt32 >>> ((1 : Int32) &&& 31).toUInt32).toInt32) &&& (7 : Int32))), .val (.int (own_f1 (((i1.toUInt32 >>> ((1 : Int32) &&& 31).toUInt32).toInt32) &&& (7 : Int32)) i0)), .val (.int (own_f2 (own_f1 (((i1.toUInt32 >>> ((1 : Int32) &&& 31).toUInt32).toInt32) &&& (7 : Int32)) i0) (own_j0_11_S0 i0 i1))), .val (.int (own_f2 (own_f1 (((i1.toUInt32 >>> ((1 : Int32) &&& 31).toUInt32).toInt32) &&& (7 : Int32)) i0) (0 : Int32))), .val (.int (own_f2 (own_f1 (((i1.toUInt32 >>> ((1 : Int32) &&& 31).toUInt32).toInt32) &&& (7 : Int32)) i0) (1 : Int32)))] [(.int (own_f2 (own_f1 (((i1.toUInt32 >>> ((1 : Int32) &&& 31).toUInt32).toInt32) &&& (7 : Int32)) i0) (1 : Int32)))])) (fun t kt => ?_) ?_
        · show Steps p.tables e below (T8.setTop (mkF m 68 #[.val (.int i0), .val (.int i1), .val (.int (own_j0_11_S0 i0 i1)), .val (.int (((i1.toUInt32 >>> ((1 : Int32) &&& 31).toUInt32).toInt32) &&& (7 : Int32))), .val (.int (own_f1 (((i1.toUInt32 >>> ((1 : Int32) &&& 31).toUInt32).toInt32) &&& (7 : Int32)) i0)), .val (.int (own_f2 (own_f1 (((i1.toUInt32 >>> ((1 : Int32) &&& 31).toUInt32).toInt32) &&& (7 : Int32)) i0) (own_j0_11_S0 i0 i1))), .val (.int (own_f2 (own_f1 (((i1.toUInt32 >>> ((1 : Int32) &&& 31).toUInt32).toInt32) &&& (7 : Int32)) i0) (0 : Int32))), .val (.int (own_f2 (own_f1 (((i1.toUInt32 >>> ((1 : Int32) &&& 31).toUInt32).toInt32) &&& (7 : Int32)) i0) (1 : Int32)))] [])) _
          refine XS.iload X8.here hx rfl (hb hby at_68) rfl ?_
          exact kt
        by_cases hc15 : (own_f2 (own_f1 (((i1.toUInt32 >>> ((1 : Int32) &&& 31).toUInt32).toInt32) &&& (7 : Int32)) i0) (1 : Int32)) = (0 : Int32)
        · -- pc 70
          refine ownE.go (T' := T8) (f' := (mkF m 73 #[.val (.int i0), .val (.int i1), .val (.int (own_j0_11_S0 i0 i1)), .val (.int (((i1.toUInt32 >>> ((1 : Int32) &&& 31).toUInt32).toInt32) &&& (7 : Int32))), .val (.int (own_f1 (((i1.toUInt32 >>> ((1 : Int32) &&& 31).toUInt32).toInt32) &&& (7 : Int32)) i0)), .val (.int (own_f2 (own_f1 (((i1.toUInt32 >>> ((1 : Int32) &&& 31).toUInt32).toInt32) &&& (7 : Int32)) i0) (own_j0_11_S0 i0 i1))), .val (.int (own_f2 (own_f1 (((i1.toUInt32 >>> ((1 : Int32) &&& 31).toUInt32).toInt32) &&& (7 : Int32)) i0) (0 : Int32))), .val (.int (own_f2 (own_f1 (((i1.toUInt32 >>> ((1 : Int32) &&& 31).toUInt32).toInt32) &&& (7 : Int32)) i0) (1 : Int32)))] [])) (fun t kt => XS.ifNo (g := (mkF m 70 #[.val (.int i0), .val (.int i1), .val (.int (own_j0_11_S0 i0 i1)), .val (.int (((i1.toUInt32 >>> ((1 : Int32) &&& 31).toUInt32).toInt32) &&& (7 : Int32))), .val (.int (own_f1 (((i1.toUInt32 >>> ((1 : Int32) &&& 31).toUInt32).toInt32) &&& (7 : Int32)) i0)), .val (.int (own_f2 (own_f1 (((i1.toUInt32 >>> ((1 : Int32) &&& 31).toUInt32).toInt32) &&& (7 : Int32)) i0) (own_j0_11_S0 i0 i1))), .val (.int (own_f2 (own_f1 (((i1.toUInt32 >>> ((1 : Int32) &&& 31).toUInt32).toInt32) &&& (7 : Int32)) i0) (0 : Int32))), .val (.int (own_f2 (own_f1 (((i1.toUInt32 >>> ((1 : Int32) &&& 31).toUInt32).toInt32) &&& (7 : Int32)) i0) (1 : Int32)))] [(.int (own_f2 (own_f1 (((i1.toUInt32 >>> ((1 : Int32) &&& 31).toUInt32).toInt32) &&& (7 : Int32)) i0) (1 : Int32)))])) X8.here hx rfl (hb hby at_70) rfl (Jvm.Free.XT.i0_ne_f hc15) kt) ?_
          refine ownE.go (T' := T8) (f' := (mkF m 74 #[.val (.int i0), .val (.int i1), .val (.int (own_j0_11_S0 i0 i1)), .val (.int (((i1.toUInt32 >>> ((1 : Int32) &&& 31).toUInt32).toInt32) &&& (7 : Int32))), .val (.int (own_f1 (((i1.toUInt32 >>> ((1 : Int32) &&& 31).toUInt32).toInt32) &&& (7 : Int32)) i0)), .val (.int (own_f2 (own_f1 (((i1.toUInt32 >>> ((1 : Int32) &&& 31).toUInt32).toInt32) &&& (7 : Int32)) i0) (own_j0_11_S0 i0 i1))), .val (.int (own_f2 (own_f1 (((i1.toUInt32 >>> ((1 : Int32) &&& 31).toUInt32).toInt32) &&& (7 : Int32)) i0) (0 : Int32))), .val (.int (own_f2 (own_f1 (((i1.toUInt32 >>> ((1 : Int32) &&& 31).toUInt32).toInt32) &&& (7 : Int32)) i0) (1 : Int32)))] [(.int (0 : Int32))])) (fun t kt => ?_) ?_
          · show Steps p.tables e below (T8.setTop (mkF m 73 #[.val (.int i0), .val (.int i1), .val (.int (own_j0_11_S0 i0 i1)), .val (.int (((i1.toUInt32 >>> ((1 : Int32) &&& 31).toUInt32).toInt32) &&& (7 : Int32))), .val (.int (own_f1 (((i1.toUInt32 >>> ((1 : Int32) &&& 31).toUInt32).toInt32) &&& (7 : Int32)) i0)), .val (.int (own_f2 (own_f1 (((i1.toUInt32 >>> ((1 : Int32) &&& 31).toUInt32).toInt32) &&& (7 : Int32)) i0) (own_j0_11_S0 i0 i1))), .val (.int (own_f2 (own_f1 (((i1.toUInt32 >>> ((1 : Int32) &&& 31).toUInt32).toInt32) &&& (7 : Int32)) i0) (0 : Int32))), .val (.int (own_f2 (own_f1 (((i1.toUInt32 >>> ((1 : Int32) &&& 31).toUInt32).toInt32) &&& (7 : Int32)) i0) (1 : Int32)))] [])) _
            refine XS.iconst X8.here hx rfl (hb hby at_73) ?_
            exact kt
          refine ownE.retN X8 hx hlk (t := .boolean) hret (by simp) (hb hby at_74) ?_ (by decide) (by decide)
          show own_Q0 Z i0 i1 h0 n0 _ T8.heap _
          rw [e8]
          exact ⟨(by rw [own_f0, if_pos hc9, if_neg hc10, if_pos hc15] <;> first | rfl | decide), N8, rfl⟩
        · -- pc 70
          refine ownE.go (T' := T8) (f' := (mkF m 75 #[.val (.int i0), .val (.int i1), .val (.int (own_j0_11_S0 i0 i1)), .val (.int (((i1.toUInt32 >>> ((1 : Int32) &&& 31).toUInt32).toInt32) &&& (7 : Int32))), .val (.int (own_f1 (((i1.toUInt32 >>> ((1 : Int32) &&& 31).toUInt32).toInt32) &&& (7 : Int32)) i0)), .val (.int (own_f2 (own_f1 (((i1.toUInt32 >>> ((1 : Int32) &&& 31).toUInt32).toInt32) &&& (7 : Int32)) i0) (own_j0_11_S0 i0 i1))), .val (.int (own_f2 (own_f1 (((i1.toUInt32 >>> ((1 : Int32) &&& 31).toUInt32).toInt32) &&& (7 : Int32)) i0) (0 : Int32))), .val (.int (own_f2 (own_f1 (((i1.toUInt32 >>> ((1 : Int32) &&& 31).toUInt32).toInt32) &&& (7 : Int32)) i0) (1 : Int32)))] [])) (fun t kt => XS.ifYes (g := (mkF m 70 #[.val (.int i0), .val (.int i1), .val (.int (own_j0_11_S0 i0 i1)), .val (.int (((i1.toUInt32 >>> ((1 : Int32) &&& 31).toUInt32).toInt32) &&& (7 : Int32))), .val (.int (own_f1 (((i1.toUInt32 >>> ((1 : Int32) &&& 31).toUInt32).toInt32) &&& (7 : Int32)) i0)), .val (.int (own_f2 (own_f1 (((i1.toUInt32 >>> ((1 : Int32) &&& 31).toUInt32).toInt32) &&& (7 : Int32)) i0) (own_j0_11_S0 i0 i1))), .val (.int (own_f2 (own_f1 (((i1.toUInt32 >>> ((1 : Int32) &&& 31).toUInt32).toInt32) &&& (7 : Int32)) i0) (0 : Int32))), .val (.int (own_f2 (own_f1 (((i1.toUInt32 >>> ((1 : Int32) &&& 31).toUInt32).toInt32) &&& (7 : Int32)) i0) (1 : Int32)))] [(.int (own_f2 (own_f1 (((i1.toUInt32 >>> ((1 : Int32) &&& 31).toUInt32).toInt32) &&& (7 : Int32)) i0) (1 : Int32)))])) X8.here hx rfl (pc0 := 70) (pc' := 75) rfl (hb hby at_70) rfl (Jvm.Free.XT.i0_ne_t hc15) (by decide) (by decide) kt) ?_
          refine ownE.go (T' := T8) (f' := (mkF m 80 #[.val (.int i0), .val (.int i1), .val (.int (own_j0_11_S0 i0 i1)), .val (.int (((i1.toUInt32 >>> ((1 : Int32) &&& 31).toUInt32).toInt32) &&& (7 : Int32))), .val (.int (own_f1 (((i1.toUInt32 >>> ((1 : Int32) &&& 31).toUInt32).toInt32) &&& (7 : Int32)) i0)), .val (.int (own_f2 (own_f1 (((i1.toUInt32 >>> ((1 : Int32) &&& 31).toUInt32).toInt32) &&& (7 : Int32)) i0) (own_j0_11_S0 i0 i1))), .val (.int (own_f2 (own_f1 (((i1.toUInt32 >>> ((1 : Int32) &&& 31).toUInt32).toInt32) &&& (7 : Int32)) i0) (0 : Int32))), .val (.int (own_f2 (own_f1 (((i1.toUInt32 >>> ((1 : Int32) &&& 31).toUInt32).toInt32) &&& (7 : Int32)) i0) (1 : Int32)))] [(.int (0 : Int32)), (.int (own_f1 (((i1.toUInt32 >>> ((1 : Int32) &&& 31).toUInt32).toInt32) &&& (7 : Int32)) i0)), (.int (own_f2 (own_f1 (((i1.toUInt32 >>> ((1 : Int32) &&& 31).toUInt32).toInt32) &&& (7 : Int32)) i0) (0 : Int32)))])) (fun t kt => ?_) ?_
          · show Steps p.tables e below (T8.setTop (mkF m 75 #[.val (.int i0), .val (.int i1), .val (.int (own_j0_11_S0 i0 i1)), .val (.int (((i1.toUInt32 >>> ((1 : Int32) &&& 31).toUInt32).toInt32) &&& (7 : Int32))), .val (.int (own_f1 (((i1.toUInt32 >>> ((1 : Int32) &&& 31).toUInt32).toInt32) &&& (7 : Int32)) i0)), .val (.int (own_f2 (own_f1 (((i1.toUInt32 >>> ((1 : Int32) &&& 31).toUInt32).toInt32) &&& (7 : Int32)) i0) (own_j0_11_S0 i0 i1))), .val (.int (own_f2 (own_f1 (((i1.toUInt32 >>> ((1 : Int32) &&& 31).toUInt32).toInt32) &&& (7 : Int32)) i0) (0 : Int32))), .val (.int (own_f2 (own_f1 (((i1.toUInt32 >>> ((1 : Int32) &&& 31).toUInt32).toInt32) &&& (7 : Int32)) i0) (1 : Int32)))] [])) _
            refine XS.iload X8.here hx rfl (hb hby at_75) rfl ?_
            show Steps p.tables e below (T8.setTop (mkF m 77 #[.val (.int i0), .val (.int i1), .val (.int (own_j0_11_S0 i0 i1)), .val (.int (((i1.toUInt32 >>> ((1 : Int32) &&& 31).toUInt32).toInt32) &&& (7 : Int32))), .val (.int (own_f1 (((i1.toUInt32 >>> ((1 : Int32) &&& 31).toUInt32).toInt32) &&& (7 : Int32)) i0)), .val (.int (own_f2 (own_f1 (((i1.toUInt32 >>> ((1 : Int32) &&& 31).toUInt32).toInt32) &&& (7 : Int32)) i0) (own_j0_11_S0 i0 i1))), .val (.int (own_f2 (own_f1 (((i1.toUInt32 >>> ((1 : Int32) &&& 31).toUInt32).toInt32) &&& (7 : Int32)) i0) (0 : Int32))), .val (.int (own_f2 (own_f1 (((i1.toUInt32 >>> ((1 : Int32) &&& 31).toUInt32).toInt32) &&& (7 : Int32)) i0) (1 : Int32)))] [(.int (own_f2 (own_f1 (((i1.toUInt32 >>> ((1 : Int32) &&& 31).toUInt32).toInt32) &&& (7 : Int32)) i0) (0 : Int32)))])) _
            refine XS.iload X8.here hx rfl (hb hby at_77) rfl ?_
            show Steps p.tables e below (T8.setTop (mkF m 79 #[.val (.int i0), .val (.int i1), .val (.int (own_j0_11_S0 i0 i1)), .val (.int (((i1.toUInt32 >>> ((1 : Int32) &&& 31).toUInt32).toInt32) &&& (7 : Int32))), .val (.int (own_f1 (((i1.toUInt32 >>> ((1 : Int32) &&& 31).toUInt32).toInt32) &&& (7 : Int32)) i0)), .val (.int (own_f2 (own_f1 (((i1.toUInt32 >>> ((1 : Int32) &&& 31).toUInt32).toInt32) &&& (7 : Int32)) i0) (own_j0_11_S0 i0 i1))), .val (.int (own_f2 (own_f1 (((i1.toUInt32 >>> ((1 : Int32) &&& 31).toUInt32).toInt32) &&& (7 : Int32)) i0) (0 : Int32))), .val (.int (own_f2 (own_f1 (((i1.toUInt32 >>> ((1 : Int32) &&& 31).toUInt32).toInt32) &&& (7 : Int32)) i0) (1 : Int32)))] [(.int (own_f1 (((i1.toUInt32 >>> ((1 : Int32) &&& 31).toUInt32).toInt32) &&& (7 : Int32)) i0)), (.int (own_f2 (own_f1 (((i1.toUInt32 >>> ((1 : Int32) &&& 31).toUInt32).toInt32) &&& (7 : Int32)) i0) (0 : Int32)))])) _
            refine XS.iconst X8.here hx rfl (hb hby at_79) ?_
            exact kt
          obtain ⟨_, _, ⟨T16, L16, k16, n16⟩, -, X16, ⟨Lc16, hQ16, l16, y16, z16⟩, st16⟩ := Jvm.LawKit.callS X8 hx (y := (⟨"traceward/schema/LineBreaksBreaksLinePinLaw", "expected", "(IZ)Z"⟩ : MethodName)) hown (mvT hZ (hw _ (List.mem_of_getElem? (i := 8) rfl))) (mvT hZ (hw _ (List.mem_of_getElem? (i := 9) rfl))) (mvT hZ (hw _ (List.mem_of_getElem? (i := 2) rfl))) (mvT hZ (hw _ (List.mem_of_getElem? (i := 10) rfl))) (by decide) (backOf (W := 1) (own_rm3 l Z a0 hw [] (own_f1 (((i1.toUInt32 >>> ((1 : Int32) &&& 31).toUInt32).toInt32) &&& (7 : Int32)) i0) (0 : Int32) h0 n0 (Nat.le_trans Z0 K0.1) ) hZ (hw _ (List.mem_of_getElem? (i := 10) rfl)) (hw _ (List.mem_of_getElem? (i := 2) rfl)) (by decide) (by decide)) (g := (mkF m 80 #[.val (.int i0), .val (.int i1), .val (.int (own_j0_11_S0 i0 i1)), .val (.int (((i1.toUInt32 >>> ((1 : Int32) &&& 31).toUInt32).toInt32) &&& (7 : Int32))), .val (.int (own_f1 (((i1.toUInt32 >>> ((1 : Int32) &&& 31).toUInt32).toInt32) &&& (7 : Int32)) i0)), .val (.int (own_f2 (own_f1 (((i1.toUInt32 >>> ((1 : Int32) &&& 31).toUInt32).toInt32) &&& (7 : Int32)) i0) (own_j0_11_S0 i0 i1))), .val (.int (own_f2 (own_f1 (((i1.toUInt32 >>> ((1 : Int32) &&& 31).toUInt32).toInt32) &&& (7 : Int32)) i0) (0 : Int32))), .val (.int (own_f2 (own_f1 (((i1.toUInt32 >>> ((1 : Int32) &&& 31).toUInt32).toInt32) &&& (7 : Int32)) i0) (1 : Int32)))] [(.int (0 : Int32)), (.int (own_f1 (((i1.toUInt32 >>> ((1 : Int32) &&& 31).toUInt32).toInt32) &&& (7 : Int32)) i0)), (.int (own_f2 (own_f1 (((i1.toUInt32 >>> ((1 : Int32) &&& 31).toUInt32).toInt32) &&& (7 : Int32)) i0) (0 : Int32)))])) rfl (by rw [hml]; rfl) (argsL := [(.int (own_f1 (((i1.toUInt32 >>> ((1 : Int32) &&& 31).toUInt32).toInt32) &&& (7 : Int32)) i0)), (.int (0 : Int32))]) (rest := [(.int (own_f2 (own_f1 (((i1.toUInt32 >>> ((1 : Int32) &&& 31).toUInt32).toInt32) &&& (7 : Int32)) i0) (0 : Int32)))]) (lenOf own_pd3 rfl) rfl (by show 2 * 0 + _ ≤ _; exact Nat.le_of_eq rfl) (hb hby at_80) (fun _ _ => ⟨rfl, e8, (by decide : 0 + 0 ≤ _), (by decide : 0 + 0 ≤ _)⟩)
          dsimp only [Pt.U, Pt.locs, Pt.cells, Pt.slots] at X16 l16 y16 z16 st16 hQ16
          subst l16 y16 z16
          obtain ⟨rfl, N16q, e16⟩ := hQ16
          have N16 := Fr.app N8 N16q
          refine ownE.go (T' := T16) (f' := (mkF m 83 #[.val (.int i0), .val (.int i1), .val (.int (own_j0_11_S0 i0 i1)), .val (.int (((i1.toUInt32 >>> ((1 : Int32) &&& 31).toUInt32).toInt32) &&& (7 : Int32))), .val (.int (own_f1 (((i1.toUInt32 >>> ((1 : Int32) &&& 31).toUInt32).toInt32) &&& (7 : Int32)) i0)), .val (.int (own_f2 (own_f1 (((i1.toUInt32 >>> ((1 : Int32) &&& 31).toUInt32).toInt32) &&& (7 : Int32)) i0) (own_j0_11_S0 i0 i1))), .val (.int (own_f2 (own_f1 (((i1.toUInt32 >>> ((1 : Int32) &&& 31).toUInt32).toInt32) &&& (7 : Int32)) i0) (0 : Int32))), .val (.int (own_f2 (own_f1 (((i1.toUInt32 >>> ((1 : Int32) &&& 31).toUInt32).toInt32) &&& (7 : Int32)) i0) (1 : Int32)))] [(.int (own_f3 (own_f1 (((i1.toUInt32 >>> ((1 : Int32) &&& 31).toUInt32).toInt32) &&& (7 : Int32)) i0) (0 : Int32))), (.int (own_f2 (own_f1 (((i1.toUInt32 >>> ((1 : Int32) &&& 31).toUInt32).toInt32) &&& (7 : Int32)) i0) (0 : Int32)))])) st16 ?_
          by_cases hc17 : (own_f2 (own_f1 (((i1.toUInt32 >>> ((1 : Int32) &&& 31).toUInt32).toInt32) &&& (7 : Int32)) i0) (0 : Int32)) = (own_f3 (own_f1 (((i1.toUInt32 >>> ((1 : Int32) &&& 31).toUInt32).toInt32) &&& (7 : Int32)) i0) (0 : Int32))
          · -- pc 83
            refine ownE.go (T' := T16) (f' := (mkF m 86 #[.val (.int i0), .val (.int i1), .val (.int (own_j0_11_S0 i0 i1)), .val (.int (((i1.toUInt32 >>> ((1 : Int32) &&& 31).toUInt32).toInt32) &&& (7 : Int32))), .val (.int (own_f1 (((i1.toUInt32 >>> ((1 : Int32) &&& 31).toUInt32).toInt32) &&& (7 : Int32)) i0)), .val (.int (own_f2 (own_f1 (((i1.toUInt32 >>> ((1 : Int32) &&& 31).toUInt32).toInt32) &&& (7 : Int32)) i0) (own_j0_11_S0 i0 i1))), .val (.int (own_f2 (own_f1 (((i1.toUInt32 >>> ((1 : Int32) &&& 31).toUInt32).toInt32) &&& (7 : Int32)) i0) (0 : Int32))), .val (.int (own_f2 (own_f1 (((i1.toUInt32 >>> ((1 : Int32) &&& 31).toUInt32).toInt32) &&& (7 : Int32)) i0) (1 : Int32)))] [])) (fun t kt => XS.icmpNo (g := (mkF m 83 #[.val (.int i0), .val (.int i1), .val (.int (own_j0_11_S0 i0 i1)), .val (.int (((i1.toUInt32 >>> ((1 : Int32) &&& 31).toUInt32).toInt32) &&& (7 : Int32))), .val (.int (own_f1 (((i1.toUInt32 >>> ((1 : Int32) &&& 31).toUInt32).toInt32) &&& (7 : Int32)) i0)), .val (.int (own_f2 (own_f1 (((i1.toUInt32 >>> ((1 : Int32) &&& 31).toUInt32).toInt32) &&& (7 : Int32)) i0) (own_j0_11_S0 i0 i1))), .val (.int (own_f2 (own_f1 (((i1.toUInt32 >>> ((1 : Int32) &&& 31).toUInt32).toInt32) &&& (7 : Int32)) i0) (0 : Int32))), .val (.int (own_f2 (own_f1 (((i1.toUInt32 >>> ((1 : Int32) &&& 31).toUInt32).toInt32) &&& (7 : Int32)) i0) (1 : Int32)))] [(.int (own_f3 (own_f1 (((i1.toUInt32 >>> ((1 : Int32) &&& 31).toUInt32).toInt32) &&& (7 : Int32)) i0) (0 : Int32))), (.int (own_f2 (own_f1 (((i1.toUInt32 >>> ((1 : Int32) &&& 31).toUInt32).toInt32) &&& (7 : Int32)) i0) (0 : Int32)))])) X16.here hx rfl (hb hby at_83) rfl (Jvm.Free.XT.ii_ne_f hc17) kt) ?_
            refine ownE.go (T' := T16) (f' := (mkF m 91 #[.val (.int i0), .val (.int i1), .val (.int (own_j0_11_S0 i0 i1)), .val (.int (((i1.toUInt32 >>> ((1 : Int32) &&& 31).toUInt32).toInt32) &&& (7 : Int32))), .val (.int (own_f1 (((i1.toUInt32 >>> ((1 : Int32) &&& 31).toUInt32).toInt32) &&& (7 : Int32)) i0)), .val (.int (own_f2 (own_f1 (((i1.toUInt32 >>> ((1 : Int32) &&& 31).toUInt32).toInt32) &&& (7 : Int32)) i0) (own_j0_11_S0 i0 i1))), .val (.int (own_f2 (own_f1 (((i1.toUInt32 >>> ((1 : Int32) &&& 31).toUInt32).toInt32) &&& (7 : Int32)) i0) (0 : Int32))), .val (.int (own_f2 (own_f1 (((i1.toUInt32 >>> ((1 : Int32) &&& 31).toUInt32).toInt32) &&& (7 : Int32)) i0) (1 : Int32)))] [(.int (1 : Int32)), (.int (own_f1 (((i1.toUInt32 >>> ((1 : Int32) &&& 31).toUInt32).toInt32) &&& (7 : Int32)) i0)), (.int (own_f2 (own_f1 (((i1.toUInt32 >>> ((1 : Int32) &&& 31).toUInt32).toInt32) &&& (7 : Int32)) i0) (1 : Int32)))])) (fun t kt => ?_) ?_
            · show Steps p.tables e below (T16.setTop (mkF m 86 #[.val (.int i0), .val (.int i1), .val (.int (own_j0_11_S0 i0 i1)), .val (.int (((i1.toUInt32 >>> ((1 : Int32) &&& 31).toUInt32).toInt32) &&& (7 : Int32))), .val (.int (own_f1 (((i1.toUInt32 >>> ((1 : Int32) &&& 31).toUInt32).toInt32) &&& (7 : Int32)) i0)), .val (.int (own_f2 (own_f1 (((i1.toUInt32 >>> ((1 : Int32) &&& 31).toUInt32).toInt32) &&& (7 : Int32)) i0) (own_j0_11_S0 i0 i1))), .val (.int (own_f2 (own_f1 (((i1.toUInt32 >>> ((1 : Int32) &&& 31).toUInt32).toInt32) &&& (7 : Int32)) i0) (0 : Int32))), .val (.int (own_f2 (own_f1 (((i1.toUInt32 >>> ((1 : Int32) &&& 31).toUInt32).toInt32) &&& (7 : Int32)) i0) (1 : Int32)))] [])) _
              refine XS.iload X16.here hx rfl (hb hby at_86) rfl ?_
              show Steps p.tables e below (T16.setTop (mkF m 88 #[.val (.int i0), .val (.int i1), .val (.int (own_j0_11_S0 i0 i1)), .val (.int (((i1.toUInt32 >>> ((1 : Int32) &&& 31).toUInt32).toInt32) &&& (7 : Int32))), .val (.int (own_f1 (((i1.toUInt32 >>> ((1 : Int32) &&& 31).toUInt32).toInt32) &&& (7 : Int32)) i0)), .val (.int (own_f2 (own_f1 (((i1.toUInt32 >>> ((1 : Int32) &&& 31).toUInt32).toInt32) &&& (7 : Int32)) i0) (own_j0_11_S0 i0 i1))), .val (.int (own_f2 (own_f1 (((i1.toUInt32 >>> ((1 : Int32) &&& 31).toUInt32).toInt32) &&& (7 : Int32)) i0) (0 : Int32))), .val (.int (own_f2 (own_f1 (((i1.toUInt32 >>> ((1 : Int32) &&& 31).toUInt32).toInt32) &&& (7 : Int32)) i0) (1 : Int32)))] [(.int (own_f2 (own_f1 (((i1.toUInt32 >>> ((1 : Int32) &&& 31).toUInt32).toInt32) &&& (7 : Int32)) i0) (1 : Int32)))])) _
              refine XS.iload X16.here hx rfl (hb hby at_88) rfl ?_
              show Steps p.tables e below (T16.setTop (mkF m 90 #[.val (.int i0), .val (.int i1), .val (.int (own_j0_11_S0 i0 i1)), .val (.int (((i1.toUInt32 >>> ((1 : Int32) &&& 31).toUInt32).toInt32) &&& (7 : Int32))), .val (.int (own_f1 (((i1.toUInt32 >>> ((1 : Int32) &&& 31).toUInt32).toInt32) &&& (7 : Int32)) i0)), .val (.int (own_f2 (own_f1 (((i1.toUInt32 >>> ((1 : Int32) &&& 31).toUInt32).toInt32) &&& (7 : Int32)) i0) (own_j0_11_S0 i0 i1))), .val (.int (own_f2 (own_f1 (((i1.toUInt32 >>> ((1 : Int32) &&& 31).toUInt32).toInt32) &&& (7 : Int32)) i0) (0 : Int32))), .val (.int (own_f2 (own_f1 (((i1.toUInt32 >>> ((1 : Int32) &&& 31).toUInt32).toInt32) &&& (7 : Int32)) i0) (1 : Int32)))] [(.int (own_f1 (((i1.toUInt32 >>> ((1 : Int32) &&& 31).toUInt32).toInt32) &&& (7 : Int32)) i0)), (.int (own_f2 (own_f1 (((i1.toUInt32 >>> ((1 : Int32) &&& 31).toUInt32).toInt32) &&& (7 : Int32)) i0) (1 : Int32)))])) _
              refine XS.iconst X16.here hx rfl (hb hby at_90) ?_
              exact kt
            obtain ⟨_, _, ⟨T18, L18, k18, n18⟩, -, X18, ⟨Lc18, hQ18, l18, y18, z18⟩, st18⟩ := Jvm.LawKit.callS X16 hx (y := (⟨"traceward/schema/LineBreaksBreaksLinePinLaw", "expected", "(IZ)Z"⟩ : MethodName)) hown (mvT hZ (hw _ (List.mem_of_getElem? (i := 8) rfl))) (mvT hZ (hw _ (List.mem_of_getElem? (i := 9) rfl))) (mvT hZ (hw _ (List.mem_of_getElem? (i := 2) rfl))) (mvT hZ (hw _ (List.mem_of_getElem? (i := 10) rfl))) (by decide) (backOf (W := 1) (own_rm3 l Z a0 hw [] (own_f1 (((i1.toUInt32 >>> ((1 : Int32) &&& 31).toUInt32).toInt32) &&& (7 : Int32)) i0) (1 : Int32) h0 n0 (Nat.le_trans Z0 K0.1) ) hZ (hw _ (List.mem_of_getElem? (i := 10) rfl)) (hw _ (List.mem_of_getElem? (i := 2) rfl)) (by decide) (by decide)) (g := (mkF m 91 #[.val (.int i0), .val (.int i1), .val (.int (own_j0_11_S0 i0 i1)), .val (.int (((i1.toUInt32 >>> ((1 : Int32) &&& 31).toUInt32).toInt32) &&& (7 : Int32))), .val (.int (own_f1 (((i1.toUInt32 >>> ((1 : Int32) &&& 31).toUInt32).toInt32) &&& (7 : Int32)) i0)), .val (.int (own_f2 (own_f1 (((i1.toUInt32 >>> ((1 : Int32) &&& 31).toUInt32).toInt32) &&& (7 : Int32)) i0) (own_j0_11_S0 i0 i1))), .val (.int (own_f2 (own_f1 (((i1.toUInt32 >>> ((1 : Int32) &&& 31).toUInt32).toInt32) &&& (7 : Int32)) i0) (0 : Int32))), .val (.int (own_f2 (own_f1 (((i1.toUInt32 >>> ((1 : Int32) &&& 31).toUInt32).toInt32) &&& (7 : Int32)) i0) (1 : Int32)))] [(.int (1 : Int32)), (.int (own_f1 (((i1.toUInt32 >>> ((1 : Int32) &&& 31).toUInt32).toInt32) &&& (7 : Int32)) i0)), (.int (own_f2 (own_f1 (((i1.toUInt32 >>> ((1 : Int32) &&& 31).toUInt32).toInt32) &&& (7 : Int32)) i0) (1 : Int32)))])) rfl (by rw [hml]; rfl) (argsL := [(.int (own_f1 (((i1.toUInt32 >>> ((1 : Int32) &&& 31).toUInt32).toInt32) &&& (7 : Int32)) i0)), (.int (1 : Int32))]) (rest := [(.int (own_f2 (own_f1 (((i1.toUInt32 >>> ((1 : Int32) &&& 31).toUInt32).toInt32) &&& (7 : Int32)) i0) (1 : Int32)))]) (lenOf own_pd3 rfl) rfl (by show 2 * 0 + _ ≤ _; exact Nat.le_of_eq rfl) (hb hby at_91) (fun _ _ => ⟨rfl, e16, (by decide : 0 + 0 ≤ _), (by decide : 0 + 0 ≤ _)⟩)
            dsimp only [Pt.U, Pt.locs, Pt.cells, Pt.slots] at X18 l18 y18 z18 st18 hQ18
            subst l18 y18 z18
            obtain ⟨rfl, N18q, e18⟩ := hQ18
            have N18 := Fr.app N16 N18q
            refine ownE.go (T' := T18) (f' := (mkF m 94 #[.val (.int i0), .val (.int i1), .val (.int (own_j0_11_S0 i0 i1)), .val (.int (((i1.toUInt32 >>> ((1 : Int32) &&& 31).toUInt32).toInt32) &&& (7 : Int32))), .val (.int (own_f1 (((i1.toUInt32 >>> ((1 : Int32) &&& 31).toUInt32).toInt32) &&& (7 : Int32)) i0)), .val (.int (own_f2 (own_f1 (((i1.toUInt32 >>> ((1 : Int32) &&& 31).toUInt32).toInt32) &&& (7 : Int32)) i0) (own_j0_11_S0 i0 i1))), .val (.int (own_f2 (own_f1 (((i1.toUInt32 >>> ((1 : Int32) &&& 31).toUInt32).toInt32) &&& (7 : Int32)) i0) (0 : Int32))), .val (.int (own_f2 (own_f1 (((i1.toUInt32 >>> ((1 : Int32) &&& 31).toUInt32).toInt32) &&& (7 : Int32)) i0) (1 : Int32)))] [(.int (own_f3 (own_f1 (((i1.toUInt32 >>> ((1 : Int32) &&& 31).toUInt32).toInt32) &&& (7 : Int32)) i0) (1 : Int32))), (.int (own_f2 (own_f1 (((i1.toUInt32 >>> ((1 : Int32) &&& 31).toUInt32).toInt32) &&& (7 : Int32)) i0) (1 : Int32)))])) st18 ?_
            by_cases hc19 : (own_f2 (own_f1 (((i1.toUInt32 >>> ((1 : Int32) &&& 31).toUInt32).toInt32) &&& (7 : Int32)) i0) (1 : Int32)) = (own_f3 (own_f1 (((i1.toUInt32 >>> ((1 : Int32) &&& 31).toUInt32).toInt32) &&& (7 : Int32)) i0) (1 : Int32))
            · -- pc 94
              refine ownE.go (T' := T18) (f' := (mkF m 97 #[.val (.int i0), .val (.int i1), .val (.int (own_j0_11_S0 i0 i1)), .val (.int (((i1.toUInt32 >>> ((1 : Int32) &&& 31).toUInt32).toInt32) &&& (7 : Int32))), .val (.int (own_f1 (((i1.toUInt32 >>> ((1 : Int32) &&& 31).toUInt32).toInt32) &&& (7 : Int32)) i0)), .val (.int (own_f2 (own_f1 (((i1.toUInt32 >>> ((1 : Int32) &&& 31).toUInt32).toInt32) &&& (7 : Int32)) i0) (own_j0_11_S0 i0 i1))), .val (.int (own_f2 (own_f1 (((i1.toUInt32 >>> ((1 : Int32) &&& 31).toUInt32).toInt32) &&& (7 : Int32)) i0) (0 : Int32))), .val (.int (own_f2 (own_f1 (((i1.toUInt32 >>> ((1 : Int32) &&& 31).toUInt32).toInt32) &&& (7 : Int32)) i0) (1 : Int32)))] [])) (fun t kt => XS.icmpNo (g := (mkF m 94 #[.val (.int i0), .val (.int i1), .val (.int (own_j0_11_S0 i0 i1)), .val (.int (((i1.toUInt32 >>> ((1 : Int32) &&& 31).toUInt32).toInt32) &&& (7 : Int32))), .val (.int (own_f1 (((i1.toUInt32 >>> ((1 : Int32) &&& 31).toUInt32).toInt32) &&& (7 : Int32)) i0)), .val (.int (own_f2 (own_f1 (((i1.toUInt32 >>> ((1 : Int32) &&& 31).toUInt32).toInt32) &&& (7 : Int32)) i0) (own_j0_11_S0 i0 i1))), .val (.int (own_f2 (own_f1 (((i1.toUInt32 >>> ((1 : Int32) &&& 31).toUInt32).toInt32) &&& (7 : Int32)) i0) (0 : Int32))), .val (.int (own_f2 (own_f1 (((i1.toUInt32 >>> ((1 : Int32) &&& 31).toUInt32).toInt32) &&& (7 : Int32)) i0) (1 : Int32)))] [(.int (own_f3 (own_f1 (((i1.toUInt32 >>> ((1 : Int32) &&& 31).toUInt32).toInt32) &&& (7 : Int32)) i0) (1 : Int32))), (.int (own_f2 (own_f1 (((i1.toUInt32 >>> ((1 : Int32) &&& 31).toUInt32).toInt32) &&& (7 : Int32)) i0) (1 : Int32)))])) X18.here hx rfl (hb hby at_94) rfl (Jvm.Free.XT.ii_ne_f hc19) kt) ?_
              refine ownE.go (T' := T18) (f' := (mkF m 102 #[.val (.int i0), .val (.int i1), .val (.int (own_j0_11_S0 i0 i1)), .val (.int (((i1.toUInt32 >>> ((1 : Int32) &&& 31).toUInt32).toInt32) &&& (7 : Int32))), .val (.int (own_f1 (((i1.toUInt32 >>> ((1 : Int32) &&& 31).toUInt32).toInt32) &&& (7 : Int32)) i0)), .val (.int (own_f2 (own_f1 (((i1.toUInt32 >>> ((1 : Int32) &&& 31).toUInt32).toInt32) &&& (7 : Int32)) i0) (own_j0_11_S0 i0 i1))), .val (.int (own_f2 (own_f1 (((i1.toUInt32 >>> ((1 : Int32) &&& 31).toUInt32).toInt32) &&& (7 : Int32)) i0) (0 : Int32))), .val (.int (own_f2 (own_f1 (((i1.toUInt32 >>> ((1 : Int32) &&& 31).toUInt32).toInt32) &&& (7 : Int32)) i0) (1 : Int32)))] [(.int (1 : Int32))])) (fun t kt => ?_) ?_
              · show Steps p.tables e below (T18.setTop (mkF m 97 #[.val (.int i0), .val (.int i1), .val (.int (own_j0_11_S0 i0 i1)), .val (.int (((i1.toUInt32 >>> ((1 : Int32) &&& 31).toUInt32).toInt32) &&& (7 : Int32))), .val (.int (own_f1 (((i1.toUInt32 >>> ((1 : Int32) &&& 31).toUInt32).toInt32) &&& (7 : Int32)) i0)), .val (.int (own_f2 (own_f1 (((i1.toUInt32 >>> ((1 : Int32) &&& 31).toUInt32).toInt32) &&& (7 : Int32)) i0) (own_j0_11_S0 i0 i1))), .val (.int (own_f2 (own_f1 (((i1.toUInt32 >>> ((1 : Int32) &&& 31).toUInt32).toInt32) &&& (7 : Int32)) i0) (0 : Int32))), .val (.int (own_f2 (own_f1 (((i1.toUInt32 >>> ((1 : Int32) &&& 31).toUInt32).toInt32) &&& (7 : Int32)) i0) (1 : Int32)))] [])) _
                refine XS.iconst X18.here hx rfl (hb hby at_97) ?_
                show Steps p.tables e below (T18.setTop (mkF m 98 #[.val (.int i0), .val (.int i1), .val (.int (own_j0_11_S0 i0 i1)), .val (.int (((i1.toUInt32 >>> ((1 : Int32) &&& 31).toUInt32).toInt32) &&& (7 : Int32))), .val (.int (own_f1 (((i1.toUInt32 >>> ((1 : Int32) &&& 31).toUInt32).toInt32) &&& (7 : Int32)) i0)), .val (.int (own_f2 (own_f1 (((i1.toUInt32 >>> ((1 : Int32) &&& 31).toUInt32).toInt32) &&& (7 : Int32)) i0) (own_j0_11_S0 i0 i1))), .val (.int (own_f2 (own_f1 (((i1.toUInt32 >>> ((1 : Int32) &&& 31).toUInt32).toInt32) &&& (7 : Int32)) i0) (0 : Int32))), .val (.int (own_f2 (own_f1 (((i1.toUInt32 >>> ((1 : Int32) &&& 31).toUInt32).toInt32) &&& (7 : Int32)) i0) (1 : Int32)))] [(.int (1 : Int32))])) _
                refine XS.goto X18.here hx rfl (pc0 := 98) (pc' := 102) rfl (hb hby at_98) (by decide) (by decide) ?_
                exact kt
              refine ownE.retN X18 hx hlk (t := .boolean) hret (by simp) (hb hby at_102) ?_ (by decide) (by decide)
              show own_Q0 Z i0 i1 h0 n0 _ T18.heap _
              rw [e18]
              exact ⟨(by rw [own_f0, if_pos hc9, if_neg hc10, if_neg hc15, if_pos hc17, if_pos hc19] <;> first | rfl | decide), N18, rfl⟩
            · -- pc 94
              refine ownE.go (T' := T18) (f' := (mkF m 101 #[.val (.int i0), .val (.int i1), .val (.int (own_j0_11_S0 i0 i1)), .val (.int (((i1.toUInt32 >>> ((1 : Int32) &&& 31).toUInt32).toInt32) &&& (7 : Int32))), .val (.int (own_f1 (((i1.toUInt32 >>> ((1 : Int32) &&& 31).toUInt32).toInt32) &&& (7 : Int32)) i0)), .val (.int (own_f2 (own_f1 (((i1.toUInt32 >>> ((1 : Int32) &&& 31).toUInt32).toInt32) &&& (7 : Int32)) i0) (own_j0_11_S0 i0 i1))), .val (.int (own_f2 (own_f1 (((i1.toUInt32 >>> ((1 : Int32) &&& 31).toUInt32).toInt32) &&& (7 : Int32)) i0) (0 : Int32))), .val (.int (own_f2 (own_f1 (((i1.toUInt32 >>> ((1 : Int32) &&& 31).toUInt32).toInt32) &&& (7 : Int32)) i0) (1 : Int32)))] [])) (fun t kt => XS.icmpYes (g := (mkF m 94 #[.val (.int i0), .val (.int i1), .val (.int (own_j0_11_S0 i0 i1)), .val (.int (((i1.toUInt32 >>> ((1 : Int32) &&& 31).toUInt32).toInt32) &&& (7 : Int32))), .val (.int (own_f1 (((i1.toUInt32 >>> ((1 : Int32) &&& 31).toUInt32).toInt32) &&& (7 : Int32)) i0)), .val (.int (own_f2 (own_f1 (((i1.toUInt32 >>> ((1 : Int32) &&& 31).toUInt32).toInt32) &&& (7 : Int32)) i0) (own_j0_11_S0 i0 i1))), .val (.int (own_f2 (own_f1 (((i1.toUInt32 >>> ((1 : Int32) &&& 31).toUInt32).toInt32) &&& (7 : Int32)) i0) (0 : Int32))), .val (.int (own_f2 (own_f1 (((i1.toUInt32 >>> ((1 : Int32) &&& 31).toUInt32).toInt32) &&& (7 : Int32)) i0) (1 : Int32)))] [(.int (own_f3 (own_f1 (((i1.toUInt32 >>> ((1 : Int32) &&& 31).toUInt32).toInt32) &&& (7 : Int32)) i0) (1 : Int32))), (.int (own_f2 (own_f1 (((i1.toUInt32 >>> ((1 : Int32) &&& 31).toUInt32).toInt32) &&& (7 : Int32)) i0) (1 : Int32)))])) X18.here hx rfl (pc0 := 94) (pc' := 101) rfl (hb hby at_94) rfl (Jvm.Free.XT.ii_ne_t hc19) (by decide) (by decide) kt) ?_
              refine ownE.go (T' := T18) (f' := (mkF m 102 #[.val (.int i0), .val (.int i1), .val (.int (own_j0_11_S0 i0 i1)), .val (.int (((i1.toUInt32 >>> ((1 : Int32) &&& 31).toUInt32).toInt32) &&& (7 : Int32))), .val (.int (own_f1 (((i1.toUInt32 >>> ((1 : Int32) &&& 31).toUInt32).toInt32) &&& (7 : Int32)) i0)), .val (.int (own_f2 (own_f1 (((i1.toUInt32 >>> ((1 : Int32) &&& 31).toUInt32).toInt32) &&& (7 : Int32)) i0) (own_j0_11_S0 i0 i1))), .val (.int (own_f2 (own_f1 (((i1.toUInt32 >>> ((1 : Int32) &&& 31).toUInt32).toInt32) &&& (7 : Int32)) i0) (0 : Int32))), .val (.int (own_f2 (own_f1 (((i1.toUInt32 >>> ((1 : Int32) &&& 31).toUInt32).toInt32) &&& (7 : Int32)) i0) (1 : Int32)))] [(.int (0 : Int32))])) (fun t kt => ?_) ?_
              · show Steps p.tables e below (T18.setTop (mkF m 101 #[.val (.int i0), .val (.int i1), .val (.int (own_j0_11_S0 i0 i1)), .val (.int (((i1.toUInt32 >>> ((1 : Int32) &&& 31).toUInt32).toInt32) &&& (7 : Int32))), .val (.int (own_f1 (((i1.toUInt32 >>> ((1 : Int32) &&& 31).toUInt32).toInt32) &&& (7 : Int32)) i0)), .val (.int (own_f2 (own_f1 (((i1.toUInt32 >>> ((1 : Int32) &&& 31).toUInt32).toInt32) &&& (7 : Int32)) i0) (own_j0_11_S0 i0 i1))), .val (.int (own_f2 (own_f1 (((i1.toUInt32 >>> ((1 : Int32) &&& 31).toUInt32).toInt32) &&& (7 : Int32)) i0) (0 : Int32))), .val (.int (own_f2 (own_f1 (((i1.toUInt32 >>> ((1 : Int32) &&& 31).toUInt32).toInt32) &&& (7 : Int32)) i0) (1 : Int32)))] [])) _
                refine XS.iconst X18.here hx rfl (hb hby at_101) ?_
                exact kt
              refine ownE.retN X18 hx hlk (t := .boolean) hret (by simp) (hb hby at_102) ?_ (by decide) (by decide)
              show own_Q0 Z i0 i1 h0 n0 _ T18.heap _
              rw [e18]
              exact ⟨(by rw [own_f0, if_pos hc9, if_neg hc10, if_neg hc15, if_pos hc17, if_neg hc19] <;> first | rfl | decide), N18, rfl⟩
          · -- pc 83
            refine ownE.go (T' := T16) (f' := (mkF m 101 #[.val (.int i0), .val (.int i1), .val (.int (own_j0_11_S0 i0 i1)), .val (.int (((i1.toUInt32 >>> ((1 : Int32) &&& 31).toUInt32).toInt32) &&& (7 : Int32))), .val (.int (own_f1 (((i1.toUInt32 >>> ((1 : Int32) &&& 31).toUInt32).toInt32) &&& (7 : Int32)) i0)), .val (.int (own_f2 (own_f1 (((i1.toUInt32 >>> ((1 : Int32) &&& 31).toUInt32).toInt32) &&& (7 : Int32)) i0) (own_j0_11_S0 i0 i1))), .val (.int (own_f2 (own_f1 (((i1.toUInt32 >>> ((1 : Int32) &&& 31).toUInt32).toInt32) &&& (7 : Int32)) i0) (0 : Int32))), .val (.int (own_f2 (own_f1 (((i1.toUInt32 >>> ((1 : Int32) &&& 31).toUInt32).toInt32) &&& (7 : Int32)) i0) (1 : Int32)))] [])) (fun t kt => XS.icmpYes (g := (mkF m 83 #[.val (.int i0), .val (.int i1), .val (.int (own_j0_11_S0 i0 i1)), .val (.int (((i1.toUInt32 >>> ((1 : Int32) &&& 31).toUInt32).toInt32) &&& (7 : Int32))), .val (.int (own_f1 (((i1.toUInt32 >>> ((1 : Int32) &&& 31).toUInt32).toInt32) &&& (7 : Int32)) i0)), .val (.int (own_f2 (own_f1 (((i1.toUInt32 >>> ((1 : Int32) &&& 31).toUInt32).toInt32) &&& (7 : Int32)) i0) (own_j0_11_S0 i0 i1))), .val (.int (own_f2 (own_f1 (((i1.toUInt32 >>> ((1 : Int32) &&& 31).toUInt32).toInt32) &&& (7 : Int32)) i0) (0 : Int32))), .val (.int (own_f2 (own_f1 (((i1.toUInt32 >>> ((1 : Int32) &&& 31).toUInt32).toInt32) &&& (7 : Int32)) i0) (1 : Int32)))] [(.int (own_f3 (own_f1 (((i1.toUInt32 >>> ((1 : Int32) &&& 31).toUInt32).toInt32) &&& (7 : Int32)) i0) (0 : Int32))), (.int (own_f2 (own_f1 (((i1.toUInt32 >>> ((1 : Int32) &&& 31).toUInt32).toInt32) &&& (7 : Int32)) i0) (0 : Int32)))])) X16.here hx rfl (pc0 := 83) (pc' := 101) rfl (hb hby at_83) rfl (Jvm.Free.XT.ii_ne_t hc17) (by decide) (by decide) kt) ?_
            refine ownE.go (T' := T16) (f' := (mkF m 102 #[.val (.int i0), .val (.int i1), .val (.int (own_j0_11_S0 i0 i1)), .val (.int (((i1.toUInt32 >>> ((1 : Int32) &&& 31).toUInt32).toInt32) &&& (7 : Int32))), .val (.int (own_f1 (((i1.toUInt32 >>> ((1 : Int32) &&& 31).toUInt32).toInt32) &&& (7 : Int32)) i0)), .val (.int (own_f2 (own_f1 (((i1.toUInt32 >>> ((1 : Int32) &&& 31).toUInt32).toInt32) &&& (7 : Int32)) i0) (own_j0_11_S0 i0 i1))), .val (.int (own_f2 (own_f1 (((i1.toUInt32 >>> ((1 : Int32) &&& 31).toUInt32).toInt32) &&& (7 : Int32)) i0) (0 : Int32))), .val (.int (own_f2 (own_f1 (((i1.toUInt32 >>> ((1 : Int32) &&& 31).toUInt32).toInt32) &&& (7 : Int32)) i0) (1 : Int32)))] [(.int (0 : Int32))])) (fun t kt => ?_) ?_
            · show Steps p.tables e below (T16.setTop (mkF m 101 #[.val (.int i0), .val (.int i1), .val (.int (own_j0_11_S0 i0 i1)), .val (.int (((i1.toUInt32 >>> ((1 : Int32) &&& 31).toUInt32).toInt32) &&& (7 : Int32))), .val (.int (own_f1 (((i1.toUInt32 >>> ((1 : Int32) &&& 31).toUInt32).toInt32) &&& (7 : Int32)) i0)), .val (.int (own_f2 (own_f1 (((i1.toUInt32 >>> ((1 : Int32) &&& 31).toUInt32).toInt32) &&& (7 : Int32)) i0) (own_j0_11_S0 i0 i1))), .val (.int (own_f2 (own_f1 (((i1.toUInt32 >>> ((1 : Int32) &&& 31).toUInt32).toInt32) &&& (7 : Int32)) i0) (0 : Int32))), .val (.int (own_f2 (own_f1 (((i1.toUInt32 >>> ((1 : Int32) &&& 31).toUInt32).toInt32) &&& (7 : Int32)) i0) (1 : Int32)))] [])) _
              refine XS.iconst X16.here hx rfl (hb hby at_101) ?_
              exact kt
            refine ownE.retN X16 hx hlk (t := .boolean) hret (by simp) (hb hby at_102) ?_ (by decide) (by decide)
            show own_Q0 Z i0 i1 h0 n0 _ T16.heap _
            rw [e16]
            exact ⟨(by rw [own_f0, if_pos hc9, if_neg hc10, if_neg hc15, if_neg hc17] <;> first | rfl | decide), N16, rfl⟩
    · -- pc 58
      refine ownE.go (T' := T8) (f' := (mkF m 61 #[.val (.int i0), .val (.int i1), .val (.int (own_j0_11_S0 i0 i1)), .val (.int (((i1.toUInt32 >>> ((1 : Int32) &&& 31).toUInt32).toInt32) &&& (7 : Int32))), .val (.int (own_f1 (((i1.toUInt32 >>> ((1 : Int32) &&& 31).toUInt32).toInt32) &&& (7 : Int32)) i0)), .val (.int (own_f2 (own_f1 (((i1.toUInt32 >>> ((1 : Int32) &&& 31).toUInt32).toInt32) &&& (7 : Int32)) i0) (own_j0_11_S0 i0 i1))), .val (.int (own_f2 (own_f1 (((i1.toUInt32 >>> ((1 : Int32) &&& 31).toUInt32).toInt32) &&& (7 : Int32)) i0) (0 : Int32))), .val (.int (own_f2 (own_f1 (((i1.toUInt32 >>> ((1 : Int32) &&& 31).toUInt32).toInt32) &&& (7 : Int32)) i0) (1 : Int32)))] [])) (fun t kt => XS.icmpNo (g := (mkF m 58 #[.val (.int i0), .val (.int i1), .val (.int (own_j0_11_S0 i0 i1)), .val (.int (((i1.toUInt32 >>> ((1 : Int32) &&& 31).toUInt32).toInt32) &&& (7 : Int32))), .val (.int (own_f1 (((i1.toUInt32 >>> ((1 : Int32) &&& 31).toUInt32).toInt32) &&& (7 : Int32)) i0)), .val (.int (own_f2 (own_f1 (((i1.toUInt32 >>> ((1 : Int32) &&& 31).toUInt32).toInt32) &&& (7 : Int32)) i0) (own_j0_11_S0 i0 i1))), .val (.int (own_f2 (own_f1 (((i1.toUInt32 >>> ((1 : Int32) &&& 31).toUInt32).toInt32) &&& (7 : Int32)) i0) (0 : Int32))), .val (.int (own_f2 (own_f1 (((i1.toUInt32 >>> ((1 : Int32) &&& 31).toUInt32).toInt32) &&& (7 : Int32)) i0) (1 : Int32)))] [(.int (own_f3 (own_f1 (((i1.toUInt32 >>> ((1 : Int32) &&& 31).toUInt32).toInt32) &&& (7 : Int32)) i0) (own_j0_11_S0 i0 i1))), (.int (own_f2 (own_f1 (((i1.toUInt32 >>> ((1 : Int32) &&& 31).toUInt32).toInt32) &&& (7 : Int32)) i0) (own_j0_11_S0 i0 i1)))])) X8.here hx rfl (hb hby at_58) rfl (Jvm.Free.XT.ii_eq_f hc9) kt) ?_
      refine ownE.go (T' := T8) (f' := (mkF m 62 #[.val (.int i0), .val (.int i1), .val (.int (own_j0_11_S0 i0 i1)), .val (.int (((i1.toUInt32 >>> ((1 : Int32) &&& 31).toUInt32).toInt32) &&& (7 : Int32))), .val (.int (own_f1 (((i1.toUInt32 >>> ((1 : Int32) &&& 31).toUInt32).toInt32) &&& (7 : Int32)) i0)), .val (.int (own_f2 (own_f1 (((i1.toUInt32 >>> ((1 : Int32) &&& 31).toUInt32).toInt32) &&& (7 : Int32)) i0) (own_j0_11_S0 i0 i1))), .val (.int (own_f2 (own_f1 (((i1.toUInt32 >>> ((1 : Int32) &&& 31).toUInt32).toInt32) &&& (7 : Int32)) i0) (0 : Int32))), .val (.int (own_f2 (own_f1 (((i1.toUInt32 >>> ((1 : Int32) &&& 31).toUInt32).toInt32) &&& (7 : Int32)) i0) (1 : Int32)))] [(.int (0 : Int32))])) (fun t kt => ?_) ?_
      · show Steps p.tables e below (T8.setTop (mkF m 61 #[.val (.int i0), .val (.int i1), .val (.int (own_j0_11_S0 i0 i1)), .val (.int (((i1.toUInt32 >>> ((1 : Int32) &&& 31).toUInt32).toInt32) &&& (7 : Int32))), .val (.int (own_f1 (((i1.toUInt32 >>> ((1 : Int32) &&& 31).toUInt32).toInt32) &&& (7 : Int32)) i0)), .val (.int (own_f2 (own_f1 (((i1.toUInt32 >>> ((1 : Int32) &&& 31).toUInt32).toInt32) &&& (7 : Int32)) i0) (own_j0_11_S0 i0 i1))), .val (.int (own_f2 (own_f1 (((i1.toUInt32 >>> ((1 : Int32) &&& 31).toUInt32).toInt32) &&& (7 : Int32)) i0) (0 : Int32))), .val (.int (own_f2 (own_f1 (((i1.toUInt32 >>> ((1 : Int32) &&& 31).toUInt32).toInt32) &&& (7 : Int32)) i0) (1 : Int32)))] [])) _
        refine XS.iconst X8.here hx rfl (hb hby at_61) ?_
        exact kt
      refine ownE.retN X8 hx hlk (t := .boolean) hret (by simp) (hb hby at_62) ?_ (by decide) (by decide)
      show own_Q0 Z i0 i1 h0 n0 _ T8.heap _
      rw [e8]
      exact ⟨(by rw [own_f0, if_neg hc9] <;> first | rfl | decide), N8, rfl⟩
  refine ownE.go (T' := s₁) (f' := (mkF m 3 #[.val (.int i0), .val (.int i1), .unset, .unset, .unset, .unset, .unset, .unset] [(.int (i1 &&& (1 : Int32)))])) (fun t kt => ?_) ?_
  · show Steps p.tables e below (s₁.setTop (mkF m 0 #[.val (.int i0), .val (.int i1), .unset, .unset, .unset, .unset, .unset, .unset] [])) _
    refine XS.iloadN X0.here hx rfl (hb hby at_0) rfl ?_
    show Steps p.tables e below (s₁.setTop (mkF m 1 #[.val (.int i0), .val (.int i1), .unset, .unset, .unset, .unset, .unset, .unset] [(.int i1)])) _
    refine XS.iconst X0.here hx rfl (hb hby at_1) ?_
    show Steps p.tables e below (s₁.setTop (mkF m 2 #[.val (.int i0), .val (.int i1), .unset, .unset, .unset, .unset, .unset, .unset] [(.int (1 : Int32)), (.int i1)])) _
    refine XS.iand X0.here hx rfl (hb hby at_2) rfl ?_
    exact kt
  by_cases hc2 : (i1 &&& (1 : Int32)) = (0 : Int32)
  · -- pc 3
    refine ownE.go (T' := s₁) (f' := (mkF m 10 #[.val (.int i0), .val (.int i1), .unset, .unset, .unset, .unset, .unset, .unset] [])) (fun t kt => XS.ifYes (g := (mkF m 3 #[.val (.int i0), .val (.int i1), .unset, .unset, .unset, .unset, .unset, .unset] [(.int (i1 &&& (1 : Int32)))])) X0.here hx rfl (pc0 := 3) (pc' := 10) rfl (hb hby at_3) rfl (Jvm.Free.XT.i0_eq_t hc2) (by decide) (by decide) kt) ?_
    refine ownE.go (T' := s₁) (f' := (mkF m 11 #[.val (.int i0), .val (.int i1), .unset, .unset, .unset, .unset, .unset, .unset] [(.int (0 : Int32))])) (fun t kt => ?_) ?_
    · show Steps p.tables e below (s₁.setTop (mkF m 10 #[.val (.int i0), .val (.int i1), .unset, .unset, .unset, .unset, .unset, .unset] [])) _
      refine XS.iconst X0.here hx rfl (hb hby at_10) ?_
      exact kt
    have jj := J3 _ _ X0 e0 N0
    rw [show (own_j0_11_S0 i0 i1) = (0 : Int32) from by rw [own_j0_11_S0, if_pos hc2]] at jj
    exact jj
  · -- pc 3
    refine ownE.go (T' := s₁) (f' := (mkF m 6 #[.val (.int i0), .val (.int i1), .unset, .unset, .unset, .unset, .unset, .unset] [])) (fun t kt => XS.ifNo (g := (mkF m 3 #[.val (.int i0), .val (.int i1), .unset, .unset, .unset, .unset, .unset, .unset] [(.int (i1 &&& (1 : Int32)))])) X0.here hx rfl (hb hby at_3) rfl (Jvm.Free.XT.i0_eq_f hc2) kt) ?_
    refine ownE.go (T' := s₁) (f' := (mkF m 11 #[.val (.int i0), .val (.int i1), .unset, .unset, .unset, .unset, .unset, .unset] [(.int (1 : Int32))])) (fun t kt => ?_) ?_
    · show Steps p.tables e below (s₁.setTop (mkF m 6 #[.val (.int i0), .val (.int i1), .unset, .unset, .unset, .unset, .unset, .unset] [])) _
      refine XS.iconst X0.here hx rfl (hb hby at_6) ?_
      show Steps p.tables e below (s₁.setTop (mkF m 7 #[.val (.int i0), .val (.int i1), .unset, .unset, .unset, .unset, .unset, .unset] [(.int (1 : Int32))])) _
      refine XS.goto X0.here hx rfl (pc0 := 7) (pc' := 11) rfl (hb hby at_7) (by decide) (by decide) ?_
      exact kt
    have jj := J3 _ _ X0 e0 N0
    rw [show (own_j0_11_S0 i0 i1) = (1 : Int32) from by rw [own_j0_11_S0, if_neg hc2]] at jj
    exact jj
theorem own_same (c x : Int32) : own_f2 c x = own_f3 c x := rfl
theorem own_mono (c : Int32) (h : ¬ own_f2 c 0 = 0) : ¬ own_f2 c 1 = 0 := by
  unfold own_f2 at h ⊢
  by_cases h1 : c = 10
  · simp [h1]
  · by_cases h2 : c = 13
    · simp [h2]
    · simp [h1, h2] at h
theorem own_law (x y : Int32) : own_f0 x y = 1 := by
  unfold own_f0
  simp only [own_same, if_true]
  split
  · rfl
  · rename_i h
    rw [if_neg]
    exact own_mono _ h

set_option maxRecDepth 65536 in
set_option maxHeartbeats 40000000 in
theorem comes_1 {Post : Tables → Env → Array Value → State → Outcome → State → Prop} (hpost : ∀ tb e args s v u, (limb_1_1.after args s (.returned v) u = true ∧ limb_1_2.after args s (.returned v) u = true ∧ True) → FrameEnd s (.returned v) u (Jvm.fieldLocs frame_1_writes args s ++ Jvm.arrayLocs frame_1_arrays args s ++ Jvm.staticLocs frame_1_statics s) 0 0 → Post tb e args s (.returned v) u) :
    ArmFor flags0 classFile x code maxLocals ret World_1 tables_1 room_1 Calls_1 rest_1 Pre_1 Post := by
  intro l hfl _ _ p e ha hc hk s m args below hf hA hF happ hP
  obtain ⟨hcalls, hrest, hpre⟩ := hP
  obtain ⟨-, -, -, hnamed, -, -, -, hat⟩ := (Spec.applies_iff hf).mp happ
  obtain ⟨hg, hn⟩ := and_e (Cond.before_iff.mp (show (Jvm.Cond.and given_1 narrow_1).before args s = true from hpre))
  obtain ⟨g1, g2⟩ := and_e hg
  obtain ⟨g3, g4⟩ := and_e g2
  obtain ⟨w0, w1, rfl⟩ : ∃ w0 w1 : Value, args = #[w0, w1] := by
    have hs : args.size = 2 := by simpa [Cond.value, given_1] using g1
    obtain ⟨L⟩ := args
    match L, hs with
    | [w0, w1], _ => exact ⟨w0, w1, rfl⟩
  have hw := fun d (hd : d ∈ tables_1) => atoms_spec (ws := Jvm.Cond.code x code maxLocals ret :: tables_1) hat d (List.mem_cons_of_mem _ hd)
  have hfit : Fit s := fun {y c} hc i hi => by
    obtain ⟨ha, rfl⟩ := Array.getElem?_eq_some_iff.mp hc
    have q := List.all_eq_true.mp ((Array.all_eq_true_iff_forall_mem.mp hF) _ (Array.getElem_mem ha)) i (List.mem_range.mpr hi)
    simpa [Array.getElem?_eq_getElem hi] using q
  obtain ⟨i0, ei0⟩ := is_v g3
  obtain rfl : w0 = (.int i0) := Option.some.inj ei0
  obtain ⟨i1, ei1⟩ := is_v g4
  obtain rfl : w1 = (.int i1) := Option.some.inj ei1
  obtain ⟨n, o, h1, h2, h3, _, L, rfl, ⟨rfl, N, -⟩, hq⟩ := own_rm0 l s _ hw tables_1 i0 i1  s.heap s.heap.size (Nat.le_refl _)  p e ha hc hk s m _ below hf ((Spec.applies_iff_loose hf).mp happ).1 ⟨rfl, State.Warmed39.refl s, rfl⟩ trivial
  refine ⟨n, _, h1, h2, h3, hpost _ _ _ _ _ _ ⟨Cond.after_iff.mpr rfl, Cond.after_iff.mpr (eq_i res_at (Term.int_eval (1)) (congrArg Value.int (own_law i0 i1))), trivial⟩ ⟨hq.1, hq.2.1, (hq.2.2.sift fun y hy => Or.inr (N y hy)).mono (by decide) (by decide)⟩⟩
theorem main_1_1 : Claimed_1_1 := comes_1 fun _ _ _ _ _ _ h hF => ⟨h.1, hF⟩
theorem main_1_2 : Claimed_1_2 := comes_1 fun _ _ _ _ _ _ h hF => ⟨h.2.1, hF⟩
end Jvm.Pilot.@@N@@
namespace Jvm.Pilot.@@N@@
open Jvm Jvm.ClassFile Sem Op Lib Jvm.Free Jvm.Stand Jvm.Pilot.@@N@@.Jvm.D
/-! MADE BY PROGRAM (witnessworld.py) out of the Statement's table words and the real class files: 9 classes; the members and pool entries that the words name. The judged class is class 1, her method 3. -/
namespace start1
open Jvm.ClassFile
def u (s : String) : CpInfo := .utf8 (stringToUtf16 s)
/-- a pool by its gaps: so many unusable entries, then the entry; so many at the end -/
def gap : Nat → List CpInfo → List CpInfo
  | 0, r => r
  | n + 1, r => .unusable :: gap n r
def poolList (es : List (Nat × CpInfo)) (last : Nat) : List CpInfo := es.foldr (fun e r => gap e.1 (e.2 :: r)) (gap last [])
def pool (es : List (Nat × CpInfo)) (last : Nat) : Array CpInfo := ⟨poolList es last⟩
def fileOf (pool : Array CpInfo) (this : Nat) (attrs : Array Attribute := #[]) (ms : Array MethodInfo := #[]) (fl : Nat := 33) (sup : Nat := 0) (ifs : Array Nat := #[]) (fds : Array FieldInfo := #[]) : ClassFile where
  minorVersion := 0
  majorVersion := 65
  constantPool := pool
  accessFlags := fl
  thisClass := this
  superClass := sup
  interfaces := ifs
  fields := fds
  methods := ms
  attributes := attrs
def plain (name : String) (sup : Option ClassId) : Class where
  name := name
  kind := .ordinary
  loader := none
  accessFlags := 33
  super := sup
  interfaces := #[]
  cf := none
  fields := #[]
  methods := #[]
  instanceTypes := #[]
  staticTypes := #[]
  resolved := #[]
  callSites := []
  init := .initialized
  statics := none
  mirror := none

def pool0 : Array CpInfo := pool [(5, u "<init>"), (0, u "()V"), (1, .class_ 10), (1, u "java/lang/Object")] 113

def k0m0 : Method := { name := "<init>", desc := "()V", sig := { parameters := [], returnType := none }, accessFlags := 1, code := none }
/-- java/lang/Object -/
def k0 : Class := { plain "java/lang/Object" none with
  accessFlags := 33
  interfaces := #[]
  cf := some (fileOf pool0 8 #[] #[{ accessFlags := 1, nameIndex := 5, descriptorIndex := 6, attributes := #[] }] 33 0 #[] #[])
  fields := #[]
  methods := #[k0m0]
  instanceTypes := #[]
  staticTypes := #[]
  resolved := Array.replicate 124 none
  statics := none }

def pool1 : Array CpInfo := pool [(2, .class_ 4), (1, u "java/lang/Object"), (0, u "<init>"), (0, u "()V"), (0, .methodref 8 9), (0, .class_ 10), (0, .nameAndType 11 12), (0, u "traceward/schema/LineBreaksBreaksLinePinLaw"), (0, u "pick"), (0, u "(II)I"), (0, .methodref 14 15), (0, .class_ 16), (0, .nameAndType 17 18), (0, u "traceward/schema/LineBreaks"), (0, u "breaksLine"), (0, u "(IZ)Z"), (0, .methodref 8 20), (0, .nameAndType 21 18), (0, u "expected"), (3, u "law"), (0, u "(II)Z")] 2

def k1m0 : Method := { name := "<init>", desc := "()V", sig := { parameters := [], returnType := none }, accessFlags := 1, code := none }
def k1c1 : Code := { maxStack := 2, maxLocals := 2, code := method_2_code, exceptionTable := #[], attributes := #[] }
def k1m1 : Method := { name := "pick", desc := "(II)I", sig := { parameters := [.int, .int], returnType := some .int }, accessFlags := 10, code := some k1c1 }
def k1c2 : Code := { maxStack := 2, maxLocals := 2, code := method_3_code, exceptionTable := #[], attributes := #[] }
def k1m2 : Method := { name := "expected", desc := "(IZ)Z", sig := { parameters := [.int, .boolean], returnType := some .boolean }, accessFlags := 10, code := some k1c2 }
def k1c3 : Code := { maxStack := 3, maxLocals := 8, code := code, exceptionTable := #[], attributes := #[] }
def k1m3 : Method := { name := "law", desc := "(II)Z", sig := { parameters := [.int, .int], returnType := some .boolean }, accessFlags := 9, code := some k1c3 }
/-- traceward/schema/LineBreaksBreaksLinePinLaw -/
def k1 : Class := { plain "traceward/schema/LineBreaksBreaksLinePinLaw" (some 0) with
  accessFlags := 49
  interfaces := #[]
  cf := some (fileOf pool1 8 #[] #[{ accessFlags := 1, nameIndex := 5, descriptorIndex := 6, attributes := #[] }, { accessFlags := 10, nameIndex := 11, descriptorIndex := 12, attributes := #[] }, { accessFlags := 10, nameIndex := 21, descriptorIndex := 18, attributes := #[] }, { accessFlags := 9, nameIndex := 25, descriptorIndex := 26, attributes := #[] }] 49 2 #[] #[])
  fields := #[]
  methods := #[k1m0, k1m1, k1m2, k1m3]
  instanceTypes := #[]
  staticTypes := #[]
  resolved := Array.replicate 29 none
  statics := none }

def pool2 : Array CpInfo := pool [(2, .class_ 4), (1, u "java/lang/Object"), (0, u "<init>"), (0, u "()V"), (0, .class_ 8), (0, u "traceward/schema/LineBreaks"), (2, u "count"), (0, u "I"), (2, u "xml11"), (0, u "Z"), (2, u "afterCarriageReturn"), (2, u "breaksLine"), (0, u "(IZ)Z"), (0, u "NEXT_LINE"), (2, u "LINE_SEPARATOR")] 12

def k2m0 : Method := { name := "<init>", desc := "()V", sig := { parameters := [], returnType := none }, accessFlags := 0, code := none }
def k2c1 : Code := { maxStack := 2, maxLocals := 2, code := prog_84_method_2_code, exceptionTable := #[], attributes := #[] }
def k2m1 : Method := { name := "breaksLine", desc := "(IZ)Z", sig := { parameters := [.int, .boolean], returnType := some .boolean }, accessFlags := 8, code := some k2c1 }
/-- traceward/schema/LineBreaks -/
def k2 : Class := { plain "traceward/schema/LineBreaks" (some 0) with
  accessFlags := 48
  interfaces := #[]
  cf := some (fileOf pool2 7 #[] #[{ accessFlags := 0, nameIndex := 5, descriptorIndex := 6, attributes := #[] }, { accessFlags := 8, nameIndex := 22, descriptorIndex := 23, attributes := #[] }] 48 2 #[] #[{ accessFlags := 24, nameIndex := 24, descriptorIndex := 12, attributes := #[] }, { accessFlags := 24, nameIndex := 27, descriptorIndex := 12, attributes := #[] }, { accessFlags := 2, nameIndex := 11, descriptorIndex := 12, attributes := #[] }, { accessFlags := 2, nameIndex := 19, descriptorIndex := 16, attributes := #[] }, { accessFlags := 2, nameIndex := 15, descriptorIndex := 16, attributes := #[] }])
  fields := #[{ name := "NEXT_LINE", type := .int, accessFlags := 24, slot := 0, constantValue := 0 }, { name := "LINE_SEPARATOR", type := .int, accessFlags := 24, slot := 1, constantValue := 0 }, { name := "count", type := .int, accessFlags := 2, slot := 0, constantValue := 0 }, { name := "afterCarriageReturn", type := .boolean, accessFlags := 2, slot := 1, constantValue := 0 }, { name := "xml11", type := .boolean, accessFlags := 2, slot := 2, constantValue := 0 }]
  methods := #[k2m0, k2m1]
  instanceTypes := #[.int, .boolean, .boolean]
  staticTypes := #[.int, .int]
  resolved := Array.replicate 40 none
  statics := none }

def pool3 : Array CpInfo := pool [(1, u "java/lang/Cloneable"), (0, .class_ 1), (0, u "java/lang/Object"), (0, .class_ 3)] 3

/-- java/lang/Cloneable -/
def k3 : Class := { plain "java/lang/Cloneable" (some 0) with
  accessFlags := 1537
  interfaces := #[]
  cf := some (fileOf pool3 2 #[] #[] 1537 4 #[] #[])
  fields := #[]
  methods := #[]
  instanceTypes := #[]
  staticTypes := #[]
  resolved := Array.replicate 8 none
  statics := none }

def pool4 : Array CpInfo := pool [(1, u "java/io/Serializable"), (0, .class_ 1), (0, u "java/lang/Object"), (0, .class_ 3)] 3

/-- java/io/Serializable -/
def k4 : Class := { plain "java/io/Serializable" (some 0) with
  accessFlags := 1537
  interfaces := #[]
  cf := some (fileOf pool4 2 #[] #[] 1537 4 #[] #[])
  fields := #[]
  methods := #[]
  instanceTypes := #[]
  staticTypes := #[]
  resolved := Array.replicate 8 none
  statics := none }

/-- the primitive byte -/
def k5 : Class := { plain "byte" none with kind := .primitive 'B', accessFlags := 0x411 }
/-- [B -/
def k6 : Class := { plain "[B" (some 0) with kind := .array 5 .byte, interfaces := #[3, 4], accessFlags := 1041 }

/-- the primitive int -/
def k7 : Class := { plain "int" none with kind := .primitive 'I', accessFlags := 0x411 }
/-- [I -/
def k8 : Class := { plain "[I" (some 0) with kind := .array 7 .int, interfaces := #[3, 4], accessFlags := 1041 }

def heap : Heap := #[]
def classes : Array Class := #[k0, k1, k2, k3, k4, k5, k6, k7, k8]
def interned : List (Array UInt16 × Addr) := []
def slotsUsed : Nat := 0
def theMethod : MethodId := ⟨1, 3⟩
def args0 : Array Value := #[.int 5, .int 5]
def aboutOver (below : List Frame) : State where
  vm := { classes := classes, interned := interned.toArray }
  heap := heap
  slotsUsed := slotsUsed
  threads := #[{ frames := .invoking theMethod args0 :: below }]
def below0 : List Frame := [.native { method := ⟨0, 0⟩, args := #[] }]
def about1 : State := aboutOver below0
def p0 : Program := .bare "" "" ""
def e0 : Env := launch0.env 0 0 0
theorem w_frames : about1.frames = Frame.invoking theMethod args0 :: below0 := rfl
set_option maxRecDepth 65536 in
theorem w_args : argsFit about1.vm theMethod args0 = true := by decide +kernel
set_option maxRecDepth 65536 in
theorem w_heap : heapFits about1 = true := by decide +kernel
set_option maxRecDepth 65536 in
theorem w_runnable : about1.curStatus? = some .runnable := by decide +kernel
set_option maxRecDepth 65536 in
theorem w_alone : about1.alone = true := by decide +kernel
set_option maxRecDepth 65536 in
theorem w_named : about1.methodNamed? x = some theMethod := by decide +kernel
set_option maxRecDepth 65536 in
theorem w_hears : about1.hears theMethod below0 = true := by decide +kernel
set_option maxRecDepth 65536 in
theorem w_ripe : about1.ripe theMethod args0 below0 = true := by decide +kernel
theorem w_running : about1.status = .running := rfl
set_option maxRecDepth 65536 in
theorem w_room : about1.hasRoom e0.platform room_1 = true :=
  launch0.hasRoom_least _ room_1 (by decide +kernel) (by decide +kernel) (by decide +kernel) (by decide +kernel) (by decide +kernel) (by decide +kernel)
theorem allAtoms_all (ts : List Jvm.Cond) (a : Array Jvm.Value) (st : Jvm.State) : (allAtoms ts).before a st = ts.all (fun c => c.before a st) := by
  induction ts with
  | nil => rfl
  | cons c t ih =>
    show (Jvm.Cond.and c (allAtoms t)).before a st = _
    rw [Jvm.Cond.before_and, ih, List.all_cons]
def words1 : List Jvm.Cond := Jvm.Cond.code x code maxLocals ret :: tables_1
/-- a 'code' word, met by the world's own term for the bytes: nothing is compared byte by byte -/
theorem code_word {y : MethodName} {bytes : ByteArray} {mx : Nat} {rt : Option FieldType} {a : Array Value} {s : State} {m : MethodId} {meth : Method} {c : Code} (h1 : s.methodNamed? y = some m) (h2 : s.vm.method? m = some meth) (h3 : meth.code = some c) (h4 : c.code = bytes)
    (h5 : (c.maxLocals == mx && c.exceptionTable.isEmpty && decide (c.maxStack ≤ mostOperands) && decide (meth.sig.returnType = rt) && !meth.locks && decide (parseMethodDescriptor y.desc = some meth.sig)) = true) : (Jvm.Cond.code y bytes mx rt).before a s = true := by
  simp only [Bool.and_eq_true, beq_iff_eq, Bool.not_eq_true', decide_eq_true_eq] at h5
  obtain ⟨⟨⟨⟨⟨g1, g2⟩, g3⟩, g4⟩, g5⟩, g6⟩ := h5
  simp [Cond.before, Cond.holds, Cond.value, h1, h2, h3, h4, g1, g2, g3, g4, g5, g6]
def isCode : Jvm.Cond → Bool
  | .code _ _ _ _ => true
  | _ => false
theorem all_split {L : List Jvm.Cond} {P : Jvm.Cond → Bool} (h1 : L.all (fun c => isCode c || P c) = true) (h2 : ∀ c ∈ L.filter isCode, P c = true) : L.all P = true := by
  refine List.all_eq_true.mpr fun c hc => ?_
  have h := List.all_eq_true.mp h1 c hc
  rcases Bool.eq_false_or_eq_true (isCode c) with hi | hi
  · exact h2 c (List.mem_filter.mpr ⟨hc, hi⟩)
  · simpa [hi] using h
set_option maxRecDepth 65536 in
theorem w_c0 : (Jvm.Cond.code x code maxLocals ret).before args0 about1 = true := code_word (m := ⟨1, 3⟩) (meth := k1m3) (c := k1c3) (by decide +kernel) rfl rfl rfl (by decide +kernel)
set_option maxRecDepth 65536 in
theorem w_c1 : (Jvm.Cond.code ({ cls := "traceward/schema/LineBreaksBreaksLinePinLaw", name := "pick", desc := "(II)I" } : Jvm.MethodName) method_2_code (2 : Nat) (Option.some Jvm.ClassFile.FieldType.int)).before args0 about1 = true := code_word (m := ⟨1, 1⟩) (meth := k1m1) (c := k1c1) (by decide +kernel) rfl rfl rfl (by decide +kernel)
set_option maxRecDepth 65536 in
theorem w_c2 : (Jvm.Cond.code ({ cls := "traceward/schema/LineBreaks", name := "breaksLine", desc := "(IZ)Z" } : Jvm.MethodName) prog_84_method_2_code (2 : Nat) (Option.some Jvm.ClassFile.FieldType.boolean)).before args0 about1 = true := code_word (m := ⟨2, 1⟩) (meth := k2m1) (c := k2c1) (by decide +kernel) rfl rfl rfl (by decide +kernel)
set_option maxRecDepth 65536 in
theorem w_c3 : (Jvm.Cond.code ({ cls := "traceward/schema/LineBreaksBreaksLinePinLaw", name := "expected", desc := "(IZ)Z" } : Jvm.MethodName) method_3_code (2 : Nat) (Option.some Jvm.ClassFile.FieldType.boolean)).before args0 about1 = true := code_word (m := ⟨1, 2⟩) (meth := k1m2) (c := k1c2) (by decide +kernel) rfl rfl rfl (by decide +kernel)
def codes1 : List Jvm.Cond := [Jvm.Cond.code x code maxLocals ret, Jvm.Cond.code ({ cls := "traceward/schema/LineBreaksBreaksLinePinLaw", name := "pick", desc := "(II)I" } : Jvm.MethodName) method_2_code (2 : Nat) (Option.some Jvm.ClassFile.FieldType.int), Jvm.Cond.code ({ cls := "traceward/schema/LineBreaks", name := "breaksLine", desc := "(IZ)Z" } : Jvm.MethodName) prog_84_method_2_code (2 : Nat) (Option.some Jvm.ClassFile.FieldType.boolean), Jvm.Cond.code ({ cls := "traceward/schema/LineBreaksBreaksLinePinLaw", name := "expected", desc := "(IZ)Z" } : Jvm.MethodName) method_3_code (2 : Nat) (Option.some Jvm.ClassFile.FieldType.boolean)]
set_option maxRecDepth 65536 in
theorem codes_eq : words1.filter isCode = codes1 := rfl
theorem w_codes : ∀ c ∈ words1.filter isCode, c.before args0 about1 = true := by
  rw [codes_eq]
  intro c hc
  simp only [codes1, List.mem_cons, List.not_mem_nil, or_false] at hc
  rcases hc with rfl | rfl | rfl | rfl
  · exact w_c0
  · exact w_c1
  · exact w_c2
  · exact w_c3
set_option maxRecDepth 65536 in
theorem w_t1 : words1.all (fun c => isCode c || c.before args0 about1) = true := by decide +kernel
theorem w_tables : (allAtoms (Jvm.Cond.code x code maxLocals ret :: tables_1)).before args0 about1 = true := by
  rw [allAtoms_all]
  show words1.all (fun c => c.before args0 about1) = true
  refine all_split ?_ w_codes
  rw [w_t1]
set_option maxRecDepth 65536 in
theorem w_case : (Jvm.Cond.and given_1 narrow_1).before args0 about1 = true := by decide +kernel
theorem w_applies : (headSpec (Jvm.Cond.code x code maxLocals ret :: tables_1) room_1).applies x e0.platform about1 = true :=
  (Spec.applies_iff w_frames).mpr ⟨w_running, w_runnable, w_alone, w_named, w_hears, w_ripe, w_room, w_tables⟩
theorem atStart : AtStart classFile x code maxLocals ret World_1 tables_1 room_1 Calls_1 rest_1 Pre_1 launch0 p0 e0 about1 theMethod args0 below0 :=
  ⟨lists_1, trivial, launch0.admits_env _ _ _, launch0.least_env, fairChoices_fair.cas, fairChoices_fair.clock, w_frames, w_args, w_heap, w_applies, trivial, trivial, w_case⟩
end start1
theorem witness_1 : WitnessClaimed_1 := ⟨start1.p0, start1.e0, start1.about1, start1.theMethod, start1.args0, start1.below0, start1.atStart⟩
end Jvm.Pilot.@@N@@
