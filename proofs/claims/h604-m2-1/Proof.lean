import JvmDerived
import JvmDerived.Pilot.@@N@@Statement
import JvmDerived.Pilot.@@N@@Code
set_option linter.unusedVariables false
set_option linter.unusedSimpArgs false
namespace Jvm.RoadKit
open Sem ClassFile Op Lib Jvm.Stand Jvm.Free Jvm.LawKit
section New
variable {p : Program} {l : Launch} {e : Env} {R : Room} {s : State} {m : MethodId} {args : Array Value} {below : List Frame} {meth : Method} {c : Code} {T : State} {locs : List Loc} {cells slots : Nat}
theorem retI (X : Stand p l e R s m args below meth c T locs cells slots) (hx : p.tables.exec = Jvm.exec) {pc : Nat} {Ls : Array Slot} {z : Int32} {rest : List Value} (hret : meth.sig.returnType = some .int) (hd : decode c.code pc = .ok (.ireturn, 1)) {fs : List Frame}
    (hl : ∀ (f : JFrame) (acts : List Action), f.method = m → f.locked = none → f.entered = [] → (doReturn e (T.setTop f) acts (some (.int z))).1 = T.setFrames fs) : Steps p.tables e below (T.setTop (mkF m pc Ls (.int z :: rest))) (T.setFrames fs) := by
  have hm' : T.vm.method? m = some meth := X.method'
  have hn : narrow .int (.int z) = .int z := rfl
  show Steps p.tables e below (T.setTop { method := m, pc := pc, locals := Ls, stack := _ :: rest, locked := none }) _
  jvm_step X.here [X.here.top, hx, hd, hm', hret, hn]
  first | (intro acts; rw [hl _ acts rfl rfl rfl]) | rw [hl _ _ rfl rfl rfl]
  exact Steps.refl _
end New
/-! the walk in continuation form: from the state T at the frame f the run ends by a return, as Q says -/
section Own
variable {p : Program} {l : Launch} {e : Env} {R : Room} {s : State} {m : MethodId} {args : Array Value} {below : List Frame} {meth : Method} {c : Code} {T T' : State} {locs : List Loc} {cells slots k n : Nat} {Q : Option Value → Heap → List Loc → Prop} {f f' : JFrame}
def ownE (p : Program) (e : Env) (below : List Frame) (s : State) (Q : Option Value → Heap → List Loc → Prop) (k n : Nat) (T : State) (f : JFrame) : Prop :=
  ∃ s₂ o, Steps p.tables e below (T.setTop f) s₂ ∧ s₂.status = .running ∧ Ended s₂ below o ∧ ∃ v L, o = .returned v ∧ Q v s₂.heap L ∧ FrameEnd s o s₂ L k n
theorem ownE.go (g : ∀ t, Steps p.tables e below (T'.setTop f') t → Steps p.tables e below (T.setTop f) t) (h : ownE p e below s Q k n T' f') : ownE p e below s Q k n T f := by
  obtain ⟨s₂, o, h1, r⟩ := h
  exact ⟨s₂, o, g _ h1, r⟩
theorem ownE.goS (g : Steps p.tables e below (T.setTop f) (T'.setTop f')) (h : ownE p e below s Q k n T' f') : ownE p e below s Q k n T f := by
  obtain ⟨s₂, o, h1, r⟩ := h
  exact ⟨s₂, o, g.trans h1, r⟩
theorem ownE.ret (X : Stand p l e R s m args below meth c T locs cells slots) {v : Option Value} (hlk : meth.locks = false) (hv : meth.sig.returnType = none → v = none)
    (st : ∀ fs, (∀ (f : JFrame) (acts : List Action), f.method = m → f.locked = none → f.entered = [] → (doReturn e (T.setTop f) acts v).1 = T.setFrames fs) → Steps p.tables e below (T.setTop f) (T.setFrames fs))
    (hQ : Q v T.heap locs) (hk : cells ≤ k) (hn : slots ≤ n) : ownE p e below s Q k n T f := by
  obtain ⟨fs, hr, hrun, hended, hW, hsame⟩ := X.leave (v := v) hv hlk
  exact ⟨_, _, st fs hr, hrun, hended, _, _, rfl, hQ, ⟨_, rfl⟩, hW, hsame.mono hk hn⟩
theorem ownE.retI (X : Stand p l e R s m args below meth c T locs cells slots) (hx : p.tables.exec = Jvm.exec) (hlk : meth.locks = false) {pc : Nat} {Ls : Array Slot} {z : Int32} {rest : List Value} (hret : meth.sig.returnType = some .int) (hd : decode c.code pc = .ok (.ireturn, 1))
    (hQ : Q (some (.int z)) T.heap locs) (hk : cells ≤ k) (hn : slots ≤ n) : ownE p e below s Q k n T (mkF m pc Ls (.int z :: rest)) :=
  ownE.ret X hlk (fun h => by rw [hret] at h; cases h) (fun fs hr => Jvm.RoadKit.retI X hx hret hd hr) hQ hk hn
theorem ownE.retN (X : Stand p l e R s m args below meth c T locs cells slots) (hx : p.tables.exec = Jvm.exec) (hlk : meth.locks = false) {pc : Nat} {Ls : Array Slot} {z : Int32} {rest : List Value} {t : FieldType} (hret : meth.sig.returnType = some t) (ht : t = .boolean ∨ t = .byte ∨ t = .char ∨ t = .short) (hd : decode c.code pc = .ok (.ireturn, 1))
    (hQ : Q (some (.int (nar t z))) T.heap locs) (hk : cells ≤ k) (hn : slots ≤ n) : ownE p e below s Q k n T (mkF m pc Ls (.int z :: rest)) :=
  ownE.ret X hlk (fun h => by rw [hret] at h; cases h) (fun fs hr => Jvm.RoadKit.retN X hx hret ht hd hr) hQ hk hn
theorem ownE.retL (X : Stand p l e R s m args below meth c T locs cells slots) (hx : p.tables.exec = Jvm.exec) (hlk : meth.locks = false) {pc : Nat} {Ls : Array Slot} {z : Int64} {rest : List Value} (hret : meth.sig.returnType = some .long) (hd : decode c.code pc = .ok (.lreturn, 1))
    (hQ : Q (some (.long z)) T.heap locs) (hk : cells ≤ k) (hn : slots ≤ n) : ownE p e below s Q k n T (mkF m pc Ls (.long z :: rest)) :=
  ownE.ret X hlk (fun h => by rw [hret] at h; cases h) (fun fs hr => Jvm.RoadKit.retOut X hx hret rfl (Or.inr (Or.inl ⟨rfl, rfl, z, rfl⟩)) hd hr) hQ hk hn
theorem ownE.retA (X : Stand p l e R s m args below meth c T locs cells slots) (hx : p.tables.exec = Jvm.exec) (hlk : meth.locks = false) {pc : Nat} {Ls : Array Slot} {z : Value} {rest : List Value} {t : FieldType} (hret : meth.sig.returnType = some t) (ht : t.isReference = true) (hz : z.isRef = true) (hn' : narrow t z = z) (hd : decode c.code pc = .ok (.areturn, 1))
    (hQ : Q (some z) T.heap locs) (hk : cells ≤ k) (hn : slots ≤ n) : ownE p e below s Q k n T (mkF m pc Ls (z :: rest)) :=
  ownE.ret X hlk (fun h => by rw [hret] at h; cases h) (fun fs hr => Jvm.RoadKit.retOut X hx hret hn' (Or.inr (Or.inr (Or.inr (Or.inr ⟨rfl, ht, hz⟩)))) hd hr) hQ hk hn
theorem ownE.retV (X : Stand p l e R s m args below meth c T locs cells slots) (hx : p.tables.exec = Jvm.exec) (hlk : meth.locks = false) {pc : Nat} {Ls : Array Slot} (hret : meth.sig.returnType = none) (hd : decode c.code pc = .ok (.return_, 1))
    (hQ : Q none T.heap locs) (hk : cells ≤ k) (hn : slots ≤ n) : ownE p e below s Q k n T (mkF m pc Ls []) :=
  ownE.ret X hlk (fun _ => rfl) (fun fs hr => X.returnOut hx hret hd hr) hQ hk hn
end Own
theorem own_eqV {u : Term} {args : Array Value} {Z : State} {x k : Int32} (e : u.eval args Z none [] Z = some (.int x)) : (Jvm.Cond.eq u (.int k)).value args Z none Z [] = some (decide (x = k)) := by
  have ek : (Term.int k).eval args Z none [] Z = some (.int k) := Term.int_eval k
  simp only [Cond.value]
  rw [e, ek]
theorem own_selP {s : State} {args : Array Value} {y : MethodName} {n : Nat} (wi : (Cond.instantiable y.cls n).before args s = true) (hi : (Cond.instanceMethod y).before args s = true) (hp : s.PrivateAt y) (hy : y.cls ≠ "java/lang/invoke/MethodHandle" ∧ y.cls ≠ "java/lang/invoke/VarHandle") : (Cond.selects y.cls y y).before args s = true := by
  obtain ⟨c, k, h1, h2, -, h4, -⟩ := Cond.instantiable_spec wi
  exact selects_self_of_private h1 h2 (by simp at h4; exact h4.1) hp hi hy
end Jvm.RoadKit
namespace Jvm.Pilot.@@N@@
open Jvm Jvm.ClassFile Sem Op Lib Jvm.Free Jvm.Stand Jvm.LawKit Jvm.RoadKit Bundle Jvm.Pilot.@@N@@.Jvm.D
theorem own_d1_0 : decode method_2_code 0 = .ok (.iload_n 0, 1) := by decide +kernel
theorem own_d1_1 : decode method_2_code 1 = .ok (.iconst 3, 1) := by decide +kernel
theorem own_d1_2 : decode method_2_code 2 = .ok (.iand, 1) := by decide +kernel
theorem own_d1_3 : decode method_2_code 3 = .ok (.istore_n 1, 1) := by decide +kernel
theorem own_d1_4 : decode method_2_code 4 = .ok (.iload_n 1, 1) := by decide +kernel
theorem own_d1_5 : decode method_2_code 5 = .ok (.ifCond .ne 6, 3) := by decide +kernel
theorem own_d1_8 : decode method_2_code 8 = .ok (.bipush 13, 2) := by decide +kernel
theorem own_d1_10 : decode method_2_code 10 = .ok (.ireturn, 1) := by decide +kernel
theorem own_d1_11 : decode method_2_code 11 = .ok (.iload_n 1, 1) := by decide +kernel
theorem own_d1_12 : decode method_2_code 12 = .ok (.iconst 1, 1) := by decide +kernel
theorem own_d1_13 : decode method_2_code 13 = .ok (.if_icmp .ne 6, 3) := by decide +kernel
theorem own_d1_16 : decode method_2_code 16 = .ok (.bipush 10, 2) := by decide +kernel
theorem own_d1_18 : decode method_2_code 18 = .ok (.ireturn, 1) := by decide +kernel
theorem own_d1_19 : decode method_2_code 19 = .ok (.iload_n 0, 1) := by decide +kernel
theorem own_d1_20 : decode method_2_code 20 = .ok (.iconst 2, 1) := by decide +kernel
theorem own_d1_21 : decode method_2_code 21 = .ok (.ishr, 1) := by decide +kernel
theorem own_d1_22 : decode method_2_code 22 = .ok (.i2b, 1) := by decide +kernel
theorem own_d1_23 : decode method_2_code 23 = .ok (.ireturn, 1) := by decide +kernel
theorem own_pn0 : plainName "traceward/schema/LineBreaksTakePinLaw" = true := by first | (simp [plainName, overriddenIn]; done) | decide +kernel
theorem own_ef1 (m : MethodId) (x0 : Int32) : entryFrame m #[(.int x0)] 2 = mkF m 0 #[.val (.int x0), .unset] [] := by first | (simp [entryFrame, mkF, argsToLocals, Value.category]; done) | rfl
def own_draw (i0 : Int32) : Int32 :=
  if (i0 &&& (3 : Int32)) = (0 : Int32) then
    (13 : Int32)
  else
    if (i0 &&& (3 : Int32)) = (1 : Int32) then
      (10 : Int32)
    else
      (((i0 >>> ((2 : Int32) &&& 31)).toInt8.toInt32).toInt8.toInt32)
def own_Q1 (Z : State) (i0 : Int32) (h0 : Heap) (n0 : Nat) (v : Option Value) (h : Heap) (L : List Loc) : Prop := v = some (.int (own_draw i0)) ∧ Fr n0 L ∧ h = h0
set_option maxRecDepth 65536 in
set_option maxHeartbeats 40000000 in
theorem own_rm1 (l : Launch) (Z : State) (a0 : Array Value) (hw : ∀ d ∈ tables_1, d.before a0 Z = true) (ws : List Jvm.Cond) (i0 : Int32) (h0 : Heap) (n0 : Nat) (Z0 : n0 ≤ h0.size) :
    MetFree l (⟨"traceward/schema/LineBreaksTakePinLaw", "draw", "(I)B"⟩ : MethodName) (head1 (Jvm.Cond.code (⟨"traceward/schema/LineBreaksTakePinLaw", "draw", "(I)B"⟩ : MethodName) method_2_code 2 (some .byte) :: ws) ({ frames := 0, cells := 0, slots := 0, locals := 0 } : Room)) (fun a U => a = #[(.int i0)] ∧ Z.Warmed39 U.vm ∧ U.heap = h0) (fun _ _ _ _ _ => True) (fun _ U o U' => ∃ v L, o = .returned v ∧ own_Q1 Z i0 h0 n0 v U'.heap L ∧ FrameEnd U o U' L ({ frames := 0, cells := 0, slots := 0, locals := 0 } : Room).cells ({ frames := 0, cells := 0, slots := 0, locals := 0 } : Room).slots) := by
  refine MetFree.of_bodySF (plainFor_of_name own_pn0) hisR ?_
  intro p e s m args below meth c s₁ Bd hml0 hP hK
  obtain ⟨rfl, hZ, hh⟩ := hP
  have hx := Bd.exec
  have hby := Bd.bytes
  have hret := Bd.returns
  have hlk := BodyLoose.notSynchronized Bd
  have hml : c.maxLocals = 2 := hml0
  have hown : s.vm.findClass "traceward/schema/LineBreaksTakePinLaw" = some m.cls := findClass_of_methodNamed Bd.named
  have hnm := (name_of_methodNamed Bd.named Bd.method).1
  have X0 : Stand p l e ({ frames := 0, cells := 0, slots := 0, locals := 0 } : Room) s m #[(.int i0)] below meth c s₁ [] 0 0 := Stand.of_body Bd
  have e0 : s₁.heap = h0 := by rw [← hh, Bd.state]; rfl
  have N0 := Fr.nil n0
  have K0 : Keep h0 h0 [] := Keep.refl h0 _
  show ownE p e below s (own_Q1 Z i0 h0 n0) ({ frames := 0, cells := 0, slots := 0, locals := 0 } : Room).cells ({ frames := 0, cells := 0, slots := 0, locals := 0 } : Room).slots s₁ (entryFrame m #[(.int i0)] 2)
  rw [own_ef1]
  refine ownE.go (T' := s₁) (f' := (mkF m 5 #[.val (.int i0), .val (.int (i0 &&& (3 : Int32)))] [(.int (i0 &&& (3 : Int32)))])) (fun t kt => ?_) ?_
  · show Steps p.tables e below (s₁.setTop (mkF m 0 #[.val (.int i0), .unset] [])) _
    refine XS.iloadN X0.here hx rfl (hb hby own_d1_0) rfl ?_
    show Steps p.tables e below (s₁.setTop (mkF m 1 #[.val (.int i0), .unset] [(.int i0)])) _
    refine XS.iconst X0.here hx rfl (hb hby own_d1_1) ?_
    show Steps p.tables e below (s₁.setTop (mkF m 2 #[.val (.int i0), .unset] [(.int (3 : Int32)), (.int i0)])) _
    refine XS.iand X0.here hx rfl (hb hby own_d1_2) rfl ?_
    show Steps p.tables e below (s₁.setTop (mkF m 3 #[.val (.int i0), .unset] [(.int (i0 &&& (3 : Int32)))])) _
    refine XS.istoreN X0.here hx rfl (hb hby own_d1_3) rfl (l' := #[.val (.int i0), .val (.int (i0 &&& (3 : Int32)))]) rfl ?_
    show Steps p.tables e below (s₁.setTop (mkF m 4 #[.val (.int i0), .val (.int (i0 &&& (3 : Int32)))] [])) _
    refine XS.iloadN X0.here hx rfl (hb hby own_d1_4) rfl ?_
    exact kt
  by_cases hc1 : (i0 &&& (3 : Int32)) = (0 : Int32)
  · -- pc 5
    refine ownE.go (T' := s₁) (f' := (mkF m 8 #[.val (.int i0), .val (.int (i0 &&& (3 : Int32)))] [])) (fun t kt => XS.ifNo (g := (mkF m 5 #[.val (.int i0), .val (.int (i0 &&& (3 : Int32)))] [(.int (i0 &&& (3 : Int32)))])) X0.here hx rfl (hb hby own_d1_5) rfl (Jvm.Free.XT.i0_ne_f hc1) kt) ?_
    refine ownE.go (T' := s₁) (f' := (mkF m 10 #[.val (.int i0), .val (.int (i0 &&& (3 : Int32)))] [(.int (13 : Int32))])) (fun t kt => ?_) ?_
    · show Steps p.tables e below (s₁.setTop (mkF m 8 #[.val (.int i0), .val (.int (i0 &&& (3 : Int32)))] [])) _
      refine XS.bipush X0.here hx rfl (hb hby own_d1_8) ?_
      exact kt
    refine ownE.retN X0 hx hlk (t := .byte) hret (by simp) (hb hby own_d1_10) ?_ (by decide) (by decide)
    show own_Q1 Z i0 h0 n0 _ s₁.heap _
    rw [e0]
    exact ⟨(by rw [own_draw, if_pos hc1] <;> first | rfl | decide), N0, rfl⟩
  · -- pc 5
    refine ownE.go (T' := s₁) (f' := (mkF m 11 #[.val (.int i0), .val (.int (i0 &&& (3 : Int32)))] [])) (fun t kt => XS.ifYes (g := (mkF m 5 #[.val (.int i0), .val (.int (i0 &&& (3 : Int32)))] [(.int (i0 &&& (3 : Int32)))])) X0.here hx rfl (pc0 := 5) (pc' := 11) rfl (hb hby own_d1_5) rfl (Jvm.Free.XT.i0_ne_t hc1) (by decide) (by decide) kt) ?_
    refine ownE.go (T' := s₁) (f' := (mkF m 13 #[.val (.int i0), .val (.int (i0 &&& (3 : Int32)))] [(.int (1 : Int32)), (.int (i0 &&& (3 : Int32)))])) (fun t kt => ?_) ?_
    · show Steps p.tables e below (s₁.setTop (mkF m 11 #[.val (.int i0), .val (.int (i0 &&& (3 : Int32)))] [])) _
      refine XS.iloadN X0.here hx rfl (hb hby own_d1_11) rfl ?_
      show Steps p.tables e below (s₁.setTop (mkF m 12 #[.val (.int i0), .val (.int (i0 &&& (3 : Int32)))] [(.int (i0 &&& (3 : Int32)))])) _
      refine XS.iconst X0.here hx rfl (hb hby own_d1_12) ?_
      exact kt
    by_cases hc2 : (i0 &&& (3 : Int32)) = (1 : Int32)
    · -- pc 13
      refine ownE.go (T' := s₁) (f' := (mkF m 16 #[.val (.int i0), .val (.int (i0 &&& (3 : Int32)))] [])) (fun t kt => XS.icmpNo (g := (mkF m 13 #[.val (.int i0), .val (.int (i0 &&& (3 : Int32)))] [(.int (1 : Int32)), (.int (i0 &&& (3 : Int32)))])) X0.here hx rfl (hb hby own_d1_13) rfl (Jvm.Free.XT.ii_ne_f hc2) kt) ?_
      refine ownE.go (T' := s₁) (f' := (mkF m 18 #[.val (.int i0), .val (.int (i0 &&& (3 : Int32)))] [(.int (10 : Int32))])) (fun t kt => ?_) ?_
      · show Steps p.tables e below (s₁.setTop (mkF m 16 #[.val (.int i0), .val (.int (i0 &&& (3 : Int32)))] [])) _
        refine XS.bipush X0.here hx rfl (hb hby own_d1_16) ?_
        exact kt
      refine ownE.retN X0 hx hlk (t := .byte) hret (by simp) (hb hby own_d1_18) ?_ (by decide) (by decide)
      show own_Q1 Z i0 h0 n0 _ s₁.heap _
      rw [e0]
      exact ⟨(by rw [own_draw, if_neg hc1, if_pos hc2] <;> first | rfl | decide), N0, rfl⟩
    · -- pc 13
      refine ownE.go (T' := s₁) (f' := (mkF m 19 #[.val (.int i0), .val (.int (i0 &&& (3 : Int32)))] [])) (fun t kt => XS.icmpYes (g := (mkF m 13 #[.val (.int i0), .val (.int (i0 &&& (3 : Int32)))] [(.int (1 : Int32)), (.int (i0 &&& (3 : Int32)))])) X0.here hx rfl (pc0 := 13) (pc' := 19) rfl (hb hby own_d1_13) rfl (Jvm.Free.XT.ii_ne_t hc2) (by decide) (by decide) kt) ?_
      refine ownE.go (T' := s₁) (f' := (mkF m 23 #[.val (.int i0), .val (.int (i0 &&& (3 : Int32)))] [(.int ((i0 >>> ((2 : Int32) &&& 31)).toInt8.toInt32))])) (fun t kt => ?_) ?_
      · show Steps p.tables e below (s₁.setTop (mkF m 19 #[.val (.int i0), .val (.int (i0 &&& (3 : Int32)))] [])) _
        refine XS.iloadN X0.here hx rfl (hb hby own_d1_19) rfl ?_
        show Steps p.tables e below (s₁.setTop (mkF m 20 #[.val (.int i0), .val (.int (i0 &&& (3 : Int32)))] [(.int i0)])) _
        refine XS.iconst X0.here hx rfl (hb hby own_d1_20) ?_
        show Steps p.tables e below (s₁.setTop (mkF m 21 #[.val (.int i0), .val (.int (i0 &&& (3 : Int32)))] [(.int (2 : Int32)), (.int i0)])) _
        refine XS.ishr X0.here hx rfl (hb hby own_d1_21) rfl ?_
        show Steps p.tables e below (s₁.setTop (mkF m 22 #[.val (.int i0), .val (.int (i0 &&& (3 : Int32)))] [(.int (i0 >>> ((2 : Int32) &&& 31)))])) _
        refine XS.i2b X0.here hx rfl (hb hby own_d1_22) rfl ?_
        exact kt
      refine ownE.retN X0 hx hlk (t := .byte) hret (by simp) (hb hby own_d1_23) ?_ (by decide) (by decide)
      show own_Q1 Z i0 h0 n0 _ s₁.heap _
      rw [e0]
      exact ⟨(by rw [own_draw, if_neg hc1, if_neg hc2] <;> first | rfl | decide), N0, rfl⟩
theorem own_d2_0 : decode prog_84_method_1_code 0 = .ok (.aload_n 0, 1) := by decide +kernel
theorem own_d2_1 : decode prog_84_method_1_code 1 = .ok (.invokespecial 1, 3) := by decide +kernel
theorem own_d2_4 : decode prog_84_method_1_code 4 = .ok (.return_, 1) := by decide +kernel
theorem own_pn1 : plainName "traceward/schema/LineBreaks" = true := by first | (simp [plainName, overriddenIn]; done) | decide +kernel
theorem own_ef2 (m : MethodId) (x0 : Addr) : entryFrame m #[(.ref x0)] 1 = mkF m 0 #[.val (.ref x0)] [] := by first | (simp [entryFrame, mkF, argsToLocals, Value.category]; done) | rfl
def own_Q2 (Z : State) (r0 : Addr) (h0 : Heap) (n0 : Nat) (v : Option Value) (h : Heap) (L : List Loc) : Prop := v = none ∧ Fr n0 L ∧ h = h0
set_option maxRecDepth 65536 in
set_option maxHeartbeats 40000000 in
theorem own_rm2 (l : Launch) (Z : State) (a0 : Array Value) (hw : ∀ d ∈ tables_1, d.before a0 Z = true) (ws : List Jvm.Cond) (r0 : Addr) (h0 : Heap) (n0 : Nat) (Z0 : n0 ≤ h0.size) :
    MetFree l (⟨"traceward/schema/LineBreaks", "<init>", "()V"⟩ : MethodName) (head1 (Jvm.Cond.code (⟨"traceward/schema/LineBreaks", "<init>", "()V"⟩ : MethodName) prog_84_method_1_code 1 none :: ws) ({ frames := 1, cells := 0, slots := 0, locals := 12 } : Room)) (fun a U => a = #[(.ref r0)] ∧ Z.Warmed39 U.vm ∧ U.heap = h0) (fun _ _ _ _ _ => True) (fun _ U o U' => ∃ v L, o = .returned v ∧ own_Q2 Z r0 h0 n0 v U'.heap L ∧ FrameEnd U o U' L ({ frames := 1, cells := 0, slots := 0, locals := 12 } : Room).cells ({ frames := 1, cells := 0, slots := 0, locals := 12 } : Room).slots) := by
  refine MetFree.of_bodySF (plainFor_of_name own_pn1) hisR ?_
  intro p e s m args below meth c s₁ Bd hml0 hP hK
  obtain ⟨rfl, hZ, hh⟩ := hP
  have hx := Bd.exec
  have hby := Bd.bytes
  have hret := Bd.returns
  have hlk := BodyLoose.notSynchronized Bd
  have hml : c.maxLocals = 1 := hml0
  have hown : s.vm.findClass "traceward/schema/LineBreaks" = some m.cls := findClass_of_methodNamed Bd.named
  have hnm := (name_of_methodNamed Bd.named Bd.method).1
  have X0 : Stand p l e ({ frames := 1, cells := 0, slots := 0, locals := 12 } : Room) s m #[(.ref r0)] below meth c s₁ [] 0 0 := Stand.of_body Bd
  have e0 : s₁.heap = h0 := by rw [← hh, Bd.state]; rfl
  have N0 := Fr.nil n0
  have K0 : Keep h0 h0 [] := Keep.refl h0 _
  show ownE p e below s (own_Q2 Z r0 h0 n0) ({ frames := 1, cells := 0, slots := 0, locals := 12 } : Room).cells ({ frames := 1, cells := 0, slots := 0, locals := 12 } : Room).slots s₁ (entryFrame m #[(.ref r0)] 1)
  rw [own_ef2]
  refine ownE.go (T' := s₁) (f' := (mkF m 1 #[.val (.ref r0)] [(.ref r0)])) (fun t kt => ?_) ?_
  · show Steps p.tables e below (s₁.setTop (mkF m 0 #[.val (.ref r0)] [])) _
    refine XS.aloadN X0.here hx rfl (hb hby own_d2_0) rfl rfl ?_
    exact kt
  obtain ⟨T1, X1, e1, st1⟩ := initO X0 hx hZ hown (hw _ (List.mem_of_getElem? (i := 11) rfl)) (hw _ (List.mem_of_getElem? (i := 12) rfl)) (hw _ (List.mem_of_getElem? (i := 13) rfl)) e0 (g := (mkF m 1 #[.val (.ref r0)] [(.ref r0)])) rfl (by rw [hml]; rfl) rfl (hb hby own_d2_1) (by decide) (W := 0) (by show 2 * 0 + _ ≤ _; exact Nat.le_of_eq rfl) (by decide)
  refine ownE.go (T' := T1) (f' := (mkF m 4 #[.val (.ref r0)] [])) st1 ?_
  refine ownE.retV X1 hx hlk hret (hb hby own_d2_4) ?_ (by decide) (by decide)
  show own_Q2 Z r0 h0 n0 _ T1.heap _
  rw [e1]
  exact ⟨rfl, N0, rfl⟩
theorem own_d5_0 : decode prog_84_method_2_code 0 = .ok (.iload_n 0, 1) := by decide +kernel
theorem own_d5_1 : decode prog_84_method_2_code 1 = .ok (.bipush 10, 2) := by decide +kernel
theorem own_d5_3 : decode prog_84_method_2_code 3 = .ok (.if_icmp .eq 27, 3) := by decide +kernel
theorem own_d5_6 : decode prog_84_method_2_code 6 = .ok (.iload_n 0, 1) := by decide +kernel
theorem own_d5_7 : decode prog_84_method_2_code 7 = .ok (.bipush 13, 2) := by decide +kernel
theorem own_d5_9 : decode prog_84_method_2_code 9 = .ok (.if_icmp .eq 21, 3) := by decide +kernel
theorem own_d5_12 : decode prog_84_method_2_code 12 = .ok (.iload_n 1, 1) := by decide +kernel
theorem own_d5_13 : decode prog_84_method_2_code 13 = .ok (.ifCond .eq 21, 3) := by decide +kernel
theorem own_d5_16 : decode prog_84_method_2_code 16 = .ok (.iload_n 0, 1) := by decide +kernel
theorem own_d5_17 : decode prog_84_method_2_code 17 = .ok (.sipush 133, 3) := by decide +kernel
theorem own_d5_20 : decode prog_84_method_2_code 20 = .ok (.if_icmp .eq 10, 3) := by decide +kernel
theorem own_d5_23 : decode prog_84_method_2_code 23 = .ok (.iload_n 0, 1) := by decide +kernel
theorem own_d5_24 : decode prog_84_method_2_code 24 = .ok (.sipush 8232, 3) := by decide +kernel
theorem own_d5_27 : decode prog_84_method_2_code 27 = .ok (.if_icmp .ne 7, 3) := by decide +kernel
theorem own_d5_30 : decode prog_84_method_2_code 30 = .ok (.iconst 1, 1) := by decide +kernel
theorem own_d5_31 : decode prog_84_method_2_code 31 = .ok (.goto 4, 3) := by decide +kernel
theorem own_d5_34 : decode prog_84_method_2_code 34 = .ok (.iconst 0, 1) := by decide +kernel
theorem own_d5_35 : decode prog_84_method_2_code 35 = .ok (.ireturn, 1) := by decide +kernel
theorem own_ef5 (m : MethodId) (x0 : Int32) (x1 : Int32) : entryFrame m #[(.int x0), (.int x1)] 2 = mkF m 0 #[.val (.int x0), .val (.int x1)] [] := by first | (simp [entryFrame, mkF, argsToLocals, Value.category]; done) | rfl
def own_bl (i0 : Int32) (i1 : Int32) : Int32 :=
  if i0 = (10 : Int32) then
    (1 : Int32)
  else
    if i0 = (13 : Int32) then
      (1 : Int32)
    else
      if i1 = (0 : Int32) then
        (0 : Int32)
      else
        if i0 = (133 : Int32) then
          (1 : Int32)
        else
          if i0 = (8232 : Int32) then
            (1 : Int32)
          else
            (0 : Int32)
def own_Q5 (Z : State) (i0 : Int32) (i1 : Int32) (h0 : Heap) (n0 : Nat) (v : Option Value) (h : Heap) (L : List Loc) : Prop := v = some (.int (own_bl i0 i1)) ∧ Fr n0 L ∧ h = h0
set_option maxRecDepth 65536 in
set_option maxHeartbeats 40000000 in
theorem own_rm5 (l : Launch) (Z : State) (a0 : Array Value) (hw : ∀ d ∈ tables_1, d.before a0 Z = true) (ws : List Jvm.Cond) (i0 : Int32) (i1 : Int32) (h0 : Heap) (n0 : Nat) (Z0 : n0 ≤ h0.size) :
    MetFree l (⟨"traceward/schema/LineBreaks", "breaksLine", "(IZ)Z"⟩ : MethodName) (head1 (Jvm.Cond.code (⟨"traceward/schema/LineBreaks", "breaksLine", "(IZ)Z"⟩ : MethodName) prog_84_method_2_code 2 (some .boolean) :: ws) ({ frames := 0, cells := 0, slots := 0, locals := 0 } : Room)) (fun a U => a = #[(.int i0), (.int i1)] ∧ Z.Warmed39 U.vm ∧ U.heap = h0) (fun _ _ _ _ _ => True) (fun _ U o U' => ∃ v L, o = .returned v ∧ own_Q5 Z i0 i1 h0 n0 v U'.heap L ∧ FrameEnd U o U' L ({ frames := 0, cells := 0, slots := 0, locals := 0 } : Room).cells ({ frames := 0, cells := 0, slots := 0, locals := 0 } : Room).slots) := by
  refine MetFree.of_bodySF (plainFor_of_name own_pn1) hisR ?_
  intro p e s m args below meth c s₁ Bd hml0 hP hK
  obtain ⟨rfl, hZ, hh⟩ := hP
  have hx := Bd.exec
  have hby := Bd.bytes
  have hret := Bd.returns
  have hlk := BodyLoose.notSynchronized Bd
  have hml : c.maxLocals = 2 := hml0
  have hown : s.vm.findClass "traceward/schema/LineBreaks" = some m.cls := findClass_of_methodNamed Bd.named
  have hnm := (name_of_methodNamed Bd.named Bd.method).1
  have X0 : Stand p l e ({ frames := 0, cells := 0, slots := 0, locals := 0 } : Room) s m #[(.int i0), (.int i1)] below meth c s₁ [] 0 0 := Stand.of_body Bd
  have e0 : s₁.heap = h0 := by rw [← hh, Bd.state]; rfl
  have N0 := Fr.nil n0
  have K0 : Keep h0 h0 [] := Keep.refl h0 _
  show ownE p e below s (own_Q5 Z i0 i1 h0 n0) ({ frames := 0, cells := 0, slots := 0, locals := 0 } : Room).cells ({ frames := 0, cells := 0, slots := 0, locals := 0 } : Room).slots s₁ (entryFrame m #[(.int i0), (.int i1)] 2)
  rw [own_ef5]
  refine ownE.go (T' := s₁) (f' := (mkF m 3 #[.val (.int i0), .val (.int i1)] [(.int (10 : Int32)), (.int i0)])) (fun t kt => ?_) ?_
  · show Steps p.tables e below (s₁.setTop (mkF m 0 #[.val (.int i0), .val (.int i1)] [])) _
    refine XS.iloadN X0.here hx rfl (hb hby own_d5_0) rfl ?_
    show Steps p.tables e below (s₁.setTop (mkF m 1 #[.val (.int i0), .val (.int i1)] [(.int i0)])) _
    refine XS.bipush X0.here hx rfl (hb hby own_d5_1) ?_
    exact kt
  by_cases hc1 : i0 = (10 : Int32)
  · -- pc 3
    refine ownE.go (T' := s₁) (f' := (mkF m 30 #[.val (.int i0), .val (.int i1)] [])) (fun t kt => XS.icmpYes (g := (mkF m 3 #[.val (.int i0), .val (.int i1)] [(.int (10 : Int32)), (.int i0)])) X0.here hx rfl (pc0 := 3) (pc' := 30) rfl (hb hby own_d5_3) rfl (Jvm.Free.XT.ii_eq_t hc1) (by decide) (by decide) kt) ?_
    refine ownE.go (T' := s₁) (f' := (mkF m 35 #[.val (.int i0), .val (.int i1)] [(.int (1 : Int32))])) (fun t kt => ?_) ?_
    · show Steps p.tables e below (s₁.setTop (mkF m 30 #[.val (.int i0), .val (.int i1)] [])) _
      refine XS.iconst X0.here hx rfl (hb hby own_d5_30) ?_
      show Steps p.tables e below (s₁.setTop (mkF m 31 #[.val (.int i0), .val (.int i1)] [(.int (1 : Int32))])) _
      refine XS.goto X0.here hx rfl (pc0 := 31) (pc' := 35) rfl (hb hby own_d5_31) (by decide) (by decide) ?_
      exact kt
    refine ownE.retN X0 hx hlk (t := .boolean) hret (by simp) (hb hby own_d5_35) ?_ (by decide) (by decide)
    show own_Q5 Z i0 i1 h0 n0 _ s₁.heap _
    rw [e0]
    exact ⟨(by rw [own_bl, if_pos hc1] <;> first | rfl | decide), N0, rfl⟩
  · -- pc 3
    refine ownE.go (T' := s₁) (f' := (mkF m 6 #[.val (.int i0), .val (.int i1)] [])) (fun t kt => XS.icmpNo (g := (mkF m 3 #[.val (.int i0), .val (.int i1)] [(.int (10 : Int32)), (.int i0)])) X0.here hx rfl (hb hby own_d5_3) rfl (Jvm.Free.XT.ii_eq_f hc1) kt) ?_
    refine ownE.go (T' := s₁) (f' := (mkF m 9 #[.val (.int i0), .val (.int i1)] [(.int (13 : Int32)), (.int i0)])) (fun t kt => ?_) ?_
    · show Steps p.tables e below (s₁.setTop (mkF m 6 #[.val (.int i0), .val (.int i1)] [])) _
      refine XS.iloadN X0.here hx rfl (hb hby own_d5_6) rfl ?_
      show Steps p.tables e below (s₁.setTop (mkF m 7 #[.val (.int i0), .val (.int i1)] [(.int i0)])) _
      refine XS.bipush X0.here hx rfl (hb hby own_d5_7) ?_
      exact kt
    by_cases hc2 : i0 = (13 : Int32)
    · -- pc 9
      refine ownE.go (T' := s₁) (f' := (mkF m 30 #[.val (.int i0), .val (.int i1)] [])) (fun t kt => XS.icmpYes (g := (mkF m 9 #[.val (.int i0), .val (.int i1)] [(.int (13 : Int32)), (.int i0)])) X0.here hx rfl (pc0 := 9) (pc' := 30) rfl (hb hby own_d5_9) rfl (Jvm.Free.XT.ii_eq_t hc2) (by decide) (by decide) kt) ?_
      refine ownE.go (T' := s₁) (f' := (mkF m 35 #[.val (.int i0), .val (.int i1)] [(.int (1 : Int32))])) (fun t kt => ?_) ?_
      · show Steps p.tables e below (s₁.setTop (mkF m 30 #[.val (.int i0), .val (.int i1)] [])) _
        refine XS.iconst X0.here hx rfl (hb hby own_d5_30) ?_
        show Steps p.tables e below (s₁.setTop (mkF m 31 #[.val (.int i0), .val (.int i1)] [(.int (1 : Int32))])) _
        refine XS.goto X0.here hx rfl (pc0 := 31) (pc' := 35) rfl (hb hby own_d5_31) (by decide) (by decide) ?_
        exact kt
      refine ownE.retN X0 hx hlk (t := .boolean) hret (by simp) (hb hby own_d5_35) ?_ (by decide) (by decide)
      show own_Q5 Z i0 i1 h0 n0 _ s₁.heap _
      rw [e0]
      exact ⟨(by rw [own_bl, if_neg hc1, if_pos hc2] <;> first | rfl | decide), N0, rfl⟩
    · -- pc 9
      refine ownE.go (T' := s₁) (f' := (mkF m 12 #[.val (.int i0), .val (.int i1)] [])) (fun t kt => XS.icmpNo (g := (mkF m 9 #[.val (.int i0), .val (.int i1)] [(.int (13 : Int32)), (.int i0)])) X0.here hx rfl (hb hby own_d5_9) rfl (Jvm.Free.XT.ii_eq_f hc2) kt) ?_
      refine ownE.go (T' := s₁) (f' := (mkF m 13 #[.val (.int i0), .val (.int i1)] [(.int i1)])) (fun t kt => ?_) ?_
      · show Steps p.tables e below (s₁.setTop (mkF m 12 #[.val (.int i0), .val (.int i1)] [])) _
        refine XS.iloadN X0.here hx rfl (hb hby own_d5_12) rfl ?_
        exact kt
      by_cases hc3 : i1 = (0 : Int32)
      · -- pc 13
        refine ownE.go (T' := s₁) (f' := (mkF m 34 #[.val (.int i0), .val (.int i1)] [])) (fun t kt => XS.ifYes (g := (mkF m 13 #[.val (.int i0), .val (.int i1)] [(.int i1)])) X0.here hx rfl (pc0 := 13) (pc' := 34) rfl (hb hby own_d5_13) rfl (Jvm.Free.XT.i0_eq_t hc3) (by decide) (by decide) kt) ?_
        refine ownE.go (T' := s₁) (f' := (mkF m 35 #[.val (.int i0), .val (.int i1)] [(.int (0 : Int32))])) (fun t kt => ?_) ?_
        · show Steps p.tables e below (s₁.setTop (mkF m 34 #[.val (.int i0), .val (.int i1)] [])) _
          refine XS.iconst X0.here hx rfl (hb hby own_d5_34) ?_
          exact kt
        refine ownE.retN X0 hx hlk (t := .boolean) hret (by simp) (hb hby own_d5_35) ?_ (by decide) (by decide)
        show own_Q5 Z i0 i1 h0 n0 _ s₁.heap _
        rw [e0]
        exact ⟨(by rw [own_bl, if_neg hc1, if_neg hc2, if_pos hc3] <;> first | rfl | decide), N0, rfl⟩
      · -- pc 13
        refine ownE.go (T' := s₁) (f' := (mkF m 16 #[.val (.int i0), .val (.int i1)] [])) (fun t kt => XS.ifNo (g := (mkF m 13 #[.val (.int i0), .val (.int i1)] [(.int i1)])) X0.here hx rfl (hb hby own_d5_13) rfl (Jvm.Free.XT.i0_eq_f hc3) kt) ?_
        refine ownE.go (T' := s₁) (f' := (mkF m 20 #[.val (.int i0), .val (.int i1)] [(.int (133 : Int32)), (.int i0)])) (fun t kt => ?_) ?_
        · show Steps p.tables e below (s₁.setTop (mkF m 16 #[.val (.int i0), .val (.int i1)] [])) _
          refine XS.iloadN X0.here hx rfl (hb hby own_d5_16) rfl ?_
          show Steps p.tables e below (s₁.setTop (mkF m 17 #[.val (.int i0), .val (.int i1)] [(.int i0)])) _
          refine XS.sipush X0.here hx rfl (hb hby own_d5_17) ?_
          exact kt
        by_cases hc4 : i0 = (133 : Int32)
        · -- pc 20
          refine ownE.go (T' := s₁) (f' := (mkF m 30 #[.val (.int i0), .val (.int i1)] [])) (fun t kt => XS.icmpYes (g := (mkF m 20 #[.val (.int i0), .val (.int i1)] [(.int (133 : Int32)), (.int i0)])) X0.here hx rfl (pc0 := 20) (pc' := 30) rfl (hb hby own_d5_20) rfl (Jvm.Free.XT.ii_eq_t hc4) (by decide) (by decide) kt) ?_
          refine ownE.go (T' := s₁) (f' := (mkF m 35 #[.val (.int i0), .val (.int i1)] [(.int (1 : Int32))])) (fun t kt => ?_) ?_
          · show Steps p.tables e below (s₁.setTop (mkF m 30 #[.val (.int i0), .val (.int i1)] [])) _
            refine XS.iconst X0.here hx rfl (hb hby own_d5_30) ?_
            show Steps p.tables e below (s₁.setTop (mkF m 31 #[.val (.int i0), .val (.int i1)] [(.int (1 : Int32))])) _
            refine XS.goto X0.here hx rfl (pc0 := 31) (pc' := 35) rfl (hb hby own_d5_31) (by decide) (by decide) ?_
            exact kt
          refine ownE.retN X0 hx hlk (t := .boolean) hret (by simp) (hb hby own_d5_35) ?_ (by decide) (by decide)
          show own_Q5 Z i0 i1 h0 n0 _ s₁.heap _
          rw [e0]
          exact ⟨(by rw [own_bl, if_neg hc1, if_neg hc2, if_neg hc3, if_pos hc4] <;> first | rfl | decide), N0, rfl⟩
        · -- pc 20
          refine ownE.go (T' := s₁) (f' := (mkF m 23 #[.val (.int i0), .val (.int i1)] [])) (fun t kt => XS.icmpNo (g := (mkF m 20 #[.val (.int i0), .val (.int i1)] [(.int (133 : Int32)), (.int i0)])) X0.here hx rfl (hb hby own_d5_20) rfl (Jvm.Free.XT.ii_eq_f hc4) kt) ?_
          refine ownE.go (T' := s₁) (f' := (mkF m 27 #[.val (.int i0), .val (.int i1)] [(.int (8232 : Int32)), (.int i0)])) (fun t kt => ?_) ?_
          · show Steps p.tables e below (s₁.setTop (mkF m 23 #[.val (.int i0), .val (.int i1)] [])) _
            refine XS.iloadN X0.here hx rfl (hb hby own_d5_23) rfl ?_
            show Steps p.tables e below (s₁.setTop (mkF m 24 #[.val (.int i0), .val (.int i1)] [(.int i0)])) _
            refine XS.sipush X0.here hx rfl (hb hby own_d5_24) ?_
            exact kt
          by_cases hc5 : i0 = (8232 : Int32)
          · -- pc 27
            refine ownE.go (T' := s₁) (f' := (mkF m 30 #[.val (.int i0), .val (.int i1)] [])) (fun t kt => XS.icmpNo (g := (mkF m 27 #[.val (.int i0), .val (.int i1)] [(.int (8232 : Int32)), (.int i0)])) X0.here hx rfl (hb hby own_d5_27) rfl (Jvm.Free.XT.ii_ne_f hc5) kt) ?_
            refine ownE.go (T' := s₁) (f' := (mkF m 35 #[.val (.int i0), .val (.int i1)] [(.int (1 : Int32))])) (fun t kt => ?_) ?_
            · show Steps p.tables e below (s₁.setTop (mkF m 30 #[.val (.int i0), .val (.int i1)] [])) _
              refine XS.iconst X0.here hx rfl (hb hby own_d5_30) ?_
              show Steps p.tables e below (s₁.setTop (mkF m 31 #[.val (.int i0), .val (.int i1)] [(.int (1 : Int32))])) _
              refine XS.goto X0.here hx rfl (pc0 := 31) (pc' := 35) rfl (hb hby own_d5_31) (by decide) (by decide) ?_
              exact kt
            refine ownE.retN X0 hx hlk (t := .boolean) hret (by simp) (hb hby own_d5_35) ?_ (by decide) (by decide)
            show own_Q5 Z i0 i1 h0 n0 _ s₁.heap _
            rw [e0]
            exact ⟨(by rw [own_bl, if_neg hc1, if_neg hc2, if_neg hc3, if_neg hc4, if_pos hc5] <;> first | rfl | decide), N0, rfl⟩
          · -- pc 27
            refine ownE.go (T' := s₁) (f' := (mkF m 34 #[.val (.int i0), .val (.int i1)] [])) (fun t kt => XS.icmpYes (g := (mkF m 27 #[.val (.int i0), .val (.int i1)] [(.int (8232 : Int32)), (.int i0)])) X0.here hx rfl (pc0 := 27) (pc' := 34) rfl (hb hby own_d5_27) rfl (Jvm.Free.XT.ii_ne_t hc5) (by decide) (by decide) kt) ?_
            refine ownE.go (T' := s₁) (f' := (mkF m 35 #[.val (.int i0), .val (.int i1)] [(.int (0 : Int32))])) (fun t kt => ?_) ?_
            · show Steps p.tables e below (s₁.setTop (mkF m 34 #[.val (.int i0), .val (.int i1)] [])) _
              refine XS.iconst X0.here hx rfl (hb hby own_d5_34) ?_
              exact kt
            refine ownE.retN X0 hx hlk (t := .boolean) hret (by simp) (hb hby own_d5_35) ?_ (by decide) (by decide)
            show own_Q5 Z i0 i1 h0 n0 _ s₁.heap _
            rw [e0]
            exact ⟨(by rw [own_bl, if_neg hc1, if_neg hc2, if_neg hc3, if_neg hc4, if_neg hc5] <;> first | rfl | decide), N0, rfl⟩
theorem own_d9_0 : decode prog_84_method_4_code 0 = .ok (.aload_n 0, 1) := by decide +kernel
theorem own_d9_1 : decode prog_84_method_4_code 1 = .ok (.iconst 1, 1) := by decide +kernel
theorem own_d9_2 : decode prog_84_method_4_code 2 = .ok (.putfield 13, 3) := by decide +kernel
theorem own_d9_5 : decode prog_84_method_4_code 5 = .ok (.return_, 1) := by decide +kernel
theorem own_ef9 (m : MethodId) (x0 : Addr) : entryFrame m #[(.ref x0)] 1 = mkF m 0 #[.val (.ref x0)] [] := by first | (simp [entryFrame, mkF, argsToLocals, Value.category]; done) | rfl
def own_Q9 (Z : State) (r0 : Addr) (cn : Int32) (ac : Int32) (xm : Int32) (h0 : Heap) (n0 : Nat) (v : Option Value) (h : Heap) (L : List Loc) : Prop := v = none ∧ Fr n0 L ∧ Keep h0 h [r0] ∧ Exa Z h r0 "traceward/schema/LineBreaks" ∧ Fld Z h r0 "traceward/schema/LineBreaks" "count" "I" (.int cn) ∧ Fld Z h r0 "traceward/schema/LineBreaks" "afterCarriageReturn" "Z" (.int ac) ∧ Fld Z h r0 "traceward/schema/LineBreaks" "xml11" "Z" (.int (1 : Int32))
set_option maxRecDepth 65536 in
set_option maxHeartbeats 40000000 in
theorem own_rm9 (l : Launch) (Z : State) (a0 : Array Value) (hw : ∀ d ∈ tables_1, d.before a0 Z = true) (ws : List Jvm.Cond) (r0 : Addr) (cn : Int32) (ac : Int32) (xm : Int32) (h0 : Heap) (n0 : Nat) (Z0 : n0 ≤ h0.size) (P0 : Fld Z h0 r0 "traceward/schema/LineBreaks" "count" "I" (.int cn)) (P1 : Fld Z h0 r0 "traceward/schema/LineBreaks" "afterCarriageReturn" "Z" (.int ac)) (P2 : Fld Z h0 r0 "traceward/schema/LineBreaks" "xml11" "Z" (.int xm)) (P3 : Exa Z h0 r0 "traceward/schema/LineBreaks") (P4 : n0 ≤ r0) :
    MetFree l (⟨"traceward/schema/LineBreaks", "readAsXml11", "()V"⟩ : MethodName) (head1 (Jvm.Cond.code (⟨"traceward/schema/LineBreaks", "readAsXml11", "()V"⟩ : MethodName) prog_84_method_4_code 1 none :: ws) ({ frames := 0, cells := 0, slots := 0, locals := 0 } : Room)) (fun a U => a = #[(.ref r0)] ∧ Z.Warmed39 U.vm ∧ U.heap = h0) (fun _ _ _ _ _ => True) (fun _ U o U' => ∃ v L, o = .returned v ∧ own_Q9 Z r0 cn ac xm h0 n0 v U'.heap L ∧ FrameEnd U o U' L ({ frames := 0, cells := 0, slots := 0, locals := 0 } : Room).cells ({ frames := 0, cells := 0, slots := 0, locals := 0 } : Room).slots) := by
  refine MetFree.of_bodySF (plainFor_of_name own_pn1) hisR ?_
  intro p e s m args below meth c s₁ Bd hml0 hP hK
  obtain ⟨rfl, hZ, hh⟩ := hP
  have hx := Bd.exec
  have hby := Bd.bytes
  have hret := Bd.returns
  have hlk := BodyLoose.notSynchronized Bd
  have hml : c.maxLocals = 1 := hml0
  have hown : s.vm.findClass "traceward/schema/LineBreaks" = some m.cls := findClass_of_methodNamed Bd.named
  have hnm := (name_of_methodNamed Bd.named Bd.method).1
  have X0 : Stand p l e ({ frames := 0, cells := 0, slots := 0, locals := 0 } : Room) s m #[(.ref r0)] below meth c s₁ [] 0 0 := Stand.of_body Bd
  have e0 : s₁.heap = h0 := by rw [← hh, Bd.state]; rfl
  have N0 := Fr.nil n0
  have K0 : Keep h0 h0 [r0] := Keep.refl h0 _
  show ownE p e below s (own_Q9 Z r0 cn ac xm h0 n0) ({ frames := 0, cells := 0, slots := 0, locals := 0 } : Room).cells ({ frames := 0, cells := 0, slots := 0, locals := 0 } : Room).slots s₁ (entryFrame m #[(.ref r0)] 1)
  rw [own_ef9]
  refine ownE.go (T' := s₁) (f' := (mkF m 2 #[.val (.ref r0)] [(.int (1 : Int32)), (.ref r0)])) (fun t kt => ?_) ?_
  · show Steps p.tables e below (s₁.setTop (mkF m 0 #[.val (.ref r0)] [])) _
    refine XS.aloadN X0.here hx rfl (hb hby own_d9_0) rfl rfl ?_
    show Steps p.tables e below (s₁.setTop (mkF m 1 #[.val (.ref r0)] [(.ref r0)])) _
    refine XS.iconst X0.here hx rfl (hb hby own_d9_1) ?_
    exact kt
  obtain ⟨T1, h1, X1, e1, W1, st1⟩ := putF X0 hx hZ hown (host := "") (Or.inl (hw _ (List.mem_of_getElem? (i := 21) rfl))) Via.refl e0 P2 P3 (Or.inl (hw _ (List.mem_of_getElem? (i := 22) rfl))) (hw _ (List.mem_of_getElem? (i := 6) rfl)) (ty := .boolean) (by decide) rfl rfl (g := (mkF m 2 #[.val (.ref r0)] [(.int (1 : Int32)), (.ref r0)])) rfl rfl (hb hby own_d9_2)
  have Fw1 : Fld Z h1 r0 "traceward/schema/LineBreaks" "xml11" "Z" (.int (1 : Int32)) := P2.same W1
  have cFld_r0_count_1 : Fld Z h1 r0 "traceward/schema/LineBreaks" "count" "I" (.int cn) := P0.other W1 (Or.inr (slot_ne (Or.inl (hw _ (List.mem_of_getElem? (i := 32) rfl))) (Or.inl (hw _ (List.mem_of_getElem? (i := 22) rfl))) (by decide) (t := .int) (t' := .boolean) (by decide) (by decide)))
  have cFld_r0_afterCarriageReturn_1 : Fld Z h1 r0 "traceward/schema/LineBreaks" "afterCarriageReturn" "Z" (.int ac) := P1.other W1 (Or.inr (slot_ne (Or.inl (hw _ (List.mem_of_getElem? (i := 20) rfl))) (Or.inl (hw _ (List.mem_of_getElem? (i := 22) rfl))) (by decide) (t := .boolean) (t' := .boolean) (by decide) (by decide)))
  have cExa_r0_1 : Exa Z h1 r0 "traceward/schema/LineBreaks" := P3.wr W1
  have K1 : Keep h0 h1 [r0] := K0.wr W1 (Or.inl (List.mem_of_getElem? (i := 0) rfl))
  have N1 := Fr.snoc X1 N0 P4
  refine ownE.go (T' := T1) (f' := (mkF m 5 #[.val (.ref r0)] [])) st1 ?_
  refine ownE.retV X1 hx hlk hret (hb hby own_d9_5) ?_ (by decide) (by decide)
  show own_Q9 Z r0 cn ac xm h0 n0 _ T1.heap _
  rw [e1]
  exact ⟨rfl, N1, K1, cExa_r0_1, cFld_r0_count_1, cFld_r0_afterCarriageReturn_1, Fw1⟩
def own_j4_32_S0 (i1 : Int32) (cn : Int32) (ac : Int32) (xm : Int32) : Int32 :=
  if ac = (0 : Int32) then
    (0 : Int32)
  else
    if i1 = (10 : Int32) then
      (1 : Int32)
    else
      if xm = (0 : Int32) then
        (0 : Int32)
      else
        if i1 = (133 : Int32) then
          (1 : Int32)
        else
          (0 : Int32)
theorem own_pd2 : parseMethodDescriptor "(IZ)Z" = some ⟨[.int, .boolean], some .boolean⟩ := by decide +kernel
theorem own_d4_0 : decode prog_84_method_7_code 0 = .ok (.aload_n 0, 1) := by decide +kernel
theorem own_d4_1 : decode prog_84_method_7_code 1 = .ok (.getfield 17, 3) := by decide +kernel
theorem own_d4_4 : decode prog_84_method_7_code 4 = .ok (.ifCond .eq 27, 3) := by decide +kernel
theorem own_d4_7 : decode prog_84_method_7_code 7 = .ok (.iload_n 1, 1) := by decide +kernel
theorem own_d4_8 : decode prog_84_method_7_code 8 = .ok (.bipush 10, 2) := by decide +kernel
theorem own_d4_10 : decode prog_84_method_7_code 10 = .ok (.if_icmp .eq 17, 3) := by decide +kernel
theorem own_d4_13 : decode prog_84_method_7_code 13 = .ok (.aload_n 0, 1) := by decide +kernel
theorem own_d4_14 : decode prog_84_method_7_code 14 = .ok (.getfield 13, 3) := by decide +kernel
theorem own_d4_17 : decode prog_84_method_7_code 17 = .ok (.ifCond .eq 14, 3) := by decide +kernel
theorem own_d4_20 : decode prog_84_method_7_code 20 = .ok (.iload_n 1, 1) := by decide +kernel
theorem own_d4_21 : decode prog_84_method_7_code 21 = .ok (.sipush 133, 3) := by decide +kernel
theorem own_d4_24 : decode prog_84_method_7_code 24 = .ok (.if_icmp .ne 7, 3) := by decide +kernel
theorem own_d4_27 : decode prog_84_method_7_code 27 = .ok (.iconst 1, 1) := by decide +kernel
theorem own_d4_28 : decode prog_84_method_7_code 28 = .ok (.goto 4, 3) := by decide +kernel
theorem own_d4_31 : decode prog_84_method_7_code 31 = .ok (.iconst 0, 1) := by decide +kernel
theorem own_d4_32 : decode prog_84_method_7_code 32 = .ok (.istore_n 2, 1) := by decide +kernel
theorem own_d4_33 : decode prog_84_method_7_code 33 = .ok (.iload_n 1, 1) := by decide +kernel
theorem own_d4_34 : decode prog_84_method_7_code 34 = .ok (.aload_n 0, 1) := by decide +kernel
theorem own_d4_35 : decode prog_84_method_7_code 35 = .ok (.getfield 13, 3) := by decide +kernel
theorem own_d4_38 : decode prog_84_method_7_code 38 = .ok (.invokestatic 20, 3) := by decide +kernel
theorem own_d4_41 : decode prog_84_method_7_code 41 = .ok (.ifCond .eq 17, 3) := by decide +kernel
theorem own_d4_44 : decode prog_84_method_7_code 44 = .ok (.iload_n 2, 1) := by decide +kernel
theorem own_d4_45 : decode prog_84_method_7_code 45 = .ok (.ifCond .ne 13, 3) := by decide +kernel
theorem own_d4_48 : decode prog_84_method_7_code 48 = .ok (.aload_n 0, 1) := by decide +kernel
theorem own_d4_49 : decode prog_84_method_7_code 49 = .ok (.dup, 1) := by decide +kernel
theorem own_d4_50 : decode prog_84_method_7_code 50 = .ok (.getfield 9, 3) := by decide +kernel
theorem own_d4_53 : decode prog_84_method_7_code 53 = .ok (.iconst 1, 1) := by decide +kernel
theorem own_d4_54 : decode prog_84_method_7_code 54 = .ok (.iadd, 1) := by decide +kernel
theorem own_d4_55 : decode prog_84_method_7_code 55 = .ok (.putfield 9, 3) := by decide +kernel
theorem own_d4_58 : decode prog_84_method_7_code 58 = .ok (.aload_n 0, 1) := by decide +kernel
theorem own_d4_59 : decode prog_84_method_7_code 59 = .ok (.iload_n 1, 1) := by decide +kernel
theorem own_d4_60 : decode prog_84_method_7_code 60 = .ok (.bipush 13, 2) := by decide +kernel
theorem own_d4_62 : decode prog_84_method_7_code 62 = .ok (.if_icmp .ne 7, 3) := by decide +kernel
theorem own_d4_65 : decode prog_84_method_7_code 65 = .ok (.iconst 1, 1) := by decide +kernel
theorem own_d4_66 : decode prog_84_method_7_code 66 = .ok (.goto 4, 3) := by decide +kernel
theorem own_d4_69 : decode prog_84_method_7_code 69 = .ok (.iconst 0, 1) := by decide +kernel
theorem own_d4_70 : decode prog_84_method_7_code 70 = .ok (.putfield 17, 3) := by decide +kernel
theorem own_d4_73 : decode prog_84_method_7_code 73 = .ok (.return_, 1) := by decide +kernel
theorem own_ef4 (m : MethodId) (x0 : Addr) (x1 : Int32) : entryFrame m #[(.ref x0), (.int x1)] 3 = mkF m 0 #[.val (.ref x0), .val (.int x1), .unset] [] := by first | (simp [entryFrame, mkF, argsToLocals, Value.category]; done) | rfl
def own_tc (i1 : Int32) (cn : Int32) (ac : Int32) (xm : Int32) : Int32 :=
  if (own_bl i1 xm) = (0 : Int32) then
    if i1 = (13 : Int32) then
      cn
    else
      cn
  else
    if (own_j4_32_S0 i1 cn ac xm) = (0 : Int32) then
      if i1 = (13 : Int32) then
        (cn + (1 : Int32))
      else
        (cn + (1 : Int32))
    else
      if i1 = (13 : Int32) then
        cn
      else
        cn
def own_ta (i1 : Int32) (cn : Int32) (ac : Int32) (xm : Int32) : Int32 :=
  if (own_bl i1 xm) = (0 : Int32) then
    if i1 = (13 : Int32) then
      (1 : Int32)
    else
      (0 : Int32)
  else
    if (own_j4_32_S0 i1 cn ac xm) = (0 : Int32) then
      if i1 = (13 : Int32) then
        (1 : Int32)
      else
        (0 : Int32)
    else
      if i1 = (13 : Int32) then
        (1 : Int32)
      else
        (0 : Int32)
def own_Q4 (Z : State) (r0 : Addr) (i1 : Int32) (cn : Int32) (ac : Int32) (xm : Int32) (h0 : Heap) (n0 : Nat) (v : Option Value) (h : Heap) (L : List Loc) : Prop := v = none ∧ Fr n0 L ∧ Keep h0 h [r0] ∧ Exa Z h r0 "traceward/schema/LineBreaks" ∧ Fld Z h r0 "traceward/schema/LineBreaks" "count" "I" (.int (own_tc i1 cn ac xm)) ∧ Fld Z h r0 "traceward/schema/LineBreaks" "afterCarriageReturn" "Z" (.int (own_ta i1 cn ac xm)) ∧ Fld Z h r0 "traceward/schema/LineBreaks" "xml11" "Z" (.int xm)
set_option maxRecDepth 65536 in
set_option maxHeartbeats 40000000 in
theorem own_rm4 (l : Launch) (Z : State) (a0 : Array Value) (hw : ∀ d ∈ tables_1, d.before a0 Z = true) (ws : List Jvm.Cond) (r0 : Addr) (i1 : Int32) (cn : Int32) (ac : Int32) (xm : Int32) (h0 : Heap) (n0 : Nat) (Z0 : n0 ≤ h0.size) (P0 : Fld Z h0 r0 "traceward/schema/LineBreaks" "count" "I" (.int cn)) (P1 : Fld Z h0 r0 "traceward/schema/LineBreaks" "afterCarriageReturn" "Z" (.int ac)) (P2 : Fld Z h0 r0 "traceward/schema/LineBreaks" "xml11" "Z" (.int xm)) (P3 : Exa Z h0 r0 "traceward/schema/LineBreaks") (P4 : n0 ≤ r0) :
    MetFree l (⟨"traceward/schema/LineBreaks", "take", "(I)V"⟩ : MethodName) (head1 (Jvm.Cond.code (⟨"traceward/schema/LineBreaks", "take", "(I)V"⟩ : MethodName) prog_84_method_7_code 3 none :: ws) ({ frames := 1, cells := 0, slots := 0, locals := 13 } : Room)) (fun a U => a = #[(.ref r0), (.int i1)] ∧ Z.Warmed39 U.vm ∧ U.heap = h0) (fun _ _ _ _ _ => True) (fun _ U o U' => ∃ v L, o = .returned v ∧ own_Q4 Z r0 i1 cn ac xm h0 n0 v U'.heap L ∧ FrameEnd U o U' L ({ frames := 1, cells := 0, slots := 0, locals := 13 } : Room).cells ({ frames := 1, cells := 0, slots := 0, locals := 13 } : Room).slots) := by
  refine MetFree.of_bodySF (plainFor_of_name own_pn1) hisR ?_
  intro p e s m args below meth c s₁ Bd hml0 hP hK
  obtain ⟨rfl, hZ, hh⟩ := hP
  have hx := Bd.exec
  have hby := Bd.bytes
  have hret := Bd.returns
  have hlk := BodyLoose.notSynchronized Bd
  have hml : c.maxLocals = 3 := hml0
  have hown : s.vm.findClass "traceward/schema/LineBreaks" = some m.cls := findClass_of_methodNamed Bd.named
  have hnm := (name_of_methodNamed Bd.named Bd.method).1
  have X0 : Stand p l e ({ frames := 1, cells := 0, slots := 0, locals := 13 } : Room) s m #[(.ref r0), (.int i1)] below meth c s₁ [] 0 0 := Stand.of_body Bd
  have e0 : s₁.heap = h0 := by rw [← hh, Bd.state]; rfl
  have N0 := Fr.nil n0
  have K0 : Keep h0 h0 [r0] := Keep.refl h0 _
  show ownE p e below s (own_Q4 Z r0 i1 cn ac xm h0 n0) ({ frames := 1, cells := 0, slots := 0, locals := 13 } : Room).cells ({ frames := 1, cells := 0, slots := 0, locals := 13 } : Room).slots s₁ (entryFrame m #[(.ref r0), (.int i1)] 3)
  rw [own_ef4]
  have J8 : ∀ (TJ8 : State) (locsJ8 : List Loc), Stand p l e ({ frames := 1, cells := 0, slots := 0, locals := 13 } : Room) s m #[(.ref r0), (.int i1)] below meth c TJ8 locsJ8 0 0 → TJ8.heap = h0 → Fr n0 locsJ8 → ownE p e below s (own_Q4 Z r0 i1 cn ac xm h0 n0) ({ frames := 1, cells := 0, slots := 0, locals := 13 } : Room).cells ({ frames := 1, cells := 0, slots := 0, locals := 13 } : Room).slots TJ8 (mkF m 32 #[.val (.ref r0), .val (.int i1), .unset] [(.int (own_j4_32_S0 i1 cn ac xm))]) := by
    intro TJ8 locsJ8 XJ8 eJ8 NJ8
    refine ownE.go (T' := TJ8) (f' := (mkF m 35 #[.val (.ref r0), .val (.int i1), .val (.int (own_j4_32_S0 i1 cn ac xm))] [(.ref r0), (.int i1)])) (fun t kt => ?_) ?_
    · show Steps p.tables e below (TJ8.setTop (mkF m 32 #[.val (.ref r0), .val (.int i1), .unset] [(.int (own_j4_32_S0 i1 cn ac xm))])) _
      refine XS.istoreN XJ8.here hx rfl (hb hby own_d4_32) rfl (l' := #[.val (.ref r0), .val (.int i1), .val (.int (own_j4_32_S0 i1 cn ac xm))]) rfl ?_
      show Steps p.tables e below (TJ8.setTop (mkF m 33 #[.val (.ref r0), .val (.int i1), .val (.int (own_j4_32_S0 i1 cn ac xm))] [])) _
      refine XS.iloadN XJ8.here hx rfl (hb hby own_d4_33) rfl ?_
      show Steps p.tables e below (TJ8.setTop (mkF m 34 #[.val (.ref r0), .val (.int i1), .val (.int (own_j4_32_S0 i1 cn ac xm))] [(.int i1)])) _
      refine XS.aloadN XJ8.here hx rfl (hb hby own_d4_34) rfl rfl ?_
      exact kt
    obtain ⟨T9, X9, e9, st9⟩ := getF XJ8 hx hZ hown (host := "") (Or.inl (hw _ (List.mem_of_getElem? (i := 21) rfl))) Via.refl eJ8 P2 (g := (mkF m 35 #[.val (.ref r0), .val (.int i1), .val (.int (own_j4_32_S0 i1 cn ac xm))] [(.ref r0), (.int i1)])) rfl rfl (hb hby own_d4_35)
    refine ownE.go (T' := T9) (f' := (mkF m 38 #[.val (.ref r0), .val (.int i1), .val (.int (own_j4_32_S0 i1 cn ac xm))] [(.int xm), (.int i1)])) st9 ?_
    obtain ⟨_, _, ⟨T10, L10, k10, n10⟩, -, X10, ⟨Lc10, hQ10, l10, y10, z10⟩, st10⟩ := Jvm.LawKit.callS X9 hx (y := (⟨"traceward/schema/LineBreaks", "breaksLine", "(IZ)Z"⟩ : MethodName)) hown (mvT hZ (hw _ (List.mem_of_getElem? (i := 23) rfl))) (mvT hZ (hw _ (List.mem_of_getElem? (i := 24) rfl))) (mvT hZ (hw _ (List.mem_of_getElem? (i := 7) rfl))) (mvT hZ (hw _ (List.mem_of_getElem? (i := 25) rfl))) (by decide) (backOf (W := 0) (own_rm5 l Z a0 hw [] i1 xm h0 n0 (Nat.le_trans Z0 K0.1) ) hZ (hw _ (List.mem_of_getElem? (i := 25) rfl)) (hw _ (List.mem_of_getElem? (i := 7) rfl)) (by decide) (by decide)) (g := (mkF m 38 #[.val (.ref r0), .val (.int i1), .val (.int (own_j4_32_S0 i1 cn ac xm))] [(.int xm), (.int i1)])) rfl (by rw [hml]; rfl) (argsL := [(.int i1), (.int xm)]) (rest := []) (lenOf own_pd2 rfl) rfl (by show 2 * 0 + _ ≤ _; exact Nat.le_of_eq rfl) (hb hby own_d4_38) (fun _ _ => ⟨rfl, e9, (by decide : 0 + 0 ≤ _), (by decide : 0 + 0 ≤ _)⟩)
    dsimp only [Pt.U, Pt.locs, Pt.cells, Pt.slots] at X10 l10 y10 z10 st10 hQ10
    subst l10 y10 z10
    obtain ⟨rfl, N10q, e10⟩ := hQ10
    have N10 := Fr.app NJ8 N10q
    refine ownE.go (T' := T10) (f' := (mkF m 41 #[.val (.ref r0), .val (.int i1), .val (.int (own_j4_32_S0 i1 cn ac xm))] [(.int (own_bl i1 xm))])) st10 ?_
    by_cases hc11 : (own_bl i1 xm) = (0 : Int32)
    · -- pc 41
      refine ownE.go (T' := T10) (f' := (mkF m 58 #[.val (.ref r0), .val (.int i1), .val (.int (own_j4_32_S0 i1 cn ac xm))] [])) (fun t kt => XS.ifYes (g := (mkF m 41 #[.val (.ref r0), .val (.int i1), .val (.int (own_j4_32_S0 i1 cn ac xm))] [(.int (own_bl i1 xm))])) X10.here hx rfl (pc0 := 41) (pc' := 58) rfl (hb hby own_d4_41) rfl (Jvm.Free.XT.i0_eq_t hc11) (by decide) (by decide) kt) ?_
      refine ownE.go (T' := T10) (f' := (mkF m 62 #[.val (.ref r0), .val (.int i1), .val (.int (own_j4_32_S0 i1 cn ac xm))] [(.int (13 : Int32)), (.int i1), (.ref r0)])) (fun t kt => ?_) ?_
      · show Steps p.tables e below (T10.setTop (mkF m 58 #[.val (.ref r0), .val (.int i1), .val (.int (own_j4_32_S0 i1 cn ac xm))] [])) _
        refine XS.aloadN X10.here hx rfl (hb hby own_d4_58) rfl rfl ?_
        show Steps p.tables e below (T10.setTop (mkF m 59 #[.val (.ref r0), .val (.int i1), .val (.int (own_j4_32_S0 i1 cn ac xm))] [(.ref r0)])) _
        refine XS.iloadN X10.here hx rfl (hb hby own_d4_59) rfl ?_
        show Steps p.tables e below (T10.setTop (mkF m 60 #[.val (.ref r0), .val (.int i1), .val (.int (own_j4_32_S0 i1 cn ac xm))] [(.int i1), (.ref r0)])) _
        refine XS.bipush X10.here hx rfl (hb hby own_d4_60) ?_
        exact kt
      by_cases hc12 : i1 = (13 : Int32)
      · -- pc 62
        refine ownE.go (T' := T10) (f' := (mkF m 65 #[.val (.ref r0), .val (.int i1), .val (.int (own_j4_32_S0 i1 cn ac xm))] [(.ref r0)])) (fun t kt => XS.icmpNo (g := (mkF m 62 #[.val (.ref r0), .val (.int i1), .val (.int (own_j4_32_S0 i1 cn ac xm))] [(.int (13 : Int32)), (.int i1), (.ref r0)])) X10.here hx rfl (hb hby own_d4_62) rfl (Jvm.Free.XT.ii_ne_f hc12) kt) ?_
        refine ownE.go (T' := T10) (f' := (mkF m 70 #[.val (.ref r0), .val (.int i1), .val (.int (own_j4_32_S0 i1 cn ac xm))] [(.int (1 : Int32)), (.ref r0)])) (fun t kt => ?_) ?_
        · show Steps p.tables e below (T10.setTop (mkF m 65 #[.val (.ref r0), .val (.int i1), .val (.int (own_j4_32_S0 i1 cn ac xm))] [(.ref r0)])) _
          refine XS.iconst X10.here hx rfl (hb hby own_d4_65) ?_
          show Steps p.tables e below (T10.setTop (mkF m 66 #[.val (.ref r0), .val (.int i1), .val (.int (own_j4_32_S0 i1 cn ac xm))] [(.int (1 : Int32)), (.ref r0)])) _
          refine XS.goto X10.here hx rfl (pc0 := 66) (pc' := 70) rfl (hb hby own_d4_66) (by decide) (by decide) ?_
          exact kt
        obtain ⟨T13, h13, X13, e13, W13, st13⟩ := putF X10 hx hZ hown (host := "") (Or.inl (hw _ (List.mem_of_getElem? (i := 19) rfl))) Via.refl e10 P1 P3 (Or.inl (hw _ (List.mem_of_getElem? (i := 20) rfl))) (hw _ (List.mem_of_getElem? (i := 6) rfl)) (ty := .boolean) (by decide) rfl rfl (g := (mkF m 70 #[.val (.ref r0), .val (.int i1), .val (.int (own_j4_32_S0 i1 cn ac xm))] [(.int (1 : Int32)), (.ref r0)])) rfl rfl (hb hby own_d4_70)
        have Fw13 : Fld Z h13 r0 "traceward/schema/LineBreaks" "afterCarriageReturn" "Z" (.int (1 : Int32)) := P1.same W13
        have cFld_r0_count_13 : Fld Z h13 r0 "traceward/schema/LineBreaks" "count" "I" (.int cn) := P0.other W13 (Or.inr (slot_ne (Or.inl (hw _ (List.mem_of_getElem? (i := 32) rfl))) (Or.inl (hw _ (List.mem_of_getElem? (i := 20) rfl))) (by decide) (t := .int) (t' := .boolean) (by decide) (by decide)))
        have cFld_r0_xml11_13 : Fld Z h13 r0 "traceward/schema/LineBreaks" "xml11" "Z" (.int xm) := P2.other W13 (Or.inr (slot_ne (Or.inl (hw _ (List.mem_of_getElem? (i := 22) rfl))) (Or.inl (hw _ (List.mem_of_getElem? (i := 20) rfl))) (by decide) (t := .boolean) (t' := .boolean) (by decide) (by decide)))
        have cExa_r0_13 : Exa Z h13 r0 "traceward/schema/LineBreaks" := P3.wr W13
        have K13 : Keep h0 h13 [r0] := K0.wr W13 (Or.inl (List.mem_of_getElem? (i := 0) rfl))
        have N13 := Fr.snoc X13 N10 P4
        refine ownE.go (T' := T13) (f' := (mkF m 73 #[.val (.ref r0), .val (.int i1), .val (.int (own_j4_32_S0 i1 cn ac xm))] [])) st13 ?_
        refine ownE.retV X13 hx hlk hret (hb hby own_d4_73) ?_ (by decide) (by decide)
        show own_Q4 Z r0 i1 cn ac xm h0 n0 _ T13.heap _
        rw [e13]
        exact ⟨rfl, N13, K13, cExa_r0_13, (by rw [own_tc, if_pos hc11, if_pos hc12]; exact cFld_r0_count_13), (by rw [own_ta, if_pos hc11, if_pos hc12]; exact Fw13), cFld_r0_xml11_13⟩
      · -- pc 62
        refine ownE.go (T' := T10) (f' := (mkF m 69 #[.val (.ref r0), .val (.int i1), .val (.int (own_j4_32_S0 i1 cn ac xm))] [(.ref r0)])) (fun t kt => XS.icmpYes (g := (mkF m 62 #[.val (.ref r0), .val (.int i1), .val (.int (own_j4_32_S0 i1 cn ac xm))] [(.int (13 : Int32)), (.int i1), (.ref r0)])) X10.here hx rfl (pc0 := 62) (pc' := 69) rfl (hb hby own_d4_62) rfl (Jvm.Free.XT.ii_ne_t hc12) (by decide) (by decide) kt) ?_
        refine ownE.go (T' := T10) (f' := (mkF m 70 #[.val (.ref r0), .val (.int i1), .val (.int (own_j4_32_S0 i1 cn ac xm))] [(.int (0 : Int32)), (.ref r0)])) (fun t kt => ?_) ?_
        · show Steps p.tables e below (T10.setTop (mkF m 69 #[.val (.ref r0), .val (.int i1), .val (.int (own_j4_32_S0 i1 cn ac xm))] [(.ref r0)])) _
          refine XS.iconst X10.here hx rfl (hb hby own_d4_69) ?_
          exact kt
        obtain ⟨T14, h14, X14, e14, W14, st14⟩ := putF X10 hx hZ hown (host := "") (Or.inl (hw _ (List.mem_of_getElem? (i := 19) rfl))) Via.refl e10 P1 P3 (Or.inl (hw _ (List.mem_of_getElem? (i := 20) rfl))) (hw _ (List.mem_of_getElem? (i := 6) rfl)) (ty := .boolean) (by decide) rfl rfl (g := (mkF m 70 #[.val (.ref r0), .val (.int i1), .val (.int (own_j4_32_S0 i1 cn ac xm))] [(.int (0 : Int32)), (.ref r0)])) rfl rfl (hb hby own_d4_70)
        have Fw14 : Fld Z h14 r0 "traceward/schema/LineBreaks" "afterCarriageReturn" "Z" (.int (0 : Int32)) := P1.same W14
        have cFld_r0_count_14 : Fld Z h14 r0 "traceward/schema/LineBreaks" "count" "I" (.int cn) := P0.other W14 (Or.inr (slot_ne (Or.inl (hw _ (List.mem_of_getElem? (i := 32) rfl))) (Or.inl (hw _ (List.mem_of_getElem? (i := 20) rfl))) (by decide) (t := .int) (t' := .boolean) (by decide) (by decide)))
        have cFld_r0_xml11_14 : Fld Z h14 r0 "traceward/schema/LineBreaks" "xml11" "Z" (.int xm) := P2.other W14 (Or.inr (slot_ne (Or.inl (hw _ (List.mem_of_getElem? (i := 22) rfl))) (Or.inl (hw _ (List.mem_of_getElem? (i := 20) rfl))) (by decide) (t := .boolean) (t' := .boolean) (by decide) (by decide)))
        have cExa_r0_14 : Exa Z h14 r0 "traceward/schema/LineBreaks" := P3.wr W14
        have K14 : Keep h0 h14 [r0] := K0.wr W14 (Or.inl (List.mem_of_getElem? (i := 0) rfl))
        have N14 := Fr.snoc X14 N10 P4
        refine ownE.go (T' := T14) (f' := (mkF m 73 #[.val (.ref r0), .val (.int i1), .val (.int (own_j4_32_S0 i1 cn ac xm))] [])) st14 ?_
        refine ownE.retV X14 hx hlk hret (hb hby own_d4_73) ?_ (by decide) (by decide)
        show own_Q4 Z r0 i1 cn ac xm h0 n0 _ T14.heap _
        rw [e14]
        exact ⟨rfl, N14, K14, cExa_r0_14, (by rw [own_tc, if_pos hc11, if_neg hc12]; exact cFld_r0_count_14), (by rw [own_ta, if_pos hc11, if_neg hc12]; exact Fw14), cFld_r0_xml11_14⟩
    · -- pc 41
      refine ownE.go (T' := T10) (f' := (mkF m 44 #[.val (.ref r0), .val (.int i1), .val (.int (own_j4_32_S0 i1 cn ac xm))] [])) (fun t kt => XS.ifNo (g := (mkF m 41 #[.val (.ref r0), .val (.int i1), .val (.int (own_j4_32_S0 i1 cn ac xm))] [(.int (own_bl i1 xm))])) X10.here hx rfl (hb hby own_d4_41) rfl (Jvm.Free.XT.i0_eq_f hc11) kt) ?_
      refine ownE.go (T' := T10) (f' := (mkF m 45 #[.val (.ref r0), .val (.int i1), .val (.int (own_j4_32_S0 i1 cn ac xm))] [(.int (own_j4_32_S0 i1 cn ac xm))])) (fun t kt => ?_) ?_
      · show Steps p.tables e below (T10.setTop (mkF m 44 #[.val (.ref r0), .val (.int i1), .val (.int (own_j4_32_S0 i1 cn ac xm))] [])) _
        refine XS.iloadN X10.here hx rfl (hb hby own_d4_44) rfl ?_
        exact kt
      by_cases hc15 : (own_j4_32_S0 i1 cn ac xm) = (0 : Int32)
      · -- pc 45
        refine ownE.go (T' := T10) (f' := (mkF m 48 #[.val (.ref r0), .val (.int i1), .val (.int (own_j4_32_S0 i1 cn ac xm))] [])) (fun t kt => XS.ifNo (g := (mkF m 45 #[.val (.ref r0), .val (.int i1), .val (.int (own_j4_32_S0 i1 cn ac xm))] [(.int (own_j4_32_S0 i1 cn ac xm))])) X10.here hx rfl (hb hby own_d4_45) rfl (Jvm.Free.XT.i0_ne_f hc15) kt) ?_
        refine ownE.go (T' := T10) (f' := (mkF m 50 #[.val (.ref r0), .val (.int i1), .val (.int (own_j4_32_S0 i1 cn ac xm))] [(.ref r0), (.ref r0)])) (fun t kt => ?_) ?_
        · show Steps p.tables e below (T10.setTop (mkF m 48 #[.val (.ref r0), .val (.int i1), .val (.int (own_j4_32_S0 i1 cn ac xm))] [])) _
          refine XS.aloadN X10.here hx rfl (hb hby own_d4_48) rfl rfl ?_
          show Steps p.tables e below (T10.setTop (mkF m 49 #[.val (.ref r0), .val (.int i1), .val (.int (own_j4_32_S0 i1 cn ac xm))] [(.ref r0)])) _
          refine XS.dup X10.here hx rfl (hb hby own_d4_49) rfl rfl ?_
          exact kt
        obtain ⟨T16, X16, e16, st16⟩ := getF X10 hx hZ hown (host := "") (Or.inl (hw _ (List.mem_of_getElem? (i := 31) rfl))) Via.refl e10 P0 (g := (mkF m 50 #[.val (.ref r0), .val (.int i1), .val (.int (own_j4_32_S0 i1 cn ac xm))] [(.ref r0), (.ref r0)])) rfl rfl (hb hby own_d4_50)
        refine ownE.go (T' := T16) (f' := (mkF m 53 #[.val (.ref r0), .val (.int i1), .val (.int (own_j4_32_S0 i1 cn ac xm))] [(.int cn), (.ref r0)])) st16 ?_
        refine ownE.go (T' := T16) (f' := (mkF m 55 #[.val (.ref r0), .val (.int i1), .val (.int (own_j4_32_S0 i1 cn ac xm))] [(.int (cn + (1 : Int32))), (.ref r0)])) (fun t kt => ?_) ?_
        · show Steps p.tables e below (T16.setTop (mkF m 53 #[.val (.ref r0), .val (.int i1), .val (.int (own_j4_32_S0 i1 cn ac xm))] [(.int cn), (.ref r0)])) _
          refine XS.iconst X16.here hx rfl (hb hby own_d4_53) ?_
          show Steps p.tables e below (T16.setTop (mkF m 54 #[.val (.ref r0), .val (.int i1), .val (.int (own_j4_32_S0 i1 cn ac xm))] [(.int (1 : Int32)), (.int cn), (.ref r0)])) _
          refine XS.iadd X16.here hx rfl (hb hby own_d4_54) rfl ?_
          exact kt
        obtain ⟨T17, h17, X17, e17, W17, st17⟩ := putF X16 hx hZ hown (host := "") (Or.inl (hw _ (List.mem_of_getElem? (i := 31) rfl))) Via.refl e16 P0 P3 (Or.inl (hw _ (List.mem_of_getElem? (i := 32) rfl))) (hw _ (List.mem_of_getElem? (i := 6) rfl)) (ty := .int) (by decide) rfl rfl (g := (mkF m 55 #[.val (.ref r0), .val (.int i1), .val (.int (own_j4_32_S0 i1 cn ac xm))] [(.int (cn + (1 : Int32))), (.ref r0)])) rfl rfl (hb hby own_d4_55)
        have Fw17 : Fld Z h17 r0 "traceward/schema/LineBreaks" "count" "I" (.int (cn + (1 : Int32))) := P0.same W17
        have cFld_r0_afterCarriageReturn_17 : Fld Z h17 r0 "traceward/schema/LineBreaks" "afterCarriageReturn" "Z" (.int ac) := P1.other W17 (Or.inr (slot_ne (Or.inl (hw _ (List.mem_of_getElem? (i := 20) rfl))) (Or.inl (hw _ (List.mem_of_getElem? (i := 32) rfl))) (by decide) (t := .boolean) (t' := .int) (by decide) (by decide)))
        have cFld_r0_xml11_17 : Fld Z h17 r0 "traceward/schema/LineBreaks" "xml11" "Z" (.int xm) := P2.other W17 (Or.inr (slot_ne (Or.inl (hw _ (List.mem_of_getElem? (i := 22) rfl))) (Or.inl (hw _ (List.mem_of_getElem? (i := 32) rfl))) (by decide) (t := .boolean) (t' := .int) (by decide) (by decide)))
        have cExa_r0_17 : Exa Z h17 r0 "traceward/schema/LineBreaks" := P3.wr W17
        have K17 : Keep h0 h17 [r0] := K0.wr W17 (Or.inl (List.mem_of_getElem? (i := 0) rfl))
        have N17 := Fr.snoc X17 N10 P4
        refine ownE.go (T' := T17) (f' := (mkF m 58 #[.val (.ref r0), .val (.int i1), .val (.int (own_j4_32_S0 i1 cn ac xm))] [])) st17 ?_
        refine ownE.go (T' := T17) (f' := (mkF m 62 #[.val (.ref r0), .val (.int i1), .val (.int (own_j4_32_S0 i1 cn ac xm))] [(.int (13 : Int32)), (.int i1), (.ref r0)])) (fun t kt => ?_) ?_
        · show Steps p.tables e below (T17.setTop (mkF m 58 #[.val (.ref r0), .val (.int i1), .val (.int (own_j4_32_S0 i1 cn ac xm))] [])) _
          refine XS.aloadN X17.here hx rfl (hb hby own_d4_58) rfl rfl ?_
          show Steps p.tables e below (T17.setTop (mkF m 59 #[.val (.ref r0), .val (.int i1), .val (.int (own_j4_32_S0 i1 cn ac xm))] [(.ref r0)])) _
          refine XS.iloadN X17.here hx rfl (hb hby own_d4_59) rfl ?_
          show Steps p.tables e below (T17.setTop (mkF m 60 #[.val (.ref r0), .val (.int i1), .val (.int (own_j4_32_S0 i1 cn ac xm))] [(.int i1), (.ref r0)])) _
          refine XS.bipush X17.here hx rfl (hb hby own_d4_60) ?_
          exact kt
        by_cases hc18 : i1 = (13 : Int32)
        · -- pc 62
          refine ownE.go (T' := T17) (f' := (mkF m 65 #[.val (.ref r0), .val (.int i1), .val (.int (own_j4_32_S0 i1 cn ac xm))] [(.ref r0)])) (fun t kt => XS.icmpNo (g := (mkF m 62 #[.val (.ref r0), .val (.int i1), .val (.int (own_j4_32_S0 i1 cn ac xm))] [(.int (13 : Int32)), (.int i1), (.ref r0)])) X17.here hx rfl (hb hby own_d4_62) rfl (Jvm.Free.XT.ii_ne_f hc18) kt) ?_
          refine ownE.go (T' := T17) (f' := (mkF m 70 #[.val (.ref r0), .val (.int i1), .val (.int (own_j4_32_S0 i1 cn ac xm))] [(.int (1 : Int32)), (.ref r0)])) (fun t kt => ?_) ?_
          · show Steps p.tables e below (T17.setTop (mkF m 65 #[.val (.ref r0), .val (.int i1), .val (.int (own_j4_32_S0 i1 cn ac xm))] [(.ref r0)])) _
            refine XS.iconst X17.here hx rfl (hb hby own_d4_65) ?_
            show Steps p.tables e below (T17.setTop (mkF m 66 #[.val (.ref r0), .val (.int i1), .val (.int (own_j4_32_S0 i1 cn ac xm))] [(.int (1 : Int32)), (.ref r0)])) _
            refine XS.goto X17.here hx rfl (pc0 := 66) (pc' := 70) rfl (hb hby own_d4_66) (by decide) (by decide) ?_
            exact kt
          obtain ⟨T19, h19, X19, e19, W19, st19⟩ := putF X17 hx hZ hown (host := "") (Or.inl (hw _ (List.mem_of_getElem? (i := 19) rfl))) Via.refl e17 cFld_r0_afterCarriageReturn_17 cExa_r0_17 (Or.inl (hw _ (List.mem_of_getElem? (i := 20) rfl))) (hw _ (List.mem_of_getElem? (i := 6) rfl)) (ty := .boolean) (by decide) rfl rfl (g := (mkF m 70 #[.val (.ref r0), .val (.int i1), .val (.int (own_j4_32_S0 i1 cn ac xm))] [(.int (1 : Int32)), (.ref r0)])) rfl rfl (hb hby own_d4_70)
          have Fw19 : Fld Z h19 r0 "traceward/schema/LineBreaks" "afterCarriageReturn" "Z" (.int (1 : Int32)) := cFld_r0_afterCarriageReturn_17.same W19
          have cFld_r0_count_19 : Fld Z h19 r0 "traceward/schema/LineBreaks" "count" "I" (.int (cn + (1 : Int32))) := Fw17.other W19 (Or.inr (slot_ne (Or.inl (hw _ (List.mem_of_getElem? (i := 32) rfl))) (Or.inl (hw _ (List.mem_of_getElem? (i := 20) rfl))) (by decide) (t := .int) (t' := .boolean) (by decide) (by decide)))
          have cFld_r0_xml11_19 : Fld Z h19 r0 "traceward/schema/LineBreaks" "xml11" "Z" (.int xm) := cFld_r0_xml11_17.other W19 (Or.inr (slot_ne (Or.inl (hw _ (List.mem_of_getElem? (i := 22) rfl))) (Or.inl (hw _ (List.mem_of_getElem? (i := 20) rfl))) (by decide) (t := .boolean) (t' := .boolean) (by decide) (by decide)))
          have cExa_r0_19 : Exa Z h19 r0 "traceward/schema/LineBreaks" := cExa_r0_17.wr W19
          have K19 : Keep h0 h19 [r0] := K17.wr W19 (Or.inl (List.mem_of_getElem? (i := 0) rfl))
          have N19 := Fr.snoc X19 N17 P4
          refine ownE.go (T' := T19) (f' := (mkF m 73 #[.val (.ref r0), .val (.int i1), .val (.int (own_j4_32_S0 i1 cn ac xm))] [])) st19 ?_
          refine ownE.retV X19 hx hlk hret (hb hby own_d4_73) ?_ (by decide) (by decide)
          show own_Q4 Z r0 i1 cn ac xm h0 n0 _ T19.heap _
          rw [e19]
          exact ⟨rfl, N19, K19, cExa_r0_19, (by rw [own_tc, if_neg hc11, if_pos hc15, if_pos hc18]; exact cFld_r0_count_19), (by rw [own_ta, if_neg hc11, if_pos hc15, if_pos hc18]; exact Fw19), cFld_r0_xml11_19⟩
        · -- pc 62
          refine ownE.go (T' := T17) (f' := (mkF m 69 #[.val (.ref r0), .val (.int i1), .val (.int (own_j4_32_S0 i1 cn ac xm))] [(.ref r0)])) (fun t kt => XS.icmpYes (g := (mkF m 62 #[.val (.ref r0), .val (.int i1), .val (.int (own_j4_32_S0 i1 cn ac xm))] [(.int (13 : Int32)), (.int i1), (.ref r0)])) X17.here hx rfl (pc0 := 62) (pc' := 69) rfl (hb hby own_d4_62) rfl (Jvm.Free.XT.ii_ne_t hc18) (by decide) (by decide) kt) ?_
          refine ownE.go (T' := T17) (f' := (mkF m 70 #[.val (.ref r0), .val (.int i1), .val (.int (own_j4_32_S0 i1 cn ac xm))] [(.int (0 : Int32)), (.ref r0)])) (fun t kt => ?_) ?_
          · show Steps p.tables e below (T17.setTop (mkF m 69 #[.val (.ref r0), .val (.int i1), .val (.int (own_j4_32_S0 i1 cn ac xm))] [(.ref r0)])) _
            refine XS.iconst X17.here hx rfl (hb hby own_d4_69) ?_
            exact kt
          obtain ⟨T20, h20, X20, e20, W20, st20⟩ := putF X17 hx hZ hown (host := "") (Or.inl (hw _ (List.mem_of_getElem? (i := 19) rfl))) Via.refl e17 cFld_r0_afterCarriageReturn_17 cExa_r0_17 (Or.inl (hw _ (List.mem_of_getElem? (i := 20) rfl))) (hw _ (List.mem_of_getElem? (i := 6) rfl)) (ty := .boolean) (by decide) rfl rfl (g := (mkF m 70 #[.val (.ref r0), .val (.int i1), .val (.int (own_j4_32_S0 i1 cn ac xm))] [(.int (0 : Int32)), (.ref r0)])) rfl rfl (hb hby own_d4_70)
          have Fw20 : Fld Z h20 r0 "traceward/schema/LineBreaks" "afterCarriageReturn" "Z" (.int (0 : Int32)) := cFld_r0_afterCarriageReturn_17.same W20
          have cFld_r0_count_20 : Fld Z h20 r0 "traceward/schema/LineBreaks" "count" "I" (.int (cn + (1 : Int32))) := Fw17.other W20 (Or.inr (slot_ne (Or.inl (hw _ (List.mem_of_getElem? (i := 32) rfl))) (Or.inl (hw _ (List.mem_of_getElem? (i := 20) rfl))) (by decide) (t := .int) (t' := .boolean) (by decide) (by decide)))
          have cFld_r0_xml11_20 : Fld Z h20 r0 "traceward/schema/LineBreaks" "xml11" "Z" (.int xm) := cFld_r0_xml11_17.other W20 (Or.inr (slot_ne (Or.inl (hw _ (List.mem_of_getElem? (i := 22) rfl))) (Or.inl (hw _ (List.mem_of_getElem? (i := 20) rfl))) (by decide) (t := .boolean) (t' := .boolean) (by decide) (by decide)))
          have cExa_r0_20 : Exa Z h20 r0 "traceward/schema/LineBreaks" := cExa_r0_17.wr W20
          have K20 : Keep h0 h20 [r0] := K17.wr W20 (Or.inl (List.mem_of_getElem? (i := 0) rfl))
          have N20 := Fr.snoc X20 N17 P4
          refine ownE.go (T' := T20) (f' := (mkF m 73 #[.val (.ref r0), .val (.int i1), .val (.int (own_j4_32_S0 i1 cn ac xm))] [])) st20 ?_
          refine ownE.retV X20 hx hlk hret (hb hby own_d4_73) ?_ (by decide) (by decide)
          show own_Q4 Z r0 i1 cn ac xm h0 n0 _ T20.heap _
          rw [e20]
          exact ⟨rfl, N20, K20, cExa_r0_20, (by rw [own_tc, if_neg hc11, if_pos hc15, if_neg hc18]; exact cFld_r0_count_20), (by rw [own_ta, if_neg hc11, if_pos hc15, if_neg hc18]; exact Fw20), cFld_r0_xml11_20⟩
      · -- pc 45
        refine ownE.go (T' := T10) (f' := (mkF m 58 #[.val (.ref r0), .val (.int i1), .val (.int (own_j4_32_S0 i1 cn ac xm))] [])) (fun t kt => XS.ifYes (g := (mkF m 45 #[.val (.ref r0), .val (.int i1), .val (.int (own_j4_32_S0 i1 cn ac xm))] [(.int (own_j4_32_S0 i1 cn ac xm))])) X10.here hx rfl (pc0 := 45) (pc' := 58) rfl (hb hby own_d4_45) rfl (Jvm.Free.XT.i0_ne_t hc15) (by decide) (by decide) kt) ?_
        refine ownE.go (T' := T10) (f' := (mkF m 62 #[.val (.ref r0), .val (.int i1), .val (.int (own_j4_32_S0 i1 cn ac xm))] [(.int (13 : Int32)), (.int i1), (.ref r0)])) (fun t kt => ?_) ?_
        · show Steps p.tables e below (T10.setTop (mkF m 58 #[.val (.ref r0), .val (.int i1), .val (.int (own_j4_32_S0 i1 cn ac xm))] [])) _
          refine XS.aloadN X10.here hx rfl (hb hby own_d4_58) rfl rfl ?_
          show Steps p.tables e below (T10.setTop (mkF m 59 #[.val (.ref r0), .val (.int i1), .val (.int (own_j4_32_S0 i1 cn ac xm))] [(.ref r0)])) _
          refine XS.iloadN X10.here hx rfl (hb hby own_d4_59) rfl ?_
          show Steps p.tables e below (T10.setTop (mkF m 60 #[.val (.ref r0), .val (.int i1), .val (.int (own_j4_32_S0 i1 cn ac xm))] [(.int i1), (.ref r0)])) _
          refine XS.bipush X10.here hx rfl (hb hby own_d4_60) ?_
          exact kt
        by_cases hc21 : i1 = (13 : Int32)
        · -- pc 62
          refine ownE.go (T' := T10) (f' := (mkF m 65 #[.val (.ref r0), .val (.int i1), .val (.int (own_j4_32_S0 i1 cn ac xm))] [(.ref r0)])) (fun t kt => XS.icmpNo (g := (mkF m 62 #[.val (.ref r0), .val (.int i1), .val (.int (own_j4_32_S0 i1 cn ac xm))] [(.int (13 : Int32)), (.int i1), (.ref r0)])) X10.here hx rfl (hb hby own_d4_62) rfl (Jvm.Free.XT.ii_ne_f hc21) kt) ?_
          refine ownE.go (T' := T10) (f' := (mkF m 70 #[.val (.ref r0), .val (.int i1), .val (.int (own_j4_32_S0 i1 cn ac xm))] [(.int (1 : Int32)), (.ref r0)])) (fun t kt => ?_) ?_
          · show Steps p.tables e below (T10.setTop (mkF m 65 #[.val (.ref r0), .val (.int i1), .val (.int (own_j4_32_S0 i1 cn ac xm))] [(.ref r0)])) _
            refine XS.iconst X10.here hx rfl (hb hby own_d4_65) ?_
            show Steps p.tables e below (T10.setTop (mkF m 66 #[.val (.ref r0), .val (.int i1), .val (.int (own_j4_32_S0 i1 cn ac xm))] [(.int (1 : Int32)), (.ref r0)])) _
            refine XS.goto X10.here hx rfl (pc0 := 66) (pc' := 70) rfl (hb hby own_d4_66) (by decide) (by decide) ?_
            exact kt
          obtain ⟨T22, h22, X22, e22, W22, st22⟩ := putF X10 hx hZ hown (host := "") (Or.inl (hw _ (List.mem_of_getElem? (i := 19) rfl))) Via.refl e10 P1 P3 (Or.inl (hw _ (List.mem_of_getElem? (i := 20) rfl))) (hw _ (List.mem_of_getElem? (i := 6) rfl)) (ty := .boolean) (by decide) rfl rfl (g := (mkF m 70 #[.val (.ref r0), .val (.int i1), .val (.int (own_j4_32_S0 i1 cn ac xm))] [(.int (1 : Int32)), (.ref r0)])) rfl rfl (hb hby own_d4_70)
          have Fw22 : Fld Z h22 r0 "traceward/schema/LineBreaks" "afterCarriageReturn" "Z" (.int (1 : Int32)) := P1.same W22
          have cFld_r0_count_22 : Fld Z h22 r0 "traceward/schema/LineBreaks" "count" "I" (.int cn) := P0.other W22 (Or.inr (slot_ne (Or.inl (hw _ (List.mem_of_getElem? (i := 32) rfl))) (Or.inl (hw _ (List.mem_of_getElem? (i := 20) rfl))) (by decide) (t := .int) (t' := .boolean) (by decide) (by decide)))
          have cFld_r0_xml11_22 : Fld Z h22 r0 "traceward/schema/LineBreaks" "xml11" "Z" (.int xm) := P2.other W22 (Or.inr (slot_ne (Or.inl (hw _ (List.mem_of_getElem? (i := 22) rfl))) (Or.inl (hw _ (List.mem_of_getElem? (i := 20) rfl))) (by decide) (t := .boolean) (t' := .boolean) (by decide) (by decide)))
          have cExa_r0_22 : Exa Z h22 r0 "traceward/schema/LineBreaks" := P3.wr W22
          have K22 : Keep h0 h22 [r0] := K0.wr W22 (Or.inl (List.mem_of_getElem? (i := 0) rfl))
          have N22 := Fr.snoc X22 N10 P4
          refine ownE.go (T' := T22) (f' := (mkF m 73 #[.val (.ref r0), .val (.int i1), .val (.int (own_j4_32_S0 i1 cn ac xm))] [])) st22 ?_
          refine ownE.retV X22 hx hlk hret (hb hby own_d4_73) ?_ (by decide) (by decide)
          show own_Q4 Z r0 i1 cn ac xm h0 n0 _ T22.heap _
          rw [e22]
          exact ⟨rfl, N22, K22, cExa_r0_22, (by rw [own_tc, if_neg hc11, if_neg hc15, if_pos hc21]; exact cFld_r0_count_22), (by rw [own_ta, if_neg hc11, if_neg hc15, if_pos hc21]; exact Fw22), cFld_r0_xml11_22⟩
        · -- pc 62
          refine ownE.go (T' := T10) (f' := (mkF m 69 #[.val (.ref r0), .val (.int i1), .val (.int (own_j4_32_S0 i1 cn ac xm))] [(.ref r0)])) (fun t kt => XS.icmpYes (g := (mkF m 62 #[.val (.ref r0), .val (.int i1), .val (.int (own_j4_32_S0 i1 cn ac xm))] [(.int (13 : Int32)), (.int i1), (.ref r0)])) X10.here hx rfl (pc0 := 62) (pc' := 69) rfl (hb hby own_d4_62) rfl (Jvm.Free.XT.ii_ne_t hc21) (by decide) (by decide) kt) ?_
          refine ownE.go (T' := T10) (f' := (mkF m 70 #[.val (.ref r0), .val (.int i1), .val (.int (own_j4_32_S0 i1 cn ac xm))] [(.int (0 : Int32)), (.ref r0)])) (fun t kt => ?_) ?_
          · show Steps p.tables e below (T10.setTop (mkF m 69 #[.val (.ref r0), .val (.int i1), .val (.int (own_j4_32_S0 i1 cn ac xm))] [(.ref r0)])) _
            refine XS.iconst X10.here hx rfl (hb hby own_d4_69) ?_
            exact kt
          obtain ⟨T23, h23, X23, e23, W23, st23⟩ := putF X10 hx hZ hown (host := "") (Or.inl (hw _ (List.mem_of_getElem? (i := 19) rfl))) Via.refl e10 P1 P3 (Or.inl (hw _ (List.mem_of_getElem? (i := 20) rfl))) (hw _ (List.mem_of_getElem? (i := 6) rfl)) (ty := .boolean) (by decide) rfl rfl (g := (mkF m 70 #[.val (.ref r0), .val (.int i1), .val (.int (own_j4_32_S0 i1 cn ac xm))] [(.int (0 : Int32)), (.ref r0)])) rfl rfl (hb hby own_d4_70)
          have Fw23 : Fld Z h23 r0 "traceward/schema/LineBreaks" "afterCarriageReturn" "Z" (.int (0 : Int32)) := P1.same W23
          have cFld_r0_count_23 : Fld Z h23 r0 "traceward/schema/LineBreaks" "count" "I" (.int cn) := P0.other W23 (Or.inr (slot_ne (Or.inl (hw _ (List.mem_of_getElem? (i := 32) rfl))) (Or.inl (hw _ (List.mem_of_getElem? (i := 20) rfl))) (by decide) (t := .int) (t' := .boolean) (by decide) (by decide)))
          have cFld_r0_xml11_23 : Fld Z h23 r0 "traceward/schema/LineBreaks" "xml11" "Z" (.int xm) := P2.other W23 (Or.inr (slot_ne (Or.inl (hw _ (List.mem_of_getElem? (i := 22) rfl))) (Or.inl (hw _ (List.mem_of_getElem? (i := 20) rfl))) (by decide) (t := .boolean) (t' := .boolean) (by decide) (by decide)))
          have cExa_r0_23 : Exa Z h23 r0 "traceward/schema/LineBreaks" := P3.wr W23
          have K23 : Keep h0 h23 [r0] := K0.wr W23 (Or.inl (List.mem_of_getElem? (i := 0) rfl))
          have N23 := Fr.snoc X23 N10 P4
          refine ownE.go (T' := T23) (f' := (mkF m 73 #[.val (.ref r0), .val (.int i1), .val (.int (own_j4_32_S0 i1 cn ac xm))] [])) st23 ?_
          refine ownE.retV X23 hx hlk hret (hb hby own_d4_73) ?_ (by decide) (by decide)
          show own_Q4 Z r0 i1 cn ac xm h0 n0 _ T23.heap _
          rw [e23]
          exact ⟨rfl, N23, K23, cExa_r0_23, (by rw [own_tc, if_neg hc11, if_neg hc15, if_neg hc21]; exact cFld_r0_count_23), (by rw [own_ta, if_neg hc11, if_neg hc15, if_neg hc21]; exact Fw23), cFld_r0_xml11_23⟩
  refine ownE.go (T' := s₁) (f' := (mkF m 1 #[.val (.ref r0), .val (.int i1), .unset] [(.ref r0)])) (fun t kt => ?_) ?_
  · show Steps p.tables e below (s₁.setTop (mkF m 0 #[.val (.ref r0), .val (.int i1), .unset] [])) _
    refine XS.aloadN X0.here hx rfl (hb hby own_d4_0) rfl rfl ?_
    exact kt
  obtain ⟨T2, X2, e2, st2⟩ := getF X0 hx hZ hown (host := "") (Or.inl (hw _ (List.mem_of_getElem? (i := 19) rfl))) Via.refl e0 P1 (g := (mkF m 1 #[.val (.ref r0), .val (.int i1), .unset] [(.ref r0)])) rfl rfl (hb hby own_d4_1)
  refine ownE.go (T' := T2) (f' := (mkF m 4 #[.val (.ref r0), .val (.int i1), .unset] [(.int ac)])) st2 ?_
  by_cases hc3 : ac = (0 : Int32)
  · -- pc 4
    refine ownE.go (T' := T2) (f' := (mkF m 31 #[.val (.ref r0), .val (.int i1), .unset] [])) (fun t kt => XS.ifYes (g := (mkF m 4 #[.val (.ref r0), .val (.int i1), .unset] [(.int ac)])) X2.here hx rfl (pc0 := 4) (pc' := 31) rfl (hb hby own_d4_4) rfl (Jvm.Free.XT.i0_eq_t hc3) (by decide) (by decide) kt) ?_
    refine ownE.go (T' := T2) (f' := (mkF m 32 #[.val (.ref r0), .val (.int i1), .unset] [(.int (0 : Int32))])) (fun t kt => ?_) ?_
    · show Steps p.tables e below (T2.setTop (mkF m 31 #[.val (.ref r0), .val (.int i1), .unset] [])) _
      refine XS.iconst X2.here hx rfl (hb hby own_d4_31) ?_
      exact kt
    have jj := J8 _ _ X2 e2 N0
    rw [show (own_j4_32_S0 i1 cn ac xm) = (0 : Int32) from by rw [own_j4_32_S0, if_pos hc3]] at jj
    exact jj
  · -- pc 4
    refine ownE.go (T' := T2) (f' := (mkF m 7 #[.val (.ref r0), .val (.int i1), .unset] [])) (fun t kt => XS.ifNo (g := (mkF m 4 #[.val (.ref r0), .val (.int i1), .unset] [(.int ac)])) X2.here hx rfl (hb hby own_d4_4) rfl (Jvm.Free.XT.i0_eq_f hc3) kt) ?_
    refine ownE.go (T' := T2) (f' := (mkF m 10 #[.val (.ref r0), .val (.int i1), .unset] [(.int (10 : Int32)), (.int i1)])) (fun t kt => ?_) ?_
    · show Steps p.tables e below (T2.setTop (mkF m 7 #[.val (.ref r0), .val (.int i1), .unset] [])) _
      refine XS.iloadN X2.here hx rfl (hb hby own_d4_7) rfl ?_
      show Steps p.tables e below (T2.setTop (mkF m 8 #[.val (.ref r0), .val (.int i1), .unset] [(.int i1)])) _
      refine XS.bipush X2.here hx rfl (hb hby own_d4_8) ?_
      exact kt
    by_cases hc4 : i1 = (10 : Int32)
    · -- pc 10
      refine ownE.go (T' := T2) (f' := (mkF m 27 #[.val (.ref r0), .val (.int i1), .unset] [])) (fun t kt => XS.icmpYes (g := (mkF m 10 #[.val (.ref r0), .val (.int i1), .unset] [(.int (10 : Int32)), (.int i1)])) X2.here hx rfl (pc0 := 10) (pc' := 27) rfl (hb hby own_d4_10) rfl (Jvm.Free.XT.ii_eq_t hc4) (by decide) (by decide) kt) ?_
      refine ownE.go (T' := T2) (f' := (mkF m 32 #[.val (.ref r0), .val (.int i1), .unset] [(.int (1 : Int32))])) (fun t kt => ?_) ?_
      · show Steps p.tables e below (T2.setTop (mkF m 27 #[.val (.ref r0), .val (.int i1), .unset] [])) _
        refine XS.iconst X2.here hx rfl (hb hby own_d4_27) ?_
        show Steps p.tables e below (T2.setTop (mkF m 28 #[.val (.ref r0), .val (.int i1), .unset] [(.int (1 : Int32))])) _
        refine XS.goto X2.here hx rfl (pc0 := 28) (pc' := 32) rfl (hb hby own_d4_28) (by decide) (by decide) ?_
        exact kt
      have jj := J8 _ _ X2 e2 N0
      rw [show (own_j4_32_S0 i1 cn ac xm) = (1 : Int32) from by rw [own_j4_32_S0, if_neg hc3, if_pos hc4]] at jj
      exact jj
    · -- pc 10
      refine ownE.go (T' := T2) (f' := (mkF m 13 #[.val (.ref r0), .val (.int i1), .unset] [])) (fun t kt => XS.icmpNo (g := (mkF m 10 #[.val (.ref r0), .val (.int i1), .unset] [(.int (10 : Int32)), (.int i1)])) X2.here hx rfl (hb hby own_d4_10) rfl (Jvm.Free.XT.ii_eq_f hc4) kt) ?_
      refine ownE.go (T' := T2) (f' := (mkF m 14 #[.val (.ref r0), .val (.int i1), .unset] [(.ref r0)])) (fun t kt => ?_) ?_
      · show Steps p.tables e below (T2.setTop (mkF m 13 #[.val (.ref r0), .val (.int i1), .unset] [])) _
        refine XS.aloadN X2.here hx rfl (hb hby own_d4_13) rfl rfl ?_
        exact kt
      obtain ⟨T5, X5, e5, st5⟩ := getF X2 hx hZ hown (host := "") (Or.inl (hw _ (List.mem_of_getElem? (i := 21) rfl))) Via.refl e2 P2 (g := (mkF m 14 #[.val (.ref r0), .val (.int i1), .unset] [(.ref r0)])) rfl rfl (hb hby own_d4_14)
      refine ownE.go (T' := T5) (f' := (mkF m 17 #[.val (.ref r0), .val (.int i1), .unset] [(.int xm)])) st5 ?_
      by_cases hc6 : xm = (0 : Int32)
      · -- pc 17
        refine ownE.go (T' := T5) (f' := (mkF m 31 #[.val (.ref r0), .val (.int i1), .unset] [])) (fun t kt => XS.ifYes (g := (mkF m 17 #[.val (.ref r0), .val (.int i1), .unset] [(.int xm)])) X5.here hx rfl (pc0 := 17) (pc' := 31) rfl (hb hby own_d4_17) rfl (Jvm.Free.XT.i0_eq_t hc6) (by decide) (by decide) kt) ?_
        refine ownE.go (T' := T5) (f' := (mkF m 32 #[.val (.ref r0), .val (.int i1), .unset] [(.int (0 : Int32))])) (fun t kt => ?_) ?_
        · show Steps p.tables e below (T5.setTop (mkF m 31 #[.val (.ref r0), .val (.int i1), .unset] [])) _
          refine XS.iconst X5.here hx rfl (hb hby own_d4_31) ?_
          exact kt
        have jj := J8 _ _ X5 e5 N0
        rw [show (own_j4_32_S0 i1 cn ac xm) = (0 : Int32) from by rw [own_j4_32_S0, if_neg hc3, if_neg hc4, if_pos hc6]] at jj
        exact jj
      · -- pc 17
        refine ownE.go (T' := T5) (f' := (mkF m 20 #[.val (.ref r0), .val (.int i1), .unset] [])) (fun t kt => XS.ifNo (g := (mkF m 17 #[.val (.ref r0), .val (.int i1), .unset] [(.int xm)])) X5.here hx rfl (hb hby own_d4_17) rfl (Jvm.Free.XT.i0_eq_f hc6) kt) ?_
        refine ownE.go (T' := T5) (f' := (mkF m 24 #[.val (.ref r0), .val (.int i1), .unset] [(.int (133 : Int32)), (.int i1)])) (fun t kt => ?_) ?_
        · show Steps p.tables e below (T5.setTop (mkF m 20 #[.val (.ref r0), .val (.int i1), .unset] [])) _
          refine XS.iloadN X5.here hx rfl (hb hby own_d4_20) rfl ?_
          show Steps p.tables e below (T5.setTop (mkF m 21 #[.val (.ref r0), .val (.int i1), .unset] [(.int i1)])) _
          refine XS.sipush X5.here hx rfl (hb hby own_d4_21) ?_
          exact kt
        by_cases hc7 : i1 = (133 : Int32)
        · -- pc 24
          refine ownE.go (T' := T5) (f' := (mkF m 27 #[.val (.ref r0), .val (.int i1), .unset] [])) (fun t kt => XS.icmpNo (g := (mkF m 24 #[.val (.ref r0), .val (.int i1), .unset] [(.int (133 : Int32)), (.int i1)])) X5.here hx rfl (hb hby own_d4_24) rfl (Jvm.Free.XT.ii_ne_f hc7) kt) ?_
          refine ownE.go (T' := T5) (f' := (mkF m 32 #[.val (.ref r0), .val (.int i1), .unset] [(.int (1 : Int32))])) (fun t kt => ?_) ?_
          · show Steps p.tables e below (T5.setTop (mkF m 27 #[.val (.ref r0), .val (.int i1), .unset] [])) _
            refine XS.iconst X5.here hx rfl (hb hby own_d4_27) ?_
            show Steps p.tables e below (T5.setTop (mkF m 28 #[.val (.ref r0), .val (.int i1), .unset] [(.int (1 : Int32))])) _
            refine XS.goto X5.here hx rfl (pc0 := 28) (pc' := 32) rfl (hb hby own_d4_28) (by decide) (by decide) ?_
            exact kt
          have jj := J8 _ _ X5 e5 N0
          rw [show (own_j4_32_S0 i1 cn ac xm) = (1 : Int32) from by rw [own_j4_32_S0, if_neg hc3, if_neg hc4, if_neg hc6, if_pos hc7]] at jj
          exact jj
        · -- pc 24
          refine ownE.go (T' := T5) (f' := (mkF m 31 #[.val (.ref r0), .val (.int i1), .unset] [])) (fun t kt => XS.icmpYes (g := (mkF m 24 #[.val (.ref r0), .val (.int i1), .unset] [(.int (133 : Int32)), (.int i1)])) X5.here hx rfl (pc0 := 24) (pc' := 31) rfl (hb hby own_d4_24) rfl (Jvm.Free.XT.ii_ne_t hc7) (by decide) (by decide) kt) ?_
          refine ownE.go (T' := T5) (f' := (mkF m 32 #[.val (.ref r0), .val (.int i1), .unset] [(.int (0 : Int32))])) (fun t kt => ?_) ?_
          · show Steps p.tables e below (T5.setTop (mkF m 31 #[.val (.ref r0), .val (.int i1), .unset] [])) _
            refine XS.iconst X5.here hx rfl (hb hby own_d4_31) ?_
            exact kt
          have jj := J8 _ _ X5 e5 N0
          rw [show (own_j4_32_S0 i1 cn ac xm) = (0 : Int32) from by rw [own_j4_32_S0, if_neg hc3, if_neg hc4, if_neg hc6, if_neg hc7]] at jj
          exact jj
theorem own_d6_0 : decode prog_84_method_3_code 0 = .ok (.aload_n 0, 1) := by decide +kernel
theorem own_d6_1 : decode prog_84_method_3_code 1 = .ok (.getfield 9, 3) := by decide +kernel
theorem own_d6_4 : decode prog_84_method_3_code 4 = .ok (.ireturn, 1) := by decide +kernel
theorem own_ef6 (m : MethodId) (x0 : Addr) : entryFrame m #[(.ref x0)] 1 = mkF m 0 #[.val (.ref x0)] [] := by first | (simp [entryFrame, mkF, argsToLocals, Value.category]; done) | rfl
def own_cnt (cn : Int32) : Int32 :=
  cn
def own_Q6 (Z : State) (r0 : Addr) (cn : Int32) (h0 : Heap) (n0 : Nat) (v : Option Value) (h : Heap) (L : List Loc) : Prop := v = some (.int (own_cnt cn)) ∧ Fr n0 L ∧ h = h0
set_option maxRecDepth 65536 in
set_option maxHeartbeats 40000000 in
theorem own_rm6 (l : Launch) (Z : State) (a0 : Array Value) (hw : ∀ d ∈ tables_1, d.before a0 Z = true) (ws : List Jvm.Cond) (r0 : Addr) (cn : Int32) (h0 : Heap) (n0 : Nat) (Z0 : n0 ≤ h0.size) (P0 : Fld Z h0 r0 "traceward/schema/LineBreaks" "count" "I" (.int cn)) :
    MetFree l (⟨"traceward/schema/LineBreaks", "count", "()I"⟩ : MethodName) (head1 (Jvm.Cond.code (⟨"traceward/schema/LineBreaks", "count", "()I"⟩ : MethodName) prog_84_method_3_code 1 (some .int) :: ws) ({ frames := 0, cells := 0, slots := 0, locals := 0 } : Room)) (fun a U => a = #[(.ref r0)] ∧ Z.Warmed39 U.vm ∧ U.heap = h0) (fun _ _ _ _ _ => True) (fun _ U o U' => ∃ v L, o = .returned v ∧ own_Q6 Z r0 cn h0 n0 v U'.heap L ∧ FrameEnd U o U' L ({ frames := 0, cells := 0, slots := 0, locals := 0 } : Room).cells ({ frames := 0, cells := 0, slots := 0, locals := 0 } : Room).slots) := by
  refine MetFree.of_bodySF (plainFor_of_name own_pn1) hisR ?_
  intro p e s m args below meth c s₁ Bd hml0 hP hK
  obtain ⟨rfl, hZ, hh⟩ := hP
  have hx := Bd.exec
  have hby := Bd.bytes
  have hret := Bd.returns
  have hlk := BodyLoose.notSynchronized Bd
  have hml : c.maxLocals = 1 := hml0
  have hown : s.vm.findClass "traceward/schema/LineBreaks" = some m.cls := findClass_of_methodNamed Bd.named
  have hnm := (name_of_methodNamed Bd.named Bd.method).1
  have X0 : Stand p l e ({ frames := 0, cells := 0, slots := 0, locals := 0 } : Room) s m #[(.ref r0)] below meth c s₁ [] 0 0 := Stand.of_body Bd
  have e0 : s₁.heap = h0 := by rw [← hh, Bd.state]; rfl
  have N0 := Fr.nil n0
  have K0 : Keep h0 h0 [] := Keep.refl h0 _
  show ownE p e below s (own_Q6 Z r0 cn h0 n0) ({ frames := 0, cells := 0, slots := 0, locals := 0 } : Room).cells ({ frames := 0, cells := 0, slots := 0, locals := 0 } : Room).slots s₁ (entryFrame m #[(.ref r0)] 1)
  rw [own_ef6]
  refine ownE.go (T' := s₁) (f' := (mkF m 1 #[.val (.ref r0)] [(.ref r0)])) (fun t kt => ?_) ?_
  · show Steps p.tables e below (s₁.setTop (mkF m 0 #[.val (.ref r0)] [])) _
    refine XS.aloadN X0.here hx rfl (hb hby own_d6_0) rfl rfl ?_
    exact kt
  obtain ⟨T1, X1, e1, st1⟩ := getF X0 hx hZ hown (host := "") (Or.inl (hw _ (List.mem_of_getElem? (i := 31) rfl))) Via.refl e0 P0 (g := (mkF m 1 #[.val (.ref r0)] [(.ref r0)])) rfl rfl (hb hby own_d6_1)
  refine ownE.go (T' := T1) (f' := (mkF m 4 #[.val (.ref r0)] [(.int cn)])) st1 ?_
  refine ownE.retI X1 hx hlk hret (hb hby own_d6_4) ?_ (by decide) (by decide)
  show own_Q6 Z r0 cn h0 n0 _ T1.heap _
  rw [e1]
  exact ⟨rfl, N0, rfl⟩
theorem own_le {i t n : Int32} (h : i < t) (h2 : ¬ n < t) : i < n := by
  rw [Int32.lt_iff_toInt_lt] at *
  omega
theorem own_nx {i t : Int32} {k : Nat} (h : i < t) (h0 : ¬ i < (0 : Int32)) (h4 : ¬ (4 : Int32) < t) (hf : 0 < k + 1 ∧ t.toInt - i.toInt < ((k + 1 : Nat) : Int)) : ¬ (i + (1 : Int32)) < (0 : Int32) ∧ (0 < k ∧ t.toInt - (i + (1 : Int32)).toInt < ((k : Nat) : Int)) := by
  rw [Int32.lt_iff_toInt_lt] at *
  have e := c_iadd i 1
  have r := rng32 (i + (1 : Int32))
  have z0 : (0 : Int32).toInt = 0 := by decide
  have z1 : (1 : Int32).toInt = 1 := by decide
  have z4 : (4 : Int32).toInt = 4 := by decide
  have ri := rng32 i
  omega
theorem own_eq0 {x : Int32} (h : ¬ (0 : Int32) < x) (h2 : ¬ x < (0 : Int32)) : (0 : Int32) = x := by
  rw [Int32.lt_iff_toInt_lt] at h h2
  exact Int32.toInt_inj.mp (by omega)
theorem own_d7_0 : decode method_3_code 0 = .ok (.iload_n 1, 1) := by decide +kernel
theorem own_d7_1 : decode method_3_code 1 = .ok (.iload_n 2, 1) := by decide +kernel
theorem own_d7_2 : decode method_3_code 2 = .ok (.if_icmp .lt 8, 3) := by decide +kernel
theorem own_d7_5 : decode method_3_code 5 = .ok (.iload_n 1, 1) := by decide +kernel
theorem own_d7_6 : decode method_3_code 6 = .ok (.iload_n 3, 1) := by decide +kernel
theorem own_d7_7 : decode method_3_code 7 = .ok (.if_icmp .lt 5, 3) := by decide +kernel
theorem own_d7_10 : decode method_3_code 10 = .ok (.iconst 0, 1) := by decide +kernel
theorem own_d7_11 : decode method_3_code 11 = .ok (.ireturn, 1) := by decide +kernel
theorem own_d7_12 : decode method_3_code 12 = .ok (.aload_n 0, 1) := by decide +kernel
theorem own_d7_13 : decode method_3_code 13 = .ok (.iload_n 1, 1) := by decide +kernel
theorem own_d7_14 : decode method_3_code 14 = .ok (.baload, 1) := by decide +kernel
theorem own_d7_15 : decode method_3_code 15 = .ok (.bipush 13, 2) := by decide +kernel
theorem own_d7_17 : decode method_3_code 17 = .ok (.if_icmp .ne 5, 3) := by decide +kernel
theorem own_d7_20 : decode method_3_code 20 = .ok (.iconst 1, 1) := by decide +kernel
theorem own_d7_21 : decode method_3_code 21 = .ok (.ireturn, 1) := by decide +kernel
theorem own_d7_22 : decode method_3_code 22 = .ok (.aload_n 0, 1) := by decide +kernel
theorem own_d7_23 : decode method_3_code 23 = .ok (.iload_n 1, 1) := by decide +kernel
theorem own_d7_24 : decode method_3_code 24 = .ok (.baload, 1) := by decide +kernel
theorem own_d7_25 : decode method_3_code 25 = .ok (.bipush 10, 2) := by decide +kernel
theorem own_d7_27 : decode method_3_code 27 = .ok (.if_icmp .ne 41, 3) := by decide +kernel
theorem own_d7_30 : decode method_3_code 30 = .ok (.iload_n 1, 1) := by decide +kernel
theorem own_d7_31 : decode method_3_code 31 = .ok (.iload_n 2, 1) := by decide +kernel
theorem own_d7_32 : decode method_3_code 32 = .ok (.if_icmp .ne 8, 3) := by decide +kernel
theorem own_d7_35 : decode method_3_code 35 = .ok (.iload 4, 2) := by decide +kernel
theorem own_d7_37 : decode method_3_code 37 = .ok (.goto 18, 3) := by decide +kernel
theorem own_d7_55 : decode method_3_code 55 = .ok (.istore 5, 2) := by decide +kernel
theorem own_d7_57 : decode method_3_code 57 = .ok (.iload 5, 2) := by decide +kernel
theorem own_d7_59 : decode method_3_code 59 = .ok (.ifCond .eq 7, 3) := by decide +kernel
theorem own_d7_62 : decode method_3_code 62 = .ok (.iconst 0, 1) := by decide +kernel
theorem own_d7_63 : decode method_3_code 63 = .ok (.goto 4, 3) := by decide +kernel
theorem own_d7_66 : decode method_3_code 66 = .ok (.iconst 1, 1) := by decide +kernel
theorem own_d7_67 : decode method_3_code 67 = .ok (.ireturn, 1) := by decide +kernel
theorem own_d7_68 : decode method_3_code 68 = .ok (.iconst 0, 1) := by decide +kernel
theorem own_d7_69 : decode method_3_code 69 = .ok (.ireturn, 1) := by decide +kernel
theorem own_ef7i0 (m : MethodId) (x0 : Addr) (x2 : Int32) (x3 : Int32) (x4 : Int32) : entryFrame m #[(.ref x0), (.int (0 : Int32)), (.int x2), (.int x3), (.int x4)] 6 = mkF m 0 #[.val (.ref x0), .val (.int (0 : Int32)), .val (.int x2), .val (.int x3), .val (.int x4), .unset] [] := by first | (simp [entryFrame, mkF, argsToLocals, Value.category]; done) | rfl
def own_brk0 (i2 : Int32) (i3 : Int32) (i4 : Int32) (b0 : Int32) (b1 : Int32) (b2 : Int32) (b3 : Int32) : Int32 :=
  if (0 : Int32) < i2 then
    (0 : Int32)
  else
    if (0 : Int32) < i3 then
      if b0 = (13 : Int32) then
        (1 : Int32)
      else
        if b0 = (10 : Int32) then
          if i4 = (0 : Int32) then
            (1 : Int32)
          else
            (0 : Int32)
        else
          (0 : Int32)
    else
      (0 : Int32)
def own_Q7i0 (Z : State) (r0 : Addr) (i2 : Int32) (i3 : Int32) (i4 : Int32) (kk : ClassId) (b0 : Int32) (b1 : Int32) (b2 : Int32) (b3 : Int32) (h0 : Heap) (n0 : Nat) (v : Option Value) (h : Heap) (L : List Loc) : Prop := v = some (.int (own_brk0 i2 i3 i4 b0 b1 b2 b3)) ∧ Fr n0 L ∧ h = h0
set_option maxRecDepth 65536 in
set_option maxHeartbeats 40000000 in
theorem own_rm7i0 (l : Launch) (Z : State) (a0 : Array Value) (hw : ∀ d ∈ tables_1, d.before a0 Z = true) (ws : List Jvm.Cond) (r0 : Addr) (i2 : Int32) (i3 : Int32) (i4 : Int32) (kk : ClassId) (b0 : Int32) (b1 : Int32) (b2 : Int32) (b3 : Int32) (h0 : Heap) (n0 : Nat) (Z0 : n0 ≤ h0.size) (P0 : Arv Z h0 r0 kk .byte (4 : Int32) [(.int b0), (.int b1), (.int b2), (.int b3)] (.int (0 : Int32))) (h0s : ¬ i2 < (0 : Int32)) :
    MetFree l (⟨"traceward/schema/LineBreaksTakePinLaw", "brk", "([BIIIZ)I"⟩ : MethodName) (head1 (Jvm.Cond.code (⟨"traceward/schema/LineBreaksTakePinLaw", "brk", "([BIIIZ)I"⟩ : MethodName) method_3_code 6 (some .int) :: ws) ({ frames := 0, cells := 0, slots := 0, locals := 0 } : Room)) (fun a U => a = #[(.ref r0), (.int (0 : Int32)), (.int i2), (.int i3), (.int i4)] ∧ Z.Warmed39 U.vm ∧ U.heap = h0) (fun _ _ _ _ _ => True) (fun _ U o U' => ∃ v L, o = .returned v ∧ own_Q7i0 Z r0 i2 i3 i4 kk b0 b1 b2 b3 h0 n0 v U'.heap L ∧ FrameEnd U o U' L ({ frames := 0, cells := 0, slots := 0, locals := 0 } : Room).cells ({ frames := 0, cells := 0, slots := 0, locals := 0 } : Room).slots) := by
  refine MetFree.of_bodySF (plainFor_of_name own_pn0) hisR ?_
  intro p e s m args below meth c s₁ Bd hml0 hP hK
  obtain ⟨rfl, hZ, hh⟩ := hP
  have hx := Bd.exec
  have hby := Bd.bytes
  have hret := Bd.returns
  have hlk := BodyLoose.notSynchronized Bd
  have hml : c.maxLocals = 6 := hml0
  have hown : s.vm.findClass "traceward/schema/LineBreaksTakePinLaw" = some m.cls := findClass_of_methodNamed Bd.named
  have hnm := (name_of_methodNamed Bd.named Bd.method).1
  have X0 : Stand p l e ({ frames := 0, cells := 0, slots := 0, locals := 0 } : Room) s m #[(.ref r0), (.int (0 : Int32)), (.int i2), (.int i3), (.int i4)] below meth c s₁ [] 0 0 := Stand.of_body Bd
  have e0 : s₁.heap = h0 := by rw [← hh, Bd.state]; rfl
  have N0 := Fr.nil n0
  have K0 : Keep h0 h0 [] := Keep.refl h0 _
  show ownE p e below s (own_Q7i0 Z r0 i2 i3 i4 kk b0 b1 b2 b3 h0 n0) ({ frames := 0, cells := 0, slots := 0, locals := 0 } : Room).cells ({ frames := 0, cells := 0, slots := 0, locals := 0 } : Room).slots s₁ (entryFrame m #[(.ref r0), (.int (0 : Int32)), (.int i2), (.int i3), (.int i4)] 6)
  rw [own_ef7i0]
  refine ownE.go (T' := s₁) (f' := (mkF m 2 #[.val (.ref r0), .val (.int (0 : Int32)), .val (.int i2), .val (.int i3), .val (.int i4), .unset] [(.int i2), (.int (0 : Int32))])) (fun t kt => ?_) ?_
  · show Steps p.tables e below (s₁.setTop (mkF m 0 #[.val (.ref r0), .val (.int (0 : Int32)), .val (.int i2), .val (.int i3), .val (.int i4), .unset] [])) _
    refine XS.iloadN X0.here hx rfl (hb hby own_d7_0) rfl ?_
    show Steps p.tables e below (s₁.setTop (mkF m 1 #[.val (.ref r0), .val (.int (0 : Int32)), .val (.int i2), .val (.int i3), .val (.int i4), .unset] [(.int (0 : Int32))])) _
    refine XS.iloadN X0.here hx rfl (hb hby own_d7_1) rfl ?_
    exact kt
  by_cases hc1 : (0 : Int32) < i2
  · -- pc 2
    refine ownE.go (T' := s₁) (f' := (mkF m 10 #[.val (.ref r0), .val (.int (0 : Int32)), .val (.int i2), .val (.int i3), .val (.int i4), .unset] [])) (fun t kt => XS.icmpYes (g := (mkF m 2 #[.val (.ref r0), .val (.int (0 : Int32)), .val (.int i2), .val (.int i3), .val (.int i4), .unset] [(.int i2), (.int (0 : Int32))])) X0.here hx rfl (pc0 := 2) (pc' := 10) rfl (hb hby own_d7_2) rfl (Jvm.Free.XT.ii_lt_t hc1) (by decide) (by decide) kt) ?_
    refine ownE.go (T' := s₁) (f' := (mkF m 11 #[.val (.ref r0), .val (.int (0 : Int32)), .val (.int i2), .val (.int i3), .val (.int i4), .unset] [(.int (0 : Int32))])) (fun t kt => ?_) ?_
    · show Steps p.tables e below (s₁.setTop (mkF m 10 #[.val (.ref r0), .val (.int (0 : Int32)), .val (.int i2), .val (.int i3), .val (.int i4), .unset] [])) _
      refine XS.iconst X0.here hx rfl (hb hby own_d7_10) ?_
      exact kt
    refine ownE.retI X0 hx hlk hret (hb hby own_d7_11) ?_ (by decide) (by decide)
    show own_Q7i0 Z r0 i2 i3 i4 kk b0 b1 b2 b3 h0 n0 _ s₁.heap _
    rw [e0]
    exact ⟨(by rw [own_brk0, if_pos hc1] <;> first | rfl | decide), N0, rfl⟩
  · -- pc 2
    refine ownE.go (T' := s₁) (f' := (mkF m 5 #[.val (.ref r0), .val (.int (0 : Int32)), .val (.int i2), .val (.int i3), .val (.int i4), .unset] [])) (fun t kt => XS.icmpNo (g := (mkF m 2 #[.val (.ref r0), .val (.int (0 : Int32)), .val (.int i2), .val (.int i3), .val (.int i4), .unset] [(.int i2), (.int (0 : Int32))])) X0.here hx rfl (hb hby own_d7_2) rfl (Jvm.Free.XT.ii_lt_f hc1) kt) ?_
    refine ownE.go (T' := s₁) (f' := (mkF m 7 #[.val (.ref r0), .val (.int (0 : Int32)), .val (.int i2), .val (.int i3), .val (.int i4), .unset] [(.int i3), (.int (0 : Int32))])) (fun t kt => ?_) ?_
    · show Steps p.tables e below (s₁.setTop (mkF m 5 #[.val (.ref r0), .val (.int (0 : Int32)), .val (.int i2), .val (.int i3), .val (.int i4), .unset] [])) _
      refine XS.iloadN X0.here hx rfl (hb hby own_d7_5) rfl ?_
      show Steps p.tables e below (s₁.setTop (mkF m 6 #[.val (.ref r0), .val (.int (0 : Int32)), .val (.int i2), .val (.int i3), .val (.int i4), .unset] [(.int (0 : Int32))])) _
      refine XS.iloadN X0.here hx rfl (hb hby own_d7_6) rfl ?_
      exact kt
    by_cases hc2 : (0 : Int32) < i3
    · -- pc 7
      refine ownE.go (T' := s₁) (f' := (mkF m 12 #[.val (.ref r0), .val (.int (0 : Int32)), .val (.int i2), .val (.int i3), .val (.int i4), .unset] [])) (fun t kt => XS.icmpYes (g := (mkF m 7 #[.val (.ref r0), .val (.int (0 : Int32)), .val (.int i2), .val (.int i3), .val (.int i4), .unset] [(.int i3), (.int (0 : Int32))])) X0.here hx rfl (pc0 := 7) (pc' := 12) rfl (hb hby own_d7_7) rfl (Jvm.Free.XT.ii_lt_t hc2) (by decide) (by decide) kt) ?_
      refine ownE.go (T' := s₁) (f' := (mkF m 14 #[.val (.ref r0), .val (.int (0 : Int32)), .val (.int i2), .val (.int i3), .val (.int i4), .unset] [(.int (0 : Int32)), (.ref r0)])) (fun t kt => ?_) ?_
      · show Steps p.tables e below (s₁.setTop (mkF m 12 #[.val (.ref r0), .val (.int (0 : Int32)), .val (.int i2), .val (.int i3), .val (.int i4), .unset] [])) _
        refine XS.aloadN X0.here hx rfl (hb hby own_d7_12) rfl rfl ?_
        show Steps p.tables e below (s₁.setTop (mkF m 13 #[.val (.ref r0), .val (.int (0 : Int32)), .val (.int i2), .val (.int i3), .val (.int i4), .unset] [(.ref r0)])) _
        refine XS.iloadN X0.here hx rfl (hb hby own_d7_13) rfl ?_
        exact kt
      obtain ⟨cl3, Ar3, q3, S3, Nn3, Hh3, G3⟩ := id P0
      refine ownE.go (T' := s₁) (f' := (mkF m 15 #[.val (.ref r0), .val (.int (0 : Int32)), .val (.int i2), .val (.int i3), .val (.int i4), .unset] [(.int b0)])) (fun t kt => X0.baloadBytes hx (j := (0 : Int32)) (v := (.int b0)) (by rw [e0]; exact Ar3.1) (State.isArrayOf_alike hZ.alike Ar3.2.1) Ar3.2.2 (inb_of S3 ⟨by decide, by decide⟩) (Hh3.at (inb_of S3 ⟨by decide, by decide⟩) rfl) (g := (mkF m 14 #[.val (.ref r0), .val (.int (0 : Int32)), .val (.int i2), .val (.int i3), .val (.int i4), .unset] [(.int (0 : Int32)), (.ref r0)])) rfl rfl (hb hby own_d7_14) _ kt) ?_
      refine ownE.go (T' := s₁) (f' := (mkF m 17 #[.val (.ref r0), .val (.int (0 : Int32)), .val (.int i2), .val (.int i3), .val (.int i4), .unset] [(.int (13 : Int32)), (.int b0)])) (fun t kt => ?_) ?_
      · show Steps p.tables e below (s₁.setTop (mkF m 15 #[.val (.ref r0), .val (.int (0 : Int32)), .val (.int i2), .val (.int i3), .val (.int i4), .unset] [(.int b0)])) _
        refine XS.bipush X0.here hx rfl (hb hby own_d7_15) ?_
        exact kt
      by_cases hc4 : b0 = (13 : Int32)
      · -- pc 17
        refine ownE.go (T' := s₁) (f' := (mkF m 20 #[.val (.ref r0), .val (.int (0 : Int32)), .val (.int i2), .val (.int i3), .val (.int i4), .unset] [])) (fun t kt => XS.icmpNo (g := (mkF m 17 #[.val (.ref r0), .val (.int (0 : Int32)), .val (.int i2), .val (.int i3), .val (.int i4), .unset] [(.int (13 : Int32)), (.int b0)])) X0.here hx rfl (hb hby own_d7_17) rfl (Jvm.Free.XT.ii_ne_f hc4) kt) ?_
        refine ownE.go (T' := s₁) (f' := (mkF m 21 #[.val (.ref r0), .val (.int (0 : Int32)), .val (.int i2), .val (.int i3), .val (.int i4), .unset] [(.int (1 : Int32))])) (fun t kt => ?_) ?_
        · show Steps p.tables e below (s₁.setTop (mkF m 20 #[.val (.ref r0), .val (.int (0 : Int32)), .val (.int i2), .val (.int i3), .val (.int i4), .unset] [])) _
          refine XS.iconst X0.here hx rfl (hb hby own_d7_20) ?_
          exact kt
        refine ownE.retI X0 hx hlk hret (hb hby own_d7_21) ?_ (by decide) (by decide)
        show own_Q7i0 Z r0 i2 i3 i4 kk b0 b1 b2 b3 h0 n0 _ s₁.heap _
        rw [e0]
        exact ⟨(by rw [own_brk0, if_neg hc1, if_pos hc2, if_pos hc4] <;> first | rfl | decide), N0, rfl⟩
      · -- pc 17
        refine ownE.go (T' := s₁) (f' := (mkF m 22 #[.val (.ref r0), .val (.int (0 : Int32)), .val (.int i2), .val (.int i3), .val (.int i4), .unset] [])) (fun t kt => XS.icmpYes (g := (mkF m 17 #[.val (.ref r0), .val (.int (0 : Int32)), .val (.int i2), .val (.int i3), .val (.int i4), .unset] [(.int (13 : Int32)), (.int b0)])) X0.here hx rfl (pc0 := 17) (pc' := 22) rfl (hb hby own_d7_17) rfl (Jvm.Free.XT.ii_ne_t hc4) (by decide) (by decide) kt) ?_
        refine ownE.go (T' := s₁) (f' := (mkF m 24 #[.val (.ref r0), .val (.int (0 : Int32)), .val (.int i2), .val (.int i3), .val (.int i4), .unset] [(.int (0 : Int32)), (.ref r0)])) (fun t kt => ?_) ?_
        · show Steps p.tables e below (s₁.setTop (mkF m 22 #[.val (.ref r0), .val (.int (0 : Int32)), .val (.int i2), .val (.int i3), .val (.int i4), .unset] [])) _
          refine XS.aloadN X0.here hx rfl (hb hby own_d7_22) rfl rfl ?_
          show Steps p.tables e below (s₁.setTop (mkF m 23 #[.val (.ref r0), .val (.int (0 : Int32)), .val (.int i2), .val (.int i3), .val (.int i4), .unset] [(.ref r0)])) _
          refine XS.iloadN X0.here hx rfl (hb hby own_d7_23) rfl ?_
          exact kt
        obtain ⟨cl5, Ar5, q5, S5, Nn5, Hh5, G5⟩ := id P0
        refine ownE.go (T' := s₁) (f' := (mkF m 25 #[.val (.ref r0), .val (.int (0 : Int32)), .val (.int i2), .val (.int i3), .val (.int i4), .unset] [(.int b0)])) (fun t kt => X0.baloadBytes hx (j := (0 : Int32)) (v := (.int b0)) (by rw [e0]; exact Ar5.1) (State.isArrayOf_alike hZ.alike Ar5.2.1) Ar5.2.2 (inb_of S5 ⟨by decide, by decide⟩) (Hh5.at (inb_of S5 ⟨by decide, by decide⟩) rfl) (g := (mkF m 24 #[.val (.ref r0), .val (.int (0 : Int32)), .val (.int i2), .val (.int i3), .val (.int i4), .unset] [(.int (0 : Int32)), (.ref r0)])) rfl rfl (hb hby own_d7_24) _ kt) ?_
        refine ownE.go (T' := s₁) (f' := (mkF m 27 #[.val (.ref r0), .val (.int (0 : Int32)), .val (.int i2), .val (.int i3), .val (.int i4), .unset] [(.int (10 : Int32)), (.int b0)])) (fun t kt => ?_) ?_
        · show Steps p.tables e below (s₁.setTop (mkF m 25 #[.val (.ref r0), .val (.int (0 : Int32)), .val (.int i2), .val (.int i3), .val (.int i4), .unset] [(.int b0)])) _
          refine XS.bipush X0.here hx rfl (hb hby own_d7_25) ?_
          exact kt
        by_cases hc6 : b0 = (10 : Int32)
        · -- pc 27
          refine ownE.go (T' := s₁) (f' := (mkF m 30 #[.val (.ref r0), .val (.int (0 : Int32)), .val (.int i2), .val (.int i3), .val (.int i4), .unset] [])) (fun t kt => XS.icmpNo (g := (mkF m 27 #[.val (.ref r0), .val (.int (0 : Int32)), .val (.int i2), .val (.int i3), .val (.int i4), .unset] [(.int (10 : Int32)), (.int b0)])) X0.here hx rfl (hb hby own_d7_27) rfl (Jvm.Free.XT.ii_ne_f hc6) kt) ?_
          have J8 : ∀ (TJ8 : State) (locsJ8 : List Loc), Stand p l e ({ frames := 0, cells := 0, slots := 0, locals := 0 } : Room) s m #[(.ref r0), (.int (0 : Int32)), (.int i2), (.int i3), (.int i4)] below meth c TJ8 locsJ8 0 0 → TJ8.heap = h0 → Fr n0 locsJ8 → ownE p e below s (own_Q7i0 Z r0 i2 i3 i4 kk b0 b1 b2 b3 h0 n0) ({ frames := 0, cells := 0, slots := 0, locals := 0 } : Room).cells ({ frames := 0, cells := 0, slots := 0, locals := 0 } : Room).slots TJ8 (mkF m 55 #[.val (.ref r0), .val (.int (0 : Int32)), .val (.int i2), .val (.int i3), .val (.int i4), .unset] [(.int i4)]) := by
            intro TJ8 locsJ8 XJ8 eJ8 NJ8
            refine ownE.go (T' := TJ8) (f' := (mkF m 59 #[.val (.ref r0), .val (.int (0 : Int32)), .val (.int i2), .val (.int i3), .val (.int i4), .val (.int i4)] [(.int i4)])) (fun t kt => ?_) ?_
            · show Steps p.tables e below (TJ8.setTop (mkF m 55 #[.val (.ref r0), .val (.int (0 : Int32)), .val (.int i2), .val (.int i3), .val (.int i4), .unset] [(.int i4)])) _
              refine XS.istore XJ8.here hx rfl (hb hby own_d7_55) rfl (l' := #[.val (.ref r0), .val (.int (0 : Int32)), .val (.int i2), .val (.int i3), .val (.int i4), .val (.int i4)]) rfl ?_
              show Steps p.tables e below (TJ8.setTop (mkF m 57 #[.val (.ref r0), .val (.int (0 : Int32)), .val (.int i2), .val (.int i3), .val (.int i4), .val (.int i4)] [])) _
              refine XS.iload XJ8.here hx rfl (hb hby own_d7_57) rfl ?_
              exact kt
            by_cases hc9 : i4 = (0 : Int32)
            · -- pc 59
              refine ownE.go (T' := TJ8) (f' := (mkF m 66 #[.val (.ref r0), .val (.int (0 : Int32)), .val (.int i2), .val (.int i3), .val (.int i4), .val (.int i4)] [])) (fun t kt => XS.ifYes (g := (mkF m 59 #[.val (.ref r0), .val (.int (0 : Int32)), .val (.int i2), .val (.int i3), .val (.int i4), .val (.int i4)] [(.int i4)])) XJ8.here hx rfl (pc0 := 59) (pc' := 66) rfl (hb hby own_d7_59) rfl (Jvm.Free.XT.i0_eq_t hc9) (by decide) (by decide) kt) ?_
              refine ownE.go (T' := TJ8) (f' := (mkF m 67 #[.val (.ref r0), .val (.int (0 : Int32)), .val (.int i2), .val (.int i3), .val (.int i4), .val (.int i4)] [(.int (1 : Int32))])) (fun t kt => ?_) ?_
              · show Steps p.tables e below (TJ8.setTop (mkF m 66 #[.val (.ref r0), .val (.int (0 : Int32)), .val (.int i2), .val (.int i3), .val (.int i4), .val (.int i4)] [])) _
                refine XS.iconst XJ8.here hx rfl (hb hby own_d7_66) ?_
                exact kt
              refine ownE.retI XJ8 hx hlk hret (hb hby own_d7_67) ?_ (by decide) (by decide)
              show own_Q7i0 Z r0 i2 i3 i4 kk b0 b1 b2 b3 h0 n0 _ TJ8.heap _
              rw [eJ8]
              exact ⟨(by rw [own_brk0, if_neg hc1, if_pos hc2, if_neg hc4, if_pos hc6, if_pos hc9] <;> first | rfl | decide), NJ8, rfl⟩
            · -- pc 59
              refine ownE.go (T' := TJ8) (f' := (mkF m 62 #[.val (.ref r0), .val (.int (0 : Int32)), .val (.int i2), .val (.int i3), .val (.int i4), .val (.int i4)] [])) (fun t kt => XS.ifNo (g := (mkF m 59 #[.val (.ref r0), .val (.int (0 : Int32)), .val (.int i2), .val (.int i3), .val (.int i4), .val (.int i4)] [(.int i4)])) XJ8.here hx rfl (hb hby own_d7_59) rfl (Jvm.Free.XT.i0_eq_f hc9) kt) ?_
              refine ownE.go (T' := TJ8) (f' := (mkF m 67 #[.val (.ref r0), .val (.int (0 : Int32)), .val (.int i2), .val (.int i3), .val (.int i4), .val (.int i4)] [(.int (0 : Int32))])) (fun t kt => ?_) ?_
              · show Steps p.tables e below (TJ8.setTop (mkF m 62 #[.val (.ref r0), .val (.int (0 : Int32)), .val (.int i2), .val (.int i3), .val (.int i4), .val (.int i4)] [])) _
                refine XS.iconst XJ8.here hx rfl (hb hby own_d7_62) ?_
                show Steps p.tables e below (TJ8.setTop (mkF m 63 #[.val (.ref r0), .val (.int (0 : Int32)), .val (.int i2), .val (.int i3), .val (.int i4), .val (.int i4)] [(.int (0 : Int32))])) _
                refine XS.goto XJ8.here hx rfl (pc0 := 63) (pc' := 67) rfl (hb hby own_d7_63) (by decide) (by decide) ?_
                exact kt
              refine ownE.retI XJ8 hx hlk hret (hb hby own_d7_67) ?_ (by decide) (by decide)
              show own_Q7i0 Z r0 i2 i3 i4 kk b0 b1 b2 b3 h0 n0 _ TJ8.heap _
              rw [eJ8]
              exact ⟨(by rw [own_brk0, if_neg hc1, if_pos hc2, if_neg hc4, if_pos hc6, if_neg hc9] <;> first | rfl | decide), NJ8, rfl⟩
          refine ownE.go (T' := s₁) (f' := (mkF m 32 #[.val (.ref r0), .val (.int (0 : Int32)), .val (.int i2), .val (.int i3), .val (.int i4), .unset] [(.int i2), (.int (0 : Int32))])) (fun t kt => ?_) ?_
          · show Steps p.tables e below (s₁.setTop (mkF m 30 #[.val (.ref r0), .val (.int (0 : Int32)), .val (.int i2), .val (.int i3), .val (.int i4), .unset] [])) _
            refine XS.iloadN X0.here hx rfl (hb hby own_d7_30) rfl ?_
            show Steps p.tables e below (s₁.setTop (mkF m 31 #[.val (.ref r0), .val (.int (0 : Int32)), .val (.int i2), .val (.int i3), .val (.int i4), .unset] [(.int (0 : Int32))])) _
            refine XS.iloadN X0.here hx rfl (hb hby own_d7_31) rfl ?_
            exact kt
          refine ownE.go (T' := s₁) (f' := (mkF m 35 #[.val (.ref r0), .val (.int (0 : Int32)), .val (.int i2), .val (.int i3), .val (.int i4), .unset] [])) (fun t kt => XS.icmpNo (g := (mkF m 32 #[.val (.ref r0), .val (.int (0 : Int32)), .val (.int i2), .val (.int i3), .val (.int i4), .unset] [(.int i2), (.int (0 : Int32))])) X0.here hx rfl (hb hby own_d7_32) rfl (Jvm.Free.XT.ii_ne_f (own_eq0 hc1 h0s)) kt) ?_
          refine ownE.go (T' := s₁) (f' := (mkF m 55 #[.val (.ref r0), .val (.int (0 : Int32)), .val (.int i2), .val (.int i3), .val (.int i4), .unset] [(.int i4)])) (fun t kt => ?_) ?_
          · show Steps p.tables e below (s₁.setTop (mkF m 35 #[.val (.ref r0), .val (.int (0 : Int32)), .val (.int i2), .val (.int i3), .val (.int i4), .unset] [])) _
            refine XS.iload X0.here hx rfl (hb hby own_d7_35) rfl ?_
            show Steps p.tables e below (s₁.setTop (mkF m 37 #[.val (.ref r0), .val (.int (0 : Int32)), .val (.int i2), .val (.int i3), .val (.int i4), .unset] [(.int i4)])) _
            refine XS.goto X0.here hx rfl (pc0 := 37) (pc' := 55) rfl (hb hby own_d7_37) (by decide) (by decide) ?_
            exact kt
          have jj := J8 _ _ X0 e0 N0
          exact jj
        · -- pc 27
          refine ownE.go (T' := s₁) (f' := (mkF m 68 #[.val (.ref r0), .val (.int (0 : Int32)), .val (.int i2), .val (.int i3), .val (.int i4), .unset] [])) (fun t kt => XS.icmpYes (g := (mkF m 27 #[.val (.ref r0), .val (.int (0 : Int32)), .val (.int i2), .val (.int i3), .val (.int i4), .unset] [(.int (10 : Int32)), (.int b0)])) X0.here hx rfl (pc0 := 27) (pc' := 68) rfl (hb hby own_d7_27) rfl (Jvm.Free.XT.ii_ne_t hc6) (by decide) (by decide) kt) ?_
          refine ownE.go (T' := s₁) (f' := (mkF m 69 #[.val (.ref r0), .val (.int (0 : Int32)), .val (.int i2), .val (.int i3), .val (.int i4), .unset] [(.int (0 : Int32))])) (fun t kt => ?_) ?_
          · show Steps p.tables e below (s₁.setTop (mkF m 68 #[.val (.ref r0), .val (.int (0 : Int32)), .val (.int i2), .val (.int i3), .val (.int i4), .unset] [])) _
            refine XS.iconst X0.here hx rfl (hb hby own_d7_68) ?_
            exact kt
          refine ownE.retI X0 hx hlk hret (hb hby own_d7_69) ?_ (by decide) (by decide)
          show own_Q7i0 Z r0 i2 i3 i4 kk b0 b1 b2 b3 h0 n0 _ s₁.heap _
          rw [e0]
          exact ⟨(by rw [own_brk0, if_neg hc1, if_pos hc2, if_neg hc4, if_neg hc6] <;> first | rfl | decide), N0, rfl⟩
    · -- pc 7
      refine ownE.go (T' := s₁) (f' := (mkF m 10 #[.val (.ref r0), .val (.int (0 : Int32)), .val (.int i2), .val (.int i3), .val (.int i4), .unset] [])) (fun t kt => XS.icmpNo (g := (mkF m 7 #[.val (.ref r0), .val (.int (0 : Int32)), .val (.int i2), .val (.int i3), .val (.int i4), .unset] [(.int i3), (.int (0 : Int32))])) X0.here hx rfl (hb hby own_d7_7) rfl (Jvm.Free.XT.ii_lt_f hc2) kt) ?_
      refine ownE.go (T' := s₁) (f' := (mkF m 11 #[.val (.ref r0), .val (.int (0 : Int32)), .val (.int i2), .val (.int i3), .val (.int i4), .unset] [(.int (0 : Int32))])) (fun t kt => ?_) ?_
      · show Steps p.tables e below (s₁.setTop (mkF m 10 #[.val (.ref r0), .val (.int (0 : Int32)), .val (.int i2), .val (.int i3), .val (.int i4), .unset] [])) _
        refine XS.iconst X0.here hx rfl (hb hby own_d7_10) ?_
        exact kt
      refine ownE.retI X0 hx hlk hret (hb hby own_d7_11) ?_ (by decide) (by decide)
      show own_Q7i0 Z r0 i2 i3 i4 kk b0 b1 b2 b3 h0 n0 _ s₁.heap _
      rw [e0]
      exact ⟨(by rw [own_brk0, if_neg hc1, if_neg hc2] <;> first | rfl | decide), N0, rfl⟩
def own_j7i1_55_S0 (i2 : Int32) (i3 : Int32) (i4 : Int32) (b0 : Int32) (b1 : Int32) (b2 : Int32) (b3 : Int32) : Int32 :=
  if (1 : Int32) = i2 then
    i4
  else
    if b0 = (13 : Int32) then
      (1 : Int32)
    else
      (0 : Int32)
theorem own_d7_40 : decode method_3_code 40 = .ok (.aload_n 0, 1) := by decide +kernel
theorem own_d7_41 : decode method_3_code 41 = .ok (.iload_n 1, 1) := by decide +kernel
theorem own_d7_42 : decode method_3_code 42 = .ok (.iconst 1, 1) := by decide +kernel
theorem own_d7_43 : decode method_3_code 43 = .ok (.isub, 1) := by decide +kernel
theorem own_d7_44 : decode method_3_code 44 = .ok (.baload, 1) := by decide +kernel
theorem own_d7_45 : decode method_3_code 45 = .ok (.bipush 13, 2) := by decide +kernel
theorem own_d7_47 : decode method_3_code 47 = .ok (.if_icmp .ne 7, 3) := by decide +kernel
theorem own_d7_50 : decode method_3_code 50 = .ok (.iconst 1, 1) := by decide +kernel
theorem own_d7_51 : decode method_3_code 51 = .ok (.goto 4, 3) := by decide +kernel
theorem own_d7_54 : decode method_3_code 54 = .ok (.iconst 0, 1) := by decide +kernel
theorem own_ef7i1 (m : MethodId) (x0 : Addr) (x2 : Int32) (x3 : Int32) (x4 : Int32) : entryFrame m #[(.ref x0), (.int (1 : Int32)), (.int x2), (.int x3), (.int x4)] 6 = mkF m 0 #[.val (.ref x0), .val (.int (1 : Int32)), .val (.int x2), .val (.int x3), .val (.int x4), .unset] [] := by first | (simp [entryFrame, mkF, argsToLocals, Value.category]; done) | rfl
def own_brk1 (i2 : Int32) (i3 : Int32) (i4 : Int32) (b0 : Int32) (b1 : Int32) (b2 : Int32) (b3 : Int32) : Int32 :=
  if (1 : Int32) < i2 then
    (0 : Int32)
  else
    if (1 : Int32) < i3 then
      if b1 = (13 : Int32) then
        (1 : Int32)
      else
        if b1 = (10 : Int32) then
          if (own_j7i1_55_S0 i2 i3 i4 b0 b1 b2 b3) = (0 : Int32) then
            (1 : Int32)
          else
            (0 : Int32)
        else
          (0 : Int32)
    else
      (0 : Int32)
def own_Q7i1 (Z : State) (r0 : Addr) (i2 : Int32) (i3 : Int32) (i4 : Int32) (kk : ClassId) (b0 : Int32) (b1 : Int32) (b2 : Int32) (b3 : Int32) (h0 : Heap) (n0 : Nat) (v : Option Value) (h : Heap) (L : List Loc) : Prop := v = some (.int (own_brk1 i2 i3 i4 b0 b1 b2 b3)) ∧ Fr n0 L ∧ h = h0
set_option maxRecDepth 65536 in
set_option maxHeartbeats 40000000 in
theorem own_rm7i1 (l : Launch) (Z : State) (a0 : Array Value) (hw : ∀ d ∈ tables_1, d.before a0 Z = true) (ws : List Jvm.Cond) (r0 : Addr) (i2 : Int32) (i3 : Int32) (i4 : Int32) (kk : ClassId) (b0 : Int32) (b1 : Int32) (b2 : Int32) (b3 : Int32) (h0 : Heap) (n0 : Nat) (Z0 : n0 ≤ h0.size) (P0 : Arv Z h0 r0 kk .byte (4 : Int32) [(.int b0), (.int b1), (.int b2), (.int b3)] (.int (0 : Int32))) :
    MetFree l (⟨"traceward/schema/LineBreaksTakePinLaw", "brk", "([BIIIZ)I"⟩ : MethodName) (head1 (Jvm.Cond.code (⟨"traceward/schema/LineBreaksTakePinLaw", "brk", "([BIIIZ)I"⟩ : MethodName) method_3_code 6 (some .int) :: ws) ({ frames := 0, cells := 0, slots := 0, locals := 0 } : Room)) (fun a U => a = #[(.ref r0), (.int (1 : Int32)), (.int i2), (.int i3), (.int i4)] ∧ Z.Warmed39 U.vm ∧ U.heap = h0) (fun _ _ _ _ _ => True) (fun _ U o U' => ∃ v L, o = .returned v ∧ own_Q7i1 Z r0 i2 i3 i4 kk b0 b1 b2 b3 h0 n0 v U'.heap L ∧ FrameEnd U o U' L ({ frames := 0, cells := 0, slots := 0, locals := 0 } : Room).cells ({ frames := 0, cells := 0, slots := 0, locals := 0 } : Room).slots) := by
  refine MetFree.of_bodySF (plainFor_of_name own_pn0) hisR ?_
  intro p e s m args below meth c s₁ Bd hml0 hP hK
  obtain ⟨rfl, hZ, hh⟩ := hP
  have hx := Bd.exec
  have hby := Bd.bytes
  have hret := Bd.returns
  have hlk := BodyLoose.notSynchronized Bd
  have hml : c.maxLocals = 6 := hml0
  have hown : s.vm.findClass "traceward/schema/LineBreaksTakePinLaw" = some m.cls := findClass_of_methodNamed Bd.named
  have hnm := (name_of_methodNamed Bd.named Bd.method).1
  have X0 : Stand p l e ({ frames := 0, cells := 0, slots := 0, locals := 0 } : Room) s m #[(.ref r0), (.int (1 : Int32)), (.int i2), (.int i3), (.int i4)] below meth c s₁ [] 0 0 := Stand.of_body Bd
  have e0 : s₁.heap = h0 := by rw [← hh, Bd.state]; rfl
  have N0 := Fr.nil n0
  have K0 : Keep h0 h0 [] := Keep.refl h0 _
  show ownE p e below s (own_Q7i1 Z r0 i2 i3 i4 kk b0 b1 b2 b3 h0 n0) ({ frames := 0, cells := 0, slots := 0, locals := 0 } : Room).cells ({ frames := 0, cells := 0, slots := 0, locals := 0 } : Room).slots s₁ (entryFrame m #[(.ref r0), (.int (1 : Int32)), (.int i2), (.int i3), (.int i4)] 6)
  rw [own_ef7i1]
  refine ownE.go (T' := s₁) (f' := (mkF m 2 #[.val (.ref r0), .val (.int (1 : Int32)), .val (.int i2), .val (.int i3), .val (.int i4), .unset] [(.int i2), (.int (1 : Int32))])) (fun t kt => ?_) ?_
  · show Steps p.tables e below (s₁.setTop (mkF m 0 #[.val (.ref r0), .val (.int (1 : Int32)), .val (.int i2), .val (.int i3), .val (.int i4), .unset] [])) _
    refine XS.iloadN X0.here hx rfl (hb hby own_d7_0) rfl ?_
    show Steps p.tables e below (s₁.setTop (mkF m 1 #[.val (.ref r0), .val (.int (1 : Int32)), .val (.int i2), .val (.int i3), .val (.int i4), .unset] [(.int (1 : Int32))])) _
    refine XS.iloadN X0.here hx rfl (hb hby own_d7_1) rfl ?_
    exact kt
  by_cases hc1 : (1 : Int32) < i2
  · -- pc 2
    refine ownE.go (T' := s₁) (f' := (mkF m 10 #[.val (.ref r0), .val (.int (1 : Int32)), .val (.int i2), .val (.int i3), .val (.int i4), .unset] [])) (fun t kt => XS.icmpYes (g := (mkF m 2 #[.val (.ref r0), .val (.int (1 : Int32)), .val (.int i2), .val (.int i3), .val (.int i4), .unset] [(.int i2), (.int (1 : Int32))])) X0.here hx rfl (pc0 := 2) (pc' := 10) rfl (hb hby own_d7_2) rfl (Jvm.Free.XT.ii_lt_t hc1) (by decide) (by decide) kt) ?_
    refine ownE.go (T' := s₁) (f' := (mkF m 11 #[.val (.ref r0), .val (.int (1 : Int32)), .val (.int i2), .val (.int i3), .val (.int i4), .unset] [(.int (0 : Int32))])) (fun t kt => ?_) ?_
    · show Steps p.tables e below (s₁.setTop (mkF m 10 #[.val (.ref r0), .val (.int (1 : Int32)), .val (.int i2), .val (.int i3), .val (.int i4), .unset] [])) _
      refine XS.iconst X0.here hx rfl (hb hby own_d7_10) ?_
      exact kt
    refine ownE.retI X0 hx hlk hret (hb hby own_d7_11) ?_ (by decide) (by decide)
    show own_Q7i1 Z r0 i2 i3 i4 kk b0 b1 b2 b3 h0 n0 _ s₁.heap _
    rw [e0]
    exact ⟨(by rw [own_brk1, if_pos hc1] <;> first | rfl | decide), N0, rfl⟩
  · -- pc 2
    refine ownE.go (T' := s₁) (f' := (mkF m 5 #[.val (.ref r0), .val (.int (1 : Int32)), .val (.int i2), .val (.int i3), .val (.int i4), .unset] [])) (fun t kt => XS.icmpNo (g := (mkF m 2 #[.val (.ref r0), .val (.int (1 : Int32)), .val (.int i2), .val (.int i3), .val (.int i4), .unset] [(.int i2), (.int (1 : Int32))])) X0.here hx rfl (hb hby own_d7_2) rfl (Jvm.Free.XT.ii_lt_f hc1) kt) ?_
    refine ownE.go (T' := s₁) (f' := (mkF m 7 #[.val (.ref r0), .val (.int (1 : Int32)), .val (.int i2), .val (.int i3), .val (.int i4), .unset] [(.int i3), (.int (1 : Int32))])) (fun t kt => ?_) ?_
    · show Steps p.tables e below (s₁.setTop (mkF m 5 #[.val (.ref r0), .val (.int (1 : Int32)), .val (.int i2), .val (.int i3), .val (.int i4), .unset] [])) _
      refine XS.iloadN X0.here hx rfl (hb hby own_d7_5) rfl ?_
      show Steps p.tables e below (s₁.setTop (mkF m 6 #[.val (.ref r0), .val (.int (1 : Int32)), .val (.int i2), .val (.int i3), .val (.int i4), .unset] [(.int (1 : Int32))])) _
      refine XS.iloadN X0.here hx rfl (hb hby own_d7_6) rfl ?_
      exact kt
    by_cases hc2 : (1 : Int32) < i3
    · -- pc 7
      refine ownE.go (T' := s₁) (f' := (mkF m 12 #[.val (.ref r0), .val (.int (1 : Int32)), .val (.int i2), .val (.int i3), .val (.int i4), .unset] [])) (fun t kt => XS.icmpYes (g := (mkF m 7 #[.val (.ref r0), .val (.int (1 : Int32)), .val (.int i2), .val (.int i3), .val (.int i4), .unset] [(.int i3), (.int (1 : Int32))])) X0.here hx rfl (pc0 := 7) (pc' := 12) rfl (hb hby own_d7_7) rfl (Jvm.Free.XT.ii_lt_t hc2) (by decide) (by decide) kt) ?_
      refine ownE.go (T' := s₁) (f' := (mkF m 14 #[.val (.ref r0), .val (.int (1 : Int32)), .val (.int i2), .val (.int i3), .val (.int i4), .unset] [(.int (1 : Int32)), (.ref r0)])) (fun t kt => ?_) ?_
      · show Steps p.tables e below (s₁.setTop (mkF m 12 #[.val (.ref r0), .val (.int (1 : Int32)), .val (.int i2), .val (.int i3), .val (.int i4), .unset] [])) _
        refine XS.aloadN X0.here hx rfl (hb hby own_d7_12) rfl rfl ?_
        show Steps p.tables e below (s₁.setTop (mkF m 13 #[.val (.ref r0), .val (.int (1 : Int32)), .val (.int i2), .val (.int i3), .val (.int i4), .unset] [(.ref r0)])) _
        refine XS.iloadN X0.here hx rfl (hb hby own_d7_13) rfl ?_
        exact kt
      obtain ⟨cl3, Ar3, q3, S3, Nn3, Hh3, G3⟩ := id P0
      refine ownE.go (T' := s₁) (f' := (mkF m 15 #[.val (.ref r0), .val (.int (1 : Int32)), .val (.int i2), .val (.int i3), .val (.int i4), .unset] [(.int b1)])) (fun t kt => X0.baloadBytes hx (j := (1 : Int32)) (v := (.int b1)) (by rw [e0]; exact Ar3.1) (State.isArrayOf_alike hZ.alike Ar3.2.1) Ar3.2.2 (inb_of S3 ⟨by decide, by decide⟩) (Hh3.at (inb_of S3 ⟨by decide, by decide⟩) rfl) (g := (mkF m 14 #[.val (.ref r0), .val (.int (1 : Int32)), .val (.int i2), .val (.int i3), .val (.int i4), .unset] [(.int (1 : Int32)), (.ref r0)])) rfl rfl (hb hby own_d7_14) _ kt) ?_
      refine ownE.go (T' := s₁) (f' := (mkF m 17 #[.val (.ref r0), .val (.int (1 : Int32)), .val (.int i2), .val (.int i3), .val (.int i4), .unset] [(.int (13 : Int32)), (.int b1)])) (fun t kt => ?_) ?_
      · show Steps p.tables e below (s₁.setTop (mkF m 15 #[.val (.ref r0), .val (.int (1 : Int32)), .val (.int i2), .val (.int i3), .val (.int i4), .unset] [(.int b1)])) _
        refine XS.bipush X0.here hx rfl (hb hby own_d7_15) ?_
        exact kt
      by_cases hc4 : b1 = (13 : Int32)
      · -- pc 17
        refine ownE.go (T' := s₁) (f' := (mkF m 20 #[.val (.ref r0), .val (.int (1 : Int32)), .val (.int i2), .val (.int i3), .val (.int i4), .unset] [])) (fun t kt => XS.icmpNo (g := (mkF m 17 #[.val (.ref r0), .val (.int (1 : Int32)), .val (.int i2), .val (.int i3), .val (.int i4), .unset] [(.int (13 : Int32)), (.int b1)])) X0.here hx rfl (hb hby own_d7_17) rfl (Jvm.Free.XT.ii_ne_f hc4) kt) ?_
        refine ownE.go (T' := s₁) (f' := (mkF m 21 #[.val (.ref r0), .val (.int (1 : Int32)), .val (.int i2), .val (.int i3), .val (.int i4), .unset] [(.int (1 : Int32))])) (fun t kt => ?_) ?_
        · show Steps p.tables e below (s₁.setTop (mkF m 20 #[.val (.ref r0), .val (.int (1 : Int32)), .val (.int i2), .val (.int i3), .val (.int i4), .unset] [])) _
          refine XS.iconst X0.here hx rfl (hb hby own_d7_20) ?_
          exact kt
        refine ownE.retI X0 hx hlk hret (hb hby own_d7_21) ?_ (by decide) (by decide)
        show own_Q7i1 Z r0 i2 i3 i4 kk b0 b1 b2 b3 h0 n0 _ s₁.heap _
        rw [e0]
        exact ⟨(by rw [own_brk1, if_neg hc1, if_pos hc2, if_pos hc4] <;> first | rfl | decide), N0, rfl⟩
      · -- pc 17
        refine ownE.go (T' := s₁) (f' := (mkF m 22 #[.val (.ref r0), .val (.int (1 : Int32)), .val (.int i2), .val (.int i3), .val (.int i4), .unset] [])) (fun t kt => XS.icmpYes (g := (mkF m 17 #[.val (.ref r0), .val (.int (1 : Int32)), .val (.int i2), .val (.int i3), .val (.int i4), .unset] [(.int (13 : Int32)), (.int b1)])) X0.here hx rfl (pc0 := 17) (pc' := 22) rfl (hb hby own_d7_17) rfl (Jvm.Free.XT.ii_ne_t hc4) (by decide) (by decide) kt) ?_
        refine ownE.go (T' := s₁) (f' := (mkF m 24 #[.val (.ref r0), .val (.int (1 : Int32)), .val (.int i2), .val (.int i3), .val (.int i4), .unset] [(.int (1 : Int32)), (.ref r0)])) (fun t kt => ?_) ?_
        · show Steps p.tables e below (s₁.setTop (mkF m 22 #[.val (.ref r0), .val (.int (1 : Int32)), .val (.int i2), .val (.int i3), .val (.int i4), .unset] [])) _
          refine XS.aloadN X0.here hx rfl (hb hby own_d7_22) rfl rfl ?_
          show Steps p.tables e below (s₁.setTop (mkF m 23 #[.val (.ref r0), .val (.int (1 : Int32)), .val (.int i2), .val (.int i3), .val (.int i4), .unset] [(.ref r0)])) _
          refine XS.iloadN X0.here hx rfl (hb hby own_d7_23) rfl ?_
          exact kt
        obtain ⟨cl5, Ar5, q5, S5, Nn5, Hh5, G5⟩ := id P0
        refine ownE.go (T' := s₁) (f' := (mkF m 25 #[.val (.ref r0), .val (.int (1 : Int32)), .val (.int i2), .val (.int i3), .val (.int i4), .unset] [(.int b1)])) (fun t kt => X0.baloadBytes hx (j := (1 : Int32)) (v := (.int b1)) (by rw [e0]; exact Ar5.1) (State.isArrayOf_alike hZ.alike Ar5.2.1) Ar5.2.2 (inb_of S5 ⟨by decide, by decide⟩) (Hh5.at (inb_of S5 ⟨by decide, by decide⟩) rfl) (g := (mkF m 24 #[.val (.ref r0), .val (.int (1 : Int32)), .val (.int i2), .val (.int i3), .val (.int i4), .unset] [(.int (1 : Int32)), (.ref r0)])) rfl rfl (hb hby own_d7_24) _ kt) ?_
        refine ownE.go (T' := s₁) (f' := (mkF m 27 #[.val (.ref r0), .val (.int (1 : Int32)), .val (.int i2), .val (.int i3), .val (.int i4), .unset] [(.int (10 : Int32)), (.int b1)])) (fun t kt => ?_) ?_
        · show Steps p.tables e below (s₁.setTop (mkF m 25 #[.val (.ref r0), .val (.int (1 : Int32)), .val (.int i2), .val (.int i3), .val (.int i4), .unset] [(.int b1)])) _
          refine XS.bipush X0.here hx rfl (hb hby own_d7_25) ?_
          exact kt
        by_cases hc6 : b1 = (10 : Int32)
        · -- pc 27
          refine ownE.go (T' := s₁) (f' := (mkF m 30 #[.val (.ref r0), .val (.int (1 : Int32)), .val (.int i2), .val (.int i3), .val (.int i4), .unset] [])) (fun t kt => XS.icmpNo (g := (mkF m 27 #[.val (.ref r0), .val (.int (1 : Int32)), .val (.int i2), .val (.int i3), .val (.int i4), .unset] [(.int (10 : Int32)), (.int b1)])) X0.here hx rfl (hb hby own_d7_27) rfl (Jvm.Free.XT.ii_ne_f hc6) kt) ?_
          have J11 : ∀ (TJ11 : State) (locsJ11 : List Loc), Stand p l e ({ frames := 0, cells := 0, slots := 0, locals := 0 } : Room) s m #[(.ref r0), (.int (1 : Int32)), (.int i2), (.int i3), (.int i4)] below meth c TJ11 locsJ11 0 0 → TJ11.heap = h0 → Fr n0 locsJ11 → ownE p e below s (own_Q7i1 Z r0 i2 i3 i4 kk b0 b1 b2 b3 h0 n0) ({ frames := 0, cells := 0, slots := 0, locals := 0 } : Room).cells ({ frames := 0, cells := 0, slots := 0, locals := 0 } : Room).slots TJ11 (mkF m 55 #[.val (.ref r0), .val (.int (1 : Int32)), .val (.int i2), .val (.int i3), .val (.int i4), .unset] [(.int (own_j7i1_55_S0 i2 i3 i4 b0 b1 b2 b3))]) := by
            intro TJ11 locsJ11 XJ11 eJ11 NJ11
            refine ownE.go (T' := TJ11) (f' := (mkF m 59 #[.val (.ref r0), .val (.int (1 : Int32)), .val (.int i2), .val (.int i3), .val (.int i4), .val (.int (own_j7i1_55_S0 i2 i3 i4 b0 b1 b2 b3))] [(.int (own_j7i1_55_S0 i2 i3 i4 b0 b1 b2 b3))])) (fun t kt => ?_) ?_
            · show Steps p.tables e below (TJ11.setTop (mkF m 55 #[.val (.ref r0), .val (.int (1 : Int32)), .val (.int i2), .val (.int i3), .val (.int i4), .unset] [(.int (own_j7i1_55_S0 i2 i3 i4 b0 b1 b2 b3))])) _
              refine XS.istore XJ11.here hx rfl (hb hby own_d7_55) rfl (l' := #[.val (.ref r0), .val (.int (1 : Int32)), .val (.int i2), .val (.int i3), .val (.int i4), .val (.int (own_j7i1_55_S0 i2 i3 i4 b0 b1 b2 b3))]) rfl ?_
              show Steps p.tables e below (TJ11.setTop (mkF m 57 #[.val (.ref r0), .val (.int (1 : Int32)), .val (.int i2), .val (.int i3), .val (.int i4), .val (.int (own_j7i1_55_S0 i2 i3 i4 b0 b1 b2 b3))] [])) _
              refine XS.iload XJ11.here hx rfl (hb hby own_d7_57) rfl ?_
              exact kt
            by_cases hc12 : (own_j7i1_55_S0 i2 i3 i4 b0 b1 b2 b3) = (0 : Int32)
            · -- pc 59
              refine ownE.go (T' := TJ11) (f' := (mkF m 66 #[.val (.ref r0), .val (.int (1 : Int32)), .val (.int i2), .val (.int i3), .val (.int i4), .val (.int (own_j7i1_55_S0 i2 i3 i4 b0 b1 b2 b3))] [])) (fun t kt => XS.ifYes (g := (mkF m 59 #[.val (.ref r0), .val (.int (1 : Int32)), .val (.int i2), .val (.int i3), .val (.int i4), .val (.int (own_j7i1_55_S0 i2 i3 i4 b0 b1 b2 b3))] [(.int (own_j7i1_55_S0 i2 i3 i4 b0 b1 b2 b3))])) XJ11.here hx rfl (pc0 := 59) (pc' := 66) rfl (hb hby own_d7_59) rfl (Jvm.Free.XT.i0_eq_t hc12) (by decide) (by decide) kt) ?_
              refine ownE.go (T' := TJ11) (f' := (mkF m 67 #[.val (.ref r0), .val (.int (1 : Int32)), .val (.int i2), .val (.int i3), .val (.int i4), .val (.int (own_j7i1_55_S0 i2 i3 i4 b0 b1 b2 b3))] [(.int (1 : Int32))])) (fun t kt => ?_) ?_
              · show Steps p.tables e below (TJ11.setTop (mkF m 66 #[.val (.ref r0), .val (.int (1 : Int32)), .val (.int i2), .val (.int i3), .val (.int i4), .val (.int (own_j7i1_55_S0 i2 i3 i4 b0 b1 b2 b3))] [])) _
                refine XS.iconst XJ11.here hx rfl (hb hby own_d7_66) ?_
                exact kt
              refine ownE.retI XJ11 hx hlk hret (hb hby own_d7_67) ?_ (by decide) (by decide)
              show own_Q7i1 Z r0 i2 i3 i4 kk b0 b1 b2 b3 h0 n0 _ TJ11.heap _
              rw [eJ11]
              exact ⟨(by rw [own_brk1, if_neg hc1, if_pos hc2, if_neg hc4, if_pos hc6, if_pos hc12] <;> first | rfl | decide), NJ11, rfl⟩
            · -- pc 59
              refine ownE.go (T' := TJ11) (f' := (mkF m 62 #[.val (.ref r0), .val (.int (1 : Int32)), .val (.int i2), .val (.int i3), .val (.int i4), .val (.int (own_j7i1_55_S0 i2 i3 i4 b0 b1 b2 b3))] [])) (fun t kt => XS.ifNo (g := (mkF m 59 #[.val (.ref r0), .val (.int (1 : Int32)), .val (.int i2), .val (.int i3), .val (.int i4), .val (.int (own_j7i1_55_S0 i2 i3 i4 b0 b1 b2 b3))] [(.int (own_j7i1_55_S0 i2 i3 i4 b0 b1 b2 b3))])) XJ11.here hx rfl (hb hby own_d7_59) rfl (Jvm.Free.XT.i0_eq_f hc12) kt) ?_
              refine ownE.go (T' := TJ11) (f' := (mkF m 67 #[.val (.ref r0), .val (.int (1 : Int32)), .val (.int i2), .val (.int i3), .val (.int i4), .val (.int (own_j7i1_55_S0 i2 i3 i4 b0 b1 b2 b3))] [(.int (0 : Int32))])) (fun t kt => ?_) ?_
              · show Steps p.tables e below (TJ11.setTop (mkF m 62 #[.val (.ref r0), .val (.int (1 : Int32)), .val (.int i2), .val (.int i3), .val (.int i4), .val (.int (own_j7i1_55_S0 i2 i3 i4 b0 b1 b2 b3))] [])) _
                refine XS.iconst XJ11.here hx rfl (hb hby own_d7_62) ?_
                show Steps p.tables e below (TJ11.setTop (mkF m 63 #[.val (.ref r0), .val (.int (1 : Int32)), .val (.int i2), .val (.int i3), .val (.int i4), .val (.int (own_j7i1_55_S0 i2 i3 i4 b0 b1 b2 b3))] [(.int (0 : Int32))])) _
                refine XS.goto XJ11.here hx rfl (pc0 := 63) (pc' := 67) rfl (hb hby own_d7_63) (by decide) (by decide) ?_
                exact kt
              refine ownE.retI XJ11 hx hlk hret (hb hby own_d7_67) ?_ (by decide) (by decide)
              show own_Q7i1 Z r0 i2 i3 i4 kk b0 b1 b2 b3 h0 n0 _ TJ11.heap _
              rw [eJ11]
              exact ⟨(by rw [own_brk1, if_neg hc1, if_pos hc2, if_neg hc4, if_pos hc6, if_neg hc12] <;> first | rfl | decide), NJ11, rfl⟩
          refine ownE.go (T' := s₁) (f' := (mkF m 32 #[.val (.ref r0), .val (.int (1 : Int32)), .val (.int i2), .val (.int i3), .val (.int i4), .unset] [(.int i2), (.int (1 : Int32))])) (fun t kt => ?_) ?_
          · show Steps p.tables e below (s₁.setTop (mkF m 30 #[.val (.ref r0), .val (.int (1 : Int32)), .val (.int i2), .val (.int i3), .val (.int i4), .unset] [])) _
            refine XS.iloadN X0.here hx rfl (hb hby own_d7_30) rfl ?_
            show Steps p.tables e below (s₁.setTop (mkF m 31 #[.val (.ref r0), .val (.int (1 : Int32)), .val (.int i2), .val (.int i3), .val (.int i4), .unset] [(.int (1 : Int32))])) _
            refine XS.iloadN X0.here hx rfl (hb hby own_d7_31) rfl ?_
            exact kt
          by_cases hc8 : (1 : Int32) = i2
          · -- pc 32
            refine ownE.go (T' := s₁) (f' := (mkF m 35 #[.val (.ref r0), .val (.int (1 : Int32)), .val (.int i2), .val (.int i3), .val (.int i4), .unset] [])) (fun t kt => XS.icmpNo (g := (mkF m 32 #[.val (.ref r0), .val (.int (1 : Int32)), .val (.int i2), .val (.int i3), .val (.int i4), .unset] [(.int i2), (.int (1 : Int32))])) X0.here hx rfl (hb hby own_d7_32) rfl (Jvm.Free.XT.ii_ne_f hc8) kt) ?_
            refine ownE.go (T' := s₁) (f' := (mkF m 55 #[.val (.ref r0), .val (.int (1 : Int32)), .val (.int i2), .val (.int i3), .val (.int i4), .unset] [(.int i4)])) (fun t kt => ?_) ?_
            · show Steps p.tables e below (s₁.setTop (mkF m 35 #[.val (.ref r0), .val (.int (1 : Int32)), .val (.int i2), .val (.int i3), .val (.int i4), .unset] [])) _
              refine XS.iload X0.here hx rfl (hb hby own_d7_35) rfl ?_
              show Steps p.tables e below (s₁.setTop (mkF m 37 #[.val (.ref r0), .val (.int (1 : Int32)), .val (.int i2), .val (.int i3), .val (.int i4), .unset] [(.int i4)])) _
              refine XS.goto X0.here hx rfl (pc0 := 37) (pc' := 55) rfl (hb hby own_d7_37) (by decide) (by decide) ?_
              exact kt
            have jj := J11 _ _ X0 e0 N0
            rw [show (own_j7i1_55_S0 i2 i3 i4 b0 b1 b2 b3) = i4 from by rw [own_j7i1_55_S0, if_pos hc8]] at jj
            exact jj
          · -- pc 32
            refine ownE.go (T' := s₁) (f' := (mkF m 40 #[.val (.ref r0), .val (.int (1 : Int32)), .val (.int i2), .val (.int i3), .val (.int i4), .unset] [])) (fun t kt => XS.icmpYes (g := (mkF m 32 #[.val (.ref r0), .val (.int (1 : Int32)), .val (.int i2), .val (.int i3), .val (.int i4), .unset] [(.int i2), (.int (1 : Int32))])) X0.here hx rfl (pc0 := 32) (pc' := 40) rfl (hb hby own_d7_32) rfl (Jvm.Free.XT.ii_ne_t hc8) (by decide) (by decide) kt) ?_
            refine ownE.go (T' := s₁) (f' := (mkF m 44 #[.val (.ref r0), .val (.int (1 : Int32)), .val (.int i2), .val (.int i3), .val (.int i4), .unset] [(.int (0 : Int32)), (.ref r0)])) (fun t kt => ?_) ?_
            · show Steps p.tables e below (s₁.setTop (mkF m 40 #[.val (.ref r0), .val (.int (1 : Int32)), .val (.int i2), .val (.int i3), .val (.int i4), .unset] [])) _
              refine XS.aloadN X0.here hx rfl (hb hby own_d7_40) rfl rfl ?_
              show Steps p.tables e below (s₁.setTop (mkF m 41 #[.val (.ref r0), .val (.int (1 : Int32)), .val (.int i2), .val (.int i3), .val (.int i4), .unset] [(.ref r0)])) _
              refine XS.iloadN X0.here hx rfl (hb hby own_d7_41) rfl ?_
              show Steps p.tables e below (s₁.setTop (mkF m 42 #[.val (.ref r0), .val (.int (1 : Int32)), .val (.int i2), .val (.int i3), .val (.int i4), .unset] [(.int (1 : Int32)), (.ref r0)])) _
              refine XS.iconst X0.here hx rfl (hb hby own_d7_42) ?_
              show Steps p.tables e below (s₁.setTop (mkF m 43 #[.val (.ref r0), .val (.int (1 : Int32)), .val (.int i2), .val (.int i3), .val (.int i4), .unset] [(.int (1 : Int32)), (.int (1 : Int32)), (.ref r0)])) _
              refine XS.isub X0.here hx rfl (hb hby own_d7_43) rfl ?_
              exact kt
            obtain ⟨cl9, Ar9, q9, S9, Nn9, Hh9, G9⟩ := id P0
            refine ownE.go (T' := s₁) (f' := (mkF m 45 #[.val (.ref r0), .val (.int (1 : Int32)), .val (.int i2), .val (.int i3), .val (.int i4), .unset] [(.int b0)])) (fun t kt => X0.baloadBytes hx (j := (0 : Int32)) (v := (.int b0)) (by rw [e0]; exact Ar9.1) (State.isArrayOf_alike hZ.alike Ar9.2.1) Ar9.2.2 (inb_of S9 ⟨by decide, by decide⟩) (Hh9.at (inb_of S9 ⟨by decide, by decide⟩) rfl) (g := (mkF m 44 #[.val (.ref r0), .val (.int (1 : Int32)), .val (.int i2), .val (.int i3), .val (.int i4), .unset] [(.int (0 : Int32)), (.ref r0)])) rfl rfl (hb hby own_d7_44) _ kt) ?_
            refine ownE.go (T' := s₁) (f' := (mkF m 47 #[.val (.ref r0), .val (.int (1 : Int32)), .val (.int i2), .val (.int i3), .val (.int i4), .unset] [(.int (13 : Int32)), (.int b0)])) (fun t kt => ?_) ?_
            · show Steps p.tables e below (s₁.setTop (mkF m 45 #[.val (.ref r0), .val (.int (1 : Int32)), .val (.int i2), .val (.int i3), .val (.int i4), .unset] [(.int b0)])) _
              refine XS.bipush X0.here hx rfl (hb hby own_d7_45) ?_
              exact kt
            by_cases hc10 : b0 = (13 : Int32)
            · -- pc 47
              refine ownE.go (T' := s₁) (f' := (mkF m 50 #[.val (.ref r0), .val (.int (1 : Int32)), .val (.int i2), .val (.int i3), .val (.int i4), .unset] [])) (fun t kt => XS.icmpNo (g := (mkF m 47 #[.val (.ref r0), .val (.int (1 : Int32)), .val (.int i2), .val (.int i3), .val (.int i4), .unset] [(.int (13 : Int32)), (.int b0)])) X0.here hx rfl (hb hby own_d7_47) rfl (Jvm.Free.XT.ii_ne_f hc10) kt) ?_
              refine ownE.go (T' := s₁) (f' := (mkF m 55 #[.val (.ref r0), .val (.int (1 : Int32)), .val (.int i2), .val (.int i3), .val (.int i4), .unset] [(.int (1 : Int32))])) (fun t kt => ?_) ?_
              · show Steps p.tables e below (s₁.setTop (mkF m 50 #[.val (.ref r0), .val (.int (1 : Int32)), .val (.int i2), .val (.int i3), .val (.int i4), .unset] [])) _
                refine XS.iconst X0.here hx rfl (hb hby own_d7_50) ?_
                show Steps p.tables e below (s₁.setTop (mkF m 51 #[.val (.ref r0), .val (.int (1 : Int32)), .val (.int i2), .val (.int i3), .val (.int i4), .unset] [(.int (1 : Int32))])) _
                refine XS.goto X0.here hx rfl (pc0 := 51) (pc' := 55) rfl (hb hby own_d7_51) (by decide) (by decide) ?_
                exact kt
              have jj := J11 _ _ X0 e0 N0
              rw [show (own_j7i1_55_S0 i2 i3 i4 b0 b1 b2 b3) = (1 : Int32) from by rw [own_j7i1_55_S0, if_neg hc8, if_pos hc10]] at jj
              exact jj
            · -- pc 47
              refine ownE.go (T' := s₁) (f' := (mkF m 54 #[.val (.ref r0), .val (.int (1 : Int32)), .val (.int i2), .val (.int i3), .val (.int i4), .unset] [])) (fun t kt => XS.icmpYes (g := (mkF m 47 #[.val (.ref r0), .val (.int (1 : Int32)), .val (.int i2), .val (.int i3), .val (.int i4), .unset] [(.int (13 : Int32)), (.int b0)])) X0.here hx rfl (pc0 := 47) (pc' := 54) rfl (hb hby own_d7_47) rfl (Jvm.Free.XT.ii_ne_t hc10) (by decide) (by decide) kt) ?_
              refine ownE.go (T' := s₁) (f' := (mkF m 55 #[.val (.ref r0), .val (.int (1 : Int32)), .val (.int i2), .val (.int i3), .val (.int i4), .unset] [(.int (0 : Int32))])) (fun t kt => ?_) ?_
              · show Steps p.tables e below (s₁.setTop (mkF m 54 #[.val (.ref r0), .val (.int (1 : Int32)), .val (.int i2), .val (.int i3), .val (.int i4), .unset] [])) _
                refine XS.iconst X0.here hx rfl (hb hby own_d7_54) ?_
                exact kt
              have jj := J11 _ _ X0 e0 N0
              rw [show (own_j7i1_55_S0 i2 i3 i4 b0 b1 b2 b3) = (0 : Int32) from by rw [own_j7i1_55_S0, if_neg hc8, if_neg hc10]] at jj
              exact jj
        · -- pc 27
          refine ownE.go (T' := s₁) (f' := (mkF m 68 #[.val (.ref r0), .val (.int (1 : Int32)), .val (.int i2), .val (.int i3), .val (.int i4), .unset] [])) (fun t kt => XS.icmpYes (g := (mkF m 27 #[.val (.ref r0), .val (.int (1 : Int32)), .val (.int i2), .val (.int i3), .val (.int i4), .unset] [(.int (10 : Int32)), (.int b1)])) X0.here hx rfl (pc0 := 27) (pc' := 68) rfl (hb hby own_d7_27) rfl (Jvm.Free.XT.ii_ne_t hc6) (by decide) (by decide) kt) ?_
          refine ownE.go (T' := s₁) (f' := (mkF m 69 #[.val (.ref r0), .val (.int (1 : Int32)), .val (.int i2), .val (.int i3), .val (.int i4), .unset] [(.int (0 : Int32))])) (fun t kt => ?_) ?_
          · show Steps p.tables e below (s₁.setTop (mkF m 68 #[.val (.ref r0), .val (.int (1 : Int32)), .val (.int i2), .val (.int i3), .val (.int i4), .unset] [])) _
            refine XS.iconst X0.here hx rfl (hb hby own_d7_68) ?_
            exact kt
          refine ownE.retI X0 hx hlk hret (hb hby own_d7_69) ?_ (by decide) (by decide)
          show own_Q7i1 Z r0 i2 i3 i4 kk b0 b1 b2 b3 h0 n0 _ s₁.heap _
          rw [e0]
          exact ⟨(by rw [own_brk1, if_neg hc1, if_pos hc2, if_neg hc4, if_neg hc6] <;> first | rfl | decide), N0, rfl⟩
    · -- pc 7
      refine ownE.go (T' := s₁) (f' := (mkF m 10 #[.val (.ref r0), .val (.int (1 : Int32)), .val (.int i2), .val (.int i3), .val (.int i4), .unset] [])) (fun t kt => XS.icmpNo (g := (mkF m 7 #[.val (.ref r0), .val (.int (1 : Int32)), .val (.int i2), .val (.int i3), .val (.int i4), .unset] [(.int i3), (.int (1 : Int32))])) X0.here hx rfl (hb hby own_d7_7) rfl (Jvm.Free.XT.ii_lt_f hc2) kt) ?_
      refine ownE.go (T' := s₁) (f' := (mkF m 11 #[.val (.ref r0), .val (.int (1 : Int32)), .val (.int i2), .val (.int i3), .val (.int i4), .unset] [(.int (0 : Int32))])) (fun t kt => ?_) ?_
      · show Steps p.tables e below (s₁.setTop (mkF m 10 #[.val (.ref r0), .val (.int (1 : Int32)), .val (.int i2), .val (.int i3), .val (.int i4), .unset] [])) _
        refine XS.iconst X0.here hx rfl (hb hby own_d7_10) ?_
        exact kt
      refine ownE.retI X0 hx hlk hret (hb hby own_d7_11) ?_ (by decide) (by decide)
      show own_Q7i1 Z r0 i2 i3 i4 kk b0 b1 b2 b3 h0 n0 _ s₁.heap _
      rw [e0]
      exact ⟨(by rw [own_brk1, if_neg hc1, if_neg hc2] <;> first | rfl | decide), N0, rfl⟩
def own_j7i2_55_S0 (i2 : Int32) (i3 : Int32) (i4 : Int32) (b0 : Int32) (b1 : Int32) (b2 : Int32) (b3 : Int32) : Int32 :=
  if (2 : Int32) = i2 then
    i4
  else
    if b1 = (13 : Int32) then
      (1 : Int32)
    else
      (0 : Int32)
theorem own_ef7i2 (m : MethodId) (x0 : Addr) (x2 : Int32) (x3 : Int32) (x4 : Int32) : entryFrame m #[(.ref x0), (.int (2 : Int32)), (.int x2), (.int x3), (.int x4)] 6 = mkF m 0 #[.val (.ref x0), .val (.int (2 : Int32)), .val (.int x2), .val (.int x3), .val (.int x4), .unset] [] := by first | (simp [entryFrame, mkF, argsToLocals, Value.category]; done) | rfl
def own_brk2 (i2 : Int32) (i3 : Int32) (i4 : Int32) (b0 : Int32) (b1 : Int32) (b2 : Int32) (b3 : Int32) : Int32 :=
  if (2 : Int32) < i2 then
    (0 : Int32)
  else
    if (2 : Int32) < i3 then
      if b2 = (13 : Int32) then
        (1 : Int32)
      else
        if b2 = (10 : Int32) then
          if (own_j7i2_55_S0 i2 i3 i4 b0 b1 b2 b3) = (0 : Int32) then
            (1 : Int32)
          else
            (0 : Int32)
        else
          (0 : Int32)
    else
      (0 : Int32)
def own_Q7i2 (Z : State) (r0 : Addr) (i2 : Int32) (i3 : Int32) (i4 : Int32) (kk : ClassId) (b0 : Int32) (b1 : Int32) (b2 : Int32) (b3 : Int32) (h0 : Heap) (n0 : Nat) (v : Option Value) (h : Heap) (L : List Loc) : Prop := v = some (.int (own_brk2 i2 i3 i4 b0 b1 b2 b3)) ∧ Fr n0 L ∧ h = h0
set_option maxRecDepth 65536 in
set_option maxHeartbeats 40000000 in
theorem own_rm7i2 (l : Launch) (Z : State) (a0 : Array Value) (hw : ∀ d ∈ tables_1, d.before a0 Z = true) (ws : List Jvm.Cond) (r0 : Addr) (i2 : Int32) (i3 : Int32) (i4 : Int32) (kk : ClassId) (b0 : Int32) (b1 : Int32) (b2 : Int32) (b3 : Int32) (h0 : Heap) (n0 : Nat) (Z0 : n0 ≤ h0.size) (P0 : Arv Z h0 r0 kk .byte (4 : Int32) [(.int b0), (.int b1), (.int b2), (.int b3)] (.int (0 : Int32))) :
    MetFree l (⟨"traceward/schema/LineBreaksTakePinLaw", "brk", "([BIIIZ)I"⟩ : MethodName) (head1 (Jvm.Cond.code (⟨"traceward/schema/LineBreaksTakePinLaw", "brk", "([BIIIZ)I"⟩ : MethodName) method_3_code 6 (some .int) :: ws) ({ frames := 0, cells := 0, slots := 0, locals := 0 } : Room)) (fun a U => a = #[(.ref r0), (.int (2 : Int32)), (.int i2), (.int i3), (.int i4)] ∧ Z.Warmed39 U.vm ∧ U.heap = h0) (fun _ _ _ _ _ => True) (fun _ U o U' => ∃ v L, o = .returned v ∧ own_Q7i2 Z r0 i2 i3 i4 kk b0 b1 b2 b3 h0 n0 v U'.heap L ∧ FrameEnd U o U' L ({ frames := 0, cells := 0, slots := 0, locals := 0 } : Room).cells ({ frames := 0, cells := 0, slots := 0, locals := 0 } : Room).slots) := by
  refine MetFree.of_bodySF (plainFor_of_name own_pn0) hisR ?_
  intro p e s m args below meth c s₁ Bd hml0 hP hK
  obtain ⟨rfl, hZ, hh⟩ := hP
  have hx := Bd.exec
  have hby := Bd.bytes
  have hret := Bd.returns
  have hlk := BodyLoose.notSynchronized Bd
  have hml : c.maxLocals = 6 := hml0
  have hown : s.vm.findClass "traceward/schema/LineBreaksTakePinLaw" = some m.cls := findClass_of_methodNamed Bd.named
  have hnm := (name_of_methodNamed Bd.named Bd.method).1
  have X0 : Stand p l e ({ frames := 0, cells := 0, slots := 0, locals := 0 } : Room) s m #[(.ref r0), (.int (2 : Int32)), (.int i2), (.int i3), (.int i4)] below meth c s₁ [] 0 0 := Stand.of_body Bd
  have e0 : s₁.heap = h0 := by rw [← hh, Bd.state]; rfl
  have N0 := Fr.nil n0
  have K0 : Keep h0 h0 [] := Keep.refl h0 _
  show ownE p e below s (own_Q7i2 Z r0 i2 i3 i4 kk b0 b1 b2 b3 h0 n0) ({ frames := 0, cells := 0, slots := 0, locals := 0 } : Room).cells ({ frames := 0, cells := 0, slots := 0, locals := 0 } : Room).slots s₁ (entryFrame m #[(.ref r0), (.int (2 : Int32)), (.int i2), (.int i3), (.int i4)] 6)
  rw [own_ef7i2]
  refine ownE.go (T' := s₁) (f' := (mkF m 2 #[.val (.ref r0), .val (.int (2 : Int32)), .val (.int i2), .val (.int i3), .val (.int i4), .unset] [(.int i2), (.int (2 : Int32))])) (fun t kt => ?_) ?_
  · show Steps p.tables e below (s₁.setTop (mkF m 0 #[.val (.ref r0), .val (.int (2 : Int32)), .val (.int i2), .val (.int i3), .val (.int i4), .unset] [])) _
    refine XS.iloadN X0.here hx rfl (hb hby own_d7_0) rfl ?_
    show Steps p.tables e below (s₁.setTop (mkF m 1 #[.val (.ref r0), .val (.int (2 : Int32)), .val (.int i2), .val (.int i3), .val (.int i4), .unset] [(.int (2 : Int32))])) _
    refine XS.iloadN X0.here hx rfl (hb hby own_d7_1) rfl ?_
    exact kt
  by_cases hc1 : (2 : Int32) < i2
  · -- pc 2
    refine ownE.go (T' := s₁) (f' := (mkF m 10 #[.val (.ref r0), .val (.int (2 : Int32)), .val (.int i2), .val (.int i3), .val (.int i4), .unset] [])) (fun t kt => XS.icmpYes (g := (mkF m 2 #[.val (.ref r0), .val (.int (2 : Int32)), .val (.int i2), .val (.int i3), .val (.int i4), .unset] [(.int i2), (.int (2 : Int32))])) X0.here hx rfl (pc0 := 2) (pc' := 10) rfl (hb hby own_d7_2) rfl (Jvm.Free.XT.ii_lt_t hc1) (by decide) (by decide) kt) ?_
    refine ownE.go (T' := s₁) (f' := (mkF m 11 #[.val (.ref r0), .val (.int (2 : Int32)), .val (.int i2), .val (.int i3), .val (.int i4), .unset] [(.int (0 : Int32))])) (fun t kt => ?_) ?_
    · show Steps p.tables e below (s₁.setTop (mkF m 10 #[.val (.ref r0), .val (.int (2 : Int32)), .val (.int i2), .val (.int i3), .val (.int i4), .unset] [])) _
      refine XS.iconst X0.here hx rfl (hb hby own_d7_10) ?_
      exact kt
    refine ownE.retI X0 hx hlk hret (hb hby own_d7_11) ?_ (by decide) (by decide)
    show own_Q7i2 Z r0 i2 i3 i4 kk b0 b1 b2 b3 h0 n0 _ s₁.heap _
    rw [e0]
    exact ⟨(by rw [own_brk2, if_pos hc1] <;> first | rfl | decide), N0, rfl⟩
  · -- pc 2
    refine ownE.go (T' := s₁) (f' := (mkF m 5 #[.val (.ref r0), .val (.int (2 : Int32)), .val (.int i2), .val (.int i3), .val (.int i4), .unset] [])) (fun t kt => XS.icmpNo (g := (mkF m 2 #[.val (.ref r0), .val (.int (2 : Int32)), .val (.int i2), .val (.int i3), .val (.int i4), .unset] [(.int i2), (.int (2 : Int32))])) X0.here hx rfl (hb hby own_d7_2) rfl (Jvm.Free.XT.ii_lt_f hc1) kt) ?_
    refine ownE.go (T' := s₁) (f' := (mkF m 7 #[.val (.ref r0), .val (.int (2 : Int32)), .val (.int i2), .val (.int i3), .val (.int i4), .unset] [(.int i3), (.int (2 : Int32))])) (fun t kt => ?_) ?_
    · show Steps p.tables e below (s₁.setTop (mkF m 5 #[.val (.ref r0), .val (.int (2 : Int32)), .val (.int i2), .val (.int i3), .val (.int i4), .unset] [])) _
      refine XS.iloadN X0.here hx rfl (hb hby own_d7_5) rfl ?_
      show Steps p.tables e below (s₁.setTop (mkF m 6 #[.val (.ref r0), .val (.int (2 : Int32)), .val (.int i2), .val (.int i3), .val (.int i4), .unset] [(.int (2 : Int32))])) _
      refine XS.iloadN X0.here hx rfl (hb hby own_d7_6) rfl ?_
      exact kt
    by_cases hc2 : (2 : Int32) < i3
    · -- pc 7
      refine ownE.go (T' := s₁) (f' := (mkF m 12 #[.val (.ref r0), .val (.int (2 : Int32)), .val (.int i2), .val (.int i3), .val (.int i4), .unset] [])) (fun t kt => XS.icmpYes (g := (mkF m 7 #[.val (.ref r0), .val (.int (2 : Int32)), .val (.int i2), .val (.int i3), .val (.int i4), .unset] [(.int i3), (.int (2 : Int32))])) X0.here hx rfl (pc0 := 7) (pc' := 12) rfl (hb hby own_d7_7) rfl (Jvm.Free.XT.ii_lt_t hc2) (by decide) (by decide) kt) ?_
      refine ownE.go (T' := s₁) (f' := (mkF m 14 #[.val (.ref r0), .val (.int (2 : Int32)), .val (.int i2), .val (.int i3), .val (.int i4), .unset] [(.int (2 : Int32)), (.ref r0)])) (fun t kt => ?_) ?_
      · show Steps p.tables e below (s₁.setTop (mkF m 12 #[.val (.ref r0), .val (.int (2 : Int32)), .val (.int i2), .val (.int i3), .val (.int i4), .unset] [])) _
        refine XS.aloadN X0.here hx rfl (hb hby own_d7_12) rfl rfl ?_
        show Steps p.tables e below (s₁.setTop (mkF m 13 #[.val (.ref r0), .val (.int (2 : Int32)), .val (.int i2), .val (.int i3), .val (.int i4), .unset] [(.ref r0)])) _
        refine XS.iloadN X0.here hx rfl (hb hby own_d7_13) rfl ?_
        exact kt
      obtain ⟨cl3, Ar3, q3, S3, Nn3, Hh3, G3⟩ := id P0
      refine ownE.go (T' := s₁) (f' := (mkF m 15 #[.val (.ref r0), .val (.int (2 : Int32)), .val (.int i2), .val (.int i3), .val (.int i4), .unset] [(.int b2)])) (fun t kt => X0.baloadBytes hx (j := (2 : Int32)) (v := (.int b2)) (by rw [e0]; exact Ar3.1) (State.isArrayOf_alike hZ.alike Ar3.2.1) Ar3.2.2 (inb_of S3 ⟨by decide, by decide⟩) (Hh3.at (inb_of S3 ⟨by decide, by decide⟩) rfl) (g := (mkF m 14 #[.val (.ref r0), .val (.int (2 : Int32)), .val (.int i2), .val (.int i3), .val (.int i4), .unset] [(.int (2 : Int32)), (.ref r0)])) rfl rfl (hb hby own_d7_14) _ kt) ?_
      refine ownE.go (T' := s₁) (f' := (mkF m 17 #[.val (.ref r0), .val (.int (2 : Int32)), .val (.int i2), .val (.int i3), .val (.int i4), .unset] [(.int (13 : Int32)), (.int b2)])) (fun t kt => ?_) ?_
      · show Steps p.tables e below (s₁.setTop (mkF m 15 #[.val (.ref r0), .val (.int (2 : Int32)), .val (.int i2), .val (.int i3), .val (.int i4), .unset] [(.int b2)])) _
        refine XS.bipush X0.here hx rfl (hb hby own_d7_15) ?_
        exact kt
      by_cases hc4 : b2 = (13 : Int32)
      · -- pc 17
        refine ownE.go (T' := s₁) (f' := (mkF m 20 #[.val (.ref r0), .val (.int (2 : Int32)), .val (.int i2), .val (.int i3), .val (.int i4), .unset] [])) (fun t kt => XS.icmpNo (g := (mkF m 17 #[.val (.ref r0), .val (.int (2 : Int32)), .val (.int i2), .val (.int i3), .val (.int i4), .unset] [(.int (13 : Int32)), (.int b2)])) X0.here hx rfl (hb hby own_d7_17) rfl (Jvm.Free.XT.ii_ne_f hc4) kt) ?_
        refine ownE.go (T' := s₁) (f' := (mkF m 21 #[.val (.ref r0), .val (.int (2 : Int32)), .val (.int i2), .val (.int i3), .val (.int i4), .unset] [(.int (1 : Int32))])) (fun t kt => ?_) ?_
        · show Steps p.tables e below (s₁.setTop (mkF m 20 #[.val (.ref r0), .val (.int (2 : Int32)), .val (.int i2), .val (.int i3), .val (.int i4), .unset] [])) _
          refine XS.iconst X0.here hx rfl (hb hby own_d7_20) ?_
          exact kt
        refine ownE.retI X0 hx hlk hret (hb hby own_d7_21) ?_ (by decide) (by decide)
        show own_Q7i2 Z r0 i2 i3 i4 kk b0 b1 b2 b3 h0 n0 _ s₁.heap _
        rw [e0]
        exact ⟨(by rw [own_brk2, if_neg hc1, if_pos hc2, if_pos hc4] <;> first | rfl | decide), N0, rfl⟩
      · -- pc 17
        refine ownE.go (T' := s₁) (f' := (mkF m 22 #[.val (.ref r0), .val (.int (2 : Int32)), .val (.int i2), .val (.int i3), .val (.int i4), .unset] [])) (fun t kt => XS.icmpYes (g := (mkF m 17 #[.val (.ref r0), .val (.int (2 : Int32)), .val (.int i2), .val (.int i3), .val (.int i4), .unset] [(.int (13 : Int32)), (.int b2)])) X0.here hx rfl (pc0 := 17) (pc' := 22) rfl (hb hby own_d7_17) rfl (Jvm.Free.XT.ii_ne_t hc4) (by decide) (by decide) kt) ?_
        refine ownE.go (T' := s₁) (f' := (mkF m 24 #[.val (.ref r0), .val (.int (2 : Int32)), .val (.int i2), .val (.int i3), .val (.int i4), .unset] [(.int (2 : Int32)), (.ref r0)])) (fun t kt => ?_) ?_
        · show Steps p.tables e below (s₁.setTop (mkF m 22 #[.val (.ref r0), .val (.int (2 : Int32)), .val (.int i2), .val (.int i3), .val (.int i4), .unset] [])) _
          refine XS.aloadN X0.here hx rfl (hb hby own_d7_22) rfl rfl ?_
          show Steps p.tables e below (s₁.setTop (mkF m 23 #[.val (.ref r0), .val (.int (2 : Int32)), .val (.int i2), .val (.int i3), .val (.int i4), .unset] [(.ref r0)])) _
          refine XS.iloadN X0.here hx rfl (hb hby own_d7_23) rfl ?_
          exact kt
        obtain ⟨cl5, Ar5, q5, S5, Nn5, Hh5, G5⟩ := id P0
        refine ownE.go (T' := s₁) (f' := (mkF m 25 #[.val (.ref r0), .val (.int (2 : Int32)), .val (.int i2), .val (.int i3), .val (.int i4), .unset] [(.int b2)])) (fun t kt => X0.baloadBytes hx (j := (2 : Int32)) (v := (.int b2)) (by rw [e0]; exact Ar5.1) (State.isArrayOf_alike hZ.alike Ar5.2.1) Ar5.2.2 (inb_of S5 ⟨by decide, by decide⟩) (Hh5.at (inb_of S5 ⟨by decide, by decide⟩) rfl) (g := (mkF m 24 #[.val (.ref r0), .val (.int (2 : Int32)), .val (.int i2), .val (.int i3), .val (.int i4), .unset] [(.int (2 : Int32)), (.ref r0)])) rfl rfl (hb hby own_d7_24) _ kt) ?_
        refine ownE.go (T' := s₁) (f' := (mkF m 27 #[.val (.ref r0), .val (.int (2 : Int32)), .val (.int i2), .val (.int i3), .val (.int i4), .unset] [(.int (10 : Int32)), (.int b2)])) (fun t kt => ?_) ?_
        · show Steps p.tables e below (s₁.setTop (mkF m 25 #[.val (.ref r0), .val (.int (2 : Int32)), .val (.int i2), .val (.int i3), .val (.int i4), .unset] [(.int b2)])) _
          refine XS.bipush X0.here hx rfl (hb hby own_d7_25) ?_
          exact kt
        by_cases hc6 : b2 = (10 : Int32)
        · -- pc 27
          refine ownE.go (T' := s₁) (f' := (mkF m 30 #[.val (.ref r0), .val (.int (2 : Int32)), .val (.int i2), .val (.int i3), .val (.int i4), .unset] [])) (fun t kt => XS.icmpNo (g := (mkF m 27 #[.val (.ref r0), .val (.int (2 : Int32)), .val (.int i2), .val (.int i3), .val (.int i4), .unset] [(.int (10 : Int32)), (.int b2)])) X0.here hx rfl (hb hby own_d7_27) rfl (Jvm.Free.XT.ii_ne_f hc6) kt) ?_
          have J11 : ∀ (TJ11 : State) (locsJ11 : List Loc), Stand p l e ({ frames := 0, cells := 0, slots := 0, locals := 0 } : Room) s m #[(.ref r0), (.int (2 : Int32)), (.int i2), (.int i3), (.int i4)] below meth c TJ11 locsJ11 0 0 → TJ11.heap = h0 → Fr n0 locsJ11 → ownE p e below s (own_Q7i2 Z r0 i2 i3 i4 kk b0 b1 b2 b3 h0 n0) ({ frames := 0, cells := 0, slots := 0, locals := 0 } : Room).cells ({ frames := 0, cells := 0, slots := 0, locals := 0 } : Room).slots TJ11 (mkF m 55 #[.val (.ref r0), .val (.int (2 : Int32)), .val (.int i2), .val (.int i3), .val (.int i4), .unset] [(.int (own_j7i2_55_S0 i2 i3 i4 b0 b1 b2 b3))]) := by
            intro TJ11 locsJ11 XJ11 eJ11 NJ11
            refine ownE.go (T' := TJ11) (f' := (mkF m 59 #[.val (.ref r0), .val (.int (2 : Int32)), .val (.int i2), .val (.int i3), .val (.int i4), .val (.int (own_j7i2_55_S0 i2 i3 i4 b0 b1 b2 b3))] [(.int (own_j7i2_55_S0 i2 i3 i4 b0 b1 b2 b3))])) (fun t kt => ?_) ?_
            · show Steps p.tables e below (TJ11.setTop (mkF m 55 #[.val (.ref r0), .val (.int (2 : Int32)), .val (.int i2), .val (.int i3), .val (.int i4), .unset] [(.int (own_j7i2_55_S0 i2 i3 i4 b0 b1 b2 b3))])) _
              refine XS.istore XJ11.here hx rfl (hb hby own_d7_55) rfl (l' := #[.val (.ref r0), .val (.int (2 : Int32)), .val (.int i2), .val (.int i3), .val (.int i4), .val (.int (own_j7i2_55_S0 i2 i3 i4 b0 b1 b2 b3))]) rfl ?_
              show Steps p.tables e below (TJ11.setTop (mkF m 57 #[.val (.ref r0), .val (.int (2 : Int32)), .val (.int i2), .val (.int i3), .val (.int i4), .val (.int (own_j7i2_55_S0 i2 i3 i4 b0 b1 b2 b3))] [])) _
              refine XS.iload XJ11.here hx rfl (hb hby own_d7_57) rfl ?_
              exact kt
            by_cases hc12 : (own_j7i2_55_S0 i2 i3 i4 b0 b1 b2 b3) = (0 : Int32)
            · -- pc 59
              refine ownE.go (T' := TJ11) (f' := (mkF m 66 #[.val (.ref r0), .val (.int (2 : Int32)), .val (.int i2), .val (.int i3), .val (.int i4), .val (.int (own_j7i2_55_S0 i2 i3 i4 b0 b1 b2 b3))] [])) (fun t kt => XS.ifYes (g := (mkF m 59 #[.val (.ref r0), .val (.int (2 : Int32)), .val (.int i2), .val (.int i3), .val (.int i4), .val (.int (own_j7i2_55_S0 i2 i3 i4 b0 b1 b2 b3))] [(.int (own_j7i2_55_S0 i2 i3 i4 b0 b1 b2 b3))])) XJ11.here hx rfl (pc0 := 59) (pc' := 66) rfl (hb hby own_d7_59) rfl (Jvm.Free.XT.i0_eq_t hc12) (by decide) (by decide) kt) ?_
              refine ownE.go (T' := TJ11) (f' := (mkF m 67 #[.val (.ref r0), .val (.int (2 : Int32)), .val (.int i2), .val (.int i3), .val (.int i4), .val (.int (own_j7i2_55_S0 i2 i3 i4 b0 b1 b2 b3))] [(.int (1 : Int32))])) (fun t kt => ?_) ?_
              · show Steps p.tables e below (TJ11.setTop (mkF m 66 #[.val (.ref r0), .val (.int (2 : Int32)), .val (.int i2), .val (.int i3), .val (.int i4), .val (.int (own_j7i2_55_S0 i2 i3 i4 b0 b1 b2 b3))] [])) _
                refine XS.iconst XJ11.here hx rfl (hb hby own_d7_66) ?_
                exact kt
              refine ownE.retI XJ11 hx hlk hret (hb hby own_d7_67) ?_ (by decide) (by decide)
              show own_Q7i2 Z r0 i2 i3 i4 kk b0 b1 b2 b3 h0 n0 _ TJ11.heap _
              rw [eJ11]
              exact ⟨(by rw [own_brk2, if_neg hc1, if_pos hc2, if_neg hc4, if_pos hc6, if_pos hc12] <;> first | rfl | decide), NJ11, rfl⟩
            · -- pc 59
              refine ownE.go (T' := TJ11) (f' := (mkF m 62 #[.val (.ref r0), .val (.int (2 : Int32)), .val (.int i2), .val (.int i3), .val (.int i4), .val (.int (own_j7i2_55_S0 i2 i3 i4 b0 b1 b2 b3))] [])) (fun t kt => XS.ifNo (g := (mkF m 59 #[.val (.ref r0), .val (.int (2 : Int32)), .val (.int i2), .val (.int i3), .val (.int i4), .val (.int (own_j7i2_55_S0 i2 i3 i4 b0 b1 b2 b3))] [(.int (own_j7i2_55_S0 i2 i3 i4 b0 b1 b2 b3))])) XJ11.here hx rfl (hb hby own_d7_59) rfl (Jvm.Free.XT.i0_eq_f hc12) kt) ?_
              refine ownE.go (T' := TJ11) (f' := (mkF m 67 #[.val (.ref r0), .val (.int (2 : Int32)), .val (.int i2), .val (.int i3), .val (.int i4), .val (.int (own_j7i2_55_S0 i2 i3 i4 b0 b1 b2 b3))] [(.int (0 : Int32))])) (fun t kt => ?_) ?_
              · show Steps p.tables e below (TJ11.setTop (mkF m 62 #[.val (.ref r0), .val (.int (2 : Int32)), .val (.int i2), .val (.int i3), .val (.int i4), .val (.int (own_j7i2_55_S0 i2 i3 i4 b0 b1 b2 b3))] [])) _
                refine XS.iconst XJ11.here hx rfl (hb hby own_d7_62) ?_
                show Steps p.tables e below (TJ11.setTop (mkF m 63 #[.val (.ref r0), .val (.int (2 : Int32)), .val (.int i2), .val (.int i3), .val (.int i4), .val (.int (own_j7i2_55_S0 i2 i3 i4 b0 b1 b2 b3))] [(.int (0 : Int32))])) _
                refine XS.goto XJ11.here hx rfl (pc0 := 63) (pc' := 67) rfl (hb hby own_d7_63) (by decide) (by decide) ?_
                exact kt
              refine ownE.retI XJ11 hx hlk hret (hb hby own_d7_67) ?_ (by decide) (by decide)
              show own_Q7i2 Z r0 i2 i3 i4 kk b0 b1 b2 b3 h0 n0 _ TJ11.heap _
              rw [eJ11]
              exact ⟨(by rw [own_brk2, if_neg hc1, if_pos hc2, if_neg hc4, if_pos hc6, if_neg hc12] <;> first | rfl | decide), NJ11, rfl⟩
          refine ownE.go (T' := s₁) (f' := (mkF m 32 #[.val (.ref r0), .val (.int (2 : Int32)), .val (.int i2), .val (.int i3), .val (.int i4), .unset] [(.int i2), (.int (2 : Int32))])) (fun t kt => ?_) ?_
          · show Steps p.tables e below (s₁.setTop (mkF m 30 #[.val (.ref r0), .val (.int (2 : Int32)), .val (.int i2), .val (.int i3), .val (.int i4), .unset] [])) _
            refine XS.iloadN X0.here hx rfl (hb hby own_d7_30) rfl ?_
            show Steps p.tables e below (s₁.setTop (mkF m 31 #[.val (.ref r0), .val (.int (2 : Int32)), .val (.int i2), .val (.int i3), .val (.int i4), .unset] [(.int (2 : Int32))])) _
            refine XS.iloadN X0.here hx rfl (hb hby own_d7_31) rfl ?_
            exact kt
          by_cases hc8 : (2 : Int32) = i2
          · -- pc 32
            refine ownE.go (T' := s₁) (f' := (mkF m 35 #[.val (.ref r0), .val (.int (2 : Int32)), .val (.int i2), .val (.int i3), .val (.int i4), .unset] [])) (fun t kt => XS.icmpNo (g := (mkF m 32 #[.val (.ref r0), .val (.int (2 : Int32)), .val (.int i2), .val (.int i3), .val (.int i4), .unset] [(.int i2), (.int (2 : Int32))])) X0.here hx rfl (hb hby own_d7_32) rfl (Jvm.Free.XT.ii_ne_f hc8) kt) ?_
            refine ownE.go (T' := s₁) (f' := (mkF m 55 #[.val (.ref r0), .val (.int (2 : Int32)), .val (.int i2), .val (.int i3), .val (.int i4), .unset] [(.int i4)])) (fun t kt => ?_) ?_
            · show Steps p.tables e below (s₁.setTop (mkF m 35 #[.val (.ref r0), .val (.int (2 : Int32)), .val (.int i2), .val (.int i3), .val (.int i4), .unset] [])) _
              refine XS.iload X0.here hx rfl (hb hby own_d7_35) rfl ?_
              show Steps p.tables e below (s₁.setTop (mkF m 37 #[.val (.ref r0), .val (.int (2 : Int32)), .val (.int i2), .val (.int i3), .val (.int i4), .unset] [(.int i4)])) _
              refine XS.goto X0.here hx rfl (pc0 := 37) (pc' := 55) rfl (hb hby own_d7_37) (by decide) (by decide) ?_
              exact kt
            have jj := J11 _ _ X0 e0 N0
            rw [show (own_j7i2_55_S0 i2 i3 i4 b0 b1 b2 b3) = i4 from by rw [own_j7i2_55_S0, if_pos hc8]] at jj
            exact jj
          · -- pc 32
            refine ownE.go (T' := s₁) (f' := (mkF m 40 #[.val (.ref r0), .val (.int (2 : Int32)), .val (.int i2), .val (.int i3), .val (.int i4), .unset] [])) (fun t kt => XS.icmpYes (g := (mkF m 32 #[.val (.ref r0), .val (.int (2 : Int32)), .val (.int i2), .val (.int i3), .val (.int i4), .unset] [(.int i2), (.int (2 : Int32))])) X0.here hx rfl (pc0 := 32) (pc' := 40) rfl (hb hby own_d7_32) rfl (Jvm.Free.XT.ii_ne_t hc8) (by decide) (by decide) kt) ?_
            refine ownE.go (T' := s₁) (f' := (mkF m 44 #[.val (.ref r0), .val (.int (2 : Int32)), .val (.int i2), .val (.int i3), .val (.int i4), .unset] [(.int (1 : Int32)), (.ref r0)])) (fun t kt => ?_) ?_
            · show Steps p.tables e below (s₁.setTop (mkF m 40 #[.val (.ref r0), .val (.int (2 : Int32)), .val (.int i2), .val (.int i3), .val (.int i4), .unset] [])) _
              refine XS.aloadN X0.here hx rfl (hb hby own_d7_40) rfl rfl ?_
              show Steps p.tables e below (s₁.setTop (mkF m 41 #[.val (.ref r0), .val (.int (2 : Int32)), .val (.int i2), .val (.int i3), .val (.int i4), .unset] [(.ref r0)])) _
              refine XS.iloadN X0.here hx rfl (hb hby own_d7_41) rfl ?_
              show Steps p.tables e below (s₁.setTop (mkF m 42 #[.val (.ref r0), .val (.int (2 : Int32)), .val (.int i2), .val (.int i3), .val (.int i4), .unset] [(.int (2 : Int32)), (.ref r0)])) _
              refine XS.iconst X0.here hx rfl (hb hby own_d7_42) ?_
              show Steps p.tables e below (s₁.setTop (mkF m 43 #[.val (.ref r0), .val (.int (2 : Int32)), .val (.int i2), .val (.int i3), .val (.int i4), .unset] [(.int (1 : Int32)), (.int (2 : Int32)), (.ref r0)])) _
              refine XS.isub X0.here hx rfl (hb hby own_d7_43) rfl ?_
              exact kt
            obtain ⟨cl9, Ar9, q9, S9, Nn9, Hh9, G9⟩ := id P0
            refine ownE.go (T' := s₁) (f' := (mkF m 45 #[.val (.ref r0), .val (.int (2 : Int32)), .val (.int i2), .val (.int i3), .val (.int i4), .unset] [(.int b1)])) (fun t kt => X0.baloadBytes hx (j := (1 : Int32)) (v := (.int b1)) (by rw [e0]; exact Ar9.1) (State.isArrayOf_alike hZ.alike Ar9.2.1) Ar9.2.2 (inb_of S9 ⟨by decide, by decide⟩) (Hh9.at (inb_of S9 ⟨by decide, by decide⟩) rfl) (g := (mkF m 44 #[.val (.ref r0), .val (.int (2 : Int32)), .val (.int i2), .val (.int i3), .val (.int i4), .unset] [(.int (1 : Int32)), (.ref r0)])) rfl rfl (hb hby own_d7_44) _ kt) ?_
            refine ownE.go (T' := s₁) (f' := (mkF m 47 #[.val (.ref r0), .val (.int (2 : Int32)), .val (.int i2), .val (.int i3), .val (.int i4), .unset] [(.int (13 : Int32)), (.int b1)])) (fun t kt => ?_) ?_
            · show Steps p.tables e below (s₁.setTop (mkF m 45 #[.val (.ref r0), .val (.int (2 : Int32)), .val (.int i2), .val (.int i3), .val (.int i4), .unset] [(.int b1)])) _
              refine XS.bipush X0.here hx rfl (hb hby own_d7_45) ?_
              exact kt
            by_cases hc10 : b1 = (13 : Int32)
            · -- pc 47
              refine ownE.go (T' := s₁) (f' := (mkF m 50 #[.val (.ref r0), .val (.int (2 : Int32)), .val (.int i2), .val (.int i3), .val (.int i4), .unset] [])) (fun t kt => XS.icmpNo (g := (mkF m 47 #[.val (.ref r0), .val (.int (2 : Int32)), .val (.int i2), .val (.int i3), .val (.int i4), .unset] [(.int (13 : Int32)), (.int b1)])) X0.here hx rfl (hb hby own_d7_47) rfl (Jvm.Free.XT.ii_ne_f hc10) kt) ?_
              refine ownE.go (T' := s₁) (f' := (mkF m 55 #[.val (.ref r0), .val (.int (2 : Int32)), .val (.int i2), .val (.int i3), .val (.int i4), .unset] [(.int (1 : Int32))])) (fun t kt => ?_) ?_
              · show Steps p.tables e below (s₁.setTop (mkF m 50 #[.val (.ref r0), .val (.int (2 : Int32)), .val (.int i2), .val (.int i3), .val (.int i4), .unset] [])) _
                refine XS.iconst X0.here hx rfl (hb hby own_d7_50) ?_
                show Steps p.tables e below (s₁.setTop (mkF m 51 #[.val (.ref r0), .val (.int (2 : Int32)), .val (.int i2), .val (.int i3), .val (.int i4), .unset] [(.int (1 : Int32))])) _
                refine XS.goto X0.here hx rfl (pc0 := 51) (pc' := 55) rfl (hb hby own_d7_51) (by decide) (by decide) ?_
                exact kt
              have jj := J11 _ _ X0 e0 N0
              rw [show (own_j7i2_55_S0 i2 i3 i4 b0 b1 b2 b3) = (1 : Int32) from by rw [own_j7i2_55_S0, if_neg hc8, if_pos hc10]] at jj
              exact jj
            · -- pc 47
              refine ownE.go (T' := s₁) (f' := (mkF m 54 #[.val (.ref r0), .val (.int (2 : Int32)), .val (.int i2), .val (.int i3), .val (.int i4), .unset] [])) (fun t kt => XS.icmpYes (g := (mkF m 47 #[.val (.ref r0), .val (.int (2 : Int32)), .val (.int i2), .val (.int i3), .val (.int i4), .unset] [(.int (13 : Int32)), (.int b1)])) X0.here hx rfl (pc0 := 47) (pc' := 54) rfl (hb hby own_d7_47) rfl (Jvm.Free.XT.ii_ne_t hc10) (by decide) (by decide) kt) ?_
              refine ownE.go (T' := s₁) (f' := (mkF m 55 #[.val (.ref r0), .val (.int (2 : Int32)), .val (.int i2), .val (.int i3), .val (.int i4), .unset] [(.int (0 : Int32))])) (fun t kt => ?_) ?_
              · show Steps p.tables e below (s₁.setTop (mkF m 54 #[.val (.ref r0), .val (.int (2 : Int32)), .val (.int i2), .val (.int i3), .val (.int i4), .unset] [])) _
                refine XS.iconst X0.here hx rfl (hb hby own_d7_54) ?_
                exact kt
              have jj := J11 _ _ X0 e0 N0
              rw [show (own_j7i2_55_S0 i2 i3 i4 b0 b1 b2 b3) = (0 : Int32) from by rw [own_j7i2_55_S0, if_neg hc8, if_neg hc10]] at jj
              exact jj
        · -- pc 27
          refine ownE.go (T' := s₁) (f' := (mkF m 68 #[.val (.ref r0), .val (.int (2 : Int32)), .val (.int i2), .val (.int i3), .val (.int i4), .unset] [])) (fun t kt => XS.icmpYes (g := (mkF m 27 #[.val (.ref r0), .val (.int (2 : Int32)), .val (.int i2), .val (.int i3), .val (.int i4), .unset] [(.int (10 : Int32)), (.int b2)])) X0.here hx rfl (pc0 := 27) (pc' := 68) rfl (hb hby own_d7_27) rfl (Jvm.Free.XT.ii_ne_t hc6) (by decide) (by decide) kt) ?_
          refine ownE.go (T' := s₁) (f' := (mkF m 69 #[.val (.ref r0), .val (.int (2 : Int32)), .val (.int i2), .val (.int i3), .val (.int i4), .unset] [(.int (0 : Int32))])) (fun t kt => ?_) ?_
          · show Steps p.tables e below (s₁.setTop (mkF m 68 #[.val (.ref r0), .val (.int (2 : Int32)), .val (.int i2), .val (.int i3), .val (.int i4), .unset] [])) _
            refine XS.iconst X0.here hx rfl (hb hby own_d7_68) ?_
            exact kt
          refine ownE.retI X0 hx hlk hret (hb hby own_d7_69) ?_ (by decide) (by decide)
          show own_Q7i2 Z r0 i2 i3 i4 kk b0 b1 b2 b3 h0 n0 _ s₁.heap _
          rw [e0]
          exact ⟨(by rw [own_brk2, if_neg hc1, if_pos hc2, if_neg hc4, if_neg hc6] <;> first | rfl | decide), N0, rfl⟩
    · -- pc 7
      refine ownE.go (T' := s₁) (f' := (mkF m 10 #[.val (.ref r0), .val (.int (2 : Int32)), .val (.int i2), .val (.int i3), .val (.int i4), .unset] [])) (fun t kt => XS.icmpNo (g := (mkF m 7 #[.val (.ref r0), .val (.int (2 : Int32)), .val (.int i2), .val (.int i3), .val (.int i4), .unset] [(.int i3), (.int (2 : Int32))])) X0.here hx rfl (hb hby own_d7_7) rfl (Jvm.Free.XT.ii_lt_f hc2) kt) ?_
      refine ownE.go (T' := s₁) (f' := (mkF m 11 #[.val (.ref r0), .val (.int (2 : Int32)), .val (.int i2), .val (.int i3), .val (.int i4), .unset] [(.int (0 : Int32))])) (fun t kt => ?_) ?_
      · show Steps p.tables e below (s₁.setTop (mkF m 10 #[.val (.ref r0), .val (.int (2 : Int32)), .val (.int i2), .val (.int i3), .val (.int i4), .unset] [])) _
        refine XS.iconst X0.here hx rfl (hb hby own_d7_10) ?_
        exact kt
      refine ownE.retI X0 hx hlk hret (hb hby own_d7_11) ?_ (by decide) (by decide)
      show own_Q7i2 Z r0 i2 i3 i4 kk b0 b1 b2 b3 h0 n0 _ s₁.heap _
      rw [e0]
      exact ⟨(by rw [own_brk2, if_neg hc1, if_neg hc2] <;> first | rfl | decide), N0, rfl⟩
def own_j7i3_55_S0 (i2 : Int32) (i3 : Int32) (i4 : Int32) (b0 : Int32) (b1 : Int32) (b2 : Int32) (b3 : Int32) : Int32 :=
  if (3 : Int32) = i2 then
    i4
  else
    if b2 = (13 : Int32) then
      (1 : Int32)
    else
      (0 : Int32)
theorem own_ef7i3 (m : MethodId) (x0 : Addr) (x2 : Int32) (x3 : Int32) (x4 : Int32) : entryFrame m #[(.ref x0), (.int (3 : Int32)), (.int x2), (.int x3), (.int x4)] 6 = mkF m 0 #[.val (.ref x0), .val (.int (3 : Int32)), .val (.int x2), .val (.int x3), .val (.int x4), .unset] [] := by first | (simp [entryFrame, mkF, argsToLocals, Value.category]; done) | rfl
def own_brk3 (i2 : Int32) (i3 : Int32) (i4 : Int32) (b0 : Int32) (b1 : Int32) (b2 : Int32) (b3 : Int32) : Int32 :=
  if (3 : Int32) < i2 then
    (0 : Int32)
  else
    if (3 : Int32) < i3 then
      if b3 = (13 : Int32) then
        (1 : Int32)
      else
        if b3 = (10 : Int32) then
          if (own_j7i3_55_S0 i2 i3 i4 b0 b1 b2 b3) = (0 : Int32) then
            (1 : Int32)
          else
            (0 : Int32)
        else
          (0 : Int32)
    else
      (0 : Int32)
def own_Q7i3 (Z : State) (r0 : Addr) (i2 : Int32) (i3 : Int32) (i4 : Int32) (kk : ClassId) (b0 : Int32) (b1 : Int32) (b2 : Int32) (b3 : Int32) (h0 : Heap) (n0 : Nat) (v : Option Value) (h : Heap) (L : List Loc) : Prop := v = some (.int (own_brk3 i2 i3 i4 b0 b1 b2 b3)) ∧ Fr n0 L ∧ h = h0
set_option maxRecDepth 65536 in
set_option maxHeartbeats 40000000 in
theorem own_rm7i3 (l : Launch) (Z : State) (a0 : Array Value) (hw : ∀ d ∈ tables_1, d.before a0 Z = true) (ws : List Jvm.Cond) (r0 : Addr) (i2 : Int32) (i3 : Int32) (i4 : Int32) (kk : ClassId) (b0 : Int32) (b1 : Int32) (b2 : Int32) (b3 : Int32) (h0 : Heap) (n0 : Nat) (Z0 : n0 ≤ h0.size) (P0 : Arv Z h0 r0 kk .byte (4 : Int32) [(.int b0), (.int b1), (.int b2), (.int b3)] (.int (0 : Int32))) :
    MetFree l (⟨"traceward/schema/LineBreaksTakePinLaw", "brk", "([BIIIZ)I"⟩ : MethodName) (head1 (Jvm.Cond.code (⟨"traceward/schema/LineBreaksTakePinLaw", "brk", "([BIIIZ)I"⟩ : MethodName) method_3_code 6 (some .int) :: ws) ({ frames := 0, cells := 0, slots := 0, locals := 0 } : Room)) (fun a U => a = #[(.ref r0), (.int (3 : Int32)), (.int i2), (.int i3), (.int i4)] ∧ Z.Warmed39 U.vm ∧ U.heap = h0) (fun _ _ _ _ _ => True) (fun _ U o U' => ∃ v L, o = .returned v ∧ own_Q7i3 Z r0 i2 i3 i4 kk b0 b1 b2 b3 h0 n0 v U'.heap L ∧ FrameEnd U o U' L ({ frames := 0, cells := 0, slots := 0, locals := 0 } : Room).cells ({ frames := 0, cells := 0, slots := 0, locals := 0 } : Room).slots) := by
  refine MetFree.of_bodySF (plainFor_of_name own_pn0) hisR ?_
  intro p e s m args below meth c s₁ Bd hml0 hP hK
  obtain ⟨rfl, hZ, hh⟩ := hP
  have hx := Bd.exec
  have hby := Bd.bytes
  have hret := Bd.returns
  have hlk := BodyLoose.notSynchronized Bd
  have hml : c.maxLocals = 6 := hml0
  have hown : s.vm.findClass "traceward/schema/LineBreaksTakePinLaw" = some m.cls := findClass_of_methodNamed Bd.named
  have hnm := (name_of_methodNamed Bd.named Bd.method).1
  have X0 : Stand p l e ({ frames := 0, cells := 0, slots := 0, locals := 0 } : Room) s m #[(.ref r0), (.int (3 : Int32)), (.int i2), (.int i3), (.int i4)] below meth c s₁ [] 0 0 := Stand.of_body Bd
  have e0 : s₁.heap = h0 := by rw [← hh, Bd.state]; rfl
  have N0 := Fr.nil n0
  have K0 : Keep h0 h0 [] := Keep.refl h0 _
  show ownE p e below s (own_Q7i3 Z r0 i2 i3 i4 kk b0 b1 b2 b3 h0 n0) ({ frames := 0, cells := 0, slots := 0, locals := 0 } : Room).cells ({ frames := 0, cells := 0, slots := 0, locals := 0 } : Room).slots s₁ (entryFrame m #[(.ref r0), (.int (3 : Int32)), (.int i2), (.int i3), (.int i4)] 6)
  rw [own_ef7i3]
  refine ownE.go (T' := s₁) (f' := (mkF m 2 #[.val (.ref r0), .val (.int (3 : Int32)), .val (.int i2), .val (.int i3), .val (.int i4), .unset] [(.int i2), (.int (3 : Int32))])) (fun t kt => ?_) ?_
  · show Steps p.tables e below (s₁.setTop (mkF m 0 #[.val (.ref r0), .val (.int (3 : Int32)), .val (.int i2), .val (.int i3), .val (.int i4), .unset] [])) _
    refine XS.iloadN X0.here hx rfl (hb hby own_d7_0) rfl ?_
    show Steps p.tables e below (s₁.setTop (mkF m 1 #[.val (.ref r0), .val (.int (3 : Int32)), .val (.int i2), .val (.int i3), .val (.int i4), .unset] [(.int (3 : Int32))])) _
    refine XS.iloadN X0.here hx rfl (hb hby own_d7_1) rfl ?_
    exact kt
  by_cases hc1 : (3 : Int32) < i2
  · -- pc 2
    refine ownE.go (T' := s₁) (f' := (mkF m 10 #[.val (.ref r0), .val (.int (3 : Int32)), .val (.int i2), .val (.int i3), .val (.int i4), .unset] [])) (fun t kt => XS.icmpYes (g := (mkF m 2 #[.val (.ref r0), .val (.int (3 : Int32)), .val (.int i2), .val (.int i3), .val (.int i4), .unset] [(.int i2), (.int (3 : Int32))])) X0.here hx rfl (pc0 := 2) (pc' := 10) rfl (hb hby own_d7_2) rfl (Jvm.Free.XT.ii_lt_t hc1) (by decide) (by decide) kt) ?_
    refine ownE.go (T' := s₁) (f' := (mkF m 11 #[.val (.ref r0), .val (.int (3 : Int32)), .val (.int i2), .val (.int i3), .val (.int i4), .unset] [(.int (0 : Int32))])) (fun t kt => ?_) ?_
    · show Steps p.tables e below (s₁.setTop (mkF m 10 #[.val (.ref r0), .val (.int (3 : Int32)), .val (.int i2), .val (.int i3), .val (.int i4), .unset] [])) _
      refine XS.iconst X0.here hx rfl (hb hby own_d7_10) ?_
      exact kt
    refine ownE.retI X0 hx hlk hret (hb hby own_d7_11) ?_ (by decide) (by decide)
    show own_Q7i3 Z r0 i2 i3 i4 kk b0 b1 b2 b3 h0 n0 _ s₁.heap _
    rw [e0]
    exact ⟨(by rw [own_brk3, if_pos hc1] <;> first | rfl | decide), N0, rfl⟩
  · -- pc 2
    refine ownE.go (T' := s₁) (f' := (mkF m 5 #[.val (.ref r0), .val (.int (3 : Int32)), .val (.int i2), .val (.int i3), .val (.int i4), .unset] [])) (fun t kt => XS.icmpNo (g := (mkF m 2 #[.val (.ref r0), .val (.int (3 : Int32)), .val (.int i2), .val (.int i3), .val (.int i4), .unset] [(.int i2), (.int (3 : Int32))])) X0.here hx rfl (hb hby own_d7_2) rfl (Jvm.Free.XT.ii_lt_f hc1) kt) ?_
    refine ownE.go (T' := s₁) (f' := (mkF m 7 #[.val (.ref r0), .val (.int (3 : Int32)), .val (.int i2), .val (.int i3), .val (.int i4), .unset] [(.int i3), (.int (3 : Int32))])) (fun t kt => ?_) ?_
    · show Steps p.tables e below (s₁.setTop (mkF m 5 #[.val (.ref r0), .val (.int (3 : Int32)), .val (.int i2), .val (.int i3), .val (.int i4), .unset] [])) _
      refine XS.iloadN X0.here hx rfl (hb hby own_d7_5) rfl ?_
      show Steps p.tables e below (s₁.setTop (mkF m 6 #[.val (.ref r0), .val (.int (3 : Int32)), .val (.int i2), .val (.int i3), .val (.int i4), .unset] [(.int (3 : Int32))])) _
      refine XS.iloadN X0.here hx rfl (hb hby own_d7_6) rfl ?_
      exact kt
    by_cases hc2 : (3 : Int32) < i3
    · -- pc 7
      refine ownE.go (T' := s₁) (f' := (mkF m 12 #[.val (.ref r0), .val (.int (3 : Int32)), .val (.int i2), .val (.int i3), .val (.int i4), .unset] [])) (fun t kt => XS.icmpYes (g := (mkF m 7 #[.val (.ref r0), .val (.int (3 : Int32)), .val (.int i2), .val (.int i3), .val (.int i4), .unset] [(.int i3), (.int (3 : Int32))])) X0.here hx rfl (pc0 := 7) (pc' := 12) rfl (hb hby own_d7_7) rfl (Jvm.Free.XT.ii_lt_t hc2) (by decide) (by decide) kt) ?_
      refine ownE.go (T' := s₁) (f' := (mkF m 14 #[.val (.ref r0), .val (.int (3 : Int32)), .val (.int i2), .val (.int i3), .val (.int i4), .unset] [(.int (3 : Int32)), (.ref r0)])) (fun t kt => ?_) ?_
      · show Steps p.tables e below (s₁.setTop (mkF m 12 #[.val (.ref r0), .val (.int (3 : Int32)), .val (.int i2), .val (.int i3), .val (.int i4), .unset] [])) _
        refine XS.aloadN X0.here hx rfl (hb hby own_d7_12) rfl rfl ?_
        show Steps p.tables e below (s₁.setTop (mkF m 13 #[.val (.ref r0), .val (.int (3 : Int32)), .val (.int i2), .val (.int i3), .val (.int i4), .unset] [(.ref r0)])) _
        refine XS.iloadN X0.here hx rfl (hb hby own_d7_13) rfl ?_
        exact kt
      obtain ⟨cl3, Ar3, q3, S3, Nn3, Hh3, G3⟩ := id P0
      refine ownE.go (T' := s₁) (f' := (mkF m 15 #[.val (.ref r0), .val (.int (3 : Int32)), .val (.int i2), .val (.int i3), .val (.int i4), .unset] [(.int b3)])) (fun t kt => X0.baloadBytes hx (j := (3 : Int32)) (v := (.int b3)) (by rw [e0]; exact Ar3.1) (State.isArrayOf_alike hZ.alike Ar3.2.1) Ar3.2.2 (inb_of S3 ⟨by decide, by decide⟩) (Hh3.at (inb_of S3 ⟨by decide, by decide⟩) rfl) (g := (mkF m 14 #[.val (.ref r0), .val (.int (3 : Int32)), .val (.int i2), .val (.int i3), .val (.int i4), .unset] [(.int (3 : Int32)), (.ref r0)])) rfl rfl (hb hby own_d7_14) _ kt) ?_
      refine ownE.go (T' := s₁) (f' := (mkF m 17 #[.val (.ref r0), .val (.int (3 : Int32)), .val (.int i2), .val (.int i3), .val (.int i4), .unset] [(.int (13 : Int32)), (.int b3)])) (fun t kt => ?_) ?_
      · show Steps p.tables e below (s₁.setTop (mkF m 15 #[.val (.ref r0), .val (.int (3 : Int32)), .val (.int i2), .val (.int i3), .val (.int i4), .unset] [(.int b3)])) _
        refine XS.bipush X0.here hx rfl (hb hby own_d7_15) ?_
        exact kt
      by_cases hc4 : b3 = (13 : Int32)
      · -- pc 17
        refine ownE.go (T' := s₁) (f' := (mkF m 20 #[.val (.ref r0), .val (.int (3 : Int32)), .val (.int i2), .val (.int i3), .val (.int i4), .unset] [])) (fun t kt => XS.icmpNo (g := (mkF m 17 #[.val (.ref r0), .val (.int (3 : Int32)), .val (.int i2), .val (.int i3), .val (.int i4), .unset] [(.int (13 : Int32)), (.int b3)])) X0.here hx rfl (hb hby own_d7_17) rfl (Jvm.Free.XT.ii_ne_f hc4) kt) ?_
        refine ownE.go (T' := s₁) (f' := (mkF m 21 #[.val (.ref r0), .val (.int (3 : Int32)), .val (.int i2), .val (.int i3), .val (.int i4), .unset] [(.int (1 : Int32))])) (fun t kt => ?_) ?_
        · show Steps p.tables e below (s₁.setTop (mkF m 20 #[.val (.ref r0), .val (.int (3 : Int32)), .val (.int i2), .val (.int i3), .val (.int i4), .unset] [])) _
          refine XS.iconst X0.here hx rfl (hb hby own_d7_20) ?_
          exact kt
        refine ownE.retI X0 hx hlk hret (hb hby own_d7_21) ?_ (by decide) (by decide)
        show own_Q7i3 Z r0 i2 i3 i4 kk b0 b1 b2 b3 h0 n0 _ s₁.heap _
        rw [e0]
        exact ⟨(by rw [own_brk3, if_neg hc1, if_pos hc2, if_pos hc4] <;> first | rfl | decide), N0, rfl⟩
      · -- pc 17
        refine ownE.go (T' := s₁) (f' := (mkF m 22 #[.val (.ref r0), .val (.int (3 : Int32)), .val (.int i2), .val (.int i3), .val (.int i4), .unset] [])) (fun t kt => XS.icmpYes (g := (mkF m 17 #[.val (.ref r0), .val (.int (3 : Int32)), .val (.int i2), .val (.int i3), .val (.int i4), .unset] [(.int (13 : Int32)), (.int b3)])) X0.here hx rfl (pc0 := 17) (pc' := 22) rfl (hb hby own_d7_17) rfl (Jvm.Free.XT.ii_ne_t hc4) (by decide) (by decide) kt) ?_
        refine ownE.go (T' := s₁) (f' := (mkF m 24 #[.val (.ref r0), .val (.int (3 : Int32)), .val (.int i2), .val (.int i3), .val (.int i4), .unset] [(.int (3 : Int32)), (.ref r0)])) (fun t kt => ?_) ?_
        · show Steps p.tables e below (s₁.setTop (mkF m 22 #[.val (.ref r0), .val (.int (3 : Int32)), .val (.int i2), .val (.int i3), .val (.int i4), .unset] [])) _
          refine XS.aloadN X0.here hx rfl (hb hby own_d7_22) rfl rfl ?_
          show Steps p.tables e below (s₁.setTop (mkF m 23 #[.val (.ref r0), .val (.int (3 : Int32)), .val (.int i2), .val (.int i3), .val (.int i4), .unset] [(.ref r0)])) _
          refine XS.iloadN X0.here hx rfl (hb hby own_d7_23) rfl ?_
          exact kt
        obtain ⟨cl5, Ar5, q5, S5, Nn5, Hh5, G5⟩ := id P0
        refine ownE.go (T' := s₁) (f' := (mkF m 25 #[.val (.ref r0), .val (.int (3 : Int32)), .val (.int i2), .val (.int i3), .val (.int i4), .unset] [(.int b3)])) (fun t kt => X0.baloadBytes hx (j := (3 : Int32)) (v := (.int b3)) (by rw [e0]; exact Ar5.1) (State.isArrayOf_alike hZ.alike Ar5.2.1) Ar5.2.2 (inb_of S5 ⟨by decide, by decide⟩) (Hh5.at (inb_of S5 ⟨by decide, by decide⟩) rfl) (g := (mkF m 24 #[.val (.ref r0), .val (.int (3 : Int32)), .val (.int i2), .val (.int i3), .val (.int i4), .unset] [(.int (3 : Int32)), (.ref r0)])) rfl rfl (hb hby own_d7_24) _ kt) ?_
        refine ownE.go (T' := s₁) (f' := (mkF m 27 #[.val (.ref r0), .val (.int (3 : Int32)), .val (.int i2), .val (.int i3), .val (.int i4), .unset] [(.int (10 : Int32)), (.int b3)])) (fun t kt => ?_) ?_
        · show Steps p.tables e below (s₁.setTop (mkF m 25 #[.val (.ref r0), .val (.int (3 : Int32)), .val (.int i2), .val (.int i3), .val (.int i4), .unset] [(.int b3)])) _
          refine XS.bipush X0.here hx rfl (hb hby own_d7_25) ?_
          exact kt
        by_cases hc6 : b3 = (10 : Int32)
        · -- pc 27
          refine ownE.go (T' := s₁) (f' := (mkF m 30 #[.val (.ref r0), .val (.int (3 : Int32)), .val (.int i2), .val (.int i3), .val (.int i4), .unset] [])) (fun t kt => XS.icmpNo (g := (mkF m 27 #[.val (.ref r0), .val (.int (3 : Int32)), .val (.int i2), .val (.int i3), .val (.int i4), .unset] [(.int (10 : Int32)), (.int b3)])) X0.here hx rfl (hb hby own_d7_27) rfl (Jvm.Free.XT.ii_ne_f hc6) kt) ?_
          have J11 : ∀ (TJ11 : State) (locsJ11 : List Loc), Stand p l e ({ frames := 0, cells := 0, slots := 0, locals := 0 } : Room) s m #[(.ref r0), (.int (3 : Int32)), (.int i2), (.int i3), (.int i4)] below meth c TJ11 locsJ11 0 0 → TJ11.heap = h0 → Fr n0 locsJ11 → ownE p e below s (own_Q7i3 Z r0 i2 i3 i4 kk b0 b1 b2 b3 h0 n0) ({ frames := 0, cells := 0, slots := 0, locals := 0 } : Room).cells ({ frames := 0, cells := 0, slots := 0, locals := 0 } : Room).slots TJ11 (mkF m 55 #[.val (.ref r0), .val (.int (3 : Int32)), .val (.int i2), .val (.int i3), .val (.int i4), .unset] [(.int (own_j7i3_55_S0 i2 i3 i4 b0 b1 b2 b3))]) := by
            intro TJ11 locsJ11 XJ11 eJ11 NJ11
            refine ownE.go (T' := TJ11) (f' := (mkF m 59 #[.val (.ref r0), .val (.int (3 : Int32)), .val (.int i2), .val (.int i3), .val (.int i4), .val (.int (own_j7i3_55_S0 i2 i3 i4 b0 b1 b2 b3))] [(.int (own_j7i3_55_S0 i2 i3 i4 b0 b1 b2 b3))])) (fun t kt => ?_) ?_
            · show Steps p.tables e below (TJ11.setTop (mkF m 55 #[.val (.ref r0), .val (.int (3 : Int32)), .val (.int i2), .val (.int i3), .val (.int i4), .unset] [(.int (own_j7i3_55_S0 i2 i3 i4 b0 b1 b2 b3))])) _
              refine XS.istore XJ11.here hx rfl (hb hby own_d7_55) rfl (l' := #[.val (.ref r0), .val (.int (3 : Int32)), .val (.int i2), .val (.int i3), .val (.int i4), .val (.int (own_j7i3_55_S0 i2 i3 i4 b0 b1 b2 b3))]) rfl ?_
              show Steps p.tables e below (TJ11.setTop (mkF m 57 #[.val (.ref r0), .val (.int (3 : Int32)), .val (.int i2), .val (.int i3), .val (.int i4), .val (.int (own_j7i3_55_S0 i2 i3 i4 b0 b1 b2 b3))] [])) _
              refine XS.iload XJ11.here hx rfl (hb hby own_d7_57) rfl ?_
              exact kt
            by_cases hc12 : (own_j7i3_55_S0 i2 i3 i4 b0 b1 b2 b3) = (0 : Int32)
            · -- pc 59
              refine ownE.go (T' := TJ11) (f' := (mkF m 66 #[.val (.ref r0), .val (.int (3 : Int32)), .val (.int i2), .val (.int i3), .val (.int i4), .val (.int (own_j7i3_55_S0 i2 i3 i4 b0 b1 b2 b3))] [])) (fun t kt => XS.ifYes (g := (mkF m 59 #[.val (.ref r0), .val (.int (3 : Int32)), .val (.int i2), .val (.int i3), .val (.int i4), .val (.int (own_j7i3_55_S0 i2 i3 i4 b0 b1 b2 b3))] [(.int (own_j7i3_55_S0 i2 i3 i4 b0 b1 b2 b3))])) XJ11.here hx rfl (pc0 := 59) (pc' := 66) rfl (hb hby own_d7_59) rfl (Jvm.Free.XT.i0_eq_t hc12) (by decide) (by decide) kt) ?_
              refine ownE.go (T' := TJ11) (f' := (mkF m 67 #[.val (.ref r0), .val (.int (3 : Int32)), .val (.int i2), .val (.int i3), .val (.int i4), .val (.int (own_j7i3_55_S0 i2 i3 i4 b0 b1 b2 b3))] [(.int (1 : Int32))])) (fun t kt => ?_) ?_
              · show Steps p.tables e below (TJ11.setTop (mkF m 66 #[.val (.ref r0), .val (.int (3 : Int32)), .val (.int i2), .val (.int i3), .val (.int i4), .val (.int (own_j7i3_55_S0 i2 i3 i4 b0 b1 b2 b3))] [])) _
                refine XS.iconst XJ11.here hx rfl (hb hby own_d7_66) ?_
                exact kt
              refine ownE.retI XJ11 hx hlk hret (hb hby own_d7_67) ?_ (by decide) (by decide)
              show own_Q7i3 Z r0 i2 i3 i4 kk b0 b1 b2 b3 h0 n0 _ TJ11.heap _
              rw [eJ11]
              exact ⟨(by rw [own_brk3, if_neg hc1, if_pos hc2, if_neg hc4, if_pos hc6, if_pos hc12] <;> first | rfl | decide), NJ11, rfl⟩
            · -- pc 59
              refine ownE.go (T' := TJ11) (f' := (mkF m 62 #[.val (.ref r0), .val (.int (3 : Int32)), .val (.int i2), .val (.int i3), .val (.int i4), .val (.int (own_j7i3_55_S0 i2 i3 i4 b0 b1 b2 b3))] [])) (fun t kt => XS.ifNo (g := (mkF m 59 #[.val (.ref r0), .val (.int (3 : Int32)), .val (.int i2), .val (.int i3), .val (.int i4), .val (.int (own_j7i3_55_S0 i2 i3 i4 b0 b1 b2 b3))] [(.int (own_j7i3_55_S0 i2 i3 i4 b0 b1 b2 b3))])) XJ11.here hx rfl (hb hby own_d7_59) rfl (Jvm.Free.XT.i0_eq_f hc12) kt) ?_
              refine ownE.go (T' := TJ11) (f' := (mkF m 67 #[.val (.ref r0), .val (.int (3 : Int32)), .val (.int i2), .val (.int i3), .val (.int i4), .val (.int (own_j7i3_55_S0 i2 i3 i4 b0 b1 b2 b3))] [(.int (0 : Int32))])) (fun t kt => ?_) ?_
              · show Steps p.tables e below (TJ11.setTop (mkF m 62 #[.val (.ref r0), .val (.int (3 : Int32)), .val (.int i2), .val (.int i3), .val (.int i4), .val (.int (own_j7i3_55_S0 i2 i3 i4 b0 b1 b2 b3))] [])) _
                refine XS.iconst XJ11.here hx rfl (hb hby own_d7_62) ?_
                show Steps p.tables e below (TJ11.setTop (mkF m 63 #[.val (.ref r0), .val (.int (3 : Int32)), .val (.int i2), .val (.int i3), .val (.int i4), .val (.int (own_j7i3_55_S0 i2 i3 i4 b0 b1 b2 b3))] [(.int (0 : Int32))])) _
                refine XS.goto XJ11.here hx rfl (pc0 := 63) (pc' := 67) rfl (hb hby own_d7_63) (by decide) (by decide) ?_
                exact kt
              refine ownE.retI XJ11 hx hlk hret (hb hby own_d7_67) ?_ (by decide) (by decide)
              show own_Q7i3 Z r0 i2 i3 i4 kk b0 b1 b2 b3 h0 n0 _ TJ11.heap _
              rw [eJ11]
              exact ⟨(by rw [own_brk3, if_neg hc1, if_pos hc2, if_neg hc4, if_pos hc6, if_neg hc12] <;> first | rfl | decide), NJ11, rfl⟩
          refine ownE.go (T' := s₁) (f' := (mkF m 32 #[.val (.ref r0), .val (.int (3 : Int32)), .val (.int i2), .val (.int i3), .val (.int i4), .unset] [(.int i2), (.int (3 : Int32))])) (fun t kt => ?_) ?_
          · show Steps p.tables e below (s₁.setTop (mkF m 30 #[.val (.ref r0), .val (.int (3 : Int32)), .val (.int i2), .val (.int i3), .val (.int i4), .unset] [])) _
            refine XS.iloadN X0.here hx rfl (hb hby own_d7_30) rfl ?_
            show Steps p.tables e below (s₁.setTop (mkF m 31 #[.val (.ref r0), .val (.int (3 : Int32)), .val (.int i2), .val (.int i3), .val (.int i4), .unset] [(.int (3 : Int32))])) _
            refine XS.iloadN X0.here hx rfl (hb hby own_d7_31) rfl ?_
            exact kt
          by_cases hc8 : (3 : Int32) = i2
          · -- pc 32
            refine ownE.go (T' := s₁) (f' := (mkF m 35 #[.val (.ref r0), .val (.int (3 : Int32)), .val (.int i2), .val (.int i3), .val (.int i4), .unset] [])) (fun t kt => XS.icmpNo (g := (mkF m 32 #[.val (.ref r0), .val (.int (3 : Int32)), .val (.int i2), .val (.int i3), .val (.int i4), .unset] [(.int i2), (.int (3 : Int32))])) X0.here hx rfl (hb hby own_d7_32) rfl (Jvm.Free.XT.ii_ne_f hc8) kt) ?_
            refine ownE.go (T' := s₁) (f' := (mkF m 55 #[.val (.ref r0), .val (.int (3 : Int32)), .val (.int i2), .val (.int i3), .val (.int i4), .unset] [(.int i4)])) (fun t kt => ?_) ?_
            · show Steps p.tables e below (s₁.setTop (mkF m 35 #[.val (.ref r0), .val (.int (3 : Int32)), .val (.int i2), .val (.int i3), .val (.int i4), .unset] [])) _
              refine XS.iload X0.here hx rfl (hb hby own_d7_35) rfl ?_
              show Steps p.tables e below (s₁.setTop (mkF m 37 #[.val (.ref r0), .val (.int (3 : Int32)), .val (.int i2), .val (.int i3), .val (.int i4), .unset] [(.int i4)])) _
              refine XS.goto X0.here hx rfl (pc0 := 37) (pc' := 55) rfl (hb hby own_d7_37) (by decide) (by decide) ?_
              exact kt
            have jj := J11 _ _ X0 e0 N0
            rw [show (own_j7i3_55_S0 i2 i3 i4 b0 b1 b2 b3) = i4 from by rw [own_j7i3_55_S0, if_pos hc8]] at jj
            exact jj
          · -- pc 32
            refine ownE.go (T' := s₁) (f' := (mkF m 40 #[.val (.ref r0), .val (.int (3 : Int32)), .val (.int i2), .val (.int i3), .val (.int i4), .unset] [])) (fun t kt => XS.icmpYes (g := (mkF m 32 #[.val (.ref r0), .val (.int (3 : Int32)), .val (.int i2), .val (.int i3), .val (.int i4), .unset] [(.int i2), (.int (3 : Int32))])) X0.here hx rfl (pc0 := 32) (pc' := 40) rfl (hb hby own_d7_32) rfl (Jvm.Free.XT.ii_ne_t hc8) (by decide) (by decide) kt) ?_
            refine ownE.go (T' := s₁) (f' := (mkF m 44 #[.val (.ref r0), .val (.int (3 : Int32)), .val (.int i2), .val (.int i3), .val (.int i4), .unset] [(.int (2 : Int32)), (.ref r0)])) (fun t kt => ?_) ?_
            · show Steps p.tables e below (s₁.setTop (mkF m 40 #[.val (.ref r0), .val (.int (3 : Int32)), .val (.int i2), .val (.int i3), .val (.int i4), .unset] [])) _
              refine XS.aloadN X0.here hx rfl (hb hby own_d7_40) rfl rfl ?_
              show Steps p.tables e below (s₁.setTop (mkF m 41 #[.val (.ref r0), .val (.int (3 : Int32)), .val (.int i2), .val (.int i3), .val (.int i4), .unset] [(.ref r0)])) _
              refine XS.iloadN X0.here hx rfl (hb hby own_d7_41) rfl ?_
              show Steps p.tables e below (s₁.setTop (mkF m 42 #[.val (.ref r0), .val (.int (3 : Int32)), .val (.int i2), .val (.int i3), .val (.int i4), .unset] [(.int (3 : Int32)), (.ref r0)])) _
              refine XS.iconst X0.here hx rfl (hb hby own_d7_42) ?_
              show Steps p.tables e below (s₁.setTop (mkF m 43 #[.val (.ref r0), .val (.int (3 : Int32)), .val (.int i2), .val (.int i3), .val (.int i4), .unset] [(.int (1 : Int32)), (.int (3 : Int32)), (.ref r0)])) _
              refine XS.isub X0.here hx rfl (hb hby own_d7_43) rfl ?_
              exact kt
            obtain ⟨cl9, Ar9, q9, S9, Nn9, Hh9, G9⟩ := id P0
            refine ownE.go (T' := s₁) (f' := (mkF m 45 #[.val (.ref r0), .val (.int (3 : Int32)), .val (.int i2), .val (.int i3), .val (.int i4), .unset] [(.int b2)])) (fun t kt => X0.baloadBytes hx (j := (2 : Int32)) (v := (.int b2)) (by rw [e0]; exact Ar9.1) (State.isArrayOf_alike hZ.alike Ar9.2.1) Ar9.2.2 (inb_of S9 ⟨by decide, by decide⟩) (Hh9.at (inb_of S9 ⟨by decide, by decide⟩) rfl) (g := (mkF m 44 #[.val (.ref r0), .val (.int (3 : Int32)), .val (.int i2), .val (.int i3), .val (.int i4), .unset] [(.int (2 : Int32)), (.ref r0)])) rfl rfl (hb hby own_d7_44) _ kt) ?_
            refine ownE.go (T' := s₁) (f' := (mkF m 47 #[.val (.ref r0), .val (.int (3 : Int32)), .val (.int i2), .val (.int i3), .val (.int i4), .unset] [(.int (13 : Int32)), (.int b2)])) (fun t kt => ?_) ?_
            · show Steps p.tables e below (s₁.setTop (mkF m 45 #[.val (.ref r0), .val (.int (3 : Int32)), .val (.int i2), .val (.int i3), .val (.int i4), .unset] [(.int b2)])) _
              refine XS.bipush X0.here hx rfl (hb hby own_d7_45) ?_
              exact kt
            by_cases hc10 : b2 = (13 : Int32)
            · -- pc 47
              refine ownE.go (T' := s₁) (f' := (mkF m 50 #[.val (.ref r0), .val (.int (3 : Int32)), .val (.int i2), .val (.int i3), .val (.int i4), .unset] [])) (fun t kt => XS.icmpNo (g := (mkF m 47 #[.val (.ref r0), .val (.int (3 : Int32)), .val (.int i2), .val (.int i3), .val (.int i4), .unset] [(.int (13 : Int32)), (.int b2)])) X0.here hx rfl (hb hby own_d7_47) rfl (Jvm.Free.XT.ii_ne_f hc10) kt) ?_
              refine ownE.go (T' := s₁) (f' := (mkF m 55 #[.val (.ref r0), .val (.int (3 : Int32)), .val (.int i2), .val (.int i3), .val (.int i4), .unset] [(.int (1 : Int32))])) (fun t kt => ?_) ?_
              · show Steps p.tables e below (s₁.setTop (mkF m 50 #[.val (.ref r0), .val (.int (3 : Int32)), .val (.int i2), .val (.int i3), .val (.int i4), .unset] [])) _
                refine XS.iconst X0.here hx rfl (hb hby own_d7_50) ?_
                show Steps p.tables e below (s₁.setTop (mkF m 51 #[.val (.ref r0), .val (.int (3 : Int32)), .val (.int i2), .val (.int i3), .val (.int i4), .unset] [(.int (1 : Int32))])) _
                refine XS.goto X0.here hx rfl (pc0 := 51) (pc' := 55) rfl (hb hby own_d7_51) (by decide) (by decide) ?_
                exact kt
              have jj := J11 _ _ X0 e0 N0
              rw [show (own_j7i3_55_S0 i2 i3 i4 b0 b1 b2 b3) = (1 : Int32) from by rw [own_j7i3_55_S0, if_neg hc8, if_pos hc10]] at jj
              exact jj
            · -- pc 47
              refine ownE.go (T' := s₁) (f' := (mkF m 54 #[.val (.ref r0), .val (.int (3 : Int32)), .val (.int i2), .val (.int i3), .val (.int i4), .unset] [])) (fun t kt => XS.icmpYes (g := (mkF m 47 #[.val (.ref r0), .val (.int (3 : Int32)), .val (.int i2), .val (.int i3), .val (.int i4), .unset] [(.int (13 : Int32)), (.int b2)])) X0.here hx rfl (pc0 := 47) (pc' := 54) rfl (hb hby own_d7_47) rfl (Jvm.Free.XT.ii_ne_t hc10) (by decide) (by decide) kt) ?_
              refine ownE.go (T' := s₁) (f' := (mkF m 55 #[.val (.ref r0), .val (.int (3 : Int32)), .val (.int i2), .val (.int i3), .val (.int i4), .unset] [(.int (0 : Int32))])) (fun t kt => ?_) ?_
              · show Steps p.tables e below (s₁.setTop (mkF m 54 #[.val (.ref r0), .val (.int (3 : Int32)), .val (.int i2), .val (.int i3), .val (.int i4), .unset] [])) _
                refine XS.iconst X0.here hx rfl (hb hby own_d7_54) ?_
                exact kt
              have jj := J11 _ _ X0 e0 N0
              rw [show (own_j7i3_55_S0 i2 i3 i4 b0 b1 b2 b3) = (0 : Int32) from by rw [own_j7i3_55_S0, if_neg hc8, if_neg hc10]] at jj
              exact jj
        · -- pc 27
          refine ownE.go (T' := s₁) (f' := (mkF m 68 #[.val (.ref r0), .val (.int (3 : Int32)), .val (.int i2), .val (.int i3), .val (.int i4), .unset] [])) (fun t kt => XS.icmpYes (g := (mkF m 27 #[.val (.ref r0), .val (.int (3 : Int32)), .val (.int i2), .val (.int i3), .val (.int i4), .unset] [(.int (10 : Int32)), (.int b3)])) X0.here hx rfl (pc0 := 27) (pc' := 68) rfl (hb hby own_d7_27) rfl (Jvm.Free.XT.ii_ne_t hc6) (by decide) (by decide) kt) ?_
          refine ownE.go (T' := s₁) (f' := (mkF m 69 #[.val (.ref r0), .val (.int (3 : Int32)), .val (.int i2), .val (.int i3), .val (.int i4), .unset] [(.int (0 : Int32))])) (fun t kt => ?_) ?_
          · show Steps p.tables e below (s₁.setTop (mkF m 68 #[.val (.ref r0), .val (.int (3 : Int32)), .val (.int i2), .val (.int i3), .val (.int i4), .unset] [])) _
            refine XS.iconst X0.here hx rfl (hb hby own_d7_68) ?_
            exact kt
          refine ownE.retI X0 hx hlk hret (hb hby own_d7_69) ?_ (by decide) (by decide)
          show own_Q7i3 Z r0 i2 i3 i4 kk b0 b1 b2 b3 h0 n0 _ s₁.heap _
          rw [e0]
          exact ⟨(by rw [own_brk3, if_neg hc1, if_pos hc2, if_neg hc4, if_neg hc6] <;> first | rfl | decide), N0, rfl⟩
    · -- pc 7
      refine ownE.go (T' := s₁) (f' := (mkF m 10 #[.val (.ref r0), .val (.int (3 : Int32)), .val (.int i2), .val (.int i3), .val (.int i4), .unset] [])) (fun t kt => XS.icmpNo (g := (mkF m 7 #[.val (.ref r0), .val (.int (3 : Int32)), .val (.int i2), .val (.int i3), .val (.int i4), .unset] [(.int i3), (.int (3 : Int32))])) X0.here hx rfl (hb hby own_d7_7) rfl (Jvm.Free.XT.ii_lt_f hc2) kt) ?_
      refine ownE.go (T' := s₁) (f' := (mkF m 11 #[.val (.ref r0), .val (.int (3 : Int32)), .val (.int i2), .val (.int i3), .val (.int i4), .unset] [(.int (0 : Int32))])) (fun t kt => ?_) ?_
      · show Steps p.tables e below (s₁.setTop (mkF m 10 #[.val (.ref r0), .val (.int (3 : Int32)), .val (.int i2), .val (.int i3), .val (.int i4), .unset] [])) _
        refine XS.iconst X0.here hx rfl (hb hby own_d7_10) ?_
        exact kt
      refine ownE.retI X0 hx hlk hret (hb hby own_d7_11) ?_ (by decide) (by decide)
      show own_Q7i3 Z r0 i2 i3 i4 kk b0 b1 b2 b3 h0 n0 _ s₁.heap _
      rw [e0]
      exact ⟨(by rw [own_brk3, if_neg hc1, if_neg hc2] <;> first | rfl | decide), N0, rfl⟩
theorem own_fu {s t : Int32} (h0 : ¬ s < (0 : Int32)) (h4 : ¬ (4 : Int32) < t) : 0 < 5 ∧ t.toInt - s.toInt < ((5 : Nat) : Int) := by
  rw [Int32.lt_iff_toInt_lt] at *
  have z0 : (0 : Int32).toInt = 0 := by decide
  have z4 : (4 : Int32).toInt = 4 := by decide
  omega
def own_sel4 (j b0 b1 b2 b3 : Int32) : Int32 := [b0, b1, b2, b3].getD j.toNatClampNeg 0
theorem own_sel4_eq (j b0 b1 b2 b3 : Int32) : ([.int b0, .int b1, .int b2, .int b3] : List Value).getD j.toNatClampNeg (.int (0 : Int32)) = .int (own_sel4 j b0 b1 b2 b3) := by
  unfold own_sel4
  generalize j.toNatClampNeg = n
  match n with
  | 0 => rfl
  | 1 => rfl
  | 2 => rfl
  | 3 => rfl
  | n + 4 => simp
def own_j8_49_L4 (i2 : Int32) (i3 : Int32) (cn : Int32) (ac : Int32) (xm : Int32) (b0 : Int32) (b1 : Int32) (b2 : Int32) (b3 : Int32) (ln : Int32) (af : Int32) (i : Int32) : Int32 :=
  if (own_sel4 i b0 b1 b2 b3) = (13 : Int32) then
    (ln + (1 : Int32))
  else
    if (own_sel4 i b0 b1 b2 b3) = (10 : Int32) then
      if af = (0 : Int32) then
        (ln + (1 : Int32))
      else
        ln
    else
      ln
def own_j8_61_S0 (i2 : Int32) (i3 : Int32) (cn : Int32) (ac : Int32) (xm : Int32) (b0 : Int32) (b1 : Int32) (b2 : Int32) (b3 : Int32) (ln : Int32) (af : Int32) (i : Int32) : Int32 :=
  if (own_sel4 i b0 b1 b2 b3) = (13 : Int32) then
    (1 : Int32)
  else
    (0 : Int32)
def own_tl (i2 : Int32) (i3 : Int32) (cn : Int32) (ac : Int32) (xm : Int32) (b0 : Int32) (b1 : Int32) (b2 : Int32) (b3 : Int32) : Nat → Int32 → Int32 → Int32 → Int32 × Int32
  | 0, _, _, _ => (0, 0)
  | k + 1, ln, af, i =>
    if i < i3 then
      own_tl i2 i3 cn ac xm b0 b1 b2 b3 k (own_j8_49_L4 i2 i3 cn ac xm b0 b1 b2 b3 ln af i) (own_j8_61_S0 i2 i3 cn ac xm b0 b1 b2 b3 ln af i) (i + (1 : Int32))
    else
      (ln, (af &&& 1))
theorem own_d8_0 : decode prog_84_method_6_code 0 = .ok (.aload_n 0, 1) := by decide +kernel
theorem own_d8_1 : decode prog_84_method_6_code 1 = .ok (.getfield 9, 3) := by decide +kernel
theorem own_d8_4 : decode prog_84_method_6_code 4 = .ok (.istore 4, 2) := by decide +kernel
theorem own_d8_6 : decode prog_84_method_6_code 6 = .ok (.aload_n 0, 1) := by decide +kernel
theorem own_d8_7 : decode prog_84_method_6_code 7 = .ok (.getfield 17, 3) := by decide +kernel
theorem own_d8_10 : decode prog_84_method_6_code 10 = .ok (.istore 5, 2) := by decide +kernel
theorem own_d8_12 : decode prog_84_method_6_code 12 = .ok (.iload_n 2, 1) := by decide +kernel
theorem own_d8_13 : decode prog_84_method_6_code 13 = .ok (.istore 6, 2) := by decide +kernel
theorem own_d8_15 : decode prog_84_method_6_code 15 = .ok (.iload 6, 2) := by decide +kernel
theorem own_d8_17 : decode prog_84_method_6_code 17 = .ok (.iload_n 3, 1) := by decide +kernel
theorem own_d8_18 : decode prog_84_method_6_code 18 = .ok (.if_icmp .ge 51, 3) := by decide +kernel
theorem own_d8_21 : decode prog_84_method_6_code 21 = .ok (.aload_n 1, 1) := by decide +kernel
theorem own_d8_22 : decode prog_84_method_6_code 22 = .ok (.iload 6, 2) := by decide +kernel
theorem own_d8_24 : decode prog_84_method_6_code 24 = .ok (.baload, 1) := by decide +kernel
theorem own_d8_25 : decode prog_84_method_6_code 25 = .ok (.istore 7, 2) := by decide +kernel
theorem own_d8_27 : decode prog_84_method_6_code 27 = .ok (.iload 7, 2) := by decide +kernel
theorem own_d8_29 : decode prog_84_method_6_code 29 = .ok (.bipush 13, 2) := by decide +kernel
theorem own_d8_31 : decode prog_84_method_6_code 31 = .ok (.if_icmp .eq 15, 3) := by decide +kernel
theorem own_d8_34 : decode prog_84_method_6_code 34 = .ok (.iload 7, 2) := by decide +kernel
theorem own_d8_36 : decode prog_84_method_6_code 36 = .ok (.bipush 10, 2) := by decide +kernel
theorem own_d8_38 : decode prog_84_method_6_code 38 = .ok (.if_icmp .ne 11, 3) := by decide +kernel
theorem own_d8_41 : decode prog_84_method_6_code 41 = .ok (.iload 5, 2) := by decide +kernel
theorem own_d8_43 : decode prog_84_method_6_code 43 = .ok (.ifCond .ne 6, 3) := by decide +kernel
theorem own_d8_46 : decode prog_84_method_6_code 46 = .ok (.iinc 4 1, 3) := by decide +kernel
theorem own_d8_49 : decode prog_84_method_6_code 49 = .ok (.iload 7, 2) := by decide +kernel
theorem own_d8_51 : decode prog_84_method_6_code 51 = .ok (.bipush 13, 2) := by decide +kernel
theorem own_d8_53 : decode prog_84_method_6_code 53 = .ok (.if_icmp .ne 7, 3) := by decide +kernel
theorem own_d8_56 : decode prog_84_method_6_code 56 = .ok (.iconst 1, 1) := by decide +kernel
theorem own_d8_57 : decode prog_84_method_6_code 57 = .ok (.goto 4, 3) := by decide +kernel
theorem own_d8_60 : decode prog_84_method_6_code 60 = .ok (.iconst 0, 1) := by decide +kernel
theorem own_d8_61 : decode prog_84_method_6_code 61 = .ok (.istore 5, 2) := by decide +kernel
theorem own_d8_63 : decode prog_84_method_6_code 63 = .ok (.iinc 6 1, 3) := by decide +kernel
theorem own_d8_66 : decode prog_84_method_6_code 66 = .ok (.goto (-51), 3) := by decide +kernel
theorem own_d8_69 : decode prog_84_method_6_code 69 = .ok (.aload_n 0, 1) := by decide +kernel
theorem own_d8_70 : decode prog_84_method_6_code 70 = .ok (.iload 4, 2) := by decide +kernel
theorem own_d8_72 : decode prog_84_method_6_code 72 = .ok (.putfield 9, 3) := by decide +kernel
theorem own_d8_75 : decode prog_84_method_6_code 75 = .ok (.aload_n 0, 1) := by decide +kernel
theorem own_d8_76 : decode prog_84_method_6_code 76 = .ok (.iload 5, 2) := by decide +kernel
theorem own_d8_78 : decode prog_84_method_6_code 78 = .ok (.putfield 17, 3) := by decide +kernel
theorem own_d8_81 : decode prog_84_method_6_code 81 = .ok (.return_, 1) := by decide +kernel
theorem own_ef8 (m : MethodId) (x0 : Addr) (x1 : Addr) (x2 : Int32) (x3 : Int32) : entryFrame m #[(.ref x0), (.ref x1), (.int x2), (.int x3)] 8 = mkF m 0 #[.val (.ref x0), .val (.ref x1), .val (.int x2), .val (.int x3), .unset, .unset, .unset, .unset] [] := by first | (simp [entryFrame, mkF, argsToLocals, Value.category]; done) | rfl
def own_Q8 (Z : State) (r0 : Addr) (r1 : Addr) (i2 : Int32) (i3 : Int32) (cn : Int32) (ac : Int32) (xm : Int32) (kk : ClassId) (b0 : Int32) (b1 : Int32) (b2 : Int32) (b3 : Int32) (h0 : Heap) (n0 : Nat) (v : Option Value) (h : Heap) (L : List Loc) : Prop := v = none ∧ Fr n0 L ∧ Keep h0 h [r0] ∧ Exa Z h r0 "traceward/schema/LineBreaks" ∧ Fld Z h r0 "traceward/schema/LineBreaks" "count" "I" (.int ((own_tl i2 i3 cn ac xm b0 b1 b2 b3 5 cn ac i2).1)) ∧ Fld Z h r0 "traceward/schema/LineBreaks" "afterCarriageReturn" "Z" (.int ((own_tl i2 i3 cn ac xm b0 b1 b2 b3 5 cn ac i2).2)) ∧ Fld Z h r0 "traceward/schema/LineBreaks" "xml11" "Z" (.int xm)
set_option maxRecDepth 65536 in
set_option maxHeartbeats 40000000 in
theorem own_rm8 (l : Launch) (Z : State) (a0 : Array Value) (hw : ∀ d ∈ tables_1, d.before a0 Z = true) (ws : List Jvm.Cond) (r0 : Addr) (r1 : Addr) (i2 : Int32) (i3 : Int32) (cn : Int32) (ac : Int32) (xm : Int32) (kk : ClassId) (b0 : Int32) (b1 : Int32) (b2 : Int32) (b3 : Int32) (h0 : Heap) (n0 : Nat) (Z0 : n0 ≤ h0.size) (P0 : Fld Z h0 r0 "traceward/schema/LineBreaks" "count" "I" (.int cn)) (P1 : Fld Z h0 r0 "traceward/schema/LineBreaks" "afterCarriageReturn" "Z" (.int ac)) (P2 : Fld Z h0 r0 "traceward/schema/LineBreaks" "xml11" "Z" (.int xm)) (P3 : Exa Z h0 r0 "traceward/schema/LineBreaks") (P4 : n0 ≤ r0) (P5 : Arv Z h0 r1 kk .byte (4 : Int32) [(.int b0), (.int b1), (.int b2), (.int b3)] (.int (0 : Int32))) (P6 : r0 ≠ r1) (h0s : ¬ i2 < (0 : Int32)) (h4 : ¬ (4 : Int32) < i3) :
    MetFree l (⟨"traceward/schema/LineBreaks", "take", "([BII)V"⟩ : MethodName) (head1 (Jvm.Cond.code (⟨"traceward/schema/LineBreaks", "take", "([BII)V"⟩ : MethodName) prog_84_method_6_code 8 none :: ws) ({ frames := 0, cells := 0, slots := 0, locals := 0 } : Room)) (fun a U => a = #[(.ref r0), (.ref r1), (.int i2), (.int i3)] ∧ Z.Warmed39 U.vm ∧ U.heap = h0) (fun _ _ _ _ _ => True) (fun _ U o U' => ∃ v L, o = .returned v ∧ own_Q8 Z r0 r1 i2 i3 cn ac xm kk b0 b1 b2 b3 h0 n0 v U'.heap L ∧ FrameEnd U o U' L ({ frames := 0, cells := 0, slots := 0, locals := 0 } : Room).cells ({ frames := 0, cells := 0, slots := 0, locals := 0 } : Room).slots) := by
  refine MetFree.of_bodySF (plainFor_of_name own_pn1) hisR ?_
  intro p e s m args below meth c s₁ Bd hml0 hP hK
  obtain ⟨rfl, hZ, hh⟩ := hP
  have hx := Bd.exec
  have hby := Bd.bytes
  have hret := Bd.returns
  have hlk := BodyLoose.notSynchronized Bd
  have hml : c.maxLocals = 8 := hml0
  have hown : s.vm.findClass "traceward/schema/LineBreaks" = some m.cls := findClass_of_methodNamed Bd.named
  have hnm := (name_of_methodNamed Bd.named Bd.method).1
  have X0 : Stand p l e ({ frames := 0, cells := 0, slots := 0, locals := 0 } : Room) s m #[(.ref r0), (.ref r1), (.int i2), (.int i3)] below meth c s₁ [] 0 0 := Stand.of_body Bd
  have e0 : s₁.heap = h0 := by rw [← hh, Bd.state]; rfl
  have N0 := Fr.nil n0
  have K0 : Keep h0 h0 [r0] := Keep.refl h0 _
  show ownE p e below s (own_Q8 Z r0 r1 i2 i3 cn ac xm kk b0 b1 b2 b3 h0 n0) ({ frames := 0, cells := 0, slots := 0, locals := 0 } : Room).cells ({ frames := 0, cells := 0, slots := 0, locals := 0 } : Room).slots s₁ (entryFrame m #[(.ref r0), (.ref r1), (.int i2), (.int i3)] 8)
  rw [own_ef8]
  refine ownE.go (T' := s₁) (f' := (mkF m 1 #[.val (.ref r0), .val (.ref r1), .val (.int i2), .val (.int i3), .unset, .unset, .unset, .unset] [(.ref r0)])) (fun t kt => ?_) ?_
  · show Steps p.tables e below (s₁.setTop (mkF m 0 #[.val (.ref r0), .val (.ref r1), .val (.int i2), .val (.int i3), .unset, .unset, .unset, .unset] [])) _
    refine XS.aloadN X0.here hx rfl (hb hby own_d8_0) rfl rfl ?_
    exact kt
  obtain ⟨T1, X1, e1, st1⟩ := getF X0 hx hZ hown (host := "") (Or.inl (hw _ (List.mem_of_getElem? (i := 31) rfl))) Via.refl e0 P0 (g := (mkF m 1 #[.val (.ref r0), .val (.ref r1), .val (.int i2), .val (.int i3), .unset, .unset, .unset, .unset] [(.ref r0)])) rfl rfl (hb hby own_d8_1)
  refine ownE.go (T' := T1) (f' := (mkF m 4 #[.val (.ref r0), .val (.ref r1), .val (.int i2), .val (.int i3), .unset, .unset, .unset, .unset] [(.int cn)])) st1 ?_
  refine ownE.go (T' := T1) (f' := (mkF m 7 #[.val (.ref r0), .val (.ref r1), .val (.int i2), .val (.int i3), .val (.int cn), .unset, .unset, .unset] [(.ref r0)])) (fun t kt => ?_) ?_
  · show Steps p.tables e below (T1.setTop (mkF m 4 #[.val (.ref r0), .val (.ref r1), .val (.int i2), .val (.int i3), .unset, .unset, .unset, .unset] [(.int cn)])) _
    refine XS.istore X1.here hx rfl (hb hby own_d8_4) rfl (l' := #[.val (.ref r0), .val (.ref r1), .val (.int i2), .val (.int i3), .val (.int cn), .unset, .unset, .unset]) rfl ?_
    show Steps p.tables e below (T1.setTop (mkF m 6 #[.val (.ref r0), .val (.ref r1), .val (.int i2), .val (.int i3), .val (.int cn), .unset, .unset, .unset] [])) _
    refine XS.aloadN X1.here hx rfl (hb hby own_d8_6) rfl rfl ?_
    exact kt
  obtain ⟨T2, X2, e2, st2⟩ := getF X1 hx hZ hown (host := "") (Or.inl (hw _ (List.mem_of_getElem? (i := 19) rfl))) Via.refl e1 P1 (g := (mkF m 7 #[.val (.ref r0), .val (.ref r1), .val (.int i2), .val (.int i3), .val (.int cn), .unset, .unset, .unset] [(.ref r0)])) rfl rfl (hb hby own_d8_7)
  refine ownE.go (T' := T2) (f' := (mkF m 10 #[.val (.ref r0), .val (.ref r1), .val (.int i2), .val (.int i3), .val (.int cn), .unset, .unset, .unset] [(.int ac)])) st2 ?_
  refine ownE.go (T' := T2) (f' := (mkF m 15 #[.val (.ref r0), .val (.ref r1), .val (.int i2), .val (.int i3), .val (.int cn), .val (.int ac), .val (.int i2), .unset] [])) (fun t kt => ?_) ?_
  · show Steps p.tables e below (T2.setTop (mkF m 10 #[.val (.ref r0), .val (.ref r1), .val (.int i2), .val (.int i3), .val (.int cn), .unset, .unset, .unset] [(.int ac)])) _
    refine XS.istore X2.here hx rfl (hb hby own_d8_10) rfl (l' := #[.val (.ref r0), .val (.ref r1), .val (.int i2), .val (.int i3), .val (.int cn), .val (.int ac), .unset, .unset]) rfl ?_
    show Steps p.tables e below (T2.setTop (mkF m 12 #[.val (.ref r0), .val (.ref r1), .val (.int i2), .val (.int i3), .val (.int cn), .val (.int ac), .unset, .unset] [])) _
    refine XS.iloadN X2.here hx rfl (hb hby own_d8_12) rfl ?_
    show Steps p.tables e below (T2.setTop (mkF m 13 #[.val (.ref r0), .val (.ref r1), .val (.int i2), .val (.int i3), .val (.int cn), .val (.int ac), .unset, .unset] [(.int i2)])) _
    refine XS.istore X2.here hx rfl (hb hby own_d8_13) rfl (l' := #[.val (.ref r0), .val (.ref r1), .val (.int i2), .val (.int i3), .val (.int cn), .val (.int ac), .val (.int i2), .unset]) rfl ?_
    exact kt
  have LP : ∀ (k : Nat) (ln : Int32) (af : Int32) (i : Int32) (sl7 : Slot) (TL : State) (locsL : List Loc), One sl7 → ¬ i < (0 : Int32) → 0 < k ∧ i3.toInt - i.toInt < ((k : Nat) : Int) → Stand p l e ({ frames := 0, cells := 0, slots := 0, locals := 0 } : Room) s m #[(.ref r0), (.ref r1), (.int i2), (.int i3)] below meth c TL locsL 0 0 → TL.heap = h0 → Fr n0 locsL → (own_tl i2 i3 cn ac xm b0 b1 b2 b3 5 cn ac i2) = own_tl i2 i3 cn ac xm b0 b1 b2 b3 k ln af i → ownE p e below s (own_Q8 Z r0 r1 i2 i3 cn ac xm kk b0 b1 b2 b3 h0 n0) ({ frames := 0, cells := 0, slots := 0, locals := 0 } : Room).cells ({ frames := 0, cells := 0, slots := 0, locals := 0 } : Room).slots TL (mkF m 15 #[.val (.ref r0), .val (.ref r1), .val (.int i2), .val (.int i3), .val (.int ln), .val (.int af), .val (.int i), sl7] []) := by
    intro k
    induction k with
    | zero =>
      intro ln af i sl7 TL locsL hsl7 h0i hf XL eL NL hsp
      exact absurd hf.1 (by decide)
    | succ k ih =>
      intro ln af i sl7 TL locsL hsl7 h0i hf XL eL NL hsp
      refine ownE.go (T' := TL) (f' := (mkF m 18 #[.val (.ref r0), .val (.ref r1), .val (.int i2), .val (.int i3), .val (.int ln), .val (.int af), .val (.int i), sl7] [(.int i3), (.int i)])) (fun t kt => ?_) ?_
      · show Steps p.tables e below (TL.setTop (mkF m 15 #[.val (.ref r0), .val (.ref r1), .val (.int i2), .val (.int i3), .val (.int ln), .val (.int af), .val (.int i), sl7] [])) _
        refine XS.iload XL.here hx rfl (hb hby own_d8_15) rfl ?_
        show Steps p.tables e below (TL.setTop (mkF m 17 #[.val (.ref r0), .val (.ref r1), .val (.int i2), .val (.int i3), .val (.int ln), .val (.int af), .val (.int i), sl7] [(.int i)])) _
        refine XS.iloadN XL.here hx rfl (hb hby own_d8_17) rfl ?_
        exact kt
      by_cases hc3 : i < i3
      · -- pc 18
        refine ownE.go (T' := TL) (f' := (mkF m 21 #[.val (.ref r0), .val (.ref r1), .val (.int i2), .val (.int i3), .val (.int ln), .val (.int af), .val (.int i), sl7] [])) (fun t kt => XS.icmpNo (g := (mkF m 18 #[.val (.ref r0), .val (.ref r1), .val (.int i2), .val (.int i3), .val (.int ln), .val (.int af), .val (.int i), sl7] [(.int i3), (.int i)])) XL.here hx rfl (hb hby own_d8_18) rfl (Jvm.Free.XT.ii_ge_f hc3) kt) ?_
        refine ownE.go (T' := TL) (f' := (mkF m 24 #[.val (.ref r0), .val (.ref r1), .val (.int i2), .val (.int i3), .val (.int ln), .val (.int af), .val (.int i), sl7] [(.int i), (.ref r1)])) (fun t kt => ?_) ?_
        · show Steps p.tables e below (TL.setTop (mkF m 21 #[.val (.ref r0), .val (.ref r1), .val (.int i2), .val (.int i3), .val (.int ln), .val (.int af), .val (.int i), sl7] [])) _
          refine XS.aloadN XL.here hx rfl (hb hby own_d8_21) rfl rfl ?_
          show Steps p.tables e below (TL.setTop (mkF m 22 #[.val (.ref r0), .val (.ref r1), .val (.int i2), .val (.int i3), .val (.int ln), .val (.int af), .val (.int i), sl7] [(.ref r1)])) _
          refine XS.iload XL.here hx rfl (hb hby own_d8_22) rfl ?_
          exact kt
        obtain ⟨cl4, Ar4, q4, S4, Nn4, Hh4, G4⟩ := id P5
        have hin4 : ¬ (i < 0 ∨ cl4.slots.size ≤ (i).toNatClampNeg) := inb_of S4 ⟨h0i, (own_le hc3 h4)⟩
        refine ownE.go (T' := TL) (f' := (mkF m 25 #[.val (.ref r0), .val (.ref r1), .val (.int i2), .val (.int i3), .val (.int ln), .val (.int af), .val (.int i), sl7] [(.int (own_sel4 i b0 b1 b2 b3))])) (fun t kt => XL.baloadBytes hx (j := i) (v := (.int (own_sel4 i b0 b1 b2 b3))) (by rw [eL]; exact Ar4.1) (State.isArrayOf_alike hZ.alike Ar4.2.1) Ar4.2.2 hin4 (Hh4.at hin4 (own_sel4_eq _ _ _ _ _)) (g := (mkF m 24 #[.val (.ref r0), .val (.ref r1), .val (.int i2), .val (.int i3), .val (.int ln), .val (.int af), .val (.int i), sl7] [(.int i), (.ref r1)])) rfl rfl (hb hby own_d8_24) _ kt) ?_
        refine ownE.go (T' := TL) (f' := (mkF m 27 #[.val (.ref r0), .val (.ref r1), .val (.int i2), .val (.int i3), .val (.int ln), .val (.int af), .val (.int i), .val (.int (own_sel4 i b0 b1 b2 b3))] [])) (fun t kt => ?_) ?_
        · show Steps p.tables e below (TL.setTop (mkF m 25 #[.val (.ref r0), .val (.ref r1), .val (.int i2), .val (.int i3), .val (.int ln), .val (.int af), .val (.int i), sl7] [(.int (own_sel4 i b0 b1 b2 b3))])) _
          refine XS.istoreS XL.here hx rfl (hb hby own_d8_25) rfl rfl hsl7 ?_
          exact kt
        have J9 : ∀ (TJ9 : State) (locsJ9 : List Loc), Stand p l e ({ frames := 0, cells := 0, slots := 0, locals := 0 } : Room) s m #[(.ref r0), (.ref r1), (.int i2), (.int i3)] below meth c TJ9 locsJ9 0 0 → TJ9.heap = h0 → Fr n0 locsJ9 → ownE p e below s (own_Q8 Z r0 r1 i2 i3 cn ac xm kk b0 b1 b2 b3 h0 n0) ({ frames := 0, cells := 0, slots := 0, locals := 0 } : Room).cells ({ frames := 0, cells := 0, slots := 0, locals := 0 } : Room).slots TJ9 (mkF m 49 #[.val (.ref r0), .val (.ref r1), .val (.int i2), .val (.int i3), .val (.int (own_j8_49_L4 i2 i3 cn ac xm b0 b1 b2 b3 ln af i)), .val (.int af), .val (.int i), .val (.int (own_sel4 i b0 b1 b2 b3))] []) := by
          intro TJ9 locsJ9 XJ9 eJ9 NJ9
          have J12 : ∀ (TJ12 : State) (locsJ12 : List Loc), Stand p l e ({ frames := 0, cells := 0, slots := 0, locals := 0 } : Room) s m #[(.ref r0), (.ref r1), (.int i2), (.int i3)] below meth c TJ12 locsJ12 0 0 → TJ12.heap = h0 → Fr n0 locsJ12 → ownE p e below s (own_Q8 Z r0 r1 i2 i3 cn ac xm kk b0 b1 b2 b3 h0 n0) ({ frames := 0, cells := 0, slots := 0, locals := 0 } : Room).cells ({ frames := 0, cells := 0, slots := 0, locals := 0 } : Room).slots TJ12 (mkF m 61 #[.val (.ref r0), .val (.ref r1), .val (.int i2), .val (.int i3), .val (.int (own_j8_49_L4 i2 i3 cn ac xm b0 b1 b2 b3 ln af i)), .val (.int af), .val (.int i), .val (.int (own_sel4 i b0 b1 b2 b3))] [(.int (own_j8_61_S0 i2 i3 cn ac xm b0 b1 b2 b3 ln af i))]) := by
            intro TJ12 locsJ12 XJ12 eJ12 NJ12
            refine ownE.go (T' := TJ12) (f' := (mkF m 15 #[.val (.ref r0), .val (.ref r1), .val (.int i2), .val (.int i3), .val (.int (own_j8_49_L4 i2 i3 cn ac xm b0 b1 b2 b3 ln af i)), .val (.int (own_j8_61_S0 i2 i3 cn ac xm b0 b1 b2 b3 ln af i)), .val (.int (i + (1 : Int32))), .val (.int (own_sel4 i b0 b1 b2 b3))] [])) (fun t kt => ?_) ?_
            · show Steps p.tables e below (TJ12.setTop (mkF m 61 #[.val (.ref r0), .val (.ref r1), .val (.int i2), .val (.int i3), .val (.int (own_j8_49_L4 i2 i3 cn ac xm b0 b1 b2 b3 ln af i)), .val (.int af), .val (.int i), .val (.int (own_sel4 i b0 b1 b2 b3))] [(.int (own_j8_61_S0 i2 i3 cn ac xm b0 b1 b2 b3 ln af i))])) _
              refine XS.istore XJ12.here hx rfl (hb hby own_d8_61) rfl (l' := #[.val (.ref r0), .val (.ref r1), .val (.int i2), .val (.int i3), .val (.int (own_j8_49_L4 i2 i3 cn ac xm b0 b1 b2 b3 ln af i)), .val (.int (own_j8_61_S0 i2 i3 cn ac xm b0 b1 b2 b3 ln af i)), .val (.int i), .val (.int (own_sel4 i b0 b1 b2 b3))]) rfl ?_
              show Steps p.tables e below (TJ12.setTop (mkF m 63 #[.val (.ref r0), .val (.ref r1), .val (.int i2), .val (.int i3), .val (.int (own_j8_49_L4 i2 i3 cn ac xm b0 b1 b2 b3 ln af i)), .val (.int (own_j8_61_S0 i2 i3 cn ac xm b0 b1 b2 b3 ln af i)), .val (.int i), .val (.int (own_sel4 i b0 b1 b2 b3))] [])) _
              refine XS.iinc XJ12.here hx rfl (hb hby own_d8_63) rfl (l' := #[.val (.ref r0), .val (.ref r1), .val (.int i2), .val (.int i3), .val (.int (own_j8_49_L4 i2 i3 cn ac xm b0 b1 b2 b3 ln af i)), .val (.int (own_j8_61_S0 i2 i3 cn ac xm b0 b1 b2 b3 ln af i)), .val (.int (i + (1 : Int32))), .val (.int (own_sel4 i b0 b1 b2 b3))]) rfl ?_
              show Steps p.tables e below (TJ12.setTop (mkF m 66 #[.val (.ref r0), .val (.ref r1), .val (.int i2), .val (.int i3), .val (.int (own_j8_49_L4 i2 i3 cn ac xm b0 b1 b2 b3 ln af i)), .val (.int (own_j8_61_S0 i2 i3 cn ac xm b0 b1 b2 b3 ln af i)), .val (.int (i + (1 : Int32))), .val (.int (own_sel4 i b0 b1 b2 b3))] [])) _
              refine XS.goto XJ12.here hx rfl (pc0 := 66) (pc' := 15) rfl (hb hby own_d8_66) (by decide) (by decide) ?_
              exact kt
            exact ih (own_j8_49_L4 i2 i3 cn ac xm b0 b1 b2 b3 ln af i) (own_j8_61_S0 i2 i3 cn ac xm b0 b1 b2 b3 ln af i) (i + (1 : Int32)) (.val (.int (own_sel4 i b0 b1 b2 b3))) TJ12 _ (One.val rfl) (own_nx hc3 h0i h4 hf).1 (own_nx hc3 h0i h4 hf).2 XJ12 eJ12 NJ12   (hsp.trans (by rw [own_tl, if_pos hc3]))
          refine ownE.go (T' := TJ9) (f' := (mkF m 53 #[.val (.ref r0), .val (.ref r1), .val (.int i2), .val (.int i3), .val (.int (own_j8_49_L4 i2 i3 cn ac xm b0 b1 b2 b3 ln af i)), .val (.int af), .val (.int i), .val (.int (own_sel4 i b0 b1 b2 b3))] [(.int (13 : Int32)), (.int (own_sel4 i b0 b1 b2 b3))])) (fun t kt => ?_) ?_
          · show Steps p.tables e below (TJ9.setTop (mkF m 49 #[.val (.ref r0), .val (.ref r1), .val (.int i2), .val (.int i3), .val (.int (own_j8_49_L4 i2 i3 cn ac xm b0 b1 b2 b3 ln af i)), .val (.int af), .val (.int i), .val (.int (own_sel4 i b0 b1 b2 b3))] [])) _
            refine XS.iload XJ9.here hx rfl (hb hby own_d8_49) rfl ?_
            show Steps p.tables e below (TJ9.setTop (mkF m 51 #[.val (.ref r0), .val (.ref r1), .val (.int i2), .val (.int i3), .val (.int (own_j8_49_L4 i2 i3 cn ac xm b0 b1 b2 b3 ln af i)), .val (.int af), .val (.int i), .val (.int (own_sel4 i b0 b1 b2 b3))] [(.int (own_sel4 i b0 b1 b2 b3))])) _
            refine XS.bipush XJ9.here hx rfl (hb hby own_d8_51) ?_
            exact kt
          by_cases hc11 : (own_sel4 i b0 b1 b2 b3) = (13 : Int32)
          · -- pc 53
            refine ownE.go (T' := TJ9) (f' := (mkF m 56 #[.val (.ref r0), .val (.ref r1), .val (.int i2), .val (.int i3), .val (.int (own_j8_49_L4 i2 i3 cn ac xm b0 b1 b2 b3 ln af i)), .val (.int af), .val (.int i), .val (.int (own_sel4 i b0 b1 b2 b3))] [])) (fun t kt => XS.icmpNo (g := (mkF m 53 #[.val (.ref r0), .val (.ref r1), .val (.int i2), .val (.int i3), .val (.int (own_j8_49_L4 i2 i3 cn ac xm b0 b1 b2 b3 ln af i)), .val (.int af), .val (.int i), .val (.int (own_sel4 i b0 b1 b2 b3))] [(.int (13 : Int32)), (.int (own_sel4 i b0 b1 b2 b3))])) XJ9.here hx rfl (hb hby own_d8_53) rfl (Jvm.Free.XT.ii_ne_f hc11) kt) ?_
            refine ownE.go (T' := TJ9) (f' := (mkF m 61 #[.val (.ref r0), .val (.ref r1), .val (.int i2), .val (.int i3), .val (.int (own_j8_49_L4 i2 i3 cn ac xm b0 b1 b2 b3 ln af i)), .val (.int af), .val (.int i), .val (.int (own_sel4 i b0 b1 b2 b3))] [(.int (1 : Int32))])) (fun t kt => ?_) ?_
            · show Steps p.tables e below (TJ9.setTop (mkF m 56 #[.val (.ref r0), .val (.ref r1), .val (.int i2), .val (.int i3), .val (.int (own_j8_49_L4 i2 i3 cn ac xm b0 b1 b2 b3 ln af i)), .val (.int af), .val (.int i), .val (.int (own_sel4 i b0 b1 b2 b3))] [])) _
              refine XS.iconst XJ9.here hx rfl (hb hby own_d8_56) ?_
              show Steps p.tables e below (TJ9.setTop (mkF m 57 #[.val (.ref r0), .val (.ref r1), .val (.int i2), .val (.int i3), .val (.int (own_j8_49_L4 i2 i3 cn ac xm b0 b1 b2 b3 ln af i)), .val (.int af), .val (.int i), .val (.int (own_sel4 i b0 b1 b2 b3))] [(.int (1 : Int32))])) _
              refine XS.goto XJ9.here hx rfl (pc0 := 57) (pc' := 61) rfl (hb hby own_d8_57) (by decide) (by decide) ?_
              exact kt
            have jj := J12 _ _ XJ9 eJ9 NJ9
            rw [show (own_j8_61_S0 i2 i3 cn ac xm b0 b1 b2 b3 ln af i) = (1 : Int32) from by rw [own_j8_61_S0, if_pos hc11]] at jj
            exact jj
          · -- pc 53
            refine ownE.go (T' := TJ9) (f' := (mkF m 60 #[.val (.ref r0), .val (.ref r1), .val (.int i2), .val (.int i3), .val (.int (own_j8_49_L4 i2 i3 cn ac xm b0 b1 b2 b3 ln af i)), .val (.int af), .val (.int i), .val (.int (own_sel4 i b0 b1 b2 b3))] [])) (fun t kt => XS.icmpYes (g := (mkF m 53 #[.val (.ref r0), .val (.ref r1), .val (.int i2), .val (.int i3), .val (.int (own_j8_49_L4 i2 i3 cn ac xm b0 b1 b2 b3 ln af i)), .val (.int af), .val (.int i), .val (.int (own_sel4 i b0 b1 b2 b3))] [(.int (13 : Int32)), (.int (own_sel4 i b0 b1 b2 b3))])) XJ9.here hx rfl (pc0 := 53) (pc' := 60) rfl (hb hby own_d8_53) rfl (Jvm.Free.XT.ii_ne_t hc11) (by decide) (by decide) kt) ?_
            refine ownE.go (T' := TJ9) (f' := (mkF m 61 #[.val (.ref r0), .val (.ref r1), .val (.int i2), .val (.int i3), .val (.int (own_j8_49_L4 i2 i3 cn ac xm b0 b1 b2 b3 ln af i)), .val (.int af), .val (.int i), .val (.int (own_sel4 i b0 b1 b2 b3))] [(.int (0 : Int32))])) (fun t kt => ?_) ?_
            · show Steps p.tables e below (TJ9.setTop (mkF m 60 #[.val (.ref r0), .val (.ref r1), .val (.int i2), .val (.int i3), .val (.int (own_j8_49_L4 i2 i3 cn ac xm b0 b1 b2 b3 ln af i)), .val (.int af), .val (.int i), .val (.int (own_sel4 i b0 b1 b2 b3))] [])) _
              refine XS.iconst XJ9.here hx rfl (hb hby own_d8_60) ?_
              exact kt
            have jj := J12 _ _ XJ9 eJ9 NJ9
            rw [show (own_j8_61_S0 i2 i3 cn ac xm b0 b1 b2 b3 ln af i) = (0 : Int32) from by rw [own_j8_61_S0, if_neg hc11]] at jj
            exact jj
        refine ownE.go (T' := TL) (f' := (mkF m 31 #[.val (.ref r0), .val (.ref r1), .val (.int i2), .val (.int i3), .val (.int ln), .val (.int af), .val (.int i), .val (.int (own_sel4 i b0 b1 b2 b3))] [(.int (13 : Int32)), (.int (own_sel4 i b0 b1 b2 b3))])) (fun t kt => ?_) ?_
        · show Steps p.tables e below (TL.setTop (mkF m 27 #[.val (.ref r0), .val (.ref r1), .val (.int i2), .val (.int i3), .val (.int ln), .val (.int af), .val (.int i), .val (.int (own_sel4 i b0 b1 b2 b3))] [])) _
          refine XS.iload XL.here hx rfl (hb hby own_d8_27) rfl ?_
          show Steps p.tables e below (TL.setTop (mkF m 29 #[.val (.ref r0), .val (.ref r1), .val (.int i2), .val (.int i3), .val (.int ln), .val (.int af), .val (.int i), .val (.int (own_sel4 i b0 b1 b2 b3))] [(.int (own_sel4 i b0 b1 b2 b3))])) _
          refine XS.bipush XL.here hx rfl (hb hby own_d8_29) ?_
          exact kt
        by_cases hc6 : (own_sel4 i b0 b1 b2 b3) = (13 : Int32)
        · -- pc 31
          refine ownE.go (T' := TL) (f' := (mkF m 46 #[.val (.ref r0), .val (.ref r1), .val (.int i2), .val (.int i3), .val (.int ln), .val (.int af), .val (.int i), .val (.int (own_sel4 i b0 b1 b2 b3))] [])) (fun t kt => XS.icmpYes (g := (mkF m 31 #[.val (.ref r0), .val (.ref r1), .val (.int i2), .val (.int i3), .val (.int ln), .val (.int af), .val (.int i), .val (.int (own_sel4 i b0 b1 b2 b3))] [(.int (13 : Int32)), (.int (own_sel4 i b0 b1 b2 b3))])) XL.here hx rfl (pc0 := 31) (pc' := 46) rfl (hb hby own_d8_31) rfl (Jvm.Free.XT.ii_eq_t hc6) (by decide) (by decide) kt) ?_
          refine ownE.go (T' := TL) (f' := (mkF m 49 #[.val (.ref r0), .val (.ref r1), .val (.int i2), .val (.int i3), .val (.int (ln + (1 : Int32))), .val (.int af), .val (.int i), .val (.int (own_sel4 i b0 b1 b2 b3))] [])) (fun t kt => ?_) ?_
          · show Steps p.tables e below (TL.setTop (mkF m 46 #[.val (.ref r0), .val (.ref r1), .val (.int i2), .val (.int i3), .val (.int ln), .val (.int af), .val (.int i), .val (.int (own_sel4 i b0 b1 b2 b3))] [])) _
            refine XS.iinc XL.here hx rfl (hb hby own_d8_46) rfl (l' := #[.val (.ref r0), .val (.ref r1), .val (.int i2), .val (.int i3), .val (.int (ln + (1 : Int32))), .val (.int af), .val (.int i), .val (.int (own_sel4 i b0 b1 b2 b3))]) rfl ?_
            exact kt
          have jj := J9 _ _ XL eL NL
          rw [show (own_j8_49_L4 i2 i3 cn ac xm b0 b1 b2 b3 ln af i) = (ln + (1 : Int32)) from by rw [own_j8_49_L4, if_pos hc6]] at jj
          exact jj
        · -- pc 31
          refine ownE.go (T' := TL) (f' := (mkF m 34 #[.val (.ref r0), .val (.ref r1), .val (.int i2), .val (.int i3), .val (.int ln), .val (.int af), .val (.int i), .val (.int (own_sel4 i b0 b1 b2 b3))] [])) (fun t kt => XS.icmpNo (g := (mkF m 31 #[.val (.ref r0), .val (.ref r1), .val (.int i2), .val (.int i3), .val (.int ln), .val (.int af), .val (.int i), .val (.int (own_sel4 i b0 b1 b2 b3))] [(.int (13 : Int32)), (.int (own_sel4 i b0 b1 b2 b3))])) XL.here hx rfl (hb hby own_d8_31) rfl (Jvm.Free.XT.ii_eq_f hc6) kt) ?_
          refine ownE.go (T' := TL) (f' := (mkF m 38 #[.val (.ref r0), .val (.ref r1), .val (.int i2), .val (.int i3), .val (.int ln), .val (.int af), .val (.int i), .val (.int (own_sel4 i b0 b1 b2 b3))] [(.int (10 : Int32)), (.int (own_sel4 i b0 b1 b2 b3))])) (fun t kt => ?_) ?_
          · show Steps p.tables e below (TL.setTop (mkF m 34 #[.val (.ref r0), .val (.ref r1), .val (.int i2), .val (.int i3), .val (.int ln), .val (.int af), .val (.int i), .val (.int (own_sel4 i b0 b1 b2 b3))] [])) _
            refine XS.iload XL.here hx rfl (hb hby own_d8_34) rfl ?_
            show Steps p.tables e below (TL.setTop (mkF m 36 #[.val (.ref r0), .val (.ref r1), .val (.int i2), .val (.int i3), .val (.int ln), .val (.int af), .val (.int i), .val (.int (own_sel4 i b0 b1 b2 b3))] [(.int (own_sel4 i b0 b1 b2 b3))])) _
            refine XS.bipush XL.here hx rfl (hb hby own_d8_36) ?_
            exact kt
          by_cases hc7 : (own_sel4 i b0 b1 b2 b3) = (10 : Int32)
          · -- pc 38
            refine ownE.go (T' := TL) (f' := (mkF m 41 #[.val (.ref r0), .val (.ref r1), .val (.int i2), .val (.int i3), .val (.int ln), .val (.int af), .val (.int i), .val (.int (own_sel4 i b0 b1 b2 b3))] [])) (fun t kt => XS.icmpNo (g := (mkF m 38 #[.val (.ref r0), .val (.ref r1), .val (.int i2), .val (.int i3), .val (.int ln), .val (.int af), .val (.int i), .val (.int (own_sel4 i b0 b1 b2 b3))] [(.int (10 : Int32)), (.int (own_sel4 i b0 b1 b2 b3))])) XL.here hx rfl (hb hby own_d8_38) rfl (Jvm.Free.XT.ii_ne_f hc7) kt) ?_
            refine ownE.go (T' := TL) (f' := (mkF m 43 #[.val (.ref r0), .val (.ref r1), .val (.int i2), .val (.int i3), .val (.int ln), .val (.int af), .val (.int i), .val (.int (own_sel4 i b0 b1 b2 b3))] [(.int af)])) (fun t kt => ?_) ?_
            · show Steps p.tables e below (TL.setTop (mkF m 41 #[.val (.ref r0), .val (.ref r1), .val (.int i2), .val (.int i3), .val (.int ln), .val (.int af), .val (.int i), .val (.int (own_sel4 i b0 b1 b2 b3))] [])) _
              refine XS.iload XL.here hx rfl (hb hby own_d8_41) rfl ?_
              exact kt
            by_cases hc8 : af = (0 : Int32)
            · -- pc 43
              refine ownE.go (T' := TL) (f' := (mkF m 46 #[.val (.ref r0), .val (.ref r1), .val (.int i2), .val (.int i3), .val (.int ln), .val (.int af), .val (.int i), .val (.int (own_sel4 i b0 b1 b2 b3))] [])) (fun t kt => XS.ifNo (g := (mkF m 43 #[.val (.ref r0), .val (.ref r1), .val (.int i2), .val (.int i3), .val (.int ln), .val (.int af), .val (.int i), .val (.int (own_sel4 i b0 b1 b2 b3))] [(.int af)])) XL.here hx rfl (hb hby own_d8_43) rfl (Jvm.Free.XT.i0_ne_f hc8) kt) ?_
              refine ownE.go (T' := TL) (f' := (mkF m 49 #[.val (.ref r0), .val (.ref r1), .val (.int i2), .val (.int i3), .val (.int (ln + (1 : Int32))), .val (.int af), .val (.int i), .val (.int (own_sel4 i b0 b1 b2 b3))] [])) (fun t kt => ?_) ?_
              · show Steps p.tables e below (TL.setTop (mkF m 46 #[.val (.ref r0), .val (.ref r1), .val (.int i2), .val (.int i3), .val (.int ln), .val (.int af), .val (.int i), .val (.int (own_sel4 i b0 b1 b2 b3))] [])) _
                refine XS.iinc XL.here hx rfl (hb hby own_d8_46) rfl (l' := #[.val (.ref r0), .val (.ref r1), .val (.int i2), .val (.int i3), .val (.int (ln + (1 : Int32))), .val (.int af), .val (.int i), .val (.int (own_sel4 i b0 b1 b2 b3))]) rfl ?_
                exact kt
              have jj := J9 _ _ XL eL NL
              rw [show (own_j8_49_L4 i2 i3 cn ac xm b0 b1 b2 b3 ln af i) = (ln + (1 : Int32)) from by rw [own_j8_49_L4, if_neg hc6, if_pos hc7, if_pos hc8]] at jj
              exact jj
            · -- pc 43
              refine ownE.go (T' := TL) (f' := (mkF m 49 #[.val (.ref r0), .val (.ref r1), .val (.int i2), .val (.int i3), .val (.int ln), .val (.int af), .val (.int i), .val (.int (own_sel4 i b0 b1 b2 b3))] [])) (fun t kt => XS.ifYes (g := (mkF m 43 #[.val (.ref r0), .val (.ref r1), .val (.int i2), .val (.int i3), .val (.int ln), .val (.int af), .val (.int i), .val (.int (own_sel4 i b0 b1 b2 b3))] [(.int af)])) XL.here hx rfl (pc0 := 43) (pc' := 49) rfl (hb hby own_d8_43) rfl (Jvm.Free.XT.i0_ne_t hc8) (by decide) (by decide) kt) ?_
              have jj := J9 _ _ XL eL NL
              rw [show (own_j8_49_L4 i2 i3 cn ac xm b0 b1 b2 b3 ln af i) = ln from by rw [own_j8_49_L4, if_neg hc6, if_pos hc7, if_neg hc8]] at jj
              exact jj
          · -- pc 38
            refine ownE.go (T' := TL) (f' := (mkF m 49 #[.val (.ref r0), .val (.ref r1), .val (.int i2), .val (.int i3), .val (.int ln), .val (.int af), .val (.int i), .val (.int (own_sel4 i b0 b1 b2 b3))] [])) (fun t kt => XS.icmpYes (g := (mkF m 38 #[.val (.ref r0), .val (.ref r1), .val (.int i2), .val (.int i3), .val (.int ln), .val (.int af), .val (.int i), .val (.int (own_sel4 i b0 b1 b2 b3))] [(.int (10 : Int32)), (.int (own_sel4 i b0 b1 b2 b3))])) XL.here hx rfl (pc0 := 38) (pc' := 49) rfl (hb hby own_d8_38) rfl (Jvm.Free.XT.ii_ne_t hc7) (by decide) (by decide) kt) ?_
            have jj := J9 _ _ XL eL NL
            rw [show (own_j8_49_L4 i2 i3 cn ac xm b0 b1 b2 b3 ln af i) = ln from by rw [own_j8_49_L4, if_neg hc6, if_neg hc7]] at jj
            exact jj
      · -- pc 18
        refine ownE.go (T' := TL) (f' := (mkF m 69 #[.val (.ref r0), .val (.ref r1), .val (.int i2), .val (.int i3), .val (.int ln), .val (.int af), .val (.int i), sl7] [])) (fun t kt => XS.icmpYes (g := (mkF m 18 #[.val (.ref r0), .val (.ref r1), .val (.int i2), .val (.int i3), .val (.int ln), .val (.int af), .val (.int i), sl7] [(.int i3), (.int i)])) XL.here hx rfl (pc0 := 18) (pc' := 69) rfl (hb hby own_d8_18) rfl (Jvm.Free.XT.ii_ge_t hc3) (by decide) (by decide) kt) ?_
        refine ownE.go (T' := TL) (f' := (mkF m 72 #[.val (.ref r0), .val (.ref r1), .val (.int i2), .val (.int i3), .val (.int ln), .val (.int af), .val (.int i), sl7] [(.int ln), (.ref r0)])) (fun t kt => ?_) ?_
        · show Steps p.tables e below (TL.setTop (mkF m 69 #[.val (.ref r0), .val (.ref r1), .val (.int i2), .val (.int i3), .val (.int ln), .val (.int af), .val (.int i), sl7] [])) _
          refine XS.aloadN XL.here hx rfl (hb hby own_d8_69) rfl rfl ?_
          show Steps p.tables e below (TL.setTop (mkF m 70 #[.val (.ref r0), .val (.ref r1), .val (.int i2), .val (.int i3), .val (.int ln), .val (.int af), .val (.int i), sl7] [(.ref r0)])) _
          refine XS.iload XL.here hx rfl (hb hby own_d8_70) rfl ?_
          exact kt
        obtain ⟨T13, h13, X13, e13, W13, st13⟩ := putF XL hx hZ hown (host := "") (Or.inl (hw _ (List.mem_of_getElem? (i := 31) rfl))) Via.refl eL P0 P3 (Or.inl (hw _ (List.mem_of_getElem? (i := 32) rfl))) (hw _ (List.mem_of_getElem? (i := 6) rfl)) (ty := .int) (by decide) rfl rfl (g := (mkF m 72 #[.val (.ref r0), .val (.ref r1), .val (.int i2), .val (.int i3), .val (.int ln), .val (.int af), .val (.int i), sl7] [(.int ln), (.ref r0)])) rfl rfl (hb hby own_d8_72)
        have Fw13 : Fld Z h13 r0 "traceward/schema/LineBreaks" "count" "I" (.int ln) := P0.same W13
        have cFld_r0_afterCarriageReturn_13 : Fld Z h13 r0 "traceward/schema/LineBreaks" "afterCarriageReturn" "Z" (.int ac) := P1.other W13 (Or.inr (slot_ne (Or.inl (hw _ (List.mem_of_getElem? (i := 20) rfl))) (Or.inl (hw _ (List.mem_of_getElem? (i := 32) rfl))) (by decide) (t := .boolean) (t' := .int) (by decide) (by decide)))
        have cFld_r0_xml11_13 : Fld Z h13 r0 "traceward/schema/LineBreaks" "xml11" "Z" (.int xm) := P2.other W13 (Or.inr (slot_ne (Or.inl (hw _ (List.mem_of_getElem? (i := 22) rfl))) (Or.inl (hw _ (List.mem_of_getElem? (i := 32) rfl))) (by decide) (t := .boolean) (t' := .int) (by decide) (by decide)))
        have cExa_r0_13 : Exa Z h13 r0 "traceward/schema/LineBreaks" := P3.wr W13
        have cArv_r1_13 : Arv Z h13 r1 kk .byte (4 : Int32) [(.int b0), (.int b1), (.int b2), (.int b3)] (.int (0 : Int32)) := P5.other W13 (Ne.symm P6)
        have K13 : Keep h0 h13 [r0] := K0.wr W13 (Or.inl (List.mem_of_getElem? (i := 0) rfl))
        have N13 := Fr.snoc X13 NL P4
        refine ownE.go (T' := T13) (f' := (mkF m 75 #[.val (.ref r0), .val (.ref r1), .val (.int i2), .val (.int i3), .val (.int ln), .val (.int af), .val (.int i), sl7] [])) st13 ?_
        refine ownE.go (T' := T13) (f' := (mkF m 78 #[.val (.ref r0), .val (.ref r1), .val (.int i2), .val (.int i3), .val (.int ln), .val (.int af), .val (.int i), sl7] [(.int af), (.ref r0)])) (fun t kt => ?_) ?_
        · show Steps p.tables e below (T13.setTop (mkF m 75 #[.val (.ref r0), .val (.ref r1), .val (.int i2), .val (.int i3), .val (.int ln), .val (.int af), .val (.int i), sl7] [])) _
          refine XS.aloadN X13.here hx rfl (hb hby own_d8_75) rfl rfl ?_
          show Steps p.tables e below (T13.setTop (mkF m 76 #[.val (.ref r0), .val (.ref r1), .val (.int i2), .val (.int i3), .val (.int ln), .val (.int af), .val (.int i), sl7] [(.ref r0)])) _
          refine XS.iload X13.here hx rfl (hb hby own_d8_76) rfl ?_
          exact kt
        obtain ⟨T14, h14, X14, e14, W14, st14⟩ := putFN X13 hx hZ hown (hw _ (List.mem_of_getElem? (i := 19) rfl)) Via.refl e13 cFld_r0_afterCarriageReturn_13 cExa_r0_13 (Or.inl (hw _ (List.mem_of_getElem? (i := 20) rfl))) (hw _ (List.mem_of_getElem? (i := 6) rfl)) (ty := .boolean) (v' := (.int (af &&& 1))) (by decide) rfl (fits_nar_bool _) (g := (mkF m 78 #[.val (.ref r0), .val (.ref r1), .val (.int i2), .val (.int i3), .val (.int ln), .val (.int af), .val (.int i), sl7] [(.int af), (.ref r0)])) rfl rfl (hb hby own_d8_78)
        have Fw14 : Fld Z h14 r0 "traceward/schema/LineBreaks" "afterCarriageReturn" "Z" (.int (af &&& 1)) := cFld_r0_afterCarriageReturn_13.same W14
        have cFld_r0_count_14 : Fld Z h14 r0 "traceward/schema/LineBreaks" "count" "I" (.int ln) := Fw13.other W14 (Or.inr (slot_ne (Or.inl (hw _ (List.mem_of_getElem? (i := 32) rfl))) (Or.inl (hw _ (List.mem_of_getElem? (i := 20) rfl))) (by decide) (t := .int) (t' := .boolean) (by decide) (by decide)))
        have cFld_r0_xml11_14 : Fld Z h14 r0 "traceward/schema/LineBreaks" "xml11" "Z" (.int xm) := cFld_r0_xml11_13.other W14 (Or.inr (slot_ne (Or.inl (hw _ (List.mem_of_getElem? (i := 22) rfl))) (Or.inl (hw _ (List.mem_of_getElem? (i := 20) rfl))) (by decide) (t := .boolean) (t' := .boolean) (by decide) (by decide)))
        have cExa_r0_14 : Exa Z h14 r0 "traceward/schema/LineBreaks" := cExa_r0_13.wr W14
        have cArv_r1_14 : Arv Z h14 r1 kk .byte (4 : Int32) [(.int b0), (.int b1), (.int b2), (.int b3)] (.int (0 : Int32)) := cArv_r1_13.other W14 (Ne.symm P6)
        have K14 : Keep h0 h14 [r0] := K13.wr W14 (Or.inl (List.mem_of_getElem? (i := 0) rfl))
        have N14 := Fr.snoc X14 N13 P4
        refine ownE.go (T' := T14) (f' := (mkF m 81 #[.val (.ref r0), .val (.ref r1), .val (.int i2), .val (.int i3), .val (.int ln), .val (.int af), .val (.int i), sl7] [])) st14 ?_
        refine ownE.retV X14 hx hlk hret (hb hby own_d8_81) ?_ (by decide) (by decide)
        show own_Q8 Z r0 r1 i2 i3 cn ac xm kk b0 b1 b2 b3 h0 n0 _ T14.heap _
        rw [e14]
        exact ⟨rfl, N14, K14, cExa_r0_14, (by rw [hsp, own_tl, if_neg hc3]; exact cFld_r0_count_14), (by rw [hsp, own_tl, if_neg hc3]; exact Fw14), cFld_r0_xml11_14⟩
  exact LP 5 cn ac i2 (.unset) T2 _ One.u h0s (own_fu h0s h4) X2 e2 N0   rfl
theorem own_m5 (x : Int32) : ¬ ((x &&& (255 : Int32)) % (5 : Int32)) < (0 : Int32) ∧ ¬ (4 : Int32) < ((x &&& (255 : Int32)) % (5 : Int32)) := by
  have h := c_mask x 255 8 (by decide) (by decide)
  have p : ((2 ^ 8 : Nat) : Int) = 256 := by decide
  rw [p] at h
  have q := (c_irem (x &&& 255) 5 5 (by decide)).1 (by omega)
  rw [Int32.lt_iff_toInt_lt, Int32.lt_iff_toInt_lt, q]
  have z0 : (0 : Int32).toInt = 0 := by decide
  have z4 : (4 : Int32).toInt = 4 := by decide
  rw [z0, z4]
  omega
theorem own_pre {s t : Int32} (h : s < t) (h0 : ¬ s < (0 : Int32)) (h4 : ¬ (4 : Int32) < t) : ¬ (t - (1 : Int32)) < (0 : Int32) ∧ (t - (1 : Int32)) < (4 : Int32) := by
  rw [Int32.lt_iff_toInt_lt] at *
  rw [Int32.lt_iff_toInt_lt]
  have e := c_isub t 1
  have r := rng32 (t - (1 : Int32))
  have rt := rng32 t
  have z0 : (0 : Int32).toInt = 0 := by decide
  have z1 : (1 : Int32).toInt = 1 := by decide
  have z4 : (4 : Int32).toInt = 4 := by decide
  omega
theorem own_pd3 : parseMethodDescriptor "(I)B" = some ⟨[.int], some .byte⟩ := by decide +kernel
def own_v0_45 (i0 : Int32) (i1 : Int32) (i2 : Int32) (i3 : Int32) (i4 : Int32) (i5 : Int32) : Int32 := ((i4 &&& (255 : Int32)) % (5 : Int32))
def own_v0_58 (i0 : Int32) (i1 : Int32) (i2 : Int32) (i3 : Int32) (i4 : Int32) (i5 : Int32) : Int32 := ((((i4.toUInt32 >>> ((8 : Int32) &&& 31).toUInt32).toInt32) &&& (255 : Int32)) % (5 : Int32))
def own_j0_78_S0 (i0 : Int32) (i1 : Int32) (i2 : Int32) (i3 : Int32) (i4 : Int32) (i5 : Int32) : Int32 :=
  if (i5 &&& (4 : Int32)) = (0 : Int32) then
    (0 : Int32)
  else
    (1 : Int32)
def own_v0_84 (i0 : Int32) (i1 : Int32) (i2 : Int32) (i3 : Int32) (i4 : Int32) (i5 : Int32) : Int32 := (i5 >>> ((3 : Int32) &&& 31))
theorem own_pd4 : parseMethodDescriptor "()V" = some ⟨[], none⟩ := by decide +kernel
def own_j0_105_xml11 (i0 : Int32) (i1 : Int32) (i2 : Int32) (i3 : Int32) (i4 : Int32) (i5 : Int32) : Int32 :=
  if (own_j0_78_S0 i0 i1 i2 i3 i4 i5) = (0 : Int32) then
    (0 : Int32)
  else
    (1 : Int32)
theorem own_pd5 : parseMethodDescriptor "(I)V" = some ⟨[.int], none⟩ := by decide +kernel
def own_j0_168_S0 (i0 : Int32) (i1 : Int32) (i2 : Int32) (i3 : Int32) (i4 : Int32) (i5 : Int32) : Int32 :=
  if (own_v0_84 i0 i1 i2 i3 i4 i5) = (13 : Int32) then
    (1 : Int32)
  else
    (0 : Int32)
def own_j0_170_L13 (i0 : Int32) (i1 : Int32) (i2 : Int32) (i3 : Int32) (i4 : Int32) (i5 : Int32) : Int32 :=
  if (i5 &&& (3 : Int32)) = (1 : Int32) then
    (1 : Int32)
  else
    if (i5 &&& (3 : Int32)) = (2 : Int32) then
      (0 : Int32)
    else
      if (i5 &&& (3 : Int32)) = (3 : Int32) then
        (own_j0_168_S0 i0 i1 i2 i3 i4 i5)
      else
        (0 : Int32)
def own_j0_170_afterCarriageReturn (i0 : Int32) (i1 : Int32) (i2 : Int32) (i3 : Int32) (i4 : Int32) (i5 : Int32) : Int32 :=
  if (i5 &&& (3 : Int32)) = (1 : Int32) then
    (own_ta (13 : Int32) (0 : Int32) (0 : Int32) (own_j0_105_xml11 i0 i1 i2 i3 i4 i5))
  else
    if (i5 &&& (3 : Int32)) = (2 : Int32) then
      (own_ta (10 : Int32) (0 : Int32) (0 : Int32) (own_j0_105_xml11 i0 i1 i2 i3 i4 i5))
    else
      if (i5 &&& (3 : Int32)) = (3 : Int32) then
        (own_ta (own_v0_84 i0 i1 i2 i3 i4 i5) (0 : Int32) (0 : Int32) (own_j0_105_xml11 i0 i1 i2 i3 i4 i5))
      else
        (0 : Int32)
def own_j0_170_count (i0 : Int32) (i1 : Int32) (i2 : Int32) (i3 : Int32) (i4 : Int32) (i5 : Int32) : Int32 :=
  if (i5 &&& (3 : Int32)) = (1 : Int32) then
    (own_tc (13 : Int32) (0 : Int32) (0 : Int32) (own_j0_105_xml11 i0 i1 i2 i3 i4 i5))
  else
    if (i5 &&& (3 : Int32)) = (2 : Int32) then
      (own_tc (10 : Int32) (0 : Int32) (0 : Int32) (own_j0_105_xml11 i0 i1 i2 i3 i4 i5))
    else
      if (i5 &&& (3 : Int32)) = (3 : Int32) then
        (own_tc (own_v0_84 i0 i1 i2 i3 i4 i5) (0 : Int32) (0 : Int32) (own_j0_105_xml11 i0 i1 i2 i3 i4 i5))
      else
        (0 : Int32)
theorem own_pd6 : parseMethodDescriptor "()I" = some ⟨[], some .int⟩ := by decide +kernel
theorem own_pd7 : parseMethodDescriptor "([BIIIZ)I" = some ⟨[(.array .byte), .int, .int, .int, .boolean], some .int⟩ := by decide +kernel
def own_v0_228 (i0 : Int32) (i1 : Int32) (i2 : Int32) (i3 : Int32) (i4 : Int32) (i5 : Int32) : Int32 := ((((own_brk0 (own_v0_45 i0 i1 i2 i3 i4 i5) (own_v0_58 i0 i1 i2 i3 i4 i5) (own_j0_170_L13 i0 i1 i2 i3 i4 i5) ((own_draw i0).toInt8.toInt32) ((own_draw i1).toInt8.toInt32) ((own_draw i2).toInt8.toInt32) ((own_draw i3).toInt8.toInt32)) + (own_brk1 (own_v0_45 i0 i1 i2 i3 i4 i5) (own_v0_58 i0 i1 i2 i3 i4 i5) (own_j0_170_L13 i0 i1 i2 i3 i4 i5) ((own_draw i0).toInt8.toInt32) ((own_draw i1).toInt8.toInt32) ((own_draw i2).toInt8.toInt32) ((own_draw i3).toInt8.toInt32))) + (own_brk2 (own_v0_45 i0 i1 i2 i3 i4 i5) (own_v0_58 i0 i1 i2 i3 i4 i5) (own_j0_170_L13 i0 i1 i2 i3 i4 i5) ((own_draw i0).toInt8.toInt32) ((own_draw i1).toInt8.toInt32) ((own_draw i2).toInt8.toInt32) ((own_draw i3).toInt8.toInt32))) + (own_brk3 (own_v0_45 i0 i1 i2 i3 i4 i5) (own_v0_58 i0 i1 i2 i3 i4 i5) (own_j0_170_L13 i0 i1 i2 i3 i4 i5) ((own_draw i0).toInt8.toInt32) ((own_draw i1).toInt8.toInt32) ((own_draw i2).toInt8.toInt32) ((own_draw i3).toInt8.toInt32)))
def own_j0_259_S0 (i0 : Int32) (i1 : Int32) (i2 : Int32) (i3 : Int32) (i4 : Int32) (i5 : Int32) : Int32 :=
  if (own_v0_45 i0 i1 i2 i3 i4 i5) < (own_v0_58 i0 i1 i2 i3 i4 i5) then
    if (own_sel4 ((own_v0_58 i0 i1 i2 i3 i4 i5) - (1 : Int32)) ((own_draw i0).toInt8.toInt32) ((own_draw i1).toInt8.toInt32) ((own_draw i2).toInt8.toInt32) ((own_draw i3).toInt8.toInt32)) = (13 : Int32) then
      (1 : Int32)
    else
      (0 : Int32)
  else
    (own_j0_170_L13 i0 i1 i2 i3 i4 i5)
theorem own_pd8 : parseMethodDescriptor "([BII)V" = some ⟨[(.array .byte), .int, .int], none⟩ := by decide +kernel
def own_j0_318_S0 (i0 : Int32) (i1 : Int32) (i2 : Int32) (i3 : Int32) (i4 : Int32) (i5 : Int32) : Int32 :=
  if (own_j0_259_S0 i0 i1 i2 i3 i4 i5) = (0 : Int32) then
    (1 : Int32)
  else
    (0 : Int32)
theorem own_ef0 (m : MethodId) (x0 : Int32) (x1 : Int32) (x2 : Int32) (x3 : Int32) (x4 : Int32) (x5 : Int32) : entryFrame m #[(.int x0), (.int x1), (.int x2), (.int x3), (.int x4), (.int x5)] maxLocals = mkF m 0 #[.val (.int x0), .val (.int x1), .val (.int x2), .val (.int x3), .val (.int x4), .val (.int x5), .unset, .unset, .unset, .unset, .unset, .unset, .unset, .unset, .unset, .unset, .unset, .unset, .unset] [] := by first | (simp [entryFrame, mkF, argsToLocals, Value.category, maxLocals]; done) | rfl
def own_f0 (i0 : Int32) (i1 : Int32) (i2 : Int32) (i3 : Int32) (i4 : Int32) (i5 : Int32) : Int32 :=
  if (own_cnt ((own_tl (own_v0_45 i0 i1 i2 i3 i4 i5) (own_v0_58 i0 i1 i2 i3 i4 i5) (own_j0_170_count i0 i1 i2 i3 i4 i5) (own_j0_170_afterCarriageReturn i0 i1 i2 i3 i4 i5) (own_j0_105_xml11 i0 i1 i2 i3 i4 i5) ((own_draw i0).toInt8.toInt32) ((own_draw i1).toInt8.toInt32) ((own_draw i2).toInt8.toInt32) ((own_draw i3).toInt8.toInt32) 5 (own_j0_170_count i0 i1 i2 i3 i4 i5) (own_j0_170_afterCarriageReturn i0 i1 i2 i3 i4 i5) (own_v0_45 i0 i1 i2 i3 i4 i5)).1)) = ((own_cnt (own_j0_170_count i0 i1 i2 i3 i4 i5)) + (own_v0_228 i0 i1 i2 i3 i4 i5)) then
    if ((own_cnt (own_tc (10 : Int32) ((own_tl (own_v0_45 i0 i1 i2 i3 i4 i5) (own_v0_58 i0 i1 i2 i3 i4 i5) (own_j0_170_count i0 i1 i2 i3 i4 i5) (own_j0_170_afterCarriageReturn i0 i1 i2 i3 i4 i5) (own_j0_105_xml11 i0 i1 i2 i3 i4 i5) ((own_draw i0).toInt8.toInt32) ((own_draw i1).toInt8.toInt32) ((own_draw i2).toInt8.toInt32) ((own_draw i3).toInt8.toInt32) 5 (own_j0_170_count i0 i1 i2 i3 i4 i5) (own_j0_170_afterCarriageReturn i0 i1 i2 i3 i4 i5) (own_v0_45 i0 i1 i2 i3 i4 i5)).1) ((own_tl (own_v0_45 i0 i1 i2 i3 i4 i5) (own_v0_58 i0 i1 i2 i3 i4 i5) (own_j0_170_count i0 i1 i2 i3 i4 i5) (own_j0_170_afterCarriageReturn i0 i1 i2 i3 i4 i5) (own_j0_105_xml11 i0 i1 i2 i3 i4 i5) ((own_draw i0).toInt8.toInt32) ((own_draw i1).toInt8.toInt32) ((own_draw i2).toInt8.toInt32) ((own_draw i3).toInt8.toInt32) 5 (own_j0_170_count i0 i1 i2 i3 i4 i5) (own_j0_170_afterCarriageReturn i0 i1 i2 i3 i4 i5) (own_v0_45 i0 i1 i2 i3 i4 i5)).2) (own_j0_105_xml11 i0 i1 i2 i3 i4 i5))) - (own_cnt ((own_tl (own_v0_45 i0 i1 i2 i3 i4 i5) (own_v0_58 i0 i1 i2 i3 i4 i5) (own_j0_170_count i0 i1 i2 i3 i4 i5) (own_j0_170_afterCarriageReturn i0 i1 i2 i3 i4 i5) (own_j0_105_xml11 i0 i1 i2 i3 i4 i5) ((own_draw i0).toInt8.toInt32) ((own_draw i1).toInt8.toInt32) ((own_draw i2).toInt8.toInt32) ((own_draw i3).toInt8.toInt32) 5 (own_j0_170_count i0 i1 i2 i3 i4 i5) (own_j0_170_afterCarriageReturn i0 i1 i2 i3 i4 i5) (own_v0_45 i0 i1 i2 i3 i4 i5)).1))) = (own_j0_318_S0 i0 i1 i2 i3 i4 i5) then
      (1 : Int32)
    else
      (0 : Int32)
  else
    (0 : Int32)
def own_Q0 (Z : State) (i0 : Int32) (i1 : Int32) (i2 : Int32) (i3 : Int32) (i4 : Int32) (i5 : Int32) (h0 : Heap) (n0 : Nat) (v : Option Value) (h : Heap) (L : List Loc) : Prop := v = some (.int (own_f0 i0 i1 i2 i3 i4 i5)) ∧ Fr n0 L ∧ Keep h0 h []
set_option maxRecDepth 65536 in
set_option maxHeartbeats 40000000 in
theorem own_rm0 (l : Launch) (Z : State) (a0 : Array Value) (hw : ∀ d ∈ tables_1, d.before a0 Z = true) (ws : List Jvm.Cond) (i0 : Int32) (i1 : Int32) (i2 : Int32) (i3 : Int32) (i4 : Int32) (i5 : Int32) (h0 : Heap) (n0 : Nat) (Z0 : n0 ≤ h0.size) :
    MetFree l x (head1 (Jvm.Cond.code x code maxLocals ret :: ws) room_1) (fun a U => a = #[(.int i0), (.int i1), (.int i2), (.int i3), (.int i4), (.int i5)] ∧ Z.Warmed39 U.vm ∧ U.heap = h0) (fun _ _ _ _ _ => True) (fun _ U o U' => ∃ v L, o = .returned v ∧ own_Q0 Z i0 i1 i2 i3 i4 i5 h0 n0 v U'.heap L ∧ FrameEnd U o U' L 2 7) := by
  refine MetFree.of_bodySF (plainFor_of_name own_pn0) hisR ?_
  intro p e s m args below meth c s₁ Bd hml0 hP hK
  obtain ⟨rfl, hZ, hh⟩ := hP
  have hx := Bd.exec
  have hby := Bd.bytes
  have hret := Bd.returns
  have hlk := BodyLoose.notSynchronized Bd
  have hml : c.maxLocals = 19 := hml0
  have hown : s.vm.findClass "traceward/schema/LineBreaksTakePinLaw" = some m.cls := findClass_of_methodNamed Bd.named
  have hnm := (name_of_methodNamed Bd.named Bd.method).1
  have X0 : Stand p l e room_1 s m #[(.int i0), (.int i1), (.int i2), (.int i3), (.int i4), (.int i5)] below meth c s₁ [] 0 0 := Stand.of_body Bd
  have e0 : s₁.heap = h0 := by rw [← hh, Bd.state]; rfl
  have N0 := Fr.nil n0
  have K0 : Keep h0 h0 [] := Keep.refl h0 _
  show ownE p e below s (own_Q0 Z i0 i1 i2 i3 i4 i5 h0 n0) 2 7 s₁ (entryFrame m #[(.int i0), (.int i1), (.int i2), (.int i3), (.int i4), (.int i5)] maxLocals)
  rw [own_ef0]
  refine ownE.go (T' := s₁) (f' := (mkF m 1 #[.val (.int i0), .val (.int i1), .val (.int i2), .val (.int i3), .val (.int i4), .val (.int i5), .unset, .unset, .unset, .unset, .unset, .unset, .unset, .unset, .unset, .unset, .unset, .unset, .unset] [(.int (4 : Int32))])) (fun t kt => ?_) ?_
  · show Steps p.tables e below (s₁.setTop (mkF m 0 #[.val (.int i0), .val (.int i1), .val (.int i2), .val (.int i3), .val (.int i4), .val (.int i5), .unset, .unset, .unset, .unset, .unset, .unset, .unset, .unset, .unset, .unset, .unset, .unset, .unset] [])) _
    refine XS.iconst X0.here hx rfl (hb hby at_0) ?_
    exact kt
  obtain ⟨T1, h1, k1, X1, e1, E1, A1, st1⟩ := newP X0 hx hZ (hw _ (List.mem_of_getElem? (i := 0) rfl)) e0 (g := (mkF m 1 #[.val (.int i0), .val (.int i1), .val (.int i2), .val (.int i3), .val (.int i4), .val (.int i5), .unset, .unset, .unset, .unset, .unset, .unset, .unset, .unset, .unset, .unset, .unset, .unset, .unset] [(.int (4 : Int32))])) rfl (hb hby at_1) rfl (by decide) (cap := 4) (by decide) (by decide) (by decide) (by decide)
  obtain ⟨b1, g1⟩ : ∃ z, z = h0.size := ⟨_, rfl⟩
  rw [← g1] at A1 st1
  have sz_b1 : h0.size ≤ b1 := Nat.le_trans K0.1 (Nat.le_of_eq g1.symm)
  have ge_b1 : n0 ≤ b1 := Nat.le_trans Z0 sz_b1
  have V1 : Arv Z h1 b1 k1 .byte (4 : Int32) [(.int (0 : Int32)), (.int (0 : Int32)), (.int (0 : Int32)), (.int (0 : Int32))] (.int (0 : Int32)) := (Arv.new A1 (by decide)).pad (pad_rep [] (.int (0 : Int32)) 4)
  have K1 : Keep h0 h1 [] := K0.ext E1
  refine ownE.go (T' := T1) (f' := (mkF m 3 #[.val (.int i0), .val (.int i1), .val (.int i2), .val (.int i3), .val (.int i4), .val (.int i5), .unset, .unset, .unset, .unset, .unset, .unset, .unset, .unset, .unset, .unset, .unset, .unset, .unset] [(.ref b1)])) st1 ?_
  refine ownE.go (T' := T1) (f' := (mkF m 9 #[.val (.int i0), .val (.int i1), .val (.int i2), .val (.int i3), .val (.int i4), .val (.int i5), .val (.ref b1), .unset, .unset, .unset, .unset, .unset, .unset, .unset, .unset, .unset, .unset, .unset, .unset] [(.int i0), (.int (0 : Int32)), (.ref b1)])) (fun t kt => ?_) ?_
  · show Steps p.tables e below (T1.setTop (mkF m 3 #[.val (.int i0), .val (.int i1), .val (.int i2), .val (.int i3), .val (.int i4), .val (.int i5), .unset, .unset, .unset, .unset, .unset, .unset, .unset, .unset, .unset, .unset, .unset, .unset, .unset] [(.ref b1)])) _
    refine XS.astore X1.here hx rfl (hb hby at_3) rfl rfl (l' := #[.val (.int i0), .val (.int i1), .val (.int i2), .val (.int i3), .val (.int i4), .val (.int i5), .val (.ref b1), .unset, .unset, .unset, .unset, .unset, .unset, .unset, .unset, .unset, .unset, .unset, .unset]) rfl ?_
    show Steps p.tables e below (T1.setTop (mkF m 5 #[.val (.int i0), .val (.int i1), .val (.int i2), .val (.int i3), .val (.int i4), .val (.int i5), .val (.ref b1), .unset, .unset, .unset, .unset, .unset, .unset, .unset, .unset, .unset, .unset, .unset, .unset] [])) _
    refine XS.aload X1.here hx rfl (hb hby at_5) rfl rfl ?_
    show Steps p.tables e below (T1.setTop (mkF m 7 #[.val (.int i0), .val (.int i1), .val (.int i2), .val (.int i3), .val (.int i4), .val (.int i5), .val (.ref b1), .unset, .unset, .unset, .unset, .unset, .unset, .unset, .unset, .unset, .unset, .unset, .unset] [(.ref b1)])) _
    refine XS.iconst X1.here hx rfl (hb hby at_7) ?_
    show Steps p.tables e below (T1.setTop (mkF m 8 #[.val (.int i0), .val (.int i1), .val (.int i2), .val (.int i3), .val (.int i4), .val (.int i5), .val (.ref b1), .unset, .unset, .unset, .unset, .unset, .unset, .unset, .unset, .unset, .unset, .unset, .unset] [(.int (0 : Int32)), (.ref b1)])) _
    refine XS.iloadN X1.here hx rfl (hb hby at_8) rfl ?_
    exact kt
  obtain ⟨_, _, ⟨T2, L2, k2, n2⟩, -, X2, ⟨Lc2, hQ2, l2, y2, z2⟩, st2⟩ := Jvm.LawKit.callS X1 hx (y := (⟨"traceward/schema/LineBreaksTakePinLaw", "draw", "(I)B"⟩ : MethodName)) hown (mvT hZ (hw _ (List.mem_of_getElem? (i := 1) rfl))) (mvT hZ (hw _ (List.mem_of_getElem? (i := 2) rfl))) (mvT hZ (hw _ (List.mem_of_getElem? (i := 3) rfl))) (mvT hZ (hw _ (List.mem_of_getElem? (i := 4) rfl))) (by decide) (backOf (W := 2) (own_rm1 l Z a0 hw [] i0 h1 n0 (Nat.le_trans Z0 K1.1) ) hZ (hw _ (List.mem_of_getElem? (i := 4) rfl)) (hw _ (List.mem_of_getElem? (i := 3) rfl)) (by decide) (by decide)) (g := (mkF m 9 #[.val (.int i0), .val (.int i1), .val (.int i2), .val (.int i3), .val (.int i4), .val (.int i5), .val (.ref b1), .unset, .unset, .unset, .unset, .unset, .unset, .unset, .unset, .unset, .unset, .unset, .unset] [(.int i0), (.int (0 : Int32)), (.ref b1)])) rfl (by rw [hml]; rfl) (argsL := [(.int i0)]) (rest := [(.int (0 : Int32)), (.ref b1)]) (lenOf own_pd3 rfl) rfl (by show 2 * 0 + _ ≤ _; exact Nat.le_of_eq rfl) (hb hby at_9) (fun _ _ => ⟨rfl, e1, (by decide : 1 + 0 ≤ _), (by decide : 4 + 0 ≤ _)⟩)
  dsimp only [Pt.U, Pt.locs, Pt.cells, Pt.slots] at X2 l2 y2 z2 st2 hQ2
  subst l2 y2 z2
  obtain ⟨rfl, N2q, e2⟩ := hQ2
  have N2 := Fr.app N0 N2q
  refine ownE.go (T' := T2) (f' := (mkF m 12 #[.val (.int i0), .val (.int i1), .val (.int i2), .val (.int i3), .val (.int i4), .val (.int i5), .val (.ref b1), .unset, .unset, .unset, .unset, .unset, .unset, .unset, .unset, .unset, .unset, .unset, .unset] [(.int (own_draw i0)), (.int (0 : Int32)), (.ref b1)])) st2 ?_
  obtain ⟨cl3, Ar3, q3, S3, Nn3, Hh3, G3⟩ := id V1
  have hin3 : ¬ ((0 : Int32) < 0 ∨ cl3.slots.size ≤ ((0 : Int32)).toNatClampNeg) := inb_of S3 ⟨by decide, by decide⟩
  obtain ⟨T3, h3, X3, e3, W3, st3⟩ := stB X2 hx hZ e2 Ar3 (j := (0 : Int32)) hin3 (g := (mkF m 12 #[.val (.int i0), .val (.int i1), .val (.int i2), .val (.int i3), .val (.int i4), .val (.int i5), .val (.ref b1), .unset, .unset, .unset, .unset, .unset, .unset, .unset, .unset, .unset, .unset, .unset, .unset] [(.int (own_draw i0)), (.int (0 : Int32)), (.ref b1)])) rfl rfl (hb hby at_12)
  have V3 : Arv Z h3 b1 k1 .byte (4 : Int32) [(.int ((own_draw i0).toInt8.toInt32)), (.int (0 : Int32)), (.int (0 : Int32)), (.int (0 : Int32))] (.int (0 : Int32)) := Arv.set Ar3 q3 S3 Nn3 Hh3 G3 (fits_nar_byte _) W3 0 rfl (Nat.le_of_ble_eq_true rfl)
  have K3 : Keep h0 h3 [] := K1.wr W3 (Or.inr sz_b1)
  have N3 := Fr.snoc X3 N2 ge_b1
  refine ownE.go (T' := T3) (f' := (mkF m 13 #[.val (.int i0), .val (.int i1), .val (.int i2), .val (.int i3), .val (.int i4), .val (.int i5), .val (.ref b1), .unset, .unset, .unset, .unset, .unset, .unset, .unset, .unset, .unset, .unset, .unset, .unset] [])) st3 ?_
  refine ownE.go (T' := T3) (f' := (mkF m 17 #[.val (.int i0), .val (.int i1), .val (.int i2), .val (.int i3), .val (.int i4), .val (.int i5), .val (.ref b1), .unset, .unset, .unset, .unset, .unset, .unset, .unset, .unset, .unset, .unset, .unset, .unset] [(.int i1), (.int (1 : Int32)), (.ref b1)])) (fun t kt => ?_) ?_
  · show Steps p.tables e below (T3.setTop (mkF m 13 #[.val (.int i0), .val (.int i1), .val (.int i2), .val (.int i3), .val (.int i4), .val (.int i5), .val (.ref b1), .unset, .unset, .unset, .unset, .unset, .unset, .unset, .unset, .unset, .unset, .unset, .unset] [])) _
    refine XS.aload X3.here hx rfl (hb hby at_13) rfl rfl ?_
    show Steps p.tables e below (T3.setTop (mkF m 15 #[.val (.int i0), .val (.int i1), .val (.int i2), .val (.int i3), .val (.int i4), .val (.int i5), .val (.ref b1), .unset, .unset, .unset, .unset, .unset, .unset, .unset, .unset, .unset, .unset, .unset, .unset] [(.ref b1)])) _
    refine XS.iconst X3.here hx rfl (hb hby at_15) ?_
    show Steps p.tables e below (T3.setTop (mkF m 16 #[.val (.int i0), .val (.int i1), .val (.int i2), .val (.int i3), .val (.int i4), .val (.int i5), .val (.ref b1), .unset, .unset, .unset, .unset, .unset, .unset, .unset, .unset, .unset, .unset, .unset, .unset] [(.int (1 : Int32)), (.ref b1)])) _
    refine XS.iloadN X3.here hx rfl (hb hby at_16) rfl ?_
    exact kt
  obtain ⟨_, _, ⟨T4, L4, k4, n4⟩, -, X4, ⟨Lc4, hQ4, l4, y4, z4⟩, st4⟩ := Jvm.LawKit.callS X3 hx (y := (⟨"traceward/schema/LineBreaksTakePinLaw", "draw", "(I)B"⟩ : MethodName)) hown (mvT hZ (hw _ (List.mem_of_getElem? (i := 1) rfl))) (mvT hZ (hw _ (List.mem_of_getElem? (i := 2) rfl))) (mvT hZ (hw _ (List.mem_of_getElem? (i := 3) rfl))) (mvT hZ (hw _ (List.mem_of_getElem? (i := 4) rfl))) (by decide) (backOf (W := 2) (own_rm1 l Z a0 hw [] i1 h3 n0 (Nat.le_trans Z0 K3.1) ) hZ (hw _ (List.mem_of_getElem? (i := 4) rfl)) (hw _ (List.mem_of_getElem? (i := 3) rfl)) (by decide) (by decide)) (g := (mkF m 17 #[.val (.int i0), .val (.int i1), .val (.int i2), .val (.int i3), .val (.int i4), .val (.int i5), .val (.ref b1), .unset, .unset, .unset, .unset, .unset, .unset, .unset, .unset, .unset, .unset, .unset, .unset] [(.int i1), (.int (1 : Int32)), (.ref b1)])) rfl (by rw [hml]; rfl) (argsL := [(.int i1)]) (rest := [(.int (1 : Int32)), (.ref b1)]) (lenOf own_pd3 rfl) rfl (by show 2 * 0 + _ ≤ _; exact Nat.le_of_eq rfl) (hb hby at_17) (fun _ _ => ⟨rfl, e3, (by decide : 1 + 0 ≤ _), (by decide : 4 + 0 ≤ _)⟩)
  dsimp only [Pt.U, Pt.locs, Pt.cells, Pt.slots] at X4 l4 y4 z4 st4 hQ4
  subst l4 y4 z4
  obtain ⟨rfl, N4q, e4⟩ := hQ4
  have N4 := Fr.app N3 N4q
  refine ownE.go (T' := T4) (f' := (mkF m 20 #[.val (.int i0), .val (.int i1), .val (.int i2), .val (.int i3), .val (.int i4), .val (.int i5), .val (.ref b1), .unset, .unset, .unset, .unset, .unset, .unset, .unset, .unset, .unset, .unset, .unset, .unset] [(.int (own_draw i1)), (.int (1 : Int32)), (.ref b1)])) st4 ?_
  obtain ⟨cl5, Ar5, q5, S5, Nn5, Hh5, G5⟩ := id V3
  have hin5 : ¬ ((1 : Int32) < 0 ∨ cl5.slots.size ≤ ((1 : Int32)).toNatClampNeg) := inb_of S5 ⟨by decide, by decide⟩
  obtain ⟨T5, h5, X5, e5, W5, st5⟩ := stB X4 hx hZ e4 Ar5 (j := (1 : Int32)) hin5 (g := (mkF m 20 #[.val (.int i0), .val (.int i1), .val (.int i2), .val (.int i3), .val (.int i4), .val (.int i5), .val (.ref b1), .unset, .unset, .unset, .unset, .unset, .unset, .unset, .unset, .unset, .unset, .unset, .unset] [(.int (own_draw i1)), (.int (1 : Int32)), (.ref b1)])) rfl rfl (hb hby at_20)
  have V5 : Arv Z h5 b1 k1 .byte (4 : Int32) [(.int ((own_draw i0).toInt8.toInt32)), (.int ((own_draw i1).toInt8.toInt32)), (.int (0 : Int32)), (.int (0 : Int32))] (.int (0 : Int32)) := Arv.set Ar5 q5 S5 Nn5 Hh5 G5 (fits_nar_byte _) W5 1 rfl (Nat.le_of_ble_eq_true rfl)
  have K5 : Keep h0 h5 [] := K3.wr W5 (Or.inr sz_b1)
  have N5 := Fr.snoc X5 N4 ge_b1
  refine ownE.go (T' := T5) (f' := (mkF m 21 #[.val (.int i0), .val (.int i1), .val (.int i2), .val (.int i3), .val (.int i4), .val (.int i5), .val (.ref b1), .unset, .unset, .unset, .unset, .unset, .unset, .unset, .unset, .unset, .unset, .unset, .unset] [])) st5 ?_
  refine ownE.go (T' := T5) (f' := (mkF m 25 #[.val (.int i0), .val (.int i1), .val (.int i2), .val (.int i3), .val (.int i4), .val (.int i5), .val (.ref b1), .unset, .unset, .unset, .unset, .unset, .unset, .unset, .unset, .unset, .unset, .unset, .unset] [(.int i2), (.int (2 : Int32)), (.ref b1)])) (fun t kt => ?_) ?_
  · show Steps p.tables e below (T5.setTop (mkF m 21 #[.val (.int i0), .val (.int i1), .val (.int i2), .val (.int i3), .val (.int i4), .val (.int i5), .val (.ref b1), .unset, .unset, .unset, .unset, .unset, .unset, .unset, .unset, .unset, .unset, .unset, .unset] [])) _
    refine XS.aload X5.here hx rfl (hb hby at_21) rfl rfl ?_
    show Steps p.tables e below (T5.setTop (mkF m 23 #[.val (.int i0), .val (.int i1), .val (.int i2), .val (.int i3), .val (.int i4), .val (.int i5), .val (.ref b1), .unset, .unset, .unset, .unset, .unset, .unset, .unset, .unset, .unset, .unset, .unset, .unset] [(.ref b1)])) _
    refine XS.iconst X5.here hx rfl (hb hby at_23) ?_
    show Steps p.tables e below (T5.setTop (mkF m 24 #[.val (.int i0), .val (.int i1), .val (.int i2), .val (.int i3), .val (.int i4), .val (.int i5), .val (.ref b1), .unset, .unset, .unset, .unset, .unset, .unset, .unset, .unset, .unset, .unset, .unset, .unset] [(.int (2 : Int32)), (.ref b1)])) _
    refine XS.iloadN X5.here hx rfl (hb hby at_24) rfl ?_
    exact kt
  obtain ⟨_, _, ⟨T6, L6, k6, n6⟩, -, X6, ⟨Lc6, hQ6, l6, y6, z6⟩, st6⟩ := Jvm.LawKit.callS X5 hx (y := (⟨"traceward/schema/LineBreaksTakePinLaw", "draw", "(I)B"⟩ : MethodName)) hown (mvT hZ (hw _ (List.mem_of_getElem? (i := 1) rfl))) (mvT hZ (hw _ (List.mem_of_getElem? (i := 2) rfl))) (mvT hZ (hw _ (List.mem_of_getElem? (i := 3) rfl))) (mvT hZ (hw _ (List.mem_of_getElem? (i := 4) rfl))) (by decide) (backOf (W := 2) (own_rm1 l Z a0 hw [] i2 h5 n0 (Nat.le_trans Z0 K5.1) ) hZ (hw _ (List.mem_of_getElem? (i := 4) rfl)) (hw _ (List.mem_of_getElem? (i := 3) rfl)) (by decide) (by decide)) (g := (mkF m 25 #[.val (.int i0), .val (.int i1), .val (.int i2), .val (.int i3), .val (.int i4), .val (.int i5), .val (.ref b1), .unset, .unset, .unset, .unset, .unset, .unset, .unset, .unset, .unset, .unset, .unset, .unset] [(.int i2), (.int (2 : Int32)), (.ref b1)])) rfl (by rw [hml]; rfl) (argsL := [(.int i2)]) (rest := [(.int (2 : Int32)), (.ref b1)]) (lenOf own_pd3 rfl) rfl (by show 2 * 0 + _ ≤ _; exact Nat.le_of_eq rfl) (hb hby at_25) (fun _ _ => ⟨rfl, e5, (by decide : 1 + 0 ≤ _), (by decide : 4 + 0 ≤ _)⟩)
  dsimp only [Pt.U, Pt.locs, Pt.cells, Pt.slots] at X6 l6 y6 z6 st6 hQ6
  subst l6 y6 z6
  obtain ⟨rfl, N6q, e6⟩ := hQ6
  have N6 := Fr.app N5 N6q
  refine ownE.go (T' := T6) (f' := (mkF m 28 #[.val (.int i0), .val (.int i1), .val (.int i2), .val (.int i3), .val (.int i4), .val (.int i5), .val (.ref b1), .unset, .unset, .unset, .unset, .unset, .unset, .unset, .unset, .unset, .unset, .unset, .unset] [(.int (own_draw i2)), (.int (2 : Int32)), (.ref b1)])) st6 ?_
  obtain ⟨cl7, Ar7, q7, S7, Nn7, Hh7, G7⟩ := id V5
  have hin7 : ¬ ((2 : Int32) < 0 ∨ cl7.slots.size ≤ ((2 : Int32)).toNatClampNeg) := inb_of S7 ⟨by decide, by decide⟩
  obtain ⟨T7, h7, X7, e7, W7, st7⟩ := stB X6 hx hZ e6 Ar7 (j := (2 : Int32)) hin7 (g := (mkF m 28 #[.val (.int i0), .val (.int i1), .val (.int i2), .val (.int i3), .val (.int i4), .val (.int i5), .val (.ref b1), .unset, .unset, .unset, .unset, .unset, .unset, .unset, .unset, .unset, .unset, .unset, .unset] [(.int (own_draw i2)), (.int (2 : Int32)), (.ref b1)])) rfl rfl (hb hby at_28)
  have V7 : Arv Z h7 b1 k1 .byte (4 : Int32) [(.int ((own_draw i0).toInt8.toInt32)), (.int ((own_draw i1).toInt8.toInt32)), (.int ((own_draw i2).toInt8.toInt32)), (.int (0 : Int32))] (.int (0 : Int32)) := Arv.set Ar7 q7 S7 Nn7 Hh7 G7 (fits_nar_byte _) W7 2 rfl (Nat.le_of_ble_eq_true rfl)
  have K7 : Keep h0 h7 [] := K5.wr W7 (Or.inr sz_b1)
  have N7 := Fr.snoc X7 N6 ge_b1
  refine ownE.go (T' := T7) (f' := (mkF m 29 #[.val (.int i0), .val (.int i1), .val (.int i2), .val (.int i3), .val (.int i4), .val (.int i5), .val (.ref b1), .unset, .unset, .unset, .unset, .unset, .unset, .unset, .unset, .unset, .unset, .unset, .unset] [])) st7 ?_
  refine ownE.go (T' := T7) (f' := (mkF m 33 #[.val (.int i0), .val (.int i1), .val (.int i2), .val (.int i3), .val (.int i4), .val (.int i5), .val (.ref b1), .unset, .unset, .unset, .unset, .unset, .unset, .unset, .unset, .unset, .unset, .unset, .unset] [(.int i3), (.int (3 : Int32)), (.ref b1)])) (fun t kt => ?_) ?_
  · show Steps p.tables e below (T7.setTop (mkF m 29 #[.val (.int i0), .val (.int i1), .val (.int i2), .val (.int i3), .val (.int i4), .val (.int i5), .val (.ref b1), .unset, .unset, .unset, .unset, .unset, .unset, .unset, .unset, .unset, .unset, .unset, .unset] [])) _
    refine XS.aload X7.here hx rfl (hb hby at_29) rfl rfl ?_
    show Steps p.tables e below (T7.setTop (mkF m 31 #[.val (.int i0), .val (.int i1), .val (.int i2), .val (.int i3), .val (.int i4), .val (.int i5), .val (.ref b1), .unset, .unset, .unset, .unset, .unset, .unset, .unset, .unset, .unset, .unset, .unset, .unset] [(.ref b1)])) _
    refine XS.iconst X7.here hx rfl (hb hby at_31) ?_
    show Steps p.tables e below (T7.setTop (mkF m 32 #[.val (.int i0), .val (.int i1), .val (.int i2), .val (.int i3), .val (.int i4), .val (.int i5), .val (.ref b1), .unset, .unset, .unset, .unset, .unset, .unset, .unset, .unset, .unset, .unset, .unset, .unset] [(.int (3 : Int32)), (.ref b1)])) _
    refine XS.iloadN X7.here hx rfl (hb hby at_32) rfl ?_
    exact kt
  obtain ⟨_, _, ⟨T8, L8, k8, n8⟩, -, X8, ⟨Lc8, hQ8, l8, y8, z8⟩, st8⟩ := Jvm.LawKit.callS X7 hx (y := (⟨"traceward/schema/LineBreaksTakePinLaw", "draw", "(I)B"⟩ : MethodName)) hown (mvT hZ (hw _ (List.mem_of_getElem? (i := 1) rfl))) (mvT hZ (hw _ (List.mem_of_getElem? (i := 2) rfl))) (mvT hZ (hw _ (List.mem_of_getElem? (i := 3) rfl))) (mvT hZ (hw _ (List.mem_of_getElem? (i := 4) rfl))) (by decide) (backOf (W := 2) (own_rm1 l Z a0 hw [] i3 h7 n0 (Nat.le_trans Z0 K7.1) ) hZ (hw _ (List.mem_of_getElem? (i := 4) rfl)) (hw _ (List.mem_of_getElem? (i := 3) rfl)) (by decide) (by decide)) (g := (mkF m 33 #[.val (.int i0), .val (.int i1), .val (.int i2), .val (.int i3), .val (.int i4), .val (.int i5), .val (.ref b1), .unset, .unset, .unset, .unset, .unset, .unset, .unset, .unset, .unset, .unset, .unset, .unset] [(.int i3), (.int (3 : Int32)), (.ref b1)])) rfl (by rw [hml]; rfl) (argsL := [(.int i3)]) (rest := [(.int (3 : Int32)), (.ref b1)]) (lenOf own_pd3 rfl) rfl (by show 2 * 0 + _ ≤ _; exact Nat.le_of_eq rfl) (hb hby at_33) (fun _ _ => ⟨rfl, e7, (by decide : 1 + 0 ≤ _), (by decide : 4 + 0 ≤ _)⟩)
  dsimp only [Pt.U, Pt.locs, Pt.cells, Pt.slots] at X8 l8 y8 z8 st8 hQ8
  subst l8 y8 z8
  obtain ⟨rfl, N8q, e8⟩ := hQ8
  have N8 := Fr.app N7 N8q
  refine ownE.go (T' := T8) (f' := (mkF m 36 #[.val (.int i0), .val (.int i1), .val (.int i2), .val (.int i3), .val (.int i4), .val (.int i5), .val (.ref b1), .unset, .unset, .unset, .unset, .unset, .unset, .unset, .unset, .unset, .unset, .unset, .unset] [(.int (own_draw i3)), (.int (3 : Int32)), (.ref b1)])) st8 ?_
  obtain ⟨cl9, Ar9, q9, S9, Nn9, Hh9, G9⟩ := id V7
  have hin9 : ¬ ((3 : Int32) < 0 ∨ cl9.slots.size ≤ ((3 : Int32)).toNatClampNeg) := inb_of S9 ⟨by decide, by decide⟩
  obtain ⟨T9, h9, X9, e9, W9, st9⟩ := stB X8 hx hZ e8 Ar9 (j := (3 : Int32)) hin9 (g := (mkF m 36 #[.val (.int i0), .val (.int i1), .val (.int i2), .val (.int i3), .val (.int i4), .val (.int i5), .val (.ref b1), .unset, .unset, .unset, .unset, .unset, .unset, .unset, .unset, .unset, .unset, .unset, .unset] [(.int (own_draw i3)), (.int (3 : Int32)), (.ref b1)])) rfl rfl (hb hby at_36)
  have V9 : Arv Z h9 b1 k1 .byte (4 : Int32) [(.int ((own_draw i0).toInt8.toInt32)), (.int ((own_draw i1).toInt8.toInt32)), (.int ((own_draw i2).toInt8.toInt32)), (.int ((own_draw i3).toInt8.toInt32))] (.int (0 : Int32)) := Arv.set Ar9 q9 S9 Nn9 Hh9 G9 (fits_nar_byte _) W9 3 rfl (Nat.le_of_ble_eq_true rfl)
  have K9 : Keep h0 h9 [] := K7.wr W9 (Or.inr sz_b1)
  have N9 := Fr.snoc X9 N8 ge_b1
  refine ownE.go (T' := T9) (f' := (mkF m 37 #[.val (.int i0), .val (.int i1), .val (.int i2), .val (.int i3), .val (.int i4), .val (.int i5), .val (.ref b1), .unset, .unset, .unset, .unset, .unset, .unset, .unset, .unset, .unset, .unset, .unset, .unset] [])) st9 ?_
  refine ownE.go (T' := T9) (f' := (mkF m 66 #[.val (.int i0), .val (.int i1), .val (.int i2), .val (.int i3), .val (.int i4), .val (.int i5), .val (.ref b1), .val (.int (own_v0_45 i0 i1 i2 i3 i4 i5)), .val (.int (own_v0_58 i0 i1 i2 i3 i4 i5)), .val (.int (i5 &&& (3 : Int32))), .unset, .unset, .unset, .unset, .unset, .unset, .unset, .unset, .unset] [])) (fun t kt => ?_) ?_
  · show Steps p.tables e below (T9.setTop (mkF m 37 #[.val (.int i0), .val (.int i1), .val (.int i2), .val (.int i3), .val (.int i4), .val (.int i5), .val (.ref b1), .unset, .unset, .unset, .unset, .unset, .unset, .unset, .unset, .unset, .unset, .unset, .unset] [])) _
    refine XS.iload X9.here hx rfl (hb hby at_37) rfl ?_
    show Steps p.tables e below (T9.setTop (mkF m 39 #[.val (.int i0), .val (.int i1), .val (.int i2), .val (.int i3), .val (.int i4), .val (.int i5), .val (.ref b1), .unset, .unset, .unset, .unset, .unset, .unset, .unset, .unset, .unset, .unset, .unset, .unset] [(.int i4)])) _
    refine XS.sipush X9.here hx rfl (hb hby at_39) ?_
    show Steps p.tables e below (T9.setTop (mkF m 42 #[.val (.int i0), .val (.int i1), .val (.int i2), .val (.int i3), .val (.int i4), .val (.int i5), .val (.ref b1), .unset, .unset, .unset, .unset, .unset, .unset, .unset, .unset, .unset, .unset, .unset, .unset] [(.int (255 : Int32)), (.int i4)])) _
    refine XS.iand X9.here hx rfl (hb hby at_42) rfl ?_
    show Steps p.tables e below (T9.setTop (mkF m 43 #[.val (.int i0), .val (.int i1), .val (.int i2), .val (.int i3), .val (.int i4), .val (.int i5), .val (.ref b1), .unset, .unset, .unset, .unset, .unset, .unset, .unset, .unset, .unset, .unset, .unset, .unset] [(.int (i4 &&& (255 : Int32)))])) _
    refine XS.iconst X9.here hx rfl (hb hby at_43) ?_
    show Steps p.tables e below (T9.setTop (mkF m 44 #[.val (.int i0), .val (.int i1), .val (.int i2), .val (.int i3), .val (.int i4), .val (.int i5), .val (.ref b1), .unset, .unset, .unset, .unset, .unset, .unset, .unset, .unset, .unset, .unset, .unset, .unset] [(.int (5 : Int32)), (.int (i4 &&& (255 : Int32)))])) _
    refine iremM X9 hx rfl (hb hby at_44) rfl (by decide) ?_
    show Steps p.tables e below (T9.setTop (mkF m 45 #[.val (.int i0), .val (.int i1), .val (.int i2), .val (.int i3), .val (.int i4), .val (.int i5), .val (.ref b1), .unset, .unset, .unset, .unset, .unset, .unset, .unset, .unset, .unset, .unset, .unset, .unset] [(.int ((i4 &&& (255 : Int32)) % (5 : Int32)))])) _
    refine XS.istore X9.here hx rfl (hb hby at_45) rfl (l' := #[.val (.int i0), .val (.int i1), .val (.int i2), .val (.int i3), .val (.int i4), .val (.int i5), .val (.ref b1), .val (.int (own_v0_45 i0 i1 i2 i3 i4 i5)), .unset, .unset, .unset, .unset, .unset, .unset, .unset, .unset, .unset, .unset, .unset]) rfl ?_
    show Steps p.tables e below (T9.setTop (mkF m 47 #[.val (.int i0), .val (.int i1), .val (.int i2), .val (.int i3), .val (.int i4), .val (.int i5), .val (.ref b1), .val (.int (own_v0_45 i0 i1 i2 i3 i4 i5)), .unset, .unset, .unset, .unset, .unset, .unset, .unset, .unset, .unset, .unset, .unset] [])) _
    refine XS.iload X9.here hx rfl (hb hby at_47) rfl ?_
    show Steps p.tables e below (T9.setTop (mkF m 49 #[.val (.int i0), .val (.int i1), .val (.int i2), .val (.int i3), .val (.int i4), .val (.int i5), .val (.ref b1), .val (.int (own_v0_45 i0 i1 i2 i3 i4 i5)), .unset, .unset, .unset, .unset, .unset, .unset, .unset, .unset, .unset, .unset, .unset] [(.int i4)])) _
    refine XS.bipush X9.here hx rfl (hb hby at_49) ?_
    show Steps p.tables e below (T9.setTop (mkF m 51 #[.val (.int i0), .val (.int i1), .val (.int i2), .val (.int i3), .val (.int i4), .val (.int i5), .val (.ref b1), .val (.int (own_v0_45 i0 i1 i2 i3 i4 i5)), .unset, .unset, .unset, .unset, .unset, .unset, .unset, .unset, .unset, .unset, .unset] [(.int (8 : Int32)), (.int i4)])) _
    refine XS.iushr X9.here hx rfl (hb hby at_51) rfl ?_
    show Steps p.tables e below (T9.setTop (mkF m 52 #[.val (.int i0), .val (.int i1), .val (.int i2), .val (.int i3), .val (.int i4), .val (.int i5), .val (.ref b1), .val (.int (own_v0_45 i0 i1 i2 i3 i4 i5)), .unset, .unset, .unset, .unset, .unset, .unset, .unset, .unset, .unset, .unset, .unset] [(.int ((i4.toUInt32 >>> ((8 : Int32) &&& 31).toUInt32).toInt32))])) _
    refine XS.sipush X9.here hx rfl (hb hby at_52) ?_
    show Steps p.tables e below (T9.setTop (mkF m 55 #[.val (.int i0), .val (.int i1), .val (.int i2), .val (.int i3), .val (.int i4), .val (.int i5), .val (.ref b1), .val (.int (own_v0_45 i0 i1 i2 i3 i4 i5)), .unset, .unset, .unset, .unset, .unset, .unset, .unset, .unset, .unset, .unset, .unset] [(.int (255 : Int32)), (.int ((i4.toUInt32 >>> ((8 : Int32) &&& 31).toUInt32).toInt32))])) _
    refine XS.iand X9.here hx rfl (hb hby at_55) rfl ?_
    show Steps p.tables e below (T9.setTop (mkF m 56 #[.val (.int i0), .val (.int i1), .val (.int i2), .val (.int i3), .val (.int i4), .val (.int i5), .val (.ref b1), .val (.int (own_v0_45 i0 i1 i2 i3 i4 i5)), .unset, .unset, .unset, .unset, .unset, .unset, .unset, .unset, .unset, .unset, .unset] [(.int (((i4.toUInt32 >>> ((8 : Int32) &&& 31).toUInt32).toInt32) &&& (255 : Int32)))])) _
    refine XS.iconst X9.here hx rfl (hb hby at_56) ?_
    show Steps p.tables e below (T9.setTop (mkF m 57 #[.val (.int i0), .val (.int i1), .val (.int i2), .val (.int i3), .val (.int i4), .val (.int i5), .val (.ref b1), .val (.int (own_v0_45 i0 i1 i2 i3 i4 i5)), .unset, .unset, .unset, .unset, .unset, .unset, .unset, .unset, .unset, .unset, .unset] [(.int (5 : Int32)), (.int (((i4.toUInt32 >>> ((8 : Int32) &&& 31).toUInt32).toInt32) &&& (255 : Int32)))])) _
    refine iremM X9 hx rfl (hb hby at_57) rfl (by decide) ?_
    show Steps p.tables e below (T9.setTop (mkF m 58 #[.val (.int i0), .val (.int i1), .val (.int i2), .val (.int i3), .val (.int i4), .val (.int i5), .val (.ref b1), .val (.int (own_v0_45 i0 i1 i2 i3 i4 i5)), .unset, .unset, .unset, .unset, .unset, .unset, .unset, .unset, .unset, .unset, .unset] [(.int ((((i4.toUInt32 >>> ((8 : Int32) &&& 31).toUInt32).toInt32) &&& (255 : Int32)) % (5 : Int32)))])) _
    refine XS.istore X9.here hx rfl (hb hby at_58) rfl (l' := #[.val (.int i0), .val (.int i1), .val (.int i2), .val (.int i3), .val (.int i4), .val (.int i5), .val (.ref b1), .val (.int (own_v0_45 i0 i1 i2 i3 i4 i5)), .val (.int (own_v0_58 i0 i1 i2 i3 i4 i5)), .unset, .unset, .unset, .unset, .unset, .unset, .unset, .unset, .unset, .unset]) rfl ?_
    show Steps p.tables e below (T9.setTop (mkF m 60 #[.val (.int i0), .val (.int i1), .val (.int i2), .val (.int i3), .val (.int i4), .val (.int i5), .val (.ref b1), .val (.int (own_v0_45 i0 i1 i2 i3 i4 i5)), .val (.int (own_v0_58 i0 i1 i2 i3 i4 i5)), .unset, .unset, .unset, .unset, .unset, .unset, .unset, .unset, .unset, .unset] [])) _
    refine XS.iload X9.here hx rfl (hb hby at_60) rfl ?_
    show Steps p.tables e below (T9.setTop (mkF m 62 #[.val (.int i0), .val (.int i1), .val (.int i2), .val (.int i3), .val (.int i4), .val (.int i5), .val (.ref b1), .val (.int (own_v0_45 i0 i1 i2 i3 i4 i5)), .val (.int (own_v0_58 i0 i1 i2 i3 i4 i5)), .unset, .unset, .unset, .unset, .unset, .unset, .unset, .unset, .unset, .unset] [(.int i5)])) _
    refine XS.iconst X9.here hx rfl (hb hby at_62) ?_
    show Steps p.tables e below (T9.setTop (mkF m 63 #[.val (.int i0), .val (.int i1), .val (.int i2), .val (.int i3), .val (.int i4), .val (.int i5), .val (.ref b1), .val (.int (own_v0_45 i0 i1 i2 i3 i4 i5)), .val (.int (own_v0_58 i0 i1 i2 i3 i4 i5)), .unset, .unset, .unset, .unset, .unset, .unset, .unset, .unset, .unset, .unset] [(.int (3 : Int32)), (.int i5)])) _
    refine XS.iand X9.here hx rfl (hb hby at_63) rfl ?_
    show Steps p.tables e below (T9.setTop (mkF m 64 #[.val (.int i0), .val (.int i1), .val (.int i2), .val (.int i3), .val (.int i4), .val (.int i5), .val (.ref b1), .val (.int (own_v0_45 i0 i1 i2 i3 i4 i5)), .val (.int (own_v0_58 i0 i1 i2 i3 i4 i5)), .unset, .unset, .unset, .unset, .unset, .unset, .unset, .unset, .unset, .unset] [(.int (i5 &&& (3 : Int32)))])) _
    refine XS.istore X9.here hx rfl (hb hby at_64) rfl (l' := #[.val (.int i0), .val (.int i1), .val (.int i2), .val (.int i3), .val (.int i4), .val (.int i5), .val (.ref b1), .val (.int (own_v0_45 i0 i1 i2 i3 i4 i5)), .val (.int (own_v0_58 i0 i1 i2 i3 i4 i5)), .val (.int (i5 &&& (3 : Int32))), .unset, .unset, .unset, .unset, .unset, .unset, .unset, .unset, .unset]) rfl ?_
    exact kt
  have J12 : ∀ (TJ12 : State) (locsJ12 : List Loc), Stand p l e room_1 s m #[(.int i0), (.int i1), (.int i2), (.int i3), (.int i4), (.int i5)] below meth c TJ12 locsJ12 1 4 → TJ12.heap = h9 → Fr n0 locsJ12 → ownE p e below s (own_Q0 Z i0 i1 i2 i3 i4 i5 h0 n0) 2 7 TJ12 (mkF m 78 #[.val (.int i0), .val (.int i1), .val (.int i2), .val (.int i3), .val (.int i4), .val (.int i5), .val (.ref b1), .val (.int (own_v0_45 i0 i1 i2 i3 i4 i5)), .val (.int (own_v0_58 i0 i1 i2 i3 i4 i5)), .val (.int (i5 &&& (3 : Int32))), .unset, .unset, .unset, .unset, .unset, .unset, .unset, .unset, .unset] [(.int (own_j0_78_S0 i0 i1 i2 i3 i4 i5))]) := by
    intro TJ12 locsJ12 XJ12 eJ12 NJ12
    refine ownE.go (T' := TJ12) (f' := (mkF m 86 #[.val (.int i0), .val (.int i1), .val (.int i2), .val (.int i3), .val (.int i4), .val (.int i5), .val (.ref b1), .val (.int (own_v0_45 i0 i1 i2 i3 i4 i5)), .val (.int (own_v0_58 i0 i1 i2 i3 i4 i5)), .val (.int (i5 &&& (3 : Int32))), .val (.int (own_j0_78_S0 i0 i1 i2 i3 i4 i5)), .val (.int (own_v0_84 i0 i1 i2 i3 i4 i5)), .unset, .unset, .unset, .unset, .unset, .unset, .unset] [])) (fun t kt => ?_) ?_
    · show Steps p.tables e below (TJ12.setTop (mkF m 78 #[.val (.int i0), .val (.int i1), .val (.int i2), .val (.int i3), .val (.int i4), .val (.int i5), .val (.ref b1), .val (.int (own_v0_45 i0 i1 i2 i3 i4 i5)), .val (.int (own_v0_58 i0 i1 i2 i3 i4 i5)), .val (.int (i5 &&& (3 : Int32))), .unset, .unset, .unset, .unset, .unset, .unset, .unset, .unset, .unset] [(.int (own_j0_78_S0 i0 i1 i2 i3 i4 i5))])) _
      refine XS.istore XJ12.here hx rfl (hb hby at_78) rfl (l' := #[.val (.int i0), .val (.int i1), .val (.int i2), .val (.int i3), .val (.int i4), .val (.int i5), .val (.ref b1), .val (.int (own_v0_45 i0 i1 i2 i3 i4 i5)), .val (.int (own_v0_58 i0 i1 i2 i3 i4 i5)), .val (.int (i5 &&& (3 : Int32))), .val (.int (own_j0_78_S0 i0 i1 i2 i3 i4 i5)), .unset, .unset, .unset, .unset, .unset, .unset, .unset, .unset]) rfl ?_
      show Steps p.tables e below (TJ12.setTop (mkF m 80 #[.val (.int i0), .val (.int i1), .val (.int i2), .val (.int i3), .val (.int i4), .val (.int i5), .val (.ref b1), .val (.int (own_v0_45 i0 i1 i2 i3 i4 i5)), .val (.int (own_v0_58 i0 i1 i2 i3 i4 i5)), .val (.int (i5 &&& (3 : Int32))), .val (.int (own_j0_78_S0 i0 i1 i2 i3 i4 i5)), .unset, .unset, .unset, .unset, .unset, .unset, .unset, .unset] [])) _
      refine XS.iload XJ12.here hx rfl (hb hby at_80) rfl ?_
      show Steps p.tables e below (TJ12.setTop (mkF m 82 #[.val (.int i0), .val (.int i1), .val (.int i2), .val (.int i3), .val (.int i4), .val (.int i5), .val (.ref b1), .val (.int (own_v0_45 i0 i1 i2 i3 i4 i5)), .val (.int (own_v0_58 i0 i1 i2 i3 i4 i5)), .val (.int (i5 &&& (3 : Int32))), .val (.int (own_j0_78_S0 i0 i1 i2 i3 i4 i5)), .unset, .unset, .unset, .unset, .unset, .unset, .unset, .unset] [(.int i5)])) _
      refine XS.iconst XJ12.here hx rfl (hb hby at_82) ?_
      show Steps p.tables e below (TJ12.setTop (mkF m 83 #[.val (.int i0), .val (.int i1), .val (.int i2), .val (.int i3), .val (.int i4), .val (.int i5), .val (.ref b1), .val (.int (own_v0_45 i0 i1 i2 i3 i4 i5)), .val (.int (own_v0_58 i0 i1 i2 i3 i4 i5)), .val (.int (i5 &&& (3 : Int32))), .val (.int (own_j0_78_S0 i0 i1 i2 i3 i4 i5)), .unset, .unset, .unset, .unset, .unset, .unset, .unset, .unset] [(.int (3 : Int32)), (.int i5)])) _
      refine XS.ishr XJ12.here hx rfl (hb hby at_83) rfl ?_
      show Steps p.tables e below (TJ12.setTop (mkF m 84 #[.val (.int i0), .val (.int i1), .val (.int i2), .val (.int i3), .val (.int i4), .val (.int i5), .val (.ref b1), .val (.int (own_v0_45 i0 i1 i2 i3 i4 i5)), .val (.int (own_v0_58 i0 i1 i2 i3 i4 i5)), .val (.int (i5 &&& (3 : Int32))), .val (.int (own_j0_78_S0 i0 i1 i2 i3 i4 i5)), .unset, .unset, .unset, .unset, .unset, .unset, .unset, .unset] [(.int (i5 >>> ((3 : Int32) &&& 31)))])) _
      refine XS.istore XJ12.here hx rfl (hb hby at_84) rfl (l' := #[.val (.int i0), .val (.int i1), .val (.int i2), .val (.int i3), .val (.int i4), .val (.int i5), .val (.ref b1), .val (.int (own_v0_45 i0 i1 i2 i3 i4 i5)), .val (.int (own_v0_58 i0 i1 i2 i3 i4 i5)), .val (.int (i5 &&& (3 : Int32))), .val (.int (own_j0_78_S0 i0 i1 i2 i3 i4 i5)), .val (.int (own_v0_84 i0 i1 i2 i3 i4 i5)), .unset, .unset, .unset, .unset, .unset, .unset, .unset]) rfl ?_
      exact kt
    obtain ⟨T13, h13, X13, e13, E13, A13, D13, -, st13⟩ := newO XJ12 hx hZ hown (hw _ (List.mem_of_getElem? (i := 5) rfl)) (hw _ (List.mem_of_getElem? (i := 6) rfl)) (hw _ (List.mem_of_getElem? (i := 7) rfl)) eJ12 (g := (mkF m 86 #[.val (.int i0), .val (.int i1), .val (.int i2), .val (.int i3), .val (.int i4), .val (.int i5), .val (.ref b1), .val (.int (own_v0_45 i0 i1 i2 i3 i4 i5)), .val (.int (own_v0_58 i0 i1 i2 i3 i4 i5)), .val (.int (i5 &&& (3 : Int32))), .val (.int (own_j0_78_S0 i0 i1 i2 i3 i4 i5)), .val (.int (own_v0_84 i0 i1 i2 i3 i4 i5)), .unset, .unset, .unset, .unset, .unset, .unset, .unset] [])) rfl (hb hby at_86) (by decide) (by decide)
    obtain ⟨b13, g13⟩ : ∃ z, z = h9.size := ⟨_, rfl⟩
    rw [← g13] at A13 D13 st13
    have ne_b1_b13 : b1 ≠ b13 := Nat.ne_of_lt (Nat.lt_of_lt_of_le V9.lt (Nat.le_of_eq g13.symm))
    have sz_b13 : h0.size ≤ b13 := Nat.le_trans K9.1 (Nat.le_of_eq g13.symm)
    have ge_b13 : n0 ≤ b13 := Nat.le_trans Z0 sz_b13
    have cArv_b1_13 : Arv Z h13 b1 k1 .byte (4 : Int32) [(.int ((own_draw i0).toInt8.toInt32)), (.int ((own_draw i1).toInt8.toInt32)), (.int ((own_draw i2).toInt8.toInt32)), (.int ((own_draw i3).toInt8.toInt32))] (.int (0 : Int32)) := V9.ext E13
    have D13_afterCarriageReturn : Fld Z h13 b13 "traceward/schema/LineBreaks" "afterCarriageReturn" "Z" (.int (0 : Int32)) := D13 (Or.inl (hw _ (List.mem_of_getElem? (i := 20) rfl))) (ty := .boolean) (by decide)
    have D13_xml11 : Fld Z h13 b13 "traceward/schema/LineBreaks" "xml11" "Z" (.int (0 : Int32)) := D13 (Or.inl (hw _ (List.mem_of_getElem? (i := 22) rfl))) (ty := .boolean) (by decide)
    have D13_count : Fld Z h13 b13 "traceward/schema/LineBreaks" "count" "I" (.int (0 : Int32)) := D13 (Or.inl (hw _ (List.mem_of_getElem? (i := 32) rfl))) (ty := .int) (by decide)
    have K13 : Keep h0 h13 [] := K9.ext E13
    refine ownE.go (T' := T13) (f' := (mkF m 89 #[.val (.int i0), .val (.int i1), .val (.int i2), .val (.int i3), .val (.int i4), .val (.int i5), .val (.ref b1), .val (.int (own_v0_45 i0 i1 i2 i3 i4 i5)), .val (.int (own_v0_58 i0 i1 i2 i3 i4 i5)), .val (.int (i5 &&& (3 : Int32))), .val (.int (own_j0_78_S0 i0 i1 i2 i3 i4 i5)), .val (.int (own_v0_84 i0 i1 i2 i3 i4 i5)), .unset, .unset, .unset, .unset, .unset, .unset, .unset] [(.ref b13)])) st13 ?_
    refine ownE.go (T' := T13) (f' := (mkF m 90 #[.val (.int i0), .val (.int i1), .val (.int i2), .val (.int i3), .val (.int i4), .val (.int i5), .val (.ref b1), .val (.int (own_v0_45 i0 i1 i2 i3 i4 i5)), .val (.int (own_v0_58 i0 i1 i2 i3 i4 i5)), .val (.int (i5 &&& (3 : Int32))), .val (.int (own_j0_78_S0 i0 i1 i2 i3 i4 i5)), .val (.int (own_v0_84 i0 i1 i2 i3 i4 i5)), .unset, .unset, .unset, .unset, .unset, .unset, .unset] [(.ref b13), (.ref b13)])) (fun t kt => ?_) ?_
    · show Steps p.tables e below (T13.setTop (mkF m 89 #[.val (.int i0), .val (.int i1), .val (.int i2), .val (.int i3), .val (.int i4), .val (.int i5), .val (.ref b1), .val (.int (own_v0_45 i0 i1 i2 i3 i4 i5)), .val (.int (own_v0_58 i0 i1 i2 i3 i4 i5)), .val (.int (i5 &&& (3 : Int32))), .val (.int (own_j0_78_S0 i0 i1 i2 i3 i4 i5)), .val (.int (own_v0_84 i0 i1 i2 i3 i4 i5)), .unset, .unset, .unset, .unset, .unset, .unset, .unset] [(.ref b13)])) _
      refine XS.dup X13.here hx rfl (hb hby at_89) rfl rfl ?_
      exact kt
    obtain ⟨_, _, ⟨T14, L14, k14, n14⟩, -, X14, ⟨Lc14, hQ14, l14, y14, z14⟩, st14⟩ := X13.specialBack hx (y := (⟨"traceward/schema/LineBreaks", "<init>", "()V"⟩ : MethodName)) rfl hown (mvT hZ (hw _ (List.mem_of_getElem? (i := 8) rfl))) (mvT hZ (hw _ (List.mem_of_getElem? (i := 9) rfl))) (mvT hZ (hw _ (List.mem_of_getElem? (i := 10) rfl))) (by decide) (backOf (W := 1) (own_rm2 l Z a0 hw [] b13 h13 n0 (Nat.le_trans Z0 K13.1) ) hZ (hw _ (List.mem_of_getElem? (i := 10) rfl)) (hw _ (List.mem_of_getElem? (i := 7) rfl)) (by decide) (by decide)) (g := (mkF m 90 #[.val (.int i0), .val (.int i1), .val (.int i2), .val (.int i3), .val (.int i4), .val (.int i5), .val (.ref b1), .val (.int (own_v0_45 i0 i1 i2 i3 i4 i5)), .val (.int (own_v0_58 i0 i1 i2 i3 i4 i5)), .val (.int (i5 &&& (3 : Int32))), .val (.int (own_j0_78_S0 i0 i1 i2 i3 i4 i5)), .val (.int (own_v0_84 i0 i1 i2 i3 i4 i5)), .unset, .unset, .unset, .unset, .unset, .unset, .unset] [(.ref b13), (.ref b13)])) rfl (by rw [hml]; rfl) (Steps.refl _) (a := b13) (argsL := []) (rest := [(.ref b13)]) (lenOf own_pd4 rfl) rfl (by show 2 * 0 + _ ≤ _; exact Nat.le_of_eq rfl) (hb hby at_90) (fun _ _ => ⟨rfl, e13, (by decide : 2 + 0 ≤ _), (by decide : 7 + 0 ≤ _)⟩)
    dsimp only [Pt.U, Pt.locs, Pt.cells, Pt.slots] at X14 l14 y14 z14 st14 hQ14
    subst l14 y14 z14
    obtain ⟨rfl, N14q, e14⟩ := hQ14
    have N14 := Fr.app NJ12 N14q
    refine ownE.goS (T' := T14) (f' := (mkF m 93 #[.val (.int i0), .val (.int i1), .val (.int i2), .val (.int i3), .val (.int i4), .val (.int i5), .val (.ref b1), .val (.int (own_v0_45 i0 i1 i2 i3 i4 i5)), .val (.int (own_v0_58 i0 i1 i2 i3 i4 i5)), .val (.int (i5 &&& (3 : Int32))), .val (.int (own_j0_78_S0 i0 i1 i2 i3 i4 i5)), .val (.int (own_v0_84 i0 i1 i2 i3 i4 i5)), .unset, .unset, .unset, .unset, .unset, .unset, .unset] [(.ref b13)])) st14 ?_
    refine ownE.go (T' := T14) (f' := (mkF m 95 #[.val (.int i0), .val (.int i1), .val (.int i2), .val (.int i3), .val (.int i4), .val (.int i5), .val (.ref b1), .val (.int (own_v0_45 i0 i1 i2 i3 i4 i5)), .val (.int (own_v0_58 i0 i1 i2 i3 i4 i5)), .val (.int (i5 &&& (3 : Int32))), .val (.int (own_j0_78_S0 i0 i1 i2 i3 i4 i5)), .val (.int (own_v0_84 i0 i1 i2 i3 i4 i5)), .val (.ref b13), .unset, .unset, .unset, .unset, .unset, .unset] [])) (fun t kt => ?_) ?_
    · show Steps p.tables e below (T14.setTop (mkF m 93 #[.val (.int i0), .val (.int i1), .val (.int i2), .val (.int i3), .val (.int i4), .val (.int i5), .val (.ref b1), .val (.int (own_v0_45 i0 i1 i2 i3 i4 i5)), .val (.int (own_v0_58 i0 i1 i2 i3 i4 i5)), .val (.int (i5 &&& (3 : Int32))), .val (.int (own_j0_78_S0 i0 i1 i2 i3 i4 i5)), .val (.int (own_v0_84 i0 i1 i2 i3 i4 i5)), .unset, .unset, .unset, .unset, .unset, .unset, .unset] [(.ref b13)])) _
      refine XS.astore X14.here hx rfl (hb hby at_93) rfl rfl (l' := #[.val (.int i0), .val (.int i1), .val (.int i2), .val (.int i3), .val (.int i4), .val (.int i5), .val (.ref b1), .val (.int (own_v0_45 i0 i1 i2 i3 i4 i5)), .val (.int (own_v0_58 i0 i1 i2 i3 i4 i5)), .val (.int (i5 &&& (3 : Int32))), .val (.int (own_j0_78_S0 i0 i1 i2 i3 i4 i5)), .val (.int (own_v0_84 i0 i1 i2 i3 i4 i5)), .val (.ref b13), .unset, .unset, .unset, .unset, .unset, .unset]) rfl ?_
      exact kt
    have J18 : ∀ (TJ18 : State) (hJ18 : Heap) (locsJ18 : List Loc), Stand p l e room_1 s m #[(.int i0), (.int i1), (.int i2), (.int i3), (.int i4), (.int i5)] below meth c TJ18 locsJ18 2 7 → TJ18.heap = hJ18 → Fr n0 locsJ18 → Keep h0 hJ18 [] → Arv Z hJ18 b1 k1 .byte (4 : Int32) [(.int ((own_draw i0).toInt8.toInt32)), (.int ((own_draw i1).toInt8.toInt32)), (.int ((own_draw i2).toInt8.toInt32)), (.int ((own_draw i3).toInt8.toInt32))] (.int (0 : Int32)) → Exa Z hJ18 b13 "traceward/schema/LineBreaks" → Fld Z hJ18 b13 "traceward/schema/LineBreaks" "afterCarriageReturn" "Z" (.int (0 : Int32)) → Fld Z hJ18 b13 "traceward/schema/LineBreaks" "xml11" "Z" (.int (own_j0_105_xml11 i0 i1 i2 i3 i4 i5)) → Fld Z hJ18 b13 "traceward/schema/LineBreaks" "count" "I" (.int (0 : Int32)) → ownE p e below s (own_Q0 Z i0 i1 i2 i3 i4 i5 h0 n0) 2 7 TJ18 (mkF m 105 #[.val (.int i0), .val (.int i1), .val (.int i2), .val (.int i3), .val (.int i4), .val (.int i5), .val (.ref b1), .val (.int (own_v0_45 i0 i1 i2 i3 i4 i5)), .val (.int (own_v0_58 i0 i1 i2 i3 i4 i5)), .val (.int (i5 &&& (3 : Int32))), .val (.int (own_j0_78_S0 i0 i1 i2 i3 i4 i5)), .val (.int (own_v0_84 i0 i1 i2 i3 i4 i5)), .val (.ref b13), .unset, .unset, .unset, .unset, .unset, .unset] []) := by
      intro TJ18 hJ18 locsJ18 XJ18 eJ18 NJ18 KJ18 J18_cArv_b1_j J18_cExa_b13_j J18_cFld_b13_afterCarriageReturn_j J18_cFld_b13_xml11_j J18_cFld_b13_count_j
      refine ownE.go (T' := TJ18) (f' := (mkF m 108 #[.val (.int i0), .val (.int i1), .val (.int i2), .val (.int i3), .val (.int i4), .val (.int i5), .val (.ref b1), .val (.int (own_v0_45 i0 i1 i2 i3 i4 i5)), .val (.int (own_v0_58 i0 i1 i2 i3 i4 i5)), .val (.int (i5 &&& (3 : Int32))), .val (.int (own_j0_78_S0 i0 i1 i2 i3 i4 i5)), .val (.int (own_v0_84 i0 i1 i2 i3 i4 i5)), .val (.ref b13), .val (.int (0 : Int32)), .unset, .unset, .unset, .unset, .unset] [])) (fun t kt => ?_) ?_
      · show Steps p.tables e below (TJ18.setTop (mkF m 105 #[.val (.int i0), .val (.int i1), .val (.int i2), .val (.int i3), .val (.int i4), .val (.int i5), .val (.ref b1), .val (.int (own_v0_45 i0 i1 i2 i3 i4 i5)), .val (.int (own_v0_58 i0 i1 i2 i3 i4 i5)), .val (.int (i5 &&& (3 : Int32))), .val (.int (own_j0_78_S0 i0 i1 i2 i3 i4 i5)), .val (.int (own_v0_84 i0 i1 i2 i3 i4 i5)), .val (.ref b13), .unset, .unset, .unset, .unset, .unset, .unset] [])) _
        refine XS.iconst XJ18.here hx rfl (hb hby at_105) ?_
        show Steps p.tables e below (TJ18.setTop (mkF m 106 #[.val (.int i0), .val (.int i1), .val (.int i2), .val (.int i3), .val (.int i4), .val (.int i5), .val (.ref b1), .val (.int (own_v0_45 i0 i1 i2 i3 i4 i5)), .val (.int (own_v0_58 i0 i1 i2 i3 i4 i5)), .val (.int (i5 &&& (3 : Int32))), .val (.int (own_j0_78_S0 i0 i1 i2 i3 i4 i5)), .val (.int (own_v0_84 i0 i1 i2 i3 i4 i5)), .val (.ref b13), .unset, .unset, .unset, .unset, .unset, .unset] [(.int (0 : Int32))])) _
        refine XS.istore XJ18.here hx rfl (hb hby at_106) rfl (l' := #[.val (.int i0), .val (.int i1), .val (.int i2), .val (.int i3), .val (.int i4), .val (.int i5), .val (.ref b1), .val (.int (own_v0_45 i0 i1 i2 i3 i4 i5)), .val (.int (own_v0_58 i0 i1 i2 i3 i4 i5)), .val (.int (i5 &&& (3 : Int32))), .val (.int (own_j0_78_S0 i0 i1 i2 i3 i4 i5)), .val (.int (own_v0_84 i0 i1 i2 i3 i4 i5)), .val (.ref b13), .val (.int (0 : Int32)), .unset, .unset, .unset, .unset, .unset]) rfl ?_
        exact kt
      have J29 : ∀ (TJ29 : State) (hJ29 : Heap) (locsJ29 : List Loc), Stand p l e room_1 s m #[(.int i0), (.int i1), (.int i2), (.int i3), (.int i4), (.int i5)] below meth c TJ29 locsJ29 2 7 → TJ29.heap = hJ29 → Fr n0 locsJ29 → Keep h0 hJ29 [] → Arv Z hJ29 b1 k1 .byte (4 : Int32) [(.int ((own_draw i0).toInt8.toInt32)), (.int ((own_draw i1).toInt8.toInt32)), (.int ((own_draw i2).toInt8.toInt32)), (.int ((own_draw i3).toInt8.toInt32))] (.int (0 : Int32)) → Exa Z hJ29 b13 "traceward/schema/LineBreaks" → Fld Z hJ29 b13 "traceward/schema/LineBreaks" "afterCarriageReturn" "Z" (.int (own_j0_170_afterCarriageReturn i0 i1 i2 i3 i4 i5)) → Fld Z hJ29 b13 "traceward/schema/LineBreaks" "xml11" "Z" (.int (own_j0_105_xml11 i0 i1 i2 i3 i4 i5)) → Fld Z hJ29 b13 "traceward/schema/LineBreaks" "count" "I" (.int (own_j0_170_count i0 i1 i2 i3 i4 i5)) → ownE p e below s (own_Q0 Z i0 i1 i2 i3 i4 i5 h0 n0) 2 7 TJ29 (mkF m 170 #[.val (.int i0), .val (.int i1), .val (.int i2), .val (.int i3), .val (.int i4), .val (.int i5), .val (.ref b1), .val (.int (own_v0_45 i0 i1 i2 i3 i4 i5)), .val (.int (own_v0_58 i0 i1 i2 i3 i4 i5)), .val (.int (i5 &&& (3 : Int32))), .val (.int (own_j0_78_S0 i0 i1 i2 i3 i4 i5)), .val (.int (own_v0_84 i0 i1 i2 i3 i4 i5)), .val (.ref b13), .val (.int (own_j0_170_L13 i0 i1 i2 i3 i4 i5)), .unset, .unset, .unset, .unset, .unset] []) := by
        intro TJ29 hJ29 locsJ29 XJ29 eJ29 NJ29 KJ29 J29_cArv_b1_j J29_cExa_b13_j J29_cFld_b13_afterCarriageReturn_j J29_cFld_b13_xml11_j J29_cFld_b13_count_j
        refine ownE.go (T' := TJ29) (f' := (mkF m 172 #[.val (.int i0), .val (.int i1), .val (.int i2), .val (.int i3), .val (.int i4), .val (.int i5), .val (.ref b1), .val (.int (own_v0_45 i0 i1 i2 i3 i4 i5)), .val (.int (own_v0_58 i0 i1 i2 i3 i4 i5)), .val (.int (i5 &&& (3 : Int32))), .val (.int (own_j0_78_S0 i0 i1 i2 i3 i4 i5)), .val (.int (own_v0_84 i0 i1 i2 i3 i4 i5)), .val (.ref b13), .val (.int (own_j0_170_L13 i0 i1 i2 i3 i4 i5)), .unset, .unset, .unset, .unset, .unset] [(.ref b13)])) (fun t kt => ?_) ?_
        · show Steps p.tables e below (TJ29.setTop (mkF m 170 #[.val (.int i0), .val (.int i1), .val (.int i2), .val (.int i3), .val (.int i4), .val (.int i5), .val (.ref b1), .val (.int (own_v0_45 i0 i1 i2 i3 i4 i5)), .val (.int (own_v0_58 i0 i1 i2 i3 i4 i5)), .val (.int (i5 &&& (3 : Int32))), .val (.int (own_j0_78_S0 i0 i1 i2 i3 i4 i5)), .val (.int (own_v0_84 i0 i1 i2 i3 i4 i5)), .val (.ref b13), .val (.int (own_j0_170_L13 i0 i1 i2 i3 i4 i5)), .unset, .unset, .unset, .unset, .unset] [])) _
          refine XS.aload XJ29.here hx rfl (hb hby at_170) rfl rfl ?_
          exact kt
        obtain ⟨cq30, kq30, q30a, q30b, q30c⟩ := isOf hZ eJ29 J29_cExa_b13_j
        obtain ⟨_, _, ⟨T30, L30, k30, n30⟩, -, X30, ⟨Lc30, hQ30, l30, y30, z30⟩, st30⟩ := XJ29.virtualBack hx (y := (⟨"traceward/schema/LineBreaks", "count", "()I"⟩ : MethodName)) (z := (⟨"traceward/schema/LineBreaks", "count", "()I"⟩ : MethodName)) hown (mvT hZ (hw _ (List.mem_of_getElem? (i := 26) rfl))) (mvT hZ (hw _ (List.mem_of_getElem? (i := 27) rfl))) (notFace_of_selects (args := #[]) (mvT hZ (hw _ (List.mem_of_getElem? (i := 29) rfl)))) (mvT hZ (hw _ (List.mem_of_getElem? (i := 29) rfl))) (mvT hZ (hw _ (List.mem_of_getElem? (i := 28) rfl))) (by decide) (backOf (W := 0) (own_rm6 l Z a0 hw [] b13 (own_j0_170_count i0 i1 i2 i3 i4 i5) hJ29 n0 (Nat.le_trans Z0 KJ29.1) J29_cFld_b13_count_j) hZ (hw _ (List.mem_of_getElem? (i := 30) rfl)) (hw _ (List.mem_of_getElem? (i := 7) rfl)) (by decide) (by decide)) q30a q30c (g := (mkF m 172 #[.val (.int i0), .val (.int i1), .val (.int i2), .val (.int i3), .val (.int i4), .val (.int i5), .val (.ref b1), .val (.int (own_v0_45 i0 i1 i2 i3 i4 i5)), .val (.int (own_v0_58 i0 i1 i2 i3 i4 i5)), .val (.int (i5 &&& (3 : Int32))), .val (.int (own_j0_78_S0 i0 i1 i2 i3 i4 i5)), .val (.int (own_v0_84 i0 i1 i2 i3 i4 i5)), .val (.ref b13), .val (.int (own_j0_170_L13 i0 i1 i2 i3 i4 i5)), .unset, .unset, .unset, .unset, .unset] [(.ref b13)])) rfl (by rw [hml]; rfl) (Steps.refl _) (argsL := []) (rest := []) (lenOf own_pd6 rfl) rfl (by show 2 * 0 + _ ≤ _; exact Nat.le_of_eq rfl) (hb hby at_172) (fun _ _ => ⟨rfl, eJ29, (by decide : 2 + 0 ≤ _), (by decide : 7 + 0 ≤ _)⟩)
        dsimp only [Pt.U, Pt.locs, Pt.cells, Pt.slots] at X30 l30 y30 z30 st30 hQ30
        subst l30 y30 z30
        obtain ⟨rfl, N30q, e30⟩ := hQ30
        have N30 := Fr.app NJ29 N30q
        refine ownE.goS (T' := T30) (f' := (mkF m 175 #[.val (.int i0), .val (.int i1), .val (.int i2), .val (.int i3), .val (.int i4), .val (.int i5), .val (.ref b1), .val (.int (own_v0_45 i0 i1 i2 i3 i4 i5)), .val (.int (own_v0_58 i0 i1 i2 i3 i4 i5)), .val (.int (i5 &&& (3 : Int32))), .val (.int (own_j0_78_S0 i0 i1 i2 i3 i4 i5)), .val (.int (own_v0_84 i0 i1 i2 i3 i4 i5)), .val (.ref b13), .val (.int (own_j0_170_L13 i0 i1 i2 i3 i4 i5)), .unset, .unset, .unset, .unset, .unset] [(.int (own_cnt (own_j0_170_count i0 i1 i2 i3 i4 i5)))])) st30 ?_
        refine ownE.go (T' := T30) (f' := (mkF m 186 #[.val (.int i0), .val (.int i1), .val (.int i2), .val (.int i3), .val (.int i4), .val (.int i5), .val (.ref b1), .val (.int (own_v0_45 i0 i1 i2 i3 i4 i5)), .val (.int (own_v0_58 i0 i1 i2 i3 i4 i5)), .val (.int (i5 &&& (3 : Int32))), .val (.int (own_j0_78_S0 i0 i1 i2 i3 i4 i5)), .val (.int (own_v0_84 i0 i1 i2 i3 i4 i5)), .val (.ref b13), .val (.int (own_j0_170_L13 i0 i1 i2 i3 i4 i5)), .val (.int (own_cnt (own_j0_170_count i0 i1 i2 i3 i4 i5))), .unset, .unset, .unset, .unset] [(.int (own_j0_170_L13 i0 i1 i2 i3 i4 i5)), (.int (own_v0_58 i0 i1 i2 i3 i4 i5)), (.int (own_v0_45 i0 i1 i2 i3 i4 i5)), (.int (0 : Int32)), (.ref b1)])) (fun t kt => ?_) ?_
        · show Steps p.tables e below (T30.setTop (mkF m 175 #[.val (.int i0), .val (.int i1), .val (.int i2), .val (.int i3), .val (.int i4), .val (.int i5), .val (.ref b1), .val (.int (own_v0_45 i0 i1 i2 i3 i4 i5)), .val (.int (own_v0_58 i0 i1 i2 i3 i4 i5)), .val (.int (i5 &&& (3 : Int32))), .val (.int (own_j0_78_S0 i0 i1 i2 i3 i4 i5)), .val (.int (own_v0_84 i0 i1 i2 i3 i4 i5)), .val (.ref b13), .val (.int (own_j0_170_L13 i0 i1 i2 i3 i4 i5)), .unset, .unset, .unset, .unset, .unset] [(.int (own_cnt (own_j0_170_count i0 i1 i2 i3 i4 i5)))])) _
          refine XS.istore X30.here hx rfl (hb hby at_175) rfl (l' := #[.val (.int i0), .val (.int i1), .val (.int i2), .val (.int i3), .val (.int i4), .val (.int i5), .val (.ref b1), .val (.int (own_v0_45 i0 i1 i2 i3 i4 i5)), .val (.int (own_v0_58 i0 i1 i2 i3 i4 i5)), .val (.int (i5 &&& (3 : Int32))), .val (.int (own_j0_78_S0 i0 i1 i2 i3 i4 i5)), .val (.int (own_v0_84 i0 i1 i2 i3 i4 i5)), .val (.ref b13), .val (.int (own_j0_170_L13 i0 i1 i2 i3 i4 i5)), .val (.int (own_cnt (own_j0_170_count i0 i1 i2 i3 i4 i5))), .unset, .unset, .unset, .unset]) rfl ?_
          show Steps p.tables e below (T30.setTop (mkF m 177 #[.val (.int i0), .val (.int i1), .val (.int i2), .val (.int i3), .val (.int i4), .val (.int i5), .val (.ref b1), .val (.int (own_v0_45 i0 i1 i2 i3 i4 i5)), .val (.int (own_v0_58 i0 i1 i2 i3 i4 i5)), .val (.int (i5 &&& (3 : Int32))), .val (.int (own_j0_78_S0 i0 i1 i2 i3 i4 i5)), .val (.int (own_v0_84 i0 i1 i2 i3 i4 i5)), .val (.ref b13), .val (.int (own_j0_170_L13 i0 i1 i2 i3 i4 i5)), .val (.int (own_cnt (own_j0_170_count i0 i1 i2 i3 i4 i5))), .unset, .unset, .unset, .unset] [])) _
          refine XS.aload X30.here hx rfl (hb hby at_177) rfl rfl ?_
          show Steps p.tables e below (T30.setTop (mkF m 179 #[.val (.int i0), .val (.int i1), .val (.int i2), .val (.int i3), .val (.int i4), .val (.int i5), .val (.ref b1), .val (.int (own_v0_45 i0 i1 i2 i3 i4 i5)), .val (.int (own_v0_58 i0 i1 i2 i3 i4 i5)), .val (.int (i5 &&& (3 : Int32))), .val (.int (own_j0_78_S0 i0 i1 i2 i3 i4 i5)), .val (.int (own_v0_84 i0 i1 i2 i3 i4 i5)), .val (.ref b13), .val (.int (own_j0_170_L13 i0 i1 i2 i3 i4 i5)), .val (.int (own_cnt (own_j0_170_count i0 i1 i2 i3 i4 i5))), .unset, .unset, .unset, .unset] [(.ref b1)])) _
          refine XS.iconst X30.here hx rfl (hb hby at_179) ?_
          show Steps p.tables e below (T30.setTop (mkF m 180 #[.val (.int i0), .val (.int i1), .val (.int i2), .val (.int i3), .val (.int i4), .val (.int i5), .val (.ref b1), .val (.int (own_v0_45 i0 i1 i2 i3 i4 i5)), .val (.int (own_v0_58 i0 i1 i2 i3 i4 i5)), .val (.int (i5 &&& (3 : Int32))), .val (.int (own_j0_78_S0 i0 i1 i2 i3 i4 i5)), .val (.int (own_v0_84 i0 i1 i2 i3 i4 i5)), .val (.ref b13), .val (.int (own_j0_170_L13 i0 i1 i2 i3 i4 i5)), .val (.int (own_cnt (own_j0_170_count i0 i1 i2 i3 i4 i5))), .unset, .unset, .unset, .unset] [(.int (0 : Int32)), (.ref b1)])) _
          refine XS.iload X30.here hx rfl (hb hby at_180) rfl ?_
          show Steps p.tables e below (T30.setTop (mkF m 182 #[.val (.int i0), .val (.int i1), .val (.int i2), .val (.int i3), .val (.int i4), .val (.int i5), .val (.ref b1), .val (.int (own_v0_45 i0 i1 i2 i3 i4 i5)), .val (.int (own_v0_58 i0 i1 i2 i3 i4 i5)), .val (.int (i5 &&& (3 : Int32))), .val (.int (own_j0_78_S0 i0 i1 i2 i3 i4 i5)), .val (.int (own_v0_84 i0 i1 i2 i3 i4 i5)), .val (.ref b13), .val (.int (own_j0_170_L13 i0 i1 i2 i3 i4 i5)), .val (.int (own_cnt (own_j0_170_count i0 i1 i2 i3 i4 i5))), .unset, .unset, .unset, .unset] [(.int (own_v0_45 i0 i1 i2 i3 i4 i5)), (.int (0 : Int32)), (.ref b1)])) _
          refine XS.iload X30.here hx rfl (hb hby at_182) rfl ?_
          show Steps p.tables e below (T30.setTop (mkF m 184 #[.val (.int i0), .val (.int i1), .val (.int i2), .val (.int i3), .val (.int i4), .val (.int i5), .val (.ref b1), .val (.int (own_v0_45 i0 i1 i2 i3 i4 i5)), .val (.int (own_v0_58 i0 i1 i2 i3 i4 i5)), .val (.int (i5 &&& (3 : Int32))), .val (.int (own_j0_78_S0 i0 i1 i2 i3 i4 i5)), .val (.int (own_v0_84 i0 i1 i2 i3 i4 i5)), .val (.ref b13), .val (.int (own_j0_170_L13 i0 i1 i2 i3 i4 i5)), .val (.int (own_cnt (own_j0_170_count i0 i1 i2 i3 i4 i5))), .unset, .unset, .unset, .unset] [(.int (own_v0_58 i0 i1 i2 i3 i4 i5)), (.int (own_v0_45 i0 i1 i2 i3 i4 i5)), (.int (0 : Int32)), (.ref b1)])) _
          refine XS.iload X30.here hx rfl (hb hby at_184) rfl ?_
          exact kt
        obtain ⟨_, _, ⟨T31, L31, k31, n31⟩, -, X31, ⟨Lc31, hQ31, l31, y31, z31⟩, st31⟩ := Jvm.LawKit.callS X30 hx (y := (⟨"traceward/schema/LineBreaksTakePinLaw", "brk", "([BIIIZ)I"⟩ : MethodName)) hown (mvT hZ (hw _ (List.mem_of_getElem? (i := 33) rfl))) (mvT hZ (hw _ (List.mem_of_getElem? (i := 34) rfl))) (mvT hZ (hw _ (List.mem_of_getElem? (i := 3) rfl))) (mvT hZ (hw _ (List.mem_of_getElem? (i := 35) rfl))) (by decide) (backOf (W := 0) (own_rm7i0 l Z a0 hw [] b1 (own_v0_45 i0 i1 i2 i3 i4 i5) (own_v0_58 i0 i1 i2 i3 i4 i5) (own_j0_170_L13 i0 i1 i2 i3 i4 i5) k1 ((own_draw i0).toInt8.toInt32) ((own_draw i1).toInt8.toInt32) ((own_draw i2).toInt8.toInt32) ((own_draw i3).toInt8.toInt32) hJ29 n0 (Nat.le_trans Z0 KJ29.1) J29_cArv_b1_j (own_m5 i4).1) hZ (hw _ (List.mem_of_getElem? (i := 35) rfl)) (hw _ (List.mem_of_getElem? (i := 3) rfl)) (by decide) (by decide)) (g := (mkF m 186 #[.val (.int i0), .val (.int i1), .val (.int i2), .val (.int i3), .val (.int i4), .val (.int i5), .val (.ref b1), .val (.int (own_v0_45 i0 i1 i2 i3 i4 i5)), .val (.int (own_v0_58 i0 i1 i2 i3 i4 i5)), .val (.int (i5 &&& (3 : Int32))), .val (.int (own_j0_78_S0 i0 i1 i2 i3 i4 i5)), .val (.int (own_v0_84 i0 i1 i2 i3 i4 i5)), .val (.ref b13), .val (.int (own_j0_170_L13 i0 i1 i2 i3 i4 i5)), .val (.int (own_cnt (own_j0_170_count i0 i1 i2 i3 i4 i5))), .unset, .unset, .unset, .unset] [(.int (own_j0_170_L13 i0 i1 i2 i3 i4 i5)), (.int (own_v0_58 i0 i1 i2 i3 i4 i5)), (.int (own_v0_45 i0 i1 i2 i3 i4 i5)), (.int (0 : Int32)), (.ref b1)])) rfl (by rw [hml]; rfl) (argsL := [(.ref b1), (.int (0 : Int32)), (.int (own_v0_45 i0 i1 i2 i3 i4 i5)), (.int (own_v0_58 i0 i1 i2 i3 i4 i5)), (.int (own_j0_170_L13 i0 i1 i2 i3 i4 i5))]) (rest := []) (lenOf own_pd7 rfl) rfl (by show 2 * 0 + _ ≤ _; exact Nat.le_of_eq rfl) (hb hby at_186) (fun _ _ => ⟨rfl, e30, (by decide : 2 + 0 ≤ _), (by decide : 7 + 0 ≤ _)⟩)
        dsimp only [Pt.U, Pt.locs, Pt.cells, Pt.slots] at X31 l31 y31 z31 st31 hQ31
        subst l31 y31 z31
        obtain ⟨rfl, N31q, e31⟩ := hQ31
        have N31 := Fr.app N30 N31q
        refine ownE.go (T' := T31) (f' := (mkF m 189 #[.val (.int i0), .val (.int i1), .val (.int i2), .val (.int i3), .val (.int i4), .val (.int i5), .val (.ref b1), .val (.int (own_v0_45 i0 i1 i2 i3 i4 i5)), .val (.int (own_v0_58 i0 i1 i2 i3 i4 i5)), .val (.int (i5 &&& (3 : Int32))), .val (.int (own_j0_78_S0 i0 i1 i2 i3 i4 i5)), .val (.int (own_v0_84 i0 i1 i2 i3 i4 i5)), .val (.ref b13), .val (.int (own_j0_170_L13 i0 i1 i2 i3 i4 i5)), .val (.int (own_cnt (own_j0_170_count i0 i1 i2 i3 i4 i5))), .unset, .unset, .unset, .unset] [(.int (own_brk0 (own_v0_45 i0 i1 i2 i3 i4 i5) (own_v0_58 i0 i1 i2 i3 i4 i5) (own_j0_170_L13 i0 i1 i2 i3 i4 i5) ((own_draw i0).toInt8.toInt32) ((own_draw i1).toInt8.toInt32) ((own_draw i2).toInt8.toInt32) ((own_draw i3).toInt8.toInt32)))])) st31 ?_
        refine ownE.go (T' := T31) (f' := (mkF m 198 #[.val (.int i0), .val (.int i1), .val (.int i2), .val (.int i3), .val (.int i4), .val (.int i5), .val (.ref b1), .val (.int (own_v0_45 i0 i1 i2 i3 i4 i5)), .val (.int (own_v0_58 i0 i1 i2 i3 i4 i5)), .val (.int (i5 &&& (3 : Int32))), .val (.int (own_j0_78_S0 i0 i1 i2 i3 i4 i5)), .val (.int (own_v0_84 i0 i1 i2 i3 i4 i5)), .val (.ref b13), .val (.int (own_j0_170_L13 i0 i1 i2 i3 i4 i5)), .val (.int (own_cnt (own_j0_170_count i0 i1 i2 i3 i4 i5))), .unset, .unset, .unset, .unset] [(.int (own_j0_170_L13 i0 i1 i2 i3 i4 i5)), (.int (own_v0_58 i0 i1 i2 i3 i4 i5)), (.int (own_v0_45 i0 i1 i2 i3 i4 i5)), (.int (1 : Int32)), (.ref b1), (.int (own_brk0 (own_v0_45 i0 i1 i2 i3 i4 i5) (own_v0_58 i0 i1 i2 i3 i4 i5) (own_j0_170_L13 i0 i1 i2 i3 i4 i5) ((own_draw i0).toInt8.toInt32) ((own_draw i1).toInt8.toInt32) ((own_draw i2).toInt8.toInt32) ((own_draw i3).toInt8.toInt32)))])) (fun t kt => ?_) ?_
        · show Steps p.tables e below (T31.setTop (mkF m 189 #[.val (.int i0), .val (.int i1), .val (.int i2), .val (.int i3), .val (.int i4), .val (.int i5), .val (.ref b1), .val (.int (own_v0_45 i0 i1 i2 i3 i4 i5)), .val (.int (own_v0_58 i0 i1 i2 i3 i4 i5)), .val (.int (i5 &&& (3 : Int32))), .val (.int (own_j0_78_S0 i0 i1 i2 i3 i4 i5)), .val (.int (own_v0_84 i0 i1 i2 i3 i4 i5)), .val (.ref b13), .val (.int (own_j0_170_L13 i0 i1 i2 i3 i4 i5)), .val (.int (own_cnt (own_j0_170_count i0 i1 i2 i3 i4 i5))), .unset, .unset, .unset, .unset] [(.int (own_brk0 (own_v0_45 i0 i1 i2 i3 i4 i5) (own_v0_58 i0 i1 i2 i3 i4 i5) (own_j0_170_L13 i0 i1 i2 i3 i4 i5) ((own_draw i0).toInt8.toInt32) ((own_draw i1).toInt8.toInt32) ((own_draw i2).toInt8.toInt32) ((own_draw i3).toInt8.toInt32)))])) _
          refine XS.aload X31.here hx rfl (hb hby at_189) rfl rfl ?_
          show Steps p.tables e below (T31.setTop (mkF m 191 #[.val (.int i0), .val (.int i1), .val (.int i2), .val (.int i3), .val (.int i4), .val (.int i5), .val (.ref b1), .val (.int (own_v0_45 i0 i1 i2 i3 i4 i5)), .val (.int (own_v0_58 i0 i1 i2 i3 i4 i5)), .val (.int (i5 &&& (3 : Int32))), .val (.int (own_j0_78_S0 i0 i1 i2 i3 i4 i5)), .val (.int (own_v0_84 i0 i1 i2 i3 i4 i5)), .val (.ref b13), .val (.int (own_j0_170_L13 i0 i1 i2 i3 i4 i5)), .val (.int (own_cnt (own_j0_170_count i0 i1 i2 i3 i4 i5))), .unset, .unset, .unset, .unset] [(.ref b1), (.int (own_brk0 (own_v0_45 i0 i1 i2 i3 i4 i5) (own_v0_58 i0 i1 i2 i3 i4 i5) (own_j0_170_L13 i0 i1 i2 i3 i4 i5) ((own_draw i0).toInt8.toInt32) ((own_draw i1).toInt8.toInt32) ((own_draw i2).toInt8.toInt32) ((own_draw i3).toInt8.toInt32)))])) _
          refine XS.iconst X31.here hx rfl (hb hby at_191) ?_
          show Steps p.tables e below (T31.setTop (mkF m 192 #[.val (.int i0), .val (.int i1), .val (.int i2), .val (.int i3), .val (.int i4), .val (.int i5), .val (.ref b1), .val (.int (own_v0_45 i0 i1 i2 i3 i4 i5)), .val (.int (own_v0_58 i0 i1 i2 i3 i4 i5)), .val (.int (i5 &&& (3 : Int32))), .val (.int (own_j0_78_S0 i0 i1 i2 i3 i4 i5)), .val (.int (own_v0_84 i0 i1 i2 i3 i4 i5)), .val (.ref b13), .val (.int (own_j0_170_L13 i0 i1 i2 i3 i4 i5)), .val (.int (own_cnt (own_j0_170_count i0 i1 i2 i3 i4 i5))), .unset, .unset, .unset, .unset] [(.int (1 : Int32)), (.ref b1), (.int (own_brk0 (own_v0_45 i0 i1 i2 i3 i4 i5) (own_v0_58 i0 i1 i2 i3 i4 i5) (own_j0_170_L13 i0 i1 i2 i3 i4 i5) ((own_draw i0).toInt8.toInt32) ((own_draw i1).toInt8.toInt32) ((own_draw i2).toInt8.toInt32) ((own_draw i3).toInt8.toInt32)))])) _
          refine XS.iload X31.here hx rfl (hb hby at_192) rfl ?_
          show Steps p.tables e below (T31.setTop (mkF m 194 #[.val (.int i0), .val (.int i1), .val (.int i2), .val (.int i3), .val (.int i4), .val (.int i5), .val (.ref b1), .val (.int (own_v0_45 i0 i1 i2 i3 i4 i5)), .val (.int (own_v0_58 i0 i1 i2 i3 i4 i5)), .val (.int (i5 &&& (3 : Int32))), .val (.int (own_j0_78_S0 i0 i1 i2 i3 i4 i5)), .val (.int (own_v0_84 i0 i1 i2 i3 i4 i5)), .val (.ref b13), .val (.int (own_j0_170_L13 i0 i1 i2 i3 i4 i5)), .val (.int (own_cnt (own_j0_170_count i0 i1 i2 i3 i4 i5))), .unset, .unset, .unset, .unset] [(.int (own_v0_45 i0 i1 i2 i3 i4 i5)), (.int (1 : Int32)), (.ref b1), (.int (own_brk0 (own_v0_45 i0 i1 i2 i3 i4 i5) (own_v0_58 i0 i1 i2 i3 i4 i5) (own_j0_170_L13 i0 i1 i2 i3 i4 i5) ((own_draw i0).toInt8.toInt32) ((own_draw i1).toInt8.toInt32) ((own_draw i2).toInt8.toInt32) ((own_draw i3).toInt8.toInt32)))])) _
          refine XS.iload X31.here hx rfl (hb hby at_194) rfl ?_
          show Steps p.tables e below (T31.setTop (mkF m 196 #[.val (.int i0), .val (.int i1), .val (.int i2), .val (.int i3), .val (.int i4), .val (.int i5), .val (.ref b1), .val (.int (own_v0_45 i0 i1 i2 i3 i4 i5)), .val (.int (own_v0_58 i0 i1 i2 i3 i4 i5)), .val (.int (i5 &&& (3 : Int32))), .val (.int (own_j0_78_S0 i0 i1 i2 i3 i4 i5)), .val (.int (own_v0_84 i0 i1 i2 i3 i4 i5)), .val (.ref b13), .val (.int (own_j0_170_L13 i0 i1 i2 i3 i4 i5)), .val (.int (own_cnt (own_j0_170_count i0 i1 i2 i3 i4 i5))), .unset, .unset, .unset, .unset] [(.int (own_v0_58 i0 i1 i2 i3 i4 i5)), (.int (own_v0_45 i0 i1 i2 i3 i4 i5)), (.int (1 : Int32)), (.ref b1), (.int (own_brk0 (own_v0_45 i0 i1 i2 i3 i4 i5) (own_v0_58 i0 i1 i2 i3 i4 i5) (own_j0_170_L13 i0 i1 i2 i3 i4 i5) ((own_draw i0).toInt8.toInt32) ((own_draw i1).toInt8.toInt32) ((own_draw i2).toInt8.toInt32) ((own_draw i3).toInt8.toInt32)))])) _
          refine XS.iload X31.here hx rfl (hb hby at_196) rfl ?_
          exact kt
        obtain ⟨_, _, ⟨T32, L32, k32, n32⟩, -, X32, ⟨Lc32, hQ32, l32, y32, z32⟩, st32⟩ := Jvm.LawKit.callS X31 hx (y := (⟨"traceward/schema/LineBreaksTakePinLaw", "brk", "([BIIIZ)I"⟩ : MethodName)) hown (mvT hZ (hw _ (List.mem_of_getElem? (i := 33) rfl))) (mvT hZ (hw _ (List.mem_of_getElem? (i := 34) rfl))) (mvT hZ (hw _ (List.mem_of_getElem? (i := 3) rfl))) (mvT hZ (hw _ (List.mem_of_getElem? (i := 35) rfl))) (by decide) (backOf (W := 1) (own_rm7i1 l Z a0 hw [] b1 (own_v0_45 i0 i1 i2 i3 i4 i5) (own_v0_58 i0 i1 i2 i3 i4 i5) (own_j0_170_L13 i0 i1 i2 i3 i4 i5) k1 ((own_draw i0).toInt8.toInt32) ((own_draw i1).toInt8.toInt32) ((own_draw i2).toInt8.toInt32) ((own_draw i3).toInt8.toInt32) hJ29 n0 (Nat.le_trans Z0 KJ29.1) J29_cArv_b1_j) hZ (hw _ (List.mem_of_getElem? (i := 35) rfl)) (hw _ (List.mem_of_getElem? (i := 3) rfl)) (by decide) (by decide)) (g := (mkF m 198 #[.val (.int i0), .val (.int i1), .val (.int i2), .val (.int i3), .val (.int i4), .val (.int i5), .val (.ref b1), .val (.int (own_v0_45 i0 i1 i2 i3 i4 i5)), .val (.int (own_v0_58 i0 i1 i2 i3 i4 i5)), .val (.int (i5 &&& (3 : Int32))), .val (.int (own_j0_78_S0 i0 i1 i2 i3 i4 i5)), .val (.int (own_v0_84 i0 i1 i2 i3 i4 i5)), .val (.ref b13), .val (.int (own_j0_170_L13 i0 i1 i2 i3 i4 i5)), .val (.int (own_cnt (own_j0_170_count i0 i1 i2 i3 i4 i5))), .unset, .unset, .unset, .unset] [(.int (own_j0_170_L13 i0 i1 i2 i3 i4 i5)), (.int (own_v0_58 i0 i1 i2 i3 i4 i5)), (.int (own_v0_45 i0 i1 i2 i3 i4 i5)), (.int (1 : Int32)), (.ref b1), (.int (own_brk0 (own_v0_45 i0 i1 i2 i3 i4 i5) (own_v0_58 i0 i1 i2 i3 i4 i5) (own_j0_170_L13 i0 i1 i2 i3 i4 i5) ((own_draw i0).toInt8.toInt32) ((own_draw i1).toInt8.toInt32) ((own_draw i2).toInt8.toInt32) ((own_draw i3).toInt8.toInt32)))])) rfl (by rw [hml]; rfl) (argsL := [(.ref b1), (.int (1 : Int32)), (.int (own_v0_45 i0 i1 i2 i3 i4 i5)), (.int (own_v0_58 i0 i1 i2 i3 i4 i5)), (.int (own_j0_170_L13 i0 i1 i2 i3 i4 i5))]) (rest := [(.int (own_brk0 (own_v0_45 i0 i1 i2 i3 i4 i5) (own_v0_58 i0 i1 i2 i3 i4 i5) (own_j0_170_L13 i0 i1 i2 i3 i4 i5) ((own_draw i0).toInt8.toInt32) ((own_draw i1).toInt8.toInt32) ((own_draw i2).toInt8.toInt32) ((own_draw i3).toInt8.toInt32)))]) (lenOf own_pd7 rfl) rfl (by show 2 * 0 + _ ≤ _; exact Nat.le_of_eq rfl) (hb hby at_198) (fun _ _ => ⟨rfl, e31, (by decide : 2 + 0 ≤ _), (by decide : 7 + 0 ≤ _)⟩)
        dsimp only [Pt.U, Pt.locs, Pt.cells, Pt.slots] at X32 l32 y32 z32 st32 hQ32
        subst l32 y32 z32
        obtain ⟨rfl, N32q, e32⟩ := hQ32
        have N32 := Fr.app N31 N32q
        refine ownE.go (T' := T32) (f' := (mkF m 201 #[.val (.int i0), .val (.int i1), .val (.int i2), .val (.int i3), .val (.int i4), .val (.int i5), .val (.ref b1), .val (.int (own_v0_45 i0 i1 i2 i3 i4 i5)), .val (.int (own_v0_58 i0 i1 i2 i3 i4 i5)), .val (.int (i5 &&& (3 : Int32))), .val (.int (own_j0_78_S0 i0 i1 i2 i3 i4 i5)), .val (.int (own_v0_84 i0 i1 i2 i3 i4 i5)), .val (.ref b13), .val (.int (own_j0_170_L13 i0 i1 i2 i3 i4 i5)), .val (.int (own_cnt (own_j0_170_count i0 i1 i2 i3 i4 i5))), .unset, .unset, .unset, .unset] [(.int (own_brk1 (own_v0_45 i0 i1 i2 i3 i4 i5) (own_v0_58 i0 i1 i2 i3 i4 i5) (own_j0_170_L13 i0 i1 i2 i3 i4 i5) ((own_draw i0).toInt8.toInt32) ((own_draw i1).toInt8.toInt32) ((own_draw i2).toInt8.toInt32) ((own_draw i3).toInt8.toInt32))), (.int (own_brk0 (own_v0_45 i0 i1 i2 i3 i4 i5) (own_v0_58 i0 i1 i2 i3 i4 i5) (own_j0_170_L13 i0 i1 i2 i3 i4 i5) ((own_draw i0).toInt8.toInt32) ((own_draw i1).toInt8.toInt32) ((own_draw i2).toInt8.toInt32) ((own_draw i3).toInt8.toInt32)))])) st32 ?_
        refine ownE.go (T' := T32) (f' := (mkF m 211 #[.val (.int i0), .val (.int i1), .val (.int i2), .val (.int i3), .val (.int i4), .val (.int i5), .val (.ref b1), .val (.int (own_v0_45 i0 i1 i2 i3 i4 i5)), .val (.int (own_v0_58 i0 i1 i2 i3 i4 i5)), .val (.int (i5 &&& (3 : Int32))), .val (.int (own_j0_78_S0 i0 i1 i2 i3 i4 i5)), .val (.int (own_v0_84 i0 i1 i2 i3 i4 i5)), .val (.ref b13), .val (.int (own_j0_170_L13 i0 i1 i2 i3 i4 i5)), .val (.int (own_cnt (own_j0_170_count i0 i1 i2 i3 i4 i5))), .unset, .unset, .unset, .unset] [(.int (own_j0_170_L13 i0 i1 i2 i3 i4 i5)), (.int (own_v0_58 i0 i1 i2 i3 i4 i5)), (.int (own_v0_45 i0 i1 i2 i3 i4 i5)), (.int (2 : Int32)), (.ref b1), (.int ((own_brk0 (own_v0_45 i0 i1 i2 i3 i4 i5) (own_v0_58 i0 i1 i2 i3 i4 i5) (own_j0_170_L13 i0 i1 i2 i3 i4 i5) ((own_draw i0).toInt8.toInt32) ((own_draw i1).toInt8.toInt32) ((own_draw i2).toInt8.toInt32) ((own_draw i3).toInt8.toInt32)) + (own_brk1 (own_v0_45 i0 i1 i2 i3 i4 i5) (own_v0_58 i0 i1 i2 i3 i4 i5) (own_j0_170_L13 i0 i1 i2 i3 i4 i5) ((own_draw i0).toInt8.toInt32) ((own_draw i1).toInt8.toInt32) ((own_draw i2).toInt8.toInt32) ((own_draw i3).toInt8.toInt32))))])) (fun t kt => ?_) ?_
        · show Steps p.tables e below (T32.setTop (mkF m 201 #[.val (.int i0), .val (.int i1), .val (.int i2), .val (.int i3), .val (.int i4), .val (.int i5), .val (.ref b1), .val (.int (own_v0_45 i0 i1 i2 i3 i4 i5)), .val (.int (own_v0_58 i0 i1 i2 i3 i4 i5)), .val (.int (i5 &&& (3 : Int32))), .val (.int (own_j0_78_S0 i0 i1 i2 i3 i4 i5)), .val (.int (own_v0_84 i0 i1 i2 i3 i4 i5)), .val (.ref b13), .val (.int (own_j0_170_L13 i0 i1 i2 i3 i4 i5)), .val (.int (own_cnt (own_j0_170_count i0 i1 i2 i3 i4 i5))), .unset, .unset, .unset, .unset] [(.int (own_brk1 (own_v0_45 i0 i1 i2 i3 i4 i5) (own_v0_58 i0 i1 i2 i3 i4 i5) (own_j0_170_L13 i0 i1 i2 i3 i4 i5) ((own_draw i0).toInt8.toInt32) ((own_draw i1).toInt8.toInt32) ((own_draw i2).toInt8.toInt32) ((own_draw i3).toInt8.toInt32))), (.int (own_brk0 (own_v0_45 i0 i1 i2 i3 i4 i5) (own_v0_58 i0 i1 i2 i3 i4 i5) (own_j0_170_L13 i0 i1 i2 i3 i4 i5) ((own_draw i0).toInt8.toInt32) ((own_draw i1).toInt8.toInt32) ((own_draw i2).toInt8.toInt32) ((own_draw i3).toInt8.toInt32)))])) _
          refine XS.iadd X32.here hx rfl (hb hby at_201) rfl ?_
          show Steps p.tables e below (T32.setTop (mkF m 202 #[.val (.int i0), .val (.int i1), .val (.int i2), .val (.int i3), .val (.int i4), .val (.int i5), .val (.ref b1), .val (.int (own_v0_45 i0 i1 i2 i3 i4 i5)), .val (.int (own_v0_58 i0 i1 i2 i3 i4 i5)), .val (.int (i5 &&& (3 : Int32))), .val (.int (own_j0_78_S0 i0 i1 i2 i3 i4 i5)), .val (.int (own_v0_84 i0 i1 i2 i3 i4 i5)), .val (.ref b13), .val (.int (own_j0_170_L13 i0 i1 i2 i3 i4 i5)), .val (.int (own_cnt (own_j0_170_count i0 i1 i2 i3 i4 i5))), .unset, .unset, .unset, .unset] [(.int ((own_brk0 (own_v0_45 i0 i1 i2 i3 i4 i5) (own_v0_58 i0 i1 i2 i3 i4 i5) (own_j0_170_L13 i0 i1 i2 i3 i4 i5) ((own_draw i0).toInt8.toInt32) ((own_draw i1).toInt8.toInt32) ((own_draw i2).toInt8.toInt32) ((own_draw i3).toInt8.toInt32)) + (own_brk1 (own_v0_45 i0 i1 i2 i3 i4 i5) (own_v0_58 i0 i1 i2 i3 i4 i5) (own_j0_170_L13 i0 i1 i2 i3 i4 i5) ((own_draw i0).toInt8.toInt32) ((own_draw i1).toInt8.toInt32) ((own_draw i2).toInt8.toInt32) ((own_draw i3).toInt8.toInt32))))])) _
          refine XS.aload X32.here hx rfl (hb hby at_202) rfl rfl ?_
          show Steps p.tables e below (T32.setTop (mkF m 204 #[.val (.int i0), .val (.int i1), .val (.int i2), .val (.int i3), .val (.int i4), .val (.int i5), .val (.ref b1), .val (.int (own_v0_45 i0 i1 i2 i3 i4 i5)), .val (.int (own_v0_58 i0 i1 i2 i3 i4 i5)), .val (.int (i5 &&& (3 : Int32))), .val (.int (own_j0_78_S0 i0 i1 i2 i3 i4 i5)), .val (.int (own_v0_84 i0 i1 i2 i3 i4 i5)), .val (.ref b13), .val (.int (own_j0_170_L13 i0 i1 i2 i3 i4 i5)), .val (.int (own_cnt (own_j0_170_count i0 i1 i2 i3 i4 i5))), .unset, .unset, .unset, .unset] [(.ref b1), (.int ((own_brk0 (own_v0_45 i0 i1 i2 i3 i4 i5) (own_v0_58 i0 i1 i2 i3 i4 i5) (own_j0_170_L13 i0 i1 i2 i3 i4 i5) ((own_draw i0).toInt8.toInt32) ((own_draw i1).toInt8.toInt32) ((own_draw i2).toInt8.toInt32) ((own_draw i3).toInt8.toInt32)) + (own_brk1 (own_v0_45 i0 i1 i2 i3 i4 i5) (own_v0_58 i0 i1 i2 i3 i4 i5) (own_j0_170_L13 i0 i1 i2 i3 i4 i5) ((own_draw i0).toInt8.toInt32) ((own_draw i1).toInt8.toInt32) ((own_draw i2).toInt8.toInt32) ((own_draw i3).toInt8.toInt32))))])) _
          refine XS.iconst X32.here hx rfl (hb hby at_204) ?_
          show Steps p.tables e below (T32.setTop (mkF m 205 #[.val (.int i0), .val (.int i1), .val (.int i2), .val (.int i3), .val (.int i4), .val (.int i5), .val (.ref b1), .val (.int (own_v0_45 i0 i1 i2 i3 i4 i5)), .val (.int (own_v0_58 i0 i1 i2 i3 i4 i5)), .val (.int (i5 &&& (3 : Int32))), .val (.int (own_j0_78_S0 i0 i1 i2 i3 i4 i5)), .val (.int (own_v0_84 i0 i1 i2 i3 i4 i5)), .val (.ref b13), .val (.int (own_j0_170_L13 i0 i1 i2 i3 i4 i5)), .val (.int (own_cnt (own_j0_170_count i0 i1 i2 i3 i4 i5))), .unset, .unset, .unset, .unset] [(.int (2 : Int32)), (.ref b1), (.int ((own_brk0 (own_v0_45 i0 i1 i2 i3 i4 i5) (own_v0_58 i0 i1 i2 i3 i4 i5) (own_j0_170_L13 i0 i1 i2 i3 i4 i5) ((own_draw i0).toInt8.toInt32) ((own_draw i1).toInt8.toInt32) ((own_draw i2).toInt8.toInt32) ((own_draw i3).toInt8.toInt32)) + (own_brk1 (own_v0_45 i0 i1 i2 i3 i4 i5) (own_v0_58 i0 i1 i2 i3 i4 i5) (own_j0_170_L13 i0 i1 i2 i3 i4 i5) ((own_draw i0).toInt8.toInt32) ((own_draw i1).toInt8.toInt32) ((own_draw i2).toInt8.toInt32) ((own_draw i3).toInt8.toInt32))))])) _
          refine XS.iload X32.here hx rfl (hb hby at_205) rfl ?_
          show Steps p.tables e below (T32.setTop (mkF m 207 #[.val (.int i0), .val (.int i1), .val (.int i2), .val (.int i3), .val (.int i4), .val (.int i5), .val (.ref b1), .val (.int (own_v0_45 i0 i1 i2 i3 i4 i5)), .val (.int (own_v0_58 i0 i1 i2 i3 i4 i5)), .val (.int (i5 &&& (3 : Int32))), .val (.int (own_j0_78_S0 i0 i1 i2 i3 i4 i5)), .val (.int (own_v0_84 i0 i1 i2 i3 i4 i5)), .val (.ref b13), .val (.int (own_j0_170_L13 i0 i1 i2 i3 i4 i5)), .val (.int (own_cnt (own_j0_170_count i0 i1 i2 i3 i4 i5))), .unset, .unset, .unset, .unset] [(.int (own_v0_45 i0 i1 i2 i3 i4 i5)), (.int (2 : Int32)), (.ref b1), (.int ((own_brk0 (own_v0_45 i0 i1 i2 i3 i4 i5) (own_v0_58 i0 i1 i2 i3 i4 i5) (own_j0_170_L13 i0 i1 i2 i3 i4 i5) ((own_draw i0).toInt8.toInt32) ((own_draw i1).toInt8.toInt32) ((own_draw i2).toInt8.toInt32) ((own_draw i3).toInt8.toInt32)) + (own_brk1 (own_v0_45 i0 i1 i2 i3 i4 i5) (own_v0_58 i0 i1 i2 i3 i4 i5) (own_j0_170_L13 i0 i1 i2 i3 i4 i5) ((own_draw i0).toInt8.toInt32) ((own_draw i1).toInt8.toInt32) ((own_draw i2).toInt8.toInt32) ((own_draw i3).toInt8.toInt32))))])) _
          refine XS.iload X32.here hx rfl (hb hby at_207) rfl ?_
          show Steps p.tables e below (T32.setTop (mkF m 209 #[.val (.int i0), .val (.int i1), .val (.int i2), .val (.int i3), .val (.int i4), .val (.int i5), .val (.ref b1), .val (.int (own_v0_45 i0 i1 i2 i3 i4 i5)), .val (.int (own_v0_58 i0 i1 i2 i3 i4 i5)), .val (.int (i5 &&& (3 : Int32))), .val (.int (own_j0_78_S0 i0 i1 i2 i3 i4 i5)), .val (.int (own_v0_84 i0 i1 i2 i3 i4 i5)), .val (.ref b13), .val (.int (own_j0_170_L13 i0 i1 i2 i3 i4 i5)), .val (.int (own_cnt (own_j0_170_count i0 i1 i2 i3 i4 i5))), .unset, .unset, .unset, .unset] [(.int (own_v0_58 i0 i1 i2 i3 i4 i5)), (.int (own_v0_45 i0 i1 i2 i3 i4 i5)), (.int (2 : Int32)), (.ref b1), (.int ((own_brk0 (own_v0_45 i0 i1 i2 i3 i4 i5) (own_v0_58 i0 i1 i2 i3 i4 i5) (own_j0_170_L13 i0 i1 i2 i3 i4 i5) ((own_draw i0).toInt8.toInt32) ((own_draw i1).toInt8.toInt32) ((own_draw i2).toInt8.toInt32) ((own_draw i3).toInt8.toInt32)) + (own_brk1 (own_v0_45 i0 i1 i2 i3 i4 i5) (own_v0_58 i0 i1 i2 i3 i4 i5) (own_j0_170_L13 i0 i1 i2 i3 i4 i5) ((own_draw i0).toInt8.toInt32) ((own_draw i1).toInt8.toInt32) ((own_draw i2).toInt8.toInt32) ((own_draw i3).toInt8.toInt32))))])) _
          refine XS.iload X32.here hx rfl (hb hby at_209) rfl ?_
          exact kt
        obtain ⟨_, _, ⟨T33, L33, k33, n33⟩, -, X33, ⟨Lc33, hQ33, l33, y33, z33⟩, st33⟩ := Jvm.LawKit.callS X32 hx (y := (⟨"traceward/schema/LineBreaksTakePinLaw", "brk", "([BIIIZ)I"⟩ : MethodName)) hown (mvT hZ (hw _ (List.mem_of_getElem? (i := 33) rfl))) (mvT hZ (hw _ (List.mem_of_getElem? (i := 34) rfl))) (mvT hZ (hw _ (List.mem_of_getElem? (i := 3) rfl))) (mvT hZ (hw _ (List.mem_of_getElem? (i := 35) rfl))) (by decide) (backOf (W := 1) (own_rm7i2 l Z a0 hw [] b1 (own_v0_45 i0 i1 i2 i3 i4 i5) (own_v0_58 i0 i1 i2 i3 i4 i5) (own_j0_170_L13 i0 i1 i2 i3 i4 i5) k1 ((own_draw i0).toInt8.toInt32) ((own_draw i1).toInt8.toInt32) ((own_draw i2).toInt8.toInt32) ((own_draw i3).toInt8.toInt32) hJ29 n0 (Nat.le_trans Z0 KJ29.1) J29_cArv_b1_j) hZ (hw _ (List.mem_of_getElem? (i := 35) rfl)) (hw _ (List.mem_of_getElem? (i := 3) rfl)) (by decide) (by decide)) (g := (mkF m 211 #[.val (.int i0), .val (.int i1), .val (.int i2), .val (.int i3), .val (.int i4), .val (.int i5), .val (.ref b1), .val (.int (own_v0_45 i0 i1 i2 i3 i4 i5)), .val (.int (own_v0_58 i0 i1 i2 i3 i4 i5)), .val (.int (i5 &&& (3 : Int32))), .val (.int (own_j0_78_S0 i0 i1 i2 i3 i4 i5)), .val (.int (own_v0_84 i0 i1 i2 i3 i4 i5)), .val (.ref b13), .val (.int (own_j0_170_L13 i0 i1 i2 i3 i4 i5)), .val (.int (own_cnt (own_j0_170_count i0 i1 i2 i3 i4 i5))), .unset, .unset, .unset, .unset] [(.int (own_j0_170_L13 i0 i1 i2 i3 i4 i5)), (.int (own_v0_58 i0 i1 i2 i3 i4 i5)), (.int (own_v0_45 i0 i1 i2 i3 i4 i5)), (.int (2 : Int32)), (.ref b1), (.int ((own_brk0 (own_v0_45 i0 i1 i2 i3 i4 i5) (own_v0_58 i0 i1 i2 i3 i4 i5) (own_j0_170_L13 i0 i1 i2 i3 i4 i5) ((own_draw i0).toInt8.toInt32) ((own_draw i1).toInt8.toInt32) ((own_draw i2).toInt8.toInt32) ((own_draw i3).toInt8.toInt32)) + (own_brk1 (own_v0_45 i0 i1 i2 i3 i4 i5) (own_v0_58 i0 i1 i2 i3 i4 i5) (own_j0_170_L13 i0 i1 i2 i3 i4 i5) ((own_draw i0).toInt8.toInt32) ((own_draw i1).toInt8.toInt32) ((own_draw i2).toInt8.toInt32) ((own_draw i3).toInt8.toInt32))))])) rfl (by rw [hml]; rfl) (argsL := [(.ref b1), (.int (2 : Int32)), (.int (own_v0_45 i0 i1 i2 i3 i4 i5)), (.int (own_v0_58 i0 i1 i2 i3 i4 i5)), (.int (own_j0_170_L13 i0 i1 i2 i3 i4 i5))]) (rest := [(.int ((own_brk0 (own_v0_45 i0 i1 i2 i3 i4 i5) (own_v0_58 i0 i1 i2 i3 i4 i5) (own_j0_170_L13 i0 i1 i2 i3 i4 i5) ((own_draw i0).toInt8.toInt32) ((own_draw i1).toInt8.toInt32) ((own_draw i2).toInt8.toInt32) ((own_draw i3).toInt8.toInt32)) + (own_brk1 (own_v0_45 i0 i1 i2 i3 i4 i5) (own_v0_58 i0 i1 i2 i3 i4 i5) (own_j0_170_L13 i0 i1 i2 i3 i4 i5) ((own_draw i0).toInt8.toInt32) ((own_draw i1).toInt8.toInt32) ((own_draw i2).toInt8.toInt32) ((own_draw i3).toInt8.toInt32))))]) (lenOf own_pd7 rfl) rfl (by show 2 * 0 + _ ≤ _; exact Nat.le_of_eq rfl) (hb hby at_211) (fun _ _ => ⟨rfl, e32, (by decide : 2 + 0 ≤ _), (by decide : 7 + 0 ≤ _)⟩)
        dsimp only [Pt.U, Pt.locs, Pt.cells, Pt.slots] at X33 l33 y33 z33 st33 hQ33
        subst l33 y33 z33
        obtain ⟨rfl, N33q, e33⟩ := hQ33
        have N33 := Fr.app N32 N33q
        refine ownE.go (T' := T33) (f' := (mkF m 214 #[.val (.int i0), .val (.int i1), .val (.int i2), .val (.int i3), .val (.int i4), .val (.int i5), .val (.ref b1), .val (.int (own_v0_45 i0 i1 i2 i3 i4 i5)), .val (.int (own_v0_58 i0 i1 i2 i3 i4 i5)), .val (.int (i5 &&& (3 : Int32))), .val (.int (own_j0_78_S0 i0 i1 i2 i3 i4 i5)), .val (.int (own_v0_84 i0 i1 i2 i3 i4 i5)), .val (.ref b13), .val (.int (own_j0_170_L13 i0 i1 i2 i3 i4 i5)), .val (.int (own_cnt (own_j0_170_count i0 i1 i2 i3 i4 i5))), .unset, .unset, .unset, .unset] [(.int (own_brk2 (own_v0_45 i0 i1 i2 i3 i4 i5) (own_v0_58 i0 i1 i2 i3 i4 i5) (own_j0_170_L13 i0 i1 i2 i3 i4 i5) ((own_draw i0).toInt8.toInt32) ((own_draw i1).toInt8.toInt32) ((own_draw i2).toInt8.toInt32) ((own_draw i3).toInt8.toInt32))), (.int ((own_brk0 (own_v0_45 i0 i1 i2 i3 i4 i5) (own_v0_58 i0 i1 i2 i3 i4 i5) (own_j0_170_L13 i0 i1 i2 i3 i4 i5) ((own_draw i0).toInt8.toInt32) ((own_draw i1).toInt8.toInt32) ((own_draw i2).toInt8.toInt32) ((own_draw i3).toInt8.toInt32)) + (own_brk1 (own_v0_45 i0 i1 i2 i3 i4 i5) (own_v0_58 i0 i1 i2 i3 i4 i5) (own_j0_170_L13 i0 i1 i2 i3 i4 i5) ((own_draw i0).toInt8.toInt32) ((own_draw i1).toInt8.toInt32) ((own_draw i2).toInt8.toInt32) ((own_draw i3).toInt8.toInt32))))])) st33 ?_
        refine ownE.go (T' := T33) (f' := (mkF m 224 #[.val (.int i0), .val (.int i1), .val (.int i2), .val (.int i3), .val (.int i4), .val (.int i5), .val (.ref b1), .val (.int (own_v0_45 i0 i1 i2 i3 i4 i5)), .val (.int (own_v0_58 i0 i1 i2 i3 i4 i5)), .val (.int (i5 &&& (3 : Int32))), .val (.int (own_j0_78_S0 i0 i1 i2 i3 i4 i5)), .val (.int (own_v0_84 i0 i1 i2 i3 i4 i5)), .val (.ref b13), .val (.int (own_j0_170_L13 i0 i1 i2 i3 i4 i5)), .val (.int (own_cnt (own_j0_170_count i0 i1 i2 i3 i4 i5))), .unset, .unset, .unset, .unset] [(.int (own_j0_170_L13 i0 i1 i2 i3 i4 i5)), (.int (own_v0_58 i0 i1 i2 i3 i4 i5)), (.int (own_v0_45 i0 i1 i2 i3 i4 i5)), (.int (3 : Int32)), (.ref b1), (.int (((own_brk0 (own_v0_45 i0 i1 i2 i3 i4 i5) (own_v0_58 i0 i1 i2 i3 i4 i5) (own_j0_170_L13 i0 i1 i2 i3 i4 i5) ((own_draw i0).toInt8.toInt32) ((own_draw i1).toInt8.toInt32) ((own_draw i2).toInt8.toInt32) ((own_draw i3).toInt8.toInt32)) + (own_brk1 (own_v0_45 i0 i1 i2 i3 i4 i5) (own_v0_58 i0 i1 i2 i3 i4 i5) (own_j0_170_L13 i0 i1 i2 i3 i4 i5) ((own_draw i0).toInt8.toInt32) ((own_draw i1).toInt8.toInt32) ((own_draw i2).toInt8.toInt32) ((own_draw i3).toInt8.toInt32))) + (own_brk2 (own_v0_45 i0 i1 i2 i3 i4 i5) (own_v0_58 i0 i1 i2 i3 i4 i5) (own_j0_170_L13 i0 i1 i2 i3 i4 i5) ((own_draw i0).toInt8.toInt32) ((own_draw i1).toInt8.toInt32) ((own_draw i2).toInt8.toInt32) ((own_draw i3).toInt8.toInt32))))])) (fun t kt => ?_) ?_
        · show Steps p.tables e below (T33.setTop (mkF m 214 #[.val (.int i0), .val (.int i1), .val (.int i2), .val (.int i3), .val (.int i4), .val (.int i5), .val (.ref b1), .val (.int (own_v0_45 i0 i1 i2 i3 i4 i5)), .val (.int (own_v0_58 i0 i1 i2 i3 i4 i5)), .val (.int (i5 &&& (3 : Int32))), .val (.int (own_j0_78_S0 i0 i1 i2 i3 i4 i5)), .val (.int (own_v0_84 i0 i1 i2 i3 i4 i5)), .val (.ref b13), .val (.int (own_j0_170_L13 i0 i1 i2 i3 i4 i5)), .val (.int (own_cnt (own_j0_170_count i0 i1 i2 i3 i4 i5))), .unset, .unset, .unset, .unset] [(.int (own_brk2 (own_v0_45 i0 i1 i2 i3 i4 i5) (own_v0_58 i0 i1 i2 i3 i4 i5) (own_j0_170_L13 i0 i1 i2 i3 i4 i5) ((own_draw i0).toInt8.toInt32) ((own_draw i1).toInt8.toInt32) ((own_draw i2).toInt8.toInt32) ((own_draw i3).toInt8.toInt32))), (.int ((own_brk0 (own_v0_45 i0 i1 i2 i3 i4 i5) (own_v0_58 i0 i1 i2 i3 i4 i5) (own_j0_170_L13 i0 i1 i2 i3 i4 i5) ((own_draw i0).toInt8.toInt32) ((own_draw i1).toInt8.toInt32) ((own_draw i2).toInt8.toInt32) ((own_draw i3).toInt8.toInt32)) + (own_brk1 (own_v0_45 i0 i1 i2 i3 i4 i5) (own_v0_58 i0 i1 i2 i3 i4 i5) (own_j0_170_L13 i0 i1 i2 i3 i4 i5) ((own_draw i0).toInt8.toInt32) ((own_draw i1).toInt8.toInt32) ((own_draw i2).toInt8.toInt32) ((own_draw i3).toInt8.toInt32))))])) _
          refine XS.iadd X33.here hx rfl (hb hby at_214) rfl ?_
          show Steps p.tables e below (T33.setTop (mkF m 215 #[.val (.int i0), .val (.int i1), .val (.int i2), .val (.int i3), .val (.int i4), .val (.int i5), .val (.ref b1), .val (.int (own_v0_45 i0 i1 i2 i3 i4 i5)), .val (.int (own_v0_58 i0 i1 i2 i3 i4 i5)), .val (.int (i5 &&& (3 : Int32))), .val (.int (own_j0_78_S0 i0 i1 i2 i3 i4 i5)), .val (.int (own_v0_84 i0 i1 i2 i3 i4 i5)), .val (.ref b13), .val (.int (own_j0_170_L13 i0 i1 i2 i3 i4 i5)), .val (.int (own_cnt (own_j0_170_count i0 i1 i2 i3 i4 i5))), .unset, .unset, .unset, .unset] [(.int (((own_brk0 (own_v0_45 i0 i1 i2 i3 i4 i5) (own_v0_58 i0 i1 i2 i3 i4 i5) (own_j0_170_L13 i0 i1 i2 i3 i4 i5) ((own_draw i0).toInt8.toInt32) ((own_draw i1).toInt8.toInt32) ((own_draw i2).toInt8.toInt32) ((own_draw i3).toInt8.toInt32)) + (own_brk1 (own_v0_45 i0 i1 i2 i3 i4 i5) (own_v0_58 i0 i1 i2 i3 i4 i5) (own_j0_170_L13 i0 i1 i2 i3 i4 i5) ((own_draw i0).toInt8.toInt32) ((own_draw i1).toInt8.toInt32) ((own_draw i2).toInt8.toInt32) ((own_draw i3).toInt8.toInt32))) + (own_brk2 (own_v0_45 i0 i1 i2 i3 i4 i5) (own_v0_58 i0 i1 i2 i3 i4 i5) (own_j0_170_L13 i0 i1 i2 i3 i4 i5) ((own_draw i0).toInt8.toInt32) ((own_draw i1).toInt8.toInt32) ((own_draw i2).toInt8.toInt32) ((own_draw i3).toInt8.toInt32))))])) _
          refine XS.aload X33.here hx rfl (hb hby at_215) rfl rfl ?_
          show Steps p.tables e below (T33.setTop (mkF m 217 #[.val (.int i0), .val (.int i1), .val (.int i2), .val (.int i3), .val (.int i4), .val (.int i5), .val (.ref b1), .val (.int (own_v0_45 i0 i1 i2 i3 i4 i5)), .val (.int (own_v0_58 i0 i1 i2 i3 i4 i5)), .val (.int (i5 &&& (3 : Int32))), .val (.int (own_j0_78_S0 i0 i1 i2 i3 i4 i5)), .val (.int (own_v0_84 i0 i1 i2 i3 i4 i5)), .val (.ref b13), .val (.int (own_j0_170_L13 i0 i1 i2 i3 i4 i5)), .val (.int (own_cnt (own_j0_170_count i0 i1 i2 i3 i4 i5))), .unset, .unset, .unset, .unset] [(.ref b1), (.int (((own_brk0 (own_v0_45 i0 i1 i2 i3 i4 i5) (own_v0_58 i0 i1 i2 i3 i4 i5) (own_j0_170_L13 i0 i1 i2 i3 i4 i5) ((own_draw i0).toInt8.toInt32) ((own_draw i1).toInt8.toInt32) ((own_draw i2).toInt8.toInt32) ((own_draw i3).toInt8.toInt32)) + (own_brk1 (own_v0_45 i0 i1 i2 i3 i4 i5) (own_v0_58 i0 i1 i2 i3 i4 i5) (own_j0_170_L13 i0 i1 i2 i3 i4 i5) ((own_draw i0).toInt8.toInt32) ((own_draw i1).toInt8.toInt32) ((own_draw i2).toInt8.toInt32) ((own_draw i3).toInt8.toInt32))) + (own_brk2 (own_v0_45 i0 i1 i2 i3 i4 i5) (own_v0_58 i0 i1 i2 i3 i4 i5) (own_j0_170_L13 i0 i1 i2 i3 i4 i5) ((own_draw i0).toInt8.toInt32) ((own_draw i1).toInt8.toInt32) ((own_draw i2).toInt8.toInt32) ((own_draw i3).toInt8.toInt32))))])) _
          refine XS.iconst X33.here hx rfl (hb hby at_217) ?_
          show Steps p.tables e below (T33.setTop (mkF m 218 #[.val (.int i0), .val (.int i1), .val (.int i2), .val (.int i3), .val (.int i4), .val (.int i5), .val (.ref b1), .val (.int (own_v0_45 i0 i1 i2 i3 i4 i5)), .val (.int (own_v0_58 i0 i1 i2 i3 i4 i5)), .val (.int (i5 &&& (3 : Int32))), .val (.int (own_j0_78_S0 i0 i1 i2 i3 i4 i5)), .val (.int (own_v0_84 i0 i1 i2 i3 i4 i5)), .val (.ref b13), .val (.int (own_j0_170_L13 i0 i1 i2 i3 i4 i5)), .val (.int (own_cnt (own_j0_170_count i0 i1 i2 i3 i4 i5))), .unset, .unset, .unset, .unset] [(.int (3 : Int32)), (.ref b1), (.int (((own_brk0 (own_v0_45 i0 i1 i2 i3 i4 i5) (own_v0_58 i0 i1 i2 i3 i4 i5) (own_j0_170_L13 i0 i1 i2 i3 i4 i5) ((own_draw i0).toInt8.toInt32) ((own_draw i1).toInt8.toInt32) ((own_draw i2).toInt8.toInt32) ((own_draw i3).toInt8.toInt32)) + (own_brk1 (own_v0_45 i0 i1 i2 i3 i4 i5) (own_v0_58 i0 i1 i2 i3 i4 i5) (own_j0_170_L13 i0 i1 i2 i3 i4 i5) ((own_draw i0).toInt8.toInt32) ((own_draw i1).toInt8.toInt32) ((own_draw i2).toInt8.toInt32) ((own_draw i3).toInt8.toInt32))) + (own_brk2 (own_v0_45 i0 i1 i2 i3 i4 i5) (own_v0_58 i0 i1 i2 i3 i4 i5) (own_j0_170_L13 i0 i1 i2 i3 i4 i5) ((own_draw i0).toInt8.toInt32) ((own_draw i1).toInt8.toInt32) ((own_draw i2).toInt8.toInt32) ((own_draw i3).toInt8.toInt32))))])) _
          refine XS.iload X33.here hx rfl (hb hby at_218) rfl ?_
          show Steps p.tables e below (T33.setTop (mkF m 220 #[.val (.int i0), .val (.int i1), .val (.int i2), .val (.int i3), .val (.int i4), .val (.int i5), .val (.ref b1), .val (.int (own_v0_45 i0 i1 i2 i3 i4 i5)), .val (.int (own_v0_58 i0 i1 i2 i3 i4 i5)), .val (.int (i5 &&& (3 : Int32))), .val (.int (own_j0_78_S0 i0 i1 i2 i3 i4 i5)), .val (.int (own_v0_84 i0 i1 i2 i3 i4 i5)), .val (.ref b13), .val (.int (own_j0_170_L13 i0 i1 i2 i3 i4 i5)), .val (.int (own_cnt (own_j0_170_count i0 i1 i2 i3 i4 i5))), .unset, .unset, .unset, .unset] [(.int (own_v0_45 i0 i1 i2 i3 i4 i5)), (.int (3 : Int32)), (.ref b1), (.int (((own_brk0 (own_v0_45 i0 i1 i2 i3 i4 i5) (own_v0_58 i0 i1 i2 i3 i4 i5) (own_j0_170_L13 i0 i1 i2 i3 i4 i5) ((own_draw i0).toInt8.toInt32) ((own_draw i1).toInt8.toInt32) ((own_draw i2).toInt8.toInt32) ((own_draw i3).toInt8.toInt32)) + (own_brk1 (own_v0_45 i0 i1 i2 i3 i4 i5) (own_v0_58 i0 i1 i2 i3 i4 i5) (own_j0_170_L13 i0 i1 i2 i3 i4 i5) ((own_draw i0).toInt8.toInt32) ((own_draw i1).toInt8.toInt32) ((own_draw i2).toInt8.toInt32) ((own_draw i3).toInt8.toInt32))) + (own_brk2 (own_v0_45 i0 i1 i2 i3 i4 i5) (own_v0_58 i0 i1 i2 i3 i4 i5) (own_j0_170_L13 i0 i1 i2 i3 i4 i5) ((own_draw i0).toInt8.toInt32) ((own_draw i1).toInt8.toInt32) ((own_draw i2).toInt8.toInt32) ((own_draw i3).toInt8.toInt32))))])) _
          refine XS.iload X33.here hx rfl (hb hby at_220) rfl ?_
          show Steps p.tables e below (T33.setTop (mkF m 222 #[.val (.int i0), .val (.int i1), .val (.int i2), .val (.int i3), .val (.int i4), .val (.int i5), .val (.ref b1), .val (.int (own_v0_45 i0 i1 i2 i3 i4 i5)), .val (.int (own_v0_58 i0 i1 i2 i3 i4 i5)), .val (.int (i5 &&& (3 : Int32))), .val (.int (own_j0_78_S0 i0 i1 i2 i3 i4 i5)), .val (.int (own_v0_84 i0 i1 i2 i3 i4 i5)), .val (.ref b13), .val (.int (own_j0_170_L13 i0 i1 i2 i3 i4 i5)), .val (.int (own_cnt (own_j0_170_count i0 i1 i2 i3 i4 i5))), .unset, .unset, .unset, .unset] [(.int (own_v0_58 i0 i1 i2 i3 i4 i5)), (.int (own_v0_45 i0 i1 i2 i3 i4 i5)), (.int (3 : Int32)), (.ref b1), (.int (((own_brk0 (own_v0_45 i0 i1 i2 i3 i4 i5) (own_v0_58 i0 i1 i2 i3 i4 i5) (own_j0_170_L13 i0 i1 i2 i3 i4 i5) ((own_draw i0).toInt8.toInt32) ((own_draw i1).toInt8.toInt32) ((own_draw i2).toInt8.toInt32) ((own_draw i3).toInt8.toInt32)) + (own_brk1 (own_v0_45 i0 i1 i2 i3 i4 i5) (own_v0_58 i0 i1 i2 i3 i4 i5) (own_j0_170_L13 i0 i1 i2 i3 i4 i5) ((own_draw i0).toInt8.toInt32) ((own_draw i1).toInt8.toInt32) ((own_draw i2).toInt8.toInt32) ((own_draw i3).toInt8.toInt32))) + (own_brk2 (own_v0_45 i0 i1 i2 i3 i4 i5) (own_v0_58 i0 i1 i2 i3 i4 i5) (own_j0_170_L13 i0 i1 i2 i3 i4 i5) ((own_draw i0).toInt8.toInt32) ((own_draw i1).toInt8.toInt32) ((own_draw i2).toInt8.toInt32) ((own_draw i3).toInt8.toInt32))))])) _
          refine XS.iload X33.here hx rfl (hb hby at_222) rfl ?_
          exact kt
        obtain ⟨_, _, ⟨T34, L34, k34, n34⟩, -, X34, ⟨Lc34, hQ34, l34, y34, z34⟩, st34⟩ := Jvm.LawKit.callS X33 hx (y := (⟨"traceward/schema/LineBreaksTakePinLaw", "brk", "([BIIIZ)I"⟩ : MethodName)) hown (mvT hZ (hw _ (List.mem_of_getElem? (i := 33) rfl))) (mvT hZ (hw _ (List.mem_of_getElem? (i := 34) rfl))) (mvT hZ (hw _ (List.mem_of_getElem? (i := 3) rfl))) (mvT hZ (hw _ (List.mem_of_getElem? (i := 35) rfl))) (by decide) (backOf (W := 1) (own_rm7i3 l Z a0 hw [] b1 (own_v0_45 i0 i1 i2 i3 i4 i5) (own_v0_58 i0 i1 i2 i3 i4 i5) (own_j0_170_L13 i0 i1 i2 i3 i4 i5) k1 ((own_draw i0).toInt8.toInt32) ((own_draw i1).toInt8.toInt32) ((own_draw i2).toInt8.toInt32) ((own_draw i3).toInt8.toInt32) hJ29 n0 (Nat.le_trans Z0 KJ29.1) J29_cArv_b1_j) hZ (hw _ (List.mem_of_getElem? (i := 35) rfl)) (hw _ (List.mem_of_getElem? (i := 3) rfl)) (by decide) (by decide)) (g := (mkF m 224 #[.val (.int i0), .val (.int i1), .val (.int i2), .val (.int i3), .val (.int i4), .val (.int i5), .val (.ref b1), .val (.int (own_v0_45 i0 i1 i2 i3 i4 i5)), .val (.int (own_v0_58 i0 i1 i2 i3 i4 i5)), .val (.int (i5 &&& (3 : Int32))), .val (.int (own_j0_78_S0 i0 i1 i2 i3 i4 i5)), .val (.int (own_v0_84 i0 i1 i2 i3 i4 i5)), .val (.ref b13), .val (.int (own_j0_170_L13 i0 i1 i2 i3 i4 i5)), .val (.int (own_cnt (own_j0_170_count i0 i1 i2 i3 i4 i5))), .unset, .unset, .unset, .unset] [(.int (own_j0_170_L13 i0 i1 i2 i3 i4 i5)), (.int (own_v0_58 i0 i1 i2 i3 i4 i5)), (.int (own_v0_45 i0 i1 i2 i3 i4 i5)), (.int (3 : Int32)), (.ref b1), (.int (((own_brk0 (own_v0_45 i0 i1 i2 i3 i4 i5) (own_v0_58 i0 i1 i2 i3 i4 i5) (own_j0_170_L13 i0 i1 i2 i3 i4 i5) ((own_draw i0).toInt8.toInt32) ((own_draw i1).toInt8.toInt32) ((own_draw i2).toInt8.toInt32) ((own_draw i3).toInt8.toInt32)) + (own_brk1 (own_v0_45 i0 i1 i2 i3 i4 i5) (own_v0_58 i0 i1 i2 i3 i4 i5) (own_j0_170_L13 i0 i1 i2 i3 i4 i5) ((own_draw i0).toInt8.toInt32) ((own_draw i1).toInt8.toInt32) ((own_draw i2).toInt8.toInt32) ((own_draw i3).toInt8.toInt32))) + (own_brk2 (own_v0_45 i0 i1 i2 i3 i4 i5) (own_v0_58 i0 i1 i2 i3 i4 i5) (own_j0_170_L13 i0 i1 i2 i3 i4 i5) ((own_draw i0).toInt8.toInt32) ((own_draw i1).toInt8.toInt32) ((own_draw i2).toInt8.toInt32) ((own_draw i3).toInt8.toInt32))))])) rfl (by rw [hml]; rfl) (argsL := [(.ref b1), (.int (3 : Int32)), (.int (own_v0_45 i0 i1 i2 i3 i4 i5)), (.int (own_v0_58 i0 i1 i2 i3 i4 i5)), (.int (own_j0_170_L13 i0 i1 i2 i3 i4 i5))]) (rest := [(.int (((own_brk0 (own_v0_45 i0 i1 i2 i3 i4 i5) (own_v0_58 i0 i1 i2 i3 i4 i5) (own_j0_170_L13 i0 i1 i2 i3 i4 i5) ((own_draw i0).toInt8.toInt32) ((own_draw i1).toInt8.toInt32) ((own_draw i2).toInt8.toInt32) ((own_draw i3).toInt8.toInt32)) + (own_brk1 (own_v0_45 i0 i1 i2 i3 i4 i5) (own_v0_58 i0 i1 i2 i3 i4 i5) (own_j0_170_L13 i0 i1 i2 i3 i4 i5) ((own_draw i0).toInt8.toInt32) ((own_draw i1).toInt8.toInt32) ((own_draw i2).toInt8.toInt32) ((own_draw i3).toInt8.toInt32))) + (own_brk2 (own_v0_45 i0 i1 i2 i3 i4 i5) (own_v0_58 i0 i1 i2 i3 i4 i5) (own_j0_170_L13 i0 i1 i2 i3 i4 i5) ((own_draw i0).toInt8.toInt32) ((own_draw i1).toInt8.toInt32) ((own_draw i2).toInt8.toInt32) ((own_draw i3).toInt8.toInt32))))]) (lenOf own_pd7 rfl) rfl (by show 2 * 0 + _ ≤ _; exact Nat.le_of_eq rfl) (hb hby at_224) (fun _ _ => ⟨rfl, e33, (by decide : 2 + 0 ≤ _), (by decide : 7 + 0 ≤ _)⟩)
        dsimp only [Pt.U, Pt.locs, Pt.cells, Pt.slots] at X34 l34 y34 z34 st34 hQ34
        subst l34 y34 z34
        obtain ⟨rfl, N34q, e34⟩ := hQ34
        have N34 := Fr.app N33 N34q
        refine ownE.go (T' := T34) (f' := (mkF m 227 #[.val (.int i0), .val (.int i1), .val (.int i2), .val (.int i3), .val (.int i4), .val (.int i5), .val (.ref b1), .val (.int (own_v0_45 i0 i1 i2 i3 i4 i5)), .val (.int (own_v0_58 i0 i1 i2 i3 i4 i5)), .val (.int (i5 &&& (3 : Int32))), .val (.int (own_j0_78_S0 i0 i1 i2 i3 i4 i5)), .val (.int (own_v0_84 i0 i1 i2 i3 i4 i5)), .val (.ref b13), .val (.int (own_j0_170_L13 i0 i1 i2 i3 i4 i5)), .val (.int (own_cnt (own_j0_170_count i0 i1 i2 i3 i4 i5))), .unset, .unset, .unset, .unset] [(.int (own_brk3 (own_v0_45 i0 i1 i2 i3 i4 i5) (own_v0_58 i0 i1 i2 i3 i4 i5) (own_j0_170_L13 i0 i1 i2 i3 i4 i5) ((own_draw i0).toInt8.toInt32) ((own_draw i1).toInt8.toInt32) ((own_draw i2).toInt8.toInt32) ((own_draw i3).toInt8.toInt32))), (.int (((own_brk0 (own_v0_45 i0 i1 i2 i3 i4 i5) (own_v0_58 i0 i1 i2 i3 i4 i5) (own_j0_170_L13 i0 i1 i2 i3 i4 i5) ((own_draw i0).toInt8.toInt32) ((own_draw i1).toInt8.toInt32) ((own_draw i2).toInt8.toInt32) ((own_draw i3).toInt8.toInt32)) + (own_brk1 (own_v0_45 i0 i1 i2 i3 i4 i5) (own_v0_58 i0 i1 i2 i3 i4 i5) (own_j0_170_L13 i0 i1 i2 i3 i4 i5) ((own_draw i0).toInt8.toInt32) ((own_draw i1).toInt8.toInt32) ((own_draw i2).toInt8.toInt32) ((own_draw i3).toInt8.toInt32))) + (own_brk2 (own_v0_45 i0 i1 i2 i3 i4 i5) (own_v0_58 i0 i1 i2 i3 i4 i5) (own_j0_170_L13 i0 i1 i2 i3 i4 i5) ((own_draw i0).toInt8.toInt32) ((own_draw i1).toInt8.toInt32) ((own_draw i2).toInt8.toInt32) ((own_draw i3).toInt8.toInt32))))])) st34 ?_
        refine ownE.go (T' := T34) (f' := (mkF m 230 #[.val (.int i0), .val (.int i1), .val (.int i2), .val (.int i3), .val (.int i4), .val (.int i5), .val (.ref b1), .val (.int (own_v0_45 i0 i1 i2 i3 i4 i5)), .val (.int (own_v0_58 i0 i1 i2 i3 i4 i5)), .val (.int (i5 &&& (3 : Int32))), .val (.int (own_j0_78_S0 i0 i1 i2 i3 i4 i5)), .val (.int (own_v0_84 i0 i1 i2 i3 i4 i5)), .val (.ref b13), .val (.int (own_j0_170_L13 i0 i1 i2 i3 i4 i5)), .val (.int (own_cnt (own_j0_170_count i0 i1 i2 i3 i4 i5))), .val (.int (own_v0_228 i0 i1 i2 i3 i4 i5)), .unset, .unset, .unset] [])) (fun t kt => ?_) ?_
        · show Steps p.tables e below (T34.setTop (mkF m 227 #[.val (.int i0), .val (.int i1), .val (.int i2), .val (.int i3), .val (.int i4), .val (.int i5), .val (.ref b1), .val (.int (own_v0_45 i0 i1 i2 i3 i4 i5)), .val (.int (own_v0_58 i0 i1 i2 i3 i4 i5)), .val (.int (i5 &&& (3 : Int32))), .val (.int (own_j0_78_S0 i0 i1 i2 i3 i4 i5)), .val (.int (own_v0_84 i0 i1 i2 i3 i4 i5)), .val (.ref b13), .val (.int (own_j0_170_L13 i0 i1 i2 i3 i4 i5)), .val (.int (own_cnt (own_j0_170_count i0 i1 i2 i3 i4 i5))), .unset, .unset, .unset, .unset] [(.int (own_brk3 (own_v0_45 i0 i1 i2 i3 i4 i5) (own_v0_58 i0 i1 i2 i3 i4 i5) (own_j0_170_L13 i0 i1 i2 i3 i4 i5) ((own_draw i0).toInt8.toInt32) ((own_draw i1).toInt8.toInt32) ((own_draw i2).toInt8.toInt32) ((own_draw i3).toInt8.toInt32))), (.int (((own_brk0 (own_v0_45 i0 i1 i2 i3 i4 i5) (own_v0_58 i0 i1 i2 i3 i4 i5) (own_j0_170_L13 i0 i1 i2 i3 i4 i5) ((own_draw i0).toInt8.toInt32) ((own_draw i1).toInt8.toInt32) ((own_draw i2).toInt8.toInt32) ((own_draw i3).toInt8.toInt32)) + (own_brk1 (own_v0_45 i0 i1 i2 i3 i4 i5) (own_v0_58 i0 i1 i2 i3 i4 i5) (own_j0_170_L13 i0 i1 i2 i3 i4 i5) ((own_draw i0).toInt8.toInt32) ((own_draw i1).toInt8.toInt32) ((own_draw i2).toInt8.toInt32) ((own_draw i3).toInt8.toInt32))) + (own_brk2 (own_v0_45 i0 i1 i2 i3 i4 i5) (own_v0_58 i0 i1 i2 i3 i4 i5) (own_j0_170_L13 i0 i1 i2 i3 i4 i5) ((own_draw i0).toInt8.toInt32) ((own_draw i1).toInt8.toInt32) ((own_draw i2).toInt8.toInt32) ((own_draw i3).toInt8.toInt32))))])) _
          refine XS.iadd X34.here hx rfl (hb hby at_227) rfl ?_
          show Steps p.tables e below (T34.setTop (mkF m 228 #[.val (.int i0), .val (.int i1), .val (.int i2), .val (.int i3), .val (.int i4), .val (.int i5), .val (.ref b1), .val (.int (own_v0_45 i0 i1 i2 i3 i4 i5)), .val (.int (own_v0_58 i0 i1 i2 i3 i4 i5)), .val (.int (i5 &&& (3 : Int32))), .val (.int (own_j0_78_S0 i0 i1 i2 i3 i4 i5)), .val (.int (own_v0_84 i0 i1 i2 i3 i4 i5)), .val (.ref b13), .val (.int (own_j0_170_L13 i0 i1 i2 i3 i4 i5)), .val (.int (own_cnt (own_j0_170_count i0 i1 i2 i3 i4 i5))), .unset, .unset, .unset, .unset] [(.int ((((own_brk0 (own_v0_45 i0 i1 i2 i3 i4 i5) (own_v0_58 i0 i1 i2 i3 i4 i5) (own_j0_170_L13 i0 i1 i2 i3 i4 i5) ((own_draw i0).toInt8.toInt32) ((own_draw i1).toInt8.toInt32) ((own_draw i2).toInt8.toInt32) ((own_draw i3).toInt8.toInt32)) + (own_brk1 (own_v0_45 i0 i1 i2 i3 i4 i5) (own_v0_58 i0 i1 i2 i3 i4 i5) (own_j0_170_L13 i0 i1 i2 i3 i4 i5) ((own_draw i0).toInt8.toInt32) ((own_draw i1).toInt8.toInt32) ((own_draw i2).toInt8.toInt32) ((own_draw i3).toInt8.toInt32))) + (own_brk2 (own_v0_45 i0 i1 i2 i3 i4 i5) (own_v0_58 i0 i1 i2 i3 i4 i5) (own_j0_170_L13 i0 i1 i2 i3 i4 i5) ((own_draw i0).toInt8.toInt32) ((own_draw i1).toInt8.toInt32) ((own_draw i2).toInt8.toInt32) ((own_draw i3).toInt8.toInt32))) + (own_brk3 (own_v0_45 i0 i1 i2 i3 i4 i5) (own_v0_58 i0 i1 i2 i3 i4 i5) (own_j0_170_L13 i0 i1 i2 i3 i4 i5) ((own_draw i0).toInt8.toInt32) ((own_draw i1).toInt8.toInt32) ((own_draw i2).toInt8.toInt32) ((own_draw i3).toInt8.toInt32))))])) _
          refine XS.istore X34.here hx rfl (hb hby at_228) rfl (l' := #[.val (.int i0), .val (.int i1), .val (.int i2), .val (.int i3), .val (.int i4), .val (.int i5), .val (.ref b1), .val (.int (own_v0_45 i0 i1 i2 i3 i4 i5)), .val (.int (own_v0_58 i0 i1 i2 i3 i4 i5)), .val (.int (i5 &&& (3 : Int32))), .val (.int (own_j0_78_S0 i0 i1 i2 i3 i4 i5)), .val (.int (own_v0_84 i0 i1 i2 i3 i4 i5)), .val (.ref b13), .val (.int (own_j0_170_L13 i0 i1 i2 i3 i4 i5)), .val (.int (own_cnt (own_j0_170_count i0 i1 i2 i3 i4 i5))), .val (.int (own_v0_228 i0 i1 i2 i3 i4 i5)), .unset, .unset, .unset]) rfl ?_
          exact kt
        have J39 : ∀ (TJ39 : State) (locsJ39 : List Loc), Stand p l e room_1 s m #[(.int i0), (.int i1), (.int i2), (.int i3), (.int i4), (.int i5)] below meth c TJ39 locsJ39 2 7 → TJ39.heap = hJ29 → Fr n0 locsJ39 → ownE p e below s (own_Q0 Z i0 i1 i2 i3 i4 i5 h0 n0) 2 7 TJ39 (mkF m 259 #[.val (.int i0), .val (.int i1), .val (.int i2), .val (.int i3), .val (.int i4), .val (.int i5), .val (.ref b1), .val (.int (own_v0_45 i0 i1 i2 i3 i4 i5)), .val (.int (own_v0_58 i0 i1 i2 i3 i4 i5)), .val (.int (i5 &&& (3 : Int32))), .val (.int (own_j0_78_S0 i0 i1 i2 i3 i4 i5)), .val (.int (own_v0_84 i0 i1 i2 i3 i4 i5)), .val (.ref b13), .val (.int (own_j0_170_L13 i0 i1 i2 i3 i4 i5)), .val (.int (own_cnt (own_j0_170_count i0 i1 i2 i3 i4 i5))), .val (.int (own_v0_228 i0 i1 i2 i3 i4 i5)), .unset, .unset, .unset] [(.int (own_j0_259_S0 i0 i1 i2 i3 i4 i5))]) := by
          intro TJ39 locsJ39 XJ39 eJ39 NJ39
          refine ownE.go (T' := TJ39) (f' := (mkF m 269 #[.val (.int i0), .val (.int i1), .val (.int i2), .val (.int i3), .val (.int i4), .val (.int i5), .val (.ref b1), .val (.int (own_v0_45 i0 i1 i2 i3 i4 i5)), .val (.int (own_v0_58 i0 i1 i2 i3 i4 i5)), .val (.int (i5 &&& (3 : Int32))), .val (.int (own_j0_78_S0 i0 i1 i2 i3 i4 i5)), .val (.int (own_v0_84 i0 i1 i2 i3 i4 i5)), .val (.ref b13), .val (.int (own_j0_170_L13 i0 i1 i2 i3 i4 i5)), .val (.int (own_cnt (own_j0_170_count i0 i1 i2 i3 i4 i5))), .val (.int (own_v0_228 i0 i1 i2 i3 i4 i5)), .val (.int (own_j0_259_S0 i0 i1 i2 i3 i4 i5)), .unset, .unset] [(.int (own_v0_58 i0 i1 i2 i3 i4 i5)), (.int (own_v0_45 i0 i1 i2 i3 i4 i5)), (.ref b1), (.ref b13)])) (fun t kt => ?_) ?_
          · show Steps p.tables e below (TJ39.setTop (mkF m 259 #[.val (.int i0), .val (.int i1), .val (.int i2), .val (.int i3), .val (.int i4), .val (.int i5), .val (.ref b1), .val (.int (own_v0_45 i0 i1 i2 i3 i4 i5)), .val (.int (own_v0_58 i0 i1 i2 i3 i4 i5)), .val (.int (i5 &&& (3 : Int32))), .val (.int (own_j0_78_S0 i0 i1 i2 i3 i4 i5)), .val (.int (own_v0_84 i0 i1 i2 i3 i4 i5)), .val (.ref b13), .val (.int (own_j0_170_L13 i0 i1 i2 i3 i4 i5)), .val (.int (own_cnt (own_j0_170_count i0 i1 i2 i3 i4 i5))), .val (.int (own_v0_228 i0 i1 i2 i3 i4 i5)), .unset, .unset, .unset] [(.int (own_j0_259_S0 i0 i1 i2 i3 i4 i5))])) _
            refine XS.istore XJ39.here hx rfl (hb hby at_259) rfl (l' := #[.val (.int i0), .val (.int i1), .val (.int i2), .val (.int i3), .val (.int i4), .val (.int i5), .val (.ref b1), .val (.int (own_v0_45 i0 i1 i2 i3 i4 i5)), .val (.int (own_v0_58 i0 i1 i2 i3 i4 i5)), .val (.int (i5 &&& (3 : Int32))), .val (.int (own_j0_78_S0 i0 i1 i2 i3 i4 i5)), .val (.int (own_v0_84 i0 i1 i2 i3 i4 i5)), .val (.ref b13), .val (.int (own_j0_170_L13 i0 i1 i2 i3 i4 i5)), .val (.int (own_cnt (own_j0_170_count i0 i1 i2 i3 i4 i5))), .val (.int (own_v0_228 i0 i1 i2 i3 i4 i5)), .val (.int (own_j0_259_S0 i0 i1 i2 i3 i4 i5)), .unset, .unset]) rfl ?_
            show Steps p.tables e below (TJ39.setTop (mkF m 261 #[.val (.int i0), .val (.int i1), .val (.int i2), .val (.int i3), .val (.int i4), .val (.int i5), .val (.ref b1), .val (.int (own_v0_45 i0 i1 i2 i3 i4 i5)), .val (.int (own_v0_58 i0 i1 i2 i3 i4 i5)), .val (.int (i5 &&& (3 : Int32))), .val (.int (own_j0_78_S0 i0 i1 i2 i3 i4 i5)), .val (.int (own_v0_84 i0 i1 i2 i3 i4 i5)), .val (.ref b13), .val (.int (own_j0_170_L13 i0 i1 i2 i3 i4 i5)), .val (.int (own_cnt (own_j0_170_count i0 i1 i2 i3 i4 i5))), .val (.int (own_v0_228 i0 i1 i2 i3 i4 i5)), .val (.int (own_j0_259_S0 i0 i1 i2 i3 i4 i5)), .unset, .unset] [])) _
            refine XS.aload XJ39.here hx rfl (hb hby at_261) rfl rfl ?_
            show Steps p.tables e below (TJ39.setTop (mkF m 263 #[.val (.int i0), .val (.int i1), .val (.int i2), .val (.int i3), .val (.int i4), .val (.int i5), .val (.ref b1), .val (.int (own_v0_45 i0 i1 i2 i3 i4 i5)), .val (.int (own_v0_58 i0 i1 i2 i3 i4 i5)), .val (.int (i5 &&& (3 : Int32))), .val (.int (own_j0_78_S0 i0 i1 i2 i3 i4 i5)), .val (.int (own_v0_84 i0 i1 i2 i3 i4 i5)), .val (.ref b13), .val (.int (own_j0_170_L13 i0 i1 i2 i3 i4 i5)), .val (.int (own_cnt (own_j0_170_count i0 i1 i2 i3 i4 i5))), .val (.int (own_v0_228 i0 i1 i2 i3 i4 i5)), .val (.int (own_j0_259_S0 i0 i1 i2 i3 i4 i5)), .unset, .unset] [(.ref b13)])) _
            refine XS.aload XJ39.here hx rfl (hb hby at_263) rfl rfl ?_
            show Steps p.tables e below (TJ39.setTop (mkF m 265 #[.val (.int i0), .val (.int i1), .val (.int i2), .val (.int i3), .val (.int i4), .val (.int i5), .val (.ref b1), .val (.int (own_v0_45 i0 i1 i2 i3 i4 i5)), .val (.int (own_v0_58 i0 i1 i2 i3 i4 i5)), .val (.int (i5 &&& (3 : Int32))), .val (.int (own_j0_78_S0 i0 i1 i2 i3 i4 i5)), .val (.int (own_v0_84 i0 i1 i2 i3 i4 i5)), .val (.ref b13), .val (.int (own_j0_170_L13 i0 i1 i2 i3 i4 i5)), .val (.int (own_cnt (own_j0_170_count i0 i1 i2 i3 i4 i5))), .val (.int (own_v0_228 i0 i1 i2 i3 i4 i5)), .val (.int (own_j0_259_S0 i0 i1 i2 i3 i4 i5)), .unset, .unset] [(.ref b1), (.ref b13)])) _
            refine XS.iload XJ39.here hx rfl (hb hby at_265) rfl ?_
            show Steps p.tables e below (TJ39.setTop (mkF m 267 #[.val (.int i0), .val (.int i1), .val (.int i2), .val (.int i3), .val (.int i4), .val (.int i5), .val (.ref b1), .val (.int (own_v0_45 i0 i1 i2 i3 i4 i5)), .val (.int (own_v0_58 i0 i1 i2 i3 i4 i5)), .val (.int (i5 &&& (3 : Int32))), .val (.int (own_j0_78_S0 i0 i1 i2 i3 i4 i5)), .val (.int (own_v0_84 i0 i1 i2 i3 i4 i5)), .val (.ref b13), .val (.int (own_j0_170_L13 i0 i1 i2 i3 i4 i5)), .val (.int (own_cnt (own_j0_170_count i0 i1 i2 i3 i4 i5))), .val (.int (own_v0_228 i0 i1 i2 i3 i4 i5)), .val (.int (own_j0_259_S0 i0 i1 i2 i3 i4 i5)), .unset, .unset] [(.int (own_v0_45 i0 i1 i2 i3 i4 i5)), (.ref b1), (.ref b13)])) _
            refine XS.iload XJ39.here hx rfl (hb hby at_267) rfl ?_
            exact kt
          obtain ⟨cq40, kq40, q40a, q40b, q40c⟩ := isOf hZ eJ39 J29_cExa_b13_j
          obtain ⟨_, _, ⟨T40, L40, k40, n40⟩, -, X40, ⟨Lc40, hQ40, l40, y40, z40⟩, st40⟩ := XJ39.virtualBack hx (y := (⟨"traceward/schema/LineBreaks", "take", "([BII)V"⟩ : MethodName)) (z := (⟨"traceward/schema/LineBreaks", "take", "([BII)V"⟩ : MethodName)) hown (mvT hZ (hw _ (List.mem_of_getElem? (i := 36) rfl))) (mvT hZ (hw _ (List.mem_of_getElem? (i := 37) rfl))) (notFace_of_selects (args := #[]) (mvT hZ (hw _ (List.mem_of_getElem? (i := 39) rfl)))) (mvT hZ (hw _ (List.mem_of_getElem? (i := 39) rfl))) (mvT hZ (hw _ (List.mem_of_getElem? (i := 38) rfl))) (by decide) (backOf (W := 0) (own_rm8 l Z a0 hw [] b13 b1 (own_v0_45 i0 i1 i2 i3 i4 i5) (own_v0_58 i0 i1 i2 i3 i4 i5) (own_j0_170_count i0 i1 i2 i3 i4 i5) (own_j0_170_afterCarriageReturn i0 i1 i2 i3 i4 i5) (own_j0_105_xml11 i0 i1 i2 i3 i4 i5) k1 ((own_draw i0).toInt8.toInt32) ((own_draw i1).toInt8.toInt32) ((own_draw i2).toInt8.toInt32) ((own_draw i3).toInt8.toInt32) hJ29 n0 (Nat.le_trans Z0 KJ29.1) J29_cFld_b13_count_j J29_cFld_b13_afterCarriageReturn_j J29_cFld_b13_xml11_j J29_cExa_b13_j ge_b13 J29_cArv_b1_j (Ne.symm ne_b1_b13) (own_m5 i4).1 (own_m5 ((i4.toUInt32 >>> ((8 : Int32) &&& 31).toUInt32).toInt32)).2) hZ (hw _ (List.mem_of_getElem? (i := 40) rfl)) (hw _ (List.mem_of_getElem? (i := 7) rfl)) (by decide) (by decide)) q40a q40c (g := (mkF m 269 #[.val (.int i0), .val (.int i1), .val (.int i2), .val (.int i3), .val (.int i4), .val (.int i5), .val (.ref b1), .val (.int (own_v0_45 i0 i1 i2 i3 i4 i5)), .val (.int (own_v0_58 i0 i1 i2 i3 i4 i5)), .val (.int (i5 &&& (3 : Int32))), .val (.int (own_j0_78_S0 i0 i1 i2 i3 i4 i5)), .val (.int (own_v0_84 i0 i1 i2 i3 i4 i5)), .val (.ref b13), .val (.int (own_j0_170_L13 i0 i1 i2 i3 i4 i5)), .val (.int (own_cnt (own_j0_170_count i0 i1 i2 i3 i4 i5))), .val (.int (own_v0_228 i0 i1 i2 i3 i4 i5)), .val (.int (own_j0_259_S0 i0 i1 i2 i3 i4 i5)), .unset, .unset] [(.int (own_v0_58 i0 i1 i2 i3 i4 i5)), (.int (own_v0_45 i0 i1 i2 i3 i4 i5)), (.ref b1), (.ref b13)])) rfl (by rw [hml]; rfl) (Steps.refl _) (argsL := [(.ref b1), (.int (own_v0_45 i0 i1 i2 i3 i4 i5)), (.int (own_v0_58 i0 i1 i2 i3 i4 i5))]) (rest := []) (lenOf own_pd8 rfl) rfl (by show 2 * 0 + _ ≤ _; exact Nat.le_of_eq rfl) (hb hby at_269) (fun _ _ => ⟨rfl, eJ39, (by decide : 2 + 0 ≤ _), (by decide : 7 + 0 ≤ _)⟩)
          dsimp only [Pt.U, Pt.locs, Pt.cells, Pt.slots] at X40 l40 y40 z40 st40 hQ40
          subst l40 y40 z40
          obtain ⟨rfl, N40q, K40q, f40_0, f40_1, f40_2, f40_3⟩ := hQ40
          have cArv_b1_40 : Arv Z T40.heap b1 k1 .byte (4 : Int32) [(.int ((own_draw i0).toInt8.toInt32)), (.int ((own_draw i1).toInt8.toInt32)), (.int ((own_draw i2).toInt8.toInt32)), (.int ((own_draw i3).toInt8.toInt32))] (.int (0 : Int32)) := J29_cArv_b1_j.keep K40q (ninS ne_b1_b13 nin0)
          have cExa_b13_40 : Exa Z T40.heap b13 "traceward/schema/LineBreaks" := J29_cExa_b13_j.keep K40q
          have K40 : Keep h0 T40.heap [] := KJ29.trans K40q (allS (Or.inr sz_b13) all0)
          have N40 := Fr.app NJ39 N40q
          refine ownE.goS (T' := T40) (f' := (mkF m 272 #[.val (.int i0), .val (.int i1), .val (.int i2), .val (.int i3), .val (.int i4), .val (.int i5), .val (.ref b1), .val (.int (own_v0_45 i0 i1 i2 i3 i4 i5)), .val (.int (own_v0_58 i0 i1 i2 i3 i4 i5)), .val (.int (i5 &&& (3 : Int32))), .val (.int (own_j0_78_S0 i0 i1 i2 i3 i4 i5)), .val (.int (own_v0_84 i0 i1 i2 i3 i4 i5)), .val (.ref b13), .val (.int (own_j0_170_L13 i0 i1 i2 i3 i4 i5)), .val (.int (own_cnt (own_j0_170_count i0 i1 i2 i3 i4 i5))), .val (.int (own_v0_228 i0 i1 i2 i3 i4 i5)), .val (.int (own_j0_259_S0 i0 i1 i2 i3 i4 i5)), .unset, .unset] [])) st40 ?_
          refine ownE.go (T' := T40) (f' := (mkF m 274 #[.val (.int i0), .val (.int i1), .val (.int i2), .val (.int i3), .val (.int i4), .val (.int i5), .val (.ref b1), .val (.int (own_v0_45 i0 i1 i2 i3 i4 i5)), .val (.int (own_v0_58 i0 i1 i2 i3 i4 i5)), .val (.int (i5 &&& (3 : Int32))), .val (.int (own_j0_78_S0 i0 i1 i2 i3 i4 i5)), .val (.int (own_v0_84 i0 i1 i2 i3 i4 i5)), .val (.ref b13), .val (.int (own_j0_170_L13 i0 i1 i2 i3 i4 i5)), .val (.int (own_cnt (own_j0_170_count i0 i1 i2 i3 i4 i5))), .val (.int (own_v0_228 i0 i1 i2 i3 i4 i5)), .val (.int (own_j0_259_S0 i0 i1 i2 i3 i4 i5)), .unset, .unset] [(.ref b13)])) (fun t kt => ?_) ?_
          · show Steps p.tables e below (T40.setTop (mkF m 272 #[.val (.int i0), .val (.int i1), .val (.int i2), .val (.int i3), .val (.int i4), .val (.int i5), .val (.ref b1), .val (.int (own_v0_45 i0 i1 i2 i3 i4 i5)), .val (.int (own_v0_58 i0 i1 i2 i3 i4 i5)), .val (.int (i5 &&& (3 : Int32))), .val (.int (own_j0_78_S0 i0 i1 i2 i3 i4 i5)), .val (.int (own_v0_84 i0 i1 i2 i3 i4 i5)), .val (.ref b13), .val (.int (own_j0_170_L13 i0 i1 i2 i3 i4 i5)), .val (.int (own_cnt (own_j0_170_count i0 i1 i2 i3 i4 i5))), .val (.int (own_v0_228 i0 i1 i2 i3 i4 i5)), .val (.int (own_j0_259_S0 i0 i1 i2 i3 i4 i5)), .unset, .unset] [])) _
            refine XS.aload X40.here hx rfl (hb hby at_272) rfl rfl ?_
            exact kt
          obtain ⟨cq41, kq41, q41a, q41b, q41c⟩ := isOf hZ rfl f40_0
          obtain ⟨_, _, ⟨T41, L41, k41, n41⟩, -, X41, ⟨Lc41, hQ41, l41, y41, z41⟩, st41⟩ := X40.virtualBack hx (y := (⟨"traceward/schema/LineBreaks", "count", "()I"⟩ : MethodName)) (z := (⟨"traceward/schema/LineBreaks", "count", "()I"⟩ : MethodName)) hown (mvT hZ (hw _ (List.mem_of_getElem? (i := 26) rfl))) (mvT hZ (hw _ (List.mem_of_getElem? (i := 27) rfl))) (notFace_of_selects (args := #[]) (mvT hZ (hw _ (List.mem_of_getElem? (i := 29) rfl)))) (mvT hZ (hw _ (List.mem_of_getElem? (i := 29) rfl))) (mvT hZ (hw _ (List.mem_of_getElem? (i := 28) rfl))) (by decide) (backOf (W := 0) (own_rm6 l Z a0 hw [] b13 ((own_tl (own_v0_45 i0 i1 i2 i3 i4 i5) (own_v0_58 i0 i1 i2 i3 i4 i5) (own_j0_170_count i0 i1 i2 i3 i4 i5) (own_j0_170_afterCarriageReturn i0 i1 i2 i3 i4 i5) (own_j0_105_xml11 i0 i1 i2 i3 i4 i5) ((own_draw i0).toInt8.toInt32) ((own_draw i1).toInt8.toInt32) ((own_draw i2).toInt8.toInt32) ((own_draw i3).toInt8.toInt32) 5 (own_j0_170_count i0 i1 i2 i3 i4 i5) (own_j0_170_afterCarriageReturn i0 i1 i2 i3 i4 i5) (own_v0_45 i0 i1 i2 i3 i4 i5)).1) T40.heap n0 (Nat.le_trans Z0 K40.1) f40_1) hZ (hw _ (List.mem_of_getElem? (i := 30) rfl)) (hw _ (List.mem_of_getElem? (i := 7) rfl)) (by decide) (by decide)) q41a q41c (g := (mkF m 274 #[.val (.int i0), .val (.int i1), .val (.int i2), .val (.int i3), .val (.int i4), .val (.int i5), .val (.ref b1), .val (.int (own_v0_45 i0 i1 i2 i3 i4 i5)), .val (.int (own_v0_58 i0 i1 i2 i3 i4 i5)), .val (.int (i5 &&& (3 : Int32))), .val (.int (own_j0_78_S0 i0 i1 i2 i3 i4 i5)), .val (.int (own_v0_84 i0 i1 i2 i3 i4 i5)), .val (.ref b13), .val (.int (own_j0_170_L13 i0 i1 i2 i3 i4 i5)), .val (.int (own_cnt (own_j0_170_count i0 i1 i2 i3 i4 i5))), .val (.int (own_v0_228 i0 i1 i2 i3 i4 i5)), .val (.int (own_j0_259_S0 i0 i1 i2 i3 i4 i5)), .unset, .unset] [(.ref b13)])) rfl (by rw [hml]; rfl) (Steps.refl _) (argsL := []) (rest := []) (lenOf own_pd6 rfl) rfl (by show 2 * 0 + _ ≤ _; exact Nat.le_of_eq rfl) (hb hby at_274) (fun _ _ => ⟨rfl, rfl, (by decide : 2 + 0 ≤ _), (by decide : 7 + 0 ≤ _)⟩)
          dsimp only [Pt.U, Pt.locs, Pt.cells, Pt.slots] at X41 l41 y41 z41 st41 hQ41
          subst l41 y41 z41
          obtain ⟨rfl, N41q, e41⟩ := hQ41
          have N41 := Fr.app N40 N41q
          refine ownE.goS (T' := T41) (f' := (mkF m 277 #[.val (.int i0), .val (.int i1), .val (.int i2), .val (.int i3), .val (.int i4), .val (.int i5), .val (.ref b1), .val (.int (own_v0_45 i0 i1 i2 i3 i4 i5)), .val (.int (own_v0_58 i0 i1 i2 i3 i4 i5)), .val (.int (i5 &&& (3 : Int32))), .val (.int (own_j0_78_S0 i0 i1 i2 i3 i4 i5)), .val (.int (own_v0_84 i0 i1 i2 i3 i4 i5)), .val (.ref b13), .val (.int (own_j0_170_L13 i0 i1 i2 i3 i4 i5)), .val (.int (own_cnt (own_j0_170_count i0 i1 i2 i3 i4 i5))), .val (.int (own_v0_228 i0 i1 i2 i3 i4 i5)), .val (.int (own_j0_259_S0 i0 i1 i2 i3 i4 i5)), .unset, .unset] [(.int (own_cnt ((own_tl (own_v0_45 i0 i1 i2 i3 i4 i5) (own_v0_58 i0 i1 i2 i3 i4 i5) (own_j0_170_count i0 i1 i2 i3 i4 i5) (own_j0_170_afterCarriageReturn i0 i1 i2 i3 i4 i5) (own_j0_105_xml11 i0 i1 i2 i3 i4 i5) ((own_draw i0).toInt8.toInt32) ((own_draw i1).toInt8.toInt32) ((own_draw i2).toInt8.toInt32) ((own_draw i3).toInt8.toInt32) 5 (own_j0_170_count i0 i1 i2 i3 i4 i5) (own_j0_170_afterCarriageReturn i0 i1 i2 i3 i4 i5) (own_v0_45 i0 i1 i2 i3 i4 i5)).1)))])) st41 ?_
          refine ownE.go (T' := T41) (f' := (mkF m 283 #[.val (.int i0), .val (.int i1), .val (.int i2), .val (.int i3), .val (.int i4), .val (.int i5), .val (.ref b1), .val (.int (own_v0_45 i0 i1 i2 i3 i4 i5)), .val (.int (own_v0_58 i0 i1 i2 i3 i4 i5)), .val (.int (i5 &&& (3 : Int32))), .val (.int (own_j0_78_S0 i0 i1 i2 i3 i4 i5)), .val (.int (own_v0_84 i0 i1 i2 i3 i4 i5)), .val (.ref b13), .val (.int (own_j0_170_L13 i0 i1 i2 i3 i4 i5)), .val (.int (own_cnt (own_j0_170_count i0 i1 i2 i3 i4 i5))), .val (.int (own_v0_228 i0 i1 i2 i3 i4 i5)), .val (.int (own_j0_259_S0 i0 i1 i2 i3 i4 i5)), .val (.int (own_cnt ((own_tl (own_v0_45 i0 i1 i2 i3 i4 i5) (own_v0_58 i0 i1 i2 i3 i4 i5) (own_j0_170_count i0 i1 i2 i3 i4 i5) (own_j0_170_afterCarriageReturn i0 i1 i2 i3 i4 i5) (own_j0_105_xml11 i0 i1 i2 i3 i4 i5) ((own_draw i0).toInt8.toInt32) ((own_draw i1).toInt8.toInt32) ((own_draw i2).toInt8.toInt32) ((own_draw i3).toInt8.toInt32) 5 (own_j0_170_count i0 i1 i2 i3 i4 i5) (own_j0_170_afterCarriageReturn i0 i1 i2 i3 i4 i5) (own_v0_45 i0 i1 i2 i3 i4 i5)).1))), .unset] [(.int (10 : Int32)), (.ref b13)])) (fun t kt => ?_) ?_
          · show Steps p.tables e below (T41.setTop (mkF m 277 #[.val (.int i0), .val (.int i1), .val (.int i2), .val (.int i3), .val (.int i4), .val (.int i5), .val (.ref b1), .val (.int (own_v0_45 i0 i1 i2 i3 i4 i5)), .val (.int (own_v0_58 i0 i1 i2 i3 i4 i5)), .val (.int (i5 &&& (3 : Int32))), .val (.int (own_j0_78_S0 i0 i1 i2 i3 i4 i5)), .val (.int (own_v0_84 i0 i1 i2 i3 i4 i5)), .val (.ref b13), .val (.int (own_j0_170_L13 i0 i1 i2 i3 i4 i5)), .val (.int (own_cnt (own_j0_170_count i0 i1 i2 i3 i4 i5))), .val (.int (own_v0_228 i0 i1 i2 i3 i4 i5)), .val (.int (own_j0_259_S0 i0 i1 i2 i3 i4 i5)), .unset, .unset] [(.int (own_cnt ((own_tl (own_v0_45 i0 i1 i2 i3 i4 i5) (own_v0_58 i0 i1 i2 i3 i4 i5) (own_j0_170_count i0 i1 i2 i3 i4 i5) (own_j0_170_afterCarriageReturn i0 i1 i2 i3 i4 i5) (own_j0_105_xml11 i0 i1 i2 i3 i4 i5) ((own_draw i0).toInt8.toInt32) ((own_draw i1).toInt8.toInt32) ((own_draw i2).toInt8.toInt32) ((own_draw i3).toInt8.toInt32) 5 (own_j0_170_count i0 i1 i2 i3 i4 i5) (own_j0_170_afterCarriageReturn i0 i1 i2 i3 i4 i5) (own_v0_45 i0 i1 i2 i3 i4 i5)).1)))])) _
            refine XS.istore X41.here hx rfl (hb hby at_277) rfl (l' := #[.val (.int i0), .val (.int i1), .val (.int i2), .val (.int i3), .val (.int i4), .val (.int i5), .val (.ref b1), .val (.int (own_v0_45 i0 i1 i2 i3 i4 i5)), .val (.int (own_v0_58 i0 i1 i2 i3 i4 i5)), .val (.int (i5 &&& (3 : Int32))), .val (.int (own_j0_78_S0 i0 i1 i2 i3 i4 i5)), .val (.int (own_v0_84 i0 i1 i2 i3 i4 i5)), .val (.ref b13), .val (.int (own_j0_170_L13 i0 i1 i2 i3 i4 i5)), .val (.int (own_cnt (own_j0_170_count i0 i1 i2 i3 i4 i5))), .val (.int (own_v0_228 i0 i1 i2 i3 i4 i5)), .val (.int (own_j0_259_S0 i0 i1 i2 i3 i4 i5)), .val (.int (own_cnt ((own_tl (own_v0_45 i0 i1 i2 i3 i4 i5) (own_v0_58 i0 i1 i2 i3 i4 i5) (own_j0_170_count i0 i1 i2 i3 i4 i5) (own_j0_170_afterCarriageReturn i0 i1 i2 i3 i4 i5) (own_j0_105_xml11 i0 i1 i2 i3 i4 i5) ((own_draw i0).toInt8.toInt32) ((own_draw i1).toInt8.toInt32) ((own_draw i2).toInt8.toInt32) ((own_draw i3).toInt8.toInt32) 5 (own_j0_170_count i0 i1 i2 i3 i4 i5) (own_j0_170_afterCarriageReturn i0 i1 i2 i3 i4 i5) (own_v0_45 i0 i1 i2 i3 i4 i5)).1))), .unset]) rfl ?_
            show Steps p.tables e below (T41.setTop (mkF m 279 #[.val (.int i0), .val (.int i1), .val (.int i2), .val (.int i3), .val (.int i4), .val (.int i5), .val (.ref b1), .val (.int (own_v0_45 i0 i1 i2 i3 i4 i5)), .val (.int (own_v0_58 i0 i1 i2 i3 i4 i5)), .val (.int (i5 &&& (3 : Int32))), .val (.int (own_j0_78_S0 i0 i1 i2 i3 i4 i5)), .val (.int (own_v0_84 i0 i1 i2 i3 i4 i5)), .val (.ref b13), .val (.int (own_j0_170_L13 i0 i1 i2 i3 i4 i5)), .val (.int (own_cnt (own_j0_170_count i0 i1 i2 i3 i4 i5))), .val (.int (own_v0_228 i0 i1 i2 i3 i4 i5)), .val (.int (own_j0_259_S0 i0 i1 i2 i3 i4 i5)), .val (.int (own_cnt ((own_tl (own_v0_45 i0 i1 i2 i3 i4 i5) (own_v0_58 i0 i1 i2 i3 i4 i5) (own_j0_170_count i0 i1 i2 i3 i4 i5) (own_j0_170_afterCarriageReturn i0 i1 i2 i3 i4 i5) (own_j0_105_xml11 i0 i1 i2 i3 i4 i5) ((own_draw i0).toInt8.toInt32) ((own_draw i1).toInt8.toInt32) ((own_draw i2).toInt8.toInt32) ((own_draw i3).toInt8.toInt32) 5 (own_j0_170_count i0 i1 i2 i3 i4 i5) (own_j0_170_afterCarriageReturn i0 i1 i2 i3 i4 i5) (own_v0_45 i0 i1 i2 i3 i4 i5)).1))), .unset] [])) _
            refine XS.aload X41.here hx rfl (hb hby at_279) rfl rfl ?_
            show Steps p.tables e below (T41.setTop (mkF m 281 #[.val (.int i0), .val (.int i1), .val (.int i2), .val (.int i3), .val (.int i4), .val (.int i5), .val (.ref b1), .val (.int (own_v0_45 i0 i1 i2 i3 i4 i5)), .val (.int (own_v0_58 i0 i1 i2 i3 i4 i5)), .val (.int (i5 &&& (3 : Int32))), .val (.int (own_j0_78_S0 i0 i1 i2 i3 i4 i5)), .val (.int (own_v0_84 i0 i1 i2 i3 i4 i5)), .val (.ref b13), .val (.int (own_j0_170_L13 i0 i1 i2 i3 i4 i5)), .val (.int (own_cnt (own_j0_170_count i0 i1 i2 i3 i4 i5))), .val (.int (own_v0_228 i0 i1 i2 i3 i4 i5)), .val (.int (own_j0_259_S0 i0 i1 i2 i3 i4 i5)), .val (.int (own_cnt ((own_tl (own_v0_45 i0 i1 i2 i3 i4 i5) (own_v0_58 i0 i1 i2 i3 i4 i5) (own_j0_170_count i0 i1 i2 i3 i4 i5) (own_j0_170_afterCarriageReturn i0 i1 i2 i3 i4 i5) (own_j0_105_xml11 i0 i1 i2 i3 i4 i5) ((own_draw i0).toInt8.toInt32) ((own_draw i1).toInt8.toInt32) ((own_draw i2).toInt8.toInt32) ((own_draw i3).toInt8.toInt32) 5 (own_j0_170_count i0 i1 i2 i3 i4 i5) (own_j0_170_afterCarriageReturn i0 i1 i2 i3 i4 i5) (own_v0_45 i0 i1 i2 i3 i4 i5)).1))), .unset] [(.ref b13)])) _
            refine XS.bipush X41.here hx rfl (hb hby at_281) ?_
            exact kt
          obtain ⟨cq42, kq42, q42a, q42b, q42c⟩ := isOf hZ e41 f40_0
          obtain ⟨_, _, ⟨T42, L42, k42, n42⟩, -, X42, ⟨Lc42, hQ42, l42, y42, z42⟩, st42⟩ := X41.virtualBack hx (y := (⟨"traceward/schema/LineBreaks", "take", "(I)V"⟩ : MethodName)) (z := (⟨"traceward/schema/LineBreaks", "take", "(I)V"⟩ : MethodName)) hown (mvT hZ (hw _ (List.mem_of_getElem? (i := 14) rfl))) (mvT hZ (hw _ (List.mem_of_getElem? (i := 15) rfl))) (notFace_of_selects (args := #[]) (mvT hZ (hw _ (List.mem_of_getElem? (i := 17) rfl)))) (mvT hZ (hw _ (List.mem_of_getElem? (i := 17) rfl))) (mvT hZ (hw _ (List.mem_of_getElem? (i := 16) rfl))) (by decide) (backOf (W := 0) (own_rm4 l Z a0 hw [] b13 (10 : Int32) ((own_tl (own_v0_45 i0 i1 i2 i3 i4 i5) (own_v0_58 i0 i1 i2 i3 i4 i5) (own_j0_170_count i0 i1 i2 i3 i4 i5) (own_j0_170_afterCarriageReturn i0 i1 i2 i3 i4 i5) (own_j0_105_xml11 i0 i1 i2 i3 i4 i5) ((own_draw i0).toInt8.toInt32) ((own_draw i1).toInt8.toInt32) ((own_draw i2).toInt8.toInt32) ((own_draw i3).toInt8.toInt32) 5 (own_j0_170_count i0 i1 i2 i3 i4 i5) (own_j0_170_afterCarriageReturn i0 i1 i2 i3 i4 i5) (own_v0_45 i0 i1 i2 i3 i4 i5)).1) ((own_tl (own_v0_45 i0 i1 i2 i3 i4 i5) (own_v0_58 i0 i1 i2 i3 i4 i5) (own_j0_170_count i0 i1 i2 i3 i4 i5) (own_j0_170_afterCarriageReturn i0 i1 i2 i3 i4 i5) (own_j0_105_xml11 i0 i1 i2 i3 i4 i5) ((own_draw i0).toInt8.toInt32) ((own_draw i1).toInt8.toInt32) ((own_draw i2).toInt8.toInt32) ((own_draw i3).toInt8.toInt32) 5 (own_j0_170_count i0 i1 i2 i3 i4 i5) (own_j0_170_afterCarriageReturn i0 i1 i2 i3 i4 i5) (own_v0_45 i0 i1 i2 i3 i4 i5)).2) (own_j0_105_xml11 i0 i1 i2 i3 i4 i5) T40.heap n0 (Nat.le_trans Z0 K40.1) f40_1 f40_2 f40_3 f40_0 ge_b13) hZ (hw _ (List.mem_of_getElem? (i := 18) rfl)) (hw _ (List.mem_of_getElem? (i := 7) rfl)) (by decide) (by decide)) q42a q42c (g := (mkF m 283 #[.val (.int i0), .val (.int i1), .val (.int i2), .val (.int i3), .val (.int i4), .val (.int i5), .val (.ref b1), .val (.int (own_v0_45 i0 i1 i2 i3 i4 i5)), .val (.int (own_v0_58 i0 i1 i2 i3 i4 i5)), .val (.int (i5 &&& (3 : Int32))), .val (.int (own_j0_78_S0 i0 i1 i2 i3 i4 i5)), .val (.int (own_v0_84 i0 i1 i2 i3 i4 i5)), .val (.ref b13), .val (.int (own_j0_170_L13 i0 i1 i2 i3 i4 i5)), .val (.int (own_cnt (own_j0_170_count i0 i1 i2 i3 i4 i5))), .val (.int (own_v0_228 i0 i1 i2 i3 i4 i5)), .val (.int (own_j0_259_S0 i0 i1 i2 i3 i4 i5)), .val (.int (own_cnt ((own_tl (own_v0_45 i0 i1 i2 i3 i4 i5) (own_v0_58 i0 i1 i2 i3 i4 i5) (own_j0_170_count i0 i1 i2 i3 i4 i5) (own_j0_170_afterCarriageReturn i0 i1 i2 i3 i4 i5) (own_j0_105_xml11 i0 i1 i2 i3 i4 i5) ((own_draw i0).toInt8.toInt32) ((own_draw i1).toInt8.toInt32) ((own_draw i2).toInt8.toInt32) ((own_draw i3).toInt8.toInt32) 5 (own_j0_170_count i0 i1 i2 i3 i4 i5) (own_j0_170_afterCarriageReturn i0 i1 i2 i3 i4 i5) (own_v0_45 i0 i1 i2 i3 i4 i5)).1))), .unset] [(.int (10 : Int32)), (.ref b13)])) rfl (by rw [hml]; rfl) (Steps.refl _) (argsL := [(.int (10 : Int32))]) (rest := []) (lenOf own_pd5 rfl) rfl (by show 2 * 0 + _ ≤ _; exact Nat.le_of_eq rfl) (hb hby at_283) (fun _ _ => ⟨rfl, e41, (by decide : 2 + 0 ≤ _), (by decide : 7 + 0 ≤ _)⟩)
          dsimp only [Pt.U, Pt.locs, Pt.cells, Pt.slots] at X42 l42 y42 z42 st42 hQ42
          subst l42 y42 z42
          obtain ⟨rfl, N42q, K42q, f42_0, f42_1, f42_2, f42_3⟩ := hQ42
          have cArv_b1_42 : Arv Z T42.heap b1 k1 .byte (4 : Int32) [(.int ((own_draw i0).toInt8.toInt32)), (.int ((own_draw i1).toInt8.toInt32)), (.int ((own_draw i2).toInt8.toInt32)), (.int ((own_draw i3).toInt8.toInt32))] (.int (0 : Int32)) := cArv_b1_40.keep K42q (ninS ne_b1_b13 nin0)
          have cExa_b13_42 : Exa Z T42.heap b13 "traceward/schema/LineBreaks" := f40_0.keep K42q
          have K42 : Keep h0 T42.heap [] := K40.trans K42q (allS (Or.inr sz_b13) all0)
          have N42 := Fr.app N41 N42q
          refine ownE.goS (T' := T42) (f' := (mkF m 286 #[.val (.int i0), .val (.int i1), .val (.int i2), .val (.int i3), .val (.int i4), .val (.int i5), .val (.ref b1), .val (.int (own_v0_45 i0 i1 i2 i3 i4 i5)), .val (.int (own_v0_58 i0 i1 i2 i3 i4 i5)), .val (.int (i5 &&& (3 : Int32))), .val (.int (own_j0_78_S0 i0 i1 i2 i3 i4 i5)), .val (.int (own_v0_84 i0 i1 i2 i3 i4 i5)), .val (.ref b13), .val (.int (own_j0_170_L13 i0 i1 i2 i3 i4 i5)), .val (.int (own_cnt (own_j0_170_count i0 i1 i2 i3 i4 i5))), .val (.int (own_v0_228 i0 i1 i2 i3 i4 i5)), .val (.int (own_j0_259_S0 i0 i1 i2 i3 i4 i5)), .val (.int (own_cnt ((own_tl (own_v0_45 i0 i1 i2 i3 i4 i5) (own_v0_58 i0 i1 i2 i3 i4 i5) (own_j0_170_count i0 i1 i2 i3 i4 i5) (own_j0_170_afterCarriageReturn i0 i1 i2 i3 i4 i5) (own_j0_105_xml11 i0 i1 i2 i3 i4 i5) ((own_draw i0).toInt8.toInt32) ((own_draw i1).toInt8.toInt32) ((own_draw i2).toInt8.toInt32) ((own_draw i3).toInt8.toInt32) 5 (own_j0_170_count i0 i1 i2 i3 i4 i5) (own_j0_170_afterCarriageReturn i0 i1 i2 i3 i4 i5) (own_v0_45 i0 i1 i2 i3 i4 i5)).1))), .unset] [])) st42 ?_
          refine ownE.go (T' := T42) (f' := (mkF m 288 #[.val (.int i0), .val (.int i1), .val (.int i2), .val (.int i3), .val (.int i4), .val (.int i5), .val (.ref b1), .val (.int (own_v0_45 i0 i1 i2 i3 i4 i5)), .val (.int (own_v0_58 i0 i1 i2 i3 i4 i5)), .val (.int (i5 &&& (3 : Int32))), .val (.int (own_j0_78_S0 i0 i1 i2 i3 i4 i5)), .val (.int (own_v0_84 i0 i1 i2 i3 i4 i5)), .val (.ref b13), .val (.int (own_j0_170_L13 i0 i1 i2 i3 i4 i5)), .val (.int (own_cnt (own_j0_170_count i0 i1 i2 i3 i4 i5))), .val (.int (own_v0_228 i0 i1 i2 i3 i4 i5)), .val (.int (own_j0_259_S0 i0 i1 i2 i3 i4 i5)), .val (.int (own_cnt ((own_tl (own_v0_45 i0 i1 i2 i3 i4 i5) (own_v0_58 i0 i1 i2 i3 i4 i5) (own_j0_170_count i0 i1 i2 i3 i4 i5) (own_j0_170_afterCarriageReturn i0 i1 i2 i3 i4 i5) (own_j0_105_xml11 i0 i1 i2 i3 i4 i5) ((own_draw i0).toInt8.toInt32) ((own_draw i1).toInt8.toInt32) ((own_draw i2).toInt8.toInt32) ((own_draw i3).toInt8.toInt32) 5 (own_j0_170_count i0 i1 i2 i3 i4 i5) (own_j0_170_afterCarriageReturn i0 i1 i2 i3 i4 i5) (own_v0_45 i0 i1 i2 i3 i4 i5)).1))), .unset] [(.ref b13)])) (fun t kt => ?_) ?_
          · show Steps p.tables e below (T42.setTop (mkF m 286 #[.val (.int i0), .val (.int i1), .val (.int i2), .val (.int i3), .val (.int i4), .val (.int i5), .val (.ref b1), .val (.int (own_v0_45 i0 i1 i2 i3 i4 i5)), .val (.int (own_v0_58 i0 i1 i2 i3 i4 i5)), .val (.int (i5 &&& (3 : Int32))), .val (.int (own_j0_78_S0 i0 i1 i2 i3 i4 i5)), .val (.int (own_v0_84 i0 i1 i2 i3 i4 i5)), .val (.ref b13), .val (.int (own_j0_170_L13 i0 i1 i2 i3 i4 i5)), .val (.int (own_cnt (own_j0_170_count i0 i1 i2 i3 i4 i5))), .val (.int (own_v0_228 i0 i1 i2 i3 i4 i5)), .val (.int (own_j0_259_S0 i0 i1 i2 i3 i4 i5)), .val (.int (own_cnt ((own_tl (own_v0_45 i0 i1 i2 i3 i4 i5) (own_v0_58 i0 i1 i2 i3 i4 i5) (own_j0_170_count i0 i1 i2 i3 i4 i5) (own_j0_170_afterCarriageReturn i0 i1 i2 i3 i4 i5) (own_j0_105_xml11 i0 i1 i2 i3 i4 i5) ((own_draw i0).toInt8.toInt32) ((own_draw i1).toInt8.toInt32) ((own_draw i2).toInt8.toInt32) ((own_draw i3).toInt8.toInt32) 5 (own_j0_170_count i0 i1 i2 i3 i4 i5) (own_j0_170_afterCarriageReturn i0 i1 i2 i3 i4 i5) (own_v0_45 i0 i1 i2 i3 i4 i5)).1))), .unset] [])) _
            refine XS.aload X42.here hx rfl (hb hby at_286) rfl rfl ?_
            exact kt
          obtain ⟨cq43, kq43, q43a, q43b, q43c⟩ := isOf hZ rfl f42_0
          obtain ⟨_, _, ⟨T43, L43, k43, n43⟩, -, X43, ⟨Lc43, hQ43, l43, y43, z43⟩, st43⟩ := X42.virtualBack hx (y := (⟨"traceward/schema/LineBreaks", "count", "()I"⟩ : MethodName)) (z := (⟨"traceward/schema/LineBreaks", "count", "()I"⟩ : MethodName)) hown (mvT hZ (hw _ (List.mem_of_getElem? (i := 26) rfl))) (mvT hZ (hw _ (List.mem_of_getElem? (i := 27) rfl))) (notFace_of_selects (args := #[]) (mvT hZ (hw _ (List.mem_of_getElem? (i := 29) rfl)))) (mvT hZ (hw _ (List.mem_of_getElem? (i := 29) rfl))) (mvT hZ (hw _ (List.mem_of_getElem? (i := 28) rfl))) (by decide) (backOf (W := 0) (own_rm6 l Z a0 hw [] b13 (own_tc (10 : Int32) ((own_tl (own_v0_45 i0 i1 i2 i3 i4 i5) (own_v0_58 i0 i1 i2 i3 i4 i5) (own_j0_170_count i0 i1 i2 i3 i4 i5) (own_j0_170_afterCarriageReturn i0 i1 i2 i3 i4 i5) (own_j0_105_xml11 i0 i1 i2 i3 i4 i5) ((own_draw i0).toInt8.toInt32) ((own_draw i1).toInt8.toInt32) ((own_draw i2).toInt8.toInt32) ((own_draw i3).toInt8.toInt32) 5 (own_j0_170_count i0 i1 i2 i3 i4 i5) (own_j0_170_afterCarriageReturn i0 i1 i2 i3 i4 i5) (own_v0_45 i0 i1 i2 i3 i4 i5)).1) ((own_tl (own_v0_45 i0 i1 i2 i3 i4 i5) (own_v0_58 i0 i1 i2 i3 i4 i5) (own_j0_170_count i0 i1 i2 i3 i4 i5) (own_j0_170_afterCarriageReturn i0 i1 i2 i3 i4 i5) (own_j0_105_xml11 i0 i1 i2 i3 i4 i5) ((own_draw i0).toInt8.toInt32) ((own_draw i1).toInt8.toInt32) ((own_draw i2).toInt8.toInt32) ((own_draw i3).toInt8.toInt32) 5 (own_j0_170_count i0 i1 i2 i3 i4 i5) (own_j0_170_afterCarriageReturn i0 i1 i2 i3 i4 i5) (own_v0_45 i0 i1 i2 i3 i4 i5)).2) (own_j0_105_xml11 i0 i1 i2 i3 i4 i5)) T42.heap n0 (Nat.le_trans Z0 K42.1) f42_1) hZ (hw _ (List.mem_of_getElem? (i := 30) rfl)) (hw _ (List.mem_of_getElem? (i := 7) rfl)) (by decide) (by decide)) q43a q43c (g := (mkF m 288 #[.val (.int i0), .val (.int i1), .val (.int i2), .val (.int i3), .val (.int i4), .val (.int i5), .val (.ref b1), .val (.int (own_v0_45 i0 i1 i2 i3 i4 i5)), .val (.int (own_v0_58 i0 i1 i2 i3 i4 i5)), .val (.int (i5 &&& (3 : Int32))), .val (.int (own_j0_78_S0 i0 i1 i2 i3 i4 i5)), .val (.int (own_v0_84 i0 i1 i2 i3 i4 i5)), .val (.ref b13), .val (.int (own_j0_170_L13 i0 i1 i2 i3 i4 i5)), .val (.int (own_cnt (own_j0_170_count i0 i1 i2 i3 i4 i5))), .val (.int (own_v0_228 i0 i1 i2 i3 i4 i5)), .val (.int (own_j0_259_S0 i0 i1 i2 i3 i4 i5)), .val (.int (own_cnt ((own_tl (own_v0_45 i0 i1 i2 i3 i4 i5) (own_v0_58 i0 i1 i2 i3 i4 i5) (own_j0_170_count i0 i1 i2 i3 i4 i5) (own_j0_170_afterCarriageReturn i0 i1 i2 i3 i4 i5) (own_j0_105_xml11 i0 i1 i2 i3 i4 i5) ((own_draw i0).toInt8.toInt32) ((own_draw i1).toInt8.toInt32) ((own_draw i2).toInt8.toInt32) ((own_draw i3).toInt8.toInt32) 5 (own_j0_170_count i0 i1 i2 i3 i4 i5) (own_j0_170_afterCarriageReturn i0 i1 i2 i3 i4 i5) (own_v0_45 i0 i1 i2 i3 i4 i5)).1))), .unset] [(.ref b13)])) rfl (by rw [hml]; rfl) (Steps.refl _) (argsL := []) (rest := []) (lenOf own_pd6 rfl) rfl (by show 2 * 0 + _ ≤ _; exact Nat.le_of_eq rfl) (hb hby at_288) (fun _ _ => ⟨rfl, rfl, (by decide : 2 + 0 ≤ _), (by decide : 7 + 0 ≤ _)⟩)
          dsimp only [Pt.U, Pt.locs, Pt.cells, Pt.slots] at X43 l43 y43 z43 st43 hQ43
          subst l43 y43 z43
          obtain ⟨rfl, N43q, e43⟩ := hQ43
          have N43 := Fr.app N42 N43q
          refine ownE.goS (T' := T43) (f' := (mkF m 291 #[.val (.int i0), .val (.int i1), .val (.int i2), .val (.int i3), .val (.int i4), .val (.int i5), .val (.ref b1), .val (.int (own_v0_45 i0 i1 i2 i3 i4 i5)), .val (.int (own_v0_58 i0 i1 i2 i3 i4 i5)), .val (.int (i5 &&& (3 : Int32))), .val (.int (own_j0_78_S0 i0 i1 i2 i3 i4 i5)), .val (.int (own_v0_84 i0 i1 i2 i3 i4 i5)), .val (.ref b13), .val (.int (own_j0_170_L13 i0 i1 i2 i3 i4 i5)), .val (.int (own_cnt (own_j0_170_count i0 i1 i2 i3 i4 i5))), .val (.int (own_v0_228 i0 i1 i2 i3 i4 i5)), .val (.int (own_j0_259_S0 i0 i1 i2 i3 i4 i5)), .val (.int (own_cnt ((own_tl (own_v0_45 i0 i1 i2 i3 i4 i5) (own_v0_58 i0 i1 i2 i3 i4 i5) (own_j0_170_count i0 i1 i2 i3 i4 i5) (own_j0_170_afterCarriageReturn i0 i1 i2 i3 i4 i5) (own_j0_105_xml11 i0 i1 i2 i3 i4 i5) ((own_draw i0).toInt8.toInt32) ((own_draw i1).toInt8.toInt32) ((own_draw i2).toInt8.toInt32) ((own_draw i3).toInt8.toInt32) 5 (own_j0_170_count i0 i1 i2 i3 i4 i5) (own_j0_170_afterCarriageReturn i0 i1 i2 i3 i4 i5) (own_v0_45 i0 i1 i2 i3 i4 i5)).1))), .unset] [(.int (own_cnt (own_tc (10 : Int32) ((own_tl (own_v0_45 i0 i1 i2 i3 i4 i5) (own_v0_58 i0 i1 i2 i3 i4 i5) (own_j0_170_count i0 i1 i2 i3 i4 i5) (own_j0_170_afterCarriageReturn i0 i1 i2 i3 i4 i5) (own_j0_105_xml11 i0 i1 i2 i3 i4 i5) ((own_draw i0).toInt8.toInt32) ((own_draw i1).toInt8.toInt32) ((own_draw i2).toInt8.toInt32) ((own_draw i3).toInt8.toInt32) 5 (own_j0_170_count i0 i1 i2 i3 i4 i5) (own_j0_170_afterCarriageReturn i0 i1 i2 i3 i4 i5) (own_v0_45 i0 i1 i2 i3 i4 i5)).1) ((own_tl (own_v0_45 i0 i1 i2 i3 i4 i5) (own_v0_58 i0 i1 i2 i3 i4 i5) (own_j0_170_count i0 i1 i2 i3 i4 i5) (own_j0_170_afterCarriageReturn i0 i1 i2 i3 i4 i5) (own_j0_105_xml11 i0 i1 i2 i3 i4 i5) ((own_draw i0).toInt8.toInt32) ((own_draw i1).toInt8.toInt32) ((own_draw i2).toInt8.toInt32) ((own_draw i3).toInt8.toInt32) 5 (own_j0_170_count i0 i1 i2 i3 i4 i5) (own_j0_170_afterCarriageReturn i0 i1 i2 i3 i4 i5) (own_v0_45 i0 i1 i2 i3 i4 i5)).2) (own_j0_105_xml11 i0 i1 i2 i3 i4 i5))))])) st43 ?_
          refine ownE.go (T' := T43) (f' := (mkF m 300 #[.val (.int i0), .val (.int i1), .val (.int i2), .val (.int i3), .val (.int i4), .val (.int i5), .val (.ref b1), .val (.int (own_v0_45 i0 i1 i2 i3 i4 i5)), .val (.int (own_v0_58 i0 i1 i2 i3 i4 i5)), .val (.int (i5 &&& (3 : Int32))), .val (.int (own_j0_78_S0 i0 i1 i2 i3 i4 i5)), .val (.int (own_v0_84 i0 i1 i2 i3 i4 i5)), .val (.ref b13), .val (.int (own_j0_170_L13 i0 i1 i2 i3 i4 i5)), .val (.int (own_cnt (own_j0_170_count i0 i1 i2 i3 i4 i5))), .val (.int (own_v0_228 i0 i1 i2 i3 i4 i5)), .val (.int (own_j0_259_S0 i0 i1 i2 i3 i4 i5)), .val (.int (own_cnt ((own_tl (own_v0_45 i0 i1 i2 i3 i4 i5) (own_v0_58 i0 i1 i2 i3 i4 i5) (own_j0_170_count i0 i1 i2 i3 i4 i5) (own_j0_170_afterCarriageReturn i0 i1 i2 i3 i4 i5) (own_j0_105_xml11 i0 i1 i2 i3 i4 i5) ((own_draw i0).toInt8.toInt32) ((own_draw i1).toInt8.toInt32) ((own_draw i2).toInt8.toInt32) ((own_draw i3).toInt8.toInt32) 5 (own_j0_170_count i0 i1 i2 i3 i4 i5) (own_j0_170_afterCarriageReturn i0 i1 i2 i3 i4 i5) (own_v0_45 i0 i1 i2 i3 i4 i5)).1))), .val (.int (own_cnt (own_tc (10 : Int32) ((own_tl (own_v0_45 i0 i1 i2 i3 i4 i5) (own_v0_58 i0 i1 i2 i3 i4 i5) (own_j0_170_count i0 i1 i2 i3 i4 i5) (own_j0_170_afterCarriageReturn i0 i1 i2 i3 i4 i5) (own_j0_105_xml11 i0 i1 i2 i3 i4 i5) ((own_draw i0).toInt8.toInt32) ((own_draw i1).toInt8.toInt32) ((own_draw i2).toInt8.toInt32) ((own_draw i3).toInt8.toInt32) 5 (own_j0_170_count i0 i1 i2 i3 i4 i5) (own_j0_170_afterCarriageReturn i0 i1 i2 i3 i4 i5) (own_v0_45 i0 i1 i2 i3 i4 i5)).1) ((own_tl (own_v0_45 i0 i1 i2 i3 i4 i5) (own_v0_58 i0 i1 i2 i3 i4 i5) (own_j0_170_count i0 i1 i2 i3 i4 i5) (own_j0_170_afterCarriageReturn i0 i1 i2 i3 i4 i5) (own_j0_105_xml11 i0 i1 i2 i3 i4 i5) ((own_draw i0).toInt8.toInt32) ((own_draw i1).toInt8.toInt32) ((own_draw i2).toInt8.toInt32) ((own_draw i3).toInt8.toInt32) 5 (own_j0_170_count i0 i1 i2 i3 i4 i5) (own_j0_170_afterCarriageReturn i0 i1 i2 i3 i4 i5) (own_v0_45 i0 i1 i2 i3 i4 i5)).2) (own_j0_105_xml11 i0 i1 i2 i3 i4 i5))))] [(.int ((own_cnt (own_j0_170_count i0 i1 i2 i3 i4 i5)) + (own_v0_228 i0 i1 i2 i3 i4 i5))), (.int (own_cnt ((own_tl (own_v0_45 i0 i1 i2 i3 i4 i5) (own_v0_58 i0 i1 i2 i3 i4 i5) (own_j0_170_count i0 i1 i2 i3 i4 i5) (own_j0_170_afterCarriageReturn i0 i1 i2 i3 i4 i5) (own_j0_105_xml11 i0 i1 i2 i3 i4 i5) ((own_draw i0).toInt8.toInt32) ((own_draw i1).toInt8.toInt32) ((own_draw i2).toInt8.toInt32) ((own_draw i3).toInt8.toInt32) 5 (own_j0_170_count i0 i1 i2 i3 i4 i5) (own_j0_170_afterCarriageReturn i0 i1 i2 i3 i4 i5) (own_v0_45 i0 i1 i2 i3 i4 i5)).1)))])) (fun t kt => ?_) ?_
          · show Steps p.tables e below (T43.setTop (mkF m 291 #[.val (.int i0), .val (.int i1), .val (.int i2), .val (.int i3), .val (.int i4), .val (.int i5), .val (.ref b1), .val (.int (own_v0_45 i0 i1 i2 i3 i4 i5)), .val (.int (own_v0_58 i0 i1 i2 i3 i4 i5)), .val (.int (i5 &&& (3 : Int32))), .val (.int (own_j0_78_S0 i0 i1 i2 i3 i4 i5)), .val (.int (own_v0_84 i0 i1 i2 i3 i4 i5)), .val (.ref b13), .val (.int (own_j0_170_L13 i0 i1 i2 i3 i4 i5)), .val (.int (own_cnt (own_j0_170_count i0 i1 i2 i3 i4 i5))), .val (.int (own_v0_228 i0 i1 i2 i3 i4 i5)), .val (.int (own_j0_259_S0 i0 i1 i2 i3 i4 i5)), .val (.int (own_cnt ((own_tl (own_v0_45 i0 i1 i2 i3 i4 i5) (own_v0_58 i0 i1 i2 i3 i4 i5) (own_j0_170_count i0 i1 i2 i3 i4 i5) (own_j0_170_afterCarriageReturn i0 i1 i2 i3 i4 i5) (own_j0_105_xml11 i0 i1 i2 i3 i4 i5) ((own_draw i0).toInt8.toInt32) ((own_draw i1).toInt8.toInt32) ((own_draw i2).toInt8.toInt32) ((own_draw i3).toInt8.toInt32) 5 (own_j0_170_count i0 i1 i2 i3 i4 i5) (own_j0_170_afterCarriageReturn i0 i1 i2 i3 i4 i5) (own_v0_45 i0 i1 i2 i3 i4 i5)).1))), .unset] [(.int (own_cnt (own_tc (10 : Int32) ((own_tl (own_v0_45 i0 i1 i2 i3 i4 i5) (own_v0_58 i0 i1 i2 i3 i4 i5) (own_j0_170_count i0 i1 i2 i3 i4 i5) (own_j0_170_afterCarriageReturn i0 i1 i2 i3 i4 i5) (own_j0_105_xml11 i0 i1 i2 i3 i4 i5) ((own_draw i0).toInt8.toInt32) ((own_draw i1).toInt8.toInt32) ((own_draw i2).toInt8.toInt32) ((own_draw i3).toInt8.toInt32) 5 (own_j0_170_count i0 i1 i2 i3 i4 i5) (own_j0_170_afterCarriageReturn i0 i1 i2 i3 i4 i5) (own_v0_45 i0 i1 i2 i3 i4 i5)).1) ((own_tl (own_v0_45 i0 i1 i2 i3 i4 i5) (own_v0_58 i0 i1 i2 i3 i4 i5) (own_j0_170_count i0 i1 i2 i3 i4 i5) (own_j0_170_afterCarriageReturn i0 i1 i2 i3 i4 i5) (own_j0_105_xml11 i0 i1 i2 i3 i4 i5) ((own_draw i0).toInt8.toInt32) ((own_draw i1).toInt8.toInt32) ((own_draw i2).toInt8.toInt32) ((own_draw i3).toInt8.toInt32) 5 (own_j0_170_count i0 i1 i2 i3 i4 i5) (own_j0_170_afterCarriageReturn i0 i1 i2 i3 i4 i5) (own_v0_45 i0 i1 i2 i3 i4 i5)).2) (own_j0_105_xml11 i0 i1 i2 i3 i4 i5))))])) _
            refine XS.istore X43.here hx rfl (hb hby at_291) rfl (l' := #[.val (.int i0), .val (.int i1), .val (.int i2), .val (.int i3), .val (.int i4), .val (.int i5), .val (.ref b1), .val (.int (own_v0_45 i0 i1 i2 i3 i4 i5)), .val (.int (own_v0_58 i0 i1 i2 i3 i4 i5)), .val (.int (i5 &&& (3 : Int32))), .val (.int (own_j0_78_S0 i0 i1 i2 i3 i4 i5)), .val (.int (own_v0_84 i0 i1 i2 i3 i4 i5)), .val (.ref b13), .val (.int (own_j0_170_L13 i0 i1 i2 i3 i4 i5)), .val (.int (own_cnt (own_j0_170_count i0 i1 i2 i3 i4 i5))), .val (.int (own_v0_228 i0 i1 i2 i3 i4 i5)), .val (.int (own_j0_259_S0 i0 i1 i2 i3 i4 i5)), .val (.int (own_cnt ((own_tl (own_v0_45 i0 i1 i2 i3 i4 i5) (own_v0_58 i0 i1 i2 i3 i4 i5) (own_j0_170_count i0 i1 i2 i3 i4 i5) (own_j0_170_afterCarriageReturn i0 i1 i2 i3 i4 i5) (own_j0_105_xml11 i0 i1 i2 i3 i4 i5) ((own_draw i0).toInt8.toInt32) ((own_draw i1).toInt8.toInt32) ((own_draw i2).toInt8.toInt32) ((own_draw i3).toInt8.toInt32) 5 (own_j0_170_count i0 i1 i2 i3 i4 i5) (own_j0_170_afterCarriageReturn i0 i1 i2 i3 i4 i5) (own_v0_45 i0 i1 i2 i3 i4 i5)).1))), .val (.int (own_cnt (own_tc (10 : Int32) ((own_tl (own_v0_45 i0 i1 i2 i3 i4 i5) (own_v0_58 i0 i1 i2 i3 i4 i5) (own_j0_170_count i0 i1 i2 i3 i4 i5) (own_j0_170_afterCarriageReturn i0 i1 i2 i3 i4 i5) (own_j0_105_xml11 i0 i1 i2 i3 i4 i5) ((own_draw i0).toInt8.toInt32) ((own_draw i1).toInt8.toInt32) ((own_draw i2).toInt8.toInt32) ((own_draw i3).toInt8.toInt32) 5 (own_j0_170_count i0 i1 i2 i3 i4 i5) (own_j0_170_afterCarriageReturn i0 i1 i2 i3 i4 i5) (own_v0_45 i0 i1 i2 i3 i4 i5)).1) ((own_tl (own_v0_45 i0 i1 i2 i3 i4 i5) (own_v0_58 i0 i1 i2 i3 i4 i5) (own_j0_170_count i0 i1 i2 i3 i4 i5) (own_j0_170_afterCarriageReturn i0 i1 i2 i3 i4 i5) (own_j0_105_xml11 i0 i1 i2 i3 i4 i5) ((own_draw i0).toInt8.toInt32) ((own_draw i1).toInt8.toInt32) ((own_draw i2).toInt8.toInt32) ((own_draw i3).toInt8.toInt32) 5 (own_j0_170_count i0 i1 i2 i3 i4 i5) (own_j0_170_afterCarriageReturn i0 i1 i2 i3 i4 i5) (own_v0_45 i0 i1 i2 i3 i4 i5)).2) (own_j0_105_xml11 i0 i1 i2 i3 i4 i5))))]) rfl ?_
            show Steps p.tables e below (T43.setTop (mkF m 293 #[.val (.int i0), .val (.int i1), .val (.int i2), .val (.int i3), .val (.int i4), .val (.int i5), .val (.ref b1), .val (.int (own_v0_45 i0 i1 i2 i3 i4 i5)), .val (.int (own_v0_58 i0 i1 i2 i3 i4 i5)), .val (.int (i5 &&& (3 : Int32))), .val (.int (own_j0_78_S0 i0 i1 i2 i3 i4 i5)), .val (.int (own_v0_84 i0 i1 i2 i3 i4 i5)), .val (.ref b13), .val (.int (own_j0_170_L13 i0 i1 i2 i3 i4 i5)), .val (.int (own_cnt (own_j0_170_count i0 i1 i2 i3 i4 i5))), .val (.int (own_v0_228 i0 i1 i2 i3 i4 i5)), .val (.int (own_j0_259_S0 i0 i1 i2 i3 i4 i5)), .val (.int (own_cnt ((own_tl (own_v0_45 i0 i1 i2 i3 i4 i5) (own_v0_58 i0 i1 i2 i3 i4 i5) (own_j0_170_count i0 i1 i2 i3 i4 i5) (own_j0_170_afterCarriageReturn i0 i1 i2 i3 i4 i5) (own_j0_105_xml11 i0 i1 i2 i3 i4 i5) ((own_draw i0).toInt8.toInt32) ((own_draw i1).toInt8.toInt32) ((own_draw i2).toInt8.toInt32) ((own_draw i3).toInt8.toInt32) 5 (own_j0_170_count i0 i1 i2 i3 i4 i5) (own_j0_170_afterCarriageReturn i0 i1 i2 i3 i4 i5) (own_v0_45 i0 i1 i2 i3 i4 i5)).1))), .val (.int (own_cnt (own_tc (10 : Int32) ((own_tl (own_v0_45 i0 i1 i2 i3 i4 i5) (own_v0_58 i0 i1 i2 i3 i4 i5) (own_j0_170_count i0 i1 i2 i3 i4 i5) (own_j0_170_afterCarriageReturn i0 i1 i2 i3 i4 i5) (own_j0_105_xml11 i0 i1 i2 i3 i4 i5) ((own_draw i0).toInt8.toInt32) ((own_draw i1).toInt8.toInt32) ((own_draw i2).toInt8.toInt32) ((own_draw i3).toInt8.toInt32) 5 (own_j0_170_count i0 i1 i2 i3 i4 i5) (own_j0_170_afterCarriageReturn i0 i1 i2 i3 i4 i5) (own_v0_45 i0 i1 i2 i3 i4 i5)).1) ((own_tl (own_v0_45 i0 i1 i2 i3 i4 i5) (own_v0_58 i0 i1 i2 i3 i4 i5) (own_j0_170_count i0 i1 i2 i3 i4 i5) (own_j0_170_afterCarriageReturn i0 i1 i2 i3 i4 i5) (own_j0_105_xml11 i0 i1 i2 i3 i4 i5) ((own_draw i0).toInt8.toInt32) ((own_draw i1).toInt8.toInt32) ((own_draw i2).toInt8.toInt32) ((own_draw i3).toInt8.toInt32) 5 (own_j0_170_count i0 i1 i2 i3 i4 i5) (own_j0_170_afterCarriageReturn i0 i1 i2 i3 i4 i5) (own_v0_45 i0 i1 i2 i3 i4 i5)).2) (own_j0_105_xml11 i0 i1 i2 i3 i4 i5))))] [])) _
            refine XS.iload X43.here hx rfl (hb hby at_293) rfl ?_
            show Steps p.tables e below (T43.setTop (mkF m 295 #[.val (.int i0), .val (.int i1), .val (.int i2), .val (.int i3), .val (.int i4), .val (.int i5), .val (.ref b1), .val (.int (own_v0_45 i0 i1 i2 i3 i4 i5)), .val (.int (own_v0_58 i0 i1 i2 i3 i4 i5)), .val (.int (i5 &&& (3 : Int32))), .val (.int (own_j0_78_S0 i0 i1 i2 i3 i4 i5)), .val (.int (own_v0_84 i0 i1 i2 i3 i4 i5)), .val (.ref b13), .val (.int (own_j0_170_L13 i0 i1 i2 i3 i4 i5)), .val (.int (own_cnt (own_j0_170_count i0 i1 i2 i3 i4 i5))), .val (.int (own_v0_228 i0 i1 i2 i3 i4 i5)), .val (.int (own_j0_259_S0 i0 i1 i2 i3 i4 i5)), .val (.int (own_cnt ((own_tl (own_v0_45 i0 i1 i2 i3 i4 i5) (own_v0_58 i0 i1 i2 i3 i4 i5) (own_j0_170_count i0 i1 i2 i3 i4 i5) (own_j0_170_afterCarriageReturn i0 i1 i2 i3 i4 i5) (own_j0_105_xml11 i0 i1 i2 i3 i4 i5) ((own_draw i0).toInt8.toInt32) ((own_draw i1).toInt8.toInt32) ((own_draw i2).toInt8.toInt32) ((own_draw i3).toInt8.toInt32) 5 (own_j0_170_count i0 i1 i2 i3 i4 i5) (own_j0_170_afterCarriageReturn i0 i1 i2 i3 i4 i5) (own_v0_45 i0 i1 i2 i3 i4 i5)).1))), .val (.int (own_cnt (own_tc (10 : Int32) ((own_tl (own_v0_45 i0 i1 i2 i3 i4 i5) (own_v0_58 i0 i1 i2 i3 i4 i5) (own_j0_170_count i0 i1 i2 i3 i4 i5) (own_j0_170_afterCarriageReturn i0 i1 i2 i3 i4 i5) (own_j0_105_xml11 i0 i1 i2 i3 i4 i5) ((own_draw i0).toInt8.toInt32) ((own_draw i1).toInt8.toInt32) ((own_draw i2).toInt8.toInt32) ((own_draw i3).toInt8.toInt32) 5 (own_j0_170_count i0 i1 i2 i3 i4 i5) (own_j0_170_afterCarriageReturn i0 i1 i2 i3 i4 i5) (own_v0_45 i0 i1 i2 i3 i4 i5)).1) ((own_tl (own_v0_45 i0 i1 i2 i3 i4 i5) (own_v0_58 i0 i1 i2 i3 i4 i5) (own_j0_170_count i0 i1 i2 i3 i4 i5) (own_j0_170_afterCarriageReturn i0 i1 i2 i3 i4 i5) (own_j0_105_xml11 i0 i1 i2 i3 i4 i5) ((own_draw i0).toInt8.toInt32) ((own_draw i1).toInt8.toInt32) ((own_draw i2).toInt8.toInt32) ((own_draw i3).toInt8.toInt32) 5 (own_j0_170_count i0 i1 i2 i3 i4 i5) (own_j0_170_afterCarriageReturn i0 i1 i2 i3 i4 i5) (own_v0_45 i0 i1 i2 i3 i4 i5)).2) (own_j0_105_xml11 i0 i1 i2 i3 i4 i5))))] [(.int (own_cnt ((own_tl (own_v0_45 i0 i1 i2 i3 i4 i5) (own_v0_58 i0 i1 i2 i3 i4 i5) (own_j0_170_count i0 i1 i2 i3 i4 i5) (own_j0_170_afterCarriageReturn i0 i1 i2 i3 i4 i5) (own_j0_105_xml11 i0 i1 i2 i3 i4 i5) ((own_draw i0).toInt8.toInt32) ((own_draw i1).toInt8.toInt32) ((own_draw i2).toInt8.toInt32) ((own_draw i3).toInt8.toInt32) 5 (own_j0_170_count i0 i1 i2 i3 i4 i5) (own_j0_170_afterCarriageReturn i0 i1 i2 i3 i4 i5) (own_v0_45 i0 i1 i2 i3 i4 i5)).1)))])) _
            refine XS.iload X43.here hx rfl (hb hby at_295) rfl ?_
            show Steps p.tables e below (T43.setTop (mkF m 297 #[.val (.int i0), .val (.int i1), .val (.int i2), .val (.int i3), .val (.int i4), .val (.int i5), .val (.ref b1), .val (.int (own_v0_45 i0 i1 i2 i3 i4 i5)), .val (.int (own_v0_58 i0 i1 i2 i3 i4 i5)), .val (.int (i5 &&& (3 : Int32))), .val (.int (own_j0_78_S0 i0 i1 i2 i3 i4 i5)), .val (.int (own_v0_84 i0 i1 i2 i3 i4 i5)), .val (.ref b13), .val (.int (own_j0_170_L13 i0 i1 i2 i3 i4 i5)), .val (.int (own_cnt (own_j0_170_count i0 i1 i2 i3 i4 i5))), .val (.int (own_v0_228 i0 i1 i2 i3 i4 i5)), .val (.int (own_j0_259_S0 i0 i1 i2 i3 i4 i5)), .val (.int (own_cnt ((own_tl (own_v0_45 i0 i1 i2 i3 i4 i5) (own_v0_58 i0 i1 i2 i3 i4 i5) (own_j0_170_count i0 i1 i2 i3 i4 i5) (own_j0_170_afterCarriageReturn i0 i1 i2 i3 i4 i5) (own_j0_105_xml11 i0 i1 i2 i3 i4 i5) ((own_draw i0).toInt8.toInt32) ((own_draw i1).toInt8.toInt32) ((own_draw i2).toInt8.toInt32) ((own_draw i3).toInt8.toInt32) 5 (own_j0_170_count i0 i1 i2 i3 i4 i5) (own_j0_170_afterCarriageReturn i0 i1 i2 i3 i4 i5) (own_v0_45 i0 i1 i2 i3 i4 i5)).1))), .val (.int (own_cnt (own_tc (10 : Int32) ((own_tl (own_v0_45 i0 i1 i2 i3 i4 i5) (own_v0_58 i0 i1 i2 i3 i4 i5) (own_j0_170_count i0 i1 i2 i3 i4 i5) (own_j0_170_afterCarriageReturn i0 i1 i2 i3 i4 i5) (own_j0_105_xml11 i0 i1 i2 i3 i4 i5) ((own_draw i0).toInt8.toInt32) ((own_draw i1).toInt8.toInt32) ((own_draw i2).toInt8.toInt32) ((own_draw i3).toInt8.toInt32) 5 (own_j0_170_count i0 i1 i2 i3 i4 i5) (own_j0_170_afterCarriageReturn i0 i1 i2 i3 i4 i5) (own_v0_45 i0 i1 i2 i3 i4 i5)).1) ((own_tl (own_v0_45 i0 i1 i2 i3 i4 i5) (own_v0_58 i0 i1 i2 i3 i4 i5) (own_j0_170_count i0 i1 i2 i3 i4 i5) (own_j0_170_afterCarriageReturn i0 i1 i2 i3 i4 i5) (own_j0_105_xml11 i0 i1 i2 i3 i4 i5) ((own_draw i0).toInt8.toInt32) ((own_draw i1).toInt8.toInt32) ((own_draw i2).toInt8.toInt32) ((own_draw i3).toInt8.toInt32) 5 (own_j0_170_count i0 i1 i2 i3 i4 i5) (own_j0_170_afterCarriageReturn i0 i1 i2 i3 i4 i5) (own_v0_45 i0 i1 i2 i3 i4 i5)).2) (own_j0_105_xml11 i0 i1 i2 i3 i4 i5))))] [(.int (own_cnt (own_j0_170_count i0 i1 i2 i3 i4 i5))), (.int (own_cnt ((own_tl (own_v0_45 i0 i1 i2 i3 i4 i5) (own_v0_58 i0 i1 i2 i3 i4 i5) (own_j0_170_count i0 i1 i2 i3 i4 i5) (own_j0_170_afterCarriageReturn i0 i1 i2 i3 i4 i5) (own_j0_105_xml11 i0 i1 i2 i3 i4 i5) ((own_draw i0).toInt8.toInt32) ((own_draw i1).toInt8.toInt32) ((own_draw i2).toInt8.toInt32) ((own_draw i3).toInt8.toInt32) 5 (own_j0_170_count i0 i1 i2 i3 i4 i5) (own_j0_170_afterCarriageReturn i0 i1 i2 i3 i4 i5) (own_v0_45 i0 i1 i2 i3 i4 i5)).1)))])) _
            refine XS.iload X43.here hx rfl (hb hby at_297) rfl ?_
            show Steps p.tables e below (T43.setTop (mkF m 299 #[.val (.int i0), .val (.int i1), .val (.int i2), .val (.int i3), .val (.int i4), .val (.int i5), .val (.ref b1), .val (.int (own_v0_45 i0 i1 i2 i3 i4 i5)), .val (.int (own_v0_58 i0 i1 i2 i3 i4 i5)), .val (.int (i5 &&& (3 : Int32))), .val (.int (own_j0_78_S0 i0 i1 i2 i3 i4 i5)), .val (.int (own_v0_84 i0 i1 i2 i3 i4 i5)), .val (.ref b13), .val (.int (own_j0_170_L13 i0 i1 i2 i3 i4 i5)), .val (.int (own_cnt (own_j0_170_count i0 i1 i2 i3 i4 i5))), .val (.int (own_v0_228 i0 i1 i2 i3 i4 i5)), .val (.int (own_j0_259_S0 i0 i1 i2 i3 i4 i5)), .val (.int (own_cnt ((own_tl (own_v0_45 i0 i1 i2 i3 i4 i5) (own_v0_58 i0 i1 i2 i3 i4 i5) (own_j0_170_count i0 i1 i2 i3 i4 i5) (own_j0_170_afterCarriageReturn i0 i1 i2 i3 i4 i5) (own_j0_105_xml11 i0 i1 i2 i3 i4 i5) ((own_draw i0).toInt8.toInt32) ((own_draw i1).toInt8.toInt32) ((own_draw i2).toInt8.toInt32) ((own_draw i3).toInt8.toInt32) 5 (own_j0_170_count i0 i1 i2 i3 i4 i5) (own_j0_170_afterCarriageReturn i0 i1 i2 i3 i4 i5) (own_v0_45 i0 i1 i2 i3 i4 i5)).1))), .val (.int (own_cnt (own_tc (10 : Int32) ((own_tl (own_v0_45 i0 i1 i2 i3 i4 i5) (own_v0_58 i0 i1 i2 i3 i4 i5) (own_j0_170_count i0 i1 i2 i3 i4 i5) (own_j0_170_afterCarriageReturn i0 i1 i2 i3 i4 i5) (own_j0_105_xml11 i0 i1 i2 i3 i4 i5) ((own_draw i0).toInt8.toInt32) ((own_draw i1).toInt8.toInt32) ((own_draw i2).toInt8.toInt32) ((own_draw i3).toInt8.toInt32) 5 (own_j0_170_count i0 i1 i2 i3 i4 i5) (own_j0_170_afterCarriageReturn i0 i1 i2 i3 i4 i5) (own_v0_45 i0 i1 i2 i3 i4 i5)).1) ((own_tl (own_v0_45 i0 i1 i2 i3 i4 i5) (own_v0_58 i0 i1 i2 i3 i4 i5) (own_j0_170_count i0 i1 i2 i3 i4 i5) (own_j0_170_afterCarriageReturn i0 i1 i2 i3 i4 i5) (own_j0_105_xml11 i0 i1 i2 i3 i4 i5) ((own_draw i0).toInt8.toInt32) ((own_draw i1).toInt8.toInt32) ((own_draw i2).toInt8.toInt32) ((own_draw i3).toInt8.toInt32) 5 (own_j0_170_count i0 i1 i2 i3 i4 i5) (own_j0_170_afterCarriageReturn i0 i1 i2 i3 i4 i5) (own_v0_45 i0 i1 i2 i3 i4 i5)).2) (own_j0_105_xml11 i0 i1 i2 i3 i4 i5))))] [(.int (own_v0_228 i0 i1 i2 i3 i4 i5)), (.int (own_cnt (own_j0_170_count i0 i1 i2 i3 i4 i5))), (.int (own_cnt ((own_tl (own_v0_45 i0 i1 i2 i3 i4 i5) (own_v0_58 i0 i1 i2 i3 i4 i5) (own_j0_170_count i0 i1 i2 i3 i4 i5) (own_j0_170_afterCarriageReturn i0 i1 i2 i3 i4 i5) (own_j0_105_xml11 i0 i1 i2 i3 i4 i5) ((own_draw i0).toInt8.toInt32) ((own_draw i1).toInt8.toInt32) ((own_draw i2).toInt8.toInt32) ((own_draw i3).toInt8.toInt32) 5 (own_j0_170_count i0 i1 i2 i3 i4 i5) (own_j0_170_afterCarriageReturn i0 i1 i2 i3 i4 i5) (own_v0_45 i0 i1 i2 i3 i4 i5)).1)))])) _
            refine XS.iadd X43.here hx rfl (hb hby at_299) rfl ?_
            exact kt
          by_cases hc44 : (own_cnt ((own_tl (own_v0_45 i0 i1 i2 i3 i4 i5) (own_v0_58 i0 i1 i2 i3 i4 i5) (own_j0_170_count i0 i1 i2 i3 i4 i5) (own_j0_170_afterCarriageReturn i0 i1 i2 i3 i4 i5) (own_j0_105_xml11 i0 i1 i2 i3 i4 i5) ((own_draw i0).toInt8.toInt32) ((own_draw i1).toInt8.toInt32) ((own_draw i2).toInt8.toInt32) ((own_draw i3).toInt8.toInt32) 5 (own_j0_170_count i0 i1 i2 i3 i4 i5) (own_j0_170_afterCarriageReturn i0 i1 i2 i3 i4 i5) (own_v0_45 i0 i1 i2 i3 i4 i5)).1)) = ((own_cnt (own_j0_170_count i0 i1 i2 i3 i4 i5)) + (own_v0_228 i0 i1 i2 i3 i4 i5))
          · -- pc 300
            refine ownE.go (T' := T43) (f' := (mkF m 303 #[.val (.int i0), .val (.int i1), .val (.int i2), .val (.int i3), .val (.int i4), .val (.int i5), .val (.ref b1), .val (.int (own_v0_45 i0 i1 i2 i3 i4 i5)), .val (.int (own_v0_58 i0 i1 i2 i3 i4 i5)), .val (.int (i5 &&& (3 : Int32))), .val (.int (own_j0_78_S0 i0 i1 i2 i3 i4 i5)), .val (.int (own_v0_84 i0 i1 i2 i3 i4 i5)), .val (.ref b13), .val (.int (own_j0_170_L13 i0 i1 i2 i3 i4 i5)), .val (.int (own_cnt (own_j0_170_count i0 i1 i2 i3 i4 i5))), .val (.int (own_v0_228 i0 i1 i2 i3 i4 i5)), .val (.int (own_j0_259_S0 i0 i1 i2 i3 i4 i5)), .val (.int (own_cnt ((own_tl (own_v0_45 i0 i1 i2 i3 i4 i5) (own_v0_58 i0 i1 i2 i3 i4 i5) (own_j0_170_count i0 i1 i2 i3 i4 i5) (own_j0_170_afterCarriageReturn i0 i1 i2 i3 i4 i5) (own_j0_105_xml11 i0 i1 i2 i3 i4 i5) ((own_draw i0).toInt8.toInt32) ((own_draw i1).toInt8.toInt32) ((own_draw i2).toInt8.toInt32) ((own_draw i3).toInt8.toInt32) 5 (own_j0_170_count i0 i1 i2 i3 i4 i5) (own_j0_170_afterCarriageReturn i0 i1 i2 i3 i4 i5) (own_v0_45 i0 i1 i2 i3 i4 i5)).1))), .val (.int (own_cnt (own_tc (10 : Int32) ((own_tl (own_v0_45 i0 i1 i2 i3 i4 i5) (own_v0_58 i0 i1 i2 i3 i4 i5) (own_j0_170_count i0 i1 i2 i3 i4 i5) (own_j0_170_afterCarriageReturn i0 i1 i2 i3 i4 i5) (own_j0_105_xml11 i0 i1 i2 i3 i4 i5) ((own_draw i0).toInt8.toInt32) ((own_draw i1).toInt8.toInt32) ((own_draw i2).toInt8.toInt32) ((own_draw i3).toInt8.toInt32) 5 (own_j0_170_count i0 i1 i2 i3 i4 i5) (own_j0_170_afterCarriageReturn i0 i1 i2 i3 i4 i5) (own_v0_45 i0 i1 i2 i3 i4 i5)).1) ((own_tl (own_v0_45 i0 i1 i2 i3 i4 i5) (own_v0_58 i0 i1 i2 i3 i4 i5) (own_j0_170_count i0 i1 i2 i3 i4 i5) (own_j0_170_afterCarriageReturn i0 i1 i2 i3 i4 i5) (own_j0_105_xml11 i0 i1 i2 i3 i4 i5) ((own_draw i0).toInt8.toInt32) ((own_draw i1).toInt8.toInt32) ((own_draw i2).toInt8.toInt32) ((own_draw i3).toInt8.toInt32) 5 (own_j0_170_count i0 i1 i2 i3 i4 i5) (own_j0_170_afterCarriageReturn i0 i1 i2 i3 i4 i5) (own_v0_45 i0 i1 i2 i3 i4 i5)).2) (own_j0_105_xml11 i0 i1 i2 i3 i4 i5))))] [])) (fun t kt => XS.icmpNo (g := (mkF m 300 #[.val (.int i0), .val (.int i1), .val (.int i2), .val (.int i3), .val (.int i4), .val (.int i5), .val (.ref b1), .val (.int (own_v0_45 i0 i1 i2 i3 i4 i5)), .val (.int (own_v0_58 i0 i1 i2 i3 i4 i5)), .val (.int (i5 &&& (3 : Int32))), .val (.int (own_j0_78_S0 i0 i1 i2 i3 i4 i5)), .val (.int (own_v0_84 i0 i1 i2 i3 i4 i5)), .val (.ref b13), .val (.int (own_j0_170_L13 i0 i1 i2 i3 i4 i5)), .val (.int (own_cnt (own_j0_170_count i0 i1 i2 i3 i4 i5))), .val (.int (own_v0_228 i0 i1 i2 i3 i4 i5)), .val (.int (own_j0_259_S0 i0 i1 i2 i3 i4 i5)), .val (.int (own_cnt ((own_tl (own_v0_45 i0 i1 i2 i3 i4 i5) (own_v0_58 i0 i1 i2 i3 i4 i5) (own_j0_170_count i0 i1 i2 i3 i4 i5) (own_j0_170_afterCarriageReturn i0 i1 i2 i3 i4 i5) (own_j0_105_xml11 i0 i1 i2 i3 i4 i5) ((own_draw i0).toInt8.toInt32) ((own_draw i1).toInt8.toInt32) ((own_draw i2).toInt8.toInt32) ((own_draw i3).toInt8.toInt32) 5 (own_j0_170_count i0 i1 i2 i3 i4 i5) (own_j0_170_afterCarriageReturn i0 i1 i2 i3 i4 i5) (own_v0_45 i0 i1 i2 i3 i4 i5)).1))), .val (.int (own_cnt (own_tc (10 : Int32) ((own_tl (own_v0_45 i0 i1 i2 i3 i4 i5) (own_v0_58 i0 i1 i2 i3 i4 i5) (own_j0_170_count i0 i1 i2 i3 i4 i5) (own_j0_170_afterCarriageReturn i0 i1 i2 i3 i4 i5) (own_j0_105_xml11 i0 i1 i2 i3 i4 i5) ((own_draw i0).toInt8.toInt32) ((own_draw i1).toInt8.toInt32) ((own_draw i2).toInt8.toInt32) ((own_draw i3).toInt8.toInt32) 5 (own_j0_170_count i0 i1 i2 i3 i4 i5) (own_j0_170_afterCarriageReturn i0 i1 i2 i3 i4 i5) (own_v0_45 i0 i1 i2 i3 i4 i5)).1) ((own_tl (own_v0_45 i0 i1 i2 i3 i4 i5) (own_v0_58 i0 i1 i2 i3 i4 i5) (own_j0_170_count i0 i1 i2 i3 i4 i5) (own_j0_170_afterCarriageReturn i0 i1 i2 i3 i4 i5) (own_j0_105_xml11 i0 i1 i2 i3 i4 i5) ((own_draw i0).toInt8.toInt32) ((own_draw i1).toInt8.toInt32) ((own_draw i2).toInt8.toInt32) ((own_draw i3).toInt8.toInt32) 5 (own_j0_170_count i0 i1 i2 i3 i4 i5) (own_j0_170_afterCarriageReturn i0 i1 i2 i3 i4 i5) (own_v0_45 i0 i1 i2 i3 i4 i5)).2) (own_j0_105_xml11 i0 i1 i2 i3 i4 i5))))] [(.int ((own_cnt (own_j0_170_count i0 i1 i2 i3 i4 i5)) + (own_v0_228 i0 i1 i2 i3 i4 i5))), (.int (own_cnt ((own_tl (own_v0_45 i0 i1 i2 i3 i4 i5) (own_v0_58 i0 i1 i2 i3 i4 i5) (own_j0_170_count i0 i1 i2 i3 i4 i5) (own_j0_170_afterCarriageReturn i0 i1 i2 i3 i4 i5) (own_j0_105_xml11 i0 i1 i2 i3 i4 i5) ((own_draw i0).toInt8.toInt32) ((own_draw i1).toInt8.toInt32) ((own_draw i2).toInt8.toInt32) ((own_draw i3).toInt8.toInt32) 5 (own_j0_170_count i0 i1 i2 i3 i4 i5) (own_j0_170_afterCarriageReturn i0 i1 i2 i3 i4 i5) (own_v0_45 i0 i1 i2 i3 i4 i5)).1)))])) X43.here hx rfl (hb hby at_300) rfl (Jvm.Free.XT.ii_ne_f hc44) kt) ?_
            refine ownE.go (T' := T43) (f' := (mkF m 310 #[.val (.int i0), .val (.int i1), .val (.int i2), .val (.int i3), .val (.int i4), .val (.int i5), .val (.ref b1), .val (.int (own_v0_45 i0 i1 i2 i3 i4 i5)), .val (.int (own_v0_58 i0 i1 i2 i3 i4 i5)), .val (.int (i5 &&& (3 : Int32))), .val (.int (own_j0_78_S0 i0 i1 i2 i3 i4 i5)), .val (.int (own_v0_84 i0 i1 i2 i3 i4 i5)), .val (.ref b13), .val (.int (own_j0_170_L13 i0 i1 i2 i3 i4 i5)), .val (.int (own_cnt (own_j0_170_count i0 i1 i2 i3 i4 i5))), .val (.int (own_v0_228 i0 i1 i2 i3 i4 i5)), .val (.int (own_j0_259_S0 i0 i1 i2 i3 i4 i5)), .val (.int (own_cnt ((own_tl (own_v0_45 i0 i1 i2 i3 i4 i5) (own_v0_58 i0 i1 i2 i3 i4 i5) (own_j0_170_count i0 i1 i2 i3 i4 i5) (own_j0_170_afterCarriageReturn i0 i1 i2 i3 i4 i5) (own_j0_105_xml11 i0 i1 i2 i3 i4 i5) ((own_draw i0).toInt8.toInt32) ((own_draw i1).toInt8.toInt32) ((own_draw i2).toInt8.toInt32) ((own_draw i3).toInt8.toInt32) 5 (own_j0_170_count i0 i1 i2 i3 i4 i5) (own_j0_170_afterCarriageReturn i0 i1 i2 i3 i4 i5) (own_v0_45 i0 i1 i2 i3 i4 i5)).1))), .val (.int (own_cnt (own_tc (10 : Int32) ((own_tl (own_v0_45 i0 i1 i2 i3 i4 i5) (own_v0_58 i0 i1 i2 i3 i4 i5) (own_j0_170_count i0 i1 i2 i3 i4 i5) (own_j0_170_afterCarriageReturn i0 i1 i2 i3 i4 i5) (own_j0_105_xml11 i0 i1 i2 i3 i4 i5) ((own_draw i0).toInt8.toInt32) ((own_draw i1).toInt8.toInt32) ((own_draw i2).toInt8.toInt32) ((own_draw i3).toInt8.toInt32) 5 (own_j0_170_count i0 i1 i2 i3 i4 i5) (own_j0_170_afterCarriageReturn i0 i1 i2 i3 i4 i5) (own_v0_45 i0 i1 i2 i3 i4 i5)).1) ((own_tl (own_v0_45 i0 i1 i2 i3 i4 i5) (own_v0_58 i0 i1 i2 i3 i4 i5) (own_j0_170_count i0 i1 i2 i3 i4 i5) (own_j0_170_afterCarriageReturn i0 i1 i2 i3 i4 i5) (own_j0_105_xml11 i0 i1 i2 i3 i4 i5) ((own_draw i0).toInt8.toInt32) ((own_draw i1).toInt8.toInt32) ((own_draw i2).toInt8.toInt32) ((own_draw i3).toInt8.toInt32) 5 (own_j0_170_count i0 i1 i2 i3 i4 i5) (own_j0_170_afterCarriageReturn i0 i1 i2 i3 i4 i5) (own_v0_45 i0 i1 i2 i3 i4 i5)).2) (own_j0_105_xml11 i0 i1 i2 i3 i4 i5))))] [(.int (own_j0_259_S0 i0 i1 i2 i3 i4 i5)), (.int ((own_cnt (own_tc (10 : Int32) ((own_tl (own_v0_45 i0 i1 i2 i3 i4 i5) (own_v0_58 i0 i1 i2 i3 i4 i5) (own_j0_170_count i0 i1 i2 i3 i4 i5) (own_j0_170_afterCarriageReturn i0 i1 i2 i3 i4 i5) (own_j0_105_xml11 i0 i1 i2 i3 i4 i5) ((own_draw i0).toInt8.toInt32) ((own_draw i1).toInt8.toInt32) ((own_draw i2).toInt8.toInt32) ((own_draw i3).toInt8.toInt32) 5 (own_j0_170_count i0 i1 i2 i3 i4 i5) (own_j0_170_afterCarriageReturn i0 i1 i2 i3 i4 i5) (own_v0_45 i0 i1 i2 i3 i4 i5)).1) ((own_tl (own_v0_45 i0 i1 i2 i3 i4 i5) (own_v0_58 i0 i1 i2 i3 i4 i5) (own_j0_170_count i0 i1 i2 i3 i4 i5) (own_j0_170_afterCarriageReturn i0 i1 i2 i3 i4 i5) (own_j0_105_xml11 i0 i1 i2 i3 i4 i5) ((own_draw i0).toInt8.toInt32) ((own_draw i1).toInt8.toInt32) ((own_draw i2).toInt8.toInt32) ((own_draw i3).toInt8.toInt32) 5 (own_j0_170_count i0 i1 i2 i3 i4 i5) (own_j0_170_afterCarriageReturn i0 i1 i2 i3 i4 i5) (own_v0_45 i0 i1 i2 i3 i4 i5)).2) (own_j0_105_xml11 i0 i1 i2 i3 i4 i5))) - (own_cnt ((own_tl (own_v0_45 i0 i1 i2 i3 i4 i5) (own_v0_58 i0 i1 i2 i3 i4 i5) (own_j0_170_count i0 i1 i2 i3 i4 i5) (own_j0_170_afterCarriageReturn i0 i1 i2 i3 i4 i5) (own_j0_105_xml11 i0 i1 i2 i3 i4 i5) ((own_draw i0).toInt8.toInt32) ((own_draw i1).toInt8.toInt32) ((own_draw i2).toInt8.toInt32) ((own_draw i3).toInt8.toInt32) 5 (own_j0_170_count i0 i1 i2 i3 i4 i5) (own_j0_170_afterCarriageReturn i0 i1 i2 i3 i4 i5) (own_v0_45 i0 i1 i2 i3 i4 i5)).1))))])) (fun t kt => ?_) ?_
            · show Steps p.tables e below (T43.setTop (mkF m 303 #[.val (.int i0), .val (.int i1), .val (.int i2), .val (.int i3), .val (.int i4), .val (.int i5), .val (.ref b1), .val (.int (own_v0_45 i0 i1 i2 i3 i4 i5)), .val (.int (own_v0_58 i0 i1 i2 i3 i4 i5)), .val (.int (i5 &&& (3 : Int32))), .val (.int (own_j0_78_S0 i0 i1 i2 i3 i4 i5)), .val (.int (own_v0_84 i0 i1 i2 i3 i4 i5)), .val (.ref b13), .val (.int (own_j0_170_L13 i0 i1 i2 i3 i4 i5)), .val (.int (own_cnt (own_j0_170_count i0 i1 i2 i3 i4 i5))), .val (.int (own_v0_228 i0 i1 i2 i3 i4 i5)), .val (.int (own_j0_259_S0 i0 i1 i2 i3 i4 i5)), .val (.int (own_cnt ((own_tl (own_v0_45 i0 i1 i2 i3 i4 i5) (own_v0_58 i0 i1 i2 i3 i4 i5) (own_j0_170_count i0 i1 i2 i3 i4 i5) (own_j0_170_afterCarriageReturn i0 i1 i2 i3 i4 i5) (own_j0_105_xml11 i0 i1 i2 i3 i4 i5) ((own_draw i0).toInt8.toInt32) ((own_draw i1).toInt8.toInt32) ((own_draw i2).toInt8.toInt32) ((own_draw i3).toInt8.toInt32) 5 (own_j0_170_count i0 i1 i2 i3 i4 i5) (own_j0_170_afterCarriageReturn i0 i1 i2 i3 i4 i5) (own_v0_45 i0 i1 i2 i3 i4 i5)).1))), .val (.int (own_cnt (own_tc (10 : Int32) ((own_tl (own_v0_45 i0 i1 i2 i3 i4 i5) (own_v0_58 i0 i1 i2 i3 i4 i5) (own_j0_170_count i0 i1 i2 i3 i4 i5) (own_j0_170_afterCarriageReturn i0 i1 i2 i3 i4 i5) (own_j0_105_xml11 i0 i1 i2 i3 i4 i5) ((own_draw i0).toInt8.toInt32) ((own_draw i1).toInt8.toInt32) ((own_draw i2).toInt8.toInt32) ((own_draw i3).toInt8.toInt32) 5 (own_j0_170_count i0 i1 i2 i3 i4 i5) (own_j0_170_afterCarriageReturn i0 i1 i2 i3 i4 i5) (own_v0_45 i0 i1 i2 i3 i4 i5)).1) ((own_tl (own_v0_45 i0 i1 i2 i3 i4 i5) (own_v0_58 i0 i1 i2 i3 i4 i5) (own_j0_170_count i0 i1 i2 i3 i4 i5) (own_j0_170_afterCarriageReturn i0 i1 i2 i3 i4 i5) (own_j0_105_xml11 i0 i1 i2 i3 i4 i5) ((own_draw i0).toInt8.toInt32) ((own_draw i1).toInt8.toInt32) ((own_draw i2).toInt8.toInt32) ((own_draw i3).toInt8.toInt32) 5 (own_j0_170_count i0 i1 i2 i3 i4 i5) (own_j0_170_afterCarriageReturn i0 i1 i2 i3 i4 i5) (own_v0_45 i0 i1 i2 i3 i4 i5)).2) (own_j0_105_xml11 i0 i1 i2 i3 i4 i5))))] [])) _
              refine XS.iload X43.here hx rfl (hb hby at_303) rfl ?_
              show Steps p.tables e below (T43.setTop (mkF m 305 #[.val (.int i0), .val (.int i1), .val (.int i2), .val (.int i3), .val (.int i4), .val (.int i5), .val (.ref b1), .val (.int (own_v0_45 i0 i1 i2 i3 i4 i5)), .val (.int (own_v0_58 i0 i1 i2 i3 i4 i5)), .val (.int (i5 &&& (3 : Int32))), .val (.int (own_j0_78_S0 i0 i1 i2 i3 i4 i5)), .val (.int (own_v0_84 i0 i1 i2 i3 i4 i5)), .val (.ref b13), .val (.int (own_j0_170_L13 i0 i1 i2 i3 i4 i5)), .val (.int (own_cnt (own_j0_170_count i0 i1 i2 i3 i4 i5))), .val (.int (own_v0_228 i0 i1 i2 i3 i4 i5)), .val (.int (own_j0_259_S0 i0 i1 i2 i3 i4 i5)), .val (.int (own_cnt ((own_tl (own_v0_45 i0 i1 i2 i3 i4 i5) (own_v0_58 i0 i1 i2 i3 i4 i5) (own_j0_170_count i0 i1 i2 i3 i4 i5) (own_j0_170_afterCarriageReturn i0 i1 i2 i3 i4 i5) (own_j0_105_xml11 i0 i1 i2 i3 i4 i5) ((own_draw i0).toInt8.toInt32) ((own_draw i1).toInt8.toInt32) ((own_draw i2).toInt8.toInt32) ((own_draw i3).toInt8.toInt32) 5 (own_j0_170_count i0 i1 i2 i3 i4 i5) (own_j0_170_afterCarriageReturn i0 i1 i2 i3 i4 i5) (own_v0_45 i0 i1 i2 i3 i4 i5)).1))), .val (.int (own_cnt (own_tc (10 : Int32) ((own_tl (own_v0_45 i0 i1 i2 i3 i4 i5) (own_v0_58 i0 i1 i2 i3 i4 i5) (own_j0_170_count i0 i1 i2 i3 i4 i5) (own_j0_170_afterCarriageReturn i0 i1 i2 i3 i4 i5) (own_j0_105_xml11 i0 i1 i2 i3 i4 i5) ((own_draw i0).toInt8.toInt32) ((own_draw i1).toInt8.toInt32) ((own_draw i2).toInt8.toInt32) ((own_draw i3).toInt8.toInt32) 5 (own_j0_170_count i0 i1 i2 i3 i4 i5) (own_j0_170_afterCarriageReturn i0 i1 i2 i3 i4 i5) (own_v0_45 i0 i1 i2 i3 i4 i5)).1) ((own_tl (own_v0_45 i0 i1 i2 i3 i4 i5) (own_v0_58 i0 i1 i2 i3 i4 i5) (own_j0_170_count i0 i1 i2 i3 i4 i5) (own_j0_170_afterCarriageReturn i0 i1 i2 i3 i4 i5) (own_j0_105_xml11 i0 i1 i2 i3 i4 i5) ((own_draw i0).toInt8.toInt32) ((own_draw i1).toInt8.toInt32) ((own_draw i2).toInt8.toInt32) ((own_draw i3).toInt8.toInt32) 5 (own_j0_170_count i0 i1 i2 i3 i4 i5) (own_j0_170_afterCarriageReturn i0 i1 i2 i3 i4 i5) (own_v0_45 i0 i1 i2 i3 i4 i5)).2) (own_j0_105_xml11 i0 i1 i2 i3 i4 i5))))] [(.int (own_cnt (own_tc (10 : Int32) ((own_tl (own_v0_45 i0 i1 i2 i3 i4 i5) (own_v0_58 i0 i1 i2 i3 i4 i5) (own_j0_170_count i0 i1 i2 i3 i4 i5) (own_j0_170_afterCarriageReturn i0 i1 i2 i3 i4 i5) (own_j0_105_xml11 i0 i1 i2 i3 i4 i5) ((own_draw i0).toInt8.toInt32) ((own_draw i1).toInt8.toInt32) ((own_draw i2).toInt8.toInt32) ((own_draw i3).toInt8.toInt32) 5 (own_j0_170_count i0 i1 i2 i3 i4 i5) (own_j0_170_afterCarriageReturn i0 i1 i2 i3 i4 i5) (own_v0_45 i0 i1 i2 i3 i4 i5)).1) ((own_tl (own_v0_45 i0 i1 i2 i3 i4 i5) (own_v0_58 i0 i1 i2 i3 i4 i5) (own_j0_170_count i0 i1 i2 i3 i4 i5) (own_j0_170_afterCarriageReturn i0 i1 i2 i3 i4 i5) (own_j0_105_xml11 i0 i1 i2 i3 i4 i5) ((own_draw i0).toInt8.toInt32) ((own_draw i1).toInt8.toInt32) ((own_draw i2).toInt8.toInt32) ((own_draw i3).toInt8.toInt32) 5 (own_j0_170_count i0 i1 i2 i3 i4 i5) (own_j0_170_afterCarriageReturn i0 i1 i2 i3 i4 i5) (own_v0_45 i0 i1 i2 i3 i4 i5)).2) (own_j0_105_xml11 i0 i1 i2 i3 i4 i5))))])) _
              refine XS.iload X43.here hx rfl (hb hby at_305) rfl ?_
              show Steps p.tables e below (T43.setTop (mkF m 307 #[.val (.int i0), .val (.int i1), .val (.int i2), .val (.int i3), .val (.int i4), .val (.int i5), .val (.ref b1), .val (.int (own_v0_45 i0 i1 i2 i3 i4 i5)), .val (.int (own_v0_58 i0 i1 i2 i3 i4 i5)), .val (.int (i5 &&& (3 : Int32))), .val (.int (own_j0_78_S0 i0 i1 i2 i3 i4 i5)), .val (.int (own_v0_84 i0 i1 i2 i3 i4 i5)), .val (.ref b13), .val (.int (own_j0_170_L13 i0 i1 i2 i3 i4 i5)), .val (.int (own_cnt (own_j0_170_count i0 i1 i2 i3 i4 i5))), .val (.int (own_v0_228 i0 i1 i2 i3 i4 i5)), .val (.int (own_j0_259_S0 i0 i1 i2 i3 i4 i5)), .val (.int (own_cnt ((own_tl (own_v0_45 i0 i1 i2 i3 i4 i5) (own_v0_58 i0 i1 i2 i3 i4 i5) (own_j0_170_count i0 i1 i2 i3 i4 i5) (own_j0_170_afterCarriageReturn i0 i1 i2 i3 i4 i5) (own_j0_105_xml11 i0 i1 i2 i3 i4 i5) ((own_draw i0).toInt8.toInt32) ((own_draw i1).toInt8.toInt32) ((own_draw i2).toInt8.toInt32) ((own_draw i3).toInt8.toInt32) 5 (own_j0_170_count i0 i1 i2 i3 i4 i5) (own_j0_170_afterCarriageReturn i0 i1 i2 i3 i4 i5) (own_v0_45 i0 i1 i2 i3 i4 i5)).1))), .val (.int (own_cnt (own_tc (10 : Int32) ((own_tl (own_v0_45 i0 i1 i2 i3 i4 i5) (own_v0_58 i0 i1 i2 i3 i4 i5) (own_j0_170_count i0 i1 i2 i3 i4 i5) (own_j0_170_afterCarriageReturn i0 i1 i2 i3 i4 i5) (own_j0_105_xml11 i0 i1 i2 i3 i4 i5) ((own_draw i0).toInt8.toInt32) ((own_draw i1).toInt8.toInt32) ((own_draw i2).toInt8.toInt32) ((own_draw i3).toInt8.toInt32) 5 (own_j0_170_count i0 i1 i2 i3 i4 i5) (own_j0_170_afterCarriageReturn i0 i1 i2 i3 i4 i5) (own_v0_45 i0 i1 i2 i3 i4 i5)).1) ((own_tl (own_v0_45 i0 i1 i2 i3 i4 i5) (own_v0_58 i0 i1 i2 i3 i4 i5) (own_j0_170_count i0 i1 i2 i3 i4 i5) (own_j0_170_afterCarriageReturn i0 i1 i2 i3 i4 i5) (own_j0_105_xml11 i0 i1 i2 i3 i4 i5) ((own_draw i0).toInt8.toInt32) ((own_draw i1).toInt8.toInt32) ((own_draw i2).toInt8.toInt32) ((own_draw i3).toInt8.toInt32) 5 (own_j0_170_count i0 i1 i2 i3 i4 i5) (own_j0_170_afterCarriageReturn i0 i1 i2 i3 i4 i5) (own_v0_45 i0 i1 i2 i3 i4 i5)).2) (own_j0_105_xml11 i0 i1 i2 i3 i4 i5))))] [(.int (own_cnt ((own_tl (own_v0_45 i0 i1 i2 i3 i4 i5) (own_v0_58 i0 i1 i2 i3 i4 i5) (own_j0_170_count i0 i1 i2 i3 i4 i5) (own_j0_170_afterCarriageReturn i0 i1 i2 i3 i4 i5) (own_j0_105_xml11 i0 i1 i2 i3 i4 i5) ((own_draw i0).toInt8.toInt32) ((own_draw i1).toInt8.toInt32) ((own_draw i2).toInt8.toInt32) ((own_draw i3).toInt8.toInt32) 5 (own_j0_170_count i0 i1 i2 i3 i4 i5) (own_j0_170_afterCarriageReturn i0 i1 i2 i3 i4 i5) (own_v0_45 i0 i1 i2 i3 i4 i5)).1))), (.int (own_cnt (own_tc (10 : Int32) ((own_tl (own_v0_45 i0 i1 i2 i3 i4 i5) (own_v0_58 i0 i1 i2 i3 i4 i5) (own_j0_170_count i0 i1 i2 i3 i4 i5) (own_j0_170_afterCarriageReturn i0 i1 i2 i3 i4 i5) (own_j0_105_xml11 i0 i1 i2 i3 i4 i5) ((own_draw i0).toInt8.toInt32) ((own_draw i1).toInt8.toInt32) ((own_draw i2).toInt8.toInt32) ((own_draw i3).toInt8.toInt32) 5 (own_j0_170_count i0 i1 i2 i3 i4 i5) (own_j0_170_afterCarriageReturn i0 i1 i2 i3 i4 i5) (own_v0_45 i0 i1 i2 i3 i4 i5)).1) ((own_tl (own_v0_45 i0 i1 i2 i3 i4 i5) (own_v0_58 i0 i1 i2 i3 i4 i5) (own_j0_170_count i0 i1 i2 i3 i4 i5) (own_j0_170_afterCarriageReturn i0 i1 i2 i3 i4 i5) (own_j0_105_xml11 i0 i1 i2 i3 i4 i5) ((own_draw i0).toInt8.toInt32) ((own_draw i1).toInt8.toInt32) ((own_draw i2).toInt8.toInt32) ((own_draw i3).toInt8.toInt32) 5 (own_j0_170_count i0 i1 i2 i3 i4 i5) (own_j0_170_afterCarriageReturn i0 i1 i2 i3 i4 i5) (own_v0_45 i0 i1 i2 i3 i4 i5)).2) (own_j0_105_xml11 i0 i1 i2 i3 i4 i5))))])) _
              refine XS.isub X43.here hx rfl (hb hby at_307) rfl ?_
              show Steps p.tables e below (T43.setTop (mkF m 308 #[.val (.int i0), .val (.int i1), .val (.int i2), .val (.int i3), .val (.int i4), .val (.int i5), .val (.ref b1), .val (.int (own_v0_45 i0 i1 i2 i3 i4 i5)), .val (.int (own_v0_58 i0 i1 i2 i3 i4 i5)), .val (.int (i5 &&& (3 : Int32))), .val (.int (own_j0_78_S0 i0 i1 i2 i3 i4 i5)), .val (.int (own_v0_84 i0 i1 i2 i3 i4 i5)), .val (.ref b13), .val (.int (own_j0_170_L13 i0 i1 i2 i3 i4 i5)), .val (.int (own_cnt (own_j0_170_count i0 i1 i2 i3 i4 i5))), .val (.int (own_v0_228 i0 i1 i2 i3 i4 i5)), .val (.int (own_j0_259_S0 i0 i1 i2 i3 i4 i5)), .val (.int (own_cnt ((own_tl (own_v0_45 i0 i1 i2 i3 i4 i5) (own_v0_58 i0 i1 i2 i3 i4 i5) (own_j0_170_count i0 i1 i2 i3 i4 i5) (own_j0_170_afterCarriageReturn i0 i1 i2 i3 i4 i5) (own_j0_105_xml11 i0 i1 i2 i3 i4 i5) ((own_draw i0).toInt8.toInt32) ((own_draw i1).toInt8.toInt32) ((own_draw i2).toInt8.toInt32) ((own_draw i3).toInt8.toInt32) 5 (own_j0_170_count i0 i1 i2 i3 i4 i5) (own_j0_170_afterCarriageReturn i0 i1 i2 i3 i4 i5) (own_v0_45 i0 i1 i2 i3 i4 i5)).1))), .val (.int (own_cnt (own_tc (10 : Int32) ((own_tl (own_v0_45 i0 i1 i2 i3 i4 i5) (own_v0_58 i0 i1 i2 i3 i4 i5) (own_j0_170_count i0 i1 i2 i3 i4 i5) (own_j0_170_afterCarriageReturn i0 i1 i2 i3 i4 i5) (own_j0_105_xml11 i0 i1 i2 i3 i4 i5) ((own_draw i0).toInt8.toInt32) ((own_draw i1).toInt8.toInt32) ((own_draw i2).toInt8.toInt32) ((own_draw i3).toInt8.toInt32) 5 (own_j0_170_count i0 i1 i2 i3 i4 i5) (own_j0_170_afterCarriageReturn i0 i1 i2 i3 i4 i5) (own_v0_45 i0 i1 i2 i3 i4 i5)).1) ((own_tl (own_v0_45 i0 i1 i2 i3 i4 i5) (own_v0_58 i0 i1 i2 i3 i4 i5) (own_j0_170_count i0 i1 i2 i3 i4 i5) (own_j0_170_afterCarriageReturn i0 i1 i2 i3 i4 i5) (own_j0_105_xml11 i0 i1 i2 i3 i4 i5) ((own_draw i0).toInt8.toInt32) ((own_draw i1).toInt8.toInt32) ((own_draw i2).toInt8.toInt32) ((own_draw i3).toInt8.toInt32) 5 (own_j0_170_count i0 i1 i2 i3 i4 i5) (own_j0_170_afterCarriageReturn i0 i1 i2 i3 i4 i5) (own_v0_45 i0 i1 i2 i3 i4 i5)).2) (own_j0_105_xml11 i0 i1 i2 i3 i4 i5))))] [(.int ((own_cnt (own_tc (10 : Int32) ((own_tl (own_v0_45 i0 i1 i2 i3 i4 i5) (own_v0_58 i0 i1 i2 i3 i4 i5) (own_j0_170_count i0 i1 i2 i3 i4 i5) (own_j0_170_afterCarriageReturn i0 i1 i2 i3 i4 i5) (own_j0_105_xml11 i0 i1 i2 i3 i4 i5) ((own_draw i0).toInt8.toInt32) ((own_draw i1).toInt8.toInt32) ((own_draw i2).toInt8.toInt32) ((own_draw i3).toInt8.toInt32) 5 (own_j0_170_count i0 i1 i2 i3 i4 i5) (own_j0_170_afterCarriageReturn i0 i1 i2 i3 i4 i5) (own_v0_45 i0 i1 i2 i3 i4 i5)).1) ((own_tl (own_v0_45 i0 i1 i2 i3 i4 i5) (own_v0_58 i0 i1 i2 i3 i4 i5) (own_j0_170_count i0 i1 i2 i3 i4 i5) (own_j0_170_afterCarriageReturn i0 i1 i2 i3 i4 i5) (own_j0_105_xml11 i0 i1 i2 i3 i4 i5) ((own_draw i0).toInt8.toInt32) ((own_draw i1).toInt8.toInt32) ((own_draw i2).toInt8.toInt32) ((own_draw i3).toInt8.toInt32) 5 (own_j0_170_count i0 i1 i2 i3 i4 i5) (own_j0_170_afterCarriageReturn i0 i1 i2 i3 i4 i5) (own_v0_45 i0 i1 i2 i3 i4 i5)).2) (own_j0_105_xml11 i0 i1 i2 i3 i4 i5))) - (own_cnt ((own_tl (own_v0_45 i0 i1 i2 i3 i4 i5) (own_v0_58 i0 i1 i2 i3 i4 i5) (own_j0_170_count i0 i1 i2 i3 i4 i5) (own_j0_170_afterCarriageReturn i0 i1 i2 i3 i4 i5) (own_j0_105_xml11 i0 i1 i2 i3 i4 i5) ((own_draw i0).toInt8.toInt32) ((own_draw i1).toInt8.toInt32) ((own_draw i2).toInt8.toInt32) ((own_draw i3).toInt8.toInt32) 5 (own_j0_170_count i0 i1 i2 i3 i4 i5) (own_j0_170_afterCarriageReturn i0 i1 i2 i3 i4 i5) (own_v0_45 i0 i1 i2 i3 i4 i5)).1))))])) _
              refine XS.iload X43.here hx rfl (hb hby at_308) rfl ?_
              exact kt
            have J47 : ∀ (TJ47 : State) (locsJ47 : List Loc), Stand p l e room_1 s m #[(.int i0), (.int i1), (.int i2), (.int i3), (.int i4), (.int i5)] below meth c TJ47 locsJ47 2 7 → TJ47.heap = T42.heap → Fr n0 locsJ47 → ownE p e below s (own_Q0 Z i0 i1 i2 i3 i4 i5 h0 n0) 2 7 TJ47 (mkF m 318 #[.val (.int i0), .val (.int i1), .val (.int i2), .val (.int i3), .val (.int i4), .val (.int i5), .val (.ref b1), .val (.int (own_v0_45 i0 i1 i2 i3 i4 i5)), .val (.int (own_v0_58 i0 i1 i2 i3 i4 i5)), .val (.int (i5 &&& (3 : Int32))), .val (.int (own_j0_78_S0 i0 i1 i2 i3 i4 i5)), .val (.int (own_v0_84 i0 i1 i2 i3 i4 i5)), .val (.ref b13), .val (.int (own_j0_170_L13 i0 i1 i2 i3 i4 i5)), .val (.int (own_cnt (own_j0_170_count i0 i1 i2 i3 i4 i5))), .val (.int (own_v0_228 i0 i1 i2 i3 i4 i5)), .val (.int (own_j0_259_S0 i0 i1 i2 i3 i4 i5)), .val (.int (own_cnt ((own_tl (own_v0_45 i0 i1 i2 i3 i4 i5) (own_v0_58 i0 i1 i2 i3 i4 i5) (own_j0_170_count i0 i1 i2 i3 i4 i5) (own_j0_170_afterCarriageReturn i0 i1 i2 i3 i4 i5) (own_j0_105_xml11 i0 i1 i2 i3 i4 i5) ((own_draw i0).toInt8.toInt32) ((own_draw i1).toInt8.toInt32) ((own_draw i2).toInt8.toInt32) ((own_draw i3).toInt8.toInt32) 5 (own_j0_170_count i0 i1 i2 i3 i4 i5) (own_j0_170_afterCarriageReturn i0 i1 i2 i3 i4 i5) (own_v0_45 i0 i1 i2 i3 i4 i5)).1))), .val (.int (own_cnt (own_tc (10 : Int32) ((own_tl (own_v0_45 i0 i1 i2 i3 i4 i5) (own_v0_58 i0 i1 i2 i3 i4 i5) (own_j0_170_count i0 i1 i2 i3 i4 i5) (own_j0_170_afterCarriageReturn i0 i1 i2 i3 i4 i5) (own_j0_105_xml11 i0 i1 i2 i3 i4 i5) ((own_draw i0).toInt8.toInt32) ((own_draw i1).toInt8.toInt32) ((own_draw i2).toInt8.toInt32) ((own_draw i3).toInt8.toInt32) 5 (own_j0_170_count i0 i1 i2 i3 i4 i5) (own_j0_170_afterCarriageReturn i0 i1 i2 i3 i4 i5) (own_v0_45 i0 i1 i2 i3 i4 i5)).1) ((own_tl (own_v0_45 i0 i1 i2 i3 i4 i5) (own_v0_58 i0 i1 i2 i3 i4 i5) (own_j0_170_count i0 i1 i2 i3 i4 i5) (own_j0_170_afterCarriageReturn i0 i1 i2 i3 i4 i5) (own_j0_105_xml11 i0 i1 i2 i3 i4 i5) ((own_draw i0).toInt8.toInt32) ((own_draw i1).toInt8.toInt32) ((own_draw i2).toInt8.toInt32) ((own_draw i3).toInt8.toInt32) 5 (own_j0_170_count i0 i1 i2 i3 i4 i5) (own_j0_170_afterCarriageReturn i0 i1 i2 i3 i4 i5) (own_v0_45 i0 i1 i2 i3 i4 i5)).2) (own_j0_105_xml11 i0 i1 i2 i3 i4 i5))))] [(.int (own_j0_318_S0 i0 i1 i2 i3 i4 i5)), (.int ((own_cnt (own_tc (10 : Int32) ((own_tl (own_v0_45 i0 i1 i2 i3 i4 i5) (own_v0_58 i0 i1 i2 i3 i4 i5) (own_j0_170_count i0 i1 i2 i3 i4 i5) (own_j0_170_afterCarriageReturn i0 i1 i2 i3 i4 i5) (own_j0_105_xml11 i0 i1 i2 i3 i4 i5) ((own_draw i0).toInt8.toInt32) ((own_draw i1).toInt8.toInt32) ((own_draw i2).toInt8.toInt32) ((own_draw i3).toInt8.toInt32) 5 (own_j0_170_count i0 i1 i2 i3 i4 i5) (own_j0_170_afterCarriageReturn i0 i1 i2 i3 i4 i5) (own_v0_45 i0 i1 i2 i3 i4 i5)).1) ((own_tl (own_v0_45 i0 i1 i2 i3 i4 i5) (own_v0_58 i0 i1 i2 i3 i4 i5) (own_j0_170_count i0 i1 i2 i3 i4 i5) (own_j0_170_afterCarriageReturn i0 i1 i2 i3 i4 i5) (own_j0_105_xml11 i0 i1 i2 i3 i4 i5) ((own_draw i0).toInt8.toInt32) ((own_draw i1).toInt8.toInt32) ((own_draw i2).toInt8.toInt32) ((own_draw i3).toInt8.toInt32) 5 (own_j0_170_count i0 i1 i2 i3 i4 i5) (own_j0_170_afterCarriageReturn i0 i1 i2 i3 i4 i5) (own_v0_45 i0 i1 i2 i3 i4 i5)).2) (own_j0_105_xml11 i0 i1 i2 i3 i4 i5))) - (own_cnt ((own_tl (own_v0_45 i0 i1 i2 i3 i4 i5) (own_v0_58 i0 i1 i2 i3 i4 i5) (own_j0_170_count i0 i1 i2 i3 i4 i5) (own_j0_170_afterCarriageReturn i0 i1 i2 i3 i4 i5) (own_j0_105_xml11 i0 i1 i2 i3 i4 i5) ((own_draw i0).toInt8.toInt32) ((own_draw i1).toInt8.toInt32) ((own_draw i2).toInt8.toInt32) ((own_draw i3).toInt8.toInt32) 5 (own_j0_170_count i0 i1 i2 i3 i4 i5) (own_j0_170_afterCarriageReturn i0 i1 i2 i3 i4 i5) (own_v0_45 i0 i1 i2 i3 i4 i5)).1))))]) := by
              intro TJ47 locsJ47 XJ47 eJ47 NJ47
              by_cases hc48 : ((own_cnt (own_tc (10 : Int32) ((own_tl (own_v0_45 i0 i1 i2 i3 i4 i5) (own_v0_58 i0 i1 i2 i3 i4 i5) (own_j0_170_count i0 i1 i2 i3 i4 i5) (own_j0_170_afterCarriageReturn i0 i1 i2 i3 i4 i5) (own_j0_105_xml11 i0 i1 i2 i3 i4 i5) ((own_draw i0).toInt8.toInt32) ((own_draw i1).toInt8.toInt32) ((own_draw i2).toInt8.toInt32) ((own_draw i3).toInt8.toInt32) 5 (own_j0_170_count i0 i1 i2 i3 i4 i5) (own_j0_170_afterCarriageReturn i0 i1 i2 i3 i4 i5) (own_v0_45 i0 i1 i2 i3 i4 i5)).1) ((own_tl (own_v0_45 i0 i1 i2 i3 i4 i5) (own_v0_58 i0 i1 i2 i3 i4 i5) (own_j0_170_count i0 i1 i2 i3 i4 i5) (own_j0_170_afterCarriageReturn i0 i1 i2 i3 i4 i5) (own_j0_105_xml11 i0 i1 i2 i3 i4 i5) ((own_draw i0).toInt8.toInt32) ((own_draw i1).toInt8.toInt32) ((own_draw i2).toInt8.toInt32) ((own_draw i3).toInt8.toInt32) 5 (own_j0_170_count i0 i1 i2 i3 i4 i5) (own_j0_170_afterCarriageReturn i0 i1 i2 i3 i4 i5) (own_v0_45 i0 i1 i2 i3 i4 i5)).2) (own_j0_105_xml11 i0 i1 i2 i3 i4 i5))) - (own_cnt ((own_tl (own_v0_45 i0 i1 i2 i3 i4 i5) (own_v0_58 i0 i1 i2 i3 i4 i5) (own_j0_170_count i0 i1 i2 i3 i4 i5) (own_j0_170_afterCarriageReturn i0 i1 i2 i3 i4 i5) (own_j0_105_xml11 i0 i1 i2 i3 i4 i5) ((own_draw i0).toInt8.toInt32) ((own_draw i1).toInt8.toInt32) ((own_draw i2).toInt8.toInt32) ((own_draw i3).toInt8.toInt32) 5 (own_j0_170_count i0 i1 i2 i3 i4 i5) (own_j0_170_afterCarriageReturn i0 i1 i2 i3 i4 i5) (own_v0_45 i0 i1 i2 i3 i4 i5)).1))) = (own_j0_318_S0 i0 i1 i2 i3 i4 i5)
              · -- pc 318
                refine ownE.go (T' := TJ47) (f' := (mkF m 321 #[.val (.int i0), .val (.int i1), .val (.int i2), .val (.int i3), .val (.int i4), .val (.int i5), .val (.ref b1), .val (.int (own_v0_45 i0 i1 i2 i3 i4 i5)), .val (.int (own_v0_58 i0 i1 i2 i3 i4 i5)), .val (.int (i5 &&& (3 : Int32))), .val (.int (own_j0_78_S0 i0 i1 i2 i3 i4 i5)), .val (.int (own_v0_84 i0 i1 i2 i3 i4 i5)), .val (.ref b13), .val (.int (own_j0_170_L13 i0 i1 i2 i3 i4 i5)), .val (.int (own_cnt (own_j0_170_count i0 i1 i2 i3 i4 i5))), .val (.int (own_v0_228 i0 i1 i2 i3 i4 i5)), .val (.int (own_j0_259_S0 i0 i1 i2 i3 i4 i5)), .val (.int (own_cnt ((own_tl (own_v0_45 i0 i1 i2 i3 i4 i5) (own_v0_58 i0 i1 i2 i3 i4 i5) (own_j0_170_count i0 i1 i2 i3 i4 i5) (own_j0_170_afterCarriageReturn i0 i1 i2 i3 i4 i5) (own_j0_105_xml11 i0 i1 i2 i3 i4 i5) ((own_draw i0).toInt8.toInt32) ((own_draw i1).toInt8.toInt32) ((own_draw i2).toInt8.toInt32) ((own_draw i3).toInt8.toInt32) 5 (own_j0_170_count i0 i1 i2 i3 i4 i5) (own_j0_170_afterCarriageReturn i0 i1 i2 i3 i4 i5) (own_v0_45 i0 i1 i2 i3 i4 i5)).1))), .val (.int (own_cnt (own_tc (10 : Int32) ((own_tl (own_v0_45 i0 i1 i2 i3 i4 i5) (own_v0_58 i0 i1 i2 i3 i4 i5) (own_j0_170_count i0 i1 i2 i3 i4 i5) (own_j0_170_afterCarriageReturn i0 i1 i2 i3 i4 i5) (own_j0_105_xml11 i0 i1 i2 i3 i4 i5) ((own_draw i0).toInt8.toInt32) ((own_draw i1).toInt8.toInt32) ((own_draw i2).toInt8.toInt32) ((own_draw i3).toInt8.toInt32) 5 (own_j0_170_count i0 i1 i2 i3 i4 i5) (own_j0_170_afterCarriageReturn i0 i1 i2 i3 i4 i5) (own_v0_45 i0 i1 i2 i3 i4 i5)).1) ((own_tl (own_v0_45 i0 i1 i2 i3 i4 i5) (own_v0_58 i0 i1 i2 i3 i4 i5) (own_j0_170_count i0 i1 i2 i3 i4 i5) (own_j0_170_afterCarriageReturn i0 i1 i2 i3 i4 i5) (own_j0_105_xml11 i0 i1 i2 i3 i4 i5) ((own_draw i0).toInt8.toInt32) ((own_draw i1).toInt8.toInt32) ((own_draw i2).toInt8.toInt32) ((own_draw i3).toInt8.toInt32) 5 (own_j0_170_count i0 i1 i2 i3 i4 i5) (own_j0_170_afterCarriageReturn i0 i1 i2 i3 i4 i5) (own_v0_45 i0 i1 i2 i3 i4 i5)).2) (own_j0_105_xml11 i0 i1 i2 i3 i4 i5))))] [])) (fun t kt => XS.icmpNo (g := (mkF m 318 #[.val (.int i0), .val (.int i1), .val (.int i2), .val (.int i3), .val (.int i4), .val (.int i5), .val (.ref b1), .val (.int (own_v0_45 i0 i1 i2 i3 i4 i5)), .val (.int (own_v0_58 i0 i1 i2 i3 i4 i5)), .val (.int (i5 &&& (3 : Int32))), .val (.int (own_j0_78_S0 i0 i1 i2 i3 i4 i5)), .val (.int (own_v0_84 i0 i1 i2 i3 i4 i5)), .val (.ref b13), .val (.int (own_j0_170_L13 i0 i1 i2 i3 i4 i5)), .val (.int (own_cnt (own_j0_170_count i0 i1 i2 i3 i4 i5))), .val (.int (own_v0_228 i0 i1 i2 i3 i4 i5)), .val (.int (own_j0_259_S0 i0 i1 i2 i3 i4 i5)), .val (.int (own_cnt ((own_tl (own_v0_45 i0 i1 i2 i3 i4 i5) (own_v0_58 i0 i1 i2 i3 i4 i5) (own_j0_170_count i0 i1 i2 i3 i4 i5) (own_j0_170_afterCarriageReturn i0 i1 i2 i3 i4 i5) (own_j0_105_xml11 i0 i1 i2 i3 i4 i5) ((own_draw i0).toInt8.toInt32) ((own_draw i1).toInt8.toInt32) ((own_draw i2).toInt8.toInt32) ((own_draw i3).toInt8.toInt32) 5 (own_j0_170_count i0 i1 i2 i3 i4 i5) (own_j0_170_afterCarriageReturn i0 i1 i2 i3 i4 i5) (own_v0_45 i0 i1 i2 i3 i4 i5)).1))), .val (.int (own_cnt (own_tc (10 : Int32) ((own_tl (own_v0_45 i0 i1 i2 i3 i4 i5) (own_v0_58 i0 i1 i2 i3 i4 i5) (own_j0_170_count i0 i1 i2 i3 i4 i5) (own_j0_170_afterCarriageReturn i0 i1 i2 i3 i4 i5) (own_j0_105_xml11 i0 i1 i2 i3 i4 i5) ((own_draw i0).toInt8.toInt32) ((own_draw i1).toInt8.toInt32) ((own_draw i2).toInt8.toInt32) ((own_draw i3).toInt8.toInt32) 5 (own_j0_170_count i0 i1 i2 i3 i4 i5) (own_j0_170_afterCarriageReturn i0 i1 i2 i3 i4 i5) (own_v0_45 i0 i1 i2 i3 i4 i5)).1) ((own_tl (own_v0_45 i0 i1 i2 i3 i4 i5) (own_v0_58 i0 i1 i2 i3 i4 i5) (own_j0_170_count i0 i1 i2 i3 i4 i5) (own_j0_170_afterCarriageReturn i0 i1 i2 i3 i4 i5) (own_j0_105_xml11 i0 i1 i2 i3 i4 i5) ((own_draw i0).toInt8.toInt32) ((own_draw i1).toInt8.toInt32) ((own_draw i2).toInt8.toInt32) ((own_draw i3).toInt8.toInt32) 5 (own_j0_170_count i0 i1 i2 i3 i4 i5) (own_j0_170_afterCarriageReturn i0 i1 i2 i3 i4 i5) (own_v0_45 i0 i1 i2 i3 i4 i5)).2) (own_j0_105_xml11 i0 i1 i2 i3 i4 i5))))] [(.int (own_j0_318_S0 i0 i1 i2 i3 i4 i5)), (.int ((own_cnt (own_tc (10 : Int32) ((own_tl (own_v0_45 i0 i1 i2 i3 i4 i5) (own_v0_58 i0 i1 i2 i3 i4 i5) (own_j0_170_count i0 i1 i2 i3 i4 i5) (own_j0_170_afterCarriageReturn i0 i1 i2 i3 i4 i5) (own_j0_105_xml11 i0 i1 i2 i3 i4 i5) ((own_draw i0).toInt8.toInt32) ((own_draw i1).toInt8.toInt32) ((own_draw i2).toInt8.toInt32) ((own_draw i3).toInt8.toInt32) 5 (own_j0_170_count i0 i1 i2 i3 i4 i5) (own_j0_170_afterCarriageReturn i0 i1 i2 i3 i4 i5) (own_v0_45 i0 i1 i2 i3 i4 i5)).1) ((own_tl (own_v0_45 i0 i1 i2 i3 i4 i5) (own_v0_58 i0 i1 i2 i3 i4 i5) (own_j0_170_count i0 i1 i2 i3 i4 i5) (own_j0_170_afterCarriageReturn i0 i1 i2 i3 i4 i5) (own_j0_105_xml11 i0 i1 i2 i3 i4 i5) ((own_draw i0).toInt8.toInt32) ((own_draw i1).toInt8.toInt32) ((own_draw i2).toInt8.toInt32) ((own_draw i3).toInt8.toInt32) 5 (own_j0_170_count i0 i1 i2 i3 i4 i5) (own_j0_170_afterCarriageReturn i0 i1 i2 i3 i4 i5) (own_v0_45 i0 i1 i2 i3 i4 i5)).2) (own_j0_105_xml11 i0 i1 i2 i3 i4 i5))) - (own_cnt ((own_tl (own_v0_45 i0 i1 i2 i3 i4 i5) (own_v0_58 i0 i1 i2 i3 i4 i5) (own_j0_170_count i0 i1 i2 i3 i4 i5) (own_j0_170_afterCarriageReturn i0 i1 i2 i3 i4 i5) (own_j0_105_xml11 i0 i1 i2 i3 i4 i5) ((own_draw i0).toInt8.toInt32) ((own_draw i1).toInt8.toInt32) ((own_draw i2).toInt8.toInt32) ((own_draw i3).toInt8.toInt32) 5 (own_j0_170_count i0 i1 i2 i3 i4 i5) (own_j0_170_afterCarriageReturn i0 i1 i2 i3 i4 i5) (own_v0_45 i0 i1 i2 i3 i4 i5)).1))))])) XJ47.here hx rfl (hb hby at_318) rfl (Jvm.Free.XT.ii_ne_f hc48) kt) ?_
                refine ownE.go (T' := TJ47) (f' := (mkF m 326 #[.val (.int i0), .val (.int i1), .val (.int i2), .val (.int i3), .val (.int i4), .val (.int i5), .val (.ref b1), .val (.int (own_v0_45 i0 i1 i2 i3 i4 i5)), .val (.int (own_v0_58 i0 i1 i2 i3 i4 i5)), .val (.int (i5 &&& (3 : Int32))), .val (.int (own_j0_78_S0 i0 i1 i2 i3 i4 i5)), .val (.int (own_v0_84 i0 i1 i2 i3 i4 i5)), .val (.ref b13), .val (.int (own_j0_170_L13 i0 i1 i2 i3 i4 i5)), .val (.int (own_cnt (own_j0_170_count i0 i1 i2 i3 i4 i5))), .val (.int (own_v0_228 i0 i1 i2 i3 i4 i5)), .val (.int (own_j0_259_S0 i0 i1 i2 i3 i4 i5)), .val (.int (own_cnt ((own_tl (own_v0_45 i0 i1 i2 i3 i4 i5) (own_v0_58 i0 i1 i2 i3 i4 i5) (own_j0_170_count i0 i1 i2 i3 i4 i5) (own_j0_170_afterCarriageReturn i0 i1 i2 i3 i4 i5) (own_j0_105_xml11 i0 i1 i2 i3 i4 i5) ((own_draw i0).toInt8.toInt32) ((own_draw i1).toInt8.toInt32) ((own_draw i2).toInt8.toInt32) ((own_draw i3).toInt8.toInt32) 5 (own_j0_170_count i0 i1 i2 i3 i4 i5) (own_j0_170_afterCarriageReturn i0 i1 i2 i3 i4 i5) (own_v0_45 i0 i1 i2 i3 i4 i5)).1))), .val (.int (own_cnt (own_tc (10 : Int32) ((own_tl (own_v0_45 i0 i1 i2 i3 i4 i5) (own_v0_58 i0 i1 i2 i3 i4 i5) (own_j0_170_count i0 i1 i2 i3 i4 i5) (own_j0_170_afterCarriageReturn i0 i1 i2 i3 i4 i5) (own_j0_105_xml11 i0 i1 i2 i3 i4 i5) ((own_draw i0).toInt8.toInt32) ((own_draw i1).toInt8.toInt32) ((own_draw i2).toInt8.toInt32) ((own_draw i3).toInt8.toInt32) 5 (own_j0_170_count i0 i1 i2 i3 i4 i5) (own_j0_170_afterCarriageReturn i0 i1 i2 i3 i4 i5) (own_v0_45 i0 i1 i2 i3 i4 i5)).1) ((own_tl (own_v0_45 i0 i1 i2 i3 i4 i5) (own_v0_58 i0 i1 i2 i3 i4 i5) (own_j0_170_count i0 i1 i2 i3 i4 i5) (own_j0_170_afterCarriageReturn i0 i1 i2 i3 i4 i5) (own_j0_105_xml11 i0 i1 i2 i3 i4 i5) ((own_draw i0).toInt8.toInt32) ((own_draw i1).toInt8.toInt32) ((own_draw i2).toInt8.toInt32) ((own_draw i3).toInt8.toInt32) 5 (own_j0_170_count i0 i1 i2 i3 i4 i5) (own_j0_170_afterCarriageReturn i0 i1 i2 i3 i4 i5) (own_v0_45 i0 i1 i2 i3 i4 i5)).2) (own_j0_105_xml11 i0 i1 i2 i3 i4 i5))))] [(.int (1 : Int32))])) (fun t kt => ?_) ?_
                · show Steps p.tables e below (TJ47.setTop (mkF m 321 #[.val (.int i0), .val (.int i1), .val (.int i2), .val (.int i3), .val (.int i4), .val (.int i5), .val (.ref b1), .val (.int (own_v0_45 i0 i1 i2 i3 i4 i5)), .val (.int (own_v0_58 i0 i1 i2 i3 i4 i5)), .val (.int (i5 &&& (3 : Int32))), .val (.int (own_j0_78_S0 i0 i1 i2 i3 i4 i5)), .val (.int (own_v0_84 i0 i1 i2 i3 i4 i5)), .val (.ref b13), .val (.int (own_j0_170_L13 i0 i1 i2 i3 i4 i5)), .val (.int (own_cnt (own_j0_170_count i0 i1 i2 i3 i4 i5))), .val (.int (own_v0_228 i0 i1 i2 i3 i4 i5)), .val (.int (own_j0_259_S0 i0 i1 i2 i3 i4 i5)), .val (.int (own_cnt ((own_tl (own_v0_45 i0 i1 i2 i3 i4 i5) (own_v0_58 i0 i1 i2 i3 i4 i5) (own_j0_170_count i0 i1 i2 i3 i4 i5) (own_j0_170_afterCarriageReturn i0 i1 i2 i3 i4 i5) (own_j0_105_xml11 i0 i1 i2 i3 i4 i5) ((own_draw i0).toInt8.toInt32) ((own_draw i1).toInt8.toInt32) ((own_draw i2).toInt8.toInt32) ((own_draw i3).toInt8.toInt32) 5 (own_j0_170_count i0 i1 i2 i3 i4 i5) (own_j0_170_afterCarriageReturn i0 i1 i2 i3 i4 i5) (own_v0_45 i0 i1 i2 i3 i4 i5)).1))), .val (.int (own_cnt (own_tc (10 : Int32) ((own_tl (own_v0_45 i0 i1 i2 i3 i4 i5) (own_v0_58 i0 i1 i2 i3 i4 i5) (own_j0_170_count i0 i1 i2 i3 i4 i5) (own_j0_170_afterCarriageReturn i0 i1 i2 i3 i4 i5) (own_j0_105_xml11 i0 i1 i2 i3 i4 i5) ((own_draw i0).toInt8.toInt32) ((own_draw i1).toInt8.toInt32) ((own_draw i2).toInt8.toInt32) ((own_draw i3).toInt8.toInt32) 5 (own_j0_170_count i0 i1 i2 i3 i4 i5) (own_j0_170_afterCarriageReturn i0 i1 i2 i3 i4 i5) (own_v0_45 i0 i1 i2 i3 i4 i5)).1) ((own_tl (own_v0_45 i0 i1 i2 i3 i4 i5) (own_v0_58 i0 i1 i2 i3 i4 i5) (own_j0_170_count i0 i1 i2 i3 i4 i5) (own_j0_170_afterCarriageReturn i0 i1 i2 i3 i4 i5) (own_j0_105_xml11 i0 i1 i2 i3 i4 i5) ((own_draw i0).toInt8.toInt32) ((own_draw i1).toInt8.toInt32) ((own_draw i2).toInt8.toInt32) ((own_draw i3).toInt8.toInt32) 5 (own_j0_170_count i0 i1 i2 i3 i4 i5) (own_j0_170_afterCarriageReturn i0 i1 i2 i3 i4 i5) (own_v0_45 i0 i1 i2 i3 i4 i5)).2) (own_j0_105_xml11 i0 i1 i2 i3 i4 i5))))] [])) _
                  refine XS.iconst XJ47.here hx rfl (hb hby at_321) ?_
                  show Steps p.tables e below (TJ47.setTop (mkF m 322 #[.val (.int i0), .val (.int i1), .val (.int i2), .val (.int i3), .val (.int i4), .val (.int i5), .val (.ref b1), .val (.int (own_v0_45 i0 i1 i2 i3 i4 i5)), .val (.int (own_v0_58 i0 i1 i2 i3 i4 i5)), .val (.int (i5 &&& (3 : Int32))), .val (.int (own_j0_78_S0 i0 i1 i2 i3 i4 i5)), .val (.int (own_v0_84 i0 i1 i2 i3 i4 i5)), .val (.ref b13), .val (.int (own_j0_170_L13 i0 i1 i2 i3 i4 i5)), .val (.int (own_cnt (own_j0_170_count i0 i1 i2 i3 i4 i5))), .val (.int (own_v0_228 i0 i1 i2 i3 i4 i5)), .val (.int (own_j0_259_S0 i0 i1 i2 i3 i4 i5)), .val (.int (own_cnt ((own_tl (own_v0_45 i0 i1 i2 i3 i4 i5) (own_v0_58 i0 i1 i2 i3 i4 i5) (own_j0_170_count i0 i1 i2 i3 i4 i5) (own_j0_170_afterCarriageReturn i0 i1 i2 i3 i4 i5) (own_j0_105_xml11 i0 i1 i2 i3 i4 i5) ((own_draw i0).toInt8.toInt32) ((own_draw i1).toInt8.toInt32) ((own_draw i2).toInt8.toInt32) ((own_draw i3).toInt8.toInt32) 5 (own_j0_170_count i0 i1 i2 i3 i4 i5) (own_j0_170_afterCarriageReturn i0 i1 i2 i3 i4 i5) (own_v0_45 i0 i1 i2 i3 i4 i5)).1))), .val (.int (own_cnt (own_tc (10 : Int32) ((own_tl (own_v0_45 i0 i1 i2 i3 i4 i5) (own_v0_58 i0 i1 i2 i3 i4 i5) (own_j0_170_count i0 i1 i2 i3 i4 i5) (own_j0_170_afterCarriageReturn i0 i1 i2 i3 i4 i5) (own_j0_105_xml11 i0 i1 i2 i3 i4 i5) ((own_draw i0).toInt8.toInt32) ((own_draw i1).toInt8.toInt32) ((own_draw i2).toInt8.toInt32) ((own_draw i3).toInt8.toInt32) 5 (own_j0_170_count i0 i1 i2 i3 i4 i5) (own_j0_170_afterCarriageReturn i0 i1 i2 i3 i4 i5) (own_v0_45 i0 i1 i2 i3 i4 i5)).1) ((own_tl (own_v0_45 i0 i1 i2 i3 i4 i5) (own_v0_58 i0 i1 i2 i3 i4 i5) (own_j0_170_count i0 i1 i2 i3 i4 i5) (own_j0_170_afterCarriageReturn i0 i1 i2 i3 i4 i5) (own_j0_105_xml11 i0 i1 i2 i3 i4 i5) ((own_draw i0).toInt8.toInt32) ((own_draw i1).toInt8.toInt32) ((own_draw i2).toInt8.toInt32) ((own_draw i3).toInt8.toInt32) 5 (own_j0_170_count i0 i1 i2 i3 i4 i5) (own_j0_170_afterCarriageReturn i0 i1 i2 i3 i4 i5) (own_v0_45 i0 i1 i2 i3 i4 i5)).2) (own_j0_105_xml11 i0 i1 i2 i3 i4 i5))))] [(.int (1 : Int32))])) _
                  refine XS.goto XJ47.here hx rfl (pc0 := 322) (pc' := 326) rfl (hb hby at_322) (by decide) (by decide) ?_
                  exact kt
                refine ownE.retN XJ47 hx hlk (t := .boolean) hret (by simp) (hb hby at_326) ?_ (by decide) (by decide)
                show own_Q0 Z i0 i1 i2 i3 i4 i5 h0 n0 _ TJ47.heap _
                rw [eJ47]
                exact ⟨(by rw [own_f0, if_pos hc44, if_pos hc48] <;> first | rfl | decide), NJ47, K42⟩
              · -- pc 318
                refine ownE.go (T' := TJ47) (f' := (mkF m 325 #[.val (.int i0), .val (.int i1), .val (.int i2), .val (.int i3), .val (.int i4), .val (.int i5), .val (.ref b1), .val (.int (own_v0_45 i0 i1 i2 i3 i4 i5)), .val (.int (own_v0_58 i0 i1 i2 i3 i4 i5)), .val (.int (i5 &&& (3 : Int32))), .val (.int (own_j0_78_S0 i0 i1 i2 i3 i4 i5)), .val (.int (own_v0_84 i0 i1 i2 i3 i4 i5)), .val (.ref b13), .val (.int (own_j0_170_L13 i0 i1 i2 i3 i4 i5)), .val (.int (own_cnt (own_j0_170_count i0 i1 i2 i3 i4 i5))), .val (.int (own_v0_228 i0 i1 i2 i3 i4 i5)), .val (.int (own_j0_259_S0 i0 i1 i2 i3 i4 i5)), .val (.int (own_cnt ((own_tl (own_v0_45 i0 i1 i2 i3 i4 i5) (own_v0_58 i0 i1 i2 i3 i4 i5) (own_j0_170_count i0 i1 i2 i3 i4 i5) (own_j0_170_afterCarriageReturn i0 i1 i2 i3 i4 i5) (own_j0_105_xml11 i0 i1 i2 i3 i4 i5) ((own_draw i0).toInt8.toInt32) ((own_draw i1).toInt8.toInt32) ((own_draw i2).toInt8.toInt32) ((own_draw i3).toInt8.toInt32) 5 (own_j0_170_count i0 i1 i2 i3 i4 i5) (own_j0_170_afterCarriageReturn i0 i1 i2 i3 i4 i5) (own_v0_45 i0 i1 i2 i3 i4 i5)).1))), .val (.int (own_cnt (own_tc (10 : Int32) ((own_tl (own_v0_45 i0 i1 i2 i3 i4 i5) (own_v0_58 i0 i1 i2 i3 i4 i5) (own_j0_170_count i0 i1 i2 i3 i4 i5) (own_j0_170_afterCarriageReturn i0 i1 i2 i3 i4 i5) (own_j0_105_xml11 i0 i1 i2 i3 i4 i5) ((own_draw i0).toInt8.toInt32) ((own_draw i1).toInt8.toInt32) ((own_draw i2).toInt8.toInt32) ((own_draw i3).toInt8.toInt32) 5 (own_j0_170_count i0 i1 i2 i3 i4 i5) (own_j0_170_afterCarriageReturn i0 i1 i2 i3 i4 i5) (own_v0_45 i0 i1 i2 i3 i4 i5)).1) ((own_tl (own_v0_45 i0 i1 i2 i3 i4 i5) (own_v0_58 i0 i1 i2 i3 i4 i5) (own_j0_170_count i0 i1 i2 i3 i4 i5) (own_j0_170_afterCarriageReturn i0 i1 i2 i3 i4 i5) (own_j0_105_xml11 i0 i1 i2 i3 i4 i5) ((own_draw i0).toInt8.toInt32) ((own_draw i1).toInt8.toInt32) ((own_draw i2).toInt8.toInt32) ((own_draw i3).toInt8.toInt32) 5 (own_j0_170_count i0 i1 i2 i3 i4 i5) (own_j0_170_afterCarriageReturn i0 i1 i2 i3 i4 i5) (own_v0_45 i0 i1 i2 i3 i4 i5)).2) (own_j0_105_xml11 i0 i1 i2 i3 i4 i5))))] [])) (fun t kt => XS.icmpYes (g := (mkF m 318 #[.val (.int i0), .val (.int i1), .val (.int i2), .val (.int i3), .val (.int i4), .val (.int i5), .val (.ref b1), .val (.int (own_v0_45 i0 i1 i2 i3 i4 i5)), .val (.int (own_v0_58 i0 i1 i2 i3 i4 i5)), .val (.int (i5 &&& (3 : Int32))), .val (.int (own_j0_78_S0 i0 i1 i2 i3 i4 i5)), .val (.int (own_v0_84 i0 i1 i2 i3 i4 i5)), .val (.ref b13), .val (.int (own_j0_170_L13 i0 i1 i2 i3 i4 i5)), .val (.int (own_cnt (own_j0_170_count i0 i1 i2 i3 i4 i5))), .val (.int (own_v0_228 i0 i1 i2 i3 i4 i5)), .val (.int (own_j0_259_S0 i0 i1 i2 i3 i4 i5)), .val (.int (own_cnt ((own_tl (own_v0_45 i0 i1 i2 i3 i4 i5) (own_v0_58 i0 i1 i2 i3 i4 i5) (own_j0_170_count i0 i1 i2 i3 i4 i5) (own_j0_170_afterCarriageReturn i0 i1 i2 i3 i4 i5) (own_j0_105_xml11 i0 i1 i2 i3 i4 i5) ((own_draw i0).toInt8.toInt32) ((own_draw i1).toInt8.toInt32) ((own_draw i2).toInt8.toInt32) ((own_draw i3).toInt8.toInt32) 5 (own_j0_170_count i0 i1 i2 i3 i4 i5) (own_j0_170_afterCarriageReturn i0 i1 i2 i3 i4 i5) (own_v0_45 i0 i1 i2 i3 i4 i5)).1))), .val (.int (own_cnt (own_tc (10 : Int32) ((own_tl (own_v0_45 i0 i1 i2 i3 i4 i5) (own_v0_58 i0 i1 i2 i3 i4 i5) (own_j0_170_count i0 i1 i2 i3 i4 i5) (own_j0_170_afterCarriageReturn i0 i1 i2 i3 i4 i5) (own_j0_105_xml11 i0 i1 i2 i3 i4 i5) ((own_draw i0).toInt8.toInt32) ((own_draw i1).toInt8.toInt32) ((own_draw i2).toInt8.toInt32) ((own_draw i3).toInt8.toInt32) 5 (own_j0_170_count i0 i1 i2 i3 i4 i5) (own_j0_170_afterCarriageReturn i0 i1 i2 i3 i4 i5) (own_v0_45 i0 i1 i2 i3 i4 i5)).1) ((own_tl (own_v0_45 i0 i1 i2 i3 i4 i5) (own_v0_58 i0 i1 i2 i3 i4 i5) (own_j0_170_count i0 i1 i2 i3 i4 i5) (own_j0_170_afterCarriageReturn i0 i1 i2 i3 i4 i5) (own_j0_105_xml11 i0 i1 i2 i3 i4 i5) ((own_draw i0).toInt8.toInt32) ((own_draw i1).toInt8.toInt32) ((own_draw i2).toInt8.toInt32) ((own_draw i3).toInt8.toInt32) 5 (own_j0_170_count i0 i1 i2 i3 i4 i5) (own_j0_170_afterCarriageReturn i0 i1 i2 i3 i4 i5) (own_v0_45 i0 i1 i2 i3 i4 i5)).2) (own_j0_105_xml11 i0 i1 i2 i3 i4 i5))))] [(.int (own_j0_318_S0 i0 i1 i2 i3 i4 i5)), (.int ((own_cnt (own_tc (10 : Int32) ((own_tl (own_v0_45 i0 i1 i2 i3 i4 i5) (own_v0_58 i0 i1 i2 i3 i4 i5) (own_j0_170_count i0 i1 i2 i3 i4 i5) (own_j0_170_afterCarriageReturn i0 i1 i2 i3 i4 i5) (own_j0_105_xml11 i0 i1 i2 i3 i4 i5) ((own_draw i0).toInt8.toInt32) ((own_draw i1).toInt8.toInt32) ((own_draw i2).toInt8.toInt32) ((own_draw i3).toInt8.toInt32) 5 (own_j0_170_count i0 i1 i2 i3 i4 i5) (own_j0_170_afterCarriageReturn i0 i1 i2 i3 i4 i5) (own_v0_45 i0 i1 i2 i3 i4 i5)).1) ((own_tl (own_v0_45 i0 i1 i2 i3 i4 i5) (own_v0_58 i0 i1 i2 i3 i4 i5) (own_j0_170_count i0 i1 i2 i3 i4 i5) (own_j0_170_afterCarriageReturn i0 i1 i2 i3 i4 i5) (own_j0_105_xml11 i0 i1 i2 i3 i4 i5) ((own_draw i0).toInt8.toInt32) ((own_draw i1).toInt8.toInt32) ((own_draw i2).toInt8.toInt32) ((own_draw i3).toInt8.toInt32) 5 (own_j0_170_count i0 i1 i2 i3 i4 i5) (own_j0_170_afterCarriageReturn i0 i1 i2 i3 i4 i5) (own_v0_45 i0 i1 i2 i3 i4 i5)).2) (own_j0_105_xml11 i0 i1 i2 i3 i4 i5))) - (own_cnt ((own_tl (own_v0_45 i0 i1 i2 i3 i4 i5) (own_v0_58 i0 i1 i2 i3 i4 i5) (own_j0_170_count i0 i1 i2 i3 i4 i5) (own_j0_170_afterCarriageReturn i0 i1 i2 i3 i4 i5) (own_j0_105_xml11 i0 i1 i2 i3 i4 i5) ((own_draw i0).toInt8.toInt32) ((own_draw i1).toInt8.toInt32) ((own_draw i2).toInt8.toInt32) ((own_draw i3).toInt8.toInt32) 5 (own_j0_170_count i0 i1 i2 i3 i4 i5) (own_j0_170_afterCarriageReturn i0 i1 i2 i3 i4 i5) (own_v0_45 i0 i1 i2 i3 i4 i5)).1))))])) XJ47.here hx rfl (pc0 := 318) (pc' := 325) rfl (hb hby at_318) rfl (Jvm.Free.XT.ii_ne_t hc48) (by decide) (by decide) kt) ?_
                refine ownE.go (T' := TJ47) (f' := (mkF m 326 #[.val (.int i0), .val (.int i1), .val (.int i2), .val (.int i3), .val (.int i4), .val (.int i5), .val (.ref b1), .val (.int (own_v0_45 i0 i1 i2 i3 i4 i5)), .val (.int (own_v0_58 i0 i1 i2 i3 i4 i5)), .val (.int (i5 &&& (3 : Int32))), .val (.int (own_j0_78_S0 i0 i1 i2 i3 i4 i5)), .val (.int (own_v0_84 i0 i1 i2 i3 i4 i5)), .val (.ref b13), .val (.int (own_j0_170_L13 i0 i1 i2 i3 i4 i5)), .val (.int (own_cnt (own_j0_170_count i0 i1 i2 i3 i4 i5))), .val (.int (own_v0_228 i0 i1 i2 i3 i4 i5)), .val (.int (own_j0_259_S0 i0 i1 i2 i3 i4 i5)), .val (.int (own_cnt ((own_tl (own_v0_45 i0 i1 i2 i3 i4 i5) (own_v0_58 i0 i1 i2 i3 i4 i5) (own_j0_170_count i0 i1 i2 i3 i4 i5) (own_j0_170_afterCarriageReturn i0 i1 i2 i3 i4 i5) (own_j0_105_xml11 i0 i1 i2 i3 i4 i5) ((own_draw i0).toInt8.toInt32) ((own_draw i1).toInt8.toInt32) ((own_draw i2).toInt8.toInt32) ((own_draw i3).toInt8.toInt32) 5 (own_j0_170_count i0 i1 i2 i3 i4 i5) (own_j0_170_afterCarriageReturn i0 i1 i2 i3 i4 i5) (own_v0_45 i0 i1 i2 i3 i4 i5)).1))), .val (.int (own_cnt (own_tc (10 : Int32) ((own_tl (own_v0_45 i0 i1 i2 i3 i4 i5) (own_v0_58 i0 i1 i2 i3 i4 i5) (own_j0_170_count i0 i1 i2 i3 i4 i5) (own_j0_170_afterCarriageReturn i0 i1 i2 i3 i4 i5) (own_j0_105_xml11 i0 i1 i2 i3 i4 i5) ((own_draw i0).toInt8.toInt32) ((own_draw i1).toInt8.toInt32) ((own_draw i2).toInt8.toInt32) ((own_draw i3).toInt8.toInt32) 5 (own_j0_170_count i0 i1 i2 i3 i4 i5) (own_j0_170_afterCarriageReturn i0 i1 i2 i3 i4 i5) (own_v0_45 i0 i1 i2 i3 i4 i5)).1) ((own_tl (own_v0_45 i0 i1 i2 i3 i4 i5) (own_v0_58 i0 i1 i2 i3 i4 i5) (own_j0_170_count i0 i1 i2 i3 i4 i5) (own_j0_170_afterCarriageReturn i0 i1 i2 i3 i4 i5) (own_j0_105_xml11 i0 i1 i2 i3 i4 i5) ((own_draw i0).toInt8.toInt32) ((own_draw i1).toInt8.toInt32) ((own_draw i2).toInt8.toInt32) ((own_draw i3).toInt8.toInt32) 5 (own_j0_170_count i0 i1 i2 i3 i4 i5) (own_j0_170_afterCarriageReturn i0 i1 i2 i3 i4 i5) (own_v0_45 i0 i1 i2 i3 i4 i5)).2) (own_j0_105_xml11 i0 i1 i2 i3 i4 i5))))] [(.int (0 : Int32))])) (fun t kt => ?_) ?_
                · show Steps p.tables e below (TJ47.setTop (mkF m 325 #[.val (.int i0), .val (.int i1), .val (.int i2), .val (.int i3), .val (.int i4), .val (.int i5), .val (.ref b1), .val (.int (own_v0_45 i0 i1 i2 i3 i4 i5)), .val (.int (own_v0_58 i0 i1 i2 i3 i4 i5)), .val (.int (i5 &&& (3 : Int32))), .val (.int (own_j0_78_S0 i0 i1 i2 i3 i4 i5)), .val (.int (own_v0_84 i0 i1 i2 i3 i4 i5)), .val (.ref b13), .val (.int (own_j0_170_L13 i0 i1 i2 i3 i4 i5)), .val (.int (own_cnt (own_j0_170_count i0 i1 i2 i3 i4 i5))), .val (.int (own_v0_228 i0 i1 i2 i3 i4 i5)), .val (.int (own_j0_259_S0 i0 i1 i2 i3 i4 i5)), .val (.int (own_cnt ((own_tl (own_v0_45 i0 i1 i2 i3 i4 i5) (own_v0_58 i0 i1 i2 i3 i4 i5) (own_j0_170_count i0 i1 i2 i3 i4 i5) (own_j0_170_afterCarriageReturn i0 i1 i2 i3 i4 i5) (own_j0_105_xml11 i0 i1 i2 i3 i4 i5) ((own_draw i0).toInt8.toInt32) ((own_draw i1).toInt8.toInt32) ((own_draw i2).toInt8.toInt32) ((own_draw i3).toInt8.toInt32) 5 (own_j0_170_count i0 i1 i2 i3 i4 i5) (own_j0_170_afterCarriageReturn i0 i1 i2 i3 i4 i5) (own_v0_45 i0 i1 i2 i3 i4 i5)).1))), .val (.int (own_cnt (own_tc (10 : Int32) ((own_tl (own_v0_45 i0 i1 i2 i3 i4 i5) (own_v0_58 i0 i1 i2 i3 i4 i5) (own_j0_170_count i0 i1 i2 i3 i4 i5) (own_j0_170_afterCarriageReturn i0 i1 i2 i3 i4 i5) (own_j0_105_xml11 i0 i1 i2 i3 i4 i5) ((own_draw i0).toInt8.toInt32) ((own_draw i1).toInt8.toInt32) ((own_draw i2).toInt8.toInt32) ((own_draw i3).toInt8.toInt32) 5 (own_j0_170_count i0 i1 i2 i3 i4 i5) (own_j0_170_afterCarriageReturn i0 i1 i2 i3 i4 i5) (own_v0_45 i0 i1 i2 i3 i4 i5)).1) ((own_tl (own_v0_45 i0 i1 i2 i3 i4 i5) (own_v0_58 i0 i1 i2 i3 i4 i5) (own_j0_170_count i0 i1 i2 i3 i4 i5) (own_j0_170_afterCarriageReturn i0 i1 i2 i3 i4 i5) (own_j0_105_xml11 i0 i1 i2 i3 i4 i5) ((own_draw i0).toInt8.toInt32) ((own_draw i1).toInt8.toInt32) ((own_draw i2).toInt8.toInt32) ((own_draw i3).toInt8.toInt32) 5 (own_j0_170_count i0 i1 i2 i3 i4 i5) (own_j0_170_afterCarriageReturn i0 i1 i2 i3 i4 i5) (own_v0_45 i0 i1 i2 i3 i4 i5)).2) (own_j0_105_xml11 i0 i1 i2 i3 i4 i5))))] [])) _
                  refine XS.iconst XJ47.here hx rfl (hb hby at_325) ?_
                  exact kt
                refine ownE.retN XJ47 hx hlk (t := .boolean) hret (by simp) (hb hby at_326) ?_ (by decide) (by decide)
                show own_Q0 Z i0 i1 i2 i3 i4 i5 h0 n0 _ TJ47.heap _
                rw [eJ47]
                exact ⟨(by rw [own_f0, if_pos hc44, if_neg hc48] <;> first | rfl | decide), NJ47, K42⟩
            by_cases hc46 : (own_j0_259_S0 i0 i1 i2 i3 i4 i5) = (0 : Int32)
            · -- pc 310
              refine ownE.go (T' := T43) (f' := (mkF m 317 #[.val (.int i0), .val (.int i1), .val (.int i2), .val (.int i3), .val (.int i4), .val (.int i5), .val (.ref b1), .val (.int (own_v0_45 i0 i1 i2 i3 i4 i5)), .val (.int (own_v0_58 i0 i1 i2 i3 i4 i5)), .val (.int (i5 &&& (3 : Int32))), .val (.int (own_j0_78_S0 i0 i1 i2 i3 i4 i5)), .val (.int (own_v0_84 i0 i1 i2 i3 i4 i5)), .val (.ref b13), .val (.int (own_j0_170_L13 i0 i1 i2 i3 i4 i5)), .val (.int (own_cnt (own_j0_170_count i0 i1 i2 i3 i4 i5))), .val (.int (own_v0_228 i0 i1 i2 i3 i4 i5)), .val (.int (own_j0_259_S0 i0 i1 i2 i3 i4 i5)), .val (.int (own_cnt ((own_tl (own_v0_45 i0 i1 i2 i3 i4 i5) (own_v0_58 i0 i1 i2 i3 i4 i5) (own_j0_170_count i0 i1 i2 i3 i4 i5) (own_j0_170_afterCarriageReturn i0 i1 i2 i3 i4 i5) (own_j0_105_xml11 i0 i1 i2 i3 i4 i5) ((own_draw i0).toInt8.toInt32) ((own_draw i1).toInt8.toInt32) ((own_draw i2).toInt8.toInt32) ((own_draw i3).toInt8.toInt32) 5 (own_j0_170_count i0 i1 i2 i3 i4 i5) (own_j0_170_afterCarriageReturn i0 i1 i2 i3 i4 i5) (own_v0_45 i0 i1 i2 i3 i4 i5)).1))), .val (.int (own_cnt (own_tc (10 : Int32) ((own_tl (own_v0_45 i0 i1 i2 i3 i4 i5) (own_v0_58 i0 i1 i2 i3 i4 i5) (own_j0_170_count i0 i1 i2 i3 i4 i5) (own_j0_170_afterCarriageReturn i0 i1 i2 i3 i4 i5) (own_j0_105_xml11 i0 i1 i2 i3 i4 i5) ((own_draw i0).toInt8.toInt32) ((own_draw i1).toInt8.toInt32) ((own_draw i2).toInt8.toInt32) ((own_draw i3).toInt8.toInt32) 5 (own_j0_170_count i0 i1 i2 i3 i4 i5) (own_j0_170_afterCarriageReturn i0 i1 i2 i3 i4 i5) (own_v0_45 i0 i1 i2 i3 i4 i5)).1) ((own_tl (own_v0_45 i0 i1 i2 i3 i4 i5) (own_v0_58 i0 i1 i2 i3 i4 i5) (own_j0_170_count i0 i1 i2 i3 i4 i5) (own_j0_170_afterCarriageReturn i0 i1 i2 i3 i4 i5) (own_j0_105_xml11 i0 i1 i2 i3 i4 i5) ((own_draw i0).toInt8.toInt32) ((own_draw i1).toInt8.toInt32) ((own_draw i2).toInt8.toInt32) ((own_draw i3).toInt8.toInt32) 5 (own_j0_170_count i0 i1 i2 i3 i4 i5) (own_j0_170_afterCarriageReturn i0 i1 i2 i3 i4 i5) (own_v0_45 i0 i1 i2 i3 i4 i5)).2) (own_j0_105_xml11 i0 i1 i2 i3 i4 i5))))] [(.int ((own_cnt (own_tc (10 : Int32) ((own_tl (own_v0_45 i0 i1 i2 i3 i4 i5) (own_v0_58 i0 i1 i2 i3 i4 i5) (own_j0_170_count i0 i1 i2 i3 i4 i5) (own_j0_170_afterCarriageReturn i0 i1 i2 i3 i4 i5) (own_j0_105_xml11 i0 i1 i2 i3 i4 i5) ((own_draw i0).toInt8.toInt32) ((own_draw i1).toInt8.toInt32) ((own_draw i2).toInt8.toInt32) ((own_draw i3).toInt8.toInt32) 5 (own_j0_170_count i0 i1 i2 i3 i4 i5) (own_j0_170_afterCarriageReturn i0 i1 i2 i3 i4 i5) (own_v0_45 i0 i1 i2 i3 i4 i5)).1) ((own_tl (own_v0_45 i0 i1 i2 i3 i4 i5) (own_v0_58 i0 i1 i2 i3 i4 i5) (own_j0_170_count i0 i1 i2 i3 i4 i5) (own_j0_170_afterCarriageReturn i0 i1 i2 i3 i4 i5) (own_j0_105_xml11 i0 i1 i2 i3 i4 i5) ((own_draw i0).toInt8.toInt32) ((own_draw i1).toInt8.toInt32) ((own_draw i2).toInt8.toInt32) ((own_draw i3).toInt8.toInt32) 5 (own_j0_170_count i0 i1 i2 i3 i4 i5) (own_j0_170_afterCarriageReturn i0 i1 i2 i3 i4 i5) (own_v0_45 i0 i1 i2 i3 i4 i5)).2) (own_j0_105_xml11 i0 i1 i2 i3 i4 i5))) - (own_cnt ((own_tl (own_v0_45 i0 i1 i2 i3 i4 i5) (own_v0_58 i0 i1 i2 i3 i4 i5) (own_j0_170_count i0 i1 i2 i3 i4 i5) (own_j0_170_afterCarriageReturn i0 i1 i2 i3 i4 i5) (own_j0_105_xml11 i0 i1 i2 i3 i4 i5) ((own_draw i0).toInt8.toInt32) ((own_draw i1).toInt8.toInt32) ((own_draw i2).toInt8.toInt32) ((own_draw i3).toInt8.toInt32) 5 (own_j0_170_count i0 i1 i2 i3 i4 i5) (own_j0_170_afterCarriageReturn i0 i1 i2 i3 i4 i5) (own_v0_45 i0 i1 i2 i3 i4 i5)).1))))])) (fun t kt => XS.ifYes (g := (mkF m 310 #[.val (.int i0), .val (.int i1), .val (.int i2), .val (.int i3), .val (.int i4), .val (.int i5), .val (.ref b1), .val (.int (own_v0_45 i0 i1 i2 i3 i4 i5)), .val (.int (own_v0_58 i0 i1 i2 i3 i4 i5)), .val (.int (i5 &&& (3 : Int32))), .val (.int (own_j0_78_S0 i0 i1 i2 i3 i4 i5)), .val (.int (own_v0_84 i0 i1 i2 i3 i4 i5)), .val (.ref b13), .val (.int (own_j0_170_L13 i0 i1 i2 i3 i4 i5)), .val (.int (own_cnt (own_j0_170_count i0 i1 i2 i3 i4 i5))), .val (.int (own_v0_228 i0 i1 i2 i3 i4 i5)), .val (.int (own_j0_259_S0 i0 i1 i2 i3 i4 i5)), .val (.int (own_cnt ((own_tl (own_v0_45 i0 i1 i2 i3 i4 i5) (own_v0_58 i0 i1 i2 i3 i4 i5) (own_j0_170_count i0 i1 i2 i3 i4 i5) (own_j0_170_afterCarriageReturn i0 i1 i2 i3 i4 i5) (own_j0_105_xml11 i0 i1 i2 i3 i4 i5) ((own_draw i0).toInt8.toInt32) ((own_draw i1).toInt8.toInt32) ((own_draw i2).toInt8.toInt32) ((own_draw i3).toInt8.toInt32) 5 (own_j0_170_count i0 i1 i2 i3 i4 i5) (own_j0_170_afterCarriageReturn i0 i1 i2 i3 i4 i5) (own_v0_45 i0 i1 i2 i3 i4 i5)).1))), .val (.int (own_cnt (own_tc (10 : Int32) ((own_tl (own_v0_45 i0 i1 i2 i3 i4 i5) (own_v0_58 i0 i1 i2 i3 i4 i5) (own_j0_170_count i0 i1 i2 i3 i4 i5) (own_j0_170_afterCarriageReturn i0 i1 i2 i3 i4 i5) (own_j0_105_xml11 i0 i1 i2 i3 i4 i5) ((own_draw i0).toInt8.toInt32) ((own_draw i1).toInt8.toInt32) ((own_draw i2).toInt8.toInt32) ((own_draw i3).toInt8.toInt32) 5 (own_j0_170_count i0 i1 i2 i3 i4 i5) (own_j0_170_afterCarriageReturn i0 i1 i2 i3 i4 i5) (own_v0_45 i0 i1 i2 i3 i4 i5)).1) ((own_tl (own_v0_45 i0 i1 i2 i3 i4 i5) (own_v0_58 i0 i1 i2 i3 i4 i5) (own_j0_170_count i0 i1 i2 i3 i4 i5) (own_j0_170_afterCarriageReturn i0 i1 i2 i3 i4 i5) (own_j0_105_xml11 i0 i1 i2 i3 i4 i5) ((own_draw i0).toInt8.toInt32) ((own_draw i1).toInt8.toInt32) ((own_draw i2).toInt8.toInt32) ((own_draw i3).toInt8.toInt32) 5 (own_j0_170_count i0 i1 i2 i3 i4 i5) (own_j0_170_afterCarriageReturn i0 i1 i2 i3 i4 i5) (own_v0_45 i0 i1 i2 i3 i4 i5)).2) (own_j0_105_xml11 i0 i1 i2 i3 i4 i5))))] [(.int (own_j0_259_S0 i0 i1 i2 i3 i4 i5)), (.int ((own_cnt (own_tc (10 : Int32) ((own_tl (own_v0_45 i0 i1 i2 i3 i4 i5) (own_v0_58 i0 i1 i2 i3 i4 i5) (own_j0_170_count i0 i1 i2 i3 i4 i5) (own_j0_170_afterCarriageReturn i0 i1 i2 i3 i4 i5) (own_j0_105_xml11 i0 i1 i2 i3 i4 i5) ((own_draw i0).toInt8.toInt32) ((own_draw i1).toInt8.toInt32) ((own_draw i2).toInt8.toInt32) ((own_draw i3).toInt8.toInt32) 5 (own_j0_170_count i0 i1 i2 i3 i4 i5) (own_j0_170_afterCarriageReturn i0 i1 i2 i3 i4 i5) (own_v0_45 i0 i1 i2 i3 i4 i5)).1) ((own_tl (own_v0_45 i0 i1 i2 i3 i4 i5) (own_v0_58 i0 i1 i2 i3 i4 i5) (own_j0_170_count i0 i1 i2 i3 i4 i5) (own_j0_170_afterCarriageReturn i0 i1 i2 i3 i4 i5) (own_j0_105_xml11 i0 i1 i2 i3 i4 i5) ((own_draw i0).toInt8.toInt32) ((own_draw i1).toInt8.toInt32) ((own_draw i2).toInt8.toInt32) ((own_draw i3).toInt8.toInt32) 5 (own_j0_170_count i0 i1 i2 i3 i4 i5) (own_j0_170_afterCarriageReturn i0 i1 i2 i3 i4 i5) (own_v0_45 i0 i1 i2 i3 i4 i5)).2) (own_j0_105_xml11 i0 i1 i2 i3 i4 i5))) - (own_cnt ((own_tl (own_v0_45 i0 i1 i2 i3 i4 i5) (own_v0_58 i0 i1 i2 i3 i4 i5) (own_j0_170_count i0 i1 i2 i3 i4 i5) (own_j0_170_afterCarriageReturn i0 i1 i2 i3 i4 i5) (own_j0_105_xml11 i0 i1 i2 i3 i4 i5) ((own_draw i0).toInt8.toInt32) ((own_draw i1).toInt8.toInt32) ((own_draw i2).toInt8.toInt32) ((own_draw i3).toInt8.toInt32) 5 (own_j0_170_count i0 i1 i2 i3 i4 i5) (own_j0_170_afterCarriageReturn i0 i1 i2 i3 i4 i5) (own_v0_45 i0 i1 i2 i3 i4 i5)).1))))])) X43.here hx rfl (pc0 := 310) (pc' := 317) rfl (hb hby at_310) rfl (Jvm.Free.XT.i0_eq_t hc46) (by decide) (by decide) kt) ?_
              refine ownE.go (T' := T43) (f' := (mkF m 318 #[.val (.int i0), .val (.int i1), .val (.int i2), .val (.int i3), .val (.int i4), .val (.int i5), .val (.ref b1), .val (.int (own_v0_45 i0 i1 i2 i3 i4 i5)), .val (.int (own_v0_58 i0 i1 i2 i3 i4 i5)), .val (.int (i5 &&& (3 : Int32))), .val (.int (own_j0_78_S0 i0 i1 i2 i3 i4 i5)), .val (.int (own_v0_84 i0 i1 i2 i3 i4 i5)), .val (.ref b13), .val (.int (own_j0_170_L13 i0 i1 i2 i3 i4 i5)), .val (.int (own_cnt (own_j0_170_count i0 i1 i2 i3 i4 i5))), .val (.int (own_v0_228 i0 i1 i2 i3 i4 i5)), .val (.int (own_j0_259_S0 i0 i1 i2 i3 i4 i5)), .val (.int (own_cnt ((own_tl (own_v0_45 i0 i1 i2 i3 i4 i5) (own_v0_58 i0 i1 i2 i3 i4 i5) (own_j0_170_count i0 i1 i2 i3 i4 i5) (own_j0_170_afterCarriageReturn i0 i1 i2 i3 i4 i5) (own_j0_105_xml11 i0 i1 i2 i3 i4 i5) ((own_draw i0).toInt8.toInt32) ((own_draw i1).toInt8.toInt32) ((own_draw i2).toInt8.toInt32) ((own_draw i3).toInt8.toInt32) 5 (own_j0_170_count i0 i1 i2 i3 i4 i5) (own_j0_170_afterCarriageReturn i0 i1 i2 i3 i4 i5) (own_v0_45 i0 i1 i2 i3 i4 i5)).1))), .val (.int (own_cnt (own_tc (10 : Int32) ((own_tl (own_v0_45 i0 i1 i2 i3 i4 i5) (own_v0_58 i0 i1 i2 i3 i4 i5) (own_j0_170_count i0 i1 i2 i3 i4 i5) (own_j0_170_afterCarriageReturn i0 i1 i2 i3 i4 i5) (own_j0_105_xml11 i0 i1 i2 i3 i4 i5) ((own_draw i0).toInt8.toInt32) ((own_draw i1).toInt8.toInt32) ((own_draw i2).toInt8.toInt32) ((own_draw i3).toInt8.toInt32) 5 (own_j0_170_count i0 i1 i2 i3 i4 i5) (own_j0_170_afterCarriageReturn i0 i1 i2 i3 i4 i5) (own_v0_45 i0 i1 i2 i3 i4 i5)).1) ((own_tl (own_v0_45 i0 i1 i2 i3 i4 i5) (own_v0_58 i0 i1 i2 i3 i4 i5) (own_j0_170_count i0 i1 i2 i3 i4 i5) (own_j0_170_afterCarriageReturn i0 i1 i2 i3 i4 i5) (own_j0_105_xml11 i0 i1 i2 i3 i4 i5) ((own_draw i0).toInt8.toInt32) ((own_draw i1).toInt8.toInt32) ((own_draw i2).toInt8.toInt32) ((own_draw i3).toInt8.toInt32) 5 (own_j0_170_count i0 i1 i2 i3 i4 i5) (own_j0_170_afterCarriageReturn i0 i1 i2 i3 i4 i5) (own_v0_45 i0 i1 i2 i3 i4 i5)).2) (own_j0_105_xml11 i0 i1 i2 i3 i4 i5))))] [(.int (1 : Int32)), (.int ((own_cnt (own_tc (10 : Int32) ((own_tl (own_v0_45 i0 i1 i2 i3 i4 i5) (own_v0_58 i0 i1 i2 i3 i4 i5) (own_j0_170_count i0 i1 i2 i3 i4 i5) (own_j0_170_afterCarriageReturn i0 i1 i2 i3 i4 i5) (own_j0_105_xml11 i0 i1 i2 i3 i4 i5) ((own_draw i0).toInt8.toInt32) ((own_draw i1).toInt8.toInt32) ((own_draw i2).toInt8.toInt32) ((own_draw i3).toInt8.toInt32) 5 (own_j0_170_count i0 i1 i2 i3 i4 i5) (own_j0_170_afterCarriageReturn i0 i1 i2 i3 i4 i5) (own_v0_45 i0 i1 i2 i3 i4 i5)).1) ((own_tl (own_v0_45 i0 i1 i2 i3 i4 i5) (own_v0_58 i0 i1 i2 i3 i4 i5) (own_j0_170_count i0 i1 i2 i3 i4 i5) (own_j0_170_afterCarriageReturn i0 i1 i2 i3 i4 i5) (own_j0_105_xml11 i0 i1 i2 i3 i4 i5) ((own_draw i0).toInt8.toInt32) ((own_draw i1).toInt8.toInt32) ((own_draw i2).toInt8.toInt32) ((own_draw i3).toInt8.toInt32) 5 (own_j0_170_count i0 i1 i2 i3 i4 i5) (own_j0_170_afterCarriageReturn i0 i1 i2 i3 i4 i5) (own_v0_45 i0 i1 i2 i3 i4 i5)).2) (own_j0_105_xml11 i0 i1 i2 i3 i4 i5))) - (own_cnt ((own_tl (own_v0_45 i0 i1 i2 i3 i4 i5) (own_v0_58 i0 i1 i2 i3 i4 i5) (own_j0_170_count i0 i1 i2 i3 i4 i5) (own_j0_170_afterCarriageReturn i0 i1 i2 i3 i4 i5) (own_j0_105_xml11 i0 i1 i2 i3 i4 i5) ((own_draw i0).toInt8.toInt32) ((own_draw i1).toInt8.toInt32) ((own_draw i2).toInt8.toInt32) ((own_draw i3).toInt8.toInt32) 5 (own_j0_170_count i0 i1 i2 i3 i4 i5) (own_j0_170_afterCarriageReturn i0 i1 i2 i3 i4 i5) (own_v0_45 i0 i1 i2 i3 i4 i5)).1))))])) (fun t kt => ?_) ?_
              · show Steps p.tables e below (T43.setTop (mkF m 317 #[.val (.int i0), .val (.int i1), .val (.int i2), .val (.int i3), .val (.int i4), .val (.int i5), .val (.ref b1), .val (.int (own_v0_45 i0 i1 i2 i3 i4 i5)), .val (.int (own_v0_58 i0 i1 i2 i3 i4 i5)), .val (.int (i5 &&& (3 : Int32))), .val (.int (own_j0_78_S0 i0 i1 i2 i3 i4 i5)), .val (.int (own_v0_84 i0 i1 i2 i3 i4 i5)), .val (.ref b13), .val (.int (own_j0_170_L13 i0 i1 i2 i3 i4 i5)), .val (.int (own_cnt (own_j0_170_count i0 i1 i2 i3 i4 i5))), .val (.int (own_v0_228 i0 i1 i2 i3 i4 i5)), .val (.int (own_j0_259_S0 i0 i1 i2 i3 i4 i5)), .val (.int (own_cnt ((own_tl (own_v0_45 i0 i1 i2 i3 i4 i5) (own_v0_58 i0 i1 i2 i3 i4 i5) (own_j0_170_count i0 i1 i2 i3 i4 i5) (own_j0_170_afterCarriageReturn i0 i1 i2 i3 i4 i5) (own_j0_105_xml11 i0 i1 i2 i3 i4 i5) ((own_draw i0).toInt8.toInt32) ((own_draw i1).toInt8.toInt32) ((own_draw i2).toInt8.toInt32) ((own_draw i3).toInt8.toInt32) 5 (own_j0_170_count i0 i1 i2 i3 i4 i5) (own_j0_170_afterCarriageReturn i0 i1 i2 i3 i4 i5) (own_v0_45 i0 i1 i2 i3 i4 i5)).1))), .val (.int (own_cnt (own_tc (10 : Int32) ((own_tl (own_v0_45 i0 i1 i2 i3 i4 i5) (own_v0_58 i0 i1 i2 i3 i4 i5) (own_j0_170_count i0 i1 i2 i3 i4 i5) (own_j0_170_afterCarriageReturn i0 i1 i2 i3 i4 i5) (own_j0_105_xml11 i0 i1 i2 i3 i4 i5) ((own_draw i0).toInt8.toInt32) ((own_draw i1).toInt8.toInt32) ((own_draw i2).toInt8.toInt32) ((own_draw i3).toInt8.toInt32) 5 (own_j0_170_count i0 i1 i2 i3 i4 i5) (own_j0_170_afterCarriageReturn i0 i1 i2 i3 i4 i5) (own_v0_45 i0 i1 i2 i3 i4 i5)).1) ((own_tl (own_v0_45 i0 i1 i2 i3 i4 i5) (own_v0_58 i0 i1 i2 i3 i4 i5) (own_j0_170_count i0 i1 i2 i3 i4 i5) (own_j0_170_afterCarriageReturn i0 i1 i2 i3 i4 i5) (own_j0_105_xml11 i0 i1 i2 i3 i4 i5) ((own_draw i0).toInt8.toInt32) ((own_draw i1).toInt8.toInt32) ((own_draw i2).toInt8.toInt32) ((own_draw i3).toInt8.toInt32) 5 (own_j0_170_count i0 i1 i2 i3 i4 i5) (own_j0_170_afterCarriageReturn i0 i1 i2 i3 i4 i5) (own_v0_45 i0 i1 i2 i3 i4 i5)).2) (own_j0_105_xml11 i0 i1 i2 i3 i4 i5))))] [(.int ((own_cnt (own_tc (10 : Int32) ((own_tl (own_v0_45 i0 i1 i2 i3 i4 i5) (own_v0_58 i0 i1 i2 i3 i4 i5) (own_j0_170_count i0 i1 i2 i3 i4 i5) (own_j0_170_afterCarriageReturn i0 i1 i2 i3 i4 i5) (own_j0_105_xml11 i0 i1 i2 i3 i4 i5) ((own_draw i0).toInt8.toInt32) ((own_draw i1).toInt8.toInt32) ((own_draw i2).toInt8.toInt32) ((own_draw i3).toInt8.toInt32) 5 (own_j0_170_count i0 i1 i2 i3 i4 i5) (own_j0_170_afterCarriageReturn i0 i1 i2 i3 i4 i5) (own_v0_45 i0 i1 i2 i3 i4 i5)).1) ((own_tl (own_v0_45 i0 i1 i2 i3 i4 i5) (own_v0_58 i0 i1 i2 i3 i4 i5) (own_j0_170_count i0 i1 i2 i3 i4 i5) (own_j0_170_afterCarriageReturn i0 i1 i2 i3 i4 i5) (own_j0_105_xml11 i0 i1 i2 i3 i4 i5) ((own_draw i0).toInt8.toInt32) ((own_draw i1).toInt8.toInt32) ((own_draw i2).toInt8.toInt32) ((own_draw i3).toInt8.toInt32) 5 (own_j0_170_count i0 i1 i2 i3 i4 i5) (own_j0_170_afterCarriageReturn i0 i1 i2 i3 i4 i5) (own_v0_45 i0 i1 i2 i3 i4 i5)).2) (own_j0_105_xml11 i0 i1 i2 i3 i4 i5))) - (own_cnt ((own_tl (own_v0_45 i0 i1 i2 i3 i4 i5) (own_v0_58 i0 i1 i2 i3 i4 i5) (own_j0_170_count i0 i1 i2 i3 i4 i5) (own_j0_170_afterCarriageReturn i0 i1 i2 i3 i4 i5) (own_j0_105_xml11 i0 i1 i2 i3 i4 i5) ((own_draw i0).toInt8.toInt32) ((own_draw i1).toInt8.toInt32) ((own_draw i2).toInt8.toInt32) ((own_draw i3).toInt8.toInt32) 5 (own_j0_170_count i0 i1 i2 i3 i4 i5) (own_j0_170_afterCarriageReturn i0 i1 i2 i3 i4 i5) (own_v0_45 i0 i1 i2 i3 i4 i5)).1))))])) _
                refine XS.iconst X43.here hx rfl (hb hby at_317) ?_
                exact kt
              have jj := J47 _ _ X43 e43 N43
              rw [show (own_j0_318_S0 i0 i1 i2 i3 i4 i5) = (1 : Int32) from by rw [own_j0_318_S0, if_pos hc46]] at jj
              exact jj
            · -- pc 310
              refine ownE.go (T' := T43) (f' := (mkF m 313 #[.val (.int i0), .val (.int i1), .val (.int i2), .val (.int i3), .val (.int i4), .val (.int i5), .val (.ref b1), .val (.int (own_v0_45 i0 i1 i2 i3 i4 i5)), .val (.int (own_v0_58 i0 i1 i2 i3 i4 i5)), .val (.int (i5 &&& (3 : Int32))), .val (.int (own_j0_78_S0 i0 i1 i2 i3 i4 i5)), .val (.int (own_v0_84 i0 i1 i2 i3 i4 i5)), .val (.ref b13), .val (.int (own_j0_170_L13 i0 i1 i2 i3 i4 i5)), .val (.int (own_cnt (own_j0_170_count i0 i1 i2 i3 i4 i5))), .val (.int (own_v0_228 i0 i1 i2 i3 i4 i5)), .val (.int (own_j0_259_S0 i0 i1 i2 i3 i4 i5)), .val (.int (own_cnt ((own_tl (own_v0_45 i0 i1 i2 i3 i4 i5) (own_v0_58 i0 i1 i2 i3 i4 i5) (own_j0_170_count i0 i1 i2 i3 i4 i5) (own_j0_170_afterCarriageReturn i0 i1 i2 i3 i4 i5) (own_j0_105_xml11 i0 i1 i2 i3 i4 i5) ((own_draw i0).toInt8.toInt32) ((own_draw i1).toInt8.toInt32) ((own_draw i2).toInt8.toInt32) ((own_draw i3).toInt8.toInt32) 5 (own_j0_170_count i0 i1 i2 i3 i4 i5) (own_j0_170_afterCarriageReturn i0 i1 i2 i3 i4 i5) (own_v0_45 i0 i1 i2 i3 i4 i5)).1))), .val (.int (own_cnt (own_tc (10 : Int32) ((own_tl (own_v0_45 i0 i1 i2 i3 i4 i5) (own_v0_58 i0 i1 i2 i3 i4 i5) (own_j0_170_count i0 i1 i2 i3 i4 i5) (own_j0_170_afterCarriageReturn i0 i1 i2 i3 i4 i5) (own_j0_105_xml11 i0 i1 i2 i3 i4 i5) ((own_draw i0).toInt8.toInt32) ((own_draw i1).toInt8.toInt32) ((own_draw i2).toInt8.toInt32) ((own_draw i3).toInt8.toInt32) 5 (own_j0_170_count i0 i1 i2 i3 i4 i5) (own_j0_170_afterCarriageReturn i0 i1 i2 i3 i4 i5) (own_v0_45 i0 i1 i2 i3 i4 i5)).1) ((own_tl (own_v0_45 i0 i1 i2 i3 i4 i5) (own_v0_58 i0 i1 i2 i3 i4 i5) (own_j0_170_count i0 i1 i2 i3 i4 i5) (own_j0_170_afterCarriageReturn i0 i1 i2 i3 i4 i5) (own_j0_105_xml11 i0 i1 i2 i3 i4 i5) ((own_draw i0).toInt8.toInt32) ((own_draw i1).toInt8.toInt32) ((own_draw i2).toInt8.toInt32) ((own_draw i3).toInt8.toInt32) 5 (own_j0_170_count i0 i1 i2 i3 i4 i5) (own_j0_170_afterCarriageReturn i0 i1 i2 i3 i4 i5) (own_v0_45 i0 i1 i2 i3 i4 i5)).2) (own_j0_105_xml11 i0 i1 i2 i3 i4 i5))))] [(.int ((own_cnt (own_tc (10 : Int32) ((own_tl (own_v0_45 i0 i1 i2 i3 i4 i5) (own_v0_58 i0 i1 i2 i3 i4 i5) (own_j0_170_count i0 i1 i2 i3 i4 i5) (own_j0_170_afterCarriageReturn i0 i1 i2 i3 i4 i5) (own_j0_105_xml11 i0 i1 i2 i3 i4 i5) ((own_draw i0).toInt8.toInt32) ((own_draw i1).toInt8.toInt32) ((own_draw i2).toInt8.toInt32) ((own_draw i3).toInt8.toInt32) 5 (own_j0_170_count i0 i1 i2 i3 i4 i5) (own_j0_170_afterCarriageReturn i0 i1 i2 i3 i4 i5) (own_v0_45 i0 i1 i2 i3 i4 i5)).1) ((own_tl (own_v0_45 i0 i1 i2 i3 i4 i5) (own_v0_58 i0 i1 i2 i3 i4 i5) (own_j0_170_count i0 i1 i2 i3 i4 i5) (own_j0_170_afterCarriageReturn i0 i1 i2 i3 i4 i5) (own_j0_105_xml11 i0 i1 i2 i3 i4 i5) ((own_draw i0).toInt8.toInt32) ((own_draw i1).toInt8.toInt32) ((own_draw i2).toInt8.toInt32) ((own_draw i3).toInt8.toInt32) 5 (own_j0_170_count i0 i1 i2 i3 i4 i5) (own_j0_170_afterCarriageReturn i0 i1 i2 i3 i4 i5) (own_v0_45 i0 i1 i2 i3 i4 i5)).2) (own_j0_105_xml11 i0 i1 i2 i3 i4 i5))) - (own_cnt ((own_tl (own_v0_45 i0 i1 i2 i3 i4 i5) (own_v0_58 i0 i1 i2 i3 i4 i5) (own_j0_170_count i0 i1 i2 i3 i4 i5) (own_j0_170_afterCarriageReturn i0 i1 i2 i3 i4 i5) (own_j0_105_xml11 i0 i1 i2 i3 i4 i5) ((own_draw i0).toInt8.toInt32) ((own_draw i1).toInt8.toInt32) ((own_draw i2).toInt8.toInt32) ((own_draw i3).toInt8.toInt32) 5 (own_j0_170_count i0 i1 i2 i3 i4 i5) (own_j0_170_afterCarriageReturn i0 i1 i2 i3 i4 i5) (own_v0_45 i0 i1 i2 i3 i4 i5)).1))))])) (fun t kt => XS.ifNo (g := (mkF m 310 #[.val (.int i0), .val (.int i1), .val (.int i2), .val (.int i3), .val (.int i4), .val (.int i5), .val (.ref b1), .val (.int (own_v0_45 i0 i1 i2 i3 i4 i5)), .val (.int (own_v0_58 i0 i1 i2 i3 i4 i5)), .val (.int (i5 &&& (3 : Int32))), .val (.int (own_j0_78_S0 i0 i1 i2 i3 i4 i5)), .val (.int (own_v0_84 i0 i1 i2 i3 i4 i5)), .val (.ref b13), .val (.int (own_j0_170_L13 i0 i1 i2 i3 i4 i5)), .val (.int (own_cnt (own_j0_170_count i0 i1 i2 i3 i4 i5))), .val (.int (own_v0_228 i0 i1 i2 i3 i4 i5)), .val (.int (own_j0_259_S0 i0 i1 i2 i3 i4 i5)), .val (.int (own_cnt ((own_tl (own_v0_45 i0 i1 i2 i3 i4 i5) (own_v0_58 i0 i1 i2 i3 i4 i5) (own_j0_170_count i0 i1 i2 i3 i4 i5) (own_j0_170_afterCarriageReturn i0 i1 i2 i3 i4 i5) (own_j0_105_xml11 i0 i1 i2 i3 i4 i5) ((own_draw i0).toInt8.toInt32) ((own_draw i1).toInt8.toInt32) ((own_draw i2).toInt8.toInt32) ((own_draw i3).toInt8.toInt32) 5 (own_j0_170_count i0 i1 i2 i3 i4 i5) (own_j0_170_afterCarriageReturn i0 i1 i2 i3 i4 i5) (own_v0_45 i0 i1 i2 i3 i4 i5)).1))), .val (.int (own_cnt (own_tc (10 : Int32) ((own_tl (own_v0_45 i0 i1 i2 i3 i4 i5) (own_v0_58 i0 i1 i2 i3 i4 i5) (own_j0_170_count i0 i1 i2 i3 i4 i5) (own_j0_170_afterCarriageReturn i0 i1 i2 i3 i4 i5) (own_j0_105_xml11 i0 i1 i2 i3 i4 i5) ((own_draw i0).toInt8.toInt32) ((own_draw i1).toInt8.toInt32) ((own_draw i2).toInt8.toInt32) ((own_draw i3).toInt8.toInt32) 5 (own_j0_170_count i0 i1 i2 i3 i4 i5) (own_j0_170_afterCarriageReturn i0 i1 i2 i3 i4 i5) (own_v0_45 i0 i1 i2 i3 i4 i5)).1) ((own_tl (own_v0_45 i0 i1 i2 i3 i4 i5) (own_v0_58 i0 i1 i2 i3 i4 i5) (own_j0_170_count i0 i1 i2 i3 i4 i5) (own_j0_170_afterCarriageReturn i0 i1 i2 i3 i4 i5) (own_j0_105_xml11 i0 i1 i2 i3 i4 i5) ((own_draw i0).toInt8.toInt32) ((own_draw i1).toInt8.toInt32) ((own_draw i2).toInt8.toInt32) ((own_draw i3).toInt8.toInt32) 5 (own_j0_170_count i0 i1 i2 i3 i4 i5) (own_j0_170_afterCarriageReturn i0 i1 i2 i3 i4 i5) (own_v0_45 i0 i1 i2 i3 i4 i5)).2) (own_j0_105_xml11 i0 i1 i2 i3 i4 i5))))] [(.int (own_j0_259_S0 i0 i1 i2 i3 i4 i5)), (.int ((own_cnt (own_tc (10 : Int32) ((own_tl (own_v0_45 i0 i1 i2 i3 i4 i5) (own_v0_58 i0 i1 i2 i3 i4 i5) (own_j0_170_count i0 i1 i2 i3 i4 i5) (own_j0_170_afterCarriageReturn i0 i1 i2 i3 i4 i5) (own_j0_105_xml11 i0 i1 i2 i3 i4 i5) ((own_draw i0).toInt8.toInt32) ((own_draw i1).toInt8.toInt32) ((own_draw i2).toInt8.toInt32) ((own_draw i3).toInt8.toInt32) 5 (own_j0_170_count i0 i1 i2 i3 i4 i5) (own_j0_170_afterCarriageReturn i0 i1 i2 i3 i4 i5) (own_v0_45 i0 i1 i2 i3 i4 i5)).1) ((own_tl (own_v0_45 i0 i1 i2 i3 i4 i5) (own_v0_58 i0 i1 i2 i3 i4 i5) (own_j0_170_count i0 i1 i2 i3 i4 i5) (own_j0_170_afterCarriageReturn i0 i1 i2 i3 i4 i5) (own_j0_105_xml11 i0 i1 i2 i3 i4 i5) ((own_draw i0).toInt8.toInt32) ((own_draw i1).toInt8.toInt32) ((own_draw i2).toInt8.toInt32) ((own_draw i3).toInt8.toInt32) 5 (own_j0_170_count i0 i1 i2 i3 i4 i5) (own_j0_170_afterCarriageReturn i0 i1 i2 i3 i4 i5) (own_v0_45 i0 i1 i2 i3 i4 i5)).2) (own_j0_105_xml11 i0 i1 i2 i3 i4 i5))) - (own_cnt ((own_tl (own_v0_45 i0 i1 i2 i3 i4 i5) (own_v0_58 i0 i1 i2 i3 i4 i5) (own_j0_170_count i0 i1 i2 i3 i4 i5) (own_j0_170_afterCarriageReturn i0 i1 i2 i3 i4 i5) (own_j0_105_xml11 i0 i1 i2 i3 i4 i5) ((own_draw i0).toInt8.toInt32) ((own_draw i1).toInt8.toInt32) ((own_draw i2).toInt8.toInt32) ((own_draw i3).toInt8.toInt32) 5 (own_j0_170_count i0 i1 i2 i3 i4 i5) (own_j0_170_afterCarriageReturn i0 i1 i2 i3 i4 i5) (own_v0_45 i0 i1 i2 i3 i4 i5)).1))))])) X43.here hx rfl (hb hby at_310) rfl (Jvm.Free.XT.i0_eq_f hc46) kt) ?_
              refine ownE.go (T' := T43) (f' := (mkF m 318 #[.val (.int i0), .val (.int i1), .val (.int i2), .val (.int i3), .val (.int i4), .val (.int i5), .val (.ref b1), .val (.int (own_v0_45 i0 i1 i2 i3 i4 i5)), .val (.int (own_v0_58 i0 i1 i2 i3 i4 i5)), .val (.int (i5 &&& (3 : Int32))), .val (.int (own_j0_78_S0 i0 i1 i2 i3 i4 i5)), .val (.int (own_v0_84 i0 i1 i2 i3 i4 i5)), .val (.ref b13), .val (.int (own_j0_170_L13 i0 i1 i2 i3 i4 i5)), .val (.int (own_cnt (own_j0_170_count i0 i1 i2 i3 i4 i5))), .val (.int (own_v0_228 i0 i1 i2 i3 i4 i5)), .val (.int (own_j0_259_S0 i0 i1 i2 i3 i4 i5)), .val (.int (own_cnt ((own_tl (own_v0_45 i0 i1 i2 i3 i4 i5) (own_v0_58 i0 i1 i2 i3 i4 i5) (own_j0_170_count i0 i1 i2 i3 i4 i5) (own_j0_170_afterCarriageReturn i0 i1 i2 i3 i4 i5) (own_j0_105_xml11 i0 i1 i2 i3 i4 i5) ((own_draw i0).toInt8.toInt32) ((own_draw i1).toInt8.toInt32) ((own_draw i2).toInt8.toInt32) ((own_draw i3).toInt8.toInt32) 5 (own_j0_170_count i0 i1 i2 i3 i4 i5) (own_j0_170_afterCarriageReturn i0 i1 i2 i3 i4 i5) (own_v0_45 i0 i1 i2 i3 i4 i5)).1))), .val (.int (own_cnt (own_tc (10 : Int32) ((own_tl (own_v0_45 i0 i1 i2 i3 i4 i5) (own_v0_58 i0 i1 i2 i3 i4 i5) (own_j0_170_count i0 i1 i2 i3 i4 i5) (own_j0_170_afterCarriageReturn i0 i1 i2 i3 i4 i5) (own_j0_105_xml11 i0 i1 i2 i3 i4 i5) ((own_draw i0).toInt8.toInt32) ((own_draw i1).toInt8.toInt32) ((own_draw i2).toInt8.toInt32) ((own_draw i3).toInt8.toInt32) 5 (own_j0_170_count i0 i1 i2 i3 i4 i5) (own_j0_170_afterCarriageReturn i0 i1 i2 i3 i4 i5) (own_v0_45 i0 i1 i2 i3 i4 i5)).1) ((own_tl (own_v0_45 i0 i1 i2 i3 i4 i5) (own_v0_58 i0 i1 i2 i3 i4 i5) (own_j0_170_count i0 i1 i2 i3 i4 i5) (own_j0_170_afterCarriageReturn i0 i1 i2 i3 i4 i5) (own_j0_105_xml11 i0 i1 i2 i3 i4 i5) ((own_draw i0).toInt8.toInt32) ((own_draw i1).toInt8.toInt32) ((own_draw i2).toInt8.toInt32) ((own_draw i3).toInt8.toInt32) 5 (own_j0_170_count i0 i1 i2 i3 i4 i5) (own_j0_170_afterCarriageReturn i0 i1 i2 i3 i4 i5) (own_v0_45 i0 i1 i2 i3 i4 i5)).2) (own_j0_105_xml11 i0 i1 i2 i3 i4 i5))))] [(.int (0 : Int32)), (.int ((own_cnt (own_tc (10 : Int32) ((own_tl (own_v0_45 i0 i1 i2 i3 i4 i5) (own_v0_58 i0 i1 i2 i3 i4 i5) (own_j0_170_count i0 i1 i2 i3 i4 i5) (own_j0_170_afterCarriageReturn i0 i1 i2 i3 i4 i5) (own_j0_105_xml11 i0 i1 i2 i3 i4 i5) ((own_draw i0).toInt8.toInt32) ((own_draw i1).toInt8.toInt32) ((own_draw i2).toInt8.toInt32) ((own_draw i3).toInt8.toInt32) 5 (own_j0_170_count i0 i1 i2 i3 i4 i5) (own_j0_170_afterCarriageReturn i0 i1 i2 i3 i4 i5) (own_v0_45 i0 i1 i2 i3 i4 i5)).1) ((own_tl (own_v0_45 i0 i1 i2 i3 i4 i5) (own_v0_58 i0 i1 i2 i3 i4 i5) (own_j0_170_count i0 i1 i2 i3 i4 i5) (own_j0_170_afterCarriageReturn i0 i1 i2 i3 i4 i5) (own_j0_105_xml11 i0 i1 i2 i3 i4 i5) ((own_draw i0).toInt8.toInt32) ((own_draw i1).toInt8.toInt32) ((own_draw i2).toInt8.toInt32) ((own_draw i3).toInt8.toInt32) 5 (own_j0_170_count i0 i1 i2 i3 i4 i5) (own_j0_170_afterCarriageReturn i0 i1 i2 i3 i4 i5) (own_v0_45 i0 i1 i2 i3 i4 i5)).2) (own_j0_105_xml11 i0 i1 i2 i3 i4 i5))) - (own_cnt ((own_tl (own_v0_45 i0 i1 i2 i3 i4 i5) (own_v0_58 i0 i1 i2 i3 i4 i5) (own_j0_170_count i0 i1 i2 i3 i4 i5) (own_j0_170_afterCarriageReturn i0 i1 i2 i3 i4 i5) (own_j0_105_xml11 i0 i1 i2 i3 i4 i5) ((own_draw i0).toInt8.toInt32) ((own_draw i1).toInt8.toInt32) ((own_draw i2).toInt8.toInt32) ((own_draw i3).toInt8.toInt32) 5 (own_j0_170_count i0 i1 i2 i3 i4 i5) (own_j0_170_afterCarriageReturn i0 i1 i2 i3 i4 i5) (own_v0_45 i0 i1 i2 i3 i4 i5)).1))))])) (fun t kt => ?_) ?_
              · show Steps p.tables e below (T43.setTop (mkF m 313 #[.val (.int i0), .val (.int i1), .val (.int i2), .val (.int i3), .val (.int i4), .val (.int i5), .val (.ref b1), .val (.int (own_v0_45 i0 i1 i2 i3 i4 i5)), .val (.int (own_v0_58 i0 i1 i2 i3 i4 i5)), .val (.int (i5 &&& (3 : Int32))), .val (.int (own_j0_78_S0 i0 i1 i2 i3 i4 i5)), .val (.int (own_v0_84 i0 i1 i2 i3 i4 i5)), .val (.ref b13), .val (.int (own_j0_170_L13 i0 i1 i2 i3 i4 i5)), .val (.int (own_cnt (own_j0_170_count i0 i1 i2 i3 i4 i5))), .val (.int (own_v0_228 i0 i1 i2 i3 i4 i5)), .val (.int (own_j0_259_S0 i0 i1 i2 i3 i4 i5)), .val (.int (own_cnt ((own_tl (own_v0_45 i0 i1 i2 i3 i4 i5) (own_v0_58 i0 i1 i2 i3 i4 i5) (own_j0_170_count i0 i1 i2 i3 i4 i5) (own_j0_170_afterCarriageReturn i0 i1 i2 i3 i4 i5) (own_j0_105_xml11 i0 i1 i2 i3 i4 i5) ((own_draw i0).toInt8.toInt32) ((own_draw i1).toInt8.toInt32) ((own_draw i2).toInt8.toInt32) ((own_draw i3).toInt8.toInt32) 5 (own_j0_170_count i0 i1 i2 i3 i4 i5) (own_j0_170_afterCarriageReturn i0 i1 i2 i3 i4 i5) (own_v0_45 i0 i1 i2 i3 i4 i5)).1))), .val (.int (own_cnt (own_tc (10 : Int32) ((own_tl (own_v0_45 i0 i1 i2 i3 i4 i5) (own_v0_58 i0 i1 i2 i3 i4 i5) (own_j0_170_count i0 i1 i2 i3 i4 i5) (own_j0_170_afterCarriageReturn i0 i1 i2 i3 i4 i5) (own_j0_105_xml11 i0 i1 i2 i3 i4 i5) ((own_draw i0).toInt8.toInt32) ((own_draw i1).toInt8.toInt32) ((own_draw i2).toInt8.toInt32) ((own_draw i3).toInt8.toInt32) 5 (own_j0_170_count i0 i1 i2 i3 i4 i5) (own_j0_170_afterCarriageReturn i0 i1 i2 i3 i4 i5) (own_v0_45 i0 i1 i2 i3 i4 i5)).1) ((own_tl (own_v0_45 i0 i1 i2 i3 i4 i5) (own_v0_58 i0 i1 i2 i3 i4 i5) (own_j0_170_count i0 i1 i2 i3 i4 i5) (own_j0_170_afterCarriageReturn i0 i1 i2 i3 i4 i5) (own_j0_105_xml11 i0 i1 i2 i3 i4 i5) ((own_draw i0).toInt8.toInt32) ((own_draw i1).toInt8.toInt32) ((own_draw i2).toInt8.toInt32) ((own_draw i3).toInt8.toInt32) 5 (own_j0_170_count i0 i1 i2 i3 i4 i5) (own_j0_170_afterCarriageReturn i0 i1 i2 i3 i4 i5) (own_v0_45 i0 i1 i2 i3 i4 i5)).2) (own_j0_105_xml11 i0 i1 i2 i3 i4 i5))))] [(.int ((own_cnt (own_tc (10 : Int32) ((own_tl (own_v0_45 i0 i1 i2 i3 i4 i5) (own_v0_58 i0 i1 i2 i3 i4 i5) (own_j0_170_count i0 i1 i2 i3 i4 i5) (own_j0_170_afterCarriageReturn i0 i1 i2 i3 i4 i5) (own_j0_105_xml11 i0 i1 i2 i3 i4 i5) ((own_draw i0).toInt8.toInt32) ((own_draw i1).toInt8.toInt32) ((own_draw i2).toInt8.toInt32) ((own_draw i3).toInt8.toInt32) 5 (own_j0_170_count i0 i1 i2 i3 i4 i5) (own_j0_170_afterCarriageReturn i0 i1 i2 i3 i4 i5) (own_v0_45 i0 i1 i2 i3 i4 i5)).1) ((own_tl (own_v0_45 i0 i1 i2 i3 i4 i5) (own_v0_58 i0 i1 i2 i3 i4 i5) (own_j0_170_count i0 i1 i2 i3 i4 i5) (own_j0_170_afterCarriageReturn i0 i1 i2 i3 i4 i5) (own_j0_105_xml11 i0 i1 i2 i3 i4 i5) ((own_draw i0).toInt8.toInt32) ((own_draw i1).toInt8.toInt32) ((own_draw i2).toInt8.toInt32) ((own_draw i3).toInt8.toInt32) 5 (own_j0_170_count i0 i1 i2 i3 i4 i5) (own_j0_170_afterCarriageReturn i0 i1 i2 i3 i4 i5) (own_v0_45 i0 i1 i2 i3 i4 i5)).2) (own_j0_105_xml11 i0 i1 i2 i3 i4 i5))) - (own_cnt ((own_tl (own_v0_45 i0 i1 i2 i3 i4 i5) (own_v0_58 i0 i1 i2 i3 i4 i5) (own_j0_170_count i0 i1 i2 i3 i4 i5) (own_j0_170_afterCarriageReturn i0 i1 i2 i3 i4 i5) (own_j0_105_xml11 i0 i1 i2 i3 i4 i5) ((own_draw i0).toInt8.toInt32) ((own_draw i1).toInt8.toInt32) ((own_draw i2).toInt8.toInt32) ((own_draw i3).toInt8.toInt32) 5 (own_j0_170_count i0 i1 i2 i3 i4 i5) (own_j0_170_afterCarriageReturn i0 i1 i2 i3 i4 i5) (own_v0_45 i0 i1 i2 i3 i4 i5)).1))))])) _
                refine XS.iconst X43.here hx rfl (hb hby at_313) ?_
                show Steps p.tables e below (T43.setTop (mkF m 314 #[.val (.int i0), .val (.int i1), .val (.int i2), .val (.int i3), .val (.int i4), .val (.int i5), .val (.ref b1), .val (.int (own_v0_45 i0 i1 i2 i3 i4 i5)), .val (.int (own_v0_58 i0 i1 i2 i3 i4 i5)), .val (.int (i5 &&& (3 : Int32))), .val (.int (own_j0_78_S0 i0 i1 i2 i3 i4 i5)), .val (.int (own_v0_84 i0 i1 i2 i3 i4 i5)), .val (.ref b13), .val (.int (own_j0_170_L13 i0 i1 i2 i3 i4 i5)), .val (.int (own_cnt (own_j0_170_count i0 i1 i2 i3 i4 i5))), .val (.int (own_v0_228 i0 i1 i2 i3 i4 i5)), .val (.int (own_j0_259_S0 i0 i1 i2 i3 i4 i5)), .val (.int (own_cnt ((own_tl (own_v0_45 i0 i1 i2 i3 i4 i5) (own_v0_58 i0 i1 i2 i3 i4 i5) (own_j0_170_count i0 i1 i2 i3 i4 i5) (own_j0_170_afterCarriageReturn i0 i1 i2 i3 i4 i5) (own_j0_105_xml11 i0 i1 i2 i3 i4 i5) ((own_draw i0).toInt8.toInt32) ((own_draw i1).toInt8.toInt32) ((own_draw i2).toInt8.toInt32) ((own_draw i3).toInt8.toInt32) 5 (own_j0_170_count i0 i1 i2 i3 i4 i5) (own_j0_170_afterCarriageReturn i0 i1 i2 i3 i4 i5) (own_v0_45 i0 i1 i2 i3 i4 i5)).1))), .val (.int (own_cnt (own_tc (10 : Int32) ((own_tl (own_v0_45 i0 i1 i2 i3 i4 i5) (own_v0_58 i0 i1 i2 i3 i4 i5) (own_j0_170_count i0 i1 i2 i3 i4 i5) (own_j0_170_afterCarriageReturn i0 i1 i2 i3 i4 i5) (own_j0_105_xml11 i0 i1 i2 i3 i4 i5) ((own_draw i0).toInt8.toInt32) ((own_draw i1).toInt8.toInt32) ((own_draw i2).toInt8.toInt32) ((own_draw i3).toInt8.toInt32) 5 (own_j0_170_count i0 i1 i2 i3 i4 i5) (own_j0_170_afterCarriageReturn i0 i1 i2 i3 i4 i5) (own_v0_45 i0 i1 i2 i3 i4 i5)).1) ((own_tl (own_v0_45 i0 i1 i2 i3 i4 i5) (own_v0_58 i0 i1 i2 i3 i4 i5) (own_j0_170_count i0 i1 i2 i3 i4 i5) (own_j0_170_afterCarriageReturn i0 i1 i2 i3 i4 i5) (own_j0_105_xml11 i0 i1 i2 i3 i4 i5) ((own_draw i0).toInt8.toInt32) ((own_draw i1).toInt8.toInt32) ((own_draw i2).toInt8.toInt32) ((own_draw i3).toInt8.toInt32) 5 (own_j0_170_count i0 i1 i2 i3 i4 i5) (own_j0_170_afterCarriageReturn i0 i1 i2 i3 i4 i5) (own_v0_45 i0 i1 i2 i3 i4 i5)).2) (own_j0_105_xml11 i0 i1 i2 i3 i4 i5))))] [(.int (0 : Int32)), (.int ((own_cnt (own_tc (10 : Int32) ((own_tl (own_v0_45 i0 i1 i2 i3 i4 i5) (own_v0_58 i0 i1 i2 i3 i4 i5) (own_j0_170_count i0 i1 i2 i3 i4 i5) (own_j0_170_afterCarriageReturn i0 i1 i2 i3 i4 i5) (own_j0_105_xml11 i0 i1 i2 i3 i4 i5) ((own_draw i0).toInt8.toInt32) ((own_draw i1).toInt8.toInt32) ((own_draw i2).toInt8.toInt32) ((own_draw i3).toInt8.toInt32) 5 (own_j0_170_count i0 i1 i2 i3 i4 i5) (own_j0_170_afterCarriageReturn i0 i1 i2 i3 i4 i5) (own_v0_45 i0 i1 i2 i3 i4 i5)).1) ((own_tl (own_v0_45 i0 i1 i2 i3 i4 i5) (own_v0_58 i0 i1 i2 i3 i4 i5) (own_j0_170_count i0 i1 i2 i3 i4 i5) (own_j0_170_afterCarriageReturn i0 i1 i2 i3 i4 i5) (own_j0_105_xml11 i0 i1 i2 i3 i4 i5) ((own_draw i0).toInt8.toInt32) ((own_draw i1).toInt8.toInt32) ((own_draw i2).toInt8.toInt32) ((own_draw i3).toInt8.toInt32) 5 (own_j0_170_count i0 i1 i2 i3 i4 i5) (own_j0_170_afterCarriageReturn i0 i1 i2 i3 i4 i5) (own_v0_45 i0 i1 i2 i3 i4 i5)).2) (own_j0_105_xml11 i0 i1 i2 i3 i4 i5))) - (own_cnt ((own_tl (own_v0_45 i0 i1 i2 i3 i4 i5) (own_v0_58 i0 i1 i2 i3 i4 i5) (own_j0_170_count i0 i1 i2 i3 i4 i5) (own_j0_170_afterCarriageReturn i0 i1 i2 i3 i4 i5) (own_j0_105_xml11 i0 i1 i2 i3 i4 i5) ((own_draw i0).toInt8.toInt32) ((own_draw i1).toInt8.toInt32) ((own_draw i2).toInt8.toInt32) ((own_draw i3).toInt8.toInt32) 5 (own_j0_170_count i0 i1 i2 i3 i4 i5) (own_j0_170_afterCarriageReturn i0 i1 i2 i3 i4 i5) (own_v0_45 i0 i1 i2 i3 i4 i5)).1))))])) _
                refine XS.goto X43.here hx rfl (pc0 := 314) (pc' := 318) rfl (hb hby at_314) (by decide) (by decide) ?_
                exact kt
              have jj := J47 _ _ X43 e43 N43
              rw [show (own_j0_318_S0 i0 i1 i2 i3 i4 i5) = (0 : Int32) from by rw [own_j0_318_S0, if_neg hc46]] at jj
              exact jj
          · -- pc 300
            refine ownE.go (T' := T43) (f' := (mkF m 325 #[.val (.int i0), .val (.int i1), .val (.int i2), .val (.int i3), .val (.int i4), .val (.int i5), .val (.ref b1), .val (.int (own_v0_45 i0 i1 i2 i3 i4 i5)), .val (.int (own_v0_58 i0 i1 i2 i3 i4 i5)), .val (.int (i5 &&& (3 : Int32))), .val (.int (own_j0_78_S0 i0 i1 i2 i3 i4 i5)), .val (.int (own_v0_84 i0 i1 i2 i3 i4 i5)), .val (.ref b13), .val (.int (own_j0_170_L13 i0 i1 i2 i3 i4 i5)), .val (.int (own_cnt (own_j0_170_count i0 i1 i2 i3 i4 i5))), .val (.int (own_v0_228 i0 i1 i2 i3 i4 i5)), .val (.int (own_j0_259_S0 i0 i1 i2 i3 i4 i5)), .val (.int (own_cnt ((own_tl (own_v0_45 i0 i1 i2 i3 i4 i5) (own_v0_58 i0 i1 i2 i3 i4 i5) (own_j0_170_count i0 i1 i2 i3 i4 i5) (own_j0_170_afterCarriageReturn i0 i1 i2 i3 i4 i5) (own_j0_105_xml11 i0 i1 i2 i3 i4 i5) ((own_draw i0).toInt8.toInt32) ((own_draw i1).toInt8.toInt32) ((own_draw i2).toInt8.toInt32) ((own_draw i3).toInt8.toInt32) 5 (own_j0_170_count i0 i1 i2 i3 i4 i5) (own_j0_170_afterCarriageReturn i0 i1 i2 i3 i4 i5) (own_v0_45 i0 i1 i2 i3 i4 i5)).1))), .val (.int (own_cnt (own_tc (10 : Int32) ((own_tl (own_v0_45 i0 i1 i2 i3 i4 i5) (own_v0_58 i0 i1 i2 i3 i4 i5) (own_j0_170_count i0 i1 i2 i3 i4 i5) (own_j0_170_afterCarriageReturn i0 i1 i2 i3 i4 i5) (own_j0_105_xml11 i0 i1 i2 i3 i4 i5) ((own_draw i0).toInt8.toInt32) ((own_draw i1).toInt8.toInt32) ((own_draw i2).toInt8.toInt32) ((own_draw i3).toInt8.toInt32) 5 (own_j0_170_count i0 i1 i2 i3 i4 i5) (own_j0_170_afterCarriageReturn i0 i1 i2 i3 i4 i5) (own_v0_45 i0 i1 i2 i3 i4 i5)).1) ((own_tl (own_v0_45 i0 i1 i2 i3 i4 i5) (own_v0_58 i0 i1 i2 i3 i4 i5) (own_j0_170_count i0 i1 i2 i3 i4 i5) (own_j0_170_afterCarriageReturn i0 i1 i2 i3 i4 i5) (own_j0_105_xml11 i0 i1 i2 i3 i4 i5) ((own_draw i0).toInt8.toInt32) ((own_draw i1).toInt8.toInt32) ((own_draw i2).toInt8.toInt32) ((own_draw i3).toInt8.toInt32) 5 (own_j0_170_count i0 i1 i2 i3 i4 i5) (own_j0_170_afterCarriageReturn i0 i1 i2 i3 i4 i5) (own_v0_45 i0 i1 i2 i3 i4 i5)).2) (own_j0_105_xml11 i0 i1 i2 i3 i4 i5))))] [])) (fun t kt => XS.icmpYes (g := (mkF m 300 #[.val (.int i0), .val (.int i1), .val (.int i2), .val (.int i3), .val (.int i4), .val (.int i5), .val (.ref b1), .val (.int (own_v0_45 i0 i1 i2 i3 i4 i5)), .val (.int (own_v0_58 i0 i1 i2 i3 i4 i5)), .val (.int (i5 &&& (3 : Int32))), .val (.int (own_j0_78_S0 i0 i1 i2 i3 i4 i5)), .val (.int (own_v0_84 i0 i1 i2 i3 i4 i5)), .val (.ref b13), .val (.int (own_j0_170_L13 i0 i1 i2 i3 i4 i5)), .val (.int (own_cnt (own_j0_170_count i0 i1 i2 i3 i4 i5))), .val (.int (own_v0_228 i0 i1 i2 i3 i4 i5)), .val (.int (own_j0_259_S0 i0 i1 i2 i3 i4 i5)), .val (.int (own_cnt ((own_tl (own_v0_45 i0 i1 i2 i3 i4 i5) (own_v0_58 i0 i1 i2 i3 i4 i5) (own_j0_170_count i0 i1 i2 i3 i4 i5) (own_j0_170_afterCarriageReturn i0 i1 i2 i3 i4 i5) (own_j0_105_xml11 i0 i1 i2 i3 i4 i5) ((own_draw i0).toInt8.toInt32) ((own_draw i1).toInt8.toInt32) ((own_draw i2).toInt8.toInt32) ((own_draw i3).toInt8.toInt32) 5 (own_j0_170_count i0 i1 i2 i3 i4 i5) (own_j0_170_afterCarriageReturn i0 i1 i2 i3 i4 i5) (own_v0_45 i0 i1 i2 i3 i4 i5)).1))), .val (.int (own_cnt (own_tc (10 : Int32) ((own_tl (own_v0_45 i0 i1 i2 i3 i4 i5) (own_v0_58 i0 i1 i2 i3 i4 i5) (own_j0_170_count i0 i1 i2 i3 i4 i5) (own_j0_170_afterCarriageReturn i0 i1 i2 i3 i4 i5) (own_j0_105_xml11 i0 i1 i2 i3 i4 i5) ((own_draw i0).toInt8.toInt32) ((own_draw i1).toInt8.toInt32) ((own_draw i2).toInt8.toInt32) ((own_draw i3).toInt8.toInt32) 5 (own_j0_170_count i0 i1 i2 i3 i4 i5) (own_j0_170_afterCarriageReturn i0 i1 i2 i3 i4 i5) (own_v0_45 i0 i1 i2 i3 i4 i5)).1) ((own_tl (own_v0_45 i0 i1 i2 i3 i4 i5) (own_v0_58 i0 i1 i2 i3 i4 i5) (own_j0_170_count i0 i1 i2 i3 i4 i5) (own_j0_170_afterCarriageReturn i0 i1 i2 i3 i4 i5) (own_j0_105_xml11 i0 i1 i2 i3 i4 i5) ((own_draw i0).toInt8.toInt32) ((own_draw i1).toInt8.toInt32) ((own_draw i2).toInt8.toInt32) ((own_draw i3).toInt8.toInt32) 5 (own_j0_170_count i0 i1 i2 i3 i4 i5) (own_j0_170_afterCarriageReturn i0 i1 i2 i3 i4 i5) (own_v0_45 i0 i1 i2 i3 i4 i5)).2) (own_j0_105_xml11 i0 i1 i2 i3 i4 i5))))] [(.int ((own_cnt (own_j0_170_count i0 i1 i2 i3 i4 i5)) + (own_v0_228 i0 i1 i2 i3 i4 i5))), (.int (own_cnt ((own_tl (own_v0_45 i0 i1 i2 i3 i4 i5) (own_v0_58 i0 i1 i2 i3 i4 i5) (own_j0_170_count i0 i1 i2 i3 i4 i5) (own_j0_170_afterCarriageReturn i0 i1 i2 i3 i4 i5) (own_j0_105_xml11 i0 i1 i2 i3 i4 i5) ((own_draw i0).toInt8.toInt32) ((own_draw i1).toInt8.toInt32) ((own_draw i2).toInt8.toInt32) ((own_draw i3).toInt8.toInt32) 5 (own_j0_170_count i0 i1 i2 i3 i4 i5) (own_j0_170_afterCarriageReturn i0 i1 i2 i3 i4 i5) (own_v0_45 i0 i1 i2 i3 i4 i5)).1)))])) X43.here hx rfl (pc0 := 300) (pc' := 325) rfl (hb hby at_300) rfl (Jvm.Free.XT.ii_ne_t hc44) (by decide) (by decide) kt) ?_
            refine ownE.go (T' := T43) (f' := (mkF m 326 #[.val (.int i0), .val (.int i1), .val (.int i2), .val (.int i3), .val (.int i4), .val (.int i5), .val (.ref b1), .val (.int (own_v0_45 i0 i1 i2 i3 i4 i5)), .val (.int (own_v0_58 i0 i1 i2 i3 i4 i5)), .val (.int (i5 &&& (3 : Int32))), .val (.int (own_j0_78_S0 i0 i1 i2 i3 i4 i5)), .val (.int (own_v0_84 i0 i1 i2 i3 i4 i5)), .val (.ref b13), .val (.int (own_j0_170_L13 i0 i1 i2 i3 i4 i5)), .val (.int (own_cnt (own_j0_170_count i0 i1 i2 i3 i4 i5))), .val (.int (own_v0_228 i0 i1 i2 i3 i4 i5)), .val (.int (own_j0_259_S0 i0 i1 i2 i3 i4 i5)), .val (.int (own_cnt ((own_tl (own_v0_45 i0 i1 i2 i3 i4 i5) (own_v0_58 i0 i1 i2 i3 i4 i5) (own_j0_170_count i0 i1 i2 i3 i4 i5) (own_j0_170_afterCarriageReturn i0 i1 i2 i3 i4 i5) (own_j0_105_xml11 i0 i1 i2 i3 i4 i5) ((own_draw i0).toInt8.toInt32) ((own_draw i1).toInt8.toInt32) ((own_draw i2).toInt8.toInt32) ((own_draw i3).toInt8.toInt32) 5 (own_j0_170_count i0 i1 i2 i3 i4 i5) (own_j0_170_afterCarriageReturn i0 i1 i2 i3 i4 i5) (own_v0_45 i0 i1 i2 i3 i4 i5)).1))), .val (.int (own_cnt (own_tc (10 : Int32) ((own_tl (own_v0_45 i0 i1 i2 i3 i4 i5) (own_v0_58 i0 i1 i2 i3 i4 i5) (own_j0_170_count i0 i1 i2 i3 i4 i5) (own_j0_170_afterCarriageReturn i0 i1 i2 i3 i4 i5) (own_j0_105_xml11 i0 i1 i2 i3 i4 i5) ((own_draw i0).toInt8.toInt32) ((own_draw i1).toInt8.toInt32) ((own_draw i2).toInt8.toInt32) ((own_draw i3).toInt8.toInt32) 5 (own_j0_170_count i0 i1 i2 i3 i4 i5) (own_j0_170_afterCarriageReturn i0 i1 i2 i3 i4 i5) (own_v0_45 i0 i1 i2 i3 i4 i5)).1) ((own_tl (own_v0_45 i0 i1 i2 i3 i4 i5) (own_v0_58 i0 i1 i2 i3 i4 i5) (own_j0_170_count i0 i1 i2 i3 i4 i5) (own_j0_170_afterCarriageReturn i0 i1 i2 i3 i4 i5) (own_j0_105_xml11 i0 i1 i2 i3 i4 i5) ((own_draw i0).toInt8.toInt32) ((own_draw i1).toInt8.toInt32) ((own_draw i2).toInt8.toInt32) ((own_draw i3).toInt8.toInt32) 5 (own_j0_170_count i0 i1 i2 i3 i4 i5) (own_j0_170_afterCarriageReturn i0 i1 i2 i3 i4 i5) (own_v0_45 i0 i1 i2 i3 i4 i5)).2) (own_j0_105_xml11 i0 i1 i2 i3 i4 i5))))] [(.int (0 : Int32))])) (fun t kt => ?_) ?_
            · show Steps p.tables e below (T43.setTop (mkF m 325 #[.val (.int i0), .val (.int i1), .val (.int i2), .val (.int i3), .val (.int i4), .val (.int i5), .val (.ref b1), .val (.int (own_v0_45 i0 i1 i2 i3 i4 i5)), .val (.int (own_v0_58 i0 i1 i2 i3 i4 i5)), .val (.int (i5 &&& (3 : Int32))), .val (.int (own_j0_78_S0 i0 i1 i2 i3 i4 i5)), .val (.int (own_v0_84 i0 i1 i2 i3 i4 i5)), .val (.ref b13), .val (.int (own_j0_170_L13 i0 i1 i2 i3 i4 i5)), .val (.int (own_cnt (own_j0_170_count i0 i1 i2 i3 i4 i5))), .val (.int (own_v0_228 i0 i1 i2 i3 i4 i5)), .val (.int (own_j0_259_S0 i0 i1 i2 i3 i4 i5)), .val (.int (own_cnt ((own_tl (own_v0_45 i0 i1 i2 i3 i4 i5) (own_v0_58 i0 i1 i2 i3 i4 i5) (own_j0_170_count i0 i1 i2 i3 i4 i5) (own_j0_170_afterCarriageReturn i0 i1 i2 i3 i4 i5) (own_j0_105_xml11 i0 i1 i2 i3 i4 i5) ((own_draw i0).toInt8.toInt32) ((own_draw i1).toInt8.toInt32) ((own_draw i2).toInt8.toInt32) ((own_draw i3).toInt8.toInt32) 5 (own_j0_170_count i0 i1 i2 i3 i4 i5) (own_j0_170_afterCarriageReturn i0 i1 i2 i3 i4 i5) (own_v0_45 i0 i1 i2 i3 i4 i5)).1))), .val (.int (own_cnt (own_tc (10 : Int32) ((own_tl (own_v0_45 i0 i1 i2 i3 i4 i5) (own_v0_58 i0 i1 i2 i3 i4 i5) (own_j0_170_count i0 i1 i2 i3 i4 i5) (own_j0_170_afterCarriageReturn i0 i1 i2 i3 i4 i5) (own_j0_105_xml11 i0 i1 i2 i3 i4 i5) ((own_draw i0).toInt8.toInt32) ((own_draw i1).toInt8.toInt32) ((own_draw i2).toInt8.toInt32) ((own_draw i3).toInt8.toInt32) 5 (own_j0_170_count i0 i1 i2 i3 i4 i5) (own_j0_170_afterCarriageReturn i0 i1 i2 i3 i4 i5) (own_v0_45 i0 i1 i2 i3 i4 i5)).1) ((own_tl (own_v0_45 i0 i1 i2 i3 i4 i5) (own_v0_58 i0 i1 i2 i3 i4 i5) (own_j0_170_count i0 i1 i2 i3 i4 i5) (own_j0_170_afterCarriageReturn i0 i1 i2 i3 i4 i5) (own_j0_105_xml11 i0 i1 i2 i3 i4 i5) ((own_draw i0).toInt8.toInt32) ((own_draw i1).toInt8.toInt32) ((own_draw i2).toInt8.toInt32) ((own_draw i3).toInt8.toInt32) 5 (own_j0_170_count i0 i1 i2 i3 i4 i5) (own_j0_170_afterCarriageReturn i0 i1 i2 i3 i4 i5) (own_v0_45 i0 i1 i2 i3 i4 i5)).2) (own_j0_105_xml11 i0 i1 i2 i3 i4 i5))))] [])) _
              refine XS.iconst X43.here hx rfl (hb hby at_325) ?_
              exact kt
            refine ownE.retN X43 hx hlk (t := .boolean) hret (by simp) (hb hby at_326) ?_ (by decide) (by decide)
            show own_Q0 Z i0 i1 i2 i3 i4 i5 h0 n0 _ T43.heap _
            rw [e43]
            exact ⟨(by rw [own_f0, if_neg hc44] <;> first | rfl | decide), N43, K42⟩
        refine ownE.go (T' := T34) (f' := (mkF m 234 #[.val (.int i0), .val (.int i1), .val (.int i2), .val (.int i3), .val (.int i4), .val (.int i5), .val (.ref b1), .val (.int (own_v0_45 i0 i1 i2 i3 i4 i5)), .val (.int (own_v0_58 i0 i1 i2 i3 i4 i5)), .val (.int (i5 &&& (3 : Int32))), .val (.int (own_j0_78_S0 i0 i1 i2 i3 i4 i5)), .val (.int (own_v0_84 i0 i1 i2 i3 i4 i5)), .val (.ref b13), .val (.int (own_j0_170_L13 i0 i1 i2 i3 i4 i5)), .val (.int (own_cnt (own_j0_170_count i0 i1 i2 i3 i4 i5))), .val (.int (own_v0_228 i0 i1 i2 i3 i4 i5)), .unset, .unset, .unset] [(.int (own_v0_58 i0 i1 i2 i3 i4 i5)), (.int (own_v0_45 i0 i1 i2 i3 i4 i5))])) (fun t kt => ?_) ?_
        · show Steps p.tables e below (T34.setTop (mkF m 230 #[.val (.int i0), .val (.int i1), .val (.int i2), .val (.int i3), .val (.int i4), .val (.int i5), .val (.ref b1), .val (.int (own_v0_45 i0 i1 i2 i3 i4 i5)), .val (.int (own_v0_58 i0 i1 i2 i3 i4 i5)), .val (.int (i5 &&& (3 : Int32))), .val (.int (own_j0_78_S0 i0 i1 i2 i3 i4 i5)), .val (.int (own_v0_84 i0 i1 i2 i3 i4 i5)), .val (.ref b13), .val (.int (own_j0_170_L13 i0 i1 i2 i3 i4 i5)), .val (.int (own_cnt (own_j0_170_count i0 i1 i2 i3 i4 i5))), .val (.int (own_v0_228 i0 i1 i2 i3 i4 i5)), .unset, .unset, .unset] [])) _
          refine XS.iload X34.here hx rfl (hb hby at_230) rfl ?_
          show Steps p.tables e below (T34.setTop (mkF m 232 #[.val (.int i0), .val (.int i1), .val (.int i2), .val (.int i3), .val (.int i4), .val (.int i5), .val (.ref b1), .val (.int (own_v0_45 i0 i1 i2 i3 i4 i5)), .val (.int (own_v0_58 i0 i1 i2 i3 i4 i5)), .val (.int (i5 &&& (3 : Int32))), .val (.int (own_j0_78_S0 i0 i1 i2 i3 i4 i5)), .val (.int (own_v0_84 i0 i1 i2 i3 i4 i5)), .val (.ref b13), .val (.int (own_j0_170_L13 i0 i1 i2 i3 i4 i5)), .val (.int (own_cnt (own_j0_170_count i0 i1 i2 i3 i4 i5))), .val (.int (own_v0_228 i0 i1 i2 i3 i4 i5)), .unset, .unset, .unset] [(.int (own_v0_45 i0 i1 i2 i3 i4 i5))])) _
          refine XS.iload X34.here hx rfl (hb hby at_232) rfl ?_
          exact kt
        by_cases hc36 : (own_v0_45 i0 i1 i2 i3 i4 i5) < (own_v0_58 i0 i1 i2 i3 i4 i5)
        · -- pc 234
          refine ownE.go (T' := T34) (f' := (mkF m 237 #[.val (.int i0), .val (.int i1), .val (.int i2), .val (.int i3), .val (.int i4), .val (.int i5), .val (.ref b1), .val (.int (own_v0_45 i0 i1 i2 i3 i4 i5)), .val (.int (own_v0_58 i0 i1 i2 i3 i4 i5)), .val (.int (i5 &&& (3 : Int32))), .val (.int (own_j0_78_S0 i0 i1 i2 i3 i4 i5)), .val (.int (own_v0_84 i0 i1 i2 i3 i4 i5)), .val (.ref b13), .val (.int (own_j0_170_L13 i0 i1 i2 i3 i4 i5)), .val (.int (own_cnt (own_j0_170_count i0 i1 i2 i3 i4 i5))), .val (.int (own_v0_228 i0 i1 i2 i3 i4 i5)), .unset, .unset, .unset] [])) (fun t kt => XS.icmpNo (g := (mkF m 234 #[.val (.int i0), .val (.int i1), .val (.int i2), .val (.int i3), .val (.int i4), .val (.int i5), .val (.ref b1), .val (.int (own_v0_45 i0 i1 i2 i3 i4 i5)), .val (.int (own_v0_58 i0 i1 i2 i3 i4 i5)), .val (.int (i5 &&& (3 : Int32))), .val (.int (own_j0_78_S0 i0 i1 i2 i3 i4 i5)), .val (.int (own_v0_84 i0 i1 i2 i3 i4 i5)), .val (.ref b13), .val (.int (own_j0_170_L13 i0 i1 i2 i3 i4 i5)), .val (.int (own_cnt (own_j0_170_count i0 i1 i2 i3 i4 i5))), .val (.int (own_v0_228 i0 i1 i2 i3 i4 i5)), .unset, .unset, .unset] [(.int (own_v0_58 i0 i1 i2 i3 i4 i5)), (.int (own_v0_45 i0 i1 i2 i3 i4 i5))])) X34.here hx rfl (hb hby at_234) rfl (Jvm.Free.XT.ii_ge_f hc36) kt) ?_
          refine ownE.go (T' := T34) (f' := (mkF m 243 #[.val (.int i0), .val (.int i1), .val (.int i2), .val (.int i3), .val (.int i4), .val (.int i5), .val (.ref b1), .val (.int (own_v0_45 i0 i1 i2 i3 i4 i5)), .val (.int (own_v0_58 i0 i1 i2 i3 i4 i5)), .val (.int (i5 &&& (3 : Int32))), .val (.int (own_j0_78_S0 i0 i1 i2 i3 i4 i5)), .val (.int (own_v0_84 i0 i1 i2 i3 i4 i5)), .val (.ref b13), .val (.int (own_j0_170_L13 i0 i1 i2 i3 i4 i5)), .val (.int (own_cnt (own_j0_170_count i0 i1 i2 i3 i4 i5))), .val (.int (own_v0_228 i0 i1 i2 i3 i4 i5)), .unset, .unset, .unset] [(.int ((own_v0_58 i0 i1 i2 i3 i4 i5) - (1 : Int32))), (.ref b1)])) (fun t kt => ?_) ?_
          · show Steps p.tables e below (T34.setTop (mkF m 237 #[.val (.int i0), .val (.int i1), .val (.int i2), .val (.int i3), .val (.int i4), .val (.int i5), .val (.ref b1), .val (.int (own_v0_45 i0 i1 i2 i3 i4 i5)), .val (.int (own_v0_58 i0 i1 i2 i3 i4 i5)), .val (.int (i5 &&& (3 : Int32))), .val (.int (own_j0_78_S0 i0 i1 i2 i3 i4 i5)), .val (.int (own_v0_84 i0 i1 i2 i3 i4 i5)), .val (.ref b13), .val (.int (own_j0_170_L13 i0 i1 i2 i3 i4 i5)), .val (.int (own_cnt (own_j0_170_count i0 i1 i2 i3 i4 i5))), .val (.int (own_v0_228 i0 i1 i2 i3 i4 i5)), .unset, .unset, .unset] [])) _
            refine XS.aload X34.here hx rfl (hb hby at_237) rfl rfl ?_
            show Steps p.tables e below (T34.setTop (mkF m 239 #[.val (.int i0), .val (.int i1), .val (.int i2), .val (.int i3), .val (.int i4), .val (.int i5), .val (.ref b1), .val (.int (own_v0_45 i0 i1 i2 i3 i4 i5)), .val (.int (own_v0_58 i0 i1 i2 i3 i4 i5)), .val (.int (i5 &&& (3 : Int32))), .val (.int (own_j0_78_S0 i0 i1 i2 i3 i4 i5)), .val (.int (own_v0_84 i0 i1 i2 i3 i4 i5)), .val (.ref b13), .val (.int (own_j0_170_L13 i0 i1 i2 i3 i4 i5)), .val (.int (own_cnt (own_j0_170_count i0 i1 i2 i3 i4 i5))), .val (.int (own_v0_228 i0 i1 i2 i3 i4 i5)), .unset, .unset, .unset] [(.ref b1)])) _
            refine XS.iload X34.here hx rfl (hb hby at_239) rfl ?_
            show Steps p.tables e below (T34.setTop (mkF m 241 #[.val (.int i0), .val (.int i1), .val (.int i2), .val (.int i3), .val (.int i4), .val (.int i5), .val (.ref b1), .val (.int (own_v0_45 i0 i1 i2 i3 i4 i5)), .val (.int (own_v0_58 i0 i1 i2 i3 i4 i5)), .val (.int (i5 &&& (3 : Int32))), .val (.int (own_j0_78_S0 i0 i1 i2 i3 i4 i5)), .val (.int (own_v0_84 i0 i1 i2 i3 i4 i5)), .val (.ref b13), .val (.int (own_j0_170_L13 i0 i1 i2 i3 i4 i5)), .val (.int (own_cnt (own_j0_170_count i0 i1 i2 i3 i4 i5))), .val (.int (own_v0_228 i0 i1 i2 i3 i4 i5)), .unset, .unset, .unset] [(.int (own_v0_58 i0 i1 i2 i3 i4 i5)), (.ref b1)])) _
            refine XS.iconst X34.here hx rfl (hb hby at_241) ?_
            show Steps p.tables e below (T34.setTop (mkF m 242 #[.val (.int i0), .val (.int i1), .val (.int i2), .val (.int i3), .val (.int i4), .val (.int i5), .val (.ref b1), .val (.int (own_v0_45 i0 i1 i2 i3 i4 i5)), .val (.int (own_v0_58 i0 i1 i2 i3 i4 i5)), .val (.int (i5 &&& (3 : Int32))), .val (.int (own_j0_78_S0 i0 i1 i2 i3 i4 i5)), .val (.int (own_v0_84 i0 i1 i2 i3 i4 i5)), .val (.ref b13), .val (.int (own_j0_170_L13 i0 i1 i2 i3 i4 i5)), .val (.int (own_cnt (own_j0_170_count i0 i1 i2 i3 i4 i5))), .val (.int (own_v0_228 i0 i1 i2 i3 i4 i5)), .unset, .unset, .unset] [(.int (1 : Int32)), (.int (own_v0_58 i0 i1 i2 i3 i4 i5)), (.ref b1)])) _
            refine XS.isub X34.here hx rfl (hb hby at_242) rfl ?_
            exact kt
          obtain ⟨cl37, Ar37, q37, S37, Nn37, Hh37, G37⟩ := id J29_cArv_b1_j
          have hin37 : ¬ (((own_v0_58 i0 i1 i2 i3 i4 i5) - (1 : Int32)) < 0 ∨ cl37.slots.size ≤ (((own_v0_58 i0 i1 i2 i3 i4 i5) - (1 : Int32))).toNatClampNeg) := inb_of S37 ⟨(own_pre hc36 (own_m5 i4).1 (own_m5 ((i4.toUInt32 >>> ((8 : Int32) &&& 31).toUInt32).toInt32)).2).1, (own_pre hc36 (own_m5 i4).1 (own_m5 ((i4.toUInt32 >>> ((8 : Int32) &&& 31).toUInt32).toInt32)).2).2⟩
          refine ownE.go (T' := T34) (f' := (mkF m 244 #[.val (.int i0), .val (.int i1), .val (.int i2), .val (.int i3), .val (.int i4), .val (.int i5), .val (.ref b1), .val (.int (own_v0_45 i0 i1 i2 i3 i4 i5)), .val (.int (own_v0_58 i0 i1 i2 i3 i4 i5)), .val (.int (i5 &&& (3 : Int32))), .val (.int (own_j0_78_S0 i0 i1 i2 i3 i4 i5)), .val (.int (own_v0_84 i0 i1 i2 i3 i4 i5)), .val (.ref b13), .val (.int (own_j0_170_L13 i0 i1 i2 i3 i4 i5)), .val (.int (own_cnt (own_j0_170_count i0 i1 i2 i3 i4 i5))), .val (.int (own_v0_228 i0 i1 i2 i3 i4 i5)), .unset, .unset, .unset] [(.int (own_sel4 ((own_v0_58 i0 i1 i2 i3 i4 i5) - (1 : Int32)) ((own_draw i0).toInt8.toInt32) ((own_draw i1).toInt8.toInt32) ((own_draw i2).toInt8.toInt32) ((own_draw i3).toInt8.toInt32)))])) (fun t kt => X34.baloadBytes hx (j := ((own_v0_58 i0 i1 i2 i3 i4 i5) - (1 : Int32))) (v := (.int (own_sel4 ((own_v0_58 i0 i1 i2 i3 i4 i5) - (1 : Int32)) ((own_draw i0).toInt8.toInt32) ((own_draw i1).toInt8.toInt32) ((own_draw i2).toInt8.toInt32) ((own_draw i3).toInt8.toInt32)))) (by rw [e34]; exact Ar37.1) (State.isArrayOf_alike hZ.alike Ar37.2.1) Ar37.2.2 hin37 (Hh37.at hin37 (own_sel4_eq _ _ _ _ _)) (g := (mkF m 243 #[.val (.int i0), .val (.int i1), .val (.int i2), .val (.int i3), .val (.int i4), .val (.int i5), .val (.ref b1), .val (.int (own_v0_45 i0 i1 i2 i3 i4 i5)), .val (.int (own_v0_58 i0 i1 i2 i3 i4 i5)), .val (.int (i5 &&& (3 : Int32))), .val (.int (own_j0_78_S0 i0 i1 i2 i3 i4 i5)), .val (.int (own_v0_84 i0 i1 i2 i3 i4 i5)), .val (.ref b13), .val (.int (own_j0_170_L13 i0 i1 i2 i3 i4 i5)), .val (.int (own_cnt (own_j0_170_count i0 i1 i2 i3 i4 i5))), .val (.int (own_v0_228 i0 i1 i2 i3 i4 i5)), .unset, .unset, .unset] [(.int ((own_v0_58 i0 i1 i2 i3 i4 i5) - (1 : Int32))), (.ref b1)])) rfl rfl (hb hby at_243) _ kt) ?_
          refine ownE.go (T' := T34) (f' := (mkF m 246 #[.val (.int i0), .val (.int i1), .val (.int i2), .val (.int i3), .val (.int i4), .val (.int i5), .val (.ref b1), .val (.int (own_v0_45 i0 i1 i2 i3 i4 i5)), .val (.int (own_v0_58 i0 i1 i2 i3 i4 i5)), .val (.int (i5 &&& (3 : Int32))), .val (.int (own_j0_78_S0 i0 i1 i2 i3 i4 i5)), .val (.int (own_v0_84 i0 i1 i2 i3 i4 i5)), .val (.ref b13), .val (.int (own_j0_170_L13 i0 i1 i2 i3 i4 i5)), .val (.int (own_cnt (own_j0_170_count i0 i1 i2 i3 i4 i5))), .val (.int (own_v0_228 i0 i1 i2 i3 i4 i5)), .unset, .unset, .unset] [(.int (13 : Int32)), (.int (own_sel4 ((own_v0_58 i0 i1 i2 i3 i4 i5) - (1 : Int32)) ((own_draw i0).toInt8.toInt32) ((own_draw i1).toInt8.toInt32) ((own_draw i2).toInt8.toInt32) ((own_draw i3).toInt8.toInt32)))])) (fun t kt => ?_) ?_
          · show Steps p.tables e below (T34.setTop (mkF m 244 #[.val (.int i0), .val (.int i1), .val (.int i2), .val (.int i3), .val (.int i4), .val (.int i5), .val (.ref b1), .val (.int (own_v0_45 i0 i1 i2 i3 i4 i5)), .val (.int (own_v0_58 i0 i1 i2 i3 i4 i5)), .val (.int (i5 &&& (3 : Int32))), .val (.int (own_j0_78_S0 i0 i1 i2 i3 i4 i5)), .val (.int (own_v0_84 i0 i1 i2 i3 i4 i5)), .val (.ref b13), .val (.int (own_j0_170_L13 i0 i1 i2 i3 i4 i5)), .val (.int (own_cnt (own_j0_170_count i0 i1 i2 i3 i4 i5))), .val (.int (own_v0_228 i0 i1 i2 i3 i4 i5)), .unset, .unset, .unset] [(.int (own_sel4 ((own_v0_58 i0 i1 i2 i3 i4 i5) - (1 : Int32)) ((own_draw i0).toInt8.toInt32) ((own_draw i1).toInt8.toInt32) ((own_draw i2).toInt8.toInt32) ((own_draw i3).toInt8.toInt32)))])) _
            refine XS.bipush X34.here hx rfl (hb hby at_244) ?_
            exact kt
          by_cases hc38 : (own_sel4 ((own_v0_58 i0 i1 i2 i3 i4 i5) - (1 : Int32)) ((own_draw i0).toInt8.toInt32) ((own_draw i1).toInt8.toInt32) ((own_draw i2).toInt8.toInt32) ((own_draw i3).toInt8.toInt32)) = (13 : Int32)
          · -- pc 246
            refine ownE.go (T' := T34) (f' := (mkF m 249 #[.val (.int i0), .val (.int i1), .val (.int i2), .val (.int i3), .val (.int i4), .val (.int i5), .val (.ref b1), .val (.int (own_v0_45 i0 i1 i2 i3 i4 i5)), .val (.int (own_v0_58 i0 i1 i2 i3 i4 i5)), .val (.int (i5 &&& (3 : Int32))), .val (.int (own_j0_78_S0 i0 i1 i2 i3 i4 i5)), .val (.int (own_v0_84 i0 i1 i2 i3 i4 i5)), .val (.ref b13), .val (.int (own_j0_170_L13 i0 i1 i2 i3 i4 i5)), .val (.int (own_cnt (own_j0_170_count i0 i1 i2 i3 i4 i5))), .val (.int (own_v0_228 i0 i1 i2 i3 i4 i5)), .unset, .unset, .unset] [])) (fun t kt => XS.icmpNo (g := (mkF m 246 #[.val (.int i0), .val (.int i1), .val (.int i2), .val (.int i3), .val (.int i4), .val (.int i5), .val (.ref b1), .val (.int (own_v0_45 i0 i1 i2 i3 i4 i5)), .val (.int (own_v0_58 i0 i1 i2 i3 i4 i5)), .val (.int (i5 &&& (3 : Int32))), .val (.int (own_j0_78_S0 i0 i1 i2 i3 i4 i5)), .val (.int (own_v0_84 i0 i1 i2 i3 i4 i5)), .val (.ref b13), .val (.int (own_j0_170_L13 i0 i1 i2 i3 i4 i5)), .val (.int (own_cnt (own_j0_170_count i0 i1 i2 i3 i4 i5))), .val (.int (own_v0_228 i0 i1 i2 i3 i4 i5)), .unset, .unset, .unset] [(.int (13 : Int32)), (.int (own_sel4 ((own_v0_58 i0 i1 i2 i3 i4 i5) - (1 : Int32)) ((own_draw i0).toInt8.toInt32) ((own_draw i1).toInt8.toInt32) ((own_draw i2).toInt8.toInt32) ((own_draw i3).toInt8.toInt32)))])) X34.here hx rfl (hb hby at_246) rfl (Jvm.Free.XT.ii_ne_f hc38) kt) ?_
            refine ownE.go (T' := T34) (f' := (mkF m 259 #[.val (.int i0), .val (.int i1), .val (.int i2), .val (.int i3), .val (.int i4), .val (.int i5), .val (.ref b1), .val (.int (own_v0_45 i0 i1 i2 i3 i4 i5)), .val (.int (own_v0_58 i0 i1 i2 i3 i4 i5)), .val (.int (i5 &&& (3 : Int32))), .val (.int (own_j0_78_S0 i0 i1 i2 i3 i4 i5)), .val (.int (own_v0_84 i0 i1 i2 i3 i4 i5)), .val (.ref b13), .val (.int (own_j0_170_L13 i0 i1 i2 i3 i4 i5)), .val (.int (own_cnt (own_j0_170_count i0 i1 i2 i3 i4 i5))), .val (.int (own_v0_228 i0 i1 i2 i3 i4 i5)), .unset, .unset, .unset] [(.int (1 : Int32))])) (fun t kt => ?_) ?_
            · show Steps p.tables e below (T34.setTop (mkF m 249 #[.val (.int i0), .val (.int i1), .val (.int i2), .val (.int i3), .val (.int i4), .val (.int i5), .val (.ref b1), .val (.int (own_v0_45 i0 i1 i2 i3 i4 i5)), .val (.int (own_v0_58 i0 i1 i2 i3 i4 i5)), .val (.int (i5 &&& (3 : Int32))), .val (.int (own_j0_78_S0 i0 i1 i2 i3 i4 i5)), .val (.int (own_v0_84 i0 i1 i2 i3 i4 i5)), .val (.ref b13), .val (.int (own_j0_170_L13 i0 i1 i2 i3 i4 i5)), .val (.int (own_cnt (own_j0_170_count i0 i1 i2 i3 i4 i5))), .val (.int (own_v0_228 i0 i1 i2 i3 i4 i5)), .unset, .unset, .unset] [])) _
              refine XS.iconst X34.here hx rfl (hb hby at_249) ?_
              show Steps p.tables e below (T34.setTop (mkF m 250 #[.val (.int i0), .val (.int i1), .val (.int i2), .val (.int i3), .val (.int i4), .val (.int i5), .val (.ref b1), .val (.int (own_v0_45 i0 i1 i2 i3 i4 i5)), .val (.int (own_v0_58 i0 i1 i2 i3 i4 i5)), .val (.int (i5 &&& (3 : Int32))), .val (.int (own_j0_78_S0 i0 i1 i2 i3 i4 i5)), .val (.int (own_v0_84 i0 i1 i2 i3 i4 i5)), .val (.ref b13), .val (.int (own_j0_170_L13 i0 i1 i2 i3 i4 i5)), .val (.int (own_cnt (own_j0_170_count i0 i1 i2 i3 i4 i5))), .val (.int (own_v0_228 i0 i1 i2 i3 i4 i5)), .unset, .unset, .unset] [(.int (1 : Int32))])) _
              refine XS.goto X34.here hx rfl (pc0 := 250) (pc' := 259) rfl (hb hby at_250) (by decide) (by decide) ?_
              exact kt
            have jj := J39 _ _ X34 e34 N34
            rw [show (own_j0_259_S0 i0 i1 i2 i3 i4 i5) = (1 : Int32) from by rw [own_j0_259_S0, if_pos hc36, if_pos hc38]] at jj
            exact jj
          · -- pc 246
            refine ownE.go (T' := T34) (f' := (mkF m 253 #[.val (.int i0), .val (.int i1), .val (.int i2), .val (.int i3), .val (.int i4), .val (.int i5), .val (.ref b1), .val (.int (own_v0_45 i0 i1 i2 i3 i4 i5)), .val (.int (own_v0_58 i0 i1 i2 i3 i4 i5)), .val (.int (i5 &&& (3 : Int32))), .val (.int (own_j0_78_S0 i0 i1 i2 i3 i4 i5)), .val (.int (own_v0_84 i0 i1 i2 i3 i4 i5)), .val (.ref b13), .val (.int (own_j0_170_L13 i0 i1 i2 i3 i4 i5)), .val (.int (own_cnt (own_j0_170_count i0 i1 i2 i3 i4 i5))), .val (.int (own_v0_228 i0 i1 i2 i3 i4 i5)), .unset, .unset, .unset] [])) (fun t kt => XS.icmpYes (g := (mkF m 246 #[.val (.int i0), .val (.int i1), .val (.int i2), .val (.int i3), .val (.int i4), .val (.int i5), .val (.ref b1), .val (.int (own_v0_45 i0 i1 i2 i3 i4 i5)), .val (.int (own_v0_58 i0 i1 i2 i3 i4 i5)), .val (.int (i5 &&& (3 : Int32))), .val (.int (own_j0_78_S0 i0 i1 i2 i3 i4 i5)), .val (.int (own_v0_84 i0 i1 i2 i3 i4 i5)), .val (.ref b13), .val (.int (own_j0_170_L13 i0 i1 i2 i3 i4 i5)), .val (.int (own_cnt (own_j0_170_count i0 i1 i2 i3 i4 i5))), .val (.int (own_v0_228 i0 i1 i2 i3 i4 i5)), .unset, .unset, .unset] [(.int (13 : Int32)), (.int (own_sel4 ((own_v0_58 i0 i1 i2 i3 i4 i5) - (1 : Int32)) ((own_draw i0).toInt8.toInt32) ((own_draw i1).toInt8.toInt32) ((own_draw i2).toInt8.toInt32) ((own_draw i3).toInt8.toInt32)))])) X34.here hx rfl (pc0 := 246) (pc' := 253) rfl (hb hby at_246) rfl (Jvm.Free.XT.ii_ne_t hc38) (by decide) (by decide) kt) ?_
            refine ownE.go (T' := T34) (f' := (mkF m 259 #[.val (.int i0), .val (.int i1), .val (.int i2), .val (.int i3), .val (.int i4), .val (.int i5), .val (.ref b1), .val (.int (own_v0_45 i0 i1 i2 i3 i4 i5)), .val (.int (own_v0_58 i0 i1 i2 i3 i4 i5)), .val (.int (i5 &&& (3 : Int32))), .val (.int (own_j0_78_S0 i0 i1 i2 i3 i4 i5)), .val (.int (own_v0_84 i0 i1 i2 i3 i4 i5)), .val (.ref b13), .val (.int (own_j0_170_L13 i0 i1 i2 i3 i4 i5)), .val (.int (own_cnt (own_j0_170_count i0 i1 i2 i3 i4 i5))), .val (.int (own_v0_228 i0 i1 i2 i3 i4 i5)), .unset, .unset, .unset] [(.int (0 : Int32))])) (fun t kt => ?_) ?_
            · show Steps p.tables e below (T34.setTop (mkF m 253 #[.val (.int i0), .val (.int i1), .val (.int i2), .val (.int i3), .val (.int i4), .val (.int i5), .val (.ref b1), .val (.int (own_v0_45 i0 i1 i2 i3 i4 i5)), .val (.int (own_v0_58 i0 i1 i2 i3 i4 i5)), .val (.int (i5 &&& (3 : Int32))), .val (.int (own_j0_78_S0 i0 i1 i2 i3 i4 i5)), .val (.int (own_v0_84 i0 i1 i2 i3 i4 i5)), .val (.ref b13), .val (.int (own_j0_170_L13 i0 i1 i2 i3 i4 i5)), .val (.int (own_cnt (own_j0_170_count i0 i1 i2 i3 i4 i5))), .val (.int (own_v0_228 i0 i1 i2 i3 i4 i5)), .unset, .unset, .unset] [])) _
              refine XS.iconst X34.here hx rfl (hb hby at_253) ?_
              show Steps p.tables e below (T34.setTop (mkF m 254 #[.val (.int i0), .val (.int i1), .val (.int i2), .val (.int i3), .val (.int i4), .val (.int i5), .val (.ref b1), .val (.int (own_v0_45 i0 i1 i2 i3 i4 i5)), .val (.int (own_v0_58 i0 i1 i2 i3 i4 i5)), .val (.int (i5 &&& (3 : Int32))), .val (.int (own_j0_78_S0 i0 i1 i2 i3 i4 i5)), .val (.int (own_v0_84 i0 i1 i2 i3 i4 i5)), .val (.ref b13), .val (.int (own_j0_170_L13 i0 i1 i2 i3 i4 i5)), .val (.int (own_cnt (own_j0_170_count i0 i1 i2 i3 i4 i5))), .val (.int (own_v0_228 i0 i1 i2 i3 i4 i5)), .unset, .unset, .unset] [(.int (0 : Int32))])) _
              refine XS.goto X34.here hx rfl (pc0 := 254) (pc' := 259) rfl (hb hby at_254) (by decide) (by decide) ?_
              exact kt
            have jj := J39 _ _ X34 e34 N34
            rw [show (own_j0_259_S0 i0 i1 i2 i3 i4 i5) = (0 : Int32) from by rw [own_j0_259_S0, if_pos hc36, if_neg hc38]] at jj
            exact jj
        · -- pc 234
          refine ownE.go (T' := T34) (f' := (mkF m 257 #[.val (.int i0), .val (.int i1), .val (.int i2), .val (.int i3), .val (.int i4), .val (.int i5), .val (.ref b1), .val (.int (own_v0_45 i0 i1 i2 i3 i4 i5)), .val (.int (own_v0_58 i0 i1 i2 i3 i4 i5)), .val (.int (i5 &&& (3 : Int32))), .val (.int (own_j0_78_S0 i0 i1 i2 i3 i4 i5)), .val (.int (own_v0_84 i0 i1 i2 i3 i4 i5)), .val (.ref b13), .val (.int (own_j0_170_L13 i0 i1 i2 i3 i4 i5)), .val (.int (own_cnt (own_j0_170_count i0 i1 i2 i3 i4 i5))), .val (.int (own_v0_228 i0 i1 i2 i3 i4 i5)), .unset, .unset, .unset] [])) (fun t kt => XS.icmpYes (g := (mkF m 234 #[.val (.int i0), .val (.int i1), .val (.int i2), .val (.int i3), .val (.int i4), .val (.int i5), .val (.ref b1), .val (.int (own_v0_45 i0 i1 i2 i3 i4 i5)), .val (.int (own_v0_58 i0 i1 i2 i3 i4 i5)), .val (.int (i5 &&& (3 : Int32))), .val (.int (own_j0_78_S0 i0 i1 i2 i3 i4 i5)), .val (.int (own_v0_84 i0 i1 i2 i3 i4 i5)), .val (.ref b13), .val (.int (own_j0_170_L13 i0 i1 i2 i3 i4 i5)), .val (.int (own_cnt (own_j0_170_count i0 i1 i2 i3 i4 i5))), .val (.int (own_v0_228 i0 i1 i2 i3 i4 i5)), .unset, .unset, .unset] [(.int (own_v0_58 i0 i1 i2 i3 i4 i5)), (.int (own_v0_45 i0 i1 i2 i3 i4 i5))])) X34.here hx rfl (pc0 := 234) (pc' := 257) rfl (hb hby at_234) rfl (Jvm.Free.XT.ii_ge_t hc36) (by decide) (by decide) kt) ?_
          refine ownE.go (T' := T34) (f' := (mkF m 259 #[.val (.int i0), .val (.int i1), .val (.int i2), .val (.int i3), .val (.int i4), .val (.int i5), .val (.ref b1), .val (.int (own_v0_45 i0 i1 i2 i3 i4 i5)), .val (.int (own_v0_58 i0 i1 i2 i3 i4 i5)), .val (.int (i5 &&& (3 : Int32))), .val (.int (own_j0_78_S0 i0 i1 i2 i3 i4 i5)), .val (.int (own_v0_84 i0 i1 i2 i3 i4 i5)), .val (.ref b13), .val (.int (own_j0_170_L13 i0 i1 i2 i3 i4 i5)), .val (.int (own_cnt (own_j0_170_count i0 i1 i2 i3 i4 i5))), .val (.int (own_v0_228 i0 i1 i2 i3 i4 i5)), .unset, .unset, .unset] [(.int (own_j0_170_L13 i0 i1 i2 i3 i4 i5))])) (fun t kt => ?_) ?_
          · show Steps p.tables e below (T34.setTop (mkF m 257 #[.val (.int i0), .val (.int i1), .val (.int i2), .val (.int i3), .val (.int i4), .val (.int i5), .val (.ref b1), .val (.int (own_v0_45 i0 i1 i2 i3 i4 i5)), .val (.int (own_v0_58 i0 i1 i2 i3 i4 i5)), .val (.int (i5 &&& (3 : Int32))), .val (.int (own_j0_78_S0 i0 i1 i2 i3 i4 i5)), .val (.int (own_v0_84 i0 i1 i2 i3 i4 i5)), .val (.ref b13), .val (.int (own_j0_170_L13 i0 i1 i2 i3 i4 i5)), .val (.int (own_cnt (own_j0_170_count i0 i1 i2 i3 i4 i5))), .val (.int (own_v0_228 i0 i1 i2 i3 i4 i5)), .unset, .unset, .unset] [])) _
            refine XS.iload X34.here hx rfl (hb hby at_257) rfl ?_
            exact kt
          have jj := J39 _ _ X34 e34 N34
          rw [show (own_j0_259_S0 i0 i1 i2 i3 i4 i5) = (own_j0_170_L13 i0 i1 i2 i3 i4 i5) from by rw [own_j0_259_S0, if_neg hc36]] at jj
          exact jj
      refine ownE.go (T' := TJ18) (f' := (mkF m 111 #[.val (.int i0), .val (.int i1), .val (.int i2), .val (.int i3), .val (.int i4), .val (.int i5), .val (.ref b1), .val (.int (own_v0_45 i0 i1 i2 i3 i4 i5)), .val (.int (own_v0_58 i0 i1 i2 i3 i4 i5)), .val (.int (i5 &&& (3 : Int32))), .val (.int (own_j0_78_S0 i0 i1 i2 i3 i4 i5)), .val (.int (own_v0_84 i0 i1 i2 i3 i4 i5)), .val (.ref b13), .val (.int (0 : Int32)), .unset, .unset, .unset, .unset, .unset] [(.int (1 : Int32)), (.int (i5 &&& (3 : Int32)))])) (fun t kt => ?_) ?_
      · show Steps p.tables e below (TJ18.setTop (mkF m 108 #[.val (.int i0), .val (.int i1), .val (.int i2), .val (.int i3), .val (.int i4), .val (.int i5), .val (.ref b1), .val (.int (own_v0_45 i0 i1 i2 i3 i4 i5)), .val (.int (own_v0_58 i0 i1 i2 i3 i4 i5)), .val (.int (i5 &&& (3 : Int32))), .val (.int (own_j0_78_S0 i0 i1 i2 i3 i4 i5)), .val (.int (own_v0_84 i0 i1 i2 i3 i4 i5)), .val (.ref b13), .val (.int (0 : Int32)), .unset, .unset, .unset, .unset, .unset] [])) _
        refine XS.iload XJ18.here hx rfl (hb hby at_108) rfl ?_
        show Steps p.tables e below (TJ18.setTop (mkF m 110 #[.val (.int i0), .val (.int i1), .val (.int i2), .val (.int i3), .val (.int i4), .val (.int i5), .val (.ref b1), .val (.int (own_v0_45 i0 i1 i2 i3 i4 i5)), .val (.int (own_v0_58 i0 i1 i2 i3 i4 i5)), .val (.int (i5 &&& (3 : Int32))), .val (.int (own_j0_78_S0 i0 i1 i2 i3 i4 i5)), .val (.int (own_v0_84 i0 i1 i2 i3 i4 i5)), .val (.ref b13), .val (.int (0 : Int32)), .unset, .unset, .unset, .unset, .unset] [(.int (i5 &&& (3 : Int32)))])) _
        refine XS.iconst XJ18.here hx rfl (hb hby at_110) ?_
        exact kt
      by_cases hc20 : (i5 &&& (3 : Int32)) = (1 : Int32)
      · -- pc 111
        refine ownE.go (T' := TJ18) (f' := (mkF m 114 #[.val (.int i0), .val (.int i1), .val (.int i2), .val (.int i3), .val (.int i4), .val (.int i5), .val (.ref b1), .val (.int (own_v0_45 i0 i1 i2 i3 i4 i5)), .val (.int (own_v0_58 i0 i1 i2 i3 i4 i5)), .val (.int (i5 &&& (3 : Int32))), .val (.int (own_j0_78_S0 i0 i1 i2 i3 i4 i5)), .val (.int (own_v0_84 i0 i1 i2 i3 i4 i5)), .val (.ref b13), .val (.int (0 : Int32)), .unset, .unset, .unset, .unset, .unset] [])) (fun t kt => XS.icmpNo (g := (mkF m 111 #[.val (.int i0), .val (.int i1), .val (.int i2), .val (.int i3), .val (.int i4), .val (.int i5), .val (.ref b1), .val (.int (own_v0_45 i0 i1 i2 i3 i4 i5)), .val (.int (own_v0_58 i0 i1 i2 i3 i4 i5)), .val (.int (i5 &&& (3 : Int32))), .val (.int (own_j0_78_S0 i0 i1 i2 i3 i4 i5)), .val (.int (own_v0_84 i0 i1 i2 i3 i4 i5)), .val (.ref b13), .val (.int (0 : Int32)), .unset, .unset, .unset, .unset, .unset] [(.int (1 : Int32)), (.int (i5 &&& (3 : Int32)))])) XJ18.here hx rfl (hb hby at_111) rfl (Jvm.Free.XT.ii_ne_f hc20) kt) ?_
        refine ownE.go (T' := TJ18) (f' := (mkF m 118 #[.val (.int i0), .val (.int i1), .val (.int i2), .val (.int i3), .val (.int i4), .val (.int i5), .val (.ref b1), .val (.int (own_v0_45 i0 i1 i2 i3 i4 i5)), .val (.int (own_v0_58 i0 i1 i2 i3 i4 i5)), .val (.int (i5 &&& (3 : Int32))), .val (.int (own_j0_78_S0 i0 i1 i2 i3 i4 i5)), .val (.int (own_v0_84 i0 i1 i2 i3 i4 i5)), .val (.ref b13), .val (.int (0 : Int32)), .unset, .unset, .unset, .unset, .unset] [(.int (13 : Int32)), (.ref b13)])) (fun t kt => ?_) ?_
        · show Steps p.tables e below (TJ18.setTop (mkF m 114 #[.val (.int i0), .val (.int i1), .val (.int i2), .val (.int i3), .val (.int i4), .val (.int i5), .val (.ref b1), .val (.int (own_v0_45 i0 i1 i2 i3 i4 i5)), .val (.int (own_v0_58 i0 i1 i2 i3 i4 i5)), .val (.int (i5 &&& (3 : Int32))), .val (.int (own_j0_78_S0 i0 i1 i2 i3 i4 i5)), .val (.int (own_v0_84 i0 i1 i2 i3 i4 i5)), .val (.ref b13), .val (.int (0 : Int32)), .unset, .unset, .unset, .unset, .unset] [])) _
          refine XS.aload XJ18.here hx rfl (hb hby at_114) rfl rfl ?_
          show Steps p.tables e below (TJ18.setTop (mkF m 116 #[.val (.int i0), .val (.int i1), .val (.int i2), .val (.int i3), .val (.int i4), .val (.int i5), .val (.ref b1), .val (.int (own_v0_45 i0 i1 i2 i3 i4 i5)), .val (.int (own_v0_58 i0 i1 i2 i3 i4 i5)), .val (.int (i5 &&& (3 : Int32))), .val (.int (own_j0_78_S0 i0 i1 i2 i3 i4 i5)), .val (.int (own_v0_84 i0 i1 i2 i3 i4 i5)), .val (.ref b13), .val (.int (0 : Int32)), .unset, .unset, .unset, .unset, .unset] [(.ref b13)])) _
          refine XS.bipush XJ18.here hx rfl (hb hby at_116) ?_
          exact kt
        obtain ⟨cq21, kq21, q21a, q21b, q21c⟩ := isOf hZ eJ18 J18_cExa_b13_j
        obtain ⟨_, _, ⟨T21, L21, k21, n21⟩, -, X21, ⟨Lc21, hQ21, l21, y21, z21⟩, st21⟩ := XJ18.virtualBack hx (y := (⟨"traceward/schema/LineBreaks", "take", "(I)V"⟩ : MethodName)) (z := (⟨"traceward/schema/LineBreaks", "take", "(I)V"⟩ : MethodName)) hown (mvT hZ (hw _ (List.mem_of_getElem? (i := 14) rfl))) (mvT hZ (hw _ (List.mem_of_getElem? (i := 15) rfl))) (notFace_of_selects (args := #[]) (mvT hZ (hw _ (List.mem_of_getElem? (i := 17) rfl)))) (mvT hZ (hw _ (List.mem_of_getElem? (i := 17) rfl))) (mvT hZ (hw _ (List.mem_of_getElem? (i := 16) rfl))) (by decide) (backOf (W := 0) (own_rm4 l Z a0 hw [] b13 (13 : Int32) (0 : Int32) (0 : Int32) (own_j0_105_xml11 i0 i1 i2 i3 i4 i5) hJ18 n0 (Nat.le_trans Z0 KJ18.1) J18_cFld_b13_count_j J18_cFld_b13_afterCarriageReturn_j J18_cFld_b13_xml11_j J18_cExa_b13_j ge_b13) hZ (hw _ (List.mem_of_getElem? (i := 18) rfl)) (hw _ (List.mem_of_getElem? (i := 7) rfl)) (by decide) (by decide)) q21a q21c (g := (mkF m 118 #[.val (.int i0), .val (.int i1), .val (.int i2), .val (.int i3), .val (.int i4), .val (.int i5), .val (.ref b1), .val (.int (own_v0_45 i0 i1 i2 i3 i4 i5)), .val (.int (own_v0_58 i0 i1 i2 i3 i4 i5)), .val (.int (i5 &&& (3 : Int32))), .val (.int (own_j0_78_S0 i0 i1 i2 i3 i4 i5)), .val (.int (own_v0_84 i0 i1 i2 i3 i4 i5)), .val (.ref b13), .val (.int (0 : Int32)), .unset, .unset, .unset, .unset, .unset] [(.int (13 : Int32)), (.ref b13)])) rfl (by rw [hml]; rfl) (Steps.refl _) (argsL := [(.int (13 : Int32))]) (rest := []) (lenOf own_pd5 rfl) rfl (by show 2 * 0 + _ ≤ _; exact Nat.le_of_eq rfl) (hb hby at_118) (fun _ _ => ⟨rfl, eJ18, (by decide : 2 + 0 ≤ _), (by decide : 7 + 0 ≤ _)⟩)
        dsimp only [Pt.U, Pt.locs, Pt.cells, Pt.slots] at X21 l21 y21 z21 st21 hQ21
        subst l21 y21 z21
        obtain ⟨rfl, N21q, K21q, f21_0, f21_1, f21_2, f21_3⟩ := hQ21
        have cArv_b1_21 : Arv Z T21.heap b1 k1 .byte (4 : Int32) [(.int ((own_draw i0).toInt8.toInt32)), (.int ((own_draw i1).toInt8.toInt32)), (.int ((own_draw i2).toInt8.toInt32)), (.int ((own_draw i3).toInt8.toInt32))] (.int (0 : Int32)) := J18_cArv_b1_j.keep K21q (ninS ne_b1_b13 nin0)
        have cExa_b13_21 : Exa Z T21.heap b13 "traceward/schema/LineBreaks" := J18_cExa_b13_j.keep K21q
        have K21 : Keep h0 T21.heap [] := KJ18.trans K21q (allS (Or.inr sz_b13) all0)
        have N21 := Fr.app NJ18 N21q
        refine ownE.goS (T' := T21) (f' := (mkF m 121 #[.val (.int i0), .val (.int i1), .val (.int i2), .val (.int i3), .val (.int i4), .val (.int i5), .val (.ref b1), .val (.int (own_v0_45 i0 i1 i2 i3 i4 i5)), .val (.int (own_v0_58 i0 i1 i2 i3 i4 i5)), .val (.int (i5 &&& (3 : Int32))), .val (.int (own_j0_78_S0 i0 i1 i2 i3 i4 i5)), .val (.int (own_v0_84 i0 i1 i2 i3 i4 i5)), .val (.ref b13), .val (.int (0 : Int32)), .unset, .unset, .unset, .unset, .unset] [])) st21 ?_
        refine ownE.go (T' := T21) (f' := (mkF m 170 #[.val (.int i0), .val (.int i1), .val (.int i2), .val (.int i3), .val (.int i4), .val (.int i5), .val (.ref b1), .val (.int (own_v0_45 i0 i1 i2 i3 i4 i5)), .val (.int (own_v0_58 i0 i1 i2 i3 i4 i5)), .val (.int (i5 &&& (3 : Int32))), .val (.int (own_j0_78_S0 i0 i1 i2 i3 i4 i5)), .val (.int (own_v0_84 i0 i1 i2 i3 i4 i5)), .val (.ref b13), .val (.int (1 : Int32)), .unset, .unset, .unset, .unset, .unset] [])) (fun t kt => ?_) ?_
        · show Steps p.tables e below (T21.setTop (mkF m 121 #[.val (.int i0), .val (.int i1), .val (.int i2), .val (.int i3), .val (.int i4), .val (.int i5), .val (.ref b1), .val (.int (own_v0_45 i0 i1 i2 i3 i4 i5)), .val (.int (own_v0_58 i0 i1 i2 i3 i4 i5)), .val (.int (i5 &&& (3 : Int32))), .val (.int (own_j0_78_S0 i0 i1 i2 i3 i4 i5)), .val (.int (own_v0_84 i0 i1 i2 i3 i4 i5)), .val (.ref b13), .val (.int (0 : Int32)), .unset, .unset, .unset, .unset, .unset] [])) _
          refine XS.iconst X21.here hx rfl (hb hby at_121) ?_
          show Steps p.tables e below (T21.setTop (mkF m 122 #[.val (.int i0), .val (.int i1), .val (.int i2), .val (.int i3), .val (.int i4), .val (.int i5), .val (.ref b1), .val (.int (own_v0_45 i0 i1 i2 i3 i4 i5)), .val (.int (own_v0_58 i0 i1 i2 i3 i4 i5)), .val (.int (i5 &&& (3 : Int32))), .val (.int (own_j0_78_S0 i0 i1 i2 i3 i4 i5)), .val (.int (own_v0_84 i0 i1 i2 i3 i4 i5)), .val (.ref b13), .val (.int (0 : Int32)), .unset, .unset, .unset, .unset, .unset] [(.int (1 : Int32))])) _
          refine XS.istore X21.here hx rfl (hb hby at_122) rfl (l' := #[.val (.int i0), .val (.int i1), .val (.int i2), .val (.int i3), .val (.int i4), .val (.int i5), .val (.ref b1), .val (.int (own_v0_45 i0 i1 i2 i3 i4 i5)), .val (.int (own_v0_58 i0 i1 i2 i3 i4 i5)), .val (.int (i5 &&& (3 : Int32))), .val (.int (own_j0_78_S0 i0 i1 i2 i3 i4 i5)), .val (.int (own_v0_84 i0 i1 i2 i3 i4 i5)), .val (.ref b13), .val (.int (1 : Int32)), .unset, .unset, .unset, .unset, .unset]) rfl ?_
          show Steps p.tables e below (T21.setTop (mkF m 124 #[.val (.int i0), .val (.int i1), .val (.int i2), .val (.int i3), .val (.int i4), .val (.int i5), .val (.ref b1), .val (.int (own_v0_45 i0 i1 i2 i3 i4 i5)), .val (.int (own_v0_58 i0 i1 i2 i3 i4 i5)), .val (.int (i5 &&& (3 : Int32))), .val (.int (own_j0_78_S0 i0 i1 i2 i3 i4 i5)), .val (.int (own_v0_84 i0 i1 i2 i3 i4 i5)), .val (.ref b13), .val (.int (1 : Int32)), .unset, .unset, .unset, .unset, .unset] [])) _
          refine XS.goto X21.here hx rfl (pc0 := 124) (pc' := 170) rfl (hb hby at_124) (by decide) (by decide) ?_
          exact kt
        have jj := J29 _ _ _ X21 rfl N21 K21 cArv_b1_21 f21_0 (by rw [own_j0_170_afterCarriageReturn, if_pos hc20]; exact f21_2) f21_3 (by rw [own_j0_170_count, if_pos hc20]; exact f21_1)
        rw [show (own_j0_170_L13 i0 i1 i2 i3 i4 i5) = (1 : Int32) from by rw [own_j0_170_L13, if_pos hc20]] at jj
        exact jj
      · -- pc 111
        refine ownE.go (T' := TJ18) (f' := (mkF m 127 #[.val (.int i0), .val (.int i1), .val (.int i2), .val (.int i3), .val (.int i4), .val (.int i5), .val (.ref b1), .val (.int (own_v0_45 i0 i1 i2 i3 i4 i5)), .val (.int (own_v0_58 i0 i1 i2 i3 i4 i5)), .val (.int (i5 &&& (3 : Int32))), .val (.int (own_j0_78_S0 i0 i1 i2 i3 i4 i5)), .val (.int (own_v0_84 i0 i1 i2 i3 i4 i5)), .val (.ref b13), .val (.int (0 : Int32)), .unset, .unset, .unset, .unset, .unset] [])) (fun t kt => XS.icmpYes (g := (mkF m 111 #[.val (.int i0), .val (.int i1), .val (.int i2), .val (.int i3), .val (.int i4), .val (.int i5), .val (.ref b1), .val (.int (own_v0_45 i0 i1 i2 i3 i4 i5)), .val (.int (own_v0_58 i0 i1 i2 i3 i4 i5)), .val (.int (i5 &&& (3 : Int32))), .val (.int (own_j0_78_S0 i0 i1 i2 i3 i4 i5)), .val (.int (own_v0_84 i0 i1 i2 i3 i4 i5)), .val (.ref b13), .val (.int (0 : Int32)), .unset, .unset, .unset, .unset, .unset] [(.int (1 : Int32)), (.int (i5 &&& (3 : Int32)))])) XJ18.here hx rfl (pc0 := 111) (pc' := 127) rfl (hb hby at_111) rfl (Jvm.Free.XT.ii_ne_t hc20) (by decide) (by decide) kt) ?_
        refine ownE.go (T' := TJ18) (f' := (mkF m 130 #[.val (.int i0), .val (.int i1), .val (.int i2), .val (.int i3), .val (.int i4), .val (.int i5), .val (.ref b1), .val (.int (own_v0_45 i0 i1 i2 i3 i4 i5)), .val (.int (own_v0_58 i0 i1 i2 i3 i4 i5)), .val (.int (i5 &&& (3 : Int32))), .val (.int (own_j0_78_S0 i0 i1 i2 i3 i4 i5)), .val (.int (own_v0_84 i0 i1 i2 i3 i4 i5)), .val (.ref b13), .val (.int (0 : Int32)), .unset, .unset, .unset, .unset, .unset] [(.int (2 : Int32)), (.int (i5 &&& (3 : Int32)))])) (fun t kt => ?_) ?_
        · show Steps p.tables e below (TJ18.setTop (mkF m 127 #[.val (.int i0), .val (.int i1), .val (.int i2), .val (.int i3), .val (.int i4), .val (.int i5), .val (.ref b1), .val (.int (own_v0_45 i0 i1 i2 i3 i4 i5)), .val (.int (own_v0_58 i0 i1 i2 i3 i4 i5)), .val (.int (i5 &&& (3 : Int32))), .val (.int (own_j0_78_S0 i0 i1 i2 i3 i4 i5)), .val (.int (own_v0_84 i0 i1 i2 i3 i4 i5)), .val (.ref b13), .val (.int (0 : Int32)), .unset, .unset, .unset, .unset, .unset] [])) _
          refine XS.iload XJ18.here hx rfl (hb hby at_127) rfl ?_
          show Steps p.tables e below (TJ18.setTop (mkF m 129 #[.val (.int i0), .val (.int i1), .val (.int i2), .val (.int i3), .val (.int i4), .val (.int i5), .val (.ref b1), .val (.int (own_v0_45 i0 i1 i2 i3 i4 i5)), .val (.int (own_v0_58 i0 i1 i2 i3 i4 i5)), .val (.int (i5 &&& (3 : Int32))), .val (.int (own_j0_78_S0 i0 i1 i2 i3 i4 i5)), .val (.int (own_v0_84 i0 i1 i2 i3 i4 i5)), .val (.ref b13), .val (.int (0 : Int32)), .unset, .unset, .unset, .unset, .unset] [(.int (i5 &&& (3 : Int32)))])) _
          refine XS.iconst XJ18.here hx rfl (hb hby at_129) ?_
          exact kt
        by_cases hc22 : (i5 &&& (3 : Int32)) = (2 : Int32)
        · -- pc 130
          refine ownE.go (T' := TJ18) (f' := (mkF m 133 #[.val (.int i0), .val (.int i1), .val (.int i2), .val (.int i3), .val (.int i4), .val (.int i5), .val (.ref b1), .val (.int (own_v0_45 i0 i1 i2 i3 i4 i5)), .val (.int (own_v0_58 i0 i1 i2 i3 i4 i5)), .val (.int (i5 &&& (3 : Int32))), .val (.int (own_j0_78_S0 i0 i1 i2 i3 i4 i5)), .val (.int (own_v0_84 i0 i1 i2 i3 i4 i5)), .val (.ref b13), .val (.int (0 : Int32)), .unset, .unset, .unset, .unset, .unset] [])) (fun t kt => XS.icmpNo (g := (mkF m 130 #[.val (.int i0), .val (.int i1), .val (.int i2), .val (.int i3), .val (.int i4), .val (.int i5), .val (.ref b1), .val (.int (own_v0_45 i0 i1 i2 i3 i4 i5)), .val (.int (own_v0_58 i0 i1 i2 i3 i4 i5)), .val (.int (i5 &&& (3 : Int32))), .val (.int (own_j0_78_S0 i0 i1 i2 i3 i4 i5)), .val (.int (own_v0_84 i0 i1 i2 i3 i4 i5)), .val (.ref b13), .val (.int (0 : Int32)), .unset, .unset, .unset, .unset, .unset] [(.int (2 : Int32)), (.int (i5 &&& (3 : Int32)))])) XJ18.here hx rfl (hb hby at_130) rfl (Jvm.Free.XT.ii_ne_f hc22) kt) ?_
          refine ownE.go (T' := TJ18) (f' := (mkF m 137 #[.val (.int i0), .val (.int i1), .val (.int i2), .val (.int i3), .val (.int i4), .val (.int i5), .val (.ref b1), .val (.int (own_v0_45 i0 i1 i2 i3 i4 i5)), .val (.int (own_v0_58 i0 i1 i2 i3 i4 i5)), .val (.int (i5 &&& (3 : Int32))), .val (.int (own_j0_78_S0 i0 i1 i2 i3 i4 i5)), .val (.int (own_v0_84 i0 i1 i2 i3 i4 i5)), .val (.ref b13), .val (.int (0 : Int32)), .unset, .unset, .unset, .unset, .unset] [(.int (10 : Int32)), (.ref b13)])) (fun t kt => ?_) ?_
          · show Steps p.tables e below (TJ18.setTop (mkF m 133 #[.val (.int i0), .val (.int i1), .val (.int i2), .val (.int i3), .val (.int i4), .val (.int i5), .val (.ref b1), .val (.int (own_v0_45 i0 i1 i2 i3 i4 i5)), .val (.int (own_v0_58 i0 i1 i2 i3 i4 i5)), .val (.int (i5 &&& (3 : Int32))), .val (.int (own_j0_78_S0 i0 i1 i2 i3 i4 i5)), .val (.int (own_v0_84 i0 i1 i2 i3 i4 i5)), .val (.ref b13), .val (.int (0 : Int32)), .unset, .unset, .unset, .unset, .unset] [])) _
            refine XS.aload XJ18.here hx rfl (hb hby at_133) rfl rfl ?_
            show Steps p.tables e below (TJ18.setTop (mkF m 135 #[.val (.int i0), .val (.int i1), .val (.int i2), .val (.int i3), .val (.int i4), .val (.int i5), .val (.ref b1), .val (.int (own_v0_45 i0 i1 i2 i3 i4 i5)), .val (.int (own_v0_58 i0 i1 i2 i3 i4 i5)), .val (.int (i5 &&& (3 : Int32))), .val (.int (own_j0_78_S0 i0 i1 i2 i3 i4 i5)), .val (.int (own_v0_84 i0 i1 i2 i3 i4 i5)), .val (.ref b13), .val (.int (0 : Int32)), .unset, .unset, .unset, .unset, .unset] [(.ref b13)])) _
            refine XS.bipush XJ18.here hx rfl (hb hby at_135) ?_
            exact kt
          obtain ⟨cq23, kq23, q23a, q23b, q23c⟩ := isOf hZ eJ18 J18_cExa_b13_j
          obtain ⟨_, _, ⟨T23, L23, k23, n23⟩, -, X23, ⟨Lc23, hQ23, l23, y23, z23⟩, st23⟩ := XJ18.virtualBack hx (y := (⟨"traceward/schema/LineBreaks", "take", "(I)V"⟩ : MethodName)) (z := (⟨"traceward/schema/LineBreaks", "take", "(I)V"⟩ : MethodName)) hown (mvT hZ (hw _ (List.mem_of_getElem? (i := 14) rfl))) (mvT hZ (hw _ (List.mem_of_getElem? (i := 15) rfl))) (notFace_of_selects (args := #[]) (mvT hZ (hw _ (List.mem_of_getElem? (i := 17) rfl)))) (mvT hZ (hw _ (List.mem_of_getElem? (i := 17) rfl))) (mvT hZ (hw _ (List.mem_of_getElem? (i := 16) rfl))) (by decide) (backOf (W := 0) (own_rm4 l Z a0 hw [] b13 (10 : Int32) (0 : Int32) (0 : Int32) (own_j0_105_xml11 i0 i1 i2 i3 i4 i5) hJ18 n0 (Nat.le_trans Z0 KJ18.1) J18_cFld_b13_count_j J18_cFld_b13_afterCarriageReturn_j J18_cFld_b13_xml11_j J18_cExa_b13_j ge_b13) hZ (hw _ (List.mem_of_getElem? (i := 18) rfl)) (hw _ (List.mem_of_getElem? (i := 7) rfl)) (by decide) (by decide)) q23a q23c (g := (mkF m 137 #[.val (.int i0), .val (.int i1), .val (.int i2), .val (.int i3), .val (.int i4), .val (.int i5), .val (.ref b1), .val (.int (own_v0_45 i0 i1 i2 i3 i4 i5)), .val (.int (own_v0_58 i0 i1 i2 i3 i4 i5)), .val (.int (i5 &&& (3 : Int32))), .val (.int (own_j0_78_S0 i0 i1 i2 i3 i4 i5)), .val (.int (own_v0_84 i0 i1 i2 i3 i4 i5)), .val (.ref b13), .val (.int (0 : Int32)), .unset, .unset, .unset, .unset, .unset] [(.int (10 : Int32)), (.ref b13)])) rfl (by rw [hml]; rfl) (Steps.refl _) (argsL := [(.int (10 : Int32))]) (rest := []) (lenOf own_pd5 rfl) rfl (by show 2 * 0 + _ ≤ _; exact Nat.le_of_eq rfl) (hb hby at_137) (fun _ _ => ⟨rfl, eJ18, (by decide : 2 + 0 ≤ _), (by decide : 7 + 0 ≤ _)⟩)
          dsimp only [Pt.U, Pt.locs, Pt.cells, Pt.slots] at X23 l23 y23 z23 st23 hQ23
          subst l23 y23 z23
          obtain ⟨rfl, N23q, K23q, f23_0, f23_1, f23_2, f23_3⟩ := hQ23
          have cArv_b1_23 : Arv Z T23.heap b1 k1 .byte (4 : Int32) [(.int ((own_draw i0).toInt8.toInt32)), (.int ((own_draw i1).toInt8.toInt32)), (.int ((own_draw i2).toInt8.toInt32)), (.int ((own_draw i3).toInt8.toInt32))] (.int (0 : Int32)) := J18_cArv_b1_j.keep K23q (ninS ne_b1_b13 nin0)
          have cExa_b13_23 : Exa Z T23.heap b13 "traceward/schema/LineBreaks" := J18_cExa_b13_j.keep K23q
          have K23 : Keep h0 T23.heap [] := KJ18.trans K23q (allS (Or.inr sz_b13) all0)
          have N23 := Fr.app NJ18 N23q
          refine ownE.goS (T' := T23) (f' := (mkF m 140 #[.val (.int i0), .val (.int i1), .val (.int i2), .val (.int i3), .val (.int i4), .val (.int i5), .val (.ref b1), .val (.int (own_v0_45 i0 i1 i2 i3 i4 i5)), .val (.int (own_v0_58 i0 i1 i2 i3 i4 i5)), .val (.int (i5 &&& (3 : Int32))), .val (.int (own_j0_78_S0 i0 i1 i2 i3 i4 i5)), .val (.int (own_v0_84 i0 i1 i2 i3 i4 i5)), .val (.ref b13), .val (.int (0 : Int32)), .unset, .unset, .unset, .unset, .unset] [])) st23 ?_
          refine ownE.go (T' := T23) (f' := (mkF m 170 #[.val (.int i0), .val (.int i1), .val (.int i2), .val (.int i3), .val (.int i4), .val (.int i5), .val (.ref b1), .val (.int (own_v0_45 i0 i1 i2 i3 i4 i5)), .val (.int (own_v0_58 i0 i1 i2 i3 i4 i5)), .val (.int (i5 &&& (3 : Int32))), .val (.int (own_j0_78_S0 i0 i1 i2 i3 i4 i5)), .val (.int (own_v0_84 i0 i1 i2 i3 i4 i5)), .val (.ref b13), .val (.int (0 : Int32)), .unset, .unset, .unset, .unset, .unset] [])) (fun t kt => ?_) ?_
          · show Steps p.tables e below (T23.setTop (mkF m 140 #[.val (.int i0), .val (.int i1), .val (.int i2), .val (.int i3), .val (.int i4), .val (.int i5), .val (.ref b1), .val (.int (own_v0_45 i0 i1 i2 i3 i4 i5)), .val (.int (own_v0_58 i0 i1 i2 i3 i4 i5)), .val (.int (i5 &&& (3 : Int32))), .val (.int (own_j0_78_S0 i0 i1 i2 i3 i4 i5)), .val (.int (own_v0_84 i0 i1 i2 i3 i4 i5)), .val (.ref b13), .val (.int (0 : Int32)), .unset, .unset, .unset, .unset, .unset] [])) _
            refine XS.goto X23.here hx rfl (pc0 := 140) (pc' := 170) rfl (hb hby at_140) (by decide) (by decide) ?_
            exact kt
          have jj := J29 _ _ _ X23 rfl N23 K23 cArv_b1_23 f23_0 (by rw [own_j0_170_afterCarriageReturn, if_neg hc20, if_pos hc22]; exact f23_2) f23_3 (by rw [own_j0_170_count, if_neg hc20, if_pos hc22]; exact f23_1)
          rw [show (own_j0_170_L13 i0 i1 i2 i3 i4 i5) = (0 : Int32) from by rw [own_j0_170_L13, if_neg hc20, if_pos hc22]] at jj
          exact jj
        · -- pc 130
          refine ownE.go (T' := TJ18) (f' := (mkF m 143 #[.val (.int i0), .val (.int i1), .val (.int i2), .val (.int i3), .val (.int i4), .val (.int i5), .val (.ref b1), .val (.int (own_v0_45 i0 i1 i2 i3 i4 i5)), .val (.int (own_v0_58 i0 i1 i2 i3 i4 i5)), .val (.int (i5 &&& (3 : Int32))), .val (.int (own_j0_78_S0 i0 i1 i2 i3 i4 i5)), .val (.int (own_v0_84 i0 i1 i2 i3 i4 i5)), .val (.ref b13), .val (.int (0 : Int32)), .unset, .unset, .unset, .unset, .unset] [])) (fun t kt => XS.icmpYes (g := (mkF m 130 #[.val (.int i0), .val (.int i1), .val (.int i2), .val (.int i3), .val (.int i4), .val (.int i5), .val (.ref b1), .val (.int (own_v0_45 i0 i1 i2 i3 i4 i5)), .val (.int (own_v0_58 i0 i1 i2 i3 i4 i5)), .val (.int (i5 &&& (3 : Int32))), .val (.int (own_j0_78_S0 i0 i1 i2 i3 i4 i5)), .val (.int (own_v0_84 i0 i1 i2 i3 i4 i5)), .val (.ref b13), .val (.int (0 : Int32)), .unset, .unset, .unset, .unset, .unset] [(.int (2 : Int32)), (.int (i5 &&& (3 : Int32)))])) XJ18.here hx rfl (pc0 := 130) (pc' := 143) rfl (hb hby at_130) rfl (Jvm.Free.XT.ii_ne_t hc22) (by decide) (by decide) kt) ?_
          refine ownE.go (T' := TJ18) (f' := (mkF m 146 #[.val (.int i0), .val (.int i1), .val (.int i2), .val (.int i3), .val (.int i4), .val (.int i5), .val (.ref b1), .val (.int (own_v0_45 i0 i1 i2 i3 i4 i5)), .val (.int (own_v0_58 i0 i1 i2 i3 i4 i5)), .val (.int (i5 &&& (3 : Int32))), .val (.int (own_j0_78_S0 i0 i1 i2 i3 i4 i5)), .val (.int (own_v0_84 i0 i1 i2 i3 i4 i5)), .val (.ref b13), .val (.int (0 : Int32)), .unset, .unset, .unset, .unset, .unset] [(.int (3 : Int32)), (.int (i5 &&& (3 : Int32)))])) (fun t kt => ?_) ?_
          · show Steps p.tables e below (TJ18.setTop (mkF m 143 #[.val (.int i0), .val (.int i1), .val (.int i2), .val (.int i3), .val (.int i4), .val (.int i5), .val (.ref b1), .val (.int (own_v0_45 i0 i1 i2 i3 i4 i5)), .val (.int (own_v0_58 i0 i1 i2 i3 i4 i5)), .val (.int (i5 &&& (3 : Int32))), .val (.int (own_j0_78_S0 i0 i1 i2 i3 i4 i5)), .val (.int (own_v0_84 i0 i1 i2 i3 i4 i5)), .val (.ref b13), .val (.int (0 : Int32)), .unset, .unset, .unset, .unset, .unset] [])) _
            refine XS.iload XJ18.here hx rfl (hb hby at_143) rfl ?_
            show Steps p.tables e below (TJ18.setTop (mkF m 145 #[.val (.int i0), .val (.int i1), .val (.int i2), .val (.int i3), .val (.int i4), .val (.int i5), .val (.ref b1), .val (.int (own_v0_45 i0 i1 i2 i3 i4 i5)), .val (.int (own_v0_58 i0 i1 i2 i3 i4 i5)), .val (.int (i5 &&& (3 : Int32))), .val (.int (own_j0_78_S0 i0 i1 i2 i3 i4 i5)), .val (.int (own_v0_84 i0 i1 i2 i3 i4 i5)), .val (.ref b13), .val (.int (0 : Int32)), .unset, .unset, .unset, .unset, .unset] [(.int (i5 &&& (3 : Int32)))])) _
            refine XS.iconst XJ18.here hx rfl (hb hby at_145) ?_
            exact kt
          by_cases hc24 : (i5 &&& (3 : Int32)) = (3 : Int32)
          · -- pc 146
            refine ownE.go (T' := TJ18) (f' := (mkF m 149 #[.val (.int i0), .val (.int i1), .val (.int i2), .val (.int i3), .val (.int i4), .val (.int i5), .val (.ref b1), .val (.int (own_v0_45 i0 i1 i2 i3 i4 i5)), .val (.int (own_v0_58 i0 i1 i2 i3 i4 i5)), .val (.int (i5 &&& (3 : Int32))), .val (.int (own_j0_78_S0 i0 i1 i2 i3 i4 i5)), .val (.int (own_v0_84 i0 i1 i2 i3 i4 i5)), .val (.ref b13), .val (.int (0 : Int32)), .unset, .unset, .unset, .unset, .unset] [])) (fun t kt => XS.icmpNo (g := (mkF m 146 #[.val (.int i0), .val (.int i1), .val (.int i2), .val (.int i3), .val (.int i4), .val (.int i5), .val (.ref b1), .val (.int (own_v0_45 i0 i1 i2 i3 i4 i5)), .val (.int (own_v0_58 i0 i1 i2 i3 i4 i5)), .val (.int (i5 &&& (3 : Int32))), .val (.int (own_j0_78_S0 i0 i1 i2 i3 i4 i5)), .val (.int (own_v0_84 i0 i1 i2 i3 i4 i5)), .val (.ref b13), .val (.int (0 : Int32)), .unset, .unset, .unset, .unset, .unset] [(.int (3 : Int32)), (.int (i5 &&& (3 : Int32)))])) XJ18.here hx rfl (hb hby at_146) rfl (Jvm.Free.XT.ii_ne_f hc24) kt) ?_
            refine ownE.go (T' := TJ18) (f' := (mkF m 153 #[.val (.int i0), .val (.int i1), .val (.int i2), .val (.int i3), .val (.int i4), .val (.int i5), .val (.ref b1), .val (.int (own_v0_45 i0 i1 i2 i3 i4 i5)), .val (.int (own_v0_58 i0 i1 i2 i3 i4 i5)), .val (.int (i5 &&& (3 : Int32))), .val (.int (own_j0_78_S0 i0 i1 i2 i3 i4 i5)), .val (.int (own_v0_84 i0 i1 i2 i3 i4 i5)), .val (.ref b13), .val (.int (0 : Int32)), .unset, .unset, .unset, .unset, .unset] [(.int (own_v0_84 i0 i1 i2 i3 i4 i5)), (.ref b13)])) (fun t kt => ?_) ?_
            · show Steps p.tables e below (TJ18.setTop (mkF m 149 #[.val (.int i0), .val (.int i1), .val (.int i2), .val (.int i3), .val (.int i4), .val (.int i5), .val (.ref b1), .val (.int (own_v0_45 i0 i1 i2 i3 i4 i5)), .val (.int (own_v0_58 i0 i1 i2 i3 i4 i5)), .val (.int (i5 &&& (3 : Int32))), .val (.int (own_j0_78_S0 i0 i1 i2 i3 i4 i5)), .val (.int (own_v0_84 i0 i1 i2 i3 i4 i5)), .val (.ref b13), .val (.int (0 : Int32)), .unset, .unset, .unset, .unset, .unset] [])) _
              refine XS.aload XJ18.here hx rfl (hb hby at_149) rfl rfl ?_
              show Steps p.tables e below (TJ18.setTop (mkF m 151 #[.val (.int i0), .val (.int i1), .val (.int i2), .val (.int i3), .val (.int i4), .val (.int i5), .val (.ref b1), .val (.int (own_v0_45 i0 i1 i2 i3 i4 i5)), .val (.int (own_v0_58 i0 i1 i2 i3 i4 i5)), .val (.int (i5 &&& (3 : Int32))), .val (.int (own_j0_78_S0 i0 i1 i2 i3 i4 i5)), .val (.int (own_v0_84 i0 i1 i2 i3 i4 i5)), .val (.ref b13), .val (.int (0 : Int32)), .unset, .unset, .unset, .unset, .unset] [(.ref b13)])) _
              refine XS.iload XJ18.here hx rfl (hb hby at_151) rfl ?_
              exact kt
            obtain ⟨cq25, kq25, q25a, q25b, q25c⟩ := isOf hZ eJ18 J18_cExa_b13_j
            obtain ⟨_, _, ⟨T25, L25, k25, n25⟩, -, X25, ⟨Lc25, hQ25, l25, y25, z25⟩, st25⟩ := XJ18.virtualBack hx (y := (⟨"traceward/schema/LineBreaks", "take", "(I)V"⟩ : MethodName)) (z := (⟨"traceward/schema/LineBreaks", "take", "(I)V"⟩ : MethodName)) hown (mvT hZ (hw _ (List.mem_of_getElem? (i := 14) rfl))) (mvT hZ (hw _ (List.mem_of_getElem? (i := 15) rfl))) (notFace_of_selects (args := #[]) (mvT hZ (hw _ (List.mem_of_getElem? (i := 17) rfl)))) (mvT hZ (hw _ (List.mem_of_getElem? (i := 17) rfl))) (mvT hZ (hw _ (List.mem_of_getElem? (i := 16) rfl))) (by decide) (backOf (W := 0) (own_rm4 l Z a0 hw [] b13 (own_v0_84 i0 i1 i2 i3 i4 i5) (0 : Int32) (0 : Int32) (own_j0_105_xml11 i0 i1 i2 i3 i4 i5) hJ18 n0 (Nat.le_trans Z0 KJ18.1) J18_cFld_b13_count_j J18_cFld_b13_afterCarriageReturn_j J18_cFld_b13_xml11_j J18_cExa_b13_j ge_b13) hZ (hw _ (List.mem_of_getElem? (i := 18) rfl)) (hw _ (List.mem_of_getElem? (i := 7) rfl)) (by decide) (by decide)) q25a q25c (g := (mkF m 153 #[.val (.int i0), .val (.int i1), .val (.int i2), .val (.int i3), .val (.int i4), .val (.int i5), .val (.ref b1), .val (.int (own_v0_45 i0 i1 i2 i3 i4 i5)), .val (.int (own_v0_58 i0 i1 i2 i3 i4 i5)), .val (.int (i5 &&& (3 : Int32))), .val (.int (own_j0_78_S0 i0 i1 i2 i3 i4 i5)), .val (.int (own_v0_84 i0 i1 i2 i3 i4 i5)), .val (.ref b13), .val (.int (0 : Int32)), .unset, .unset, .unset, .unset, .unset] [(.int (own_v0_84 i0 i1 i2 i3 i4 i5)), (.ref b13)])) rfl (by rw [hml]; rfl) (Steps.refl _) (argsL := [(.int (own_v0_84 i0 i1 i2 i3 i4 i5))]) (rest := []) (lenOf own_pd5 rfl) rfl (by show 2 * 0 + _ ≤ _; exact Nat.le_of_eq rfl) (hb hby at_153) (fun _ _ => ⟨rfl, eJ18, (by decide : 2 + 0 ≤ _), (by decide : 7 + 0 ≤ _)⟩)
            dsimp only [Pt.U, Pt.locs, Pt.cells, Pt.slots] at X25 l25 y25 z25 st25 hQ25
            subst l25 y25 z25
            obtain ⟨rfl, N25q, K25q, f25_0, f25_1, f25_2, f25_3⟩ := hQ25
            have cArv_b1_25 : Arv Z T25.heap b1 k1 .byte (4 : Int32) [(.int ((own_draw i0).toInt8.toInt32)), (.int ((own_draw i1).toInt8.toInt32)), (.int ((own_draw i2).toInt8.toInt32)), (.int ((own_draw i3).toInt8.toInt32))] (.int (0 : Int32)) := J18_cArv_b1_j.keep K25q (ninS ne_b1_b13 nin0)
            have cExa_b13_25 : Exa Z T25.heap b13 "traceward/schema/LineBreaks" := J18_cExa_b13_j.keep K25q
            have K25 : Keep h0 T25.heap [] := KJ18.trans K25q (allS (Or.inr sz_b13) all0)
            have N25 := Fr.app NJ18 N25q
            refine ownE.goS (T' := T25) (f' := (mkF m 156 #[.val (.int i0), .val (.int i1), .val (.int i2), .val (.int i3), .val (.int i4), .val (.int i5), .val (.ref b1), .val (.int (own_v0_45 i0 i1 i2 i3 i4 i5)), .val (.int (own_v0_58 i0 i1 i2 i3 i4 i5)), .val (.int (i5 &&& (3 : Int32))), .val (.int (own_j0_78_S0 i0 i1 i2 i3 i4 i5)), .val (.int (own_v0_84 i0 i1 i2 i3 i4 i5)), .val (.ref b13), .val (.int (0 : Int32)), .unset, .unset, .unset, .unset, .unset] [])) st25 ?_
            have J28 : ∀ (TJ28 : State) (locsJ28 : List Loc), Stand p l e room_1 s m #[(.int i0), (.int i1), (.int i2), (.int i3), (.int i4), (.int i5)] below meth c TJ28 locsJ28 2 7 → TJ28.heap = T25.heap → Fr n0 locsJ28 → ownE p e below s (own_Q0 Z i0 i1 i2 i3 i4 i5 h0 n0) 2 7 TJ28 (mkF m 168 #[.val (.int i0), .val (.int i1), .val (.int i2), .val (.int i3), .val (.int i4), .val (.int i5), .val (.ref b1), .val (.int (own_v0_45 i0 i1 i2 i3 i4 i5)), .val (.int (own_v0_58 i0 i1 i2 i3 i4 i5)), .val (.int (i5 &&& (3 : Int32))), .val (.int (own_j0_78_S0 i0 i1 i2 i3 i4 i5)), .val (.int (own_v0_84 i0 i1 i2 i3 i4 i5)), .val (.ref b13), .val (.int (0 : Int32)), .unset, .unset, .unset, .unset, .unset] [(.int (own_j0_168_S0 i0 i1 i2 i3 i4 i5))]) := by
              intro TJ28 locsJ28 XJ28 eJ28 NJ28
              refine ownE.go (T' := TJ28) (f' := (mkF m 170 #[.val (.int i0), .val (.int i1), .val (.int i2), .val (.int i3), .val (.int i4), .val (.int i5), .val (.ref b1), .val (.int (own_v0_45 i0 i1 i2 i3 i4 i5)), .val (.int (own_v0_58 i0 i1 i2 i3 i4 i5)), .val (.int (i5 &&& (3 : Int32))), .val (.int (own_j0_78_S0 i0 i1 i2 i3 i4 i5)), .val (.int (own_v0_84 i0 i1 i2 i3 i4 i5)), .val (.ref b13), .val (.int (own_j0_168_S0 i0 i1 i2 i3 i4 i5)), .unset, .unset, .unset, .unset, .unset] [])) (fun t kt => ?_) ?_
              · show Steps p.tables e below (TJ28.setTop (mkF m 168 #[.val (.int i0), .val (.int i1), .val (.int i2), .val (.int i3), .val (.int i4), .val (.int i5), .val (.ref b1), .val (.int (own_v0_45 i0 i1 i2 i3 i4 i5)), .val (.int (own_v0_58 i0 i1 i2 i3 i4 i5)), .val (.int (i5 &&& (3 : Int32))), .val (.int (own_j0_78_S0 i0 i1 i2 i3 i4 i5)), .val (.int (own_v0_84 i0 i1 i2 i3 i4 i5)), .val (.ref b13), .val (.int (0 : Int32)), .unset, .unset, .unset, .unset, .unset] [(.int (own_j0_168_S0 i0 i1 i2 i3 i4 i5))])) _
                refine XS.istore XJ28.here hx rfl (hb hby at_168) rfl (l' := #[.val (.int i0), .val (.int i1), .val (.int i2), .val (.int i3), .val (.int i4), .val (.int i5), .val (.ref b1), .val (.int (own_v0_45 i0 i1 i2 i3 i4 i5)), .val (.int (own_v0_58 i0 i1 i2 i3 i4 i5)), .val (.int (i5 &&& (3 : Int32))), .val (.int (own_j0_78_S0 i0 i1 i2 i3 i4 i5)), .val (.int (own_v0_84 i0 i1 i2 i3 i4 i5)), .val (.ref b13), .val (.int (own_j0_168_S0 i0 i1 i2 i3 i4 i5)), .unset, .unset, .unset, .unset, .unset]) rfl ?_
                exact kt
              have jj := J29 _ _ _ XJ28 eJ28 NJ28 K25 cArv_b1_25 f25_0 (by rw [own_j0_170_afterCarriageReturn, if_neg hc20, if_neg hc22, if_pos hc24]; exact f25_2) f25_3 (by rw [own_j0_170_count, if_neg hc20, if_neg hc22, if_pos hc24]; exact f25_1)
              rw [show (own_j0_170_L13 i0 i1 i2 i3 i4 i5) = (own_j0_168_S0 i0 i1 i2 i3 i4 i5) from by rw [own_j0_170_L13, if_neg hc20, if_neg hc22, if_pos hc24]] at jj
              exact jj
            refine ownE.go (T' := T25) (f' := (mkF m 160 #[.val (.int i0), .val (.int i1), .val (.int i2), .val (.int i3), .val (.int i4), .val (.int i5), .val (.ref b1), .val (.int (own_v0_45 i0 i1 i2 i3 i4 i5)), .val (.int (own_v0_58 i0 i1 i2 i3 i4 i5)), .val (.int (i5 &&& (3 : Int32))), .val (.int (own_j0_78_S0 i0 i1 i2 i3 i4 i5)), .val (.int (own_v0_84 i0 i1 i2 i3 i4 i5)), .val (.ref b13), .val (.int (0 : Int32)), .unset, .unset, .unset, .unset, .unset] [(.int (13 : Int32)), (.int (own_v0_84 i0 i1 i2 i3 i4 i5))])) (fun t kt => ?_) ?_
            · show Steps p.tables e below (T25.setTop (mkF m 156 #[.val (.int i0), .val (.int i1), .val (.int i2), .val (.int i3), .val (.int i4), .val (.int i5), .val (.ref b1), .val (.int (own_v0_45 i0 i1 i2 i3 i4 i5)), .val (.int (own_v0_58 i0 i1 i2 i3 i4 i5)), .val (.int (i5 &&& (3 : Int32))), .val (.int (own_j0_78_S0 i0 i1 i2 i3 i4 i5)), .val (.int (own_v0_84 i0 i1 i2 i3 i4 i5)), .val (.ref b13), .val (.int (0 : Int32)), .unset, .unset, .unset, .unset, .unset] [])) _
              refine XS.iload X25.here hx rfl (hb hby at_156) rfl ?_
              show Steps p.tables e below (T25.setTop (mkF m 158 #[.val (.int i0), .val (.int i1), .val (.int i2), .val (.int i3), .val (.int i4), .val (.int i5), .val (.ref b1), .val (.int (own_v0_45 i0 i1 i2 i3 i4 i5)), .val (.int (own_v0_58 i0 i1 i2 i3 i4 i5)), .val (.int (i5 &&& (3 : Int32))), .val (.int (own_j0_78_S0 i0 i1 i2 i3 i4 i5)), .val (.int (own_v0_84 i0 i1 i2 i3 i4 i5)), .val (.ref b13), .val (.int (0 : Int32)), .unset, .unset, .unset, .unset, .unset] [(.int (own_v0_84 i0 i1 i2 i3 i4 i5))])) _
              refine XS.bipush X25.here hx rfl (hb hby at_158) ?_
              exact kt
            by_cases hc27 : (own_v0_84 i0 i1 i2 i3 i4 i5) = (13 : Int32)
            · -- pc 160
              refine ownE.go (T' := T25) (f' := (mkF m 163 #[.val (.int i0), .val (.int i1), .val (.int i2), .val (.int i3), .val (.int i4), .val (.int i5), .val (.ref b1), .val (.int (own_v0_45 i0 i1 i2 i3 i4 i5)), .val (.int (own_v0_58 i0 i1 i2 i3 i4 i5)), .val (.int (i5 &&& (3 : Int32))), .val (.int (own_j0_78_S0 i0 i1 i2 i3 i4 i5)), .val (.int (own_v0_84 i0 i1 i2 i3 i4 i5)), .val (.ref b13), .val (.int (0 : Int32)), .unset, .unset, .unset, .unset, .unset] [])) (fun t kt => XS.icmpNo (g := (mkF m 160 #[.val (.int i0), .val (.int i1), .val (.int i2), .val (.int i3), .val (.int i4), .val (.int i5), .val (.ref b1), .val (.int (own_v0_45 i0 i1 i2 i3 i4 i5)), .val (.int (own_v0_58 i0 i1 i2 i3 i4 i5)), .val (.int (i5 &&& (3 : Int32))), .val (.int (own_j0_78_S0 i0 i1 i2 i3 i4 i5)), .val (.int (own_v0_84 i0 i1 i2 i3 i4 i5)), .val (.ref b13), .val (.int (0 : Int32)), .unset, .unset, .unset, .unset, .unset] [(.int (13 : Int32)), (.int (own_v0_84 i0 i1 i2 i3 i4 i5))])) X25.here hx rfl (hb hby at_160) rfl (Jvm.Free.XT.ii_ne_f hc27) kt) ?_
              refine ownE.go (T' := T25) (f' := (mkF m 168 #[.val (.int i0), .val (.int i1), .val (.int i2), .val (.int i3), .val (.int i4), .val (.int i5), .val (.ref b1), .val (.int (own_v0_45 i0 i1 i2 i3 i4 i5)), .val (.int (own_v0_58 i0 i1 i2 i3 i4 i5)), .val (.int (i5 &&& (3 : Int32))), .val (.int (own_j0_78_S0 i0 i1 i2 i3 i4 i5)), .val (.int (own_v0_84 i0 i1 i2 i3 i4 i5)), .val (.ref b13), .val (.int (0 : Int32)), .unset, .unset, .unset, .unset, .unset] [(.int (1 : Int32))])) (fun t kt => ?_) ?_
              · show Steps p.tables e below (T25.setTop (mkF m 163 #[.val (.int i0), .val (.int i1), .val (.int i2), .val (.int i3), .val (.int i4), .val (.int i5), .val (.ref b1), .val (.int (own_v0_45 i0 i1 i2 i3 i4 i5)), .val (.int (own_v0_58 i0 i1 i2 i3 i4 i5)), .val (.int (i5 &&& (3 : Int32))), .val (.int (own_j0_78_S0 i0 i1 i2 i3 i4 i5)), .val (.int (own_v0_84 i0 i1 i2 i3 i4 i5)), .val (.ref b13), .val (.int (0 : Int32)), .unset, .unset, .unset, .unset, .unset] [])) _
                refine XS.iconst X25.here hx rfl (hb hby at_163) ?_
                show Steps p.tables e below (T25.setTop (mkF m 164 #[.val (.int i0), .val (.int i1), .val (.int i2), .val (.int i3), .val (.int i4), .val (.int i5), .val (.ref b1), .val (.int (own_v0_45 i0 i1 i2 i3 i4 i5)), .val (.int (own_v0_58 i0 i1 i2 i3 i4 i5)), .val (.int (i5 &&& (3 : Int32))), .val (.int (own_j0_78_S0 i0 i1 i2 i3 i4 i5)), .val (.int (own_v0_84 i0 i1 i2 i3 i4 i5)), .val (.ref b13), .val (.int (0 : Int32)), .unset, .unset, .unset, .unset, .unset] [(.int (1 : Int32))])) _
                refine XS.goto X25.here hx rfl (pc0 := 164) (pc' := 168) rfl (hb hby at_164) (by decide) (by decide) ?_
                exact kt
              have jj := J28 _ _ X25 rfl N25
              rw [show (own_j0_168_S0 i0 i1 i2 i3 i4 i5) = (1 : Int32) from by rw [own_j0_168_S0, if_pos hc27]] at jj
              exact jj
            · -- pc 160
              refine ownE.go (T' := T25) (f' := (mkF m 167 #[.val (.int i0), .val (.int i1), .val (.int i2), .val (.int i3), .val (.int i4), .val (.int i5), .val (.ref b1), .val (.int (own_v0_45 i0 i1 i2 i3 i4 i5)), .val (.int (own_v0_58 i0 i1 i2 i3 i4 i5)), .val (.int (i5 &&& (3 : Int32))), .val (.int (own_j0_78_S0 i0 i1 i2 i3 i4 i5)), .val (.int (own_v0_84 i0 i1 i2 i3 i4 i5)), .val (.ref b13), .val (.int (0 : Int32)), .unset, .unset, .unset, .unset, .unset] [])) (fun t kt => XS.icmpYes (g := (mkF m 160 #[.val (.int i0), .val (.int i1), .val (.int i2), .val (.int i3), .val (.int i4), .val (.int i5), .val (.ref b1), .val (.int (own_v0_45 i0 i1 i2 i3 i4 i5)), .val (.int (own_v0_58 i0 i1 i2 i3 i4 i5)), .val (.int (i5 &&& (3 : Int32))), .val (.int (own_j0_78_S0 i0 i1 i2 i3 i4 i5)), .val (.int (own_v0_84 i0 i1 i2 i3 i4 i5)), .val (.ref b13), .val (.int (0 : Int32)), .unset, .unset, .unset, .unset, .unset] [(.int (13 : Int32)), (.int (own_v0_84 i0 i1 i2 i3 i4 i5))])) X25.here hx rfl (pc0 := 160) (pc' := 167) rfl (hb hby at_160) rfl (Jvm.Free.XT.ii_ne_t hc27) (by decide) (by decide) kt) ?_
              refine ownE.go (T' := T25) (f' := (mkF m 168 #[.val (.int i0), .val (.int i1), .val (.int i2), .val (.int i3), .val (.int i4), .val (.int i5), .val (.ref b1), .val (.int (own_v0_45 i0 i1 i2 i3 i4 i5)), .val (.int (own_v0_58 i0 i1 i2 i3 i4 i5)), .val (.int (i5 &&& (3 : Int32))), .val (.int (own_j0_78_S0 i0 i1 i2 i3 i4 i5)), .val (.int (own_v0_84 i0 i1 i2 i3 i4 i5)), .val (.ref b13), .val (.int (0 : Int32)), .unset, .unset, .unset, .unset, .unset] [(.int (0 : Int32))])) (fun t kt => ?_) ?_
              · show Steps p.tables e below (T25.setTop (mkF m 167 #[.val (.int i0), .val (.int i1), .val (.int i2), .val (.int i3), .val (.int i4), .val (.int i5), .val (.ref b1), .val (.int (own_v0_45 i0 i1 i2 i3 i4 i5)), .val (.int (own_v0_58 i0 i1 i2 i3 i4 i5)), .val (.int (i5 &&& (3 : Int32))), .val (.int (own_j0_78_S0 i0 i1 i2 i3 i4 i5)), .val (.int (own_v0_84 i0 i1 i2 i3 i4 i5)), .val (.ref b13), .val (.int (0 : Int32)), .unset, .unset, .unset, .unset, .unset] [])) _
                refine XS.iconst X25.here hx rfl (hb hby at_167) ?_
                exact kt
              have jj := J28 _ _ X25 rfl N25
              rw [show (own_j0_168_S0 i0 i1 i2 i3 i4 i5) = (0 : Int32) from by rw [own_j0_168_S0, if_neg hc27]] at jj
              exact jj
          · -- pc 146
            refine ownE.go (T' := TJ18) (f' := (mkF m 170 #[.val (.int i0), .val (.int i1), .val (.int i2), .val (.int i3), .val (.int i4), .val (.int i5), .val (.ref b1), .val (.int (own_v0_45 i0 i1 i2 i3 i4 i5)), .val (.int (own_v0_58 i0 i1 i2 i3 i4 i5)), .val (.int (i5 &&& (3 : Int32))), .val (.int (own_j0_78_S0 i0 i1 i2 i3 i4 i5)), .val (.int (own_v0_84 i0 i1 i2 i3 i4 i5)), .val (.ref b13), .val (.int (0 : Int32)), .unset, .unset, .unset, .unset, .unset] [])) (fun t kt => XS.icmpYes (g := (mkF m 146 #[.val (.int i0), .val (.int i1), .val (.int i2), .val (.int i3), .val (.int i4), .val (.int i5), .val (.ref b1), .val (.int (own_v0_45 i0 i1 i2 i3 i4 i5)), .val (.int (own_v0_58 i0 i1 i2 i3 i4 i5)), .val (.int (i5 &&& (3 : Int32))), .val (.int (own_j0_78_S0 i0 i1 i2 i3 i4 i5)), .val (.int (own_v0_84 i0 i1 i2 i3 i4 i5)), .val (.ref b13), .val (.int (0 : Int32)), .unset, .unset, .unset, .unset, .unset] [(.int (3 : Int32)), (.int (i5 &&& (3 : Int32)))])) XJ18.here hx rfl (pc0 := 146) (pc' := 170) rfl (hb hby at_146) rfl (Jvm.Free.XT.ii_ne_t hc24) (by decide) (by decide) kt) ?_
            have jj := J29 _ _ _ XJ18 eJ18 NJ18 KJ18 J18_cArv_b1_j J18_cExa_b13_j (by rw [own_j0_170_afterCarriageReturn, if_neg hc20, if_neg hc22, if_neg hc24]; exact J18_cFld_b13_afterCarriageReturn_j) J18_cFld_b13_xml11_j (by rw [own_j0_170_count, if_neg hc20, if_neg hc22, if_neg hc24]; exact J18_cFld_b13_count_j)
            rw [show (own_j0_170_L13 i0 i1 i2 i3 i4 i5) = (0 : Int32) from by rw [own_j0_170_L13, if_neg hc20, if_neg hc22, if_neg hc24]] at jj
            exact jj
    refine ownE.go (T' := T14) (f' := (mkF m 97 #[.val (.int i0), .val (.int i1), .val (.int i2), .val (.int i3), .val (.int i4), .val (.int i5), .val (.ref b1), .val (.int (own_v0_45 i0 i1 i2 i3 i4 i5)), .val (.int (own_v0_58 i0 i1 i2 i3 i4 i5)), .val (.int (i5 &&& (3 : Int32))), .val (.int (own_j0_78_S0 i0 i1 i2 i3 i4 i5)), .val (.int (own_v0_84 i0 i1 i2 i3 i4 i5)), .val (.ref b13), .unset, .unset, .unset, .unset, .unset, .unset] [(.int (own_j0_78_S0 i0 i1 i2 i3 i4 i5))])) (fun t kt => ?_) ?_
    · show Steps p.tables e below (T14.setTop (mkF m 95 #[.val (.int i0), .val (.int i1), .val (.int i2), .val (.int i3), .val (.int i4), .val (.int i5), .val (.ref b1), .val (.int (own_v0_45 i0 i1 i2 i3 i4 i5)), .val (.int (own_v0_58 i0 i1 i2 i3 i4 i5)), .val (.int (i5 &&& (3 : Int32))), .val (.int (own_j0_78_S0 i0 i1 i2 i3 i4 i5)), .val (.int (own_v0_84 i0 i1 i2 i3 i4 i5)), .val (.ref b13), .unset, .unset, .unset, .unset, .unset, .unset] [])) _
      refine XS.iload X14.here hx rfl (hb hby at_95) rfl ?_
      exact kt
    by_cases hc16 : (own_j0_78_S0 i0 i1 i2 i3 i4 i5) = (0 : Int32)
    · -- pc 97
      refine ownE.go (T' := T14) (f' := (mkF m 105 #[.val (.int i0), .val (.int i1), .val (.int i2), .val (.int i3), .val (.int i4), .val (.int i5), .val (.ref b1), .val (.int (own_v0_45 i0 i1 i2 i3 i4 i5)), .val (.int (own_v0_58 i0 i1 i2 i3 i4 i5)), .val (.int (i5 &&& (3 : Int32))), .val (.int (own_j0_78_S0 i0 i1 i2 i3 i4 i5)), .val (.int (own_v0_84 i0 i1 i2 i3 i4 i5)), .val (.ref b13), .unset, .unset, .unset, .unset, .unset, .unset] [])) (fun t kt => XS.ifYes (g := (mkF m 97 #[.val (.int i0), .val (.int i1), .val (.int i2), .val (.int i3), .val (.int i4), .val (.int i5), .val (.ref b1), .val (.int (own_v0_45 i0 i1 i2 i3 i4 i5)), .val (.int (own_v0_58 i0 i1 i2 i3 i4 i5)), .val (.int (i5 &&& (3 : Int32))), .val (.int (own_j0_78_S0 i0 i1 i2 i3 i4 i5)), .val (.int (own_v0_84 i0 i1 i2 i3 i4 i5)), .val (.ref b13), .unset, .unset, .unset, .unset, .unset, .unset] [(.int (own_j0_78_S0 i0 i1 i2 i3 i4 i5))])) X14.here hx rfl (pc0 := 97) (pc' := 105) rfl (hb hby at_97) rfl (Jvm.Free.XT.i0_eq_t hc16) (by decide) (by decide) kt) ?_
      have jj := J18 _ _ _ X14 e14 N14 K13 cArv_b1_13 A13 D13_afterCarriageReturn (by rw [own_j0_105_xml11, if_pos hc16]; exact D13_xml11) D13_count
      exact jj
    · -- pc 97
      refine ownE.go (T' := T14) (f' := (mkF m 100 #[.val (.int i0), .val (.int i1), .val (.int i2), .val (.int i3), .val (.int i4), .val (.int i5), .val (.ref b1), .val (.int (own_v0_45 i0 i1 i2 i3 i4 i5)), .val (.int (own_v0_58 i0 i1 i2 i3 i4 i5)), .val (.int (i5 &&& (3 : Int32))), .val (.int (own_j0_78_S0 i0 i1 i2 i3 i4 i5)), .val (.int (own_v0_84 i0 i1 i2 i3 i4 i5)), .val (.ref b13), .unset, .unset, .unset, .unset, .unset, .unset] [])) (fun t kt => XS.ifNo (g := (mkF m 97 #[.val (.int i0), .val (.int i1), .val (.int i2), .val (.int i3), .val (.int i4), .val (.int i5), .val (.ref b1), .val (.int (own_v0_45 i0 i1 i2 i3 i4 i5)), .val (.int (own_v0_58 i0 i1 i2 i3 i4 i5)), .val (.int (i5 &&& (3 : Int32))), .val (.int (own_j0_78_S0 i0 i1 i2 i3 i4 i5)), .val (.int (own_v0_84 i0 i1 i2 i3 i4 i5)), .val (.ref b13), .unset, .unset, .unset, .unset, .unset, .unset] [(.int (own_j0_78_S0 i0 i1 i2 i3 i4 i5))])) X14.here hx rfl (hb hby at_97) rfl (Jvm.Free.XT.i0_eq_f hc16) kt) ?_
      refine ownE.go (T' := T14) (f' := (mkF m 102 #[.val (.int i0), .val (.int i1), .val (.int i2), .val (.int i3), .val (.int i4), .val (.int i5), .val (.ref b1), .val (.int (own_v0_45 i0 i1 i2 i3 i4 i5)), .val (.int (own_v0_58 i0 i1 i2 i3 i4 i5)), .val (.int (i5 &&& (3 : Int32))), .val (.int (own_j0_78_S0 i0 i1 i2 i3 i4 i5)), .val (.int (own_v0_84 i0 i1 i2 i3 i4 i5)), .val (.ref b13), .unset, .unset, .unset, .unset, .unset, .unset] [(.ref b13)])) (fun t kt => ?_) ?_
      · show Steps p.tables e below (T14.setTop (mkF m 100 #[.val (.int i0), .val (.int i1), .val (.int i2), .val (.int i3), .val (.int i4), .val (.int i5), .val (.ref b1), .val (.int (own_v0_45 i0 i1 i2 i3 i4 i5)), .val (.int (own_v0_58 i0 i1 i2 i3 i4 i5)), .val (.int (i5 &&& (3 : Int32))), .val (.int (own_j0_78_S0 i0 i1 i2 i3 i4 i5)), .val (.int (own_v0_84 i0 i1 i2 i3 i4 i5)), .val (.ref b13), .unset, .unset, .unset, .unset, .unset, .unset] [])) _
        refine XS.aload X14.here hx rfl (hb hby at_100) rfl rfl ?_
        exact kt
      obtain ⟨cq17, kq17, q17a, q17b, q17c⟩ := isOf hZ e14 A13
      obtain ⟨_, _, ⟨T17, L17, k17, n17⟩, -, X17, ⟨Lc17, hQ17, l17, y17, z17⟩, st17⟩ := X14.virtualBack hx (y := (⟨"traceward/schema/LineBreaks", "readAsXml11", "()V"⟩ : MethodName)) (z := (⟨"traceward/schema/LineBreaks", "readAsXml11", "()V"⟩ : MethodName)) hown (mvT hZ (hw _ (List.mem_of_getElem? (i := 41) rfl))) (mvT hZ (hw _ (List.mem_of_getElem? (i := 42) rfl))) (notFace_of_selects (args := #[]) (mvT hZ (hw _ (List.mem_of_getElem? (i := 44) rfl)))) (mvT hZ (hw _ (List.mem_of_getElem? (i := 44) rfl))) (mvT hZ (hw _ (List.mem_of_getElem? (i := 43) rfl))) (by decide) (backOf (W := 0) (own_rm9 l Z a0 hw [] b13 (0 : Int32) (0 : Int32) (0 : Int32) h13 n0 (Nat.le_trans Z0 K13.1) D13_count D13_afterCarriageReturn D13_xml11 A13 ge_b13) hZ (hw _ (List.mem_of_getElem? (i := 45) rfl)) (hw _ (List.mem_of_getElem? (i := 7) rfl)) (by decide) (by decide)) q17a q17c (g := (mkF m 102 #[.val (.int i0), .val (.int i1), .val (.int i2), .val (.int i3), .val (.int i4), .val (.int i5), .val (.ref b1), .val (.int (own_v0_45 i0 i1 i2 i3 i4 i5)), .val (.int (own_v0_58 i0 i1 i2 i3 i4 i5)), .val (.int (i5 &&& (3 : Int32))), .val (.int (own_j0_78_S0 i0 i1 i2 i3 i4 i5)), .val (.int (own_v0_84 i0 i1 i2 i3 i4 i5)), .val (.ref b13), .unset, .unset, .unset, .unset, .unset, .unset] [(.ref b13)])) rfl (by rw [hml]; rfl) (Steps.refl _) (argsL := []) (rest := []) (lenOf own_pd4 rfl) rfl (by show 2 * 0 + _ ≤ _; exact Nat.le_of_eq rfl) (hb hby at_102) (fun _ _ => ⟨rfl, e14, (by decide : 2 + 0 ≤ _), (by decide : 7 + 0 ≤ _)⟩)
      dsimp only [Pt.U, Pt.locs, Pt.cells, Pt.slots] at X17 l17 y17 z17 st17 hQ17
      subst l17 y17 z17
      obtain ⟨rfl, N17q, K17q, f17_0, f17_1, f17_2, f17_3⟩ := hQ17
      have cArv_b1_17 : Arv Z T17.heap b1 k1 .byte (4 : Int32) [(.int ((own_draw i0).toInt8.toInt32)), (.int ((own_draw i1).toInt8.toInt32)), (.int ((own_draw i2).toInt8.toInt32)), (.int ((own_draw i3).toInt8.toInt32))] (.int (0 : Int32)) := cArv_b1_13.keep K17q (ninS ne_b1_b13 nin0)
      have cExa_b13_17 : Exa Z T17.heap b13 "traceward/schema/LineBreaks" := A13.keep K17q
      have K17 : Keep h0 T17.heap [] := K13.trans K17q (allS (Or.inr sz_b13) all0)
      have N17 := Fr.app N14 N17q
      refine ownE.goS (T' := T17) (f' := (mkF m 105 #[.val (.int i0), .val (.int i1), .val (.int i2), .val (.int i3), .val (.int i4), .val (.int i5), .val (.ref b1), .val (.int (own_v0_45 i0 i1 i2 i3 i4 i5)), .val (.int (own_v0_58 i0 i1 i2 i3 i4 i5)), .val (.int (i5 &&& (3 : Int32))), .val (.int (own_j0_78_S0 i0 i1 i2 i3 i4 i5)), .val (.int (own_v0_84 i0 i1 i2 i3 i4 i5)), .val (.ref b13), .unset, .unset, .unset, .unset, .unset, .unset] [])) st17 ?_
      have jj := J18 _ _ _ X17 rfl N17 K17 cArv_b1_17 f17_0 f17_2 (by rw [own_j0_105_xml11, if_neg hc16]; exact f17_3) f17_1
      exact jj
  refine ownE.go (T' := T9) (f' := (mkF m 70 #[.val (.int i0), .val (.int i1), .val (.int i2), .val (.int i3), .val (.int i4), .val (.int i5), .val (.ref b1), .val (.int (own_v0_45 i0 i1 i2 i3 i4 i5)), .val (.int (own_v0_58 i0 i1 i2 i3 i4 i5)), .val (.int (i5 &&& (3 : Int32))), .unset, .unset, .unset, .unset, .unset, .unset, .unset, .unset, .unset] [(.int (i5 &&& (4 : Int32)))])) (fun t kt => ?_) ?_
  · show Steps p.tables e below (T9.setTop (mkF m 66 #[.val (.int i0), .val (.int i1), .val (.int i2), .val (.int i3), .val (.int i4), .val (.int i5), .val (.ref b1), .val (.int (own_v0_45 i0 i1 i2 i3 i4 i5)), .val (.int (own_v0_58 i0 i1 i2 i3 i4 i5)), .val (.int (i5 &&& (3 : Int32))), .unset, .unset, .unset, .unset, .unset, .unset, .unset, .unset, .unset] [])) _
    refine XS.iload X9.here hx rfl (hb hby at_66) rfl ?_
    show Steps p.tables e below (T9.setTop (mkF m 68 #[.val (.int i0), .val (.int i1), .val (.int i2), .val (.int i3), .val (.int i4), .val (.int i5), .val (.ref b1), .val (.int (own_v0_45 i0 i1 i2 i3 i4 i5)), .val (.int (own_v0_58 i0 i1 i2 i3 i4 i5)), .val (.int (i5 &&& (3 : Int32))), .unset, .unset, .unset, .unset, .unset, .unset, .unset, .unset, .unset] [(.int i5)])) _
    refine XS.iconst X9.here hx rfl (hb hby at_68) ?_
    show Steps p.tables e below (T9.setTop (mkF m 69 #[.val (.int i0), .val (.int i1), .val (.int i2), .val (.int i3), .val (.int i4), .val (.int i5), .val (.ref b1), .val (.int (own_v0_45 i0 i1 i2 i3 i4 i5)), .val (.int (own_v0_58 i0 i1 i2 i3 i4 i5)), .val (.int (i5 &&& (3 : Int32))), .unset, .unset, .unset, .unset, .unset, .unset, .unset, .unset, .unset] [(.int (4 : Int32)), (.int i5)])) _
    refine XS.iand X9.here hx rfl (hb hby at_69) rfl ?_
    exact kt
  by_cases hc11 : (i5 &&& (4 : Int32)) = (0 : Int32)
  · -- pc 70
    refine ownE.go (T' := T9) (f' := (mkF m 77 #[.val (.int i0), .val (.int i1), .val (.int i2), .val (.int i3), .val (.int i4), .val (.int i5), .val (.ref b1), .val (.int (own_v0_45 i0 i1 i2 i3 i4 i5)), .val (.int (own_v0_58 i0 i1 i2 i3 i4 i5)), .val (.int (i5 &&& (3 : Int32))), .unset, .unset, .unset, .unset, .unset, .unset, .unset, .unset, .unset] [])) (fun t kt => XS.ifYes (g := (mkF m 70 #[.val (.int i0), .val (.int i1), .val (.int i2), .val (.int i3), .val (.int i4), .val (.int i5), .val (.ref b1), .val (.int (own_v0_45 i0 i1 i2 i3 i4 i5)), .val (.int (own_v0_58 i0 i1 i2 i3 i4 i5)), .val (.int (i5 &&& (3 : Int32))), .unset, .unset, .unset, .unset, .unset, .unset, .unset, .unset, .unset] [(.int (i5 &&& (4 : Int32)))])) X9.here hx rfl (pc0 := 70) (pc' := 77) rfl (hb hby at_70) rfl (Jvm.Free.XT.i0_eq_t hc11) (by decide) (by decide) kt) ?_
    refine ownE.go (T' := T9) (f' := (mkF m 78 #[.val (.int i0), .val (.int i1), .val (.int i2), .val (.int i3), .val (.int i4), .val (.int i5), .val (.ref b1), .val (.int (own_v0_45 i0 i1 i2 i3 i4 i5)), .val (.int (own_v0_58 i0 i1 i2 i3 i4 i5)), .val (.int (i5 &&& (3 : Int32))), .unset, .unset, .unset, .unset, .unset, .unset, .unset, .unset, .unset] [(.int (0 : Int32))])) (fun t kt => ?_) ?_
    · show Steps p.tables e below (T9.setTop (mkF m 77 #[.val (.int i0), .val (.int i1), .val (.int i2), .val (.int i3), .val (.int i4), .val (.int i5), .val (.ref b1), .val (.int (own_v0_45 i0 i1 i2 i3 i4 i5)), .val (.int (own_v0_58 i0 i1 i2 i3 i4 i5)), .val (.int (i5 &&& (3 : Int32))), .unset, .unset, .unset, .unset, .unset, .unset, .unset, .unset, .unset] [])) _
      refine XS.iconst X9.here hx rfl (hb hby at_77) ?_
      exact kt
    have jj := J12 _ _ X9 e9 N9
    rw [show (own_j0_78_S0 i0 i1 i2 i3 i4 i5) = (0 : Int32) from by rw [own_j0_78_S0, if_pos hc11]] at jj
    exact jj
  · -- pc 70
    refine ownE.go (T' := T9) (f' := (mkF m 73 #[.val (.int i0), .val (.int i1), .val (.int i2), .val (.int i3), .val (.int i4), .val (.int i5), .val (.ref b1), .val (.int (own_v0_45 i0 i1 i2 i3 i4 i5)), .val (.int (own_v0_58 i0 i1 i2 i3 i4 i5)), .val (.int (i5 &&& (3 : Int32))), .unset, .unset, .unset, .unset, .unset, .unset, .unset, .unset, .unset] [])) (fun t kt => XS.ifNo (g := (mkF m 70 #[.val (.int i0), .val (.int i1), .val (.int i2), .val (.int i3), .val (.int i4), .val (.int i5), .val (.ref b1), .val (.int (own_v0_45 i0 i1 i2 i3 i4 i5)), .val (.int (own_v0_58 i0 i1 i2 i3 i4 i5)), .val (.int (i5 &&& (3 : Int32))), .unset, .unset, .unset, .unset, .unset, .unset, .unset, .unset, .unset] [(.int (i5 &&& (4 : Int32)))])) X9.here hx rfl (hb hby at_70) rfl (Jvm.Free.XT.i0_eq_f hc11) kt) ?_
    refine ownE.go (T' := T9) (f' := (mkF m 78 #[.val (.int i0), .val (.int i1), .val (.int i2), .val (.int i3), .val (.int i4), .val (.int i5), .val (.ref b1), .val (.int (own_v0_45 i0 i1 i2 i3 i4 i5)), .val (.int (own_v0_58 i0 i1 i2 i3 i4 i5)), .val (.int (i5 &&& (3 : Int32))), .unset, .unset, .unset, .unset, .unset, .unset, .unset, .unset, .unset] [(.int (1 : Int32))])) (fun t kt => ?_) ?_
    · show Steps p.tables e below (T9.setTop (mkF m 73 #[.val (.int i0), .val (.int i1), .val (.int i2), .val (.int i3), .val (.int i4), .val (.int i5), .val (.ref b1), .val (.int (own_v0_45 i0 i1 i2 i3 i4 i5)), .val (.int (own_v0_58 i0 i1 i2 i3 i4 i5)), .val (.int (i5 &&& (3 : Int32))), .unset, .unset, .unset, .unset, .unset, .unset, .unset, .unset, .unset] [])) _
      refine XS.iconst X9.here hx rfl (hb hby at_73) ?_
      show Steps p.tables e below (T9.setTop (mkF m 74 #[.val (.int i0), .val (.int i1), .val (.int i2), .val (.int i3), .val (.int i4), .val (.int i5), .val (.ref b1), .val (.int (own_v0_45 i0 i1 i2 i3 i4 i5)), .val (.int (own_v0_58 i0 i1 i2 i3 i4 i5)), .val (.int (i5 &&& (3 : Int32))), .unset, .unset, .unset, .unset, .unset, .unset, .unset, .unset, .unset] [(.int (1 : Int32))])) _
      refine XS.goto X9.here hx rfl (pc0 := 74) (pc' := 78) rfl (hb hby at_74) (by decide) (by decide) ?_
      exact kt
    have jj := J12 _ _ X9 e9 N9
    rw [show (own_j0_78_S0 i0 i1 i2 i3 i4 i5) = (1 : Int32) from by rw [own_j0_78_S0, if_neg hc11]] at jj
    exact jj
/-- what one byte adds, af telling whether a carriage return came before it -/
def own_g (b af : Int32) : Int32 := if b = 13 then 1 else if b = 10 then (if af = 0 then 1 else 0) else 0
def own_k (b : Int32) : Int32 := if b = 13 then 1 else 0
theorem own_j49 (i2 i3 cn ac xm b0 b1 b2 b3 ln af i : Int32) : own_j8_49_L4 i2 i3 cn ac xm b0 b1 b2 b3 ln af i = ln + own_g (own_sel4 i b0 b1 b2 b3) af := by
  unfold own_j8_49_L4 own_g
  split
  · rfl
  · split
    · split <;> simp
    · simp
theorem own_j61 (i2 i3 cn ac xm b0 b1 b2 b3 ln af i : Int32) : own_j8_61_S0 i2 i3 cn ac xm b0 b1 b2 b3 ln af i = own_k (own_sel4 i b0 b1 b2 b3) := rfl
theorem own_b0 (s t ar b0 b1 b2 b3 : Int32) (hs : ¬ s < 0) : own_brk0 s t ar b0 b1 b2 b3 = if 0 < s then 0 else if 0 < t then own_g b0 ar else 0 := by
  unfold own_brk0 own_g
  rfl
theorem own_b1 (s t ar b0 b1 b2 b3 : Int32) : own_brk1 s t ar b0 b1 b2 b3 = if 1 < s then 0 else if 1 < t then own_g b1 (if 1 = s then ar else own_k b0) else 0 := by
  unfold own_brk1 own_j7i1_55_S0 own_g own_k
  rfl
theorem own_b2 (s t ar b0 b1 b2 b3 : Int32) : own_brk2 s t ar b0 b1 b2 b3 = if 2 < s then 0 else if 2 < t then own_g b2 (if 2 = s then ar else own_k b1) else 0 := by
  unfold own_brk2 own_j7i2_55_S0 own_g own_k
  rfl
theorem own_b3 (s t ar b0 b1 b2 b3 : Int32) : own_brk3 s t ar b0 b1 b2 b3 = if 3 < s then 0 else if 3 < t then own_g b3 (if 3 = s then ar else own_k b2) else 0 := by
  unfold own_brk3 own_j7i3_55_S0 own_g own_k
  rfl
theorem own_s0 (a b c d : Int32) : own_sel4 0 a b c d = a := rfl
theorem own_s1 (a b c d : Int32) : own_sel4 1 a b c d = b := rfl
theorem own_s2 (a b c d : Int32) : own_sel4 2 a b c d = c := rfl
theorem own_s3 (a b c d : Int32) : own_sel4 3 a b c d = d := rfl
theorem own_fiv (x : Int32) (h0 : ¬ x < 0) (h4 : ¬ 4 < x) : x = 0 ∨ x = 1 ∨ x = 2 ∨ x = 3 ∨ x = 4 := by
  rw [Int32.lt_iff_toInt_lt] at h0 h4
  simp only [← Int32.toInt_inj]
  have z0 : (0 : Int32).toInt = 0 := by decide
  have z1 : (1 : Int32).toInt = 1 := by decide
  have z2 : (2 : Int32).toInt = 2 := by decide
  have z3 : (3 : Int32).toInt = 3 := by decide
  have z4 : (4 : Int32).toInt = 4 := by decide
  rw [z0, z1, z2, z3, z4]
  omega
theorem own_k01 (b : Int32) : own_k b &&& 1 = own_k b := by
  unfold own_k
  split <;> decide
/-- the loop adds what the four places add, and ends as the last byte says -/
theorem own_loop (s t cn ac xm b0 b1 b2 b3 : Int32) (hs0 : ¬ s < 0) (hs4 : ¬ 4 < s) (ht0 : ¬ t < 0) (ht4 : ¬ 4 < t) (hac : ac &&& 1 = ac) :
    own_tl s t cn ac xm b0 b1 b2 b3 5 cn ac s = (cn + (own_brk0 s t ac b0 b1 b2 b3 + own_brk1 s t ac b0 b1 b2 b3 + own_brk2 s t ac b0 b1 b2 b3 + own_brk3 s t ac b0 b1 b2 b3), if s < t then own_k (own_sel4 (t - 1) b0 b1 b2 b3) else ac) := by
  rw [own_b0 _ _ _ _ _ _ _ hs0, own_b1, own_b2, own_b3]
  rcases own_fiv s hs0 hs4 with rfl | rfl | rfl | rfl | rfl <;> rcases own_fiv t ht0 ht4 with rfl | rfl | rfl | rfl | rfl <;>
    simp [own_tl, own_j49, own_j61, own_s0, own_s1, own_s2, own_s3, own_k01, hac, Int32.add_assoc]
theorem own_ta_eq (x cn ac xm : Int32) : own_ta x cn ac xm = own_k x := by
  unfold own_ta own_k
  split
  · rfl
  · split <;> rfl
theorem own_tc10 (cn ac xm : Int32) : own_tc 10 cn ac xm = if ac = 0 then cn + 1 else cn := by
  unfold own_tc own_bl own_j4_32_S0
  by_cases h : ac = 0 <;> simp [h]
theorem own_law (a b c d e f : Int32) : own_f0 a b c d e f = 1 := by
  have hac : own_j0_170_afterCarriageReturn a b c d e f = own_j0_170_L13 a b c d e f := by
    unfold own_j0_170_afterCarriageReturn own_j0_170_L13 own_j0_168_S0
    simp only [own_ta_eq]
    rfl
  have h01 : own_j0_170_L13 a b c d e f &&& 1 = own_j0_170_L13 a b c d e f := by
    unfold own_j0_170_L13 own_j0_168_S0
    repeat' split
    all_goals decide
  have hs := own_m5 e
  have ht := own_m5 ((e.toUInt32 >>> ((8 : Int32) &&& 31).toUInt32).toInt32)
  have L := own_loop (own_v0_45 a b c d e f) (own_v0_58 a b c d e f) (own_j0_170_count a b c d e f) (own_j0_170_L13 a b c d e f) (own_j0_105_xml11 a b c d e f) ((own_draw a).toInt8.toInt32) ((own_draw b).toInt8.toInt32) ((own_draw c).toInt8.toInt32) ((own_draw d).toInt8.toInt32) hs.1 hs.2 ht.1 ht.2 h01
  unfold own_f0
  rw [hac, L]
  have e1 : own_cnt (own_j0_170_count a b c d e f + own_v0_228 a b c d e f) = own_cnt (own_j0_170_count a b c d e f) + own_v0_228 a b c d e f := rfl
  rw [if_pos, if_pos]
  · have e2 : own_j0_259_S0 a b c d e f = (if own_v0_45 a b c d e f < own_v0_58 a b c d e f then own_k (own_sel4 (own_v0_58 a b c d e f - 1) ((own_draw a).toInt8.toInt32) ((own_draw b).toInt8.toInt32) ((own_draw c).toInt8.toInt32) ((own_draw d).toInt8.toInt32)) else own_j0_170_L13 a b c d e f) := rfl
    unfold own_cnt own_j0_318_S0
    rw [own_tc10, e2]
    dsimp only
    generalize (if own_v0_45 a b c d e f < own_v0_58 a b c d e f then own_k (own_sel4 (own_v0_58 a b c d e f - 1) ((own_draw a).toInt8.toInt32) ((own_draw b).toInt8.toInt32) ((own_draw c).toInt8.toInt32) ((own_draw d).toInt8.toInt32)) else own_j0_170_L13 a b c d e f) = w
    by_cases h : w = 0
    · rw [if_pos h, if_pos h, Int32.add_comm, Int32.add_sub_cancel]
    · rw [if_neg h, if_neg h, Int32.sub_self]
  · exact e1

set_option maxRecDepth 65536 in
set_option maxHeartbeats 40000000 in
theorem comes_1 {Post : Tables → Env → Array Value → State → Outcome → State → Prop} (hpost : ∀ tb e args s v u, (limb_1_1.after args s (.returned v) u = true ∧ limb_1_2.after args s (.returned v) u = true ∧ True) → FrameEnd s (.returned v) u (Jvm.fieldLocs frame_1_writes args s ++ Jvm.arrayLocs frame_1_arrays args s ++ Jvm.staticLocs frame_1_statics s) 16 128 → Post tb e args s (.returned v) u) :
    ArmFor flags0 classFile x code maxLocals ret World_1 tables_1 room_1 Calls_1 rest_1 Pre_1 Post := by
  intro l hfl _ _ p e ha hc hk s m args below hf hA hF happ hP
  obtain ⟨hcalls, hrest, hpre⟩ := hP
  obtain ⟨-, -, -, hnamed, -, -, -, hat⟩ := (Spec.applies_iff hf).mp happ
  obtain ⟨hg, hn⟩ := and_e (Cond.before_iff.mp (show (Jvm.Cond.and given_1 narrow_1).before args s = true from hpre))
  obtain ⟨g1, g2⟩ := and_e hg
  obtain ⟨g3, g4⟩ := and_e g2
  obtain ⟨g5, g6⟩ := and_e g4
  obtain ⟨g7, g8⟩ := and_e g6
  obtain ⟨g9, g10⟩ := and_e g8
  obtain ⟨g11, g12⟩ := and_e g10
  obtain ⟨w0, w1, w2, w3, w4, w5, rfl⟩ : ∃ w0 w1 w2 w3 w4 w5 : Value, args = #[w0, w1, w2, w3, w4, w5] := by
    have hs : args.size = 6 := by simpa [Cond.value, given_1] using g1
    obtain ⟨L⟩ := args
    match L, hs with
    | [w0, w1, w2, w3, w4, w5], _ => exact ⟨w0, w1, w2, w3, w4, w5, rfl⟩
  have hw := fun d (hd : d ∈ tables_1) => atoms_spec (ws := Jvm.Cond.code x code maxLocals ret :: tables_1) hat d (List.mem_cons_of_mem _ hd)
  have hfit : Fit s := fun {y c} hc i hi => by
    obtain ⟨ha, rfl⟩ := Array.getElem?_eq_some_iff.mp hc
    have q := List.all_eq_true.mp ((Array.all_eq_true_iff_forall_mem.mp hF) _ (Array.getElem_mem ha)) i (List.mem_range.mpr hi)
    simpa [Array.getElem?_eq_getElem hi] using q
  obtain ⟨i0, ei0⟩ := is_v g3
  obtain rfl : w0 = (.int i0) := Option.some.inj ei0
  obtain ⟨i1, ei1⟩ := is_v g5
  obtain rfl : w1 = (.int i1) := Option.some.inj ei1
  obtain ⟨i2, ei2⟩ := is_v g7
  obtain rfl : w2 = (.int i2) := Option.some.inj ei2
  obtain ⟨i3, ei3⟩ := is_v g9
  obtain rfl : w3 = (.int i3) := Option.some.inj ei3
  obtain ⟨i4, ei4⟩ := is_v g11
  obtain rfl : w4 = (.int i4) := Option.some.inj ei4
  obtain ⟨i5, ei5⟩ := is_v g12
  obtain rfl : w5 = (.int i5) := Option.some.inj ei5
  obtain ⟨n, o, h1, h2, h3, _, L, rfl, ⟨rfl, N, -⟩, hq⟩ := own_rm0 l s _ hw tables_1 i0 i1 i2 i3 i4 i5  s.heap s.heap.size (Nat.le_refl _)  p e ha hc hk s m _ below hf ((Spec.applies_iff_loose hf).mp happ).1 ⟨rfl, State.Warmed39.refl s, rfl⟩ trivial
  refine ⟨n, _, h1, h2, h3, hpost _ _ _ _ _ _ ⟨Cond.after_iff.mpr rfl, Cond.after_iff.mpr (eq_i res_at (Term.int_eval (1)) (congrArg Value.int (own_law i0 i1 i2 i3 i4 i5))), trivial⟩ ⟨hq.1, hq.2.1, (hq.2.2.sift fun y hy => Or.inr (N y hy)).mono (by decide) (by decide)⟩⟩
theorem main_1_1 : Claimed_1_1 := comes_1 fun _ _ _ _ _ _ h hF => ⟨h.1, hF⟩
theorem main_1_2 : Claimed_1_2 := comes_1 fun _ _ _ _ _ _ h hF => ⟨h.2.1, hF⟩
end Jvm.Pilot.@@N@@
namespace Jvm.Pilot.@@N@@
open Jvm Jvm.ClassFile Sem Op Lib Jvm.Free Jvm.Stand Jvm.Pilot.@@N@@.Jvm.D
/-! MADE BY PROGRAM (witnessworld.py) out of the Statement's table words and the real class files: 9 classes; the members and pool entries that the words name. The judged class is class 1, her method 3. -/
namespace start1
open Jvm.ClassFile
def u (s : String) : CpInfo := .utf8 (stringToUtf16 s)
/-- a pool by its gaps: so many unusable entries, then the entry; so many at the end -/
def gap : Nat → List CpInfo → List CpInfo
  | 0, r => r
  | n + 1, r => .unusable :: gap n r
def poolList (es : List (Nat × CpInfo)) (last : Nat) : List CpInfo := es.foldr (fun e r => gap e.1 (e.2 :: r)) (gap last [])
def pool (es : List (Nat × CpInfo)) (last : Nat) : Array CpInfo := ⟨poolList es last⟩
def fileOf (pool : Array CpInfo) (this : Nat) (attrs : Array Attribute := #[]) (ms : Array MethodInfo := #[]) (fl : Nat := 33) (sup : Nat := 0) (ifs : Array Nat := #[]) (fds : Array FieldInfo := #[]) : ClassFile where
  minorVersion := 0
  majorVersion := 65
  constantPool := pool
  accessFlags := fl
  thisClass := this
  superClass := sup
  interfaces := ifs
  fields := fds
  methods := ms
  attributes := attrs
def plain (name : String) (sup : Option ClassId) : Class where
  name := name
  kind := .ordinary
  loader := none
  accessFlags := 33
  super := sup
  interfaces := #[]
  cf := none
  fields := #[]
  methods := #[]
  instanceTypes := #[]
  staticTypes := #[]
  resolved := #[]
  callSites := []
  init := .initialized
  statics := none
  mirror := none

def pool0 : Array CpInfo := pool [(5, u "<init>"), (0, u "()V"), (1, .class_ 10), (1, u "java/lang/Object")] 113

def k0c0 : Code := { maxStack := 0, maxLocals := 1, code := object_method_1_code, exceptionTable := #[], attributes := #[] }
def k0m0 : Method := { name := "<init>", desc := "()V", sig := { parameters := [], returnType := none }, accessFlags := 1, code := some k0c0 }
/-- java/lang/Object -/
def k0 : Class := { plain "java/lang/Object" none with
  accessFlags := 33
  interfaces := #[]
  cf := some (fileOf pool0 8 #[] #[{ accessFlags := 1, nameIndex := 5, descriptorIndex := 6, attributes := #[] }] 33 0 #[] #[])
  fields := #[]
  methods := #[k0m0]
  instanceTypes := #[]
  staticTypes := #[]
  resolved := Array.replicate 124 none
  statics := none }

def pool1 : Array CpInfo := pool [(2, .class_ 4), (0, .nameAndType 5 6), (0, u "java/lang/Object"), (0, u "<init>"), (0, u "()V"), (0, .methodref 8 9), (0, .class_ 10), (0, .nameAndType 11 12), (0, u "traceward/schema/LineBreaksTakePinLaw"), (0, u "draw"), (0, u "(I)B"), (0, .class_ 14), (0, u "traceward/schema/LineBreaks"), (0, .methodref 13 3), (0, .methodref 13 17), (0, .nameAndType 18 6), (0, u "readAsXml11"), (0, .methodref 13 20), (0, .nameAndType 21 22), (0, u "take"), (0, u "(I)V"), (0, .methodref 13 24), (0, .nameAndType 25 26), (0, u "count"), (0, u "()I"), (0, .methodref 8 28), (0, .nameAndType 29 30), (0, u "brk"), (0, u "([BIIIZ)I"), (0, .methodref 13 32), (0, .nameAndType 21 33), (0, u "([BII)V"), (3, u "law"), (0, u "(IIIIII)Z")] 4

def k1m0 : Method := { name := "<init>", desc := "()V", sig := { parameters := [], returnType := none }, accessFlags := 1, code := none }
def k1c1 : Code := { maxStack := 2, maxLocals := 2, code := method_2_code, exceptionTable := #[], attributes := #[] }
def k1m1 : Method := { name := "draw", desc := "(I)B", sig := { parameters := [.int], returnType := some .byte }, accessFlags := 10, code := some k1c1 }
def k1c2 : Code := { maxStack := 3, maxLocals := 6, code := method_3_code, exceptionTable := #[], attributes := #[] }
def k1m2 : Method := { name := "brk", desc := "([BIIIZ)I", sig := { parameters := [(.array .byte), .int, .int, .int, .boolean], returnType := some .int }, accessFlags := 10, code := some k1c2 }
def k1c3 : Code := { maxStack := 6, maxLocals := 19, code := code, exceptionTable := #[], attributes := #[] }
def k1m3 : Method := { name := "law", desc := "(IIIIII)Z", sig := { parameters := [.int, .int, .int, .int, .int, .int], returnType := some .boolean }, accessFlags := 9, code := some k1c3 }
/-- traceward/schema/LineBreaksTakePinLaw -/
def k1 : Class := { plain "traceward/schema/LineBreaksTakePinLaw" (some 0) with
  accessFlags := 49
  interfaces := #[]
  cf := some (fileOf pool1 8 #[] #[{ accessFlags := 1, nameIndex := 5, descriptorIndex := 6, attributes := #[] }, { accessFlags := 10, nameIndex := 11, descriptorIndex := 12, attributes := #[] }, { accessFlags := 10, nameIndex := 29, descriptorIndex := 30, attributes := #[] }, { accessFlags := 9, nameIndex := 37, descriptorIndex := 38, attributes := #[] }] 49 2 #[] #[])
  fields := #[]
  methods := #[k1m0, k1m1, k1m2, k1m3]
  instanceTypes := #[]
  staticTypes := #[]
  resolved := Array.replicate 43 none
  statics := none }

def pool2 : Array CpInfo := pool [(1, .methodref 2 3), (0, .class_ 4), (0, .nameAndType 5 6), (0, u "java/lang/Object"), (0, u "<init>"), (0, u "()V"), (0, .class_ 8), (0, u "traceward/schema/LineBreaks"), (0, .fieldref 7 10), (0, .nameAndType 11 12), (0, u "count"), (0, u "I"), (0, .fieldref 7 14), (0, .nameAndType 15 16), (0, u "xml11"), (0, u "Z"), (0, .fieldref 7 18), (0, .nameAndType 19 16), (0, u "afterCarriageReturn"), (0, .methodref 7 21), (0, .nameAndType 22 23), (0, u "breaksLine"), (0, u "(IZ)Z"), (0, u "NEXT_LINE"), (2, u "LINE_SEPARATOR"), (4, u "()I"), (0, u "readAsXml11"), (1, u "take"), (0, u "([BII)V"), (0, u "(I)V")] 2

def k2c0 : Code := { maxStack := 1, maxLocals := 1, code := prog_84_method_1_code, exceptionTable := #[], attributes := #[] }
def k2m0 : Method := { name := "<init>", desc := "()V", sig := { parameters := [], returnType := none }, accessFlags := 0, code := some k2c0 }
def k2c1 : Code := { maxStack := 2, maxLocals := 2, code := prog_84_method_2_code, exceptionTable := #[], attributes := #[] }
def k2m1 : Method := { name := "breaksLine", desc := "(IZ)Z", sig := { parameters := [.int, .boolean], returnType := some .boolean }, accessFlags := 8, code := some k2c1 }
def k2c2 : Code := { maxStack := 1, maxLocals := 1, code := prog_84_method_3_code, exceptionTable := #[], attributes := #[] }
def k2m2 : Method := { name := "count", desc := "()I", sig := { parameters := [], returnType := some .int }, accessFlags := 0, code := some k2c2 }
def k2c3 : Code := { maxStack := 2, maxLocals := 1, code := prog_84_method_4_code, exceptionTable := #[], attributes := #[] }
def k2m3 : Method := { name := "readAsXml11", desc := "()V", sig := { parameters := [], returnType := none }, accessFlags := 0, code := some k2c3 }
def k2c4 : Code := { maxStack := 2, maxLocals := 8, code := prog_84_method_6_code, exceptionTable := #[], attributes := #[] }
def k2m4 : Method := { name := "take", desc := "([BII)V", sig := { parameters := [(.array .byte), .int, .int], returnType := none }, accessFlags := 0, code := some k2c4 }
def k2c5 : Code := { maxStack := 3, maxLocals := 3, code := prog_84_method_7_code, exceptionTable := #[], attributes := #[] }
def k2m5 : Method := { name := "take", desc := "(I)V", sig := { parameters := [.int], returnType := none }, accessFlags := 0, code := some k2c5 }
/-- traceward/schema/LineBreaks -/
def k2 : Class := { plain "traceward/schema/LineBreaks" (some 0) with
  accessFlags := 48
  interfaces := #[]
  cf := some (fileOf pool2 7 #[] #[{ accessFlags := 0, nameIndex := 5, descriptorIndex := 6, attributes := #[] }, { accessFlags := 8, nameIndex := 22, descriptorIndex := 23, attributes := #[] }, { accessFlags := 0, nameIndex := 11, descriptorIndex := 32, attributes := #[] }, { accessFlags := 0, nameIndex := 33, descriptorIndex := 6, attributes := #[] }, { accessFlags := 0, nameIndex := 35, descriptorIndex := 36, attributes := #[] }, { accessFlags := 0, nameIndex := 35, descriptorIndex := 37, attributes := #[] }] 48 2 #[] #[{ accessFlags := 24, nameIndex := 24, descriptorIndex := 12, attributes := #[] }, { accessFlags := 24, nameIndex := 27, descriptorIndex := 12, attributes := #[] }, { accessFlags := 2, nameIndex := 11, descriptorIndex := 12, attributes := #[] }, { accessFlags := 2, nameIndex := 19, descriptorIndex := 16, attributes := #[] }, { accessFlags := 2, nameIndex := 15, descriptorIndex := 16, attributes := #[] }])
  fields := #[{ name := "NEXT_LINE", type := .int, accessFlags := 24, slot := 0, constantValue := 0 }, { name := "LINE_SEPARATOR", type := .int, accessFlags := 24, slot := 1, constantValue := 0 }, { name := "count", type := .int, accessFlags := 2, slot := 0, constantValue := 0 }, { name := "afterCarriageReturn", type := .boolean, accessFlags := 2, slot := 1, constantValue := 0 }, { name := "xml11", type := .boolean, accessFlags := 2, slot := 2, constantValue := 0 }]
  methods := #[k2m0, k2m1, k2m2, k2m3, k2m4, k2m5]
  instanceTypes := #[.int, .boolean, .boolean]
  staticTypes := #[.int, .int]
  resolved := Array.replicate 40 none
  statics := none }

def pool3 : Array CpInfo := pool [(1, u "java/lang/Cloneable"), (0, .class_ 1), (0, u "java/lang/Object"), (0, .class_ 3)] 3

/-- java/lang/Cloneable -/
def k3 : Class := { plain "java/lang/Cloneable" (some 0) with
  accessFlags := 1537
  interfaces := #[]
  cf := some (fileOf pool3 2 #[] #[] 1537 4 #[] #[])
  fields := #[]
  methods := #[]
  instanceTypes := #[]
  staticTypes := #[]
  resolved := Array.replicate 8 none
  statics := none }

def pool4 : Array CpInfo := pool [(1, u "java/io/Serializable"), (0, .class_ 1), (0, u "java/lang/Object"), (0, .class_ 3)] 3

/-- java/io/Serializable -/
def k4 : Class := { plain "java/io/Serializable" (some 0) with
  accessFlags := 1537
  interfaces := #[]
  cf := some (fileOf pool4 2 #[] #[] 1537 4 #[] #[])
  fields := #[]
  methods := #[]
  instanceTypes := #[]
  staticTypes := #[]
  resolved := Array.replicate 8 none
  statics := none }

/-- the primitive byte -/
def k5 : Class := { plain "byte" none with kind := .primitive 'B', accessFlags := 0x411 }
/-- [B -/
def k6 : Class := { plain "[B" (some 0) with kind := .array 5 .byte, interfaces := #[3, 4], accessFlags := 1041 }

/-- the primitive int -/
def k7 : Class := { plain "int" none with kind := .primitive 'I', accessFlags := 0x411 }
/-- [I -/
def k8 : Class := { plain "[I" (some 0) with kind := .array 7 .int, interfaces := #[3, 4], accessFlags := 1041 }

def heap : Heap := #[]
def classes : Array Class := #[k0, k1, k2, k3, k4, k5, k6, k7, k8]
def interned : List (Array UInt16 × Addr) := []
def slotsUsed : Nat := 0
def theMethod : MethodId := ⟨1, 3⟩
def args0 : Array Value := #[.int 5, .int 5, .int 5, .int 5, .int 5, .int 5]
def aboutOver (below : List Frame) : State where
  vm := { classes := classes, interned := interned.toArray }
  heap := heap
  slotsUsed := slotsUsed
  threads := #[{ frames := .invoking theMethod args0 :: below }]
def below0 : List Frame := [.native { method := ⟨0, 0⟩, args := #[] }]
def about1 : State := aboutOver below0
def p0 : Program := .bare "" "" ""
def e0 : Env := launch0.env 0 0 0
theorem w_frames : about1.frames = Frame.invoking theMethod args0 :: below0 := rfl
set_option maxRecDepth 65536 in
theorem w_args : argsFit about1.vm theMethod args0 = true := by decide +kernel
set_option maxRecDepth 65536 in
theorem w_heap : heapFits about1 = true := by decide +kernel
set_option maxRecDepth 65536 in
theorem w_runnable : about1.curStatus? = some .runnable := by decide +kernel
set_option maxRecDepth 65536 in
theorem w_alone : about1.alone = true := by decide +kernel
set_option maxRecDepth 65536 in
theorem w_named : about1.methodNamed? x = some theMethod := by decide +kernel
set_option maxRecDepth 65536 in
theorem w_hears : about1.hears theMethod below0 = true := by decide +kernel
set_option maxRecDepth 65536 in
theorem w_ripe : about1.ripe theMethod args0 below0 = true := by decide +kernel
theorem w_running : about1.status = .running := rfl
set_option maxRecDepth 65536 in
theorem w_room : about1.hasRoom e0.platform room_1 = true :=
  launch0.hasRoom_least _ room_1 (by decide +kernel) (by decide +kernel) (by decide +kernel) (by decide +kernel) (by decide +kernel) (by decide +kernel)
theorem allAtoms_all (ts : List Jvm.Cond) (a : Array Jvm.Value) (st : Jvm.State) : (allAtoms ts).before a st = ts.all (fun c => c.before a st) := by
  induction ts with
  | nil => rfl
  | cons c t ih =>
    show (Jvm.Cond.and c (allAtoms t)).before a st = _
    rw [Jvm.Cond.before_and, ih, List.all_cons]
def words1 : List Jvm.Cond := Jvm.Cond.code x code maxLocals ret :: tables_1
/-- a 'code' word, met by the world's own term for the bytes: nothing is compared byte by byte -/
theorem code_word {y : MethodName} {bytes : ByteArray} {mx : Nat} {rt : Option FieldType} {a : Array Value} {s : State} {m : MethodId} {meth : Method} {c : Code} (h1 : s.methodNamed? y = some m) (h2 : s.vm.method? m = some meth) (h3 : meth.code = some c) (h4 : c.code = bytes)
    (h5 : (c.maxLocals == mx && c.exceptionTable.isEmpty && decide (c.maxStack ≤ mostOperands) && decide (meth.sig.returnType = rt) && !meth.locks && decide (parseMethodDescriptor y.desc = some meth.sig)) = true) : (Jvm.Cond.code y bytes mx rt).before a s = true := by
  simp only [Bool.and_eq_true, beq_iff_eq, Bool.not_eq_true', decide_eq_true_eq] at h5
  obtain ⟨⟨⟨⟨⟨g1, g2⟩, g3⟩, g4⟩, g5⟩, g6⟩ := h5
  simp [Cond.before, Cond.holds, Cond.value, h1, h2, h3, h4, g1, g2, g3, g4, g5, g6]
def isCode : Jvm.Cond → Bool
  | .code _ _ _ _ => true
  | _ => false
theorem all_split {L : List Jvm.Cond} {P : Jvm.Cond → Bool} (h1 : L.all (fun c => isCode c || P c) = true) (h2 : ∀ c ∈ L.filter isCode, P c = true) : L.all P = true := by
  refine List.all_eq_true.mpr fun c hc => ?_
  have h := List.all_eq_true.mp h1 c hc
  rcases Bool.eq_false_or_eq_true (isCode c) with hi | hi
  · exact h2 c (List.mem_filter.mpr ⟨hc, hi⟩)
  · simpa [hi] using h
set_option maxRecDepth 65536 in
theorem w_c0 : (Jvm.Cond.code x code maxLocals ret).before args0 about1 = true := code_word (m := ⟨1, 3⟩) (meth := k1m3) (c := k1c3) (by decide +kernel) rfl rfl rfl (by decide +kernel)
set_option maxRecDepth 65536 in
theorem w_c1 : (Jvm.Cond.code ({ cls := "traceward/schema/LineBreaksTakePinLaw", name := "draw", desc := "(I)B" } : Jvm.MethodName) method_2_code (2 : Nat) (Option.some Jvm.ClassFile.FieldType.byte)).before args0 about1 = true := code_word (m := ⟨1, 1⟩) (meth := k1m1) (c := k1c1) (by decide +kernel) rfl rfl rfl (by decide +kernel)
set_option maxRecDepth 65536 in
theorem w_c2 : (Jvm.Cond.code ({ cls := "traceward/schema/LineBreaks", name := "<init>", desc := "()V" } : Jvm.MethodName) prog_84_method_1_code (1 : Nat) (Option.none : Option Jvm.ClassFile.FieldType)).before args0 about1 = true := code_word (m := ⟨2, 0⟩) (meth := k2m0) (c := k2c0) (by decide +kernel) rfl rfl rfl (by decide +kernel)
set_option maxRecDepth 65536 in
theorem w_c3 : (Jvm.Cond.code ({ cls := "java/lang/Object", name := "<init>", desc := "()V" } : Jvm.MethodName) object_method_1_code (1 : Nat) (Option.none : Option Jvm.ClassFile.FieldType)).before args0 about1 = true := code_word (m := ⟨0, 0⟩) (meth := k0m0) (c := k0c0) (by decide +kernel) rfl rfl rfl (by decide +kernel)
set_option maxRecDepth 65536 in
theorem w_c4 : (Jvm.Cond.code ({ cls := "traceward/schema/LineBreaks", name := "take", desc := "(I)V" } : Jvm.MethodName) prog_84_method_7_code (3 : Nat) (Option.none : Option Jvm.ClassFile.FieldType)).before args0 about1 = true := code_word (m := ⟨2, 5⟩) (meth := k2m5) (c := k2c5) (by decide +kernel) rfl rfl rfl (by decide +kernel)
set_option maxRecDepth 65536 in
theorem w_c5 : (Jvm.Cond.code ({ cls := "traceward/schema/LineBreaks", name := "breaksLine", desc := "(IZ)Z" } : Jvm.MethodName) prog_84_method_2_code (2 : Nat) (Option.some Jvm.ClassFile.FieldType.boolean)).before args0 about1 = true := code_word (m := ⟨2, 1⟩) (meth := k2m1) (c := k2c1) (by decide +kernel) rfl rfl rfl (by decide +kernel)
set_option maxRecDepth 65536 in
theorem w_c6 : (Jvm.Cond.code ({ cls := "traceward/schema/LineBreaks", name := "count", desc := "()I" } : Jvm.MethodName) prog_84_method_3_code (1 : Nat) (Option.some Jvm.ClassFile.FieldType.int)).before args0 about1 = true := code_word (m := ⟨2, 2⟩) (meth := k2m2) (c := k2c2) (by decide +kernel) rfl rfl rfl (by decide +kernel)
set_option maxRecDepth 65536 in
theorem w_c7 : (Jvm.Cond.code ({ cls := "traceward/schema/LineBreaksTakePinLaw", name := "brk", desc := "([BIIIZ)I" } : Jvm.MethodName) method_3_code (6 : Nat) (Option.some Jvm.ClassFile.FieldType.int)).before args0 about1 = true := code_word (m := ⟨1, 2⟩) (meth := k1m2) (c := k1c2) (by decide +kernel) rfl rfl rfl (by decide +kernel)
set_option maxRecDepth 65536 in
theorem w_c8 : (Jvm.Cond.code ({ cls := "traceward/schema/LineBreaks", name := "take", desc := "([BII)V" } : Jvm.MethodName) prog_84_method_6_code (8 : Nat) (Option.none : Option Jvm.ClassFile.FieldType)).before args0 about1 = true := code_word (m := ⟨2, 4⟩) (meth := k2m4) (c := k2c4) (by decide +kernel) rfl rfl rfl (by decide +kernel)
set_option maxRecDepth 65536 in
theorem w_c9 : (Jvm.Cond.code ({ cls := "traceward/schema/LineBreaks", name := "readAsXml11", desc := "()V" } : Jvm.MethodName) prog_84_method_4_code (1 : Nat) (Option.none : Option Jvm.ClassFile.FieldType)).before args0 about1 = true := code_word (m := ⟨2, 3⟩) (meth := k2m3) (c := k2c3) (by decide +kernel) rfl rfl rfl (by decide +kernel)
def codes1 : List Jvm.Cond := [Jvm.Cond.code x code maxLocals ret, Jvm.Cond.code ({ cls := "traceward/schema/LineBreaksTakePinLaw", name := "draw", desc := "(I)B" } : Jvm.MethodName) method_2_code (2 : Nat) (Option.some Jvm.ClassFile.FieldType.byte), Jvm.Cond.code ({ cls := "traceward/schema/LineBreaks", name := "<init>", desc := "()V" } : Jvm.MethodName) prog_84_method_1_code (1 : Nat) (Option.none : Option Jvm.ClassFile.FieldType), Jvm.Cond.code ({ cls := "java/lang/Object", name := "<init>", desc := "()V" } : Jvm.MethodName) object_method_1_code (1 : Nat) (Option.none : Option Jvm.ClassFile.FieldType), Jvm.Cond.code ({ cls := "traceward/schema/LineBreaks", name := "take", desc := "(I)V" } : Jvm.MethodName) prog_84_method_7_code (3 : Nat) (Option.none : Option Jvm.ClassFile.FieldType), Jvm.Cond.code ({ cls := "traceward/schema/LineBreaks", name := "breaksLine", desc := "(IZ)Z" } : Jvm.MethodName) prog_84_method_2_code (2 : Nat) (Option.some Jvm.ClassFile.FieldType.boolean), Jvm.Cond.code ({ cls := "traceward/schema/LineBreaks", name := "count", desc := "()I" } : Jvm.MethodName) prog_84_method_3_code (1 : Nat) (Option.some Jvm.ClassFile.FieldType.int), Jvm.Cond.code ({ cls := "traceward/schema/LineBreaksTakePinLaw", name := "brk", desc := "([BIIIZ)I" } : Jvm.MethodName) method_3_code (6 : Nat) (Option.some Jvm.ClassFile.FieldType.int), Jvm.Cond.code ({ cls := "traceward/schema/LineBreaks", name := "take", desc := "([BII)V" } : Jvm.MethodName) prog_84_method_6_code (8 : Nat) (Option.none : Option Jvm.ClassFile.FieldType), Jvm.Cond.code ({ cls := "traceward/schema/LineBreaks", name := "readAsXml11", desc := "()V" } : Jvm.MethodName) prog_84_method_4_code (1 : Nat) (Option.none : Option Jvm.ClassFile.FieldType)]
set_option maxRecDepth 65536 in
theorem codes_eq : words1.filter isCode = codes1 := rfl
theorem w_codes : ∀ c ∈ words1.filter isCode, c.before args0 about1 = true := by
  rw [codes_eq]
  intro c hc
  simp only [codes1, List.mem_cons, List.not_mem_nil, or_false] at hc
  rcases hc with rfl | rfl | rfl | rfl | rfl | rfl | rfl | rfl | rfl | rfl
  · exact w_c0
  · exact w_c1
  · exact w_c2
  · exact w_c3
  · exact w_c4
  · exact w_c5
  · exact w_c6
  · exact w_c7
  · exact w_c8
  · exact w_c9
set_option maxRecDepth 65536 in
theorem w_t1 : (words1.take 24).all (fun c => isCode c || c.before args0 about1) = true := by decide +kernel
set_option maxRecDepth 65536 in
theorem w_t2 : (words1.drop 24).all (fun c => isCode c || c.before args0 about1) = true := by decide +kernel
theorem w_tables : (allAtoms (Jvm.Cond.code x code maxLocals ret :: tables_1)).before args0 about1 = true := by
  rw [allAtoms_all]
  show words1.all (fun c => c.before args0 about1) = true
  refine all_split ?_ w_codes
  rw [← List.take_append_drop 24 words1, List.all_append, w_t1, w_t2]
  rfl
set_option maxRecDepth 65536 in
theorem w_case : (Jvm.Cond.and given_1 narrow_1).before args0 about1 = true := by decide +kernel
theorem w_applies : (headSpec (Jvm.Cond.code x code maxLocals ret :: tables_1) room_1).applies x e0.platform about1 = true :=
  (Spec.applies_iff w_frames).mpr ⟨w_running, w_runnable, w_alone, w_named, w_hears, w_ripe, w_room, w_tables⟩
theorem atStart : AtStart classFile x code maxLocals ret World_1 tables_1 room_1 Calls_1 rest_1 Pre_1 launch0 p0 e0 about1 theMethod args0 below0 :=
  ⟨lists_1, trivial, launch0.admits_env _ _ _, launch0.least_env, fairChoices_fair.cas, fairChoices_fair.clock, w_frames, w_args, w_heap, w_applies, trivial, trivial, w_case⟩
end start1
theorem witness_1 : WitnessClaimed_1 := ⟨start1.p0, start1.e0, start1.about1, start1.theMethod, start1.args0, start1.below0, start1.atStart⟩
end Jvm.Pilot.@@N@@
