import JvmDerived
import JvmDerived.Pilot.@@N@@Statement
import JvmDerived.Pilot.@@N@@Code
set_option linter.unusedVariables false
set_option linter.unusedSimpArgs false
namespace Jvm.RoadKit
open Sem ClassFile Op Lib Jvm.Stand Jvm.Free Jvm.LawKit
section New
variable {p : Program} {l : Launch} {e : Env} {R : Room} {s : State} {m : MethodId} {args : Array Value} {below : List Frame} {meth : Method} {c : Code} {T : State} {locs : List Loc} {cells slots : Nat}
theorem retI (X : Stand p l e R s m args below meth c T locs cells slots) (hx : p.tables.exec = Jvm.exec) {pc : Nat} {Ls : Array Slot} {z : Int32} {rest : List Value} (hret : meth.sig.returnType = some .int) (hd : decode c.code pc = .ok (.ireturn, 1)) {fs : List Frame}
    (hl : ∀ (f : JFrame) (acts : List Action), f.method = m → f.locked = none → f.entered = [] → (doReturn e (T.setTop f) acts (some (.int z))).1 = T.setFrames fs) : Steps p.tables e below (T.setTop (mkF m pc Ls (.int z :: rest))) (T.setFrames fs) := by
  have hm' : T.vm.method? m = some meth := X.method'
  have hn : narrow .int (.int z) = .int z := rfl
  show Steps p.tables e below (T.setTop { method := m, pc := pc, locals := Ls, stack := _ :: rest, locked := none }) _
  jvm_step X.here [X.here.top, hx, hd, hm', hret, hn]
  first | (intro acts; rw [hl _ acts rfl rfl rfl]) | rw [hl _ _ rfl rfl rfl]
  exact Steps.refl _
end New
/-! the walk in continuation form: from the state T at the frame f the run ends by a return, as Q says -/
section Own
variable {p : Program} {l : Launch} {e : Env} {R : Room} {s : State} {m : MethodId} {args : Array Value} {below : List Frame} {meth : Method} {c : Code} {T T' : State} {locs : List Loc} {cells slots k n : Nat} {Q : Option Value → Heap → List Loc → Prop} {f f' : JFrame}
def ownE (p : Program) (e : Env) (below : List Frame) (s : State) (Q : Option Value → Heap → List Loc → Prop) (k n : Nat) (T : State) (f : JFrame) : Prop :=
  ∃ s₂ o, Steps p.tables e below (T.setTop f) s₂ ∧ s₂.status = .running ∧ Ended s₂ below o ∧ ∃ v L, o = .returned v ∧ Q v s₂.heap L ∧ FrameEnd s o s₂ L k n
theorem ownE.go (g : ∀ t, Steps p.tables e below (T'.setTop f') t → Steps p.tables e below (T.setTop f) t) (h : ownE p e below s Q k n T' f') : ownE p e below s Q k n T f := by
  obtain ⟨s₂, o, h1, r⟩ := h
  exact ⟨s₂, o, g _ h1, r⟩
theorem ownE.goS (g : Steps p.tables e below (T.setTop f) (T'.setTop f')) (h : ownE p e below s Q k n T' f') : ownE p e below s Q k n T f := by
  obtain ⟨s₂, o, h1, r⟩ := h
  exact ⟨s₂, o, g.trans h1, r⟩
theorem ownE.ret (X : Stand p l e R s m args below meth c T locs cells slots) {v : Option Value} (hlk : meth.locks = false) (hv : meth.sig.returnType = none → v = none)
    (st : ∀ fs, (∀ (f : JFrame) (acts : List Action), f.method = m → f.locked = none → f.entered = [] → (doReturn e (T.setTop f) acts v).1 = T.setFrames fs) → Steps p.tables e below (T.setTop f) (T.setFrames fs))
    (hQ : Q v T.heap locs) (hk : cells ≤ k) (hn : slots ≤ n) : ownE p e below s Q k n T f := by
  obtain ⟨fs, hr, hrun, hended, hW, hsame⟩ := X.leave (v := v) hv hlk
  exact ⟨_, _, st fs hr, hrun, hended, _, _, rfl, hQ, ⟨_, rfl⟩, hW, hsame.mono hk hn⟩
theorem ownE.retI (X : Stand p l e R s m args below meth c T locs cells slots) (hx : p.tables.exec = Jvm.exec) (hlk : meth.locks = false) {pc : Nat} {Ls : Array Slot} {z : Int32} {rest : List Value} (hret : meth.sig.returnType = some .int) (hd : decode c.code pc = .ok (.ireturn, 1))
    (hQ : Q (some (.int z)) T.heap locs) (hk : cells ≤ k) (hn : slots ≤ n) : ownE p e below s Q k n T (mkF m pc Ls (.int z :: rest)) :=
  ownE.ret X hlk (fun h => by rw [hret] at h; cases h) (fun fs hr => Jvm.RoadKit.retI X hx hret hd hr) hQ hk hn
theorem ownE.retN (X : Stand p l e R s m args below meth c T locs cells slots) (hx : p.tables.exec = Jvm.exec) (hlk : meth.locks = false) {pc : Nat} {Ls : Array Slot} {z : Int32} {rest : List Value} {t : FieldType} (hret : meth.sig.returnType = some t) (ht : t = .boolean ∨ t = .byte ∨ t = .char ∨ t = .short) (hd : decode c.code pc = .ok (.ireturn, 1))
    (hQ : Q (some (.int (nar t z))) T.heap locs) (hk : cells ≤ k) (hn : slots ≤ n) : ownE p e below s Q k n T (mkF m pc Ls (.int z :: rest)) :=
  ownE.ret X hlk (fun h => by rw [hret] at h; cases h) (fun fs hr => Jvm.RoadKit.retN X hx hret ht hd hr) hQ hk hn
theorem ownE.retL (X : Stand p l e R s m args below meth c T locs cells slots) (hx : p.tables.exec = Jvm.exec) (hlk : meth.locks = false) {pc : Nat} {Ls : Array Slot} {z : Int64} {rest : List Value} (hret : meth.sig.returnType = some .long) (hd : decode c.code pc = .ok (.lreturn, 1))
    (hQ : Q (some (.long z)) T.heap locs) (hk : cells ≤ k) (hn : slots ≤ n) : ownE p e below s Q k n T (mkF m pc Ls (.long z :: rest)) :=
  ownE.ret X hlk (fun h => by rw [hret] at h; cases h) (fun fs hr => Jvm.RoadKit.retOut X hx hret rfl (Or.inr (Or.inl ⟨rfl, rfl, z, rfl⟩)) hd hr) hQ hk hn
theorem ownE.retA (X : Stand p l e R s m args below meth c T locs cells slots) (hx : p.tables.exec = Jvm.exec) (hlk : meth.locks = false) {pc : Nat} {Ls : Array Slot} {z : Value} {rest : List Value} {t : FieldType} (hret : meth.sig.returnType = some t) (ht : t.isReference = true) (hz : z.isRef = true) (hn' : narrow t z = z) (hd : decode c.code pc = .ok (.areturn, 1))
    (hQ : Q (some z) T.heap locs) (hk : cells ≤ k) (hn : slots ≤ n) : ownE p e below s Q k n T (mkF m pc Ls (z :: rest)) :=
  ownE.ret X hlk (fun h => by rw [hret] at h; cases h) (fun fs hr => Jvm.RoadKit.retOut X hx hret hn' (Or.inr (Or.inr (Or.inr (Or.inr ⟨rfl, ht, hz⟩)))) hd hr) hQ hk hn
theorem ownE.retV (X : Stand p l e R s m args below meth c T locs cells slots) (hx : p.tables.exec = Jvm.exec) (hlk : meth.locks = false) {pc : Nat} {Ls : Array Slot} (hret : meth.sig.returnType = none) (hd : decode c.code pc = .ok (.return_, 1))
    (hQ : Q none T.heap locs) (hk : cells ≤ k) (hn : slots ≤ n) : ownE p e below s Q k n T (mkF m pc Ls []) :=
  ownE.ret X hlk (fun _ => rfl) (fun fs hr => X.returnOut hx hret hd hr) hQ hk hn
end Own
theorem own_eqV {u : Term} {args : Array Value} {Z : State} {x k : Int32} (e : u.eval args Z none [] Z = some (.int x)) : (Jvm.Cond.eq u (.int k)).value args Z none Z [] = some (decide (x = k)) := by
  have ek : (Term.int k).eval args Z none [] Z = some (.int k) := Term.int_eval k
  simp only [Cond.value]
  rw [e, ek]
theorem own_selP {s : State} {args : Array Value} {y : MethodName} {n : Nat} (wi : (Cond.instantiable y.cls n).before args s = true) (hi : (Cond.instanceMethod y).before args s = true) (hp : s.PrivateAt y) (hy : y.cls ≠ "java/lang/invoke/MethodHandle" ∧ y.cls ≠ "java/lang/invoke/VarHandle") : (Cond.selects y.cls y y).before args s = true := by
  obtain ⟨c, k, h1, h2, -, h4, -⟩ := Cond.instantiable_spec wi
  exact selects_self_of_private h1 h2 (by simp at h4; exact h4.1) hp hi hy
end Jvm.RoadKit
namespace Jvm.Pilot.@@N@@
open Jvm Jvm.ClassFile Sem Op Lib Jvm.Free Jvm.Stand Jvm.LawKit Jvm.RoadKit Bundle Jvm.Pilot.@@N@@.Jvm.D
theorem own_z128 : (128 : Int32).toInt = 128 := by decide
theorem own_z194 : (194 : Int32).toInt = 194 := by decide
theorem own_z224 : (224 : Int32).toInt = 224 := by decide
theorem own_z240 : (240 : Int32).toInt = 240 := by decide
theorem own_z223 : (223 : Int32).toInt = 223 := by decide
theorem own_z239 : (239 : Int32).toInt = 239 := by decide
theorem own_d1_0 : decode method_2_code 0 = .ok (.iload_n 0, 1) := by decide +kernel
theorem own_d1_1 : decode method_2_code 1 = .ok (.sipush 128, 3) := by decide +kernel
theorem own_d1_4 : decode method_2_code 4 = .ok (.if_icmp .ge 5, 3) := by decide +kernel
theorem own_d1_7 : decode method_2_code 7 = .ok (.iconst 1, 1) := by decide +kernel
theorem own_d1_8 : decode method_2_code 8 = .ok (.ireturn, 1) := by decide +kernel
theorem own_d1_9 : decode method_2_code 9 = .ok (.iload_n 0, 1) := by decide +kernel
theorem own_d1_10 : decode method_2_code 10 = .ok (.sipush 194, 3) := by decide +kernel
theorem own_d1_13 : decode method_2_code 13 = .ok (.if_icmp .lt 12, 3) := by decide +kernel
theorem own_d1_16 : decode method_2_code 16 = .ok (.iload_n 0, 1) := by decide +kernel
theorem own_d1_17 : decode method_2_code 17 = .ok (.sipush 223, 3) := by decide +kernel
theorem own_d1_20 : decode method_2_code 20 = .ok (.if_icmp .gt 5, 3) := by decide +kernel
theorem own_d1_23 : decode method_2_code 23 = .ok (.iconst 2, 1) := by decide +kernel
theorem own_d1_24 : decode method_2_code 24 = .ok (.ireturn, 1) := by decide +kernel
theorem own_d1_25 : decode method_2_code 25 = .ok (.iload_n 0, 1) := by decide +kernel
theorem own_d1_26 : decode method_2_code 26 = .ok (.sipush 224, 3) := by decide +kernel
theorem own_d1_29 : decode method_2_code 29 = .ok (.if_icmp .lt 12, 3) := by decide +kernel
theorem own_d1_32 : decode method_2_code 32 = .ok (.iload_n 0, 1) := by decide +kernel
theorem own_d1_33 : decode method_2_code 33 = .ok (.sipush 239, 3) := by decide +kernel
theorem own_d1_36 : decode method_2_code 36 = .ok (.if_icmp .gt 5, 3) := by decide +kernel
theorem own_d1_39 : decode method_2_code 39 = .ok (.iconst 3, 1) := by decide +kernel
theorem own_d1_40 : decode method_2_code 40 = .ok (.ireturn, 1) := by decide +kernel
theorem own_d1_41 : decode method_2_code 41 = .ok (.iload_n 0, 1) := by decide +kernel
theorem own_d1_42 : decode method_2_code 42 = .ok (.sipush 240, 3) := by decide +kernel
theorem own_d1_45 : decode method_2_code 45 = .ok (.if_icmp .lt 12, 3) := by decide +kernel
theorem own_d1_48 : decode method_2_code 48 = .ok (.iload_n 0, 1) := by decide +kernel
theorem own_d1_49 : decode method_2_code 49 = .ok (.sipush 244, 3) := by decide +kernel
theorem own_d1_52 : decode method_2_code 52 = .ok (.if_icmp .gt 5, 3) := by decide +kernel
theorem own_d1_55 : decode method_2_code 55 = .ok (.iconst 4, 1) := by decide +kernel
theorem own_d1_56 : decode method_2_code 56 = .ok (.ireturn, 1) := by decide +kernel
theorem own_d1_57 : decode method_2_code 57 = .ok (.iconst 0, 1) := by decide +kernel
theorem own_d1_58 : decode method_2_code 58 = .ok (.ireturn, 1) := by decide +kernel
theorem own_pn0 : plainName "com/example/marrow/marrow/Utf8CheckerAtBoundaryPinLaw" = true := by first | (simp [plainName, overriddenIn]; done) | decide +kernel
theorem own_ef1 (m : MethodId) (x0 : Int32) : entryFrame m #[(.int x0)] 1 = mkF m 0 #[.val (.int x0)] [] := by first | (simp [entryFrame, mkF, argsToLocals, Value.category]; done) | rfl
def own_len (i0 : Int32) : Int32 :=
  if i0 < (128 : Int32) then
    (1 : Int32)
  else
    if i0 < (194 : Int32) then
      (0 : Int32)
    else
      if (223 : Int32) < i0 then
        if (239 : Int32) < i0 then
          if (244 : Int32) < i0 then
            (0 : Int32)
          else
            (4 : Int32)
        else
          (3 : Int32)
      else
        (2 : Int32)
def own_Q1 (Z : State) (i0 : Int32) (h0 : Heap) (n0 : Nat) (v : Option Value) (h : Heap) (L : List Loc) : Prop := v = some (.int (own_len i0)) ∧ Fr n0 L ∧ h = h0
set_option maxRecDepth 65536 in
set_option maxHeartbeats 40000000 in
theorem own_rm1 (l : Launch) (Z : State) (a0 : Array Value) (hw : ∀ d ∈ tables_1, d.before a0 Z = true) (ws : List Jvm.Cond) (i0 : Int32) (h0 : Heap) (n0 : Nat) (Z0 : n0 ≤ h0.size) :
    MetFree l (⟨"com/example/marrow/marrow/Utf8CheckerAtBoundaryPinLaw", "seqLen", "(I)I"⟩ : MethodName) (head1 (Jvm.Cond.code (⟨"com/example/marrow/marrow/Utf8CheckerAtBoundaryPinLaw", "seqLen", "(I)I"⟩ : MethodName) method_2_code 1 (some .int) :: ws) ({ frames := 0, cells := 0, slots := 0, locals := 0 } : Room)) (fun a U => a = #[(.int i0)] ∧ Z.Warmed39 U.vm ∧ U.heap = h0) (fun _ _ _ _ _ => True) (fun _ U o U' => ∃ v L, o = .returned v ∧ own_Q1 Z i0 h0 n0 v U'.heap L ∧ FrameEnd U o U' L ({ frames := 0, cells := 0, slots := 0, locals := 0 } : Room).cells ({ frames := 0, cells := 0, slots := 0, locals := 0 } : Room).slots) := by
  refine MetFree.of_bodySF (plainFor_of_name own_pn0) hisR ?_
  intro p e s m args below meth c s₁ Bd hml0 hP hK
  obtain ⟨rfl, hZ, hh⟩ := hP
  have hx := Bd.exec
  have hby := Bd.bytes
  have hret := Bd.returns
  have hlk := BodyLoose.notSynchronized Bd
  have hml : c.maxLocals = 1 := hml0
  have hown : s.vm.findClass "com/example/marrow/marrow/Utf8CheckerAtBoundaryPinLaw" = some m.cls := findClass_of_methodNamed Bd.named
  have hnm := (name_of_methodNamed Bd.named Bd.method).1
  have X0 : Stand p l e ({ frames := 0, cells := 0, slots := 0, locals := 0 } : Room) s m #[(.int i0)] below meth c s₁ [] 0 0 := Stand.of_body Bd
  have e0 : s₁.heap = h0 := by rw [← hh, Bd.state]; rfl
  have N0 := Fr.nil n0
  have K0 : Keep h0 h0 [] := Keep.refl h0 _
  show ownE p e below s (own_Q1 Z i0 h0 n0) ({ frames := 0, cells := 0, slots := 0, locals := 0 } : Room).cells ({ frames := 0, cells := 0, slots := 0, locals := 0 } : Room).slots s₁ (entryFrame m #[(.int i0)] 1)
  rw [own_ef1]
  refine ownE.go (T' := s₁) (f' := (mkF m 4 #[.val (.int i0)] [(.int (128 : Int32)), (.int i0)])) (fun t kt => ?_) ?_
  · show Steps p.tables e below (s₁.setTop (mkF m 0 #[.val (.int i0)] [])) _
    refine XS.iloadN X0.here hx rfl (hb hby own_d1_0) rfl ?_
    show Steps p.tables e below (s₁.setTop (mkF m 1 #[.val (.int i0)] [(.int i0)])) _
    refine XS.sipush X0.here hx rfl (hb hby own_d1_1) ?_
    exact kt
  by_cases hc1 : i0 < (128 : Int32)
  · -- pc 4
    refine ownE.go (T' := s₁) (f' := (mkF m 7 #[.val (.int i0)] [])) (fun t kt => XS.icmpNo (g := (mkF m 4 #[.val (.int i0)] [(.int (128 : Int32)), (.int i0)])) X0.here hx rfl (hb hby own_d1_4) rfl (Jvm.Free.XT.ii_ge_f hc1) kt) ?_
    refine ownE.go (T' := s₁) (f' := (mkF m 8 #[.val (.int i0)] [(.int (1 : Int32))])) (fun t kt => ?_) ?_
    · show Steps p.tables e below (s₁.setTop (mkF m 7 #[.val (.int i0)] [])) _
      refine XS.iconst X0.here hx rfl (hb hby own_d1_7) ?_
      exact kt
    refine ownE.retI X0 hx hlk hret (hb hby own_d1_8) ?_ (by decide) (by decide)
    show own_Q1 Z i0 h0 n0 _ s₁.heap _
    rw [e0]
    exact ⟨(by rw [own_len, if_pos hc1] <;> first | rfl | decide), N0, rfl⟩
  · -- pc 4
    refine ownE.go (T' := s₁) (f' := (mkF m 9 #[.val (.int i0)] [])) (fun t kt => XS.icmpYes (g := (mkF m 4 #[.val (.int i0)] [(.int (128 : Int32)), (.int i0)])) X0.here hx rfl (pc0 := 4) (pc' := 9) rfl (hb hby own_d1_4) rfl (Jvm.Free.XT.ii_ge_t hc1) (by decide) (by decide) kt) ?_
    refine ownE.go (T' := s₁) (f' := (mkF m 13 #[.val (.int i0)] [(.int (194 : Int32)), (.int i0)])) (fun t kt => ?_) ?_
    · show Steps p.tables e below (s₁.setTop (mkF m 9 #[.val (.int i0)] [])) _
      refine XS.iloadN X0.here hx rfl (hb hby own_d1_9) rfl ?_
      show Steps p.tables e below (s₁.setTop (mkF m 10 #[.val (.int i0)] [(.int i0)])) _
      refine XS.sipush X0.here hx rfl (hb hby own_d1_10) ?_
      exact kt
    by_cases hc2 : i0 < (194 : Int32)
    · -- pc 13
      refine ownE.go (T' := s₁) (f' := (mkF m 25 #[.val (.int i0)] [])) (fun t kt => XS.icmpYes (g := (mkF m 13 #[.val (.int i0)] [(.int (194 : Int32)), (.int i0)])) X0.here hx rfl (pc0 := 13) (pc' := 25) rfl (hb hby own_d1_13) rfl (Jvm.Free.XT.ii_lt_t hc2) (by decide) (by decide) kt) ?_
      refine ownE.go (T' := s₁) (f' := (mkF m 29 #[.val (.int i0)] [(.int (224 : Int32)), (.int i0)])) (fun t kt => ?_) ?_
      · show Steps p.tables e below (s₁.setTop (mkF m 25 #[.val (.int i0)] [])) _
        refine XS.iloadN X0.here hx rfl (hb hby own_d1_25) rfl ?_
        show Steps p.tables e below (s₁.setTop (mkF m 26 #[.val (.int i0)] [(.int i0)])) _
        refine XS.sipush X0.here hx rfl (hb hby own_d1_26) ?_
        exact kt
      have hc3 : i0 < (224 : Int32) := by
        revert hc1 hc2
        simp only [Int32.lt_iff_toInt_lt, ← Int32.toInt_inj, own_z128, own_z194, own_z224]
        intros
        omega
      refine ownE.go (T' := s₁) (f' := (mkF m 41 #[.val (.int i0)] [])) (fun t kt => XS.icmpYes (g := (mkF m 29 #[.val (.int i0)] [(.int (224 : Int32)), (.int i0)])) X0.here hx rfl (pc0 := 29) (pc' := 41) rfl (hb hby own_d1_29) rfl (Jvm.Free.XT.ii_lt_t hc3) (by decide) (by decide) kt) ?_
      refine ownE.go (T' := s₁) (f' := (mkF m 45 #[.val (.int i0)] [(.int (240 : Int32)), (.int i0)])) (fun t kt => ?_) ?_
      · show Steps p.tables e below (s₁.setTop (mkF m 41 #[.val (.int i0)] [])) _
        refine XS.iloadN X0.here hx rfl (hb hby own_d1_41) rfl ?_
        show Steps p.tables e below (s₁.setTop (mkF m 42 #[.val (.int i0)] [(.int i0)])) _
        refine XS.sipush X0.here hx rfl (hb hby own_d1_42) ?_
        exact kt
      have hc4 : i0 < (240 : Int32) := by
        revert hc1 hc2
        simp only [Int32.lt_iff_toInt_lt, ← Int32.toInt_inj, own_z128, own_z194, own_z240]
        intros
        omega
      refine ownE.go (T' := s₁) (f' := (mkF m 57 #[.val (.int i0)] [])) (fun t kt => XS.icmpYes (g := (mkF m 45 #[.val (.int i0)] [(.int (240 : Int32)), (.int i0)])) X0.here hx rfl (pc0 := 45) (pc' := 57) rfl (hb hby own_d1_45) rfl (Jvm.Free.XT.ii_lt_t hc4) (by decide) (by decide) kt) ?_
      refine ownE.go (T' := s₁) (f' := (mkF m 58 #[.val (.int i0)] [(.int (0 : Int32))])) (fun t kt => ?_) ?_
      · show Steps p.tables e below (s₁.setTop (mkF m 57 #[.val (.int i0)] [])) _
        refine XS.iconst X0.here hx rfl (hb hby own_d1_57) ?_
        exact kt
      refine ownE.retI X0 hx hlk hret (hb hby own_d1_58) ?_ (by decide) (by decide)
      show own_Q1 Z i0 h0 n0 _ s₁.heap _
      rw [e0]
      exact ⟨(by rw [own_len, if_neg hc1, if_pos hc2] <;> first | rfl | decide), N0, rfl⟩
    · -- pc 13
      refine ownE.go (T' := s₁) (f' := (mkF m 16 #[.val (.int i0)] [])) (fun t kt => XS.icmpNo (g := (mkF m 13 #[.val (.int i0)] [(.int (194 : Int32)), (.int i0)])) X0.here hx rfl (hb hby own_d1_13) rfl (Jvm.Free.XT.ii_lt_f hc2) kt) ?_
      refine ownE.go (T' := s₁) (f' := (mkF m 20 #[.val (.int i0)] [(.int (223 : Int32)), (.int i0)])) (fun t kt => ?_) ?_
      · show Steps p.tables e below (s₁.setTop (mkF m 16 #[.val (.int i0)] [])) _
        refine XS.iloadN X0.here hx rfl (hb hby own_d1_16) rfl ?_
        show Steps p.tables e below (s₁.setTop (mkF m 17 #[.val (.int i0)] [(.int i0)])) _
        refine XS.sipush X0.here hx rfl (hb hby own_d1_17) ?_
        exact kt
      by_cases hc5 : (223 : Int32) < i0
      · -- pc 20
        refine ownE.go (T' := s₁) (f' := (mkF m 25 #[.val (.int i0)] [])) (fun t kt => XS.icmpYes (g := (mkF m 20 #[.val (.int i0)] [(.int (223 : Int32)), (.int i0)])) X0.here hx rfl (pc0 := 20) (pc' := 25) rfl (hb hby own_d1_20) rfl (Jvm.Free.XT.ii_gt_t hc5) (by decide) (by decide) kt) ?_
        refine ownE.go (T' := s₁) (f' := (mkF m 29 #[.val (.int i0)] [(.int (224 : Int32)), (.int i0)])) (fun t kt => ?_) ?_
        · show Steps p.tables e below (s₁.setTop (mkF m 25 #[.val (.int i0)] [])) _
          refine XS.iloadN X0.here hx rfl (hb hby own_d1_25) rfl ?_
          show Steps p.tables e below (s₁.setTop (mkF m 26 #[.val (.int i0)] [(.int i0)])) _
          refine XS.sipush X0.here hx rfl (hb hby own_d1_26) ?_
          exact kt
        have hc6 : ¬ i0 < (224 : Int32) := by
          revert hc1 hc2 hc5
          simp only [Int32.lt_iff_toInt_lt, ← Int32.toInt_inj, own_z128, own_z194, own_z223, own_z224]
          intros
          omega
        refine ownE.go (T' := s₁) (f' := (mkF m 32 #[.val (.int i0)] [])) (fun t kt => XS.icmpNo (g := (mkF m 29 #[.val (.int i0)] [(.int (224 : Int32)), (.int i0)])) X0.here hx rfl (hb hby own_d1_29) rfl (Jvm.Free.XT.ii_lt_f hc6) kt) ?_
        refine ownE.go (T' := s₁) (f' := (mkF m 36 #[.val (.int i0)] [(.int (239 : Int32)), (.int i0)])) (fun t kt => ?_) ?_
        · show Steps p.tables e below (s₁.setTop (mkF m 32 #[.val (.int i0)] [])) _
          refine XS.iloadN X0.here hx rfl (hb hby own_d1_32) rfl ?_
          show Steps p.tables e below (s₁.setTop (mkF m 33 #[.val (.int i0)] [(.int i0)])) _
          refine XS.sipush X0.here hx rfl (hb hby own_d1_33) ?_
          exact kt
        by_cases hc7 : (239 : Int32) < i0
        · -- pc 36
          refine ownE.go (T' := s₁) (f' := (mkF m 41 #[.val (.int i0)] [])) (fun t kt => XS.icmpYes (g := (mkF m 36 #[.val (.int i0)] [(.int (239 : Int32)), (.int i0)])) X0.here hx rfl (pc0 := 36) (pc' := 41) rfl (hb hby own_d1_36) rfl (Jvm.Free.XT.ii_gt_t hc7) (by decide) (by decide) kt) ?_
          refine ownE.go (T' := s₁) (f' := (mkF m 45 #[.val (.int i0)] [(.int (240 : Int32)), (.int i0)])) (fun t kt => ?_) ?_
          · show Steps p.tables e below (s₁.setTop (mkF m 41 #[.val (.int i0)] [])) _
            refine XS.iloadN X0.here hx rfl (hb hby own_d1_41) rfl ?_
            show Steps p.tables e below (s₁.setTop (mkF m 42 #[.val (.int i0)] [(.int i0)])) _
            refine XS.sipush X0.here hx rfl (hb hby own_d1_42) ?_
            exact kt
          have hc8 : ¬ i0 < (240 : Int32) := by
            revert hc1 hc2 hc5 hc7
            simp only [Int32.lt_iff_toInt_lt, ← Int32.toInt_inj, own_z128, own_z194, own_z223, own_z239, own_z240]
            intros
            omega
          refine ownE.go (T' := s₁) (f' := (mkF m 48 #[.val (.int i0)] [])) (fun t kt => XS.icmpNo (g := (mkF m 45 #[.val (.int i0)] [(.int (240 : Int32)), (.int i0)])) X0.here hx rfl (hb hby own_d1_45) rfl (Jvm.Free.XT.ii_lt_f hc8) kt) ?_
          refine ownE.go (T' := s₁) (f' := (mkF m 52 #[.val (.int i0)] [(.int (244 : Int32)), (.int i0)])) (fun t kt => ?_) ?_
          · show Steps p.tables e below (s₁.setTop (mkF m 48 #[.val (.int i0)] [])) _
            refine XS.iloadN X0.here hx rfl (hb hby own_d1_48) rfl ?_
            show Steps p.tables e below (s₁.setTop (mkF m 49 #[.val (.int i0)] [(.int i0)])) _
            refine XS.sipush X0.here hx rfl (hb hby own_d1_49) ?_
            exact kt
          by_cases hc9 : (244 : Int32) < i0
          · -- pc 52
            refine ownE.go (T' := s₁) (f' := (mkF m 57 #[.val (.int i0)] [])) (fun t kt => XS.icmpYes (g := (mkF m 52 #[.val (.int i0)] [(.int (244 : Int32)), (.int i0)])) X0.here hx rfl (pc0 := 52) (pc' := 57) rfl (hb hby own_d1_52) rfl (Jvm.Free.XT.ii_gt_t hc9) (by decide) (by decide) kt) ?_
            refine ownE.go (T' := s₁) (f' := (mkF m 58 #[.val (.int i0)] [(.int (0 : Int32))])) (fun t kt => ?_) ?_
            · show Steps p.tables e below (s₁.setTop (mkF m 57 #[.val (.int i0)] [])) _
              refine XS.iconst X0.here hx rfl (hb hby own_d1_57) ?_
              exact kt
            refine ownE.retI X0 hx hlk hret (hb hby own_d1_58) ?_ (by decide) (by decide)
            show own_Q1 Z i0 h0 n0 _ s₁.heap _
            rw [e0]
            exact ⟨(by rw [own_len, if_neg hc1, if_neg hc2, if_pos hc5, if_pos hc7, if_pos hc9] <;> first | rfl | decide), N0, rfl⟩
          · -- pc 52
            refine ownE.go (T' := s₁) (f' := (mkF m 55 #[.val (.int i0)] [])) (fun t kt => XS.icmpNo (g := (mkF m 52 #[.val (.int i0)] [(.int (244 : Int32)), (.int i0)])) X0.here hx rfl (hb hby own_d1_52) rfl (Jvm.Free.XT.ii_gt_f hc9) kt) ?_
            refine ownE.go (T' := s₁) (f' := (mkF m 56 #[.val (.int i0)] [(.int (4 : Int32))])) (fun t kt => ?_) ?_
            · show Steps p.tables e below (s₁.setTop (mkF m 55 #[.val (.int i0)] [])) _
              refine XS.iconst X0.here hx rfl (hb hby own_d1_55) ?_
              exact kt
            refine ownE.retI X0 hx hlk hret (hb hby own_d1_56) ?_ (by decide) (by decide)
            show own_Q1 Z i0 h0 n0 _ s₁.heap _
            rw [e0]
            exact ⟨(by rw [own_len, if_neg hc1, if_neg hc2, if_pos hc5, if_pos hc7, if_neg hc9] <;> first | rfl | decide), N0, rfl⟩
        · -- pc 36
          refine ownE.go (T' := s₁) (f' := (mkF m 39 #[.val (.int i0)] [])) (fun t kt => XS.icmpNo (g := (mkF m 36 #[.val (.int i0)] [(.int (239 : Int32)), (.int i0)])) X0.here hx rfl (hb hby own_d1_36) rfl (Jvm.Free.XT.ii_gt_f hc7) kt) ?_
          refine ownE.go (T' := s₁) (f' := (mkF m 40 #[.val (.int i0)] [(.int (3 : Int32))])) (fun t kt => ?_) ?_
          · show Steps p.tables e below (s₁.setTop (mkF m 39 #[.val (.int i0)] [])) _
            refine XS.iconst X0.here hx rfl (hb hby own_d1_39) ?_
            exact kt
          refine ownE.retI X0 hx hlk hret (hb hby own_d1_40) ?_ (by decide) (by decide)
          show own_Q1 Z i0 h0 n0 _ s₁.heap _
          rw [e0]
          exact ⟨(by rw [own_len, if_neg hc1, if_neg hc2, if_pos hc5, if_neg hc7] <;> first | rfl | decide), N0, rfl⟩
      · -- pc 20
        refine ownE.go (T' := s₁) (f' := (mkF m 23 #[.val (.int i0)] [])) (fun t kt => XS.icmpNo (g := (mkF m 20 #[.val (.int i0)] [(.int (223 : Int32)), (.int i0)])) X0.here hx rfl (hb hby own_d1_20) rfl (Jvm.Free.XT.ii_gt_f hc5) kt) ?_
        refine ownE.go (T' := s₁) (f' := (mkF m 24 #[.val (.int i0)] [(.int (2 : Int32))])) (fun t kt => ?_) ?_
        · show Steps p.tables e below (s₁.setTop (mkF m 23 #[.val (.int i0)] [])) _
          refine XS.iconst X0.here hx rfl (hb hby own_d1_23) ?_
          exact kt
        refine ownE.retI X0 hx hlk hret (hb hby own_d1_24) ?_ (by decide) (by decide)
        show own_Q1 Z i0 h0 n0 _ s₁.heap _
        rw [e0]
        exact ⟨(by rw [own_len, if_neg hc1, if_neg hc2, if_neg hc5] <;> first | rfl | decide), N0, rfl⟩
theorem own_d2_0 : decode prog_50_method_1_code 0 = .ok (.aload_n 0, 1) := by decide +kernel
theorem own_d2_1 : decode prog_50_method_1_code 1 = .ok (.invokespecial 1, 3) := by decide +kernel
theorem own_d2_4 : decode prog_50_method_1_code 4 = .ok (.aload_n 0, 1) := by decide +kernel
theorem own_d2_5 : decode prog_50_method_1_code 5 = .ok (.sipush 128, 3) := by decide +kernel
theorem own_d2_8 : decode prog_50_method_1_code 8 = .ok (.putfield 7, 3) := by decide +kernel
theorem own_d2_11 : decode prog_50_method_1_code 11 = .ok (.aload_n 0, 1) := by decide +kernel
theorem own_d2_12 : decode prog_50_method_1_code 12 = .ok (.sipush 191, 3) := by decide +kernel
theorem own_d2_15 : decode prog_50_method_1_code 15 = .ok (.putfield 13, 3) := by decide +kernel
theorem own_d2_18 : decode prog_50_method_1_code 18 = .ok (.return_, 1) := by decide +kernel
theorem own_pn1 : plainName "com/example/marrow/marrow/Utf8Checker" = true := by first | (simp [plainName, overriddenIn]; done) | decide +kernel
theorem own_ef2 (m : MethodId) (x0 : Addr) : entryFrame m #[(.ref x0)] 1 = mkF m 0 #[.val (.ref x0)] [] := by first | (simp [entryFrame, mkF, argsToLocals, Value.category]; done) | rfl
def own_Q2 (Z : State) (r0 : Addr) (h0 : Heap) (n0 : Nat) (v : Option Value) (h : Heap) (L : List Loc) : Prop := v = none ∧ Fr n0 L ∧ Keep h0 h [r0] ∧ Exa Z h r0 "com/example/marrow/marrow/Utf8Checker" ∧ Fld Z h r0 "com/example/marrow/marrow/Utf8Checker" "pending" "I" (.int (0 : Int32)) ∧ Fld Z h r0 "com/example/marrow/marrow/Utf8Checker" "lowest" "I" (.int (128 : Int32)) ∧ Fld Z h r0 "com/example/marrow/marrow/Utf8Checker" "highest" "I" (.int (191 : Int32))
set_option maxRecDepth 65536 in
set_option maxHeartbeats 40000000 in
theorem own_rm2 (l : Launch) (Z : State) (a0 : Array Value) (hw : ∀ d ∈ tables_1, d.before a0 Z = true) (ws : List Jvm.Cond) (r0 : Addr) (h0 : Heap) (n0 : Nat) (Z0 : n0 ≤ h0.size) (P0 : Exa Z h0 r0 "com/example/marrow/marrow/Utf8Checker") (P1 : Fld Z h0 r0 "com/example/marrow/marrow/Utf8Checker" "pending" "I" (.int (0 : Int32))) (P2 : Fld Z h0 r0 "com/example/marrow/marrow/Utf8Checker" "lowest" "I" (.int (0 : Int32))) (P3 : Fld Z h0 r0 "com/example/marrow/marrow/Utf8Checker" "highest" "I" (.int (0 : Int32))) (P4 : n0 ≤ r0) :
    MetFree l (⟨"com/example/marrow/marrow/Utf8Checker", "<init>", "()V"⟩ : MethodName) (head1 (Jvm.Cond.code (⟨"com/example/marrow/marrow/Utf8Checker", "<init>", "()V"⟩ : MethodName) prog_50_method_1_code 1 none :: ws) ({ frames := 1, cells := 0, slots := 0, locals := 12 } : Room)) (fun a U => a = #[(.ref r0)] ∧ Z.Warmed39 U.vm ∧ U.heap = h0) (fun _ _ _ _ _ => True) (fun _ U o U' => ∃ v L, o = .returned v ∧ own_Q2 Z r0 h0 n0 v U'.heap L ∧ FrameEnd U o U' L ({ frames := 1, cells := 0, slots := 0, locals := 12 } : Room).cells ({ frames := 1, cells := 0, slots := 0, locals := 12 } : Room).slots) := by
  refine MetFree.of_bodySF (plainFor_of_name own_pn1) hisR ?_
  intro p e s m args below meth c s₁ Bd hml0 hP hK
  obtain ⟨rfl, hZ, hh⟩ := hP
  have hx := Bd.exec
  have hby := Bd.bytes
  have hret := Bd.returns
  have hlk := BodyLoose.notSynchronized Bd
  have hml : c.maxLocals = 1 := hml0
  have hown : s.vm.findClass "com/example/marrow/marrow/Utf8Checker" = some m.cls := findClass_of_methodNamed Bd.named
  have hnm := (name_of_methodNamed Bd.named Bd.method).1
  have X0 : Stand p l e ({ frames := 1, cells := 0, slots := 0, locals := 12 } : Room) s m #[(.ref r0)] below meth c s₁ [] 0 0 := Stand.of_body Bd
  have e0 : s₁.heap = h0 := by rw [← hh, Bd.state]; rfl
  have N0 := Fr.nil n0
  have K0 : Keep h0 h0 [r0] := Keep.refl h0 _
  show ownE p e below s (own_Q2 Z r0 h0 n0) ({ frames := 1, cells := 0, slots := 0, locals := 12 } : Room).cells ({ frames := 1, cells := 0, slots := 0, locals := 12 } : Room).slots s₁ (entryFrame m #[(.ref r0)] 1)
  rw [own_ef2]
  refine ownE.go (T' := s₁) (f' := (mkF m 1 #[.val (.ref r0)] [(.ref r0)])) (fun t kt => ?_) ?_
  · show Steps p.tables e below (s₁.setTop (mkF m 0 #[.val (.ref r0)] [])) _
    refine XS.aloadN X0.here hx rfl (hb hby own_d2_0) rfl rfl ?_
    exact kt
  obtain ⟨T1, X1, e1, st1⟩ := initO X0 hx hZ hown (hw _ (List.mem_of_getElem? (i := 11) rfl)) (hw _ (List.mem_of_getElem? (i := 12) rfl)) (hw _ (List.mem_of_getElem? (i := 13) rfl)) e0 (g := (mkF m 1 #[.val (.ref r0)] [(.ref r0)])) rfl (by rw [hml]; rfl) rfl (hb hby own_d2_1) (by decide) (W := 0) (by show 2 * 0 + _ ≤ _; exact Nat.le_of_eq rfl) (by decide)
  refine ownE.go (T' := T1) (f' := (mkF m 4 #[.val (.ref r0)] [])) st1 ?_
  refine ownE.go (T' := T1) (f' := (mkF m 8 #[.val (.ref r0)] [(.int (128 : Int32)), (.ref r0)])) (fun t kt => ?_) ?_
  · show Steps p.tables e below (T1.setTop (mkF m 4 #[.val (.ref r0)] [])) _
    refine XS.aloadN X1.here hx rfl (hb hby own_d2_4) rfl rfl ?_
    show Steps p.tables e below (T1.setTop (mkF m 5 #[.val (.ref r0)] [(.ref r0)])) _
    refine XS.sipush X1.here hx rfl (hb hby own_d2_5) ?_
    exact kt
  obtain ⟨T2, h2, X2, e2, W2, st2⟩ := putF X1 hx hZ hown (host := "") (Or.inl (hw _ (List.mem_of_getElem? (i := 14) rfl))) Via.refl e1 P2 P0 (Or.inl (hw _ (List.mem_of_getElem? (i := 15) rfl))) (hw _ (List.mem_of_getElem? (i := 6) rfl)) (ty := .int) (by decide) rfl rfl (g := (mkF m 8 #[.val (.ref r0)] [(.int (128 : Int32)), (.ref r0)])) rfl rfl (hb hby own_d2_8)
  have Fw2 : Fld Z h2 r0 "com/example/marrow/marrow/Utf8Checker" "lowest" "I" (.int (128 : Int32)) := P2.same W2
  have cExa_r0_2 : Exa Z h2 r0 "com/example/marrow/marrow/Utf8Checker" := P0.wr W2
  have cFld_r0_pending_2 : Fld Z h2 r0 "com/example/marrow/marrow/Utf8Checker" "pending" "I" (.int (0 : Int32)) := P1.other W2 (Or.inr (slot_ne (Or.inl (hw _ (List.mem_of_getElem? (i := 24) rfl))) (Or.inl (hw _ (List.mem_of_getElem? (i := 15) rfl))) (by decide) (t := .int) (t' := .int) (by decide) (by decide)))
  have cFld_r0_highest_2 : Fld Z h2 r0 "com/example/marrow/marrow/Utf8Checker" "highest" "I" (.int (0 : Int32)) := P3.other W2 (Or.inr (slot_ne (Or.inl (hw _ (List.mem_of_getElem? (i := 17) rfl))) (Or.inl (hw _ (List.mem_of_getElem? (i := 15) rfl))) (by decide) (t := .int) (t' := .int) (by decide) (by decide)))
  have K2 : Keep h0 h2 [r0] := K0.wr W2 (Or.inl (List.mem_of_getElem? (i := 0) rfl))
  have N2 := Fr.snoc X2 N0 P4
  refine ownE.go (T' := T2) (f' := (mkF m 11 #[.val (.ref r0)] [])) st2 ?_
  refine ownE.go (T' := T2) (f' := (mkF m 15 #[.val (.ref r0)] [(.int (191 : Int32)), (.ref r0)])) (fun t kt => ?_) ?_
  · show Steps p.tables e below (T2.setTop (mkF m 11 #[.val (.ref r0)] [])) _
    refine XS.aloadN X2.here hx rfl (hb hby own_d2_11) rfl rfl ?_
    show Steps p.tables e below (T2.setTop (mkF m 12 #[.val (.ref r0)] [(.ref r0)])) _
    refine XS.sipush X2.here hx rfl (hb hby own_d2_12) ?_
    exact kt
  obtain ⟨T3, h3, X3, e3, W3, st3⟩ := putF X2 hx hZ hown (host := "") (Or.inl (hw _ (List.mem_of_getElem? (i := 16) rfl))) Via.refl e2 cFld_r0_highest_2 cExa_r0_2 (Or.inl (hw _ (List.mem_of_getElem? (i := 17) rfl))) (hw _ (List.mem_of_getElem? (i := 6) rfl)) (ty := .int) (by decide) rfl rfl (g := (mkF m 15 #[.val (.ref r0)] [(.int (191 : Int32)), (.ref r0)])) rfl rfl (hb hby own_d2_15)
  have Fw3 : Fld Z h3 r0 "com/example/marrow/marrow/Utf8Checker" "highest" "I" (.int (191 : Int32)) := cFld_r0_highest_2.same W3
  have cExa_r0_3 : Exa Z h3 r0 "com/example/marrow/marrow/Utf8Checker" := cExa_r0_2.wr W3
  have cFld_r0_pending_3 : Fld Z h3 r0 "com/example/marrow/marrow/Utf8Checker" "pending" "I" (.int (0 : Int32)) := cFld_r0_pending_2.other W3 (Or.inr (slot_ne (Or.inl (hw _ (List.mem_of_getElem? (i := 24) rfl))) (Or.inl (hw _ (List.mem_of_getElem? (i := 17) rfl))) (by decide) (t := .int) (t' := .int) (by decide) (by decide)))
  have cFld_r0_lowest_3 : Fld Z h3 r0 "com/example/marrow/marrow/Utf8Checker" "lowest" "I" (.int (128 : Int32)) := Fw2.other W3 (Or.inr (slot_ne (Or.inl (hw _ (List.mem_of_getElem? (i := 15) rfl))) (Or.inl (hw _ (List.mem_of_getElem? (i := 17) rfl))) (by decide) (t := .int) (t' := .int) (by decide) (by decide)))
  have K3 : Keep h0 h3 [r0] := K2.wr W3 (Or.inl (List.mem_of_getElem? (i := 0) rfl))
  have N3 := Fr.snoc X3 N2 P4
  refine ownE.go (T' := T3) (f' := (mkF m 18 #[.val (.ref r0)] [])) st3 ?_
  refine ownE.retV X3 hx hlk hret (hb hby own_d2_18) ?_ (by decide) (by decide)
  show own_Q2 Z r0 h0 n0 _ T3.heap _
  rw [e3]
  exact ⟨rfl, N3, K3, cExa_r0_3, cFld_r0_pending_3, cFld_r0_lowest_3, Fw3⟩
theorem own_d4_0 : decode prog_50_method_6_code 0 = .ok (.aload_n 0, 1) := by decide +kernel
theorem own_d4_1 : decode prog_50_method_6_code 1 = .ok (.getfield 44, 3) := by decide +kernel
theorem own_d4_4 : decode prog_50_method_6_code 4 = .ok (.ifCond .ne 7, 3) := by decide +kernel
theorem own_d4_7 : decode prog_50_method_6_code 7 = .ok (.iconst 1, 1) := by decide +kernel
theorem own_d4_8 : decode prog_50_method_6_code 8 = .ok (.goto 4, 3) := by decide +kernel
theorem own_d4_11 : decode prog_50_method_6_code 11 = .ok (.iconst 0, 1) := by decide +kernel
theorem own_d4_12 : decode prog_50_method_6_code 12 = .ok (.ireturn, 1) := by decide +kernel
theorem own_ef4 (m : MethodId) (x0 : Addr) : entryFrame m #[(.ref x0)] 1 = mkF m 0 #[.val (.ref x0)] [] := by first | (simp [entryFrame, mkF, argsToLocals, Value.category]; done) | rfl
def own_ab (pd : Int32) : Int32 :=
  if pd = (0 : Int32) then
    (1 : Int32)
  else
    (0 : Int32)
def own_Q4 (Z : State) (r0 : Addr) (pd : Int32) (h0 : Heap) (n0 : Nat) (v : Option Value) (h : Heap) (L : List Loc) : Prop := v = some (.int (own_ab pd)) ∧ Fr n0 L ∧ h = h0
set_option maxRecDepth 65536 in
set_option maxHeartbeats 40000000 in
theorem own_rm4 (l : Launch) (Z : State) (a0 : Array Value) (hw : ∀ d ∈ tables_1, d.before a0 Z = true) (ws : List Jvm.Cond) (r0 : Addr) (pd : Int32) (h0 : Heap) (n0 : Nat) (Z0 : n0 ≤ h0.size) (P0 : Fld Z h0 r0 "com/example/marrow/marrow/Utf8Checker" "pending" "I" (.int pd)) :
    MetFree l (⟨"com/example/marrow/marrow/Utf8Checker", "atBoundary", "()Z"⟩ : MethodName) (head1 (Jvm.Cond.code (⟨"com/example/marrow/marrow/Utf8Checker", "atBoundary", "()Z"⟩ : MethodName) prog_50_method_6_code 1 (some .boolean) :: ws) ({ frames := 0, cells := 0, slots := 0, locals := 0 } : Room)) (fun a U => a = #[(.ref r0)] ∧ Z.Warmed39 U.vm ∧ U.heap = h0) (fun _ _ _ _ _ => True) (fun _ U o U' => ∃ v L, o = .returned v ∧ own_Q4 Z r0 pd h0 n0 v U'.heap L ∧ FrameEnd U o U' L ({ frames := 0, cells := 0, slots := 0, locals := 0 } : Room).cells ({ frames := 0, cells := 0, slots := 0, locals := 0 } : Room).slots) := by
  refine MetFree.of_bodySF (plainFor_of_name own_pn1) hisR ?_
  intro p e s m args below meth c s₁ Bd hml0 hP hK
  obtain ⟨rfl, hZ, hh⟩ := hP
  have hx := Bd.exec
  have hby := Bd.bytes
  have hret := Bd.returns
  have hlk := BodyLoose.notSynchronized Bd
  have hml : c.maxLocals = 1 := hml0
  have hown : s.vm.findClass "com/example/marrow/marrow/Utf8Checker" = some m.cls := findClass_of_methodNamed Bd.named
  have hnm := (name_of_methodNamed Bd.named Bd.method).1
  have X0 : Stand p l e ({ frames := 0, cells := 0, slots := 0, locals := 0 } : Room) s m #[(.ref r0)] below meth c s₁ [] 0 0 := Stand.of_body Bd
  have e0 : s₁.heap = h0 := by rw [← hh, Bd.state]; rfl
  have N0 := Fr.nil n0
  have K0 : Keep h0 h0 [] := Keep.refl h0 _
  show ownE p e below s (own_Q4 Z r0 pd h0 n0) ({ frames := 0, cells := 0, slots := 0, locals := 0 } : Room).cells ({ frames := 0, cells := 0, slots := 0, locals := 0 } : Room).slots s₁ (entryFrame m #[(.ref r0)] 1)
  rw [own_ef4]
  refine ownE.go (T' := s₁) (f' := (mkF m 1 #[.val (.ref r0)] [(.ref r0)])) (fun t kt => ?_) ?_
  · show Steps p.tables e below (s₁.setTop (mkF m 0 #[.val (.ref r0)] [])) _
    refine XS.aloadN X0.here hx rfl (hb hby own_d4_0) rfl rfl ?_
    exact kt
  obtain ⟨T1, X1, e1, st1⟩ := getF X0 hx hZ hown (host := "") (Or.inl (hw _ (List.mem_of_getElem? (i := 23) rfl))) Via.refl e0 P0 (g := (mkF m 1 #[.val (.ref r0)] [(.ref r0)])) rfl rfl (hb hby own_d4_1)
  refine ownE.go (T' := T1) (f' := (mkF m 4 #[.val (.ref r0)] [(.int pd)])) st1 ?_
  by_cases hc2 : pd = (0 : Int32)
  · -- pc 4
    refine ownE.go (T' := T1) (f' := (mkF m 7 #[.val (.ref r0)] [])) (fun t kt => XS.ifNo (g := (mkF m 4 #[.val (.ref r0)] [(.int pd)])) X1.here hx rfl (hb hby own_d4_4) rfl (Jvm.Free.XT.i0_ne_f hc2) kt) ?_
    refine ownE.go (T' := T1) (f' := (mkF m 12 #[.val (.ref r0)] [(.int (1 : Int32))])) (fun t kt => ?_) ?_
    · show Steps p.tables e below (T1.setTop (mkF m 7 #[.val (.ref r0)] [])) _
      refine XS.iconst X1.here hx rfl (hb hby own_d4_7) ?_
      show Steps p.tables e below (T1.setTop (mkF m 8 #[.val (.ref r0)] [(.int (1 : Int32))])) _
      refine XS.goto X1.here hx rfl (pc0 := 8) (pc' := 12) rfl (hb hby own_d4_8) (by decide) (by decide) ?_
      exact kt
    refine ownE.retN X1 hx hlk (t := .boolean) hret (by simp) (hb hby own_d4_12) ?_ (by decide) (by decide)
    show own_Q4 Z r0 pd h0 n0 _ T1.heap _
    rw [e1]
    exact ⟨(by rw [own_ab, if_pos hc2] <;> first | rfl | decide), N0, rfl⟩
  · -- pc 4
    refine ownE.go (T' := T1) (f' := (mkF m 11 #[.val (.ref r0)] [])) (fun t kt => XS.ifYes (g := (mkF m 4 #[.val (.ref r0)] [(.int pd)])) X1.here hx rfl (pc0 := 4) (pc' := 11) rfl (hb hby own_d4_4) rfl (Jvm.Free.XT.i0_ne_t hc2) (by decide) (by decide) kt) ?_
    refine ownE.go (T' := T1) (f' := (mkF m 12 #[.val (.ref r0)] [(.int (0 : Int32))])) (fun t kt => ?_) ?_
    · show Steps p.tables e below (T1.setTop (mkF m 11 #[.val (.ref r0)] [])) _
      refine XS.iconst X1.here hx rfl (hb hby own_d4_11) ?_
      exact kt
    refine ownE.retN X1 hx hlk (t := .boolean) hret (by simp) (hb hby own_d4_12) ?_ (by decide) (by decide)
    show own_Q4 Z r0 pd h0 n0 _ T1.heap _
    rw [e1]
    exact ⟨(by rw [own_ab, if_neg hc2] <;> first | rfl | decide), N0, rfl⟩
theorem own_z237 : (237 : Int32).toInt = 237 := by decide
theorem own_z225 : (225 : Int32).toInt = 225 := by decide
theorem own_z241 : (241 : Int32).toInt = 241 := by decide
theorem own_z244 : (244 : Int32).toInt = 244 := by decide
theorem own_d6_0 : decode prog_50_method_7_code 0 = .ok (.iconst 1, 1) := by decide +kernel
theorem own_d6_1 : decode prog_50_method_7_code 1 = .ok (.istore_n 2, 1) := by decide +kernel
theorem own_d6_2 : decode prog_50_method_7_code 2 = .ok (.iload_n 1, 1) := by decide +kernel
theorem own_d6_3 : decode prog_50_method_7_code 3 = .ok (.sipush 194, 3) := by decide +kernel
theorem own_d6_6 : decode prog_50_method_7_code 6 = .ok (.if_icmp .lt 18, 3) := by decide +kernel
theorem own_d6_9 : decode prog_50_method_7_code 9 = .ok (.iload_n 1, 1) := by decide +kernel
theorem own_d6_10 : decode prog_50_method_7_code 10 = .ok (.sipush 223, 3) := by decide +kernel
theorem own_d6_13 : decode prog_50_method_7_code 13 = .ok (.if_icmp .gt 11, 3) := by decide +kernel
theorem own_d6_16 : decode prog_50_method_7_code 16 = .ok (.aload_n 0, 1) := by decide +kernel
theorem own_d6_17 : decode prog_50_method_7_code 17 = .ok (.iconst 1, 1) := by decide +kernel
theorem own_d6_18 : decode prog_50_method_7_code 18 = .ok (.putfield 44, 3) := by decide +kernel
theorem own_d6_21 : decode prog_50_method_7_code 21 = .ok (.goto 137, 3) := by decide +kernel
theorem own_d6_24 : decode prog_50_method_7_code 24 = .ok (.iload_n 1, 1) := by decide +kernel
theorem own_d6_25 : decode prog_50_method_7_code 25 = .ok (.sipush 224, 3) := by decide +kernel
theorem own_d6_28 : decode prog_50_method_7_code 28 = .ok (.if_icmp .ne 18, 3) := by decide +kernel
theorem own_d6_31 : decode prog_50_method_7_code 31 = .ok (.aload_n 0, 1) := by decide +kernel
theorem own_d6_32 : decode prog_50_method_7_code 32 = .ok (.iconst 2, 1) := by decide +kernel
theorem own_d6_33 : decode prog_50_method_7_code 33 = .ok (.putfield 44, 3) := by decide +kernel
theorem own_d6_36 : decode prog_50_method_7_code 36 = .ok (.aload_n 0, 1) := by decide +kernel
theorem own_d6_37 : decode prog_50_method_7_code 37 = .ok (.sipush 160, 3) := by decide +kernel
theorem own_d6_40 : decode prog_50_method_7_code 40 = .ok (.putfield 7, 3) := by decide +kernel
theorem own_d6_43 : decode prog_50_method_7_code 43 = .ok (.goto 115, 3) := by decide +kernel
theorem own_d6_46 : decode prog_50_method_7_code 46 = .ok (.iload_n 1, 1) := by decide +kernel
theorem own_d6_47 : decode prog_50_method_7_code 47 = .ok (.sipush 237, 3) := by decide +kernel
theorem own_d6_50 : decode prog_50_method_7_code 50 = .ok (.if_icmp .ne 18, 3) := by decide +kernel
theorem own_d6_53 : decode prog_50_method_7_code 53 = .ok (.aload_n 0, 1) := by decide +kernel
theorem own_d6_54 : decode prog_50_method_7_code 54 = .ok (.iconst 2, 1) := by decide +kernel
theorem own_d6_55 : decode prog_50_method_7_code 55 = .ok (.putfield 44, 3) := by decide +kernel
theorem own_d6_58 : decode prog_50_method_7_code 58 = .ok (.aload_n 0, 1) := by decide +kernel
theorem own_d6_59 : decode prog_50_method_7_code 59 = .ok (.sipush 159, 3) := by decide +kernel
theorem own_d6_62 : decode prog_50_method_7_code 62 = .ok (.putfield 13, 3) := by decide +kernel
theorem own_d6_65 : decode prog_50_method_7_code 65 = .ok (.goto 93, 3) := by decide +kernel
theorem own_d6_68 : decode prog_50_method_7_code 68 = .ok (.iload_n 1, 1) := by decide +kernel
theorem own_d6_69 : decode prog_50_method_7_code 69 = .ok (.sipush 225, 3) := by decide +kernel
theorem own_d6_72 : decode prog_50_method_7_code 72 = .ok (.if_icmp .lt 18, 3) := by decide +kernel
theorem own_d6_75 : decode prog_50_method_7_code 75 = .ok (.iload_n 1, 1) := by decide +kernel
theorem own_d6_76 : decode prog_50_method_7_code 76 = .ok (.sipush 239, 3) := by decide +kernel
theorem own_d6_79 : decode prog_50_method_7_code 79 = .ok (.if_icmp .gt 11, 3) := by decide +kernel
theorem own_d6_82 : decode prog_50_method_7_code 82 = .ok (.aload_n 0, 1) := by decide +kernel
theorem own_d6_83 : decode prog_50_method_7_code 83 = .ok (.iconst 2, 1) := by decide +kernel
theorem own_d6_84 : decode prog_50_method_7_code 84 = .ok (.putfield 44, 3) := by decide +kernel
theorem own_d6_87 : decode prog_50_method_7_code 87 = .ok (.goto 71, 3) := by decide +kernel
theorem own_d6_90 : decode prog_50_method_7_code 90 = .ok (.iload_n 1, 1) := by decide +kernel
theorem own_d6_91 : decode prog_50_method_7_code 91 = .ok (.sipush 240, 3) := by decide +kernel
theorem own_d6_94 : decode prog_50_method_7_code 94 = .ok (.if_icmp .ne 18, 3) := by decide +kernel
theorem own_d6_97 : decode prog_50_method_7_code 97 = .ok (.aload_n 0, 1) := by decide +kernel
theorem own_d6_98 : decode prog_50_method_7_code 98 = .ok (.iconst 3, 1) := by decide +kernel
theorem own_d6_99 : decode prog_50_method_7_code 99 = .ok (.putfield 44, 3) := by decide +kernel
theorem own_d6_102 : decode prog_50_method_7_code 102 = .ok (.aload_n 0, 1) := by decide +kernel
theorem own_d6_103 : decode prog_50_method_7_code 103 = .ok (.sipush 144, 3) := by decide +kernel
theorem own_d6_106 : decode prog_50_method_7_code 106 = .ok (.putfield 7, 3) := by decide +kernel
theorem own_d6_109 : decode prog_50_method_7_code 109 = .ok (.goto 49, 3) := by decide +kernel
theorem own_d6_112 : decode prog_50_method_7_code 112 = .ok (.iload_n 1, 1) := by decide +kernel
theorem own_d6_113 : decode prog_50_method_7_code 113 = .ok (.sipush 241, 3) := by decide +kernel
theorem own_d6_116 : decode prog_50_method_7_code 116 = .ok (.if_icmp .lt 18, 3) := by decide +kernel
theorem own_d6_119 : decode prog_50_method_7_code 119 = .ok (.iload_n 1, 1) := by decide +kernel
theorem own_d6_120 : decode prog_50_method_7_code 120 = .ok (.sipush 243, 3) := by decide +kernel
theorem own_d6_123 : decode prog_50_method_7_code 123 = .ok (.if_icmp .gt 11, 3) := by decide +kernel
theorem own_d6_126 : decode prog_50_method_7_code 126 = .ok (.aload_n 0, 1) := by decide +kernel
theorem own_d6_127 : decode prog_50_method_7_code 127 = .ok (.iconst 3, 1) := by decide +kernel
theorem own_d6_128 : decode prog_50_method_7_code 128 = .ok (.putfield 44, 3) := by decide +kernel
theorem own_d6_131 : decode prog_50_method_7_code 131 = .ok (.goto 27, 3) := by decide +kernel
theorem own_d6_134 : decode prog_50_method_7_code 134 = .ok (.iload_n 1, 1) := by decide +kernel
theorem own_d6_135 : decode prog_50_method_7_code 135 = .ok (.sipush 244, 3) := by decide +kernel
theorem own_d6_138 : decode prog_50_method_7_code 138 = .ok (.if_icmp .ne 18, 3) := by decide +kernel
theorem own_d6_141 : decode prog_50_method_7_code 141 = .ok (.aload_n 0, 1) := by decide +kernel
theorem own_d6_142 : decode prog_50_method_7_code 142 = .ok (.iconst 3, 1) := by decide +kernel
theorem own_d6_143 : decode prog_50_method_7_code 143 = .ok (.putfield 44, 3) := by decide +kernel
theorem own_d6_146 : decode prog_50_method_7_code 146 = .ok (.aload_n 0, 1) := by decide +kernel
theorem own_d6_147 : decode prog_50_method_7_code 147 = .ok (.sipush 143, 3) := by decide +kernel
theorem own_d6_150 : decode prog_50_method_7_code 150 = .ok (.putfield 13, 3) := by decide +kernel
theorem own_d6_153 : decode prog_50_method_7_code 153 = .ok (.goto 5, 3) := by decide +kernel
theorem own_d6_156 : decode prog_50_method_7_code 156 = .ok (.iconst 0, 1) := by decide +kernel
theorem own_d6_157 : decode prog_50_method_7_code 157 = .ok (.istore_n 2, 1) := by decide +kernel
theorem own_d6_158 : decode prog_50_method_7_code 158 = .ok (.iload_n 2, 1) := by decide +kernel
theorem own_d6_159 : decode prog_50_method_7_code 159 = .ok (.ireturn, 1) := by decide +kernel
theorem own_ef6 (m : MethodId) (x0 : Addr) (x1 : Int32) : entryFrame m #[(.ref x0), (.int x1)] 3 = mkF m 0 #[.val (.ref x0), .val (.int x1), .unset] [] := by first | (simp [entryFrame, mkF, argsToLocals, Value.category]; done) | rfl
def own_ld (i1 : Int32) (pd : Int32) (lo : Int32) (hi : Int32) : Int32 :=
  if i1 < (194 : Int32) then
    (0 : Int32)
  else
    if (223 : Int32) < i1 then
      if i1 = (224 : Int32) then
        (1 : Int32)
      else
        if i1 = (237 : Int32) then
          (1 : Int32)
        else
          if (239 : Int32) < i1 then
            if i1 = (240 : Int32) then
              (1 : Int32)
            else
              if (243 : Int32) < i1 then
                if i1 = (244 : Int32) then
                  (1 : Int32)
                else
                  (0 : Int32)
              else
                (1 : Int32)
          else
            (1 : Int32)
    else
      (1 : Int32)
def own_lp (i1 : Int32) (pd : Int32) (lo : Int32) (hi : Int32) : Int32 :=
  if i1 < (194 : Int32) then
    pd
  else
    if (223 : Int32) < i1 then
      if i1 = (224 : Int32) then
        (2 : Int32)
      else
        if i1 = (237 : Int32) then
          (2 : Int32)
        else
          if (239 : Int32) < i1 then
            if i1 = (240 : Int32) then
              (3 : Int32)
            else
              if (243 : Int32) < i1 then
                if i1 = (244 : Int32) then
                  (3 : Int32)
                else
                  pd
              else
                (3 : Int32)
          else
            (2 : Int32)
    else
      (1 : Int32)
def own_ll (i1 : Int32) (pd : Int32) (lo : Int32) (hi : Int32) : Int32 :=
  if i1 < (194 : Int32) then
    lo
  else
    if (223 : Int32) < i1 then
      if i1 = (224 : Int32) then
        (160 : Int32)
      else
        if i1 = (237 : Int32) then
          lo
        else
          if (239 : Int32) < i1 then
            if i1 = (240 : Int32) then
              (144 : Int32)
            else
              if (243 : Int32) < i1 then
                if i1 = (244 : Int32) then
                  lo
                else
                  lo
              else
                lo
          else
            lo
    else
      lo
def own_lh (i1 : Int32) (pd : Int32) (lo : Int32) (hi : Int32) : Int32 :=
  if i1 < (194 : Int32) then
    hi
  else
    if (223 : Int32) < i1 then
      if i1 = (224 : Int32) then
        hi
      else
        if i1 = (237 : Int32) then
          (159 : Int32)
        else
          if (239 : Int32) < i1 then
            if i1 = (240 : Int32) then
              hi
            else
              if (243 : Int32) < i1 then
                if i1 = (244 : Int32) then
                  (143 : Int32)
                else
                  hi
              else
                hi
          else
            hi
    else
      hi
def own_Q6 (Z : State) (r0 : Addr) (i1 : Int32) (pd : Int32) (lo : Int32) (hi : Int32) (h0 : Heap) (n0 : Nat) (v : Option Value) (h : Heap) (L : List Loc) : Prop := v = some (.int (own_ld i1 pd lo hi)) ∧ Fr n0 L ∧ Keep h0 h [r0] ∧ Exa Z h r0 "com/example/marrow/marrow/Utf8Checker" ∧ Fld Z h r0 "com/example/marrow/marrow/Utf8Checker" "pending" "I" (.int (own_lp i1 pd lo hi)) ∧ Fld Z h r0 "com/example/marrow/marrow/Utf8Checker" "lowest" "I" (.int (own_ll i1 pd lo hi)) ∧ Fld Z h r0 "com/example/marrow/marrow/Utf8Checker" "highest" "I" (.int (own_lh i1 pd lo hi))
set_option maxRecDepth 65536 in
set_option maxHeartbeats 40000000 in
theorem own_rm6 (l : Launch) (Z : State) (a0 : Array Value) (hw : ∀ d ∈ tables_1, d.before a0 Z = true) (ws : List Jvm.Cond) (r0 : Addr) (i1 : Int32) (pd : Int32) (lo : Int32) (hi : Int32) (h0 : Heap) (n0 : Nat) (Z0 : n0 ≤ h0.size) (P0 : Exa Z h0 r0 "com/example/marrow/marrow/Utf8Checker") (P1 : Fld Z h0 r0 "com/example/marrow/marrow/Utf8Checker" "pending" "I" (.int pd)) (P2 : Fld Z h0 r0 "com/example/marrow/marrow/Utf8Checker" "lowest" "I" (.int lo)) (P3 : Fld Z h0 r0 "com/example/marrow/marrow/Utf8Checker" "highest" "I" (.int hi)) (P4 : n0 ≤ r0) :
    MetFree l (⟨"com/example/marrow/marrow/Utf8Checker", "lead", "(I)Z"⟩ : MethodName) (head1 (Jvm.Cond.code (⟨"com/example/marrow/marrow/Utf8Checker", "lead", "(I)Z"⟩ : MethodName) prog_50_method_7_code 3 (some .boolean) :: ws) ({ frames := 0, cells := 0, slots := 0, locals := 0 } : Room)) (fun a U => a = #[(.ref r0), (.int i1)] ∧ Z.Warmed39 U.vm ∧ U.heap = h0) (fun _ _ _ _ _ => True) (fun _ U o U' => ∃ v L, o = .returned v ∧ own_Q6 Z r0 i1 pd lo hi h0 n0 v U'.heap L ∧ FrameEnd U o U' L ({ frames := 0, cells := 0, slots := 0, locals := 0 } : Room).cells ({ frames := 0, cells := 0, slots := 0, locals := 0 } : Room).slots) := by
  refine MetFree.of_bodySF (plainFor_of_name own_pn1) hisR ?_
  intro p e s m args below meth c s₁ Bd hml0 hP hK
  obtain ⟨rfl, hZ, hh⟩ := hP
  have hx := Bd.exec
  have hby := Bd.bytes
  have hret := Bd.returns
  have hlk := BodyLoose.notSynchronized Bd
  have hml : c.maxLocals = 3 := hml0
  have hown : s.vm.findClass "com/example/marrow/marrow/Utf8Checker" = some m.cls := findClass_of_methodNamed Bd.named
  have hnm := (name_of_methodNamed Bd.named Bd.method).1
  have X0 : Stand p l e ({ frames := 0, cells := 0, slots := 0, locals := 0 } : Room) s m #[(.ref r0), (.int i1)] below meth c s₁ [] 0 0 := Stand.of_body Bd
  have e0 : s₁.heap = h0 := by rw [← hh, Bd.state]; rfl
  have N0 := Fr.nil n0
  have K0 : Keep h0 h0 [r0] := Keep.refl h0 _
  show ownE p e below s (own_Q6 Z r0 i1 pd lo hi h0 n0) ({ frames := 0, cells := 0, slots := 0, locals := 0 } : Room).cells ({ frames := 0, cells := 0, slots := 0, locals := 0 } : Room).slots s₁ (entryFrame m #[(.ref r0), (.int i1)] 3)
  rw [own_ef6]
  refine ownE.go (T' := s₁) (f' := (mkF m 6 #[.val (.ref r0), .val (.int i1), .val (.int (1 : Int32))] [(.int (194 : Int32)), (.int i1)])) (fun t kt => ?_) ?_
  · show Steps p.tables e below (s₁.setTop (mkF m 0 #[.val (.ref r0), .val (.int i1), .unset] [])) _
    refine XS.iconst X0.here hx rfl (hb hby own_d6_0) ?_
    show Steps p.tables e below (s₁.setTop (mkF m 1 #[.val (.ref r0), .val (.int i1), .unset] [(.int (1 : Int32))])) _
    refine XS.istoreN X0.here hx rfl (hb hby own_d6_1) rfl (l' := #[.val (.ref r0), .val (.int i1), .val (.int (1 : Int32))]) rfl ?_
    show Steps p.tables e below (s₁.setTop (mkF m 2 #[.val (.ref r0), .val (.int i1), .val (.int (1 : Int32))] [])) _
    refine XS.iloadN X0.here hx rfl (hb hby own_d6_2) rfl ?_
    show Steps p.tables e below (s₁.setTop (mkF m 3 #[.val (.ref r0), .val (.int i1), .val (.int (1 : Int32))] [(.int i1)])) _
    refine XS.sipush X0.here hx rfl (hb hby own_d6_3) ?_
    exact kt
  by_cases hc1 : i1 < (194 : Int32)
  · -- pc 6
    refine ownE.go (T' := s₁) (f' := (mkF m 24 #[.val (.ref r0), .val (.int i1), .val (.int (1 : Int32))] [])) (fun t kt => XS.icmpYes (g := (mkF m 6 #[.val (.ref r0), .val (.int i1), .val (.int (1 : Int32))] [(.int (194 : Int32)), (.int i1)])) X0.here hx rfl (pc0 := 6) (pc' := 24) rfl (hb hby own_d6_6) rfl (Jvm.Free.XT.ii_lt_t hc1) (by decide) (by decide) kt) ?_
    refine ownE.go (T' := s₁) (f' := (mkF m 28 #[.val (.ref r0), .val (.int i1), .val (.int (1 : Int32))] [(.int (224 : Int32)), (.int i1)])) (fun t kt => ?_) ?_
    · show Steps p.tables e below (s₁.setTop (mkF m 24 #[.val (.ref r0), .val (.int i1), .val (.int (1 : Int32))] [])) _
      refine XS.iloadN X0.here hx rfl (hb hby own_d6_24) rfl ?_
      show Steps p.tables e below (s₁.setTop (mkF m 25 #[.val (.ref r0), .val (.int i1), .val (.int (1 : Int32))] [(.int i1)])) _
      refine XS.sipush X0.here hx rfl (hb hby own_d6_25) ?_
      exact kt
    have hc2 : ¬ i1 = (224 : Int32) := by
      revert hc1
      simp only [Int32.lt_iff_toInt_lt, ← Int32.toInt_inj, own_z194, own_z224]
      intros
      omega
    refine ownE.go (T' := s₁) (f' := (mkF m 46 #[.val (.ref r0), .val (.int i1), .val (.int (1 : Int32))] [])) (fun t kt => XS.icmpYes (g := (mkF m 28 #[.val (.ref r0), .val (.int i1), .val (.int (1 : Int32))] [(.int (224 : Int32)), (.int i1)])) X0.here hx rfl (pc0 := 28) (pc' := 46) rfl (hb hby own_d6_28) rfl (Jvm.Free.XT.ii_ne_t hc2) (by decide) (by decide) kt) ?_
    refine ownE.go (T' := s₁) (f' := (mkF m 50 #[.val (.ref r0), .val (.int i1), .val (.int (1 : Int32))] [(.int (237 : Int32)), (.int i1)])) (fun t kt => ?_) ?_
    · show Steps p.tables e below (s₁.setTop (mkF m 46 #[.val (.ref r0), .val (.int i1), .val (.int (1 : Int32))] [])) _
      refine XS.iloadN X0.here hx rfl (hb hby own_d6_46) rfl ?_
      show Steps p.tables e below (s₁.setTop (mkF m 47 #[.val (.ref r0), .val (.int i1), .val (.int (1 : Int32))] [(.int i1)])) _
      refine XS.sipush X0.here hx rfl (hb hby own_d6_47) ?_
      exact kt
    have hc3 : ¬ i1 = (237 : Int32) := by
      revert hc1
      simp only [Int32.lt_iff_toInt_lt, ← Int32.toInt_inj, own_z194, own_z237]
      intros
      omega
    refine ownE.go (T' := s₁) (f' := (mkF m 68 #[.val (.ref r0), .val (.int i1), .val (.int (1 : Int32))] [])) (fun t kt => XS.icmpYes (g := (mkF m 50 #[.val (.ref r0), .val (.int i1), .val (.int (1 : Int32))] [(.int (237 : Int32)), (.int i1)])) X0.here hx rfl (pc0 := 50) (pc' := 68) rfl (hb hby own_d6_50) rfl (Jvm.Free.XT.ii_ne_t hc3) (by decide) (by decide) kt) ?_
    refine ownE.go (T' := s₁) (f' := (mkF m 72 #[.val (.ref r0), .val (.int i1), .val (.int (1 : Int32))] [(.int (225 : Int32)), (.int i1)])) (fun t kt => ?_) ?_
    · show Steps p.tables e below (s₁.setTop (mkF m 68 #[.val (.ref r0), .val (.int i1), .val (.int (1 : Int32))] [])) _
      refine XS.iloadN X0.here hx rfl (hb hby own_d6_68) rfl ?_
      show Steps p.tables e below (s₁.setTop (mkF m 69 #[.val (.ref r0), .val (.int i1), .val (.int (1 : Int32))] [(.int i1)])) _
      refine XS.sipush X0.here hx rfl (hb hby own_d6_69) ?_
      exact kt
    have hc4 : i1 < (225 : Int32) := by
      revert hc1
      simp only [Int32.lt_iff_toInt_lt, ← Int32.toInt_inj, own_z194, own_z225]
      intros
      omega
    refine ownE.go (T' := s₁) (f' := (mkF m 90 #[.val (.ref r0), .val (.int i1), .val (.int (1 : Int32))] [])) (fun t kt => XS.icmpYes (g := (mkF m 72 #[.val (.ref r0), .val (.int i1), .val (.int (1 : Int32))] [(.int (225 : Int32)), (.int i1)])) X0.here hx rfl (pc0 := 72) (pc' := 90) rfl (hb hby own_d6_72) rfl (Jvm.Free.XT.ii_lt_t hc4) (by decide) (by decide) kt) ?_
    refine ownE.go (T' := s₁) (f' := (mkF m 94 #[.val (.ref r0), .val (.int i1), .val (.int (1 : Int32))] [(.int (240 : Int32)), (.int i1)])) (fun t kt => ?_) ?_
    · show Steps p.tables e below (s₁.setTop (mkF m 90 #[.val (.ref r0), .val (.int i1), .val (.int (1 : Int32))] [])) _
      refine XS.iloadN X0.here hx rfl (hb hby own_d6_90) rfl ?_
      show Steps p.tables e below (s₁.setTop (mkF m 91 #[.val (.ref r0), .val (.int i1), .val (.int (1 : Int32))] [(.int i1)])) _
      refine XS.sipush X0.here hx rfl (hb hby own_d6_91) ?_
      exact kt
    have hc5 : ¬ i1 = (240 : Int32) := by
      revert hc1
      simp only [Int32.lt_iff_toInt_lt, ← Int32.toInt_inj, own_z194, own_z240]
      intros
      omega
    refine ownE.go (T' := s₁) (f' := (mkF m 112 #[.val (.ref r0), .val (.int i1), .val (.int (1 : Int32))] [])) (fun t kt => XS.icmpYes (g := (mkF m 94 #[.val (.ref r0), .val (.int i1), .val (.int (1 : Int32))] [(.int (240 : Int32)), (.int i1)])) X0.here hx rfl (pc0 := 94) (pc' := 112) rfl (hb hby own_d6_94) rfl (Jvm.Free.XT.ii_ne_t hc5) (by decide) (by decide) kt) ?_
    refine ownE.go (T' := s₁) (f' := (mkF m 116 #[.val (.ref r0), .val (.int i1), .val (.int (1 : Int32))] [(.int (241 : Int32)), (.int i1)])) (fun t kt => ?_) ?_
    · show Steps p.tables e below (s₁.setTop (mkF m 112 #[.val (.ref r0), .val (.int i1), .val (.int (1 : Int32))] [])) _
      refine XS.iloadN X0.here hx rfl (hb hby own_d6_112) rfl ?_
      show Steps p.tables e below (s₁.setTop (mkF m 113 #[.val (.ref r0), .val (.int i1), .val (.int (1 : Int32))] [(.int i1)])) _
      refine XS.sipush X0.here hx rfl (hb hby own_d6_113) ?_
      exact kt
    have hc6 : i1 < (241 : Int32) := by
      revert hc1
      simp only [Int32.lt_iff_toInt_lt, ← Int32.toInt_inj, own_z194, own_z241]
      intros
      omega
    refine ownE.go (T' := s₁) (f' := (mkF m 134 #[.val (.ref r0), .val (.int i1), .val (.int (1 : Int32))] [])) (fun t kt => XS.icmpYes (g := (mkF m 116 #[.val (.ref r0), .val (.int i1), .val (.int (1 : Int32))] [(.int (241 : Int32)), (.int i1)])) X0.here hx rfl (pc0 := 116) (pc' := 134) rfl (hb hby own_d6_116) rfl (Jvm.Free.XT.ii_lt_t hc6) (by decide) (by decide) kt) ?_
    refine ownE.go (T' := s₁) (f' := (mkF m 138 #[.val (.ref r0), .val (.int i1), .val (.int (1 : Int32))] [(.int (244 : Int32)), (.int i1)])) (fun t kt => ?_) ?_
    · show Steps p.tables e below (s₁.setTop (mkF m 134 #[.val (.ref r0), .val (.int i1), .val (.int (1 : Int32))] [])) _
      refine XS.iloadN X0.here hx rfl (hb hby own_d6_134) rfl ?_
      show Steps p.tables e below (s₁.setTop (mkF m 135 #[.val (.ref r0), .val (.int i1), .val (.int (1 : Int32))] [(.int i1)])) _
      refine XS.sipush X0.here hx rfl (hb hby own_d6_135) ?_
      exact kt
    have hc7 : ¬ i1 = (244 : Int32) := by
      revert hc1
      simp only [Int32.lt_iff_toInt_lt, ← Int32.toInt_inj, own_z194, own_z244]
      intros
      omega
    refine ownE.go (T' := s₁) (f' := (mkF m 156 #[.val (.ref r0), .val (.int i1), .val (.int (1 : Int32))] [])) (fun t kt => XS.icmpYes (g := (mkF m 138 #[.val (.ref r0), .val (.int i1), .val (.int (1 : Int32))] [(.int (244 : Int32)), (.int i1)])) X0.here hx rfl (pc0 := 138) (pc' := 156) rfl (hb hby own_d6_138) rfl (Jvm.Free.XT.ii_ne_t hc7) (by decide) (by decide) kt) ?_
    refine ownE.go (T' := s₁) (f' := (mkF m 159 #[.val (.ref r0), .val (.int i1), .val (.int (0 : Int32))] [(.int (0 : Int32))])) (fun t kt => ?_) ?_
    · show Steps p.tables e below (s₁.setTop (mkF m 156 #[.val (.ref r0), .val (.int i1), .val (.int (1 : Int32))] [])) _
      refine XS.iconst X0.here hx rfl (hb hby own_d6_156) ?_
      show Steps p.tables e below (s₁.setTop (mkF m 157 #[.val (.ref r0), .val (.int i1), .val (.int (1 : Int32))] [(.int (0 : Int32))])) _
      refine XS.istoreN X0.here hx rfl (hb hby own_d6_157) rfl (l' := #[.val (.ref r0), .val (.int i1), .val (.int (0 : Int32))]) rfl ?_
      show Steps p.tables e below (s₁.setTop (mkF m 158 #[.val (.ref r0), .val (.int i1), .val (.int (0 : Int32))] [])) _
      refine XS.iloadN X0.here hx rfl (hb hby own_d6_158) rfl ?_
      exact kt
    refine ownE.retN X0 hx hlk (t := .boolean) hret (by simp) (hb hby own_d6_159) ?_ (by decide) (by decide)
    show own_Q6 Z r0 i1 pd lo hi h0 n0 _ s₁.heap _
    rw [e0]
    exact ⟨(by rw [own_ld, if_pos hc1] <;> first | rfl | decide), N0, K0, P0, (by rw [own_lp, if_pos hc1]; exact P1), (by rw [own_ll, if_pos hc1]; exact P2), (by rw [own_lh, if_pos hc1]; exact P3)⟩
  · -- pc 6
    refine ownE.go (T' := s₁) (f' := (mkF m 9 #[.val (.ref r0), .val (.int i1), .val (.int (1 : Int32))] [])) (fun t kt => XS.icmpNo (g := (mkF m 6 #[.val (.ref r0), .val (.int i1), .val (.int (1 : Int32))] [(.int (194 : Int32)), (.int i1)])) X0.here hx rfl (hb hby own_d6_6) rfl (Jvm.Free.XT.ii_lt_f hc1) kt) ?_
    refine ownE.go (T' := s₁) (f' := (mkF m 13 #[.val (.ref r0), .val (.int i1), .val (.int (1 : Int32))] [(.int (223 : Int32)), (.int i1)])) (fun t kt => ?_) ?_
    · show Steps p.tables e below (s₁.setTop (mkF m 9 #[.val (.ref r0), .val (.int i1), .val (.int (1 : Int32))] [])) _
      refine XS.iloadN X0.here hx rfl (hb hby own_d6_9) rfl ?_
      show Steps p.tables e below (s₁.setTop (mkF m 10 #[.val (.ref r0), .val (.int i1), .val (.int (1 : Int32))] [(.int i1)])) _
      refine XS.sipush X0.here hx rfl (hb hby own_d6_10) ?_
      exact kt
    by_cases hc8 : (223 : Int32) < i1
    · -- pc 13
      refine ownE.go (T' := s₁) (f' := (mkF m 24 #[.val (.ref r0), .val (.int i1), .val (.int (1 : Int32))] [])) (fun t kt => XS.icmpYes (g := (mkF m 13 #[.val (.ref r0), .val (.int i1), .val (.int (1 : Int32))] [(.int (223 : Int32)), (.int i1)])) X0.here hx rfl (pc0 := 13) (pc' := 24) rfl (hb hby own_d6_13) rfl (Jvm.Free.XT.ii_gt_t hc8) (by decide) (by decide) kt) ?_
      refine ownE.go (T' := s₁) (f' := (mkF m 28 #[.val (.ref r0), .val (.int i1), .val (.int (1 : Int32))] [(.int (224 : Int32)), (.int i1)])) (fun t kt => ?_) ?_
      · show Steps p.tables e below (s₁.setTop (mkF m 24 #[.val (.ref r0), .val (.int i1), .val (.int (1 : Int32))] [])) _
        refine XS.iloadN X0.here hx rfl (hb hby own_d6_24) rfl ?_
        show Steps p.tables e below (s₁.setTop (mkF m 25 #[.val (.ref r0), .val (.int i1), .val (.int (1 : Int32))] [(.int i1)])) _
        refine XS.sipush X0.here hx rfl (hb hby own_d6_25) ?_
        exact kt
      by_cases hc9 : i1 = (224 : Int32)
      · -- pc 28
        refine ownE.go (T' := s₁) (f' := (mkF m 31 #[.val (.ref r0), .val (.int i1), .val (.int (1 : Int32))] [])) (fun t kt => XS.icmpNo (g := (mkF m 28 #[.val (.ref r0), .val (.int i1), .val (.int (1 : Int32))] [(.int (224 : Int32)), (.int i1)])) X0.here hx rfl (hb hby own_d6_28) rfl (Jvm.Free.XT.ii_ne_f hc9) kt) ?_
        refine ownE.go (T' := s₁) (f' := (mkF m 33 #[.val (.ref r0), .val (.int i1), .val (.int (1 : Int32))] [(.int (2 : Int32)), (.ref r0)])) (fun t kt => ?_) ?_
        · show Steps p.tables e below (s₁.setTop (mkF m 31 #[.val (.ref r0), .val (.int i1), .val (.int (1 : Int32))] [])) _
          refine XS.aloadN X0.here hx rfl (hb hby own_d6_31) rfl rfl ?_
          show Steps p.tables e below (s₁.setTop (mkF m 32 #[.val (.ref r0), .val (.int i1), .val (.int (1 : Int32))] [(.ref r0)])) _
          refine XS.iconst X0.here hx rfl (hb hby own_d6_32) ?_
          exact kt
        obtain ⟨T10, h10, X10, e10, W10, st10⟩ := putF X0 hx hZ hown (host := "") (Or.inl (hw _ (List.mem_of_getElem? (i := 23) rfl))) Via.refl e0 P1 P0 (Or.inl (hw _ (List.mem_of_getElem? (i := 24) rfl))) (hw _ (List.mem_of_getElem? (i := 6) rfl)) (ty := .int) (by decide) rfl rfl (g := (mkF m 33 #[.val (.ref r0), .val (.int i1), .val (.int (1 : Int32))] [(.int (2 : Int32)), (.ref r0)])) rfl rfl (hb hby own_d6_33)
        have Fw10 : Fld Z h10 r0 "com/example/marrow/marrow/Utf8Checker" "pending" "I" (.int (2 : Int32)) := P1.same W10
        have cExa_r0_10 : Exa Z h10 r0 "com/example/marrow/marrow/Utf8Checker" := P0.wr W10
        have cFld_r0_lowest_10 : Fld Z h10 r0 "com/example/marrow/marrow/Utf8Checker" "lowest" "I" (.int lo) := P2.other W10 (Or.inr (slot_ne (Or.inl (hw _ (List.mem_of_getElem? (i := 15) rfl))) (Or.inl (hw _ (List.mem_of_getElem? (i := 24) rfl))) (by decide) (t := .int) (t' := .int) (by decide) (by decide)))
        have cFld_r0_highest_10 : Fld Z h10 r0 "com/example/marrow/marrow/Utf8Checker" "highest" "I" (.int hi) := P3.other W10 (Or.inr (slot_ne (Or.inl (hw _ (List.mem_of_getElem? (i := 17) rfl))) (Or.inl (hw _ (List.mem_of_getElem? (i := 24) rfl))) (by decide) (t := .int) (t' := .int) (by decide) (by decide)))
        have K10 : Keep h0 h10 [r0] := K0.wr W10 (Or.inl (List.mem_of_getElem? (i := 0) rfl))
        have N10 := Fr.snoc X10 N0 P4
        refine ownE.go (T' := T10) (f' := (mkF m 36 #[.val (.ref r0), .val (.int i1), .val (.int (1 : Int32))] [])) st10 ?_
        refine ownE.go (T' := T10) (f' := (mkF m 40 #[.val (.ref r0), .val (.int i1), .val (.int (1 : Int32))] [(.int (160 : Int32)), (.ref r0)])) (fun t kt => ?_) ?_
        · show Steps p.tables e below (T10.setTop (mkF m 36 #[.val (.ref r0), .val (.int i1), .val (.int (1 : Int32))] [])) _
          refine XS.aloadN X10.here hx rfl (hb hby own_d6_36) rfl rfl ?_
          show Steps p.tables e below (T10.setTop (mkF m 37 #[.val (.ref r0), .val (.int i1), .val (.int (1 : Int32))] [(.ref r0)])) _
          refine XS.sipush X10.here hx rfl (hb hby own_d6_37) ?_
          exact kt
        obtain ⟨T11, h11, X11, e11, W11, st11⟩ := putF X10 hx hZ hown (host := "") (Or.inl (hw _ (List.mem_of_getElem? (i := 14) rfl))) Via.refl e10 cFld_r0_lowest_10 cExa_r0_10 (Or.inl (hw _ (List.mem_of_getElem? (i := 15) rfl))) (hw _ (List.mem_of_getElem? (i := 6) rfl)) (ty := .int) (by decide) rfl rfl (g := (mkF m 40 #[.val (.ref r0), .val (.int i1), .val (.int (1 : Int32))] [(.int (160 : Int32)), (.ref r0)])) rfl rfl (hb hby own_d6_40)
        have Fw11 : Fld Z h11 r0 "com/example/marrow/marrow/Utf8Checker" "lowest" "I" (.int (160 : Int32)) := cFld_r0_lowest_10.same W11
        have cExa_r0_11 : Exa Z h11 r0 "com/example/marrow/marrow/Utf8Checker" := cExa_r0_10.wr W11
        have cFld_r0_pending_11 : Fld Z h11 r0 "com/example/marrow/marrow/Utf8Checker" "pending" "I" (.int (2 : Int32)) := Fw10.other W11 (Or.inr (slot_ne (Or.inl (hw _ (List.mem_of_getElem? (i := 24) rfl))) (Or.inl (hw _ (List.mem_of_getElem? (i := 15) rfl))) (by decide) (t := .int) (t' := .int) (by decide) (by decide)))
        have cFld_r0_highest_11 : Fld Z h11 r0 "com/example/marrow/marrow/Utf8Checker" "highest" "I" (.int hi) := cFld_r0_highest_10.other W11 (Or.inr (slot_ne (Or.inl (hw _ (List.mem_of_getElem? (i := 17) rfl))) (Or.inl (hw _ (List.mem_of_getElem? (i := 15) rfl))) (by decide) (t := .int) (t' := .int) (by decide) (by decide)))
        have K11 : Keep h0 h11 [r0] := K10.wr W11 (Or.inl (List.mem_of_getElem? (i := 0) rfl))
        have N11 := Fr.snoc X11 N10 P4
        refine ownE.go (T' := T11) (f' := (mkF m 43 #[.val (.ref r0), .val (.int i1), .val (.int (1 : Int32))] [])) st11 ?_
        refine ownE.go (T' := T11) (f' := (mkF m 159 #[.val (.ref r0), .val (.int i1), .val (.int (1 : Int32))] [(.int (1 : Int32))])) (fun t kt => ?_) ?_
        · show Steps p.tables e below (T11.setTop (mkF m 43 #[.val (.ref r0), .val (.int i1), .val (.int (1 : Int32))] [])) _
          refine XS.goto X11.here hx rfl (pc0 := 43) (pc' := 158) rfl (hb hby own_d6_43) (by decide) (by decide) ?_
          show Steps p.tables e below (T11.setTop (mkF m 158 #[.val (.ref r0), .val (.int i1), .val (.int (1 : Int32))] [])) _
          refine XS.iloadN X11.here hx rfl (hb hby own_d6_158) rfl ?_
          exact kt
        refine ownE.retN X11 hx hlk (t := .boolean) hret (by simp) (hb hby own_d6_159) ?_ (by decide) (by decide)
        show own_Q6 Z r0 i1 pd lo hi h0 n0 _ T11.heap _
        rw [e11]
        exact ⟨(by rw [own_ld, if_neg hc1, if_pos hc8, if_pos hc9] <;> first | rfl | decide), N11, K11, cExa_r0_11, (by rw [own_lp, if_neg hc1, if_pos hc8, if_pos hc9]; exact cFld_r0_pending_11), (by rw [own_ll, if_neg hc1, if_pos hc8, if_pos hc9]; exact Fw11), (by rw [own_lh, if_neg hc1, if_pos hc8, if_pos hc9]; exact cFld_r0_highest_11)⟩
      · -- pc 28
        refine ownE.go (T' := s₁) (f' := (mkF m 46 #[.val (.ref r0), .val (.int i1), .val (.int (1 : Int32))] [])) (fun t kt => XS.icmpYes (g := (mkF m 28 #[.val (.ref r0), .val (.int i1), .val (.int (1 : Int32))] [(.int (224 : Int32)), (.int i1)])) X0.here hx rfl (pc0 := 28) (pc' := 46) rfl (hb hby own_d6_28) rfl (Jvm.Free.XT.ii_ne_t hc9) (by decide) (by decide) kt) ?_
        refine ownE.go (T' := s₁) (f' := (mkF m 50 #[.val (.ref r0), .val (.int i1), .val (.int (1 : Int32))] [(.int (237 : Int32)), (.int i1)])) (fun t kt => ?_) ?_
        · show Steps p.tables e below (s₁.setTop (mkF m 46 #[.val (.ref r0), .val (.int i1), .val (.int (1 : Int32))] [])) _
          refine XS.iloadN X0.here hx rfl (hb hby own_d6_46) rfl ?_
          show Steps p.tables e below (s₁.setTop (mkF m 47 #[.val (.ref r0), .val (.int i1), .val (.int (1 : Int32))] [(.int i1)])) _
          refine XS.sipush X0.here hx rfl (hb hby own_d6_47) ?_
          exact kt
        by_cases hc12 : i1 = (237 : Int32)
        · -- pc 50
          refine ownE.go (T' := s₁) (f' := (mkF m 53 #[.val (.ref r0), .val (.int i1), .val (.int (1 : Int32))] [])) (fun t kt => XS.icmpNo (g := (mkF m 50 #[.val (.ref r0), .val (.int i1), .val (.int (1 : Int32))] [(.int (237 : Int32)), (.int i1)])) X0.here hx rfl (hb hby own_d6_50) rfl (Jvm.Free.XT.ii_ne_f hc12) kt) ?_
          refine ownE.go (T' := s₁) (f' := (mkF m 55 #[.val (.ref r0), .val (.int i1), .val (.int (1 : Int32))] [(.int (2 : Int32)), (.ref r0)])) (fun t kt => ?_) ?_
          · show Steps p.tables e below (s₁.setTop (mkF m 53 #[.val (.ref r0), .val (.int i1), .val (.int (1 : Int32))] [])) _
            refine XS.aloadN X0.here hx rfl (hb hby own_d6_53) rfl rfl ?_
            show Steps p.tables e below (s₁.setTop (mkF m 54 #[.val (.ref r0), .val (.int i1), .val (.int (1 : Int32))] [(.ref r0)])) _
            refine XS.iconst X0.here hx rfl (hb hby own_d6_54) ?_
            exact kt
          obtain ⟨T13, h13, X13, e13, W13, st13⟩ := putF X0 hx hZ hown (host := "") (Or.inl (hw _ (List.mem_of_getElem? (i := 23) rfl))) Via.refl e0 P1 P0 (Or.inl (hw _ (List.mem_of_getElem? (i := 24) rfl))) (hw _ (List.mem_of_getElem? (i := 6) rfl)) (ty := .int) (by decide) rfl rfl (g := (mkF m 55 #[.val (.ref r0), .val (.int i1), .val (.int (1 : Int32))] [(.int (2 : Int32)), (.ref r0)])) rfl rfl (hb hby own_d6_55)
          have Fw13 : Fld Z h13 r0 "com/example/marrow/marrow/Utf8Checker" "pending" "I" (.int (2 : Int32)) := P1.same W13
          have cExa_r0_13 : Exa Z h13 r0 "com/example/marrow/marrow/Utf8Checker" := P0.wr W13
          have cFld_r0_lowest_13 : Fld Z h13 r0 "com/example/marrow/marrow/Utf8Checker" "lowest" "I" (.int lo) := P2.other W13 (Or.inr (slot_ne (Or.inl (hw _ (List.mem_of_getElem? (i := 15) rfl))) (Or.inl (hw _ (List.mem_of_getElem? (i := 24) rfl))) (by decide) (t := .int) (t' := .int) (by decide) (by decide)))
          have cFld_r0_highest_13 : Fld Z h13 r0 "com/example/marrow/marrow/Utf8Checker" "highest" "I" (.int hi) := P3.other W13 (Or.inr (slot_ne (Or.inl (hw _ (List.mem_of_getElem? (i := 17) rfl))) (Or.inl (hw _ (List.mem_of_getElem? (i := 24) rfl))) (by decide) (t := .int) (t' := .int) (by decide) (by decide)))
          have K13 : Keep h0 h13 [r0] := K0.wr W13 (Or.inl (List.mem_of_getElem? (i := 0) rfl))
          have N13 := Fr.snoc X13 N0 P4
          refine ownE.go (T' := T13) (f' := (mkF m 58 #[.val (.ref r0), .val (.int i1), .val (.int (1 : Int32))] [])) st13 ?_
          refine ownE.go (T' := T13) (f' := (mkF m 62 #[.val (.ref r0), .val (.int i1), .val (.int (1 : Int32))] [(.int (159 : Int32)), (.ref r0)])) (fun t kt => ?_) ?_
          · show Steps p.tables e below (T13.setTop (mkF m 58 #[.val (.ref r0), .val (.int i1), .val (.int (1 : Int32))] [])) _
            refine XS.aloadN X13.here hx rfl (hb hby own_d6_58) rfl rfl ?_
            show Steps p.tables e below (T13.setTop (mkF m 59 #[.val (.ref r0), .val (.int i1), .val (.int (1 : Int32))] [(.ref r0)])) _
            refine XS.sipush X13.here hx rfl (hb hby own_d6_59) ?_
            exact kt
          obtain ⟨T14, h14, X14, e14, W14, st14⟩ := putF X13 hx hZ hown (host := "") (Or.inl (hw _ (List.mem_of_getElem? (i := 16) rfl))) Via.refl e13 cFld_r0_highest_13 cExa_r0_13 (Or.inl (hw _ (List.mem_of_getElem? (i := 17) rfl))) (hw _ (List.mem_of_getElem? (i := 6) rfl)) (ty := .int) (by decide) rfl rfl (g := (mkF m 62 #[.val (.ref r0), .val (.int i1), .val (.int (1 : Int32))] [(.int (159 : Int32)), (.ref r0)])) rfl rfl (hb hby own_d6_62)
          have Fw14 : Fld Z h14 r0 "com/example/marrow/marrow/Utf8Checker" "highest" "I" (.int (159 : Int32)) := cFld_r0_highest_13.same W14
          have cExa_r0_14 : Exa Z h14 r0 "com/example/marrow/marrow/Utf8Checker" := cExa_r0_13.wr W14
          have cFld_r0_pending_14 : Fld Z h14 r0 "com/example/marrow/marrow/Utf8Checker" "pending" "I" (.int (2 : Int32)) := Fw13.other W14 (Or.inr (slot_ne (Or.inl (hw _ (List.mem_of_getElem? (i := 24) rfl))) (Or.inl (hw _ (List.mem_of_getElem? (i := 17) rfl))) (by decide) (t := .int) (t' := .int) (by decide) (by decide)))
          have cFld_r0_lowest_14 : Fld Z h14 r0 "com/example/marrow/marrow/Utf8Checker" "lowest" "I" (.int lo) := cFld_r0_lowest_13.other W14 (Or.inr (slot_ne (Or.inl (hw _ (List.mem_of_getElem? (i := 15) rfl))) (Or.inl (hw _ (List.mem_of_getElem? (i := 17) rfl))) (by decide) (t := .int) (t' := .int) (by decide) (by decide)))
          have K14 : Keep h0 h14 [r0] := K13.wr W14 (Or.inl (List.mem_of_getElem? (i := 0) rfl))
          have N14 := Fr.snoc X14 N13 P4
          refine ownE.go (T' := T14) (f' := (mkF m 65 #[.val (.ref r0), .val (.int i1), .val (.int (1 : Int32))] [])) st14 ?_
          refine ownE.go (T' := T14) (f' := (mkF m 159 #[.val (.ref r0), .val (.int i1), .val (.int (1 : Int32))] [(.int (1 : Int32))])) (fun t kt => ?_) ?_
          · show Steps p.tables e below (T14.setTop (mkF m 65 #[.val (.ref r0), .val (.int i1), .val (.int (1 : Int32))] [])) _
            refine XS.goto X14.here hx rfl (pc0 := 65) (pc' := 158) rfl (hb hby own_d6_65) (by decide) (by decide) ?_
            show Steps p.tables e below (T14.setTop (mkF m 158 #[.val (.ref r0), .val (.int i1), .val (.int (1 : Int32))] [])) _
            refine XS.iloadN X14.here hx rfl (hb hby own_d6_158) rfl ?_
            exact kt
          refine ownE.retN X14 hx hlk (t := .boolean) hret (by simp) (hb hby own_d6_159) ?_ (by decide) (by decide)
          show own_Q6 Z r0 i1 pd lo hi h0 n0 _ T14.heap _
          rw [e14]
          exact ⟨(by rw [own_ld, if_neg hc1, if_pos hc8, if_neg hc9, if_pos hc12] <;> first | rfl | decide), N14, K14, cExa_r0_14, (by rw [own_lp, if_neg hc1, if_pos hc8, if_neg hc9, if_pos hc12]; exact cFld_r0_pending_14), (by rw [own_ll, if_neg hc1, if_pos hc8, if_neg hc9, if_pos hc12]; exact cFld_r0_lowest_14), (by rw [own_lh, if_neg hc1, if_pos hc8, if_neg hc9, if_pos hc12]; exact Fw14)⟩
        · -- pc 50
          refine ownE.go (T' := s₁) (f' := (mkF m 68 #[.val (.ref r0), .val (.int i1), .val (.int (1 : Int32))] [])) (fun t kt => XS.icmpYes (g := (mkF m 50 #[.val (.ref r0), .val (.int i1), .val (.int (1 : Int32))] [(.int (237 : Int32)), (.int i1)])) X0.here hx rfl (pc0 := 50) (pc' := 68) rfl (hb hby own_d6_50) rfl (Jvm.Free.XT.ii_ne_t hc12) (by decide) (by decide) kt) ?_
          refine ownE.go (T' := s₁) (f' := (mkF m 72 #[.val (.ref r0), .val (.int i1), .val (.int (1 : Int32))] [(.int (225 : Int32)), (.int i1)])) (fun t kt => ?_) ?_
          · show Steps p.tables e below (s₁.setTop (mkF m 68 #[.val (.ref r0), .val (.int i1), .val (.int (1 : Int32))] [])) _
            refine XS.iloadN X0.here hx rfl (hb hby own_d6_68) rfl ?_
            show Steps p.tables e below (s₁.setTop (mkF m 69 #[.val (.ref r0), .val (.int i1), .val (.int (1 : Int32))] [(.int i1)])) _
            refine XS.sipush X0.here hx rfl (hb hby own_d6_69) ?_
            exact kt
          have hc15 : ¬ i1 < (225 : Int32) := by
            revert hc1 hc8 hc9 hc12
            simp only [Int32.lt_iff_toInt_lt, ← Int32.toInt_inj, own_z194, own_z223, own_z224, own_z225, own_z237]
            intros
            omega
          refine ownE.go (T' := s₁) (f' := (mkF m 75 #[.val (.ref r0), .val (.int i1), .val (.int (1 : Int32))] [])) (fun t kt => XS.icmpNo (g := (mkF m 72 #[.val (.ref r0), .val (.int i1), .val (.int (1 : Int32))] [(.int (225 : Int32)), (.int i1)])) X0.here hx rfl (hb hby own_d6_72) rfl (Jvm.Free.XT.ii_lt_f hc15) kt) ?_
          refine ownE.go (T' := s₁) (f' := (mkF m 79 #[.val (.ref r0), .val (.int i1), .val (.int (1 : Int32))] [(.int (239 : Int32)), (.int i1)])) (fun t kt => ?_) ?_
          · show Steps p.tables e below (s₁.setTop (mkF m 75 #[.val (.ref r0), .val (.int i1), .val (.int (1 : Int32))] [])) _
            refine XS.iloadN X0.here hx rfl (hb hby own_d6_75) rfl ?_
            show Steps p.tables e below (s₁.setTop (mkF m 76 #[.val (.ref r0), .val (.int i1), .val (.int (1 : Int32))] [(.int i1)])) _
            refine XS.sipush X0.here hx rfl (hb hby own_d6_76) ?_
            exact kt
          by_cases hc16 : (239 : Int32) < i1
          · -- pc 79
            refine ownE.go (T' := s₁) (f' := (mkF m 90 #[.val (.ref r0), .val (.int i1), .val (.int (1 : Int32))] [])) (fun t kt => XS.icmpYes (g := (mkF m 79 #[.val (.ref r0), .val (.int i1), .val (.int (1 : Int32))] [(.int (239 : Int32)), (.int i1)])) X0.here hx rfl (pc0 := 79) (pc' := 90) rfl (hb hby own_d6_79) rfl (Jvm.Free.XT.ii_gt_t hc16) (by decide) (by decide) kt) ?_
            refine ownE.go (T' := s₁) (f' := (mkF m 94 #[.val (.ref r0), .val (.int i1), .val (.int (1 : Int32))] [(.int (240 : Int32)), (.int i1)])) (fun t kt => ?_) ?_
            · show Steps p.tables e below (s₁.setTop (mkF m 90 #[.val (.ref r0), .val (.int i1), .val (.int (1 : Int32))] [])) _
              refine XS.iloadN X0.here hx rfl (hb hby own_d6_90) rfl ?_
              show Steps p.tables e below (s₁.setTop (mkF m 91 #[.val (.ref r0), .val (.int i1), .val (.int (1 : Int32))] [(.int i1)])) _
              refine XS.sipush X0.here hx rfl (hb hby own_d6_91) ?_
              exact kt
            by_cases hc17 : i1 = (240 : Int32)
            · -- pc 94
              refine ownE.go (T' := s₁) (f' := (mkF m 97 #[.val (.ref r0), .val (.int i1), .val (.int (1 : Int32))] [])) (fun t kt => XS.icmpNo (g := (mkF m 94 #[.val (.ref r0), .val (.int i1), .val (.int (1 : Int32))] [(.int (240 : Int32)), (.int i1)])) X0.here hx rfl (hb hby own_d6_94) rfl (Jvm.Free.XT.ii_ne_f hc17) kt) ?_
              refine ownE.go (T' := s₁) (f' := (mkF m 99 #[.val (.ref r0), .val (.int i1), .val (.int (1 : Int32))] [(.int (3 : Int32)), (.ref r0)])) (fun t kt => ?_) ?_
              · show Steps p.tables e below (s₁.setTop (mkF m 97 #[.val (.ref r0), .val (.int i1), .val (.int (1 : Int32))] [])) _
                refine XS.aloadN X0.here hx rfl (hb hby own_d6_97) rfl rfl ?_
                show Steps p.tables e below (s₁.setTop (mkF m 98 #[.val (.ref r0), .val (.int i1), .val (.int (1 : Int32))] [(.ref r0)])) _
                refine XS.iconst X0.here hx rfl (hb hby own_d6_98) ?_
                exact kt
              obtain ⟨T18, h18, X18, e18, W18, st18⟩ := putF X0 hx hZ hown (host := "") (Or.inl (hw _ (List.mem_of_getElem? (i := 23) rfl))) Via.refl e0 P1 P0 (Or.inl (hw _ (List.mem_of_getElem? (i := 24) rfl))) (hw _ (List.mem_of_getElem? (i := 6) rfl)) (ty := .int) (by decide) rfl rfl (g := (mkF m 99 #[.val (.ref r0), .val (.int i1), .val (.int (1 : Int32))] [(.int (3 : Int32)), (.ref r0)])) rfl rfl (hb hby own_d6_99)
              have Fw18 : Fld Z h18 r0 "com/example/marrow/marrow/Utf8Checker" "pending" "I" (.int (3 : Int32)) := P1.same W18
              have cExa_r0_18 : Exa Z h18 r0 "com/example/marrow/marrow/Utf8Checker" := P0.wr W18
              have cFld_r0_lowest_18 : Fld Z h18 r0 "com/example/marrow/marrow/Utf8Checker" "lowest" "I" (.int lo) := P2.other W18 (Or.inr (slot_ne (Or.inl (hw _ (List.mem_of_getElem? (i := 15) rfl))) (Or.inl (hw _ (List.mem_of_getElem? (i := 24) rfl))) (by decide) (t := .int) (t' := .int) (by decide) (by decide)))
              have cFld_r0_highest_18 : Fld Z h18 r0 "com/example/marrow/marrow/Utf8Checker" "highest" "I" (.int hi) := P3.other W18 (Or.inr (slot_ne (Or.inl (hw _ (List.mem_of_getElem? (i := 17) rfl))) (Or.inl (hw _ (List.mem_of_getElem? (i := 24) rfl))) (by decide) (t := .int) (t' := .int) (by decide) (by decide)))
              have K18 : Keep h0 h18 [r0] := K0.wr W18 (Or.inl (List.mem_of_getElem? (i := 0) rfl))
              have N18 := Fr.snoc X18 N0 P4
              refine ownE.go (T' := T18) (f' := (mkF m 102 #[.val (.ref r0), .val (.int i1), .val (.int (1 : Int32))] [])) st18 ?_
              refine ownE.go (T' := T18) (f' := (mkF m 106 #[.val (.ref r0), .val (.int i1), .val (.int (1 : Int32))] [(.int (144 : Int32)), (.ref r0)])) (fun t kt => ?_) ?_
              · show Steps p.tables e below (T18.setTop (mkF m 102 #[.val (.ref r0), .val (.int i1), .val (.int (1 : Int32))] [])) _
                refine XS.aloadN X18.here hx rfl (hb hby own_d6_102) rfl rfl ?_
                show Steps p.tables e below (T18.setTop (mkF m 103 #[.val (.ref r0), .val (.int i1), .val (.int (1 : Int32))] [(.ref r0)])) _
                refine XS.sipush X18.here hx rfl (hb hby own_d6_103) ?_
                exact kt
              obtain ⟨T19, h19, X19, e19, W19, st19⟩ := putF X18 hx hZ hown (host := "") (Or.inl (hw _ (List.mem_of_getElem? (i := 14) rfl))) Via.refl e18 cFld_r0_lowest_18 cExa_r0_18 (Or.inl (hw _ (List.mem_of_getElem? (i := 15) rfl))) (hw _ (List.mem_of_getElem? (i := 6) rfl)) (ty := .int) (by decide) rfl rfl (g := (mkF m 106 #[.val (.ref r0), .val (.int i1), .val (.int (1 : Int32))] [(.int (144 : Int32)), (.ref r0)])) rfl rfl (hb hby own_d6_106)
              have Fw19 : Fld Z h19 r0 "com/example/marrow/marrow/Utf8Checker" "lowest" "I" (.int (144 : Int32)) := cFld_r0_lowest_18.same W19
              have cExa_r0_19 : Exa Z h19 r0 "com/example/marrow/marrow/Utf8Checker" := cExa_r0_18.wr W19
              have cFld_r0_pending_19 : Fld Z h19 r0 "com/example/marrow/marrow/Utf8Checker" "pending" "I" (.int (3 : Int32)) := Fw18.other W19 (Or.inr (slot_ne (Or.inl (hw _ (List.mem_of_getElem? (i := 24) rfl))) (Or.inl (hw _ (List.mem_of_getElem? (i := 15) rfl))) (by decide) (t := .int) (t' := .int) (by decide) (by decide)))
              have cFld_r0_highest_19 : Fld Z h19 r0 "com/example/marrow/marrow/Utf8Checker" "highest" "I" (.int hi) := cFld_r0_highest_18.other W19 (Or.inr (slot_ne (Or.inl (hw _ (List.mem_of_getElem? (i := 17) rfl))) (Or.inl (hw _ (List.mem_of_getElem? (i := 15) rfl))) (by decide) (t := .int) (t' := .int) (by decide) (by decide)))
              have K19 : Keep h0 h19 [r0] := K18.wr W19 (Or.inl (List.mem_of_getElem? (i := 0) rfl))
              have N19 := Fr.snoc X19 N18 P4
              refine ownE.go (T' := T19) (f' := (mkF m 109 #[.val (.ref r0), .val (.int i1), .val (.int (1 : Int32))] [])) st19 ?_
              refine ownE.go (T' := T19) (f' := (mkF m 159 #[.val (.ref r0), .val (.int i1), .val (.int (1 : Int32))] [(.int (1 : Int32))])) (fun t kt => ?_) ?_
              · show Steps p.tables e below (T19.setTop (mkF m 109 #[.val (.ref r0), .val (.int i1), .val (.int (1 : Int32))] [])) _
                refine XS.goto X19.here hx rfl (pc0 := 109) (pc' := 158) rfl (hb hby own_d6_109) (by decide) (by decide) ?_
                show Steps p.tables e below (T19.setTop (mkF m 158 #[.val (.ref r0), .val (.int i1), .val (.int (1 : Int32))] [])) _
                refine XS.iloadN X19.here hx rfl (hb hby own_d6_158) rfl ?_
                exact kt
              refine ownE.retN X19 hx hlk (t := .boolean) hret (by simp) (hb hby own_d6_159) ?_ (by decide) (by decide)
              show own_Q6 Z r0 i1 pd lo hi h0 n0 _ T19.heap _
              rw [e19]
              exact ⟨(by rw [own_ld, if_neg hc1, if_pos hc8, if_neg hc9, if_neg hc12, if_pos hc16, if_pos hc17] <;> first | rfl | decide), N19, K19, cExa_r0_19, (by rw [own_lp, if_neg hc1, if_pos hc8, if_neg hc9, if_neg hc12, if_pos hc16, if_pos hc17]; exact cFld_r0_pending_19), (by rw [own_ll, if_neg hc1, if_pos hc8, if_neg hc9, if_neg hc12, if_pos hc16, if_pos hc17]; exact Fw19), (by rw [own_lh, if_neg hc1, if_pos hc8, if_neg hc9, if_neg hc12, if_pos hc16, if_pos hc17]; exact cFld_r0_highest_19)⟩
            · -- pc 94
              refine ownE.go (T' := s₁) (f' := (mkF m 112 #[.val (.ref r0), .val (.int i1), .val (.int (1 : Int32))] [])) (fun t kt => XS.icmpYes (g := (mkF m 94 #[.val (.ref r0), .val (.int i1), .val (.int (1 : Int32))] [(.int (240 : Int32)), (.int i1)])) X0.here hx rfl (pc0 := 94) (pc' := 112) rfl (hb hby own_d6_94) rfl (Jvm.Free.XT.ii_ne_t hc17) (by decide) (by decide) kt) ?_
              refine ownE.go (T' := s₁) (f' := (mkF m 116 #[.val (.ref r0), .val (.int i1), .val (.int (1 : Int32))] [(.int (241 : Int32)), (.int i1)])) (fun t kt => ?_) ?_
              · show Steps p.tables e below (s₁.setTop (mkF m 112 #[.val (.ref r0), .val (.int i1), .val (.int (1 : Int32))] [])) _
                refine XS.iloadN X0.here hx rfl (hb hby own_d6_112) rfl ?_
                show Steps p.tables e below (s₁.setTop (mkF m 113 #[.val (.ref r0), .val (.int i1), .val (.int (1 : Int32))] [(.int i1)])) _
                refine XS.sipush X0.here hx rfl (hb hby own_d6_113) ?_
                exact kt
              have hc20 : ¬ i1 < (241 : Int32) := by
                revert hc1 hc8 hc9 hc12 hc16 hc17
                simp only [Int32.lt_iff_toInt_lt, ← Int32.toInt_inj, own_z194, own_z223, own_z224, own_z237, own_z239, own_z240, own_z241]
                intros
                omega
              refine ownE.go (T' := s₁) (f' := (mkF m 119 #[.val (.ref r0), .val (.int i1), .val (.int (1 : Int32))] [])) (fun t kt => XS.icmpNo (g := (mkF m 116 #[.val (.ref r0), .val (.int i1), .val (.int (1 : Int32))] [(.int (241 : Int32)), (.int i1)])) X0.here hx rfl (hb hby own_d6_116) rfl (Jvm.Free.XT.ii_lt_f hc20) kt) ?_
              refine ownE.go (T' := s₁) (f' := (mkF m 123 #[.val (.ref r0), .val (.int i1), .val (.int (1 : Int32))] [(.int (243 : Int32)), (.int i1)])) (fun t kt => ?_) ?_
              · show Steps p.tables e below (s₁.setTop (mkF m 119 #[.val (.ref r0), .val (.int i1), .val (.int (1 : Int32))] [])) _
                refine XS.iloadN X0.here hx rfl (hb hby own_d6_119) rfl ?_
                show Steps p.tables e below (s₁.setTop (mkF m 120 #[.val (.ref r0), .val (.int i1), .val (.int (1 : Int32))] [(.int i1)])) _
                refine XS.sipush X0.here hx rfl (hb hby own_d6_120) ?_
                exact kt
              by_cases hc21 : (243 : Int32) < i1
              · -- pc 123
                refine ownE.go (T' := s₁) (f' := (mkF m 134 #[.val (.ref r0), .val (.int i1), .val (.int (1 : Int32))] [])) (fun t kt => XS.icmpYes (g := (mkF m 123 #[.val (.ref r0), .val (.int i1), .val (.int (1 : Int32))] [(.int (243 : Int32)), (.int i1)])) X0.here hx rfl (pc0 := 123) (pc' := 134) rfl (hb hby own_d6_123) rfl (Jvm.Free.XT.ii_gt_t hc21) (by decide) (by decide) kt) ?_
                refine ownE.go (T' := s₁) (f' := (mkF m 138 #[.val (.ref r0), .val (.int i1), .val (.int (1 : Int32))] [(.int (244 : Int32)), (.int i1)])) (fun t kt => ?_) ?_
                · show Steps p.tables e below (s₁.setTop (mkF m 134 #[.val (.ref r0), .val (.int i1), .val (.int (1 : Int32))] [])) _
                  refine XS.iloadN X0.here hx rfl (hb hby own_d6_134) rfl ?_
                  show Steps p.tables e below (s₁.setTop (mkF m 135 #[.val (.ref r0), .val (.int i1), .val (.int (1 : Int32))] [(.int i1)])) _
                  refine XS.sipush X0.here hx rfl (hb hby own_d6_135) ?_
                  exact kt
                by_cases hc22 : i1 = (244 : Int32)
                · -- pc 138
                  refine ownE.go (T' := s₁) (f' := (mkF m 141 #[.val (.ref r0), .val (.int i1), .val (.int (1 : Int32))] [])) (fun t kt => XS.icmpNo (g := (mkF m 138 #[.val (.ref r0), .val (.int i1), .val (.int (1 : Int32))] [(.int (244 : Int32)), (.int i1)])) X0.here hx rfl (hb hby own_d6_138) rfl (Jvm.Free.XT.ii_ne_f hc22) kt) ?_
                  refine ownE.go (T' := s₁) (f' := (mkF m 143 #[.val (.ref r0), .val (.int i1), .val (.int (1 : Int32))] [(.int (3 : Int32)), (.ref r0)])) (fun t kt => ?_) ?_
                  · show Steps p.tables e below (s₁.setTop (mkF m 141 #[.val (.ref r0), .val (.int i1), .val (.int (1 : Int32))] [])) _
                    refine XS.aloadN X0.here hx rfl (hb hby own_d6_141) rfl rfl ?_
                    show Steps p.tables e below (s₁.setTop (mkF m 142 #[.val (.ref r0), .val (.int i1), .val (.int (1 : Int32))] [(.ref r0)])) _
                    refine XS.iconst X0.here hx rfl (hb hby own_d6_142) ?_
                    exact kt
                  obtain ⟨T23, h23, X23, e23, W23, st23⟩ := putF X0 hx hZ hown (host := "") (Or.inl (hw _ (List.mem_of_getElem? (i := 23) rfl))) Via.refl e0 P1 P0 (Or.inl (hw _ (List.mem_of_getElem? (i := 24) rfl))) (hw _ (List.mem_of_getElem? (i := 6) rfl)) (ty := .int) (by decide) rfl rfl (g := (mkF m 143 #[.val (.ref r0), .val (.int i1), .val (.int (1 : Int32))] [(.int (3 : Int32)), (.ref r0)])) rfl rfl (hb hby own_d6_143)
                  have Fw23 : Fld Z h23 r0 "com/example/marrow/marrow/Utf8Checker" "pending" "I" (.int (3 : Int32)) := P1.same W23
                  have cExa_r0_23 : Exa Z h23 r0 "com/example/marrow/marrow/Utf8Checker" := P0.wr W23
                  have cFld_r0_lowest_23 : Fld Z h23 r0 "com/example/marrow/marrow/Utf8Checker" "lowest" "I" (.int lo) := P2.other W23 (Or.inr (slot_ne (Or.inl (hw _ (List.mem_of_getElem? (i := 15) rfl))) (Or.inl (hw _ (List.mem_of_getElem? (i := 24) rfl))) (by decide) (t := .int) (t' := .int) (by decide) (by decide)))
                  have cFld_r0_highest_23 : Fld Z h23 r0 "com/example/marrow/marrow/Utf8Checker" "highest" "I" (.int hi) := P3.other W23 (Or.inr (slot_ne (Or.inl (hw _ (List.mem_of_getElem? (i := 17) rfl))) (Or.inl (hw _ (List.mem_of_getElem? (i := 24) rfl))) (by decide) (t := .int) (t' := .int) (by decide) (by decide)))
                  have K23 : Keep h0 h23 [r0] := K0.wr W23 (Or.inl (List.mem_of_getElem? (i := 0) rfl))
                  have N23 := Fr.snoc X23 N0 P4
                  refine ownE.go (T' := T23) (f' := (mkF m 146 #[.val (.ref r0), .val (.int i1), .val (.int (1 : Int32))] [])) st23 ?_
                  refine ownE.go (T' := T23) (f' := (mkF m 150 #[.val (.ref r0), .val (.int i1), .val (.int (1 : Int32))] [(.int (143 : Int32)), (.ref r0)])) (fun t kt => ?_) ?_
                  · show Steps p.tables e below (T23.setTop (mkF m 146 #[.val (.ref r0), .val (.int i1), .val (.int (1 : Int32))] [])) _
                    refine XS.aloadN X23.here hx rfl (hb hby own_d6_146) rfl rfl ?_
                    show Steps p.tables e below (T23.setTop (mkF m 147 #[.val (.ref r0), .val (.int i1), .val (.int (1 : Int32))] [(.ref r0)])) _
                    refine XS.sipush X23.here hx rfl (hb hby own_d6_147) ?_
                    exact kt
                  obtain ⟨T24, h24, X24, e24, W24, st24⟩ := putF X23 hx hZ hown (host := "") (Or.inl (hw _ (List.mem_of_getElem? (i := 16) rfl))) Via.refl e23 cFld_r0_highest_23 cExa_r0_23 (Or.inl (hw _ (List.mem_of_getElem? (i := 17) rfl))) (hw _ (List.mem_of_getElem? (i := 6) rfl)) (ty := .int) (by decide) rfl rfl (g := (mkF m 150 #[.val (.ref r0), .val (.int i1), .val (.int (1 : Int32))] [(.int (143 : Int32)), (.ref r0)])) rfl rfl (hb hby own_d6_150)
                  have Fw24 : Fld Z h24 r0 "com/example/marrow/marrow/Utf8Checker" "highest" "I" (.int (143 : Int32)) := cFld_r0_highest_23.same W24
                  have cExa_r0_24 : Exa Z h24 r0 "com/example/marrow/marrow/Utf8Checker" := cExa_r0_23.wr W24
                  have cFld_r0_pending_24 : Fld Z h24 r0 "com/example/marrow/marrow/Utf8Checker" "pending" "I" (.int (3 : Int32)) := Fw23.other W24 (Or.inr (slot_ne (Or.inl (hw _ (List.mem_of_getElem? (i := 24) rfl))) (Or.inl (hw _ (List.mem_of_getElem? (i := 17) rfl))) (by decide) (t := .int) (t' := .int) (by decide) (by decide)))
                  have cFld_r0_lowest_24 : Fld Z h24 r0 "com/example/marrow/marrow/Utf8Checker" "lowest" "I" (.int lo) := cFld_r0_lowest_23.other W24 (Or.inr (slot_ne (Or.inl (hw _ (List.mem_of_getElem? (i := 15) rfl))) (Or.inl (hw _ (List.mem_of_getElem? (i := 17) rfl))) (by decide) (t := .int) (t' := .int) (by decide) (by decide)))
                  have K24 : Keep h0 h24 [r0] := K23.wr W24 (Or.inl (List.mem_of_getElem? (i := 0) rfl))
                  have N24 := Fr.snoc X24 N23 P4
                  refine ownE.go (T' := T24) (f' := (mkF m 153 #[.val (.ref r0), .val (.int i1), .val (.int (1 : Int32))] [])) st24 ?_
                  refine ownE.go (T' := T24) (f' := (mkF m 159 #[.val (.ref r0), .val (.int i1), .val (.int (1 : Int32))] [(.int (1 : Int32))])) (fun t kt => ?_) ?_
                  · show Steps p.tables e below (T24.setTop (mkF m 153 #[.val (.ref r0), .val (.int i1), .val (.int (1 : Int32))] [])) _
                    refine XS.goto X24.here hx rfl (pc0 := 153) (pc' := 158) rfl (hb hby own_d6_153) (by decide) (by decide) ?_
                    show Steps p.tables e below (T24.setTop (mkF m 158 #[.val (.ref r0), .val (.int i1), .val (.int (1 : Int32))] [])) _
                    refine XS.iloadN X24.here hx rfl (hb hby own_d6_158) rfl ?_
                    exact kt
                  refine ownE.retN X24 hx hlk (t := .boolean) hret (by simp) (hb hby own_d6_159) ?_ (by decide) (by decide)
                  show own_Q6 Z r0 i1 pd lo hi h0 n0 _ T24.heap _
                  rw [e24]
                  exact ⟨(by rw [own_ld, if_neg hc1, if_pos hc8, if_neg hc9, if_neg hc12, if_pos hc16, if_neg hc17, if_pos hc21, if_pos hc22] <;> first | rfl | decide), N24, K24, cExa_r0_24, (by rw [own_lp, if_neg hc1, if_pos hc8, if_neg hc9, if_neg hc12, if_pos hc16, if_neg hc17, if_pos hc21, if_pos hc22]; exact cFld_r0_pending_24), (by rw [own_ll, if_neg hc1, if_pos hc8, if_neg hc9, if_neg hc12, if_pos hc16, if_neg hc17, if_pos hc21, if_pos hc22]; exact cFld_r0_lowest_24), (by rw [own_lh, if_neg hc1, if_pos hc8, if_neg hc9, if_neg hc12, if_pos hc16, if_neg hc17, if_pos hc21, if_pos hc22]; exact Fw24)⟩
                · -- pc 138
                  refine ownE.go (T' := s₁) (f' := (mkF m 156 #[.val (.ref r0), .val (.int i1), .val (.int (1 : Int32))] [])) (fun t kt => XS.icmpYes (g := (mkF m 138 #[.val (.ref r0), .val (.int i1), .val (.int (1 : Int32))] [(.int (244 : Int32)), (.int i1)])) X0.here hx rfl (pc0 := 138) (pc' := 156) rfl (hb hby own_d6_138) rfl (Jvm.Free.XT.ii_ne_t hc22) (by decide) (by decide) kt) ?_
                  refine ownE.go (T' := s₁) (f' := (mkF m 159 #[.val (.ref r0), .val (.int i1), .val (.int (0 : Int32))] [(.int (0 : Int32))])) (fun t kt => ?_) ?_
                  · show Steps p.tables e below (s₁.setTop (mkF m 156 #[.val (.ref r0), .val (.int i1), .val (.int (1 : Int32))] [])) _
                    refine XS.iconst X0.here hx rfl (hb hby own_d6_156) ?_
                    show Steps p.tables e below (s₁.setTop (mkF m 157 #[.val (.ref r0), .val (.int i1), .val (.int (1 : Int32))] [(.int (0 : Int32))])) _
                    refine XS.istoreN X0.here hx rfl (hb hby own_d6_157) rfl (l' := #[.val (.ref r0), .val (.int i1), .val (.int (0 : Int32))]) rfl ?_
                    show Steps p.tables e below (s₁.setTop (mkF m 158 #[.val (.ref r0), .val (.int i1), .val (.int (0 : Int32))] [])) _
                    refine XS.iloadN X0.here hx rfl (hb hby own_d6_158) rfl ?_
                    exact kt
                  refine ownE.retN X0 hx hlk (t := .boolean) hret (by simp) (hb hby own_d6_159) ?_ (by decide) (by decide)
                  show own_Q6 Z r0 i1 pd lo hi h0 n0 _ s₁.heap _
                  rw [e0]
                  exact ⟨(by rw [own_ld, if_neg hc1, if_pos hc8, if_neg hc9, if_neg hc12, if_pos hc16, if_neg hc17, if_pos hc21, if_neg hc22] <;> first | rfl | decide), N0, K0, P0, (by rw [own_lp, if_neg hc1, if_pos hc8, if_neg hc9, if_neg hc12, if_pos hc16, if_neg hc17, if_pos hc21, if_neg hc22]; exact P1), (by rw [own_ll, if_neg hc1, if_pos hc8, if_neg hc9, if_neg hc12, if_pos hc16, if_neg hc17, if_pos hc21, if_neg hc22]; exact P2), (by rw [own_lh, if_neg hc1, if_pos hc8, if_neg hc9, if_neg hc12, if_pos hc16, if_neg hc17, if_pos hc21, if_neg hc22]; exact P3)⟩
              · -- pc 123
                refine ownE.go (T' := s₁) (f' := (mkF m 126 #[.val (.ref r0), .val (.int i1), .val (.int (1 : Int32))] [])) (fun t kt => XS.icmpNo (g := (mkF m 123 #[.val (.ref r0), .val (.int i1), .val (.int (1 : Int32))] [(.int (243 : Int32)), (.int i1)])) X0.here hx rfl (hb hby own_d6_123) rfl (Jvm.Free.XT.ii_gt_f hc21) kt) ?_
                refine ownE.go (T' := s₁) (f' := (mkF m 128 #[.val (.ref r0), .val (.int i1), .val (.int (1 : Int32))] [(.int (3 : Int32)), (.ref r0)])) (fun t kt => ?_) ?_
                · show Steps p.tables e below (s₁.setTop (mkF m 126 #[.val (.ref r0), .val (.int i1), .val (.int (1 : Int32))] [])) _
                  refine XS.aloadN X0.here hx rfl (hb hby own_d6_126) rfl rfl ?_
                  show Steps p.tables e below (s₁.setTop (mkF m 127 #[.val (.ref r0), .val (.int i1), .val (.int (1 : Int32))] [(.ref r0)])) _
                  refine XS.iconst X0.here hx rfl (hb hby own_d6_127) ?_
                  exact kt
                obtain ⟨T25, h25, X25, e25, W25, st25⟩ := putF X0 hx hZ hown (host := "") (Or.inl (hw _ (List.mem_of_getElem? (i := 23) rfl))) Via.refl e0 P1 P0 (Or.inl (hw _ (List.mem_of_getElem? (i := 24) rfl))) (hw _ (List.mem_of_getElem? (i := 6) rfl)) (ty := .int) (by decide) rfl rfl (g := (mkF m 128 #[.val (.ref r0), .val (.int i1), .val (.int (1 : Int32))] [(.int (3 : Int32)), (.ref r0)])) rfl rfl (hb hby own_d6_128)
                have Fw25 : Fld Z h25 r0 "com/example/marrow/marrow/Utf8Checker" "pending" "I" (.int (3 : Int32)) := P1.same W25
                have cExa_r0_25 : Exa Z h25 r0 "com/example/marrow/marrow/Utf8Checker" := P0.wr W25
                have cFld_r0_lowest_25 : Fld Z h25 r0 "com/example/marrow/marrow/Utf8Checker" "lowest" "I" (.int lo) := P2.other W25 (Or.inr (slot_ne (Or.inl (hw _ (List.mem_of_getElem? (i := 15) rfl))) (Or.inl (hw _ (List.mem_of_getElem? (i := 24) rfl))) (by decide) (t := .int) (t' := .int) (by decide) (by decide)))
                have cFld_r0_highest_25 : Fld Z h25 r0 "com/example/marrow/marrow/Utf8Checker" "highest" "I" (.int hi) := P3.other W25 (Or.inr (slot_ne (Or.inl (hw _ (List.mem_of_getElem? (i := 17) rfl))) (Or.inl (hw _ (List.mem_of_getElem? (i := 24) rfl))) (by decide) (t := .int) (t' := .int) (by decide) (by decide)))
                have K25 : Keep h0 h25 [r0] := K0.wr W25 (Or.inl (List.mem_of_getElem? (i := 0) rfl))
                have N25 := Fr.snoc X25 N0 P4
                refine ownE.go (T' := T25) (f' := (mkF m 131 #[.val (.ref r0), .val (.int i1), .val (.int (1 : Int32))] [])) st25 ?_
                refine ownE.go (T' := T25) (f' := (mkF m 159 #[.val (.ref r0), .val (.int i1), .val (.int (1 : Int32))] [(.int (1 : Int32))])) (fun t kt => ?_) ?_
                · show Steps p.tables e below (T25.setTop (mkF m 131 #[.val (.ref r0), .val (.int i1), .val (.int (1 : Int32))] [])) _
                  refine XS.goto X25.here hx rfl (pc0 := 131) (pc' := 158) rfl (hb hby own_d6_131) (by decide) (by decide) ?_
                  show Steps p.tables e below (T25.setTop (mkF m 158 #[.val (.ref r0), .val (.int i1), .val (.int (1 : Int32))] [])) _
                  refine XS.iloadN X25.here hx rfl (hb hby own_d6_158) rfl ?_
                  exact kt
                refine ownE.retN X25 hx hlk (t := .boolean) hret (by simp) (hb hby own_d6_159) ?_ (by decide) (by decide)
                show own_Q6 Z r0 i1 pd lo hi h0 n0 _ T25.heap _
                rw [e25]
                exact ⟨(by rw [own_ld, if_neg hc1, if_pos hc8, if_neg hc9, if_neg hc12, if_pos hc16, if_neg hc17, if_neg hc21] <;> first | rfl | decide), N25, K25, cExa_r0_25, (by rw [own_lp, if_neg hc1, if_pos hc8, if_neg hc9, if_neg hc12, if_pos hc16, if_neg hc17, if_neg hc21]; exact Fw25), (by rw [own_ll, if_neg hc1, if_pos hc8, if_neg hc9, if_neg hc12, if_pos hc16, if_neg hc17, if_neg hc21]; exact cFld_r0_lowest_25), (by rw [own_lh, if_neg hc1, if_pos hc8, if_neg hc9, if_neg hc12, if_pos hc16, if_neg hc17, if_neg hc21]; exact cFld_r0_highest_25)⟩
          · -- pc 79
            refine ownE.go (T' := s₁) (f' := (mkF m 82 #[.val (.ref r0), .val (.int i1), .val (.int (1 : Int32))] [])) (fun t kt => XS.icmpNo (g := (mkF m 79 #[.val (.ref r0), .val (.int i1), .val (.int (1 : Int32))] [(.int (239 : Int32)), (.int i1)])) X0.here hx rfl (hb hby own_d6_79) rfl (Jvm.Free.XT.ii_gt_f hc16) kt) ?_
            refine ownE.go (T' := s₁) (f' := (mkF m 84 #[.val (.ref r0), .val (.int i1), .val (.int (1 : Int32))] [(.int (2 : Int32)), (.ref r0)])) (fun t kt => ?_) ?_
            · show Steps p.tables e below (s₁.setTop (mkF m 82 #[.val (.ref r0), .val (.int i1), .val (.int (1 : Int32))] [])) _
              refine XS.aloadN X0.here hx rfl (hb hby own_d6_82) rfl rfl ?_
              show Steps p.tables e below (s₁.setTop (mkF m 83 #[.val (.ref r0), .val (.int i1), .val (.int (1 : Int32))] [(.ref r0)])) _
              refine XS.iconst X0.here hx rfl (hb hby own_d6_83) ?_
              exact kt
            obtain ⟨T26, h26, X26, e26, W26, st26⟩ := putF X0 hx hZ hown (host := "") (Or.inl (hw _ (List.mem_of_getElem? (i := 23) rfl))) Via.refl e0 P1 P0 (Or.inl (hw _ (List.mem_of_getElem? (i := 24) rfl))) (hw _ (List.mem_of_getElem? (i := 6) rfl)) (ty := .int) (by decide) rfl rfl (g := (mkF m 84 #[.val (.ref r0), .val (.int i1), .val (.int (1 : Int32))] [(.int (2 : Int32)), (.ref r0)])) rfl rfl (hb hby own_d6_84)
            have Fw26 : Fld Z h26 r0 "com/example/marrow/marrow/Utf8Checker" "pending" "I" (.int (2 : Int32)) := P1.same W26
            have cExa_r0_26 : Exa Z h26 r0 "com/example/marrow/marrow/Utf8Checker" := P0.wr W26
            have cFld_r0_lowest_26 : Fld Z h26 r0 "com/example/marrow/marrow/Utf8Checker" "lowest" "I" (.int lo) := P2.other W26 (Or.inr (slot_ne (Or.inl (hw _ (List.mem_of_getElem? (i := 15) rfl))) (Or.inl (hw _ (List.mem_of_getElem? (i := 24) rfl))) (by decide) (t := .int) (t' := .int) (by decide) (by decide)))
            have cFld_r0_highest_26 : Fld Z h26 r0 "com/example/marrow/marrow/Utf8Checker" "highest" "I" (.int hi) := P3.other W26 (Or.inr (slot_ne (Or.inl (hw _ (List.mem_of_getElem? (i := 17) rfl))) (Or.inl (hw _ (List.mem_of_getElem? (i := 24) rfl))) (by decide) (t := .int) (t' := .int) (by decide) (by decide)))
            have K26 : Keep h0 h26 [r0] := K0.wr W26 (Or.inl (List.mem_of_getElem? (i := 0) rfl))
            have N26 := Fr.snoc X26 N0 P4
            refine ownE.go (T' := T26) (f' := (mkF m 87 #[.val (.ref r0), .val (.int i1), .val (.int (1 : Int32))] [])) st26 ?_
            refine ownE.go (T' := T26) (f' := (mkF m 159 #[.val (.ref r0), .val (.int i1), .val (.int (1 : Int32))] [(.int (1 : Int32))])) (fun t kt => ?_) ?_
            · show Steps p.tables e below (T26.setTop (mkF m 87 #[.val (.ref r0), .val (.int i1), .val (.int (1 : Int32))] [])) _
              refine XS.goto X26.here hx rfl (pc0 := 87) (pc' := 158) rfl (hb hby own_d6_87) (by decide) (by decide) ?_
              show Steps p.tables e below (T26.setTop (mkF m 158 #[.val (.ref r0), .val (.int i1), .val (.int (1 : Int32))] [])) _
              refine XS.iloadN X26.here hx rfl (hb hby own_d6_158) rfl ?_
              exact kt
            refine ownE.retN X26 hx hlk (t := .boolean) hret (by simp) (hb hby own_d6_159) ?_ (by decide) (by decide)
            show own_Q6 Z r0 i1 pd lo hi h0 n0 _ T26.heap _
            rw [e26]
            exact ⟨(by rw [own_ld, if_neg hc1, if_pos hc8, if_neg hc9, if_neg hc12, if_neg hc16] <;> first | rfl | decide), N26, K26, cExa_r0_26, (by rw [own_lp, if_neg hc1, if_pos hc8, if_neg hc9, if_neg hc12, if_neg hc16]; exact Fw26), (by rw [own_ll, if_neg hc1, if_pos hc8, if_neg hc9, if_neg hc12, if_neg hc16]; exact cFld_r0_lowest_26), (by rw [own_lh, if_neg hc1, if_pos hc8, if_neg hc9, if_neg hc12, if_neg hc16]; exact cFld_r0_highest_26)⟩
    · -- pc 13
      refine ownE.go (T' := s₁) (f' := (mkF m 16 #[.val (.ref r0), .val (.int i1), .val (.int (1 : Int32))] [])) (fun t kt => XS.icmpNo (g := (mkF m 13 #[.val (.ref r0), .val (.int i1), .val (.int (1 : Int32))] [(.int (223 : Int32)), (.int i1)])) X0.here hx rfl (hb hby own_d6_13) rfl (Jvm.Free.XT.ii_gt_f hc8) kt) ?_
      refine ownE.go (T' := s₁) (f' := (mkF m 18 #[.val (.ref r0), .val (.int i1), .val (.int (1 : Int32))] [(.int (1 : Int32)), (.ref r0)])) (fun t kt => ?_) ?_
      · show Steps p.tables e below (s₁.setTop (mkF m 16 #[.val (.ref r0), .val (.int i1), .val (.int (1 : Int32))] [])) _
        refine XS.aloadN X0.here hx rfl (hb hby own_d6_16) rfl rfl ?_
        show Steps p.tables e below (s₁.setTop (mkF m 17 #[.val (.ref r0), .val (.int i1), .val (.int (1 : Int32))] [(.ref r0)])) _
        refine XS.iconst X0.here hx rfl (hb hby own_d6_17) ?_
        exact kt
      obtain ⟨T27, h27, X27, e27, W27, st27⟩ := putF X0 hx hZ hown (host := "") (Or.inl (hw _ (List.mem_of_getElem? (i := 23) rfl))) Via.refl e0 P1 P0 (Or.inl (hw _ (List.mem_of_getElem? (i := 24) rfl))) (hw _ (List.mem_of_getElem? (i := 6) rfl)) (ty := .int) (by decide) rfl rfl (g := (mkF m 18 #[.val (.ref r0), .val (.int i1), .val (.int (1 : Int32))] [(.int (1 : Int32)), (.ref r0)])) rfl rfl (hb hby own_d6_18)
      have Fw27 : Fld Z h27 r0 "com/example/marrow/marrow/Utf8Checker" "pending" "I" (.int (1 : Int32)) := P1.same W27
      have cExa_r0_27 : Exa Z h27 r0 "com/example/marrow/marrow/Utf8Checker" := P0.wr W27
      have cFld_r0_lowest_27 : Fld Z h27 r0 "com/example/marrow/marrow/Utf8Checker" "lowest" "I" (.int lo) := P2.other W27 (Or.inr (slot_ne (Or.inl (hw _ (List.mem_of_getElem? (i := 15) rfl))) (Or.inl (hw _ (List.mem_of_getElem? (i := 24) rfl))) (by decide) (t := .int) (t' := .int) (by decide) (by decide)))
      have cFld_r0_highest_27 : Fld Z h27 r0 "com/example/marrow/marrow/Utf8Checker" "highest" "I" (.int hi) := P3.other W27 (Or.inr (slot_ne (Or.inl (hw _ (List.mem_of_getElem? (i := 17) rfl))) (Or.inl (hw _ (List.mem_of_getElem? (i := 24) rfl))) (by decide) (t := .int) (t' := .int) (by decide) (by decide)))
      have K27 : Keep h0 h27 [r0] := K0.wr W27 (Or.inl (List.mem_of_getElem? (i := 0) rfl))
      have N27 := Fr.snoc X27 N0 P4
      refine ownE.go (T' := T27) (f' := (mkF m 21 #[.val (.ref r0), .val (.int i1), .val (.int (1 : Int32))] [])) st27 ?_
      refine ownE.go (T' := T27) (f' := (mkF m 159 #[.val (.ref r0), .val (.int i1), .val (.int (1 : Int32))] [(.int (1 : Int32))])) (fun t kt => ?_) ?_
      · show Steps p.tables e below (T27.setTop (mkF m 21 #[.val (.ref r0), .val (.int i1), .val (.int (1 : Int32))] [])) _
        refine XS.goto X27.here hx rfl (pc0 := 21) (pc' := 158) rfl (hb hby own_d6_21) (by decide) (by decide) ?_
        show Steps p.tables e below (T27.setTop (mkF m 158 #[.val (.ref r0), .val (.int i1), .val (.int (1 : Int32))] [])) _
        refine XS.iloadN X27.here hx rfl (hb hby own_d6_158) rfl ?_
        exact kt
      refine ownE.retN X27 hx hlk (t := .boolean) hret (by simp) (hb hby own_d6_159) ?_ (by decide) (by decide)
      show own_Q6 Z r0 i1 pd lo hi h0 n0 _ T27.heap _
      rw [e27]
      exact ⟨(by rw [own_ld, if_neg hc1, if_neg hc8] <;> first | rfl | decide), N27, K27, cExa_r0_27, (by rw [own_lp, if_neg hc1, if_neg hc8]; exact Fw27), (by rw [own_ll, if_neg hc1, if_neg hc8]; exact cFld_r0_lowest_27), (by rw [own_lh, if_neg hc1, if_neg hc8]; exact cFld_r0_highest_27)⟩
theorem own_le {i t n : Int32} (h : i < t) (h2 : ¬ n < t) : i < n := by
  rw [Int32.lt_iff_toInt_lt] at *
  omega
theorem own_nx {i t : Int32} {k : Nat} (h : i < t) (h0 : ¬ i < (0 : Int32)) (h4 : ¬ (4 : Int32) < t) (hf : 0 < k + 1 ∧ t.toInt - i.toInt < ((k + 1 : Nat) : Int)) : ¬ (i + (1 : Int32)) < (0 : Int32) ∧ (0 < k ∧ t.toInt - (i + (1 : Int32)).toInt < ((k : Nat) : Int)) := by
  rw [Int32.lt_iff_toInt_lt] at *
  have e := c_iadd i 1
  have r := rng32 (i + (1 : Int32))
  have z0 : (0 : Int32).toInt = 0 := by decide
  have z1 : (1 : Int32).toInt = 1 := by decide
  have z4 : (4 : Int32).toInt = 4 := by decide
  have ri := rng32 i
  omega
theorem own_fu {s t : Int32} (h0 : ¬ s < (0 : Int32)) (h4 : ¬ (4 : Int32) < t) : 0 < 5 ∧ t.toInt - s.toInt < ((5 : Nat) : Int) := by
  rw [Int32.lt_iff_toInt_lt] at *
  have z0 : (0 : Int32).toInt = 0 := by decide
  have z4 : (4 : Int32).toInt = 4 := by decide
  omega
def own_sel4 (j b0 b1 b2 b3 : Int32) : Int32 := [b0, b1, b2, b3].getD j.toNatClampNeg 0
theorem own_sel4_eq (j b0 b1 b2 b3 : Int32) : ([.int b0, .int b1, .int b2, .int b3] : List Value).getD j.toNatClampNeg (.int (0 : Int32)) = .int (own_sel4 j b0 b1 b2 b3) := by
  unfold own_sel4
  generalize j.toNatClampNeg = n
  match n with
  | 0 => rfl
  | 1 => rfl
  | 2 => rfl
  | 3 => rfl
  | n + 4 => simp
theorem own_pd2 : parseMethodDescriptor "(I)Z" = some ⟨[.int], some .boolean⟩ := by decide +kernel
def own_ck (i2 : Int32) (i3 : Int32) (pd : Int32) (lo : Int32) (hi : Int32) (b0 : Int32) (b1 : Int32) (b2 : Int32) (b3 : Int32) : Nat → Int32 → Int32 → Int32 → Int32 → Int32 × Int32 × Int32 × Int32
  | 0, _, _, _, _ => (0, 0, 0, 0)
  | k + 1, i, pe, lw, hg =>
    if i < i3 then
      if (0 : Int32) < pe then
        if ((own_sel4 i b0 b1 b2 b3) &&& (255 : Int32)) < lw then
          (i, pe, lw, hg)
        else
          if hg < ((own_sel4 i b0 b1 b2 b3) &&& (255 : Int32)) then
            (i, pe, lw, hg)
          else
            own_ck i2 i3 pd lo hi b0 b1 b2 b3 k (i + (1 : Int32)) (pe - (1 : Int32)) (128 : Int32) (191 : Int32)
      else
        if ((own_sel4 i b0 b1 b2 b3) &&& (255 : Int32)) < (128 : Int32) then
          own_ck i2 i3 pd lo hi b0 b1 b2 b3 k (i + (1 : Int32)) pe lw hg
        else
          if (own_ld ((own_sel4 i b0 b1 b2 b3) &&& (255 : Int32)) pe lw hg) = (0 : Int32) then
            (i, (own_lp ((own_sel4 i b0 b1 b2 b3) &&& (255 : Int32)) pe lw hg), (own_ll ((own_sel4 i b0 b1 b2 b3) &&& (255 : Int32)) pe lw hg), (own_lh ((own_sel4 i b0 b1 b2 b3) &&& (255 : Int32)) pe lw hg))
          else
            own_ck i2 i3 pd lo hi b0 b1 b2 b3 k (i + (1 : Int32)) (own_lp ((own_sel4 i b0 b1 b2 b3) &&& (255 : Int32)) pe lw hg) (own_ll ((own_sel4 i b0 b1 b2 b3) &&& (255 : Int32)) pe lw hg) (own_lh ((own_sel4 i b0 b1 b2 b3) &&& (255 : Int32)) pe lw hg)
    else
      ((-1 : Int32), pe, lw, hg)
theorem own_d5_0 : decode prog_50_method_5_code 0 = .ok (.iload_n 2, 1) := by decide +kernel
theorem own_d5_1 : decode prog_50_method_5_code 1 = .ok (.istore 4, 2) := by decide +kernel
theorem own_d5_3 : decode prog_50_method_5_code 3 = .ok (.iload 4, 2) := by decide +kernel
theorem own_d5_5 : decode prog_50_method_5_code 5 = .ok (.iload_n 3, 1) := by decide +kernel
theorem own_d5_6 : decode prog_50_method_5_code 6 = .ok (.if_icmp .ge 94, 3) := by decide +kernel
theorem own_d5_9 : decode prog_50_method_5_code 9 = .ok (.aload_n 1, 1) := by decide +kernel
theorem own_d5_10 : decode prog_50_method_5_code 10 = .ok (.iload 4, 2) := by decide +kernel
theorem own_d5_12 : decode prog_50_method_5_code 12 = .ok (.baload, 1) := by decide +kernel
theorem own_d5_13 : decode prog_50_method_5_code 13 = .ok (.sipush 255, 3) := by decide +kernel
theorem own_d5_16 : decode prog_50_method_5_code 16 = .ok (.iand, 1) := by decide +kernel
theorem own_d5_17 : decode prog_50_method_5_code 17 = .ok (.istore 5, 2) := by decide +kernel
theorem own_d5_19 : decode prog_50_method_5_code 19 = .ok (.aload_n 0, 1) := by decide +kernel
theorem own_d5_20 : decode prog_50_method_5_code 20 = .ok (.getfield 44, 3) := by decide +kernel
theorem own_d5_23 : decode prog_50_method_5_code 23 = .ok (.ifCond .le 51, 3) := by decide +kernel
theorem own_d5_26 : decode prog_50_method_5_code 26 = .ok (.iload 5, 2) := by decide +kernel
theorem own_d5_28 : decode prog_50_method_5_code 28 = .ok (.aload_n 0, 1) := by decide +kernel
theorem own_d5_29 : decode prog_50_method_5_code 29 = .ok (.getfield 7, 3) := by decide +kernel
theorem own_d5_32 : decode prog_50_method_5_code 32 = .ok (.if_icmp .lt 12, 3) := by decide +kernel
theorem own_d5_35 : decode prog_50_method_5_code 35 = .ok (.iload 5, 2) := by decide +kernel
theorem own_d5_37 : decode prog_50_method_5_code 37 = .ok (.aload_n 0, 1) := by decide +kernel
theorem own_d5_38 : decode prog_50_method_5_code 38 = .ok (.getfield 13, 3) := by decide +kernel
theorem own_d5_41 : decode prog_50_method_5_code 41 = .ok (.if_icmp .le 6, 3) := by decide +kernel
theorem own_d5_44 : decode prog_50_method_5_code 44 = .ok (.iload 4, 2) := by decide +kernel
theorem own_d5_46 : decode prog_50_method_5_code 46 = .ok (.ireturn, 1) := by decide +kernel
theorem own_d5_47 : decode prog_50_method_5_code 47 = .ok (.aload_n 0, 1) := by decide +kernel
theorem own_d5_48 : decode prog_50_method_5_code 48 = .ok (.sipush 128, 3) := by decide +kernel
theorem own_d5_51 : decode prog_50_method_5_code 51 = .ok (.putfield 7, 3) := by decide +kernel
theorem own_d5_54 : decode prog_50_method_5_code 54 = .ok (.aload_n 0, 1) := by decide +kernel
theorem own_d5_55 : decode prog_50_method_5_code 55 = .ok (.sipush 191, 3) := by decide +kernel
theorem own_d5_58 : decode prog_50_method_5_code 58 = .ok (.putfield 13, 3) := by decide +kernel
theorem own_d5_61 : decode prog_50_method_5_code 61 = .ok (.aload_n 0, 1) := by decide +kernel
theorem own_d5_62 : decode prog_50_method_5_code 62 = .ok (.dup, 1) := by decide +kernel
theorem own_d5_63 : decode prog_50_method_5_code 63 = .ok (.getfield 44, 3) := by decide +kernel
theorem own_d5_66 : decode prog_50_method_5_code 66 = .ok (.iconst 1, 1) := by decide +kernel
theorem own_d5_67 : decode prog_50_method_5_code 67 = .ok (.isub, 1) := by decide +kernel
theorem own_d5_68 : decode prog_50_method_5_code 68 = .ok (.putfield 44, 3) := by decide +kernel
theorem own_d5_71 : decode prog_50_method_5_code 71 = .ok (.goto 23, 3) := by decide +kernel
theorem own_d5_74 : decode prog_50_method_5_code 74 = .ok (.iload 5, 2) := by decide +kernel
theorem own_d5_76 : decode prog_50_method_5_code 76 = .ok (.sipush 128, 3) := by decide +kernel
theorem own_d5_79 : decode prog_50_method_5_code 79 = .ok (.if_icmp .lt 15, 3) := by decide +kernel
theorem own_d5_82 : decode prog_50_method_5_code 82 = .ok (.aload_n 0, 1) := by decide +kernel
theorem own_d5_83 : decode prog_50_method_5_code 83 = .ok (.iload 5, 2) := by decide +kernel
theorem own_d5_85 : decode prog_50_method_5_code 85 = .ok (.invokevirtual 47, 3) := by decide +kernel
theorem own_d5_88 : decode prog_50_method_5_code 88 = .ok (.ifCond .ne 6, 3) := by decide +kernel
theorem own_d5_91 : decode prog_50_method_5_code 91 = .ok (.iload 4, 2) := by decide +kernel
theorem own_d5_93 : decode prog_50_method_5_code 93 = .ok (.ireturn, 1) := by decide +kernel
theorem own_d5_94 : decode prog_50_method_5_code 94 = .ok (.iinc 4 1, 3) := by decide +kernel
theorem own_d5_97 : decode prog_50_method_5_code 97 = .ok (.goto (-94), 3) := by decide +kernel
theorem own_d5_100 : decode prog_50_method_5_code 100 = .ok (.iconst (-1), 1) := by decide +kernel
theorem own_d5_101 : decode prog_50_method_5_code 101 = .ok (.ireturn, 1) := by decide +kernel
theorem own_ef5 (m : MethodId) (x0 : Addr) (x1 : Addr) (x2 : Int32) (x3 : Int32) : entryFrame m #[(.ref x0), (.ref x1), (.int x2), (.int x3)] 6 = mkF m 0 #[.val (.ref x0), .val (.ref x1), .val (.int x2), .val (.int x3), .unset, .unset] [] := by first | (simp [entryFrame, mkF, argsToLocals, Value.category]; done) | rfl
def own_Q5 (Z : State) (r0 : Addr) (r1 : Addr) (i2 : Int32) (i3 : Int32) (pd : Int32) (lo : Int32) (hi : Int32) (kk : ClassId) (b0 : Int32) (b1 : Int32) (b2 : Int32) (b3 : Int32) (h0 : Heap) (n0 : Nat) (v : Option Value) (h : Heap) (L : List Loc) : Prop := v = some (.int ((own_ck i2 i3 pd lo hi b0 b1 b2 b3 5 i2 pd lo hi).1)) ∧ Fr n0 L ∧ Keep h0 h [r0] ∧ Exa Z h r0 "com/example/marrow/marrow/Utf8Checker" ∧ Fld Z h r0 "com/example/marrow/marrow/Utf8Checker" "pending" "I" (.int ((own_ck i2 i3 pd lo hi b0 b1 b2 b3 5 i2 pd lo hi).2.1)) ∧ Fld Z h r0 "com/example/marrow/marrow/Utf8Checker" "lowest" "I" (.int ((own_ck i2 i3 pd lo hi b0 b1 b2 b3 5 i2 pd lo hi).2.2.1)) ∧ Fld Z h r0 "com/example/marrow/marrow/Utf8Checker" "highest" "I" (.int ((own_ck i2 i3 pd lo hi b0 b1 b2 b3 5 i2 pd lo hi).2.2.2))
set_option maxRecDepth 65536 in
set_option maxHeartbeats 40000000 in
theorem own_rm5 (l : Launch) (Z : State) (a0 : Array Value) (hw : ∀ d ∈ tables_1, d.before a0 Z = true) (ws : List Jvm.Cond) (r0 : Addr) (r1 : Addr) (i2 : Int32) (i3 : Int32) (pd : Int32) (lo : Int32) (hi : Int32) (kk : ClassId) (b0 : Int32) (b1 : Int32) (b2 : Int32) (b3 : Int32) (h0 : Heap) (n0 : Nat) (Z0 : n0 ≤ h0.size) (P0 : Exa Z h0 r0 "com/example/marrow/marrow/Utf8Checker") (P1 : Fld Z h0 r0 "com/example/marrow/marrow/Utf8Checker" "pending" "I" (.int pd)) (P2 : Fld Z h0 r0 "com/example/marrow/marrow/Utf8Checker" "lowest" "I" (.int lo)) (P3 : Fld Z h0 r0 "com/example/marrow/marrow/Utf8Checker" "highest" "I" (.int hi)) (P4 : n0 ≤ r0) (P5 : Arv Z h0 r1 kk .byte (4 : Int32) [(.int b0), (.int b1), (.int b2), (.int b3)] (.int (0 : Int32))) (P6 : r0 ≠ r1) (h0s : ¬ i2 < (0 : Int32)) (h4 : ¬ (4 : Int32) < i3) :
    MetFree l (⟨"com/example/marrow/marrow/Utf8Checker", "check", "([BII)I"⟩ : MethodName) (head1 (Jvm.Cond.code (⟨"com/example/marrow/marrow/Utf8Checker", "check", "([BII)I"⟩ : MethodName) prog_50_method_5_code 6 (some .int) :: ws) ({ frames := 1, cells := 0, slots := 0, locals := 14 } : Room)) (fun a U => a = #[(.ref r0), (.ref r1), (.int i2), (.int i3)] ∧ Z.Warmed39 U.vm ∧ U.heap = h0) (fun _ _ _ _ _ => True) (fun _ U o U' => ∃ v L, o = .returned v ∧ own_Q5 Z r0 r1 i2 i3 pd lo hi kk b0 b1 b2 b3 h0 n0 v U'.heap L ∧ FrameEnd U o U' L ({ frames := 1, cells := 0, slots := 0, locals := 14 } : Room).cells ({ frames := 1, cells := 0, slots := 0, locals := 14 } : Room).slots) := by
  refine MetFree.of_bodySF (plainFor_of_name own_pn1) hisR ?_
  intro p e s m args below meth c s₁ Bd hml0 hP hK
  obtain ⟨rfl, hZ, hh⟩ := hP
  have hx := Bd.exec
  have hby := Bd.bytes
  have hret := Bd.returns
  have hlk := BodyLoose.notSynchronized Bd
  have hml : c.maxLocals = 6 := hml0
  have hown : s.vm.findClass "com/example/marrow/marrow/Utf8Checker" = some m.cls := findClass_of_methodNamed Bd.named
  have hnm := (name_of_methodNamed Bd.named Bd.method).1
  have X0 : Stand p l e ({ frames := 1, cells := 0, slots := 0, locals := 14 } : Room) s m #[(.ref r0), (.ref r1), (.int i2), (.int i3)] below meth c s₁ [] 0 0 := Stand.of_body Bd
  have e0 : s₁.heap = h0 := by rw [← hh, Bd.state]; rfl
  have N0 := Fr.nil n0
  have K0 : Keep h0 h0 [r0] := Keep.refl h0 _
  show ownE p e below s (own_Q5 Z r0 r1 i2 i3 pd lo hi kk b0 b1 b2 b3 h0 n0) ({ frames := 1, cells := 0, slots := 0, locals := 14 } : Room).cells ({ frames := 1, cells := 0, slots := 0, locals := 14 } : Room).slots s₁ (entryFrame m #[(.ref r0), (.ref r1), (.int i2), (.int i3)] 6)
  rw [own_ef5]
  refine ownE.go (T' := s₁) (f' := (mkF m 3 #[.val (.ref r0), .val (.ref r1), .val (.int i2), .val (.int i3), .val (.int i2), .unset] [])) (fun t kt => ?_) ?_
  · show Steps p.tables e below (s₁.setTop (mkF m 0 #[.val (.ref r0), .val (.ref r1), .val (.int i2), .val (.int i3), .unset, .unset] [])) _
    refine XS.iloadN X0.here hx rfl (hb hby own_d5_0) rfl ?_
    show Steps p.tables e below (s₁.setTop (mkF m 1 #[.val (.ref r0), .val (.ref r1), .val (.int i2), .val (.int i3), .unset, .unset] [(.int i2)])) _
    refine XS.istore X0.here hx rfl (hb hby own_d5_1) rfl (l' := #[.val (.ref r0), .val (.ref r1), .val (.int i2), .val (.int i3), .val (.int i2), .unset]) rfl ?_
    exact kt
  have LP : ∀ (k : Nat) (i : Int32) (pe : Int32) (lw : Int32) (hg : Int32) (sl5 : Slot) (TL : State) (hL : Heap) (locsL : List Loc), One sl5 → ¬ i < (0 : Int32) → 0 < k ∧ i3.toInt - i.toInt < ((k : Nat) : Int) → Stand p l e ({ frames := 1, cells := 0, slots := 0, locals := 14 } : Room) s m #[(.ref r0), (.ref r1), (.int i2), (.int i3)] below meth c TL locsL 0 0 → TL.heap = hL → Fr n0 locsL → Keep h0 hL [r0] → Exa Z hL r0 "com/example/marrow/marrow/Utf8Checker" → Fld Z hL r0 "com/example/marrow/marrow/Utf8Checker" "pending" "I" (.int pe) → Fld Z hL r0 "com/example/marrow/marrow/Utf8Checker" "lowest" "I" (.int lw) → Fld Z hL r0 "com/example/marrow/marrow/Utf8Checker" "highest" "I" (.int hg) → Arv Z hL r1 kk .byte (4 : Int32) [(.int b0), (.int b1), (.int b2), (.int b3)] (.int (0 : Int32)) → (own_ck i2 i3 pd lo hi b0 b1 b2 b3 5 i2 pd lo hi) = own_ck i2 i3 pd lo hi b0 b1 b2 b3 k i pe lw hg → ownE p e below s (own_Q5 Z r0 r1 i2 i3 pd lo hi kk b0 b1 b2 b3 h0 n0) ({ frames := 1, cells := 0, slots := 0, locals := 14 } : Room).cells ({ frames := 1, cells := 0, slots := 0, locals := 14 } : Room).slots TL (mkF m 3 #[.val (.ref r0), .val (.ref r1), .val (.int i2), .val (.int i3), .val (.int i), sl5] []) := by
    intro k
    induction k with
    | zero =>
      intro i pe lw hg sl5 TL hL locsL hsl5 h0i hf XL eL NL KL LcExa_r0_h LcFld_r0_pending_h LcFld_r0_lowest_h LcFld_r0_highest_h LcArv_r1_h hsp
      exact absurd hf.1 (by decide)
    | succ k ih =>
      intro i pe lw hg sl5 TL hL locsL hsl5 h0i hf XL eL NL KL LcExa_r0_h LcFld_r0_pending_h LcFld_r0_lowest_h LcFld_r0_highest_h LcArv_r1_h hsp
      refine ownE.go (T' := TL) (f' := (mkF m 6 #[.val (.ref r0), .val (.ref r1), .val (.int i2), .val (.int i3), .val (.int i), sl5] [(.int i3), (.int i)])) (fun t kt => ?_) ?_
      · show Steps p.tables e below (TL.setTop (mkF m 3 #[.val (.ref r0), .val (.ref r1), .val (.int i2), .val (.int i3), .val (.int i), sl5] [])) _
        refine XS.iload XL.here hx rfl (hb hby own_d5_3) rfl ?_
        show Steps p.tables e below (TL.setTop (mkF m 5 #[.val (.ref r0), .val (.ref r1), .val (.int i2), .val (.int i3), .val (.int i), sl5] [(.int i)])) _
        refine XS.iloadN XL.here hx rfl (hb hby own_d5_5) rfl ?_
        exact kt
      by_cases hc1 : i < i3
      · -- pc 6
        refine ownE.go (T' := TL) (f' := (mkF m 9 #[.val (.ref r0), .val (.ref r1), .val (.int i2), .val (.int i3), .val (.int i), sl5] [])) (fun t kt => XS.icmpNo (g := (mkF m 6 #[.val (.ref r0), .val (.ref r1), .val (.int i2), .val (.int i3), .val (.int i), sl5] [(.int i3), (.int i)])) XL.here hx rfl (hb hby own_d5_6) rfl (Jvm.Free.XT.ii_ge_f hc1) kt) ?_
        refine ownE.go (T' := TL) (f' := (mkF m 12 #[.val (.ref r0), .val (.ref r1), .val (.int i2), .val (.int i3), .val (.int i), sl5] [(.int i), (.ref r1)])) (fun t kt => ?_) ?_
        · show Steps p.tables e below (TL.setTop (mkF m 9 #[.val (.ref r0), .val (.ref r1), .val (.int i2), .val (.int i3), .val (.int i), sl5] [])) _
          refine XS.aloadN XL.here hx rfl (hb hby own_d5_9) rfl rfl ?_
          show Steps p.tables e below (TL.setTop (mkF m 10 #[.val (.ref r0), .val (.ref r1), .val (.int i2), .val (.int i3), .val (.int i), sl5] [(.ref r1)])) _
          refine XS.iload XL.here hx rfl (hb hby own_d5_10) rfl ?_
          exact kt
        obtain ⟨cl2, Ar2, q2, S2, Nn2, Hh2, G2⟩ := id LcArv_r1_h
        have hin2 : ¬ (i < 0 ∨ cl2.slots.size ≤ (i).toNatClampNeg) := inb_of S2 ⟨h0i, (own_le hc1 h4)⟩
        refine ownE.go (T' := TL) (f' := (mkF m 13 #[.val (.ref r0), .val (.ref r1), .val (.int i2), .val (.int i3), .val (.int i), sl5] [(.int (own_sel4 i b0 b1 b2 b3))])) (fun t kt => XL.baloadBytes hx (j := i) (v := (.int (own_sel4 i b0 b1 b2 b3))) (by rw [eL]; exact Ar2.1) (State.isArrayOf_alike hZ.alike Ar2.2.1) Ar2.2.2 hin2 (Hh2.at hin2 (own_sel4_eq _ _ _ _ _)) (g := (mkF m 12 #[.val (.ref r0), .val (.ref r1), .val (.int i2), .val (.int i3), .val (.int i), sl5] [(.int i), (.ref r1)])) rfl rfl (hb hby own_d5_12) _ kt) ?_
        refine ownE.go (T' := TL) (f' := (mkF m 20 #[.val (.ref r0), .val (.ref r1), .val (.int i2), .val (.int i3), .val (.int i), .val (.int ((own_sel4 i b0 b1 b2 b3) &&& (255 : Int32)))] [(.ref r0)])) (fun t kt => ?_) ?_
        · show Steps p.tables e below (TL.setTop (mkF m 13 #[.val (.ref r0), .val (.ref r1), .val (.int i2), .val (.int i3), .val (.int i), sl5] [(.int (own_sel4 i b0 b1 b2 b3))])) _
          refine XS.sipush XL.here hx rfl (hb hby own_d5_13) ?_
          show Steps p.tables e below (TL.setTop (mkF m 16 #[.val (.ref r0), .val (.ref r1), .val (.int i2), .val (.int i3), .val (.int i), sl5] [(.int (255 : Int32)), (.int (own_sel4 i b0 b1 b2 b3))])) _
          refine XS.iand XL.here hx rfl (hb hby own_d5_16) rfl ?_
          show Steps p.tables e below (TL.setTop (mkF m 17 #[.val (.ref r0), .val (.ref r1), .val (.int i2), .val (.int i3), .val (.int i), sl5] [(.int ((own_sel4 i b0 b1 b2 b3) &&& (255 : Int32)))])) _
          refine XS.istoreS XL.here hx rfl (hb hby own_d5_17) rfl rfl hsl5 ?_
          show Steps p.tables e below (TL.setTop (mkF m 19 #[.val (.ref r0), .val (.ref r1), .val (.int i2), .val (.int i3), .val (.int i), .val (.int ((own_sel4 i b0 b1 b2 b3) &&& (255 : Int32)))] [])) _
          refine XS.aloadN XL.here hx rfl (hb hby own_d5_19) rfl rfl ?_
          exact kt
        obtain ⟨T3, X3, e3, st3⟩ := getF XL hx hZ hown (host := "") (Or.inl (hw _ (List.mem_of_getElem? (i := 23) rfl))) Via.refl eL LcFld_r0_pending_h (g := (mkF m 20 #[.val (.ref r0), .val (.ref r1), .val (.int i2), .val (.int i3), .val (.int i), .val (.int ((own_sel4 i b0 b1 b2 b3) &&& (255 : Int32)))] [(.ref r0)])) rfl rfl (hb hby own_d5_20)
        refine ownE.go (T' := T3) (f' := (mkF m 23 #[.val (.ref r0), .val (.ref r1), .val (.int i2), .val (.int i3), .val (.int i), .val (.int ((own_sel4 i b0 b1 b2 b3) &&& (255 : Int32)))] [(.int pe)])) st3 ?_
        by_cases hc4 : (0 : Int32) < pe
        · -- pc 23
          refine ownE.go (T' := T3) (f' := (mkF m 26 #[.val (.ref r0), .val (.ref r1), .val (.int i2), .val (.int i3), .val (.int i), .val (.int ((own_sel4 i b0 b1 b2 b3) &&& (255 : Int32)))] [])) (fun t kt => XS.ifNo (g := (mkF m 23 #[.val (.ref r0), .val (.ref r1), .val (.int i2), .val (.int i3), .val (.int i), .val (.int ((own_sel4 i b0 b1 b2 b3) &&& (255 : Int32)))] [(.int pe)])) X3.here hx rfl (hb hby own_d5_23) rfl (Jvm.Free.XT.i0_le_f hc4) kt) ?_
          refine ownE.go (T' := T3) (f' := (mkF m 29 #[.val (.ref r0), .val (.ref r1), .val (.int i2), .val (.int i3), .val (.int i), .val (.int ((own_sel4 i b0 b1 b2 b3) &&& (255 : Int32)))] [(.ref r0), (.int ((own_sel4 i b0 b1 b2 b3) &&& (255 : Int32)))])) (fun t kt => ?_) ?_
          · show Steps p.tables e below (T3.setTop (mkF m 26 #[.val (.ref r0), .val (.ref r1), .val (.int i2), .val (.int i3), .val (.int i), .val (.int ((own_sel4 i b0 b1 b2 b3) &&& (255 : Int32)))] [])) _
            refine XS.iload X3.here hx rfl (hb hby own_d5_26) rfl ?_
            show Steps p.tables e below (T3.setTop (mkF m 28 #[.val (.ref r0), .val (.ref r1), .val (.int i2), .val (.int i3), .val (.int i), .val (.int ((own_sel4 i b0 b1 b2 b3) &&& (255 : Int32)))] [(.int ((own_sel4 i b0 b1 b2 b3) &&& (255 : Int32)))])) _
            refine XS.aloadN X3.here hx rfl (hb hby own_d5_28) rfl rfl ?_
            exact kt
          obtain ⟨T5, X5, e5, st5⟩ := getF X3 hx hZ hown (host := "") (Or.inl (hw _ (List.mem_of_getElem? (i := 14) rfl))) Via.refl e3 LcFld_r0_lowest_h (g := (mkF m 29 #[.val (.ref r0), .val (.ref r1), .val (.int i2), .val (.int i3), .val (.int i), .val (.int ((own_sel4 i b0 b1 b2 b3) &&& (255 : Int32)))] [(.ref r0), (.int ((own_sel4 i b0 b1 b2 b3) &&& (255 : Int32)))])) rfl rfl (hb hby own_d5_29)
          refine ownE.go (T' := T5) (f' := (mkF m 32 #[.val (.ref r0), .val (.ref r1), .val (.int i2), .val (.int i3), .val (.int i), .val (.int ((own_sel4 i b0 b1 b2 b3) &&& (255 : Int32)))] [(.int lw), (.int ((own_sel4 i b0 b1 b2 b3) &&& (255 : Int32)))])) st5 ?_
          by_cases hc6 : ((own_sel4 i b0 b1 b2 b3) &&& (255 : Int32)) < lw
          · -- pc 32
            refine ownE.go (T' := T5) (f' := (mkF m 44 #[.val (.ref r0), .val (.ref r1), .val (.int i2), .val (.int i3), .val (.int i), .val (.int ((own_sel4 i b0 b1 b2 b3) &&& (255 : Int32)))] [])) (fun t kt => XS.icmpYes (g := (mkF m 32 #[.val (.ref r0), .val (.ref r1), .val (.int i2), .val (.int i3), .val (.int i), .val (.int ((own_sel4 i b0 b1 b2 b3) &&& (255 : Int32)))] [(.int lw), (.int ((own_sel4 i b0 b1 b2 b3) &&& (255 : Int32)))])) X5.here hx rfl (pc0 := 32) (pc' := 44) rfl (hb hby own_d5_32) rfl (Jvm.Free.XT.ii_lt_t hc6) (by decide) (by decide) kt) ?_
            refine ownE.go (T' := T5) (f' := (mkF m 46 #[.val (.ref r0), .val (.ref r1), .val (.int i2), .val (.int i3), .val (.int i), .val (.int ((own_sel4 i b0 b1 b2 b3) &&& (255 : Int32)))] [(.int i)])) (fun t kt => ?_) ?_
            · show Steps p.tables e below (T5.setTop (mkF m 44 #[.val (.ref r0), .val (.ref r1), .val (.int i2), .val (.int i3), .val (.int i), .val (.int ((own_sel4 i b0 b1 b2 b3) &&& (255 : Int32)))] [])) _
              refine XS.iload X5.here hx rfl (hb hby own_d5_44) rfl ?_
              exact kt
            refine ownE.retI X5 hx hlk hret (hb hby own_d5_46) ?_ (by decide) (by decide)
            show own_Q5 Z r0 r1 i2 i3 pd lo hi kk b0 b1 b2 b3 h0 n0 _ T5.heap _
            rw [e5]
            exact ⟨(by rw [hsp, own_ck, if_pos hc1, if_pos hc4, if_pos hc6] <;> first | rfl | decide), NL, KL, LcExa_r0_h, (by rw [hsp, own_ck, if_pos hc1, if_pos hc4, if_pos hc6]; exact LcFld_r0_pending_h), (by rw [hsp, own_ck, if_pos hc1, if_pos hc4, if_pos hc6]; exact LcFld_r0_lowest_h), (by rw [hsp, own_ck, if_pos hc1, if_pos hc4, if_pos hc6]; exact LcFld_r0_highest_h)⟩
          · -- pc 32
            refine ownE.go (T' := T5) (f' := (mkF m 35 #[.val (.ref r0), .val (.ref r1), .val (.int i2), .val (.int i3), .val (.int i), .val (.int ((own_sel4 i b0 b1 b2 b3) &&& (255 : Int32)))] [])) (fun t kt => XS.icmpNo (g := (mkF m 32 #[.val (.ref r0), .val (.ref r1), .val (.int i2), .val (.int i3), .val (.int i), .val (.int ((own_sel4 i b0 b1 b2 b3) &&& (255 : Int32)))] [(.int lw), (.int ((own_sel4 i b0 b1 b2 b3) &&& (255 : Int32)))])) X5.here hx rfl (hb hby own_d5_32) rfl (Jvm.Free.XT.ii_lt_f hc6) kt) ?_
            refine ownE.go (T' := T5) (f' := (mkF m 38 #[.val (.ref r0), .val (.ref r1), .val (.int i2), .val (.int i3), .val (.int i), .val (.int ((own_sel4 i b0 b1 b2 b3) &&& (255 : Int32)))] [(.ref r0), (.int ((own_sel4 i b0 b1 b2 b3) &&& (255 : Int32)))])) (fun t kt => ?_) ?_
            · show Steps p.tables e below (T5.setTop (mkF m 35 #[.val (.ref r0), .val (.ref r1), .val (.int i2), .val (.int i3), .val (.int i), .val (.int ((own_sel4 i b0 b1 b2 b3) &&& (255 : Int32)))] [])) _
              refine XS.iload X5.here hx rfl (hb hby own_d5_35) rfl ?_
              show Steps p.tables e below (T5.setTop (mkF m 37 #[.val (.ref r0), .val (.ref r1), .val (.int i2), .val (.int i3), .val (.int i), .val (.int ((own_sel4 i b0 b1 b2 b3) &&& (255 : Int32)))] [(.int ((own_sel4 i b0 b1 b2 b3) &&& (255 : Int32)))])) _
              refine XS.aloadN X5.here hx rfl (hb hby own_d5_37) rfl rfl ?_
              exact kt
            obtain ⟨T7, X7, e7, st7⟩ := getF X5 hx hZ hown (host := "") (Or.inl (hw _ (List.mem_of_getElem? (i := 16) rfl))) Via.refl e5 LcFld_r0_highest_h (g := (mkF m 38 #[.val (.ref r0), .val (.ref r1), .val (.int i2), .val (.int i3), .val (.int i), .val (.int ((own_sel4 i b0 b1 b2 b3) &&& (255 : Int32)))] [(.ref r0), (.int ((own_sel4 i b0 b1 b2 b3) &&& (255 : Int32)))])) rfl rfl (hb hby own_d5_38)
            refine ownE.go (T' := T7) (f' := (mkF m 41 #[.val (.ref r0), .val (.ref r1), .val (.int i2), .val (.int i3), .val (.int i), .val (.int ((own_sel4 i b0 b1 b2 b3) &&& (255 : Int32)))] [(.int hg), (.int ((own_sel4 i b0 b1 b2 b3) &&& (255 : Int32)))])) st7 ?_
            by_cases hc8 : hg < ((own_sel4 i b0 b1 b2 b3) &&& (255 : Int32))
            · -- pc 41
              refine ownE.go (T' := T7) (f' := (mkF m 44 #[.val (.ref r0), .val (.ref r1), .val (.int i2), .val (.int i3), .val (.int i), .val (.int ((own_sel4 i b0 b1 b2 b3) &&& (255 : Int32)))] [])) (fun t kt => XS.icmpNo (g := (mkF m 41 #[.val (.ref r0), .val (.ref r1), .val (.int i2), .val (.int i3), .val (.int i), .val (.int ((own_sel4 i b0 b1 b2 b3) &&& (255 : Int32)))] [(.int hg), (.int ((own_sel4 i b0 b1 b2 b3) &&& (255 : Int32)))])) X7.here hx rfl (hb hby own_d5_41) rfl (Jvm.Free.XT.ii_le_f hc8) kt) ?_
              refine ownE.go (T' := T7) (f' := (mkF m 46 #[.val (.ref r0), .val (.ref r1), .val (.int i2), .val (.int i3), .val (.int i), .val (.int ((own_sel4 i b0 b1 b2 b3) &&& (255 : Int32)))] [(.int i)])) (fun t kt => ?_) ?_
              · show Steps p.tables e below (T7.setTop (mkF m 44 #[.val (.ref r0), .val (.ref r1), .val (.int i2), .val (.int i3), .val (.int i), .val (.int ((own_sel4 i b0 b1 b2 b3) &&& (255 : Int32)))] [])) _
                refine XS.iload X7.here hx rfl (hb hby own_d5_44) rfl ?_
                exact kt
              refine ownE.retI X7 hx hlk hret (hb hby own_d5_46) ?_ (by decide) (by decide)
              show own_Q5 Z r0 r1 i2 i3 pd lo hi kk b0 b1 b2 b3 h0 n0 _ T7.heap _
              rw [e7]
              exact ⟨(by rw [hsp, own_ck, if_pos hc1, if_pos hc4, if_neg hc6, if_pos hc8] <;> first | rfl | decide), NL, KL, LcExa_r0_h, (by rw [hsp, own_ck, if_pos hc1, if_pos hc4, if_neg hc6, if_pos hc8]; exact LcFld_r0_pending_h), (by rw [hsp, own_ck, if_pos hc1, if_pos hc4, if_neg hc6, if_pos hc8]; exact LcFld_r0_lowest_h), (by rw [hsp, own_ck, if_pos hc1, if_pos hc4, if_neg hc6, if_pos hc8]; exact LcFld_r0_highest_h)⟩
            · -- pc 41
              refine ownE.go (T' := T7) (f' := (mkF m 47 #[.val (.ref r0), .val (.ref r1), .val (.int i2), .val (.int i3), .val (.int i), .val (.int ((own_sel4 i b0 b1 b2 b3) &&& (255 : Int32)))] [])) (fun t kt => XS.icmpYes (g := (mkF m 41 #[.val (.ref r0), .val (.ref r1), .val (.int i2), .val (.int i3), .val (.int i), .val (.int ((own_sel4 i b0 b1 b2 b3) &&& (255 : Int32)))] [(.int hg), (.int ((own_sel4 i b0 b1 b2 b3) &&& (255 : Int32)))])) X7.here hx rfl (pc0 := 41) (pc' := 47) rfl (hb hby own_d5_41) rfl (Jvm.Free.XT.ii_le_t hc8) (by decide) (by decide) kt) ?_
              refine ownE.go (T' := T7) (f' := (mkF m 51 #[.val (.ref r0), .val (.ref r1), .val (.int i2), .val (.int i3), .val (.int i), .val (.int ((own_sel4 i b0 b1 b2 b3) &&& (255 : Int32)))] [(.int (128 : Int32)), (.ref r0)])) (fun t kt => ?_) ?_
              · show Steps p.tables e below (T7.setTop (mkF m 47 #[.val (.ref r0), .val (.ref r1), .val (.int i2), .val (.int i3), .val (.int i), .val (.int ((own_sel4 i b0 b1 b2 b3) &&& (255 : Int32)))] [])) _
                refine XS.aloadN X7.here hx rfl (hb hby own_d5_47) rfl rfl ?_
                show Steps p.tables e below (T7.setTop (mkF m 48 #[.val (.ref r0), .val (.ref r1), .val (.int i2), .val (.int i3), .val (.int i), .val (.int ((own_sel4 i b0 b1 b2 b3) &&& (255 : Int32)))] [(.ref r0)])) _
                refine XS.sipush X7.here hx rfl (hb hby own_d5_48) ?_
                exact kt
              obtain ⟨T9, h9, X9, e9, W9, st9⟩ := putF X7 hx hZ hown (host := "") (Or.inl (hw _ (List.mem_of_getElem? (i := 14) rfl))) Via.refl e7 LcFld_r0_lowest_h LcExa_r0_h (Or.inl (hw _ (List.mem_of_getElem? (i := 15) rfl))) (hw _ (List.mem_of_getElem? (i := 6) rfl)) (ty := .int) (by decide) rfl rfl (g := (mkF m 51 #[.val (.ref r0), .val (.ref r1), .val (.int i2), .val (.int i3), .val (.int i), .val (.int ((own_sel4 i b0 b1 b2 b3) &&& (255 : Int32)))] [(.int (128 : Int32)), (.ref r0)])) rfl rfl (hb hby own_d5_51)
              have Fw9 : Fld Z h9 r0 "com/example/marrow/marrow/Utf8Checker" "lowest" "I" (.int (128 : Int32)) := LcFld_r0_lowest_h.same W9
              have cExa_r0_9 : Exa Z h9 r0 "com/example/marrow/marrow/Utf8Checker" := LcExa_r0_h.wr W9
              have cFld_r0_pending_9 : Fld Z h9 r0 "com/example/marrow/marrow/Utf8Checker" "pending" "I" (.int pe) := LcFld_r0_pending_h.other W9 (Or.inr (slot_ne (Or.inl (hw _ (List.mem_of_getElem? (i := 24) rfl))) (Or.inl (hw _ (List.mem_of_getElem? (i := 15) rfl))) (by decide) (t := .int) (t' := .int) (by decide) (by decide)))
              have cFld_r0_highest_9 : Fld Z h9 r0 "com/example/marrow/marrow/Utf8Checker" "highest" "I" (.int hg) := LcFld_r0_highest_h.other W9 (Or.inr (slot_ne (Or.inl (hw _ (List.mem_of_getElem? (i := 17) rfl))) (Or.inl (hw _ (List.mem_of_getElem? (i := 15) rfl))) (by decide) (t := .int) (t' := .int) (by decide) (by decide)))
              have cArv_r1_9 : Arv Z h9 r1 kk .byte (4 : Int32) [(.int b0), (.int b1), (.int b2), (.int b3)] (.int (0 : Int32)) := LcArv_r1_h.other W9 (Ne.symm P6)
              have K9 : Keep h0 h9 [r0] := KL.wr W9 (Or.inl (List.mem_of_getElem? (i := 0) rfl))
              have N9 := Fr.snoc X9 NL P4
              refine ownE.go (T' := T9) (f' := (mkF m 54 #[.val (.ref r0), .val (.ref r1), .val (.int i2), .val (.int i3), .val (.int i), .val (.int ((own_sel4 i b0 b1 b2 b3) &&& (255 : Int32)))] [])) st9 ?_
              refine ownE.go (T' := T9) (f' := (mkF m 58 #[.val (.ref r0), .val (.ref r1), .val (.int i2), .val (.int i3), .val (.int i), .val (.int ((own_sel4 i b0 b1 b2 b3) &&& (255 : Int32)))] [(.int (191 : Int32)), (.ref r0)])) (fun t kt => ?_) ?_
              · show Steps p.tables e below (T9.setTop (mkF m 54 #[.val (.ref r0), .val (.ref r1), .val (.int i2), .val (.int i3), .val (.int i), .val (.int ((own_sel4 i b0 b1 b2 b3) &&& (255 : Int32)))] [])) _
                refine XS.aloadN X9.here hx rfl (hb hby own_d5_54) rfl rfl ?_
                show Steps p.tables e below (T9.setTop (mkF m 55 #[.val (.ref r0), .val (.ref r1), .val (.int i2), .val (.int i3), .val (.int i), .val (.int ((own_sel4 i b0 b1 b2 b3) &&& (255 : Int32)))] [(.ref r0)])) _
                refine XS.sipush X9.here hx rfl (hb hby own_d5_55) ?_
                exact kt
              obtain ⟨T10, h10, X10, e10, W10, st10⟩ := putF X9 hx hZ hown (host := "") (Or.inl (hw _ (List.mem_of_getElem? (i := 16) rfl))) Via.refl e9 cFld_r0_highest_9 cExa_r0_9 (Or.inl (hw _ (List.mem_of_getElem? (i := 17) rfl))) (hw _ (List.mem_of_getElem? (i := 6) rfl)) (ty := .int) (by decide) rfl rfl (g := (mkF m 58 #[.val (.ref r0), .val (.ref r1), .val (.int i2), .val (.int i3), .val (.int i), .val (.int ((own_sel4 i b0 b1 b2 b3) &&& (255 : Int32)))] [(.int (191 : Int32)), (.ref r0)])) rfl rfl (hb hby own_d5_58)
              have Fw10 : Fld Z h10 r0 "com/example/marrow/marrow/Utf8Checker" "highest" "I" (.int (191 : Int32)) := cFld_r0_highest_9.same W10
              have cExa_r0_10 : Exa Z h10 r0 "com/example/marrow/marrow/Utf8Checker" := cExa_r0_9.wr W10
              have cFld_r0_pending_10 : Fld Z h10 r0 "com/example/marrow/marrow/Utf8Checker" "pending" "I" (.int pe) := cFld_r0_pending_9.other W10 (Or.inr (slot_ne (Or.inl (hw _ (List.mem_of_getElem? (i := 24) rfl))) (Or.inl (hw _ (List.mem_of_getElem? (i := 17) rfl))) (by decide) (t := .int) (t' := .int) (by decide) (by decide)))
              have cFld_r0_lowest_10 : Fld Z h10 r0 "com/example/marrow/marrow/Utf8Checker" "lowest" "I" (.int (128 : Int32)) := Fw9.other W10 (Or.inr (slot_ne (Or.inl (hw _ (List.mem_of_getElem? (i := 15) rfl))) (Or.inl (hw _ (List.mem_of_getElem? (i := 17) rfl))) (by decide) (t := .int) (t' := .int) (by decide) (by decide)))
              have cArv_r1_10 : Arv Z h10 r1 kk .byte (4 : Int32) [(.int b0), (.int b1), (.int b2), (.int b3)] (.int (0 : Int32)) := cArv_r1_9.other W10 (Ne.symm P6)
              have K10 : Keep h0 h10 [r0] := K9.wr W10 (Or.inl (List.mem_of_getElem? (i := 0) rfl))
              have N10 := Fr.snoc X10 N9 P4
              refine ownE.go (T' := T10) (f' := (mkF m 61 #[.val (.ref r0), .val (.ref r1), .val (.int i2), .val (.int i3), .val (.int i), .val (.int ((own_sel4 i b0 b1 b2 b3) &&& (255 : Int32)))] [])) st10 ?_
              refine ownE.go (T' := T10) (f' := (mkF m 63 #[.val (.ref r0), .val (.ref r1), .val (.int i2), .val (.int i3), .val (.int i), .val (.int ((own_sel4 i b0 b1 b2 b3) &&& (255 : Int32)))] [(.ref r0), (.ref r0)])) (fun t kt => ?_) ?_
              · show Steps p.tables e below (T10.setTop (mkF m 61 #[.val (.ref r0), .val (.ref r1), .val (.int i2), .val (.int i3), .val (.int i), .val (.int ((own_sel4 i b0 b1 b2 b3) &&& (255 : Int32)))] [])) _
                refine XS.aloadN X10.here hx rfl (hb hby own_d5_61) rfl rfl ?_
                show Steps p.tables e below (T10.setTop (mkF m 62 #[.val (.ref r0), .val (.ref r1), .val (.int i2), .val (.int i3), .val (.int i), .val (.int ((own_sel4 i b0 b1 b2 b3) &&& (255 : Int32)))] [(.ref r0)])) _
                refine XS.dup X10.here hx rfl (hb hby own_d5_62) rfl rfl ?_
                exact kt
              obtain ⟨T11, X11, e11, st11⟩ := getF X10 hx hZ hown (host := "") (Or.inl (hw _ (List.mem_of_getElem? (i := 23) rfl))) Via.refl e10 cFld_r0_pending_10 (g := (mkF m 63 #[.val (.ref r0), .val (.ref r1), .val (.int i2), .val (.int i3), .val (.int i), .val (.int ((own_sel4 i b0 b1 b2 b3) &&& (255 : Int32)))] [(.ref r0), (.ref r0)])) rfl rfl (hb hby own_d5_63)
              refine ownE.go (T' := T11) (f' := (mkF m 66 #[.val (.ref r0), .val (.ref r1), .val (.int i2), .val (.int i3), .val (.int i), .val (.int ((own_sel4 i b0 b1 b2 b3) &&& (255 : Int32)))] [(.int pe), (.ref r0)])) st11 ?_
              refine ownE.go (T' := T11) (f' := (mkF m 68 #[.val (.ref r0), .val (.ref r1), .val (.int i2), .val (.int i3), .val (.int i), .val (.int ((own_sel4 i b0 b1 b2 b3) &&& (255 : Int32)))] [(.int (pe - (1 : Int32))), (.ref r0)])) (fun t kt => ?_) ?_
              · show Steps p.tables e below (T11.setTop (mkF m 66 #[.val (.ref r0), .val (.ref r1), .val (.int i2), .val (.int i3), .val (.int i), .val (.int ((own_sel4 i b0 b1 b2 b3) &&& (255 : Int32)))] [(.int pe), (.ref r0)])) _
                refine XS.iconst X11.here hx rfl (hb hby own_d5_66) ?_
                show Steps p.tables e below (T11.setTop (mkF m 67 #[.val (.ref r0), .val (.ref r1), .val (.int i2), .val (.int i3), .val (.int i), .val (.int ((own_sel4 i b0 b1 b2 b3) &&& (255 : Int32)))] [(.int (1 : Int32)), (.int pe), (.ref r0)])) _
                refine XS.isub X11.here hx rfl (hb hby own_d5_67) rfl ?_
                exact kt
              obtain ⟨T12, h12, X12, e12, W12, st12⟩ := putF X11 hx hZ hown (host := "") (Or.inl (hw _ (List.mem_of_getElem? (i := 23) rfl))) Via.refl e11 cFld_r0_pending_10 cExa_r0_10 (Or.inl (hw _ (List.mem_of_getElem? (i := 24) rfl))) (hw _ (List.mem_of_getElem? (i := 6) rfl)) (ty := .int) (by decide) rfl rfl (g := (mkF m 68 #[.val (.ref r0), .val (.ref r1), .val (.int i2), .val (.int i3), .val (.int i), .val (.int ((own_sel4 i b0 b1 b2 b3) &&& (255 : Int32)))] [(.int (pe - (1 : Int32))), (.ref r0)])) rfl rfl (hb hby own_d5_68)
              have Fw12 : Fld Z h12 r0 "com/example/marrow/marrow/Utf8Checker" "pending" "I" (.int (pe - (1 : Int32))) := cFld_r0_pending_10.same W12
              have cExa_r0_12 : Exa Z h12 r0 "com/example/marrow/marrow/Utf8Checker" := cExa_r0_10.wr W12
              have cFld_r0_lowest_12 : Fld Z h12 r0 "com/example/marrow/marrow/Utf8Checker" "lowest" "I" (.int (128 : Int32)) := cFld_r0_lowest_10.other W12 (Or.inr (slot_ne (Or.inl (hw _ (List.mem_of_getElem? (i := 15) rfl))) (Or.inl (hw _ (List.mem_of_getElem? (i := 24) rfl))) (by decide) (t := .int) (t' := .int) (by decide) (by decide)))
              have cFld_r0_highest_12 : Fld Z h12 r0 "com/example/marrow/marrow/Utf8Checker" "highest" "I" (.int (191 : Int32)) := Fw10.other W12 (Or.inr (slot_ne (Or.inl (hw _ (List.mem_of_getElem? (i := 17) rfl))) (Or.inl (hw _ (List.mem_of_getElem? (i := 24) rfl))) (by decide) (t := .int) (t' := .int) (by decide) (by decide)))
              have cArv_r1_12 : Arv Z h12 r1 kk .byte (4 : Int32) [(.int b0), (.int b1), (.int b2), (.int b3)] (.int (0 : Int32)) := cArv_r1_10.other W12 (Ne.symm P6)
              have K12 : Keep h0 h12 [r0] := K10.wr W12 (Or.inl (List.mem_of_getElem? (i := 0) rfl))
              have N12 := Fr.snoc X12 N10 P4
              refine ownE.go (T' := T12) (f' := (mkF m 71 #[.val (.ref r0), .val (.ref r1), .val (.int i2), .val (.int i3), .val (.int i), .val (.int ((own_sel4 i b0 b1 b2 b3) &&& (255 : Int32)))] [])) st12 ?_
              refine ownE.go (T' := T12) (f' := (mkF m 3 #[.val (.ref r0), .val (.ref r1), .val (.int i2), .val (.int i3), .val (.int (i + (1 : Int32))), .val (.int ((own_sel4 i b0 b1 b2 b3) &&& (255 : Int32)))] [])) (fun t kt => ?_) ?_
              · show Steps p.tables e below (T12.setTop (mkF m 71 #[.val (.ref r0), .val (.ref r1), .val (.int i2), .val (.int i3), .val (.int i), .val (.int ((own_sel4 i b0 b1 b2 b3) &&& (255 : Int32)))] [])) _
                refine XS.goto X12.here hx rfl (pc0 := 71) (pc' := 94) rfl (hb hby own_d5_71) (by decide) (by decide) ?_
                show Steps p.tables e below (T12.setTop (mkF m 94 #[.val (.ref r0), .val (.ref r1), .val (.int i2), .val (.int i3), .val (.int i), .val (.int ((own_sel4 i b0 b1 b2 b3) &&& (255 : Int32)))] [])) _
                refine XS.iinc X12.here hx rfl (hb hby own_d5_94) rfl (l' := #[.val (.ref r0), .val (.ref r1), .val (.int i2), .val (.int i3), .val (.int (i + (1 : Int32))), .val (.int ((own_sel4 i b0 b1 b2 b3) &&& (255 : Int32)))]) rfl ?_
                show Steps p.tables e below (T12.setTop (mkF m 97 #[.val (.ref r0), .val (.ref r1), .val (.int i2), .val (.int i3), .val (.int (i + (1 : Int32))), .val (.int ((own_sel4 i b0 b1 b2 b3) &&& (255 : Int32)))] [])) _
                refine XS.goto X12.here hx rfl (pc0 := 97) (pc' := 3) rfl (hb hby own_d5_97) (by decide) (by decide) ?_
                exact kt
              exact ih (i + (1 : Int32)) (pe - (1 : Int32)) (128 : Int32) (191 : Int32) (.val (.int ((own_sel4 i b0 b1 b2 b3) &&& (255 : Int32)))) T12 h12 _ (One.val rfl) (own_nx hc1 h0i h4 hf).1 (own_nx hc1 h0i h4 hf).2 X12 e12 N12 K12 cExa_r0_12 Fw12 cFld_r0_lowest_12 cFld_r0_highest_12 cArv_r1_12 (hsp.trans (by rw [own_ck, if_pos hc1, if_pos hc4, if_neg hc6, if_neg hc8]))
        · -- pc 23
          refine ownE.go (T' := T3) (f' := (mkF m 74 #[.val (.ref r0), .val (.ref r1), .val (.int i2), .val (.int i3), .val (.int i), .val (.int ((own_sel4 i b0 b1 b2 b3) &&& (255 : Int32)))] [])) (fun t kt => XS.ifYes (g := (mkF m 23 #[.val (.ref r0), .val (.ref r1), .val (.int i2), .val (.int i3), .val (.int i), .val (.int ((own_sel4 i b0 b1 b2 b3) &&& (255 : Int32)))] [(.int pe)])) X3.here hx rfl (pc0 := 23) (pc' := 74) rfl (hb hby own_d5_23) rfl (Jvm.Free.XT.i0_le_t hc4) (by decide) (by decide) kt) ?_
          refine ownE.go (T' := T3) (f' := (mkF m 79 #[.val (.ref r0), .val (.ref r1), .val (.int i2), .val (.int i3), .val (.int i), .val (.int ((own_sel4 i b0 b1 b2 b3) &&& (255 : Int32)))] [(.int (128 : Int32)), (.int ((own_sel4 i b0 b1 b2 b3) &&& (255 : Int32)))])) (fun t kt => ?_) ?_
          · show Steps p.tables e below (T3.setTop (mkF m 74 #[.val (.ref r0), .val (.ref r1), .val (.int i2), .val (.int i3), .val (.int i), .val (.int ((own_sel4 i b0 b1 b2 b3) &&& (255 : Int32)))] [])) _
            refine XS.iload X3.here hx rfl (hb hby own_d5_74) rfl ?_
            show Steps p.tables e below (T3.setTop (mkF m 76 #[.val (.ref r0), .val (.ref r1), .val (.int i2), .val (.int i3), .val (.int i), .val (.int ((own_sel4 i b0 b1 b2 b3) &&& (255 : Int32)))] [(.int ((own_sel4 i b0 b1 b2 b3) &&& (255 : Int32)))])) _
            refine XS.sipush X3.here hx rfl (hb hby own_d5_76) ?_
            exact kt
          by_cases hc13 : ((own_sel4 i b0 b1 b2 b3) &&& (255 : Int32)) < (128 : Int32)
          · -- pc 79
            refine ownE.go (T' := T3) (f' := (mkF m 94 #[.val (.ref r0), .val (.ref r1), .val (.int i2), .val (.int i3), .val (.int i), .val (.int ((own_sel4 i b0 b1 b2 b3) &&& (255 : Int32)))] [])) (fun t kt => XS.icmpYes (g := (mkF m 79 #[.val (.ref r0), .val (.ref r1), .val (.int i2), .val (.int i3), .val (.int i), .val (.int ((own_sel4 i b0 b1 b2 b3) &&& (255 : Int32)))] [(.int (128 : Int32)), (.int ((own_sel4 i b0 b1 b2 b3) &&& (255 : Int32)))])) X3.here hx rfl (pc0 := 79) (pc' := 94) rfl (hb hby own_d5_79) rfl (Jvm.Free.XT.ii_lt_t hc13) (by decide) (by decide) kt) ?_
            refine ownE.go (T' := T3) (f' := (mkF m 3 #[.val (.ref r0), .val (.ref r1), .val (.int i2), .val (.int i3), .val (.int (i + (1 : Int32))), .val (.int ((own_sel4 i b0 b1 b2 b3) &&& (255 : Int32)))] [])) (fun t kt => ?_) ?_
            · show Steps p.tables e below (T3.setTop (mkF m 94 #[.val (.ref r0), .val (.ref r1), .val (.int i2), .val (.int i3), .val (.int i), .val (.int ((own_sel4 i b0 b1 b2 b3) &&& (255 : Int32)))] [])) _
              refine XS.iinc X3.here hx rfl (hb hby own_d5_94) rfl (l' := #[.val (.ref r0), .val (.ref r1), .val (.int i2), .val (.int i3), .val (.int (i + (1 : Int32))), .val (.int ((own_sel4 i b0 b1 b2 b3) &&& (255 : Int32)))]) rfl ?_
              show Steps p.tables e below (T3.setTop (mkF m 97 #[.val (.ref r0), .val (.ref r1), .val (.int i2), .val (.int i3), .val (.int (i + (1 : Int32))), .val (.int ((own_sel4 i b0 b1 b2 b3) &&& (255 : Int32)))] [])) _
              refine XS.goto X3.here hx rfl (pc0 := 97) (pc' := 3) rfl (hb hby own_d5_97) (by decide) (by decide) ?_
              exact kt
            exact ih (i + (1 : Int32)) pe lw hg (.val (.int ((own_sel4 i b0 b1 b2 b3) &&& (255 : Int32)))) T3 hL _ (One.val rfl) (own_nx hc1 h0i h4 hf).1 (own_nx hc1 h0i h4 hf).2 X3 e3 NL KL LcExa_r0_h LcFld_r0_pending_h LcFld_r0_lowest_h LcFld_r0_highest_h LcArv_r1_h (hsp.trans (by rw [own_ck, if_pos hc1, if_neg hc4, if_pos hc13]))
          · -- pc 79
            refine ownE.go (T' := T3) (f' := (mkF m 82 #[.val (.ref r0), .val (.ref r1), .val (.int i2), .val (.int i3), .val (.int i), .val (.int ((own_sel4 i b0 b1 b2 b3) &&& (255 : Int32)))] [])) (fun t kt => XS.icmpNo (g := (mkF m 79 #[.val (.ref r0), .val (.ref r1), .val (.int i2), .val (.int i3), .val (.int i), .val (.int ((own_sel4 i b0 b1 b2 b3) &&& (255 : Int32)))] [(.int (128 : Int32)), (.int ((own_sel4 i b0 b1 b2 b3) &&& (255 : Int32)))])) X3.here hx rfl (hb hby own_d5_79) rfl (Jvm.Free.XT.ii_lt_f hc13) kt) ?_
            refine ownE.go (T' := T3) (f' := (mkF m 85 #[.val (.ref r0), .val (.ref r1), .val (.int i2), .val (.int i3), .val (.int i), .val (.int ((own_sel4 i b0 b1 b2 b3) &&& (255 : Int32)))] [(.int ((own_sel4 i b0 b1 b2 b3) &&& (255 : Int32))), (.ref r0)])) (fun t kt => ?_) ?_
            · show Steps p.tables e below (T3.setTop (mkF m 82 #[.val (.ref r0), .val (.ref r1), .val (.int i2), .val (.int i3), .val (.int i), .val (.int ((own_sel4 i b0 b1 b2 b3) &&& (255 : Int32)))] [])) _
              refine XS.aloadN X3.here hx rfl (hb hby own_d5_82) rfl rfl ?_
              show Steps p.tables e below (T3.setTop (mkF m 83 #[.val (.ref r0), .val (.ref r1), .val (.int i2), .val (.int i3), .val (.int i), .val (.int ((own_sel4 i b0 b1 b2 b3) &&& (255 : Int32)))] [(.ref r0)])) _
              refine XS.iload X3.here hx rfl (hb hby own_d5_83) rfl ?_
              exact kt
            obtain ⟨cq14, q14, q14'⟩ := LcExa_r0_h.cell
            obtain ⟨_, _, ⟨T14, L14, k14, n14⟩, -, X14, ⟨Lc14, hQ14, l14, y14, z14⟩, st14⟩ := X3.privateBack hx (y := (⟨"com/example/marrow/marrow/Utf8Checker", "lead", "(I)Z"⟩ : MethodName)) hown (mvT hZ (hw _ (List.mem_of_getElem? (i := 30) rfl))) (mvT hZ (hw _ (List.mem_of_getElem? (i := 31) rfl))) (own_selP (y := (⟨"com/example/marrow/marrow/Utf8Checker", "lead", "(I)Z"⟩ : MethodName)) (mvT hZ (hw _ (List.mem_of_getElem? (i := 6) rfl))) (mvT hZ (hw _ (List.mem_of_getElem? (i := 31) rfl))) (Cond.privateMethod_at (mvP hZ (hw _ (List.mem_of_getElem? (i := 32) rfl)) (args := #[]))) (by decide)) (Cond.privateMethod_at (mvP hZ (hw _ (List.mem_of_getElem? (i := 32) rfl)) (args := #[]))) (mvT hZ (hw _ (List.mem_of_getElem? (i := 33) rfl))) (by decide) (backOf (W := 0) (own_rm6 l Z a0 hw [] r0 ((own_sel4 i b0 b1 b2 b3) &&& (255 : Int32)) pe lw hg hL n0 (Nat.le_trans Z0 KL.1) LcExa_r0_h LcFld_r0_pending_h LcFld_r0_lowest_h LcFld_r0_highest_h P4) hZ (hw _ (List.mem_of_getElem? (i := 33) rfl)) (hw _ (List.mem_of_getElem? (i := 7) rfl)) (by decide) (by decide)) (g := (mkF m 85 #[.val (.ref r0), .val (.ref r1), .val (.int i2), .val (.int i3), .val (.int i), .val (.int ((own_sel4 i b0 b1 b2 b3) &&& (255 : Int32)))] [(.int ((own_sel4 i b0 b1 b2 b3) &&& (255 : Int32))), (.ref r0)])) rfl (by rw [hml]; rfl) (Steps.refl _) (a := r0) (by rw [show T3.heap = hL from e3]; exact q14) q14' (argsL := [(.int ((own_sel4 i b0 b1 b2 b3) &&& (255 : Int32)))]) (rest := []) (lenOf own_pd2 rfl) rfl (by show 2 * 0 + _ ≤ _; exact Nat.le_of_eq rfl) (hb hby own_d5_85) (fun _ _ => ⟨rfl, e3, (by decide : 0 + 0 ≤ _), (by decide : 0 + 0 ≤ _)⟩)
            dsimp only [Pt.U, Pt.locs, Pt.cells, Pt.slots] at X14 l14 y14 z14 st14 hQ14
            subst l14 y14 z14
            obtain ⟨rfl, N14q, K14q, f14_0, f14_1, f14_2, f14_3⟩ := hQ14
            have cExa_r0_14 : Exa Z T14.heap r0 "com/example/marrow/marrow/Utf8Checker" := LcExa_r0_h.keep K14q
            have cArv_r1_14 : Arv Z T14.heap r1 kk .byte (4 : Int32) [(.int b0), (.int b1), (.int b2), (.int b3)] (.int (0 : Int32)) := LcArv_r1_h.keep K14q (ninS (Ne.symm P6) nin0)
            have K14 : Keep h0 T14.heap [r0] := KL.trans K14q (allS (Or.inl (List.mem_of_getElem? (i := 0) rfl)) all0)
            have N14 := Fr.app NL N14q
            refine ownE.goS (T' := T14) (f' := (mkF m 88 #[.val (.ref r0), .val (.ref r1), .val (.int i2), .val (.int i3), .val (.int i), .val (.int ((own_sel4 i b0 b1 b2 b3) &&& (255 : Int32)))] [(.int (own_ld ((own_sel4 i b0 b1 b2 b3) &&& (255 : Int32)) pe lw hg))])) st14 ?_
            by_cases hc15 : (own_ld ((own_sel4 i b0 b1 b2 b3) &&& (255 : Int32)) pe lw hg) = (0 : Int32)
            · -- pc 88
              refine ownE.go (T' := T14) (f' := (mkF m 91 #[.val (.ref r0), .val (.ref r1), .val (.int i2), .val (.int i3), .val (.int i), .val (.int ((own_sel4 i b0 b1 b2 b3) &&& (255 : Int32)))] [])) (fun t kt => XS.ifNo (g := (mkF m 88 #[.val (.ref r0), .val (.ref r1), .val (.int i2), .val (.int i3), .val (.int i), .val (.int ((own_sel4 i b0 b1 b2 b3) &&& (255 : Int32)))] [(.int (own_ld ((own_sel4 i b0 b1 b2 b3) &&& (255 : Int32)) pe lw hg))])) X14.here hx rfl (hb hby own_d5_88) rfl (Jvm.Free.XT.i0_ne_f hc15) kt) ?_
              refine ownE.go (T' := T14) (f' := (mkF m 93 #[.val (.ref r0), .val (.ref r1), .val (.int i2), .val (.int i3), .val (.int i), .val (.int ((own_sel4 i b0 b1 b2 b3) &&& (255 : Int32)))] [(.int i)])) (fun t kt => ?_) ?_
              · show Steps p.tables e below (T14.setTop (mkF m 91 #[.val (.ref r0), .val (.ref r1), .val (.int i2), .val (.int i3), .val (.int i), .val (.int ((own_sel4 i b0 b1 b2 b3) &&& (255 : Int32)))] [])) _
                refine XS.iload X14.here hx rfl (hb hby own_d5_91) rfl ?_
                exact kt
              refine ownE.retI X14 hx hlk hret (hb hby own_d5_93) ?_ (by decide) (by decide)
              show own_Q5 Z r0 r1 i2 i3 pd lo hi kk b0 b1 b2 b3 h0 n0 _ T14.heap _
              exact ⟨(by rw [hsp, own_ck, if_pos hc1, if_neg hc4, if_neg hc13, if_pos hc15] <;> first | rfl | decide), N14, K14, f14_0, (by rw [hsp, own_ck, if_pos hc1, if_neg hc4, if_neg hc13, if_pos hc15]; exact f14_1), (by rw [hsp, own_ck, if_pos hc1, if_neg hc4, if_neg hc13, if_pos hc15]; exact f14_2), (by rw [hsp, own_ck, if_pos hc1, if_neg hc4, if_neg hc13, if_pos hc15]; exact f14_3)⟩
            · -- pc 88
              refine ownE.go (T' := T14) (f' := (mkF m 94 #[.val (.ref r0), .val (.ref r1), .val (.int i2), .val (.int i3), .val (.int i), .val (.int ((own_sel4 i b0 b1 b2 b3) &&& (255 : Int32)))] [])) (fun t kt => XS.ifYes (g := (mkF m 88 #[.val (.ref r0), .val (.ref r1), .val (.int i2), .val (.int i3), .val (.int i), .val (.int ((own_sel4 i b0 b1 b2 b3) &&& (255 : Int32)))] [(.int (own_ld ((own_sel4 i b0 b1 b2 b3) &&& (255 : Int32)) pe lw hg))])) X14.here hx rfl (pc0 := 88) (pc' := 94) rfl (hb hby own_d5_88) rfl (Jvm.Free.XT.i0_ne_t hc15) (by decide) (by decide) kt) ?_
              refine ownE.go (T' := T14) (f' := (mkF m 3 #[.val (.ref r0), .val (.ref r1), .val (.int i2), .val (.int i3), .val (.int (i + (1 : Int32))), .val (.int ((own_sel4 i b0 b1 b2 b3) &&& (255 : Int32)))] [])) (fun t kt => ?_) ?_
              · show Steps p.tables e below (T14.setTop (mkF m 94 #[.val (.ref r0), .val (.ref r1), .val (.int i2), .val (.int i3), .val (.int i), .val (.int ((own_sel4 i b0 b1 b2 b3) &&& (255 : Int32)))] [])) _
                refine XS.iinc X14.here hx rfl (hb hby own_d5_94) rfl (l' := #[.val (.ref r0), .val (.ref r1), .val (.int i2), .val (.int i3), .val (.int (i + (1 : Int32))), .val (.int ((own_sel4 i b0 b1 b2 b3) &&& (255 : Int32)))]) rfl ?_
                show Steps p.tables e below (T14.setTop (mkF m 97 #[.val (.ref r0), .val (.ref r1), .val (.int i2), .val (.int i3), .val (.int (i + (1 : Int32))), .val (.int ((own_sel4 i b0 b1 b2 b3) &&& (255 : Int32)))] [])) _
                refine XS.goto X14.here hx rfl (pc0 := 97) (pc' := 3) rfl (hb hby own_d5_97) (by decide) (by decide) ?_
                exact kt
              exact ih (i + (1 : Int32)) (own_lp ((own_sel4 i b0 b1 b2 b3) &&& (255 : Int32)) pe lw hg) (own_ll ((own_sel4 i b0 b1 b2 b3) &&& (255 : Int32)) pe lw hg) (own_lh ((own_sel4 i b0 b1 b2 b3) &&& (255 : Int32)) pe lw hg) (.val (.int ((own_sel4 i b0 b1 b2 b3) &&& (255 : Int32)))) T14 T14.heap _ (One.val rfl) (own_nx hc1 h0i h4 hf).1 (own_nx hc1 h0i h4 hf).2 X14 rfl N14 K14 f14_0 f14_1 f14_2 f14_3 cArv_r1_14 (hsp.trans (by rw [own_ck, if_pos hc1, if_neg hc4, if_neg hc13, if_neg hc15]))
      · -- pc 6
        refine ownE.go (T' := TL) (f' := (mkF m 100 #[.val (.ref r0), .val (.ref r1), .val (.int i2), .val (.int i3), .val (.int i), sl5] [])) (fun t kt => XS.icmpYes (g := (mkF m 6 #[.val (.ref r0), .val (.ref r1), .val (.int i2), .val (.int i3), .val (.int i), sl5] [(.int i3), (.int i)])) XL.here hx rfl (pc0 := 6) (pc' := 100) rfl (hb hby own_d5_6) rfl (Jvm.Free.XT.ii_ge_t hc1) (by decide) (by decide) kt) ?_
        refine ownE.go (T' := TL) (f' := (mkF m 101 #[.val (.ref r0), .val (.ref r1), .val (.int i2), .val (.int i3), .val (.int i), sl5] [(.int (-1 : Int32))])) (fun t kt => ?_) ?_
        · show Steps p.tables e below (TL.setTop (mkF m 100 #[.val (.ref r0), .val (.ref r1), .val (.int i2), .val (.int i3), .val (.int i), sl5] [])) _
          refine XS.iconst XL.here hx rfl (hb hby own_d5_100) ?_
          exact kt
        refine ownE.retI XL hx hlk hret (hb hby own_d5_101) ?_ (by decide) (by decide)
        show own_Q5 Z r0 r1 i2 i3 pd lo hi kk b0 b1 b2 b3 h0 n0 _ TL.heap _
        rw [eL]
        exact ⟨(by rw [hsp, own_ck, if_neg hc1] <;> first | rfl | decide), NL, KL, LcExa_r0_h, (by rw [hsp, own_ck, if_neg hc1]; exact LcFld_r0_pending_h), (by rw [hsp, own_ck, if_neg hc1]; exact LcFld_r0_lowest_h), (by rw [hsp, own_ck, if_neg hc1]; exact LcFld_r0_highest_h)⟩
  exact LP 5 i2 pd lo hi (.unset) s₁ h0 _ One.u h0s (own_fu h0s h4) X0 e0 N0 K0 P0 P1 P2 P3 P5 rfl
theorem own_mb (x : Int32) : ¬ (4 : Int32) < ((1 : Int32) + (x &&& (3 : Int32))) ∧ 1 ≤ ((1 : Int32) + (x &&& (3 : Int32))).toInt ∧ ((1 : Int32) + (x &&& (3 : Int32)) + (1 : Int32)).toInt = ((1 : Int32) + (x &&& (3 : Int32))).toInt + 1 := by
  have h := c_mask x 3 2 (by decide) (by decide)
  have p : ((2 ^ 2 : Nat) : Int) = 4 := by decide
  rw [p] at h
  generalize x &&& 3 = y at h ⊢
  have e := c_iadd 1 y
  have r := rng32 (1 + y)
  have e2 := c_iadd (1 + y) 1
  have r2 := rng32 (1 + y + 1)
  have z1 : (1 : Int32).toInt = 1 := by decide
  have z4 : (4 : Int32).toInt = 4 := by decide
  rw [Int32.lt_iff_toInt_lt]
  omega
theorem own_mz (x : Int32) : ¬ ((1 : Int32) + (x &&& (3 : Int32)) + (1 : Int32)) = (0 : Int32) := by
  have h := own_mb x
  intro q
  have := congrArg Int32.toInt q
  have z0 : (0 : Int32).toInt = 0 := by decide
  omega
theorem own_sb (x : Int32) : ¬ ((((x.toUInt32 >>> ((2 : Int32) &&& 31).toUInt32).toInt32) &&& (7 : Int32)) % ((1 : Int32) + (x &&& (3 : Int32)) + (1 : Int32))) < (0 : Int32) ∧ ¬ (4 : Int32) < ((((x.toUInt32 >>> ((2 : Int32) &&& 31).toUInt32).toInt32) &&& (7 : Int32)) % ((1 : Int32) + (x &&& (3 : Int32)) + (1 : Int32))) := by
  have h := own_mb x
  generalize ((x.toUInt32 >>> ((2 : Int32) &&& 31).toUInt32).toInt32) = w
  have hw := c_mask w 7 3 (by decide) (by decide)
  have p : ((2 ^ 3 : Nat) : Int) = 8 := by decide
  rw [p] at hw
  generalize (1 : Int32) + (x &&& (3 : Int32)) = m at h ⊢
  have q := (c_iremV (w &&& 7) (m + 1)).1 (by omega) (by omega)
  have z0 : (0 : Int32).toInt = 0 := by decide
  have z4 : (4 : Int32).toInt = 4 := by decide
  rw [Int32.lt_iff_toInt_lt] at h
  rw [Int32.lt_iff_toInt_lt, Int32.lt_iff_toInt_lt]
  omega
def own_v0_64 (i0 : Int32) (i1 : Int32) (i2 : Int32) (i3 : Int32) (i4 : Int32) : Int32 := ((1 : Int32) + (i4 &&& (3 : Int32)))
def own_v0_78 (i0 : Int32) (i1 : Int32) (i2 : Int32) (i3 : Int32) (i4 : Int32) : Int32 := ((((i4.toUInt32 >>> ((2 : Int32) &&& 31).toUInt32).toInt32) &&& (7 : Int32)) % ((own_v0_64 i0 i1 i2 i3 i4) + (1 : Int32)))
theorem own_pd3 : parseMethodDescriptor "(I)I" = some ⟨[.int], some .int⟩ := by decide +kernel
def own_v0_85 (i0 : Int32) (i1 : Int32) (i2 : Int32) (i3 : Int32) (i4 : Int32) : Int32 := (own_len (i0 &&& (255 : Int32)))
theorem own_pd4 : parseMethodDescriptor "()V" = some ⟨[], none⟩ := by decide +kernel
theorem own_pd5 : parseMethodDescriptor "()Z" = some ⟨[], some .boolean⟩ := by decide +kernel
theorem own_pd6 : parseMethodDescriptor "([BII)I" = some ⟨[(.array .byte), .int, .int], some .int⟩ := by decide +kernel
def own_v0_113 (i0 : Int32) (i1 : Int32) (i2 : Int32) (i3 : Int32) (i4 : Int32) : Int32 := ((own_ck (0 : Int32) (own_v0_78 i0 i1 i2 i3 i4) (0 : Int32) (128 : Int32) (191 : Int32) (((i0 &&& (255 : Int32)).toInt8.toInt32).toInt8.toInt32) ((((128 : Int32) ||| (i1 &&& (63 : Int32))).toInt8.toInt32).toInt8.toInt32) ((((128 : Int32) ||| (i2 &&& (63 : Int32))).toInt8.toInt32).toInt8.toInt32) ((((128 : Int32) ||| (i3 &&& (63 : Int32))).toInt8.toInt32).toInt8.toInt32) 5 (0 : Int32) (0 : Int32) (128 : Int32) (191 : Int32)).1)
def own_j0_155_S0 (i0 : Int32) (i1 : Int32) (i2 : Int32) (i3 : Int32) (i4 : Int32) : Int32 :=
  if (own_v0_85 i0 i1 i2 i3 i4) < (2 : Int32) then
    (1 : Int32)
  else
    if (own_v0_78 i0 i1 i2 i3 i4) = (0 : Int32) then
      (1 : Int32)
    else
      if (own_v0_78 i0 i1 i2 i3 i4) = (own_v0_85 i0 i1 i2 i3 i4) then
        (1 : Int32)
      else
        (0 : Int32)
def own_j0_163_S0 (i0 : Int32) (i1 : Int32) (i2 : Int32) (i3 : Int32) (i4 : Int32) : Int32 :=
  if (own_ab ((own_ck (0 : Int32) (own_v0_78 i0 i1 i2 i3 i4) (0 : Int32) (128 : Int32) (191 : Int32) (((i0 &&& (255 : Int32)).toInt8.toInt32).toInt8.toInt32) ((((128 : Int32) ||| (i1 &&& (63 : Int32))).toInt8.toInt32).toInt8.toInt32) ((((128 : Int32) ||| (i2 &&& (63 : Int32))).toInt8.toInt32).toInt8.toInt32) ((((128 : Int32) ||| (i3 &&& (63 : Int32))).toInt8.toInt32).toInt8.toInt32) 5 (0 : Int32) (0 : Int32) (128 : Int32) (191 : Int32)).2.1)) = (own_j0_155_S0 i0 i1 i2 i3 i4) then
    (1 : Int32)
  else
    (0 : Int32)
def own_v0_176 (i0 : Int32) (i1 : Int32) (i2 : Int32) (i3 : Int32) (i4 : Int32) : Int32 := ((own_ck (own_v0_78 i0 i1 i2 i3 i4) (own_v0_64 i0 i1 i2 i3 i4) ((own_ck (0 : Int32) (own_v0_78 i0 i1 i2 i3 i4) (0 : Int32) (128 : Int32) (191 : Int32) (((i0 &&& (255 : Int32)).toInt8.toInt32).toInt8.toInt32) ((((128 : Int32) ||| (i1 &&& (63 : Int32))).toInt8.toInt32).toInt8.toInt32) ((((128 : Int32) ||| (i2 &&& (63 : Int32))).toInt8.toInt32).toInt8.toInt32) ((((128 : Int32) ||| (i3 &&& (63 : Int32))).toInt8.toInt32).toInt8.toInt32) 5 (0 : Int32) (0 : Int32) (128 : Int32) (191 : Int32)).2.1) ((own_ck (0 : Int32) (own_v0_78 i0 i1 i2 i3 i4) (0 : Int32) (128 : Int32) (191 : Int32) (((i0 &&& (255 : Int32)).toInt8.toInt32).toInt8.toInt32) ((((128 : Int32) ||| (i1 &&& (63 : Int32))).toInt8.toInt32).toInt8.toInt32) ((((128 : Int32) ||| (i2 &&& (63 : Int32))).toInt8.toInt32).toInt8.toInt32) ((((128 : Int32) ||| (i3 &&& (63 : Int32))).toInt8.toInt32).toInt8.toInt32) 5 (0 : Int32) (0 : Int32) (128 : Int32) (191 : Int32)).2.2.1) ((own_ck (0 : Int32) (own_v0_78 i0 i1 i2 i3 i4) (0 : Int32) (128 : Int32) (191 : Int32) (((i0 &&& (255 : Int32)).toInt8.toInt32).toInt8.toInt32) ((((128 : Int32) ||| (i1 &&& (63 : Int32))).toInt8.toInt32).toInt8.toInt32) ((((128 : Int32) ||| (i2 &&& (63 : Int32))).toInt8.toInt32).toInt8.toInt32) ((((128 : Int32) ||| (i3 &&& (63 : Int32))).toInt8.toInt32).toInt8.toInt32) 5 (0 : Int32) (0 : Int32) (128 : Int32) (191 : Int32)).2.2.2) (((i0 &&& (255 : Int32)).toInt8.toInt32).toInt8.toInt32) ((((128 : Int32) ||| (i1 &&& (63 : Int32))).toInt8.toInt32).toInt8.toInt32) ((((128 : Int32) ||| (i2 &&& (63 : Int32))).toInt8.toInt32).toInt8.toInt32) ((((128 : Int32) ||| (i3 &&& (63 : Int32))).toInt8.toInt32).toInt8.toInt32) 5 (own_v0_78 i0 i1 i2 i3 i4) ((own_ck (0 : Int32) (own_v0_78 i0 i1 i2 i3 i4) (0 : Int32) (128 : Int32) (191 : Int32) (((i0 &&& (255 : Int32)).toInt8.toInt32).toInt8.toInt32) ((((128 : Int32) ||| (i1 &&& (63 : Int32))).toInt8.toInt32).toInt8.toInt32) ((((128 : Int32) ||| (i2 &&& (63 : Int32))).toInt8.toInt32).toInt8.toInt32) ((((128 : Int32) ||| (i3 &&& (63 : Int32))).toInt8.toInt32).toInt8.toInt32) 5 (0 : Int32) (0 : Int32) (128 : Int32) (191 : Int32)).2.1) ((own_ck (0 : Int32) (own_v0_78 i0 i1 i2 i3 i4) (0 : Int32) (128 : Int32) (191 : Int32) (((i0 &&& (255 : Int32)).toInt8.toInt32).toInt8.toInt32) ((((128 : Int32) ||| (i1 &&& (63 : Int32))).toInt8.toInt32).toInt8.toInt32) ((((128 : Int32) ||| (i2 &&& (63 : Int32))).toInt8.toInt32).toInt8.toInt32) ((((128 : Int32) ||| (i3 &&& (63 : Int32))).toInt8.toInt32).toInt8.toInt32) 5 (0 : Int32) (0 : Int32) (128 : Int32) (191 : Int32)).2.2.1) ((own_ck (0 : Int32) (own_v0_78 i0 i1 i2 i3 i4) (0 : Int32) (128 : Int32) (191 : Int32) (((i0 &&& (255 : Int32)).toInt8.toInt32).toInt8.toInt32) ((((128 : Int32) ||| (i1 &&& (63 : Int32))).toInt8.toInt32).toInt8.toInt32) ((((128 : Int32) ||| (i2 &&& (63 : Int32))).toInt8.toInt32).toInt8.toInt32) ((((128 : Int32) ||| (i3 &&& (63 : Int32))).toInt8.toInt32).toInt8.toInt32) 5 (0 : Int32) (0 : Int32) (128 : Int32) (191 : Int32)).2.2.2)).1)
def own_j0_178_L13 (i0 : Int32) (i1 : Int32) (i2 : Int32) (i3 : Int32) (i4 : Int32) : Int32 :=
  if (own_v0_113 i0 i1 i2 i3 i4) < (0 : Int32) then
    (own_j0_163_S0 i0 i1 i2 i3 i4)
  else
    (1 : Int32)
def own_j0_178_L14 (i0 : Int32) (i1 : Int32) (i2 : Int32) (i3 : Int32) (i4 : Int32) : Int32 :=
  if (own_v0_113 i0 i1 i2 i3 i4) < (0 : Int32) then
    (own_v0_176 i0 i1 i2 i3 i4)
  else
    (own_v0_113 i0 i1 i2 i3 i4)
def own_j0_178_pending (i0 : Int32) (i1 : Int32) (i2 : Int32) (i3 : Int32) (i4 : Int32) : Int32 :=
  if (own_v0_113 i0 i1 i2 i3 i4) < (0 : Int32) then
    ((own_ck (own_v0_78 i0 i1 i2 i3 i4) (own_v0_64 i0 i1 i2 i3 i4) ((own_ck (0 : Int32) (own_v0_78 i0 i1 i2 i3 i4) (0 : Int32) (128 : Int32) (191 : Int32) (((i0 &&& (255 : Int32)).toInt8.toInt32).toInt8.toInt32) ((((128 : Int32) ||| (i1 &&& (63 : Int32))).toInt8.toInt32).toInt8.toInt32) ((((128 : Int32) ||| (i2 &&& (63 : Int32))).toInt8.toInt32).toInt8.toInt32) ((((128 : Int32) ||| (i3 &&& (63 : Int32))).toInt8.toInt32).toInt8.toInt32) 5 (0 : Int32) (0 : Int32) (128 : Int32) (191 : Int32)).2.1) ((own_ck (0 : Int32) (own_v0_78 i0 i1 i2 i3 i4) (0 : Int32) (128 : Int32) (191 : Int32) (((i0 &&& (255 : Int32)).toInt8.toInt32).toInt8.toInt32) ((((128 : Int32) ||| (i1 &&& (63 : Int32))).toInt8.toInt32).toInt8.toInt32) ((((128 : Int32) ||| (i2 &&& (63 : Int32))).toInt8.toInt32).toInt8.toInt32) ((((128 : Int32) ||| (i3 &&& (63 : Int32))).toInt8.toInt32).toInt8.toInt32) 5 (0 : Int32) (0 : Int32) (128 : Int32) (191 : Int32)).2.2.1) ((own_ck (0 : Int32) (own_v0_78 i0 i1 i2 i3 i4) (0 : Int32) (128 : Int32) (191 : Int32) (((i0 &&& (255 : Int32)).toInt8.toInt32).toInt8.toInt32) ((((128 : Int32) ||| (i1 &&& (63 : Int32))).toInt8.toInt32).toInt8.toInt32) ((((128 : Int32) ||| (i2 &&& (63 : Int32))).toInt8.toInt32).toInt8.toInt32) ((((128 : Int32) ||| (i3 &&& (63 : Int32))).toInt8.toInt32).toInt8.toInt32) 5 (0 : Int32) (0 : Int32) (128 : Int32) (191 : Int32)).2.2.2) (((i0 &&& (255 : Int32)).toInt8.toInt32).toInt8.toInt32) ((((128 : Int32) ||| (i1 &&& (63 : Int32))).toInt8.toInt32).toInt8.toInt32) ((((128 : Int32) ||| (i2 &&& (63 : Int32))).toInt8.toInt32).toInt8.toInt32) ((((128 : Int32) ||| (i3 &&& (63 : Int32))).toInt8.toInt32).toInt8.toInt32) 5 (own_v0_78 i0 i1 i2 i3 i4) ((own_ck (0 : Int32) (own_v0_78 i0 i1 i2 i3 i4) (0 : Int32) (128 : Int32) (191 : Int32) (((i0 &&& (255 : Int32)).toInt8.toInt32).toInt8.toInt32) ((((128 : Int32) ||| (i1 &&& (63 : Int32))).toInt8.toInt32).toInt8.toInt32) ((((128 : Int32) ||| (i2 &&& (63 : Int32))).toInt8.toInt32).toInt8.toInt32) ((((128 : Int32) ||| (i3 &&& (63 : Int32))).toInt8.toInt32).toInt8.toInt32) 5 (0 : Int32) (0 : Int32) (128 : Int32) (191 : Int32)).2.1) ((own_ck (0 : Int32) (own_v0_78 i0 i1 i2 i3 i4) (0 : Int32) (128 : Int32) (191 : Int32) (((i0 &&& (255 : Int32)).toInt8.toInt32).toInt8.toInt32) ((((128 : Int32) ||| (i1 &&& (63 : Int32))).toInt8.toInt32).toInt8.toInt32) ((((128 : Int32) ||| (i2 &&& (63 : Int32))).toInt8.toInt32).toInt8.toInt32) ((((128 : Int32) ||| (i3 &&& (63 : Int32))).toInt8.toInt32).toInt8.toInt32) 5 (0 : Int32) (0 : Int32) (128 : Int32) (191 : Int32)).2.2.1) ((own_ck (0 : Int32) (own_v0_78 i0 i1 i2 i3 i4) (0 : Int32) (128 : Int32) (191 : Int32) (((i0 &&& (255 : Int32)).toInt8.toInt32).toInt8.toInt32) ((((128 : Int32) ||| (i1 &&& (63 : Int32))).toInt8.toInt32).toInt8.toInt32) ((((128 : Int32) ||| (i2 &&& (63 : Int32))).toInt8.toInt32).toInt8.toInt32) ((((128 : Int32) ||| (i3 &&& (63 : Int32))).toInt8.toInt32).toInt8.toInt32) 5 (0 : Int32) (0 : Int32) (128 : Int32) (191 : Int32)).2.2.2)).2.1)
  else
    ((own_ck (0 : Int32) (own_v0_78 i0 i1 i2 i3 i4) (0 : Int32) (128 : Int32) (191 : Int32) (((i0 &&& (255 : Int32)).toInt8.toInt32).toInt8.toInt32) ((((128 : Int32) ||| (i1 &&& (63 : Int32))).toInt8.toInt32).toInt8.toInt32) ((((128 : Int32) ||| (i2 &&& (63 : Int32))).toInt8.toInt32).toInt8.toInt32) ((((128 : Int32) ||| (i3 &&& (63 : Int32))).toInt8.toInt32).toInt8.toInt32) 5 (0 : Int32) (0 : Int32) (128 : Int32) (191 : Int32)).2.1)
def own_j0_178_lowest (i0 : Int32) (i1 : Int32) (i2 : Int32) (i3 : Int32) (i4 : Int32) : Int32 :=
  if (own_v0_113 i0 i1 i2 i3 i4) < (0 : Int32) then
    ((own_ck (own_v0_78 i0 i1 i2 i3 i4) (own_v0_64 i0 i1 i2 i3 i4) ((own_ck (0 : Int32) (own_v0_78 i0 i1 i2 i3 i4) (0 : Int32) (128 : Int32) (191 : Int32) (((i0 &&& (255 : Int32)).toInt8.toInt32).toInt8.toInt32) ((((128 : Int32) ||| (i1 &&& (63 : Int32))).toInt8.toInt32).toInt8.toInt32) ((((128 : Int32) ||| (i2 &&& (63 : Int32))).toInt8.toInt32).toInt8.toInt32) ((((128 : Int32) ||| (i3 &&& (63 : Int32))).toInt8.toInt32).toInt8.toInt32) 5 (0 : Int32) (0 : Int32) (128 : Int32) (191 : Int32)).2.1) ((own_ck (0 : Int32) (own_v0_78 i0 i1 i2 i3 i4) (0 : Int32) (128 : Int32) (191 : Int32) (((i0 &&& (255 : Int32)).toInt8.toInt32).toInt8.toInt32) ((((128 : Int32) ||| (i1 &&& (63 : Int32))).toInt8.toInt32).toInt8.toInt32) ((((128 : Int32) ||| (i2 &&& (63 : Int32))).toInt8.toInt32).toInt8.toInt32) ((((128 : Int32) ||| (i3 &&& (63 : Int32))).toInt8.toInt32).toInt8.toInt32) 5 (0 : Int32) (0 : Int32) (128 : Int32) (191 : Int32)).2.2.1) ((own_ck (0 : Int32) (own_v0_78 i0 i1 i2 i3 i4) (0 : Int32) (128 : Int32) (191 : Int32) (((i0 &&& (255 : Int32)).toInt8.toInt32).toInt8.toInt32) ((((128 : Int32) ||| (i1 &&& (63 : Int32))).toInt8.toInt32).toInt8.toInt32) ((((128 : Int32) ||| (i2 &&& (63 : Int32))).toInt8.toInt32).toInt8.toInt32) ((((128 : Int32) ||| (i3 &&& (63 : Int32))).toInt8.toInt32).toInt8.toInt32) 5 (0 : Int32) (0 : Int32) (128 : Int32) (191 : Int32)).2.2.2) (((i0 &&& (255 : Int32)).toInt8.toInt32).toInt8.toInt32) ((((128 : Int32) ||| (i1 &&& (63 : Int32))).toInt8.toInt32).toInt8.toInt32) ((((128 : Int32) ||| (i2 &&& (63 : Int32))).toInt8.toInt32).toInt8.toInt32) ((((128 : Int32) ||| (i3 &&& (63 : Int32))).toInt8.toInt32).toInt8.toInt32) 5 (own_v0_78 i0 i1 i2 i3 i4) ((own_ck (0 : Int32) (own_v0_78 i0 i1 i2 i3 i4) (0 : Int32) (128 : Int32) (191 : Int32) (((i0 &&& (255 : Int32)).toInt8.toInt32).toInt8.toInt32) ((((128 : Int32) ||| (i1 &&& (63 : Int32))).toInt8.toInt32).toInt8.toInt32) ((((128 : Int32) ||| (i2 &&& (63 : Int32))).toInt8.toInt32).toInt8.toInt32) ((((128 : Int32) ||| (i3 &&& (63 : Int32))).toInt8.toInt32).toInt8.toInt32) 5 (0 : Int32) (0 : Int32) (128 : Int32) (191 : Int32)).2.1) ((own_ck (0 : Int32) (own_v0_78 i0 i1 i2 i3 i4) (0 : Int32) (128 : Int32) (191 : Int32) (((i0 &&& (255 : Int32)).toInt8.toInt32).toInt8.toInt32) ((((128 : Int32) ||| (i1 &&& (63 : Int32))).toInt8.toInt32).toInt8.toInt32) ((((128 : Int32) ||| (i2 &&& (63 : Int32))).toInt8.toInt32).toInt8.toInt32) ((((128 : Int32) ||| (i3 &&& (63 : Int32))).toInt8.toInt32).toInt8.toInt32) 5 (0 : Int32) (0 : Int32) (128 : Int32) (191 : Int32)).2.2.1) ((own_ck (0 : Int32) (own_v0_78 i0 i1 i2 i3 i4) (0 : Int32) (128 : Int32) (191 : Int32) (((i0 &&& (255 : Int32)).toInt8.toInt32).toInt8.toInt32) ((((128 : Int32) ||| (i1 &&& (63 : Int32))).toInt8.toInt32).toInt8.toInt32) ((((128 : Int32) ||| (i2 &&& (63 : Int32))).toInt8.toInt32).toInt8.toInt32) ((((128 : Int32) ||| (i3 &&& (63 : Int32))).toInt8.toInt32).toInt8.toInt32) 5 (0 : Int32) (0 : Int32) (128 : Int32) (191 : Int32)).2.2.2)).2.2.1)
  else
    ((own_ck (0 : Int32) (own_v0_78 i0 i1 i2 i3 i4) (0 : Int32) (128 : Int32) (191 : Int32) (((i0 &&& (255 : Int32)).toInt8.toInt32).toInt8.toInt32) ((((128 : Int32) ||| (i1 &&& (63 : Int32))).toInt8.toInt32).toInt8.toInt32) ((((128 : Int32) ||| (i2 &&& (63 : Int32))).toInt8.toInt32).toInt8.toInt32) ((((128 : Int32) ||| (i3 &&& (63 : Int32))).toInt8.toInt32).toInt8.toInt32) 5 (0 : Int32) (0 : Int32) (128 : Int32) (191 : Int32)).2.2.1)
def own_j0_178_highest (i0 : Int32) (i1 : Int32) (i2 : Int32) (i3 : Int32) (i4 : Int32) : Int32 :=
  if (own_v0_113 i0 i1 i2 i3 i4) < (0 : Int32) then
    ((own_ck (own_v0_78 i0 i1 i2 i3 i4) (own_v0_64 i0 i1 i2 i3 i4) ((own_ck (0 : Int32) (own_v0_78 i0 i1 i2 i3 i4) (0 : Int32) (128 : Int32) (191 : Int32) (((i0 &&& (255 : Int32)).toInt8.toInt32).toInt8.toInt32) ((((128 : Int32) ||| (i1 &&& (63 : Int32))).toInt8.toInt32).toInt8.toInt32) ((((128 : Int32) ||| (i2 &&& (63 : Int32))).toInt8.toInt32).toInt8.toInt32) ((((128 : Int32) ||| (i3 &&& (63 : Int32))).toInt8.toInt32).toInt8.toInt32) 5 (0 : Int32) (0 : Int32) (128 : Int32) (191 : Int32)).2.1) ((own_ck (0 : Int32) (own_v0_78 i0 i1 i2 i3 i4) (0 : Int32) (128 : Int32) (191 : Int32) (((i0 &&& (255 : Int32)).toInt8.toInt32).toInt8.toInt32) ((((128 : Int32) ||| (i1 &&& (63 : Int32))).toInt8.toInt32).toInt8.toInt32) ((((128 : Int32) ||| (i2 &&& (63 : Int32))).toInt8.toInt32).toInt8.toInt32) ((((128 : Int32) ||| (i3 &&& (63 : Int32))).toInt8.toInt32).toInt8.toInt32) 5 (0 : Int32) (0 : Int32) (128 : Int32) (191 : Int32)).2.2.1) ((own_ck (0 : Int32) (own_v0_78 i0 i1 i2 i3 i4) (0 : Int32) (128 : Int32) (191 : Int32) (((i0 &&& (255 : Int32)).toInt8.toInt32).toInt8.toInt32) ((((128 : Int32) ||| (i1 &&& (63 : Int32))).toInt8.toInt32).toInt8.toInt32) ((((128 : Int32) ||| (i2 &&& (63 : Int32))).toInt8.toInt32).toInt8.toInt32) ((((128 : Int32) ||| (i3 &&& (63 : Int32))).toInt8.toInt32).toInt8.toInt32) 5 (0 : Int32) (0 : Int32) (128 : Int32) (191 : Int32)).2.2.2) (((i0 &&& (255 : Int32)).toInt8.toInt32).toInt8.toInt32) ((((128 : Int32) ||| (i1 &&& (63 : Int32))).toInt8.toInt32).toInt8.toInt32) ((((128 : Int32) ||| (i2 &&& (63 : Int32))).toInt8.toInt32).toInt8.toInt32) ((((128 : Int32) ||| (i3 &&& (63 : Int32))).toInt8.toInt32).toInt8.toInt32) 5 (own_v0_78 i0 i1 i2 i3 i4) ((own_ck (0 : Int32) (own_v0_78 i0 i1 i2 i3 i4) (0 : Int32) (128 : Int32) (191 : Int32) (((i0 &&& (255 : Int32)).toInt8.toInt32).toInt8.toInt32) ((((128 : Int32) ||| (i1 &&& (63 : Int32))).toInt8.toInt32).toInt8.toInt32) ((((128 : Int32) ||| (i2 &&& (63 : Int32))).toInt8.toInt32).toInt8.toInt32) ((((128 : Int32) ||| (i3 &&& (63 : Int32))).toInt8.toInt32).toInt8.toInt32) 5 (0 : Int32) (0 : Int32) (128 : Int32) (191 : Int32)).2.1) ((own_ck (0 : Int32) (own_v0_78 i0 i1 i2 i3 i4) (0 : Int32) (128 : Int32) (191 : Int32) (((i0 &&& (255 : Int32)).toInt8.toInt32).toInt8.toInt32) ((((128 : Int32) ||| (i1 &&& (63 : Int32))).toInt8.toInt32).toInt8.toInt32) ((((128 : Int32) ||| (i2 &&& (63 : Int32))).toInt8.toInt32).toInt8.toInt32) ((((128 : Int32) ||| (i3 &&& (63 : Int32))).toInt8.toInt32).toInt8.toInt32) 5 (0 : Int32) (0 : Int32) (128 : Int32) (191 : Int32)).2.2.1) ((own_ck (0 : Int32) (own_v0_78 i0 i1 i2 i3 i4) (0 : Int32) (128 : Int32) (191 : Int32) (((i0 &&& (255 : Int32)).toInt8.toInt32).toInt8.toInt32) ((((128 : Int32) ||| (i1 &&& (63 : Int32))).toInt8.toInt32).toInt8.toInt32) ((((128 : Int32) ||| (i2 &&& (63 : Int32))).toInt8.toInt32).toInt8.toInt32) ((((128 : Int32) ||| (i3 &&& (63 : Int32))).toInt8.toInt32).toInt8.toInt32) 5 (0 : Int32) (0 : Int32) (128 : Int32) (191 : Int32)).2.2.2)).2.2.2)
  else
    ((own_ck (0 : Int32) (own_v0_78 i0 i1 i2 i3 i4) (0 : Int32) (128 : Int32) (191 : Int32) (((i0 &&& (255 : Int32)).toInt8.toInt32).toInt8.toInt32) ((((128 : Int32) ||| (i1 &&& (63 : Int32))).toInt8.toInt32).toInt8.toInt32) ((((128 : Int32) ||| (i2 &&& (63 : Int32))).toInt8.toInt32).toInt8.toInt32) ((((128 : Int32) ||| (i3 &&& (63 : Int32))).toInt8.toInt32).toInt8.toInt32) 5 (0 : Int32) (0 : Int32) (128 : Int32) (191 : Int32)).2.2.2)
def own_j0_211_S0 (i0 : Int32) (i1 : Int32) (i2 : Int32) (i3 : Int32) (i4 : Int32) : Int32 :=
  if (own_v0_85 i0 i1 i2 i3 i4) < (2 : Int32) then
    (1 : Int32)
  else
    if (own_j0_178_L14 i0 i1 i2 i3 i4) < (0 : Int32) then
      if (own_v0_64 i0 i1 i2 i3 i4) = (own_v0_85 i0 i1 i2 i3 i4) then
        (1 : Int32)
      else
        (0 : Int32)
    else
      if (own_j0_178_L14 i0 i1 i2 i3 i4) = (own_v0_85 i0 i1 i2 i3 i4) then
        (1 : Int32)
      else
        (0 : Int32)
theorem own_ef0 (m : MethodId) (x0 : Int32) (x1 : Int32) (x2 : Int32) (x3 : Int32) (x4 : Int32) : entryFrame m #[(.int x0), (.int x1), (.int x2), (.int x3), (.int x4)] maxLocals = mkF m 0 #[.val (.int x0), .val (.int x1), .val (.int x2), .val (.int x3), .val (.int x4), .unset, .unset, .unset, .unset, .unset, .unset, .unset, .unset, .unset, .unset, .unset] [] := by first | (simp [entryFrame, mkF, argsToLocals, Value.category, maxLocals]; done) | rfl
def own_f0 (i0 : Int32) (i1 : Int32) (i2 : Int32) (i3 : Int32) (i4 : Int32) : Int32 :=
  if (own_ab (0 : Int32)) = (0 : Int32) then
    (0 : Int32)
  else
    if (own_j0_178_L13 i0 i1 i2 i3 i4) = (0 : Int32) then
      (0 : Int32)
    else
      if (own_ab (own_j0_178_pending i0 i1 i2 i3 i4)) = (own_j0_211_S0 i0 i1 i2 i3 i4) then
        (1 : Int32)
      else
        (0 : Int32)
def own_Q0 (Z : State) (i0 : Int32) (i1 : Int32) (i2 : Int32) (i3 : Int32) (i4 : Int32) (h0 : Heap) (n0 : Nat) (v : Option Value) (h : Heap) (L : List Loc) : Prop := v = some (.int (own_f0 i0 i1 i2 i3 i4)) ∧ Fr n0 L ∧ Keep h0 h []
set_option maxRecDepth 65536 in
set_option maxHeartbeats 40000000 in
theorem own_rm0 (l : Launch) (Z : State) (a0 : Array Value) (hw : ∀ d ∈ tables_1, d.before a0 Z = true) (ws : List Jvm.Cond) (i0 : Int32) (i1 : Int32) (i2 : Int32) (i3 : Int32) (i4 : Int32) (h0 : Heap) (n0 : Nat) (Z0 : n0 ≤ h0.size) :
    MetFree l x (head1 (Jvm.Cond.code x code maxLocals ret :: ws) room_1) (fun a U => a = #[(.int i0), (.int i1), (.int i2), (.int i3), (.int i4)] ∧ Z.Warmed39 U.vm ∧ U.heap = h0) (fun _ _ _ _ _ => True) (fun _ U o U' => ∃ v L, o = .returned v ∧ own_Q0 Z i0 i1 i2 i3 i4 h0 n0 v U'.heap L ∧ FrameEnd U o U' L 2 7) := by
  refine MetFree.of_bodySF (plainFor_of_name own_pn0) hisR ?_
  intro p e s m args below meth c s₁ Bd hml0 hP hK
  obtain ⟨rfl, hZ, hh⟩ := hP
  have hx := Bd.exec
  have hby := Bd.bytes
  have hret := Bd.returns
  have hlk := BodyLoose.notSynchronized Bd
  have hml : c.maxLocals = 16 := hml0
  have hown : s.vm.findClass "com/example/marrow/marrow/Utf8CheckerAtBoundaryPinLaw" = some m.cls := findClass_of_methodNamed Bd.named
  have hnm := (name_of_methodNamed Bd.named Bd.method).1
  have X0 : Stand p l e room_1 s m #[(.int i0), (.int i1), (.int i2), (.int i3), (.int i4)] below meth c s₁ [] 0 0 := Stand.of_body Bd
  have e0 : s₁.heap = h0 := by rw [← hh, Bd.state]; rfl
  have N0 := Fr.nil n0
  have K0 : Keep h0 h0 [] := Keep.refl h0 _
  show ownE p e below s (own_Q0 Z i0 i1 i2 i3 i4 h0 n0) 2 7 s₁ (entryFrame m #[(.int i0), (.int i1), (.int i2), (.int i3), (.int i4)] maxLocals)
  rw [own_ef0]
  refine ownE.go (T' := s₁) (f' := (mkF m 8 #[.val (.int i0), .val (.int i1), .val (.int i2), .val (.int i3), .val (.int i4), .val (.int (i0 &&& (255 : Int32))), .unset, .unset, .unset, .unset, .unset, .unset, .unset, .unset, .unset, .unset] [(.int (4 : Int32))])) (fun t kt => ?_) ?_
  · show Steps p.tables e below (s₁.setTop (mkF m 0 #[.val (.int i0), .val (.int i1), .val (.int i2), .val (.int i3), .val (.int i4), .unset, .unset, .unset, .unset, .unset, .unset, .unset, .unset, .unset, .unset, .unset] [])) _
    refine XS.iloadN X0.here hx rfl (hb hby at_0) rfl ?_
    show Steps p.tables e below (s₁.setTop (mkF m 1 #[.val (.int i0), .val (.int i1), .val (.int i2), .val (.int i3), .val (.int i4), .unset, .unset, .unset, .unset, .unset, .unset, .unset, .unset, .unset, .unset, .unset] [(.int i0)])) _
    refine XS.sipush X0.here hx rfl (hb hby at_1) ?_
    show Steps p.tables e below (s₁.setTop (mkF m 4 #[.val (.int i0), .val (.int i1), .val (.int i2), .val (.int i3), .val (.int i4), .unset, .unset, .unset, .unset, .unset, .unset, .unset, .unset, .unset, .unset, .unset] [(.int (255 : Int32)), (.int i0)])) _
    refine XS.iand X0.here hx rfl (hb hby at_4) rfl ?_
    show Steps p.tables e below (s₁.setTop (mkF m 5 #[.val (.int i0), .val (.int i1), .val (.int i2), .val (.int i3), .val (.int i4), .unset, .unset, .unset, .unset, .unset, .unset, .unset, .unset, .unset, .unset, .unset] [(.int (i0 &&& (255 : Int32)))])) _
    refine XS.istore X0.here hx rfl (hb hby at_5) rfl (l' := #[.val (.int i0), .val (.int i1), .val (.int i2), .val (.int i3), .val (.int i4), .val (.int (i0 &&& (255 : Int32))), .unset, .unset, .unset, .unset, .unset, .unset, .unset, .unset, .unset, .unset]) rfl ?_
    show Steps p.tables e below (s₁.setTop (mkF m 7 #[.val (.int i0), .val (.int i1), .val (.int i2), .val (.int i3), .val (.int i4), .val (.int (i0 &&& (255 : Int32))), .unset, .unset, .unset, .unset, .unset, .unset, .unset, .unset, .unset, .unset] [])) _
    refine XS.iconst X0.here hx rfl (hb hby at_7) ?_
    exact kt
  obtain ⟨T1, h1, k1, X1, e1, E1, A1, st1⟩ := newP X0 hx hZ (hw _ (List.mem_of_getElem? (i := 0) rfl)) e0 (g := (mkF m 8 #[.val (.int i0), .val (.int i1), .val (.int i2), .val (.int i3), .val (.int i4), .val (.int (i0 &&& (255 : Int32))), .unset, .unset, .unset, .unset, .unset, .unset, .unset, .unset, .unset, .unset] [(.int (4 : Int32))])) rfl (hb hby at_8) rfl (by decide) (cap := 4) (by decide) (by decide) (by decide) (by decide)
  obtain ⟨b1, g1⟩ : ∃ z, z = h0.size := ⟨_, rfl⟩
  rw [← g1] at A1 st1
  have sz_b1 : h0.size ≤ b1 := Nat.le_trans K0.1 (Nat.le_of_eq g1.symm)
  have ge_b1 : n0 ≤ b1 := Nat.le_trans Z0 sz_b1
  have V1 : Arv Z h1 b1 k1 .byte (4 : Int32) [(.int (0 : Int32)), (.int (0 : Int32)), (.int (0 : Int32)), (.int (0 : Int32))] (.int (0 : Int32)) := (Arv.new A1 (by decide)).pad (pad_rep [] (.int (0 : Int32)) 4)
  have K1 : Keep h0 h1 [] := K0.ext E1
  refine ownE.go (T' := T1) (f' := (mkF m 10 #[.val (.int i0), .val (.int i1), .val (.int i2), .val (.int i3), .val (.int i4), .val (.int (i0 &&& (255 : Int32))), .unset, .unset, .unset, .unset, .unset, .unset, .unset, .unset, .unset, .unset] [(.ref b1)])) st1 ?_
  refine ownE.go (T' := T1) (f' := (mkF m 18 #[.val (.int i0), .val (.int i1), .val (.int i2), .val (.int i3), .val (.int i4), .val (.int (i0 &&& (255 : Int32))), .val (.ref b1), .unset, .unset, .unset, .unset, .unset, .unset, .unset, .unset, .unset] [(.int ((i0 &&& (255 : Int32)).toInt8.toInt32)), (.int (0 : Int32)), (.ref b1)])) (fun t kt => ?_) ?_
  · show Steps p.tables e below (T1.setTop (mkF m 10 #[.val (.int i0), .val (.int i1), .val (.int i2), .val (.int i3), .val (.int i4), .val (.int (i0 &&& (255 : Int32))), .unset, .unset, .unset, .unset, .unset, .unset, .unset, .unset, .unset, .unset] [(.ref b1)])) _
    refine XS.astore X1.here hx rfl (hb hby at_10) rfl rfl (l' := #[.val (.int i0), .val (.int i1), .val (.int i2), .val (.int i3), .val (.int i4), .val (.int (i0 &&& (255 : Int32))), .val (.ref b1), .unset, .unset, .unset, .unset, .unset, .unset, .unset, .unset, .unset]) rfl ?_
    show Steps p.tables e below (T1.setTop (mkF m 12 #[.val (.int i0), .val (.int i1), .val (.int i2), .val (.int i3), .val (.int i4), .val (.int (i0 &&& (255 : Int32))), .val (.ref b1), .unset, .unset, .unset, .unset, .unset, .unset, .unset, .unset, .unset] [])) _
    refine XS.aload X1.here hx rfl (hb hby at_12) rfl rfl ?_
    show Steps p.tables e below (T1.setTop (mkF m 14 #[.val (.int i0), .val (.int i1), .val (.int i2), .val (.int i3), .val (.int i4), .val (.int (i0 &&& (255 : Int32))), .val (.ref b1), .unset, .unset, .unset, .unset, .unset, .unset, .unset, .unset, .unset] [(.ref b1)])) _
    refine XS.iconst X1.here hx rfl (hb hby at_14) ?_
    show Steps p.tables e below (T1.setTop (mkF m 15 #[.val (.int i0), .val (.int i1), .val (.int i2), .val (.int i3), .val (.int i4), .val (.int (i0 &&& (255 : Int32))), .val (.ref b1), .unset, .unset, .unset, .unset, .unset, .unset, .unset, .unset, .unset] [(.int (0 : Int32)), (.ref b1)])) _
    refine XS.iload X1.here hx rfl (hb hby at_15) rfl ?_
    show Steps p.tables e below (T1.setTop (mkF m 17 #[.val (.int i0), .val (.int i1), .val (.int i2), .val (.int i3), .val (.int i4), .val (.int (i0 &&& (255 : Int32))), .val (.ref b1), .unset, .unset, .unset, .unset, .unset, .unset, .unset, .unset, .unset] [(.int (i0 &&& (255 : Int32))), (.int (0 : Int32)), (.ref b1)])) _
    refine XS.i2b X1.here hx rfl (hb hby at_17) rfl ?_
    exact kt
  obtain ⟨cl2, Ar2, q2, S2, Nn2, Hh2, G2⟩ := id V1
  have hin2 : ¬ ((0 : Int32) < 0 ∨ cl2.slots.size ≤ ((0 : Int32)).toNatClampNeg) := inb_of S2 ⟨by decide, by decide⟩
  obtain ⟨T2, h2, X2, e2, W2, st2⟩ := stB X1 hx hZ e1 Ar2 (j := (0 : Int32)) hin2 (g := (mkF m 18 #[.val (.int i0), .val (.int i1), .val (.int i2), .val (.int i3), .val (.int i4), .val (.int (i0 &&& (255 : Int32))), .val (.ref b1), .unset, .unset, .unset, .unset, .unset, .unset, .unset, .unset, .unset] [(.int ((i0 &&& (255 : Int32)).toInt8.toInt32)), (.int (0 : Int32)), (.ref b1)])) rfl rfl (hb hby at_18)
  have V2 : Arv Z h2 b1 k1 .byte (4 : Int32) [(.int (((i0 &&& (255 : Int32)).toInt8.toInt32).toInt8.toInt32)), (.int (0 : Int32)), (.int (0 : Int32)), (.int (0 : Int32))] (.int (0 : Int32)) := Arv.set Ar2 q2 S2 Nn2 Hh2 G2 (fits_nar_byte _) W2 0 rfl (Nat.le_of_ble_eq_true rfl)
  have K2 : Keep h0 h2 [] := K1.wr W2 (Or.inr sz_b1)
  have N2 := Fr.snoc X2 N0 ge_b1
  refine ownE.go (T' := T2) (f' := (mkF m 19 #[.val (.int i0), .val (.int i1), .val (.int i2), .val (.int i3), .val (.int i4), .val (.int (i0 &&& (255 : Int32))), .val (.ref b1), .unset, .unset, .unset, .unset, .unset, .unset, .unset, .unset, .unset] [])) st2 ?_
  refine ownE.go (T' := T2) (f' := (mkF m 31 #[.val (.int i0), .val (.int i1), .val (.int i2), .val (.int i3), .val (.int i4), .val (.int (i0 &&& (255 : Int32))), .val (.ref b1), .unset, .unset, .unset, .unset, .unset, .unset, .unset, .unset, .unset] [(.int (((128 : Int32) ||| (i1 &&& (63 : Int32))).toInt8.toInt32)), (.int (1 : Int32)), (.ref b1)])) (fun t kt => ?_) ?_
  · show Steps p.tables e below (T2.setTop (mkF m 19 #[.val (.int i0), .val (.int i1), .val (.int i2), .val (.int i3), .val (.int i4), .val (.int (i0 &&& (255 : Int32))), .val (.ref b1), .unset, .unset, .unset, .unset, .unset, .unset, .unset, .unset, .unset] [])) _
    refine XS.aload X2.here hx rfl (hb hby at_19) rfl rfl ?_
    show Steps p.tables e below (T2.setTop (mkF m 21 #[.val (.int i0), .val (.int i1), .val (.int i2), .val (.int i3), .val (.int i4), .val (.int (i0 &&& (255 : Int32))), .val (.ref b1), .unset, .unset, .unset, .unset, .unset, .unset, .unset, .unset, .unset] [(.ref b1)])) _
    refine XS.iconst X2.here hx rfl (hb hby at_21) ?_
    show Steps p.tables e below (T2.setTop (mkF m 22 #[.val (.int i0), .val (.int i1), .val (.int i2), .val (.int i3), .val (.int i4), .val (.int (i0 &&& (255 : Int32))), .val (.ref b1), .unset, .unset, .unset, .unset, .unset, .unset, .unset, .unset, .unset] [(.int (1 : Int32)), (.ref b1)])) _
    refine XS.sipush X2.here hx rfl (hb hby at_22) ?_
    show Steps p.tables e below (T2.setTop (mkF m 25 #[.val (.int i0), .val (.int i1), .val (.int i2), .val (.int i3), .val (.int i4), .val (.int (i0 &&& (255 : Int32))), .val (.ref b1), .unset, .unset, .unset, .unset, .unset, .unset, .unset, .unset, .unset] [(.int (128 : Int32)), (.int (1 : Int32)), (.ref b1)])) _
    refine XS.iloadN X2.here hx rfl (hb hby at_25) rfl ?_
    show Steps p.tables e below (T2.setTop (mkF m 26 #[.val (.int i0), .val (.int i1), .val (.int i2), .val (.int i3), .val (.int i4), .val (.int (i0 &&& (255 : Int32))), .val (.ref b1), .unset, .unset, .unset, .unset, .unset, .unset, .unset, .unset, .unset] [(.int i1), (.int (128 : Int32)), (.int (1 : Int32)), (.ref b1)])) _
    refine XS.bipush X2.here hx rfl (hb hby at_26) ?_
    show Steps p.tables e below (T2.setTop (mkF m 28 #[.val (.int i0), .val (.int i1), .val (.int i2), .val (.int i3), .val (.int i4), .val (.int (i0 &&& (255 : Int32))), .val (.ref b1), .unset, .unset, .unset, .unset, .unset, .unset, .unset, .unset, .unset] [(.int (63 : Int32)), (.int i1), (.int (128 : Int32)), (.int (1 : Int32)), (.ref b1)])) _
    refine XS.iand X2.here hx rfl (hb hby at_28) rfl ?_
    show Steps p.tables e below (T2.setTop (mkF m 29 #[.val (.int i0), .val (.int i1), .val (.int i2), .val (.int i3), .val (.int i4), .val (.int (i0 &&& (255 : Int32))), .val (.ref b1), .unset, .unset, .unset, .unset, .unset, .unset, .unset, .unset, .unset] [(.int (i1 &&& (63 : Int32))), (.int (128 : Int32)), (.int (1 : Int32)), (.ref b1)])) _
    refine XS.ior X2.here hx rfl (hb hby at_29) rfl ?_
    show Steps p.tables e below (T2.setTop (mkF m 30 #[.val (.int i0), .val (.int i1), .val (.int i2), .val (.int i3), .val (.int i4), .val (.int (i0 &&& (255 : Int32))), .val (.ref b1), .unset, .unset, .unset, .unset, .unset, .unset, .unset, .unset, .unset] [(.int ((128 : Int32) ||| (i1 &&& (63 : Int32)))), (.int (1 : Int32)), (.ref b1)])) _
    refine XS.i2b X2.here hx rfl (hb hby at_30) rfl ?_
    exact kt
  obtain ⟨cl3, Ar3, q3, S3, Nn3, Hh3, G3⟩ := id V2
  have hin3 : ¬ ((1 : Int32) < 0 ∨ cl3.slots.size ≤ ((1 : Int32)).toNatClampNeg) := inb_of S3 ⟨by decide, by decide⟩
  obtain ⟨T3, h3, X3, e3, W3, st3⟩ := stB X2 hx hZ e2 Ar3 (j := (1 : Int32)) hin3 (g := (mkF m 31 #[.val (.int i0), .val (.int i1), .val (.int i2), .val (.int i3), .val (.int i4), .val (.int (i0 &&& (255 : Int32))), .val (.ref b1), .unset, .unset, .unset, .unset, .unset, .unset, .unset, .unset, .unset] [(.int (((128 : Int32) ||| (i1 &&& (63 : Int32))).toInt8.toInt32)), (.int (1 : Int32)), (.ref b1)])) rfl rfl (hb hby at_31)
  have V3 : Arv Z h3 b1 k1 .byte (4 : Int32) [(.int (((i0 &&& (255 : Int32)).toInt8.toInt32).toInt8.toInt32)), (.int ((((128 : Int32) ||| (i1 &&& (63 : Int32))).toInt8.toInt32).toInt8.toInt32)), (.int (0 : Int32)), (.int (0 : Int32))] (.int (0 : Int32)) := Arv.set Ar3 q3 S3 Nn3 Hh3 G3 (fits_nar_byte _) W3 1 rfl (Nat.le_of_ble_eq_true rfl)
  have K3 : Keep h0 h3 [] := K2.wr W3 (Or.inr sz_b1)
  have N3 := Fr.snoc X3 N2 ge_b1
  refine ownE.go (T' := T3) (f' := (mkF m 32 #[.val (.int i0), .val (.int i1), .val (.int i2), .val (.int i3), .val (.int i4), .val (.int (i0 &&& (255 : Int32))), .val (.ref b1), .unset, .unset, .unset, .unset, .unset, .unset, .unset, .unset, .unset] [])) st3 ?_
  refine ownE.go (T' := T3) (f' := (mkF m 44 #[.val (.int i0), .val (.int i1), .val (.int i2), .val (.int i3), .val (.int i4), .val (.int (i0 &&& (255 : Int32))), .val (.ref b1), .unset, .unset, .unset, .unset, .unset, .unset, .unset, .unset, .unset] [(.int (((128 : Int32) ||| (i2 &&& (63 : Int32))).toInt8.toInt32)), (.int (2 : Int32)), (.ref b1)])) (fun t kt => ?_) ?_
  · show Steps p.tables e below (T3.setTop (mkF m 32 #[.val (.int i0), .val (.int i1), .val (.int i2), .val (.int i3), .val (.int i4), .val (.int (i0 &&& (255 : Int32))), .val (.ref b1), .unset, .unset, .unset, .unset, .unset, .unset, .unset, .unset, .unset] [])) _
    refine XS.aload X3.here hx rfl (hb hby at_32) rfl rfl ?_
    show Steps p.tables e below (T3.setTop (mkF m 34 #[.val (.int i0), .val (.int i1), .val (.int i2), .val (.int i3), .val (.int i4), .val (.int (i0 &&& (255 : Int32))), .val (.ref b1), .unset, .unset, .unset, .unset, .unset, .unset, .unset, .unset, .unset] [(.ref b1)])) _
    refine XS.iconst X3.here hx rfl (hb hby at_34) ?_
    show Steps p.tables e below (T3.setTop (mkF m 35 #[.val (.int i0), .val (.int i1), .val (.int i2), .val (.int i3), .val (.int i4), .val (.int (i0 &&& (255 : Int32))), .val (.ref b1), .unset, .unset, .unset, .unset, .unset, .unset, .unset, .unset, .unset] [(.int (2 : Int32)), (.ref b1)])) _
    refine XS.sipush X3.here hx rfl (hb hby at_35) ?_
    show Steps p.tables e below (T3.setTop (mkF m 38 #[.val (.int i0), .val (.int i1), .val (.int i2), .val (.int i3), .val (.int i4), .val (.int (i0 &&& (255 : Int32))), .val (.ref b1), .unset, .unset, .unset, .unset, .unset, .unset, .unset, .unset, .unset] [(.int (128 : Int32)), (.int (2 : Int32)), (.ref b1)])) _
    refine XS.iloadN X3.here hx rfl (hb hby at_38) rfl ?_
    show Steps p.tables e below (T3.setTop (mkF m 39 #[.val (.int i0), .val (.int i1), .val (.int i2), .val (.int i3), .val (.int i4), .val (.int (i0 &&& (255 : Int32))), .val (.ref b1), .unset, .unset, .unset, .unset, .unset, .unset, .unset, .unset, .unset] [(.int i2), (.int (128 : Int32)), (.int (2 : Int32)), (.ref b1)])) _
    refine XS.bipush X3.here hx rfl (hb hby at_39) ?_
    show Steps p.tables e below (T3.setTop (mkF m 41 #[.val (.int i0), .val (.int i1), .val (.int i2), .val (.int i3), .val (.int i4), .val (.int (i0 &&& (255 : Int32))), .val (.ref b1), .unset, .unset, .unset, .unset, .unset, .unset, .unset, .unset, .unset] [(.int (63 : Int32)), (.int i2), (.int (128 : Int32)), (.int (2 : Int32)), (.ref b1)])) _
    refine XS.iand X3.here hx rfl (hb hby at_41) rfl ?_
    show Steps p.tables e below (T3.setTop (mkF m 42 #[.val (.int i0), .val (.int i1), .val (.int i2), .val (.int i3), .val (.int i4), .val (.int (i0 &&& (255 : Int32))), .val (.ref b1), .unset, .unset, .unset, .unset, .unset, .unset, .unset, .unset, .unset] [(.int (i2 &&& (63 : Int32))), (.int (128 : Int32)), (.int (2 : Int32)), (.ref b1)])) _
    refine XS.ior X3.here hx rfl (hb hby at_42) rfl ?_
    show Steps p.tables e below (T3.setTop (mkF m 43 #[.val (.int i0), .val (.int i1), .val (.int i2), .val (.int i3), .val (.int i4), .val (.int (i0 &&& (255 : Int32))), .val (.ref b1), .unset, .unset, .unset, .unset, .unset, .unset, .unset, .unset, .unset] [(.int ((128 : Int32) ||| (i2 &&& (63 : Int32)))), (.int (2 : Int32)), (.ref b1)])) _
    refine XS.i2b X3.here hx rfl (hb hby at_43) rfl ?_
    exact kt
  obtain ⟨cl4, Ar4, q4, S4, Nn4, Hh4, G4⟩ := id V3
  have hin4 : ¬ ((2 : Int32) < 0 ∨ cl4.slots.size ≤ ((2 : Int32)).toNatClampNeg) := inb_of S4 ⟨by decide, by decide⟩
  obtain ⟨T4, h4, X4, e4, W4, st4⟩ := stB X3 hx hZ e3 Ar4 (j := (2 : Int32)) hin4 (g := (mkF m 44 #[.val (.int i0), .val (.int i1), .val (.int i2), .val (.int i3), .val (.int i4), .val (.int (i0 &&& (255 : Int32))), .val (.ref b1), .unset, .unset, .unset, .unset, .unset, .unset, .unset, .unset, .unset] [(.int (((128 : Int32) ||| (i2 &&& (63 : Int32))).toInt8.toInt32)), (.int (2 : Int32)), (.ref b1)])) rfl rfl (hb hby at_44)
  have V4 : Arv Z h4 b1 k1 .byte (4 : Int32) [(.int (((i0 &&& (255 : Int32)).toInt8.toInt32).toInt8.toInt32)), (.int ((((128 : Int32) ||| (i1 &&& (63 : Int32))).toInt8.toInt32).toInt8.toInt32)), (.int ((((128 : Int32) ||| (i2 &&& (63 : Int32))).toInt8.toInt32).toInt8.toInt32)), (.int (0 : Int32))] (.int (0 : Int32)) := Arv.set Ar4 q4 S4 Nn4 Hh4 G4 (fits_nar_byte _) W4 2 rfl (Nat.le_of_ble_eq_true rfl)
  have K4 : Keep h0 h4 [] := K3.wr W4 (Or.inr sz_b1)
  have N4 := Fr.snoc X4 N3 ge_b1
  refine ownE.go (T' := T4) (f' := (mkF m 45 #[.val (.int i0), .val (.int i1), .val (.int i2), .val (.int i3), .val (.int i4), .val (.int (i0 &&& (255 : Int32))), .val (.ref b1), .unset, .unset, .unset, .unset, .unset, .unset, .unset, .unset, .unset] [])) st4 ?_
  refine ownE.go (T' := T4) (f' := (mkF m 57 #[.val (.int i0), .val (.int i1), .val (.int i2), .val (.int i3), .val (.int i4), .val (.int (i0 &&& (255 : Int32))), .val (.ref b1), .unset, .unset, .unset, .unset, .unset, .unset, .unset, .unset, .unset] [(.int (((128 : Int32) ||| (i3 &&& (63 : Int32))).toInt8.toInt32)), (.int (3 : Int32)), (.ref b1)])) (fun t kt => ?_) ?_
  · show Steps p.tables e below (T4.setTop (mkF m 45 #[.val (.int i0), .val (.int i1), .val (.int i2), .val (.int i3), .val (.int i4), .val (.int (i0 &&& (255 : Int32))), .val (.ref b1), .unset, .unset, .unset, .unset, .unset, .unset, .unset, .unset, .unset] [])) _
    refine XS.aload X4.here hx rfl (hb hby at_45) rfl rfl ?_
    show Steps p.tables e below (T4.setTop (mkF m 47 #[.val (.int i0), .val (.int i1), .val (.int i2), .val (.int i3), .val (.int i4), .val (.int (i0 &&& (255 : Int32))), .val (.ref b1), .unset, .unset, .unset, .unset, .unset, .unset, .unset, .unset, .unset] [(.ref b1)])) _
    refine XS.iconst X4.here hx rfl (hb hby at_47) ?_
    show Steps p.tables e below (T4.setTop (mkF m 48 #[.val (.int i0), .val (.int i1), .val (.int i2), .val (.int i3), .val (.int i4), .val (.int (i0 &&& (255 : Int32))), .val (.ref b1), .unset, .unset, .unset, .unset, .unset, .unset, .unset, .unset, .unset] [(.int (3 : Int32)), (.ref b1)])) _
    refine XS.sipush X4.here hx rfl (hb hby at_48) ?_
    show Steps p.tables e below (T4.setTop (mkF m 51 #[.val (.int i0), .val (.int i1), .val (.int i2), .val (.int i3), .val (.int i4), .val (.int (i0 &&& (255 : Int32))), .val (.ref b1), .unset, .unset, .unset, .unset, .unset, .unset, .unset, .unset, .unset] [(.int (128 : Int32)), (.int (3 : Int32)), (.ref b1)])) _
    refine XS.iloadN X4.here hx rfl (hb hby at_51) rfl ?_
    show Steps p.tables e below (T4.setTop (mkF m 52 #[.val (.int i0), .val (.int i1), .val (.int i2), .val (.int i3), .val (.int i4), .val (.int (i0 &&& (255 : Int32))), .val (.ref b1), .unset, .unset, .unset, .unset, .unset, .unset, .unset, .unset, .unset] [(.int i3), (.int (128 : Int32)), (.int (3 : Int32)), (.ref b1)])) _
    refine XS.bipush X4.here hx rfl (hb hby at_52) ?_
    show Steps p.tables e below (T4.setTop (mkF m 54 #[.val (.int i0), .val (.int i1), .val (.int i2), .val (.int i3), .val (.int i4), .val (.int (i0 &&& (255 : Int32))), .val (.ref b1), .unset, .unset, .unset, .unset, .unset, .unset, .unset, .unset, .unset] [(.int (63 : Int32)), (.int i3), (.int (128 : Int32)), (.int (3 : Int32)), (.ref b1)])) _
    refine XS.iand X4.here hx rfl (hb hby at_54) rfl ?_
    show Steps p.tables e below (T4.setTop (mkF m 55 #[.val (.int i0), .val (.int i1), .val (.int i2), .val (.int i3), .val (.int i4), .val (.int (i0 &&& (255 : Int32))), .val (.ref b1), .unset, .unset, .unset, .unset, .unset, .unset, .unset, .unset, .unset] [(.int (i3 &&& (63 : Int32))), (.int (128 : Int32)), (.int (3 : Int32)), (.ref b1)])) _
    refine XS.ior X4.here hx rfl (hb hby at_55) rfl ?_
    show Steps p.tables e below (T4.setTop (mkF m 56 #[.val (.int i0), .val (.int i1), .val (.int i2), .val (.int i3), .val (.int i4), .val (.int (i0 &&& (255 : Int32))), .val (.ref b1), .unset, .unset, .unset, .unset, .unset, .unset, .unset, .unset, .unset] [(.int ((128 : Int32) ||| (i3 &&& (63 : Int32)))), (.int (3 : Int32)), (.ref b1)])) _
    refine XS.i2b X4.here hx rfl (hb hby at_56) rfl ?_
    exact kt
  obtain ⟨cl5, Ar5, q5, S5, Nn5, Hh5, G5⟩ := id V4
  have hin5 : ¬ ((3 : Int32) < 0 ∨ cl5.slots.size ≤ ((3 : Int32)).toNatClampNeg) := inb_of S5 ⟨by decide, by decide⟩
  obtain ⟨T5, h5, X5, e5, W5, st5⟩ := stB X4 hx hZ e4 Ar5 (j := (3 : Int32)) hin5 (g := (mkF m 57 #[.val (.int i0), .val (.int i1), .val (.int i2), .val (.int i3), .val (.int i4), .val (.int (i0 &&& (255 : Int32))), .val (.ref b1), .unset, .unset, .unset, .unset, .unset, .unset, .unset, .unset, .unset] [(.int (((128 : Int32) ||| (i3 &&& (63 : Int32))).toInt8.toInt32)), (.int (3 : Int32)), (.ref b1)])) rfl rfl (hb hby at_57)
  have V5 : Arv Z h5 b1 k1 .byte (4 : Int32) [(.int (((i0 &&& (255 : Int32)).toInt8.toInt32).toInt8.toInt32)), (.int ((((128 : Int32) ||| (i1 &&& (63 : Int32))).toInt8.toInt32).toInt8.toInt32)), (.int ((((128 : Int32) ||| (i2 &&& (63 : Int32))).toInt8.toInt32).toInt8.toInt32)), (.int ((((128 : Int32) ||| (i3 &&& (63 : Int32))).toInt8.toInt32).toInt8.toInt32))] (.int (0 : Int32)) := Arv.set Ar5 q5 S5 Nn5 Hh5 G5 (fits_nar_byte _) W5 3 rfl (Nat.le_of_ble_eq_true rfl)
  have K5 : Keep h0 h5 [] := K4.wr W5 (Or.inr sz_b1)
  have N5 := Fr.snoc X5 N4 ge_b1
  refine ownE.go (T' := T5) (f' := (mkF m 58 #[.val (.int i0), .val (.int i1), .val (.int i2), .val (.int i3), .val (.int i4), .val (.int (i0 &&& (255 : Int32))), .val (.ref b1), .unset, .unset, .unset, .unset, .unset, .unset, .unset, .unset, .unset] [])) st5 ?_
  refine ownE.go (T' := T5) (f' := (mkF m 82 #[.val (.int i0), .val (.int i1), .val (.int i2), .val (.int i3), .val (.int i4), .val (.int (i0 &&& (255 : Int32))), .val (.ref b1), .val (.int (own_v0_64 i0 i1 i2 i3 i4)), .val (.int (own_v0_78 i0 i1 i2 i3 i4)), .unset, .unset, .unset, .unset, .unset, .unset, .unset] [(.int (i0 &&& (255 : Int32)))])) (fun t kt => ?_) ?_
  · show Steps p.tables e below (T5.setTop (mkF m 58 #[.val (.int i0), .val (.int i1), .val (.int i2), .val (.int i3), .val (.int i4), .val (.int (i0 &&& (255 : Int32))), .val (.ref b1), .unset, .unset, .unset, .unset, .unset, .unset, .unset, .unset, .unset] [])) _
    refine XS.iconst X5.here hx rfl (hb hby at_58) ?_
    show Steps p.tables e below (T5.setTop (mkF m 59 #[.val (.int i0), .val (.int i1), .val (.int i2), .val (.int i3), .val (.int i4), .val (.int (i0 &&& (255 : Int32))), .val (.ref b1), .unset, .unset, .unset, .unset, .unset, .unset, .unset, .unset, .unset] [(.int (1 : Int32))])) _
    refine XS.iload X5.here hx rfl (hb hby at_59) rfl ?_
    show Steps p.tables e below (T5.setTop (mkF m 61 #[.val (.int i0), .val (.int i1), .val (.int i2), .val (.int i3), .val (.int i4), .val (.int (i0 &&& (255 : Int32))), .val (.ref b1), .unset, .unset, .unset, .unset, .unset, .unset, .unset, .unset, .unset] [(.int i4), (.int (1 : Int32))])) _
    refine XS.iconst X5.here hx rfl (hb hby at_61) ?_
    show Steps p.tables e below (T5.setTop (mkF m 62 #[.val (.int i0), .val (.int i1), .val (.int i2), .val (.int i3), .val (.int i4), .val (.int (i0 &&& (255 : Int32))), .val (.ref b1), .unset, .unset, .unset, .unset, .unset, .unset, .unset, .unset, .unset] [(.int (3 : Int32)), (.int i4), (.int (1 : Int32))])) _
    refine XS.iand X5.here hx rfl (hb hby at_62) rfl ?_
    show Steps p.tables e below (T5.setTop (mkF m 63 #[.val (.int i0), .val (.int i1), .val (.int i2), .val (.int i3), .val (.int i4), .val (.int (i0 &&& (255 : Int32))), .val (.ref b1), .unset, .unset, .unset, .unset, .unset, .unset, .unset, .unset, .unset] [(.int (i4 &&& (3 : Int32))), (.int (1 : Int32))])) _
    refine XS.iadd X5.here hx rfl (hb hby at_63) rfl ?_
    show Steps p.tables e below (T5.setTop (mkF m 64 #[.val (.int i0), .val (.int i1), .val (.int i2), .val (.int i3), .val (.int i4), .val (.int (i0 &&& (255 : Int32))), .val (.ref b1), .unset, .unset, .unset, .unset, .unset, .unset, .unset, .unset, .unset] [(.int ((1 : Int32) + (i4 &&& (3 : Int32))))])) _
    refine XS.istore X5.here hx rfl (hb hby at_64) rfl (l' := #[.val (.int i0), .val (.int i1), .val (.int i2), .val (.int i3), .val (.int i4), .val (.int (i0 &&& (255 : Int32))), .val (.ref b1), .val (.int (own_v0_64 i0 i1 i2 i3 i4)), .unset, .unset, .unset, .unset, .unset, .unset, .unset, .unset]) rfl ?_
    show Steps p.tables e below (T5.setTop (mkF m 66 #[.val (.int i0), .val (.int i1), .val (.int i2), .val (.int i3), .val (.int i4), .val (.int (i0 &&& (255 : Int32))), .val (.ref b1), .val (.int (own_v0_64 i0 i1 i2 i3 i4)), .unset, .unset, .unset, .unset, .unset, .unset, .unset, .unset] [])) _
    refine XS.iload X5.here hx rfl (hb hby at_66) rfl ?_
    show Steps p.tables e below (T5.setTop (mkF m 68 #[.val (.int i0), .val (.int i1), .val (.int i2), .val (.int i3), .val (.int i4), .val (.int (i0 &&& (255 : Int32))), .val (.ref b1), .val (.int (own_v0_64 i0 i1 i2 i3 i4)), .unset, .unset, .unset, .unset, .unset, .unset, .unset, .unset] [(.int i4)])) _
    refine XS.iconst X5.here hx rfl (hb hby at_68) ?_
    show Steps p.tables e below (T5.setTop (mkF m 69 #[.val (.int i0), .val (.int i1), .val (.int i2), .val (.int i3), .val (.int i4), .val (.int (i0 &&& (255 : Int32))), .val (.ref b1), .val (.int (own_v0_64 i0 i1 i2 i3 i4)), .unset, .unset, .unset, .unset, .unset, .unset, .unset, .unset] [(.int (2 : Int32)), (.int i4)])) _
    refine XS.iushr X5.here hx rfl (hb hby at_69) rfl ?_
    show Steps p.tables e below (T5.setTop (mkF m 70 #[.val (.int i0), .val (.int i1), .val (.int i2), .val (.int i3), .val (.int i4), .val (.int (i0 &&& (255 : Int32))), .val (.ref b1), .val (.int (own_v0_64 i0 i1 i2 i3 i4)), .unset, .unset, .unset, .unset, .unset, .unset, .unset, .unset] [(.int ((i4.toUInt32 >>> ((2 : Int32) &&& 31).toUInt32).toInt32))])) _
    refine XS.bipush X5.here hx rfl (hb hby at_70) ?_
    show Steps p.tables e below (T5.setTop (mkF m 72 #[.val (.int i0), .val (.int i1), .val (.int i2), .val (.int i3), .val (.int i4), .val (.int (i0 &&& (255 : Int32))), .val (.ref b1), .val (.int (own_v0_64 i0 i1 i2 i3 i4)), .unset, .unset, .unset, .unset, .unset, .unset, .unset, .unset] [(.int (7 : Int32)), (.int ((i4.toUInt32 >>> ((2 : Int32) &&& 31).toUInt32).toInt32))])) _
    refine XS.iand X5.here hx rfl (hb hby at_72) rfl ?_
    show Steps p.tables e below (T5.setTop (mkF m 73 #[.val (.int i0), .val (.int i1), .val (.int i2), .val (.int i3), .val (.int i4), .val (.int (i0 &&& (255 : Int32))), .val (.ref b1), .val (.int (own_v0_64 i0 i1 i2 i3 i4)), .unset, .unset, .unset, .unset, .unset, .unset, .unset, .unset] [(.int (((i4.toUInt32 >>> ((2 : Int32) &&& 31).toUInt32).toInt32) &&& (7 : Int32)))])) _
    refine XS.iload X5.here hx rfl (hb hby at_73) rfl ?_
    show Steps p.tables e below (T5.setTop (mkF m 75 #[.val (.int i0), .val (.int i1), .val (.int i2), .val (.int i3), .val (.int i4), .val (.int (i0 &&& (255 : Int32))), .val (.ref b1), .val (.int (own_v0_64 i0 i1 i2 i3 i4)), .unset, .unset, .unset, .unset, .unset, .unset, .unset, .unset] [(.int (own_v0_64 i0 i1 i2 i3 i4)), (.int (((i4.toUInt32 >>> ((2 : Int32) &&& 31).toUInt32).toInt32) &&& (7 : Int32)))])) _
    refine XS.iconst X5.here hx rfl (hb hby at_75) ?_
    show Steps p.tables e below (T5.setTop (mkF m 76 #[.val (.int i0), .val (.int i1), .val (.int i2), .val (.int i3), .val (.int i4), .val (.int (i0 &&& (255 : Int32))), .val (.ref b1), .val (.int (own_v0_64 i0 i1 i2 i3 i4)), .unset, .unset, .unset, .unset, .unset, .unset, .unset, .unset] [(.int (1 : Int32)), (.int (own_v0_64 i0 i1 i2 i3 i4)), (.int (((i4.toUInt32 >>> ((2 : Int32) &&& 31).toUInt32).toInt32) &&& (7 : Int32)))])) _
    refine XS.iadd X5.here hx rfl (hb hby at_76) rfl ?_
    show Steps p.tables e below (T5.setTop (mkF m 77 #[.val (.int i0), .val (.int i1), .val (.int i2), .val (.int i3), .val (.int i4), .val (.int (i0 &&& (255 : Int32))), .val (.ref b1), .val (.int (own_v0_64 i0 i1 i2 i3 i4)), .unset, .unset, .unset, .unset, .unset, .unset, .unset, .unset] [(.int ((own_v0_64 i0 i1 i2 i3 i4) + (1 : Int32))), (.int (((i4.toUInt32 >>> ((2 : Int32) &&& 31).toUInt32).toInt32) &&& (7 : Int32)))])) _
    refine iremM X5 hx rfl (hb hby at_77) rfl (own_mz i4) ?_
    show Steps p.tables e below (T5.setTop (mkF m 78 #[.val (.int i0), .val (.int i1), .val (.int i2), .val (.int i3), .val (.int i4), .val (.int (i0 &&& (255 : Int32))), .val (.ref b1), .val (.int (own_v0_64 i0 i1 i2 i3 i4)), .unset, .unset, .unset, .unset, .unset, .unset, .unset, .unset] [(.int ((((i4.toUInt32 >>> ((2 : Int32) &&& 31).toUInt32).toInt32) &&& (7 : Int32)) % ((own_v0_64 i0 i1 i2 i3 i4) + (1 : Int32))))])) _
    refine XS.istore X5.here hx rfl (hb hby at_78) rfl (l' := #[.val (.int i0), .val (.int i1), .val (.int i2), .val (.int i3), .val (.int i4), .val (.int (i0 &&& (255 : Int32))), .val (.ref b1), .val (.int (own_v0_64 i0 i1 i2 i3 i4)), .val (.int (own_v0_78 i0 i1 i2 i3 i4)), .unset, .unset, .unset, .unset, .unset, .unset, .unset]) rfl ?_
    show Steps p.tables e below (T5.setTop (mkF m 80 #[.val (.int i0), .val (.int i1), .val (.int i2), .val (.int i3), .val (.int i4), .val (.int (i0 &&& (255 : Int32))), .val (.ref b1), .val (.int (own_v0_64 i0 i1 i2 i3 i4)), .val (.int (own_v0_78 i0 i1 i2 i3 i4)), .unset, .unset, .unset, .unset, .unset, .unset, .unset] [])) _
    refine XS.iload X5.here hx rfl (hb hby at_80) rfl ?_
    exact kt
  obtain ⟨_, _, ⟨T6, L6, k6, n6⟩, -, X6, ⟨Lc6, hQ6, l6, y6, z6⟩, st6⟩ := Jvm.LawKit.callS X5 hx (y := (⟨"com/example/marrow/marrow/Utf8CheckerAtBoundaryPinLaw", "seqLen", "(I)I"⟩ : MethodName)) hown (mvT hZ (hw _ (List.mem_of_getElem? (i := 1) rfl))) (mvT hZ (hw _ (List.mem_of_getElem? (i := 2) rfl))) (mvT hZ (hw _ (List.mem_of_getElem? (i := 3) rfl))) (mvT hZ (hw _ (List.mem_of_getElem? (i := 4) rfl))) (by decide) (backOf (W := 0) (own_rm1 l Z a0 hw [] (i0 &&& (255 : Int32)) h5 n0 (Nat.le_trans Z0 K5.1) ) hZ (hw _ (List.mem_of_getElem? (i := 4) rfl)) (hw _ (List.mem_of_getElem? (i := 3) rfl)) (by decide) (by decide)) (g := (mkF m 82 #[.val (.int i0), .val (.int i1), .val (.int i2), .val (.int i3), .val (.int i4), .val (.int (i0 &&& (255 : Int32))), .val (.ref b1), .val (.int (own_v0_64 i0 i1 i2 i3 i4)), .val (.int (own_v0_78 i0 i1 i2 i3 i4)), .unset, .unset, .unset, .unset, .unset, .unset, .unset] [(.int (i0 &&& (255 : Int32)))])) rfl (by rw [hml]; rfl) (argsL := [(.int (i0 &&& (255 : Int32)))]) (rest := []) (lenOf own_pd3 rfl) rfl (by show 2 * 0 + _ ≤ _; exact Nat.le_of_eq rfl) (hb hby at_82) (fun _ _ => ⟨rfl, e5, (by decide : 1 + 0 ≤ _), (by decide : 4 + 0 ≤ _)⟩)
  dsimp only [Pt.U, Pt.locs, Pt.cells, Pt.slots] at X6 l6 y6 z6 st6 hQ6
  subst l6 y6 z6
  obtain ⟨rfl, N6q, e6⟩ := hQ6
  have N6 := Fr.app N5 N6q
  refine ownE.go (T' := T6) (f' := (mkF m 85 #[.val (.int i0), .val (.int i1), .val (.int i2), .val (.int i3), .val (.int i4), .val (.int (i0 &&& (255 : Int32))), .val (.ref b1), .val (.int (own_v0_64 i0 i1 i2 i3 i4)), .val (.int (own_v0_78 i0 i1 i2 i3 i4)), .unset, .unset, .unset, .unset, .unset, .unset, .unset] [(.int (own_len (i0 &&& (255 : Int32))))])) st6 ?_
  refine ownE.go (T' := T6) (f' := (mkF m 87 #[.val (.int i0), .val (.int i1), .val (.int i2), .val (.int i3), .val (.int i4), .val (.int (i0 &&& (255 : Int32))), .val (.ref b1), .val (.int (own_v0_64 i0 i1 i2 i3 i4)), .val (.int (own_v0_78 i0 i1 i2 i3 i4)), .val (.int (own_v0_85 i0 i1 i2 i3 i4)), .unset, .unset, .unset, .unset, .unset, .unset] [])) (fun t kt => ?_) ?_
  · show Steps p.tables e below (T6.setTop (mkF m 85 #[.val (.int i0), .val (.int i1), .val (.int i2), .val (.int i3), .val (.int i4), .val (.int (i0 &&& (255 : Int32))), .val (.ref b1), .val (.int (own_v0_64 i0 i1 i2 i3 i4)), .val (.int (own_v0_78 i0 i1 i2 i3 i4)), .unset, .unset, .unset, .unset, .unset, .unset, .unset] [(.int (own_len (i0 &&& (255 : Int32))))])) _
    refine XS.istore X6.here hx rfl (hb hby at_85) rfl (l' := #[.val (.int i0), .val (.int i1), .val (.int i2), .val (.int i3), .val (.int i4), .val (.int (i0 &&& (255 : Int32))), .val (.ref b1), .val (.int (own_v0_64 i0 i1 i2 i3 i4)), .val (.int (own_v0_78 i0 i1 i2 i3 i4)), .val (.int (own_v0_85 i0 i1 i2 i3 i4)), .unset, .unset, .unset, .unset, .unset, .unset]) rfl ?_
    exact kt
  obtain ⟨T7, h7, X7, e7, E7, A7, D7, -, st7⟩ := newO X6 hx hZ hown (hw _ (List.mem_of_getElem? (i := 5) rfl)) (hw _ (List.mem_of_getElem? (i := 6) rfl)) (hw _ (List.mem_of_getElem? (i := 7) rfl)) e6 (g := (mkF m 87 #[.val (.int i0), .val (.int i1), .val (.int i2), .val (.int i3), .val (.int i4), .val (.int (i0 &&& (255 : Int32))), .val (.ref b1), .val (.int (own_v0_64 i0 i1 i2 i3 i4)), .val (.int (own_v0_78 i0 i1 i2 i3 i4)), .val (.int (own_v0_85 i0 i1 i2 i3 i4)), .unset, .unset, .unset, .unset, .unset, .unset] [])) rfl (hb hby at_87) (by decide) (by decide)
  obtain ⟨b7, g7⟩ : ∃ z, z = h5.size := ⟨_, rfl⟩
  rw [← g7] at A7 D7 st7
  have ne_b1_b7 : b1 ≠ b7 := Nat.ne_of_lt (Nat.lt_of_lt_of_le V5.lt (Nat.le_of_eq g7.symm))
  have sz_b7 : h0.size ≤ b7 := Nat.le_trans K5.1 (Nat.le_of_eq g7.symm)
  have ge_b7 : n0 ≤ b7 := Nat.le_trans Z0 sz_b7
  have cArv_b1_7 : Arv Z h7 b1 k1 .byte (4 : Int32) [(.int (((i0 &&& (255 : Int32)).toInt8.toInt32).toInt8.toInt32)), (.int ((((128 : Int32) ||| (i1 &&& (63 : Int32))).toInt8.toInt32).toInt8.toInt32)), (.int ((((128 : Int32) ||| (i2 &&& (63 : Int32))).toInt8.toInt32).toInt8.toInt32)), (.int ((((128 : Int32) ||| (i3 &&& (63 : Int32))).toInt8.toInt32).toInt8.toInt32))] (.int (0 : Int32)) := V5.ext E7
  have D7_lowest : Fld Z h7 b7 "com/example/marrow/marrow/Utf8Checker" "lowest" "I" (.int (0 : Int32)) := D7 (Or.inl (hw _ (List.mem_of_getElem? (i := 15) rfl))) (ty := .int) (by decide)
  have D7_highest : Fld Z h7 b7 "com/example/marrow/marrow/Utf8Checker" "highest" "I" (.int (0 : Int32)) := D7 (Or.inl (hw _ (List.mem_of_getElem? (i := 17) rfl))) (ty := .int) (by decide)
  have D7_pending : Fld Z h7 b7 "com/example/marrow/marrow/Utf8Checker" "pending" "I" (.int (0 : Int32)) := D7 (Or.inl (hw _ (List.mem_of_getElem? (i := 24) rfl))) (ty := .int) (by decide)
  have K7 : Keep h0 h7 [] := K5.ext E7
  refine ownE.go (T' := T7) (f' := (mkF m 90 #[.val (.int i0), .val (.int i1), .val (.int i2), .val (.int i3), .val (.int i4), .val (.int (i0 &&& (255 : Int32))), .val (.ref b1), .val (.int (own_v0_64 i0 i1 i2 i3 i4)), .val (.int (own_v0_78 i0 i1 i2 i3 i4)), .val (.int (own_v0_85 i0 i1 i2 i3 i4)), .unset, .unset, .unset, .unset, .unset, .unset] [(.ref b7)])) st7 ?_
  refine ownE.go (T' := T7) (f' := (mkF m 91 #[.val (.int i0), .val (.int i1), .val (.int i2), .val (.int i3), .val (.int i4), .val (.int (i0 &&& (255 : Int32))), .val (.ref b1), .val (.int (own_v0_64 i0 i1 i2 i3 i4)), .val (.int (own_v0_78 i0 i1 i2 i3 i4)), .val (.int (own_v0_85 i0 i1 i2 i3 i4)), .unset, .unset, .unset, .unset, .unset, .unset] [(.ref b7), (.ref b7)])) (fun t kt => ?_) ?_
  · show Steps p.tables e below (T7.setTop (mkF m 90 #[.val (.int i0), .val (.int i1), .val (.int i2), .val (.int i3), .val (.int i4), .val (.int (i0 &&& (255 : Int32))), .val (.ref b1), .val (.int (own_v0_64 i0 i1 i2 i3 i4)), .val (.int (own_v0_78 i0 i1 i2 i3 i4)), .val (.int (own_v0_85 i0 i1 i2 i3 i4)), .unset, .unset, .unset, .unset, .unset, .unset] [(.ref b7)])) _
    refine XS.dup X7.here hx rfl (hb hby at_90) rfl rfl ?_
    exact kt
  obtain ⟨_, _, ⟨T8, L8, k8, n8⟩, -, X8, ⟨Lc8, hQ8, l8, y8, z8⟩, st8⟩ := X7.specialBack hx (y := (⟨"com/example/marrow/marrow/Utf8Checker", "<init>", "()V"⟩ : MethodName)) rfl hown (mvT hZ (hw _ (List.mem_of_getElem? (i := 8) rfl))) (mvT hZ (hw _ (List.mem_of_getElem? (i := 9) rfl))) (mvT hZ (hw _ (List.mem_of_getElem? (i := 10) rfl))) (by decide) (backOf (W := 1) (own_rm2 l Z a0 hw [] b7 h7 n0 (Nat.le_trans Z0 K7.1) A7 D7_pending D7_lowest D7_highest ge_b7) hZ (hw _ (List.mem_of_getElem? (i := 10) rfl)) (hw _ (List.mem_of_getElem? (i := 7) rfl)) (by decide) (by decide)) (g := (mkF m 91 #[.val (.int i0), .val (.int i1), .val (.int i2), .val (.int i3), .val (.int i4), .val (.int (i0 &&& (255 : Int32))), .val (.ref b1), .val (.int (own_v0_64 i0 i1 i2 i3 i4)), .val (.int (own_v0_78 i0 i1 i2 i3 i4)), .val (.int (own_v0_85 i0 i1 i2 i3 i4)), .unset, .unset, .unset, .unset, .unset, .unset] [(.ref b7), (.ref b7)])) rfl (by rw [hml]; rfl) (Steps.refl _) (a := b7) (argsL := []) (rest := [(.ref b7)]) (lenOf own_pd4 rfl) rfl (by show 2 * 0 + _ ≤ _; exact Nat.le_of_eq rfl) (hb hby at_91) (fun _ _ => ⟨rfl, e7, (by decide : 2 + 0 ≤ _), (by decide : 7 + 0 ≤ _)⟩)
  dsimp only [Pt.U, Pt.locs, Pt.cells, Pt.slots] at X8 l8 y8 z8 st8 hQ8
  subst l8 y8 z8
  obtain ⟨rfl, N8q, K8q, f8_0, f8_1, f8_2, f8_3⟩ := hQ8
  have cArv_b1_8 : Arv Z T8.heap b1 k1 .byte (4 : Int32) [(.int (((i0 &&& (255 : Int32)).toInt8.toInt32).toInt8.toInt32)), (.int ((((128 : Int32) ||| (i1 &&& (63 : Int32))).toInt8.toInt32).toInt8.toInt32)), (.int ((((128 : Int32) ||| (i2 &&& (63 : Int32))).toInt8.toInt32).toInt8.toInt32)), (.int ((((128 : Int32) ||| (i3 &&& (63 : Int32))).toInt8.toInt32).toInt8.toInt32))] (.int (0 : Int32)) := cArv_b1_7.keep K8q (ninS ne_b1_b7 nin0)
  have cExa_b7_8 : Exa Z T8.heap b7 "com/example/marrow/marrow/Utf8Checker" := A7.keep K8q
  have K8 : Keep h0 T8.heap [] := K7.trans K8q (allS (Or.inr sz_b7) all0)
  have N8 := Fr.app N6 N8q
  refine ownE.goS (T' := T8) (f' := (mkF m 94 #[.val (.int i0), .val (.int i1), .val (.int i2), .val (.int i3), .val (.int i4), .val (.int (i0 &&& (255 : Int32))), .val (.ref b1), .val (.int (own_v0_64 i0 i1 i2 i3 i4)), .val (.int (own_v0_78 i0 i1 i2 i3 i4)), .val (.int (own_v0_85 i0 i1 i2 i3 i4)), .unset, .unset, .unset, .unset, .unset, .unset] [(.ref b7)])) st8 ?_
  refine ownE.go (T' := T8) (f' := (mkF m 98 #[.val (.int i0), .val (.int i1), .val (.int i2), .val (.int i3), .val (.int i4), .val (.int (i0 &&& (255 : Int32))), .val (.ref b1), .val (.int (own_v0_64 i0 i1 i2 i3 i4)), .val (.int (own_v0_78 i0 i1 i2 i3 i4)), .val (.int (own_v0_85 i0 i1 i2 i3 i4)), .val (.ref b7), .unset, .unset, .unset, .unset, .unset] [(.ref b7)])) (fun t kt => ?_) ?_
  · show Steps p.tables e below (T8.setTop (mkF m 94 #[.val (.int i0), .val (.int i1), .val (.int i2), .val (.int i3), .val (.int i4), .val (.int (i0 &&& (255 : Int32))), .val (.ref b1), .val (.int (own_v0_64 i0 i1 i2 i3 i4)), .val (.int (own_v0_78 i0 i1 i2 i3 i4)), .val (.int (own_v0_85 i0 i1 i2 i3 i4)), .unset, .unset, .unset, .unset, .unset, .unset] [(.ref b7)])) _
    refine XS.astore X8.here hx rfl (hb hby at_94) rfl rfl (l' := #[.val (.int i0), .val (.int i1), .val (.int i2), .val (.int i3), .val (.int i4), .val (.int (i0 &&& (255 : Int32))), .val (.ref b1), .val (.int (own_v0_64 i0 i1 i2 i3 i4)), .val (.int (own_v0_78 i0 i1 i2 i3 i4)), .val (.int (own_v0_85 i0 i1 i2 i3 i4)), .val (.ref b7), .unset, .unset, .unset, .unset, .unset]) rfl ?_
    show Steps p.tables e below (T8.setTop (mkF m 96 #[.val (.int i0), .val (.int i1), .val (.int i2), .val (.int i3), .val (.int i4), .val (.int (i0 &&& (255 : Int32))), .val (.ref b1), .val (.int (own_v0_64 i0 i1 i2 i3 i4)), .val (.int (own_v0_78 i0 i1 i2 i3 i4)), .val (.int (own_v0_85 i0 i1 i2 i3 i4)), .val (.ref b7), .unset, .unset, .unset, .unset, .unset] [])) _
    refine XS.aload X8.here hx rfl (hb hby at_96) rfl rfl ?_
    exact kt
  obtain ⟨cq9, kq9, q9a, q9b, q9c⟩ := isOf hZ rfl f8_0
  obtain ⟨_, _, ⟨T9, L9, k9, n9⟩, -, X9, ⟨Lc9, hQ9, l9, y9, z9⟩, st9⟩ := X8.virtualBack hx (y := (⟨"com/example/marrow/marrow/Utf8Checker", "atBoundary", "()Z"⟩ : MethodName)) (z := (⟨"com/example/marrow/marrow/Utf8Checker", "atBoundary", "()Z"⟩ : MethodName)) hown (mvT hZ (hw _ (List.mem_of_getElem? (i := 18) rfl))) (mvT hZ (hw _ (List.mem_of_getElem? (i := 19) rfl))) (notFace_of_selects (args := #[]) (mvT hZ (hw _ (List.mem_of_getElem? (i := 21) rfl)))) (mvT hZ (hw _ (List.mem_of_getElem? (i := 21) rfl))) (mvT hZ (hw _ (List.mem_of_getElem? (i := 20) rfl))) (by decide) (backOf (W := 0) (own_rm4 l Z a0 hw [] b7 (0 : Int32) T8.heap n0 (Nat.le_trans Z0 K8.1) f8_1) hZ (hw _ (List.mem_of_getElem? (i := 22) rfl)) (hw _ (List.mem_of_getElem? (i := 7) rfl)) (by decide) (by decide)) q9a q9c (g := (mkF m 98 #[.val (.int i0), .val (.int i1), .val (.int i2), .val (.int i3), .val (.int i4), .val (.int (i0 &&& (255 : Int32))), .val (.ref b1), .val (.int (own_v0_64 i0 i1 i2 i3 i4)), .val (.int (own_v0_78 i0 i1 i2 i3 i4)), .val (.int (own_v0_85 i0 i1 i2 i3 i4)), .val (.ref b7), .unset, .unset, .unset, .unset, .unset] [(.ref b7)])) rfl (by rw [hml]; rfl) (Steps.refl _) (argsL := []) (rest := []) (lenOf own_pd5 rfl) rfl (by show 2 * 0 + _ ≤ _; exact Nat.le_of_eq rfl) (hb hby at_98) (fun _ _ => ⟨rfl, rfl, (by decide : 2 + 0 ≤ _), (by decide : 7 + 0 ≤ _)⟩)
  dsimp only [Pt.U, Pt.locs, Pt.cells, Pt.slots] at X9 l9 y9 z9 st9 hQ9
  subst l9 y9 z9
  obtain ⟨rfl, N9q, e9⟩ := hQ9
  have N9 := Fr.app N8 N9q
  refine ownE.goS (T' := T9) (f' := (mkF m 101 #[.val (.int i0), .val (.int i1), .val (.int i2), .val (.int i3), .val (.int i4), .val (.int (i0 &&& (255 : Int32))), .val (.ref b1), .val (.int (own_v0_64 i0 i1 i2 i3 i4)), .val (.int (own_v0_78 i0 i1 i2 i3 i4)), .val (.int (own_v0_85 i0 i1 i2 i3 i4)), .val (.ref b7), .unset, .unset, .unset, .unset, .unset] [(.int (own_ab (0 : Int32)))])) st9 ?_
  refine ownE.go (T' := T9) (f' := (mkF m 110 #[.val (.int i0), .val (.int i1), .val (.int i2), .val (.int i3), .val (.int i4), .val (.int (i0 &&& (255 : Int32))), .val (.ref b1), .val (.int (own_v0_64 i0 i1 i2 i3 i4)), .val (.int (own_v0_78 i0 i1 i2 i3 i4)), .val (.int (own_v0_85 i0 i1 i2 i3 i4)), .val (.ref b7), .val (.int (own_ab (0 : Int32))), .unset, .unset, .unset, .unset] [(.int (own_v0_78 i0 i1 i2 i3 i4)), (.int (0 : Int32)), (.ref b1), (.ref b7)])) (fun t kt => ?_) ?_
  · show Steps p.tables e below (T9.setTop (mkF m 101 #[.val (.int i0), .val (.int i1), .val (.int i2), .val (.int i3), .val (.int i4), .val (.int (i0 &&& (255 : Int32))), .val (.ref b1), .val (.int (own_v0_64 i0 i1 i2 i3 i4)), .val (.int (own_v0_78 i0 i1 i2 i3 i4)), .val (.int (own_v0_85 i0 i1 i2 i3 i4)), .val (.ref b7), .unset, .unset, .unset, .unset, .unset] [(.int (own_ab (0 : Int32)))])) _
    refine XS.istore X9.here hx rfl (hb hby at_101) rfl (l' := #[.val (.int i0), .val (.int i1), .val (.int i2), .val (.int i3), .val (.int i4), .val (.int (i0 &&& (255 : Int32))), .val (.ref b1), .val (.int (own_v0_64 i0 i1 i2 i3 i4)), .val (.int (own_v0_78 i0 i1 i2 i3 i4)), .val (.int (own_v0_85 i0 i1 i2 i3 i4)), .val (.ref b7), .val (.int (own_ab (0 : Int32))), .unset, .unset, .unset, .unset]) rfl ?_
    show Steps p.tables e below (T9.setTop (mkF m 103 #[.val (.int i0), .val (.int i1), .val (.int i2), .val (.int i3), .val (.int i4), .val (.int (i0 &&& (255 : Int32))), .val (.ref b1), .val (.int (own_v0_64 i0 i1 i2 i3 i4)), .val (.int (own_v0_78 i0 i1 i2 i3 i4)), .val (.int (own_v0_85 i0 i1 i2 i3 i4)), .val (.ref b7), .val (.int (own_ab (0 : Int32))), .unset, .unset, .unset, .unset] [])) _
    refine XS.aload X9.here hx rfl (hb hby at_103) rfl rfl ?_
    show Steps p.tables e below (T9.setTop (mkF m 105 #[.val (.int i0), .val (.int i1), .val (.int i2), .val (.int i3), .val (.int i4), .val (.int (i0 &&& (255 : Int32))), .val (.ref b1), .val (.int (own_v0_64 i0 i1 i2 i3 i4)), .val (.int (own_v0_78 i0 i1 i2 i3 i4)), .val (.int (own_v0_85 i0 i1 i2 i3 i4)), .val (.ref b7), .val (.int (own_ab (0 : Int32))), .unset, .unset, .unset, .unset] [(.ref b7)])) _
    refine XS.aload X9.here hx rfl (hb hby at_105) rfl rfl ?_
    show Steps p.tables e below (T9.setTop (mkF m 107 #[.val (.int i0), .val (.int i1), .val (.int i2), .val (.int i3), .val (.int i4), .val (.int (i0 &&& (255 : Int32))), .val (.ref b1), .val (.int (own_v0_64 i0 i1 i2 i3 i4)), .val (.int (own_v0_78 i0 i1 i2 i3 i4)), .val (.int (own_v0_85 i0 i1 i2 i3 i4)), .val (.ref b7), .val (.int (own_ab (0 : Int32))), .unset, .unset, .unset, .unset] [(.ref b1), (.ref b7)])) _
    refine XS.iconst X9.here hx rfl (hb hby at_107) ?_
    show Steps p.tables e below (T9.setTop (mkF m 108 #[.val (.int i0), .val (.int i1), .val (.int i2), .val (.int i3), .val (.int i4), .val (.int (i0 &&& (255 : Int32))), .val (.ref b1), .val (.int (own_v0_64 i0 i1 i2 i3 i4)), .val (.int (own_v0_78 i0 i1 i2 i3 i4)), .val (.int (own_v0_85 i0 i1 i2 i3 i4)), .val (.ref b7), .val (.int (own_ab (0 : Int32))), .unset, .unset, .unset, .unset] [(.int (0 : Int32)), (.ref b1), (.ref b7)])) _
    refine XS.iload X9.here hx rfl (hb hby at_108) rfl ?_
    exact kt
  obtain ⟨cq10, kq10, q10a, q10b, q10c⟩ := isOf hZ e9 f8_0
  obtain ⟨_, _, ⟨T10, L10, k10, n10⟩, -, X10, ⟨Lc10, hQ10, l10, y10, z10⟩, st10⟩ := X9.virtualBack hx (y := (⟨"com/example/marrow/marrow/Utf8Checker", "check", "([BII)I"⟩ : MethodName)) (z := (⟨"com/example/marrow/marrow/Utf8Checker", "check", "([BII)I"⟩ : MethodName)) hown (mvT hZ (hw _ (List.mem_of_getElem? (i := 25) rfl))) (mvT hZ (hw _ (List.mem_of_getElem? (i := 26) rfl))) (notFace_of_selects (args := #[]) (mvT hZ (hw _ (List.mem_of_getElem? (i := 28) rfl)))) (mvT hZ (hw _ (List.mem_of_getElem? (i := 28) rfl))) (mvT hZ (hw _ (List.mem_of_getElem? (i := 27) rfl))) (by decide) (backOf (W := 0) (own_rm5 l Z a0 hw [] b7 b1 (0 : Int32) (own_v0_78 i0 i1 i2 i3 i4) (0 : Int32) (128 : Int32) (191 : Int32) k1 (((i0 &&& (255 : Int32)).toInt8.toInt32).toInt8.toInt32) ((((128 : Int32) ||| (i1 &&& (63 : Int32))).toInt8.toInt32).toInt8.toInt32) ((((128 : Int32) ||| (i2 &&& (63 : Int32))).toInt8.toInt32).toInt8.toInt32) ((((128 : Int32) ||| (i3 &&& (63 : Int32))).toInt8.toInt32).toInt8.toInt32) T8.heap n0 (Nat.le_trans Z0 K8.1) f8_0 f8_1 f8_2 f8_3 ge_b7 cArv_b1_8 (Ne.symm ne_b1_b7) (by decide) (own_sb i4).2) hZ (hw _ (List.mem_of_getElem? (i := 29) rfl)) (hw _ (List.mem_of_getElem? (i := 7) rfl)) (by decide) (by decide)) q10a q10c (g := (mkF m 110 #[.val (.int i0), .val (.int i1), .val (.int i2), .val (.int i3), .val (.int i4), .val (.int (i0 &&& (255 : Int32))), .val (.ref b1), .val (.int (own_v0_64 i0 i1 i2 i3 i4)), .val (.int (own_v0_78 i0 i1 i2 i3 i4)), .val (.int (own_v0_85 i0 i1 i2 i3 i4)), .val (.ref b7), .val (.int (own_ab (0 : Int32))), .unset, .unset, .unset, .unset] [(.int (own_v0_78 i0 i1 i2 i3 i4)), (.int (0 : Int32)), (.ref b1), (.ref b7)])) rfl (by rw [hml]; rfl) (Steps.refl _) (argsL := [(.ref b1), (.int (0 : Int32)), (.int (own_v0_78 i0 i1 i2 i3 i4))]) (rest := []) (lenOf own_pd6 rfl) rfl (by show 2 * 0 + _ ≤ _; exact Nat.le_of_eq rfl) (hb hby at_110) (fun _ _ => ⟨rfl, e9, (by decide : 2 + 0 ≤ _), (by decide : 7 + 0 ≤ _)⟩)
  dsimp only [Pt.U, Pt.locs, Pt.cells, Pt.slots] at X10 l10 y10 z10 st10 hQ10
  subst l10 y10 z10
  obtain ⟨rfl, N10q, K10q, f10_0, f10_1, f10_2, f10_3⟩ := hQ10
  have cArv_b1_10 : Arv Z T10.heap b1 k1 .byte (4 : Int32) [(.int (((i0 &&& (255 : Int32)).toInt8.toInt32).toInt8.toInt32)), (.int ((((128 : Int32) ||| (i1 &&& (63 : Int32))).toInt8.toInt32).toInt8.toInt32)), (.int ((((128 : Int32) ||| (i2 &&& (63 : Int32))).toInt8.toInt32).toInt8.toInt32)), (.int ((((128 : Int32) ||| (i3 &&& (63 : Int32))).toInt8.toInt32).toInt8.toInt32))] (.int (0 : Int32)) := cArv_b1_8.keep K10q (ninS ne_b1_b7 nin0)
  have cExa_b7_10 : Exa Z T10.heap b7 "com/example/marrow/marrow/Utf8Checker" := f8_0.keep K10q
  have K10 : Keep h0 T10.heap [] := K8.trans K10q (allS (Or.inr sz_b7) all0)
  have N10 := Fr.app N9 N10q
  refine ownE.goS (T' := T10) (f' := (mkF m 113 #[.val (.int i0), .val (.int i1), .val (.int i2), .val (.int i3), .val (.int i4), .val (.int (i0 &&& (255 : Int32))), .val (.ref b1), .val (.int (own_v0_64 i0 i1 i2 i3 i4)), .val (.int (own_v0_78 i0 i1 i2 i3 i4)), .val (.int (own_v0_85 i0 i1 i2 i3 i4)), .val (.ref b7), .val (.int (own_ab (0 : Int32))), .unset, .unset, .unset, .unset] [(.int ((own_ck (0 : Int32) (own_v0_78 i0 i1 i2 i3 i4) (0 : Int32) (128 : Int32) (191 : Int32) (((i0 &&& (255 : Int32)).toInt8.toInt32).toInt8.toInt32) ((((128 : Int32) ||| (i1 &&& (63 : Int32))).toInt8.toInt32).toInt8.toInt32) ((((128 : Int32) ||| (i2 &&& (63 : Int32))).toInt8.toInt32).toInt8.toInt32) ((((128 : Int32) ||| (i3 &&& (63 : Int32))).toInt8.toInt32).toInt8.toInt32) 5 (0 : Int32) (0 : Int32) (128 : Int32) (191 : Int32)).1))])) st10 ?_
  refine ownE.go (T' := T10) (f' := (mkF m 122 #[.val (.int i0), .val (.int i1), .val (.int i2), .val (.int i3), .val (.int i4), .val (.int (i0 &&& (255 : Int32))), .val (.ref b1), .val (.int (own_v0_64 i0 i1 i2 i3 i4)), .val (.int (own_v0_78 i0 i1 i2 i3 i4)), .val (.int (own_v0_85 i0 i1 i2 i3 i4)), .val (.ref b7), .val (.int (own_ab (0 : Int32))), .val (.int (own_v0_113 i0 i1 i2 i3 i4)), .val (.int (1 : Int32)), .val (.int (own_v0_113 i0 i1 i2 i3 i4)), .unset] [])) (fun t kt => ?_) ?_
  · show Steps p.tables e below (T10.setTop (mkF m 113 #[.val (.int i0), .val (.int i1), .val (.int i2), .val (.int i3), .val (.int i4), .val (.int (i0 &&& (255 : Int32))), .val (.ref b1), .val (.int (own_v0_64 i0 i1 i2 i3 i4)), .val (.int (own_v0_78 i0 i1 i2 i3 i4)), .val (.int (own_v0_85 i0 i1 i2 i3 i4)), .val (.ref b7), .val (.int (own_ab (0 : Int32))), .unset, .unset, .unset, .unset] [(.int ((own_ck (0 : Int32) (own_v0_78 i0 i1 i2 i3 i4) (0 : Int32) (128 : Int32) (191 : Int32) (((i0 &&& (255 : Int32)).toInt8.toInt32).toInt8.toInt32) ((((128 : Int32) ||| (i1 &&& (63 : Int32))).toInt8.toInt32).toInt8.toInt32) ((((128 : Int32) ||| (i2 &&& (63 : Int32))).toInt8.toInt32).toInt8.toInt32) ((((128 : Int32) ||| (i3 &&& (63 : Int32))).toInt8.toInt32).toInt8.toInt32) 5 (0 : Int32) (0 : Int32) (128 : Int32) (191 : Int32)).1))])) _
    refine XS.istore X10.here hx rfl (hb hby at_113) rfl (l' := #[.val (.int i0), .val (.int i1), .val (.int i2), .val (.int i3), .val (.int i4), .val (.int (i0 &&& (255 : Int32))), .val (.ref b1), .val (.int (own_v0_64 i0 i1 i2 i3 i4)), .val (.int (own_v0_78 i0 i1 i2 i3 i4)), .val (.int (own_v0_85 i0 i1 i2 i3 i4)), .val (.ref b7), .val (.int (own_ab (0 : Int32))), .val (.int (own_v0_113 i0 i1 i2 i3 i4)), .unset, .unset, .unset]) rfl ?_
    show Steps p.tables e below (T10.setTop (mkF m 115 #[.val (.int i0), .val (.int i1), .val (.int i2), .val (.int i3), .val (.int i4), .val (.int (i0 &&& (255 : Int32))), .val (.ref b1), .val (.int (own_v0_64 i0 i1 i2 i3 i4)), .val (.int (own_v0_78 i0 i1 i2 i3 i4)), .val (.int (own_v0_85 i0 i1 i2 i3 i4)), .val (.ref b7), .val (.int (own_ab (0 : Int32))), .val (.int (own_v0_113 i0 i1 i2 i3 i4)), .unset, .unset, .unset] [])) _
    refine XS.iconst X10.here hx rfl (hb hby at_115) ?_
    show Steps p.tables e below (T10.setTop (mkF m 116 #[.val (.int i0), .val (.int i1), .val (.int i2), .val (.int i3), .val (.int i4), .val (.int (i0 &&& (255 : Int32))), .val (.ref b1), .val (.int (own_v0_64 i0 i1 i2 i3 i4)), .val (.int (own_v0_78 i0 i1 i2 i3 i4)), .val (.int (own_v0_85 i0 i1 i2 i3 i4)), .val (.ref b7), .val (.int (own_ab (0 : Int32))), .val (.int (own_v0_113 i0 i1 i2 i3 i4)), .unset, .unset, .unset] [(.int (1 : Int32))])) _
    refine XS.istore X10.here hx rfl (hb hby at_116) rfl (l' := #[.val (.int i0), .val (.int i1), .val (.int i2), .val (.int i3), .val (.int i4), .val (.int (i0 &&& (255 : Int32))), .val (.ref b1), .val (.int (own_v0_64 i0 i1 i2 i3 i4)), .val (.int (own_v0_78 i0 i1 i2 i3 i4)), .val (.int (own_v0_85 i0 i1 i2 i3 i4)), .val (.ref b7), .val (.int (own_ab (0 : Int32))), .val (.int (own_v0_113 i0 i1 i2 i3 i4)), .val (.int (1 : Int32)), .unset, .unset]) rfl ?_
    show Steps p.tables e below (T10.setTop (mkF m 118 #[.val (.int i0), .val (.int i1), .val (.int i2), .val (.int i3), .val (.int i4), .val (.int (i0 &&& (255 : Int32))), .val (.ref b1), .val (.int (own_v0_64 i0 i1 i2 i3 i4)), .val (.int (own_v0_78 i0 i1 i2 i3 i4)), .val (.int (own_v0_85 i0 i1 i2 i3 i4)), .val (.ref b7), .val (.int (own_ab (0 : Int32))), .val (.int (own_v0_113 i0 i1 i2 i3 i4)), .val (.int (1 : Int32)), .unset, .unset] [])) _
    refine XS.iload X10.here hx rfl (hb hby at_118) rfl ?_
    show Steps p.tables e below (T10.setTop (mkF m 120 #[.val (.int i0), .val (.int i1), .val (.int i2), .val (.int i3), .val (.int i4), .val (.int (i0 &&& (255 : Int32))), .val (.ref b1), .val (.int (own_v0_64 i0 i1 i2 i3 i4)), .val (.int (own_v0_78 i0 i1 i2 i3 i4)), .val (.int (own_v0_85 i0 i1 i2 i3 i4)), .val (.ref b7), .val (.int (own_ab (0 : Int32))), .val (.int (own_v0_113 i0 i1 i2 i3 i4)), .val (.int (1 : Int32)), .unset, .unset] [(.int (own_v0_113 i0 i1 i2 i3 i4))])) _
    refine XS.istore X10.here hx rfl (hb hby at_120) rfl (l' := #[.val (.int i0), .val (.int i1), .val (.int i2), .val (.int i3), .val (.int i4), .val (.int (i0 &&& (255 : Int32))), .val (.ref b1), .val (.int (own_v0_64 i0 i1 i2 i3 i4)), .val (.int (own_v0_78 i0 i1 i2 i3 i4)), .val (.int (own_v0_85 i0 i1 i2 i3 i4)), .val (.ref b7), .val (.int (own_ab (0 : Int32))), .val (.int (own_v0_113 i0 i1 i2 i3 i4)), .val (.int (1 : Int32)), .val (.int (own_v0_113 i0 i1 i2 i3 i4)), .unset]) rfl ?_
    exact kt
  have J23 : ∀ (TJ23 : State) (hJ23 : Heap) (locsJ23 : List Loc), Stand p l e room_1 s m #[(.int i0), (.int i1), (.int i2), (.int i3), (.int i4)] below meth c TJ23 locsJ23 2 7 → TJ23.heap = hJ23 → Fr n0 locsJ23 → Keep h0 hJ23 [] → Arv Z hJ23 b1 k1 .byte (4 : Int32) [(.int (((i0 &&& (255 : Int32)).toInt8.toInt32).toInt8.toInt32)), (.int ((((128 : Int32) ||| (i1 &&& (63 : Int32))).toInt8.toInt32).toInt8.toInt32)), (.int ((((128 : Int32) ||| (i2 &&& (63 : Int32))).toInt8.toInt32).toInt8.toInt32)), (.int ((((128 : Int32) ||| (i3 &&& (63 : Int32))).toInt8.toInt32).toInt8.toInt32))] (.int (0 : Int32)) → Exa Z hJ23 b7 "com/example/marrow/marrow/Utf8Checker" → Fld Z hJ23 b7 "com/example/marrow/marrow/Utf8Checker" "pending" "I" (.int (own_j0_178_pending i0 i1 i2 i3 i4)) → Fld Z hJ23 b7 "com/example/marrow/marrow/Utf8Checker" "lowest" "I" (.int (own_j0_178_lowest i0 i1 i2 i3 i4)) → Fld Z hJ23 b7 "com/example/marrow/marrow/Utf8Checker" "highest" "I" (.int (own_j0_178_highest i0 i1 i2 i3 i4)) → ownE p e below s (own_Q0 Z i0 i1 i2 i3 i4 h0 n0) 2 7 TJ23 (mkF m 178 #[.val (.int i0), .val (.int i1), .val (.int i2), .val (.int i3), .val (.int i4), .val (.int (i0 &&& (255 : Int32))), .val (.ref b1), .val (.int (own_v0_64 i0 i1 i2 i3 i4)), .val (.int (own_v0_78 i0 i1 i2 i3 i4)), .val (.int (own_v0_85 i0 i1 i2 i3 i4)), .val (.ref b7), .val (.int (own_ab (0 : Int32))), .val (.int (own_v0_113 i0 i1 i2 i3 i4)), .val (.int (own_j0_178_L13 i0 i1 i2 i3 i4)), .val (.int (own_j0_178_L14 i0 i1 i2 i3 i4)), .unset] []) := by
    intro TJ23 hJ23 locsJ23 XJ23 eJ23 NJ23 KJ23 J23_cArv_b1_j J23_cExa_b7_j J23_cFld_b7_pending_j J23_cFld_b7_lowest_j J23_cFld_b7_highest_j
    have J29 : ∀ (TJ29 : State) (locsJ29 : List Loc), Stand p l e room_1 s m #[(.int i0), (.int i1), (.int i2), (.int i3), (.int i4)] below meth c TJ29 locsJ29 2 7 → TJ29.heap = hJ23 → Fr n0 locsJ29 → ownE p e below s (own_Q0 Z i0 i1 i2 i3 i4 h0 n0) 2 7 TJ29 (mkF m 211 #[.val (.int i0), .val (.int i1), .val (.int i2), .val (.int i3), .val (.int i4), .val (.int (i0 &&& (255 : Int32))), .val (.ref b1), .val (.int (own_v0_64 i0 i1 i2 i3 i4)), .val (.int (own_v0_78 i0 i1 i2 i3 i4)), .val (.int (own_v0_85 i0 i1 i2 i3 i4)), .val (.ref b7), .val (.int (own_ab (0 : Int32))), .val (.int (own_v0_113 i0 i1 i2 i3 i4)), .val (.int (own_j0_178_L13 i0 i1 i2 i3 i4)), .val (.int (own_j0_178_L14 i0 i1 i2 i3 i4)), .unset] [(.int (own_j0_211_S0 i0 i1 i2 i3 i4))]) := by
      intro TJ29 locsJ29 XJ29 eJ29 NJ29
      refine ownE.go (T' := TJ29) (f' := (mkF m 215 #[.val (.int i0), .val (.int i1), .val (.int i2), .val (.int i3), .val (.int i4), .val (.int (i0 &&& (255 : Int32))), .val (.ref b1), .val (.int (own_v0_64 i0 i1 i2 i3 i4)), .val (.int (own_v0_78 i0 i1 i2 i3 i4)), .val (.int (own_v0_85 i0 i1 i2 i3 i4)), .val (.ref b7), .val (.int (own_ab (0 : Int32))), .val (.int (own_v0_113 i0 i1 i2 i3 i4)), .val (.int (own_j0_178_L13 i0 i1 i2 i3 i4)), .val (.int (own_j0_178_L14 i0 i1 i2 i3 i4)), .val (.int (own_j0_211_S0 i0 i1 i2 i3 i4))] [(.int (own_ab (0 : Int32)))])) (fun t kt => ?_) ?_
      · show Steps p.tables e below (TJ29.setTop (mkF m 211 #[.val (.int i0), .val (.int i1), .val (.int i2), .val (.int i3), .val (.int i4), .val (.int (i0 &&& (255 : Int32))), .val (.ref b1), .val (.int (own_v0_64 i0 i1 i2 i3 i4)), .val (.int (own_v0_78 i0 i1 i2 i3 i4)), .val (.int (own_v0_85 i0 i1 i2 i3 i4)), .val (.ref b7), .val (.int (own_ab (0 : Int32))), .val (.int (own_v0_113 i0 i1 i2 i3 i4)), .val (.int (own_j0_178_L13 i0 i1 i2 i3 i4)), .val (.int (own_j0_178_L14 i0 i1 i2 i3 i4)), .unset] [(.int (own_j0_211_S0 i0 i1 i2 i3 i4))])) _
        refine XS.istore XJ29.here hx rfl (hb hby at_211) rfl (l' := #[.val (.int i0), .val (.int i1), .val (.int i2), .val (.int i3), .val (.int i4), .val (.int (i0 &&& (255 : Int32))), .val (.ref b1), .val (.int (own_v0_64 i0 i1 i2 i3 i4)), .val (.int (own_v0_78 i0 i1 i2 i3 i4)), .val (.int (own_v0_85 i0 i1 i2 i3 i4)), .val (.ref b7), .val (.int (own_ab (0 : Int32))), .val (.int (own_v0_113 i0 i1 i2 i3 i4)), .val (.int (own_j0_178_L13 i0 i1 i2 i3 i4)), .val (.int (own_j0_178_L14 i0 i1 i2 i3 i4)), .val (.int (own_j0_211_S0 i0 i1 i2 i3 i4))]) rfl ?_
        show Steps p.tables e below (TJ29.setTop (mkF m 213 #[.val (.int i0), .val (.int i1), .val (.int i2), .val (.int i3), .val (.int i4), .val (.int (i0 &&& (255 : Int32))), .val (.ref b1), .val (.int (own_v0_64 i0 i1 i2 i3 i4)), .val (.int (own_v0_78 i0 i1 i2 i3 i4)), .val (.int (own_v0_85 i0 i1 i2 i3 i4)), .val (.ref b7), .val (.int (own_ab (0 : Int32))), .val (.int (own_v0_113 i0 i1 i2 i3 i4)), .val (.int (own_j0_178_L13 i0 i1 i2 i3 i4)), .val (.int (own_j0_178_L14 i0 i1 i2 i3 i4)), .val (.int (own_j0_211_S0 i0 i1 i2 i3 i4))] [])) _
        refine XS.iload XJ29.here hx rfl (hb hby at_213) rfl ?_
        exact kt
      by_cases hc30 : (own_ab (0 : Int32)) = (0 : Int32)
      · -- pc 215
        refine ownE.go (T' := TJ29) (f' := (mkF m 237 #[.val (.int i0), .val (.int i1), .val (.int i2), .val (.int i3), .val (.int i4), .val (.int (i0 &&& (255 : Int32))), .val (.ref b1), .val (.int (own_v0_64 i0 i1 i2 i3 i4)), .val (.int (own_v0_78 i0 i1 i2 i3 i4)), .val (.int (own_v0_85 i0 i1 i2 i3 i4)), .val (.ref b7), .val (.int (own_ab (0 : Int32))), .val (.int (own_v0_113 i0 i1 i2 i3 i4)), .val (.int (own_j0_178_L13 i0 i1 i2 i3 i4)), .val (.int (own_j0_178_L14 i0 i1 i2 i3 i4)), .val (.int (own_j0_211_S0 i0 i1 i2 i3 i4))] [])) (fun t kt => XS.ifYes (g := (mkF m 215 #[.val (.int i0), .val (.int i1), .val (.int i2), .val (.int i3), .val (.int i4), .val (.int (i0 &&& (255 : Int32))), .val (.ref b1), .val (.int (own_v0_64 i0 i1 i2 i3 i4)), .val (.int (own_v0_78 i0 i1 i2 i3 i4)), .val (.int (own_v0_85 i0 i1 i2 i3 i4)), .val (.ref b7), .val (.int (own_ab (0 : Int32))), .val (.int (own_v0_113 i0 i1 i2 i3 i4)), .val (.int (own_j0_178_L13 i0 i1 i2 i3 i4)), .val (.int (own_j0_178_L14 i0 i1 i2 i3 i4)), .val (.int (own_j0_211_S0 i0 i1 i2 i3 i4))] [(.int (own_ab (0 : Int32)))])) XJ29.here hx rfl (pc0 := 215) (pc' := 237) rfl (hb hby at_215) rfl (Jvm.Free.XT.i0_eq_t hc30) (by decide) (by decide) kt) ?_
        refine ownE.go (T' := TJ29) (f' := (mkF m 238 #[.val (.int i0), .val (.int i1), .val (.int i2), .val (.int i3), .val (.int i4), .val (.int (i0 &&& (255 : Int32))), .val (.ref b1), .val (.int (own_v0_64 i0 i1 i2 i3 i4)), .val (.int (own_v0_78 i0 i1 i2 i3 i4)), .val (.int (own_v0_85 i0 i1 i2 i3 i4)), .val (.ref b7), .val (.int (own_ab (0 : Int32))), .val (.int (own_v0_113 i0 i1 i2 i3 i4)), .val (.int (own_j0_178_L13 i0 i1 i2 i3 i4)), .val (.int (own_j0_178_L14 i0 i1 i2 i3 i4)), .val (.int (own_j0_211_S0 i0 i1 i2 i3 i4))] [(.int (0 : Int32))])) (fun t kt => ?_) ?_
        · show Steps p.tables e below (TJ29.setTop (mkF m 237 #[.val (.int i0), .val (.int i1), .val (.int i2), .val (.int i3), .val (.int i4), .val (.int (i0 &&& (255 : Int32))), .val (.ref b1), .val (.int (own_v0_64 i0 i1 i2 i3 i4)), .val (.int (own_v0_78 i0 i1 i2 i3 i4)), .val (.int (own_v0_85 i0 i1 i2 i3 i4)), .val (.ref b7), .val (.int (own_ab (0 : Int32))), .val (.int (own_v0_113 i0 i1 i2 i3 i4)), .val (.int (own_j0_178_L13 i0 i1 i2 i3 i4)), .val (.int (own_j0_178_L14 i0 i1 i2 i3 i4)), .val (.int (own_j0_211_S0 i0 i1 i2 i3 i4))] [])) _
          refine XS.iconst XJ29.here hx rfl (hb hby at_237) ?_
          exact kt
        refine ownE.retN XJ29 hx hlk (t := .boolean) hret (by simp) (hb hby at_238) ?_ (by decide) (by decide)
        show own_Q0 Z i0 i1 i2 i3 i4 h0 n0 _ TJ29.heap _
        rw [eJ29]
        exact ⟨(by rw [own_f0, if_pos hc30] <;> first | rfl | decide), NJ29, KJ23⟩
      · -- pc 215
        refine ownE.go (T' := TJ29) (f' := (mkF m 218 #[.val (.int i0), .val (.int i1), .val (.int i2), .val (.int i3), .val (.int i4), .val (.int (i0 &&& (255 : Int32))), .val (.ref b1), .val (.int (own_v0_64 i0 i1 i2 i3 i4)), .val (.int (own_v0_78 i0 i1 i2 i3 i4)), .val (.int (own_v0_85 i0 i1 i2 i3 i4)), .val (.ref b7), .val (.int (own_ab (0 : Int32))), .val (.int (own_v0_113 i0 i1 i2 i3 i4)), .val (.int (own_j0_178_L13 i0 i1 i2 i3 i4)), .val (.int (own_j0_178_L14 i0 i1 i2 i3 i4)), .val (.int (own_j0_211_S0 i0 i1 i2 i3 i4))] [])) (fun t kt => XS.ifNo (g := (mkF m 215 #[.val (.int i0), .val (.int i1), .val (.int i2), .val (.int i3), .val (.int i4), .val (.int (i0 &&& (255 : Int32))), .val (.ref b1), .val (.int (own_v0_64 i0 i1 i2 i3 i4)), .val (.int (own_v0_78 i0 i1 i2 i3 i4)), .val (.int (own_v0_85 i0 i1 i2 i3 i4)), .val (.ref b7), .val (.int (own_ab (0 : Int32))), .val (.int (own_v0_113 i0 i1 i2 i3 i4)), .val (.int (own_j0_178_L13 i0 i1 i2 i3 i4)), .val (.int (own_j0_178_L14 i0 i1 i2 i3 i4)), .val (.int (own_j0_211_S0 i0 i1 i2 i3 i4))] [(.int (own_ab (0 : Int32)))])) XJ29.here hx rfl (hb hby at_215) rfl (Jvm.Free.XT.i0_eq_f hc30) kt) ?_
        refine ownE.go (T' := TJ29) (f' := (mkF m 220 #[.val (.int i0), .val (.int i1), .val (.int i2), .val (.int i3), .val (.int i4), .val (.int (i0 &&& (255 : Int32))), .val (.ref b1), .val (.int (own_v0_64 i0 i1 i2 i3 i4)), .val (.int (own_v0_78 i0 i1 i2 i3 i4)), .val (.int (own_v0_85 i0 i1 i2 i3 i4)), .val (.ref b7), .val (.int (own_ab (0 : Int32))), .val (.int (own_v0_113 i0 i1 i2 i3 i4)), .val (.int (own_j0_178_L13 i0 i1 i2 i3 i4)), .val (.int (own_j0_178_L14 i0 i1 i2 i3 i4)), .val (.int (own_j0_211_S0 i0 i1 i2 i3 i4))] [(.int (own_j0_178_L13 i0 i1 i2 i3 i4))])) (fun t kt => ?_) ?_
        · show Steps p.tables e below (TJ29.setTop (mkF m 218 #[.val (.int i0), .val (.int i1), .val (.int i2), .val (.int i3), .val (.int i4), .val (.int (i0 &&& (255 : Int32))), .val (.ref b1), .val (.int (own_v0_64 i0 i1 i2 i3 i4)), .val (.int (own_v0_78 i0 i1 i2 i3 i4)), .val (.int (own_v0_85 i0 i1 i2 i3 i4)), .val (.ref b7), .val (.int (own_ab (0 : Int32))), .val (.int (own_v0_113 i0 i1 i2 i3 i4)), .val (.int (own_j0_178_L13 i0 i1 i2 i3 i4)), .val (.int (own_j0_178_L14 i0 i1 i2 i3 i4)), .val (.int (own_j0_211_S0 i0 i1 i2 i3 i4))] [])) _
          refine XS.iload XJ29.here hx rfl (hb hby at_218) rfl ?_
          exact kt
        by_cases hc31 : (own_j0_178_L13 i0 i1 i2 i3 i4) = (0 : Int32)
        · -- pc 220
          refine ownE.go (T' := TJ29) (f' := (mkF m 237 #[.val (.int i0), .val (.int i1), .val (.int i2), .val (.int i3), .val (.int i4), .val (.int (i0 &&& (255 : Int32))), .val (.ref b1), .val (.int (own_v0_64 i0 i1 i2 i3 i4)), .val (.int (own_v0_78 i0 i1 i2 i3 i4)), .val (.int (own_v0_85 i0 i1 i2 i3 i4)), .val (.ref b7), .val (.int (own_ab (0 : Int32))), .val (.int (own_v0_113 i0 i1 i2 i3 i4)), .val (.int (own_j0_178_L13 i0 i1 i2 i3 i4)), .val (.int (own_j0_178_L14 i0 i1 i2 i3 i4)), .val (.int (own_j0_211_S0 i0 i1 i2 i3 i4))] [])) (fun t kt => XS.ifYes (g := (mkF m 220 #[.val (.int i0), .val (.int i1), .val (.int i2), .val (.int i3), .val (.int i4), .val (.int (i0 &&& (255 : Int32))), .val (.ref b1), .val (.int (own_v0_64 i0 i1 i2 i3 i4)), .val (.int (own_v0_78 i0 i1 i2 i3 i4)), .val (.int (own_v0_85 i0 i1 i2 i3 i4)), .val (.ref b7), .val (.int (own_ab (0 : Int32))), .val (.int (own_v0_113 i0 i1 i2 i3 i4)), .val (.int (own_j0_178_L13 i0 i1 i2 i3 i4)), .val (.int (own_j0_178_L14 i0 i1 i2 i3 i4)), .val (.int (own_j0_211_S0 i0 i1 i2 i3 i4))] [(.int (own_j0_178_L13 i0 i1 i2 i3 i4))])) XJ29.here hx rfl (pc0 := 220) (pc' := 237) rfl (hb hby at_220) rfl (Jvm.Free.XT.i0_eq_t hc31) (by decide) (by decide) kt) ?_
          refine ownE.go (T' := TJ29) (f' := (mkF m 238 #[.val (.int i0), .val (.int i1), .val (.int i2), .val (.int i3), .val (.int i4), .val (.int (i0 &&& (255 : Int32))), .val (.ref b1), .val (.int (own_v0_64 i0 i1 i2 i3 i4)), .val (.int (own_v0_78 i0 i1 i2 i3 i4)), .val (.int (own_v0_85 i0 i1 i2 i3 i4)), .val (.ref b7), .val (.int (own_ab (0 : Int32))), .val (.int (own_v0_113 i0 i1 i2 i3 i4)), .val (.int (own_j0_178_L13 i0 i1 i2 i3 i4)), .val (.int (own_j0_178_L14 i0 i1 i2 i3 i4)), .val (.int (own_j0_211_S0 i0 i1 i2 i3 i4))] [(.int (0 : Int32))])) (fun t kt => ?_) ?_
          · show Steps p.tables e below (TJ29.setTop (mkF m 237 #[.val (.int i0), .val (.int i1), .val (.int i2), .val (.int i3), .val (.int i4), .val (.int (i0 &&& (255 : Int32))), .val (.ref b1), .val (.int (own_v0_64 i0 i1 i2 i3 i4)), .val (.int (own_v0_78 i0 i1 i2 i3 i4)), .val (.int (own_v0_85 i0 i1 i2 i3 i4)), .val (.ref b7), .val (.int (own_ab (0 : Int32))), .val (.int (own_v0_113 i0 i1 i2 i3 i4)), .val (.int (own_j0_178_L13 i0 i1 i2 i3 i4)), .val (.int (own_j0_178_L14 i0 i1 i2 i3 i4)), .val (.int (own_j0_211_S0 i0 i1 i2 i3 i4))] [])) _
            refine XS.iconst XJ29.here hx rfl (hb hby at_237) ?_
            exact kt
          refine ownE.retN XJ29 hx hlk (t := .boolean) hret (by simp) (hb hby at_238) ?_ (by decide) (by decide)
          show own_Q0 Z i0 i1 i2 i3 i4 h0 n0 _ TJ29.heap _
          rw [eJ29]
          exact ⟨(by rw [own_f0, if_neg hc30, if_pos hc31] <;> first | rfl | decide), NJ29, KJ23⟩
        · -- pc 220
          refine ownE.go (T' := TJ29) (f' := (mkF m 223 #[.val (.int i0), .val (.int i1), .val (.int i2), .val (.int i3), .val (.int i4), .val (.int (i0 &&& (255 : Int32))), .val (.ref b1), .val (.int (own_v0_64 i0 i1 i2 i3 i4)), .val (.int (own_v0_78 i0 i1 i2 i3 i4)), .val (.int (own_v0_85 i0 i1 i2 i3 i4)), .val (.ref b7), .val (.int (own_ab (0 : Int32))), .val (.int (own_v0_113 i0 i1 i2 i3 i4)), .val (.int (own_j0_178_L13 i0 i1 i2 i3 i4)), .val (.int (own_j0_178_L14 i0 i1 i2 i3 i4)), .val (.int (own_j0_211_S0 i0 i1 i2 i3 i4))] [])) (fun t kt => XS.ifNo (g := (mkF m 220 #[.val (.int i0), .val (.int i1), .val (.int i2), .val (.int i3), .val (.int i4), .val (.int (i0 &&& (255 : Int32))), .val (.ref b1), .val (.int (own_v0_64 i0 i1 i2 i3 i4)), .val (.int (own_v0_78 i0 i1 i2 i3 i4)), .val (.int (own_v0_85 i0 i1 i2 i3 i4)), .val (.ref b7), .val (.int (own_ab (0 : Int32))), .val (.int (own_v0_113 i0 i1 i2 i3 i4)), .val (.int (own_j0_178_L13 i0 i1 i2 i3 i4)), .val (.int (own_j0_178_L14 i0 i1 i2 i3 i4)), .val (.int (own_j0_211_S0 i0 i1 i2 i3 i4))] [(.int (own_j0_178_L13 i0 i1 i2 i3 i4))])) XJ29.here hx rfl (hb hby at_220) rfl (Jvm.Free.XT.i0_eq_f hc31) kt) ?_
          refine ownE.go (T' := TJ29) (f' := (mkF m 225 #[.val (.int i0), .val (.int i1), .val (.int i2), .val (.int i3), .val (.int i4), .val (.int (i0 &&& (255 : Int32))), .val (.ref b1), .val (.int (own_v0_64 i0 i1 i2 i3 i4)), .val (.int (own_v0_78 i0 i1 i2 i3 i4)), .val (.int (own_v0_85 i0 i1 i2 i3 i4)), .val (.ref b7), .val (.int (own_ab (0 : Int32))), .val (.int (own_v0_113 i0 i1 i2 i3 i4)), .val (.int (own_j0_178_L13 i0 i1 i2 i3 i4)), .val (.int (own_j0_178_L14 i0 i1 i2 i3 i4)), .val (.int (own_j0_211_S0 i0 i1 i2 i3 i4))] [(.ref b7)])) (fun t kt => ?_) ?_
          · show Steps p.tables e below (TJ29.setTop (mkF m 223 #[.val (.int i0), .val (.int i1), .val (.int i2), .val (.int i3), .val (.int i4), .val (.int (i0 &&& (255 : Int32))), .val (.ref b1), .val (.int (own_v0_64 i0 i1 i2 i3 i4)), .val (.int (own_v0_78 i0 i1 i2 i3 i4)), .val (.int (own_v0_85 i0 i1 i2 i3 i4)), .val (.ref b7), .val (.int (own_ab (0 : Int32))), .val (.int (own_v0_113 i0 i1 i2 i3 i4)), .val (.int (own_j0_178_L13 i0 i1 i2 i3 i4)), .val (.int (own_j0_178_L14 i0 i1 i2 i3 i4)), .val (.int (own_j0_211_S0 i0 i1 i2 i3 i4))] [])) _
            refine XS.aload XJ29.here hx rfl (hb hby at_223) rfl rfl ?_
            exact kt
          obtain ⟨cq32, kq32, q32a, q32b, q32c⟩ := isOf hZ eJ29 J23_cExa_b7_j
          obtain ⟨_, _, ⟨T32, L32, k32, n32⟩, -, X32, ⟨Lc32, hQ32, l32, y32, z32⟩, st32⟩ := XJ29.virtualBack hx (y := (⟨"com/example/marrow/marrow/Utf8Checker", "atBoundary", "()Z"⟩ : MethodName)) (z := (⟨"com/example/marrow/marrow/Utf8Checker", "atBoundary", "()Z"⟩ : MethodName)) hown (mvT hZ (hw _ (List.mem_of_getElem? (i := 18) rfl))) (mvT hZ (hw _ (List.mem_of_getElem? (i := 19) rfl))) (notFace_of_selects (args := #[]) (mvT hZ (hw _ (List.mem_of_getElem? (i := 21) rfl)))) (mvT hZ (hw _ (List.mem_of_getElem? (i := 21) rfl))) (mvT hZ (hw _ (List.mem_of_getElem? (i := 20) rfl))) (by decide) (backOf (W := 0) (own_rm4 l Z a0 hw [] b7 (own_j0_178_pending i0 i1 i2 i3 i4) hJ23 n0 (Nat.le_trans Z0 KJ23.1) J23_cFld_b7_pending_j) hZ (hw _ (List.mem_of_getElem? (i := 22) rfl)) (hw _ (List.mem_of_getElem? (i := 7) rfl)) (by decide) (by decide)) q32a q32c (g := (mkF m 225 #[.val (.int i0), .val (.int i1), .val (.int i2), .val (.int i3), .val (.int i4), .val (.int (i0 &&& (255 : Int32))), .val (.ref b1), .val (.int (own_v0_64 i0 i1 i2 i3 i4)), .val (.int (own_v0_78 i0 i1 i2 i3 i4)), .val (.int (own_v0_85 i0 i1 i2 i3 i4)), .val (.ref b7), .val (.int (own_ab (0 : Int32))), .val (.int (own_v0_113 i0 i1 i2 i3 i4)), .val (.int (own_j0_178_L13 i0 i1 i2 i3 i4)), .val (.int (own_j0_178_L14 i0 i1 i2 i3 i4)), .val (.int (own_j0_211_S0 i0 i1 i2 i3 i4))] [(.ref b7)])) rfl (by rw [hml]; rfl) (Steps.refl _) (argsL := []) (rest := []) (lenOf own_pd5 rfl) rfl (by show 2 * 0 + _ ≤ _; exact Nat.le_of_eq rfl) (hb hby at_225) (fun _ _ => ⟨rfl, eJ29, (by decide : 2 + 0 ≤ _), (by decide : 7 + 0 ≤ _)⟩)
          dsimp only [Pt.U, Pt.locs, Pt.cells, Pt.slots] at X32 l32 y32 z32 st32 hQ32
          subst l32 y32 z32
          obtain ⟨rfl, N32q, e32⟩ := hQ32
          have N32 := Fr.app NJ29 N32q
          refine ownE.goS (T' := T32) (f' := (mkF m 228 #[.val (.int i0), .val (.int i1), .val (.int i2), .val (.int i3), .val (.int i4), .val (.int (i0 &&& (255 : Int32))), .val (.ref b1), .val (.int (own_v0_64 i0 i1 i2 i3 i4)), .val (.int (own_v0_78 i0 i1 i2 i3 i4)), .val (.int (own_v0_85 i0 i1 i2 i3 i4)), .val (.ref b7), .val (.int (own_ab (0 : Int32))), .val (.int (own_v0_113 i0 i1 i2 i3 i4)), .val (.int (own_j0_178_L13 i0 i1 i2 i3 i4)), .val (.int (own_j0_178_L14 i0 i1 i2 i3 i4)), .val (.int (own_j0_211_S0 i0 i1 i2 i3 i4))] [(.int (own_ab (own_j0_178_pending i0 i1 i2 i3 i4)))])) st32 ?_
          refine ownE.go (T' := T32) (f' := (mkF m 230 #[.val (.int i0), .val (.int i1), .val (.int i2), .val (.int i3), .val (.int i4), .val (.int (i0 &&& (255 : Int32))), .val (.ref b1), .val (.int (own_v0_64 i0 i1 i2 i3 i4)), .val (.int (own_v0_78 i0 i1 i2 i3 i4)), .val (.int (own_v0_85 i0 i1 i2 i3 i4)), .val (.ref b7), .val (.int (own_ab (0 : Int32))), .val (.int (own_v0_113 i0 i1 i2 i3 i4)), .val (.int (own_j0_178_L13 i0 i1 i2 i3 i4)), .val (.int (own_j0_178_L14 i0 i1 i2 i3 i4)), .val (.int (own_j0_211_S0 i0 i1 i2 i3 i4))] [(.int (own_j0_211_S0 i0 i1 i2 i3 i4)), (.int (own_ab (own_j0_178_pending i0 i1 i2 i3 i4)))])) (fun t kt => ?_) ?_
          · show Steps p.tables e below (T32.setTop (mkF m 228 #[.val (.int i0), .val (.int i1), .val (.int i2), .val (.int i3), .val (.int i4), .val (.int (i0 &&& (255 : Int32))), .val (.ref b1), .val (.int (own_v0_64 i0 i1 i2 i3 i4)), .val (.int (own_v0_78 i0 i1 i2 i3 i4)), .val (.int (own_v0_85 i0 i1 i2 i3 i4)), .val (.ref b7), .val (.int (own_ab (0 : Int32))), .val (.int (own_v0_113 i0 i1 i2 i3 i4)), .val (.int (own_j0_178_L13 i0 i1 i2 i3 i4)), .val (.int (own_j0_178_L14 i0 i1 i2 i3 i4)), .val (.int (own_j0_211_S0 i0 i1 i2 i3 i4))] [(.int (own_ab (own_j0_178_pending i0 i1 i2 i3 i4)))])) _
            refine XS.iload X32.here hx rfl (hb hby at_228) rfl ?_
            exact kt
          by_cases hc33 : (own_ab (own_j0_178_pending i0 i1 i2 i3 i4)) = (own_j0_211_S0 i0 i1 i2 i3 i4)
          · -- pc 230
            refine ownE.go (T' := T32) (f' := (mkF m 233 #[.val (.int i0), .val (.int i1), .val (.int i2), .val (.int i3), .val (.int i4), .val (.int (i0 &&& (255 : Int32))), .val (.ref b1), .val (.int (own_v0_64 i0 i1 i2 i3 i4)), .val (.int (own_v0_78 i0 i1 i2 i3 i4)), .val (.int (own_v0_85 i0 i1 i2 i3 i4)), .val (.ref b7), .val (.int (own_ab (0 : Int32))), .val (.int (own_v0_113 i0 i1 i2 i3 i4)), .val (.int (own_j0_178_L13 i0 i1 i2 i3 i4)), .val (.int (own_j0_178_L14 i0 i1 i2 i3 i4)), .val (.int (own_j0_211_S0 i0 i1 i2 i3 i4))] [])) (fun t kt => XS.icmpNo (g := (mkF m 230 #[.val (.int i0), .val (.int i1), .val (.int i2), .val (.int i3), .val (.int i4), .val (.int (i0 &&& (255 : Int32))), .val (.ref b1), .val (.int (own_v0_64 i0 i1 i2 i3 i4)), .val (.int (own_v0_78 i0 i1 i2 i3 i4)), .val (.int (own_v0_85 i0 i1 i2 i3 i4)), .val (.ref b7), .val (.int (own_ab (0 : Int32))), .val (.int (own_v0_113 i0 i1 i2 i3 i4)), .val (.int (own_j0_178_L13 i0 i1 i2 i3 i4)), .val (.int (own_j0_178_L14 i0 i1 i2 i3 i4)), .val (.int (own_j0_211_S0 i0 i1 i2 i3 i4))] [(.int (own_j0_211_S0 i0 i1 i2 i3 i4)), (.int (own_ab (own_j0_178_pending i0 i1 i2 i3 i4)))])) X32.here hx rfl (hb hby at_230) rfl (Jvm.Free.XT.ii_ne_f hc33) kt) ?_
            refine ownE.go (T' := T32) (f' := (mkF m 238 #[.val (.int i0), .val (.int i1), .val (.int i2), .val (.int i3), .val (.int i4), .val (.int (i0 &&& (255 : Int32))), .val (.ref b1), .val (.int (own_v0_64 i0 i1 i2 i3 i4)), .val (.int (own_v0_78 i0 i1 i2 i3 i4)), .val (.int (own_v0_85 i0 i1 i2 i3 i4)), .val (.ref b7), .val (.int (own_ab (0 : Int32))), .val (.int (own_v0_113 i0 i1 i2 i3 i4)), .val (.int (own_j0_178_L13 i0 i1 i2 i3 i4)), .val (.int (own_j0_178_L14 i0 i1 i2 i3 i4)), .val (.int (own_j0_211_S0 i0 i1 i2 i3 i4))] [(.int (1 : Int32))])) (fun t kt => ?_) ?_
            · show Steps p.tables e below (T32.setTop (mkF m 233 #[.val (.int i0), .val (.int i1), .val (.int i2), .val (.int i3), .val (.int i4), .val (.int (i0 &&& (255 : Int32))), .val (.ref b1), .val (.int (own_v0_64 i0 i1 i2 i3 i4)), .val (.int (own_v0_78 i0 i1 i2 i3 i4)), .val (.int (own_v0_85 i0 i1 i2 i3 i4)), .val (.ref b7), .val (.int (own_ab (0 : Int32))), .val (.int (own_v0_113 i0 i1 i2 i3 i4)), .val (.int (own_j0_178_L13 i0 i1 i2 i3 i4)), .val (.int (own_j0_178_L14 i0 i1 i2 i3 i4)), .val (.int (own_j0_211_S0 i0 i1 i2 i3 i4))] [])) _
              refine XS.iconst X32.here hx rfl (hb hby at_233) ?_
              show Steps p.tables e below (T32.setTop (mkF m 234 #[.val (.int i0), .val (.int i1), .val (.int i2), .val (.int i3), .val (.int i4), .val (.int (i0 &&& (255 : Int32))), .val (.ref b1), .val (.int (own_v0_64 i0 i1 i2 i3 i4)), .val (.int (own_v0_78 i0 i1 i2 i3 i4)), .val (.int (own_v0_85 i0 i1 i2 i3 i4)), .val (.ref b7), .val (.int (own_ab (0 : Int32))), .val (.int (own_v0_113 i0 i1 i2 i3 i4)), .val (.int (own_j0_178_L13 i0 i1 i2 i3 i4)), .val (.int (own_j0_178_L14 i0 i1 i2 i3 i4)), .val (.int (own_j0_211_S0 i0 i1 i2 i3 i4))] [(.int (1 : Int32))])) _
              refine XS.goto X32.here hx rfl (pc0 := 234) (pc' := 238) rfl (hb hby at_234) (by decide) (by decide) ?_
              exact kt
            refine ownE.retN X32 hx hlk (t := .boolean) hret (by simp) (hb hby at_238) ?_ (by decide) (by decide)
            show own_Q0 Z i0 i1 i2 i3 i4 h0 n0 _ T32.heap _
            rw [e32]
            exact ⟨(by rw [own_f0, if_neg hc30, if_neg hc31, if_pos hc33] <;> first | rfl | decide), N32, KJ23⟩
          · -- pc 230
            refine ownE.go (T' := T32) (f' := (mkF m 237 #[.val (.int i0), .val (.int i1), .val (.int i2), .val (.int i3), .val (.int i4), .val (.int (i0 &&& (255 : Int32))), .val (.ref b1), .val (.int (own_v0_64 i0 i1 i2 i3 i4)), .val (.int (own_v0_78 i0 i1 i2 i3 i4)), .val (.int (own_v0_85 i0 i1 i2 i3 i4)), .val (.ref b7), .val (.int (own_ab (0 : Int32))), .val (.int (own_v0_113 i0 i1 i2 i3 i4)), .val (.int (own_j0_178_L13 i0 i1 i2 i3 i4)), .val (.int (own_j0_178_L14 i0 i1 i2 i3 i4)), .val (.int (own_j0_211_S0 i0 i1 i2 i3 i4))] [])) (fun t kt => XS.icmpYes (g := (mkF m 230 #[.val (.int i0), .val (.int i1), .val (.int i2), .val (.int i3), .val (.int i4), .val (.int (i0 &&& (255 : Int32))), .val (.ref b1), .val (.int (own_v0_64 i0 i1 i2 i3 i4)), .val (.int (own_v0_78 i0 i1 i2 i3 i4)), .val (.int (own_v0_85 i0 i1 i2 i3 i4)), .val (.ref b7), .val (.int (own_ab (0 : Int32))), .val (.int (own_v0_113 i0 i1 i2 i3 i4)), .val (.int (own_j0_178_L13 i0 i1 i2 i3 i4)), .val (.int (own_j0_178_L14 i0 i1 i2 i3 i4)), .val (.int (own_j0_211_S0 i0 i1 i2 i3 i4))] [(.int (own_j0_211_S0 i0 i1 i2 i3 i4)), (.int (own_ab (own_j0_178_pending i0 i1 i2 i3 i4)))])) X32.here hx rfl (pc0 := 230) (pc' := 237) rfl (hb hby at_230) rfl (Jvm.Free.XT.ii_ne_t hc33) (by decide) (by decide) kt) ?_
            refine ownE.go (T' := T32) (f' := (mkF m 238 #[.val (.int i0), .val (.int i1), .val (.int i2), .val (.int i3), .val (.int i4), .val (.int (i0 &&& (255 : Int32))), .val (.ref b1), .val (.int (own_v0_64 i0 i1 i2 i3 i4)), .val (.int (own_v0_78 i0 i1 i2 i3 i4)), .val (.int (own_v0_85 i0 i1 i2 i3 i4)), .val (.ref b7), .val (.int (own_ab (0 : Int32))), .val (.int (own_v0_113 i0 i1 i2 i3 i4)), .val (.int (own_j0_178_L13 i0 i1 i2 i3 i4)), .val (.int (own_j0_178_L14 i0 i1 i2 i3 i4)), .val (.int (own_j0_211_S0 i0 i1 i2 i3 i4))] [(.int (0 : Int32))])) (fun t kt => ?_) ?_
            · show Steps p.tables e below (T32.setTop (mkF m 237 #[.val (.int i0), .val (.int i1), .val (.int i2), .val (.int i3), .val (.int i4), .val (.int (i0 &&& (255 : Int32))), .val (.ref b1), .val (.int (own_v0_64 i0 i1 i2 i3 i4)), .val (.int (own_v0_78 i0 i1 i2 i3 i4)), .val (.int (own_v0_85 i0 i1 i2 i3 i4)), .val (.ref b7), .val (.int (own_ab (0 : Int32))), .val (.int (own_v0_113 i0 i1 i2 i3 i4)), .val (.int (own_j0_178_L13 i0 i1 i2 i3 i4)), .val (.int (own_j0_178_L14 i0 i1 i2 i3 i4)), .val (.int (own_j0_211_S0 i0 i1 i2 i3 i4))] [])) _
              refine XS.iconst X32.here hx rfl (hb hby at_237) ?_
              exact kt
            refine ownE.retN X32 hx hlk (t := .boolean) hret (by simp) (hb hby at_238) ?_ (by decide) (by decide)
            show own_Q0 Z i0 i1 i2 i3 i4 h0 n0 _ T32.heap _
            rw [e32]
            exact ⟨(by rw [own_f0, if_neg hc30, if_neg hc31, if_neg hc33] <;> first | rfl | decide), N32, KJ23⟩
    refine ownE.go (T' := TJ23) (f' := (mkF m 181 #[.val (.int i0), .val (.int i1), .val (.int i2), .val (.int i3), .val (.int i4), .val (.int (i0 &&& (255 : Int32))), .val (.ref b1), .val (.int (own_v0_64 i0 i1 i2 i3 i4)), .val (.int (own_v0_78 i0 i1 i2 i3 i4)), .val (.int (own_v0_85 i0 i1 i2 i3 i4)), .val (.ref b7), .val (.int (own_ab (0 : Int32))), .val (.int (own_v0_113 i0 i1 i2 i3 i4)), .val (.int (own_j0_178_L13 i0 i1 i2 i3 i4)), .val (.int (own_j0_178_L14 i0 i1 i2 i3 i4)), .unset] [(.int (2 : Int32)), (.int (own_v0_85 i0 i1 i2 i3 i4))])) (fun t kt => ?_) ?_
    · show Steps p.tables e below (TJ23.setTop (mkF m 178 #[.val (.int i0), .val (.int i1), .val (.int i2), .val (.int i3), .val (.int i4), .val (.int (i0 &&& (255 : Int32))), .val (.ref b1), .val (.int (own_v0_64 i0 i1 i2 i3 i4)), .val (.int (own_v0_78 i0 i1 i2 i3 i4)), .val (.int (own_v0_85 i0 i1 i2 i3 i4)), .val (.ref b7), .val (.int (own_ab (0 : Int32))), .val (.int (own_v0_113 i0 i1 i2 i3 i4)), .val (.int (own_j0_178_L13 i0 i1 i2 i3 i4)), .val (.int (own_j0_178_L14 i0 i1 i2 i3 i4)), .unset] [])) _
      refine XS.iload XJ23.here hx rfl (hb hby at_178) rfl ?_
      show Steps p.tables e below (TJ23.setTop (mkF m 180 #[.val (.int i0), .val (.int i1), .val (.int i2), .val (.int i3), .val (.int i4), .val (.int (i0 &&& (255 : Int32))), .val (.ref b1), .val (.int (own_v0_64 i0 i1 i2 i3 i4)), .val (.int (own_v0_78 i0 i1 i2 i3 i4)), .val (.int (own_v0_85 i0 i1 i2 i3 i4)), .val (.ref b7), .val (.int (own_ab (0 : Int32))), .val (.int (own_v0_113 i0 i1 i2 i3 i4)), .val (.int (own_j0_178_L13 i0 i1 i2 i3 i4)), .val (.int (own_j0_178_L14 i0 i1 i2 i3 i4)), .unset] [(.int (own_v0_85 i0 i1 i2 i3 i4))])) _
      refine XS.iconst XJ23.here hx rfl (hb hby at_180) ?_
      exact kt
    by_cases hc25 : (own_v0_85 i0 i1 i2 i3 i4) < (2 : Int32)
    · -- pc 181
      refine ownE.go (T' := TJ23) (f' := (mkF m 206 #[.val (.int i0), .val (.int i1), .val (.int i2), .val (.int i3), .val (.int i4), .val (.int (i0 &&& (255 : Int32))), .val (.ref b1), .val (.int (own_v0_64 i0 i1 i2 i3 i4)), .val (.int (own_v0_78 i0 i1 i2 i3 i4)), .val (.int (own_v0_85 i0 i1 i2 i3 i4)), .val (.ref b7), .val (.int (own_ab (0 : Int32))), .val (.int (own_v0_113 i0 i1 i2 i3 i4)), .val (.int (own_j0_178_L13 i0 i1 i2 i3 i4)), .val (.int (own_j0_178_L14 i0 i1 i2 i3 i4)), .unset] [])) (fun t kt => XS.icmpYes (g := (mkF m 181 #[.val (.int i0), .val (.int i1), .val (.int i2), .val (.int i3), .val (.int i4), .val (.int (i0 &&& (255 : Int32))), .val (.ref b1), .val (.int (own_v0_64 i0 i1 i2 i3 i4)), .val (.int (own_v0_78 i0 i1 i2 i3 i4)), .val (.int (own_v0_85 i0 i1 i2 i3 i4)), .val (.ref b7), .val (.int (own_ab (0 : Int32))), .val (.int (own_v0_113 i0 i1 i2 i3 i4)), .val (.int (own_j0_178_L13 i0 i1 i2 i3 i4)), .val (.int (own_j0_178_L14 i0 i1 i2 i3 i4)), .unset] [(.int (2 : Int32)), (.int (own_v0_85 i0 i1 i2 i3 i4))])) XJ23.here hx rfl (pc0 := 181) (pc' := 206) rfl (hb hby at_181) rfl (Jvm.Free.XT.ii_lt_t hc25) (by decide) (by decide) kt) ?_
      refine ownE.go (T' := TJ23) (f' := (mkF m 211 #[.val (.int i0), .val (.int i1), .val (.int i2), .val (.int i3), .val (.int i4), .val (.int (i0 &&& (255 : Int32))), .val (.ref b1), .val (.int (own_v0_64 i0 i1 i2 i3 i4)), .val (.int (own_v0_78 i0 i1 i2 i3 i4)), .val (.int (own_v0_85 i0 i1 i2 i3 i4)), .val (.ref b7), .val (.int (own_ab (0 : Int32))), .val (.int (own_v0_113 i0 i1 i2 i3 i4)), .val (.int (own_j0_178_L13 i0 i1 i2 i3 i4)), .val (.int (own_j0_178_L14 i0 i1 i2 i3 i4)), .unset] [(.int (1 : Int32))])) (fun t kt => ?_) ?_
      · show Steps p.tables e below (TJ23.setTop (mkF m 206 #[.val (.int i0), .val (.int i1), .val (.int i2), .val (.int i3), .val (.int i4), .val (.int (i0 &&& (255 : Int32))), .val (.ref b1), .val (.int (own_v0_64 i0 i1 i2 i3 i4)), .val (.int (own_v0_78 i0 i1 i2 i3 i4)), .val (.int (own_v0_85 i0 i1 i2 i3 i4)), .val (.ref b7), .val (.int (own_ab (0 : Int32))), .val (.int (own_v0_113 i0 i1 i2 i3 i4)), .val (.int (own_j0_178_L13 i0 i1 i2 i3 i4)), .val (.int (own_j0_178_L14 i0 i1 i2 i3 i4)), .unset] [])) _
        refine XS.iconst XJ23.here hx rfl (hb hby at_206) ?_
        show Steps p.tables e below (TJ23.setTop (mkF m 207 #[.val (.int i0), .val (.int i1), .val (.int i2), .val (.int i3), .val (.int i4), .val (.int (i0 &&& (255 : Int32))), .val (.ref b1), .val (.int (own_v0_64 i0 i1 i2 i3 i4)), .val (.int (own_v0_78 i0 i1 i2 i3 i4)), .val (.int (own_v0_85 i0 i1 i2 i3 i4)), .val (.ref b7), .val (.int (own_ab (0 : Int32))), .val (.int (own_v0_113 i0 i1 i2 i3 i4)), .val (.int (own_j0_178_L13 i0 i1 i2 i3 i4)), .val (.int (own_j0_178_L14 i0 i1 i2 i3 i4)), .unset] [(.int (1 : Int32))])) _
        refine XS.goto XJ23.here hx rfl (pc0 := 207) (pc' := 211) rfl (hb hby at_207) (by decide) (by decide) ?_
        exact kt
      have jj := J29 _ _ XJ23 eJ23 NJ23
      rw [show (own_j0_211_S0 i0 i1 i2 i3 i4) = (1 : Int32) from by rw [own_j0_211_S0, if_pos hc25]] at jj
      exact jj
    · -- pc 181
      refine ownE.go (T' := TJ23) (f' := (mkF m 184 #[.val (.int i0), .val (.int i1), .val (.int i2), .val (.int i3), .val (.int i4), .val (.int (i0 &&& (255 : Int32))), .val (.ref b1), .val (.int (own_v0_64 i0 i1 i2 i3 i4)), .val (.int (own_v0_78 i0 i1 i2 i3 i4)), .val (.int (own_v0_85 i0 i1 i2 i3 i4)), .val (.ref b7), .val (.int (own_ab (0 : Int32))), .val (.int (own_v0_113 i0 i1 i2 i3 i4)), .val (.int (own_j0_178_L13 i0 i1 i2 i3 i4)), .val (.int (own_j0_178_L14 i0 i1 i2 i3 i4)), .unset] [])) (fun t kt => XS.icmpNo (g := (mkF m 181 #[.val (.int i0), .val (.int i1), .val (.int i2), .val (.int i3), .val (.int i4), .val (.int (i0 &&& (255 : Int32))), .val (.ref b1), .val (.int (own_v0_64 i0 i1 i2 i3 i4)), .val (.int (own_v0_78 i0 i1 i2 i3 i4)), .val (.int (own_v0_85 i0 i1 i2 i3 i4)), .val (.ref b7), .val (.int (own_ab (0 : Int32))), .val (.int (own_v0_113 i0 i1 i2 i3 i4)), .val (.int (own_j0_178_L13 i0 i1 i2 i3 i4)), .val (.int (own_j0_178_L14 i0 i1 i2 i3 i4)), .unset] [(.int (2 : Int32)), (.int (own_v0_85 i0 i1 i2 i3 i4))])) XJ23.here hx rfl (hb hby at_181) rfl (Jvm.Free.XT.ii_lt_f hc25) kt) ?_
      refine ownE.go (T' := TJ23) (f' := (mkF m 186 #[.val (.int i0), .val (.int i1), .val (.int i2), .val (.int i3), .val (.int i4), .val (.int (i0 &&& (255 : Int32))), .val (.ref b1), .val (.int (own_v0_64 i0 i1 i2 i3 i4)), .val (.int (own_v0_78 i0 i1 i2 i3 i4)), .val (.int (own_v0_85 i0 i1 i2 i3 i4)), .val (.ref b7), .val (.int (own_ab (0 : Int32))), .val (.int (own_v0_113 i0 i1 i2 i3 i4)), .val (.int (own_j0_178_L13 i0 i1 i2 i3 i4)), .val (.int (own_j0_178_L14 i0 i1 i2 i3 i4)), .unset] [(.int (own_j0_178_L14 i0 i1 i2 i3 i4))])) (fun t kt => ?_) ?_
      · show Steps p.tables e below (TJ23.setTop (mkF m 184 #[.val (.int i0), .val (.int i1), .val (.int i2), .val (.int i3), .val (.int i4), .val (.int (i0 &&& (255 : Int32))), .val (.ref b1), .val (.int (own_v0_64 i0 i1 i2 i3 i4)), .val (.int (own_v0_78 i0 i1 i2 i3 i4)), .val (.int (own_v0_85 i0 i1 i2 i3 i4)), .val (.ref b7), .val (.int (own_ab (0 : Int32))), .val (.int (own_v0_113 i0 i1 i2 i3 i4)), .val (.int (own_j0_178_L13 i0 i1 i2 i3 i4)), .val (.int (own_j0_178_L14 i0 i1 i2 i3 i4)), .unset] [])) _
        refine XS.iload XJ23.here hx rfl (hb hby at_184) rfl ?_
        exact kt
      by_cases hc26 : (own_j0_178_L14 i0 i1 i2 i3 i4) < (0 : Int32)
      · -- pc 186
        refine ownE.go (T' := TJ23) (f' := (mkF m 189 #[.val (.int i0), .val (.int i1), .val (.int i2), .val (.int i3), .val (.int i4), .val (.int (i0 &&& (255 : Int32))), .val (.ref b1), .val (.int (own_v0_64 i0 i1 i2 i3 i4)), .val (.int (own_v0_78 i0 i1 i2 i3 i4)), .val (.int (own_v0_85 i0 i1 i2 i3 i4)), .val (.ref b7), .val (.int (own_ab (0 : Int32))), .val (.int (own_v0_113 i0 i1 i2 i3 i4)), .val (.int (own_j0_178_L13 i0 i1 i2 i3 i4)), .val (.int (own_j0_178_L14 i0 i1 i2 i3 i4)), .unset] [])) (fun t kt => XS.ifNo (g := (mkF m 186 #[.val (.int i0), .val (.int i1), .val (.int i2), .val (.int i3), .val (.int i4), .val (.int (i0 &&& (255 : Int32))), .val (.ref b1), .val (.int (own_v0_64 i0 i1 i2 i3 i4)), .val (.int (own_v0_78 i0 i1 i2 i3 i4)), .val (.int (own_v0_85 i0 i1 i2 i3 i4)), .val (.ref b7), .val (.int (own_ab (0 : Int32))), .val (.int (own_v0_113 i0 i1 i2 i3 i4)), .val (.int (own_j0_178_L13 i0 i1 i2 i3 i4)), .val (.int (own_j0_178_L14 i0 i1 i2 i3 i4)), .unset] [(.int (own_j0_178_L14 i0 i1 i2 i3 i4))])) XJ23.here hx rfl (hb hby at_186) rfl (Jvm.Free.XT.i0_ge_f hc26) kt) ?_
        refine ownE.go (T' := TJ23) (f' := (mkF m 193 #[.val (.int i0), .val (.int i1), .val (.int i2), .val (.int i3), .val (.int i4), .val (.int (i0 &&& (255 : Int32))), .val (.ref b1), .val (.int (own_v0_64 i0 i1 i2 i3 i4)), .val (.int (own_v0_78 i0 i1 i2 i3 i4)), .val (.int (own_v0_85 i0 i1 i2 i3 i4)), .val (.ref b7), .val (.int (own_ab (0 : Int32))), .val (.int (own_v0_113 i0 i1 i2 i3 i4)), .val (.int (own_j0_178_L13 i0 i1 i2 i3 i4)), .val (.int (own_j0_178_L14 i0 i1 i2 i3 i4)), .unset] [(.int (own_v0_85 i0 i1 i2 i3 i4)), (.int (own_v0_64 i0 i1 i2 i3 i4))])) (fun t kt => ?_) ?_
        · show Steps p.tables e below (TJ23.setTop (mkF m 189 #[.val (.int i0), .val (.int i1), .val (.int i2), .val (.int i3), .val (.int i4), .val (.int (i0 &&& (255 : Int32))), .val (.ref b1), .val (.int (own_v0_64 i0 i1 i2 i3 i4)), .val (.int (own_v0_78 i0 i1 i2 i3 i4)), .val (.int (own_v0_85 i0 i1 i2 i3 i4)), .val (.ref b7), .val (.int (own_ab (0 : Int32))), .val (.int (own_v0_113 i0 i1 i2 i3 i4)), .val (.int (own_j0_178_L13 i0 i1 i2 i3 i4)), .val (.int (own_j0_178_L14 i0 i1 i2 i3 i4)), .unset] [])) _
          refine XS.iload XJ23.here hx rfl (hb hby at_189) rfl ?_
          show Steps p.tables e below (TJ23.setTop (mkF m 191 #[.val (.int i0), .val (.int i1), .val (.int i2), .val (.int i3), .val (.int i4), .val (.int (i0 &&& (255 : Int32))), .val (.ref b1), .val (.int (own_v0_64 i0 i1 i2 i3 i4)), .val (.int (own_v0_78 i0 i1 i2 i3 i4)), .val (.int (own_v0_85 i0 i1 i2 i3 i4)), .val (.ref b7), .val (.int (own_ab (0 : Int32))), .val (.int (own_v0_113 i0 i1 i2 i3 i4)), .val (.int (own_j0_178_L13 i0 i1 i2 i3 i4)), .val (.int (own_j0_178_L14 i0 i1 i2 i3 i4)), .unset] [(.int (own_v0_64 i0 i1 i2 i3 i4))])) _
          refine XS.iload XJ23.here hx rfl (hb hby at_191) rfl ?_
          exact kt
        by_cases hc27 : (own_v0_64 i0 i1 i2 i3 i4) = (own_v0_85 i0 i1 i2 i3 i4)
        · -- pc 193
          refine ownE.go (T' := TJ23) (f' := (mkF m 196 #[.val (.int i0), .val (.int i1), .val (.int i2), .val (.int i3), .val (.int i4), .val (.int (i0 &&& (255 : Int32))), .val (.ref b1), .val (.int (own_v0_64 i0 i1 i2 i3 i4)), .val (.int (own_v0_78 i0 i1 i2 i3 i4)), .val (.int (own_v0_85 i0 i1 i2 i3 i4)), .val (.ref b7), .val (.int (own_ab (0 : Int32))), .val (.int (own_v0_113 i0 i1 i2 i3 i4)), .val (.int (own_j0_178_L13 i0 i1 i2 i3 i4)), .val (.int (own_j0_178_L14 i0 i1 i2 i3 i4)), .unset] [])) (fun t kt => XS.icmpNo (g := (mkF m 193 #[.val (.int i0), .val (.int i1), .val (.int i2), .val (.int i3), .val (.int i4), .val (.int (i0 &&& (255 : Int32))), .val (.ref b1), .val (.int (own_v0_64 i0 i1 i2 i3 i4)), .val (.int (own_v0_78 i0 i1 i2 i3 i4)), .val (.int (own_v0_85 i0 i1 i2 i3 i4)), .val (.ref b7), .val (.int (own_ab (0 : Int32))), .val (.int (own_v0_113 i0 i1 i2 i3 i4)), .val (.int (own_j0_178_L13 i0 i1 i2 i3 i4)), .val (.int (own_j0_178_L14 i0 i1 i2 i3 i4)), .unset] [(.int (own_v0_85 i0 i1 i2 i3 i4)), (.int (own_v0_64 i0 i1 i2 i3 i4))])) XJ23.here hx rfl (hb hby at_193) rfl (Jvm.Free.XT.ii_ne_f hc27) kt) ?_
          refine ownE.go (T' := TJ23) (f' := (mkF m 211 #[.val (.int i0), .val (.int i1), .val (.int i2), .val (.int i3), .val (.int i4), .val (.int (i0 &&& (255 : Int32))), .val (.ref b1), .val (.int (own_v0_64 i0 i1 i2 i3 i4)), .val (.int (own_v0_78 i0 i1 i2 i3 i4)), .val (.int (own_v0_85 i0 i1 i2 i3 i4)), .val (.ref b7), .val (.int (own_ab (0 : Int32))), .val (.int (own_v0_113 i0 i1 i2 i3 i4)), .val (.int (own_j0_178_L13 i0 i1 i2 i3 i4)), .val (.int (own_j0_178_L14 i0 i1 i2 i3 i4)), .unset] [(.int (1 : Int32))])) (fun t kt => ?_) ?_
          · show Steps p.tables e below (TJ23.setTop (mkF m 196 #[.val (.int i0), .val (.int i1), .val (.int i2), .val (.int i3), .val (.int i4), .val (.int (i0 &&& (255 : Int32))), .val (.ref b1), .val (.int (own_v0_64 i0 i1 i2 i3 i4)), .val (.int (own_v0_78 i0 i1 i2 i3 i4)), .val (.int (own_v0_85 i0 i1 i2 i3 i4)), .val (.ref b7), .val (.int (own_ab (0 : Int32))), .val (.int (own_v0_113 i0 i1 i2 i3 i4)), .val (.int (own_j0_178_L13 i0 i1 i2 i3 i4)), .val (.int (own_j0_178_L14 i0 i1 i2 i3 i4)), .unset] [])) _
            refine XS.goto XJ23.here hx rfl (pc0 := 196) (pc' := 206) rfl (hb hby at_196) (by decide) (by decide) ?_
            show Steps p.tables e below (TJ23.setTop (mkF m 206 #[.val (.int i0), .val (.int i1), .val (.int i2), .val (.int i3), .val (.int i4), .val (.int (i0 &&& (255 : Int32))), .val (.ref b1), .val (.int (own_v0_64 i0 i1 i2 i3 i4)), .val (.int (own_v0_78 i0 i1 i2 i3 i4)), .val (.int (own_v0_85 i0 i1 i2 i3 i4)), .val (.ref b7), .val (.int (own_ab (0 : Int32))), .val (.int (own_v0_113 i0 i1 i2 i3 i4)), .val (.int (own_j0_178_L13 i0 i1 i2 i3 i4)), .val (.int (own_j0_178_L14 i0 i1 i2 i3 i4)), .unset] [])) _
            refine XS.iconst XJ23.here hx rfl (hb hby at_206) ?_
            show Steps p.tables e below (TJ23.setTop (mkF m 207 #[.val (.int i0), .val (.int i1), .val (.int i2), .val (.int i3), .val (.int i4), .val (.int (i0 &&& (255 : Int32))), .val (.ref b1), .val (.int (own_v0_64 i0 i1 i2 i3 i4)), .val (.int (own_v0_78 i0 i1 i2 i3 i4)), .val (.int (own_v0_85 i0 i1 i2 i3 i4)), .val (.ref b7), .val (.int (own_ab (0 : Int32))), .val (.int (own_v0_113 i0 i1 i2 i3 i4)), .val (.int (own_j0_178_L13 i0 i1 i2 i3 i4)), .val (.int (own_j0_178_L14 i0 i1 i2 i3 i4)), .unset] [(.int (1 : Int32))])) _
            refine XS.goto XJ23.here hx rfl (pc0 := 207) (pc' := 211) rfl (hb hby at_207) (by decide) (by decide) ?_
            exact kt
          have jj := J29 _ _ XJ23 eJ23 NJ23
          rw [show (own_j0_211_S0 i0 i1 i2 i3 i4) = (1 : Int32) from by rw [own_j0_211_S0, if_neg hc25, if_pos hc26, if_pos hc27]] at jj
          exact jj
        · -- pc 193
          refine ownE.go (T' := TJ23) (f' := (mkF m 210 #[.val (.int i0), .val (.int i1), .val (.int i2), .val (.int i3), .val (.int i4), .val (.int (i0 &&& (255 : Int32))), .val (.ref b1), .val (.int (own_v0_64 i0 i1 i2 i3 i4)), .val (.int (own_v0_78 i0 i1 i2 i3 i4)), .val (.int (own_v0_85 i0 i1 i2 i3 i4)), .val (.ref b7), .val (.int (own_ab (0 : Int32))), .val (.int (own_v0_113 i0 i1 i2 i3 i4)), .val (.int (own_j0_178_L13 i0 i1 i2 i3 i4)), .val (.int (own_j0_178_L14 i0 i1 i2 i3 i4)), .unset] [])) (fun t kt => XS.icmpYes (g := (mkF m 193 #[.val (.int i0), .val (.int i1), .val (.int i2), .val (.int i3), .val (.int i4), .val (.int (i0 &&& (255 : Int32))), .val (.ref b1), .val (.int (own_v0_64 i0 i1 i2 i3 i4)), .val (.int (own_v0_78 i0 i1 i2 i3 i4)), .val (.int (own_v0_85 i0 i1 i2 i3 i4)), .val (.ref b7), .val (.int (own_ab (0 : Int32))), .val (.int (own_v0_113 i0 i1 i2 i3 i4)), .val (.int (own_j0_178_L13 i0 i1 i2 i3 i4)), .val (.int (own_j0_178_L14 i0 i1 i2 i3 i4)), .unset] [(.int (own_v0_85 i0 i1 i2 i3 i4)), (.int (own_v0_64 i0 i1 i2 i3 i4))])) XJ23.here hx rfl (pc0 := 193) (pc' := 210) rfl (hb hby at_193) rfl (Jvm.Free.XT.ii_ne_t hc27) (by decide) (by decide) kt) ?_
          refine ownE.go (T' := TJ23) (f' := (mkF m 211 #[.val (.int i0), .val (.int i1), .val (.int i2), .val (.int i3), .val (.int i4), .val (.int (i0 &&& (255 : Int32))), .val (.ref b1), .val (.int (own_v0_64 i0 i1 i2 i3 i4)), .val (.int (own_v0_78 i0 i1 i2 i3 i4)), .val (.int (own_v0_85 i0 i1 i2 i3 i4)), .val (.ref b7), .val (.int (own_ab (0 : Int32))), .val (.int (own_v0_113 i0 i1 i2 i3 i4)), .val (.int (own_j0_178_L13 i0 i1 i2 i3 i4)), .val (.int (own_j0_178_L14 i0 i1 i2 i3 i4)), .unset] [(.int (0 : Int32))])) (fun t kt => ?_) ?_
          · show Steps p.tables e below (TJ23.setTop (mkF m 210 #[.val (.int i0), .val (.int i1), .val (.int i2), .val (.int i3), .val (.int i4), .val (.int (i0 &&& (255 : Int32))), .val (.ref b1), .val (.int (own_v0_64 i0 i1 i2 i3 i4)), .val (.int (own_v0_78 i0 i1 i2 i3 i4)), .val (.int (own_v0_85 i0 i1 i2 i3 i4)), .val (.ref b7), .val (.int (own_ab (0 : Int32))), .val (.int (own_v0_113 i0 i1 i2 i3 i4)), .val (.int (own_j0_178_L13 i0 i1 i2 i3 i4)), .val (.int (own_j0_178_L14 i0 i1 i2 i3 i4)), .unset] [])) _
            refine XS.iconst XJ23.here hx rfl (hb hby at_210) ?_
            exact kt
          have jj := J29 _ _ XJ23 eJ23 NJ23
          rw [show (own_j0_211_S0 i0 i1 i2 i3 i4) = (0 : Int32) from by rw [own_j0_211_S0, if_neg hc25, if_pos hc26, if_neg hc27]] at jj
          exact jj
      · -- pc 186
        refine ownE.go (T' := TJ23) (f' := (mkF m 199 #[.val (.int i0), .val (.int i1), .val (.int i2), .val (.int i3), .val (.int i4), .val (.int (i0 &&& (255 : Int32))), .val (.ref b1), .val (.int (own_v0_64 i0 i1 i2 i3 i4)), .val (.int (own_v0_78 i0 i1 i2 i3 i4)), .val (.int (own_v0_85 i0 i1 i2 i3 i4)), .val (.ref b7), .val (.int (own_ab (0 : Int32))), .val (.int (own_v0_113 i0 i1 i2 i3 i4)), .val (.int (own_j0_178_L13 i0 i1 i2 i3 i4)), .val (.int (own_j0_178_L14 i0 i1 i2 i3 i4)), .unset] [])) (fun t kt => XS.ifYes (g := (mkF m 186 #[.val (.int i0), .val (.int i1), .val (.int i2), .val (.int i3), .val (.int i4), .val (.int (i0 &&& (255 : Int32))), .val (.ref b1), .val (.int (own_v0_64 i0 i1 i2 i3 i4)), .val (.int (own_v0_78 i0 i1 i2 i3 i4)), .val (.int (own_v0_85 i0 i1 i2 i3 i4)), .val (.ref b7), .val (.int (own_ab (0 : Int32))), .val (.int (own_v0_113 i0 i1 i2 i3 i4)), .val (.int (own_j0_178_L13 i0 i1 i2 i3 i4)), .val (.int (own_j0_178_L14 i0 i1 i2 i3 i4)), .unset] [(.int (own_j0_178_L14 i0 i1 i2 i3 i4))])) XJ23.here hx rfl (pc0 := 186) (pc' := 199) rfl (hb hby at_186) rfl (Jvm.Free.XT.i0_ge_t hc26) (by decide) (by decide) kt) ?_
        refine ownE.go (T' := TJ23) (f' := (mkF m 203 #[.val (.int i0), .val (.int i1), .val (.int i2), .val (.int i3), .val (.int i4), .val (.int (i0 &&& (255 : Int32))), .val (.ref b1), .val (.int (own_v0_64 i0 i1 i2 i3 i4)), .val (.int (own_v0_78 i0 i1 i2 i3 i4)), .val (.int (own_v0_85 i0 i1 i2 i3 i4)), .val (.ref b7), .val (.int (own_ab (0 : Int32))), .val (.int (own_v0_113 i0 i1 i2 i3 i4)), .val (.int (own_j0_178_L13 i0 i1 i2 i3 i4)), .val (.int (own_j0_178_L14 i0 i1 i2 i3 i4)), .unset] [(.int (own_v0_85 i0 i1 i2 i3 i4)), (.int (own_j0_178_L14 i0 i1 i2 i3 i4))])) (fun t kt => ?_) ?_
        · show Steps p.tables e below (TJ23.setTop (mkF m 199 #[.val (.int i0), .val (.int i1), .val (.int i2), .val (.int i3), .val (.int i4), .val (.int (i0 &&& (255 : Int32))), .val (.ref b1), .val (.int (own_v0_64 i0 i1 i2 i3 i4)), .val (.int (own_v0_78 i0 i1 i2 i3 i4)), .val (.int (own_v0_85 i0 i1 i2 i3 i4)), .val (.ref b7), .val (.int (own_ab (0 : Int32))), .val (.int (own_v0_113 i0 i1 i2 i3 i4)), .val (.int (own_j0_178_L13 i0 i1 i2 i3 i4)), .val (.int (own_j0_178_L14 i0 i1 i2 i3 i4)), .unset] [])) _
          refine XS.iload XJ23.here hx rfl (hb hby at_199) rfl ?_
          show Steps p.tables e below (TJ23.setTop (mkF m 201 #[.val (.int i0), .val (.int i1), .val (.int i2), .val (.int i3), .val (.int i4), .val (.int (i0 &&& (255 : Int32))), .val (.ref b1), .val (.int (own_v0_64 i0 i1 i2 i3 i4)), .val (.int (own_v0_78 i0 i1 i2 i3 i4)), .val (.int (own_v0_85 i0 i1 i2 i3 i4)), .val (.ref b7), .val (.int (own_ab (0 : Int32))), .val (.int (own_v0_113 i0 i1 i2 i3 i4)), .val (.int (own_j0_178_L13 i0 i1 i2 i3 i4)), .val (.int (own_j0_178_L14 i0 i1 i2 i3 i4)), .unset] [(.int (own_j0_178_L14 i0 i1 i2 i3 i4))])) _
          refine XS.iload XJ23.here hx rfl (hb hby at_201) rfl ?_
          exact kt
        by_cases hc28 : (own_j0_178_L14 i0 i1 i2 i3 i4) = (own_v0_85 i0 i1 i2 i3 i4)
        · -- pc 203
          refine ownE.go (T' := TJ23) (f' := (mkF m 206 #[.val (.int i0), .val (.int i1), .val (.int i2), .val (.int i3), .val (.int i4), .val (.int (i0 &&& (255 : Int32))), .val (.ref b1), .val (.int (own_v0_64 i0 i1 i2 i3 i4)), .val (.int (own_v0_78 i0 i1 i2 i3 i4)), .val (.int (own_v0_85 i0 i1 i2 i3 i4)), .val (.ref b7), .val (.int (own_ab (0 : Int32))), .val (.int (own_v0_113 i0 i1 i2 i3 i4)), .val (.int (own_j0_178_L13 i0 i1 i2 i3 i4)), .val (.int (own_j0_178_L14 i0 i1 i2 i3 i4)), .unset] [])) (fun t kt => XS.icmpNo (g := (mkF m 203 #[.val (.int i0), .val (.int i1), .val (.int i2), .val (.int i3), .val (.int i4), .val (.int (i0 &&& (255 : Int32))), .val (.ref b1), .val (.int (own_v0_64 i0 i1 i2 i3 i4)), .val (.int (own_v0_78 i0 i1 i2 i3 i4)), .val (.int (own_v0_85 i0 i1 i2 i3 i4)), .val (.ref b7), .val (.int (own_ab (0 : Int32))), .val (.int (own_v0_113 i0 i1 i2 i3 i4)), .val (.int (own_j0_178_L13 i0 i1 i2 i3 i4)), .val (.int (own_j0_178_L14 i0 i1 i2 i3 i4)), .unset] [(.int (own_v0_85 i0 i1 i2 i3 i4)), (.int (own_j0_178_L14 i0 i1 i2 i3 i4))])) XJ23.here hx rfl (hb hby at_203) rfl (Jvm.Free.XT.ii_ne_f hc28) kt) ?_
          refine ownE.go (T' := TJ23) (f' := (mkF m 211 #[.val (.int i0), .val (.int i1), .val (.int i2), .val (.int i3), .val (.int i4), .val (.int (i0 &&& (255 : Int32))), .val (.ref b1), .val (.int (own_v0_64 i0 i1 i2 i3 i4)), .val (.int (own_v0_78 i0 i1 i2 i3 i4)), .val (.int (own_v0_85 i0 i1 i2 i3 i4)), .val (.ref b7), .val (.int (own_ab (0 : Int32))), .val (.int (own_v0_113 i0 i1 i2 i3 i4)), .val (.int (own_j0_178_L13 i0 i1 i2 i3 i4)), .val (.int (own_j0_178_L14 i0 i1 i2 i3 i4)), .unset] [(.int (1 : Int32))])) (fun t kt => ?_) ?_
          · show Steps p.tables e below (TJ23.setTop (mkF m 206 #[.val (.int i0), .val (.int i1), .val (.int i2), .val (.int i3), .val (.int i4), .val (.int (i0 &&& (255 : Int32))), .val (.ref b1), .val (.int (own_v0_64 i0 i1 i2 i3 i4)), .val (.int (own_v0_78 i0 i1 i2 i3 i4)), .val (.int (own_v0_85 i0 i1 i2 i3 i4)), .val (.ref b7), .val (.int (own_ab (0 : Int32))), .val (.int (own_v0_113 i0 i1 i2 i3 i4)), .val (.int (own_j0_178_L13 i0 i1 i2 i3 i4)), .val (.int (own_j0_178_L14 i0 i1 i2 i3 i4)), .unset] [])) _
            refine XS.iconst XJ23.here hx rfl (hb hby at_206) ?_
            show Steps p.tables e below (TJ23.setTop (mkF m 207 #[.val (.int i0), .val (.int i1), .val (.int i2), .val (.int i3), .val (.int i4), .val (.int (i0 &&& (255 : Int32))), .val (.ref b1), .val (.int (own_v0_64 i0 i1 i2 i3 i4)), .val (.int (own_v0_78 i0 i1 i2 i3 i4)), .val (.int (own_v0_85 i0 i1 i2 i3 i4)), .val (.ref b7), .val (.int (own_ab (0 : Int32))), .val (.int (own_v0_113 i0 i1 i2 i3 i4)), .val (.int (own_j0_178_L13 i0 i1 i2 i3 i4)), .val (.int (own_j0_178_L14 i0 i1 i2 i3 i4)), .unset] [(.int (1 : Int32))])) _
            refine XS.goto XJ23.here hx rfl (pc0 := 207) (pc' := 211) rfl (hb hby at_207) (by decide) (by decide) ?_
            exact kt
          have jj := J29 _ _ XJ23 eJ23 NJ23
          rw [show (own_j0_211_S0 i0 i1 i2 i3 i4) = (1 : Int32) from by rw [own_j0_211_S0, if_neg hc25, if_neg hc26, if_pos hc28]] at jj
          exact jj
        · -- pc 203
          refine ownE.go (T' := TJ23) (f' := (mkF m 210 #[.val (.int i0), .val (.int i1), .val (.int i2), .val (.int i3), .val (.int i4), .val (.int (i0 &&& (255 : Int32))), .val (.ref b1), .val (.int (own_v0_64 i0 i1 i2 i3 i4)), .val (.int (own_v0_78 i0 i1 i2 i3 i4)), .val (.int (own_v0_85 i0 i1 i2 i3 i4)), .val (.ref b7), .val (.int (own_ab (0 : Int32))), .val (.int (own_v0_113 i0 i1 i2 i3 i4)), .val (.int (own_j0_178_L13 i0 i1 i2 i3 i4)), .val (.int (own_j0_178_L14 i0 i1 i2 i3 i4)), .unset] [])) (fun t kt => XS.icmpYes (g := (mkF m 203 #[.val (.int i0), .val (.int i1), .val (.int i2), .val (.int i3), .val (.int i4), .val (.int (i0 &&& (255 : Int32))), .val (.ref b1), .val (.int (own_v0_64 i0 i1 i2 i3 i4)), .val (.int (own_v0_78 i0 i1 i2 i3 i4)), .val (.int (own_v0_85 i0 i1 i2 i3 i4)), .val (.ref b7), .val (.int (own_ab (0 : Int32))), .val (.int (own_v0_113 i0 i1 i2 i3 i4)), .val (.int (own_j0_178_L13 i0 i1 i2 i3 i4)), .val (.int (own_j0_178_L14 i0 i1 i2 i3 i4)), .unset] [(.int (own_v0_85 i0 i1 i2 i3 i4)), (.int (own_j0_178_L14 i0 i1 i2 i3 i4))])) XJ23.here hx rfl (pc0 := 203) (pc' := 210) rfl (hb hby at_203) rfl (Jvm.Free.XT.ii_ne_t hc28) (by decide) (by decide) kt) ?_
          refine ownE.go (T' := TJ23) (f' := (mkF m 211 #[.val (.int i0), .val (.int i1), .val (.int i2), .val (.int i3), .val (.int i4), .val (.int (i0 &&& (255 : Int32))), .val (.ref b1), .val (.int (own_v0_64 i0 i1 i2 i3 i4)), .val (.int (own_v0_78 i0 i1 i2 i3 i4)), .val (.int (own_v0_85 i0 i1 i2 i3 i4)), .val (.ref b7), .val (.int (own_ab (0 : Int32))), .val (.int (own_v0_113 i0 i1 i2 i3 i4)), .val (.int (own_j0_178_L13 i0 i1 i2 i3 i4)), .val (.int (own_j0_178_L14 i0 i1 i2 i3 i4)), .unset] [(.int (0 : Int32))])) (fun t kt => ?_) ?_
          · show Steps p.tables e below (TJ23.setTop (mkF m 210 #[.val (.int i0), .val (.int i1), .val (.int i2), .val (.int i3), .val (.int i4), .val (.int (i0 &&& (255 : Int32))), .val (.ref b1), .val (.int (own_v0_64 i0 i1 i2 i3 i4)), .val (.int (own_v0_78 i0 i1 i2 i3 i4)), .val (.int (own_v0_85 i0 i1 i2 i3 i4)), .val (.ref b7), .val (.int (own_ab (0 : Int32))), .val (.int (own_v0_113 i0 i1 i2 i3 i4)), .val (.int (own_j0_178_L13 i0 i1 i2 i3 i4)), .val (.int (own_j0_178_L14 i0 i1 i2 i3 i4)), .unset] [])) _
            refine XS.iconst XJ23.here hx rfl (hb hby at_210) ?_
            exact kt
          have jj := J29 _ _ XJ23 eJ23 NJ23
          rw [show (own_j0_211_S0 i0 i1 i2 i3 i4) = (0 : Int32) from by rw [own_j0_211_S0, if_neg hc25, if_neg hc26, if_neg hc28]] at jj
          exact jj
  refine ownE.go (T' := T10) (f' := (mkF m 124 #[.val (.int i0), .val (.int i1), .val (.int i2), .val (.int i3), .val (.int i4), .val (.int (i0 &&& (255 : Int32))), .val (.ref b1), .val (.int (own_v0_64 i0 i1 i2 i3 i4)), .val (.int (own_v0_78 i0 i1 i2 i3 i4)), .val (.int (own_v0_85 i0 i1 i2 i3 i4)), .val (.ref b7), .val (.int (own_ab (0 : Int32))), .val (.int (own_v0_113 i0 i1 i2 i3 i4)), .val (.int (1 : Int32)), .val (.int (own_v0_113 i0 i1 i2 i3 i4)), .unset] [(.int (own_v0_113 i0 i1 i2 i3 i4))])) (fun t kt => ?_) ?_
  · show Steps p.tables e below (T10.setTop (mkF m 122 #[.val (.int i0), .val (.int i1), .val (.int i2), .val (.int i3), .val (.int i4), .val (.int (i0 &&& (255 : Int32))), .val (.ref b1), .val (.int (own_v0_64 i0 i1 i2 i3 i4)), .val (.int (own_v0_78 i0 i1 i2 i3 i4)), .val (.int (own_v0_85 i0 i1 i2 i3 i4)), .val (.ref b7), .val (.int (own_ab (0 : Int32))), .val (.int (own_v0_113 i0 i1 i2 i3 i4)), .val (.int (1 : Int32)), .val (.int (own_v0_113 i0 i1 i2 i3 i4)), .unset] [])) _
    refine XS.iload X10.here hx rfl (hb hby at_122) rfl ?_
    exact kt
  by_cases hc12 : (own_v0_113 i0 i1 i2 i3 i4) < (0 : Int32)
  · -- pc 124
    refine ownE.go (T' := T10) (f' := (mkF m 127 #[.val (.int i0), .val (.int i1), .val (.int i2), .val (.int i3), .val (.int i4), .val (.int (i0 &&& (255 : Int32))), .val (.ref b1), .val (.int (own_v0_64 i0 i1 i2 i3 i4)), .val (.int (own_v0_78 i0 i1 i2 i3 i4)), .val (.int (own_v0_85 i0 i1 i2 i3 i4)), .val (.ref b7), .val (.int (own_ab (0 : Int32))), .val (.int (own_v0_113 i0 i1 i2 i3 i4)), .val (.int (1 : Int32)), .val (.int (own_v0_113 i0 i1 i2 i3 i4)), .unset] [])) (fun t kt => XS.ifNo (g := (mkF m 124 #[.val (.int i0), .val (.int i1), .val (.int i2), .val (.int i3), .val (.int i4), .val (.int (i0 &&& (255 : Int32))), .val (.ref b1), .val (.int (own_v0_64 i0 i1 i2 i3 i4)), .val (.int (own_v0_78 i0 i1 i2 i3 i4)), .val (.int (own_v0_85 i0 i1 i2 i3 i4)), .val (.ref b7), .val (.int (own_ab (0 : Int32))), .val (.int (own_v0_113 i0 i1 i2 i3 i4)), .val (.int (1 : Int32)), .val (.int (own_v0_113 i0 i1 i2 i3 i4)), .unset] [(.int (own_v0_113 i0 i1 i2 i3 i4))])) X10.here hx rfl (hb hby at_124) rfl (Jvm.Free.XT.i0_ge_f hc12) kt) ?_
    refine ownE.go (T' := T10) (f' := (mkF m 129 #[.val (.int i0), .val (.int i1), .val (.int i2), .val (.int i3), .val (.int i4), .val (.int (i0 &&& (255 : Int32))), .val (.ref b1), .val (.int (own_v0_64 i0 i1 i2 i3 i4)), .val (.int (own_v0_78 i0 i1 i2 i3 i4)), .val (.int (own_v0_85 i0 i1 i2 i3 i4)), .val (.ref b7), .val (.int (own_ab (0 : Int32))), .val (.int (own_v0_113 i0 i1 i2 i3 i4)), .val (.int (1 : Int32)), .val (.int (own_v0_113 i0 i1 i2 i3 i4)), .unset] [(.ref b7)])) (fun t kt => ?_) ?_
    · show Steps p.tables e below (T10.setTop (mkF m 127 #[.val (.int i0), .val (.int i1), .val (.int i2), .val (.int i3), .val (.int i4), .val (.int (i0 &&& (255 : Int32))), .val (.ref b1), .val (.int (own_v0_64 i0 i1 i2 i3 i4)), .val (.int (own_v0_78 i0 i1 i2 i3 i4)), .val (.int (own_v0_85 i0 i1 i2 i3 i4)), .val (.ref b7), .val (.int (own_ab (0 : Int32))), .val (.int (own_v0_113 i0 i1 i2 i3 i4)), .val (.int (1 : Int32)), .val (.int (own_v0_113 i0 i1 i2 i3 i4)), .unset] [])) _
      refine XS.aload X10.here hx rfl (hb hby at_127) rfl rfl ?_
      exact kt
    obtain ⟨cq13, kq13, q13a, q13b, q13c⟩ := isOf hZ rfl f10_0
    obtain ⟨_, _, ⟨T13, L13, k13, n13⟩, -, X13, ⟨Lc13, hQ13, l13, y13, z13⟩, st13⟩ := X10.virtualBack hx (y := (⟨"com/example/marrow/marrow/Utf8Checker", "atBoundary", "()Z"⟩ : MethodName)) (z := (⟨"com/example/marrow/marrow/Utf8Checker", "atBoundary", "()Z"⟩ : MethodName)) hown (mvT hZ (hw _ (List.mem_of_getElem? (i := 18) rfl))) (mvT hZ (hw _ (List.mem_of_getElem? (i := 19) rfl))) (notFace_of_selects (args := #[]) (mvT hZ (hw _ (List.mem_of_getElem? (i := 21) rfl)))) (mvT hZ (hw _ (List.mem_of_getElem? (i := 21) rfl))) (mvT hZ (hw _ (List.mem_of_getElem? (i := 20) rfl))) (by decide) (backOf (W := 0) (own_rm4 l Z a0 hw [] b7 ((own_ck (0 : Int32) (own_v0_78 i0 i1 i2 i3 i4) (0 : Int32) (128 : Int32) (191 : Int32) (((i0 &&& (255 : Int32)).toInt8.toInt32).toInt8.toInt32) ((((128 : Int32) ||| (i1 &&& (63 : Int32))).toInt8.toInt32).toInt8.toInt32) ((((128 : Int32) ||| (i2 &&& (63 : Int32))).toInt8.toInt32).toInt8.toInt32) ((((128 : Int32) ||| (i3 &&& (63 : Int32))).toInt8.toInt32).toInt8.toInt32) 5 (0 : Int32) (0 : Int32) (128 : Int32) (191 : Int32)).2.1) T10.heap n0 (Nat.le_trans Z0 K10.1) f10_1) hZ (hw _ (List.mem_of_getElem? (i := 22) rfl)) (hw _ (List.mem_of_getElem? (i := 7) rfl)) (by decide) (by decide)) q13a q13c (g := (mkF m 129 #[.val (.int i0), .val (.int i1), .val (.int i2), .val (.int i3), .val (.int i4), .val (.int (i0 &&& (255 : Int32))), .val (.ref b1), .val (.int (own_v0_64 i0 i1 i2 i3 i4)), .val (.int (own_v0_78 i0 i1 i2 i3 i4)), .val (.int (own_v0_85 i0 i1 i2 i3 i4)), .val (.ref b7), .val (.int (own_ab (0 : Int32))), .val (.int (own_v0_113 i0 i1 i2 i3 i4)), .val (.int (1 : Int32)), .val (.int (own_v0_113 i0 i1 i2 i3 i4)), .unset] [(.ref b7)])) rfl (by rw [hml]; rfl) (Steps.refl _) (argsL := []) (rest := []) (lenOf own_pd5 rfl) rfl (by show 2 * 0 + _ ≤ _; exact Nat.le_of_eq rfl) (hb hby at_129) (fun _ _ => ⟨rfl, rfl, (by decide : 2 + 0 ≤ _), (by decide : 7 + 0 ≤ _)⟩)
    dsimp only [Pt.U, Pt.locs, Pt.cells, Pt.slots] at X13 l13 y13 z13 st13 hQ13
    subst l13 y13 z13
    obtain ⟨rfl, N13q, e13⟩ := hQ13
    have N13 := Fr.app N10 N13q
    refine ownE.goS (T' := T13) (f' := (mkF m 132 #[.val (.int i0), .val (.int i1), .val (.int i2), .val (.int i3), .val (.int i4), .val (.int (i0 &&& (255 : Int32))), .val (.ref b1), .val (.int (own_v0_64 i0 i1 i2 i3 i4)), .val (.int (own_v0_78 i0 i1 i2 i3 i4)), .val (.int (own_v0_85 i0 i1 i2 i3 i4)), .val (.ref b7), .val (.int (own_ab (0 : Int32))), .val (.int (own_v0_113 i0 i1 i2 i3 i4)), .val (.int (1 : Int32)), .val (.int (own_v0_113 i0 i1 i2 i3 i4)), .unset] [(.int (own_ab ((own_ck (0 : Int32) (own_v0_78 i0 i1 i2 i3 i4) (0 : Int32) (128 : Int32) (191 : Int32) (((i0 &&& (255 : Int32)).toInt8.toInt32).toInt8.toInt32) ((((128 : Int32) ||| (i1 &&& (63 : Int32))).toInt8.toInt32).toInt8.toInt32) ((((128 : Int32) ||| (i2 &&& (63 : Int32))).toInt8.toInt32).toInt8.toInt32) ((((128 : Int32) ||| (i3 &&& (63 : Int32))).toInt8.toInt32).toInt8.toInt32) 5 (0 : Int32) (0 : Int32) (128 : Int32) (191 : Int32)).2.1)))])) st13 ?_
    have J18 : ∀ (TJ18 : State) (locsJ18 : List Loc), Stand p l e room_1 s m #[(.int i0), (.int i1), (.int i2), (.int i3), (.int i4)] below meth c TJ18 locsJ18 2 7 → TJ18.heap = T10.heap → Fr n0 locsJ18 → ownE p e below s (own_Q0 Z i0 i1 i2 i3 i4 h0 n0) 2 7 TJ18 (mkF m 155 #[.val (.int i0), .val (.int i1), .val (.int i2), .val (.int i3), .val (.int i4), .val (.int (i0 &&& (255 : Int32))), .val (.ref b1), .val (.int (own_v0_64 i0 i1 i2 i3 i4)), .val (.int (own_v0_78 i0 i1 i2 i3 i4)), .val (.int (own_v0_85 i0 i1 i2 i3 i4)), .val (.ref b7), .val (.int (own_ab (0 : Int32))), .val (.int (own_v0_113 i0 i1 i2 i3 i4)), .val (.int (1 : Int32)), .val (.int (own_v0_113 i0 i1 i2 i3 i4)), .unset] [(.int (own_j0_155_S0 i0 i1 i2 i3 i4)), (.int (own_ab ((own_ck (0 : Int32) (own_v0_78 i0 i1 i2 i3 i4) (0 : Int32) (128 : Int32) (191 : Int32) (((i0 &&& (255 : Int32)).toInt8.toInt32).toInt8.toInt32) ((((128 : Int32) ||| (i1 &&& (63 : Int32))).toInt8.toInt32).toInt8.toInt32) ((((128 : Int32) ||| (i2 &&& (63 : Int32))).toInt8.toInt32).toInt8.toInt32) ((((128 : Int32) ||| (i3 &&& (63 : Int32))).toInt8.toInt32).toInt8.toInt32) 5 (0 : Int32) (0 : Int32) (128 : Int32) (191 : Int32)).2.1)))]) := by
      intro TJ18 locsJ18 XJ18 eJ18 NJ18
      have J21 : ∀ (TJ21 : State) (locsJ21 : List Loc), Stand p l e room_1 s m #[(.int i0), (.int i1), (.int i2), (.int i3), (.int i4)] below meth c TJ21 locsJ21 2 7 → TJ21.heap = T10.heap → Fr n0 locsJ21 → ownE p e below s (own_Q0 Z i0 i1 i2 i3 i4 h0 n0) 2 7 TJ21 (mkF m 163 #[.val (.int i0), .val (.int i1), .val (.int i2), .val (.int i3), .val (.int i4), .val (.int (i0 &&& (255 : Int32))), .val (.ref b1), .val (.int (own_v0_64 i0 i1 i2 i3 i4)), .val (.int (own_v0_78 i0 i1 i2 i3 i4)), .val (.int (own_v0_85 i0 i1 i2 i3 i4)), .val (.ref b7), .val (.int (own_ab (0 : Int32))), .val (.int (own_v0_113 i0 i1 i2 i3 i4)), .val (.int (1 : Int32)), .val (.int (own_v0_113 i0 i1 i2 i3 i4)), .unset] [(.int (own_j0_163_S0 i0 i1 i2 i3 i4))]) := by
        intro TJ21 locsJ21 XJ21 eJ21 NJ21
        refine ownE.go (T' := TJ21) (f' := (mkF m 173 #[.val (.int i0), .val (.int i1), .val (.int i2), .val (.int i3), .val (.int i4), .val (.int (i0 &&& (255 : Int32))), .val (.ref b1), .val (.int (own_v0_64 i0 i1 i2 i3 i4)), .val (.int (own_v0_78 i0 i1 i2 i3 i4)), .val (.int (own_v0_85 i0 i1 i2 i3 i4)), .val (.ref b7), .val (.int (own_ab (0 : Int32))), .val (.int (own_v0_113 i0 i1 i2 i3 i4)), .val (.int (own_j0_163_S0 i0 i1 i2 i3 i4)), .val (.int (own_v0_113 i0 i1 i2 i3 i4)), .unset] [(.int (own_v0_64 i0 i1 i2 i3 i4)), (.int (own_v0_78 i0 i1 i2 i3 i4)), (.ref b1), (.ref b7)])) (fun t kt => ?_) ?_
        · show Steps p.tables e below (TJ21.setTop (mkF m 163 #[.val (.int i0), .val (.int i1), .val (.int i2), .val (.int i3), .val (.int i4), .val (.int (i0 &&& (255 : Int32))), .val (.ref b1), .val (.int (own_v0_64 i0 i1 i2 i3 i4)), .val (.int (own_v0_78 i0 i1 i2 i3 i4)), .val (.int (own_v0_85 i0 i1 i2 i3 i4)), .val (.ref b7), .val (.int (own_ab (0 : Int32))), .val (.int (own_v0_113 i0 i1 i2 i3 i4)), .val (.int (1 : Int32)), .val (.int (own_v0_113 i0 i1 i2 i3 i4)), .unset] [(.int (own_j0_163_S0 i0 i1 i2 i3 i4))])) _
          refine XS.istore XJ21.here hx rfl (hb hby at_163) rfl (l' := #[.val (.int i0), .val (.int i1), .val (.int i2), .val (.int i3), .val (.int i4), .val (.int (i0 &&& (255 : Int32))), .val (.ref b1), .val (.int (own_v0_64 i0 i1 i2 i3 i4)), .val (.int (own_v0_78 i0 i1 i2 i3 i4)), .val (.int (own_v0_85 i0 i1 i2 i3 i4)), .val (.ref b7), .val (.int (own_ab (0 : Int32))), .val (.int (own_v0_113 i0 i1 i2 i3 i4)), .val (.int (own_j0_163_S0 i0 i1 i2 i3 i4)), .val (.int (own_v0_113 i0 i1 i2 i3 i4)), .unset]) rfl ?_
          show Steps p.tables e below (TJ21.setTop (mkF m 165 #[.val (.int i0), .val (.int i1), .val (.int i2), .val (.int i3), .val (.int i4), .val (.int (i0 &&& (255 : Int32))), .val (.ref b1), .val (.int (own_v0_64 i0 i1 i2 i3 i4)), .val (.int (own_v0_78 i0 i1 i2 i3 i4)), .val (.int (own_v0_85 i0 i1 i2 i3 i4)), .val (.ref b7), .val (.int (own_ab (0 : Int32))), .val (.int (own_v0_113 i0 i1 i2 i3 i4)), .val (.int (own_j0_163_S0 i0 i1 i2 i3 i4)), .val (.int (own_v0_113 i0 i1 i2 i3 i4)), .unset] [])) _
          refine XS.aload XJ21.here hx rfl (hb hby at_165) rfl rfl ?_
          show Steps p.tables e below (TJ21.setTop (mkF m 167 #[.val (.int i0), .val (.int i1), .val (.int i2), .val (.int i3), .val (.int i4), .val (.int (i0 &&& (255 : Int32))), .val (.ref b1), .val (.int (own_v0_64 i0 i1 i2 i3 i4)), .val (.int (own_v0_78 i0 i1 i2 i3 i4)), .val (.int (own_v0_85 i0 i1 i2 i3 i4)), .val (.ref b7), .val (.int (own_ab (0 : Int32))), .val (.int (own_v0_113 i0 i1 i2 i3 i4)), .val (.int (own_j0_163_S0 i0 i1 i2 i3 i4)), .val (.int (own_v0_113 i0 i1 i2 i3 i4)), .unset] [(.ref b7)])) _
          refine XS.aload XJ21.here hx rfl (hb hby at_167) rfl rfl ?_
          show Steps p.tables e below (TJ21.setTop (mkF m 169 #[.val (.int i0), .val (.int i1), .val (.int i2), .val (.int i3), .val (.int i4), .val (.int (i0 &&& (255 : Int32))), .val (.ref b1), .val (.int (own_v0_64 i0 i1 i2 i3 i4)), .val (.int (own_v0_78 i0 i1 i2 i3 i4)), .val (.int (own_v0_85 i0 i1 i2 i3 i4)), .val (.ref b7), .val (.int (own_ab (0 : Int32))), .val (.int (own_v0_113 i0 i1 i2 i3 i4)), .val (.int (own_j0_163_S0 i0 i1 i2 i3 i4)), .val (.int (own_v0_113 i0 i1 i2 i3 i4)), .unset] [(.ref b1), (.ref b7)])) _
          refine XS.iload XJ21.here hx rfl (hb hby at_169) rfl ?_
          show Steps p.tables e below (TJ21.setTop (mkF m 171 #[.val (.int i0), .val (.int i1), .val (.int i2), .val (.int i3), .val (.int i4), .val (.int (i0 &&& (255 : Int32))), .val (.ref b1), .val (.int (own_v0_64 i0 i1 i2 i3 i4)), .val (.int (own_v0_78 i0 i1 i2 i3 i4)), .val (.int (own_v0_85 i0 i1 i2 i3 i4)), .val (.ref b7), .val (.int (own_ab (0 : Int32))), .val (.int (own_v0_113 i0 i1 i2 i3 i4)), .val (.int (own_j0_163_S0 i0 i1 i2 i3 i4)), .val (.int (own_v0_113 i0 i1 i2 i3 i4)), .unset] [(.int (own_v0_78 i0 i1 i2 i3 i4)), (.ref b1), (.ref b7)])) _
          refine XS.iload XJ21.here hx rfl (hb hby at_171) rfl ?_
          exact kt
        obtain ⟨cq22, kq22, q22a, q22b, q22c⟩ := isOf hZ eJ21 f10_0
        obtain ⟨_, _, ⟨T22, L22, k22, n22⟩, -, X22, ⟨Lc22, hQ22, l22, y22, z22⟩, st22⟩ := XJ21.virtualBack hx (y := (⟨"com/example/marrow/marrow/Utf8Checker", "check", "([BII)I"⟩ : MethodName)) (z := (⟨"com/example/marrow/marrow/Utf8Checker", "check", "([BII)I"⟩ : MethodName)) hown (mvT hZ (hw _ (List.mem_of_getElem? (i := 25) rfl))) (mvT hZ (hw _ (List.mem_of_getElem? (i := 26) rfl))) (notFace_of_selects (args := #[]) (mvT hZ (hw _ (List.mem_of_getElem? (i := 28) rfl)))) (mvT hZ (hw _ (List.mem_of_getElem? (i := 28) rfl))) (mvT hZ (hw _ (List.mem_of_getElem? (i := 27) rfl))) (by decide) (backOf (W := 0) (own_rm5 l Z a0 hw [] b7 b1 (own_v0_78 i0 i1 i2 i3 i4) (own_v0_64 i0 i1 i2 i3 i4) ((own_ck (0 : Int32) (own_v0_78 i0 i1 i2 i3 i4) (0 : Int32) (128 : Int32) (191 : Int32) (((i0 &&& (255 : Int32)).toInt8.toInt32).toInt8.toInt32) ((((128 : Int32) ||| (i1 &&& (63 : Int32))).toInt8.toInt32).toInt8.toInt32) ((((128 : Int32) ||| (i2 &&& (63 : Int32))).toInt8.toInt32).toInt8.toInt32) ((((128 : Int32) ||| (i3 &&& (63 : Int32))).toInt8.toInt32).toInt8.toInt32) 5 (0 : Int32) (0 : Int32) (128 : Int32) (191 : Int32)).2.1) ((own_ck (0 : Int32) (own_v0_78 i0 i1 i2 i3 i4) (0 : Int32) (128 : Int32) (191 : Int32) (((i0 &&& (255 : Int32)).toInt8.toInt32).toInt8.toInt32) ((((128 : Int32) ||| (i1 &&& (63 : Int32))).toInt8.toInt32).toInt8.toInt32) ((((128 : Int32) ||| (i2 &&& (63 : Int32))).toInt8.toInt32).toInt8.toInt32) ((((128 : Int32) ||| (i3 &&& (63 : Int32))).toInt8.toInt32).toInt8.toInt32) 5 (0 : Int32) (0 : Int32) (128 : Int32) (191 : Int32)).2.2.1) ((own_ck (0 : Int32) (own_v0_78 i0 i1 i2 i3 i4) (0 : Int32) (128 : Int32) (191 : Int32) (((i0 &&& (255 : Int32)).toInt8.toInt32).toInt8.toInt32) ((((128 : Int32) ||| (i1 &&& (63 : Int32))).toInt8.toInt32).toInt8.toInt32) ((((128 : Int32) ||| (i2 &&& (63 : Int32))).toInt8.toInt32).toInt8.toInt32) ((((128 : Int32) ||| (i3 &&& (63 : Int32))).toInt8.toInt32).toInt8.toInt32) 5 (0 : Int32) (0 : Int32) (128 : Int32) (191 : Int32)).2.2.2) k1 (((i0 &&& (255 : Int32)).toInt8.toInt32).toInt8.toInt32) ((((128 : Int32) ||| (i1 &&& (63 : Int32))).toInt8.toInt32).toInt8.toInt32) ((((128 : Int32) ||| (i2 &&& (63 : Int32))).toInt8.toInt32).toInt8.toInt32) ((((128 : Int32) ||| (i3 &&& (63 : Int32))).toInt8.toInt32).toInt8.toInt32) T10.heap n0 (Nat.le_trans Z0 K10.1) f10_0 f10_1 f10_2 f10_3 ge_b7 cArv_b1_10 (Ne.symm ne_b1_b7) (own_sb i4).1 (own_mb i4).1) hZ (hw _ (List.mem_of_getElem? (i := 29) rfl)) (hw _ (List.mem_of_getElem? (i := 7) rfl)) (by decide) (by decide)) q22a q22c (g := (mkF m 173 #[.val (.int i0), .val (.int i1), .val (.int i2), .val (.int i3), .val (.int i4), .val (.int (i0 &&& (255 : Int32))), .val (.ref b1), .val (.int (own_v0_64 i0 i1 i2 i3 i4)), .val (.int (own_v0_78 i0 i1 i2 i3 i4)), .val (.int (own_v0_85 i0 i1 i2 i3 i4)), .val (.ref b7), .val (.int (own_ab (0 : Int32))), .val (.int (own_v0_113 i0 i1 i2 i3 i4)), .val (.int (own_j0_163_S0 i0 i1 i2 i3 i4)), .val (.int (own_v0_113 i0 i1 i2 i3 i4)), .unset] [(.int (own_v0_64 i0 i1 i2 i3 i4)), (.int (own_v0_78 i0 i1 i2 i3 i4)), (.ref b1), (.ref b7)])) rfl (by rw [hml]; rfl) (Steps.refl _) (argsL := [(.ref b1), (.int (own_v0_78 i0 i1 i2 i3 i4)), (.int (own_v0_64 i0 i1 i2 i3 i4))]) (rest := []) (lenOf own_pd6 rfl) rfl (by show 2 * 0 + _ ≤ _; exact Nat.le_of_eq rfl) (hb hby at_173) (fun _ _ => ⟨rfl, eJ21, (by decide : 2 + 0 ≤ _), (by decide : 7 + 0 ≤ _)⟩)
        dsimp only [Pt.U, Pt.locs, Pt.cells, Pt.slots] at X22 l22 y22 z22 st22 hQ22
        subst l22 y22 z22
        obtain ⟨rfl, N22q, K22q, f22_0, f22_1, f22_2, f22_3⟩ := hQ22
        have cArv_b1_22 : Arv Z T22.heap b1 k1 .byte (4 : Int32) [(.int (((i0 &&& (255 : Int32)).toInt8.toInt32).toInt8.toInt32)), (.int ((((128 : Int32) ||| (i1 &&& (63 : Int32))).toInt8.toInt32).toInt8.toInt32)), (.int ((((128 : Int32) ||| (i2 &&& (63 : Int32))).toInt8.toInt32).toInt8.toInt32)), (.int ((((128 : Int32) ||| (i3 &&& (63 : Int32))).toInt8.toInt32).toInt8.toInt32))] (.int (0 : Int32)) := cArv_b1_10.keep K22q (ninS ne_b1_b7 nin0)
        have cExa_b7_22 : Exa Z T22.heap b7 "com/example/marrow/marrow/Utf8Checker" := f10_0.keep K22q
        have K22 : Keep h0 T22.heap [] := K10.trans K22q (allS (Or.inr sz_b7) all0)
        have N22 := Fr.app NJ21 N22q
        refine ownE.goS (T' := T22) (f' := (mkF m 176 #[.val (.int i0), .val (.int i1), .val (.int i2), .val (.int i3), .val (.int i4), .val (.int (i0 &&& (255 : Int32))), .val (.ref b1), .val (.int (own_v0_64 i0 i1 i2 i3 i4)), .val (.int (own_v0_78 i0 i1 i2 i3 i4)), .val (.int (own_v0_85 i0 i1 i2 i3 i4)), .val (.ref b7), .val (.int (own_ab (0 : Int32))), .val (.int (own_v0_113 i0 i1 i2 i3 i4)), .val (.int (own_j0_163_S0 i0 i1 i2 i3 i4)), .val (.int (own_v0_113 i0 i1 i2 i3 i4)), .unset] [(.int ((own_ck (own_v0_78 i0 i1 i2 i3 i4) (own_v0_64 i0 i1 i2 i3 i4) ((own_ck (0 : Int32) (own_v0_78 i0 i1 i2 i3 i4) (0 : Int32) (128 : Int32) (191 : Int32) (((i0 &&& (255 : Int32)).toInt8.toInt32).toInt8.toInt32) ((((128 : Int32) ||| (i1 &&& (63 : Int32))).toInt8.toInt32).toInt8.toInt32) ((((128 : Int32) ||| (i2 &&& (63 : Int32))).toInt8.toInt32).toInt8.toInt32) ((((128 : Int32) ||| (i3 &&& (63 : Int32))).toInt8.toInt32).toInt8.toInt32) 5 (0 : Int32) (0 : Int32) (128 : Int32) (191 : Int32)).2.1) ((own_ck (0 : Int32) (own_v0_78 i0 i1 i2 i3 i4) (0 : Int32) (128 : Int32) (191 : Int32) (((i0 &&& (255 : Int32)).toInt8.toInt32).toInt8.toInt32) ((((128 : Int32) ||| (i1 &&& (63 : Int32))).toInt8.toInt32).toInt8.toInt32) ((((128 : Int32) ||| (i2 &&& (63 : Int32))).toInt8.toInt32).toInt8.toInt32) ((((128 : Int32) ||| (i3 &&& (63 : Int32))).toInt8.toInt32).toInt8.toInt32) 5 (0 : Int32) (0 : Int32) (128 : Int32) (191 : Int32)).2.2.1) ((own_ck (0 : Int32) (own_v0_78 i0 i1 i2 i3 i4) (0 : Int32) (128 : Int32) (191 : Int32) (((i0 &&& (255 : Int32)).toInt8.toInt32).toInt8.toInt32) ((((128 : Int32) ||| (i1 &&& (63 : Int32))).toInt8.toInt32).toInt8.toInt32) ((((128 : Int32) ||| (i2 &&& (63 : Int32))).toInt8.toInt32).toInt8.toInt32) ((((128 : Int32) ||| (i3 &&& (63 : Int32))).toInt8.toInt32).toInt8.toInt32) 5 (0 : Int32) (0 : Int32) (128 : Int32) (191 : Int32)).2.2.2) (((i0 &&& (255 : Int32)).toInt8.toInt32).toInt8.toInt32) ((((128 : Int32) ||| (i1 &&& (63 : Int32))).toInt8.toInt32).toInt8.toInt32) ((((128 : Int32) ||| (i2 &&& (63 : Int32))).toInt8.toInt32).toInt8.toInt32) ((((128 : Int32) ||| (i3 &&& (63 : Int32))).toInt8.toInt32).toInt8.toInt32) 5 (own_v0_78 i0 i1 i2 i3 i4) ((own_ck (0 : Int32) (own_v0_78 i0 i1 i2 i3 i4) (0 : Int32) (128 : Int32) (191 : Int32) (((i0 &&& (255 : Int32)).toInt8.toInt32).toInt8.toInt32) ((((128 : Int32) ||| (i1 &&& (63 : Int32))).toInt8.toInt32).toInt8.toInt32) ((((128 : Int32) ||| (i2 &&& (63 : Int32))).toInt8.toInt32).toInt8.toInt32) ((((128 : Int32) ||| (i3 &&& (63 : Int32))).toInt8.toInt32).toInt8.toInt32) 5 (0 : Int32) (0 : Int32) (128 : Int32) (191 : Int32)).2.1) ((own_ck (0 : Int32) (own_v0_78 i0 i1 i2 i3 i4) (0 : Int32) (128 : Int32) (191 : Int32) (((i0 &&& (255 : Int32)).toInt8.toInt32).toInt8.toInt32) ((((128 : Int32) ||| (i1 &&& (63 : Int32))).toInt8.toInt32).toInt8.toInt32) ((((128 : Int32) ||| (i2 &&& (63 : Int32))).toInt8.toInt32).toInt8.toInt32) ((((128 : Int32) ||| (i3 &&& (63 : Int32))).toInt8.toInt32).toInt8.toInt32) 5 (0 : Int32) (0 : Int32) (128 : Int32) (191 : Int32)).2.2.1) ((own_ck (0 : Int32) (own_v0_78 i0 i1 i2 i3 i4) (0 : Int32) (128 : Int32) (191 : Int32) (((i0 &&& (255 : Int32)).toInt8.toInt32).toInt8.toInt32) ((((128 : Int32) ||| (i1 &&& (63 : Int32))).toInt8.toInt32).toInt8.toInt32) ((((128 : Int32) ||| (i2 &&& (63 : Int32))).toInt8.toInt32).toInt8.toInt32) ((((128 : Int32) ||| (i3 &&& (63 : Int32))).toInt8.toInt32).toInt8.toInt32) 5 (0 : Int32) (0 : Int32) (128 : Int32) (191 : Int32)).2.2.2)).1))])) st22 ?_
        refine ownE.go (T' := T22) (f' := (mkF m 178 #[.val (.int i0), .val (.int i1), .val (.int i2), .val (.int i3), .val (.int i4), .val (.int (i0 &&& (255 : Int32))), .val (.ref b1), .val (.int (own_v0_64 i0 i1 i2 i3 i4)), .val (.int (own_v0_78 i0 i1 i2 i3 i4)), .val (.int (own_v0_85 i0 i1 i2 i3 i4)), .val (.ref b7), .val (.int (own_ab (0 : Int32))), .val (.int (own_v0_113 i0 i1 i2 i3 i4)), .val (.int (own_j0_163_S0 i0 i1 i2 i3 i4)), .val (.int (own_v0_176 i0 i1 i2 i3 i4)), .unset] [])) (fun t kt => ?_) ?_
        · show Steps p.tables e below (T22.setTop (mkF m 176 #[.val (.int i0), .val (.int i1), .val (.int i2), .val (.int i3), .val (.int i4), .val (.int (i0 &&& (255 : Int32))), .val (.ref b1), .val (.int (own_v0_64 i0 i1 i2 i3 i4)), .val (.int (own_v0_78 i0 i1 i2 i3 i4)), .val (.int (own_v0_85 i0 i1 i2 i3 i4)), .val (.ref b7), .val (.int (own_ab (0 : Int32))), .val (.int (own_v0_113 i0 i1 i2 i3 i4)), .val (.int (own_j0_163_S0 i0 i1 i2 i3 i4)), .val (.int (own_v0_113 i0 i1 i2 i3 i4)), .unset] [(.int ((own_ck (own_v0_78 i0 i1 i2 i3 i4) (own_v0_64 i0 i1 i2 i3 i4) ((own_ck (0 : Int32) (own_v0_78 i0 i1 i2 i3 i4) (0 : Int32) (128 : Int32) (191 : Int32) (((i0 &&& (255 : Int32)).toInt8.toInt32).toInt8.toInt32) ((((128 : Int32) ||| (i1 &&& (63 : Int32))).toInt8.toInt32).toInt8.toInt32) ((((128 : Int32) ||| (i2 &&& (63 : Int32))).toInt8.toInt32).toInt8.toInt32) ((((128 : Int32) ||| (i3 &&& (63 : Int32))).toInt8.toInt32).toInt8.toInt32) 5 (0 : Int32) (0 : Int32) (128 : Int32) (191 : Int32)).2.1) ((own_ck (0 : Int32) (own_v0_78 i0 i1 i2 i3 i4) (0 : Int32) (128 : Int32) (191 : Int32) (((i0 &&& (255 : Int32)).toInt8.toInt32).toInt8.toInt32) ((((128 : Int32) ||| (i1 &&& (63 : Int32))).toInt8.toInt32).toInt8.toInt32) ((((128 : Int32) ||| (i2 &&& (63 : Int32))).toInt8.toInt32).toInt8.toInt32) ((((128 : Int32) ||| (i3 &&& (63 : Int32))).toInt8.toInt32).toInt8.toInt32) 5 (0 : Int32) (0 : Int32) (128 : Int32) (191 : Int32)).2.2.1) ((own_ck (0 : Int32) (own_v0_78 i0 i1 i2 i3 i4) (0 : Int32) (128 : Int32) (191 : Int32) (((i0 &&& (255 : Int32)).toInt8.toInt32).toInt8.toInt32) ((((128 : Int32) ||| (i1 &&& (63 : Int32))).toInt8.toInt32).toInt8.toInt32) ((((128 : Int32) ||| (i2 &&& (63 : Int32))).toInt8.toInt32).toInt8.toInt32) ((((128 : Int32) ||| (i3 &&& (63 : Int32))).toInt8.toInt32).toInt8.toInt32) 5 (0 : Int32) (0 : Int32) (128 : Int32) (191 : Int32)).2.2.2) (((i0 &&& (255 : Int32)).toInt8.toInt32).toInt8.toInt32) ((((128 : Int32) ||| (i1 &&& (63 : Int32))).toInt8.toInt32).toInt8.toInt32) ((((128 : Int32) ||| (i2 &&& (63 : Int32))).toInt8.toInt32).toInt8.toInt32) ((((128 : Int32) ||| (i3 &&& (63 : Int32))).toInt8.toInt32).toInt8.toInt32) 5 (own_v0_78 i0 i1 i2 i3 i4) ((own_ck (0 : Int32) (own_v0_78 i0 i1 i2 i3 i4) (0 : Int32) (128 : Int32) (191 : Int32) (((i0 &&& (255 : Int32)).toInt8.toInt32).toInt8.toInt32) ((((128 : Int32) ||| (i1 &&& (63 : Int32))).toInt8.toInt32).toInt8.toInt32) ((((128 : Int32) ||| (i2 &&& (63 : Int32))).toInt8.toInt32).toInt8.toInt32) ((((128 : Int32) ||| (i3 &&& (63 : Int32))).toInt8.toInt32).toInt8.toInt32) 5 (0 : Int32) (0 : Int32) (128 : Int32) (191 : Int32)).2.1) ((own_ck (0 : Int32) (own_v0_78 i0 i1 i2 i3 i4) (0 : Int32) (128 : Int32) (191 : Int32) (((i0 &&& (255 : Int32)).toInt8.toInt32).toInt8.toInt32) ((((128 : Int32) ||| (i1 &&& (63 : Int32))).toInt8.toInt32).toInt8.toInt32) ((((128 : Int32) ||| (i2 &&& (63 : Int32))).toInt8.toInt32).toInt8.toInt32) ((((128 : Int32) ||| (i3 &&& (63 : Int32))).toInt8.toInt32).toInt8.toInt32) 5 (0 : Int32) (0 : Int32) (128 : Int32) (191 : Int32)).2.2.1) ((own_ck (0 : Int32) (own_v0_78 i0 i1 i2 i3 i4) (0 : Int32) (128 : Int32) (191 : Int32) (((i0 &&& (255 : Int32)).toInt8.toInt32).toInt8.toInt32) ((((128 : Int32) ||| (i1 &&& (63 : Int32))).toInt8.toInt32).toInt8.toInt32) ((((128 : Int32) ||| (i2 &&& (63 : Int32))).toInt8.toInt32).toInt8.toInt32) ((((128 : Int32) ||| (i3 &&& (63 : Int32))).toInt8.toInt32).toInt8.toInt32) 5 (0 : Int32) (0 : Int32) (128 : Int32) (191 : Int32)).2.2.2)).1))])) _
          refine XS.istore X22.here hx rfl (hb hby at_176) rfl (l' := #[.val (.int i0), .val (.int i1), .val (.int i2), .val (.int i3), .val (.int i4), .val (.int (i0 &&& (255 : Int32))), .val (.ref b1), .val (.int (own_v0_64 i0 i1 i2 i3 i4)), .val (.int (own_v0_78 i0 i1 i2 i3 i4)), .val (.int (own_v0_85 i0 i1 i2 i3 i4)), .val (.ref b7), .val (.int (own_ab (0 : Int32))), .val (.int (own_v0_113 i0 i1 i2 i3 i4)), .val (.int (own_j0_163_S0 i0 i1 i2 i3 i4)), .val (.int (own_v0_176 i0 i1 i2 i3 i4)), .unset]) rfl ?_
          exact kt
        have jj := J23 _ _ _ X22 rfl N22 K22 cArv_b1_22 f22_0 (by rw [own_j0_178_pending, if_pos hc12]; exact f22_1) (by rw [own_j0_178_lowest, if_pos hc12]; exact f22_2) (by rw [own_j0_178_highest, if_pos hc12]; exact f22_3)
        rw [show (own_j0_178_L13 i0 i1 i2 i3 i4) = (own_j0_163_S0 i0 i1 i2 i3 i4) from by rw [own_j0_178_L13, if_pos hc12]] at jj
        rw [show (own_j0_178_L14 i0 i1 i2 i3 i4) = (own_v0_176 i0 i1 i2 i3 i4) from by rw [own_j0_178_L14, if_pos hc12]] at jj
        exact jj
      by_cases hc20 : (own_ab ((own_ck (0 : Int32) (own_v0_78 i0 i1 i2 i3 i4) (0 : Int32) (128 : Int32) (191 : Int32) (((i0 &&& (255 : Int32)).toInt8.toInt32).toInt8.toInt32) ((((128 : Int32) ||| (i1 &&& (63 : Int32))).toInt8.toInt32).toInt8.toInt32) ((((128 : Int32) ||| (i2 &&& (63 : Int32))).toInt8.toInt32).toInt8.toInt32) ((((128 : Int32) ||| (i3 &&& (63 : Int32))).toInt8.toInt32).toInt8.toInt32) 5 (0 : Int32) (0 : Int32) (128 : Int32) (191 : Int32)).2.1)) = (own_j0_155_S0 i0 i1 i2 i3 i4)
      · -- pc 155
        refine ownE.go (T' := TJ18) (f' := (mkF m 158 #[.val (.int i0), .val (.int i1), .val (.int i2), .val (.int i3), .val (.int i4), .val (.int (i0 &&& (255 : Int32))), .val (.ref b1), .val (.int (own_v0_64 i0 i1 i2 i3 i4)), .val (.int (own_v0_78 i0 i1 i2 i3 i4)), .val (.int (own_v0_85 i0 i1 i2 i3 i4)), .val (.ref b7), .val (.int (own_ab (0 : Int32))), .val (.int (own_v0_113 i0 i1 i2 i3 i4)), .val (.int (1 : Int32)), .val (.int (own_v0_113 i0 i1 i2 i3 i4)), .unset] [])) (fun t kt => XS.icmpNo (g := (mkF m 155 #[.val (.int i0), .val (.int i1), .val (.int i2), .val (.int i3), .val (.int i4), .val (.int (i0 &&& (255 : Int32))), .val (.ref b1), .val (.int (own_v0_64 i0 i1 i2 i3 i4)), .val (.int (own_v0_78 i0 i1 i2 i3 i4)), .val (.int (own_v0_85 i0 i1 i2 i3 i4)), .val (.ref b7), .val (.int (own_ab (0 : Int32))), .val (.int (own_v0_113 i0 i1 i2 i3 i4)), .val (.int (1 : Int32)), .val (.int (own_v0_113 i0 i1 i2 i3 i4)), .unset] [(.int (own_j0_155_S0 i0 i1 i2 i3 i4)), (.int (own_ab ((own_ck (0 : Int32) (own_v0_78 i0 i1 i2 i3 i4) (0 : Int32) (128 : Int32) (191 : Int32) (((i0 &&& (255 : Int32)).toInt8.toInt32).toInt8.toInt32) ((((128 : Int32) ||| (i1 &&& (63 : Int32))).toInt8.toInt32).toInt8.toInt32) ((((128 : Int32) ||| (i2 &&& (63 : Int32))).toInt8.toInt32).toInt8.toInt32) ((((128 : Int32) ||| (i3 &&& (63 : Int32))).toInt8.toInt32).toInt8.toInt32) 5 (0 : Int32) (0 : Int32) (128 : Int32) (191 : Int32)).2.1)))])) XJ18.here hx rfl (hb hby at_155) rfl (Jvm.Free.XT.ii_ne_f hc20) kt) ?_
        refine ownE.go (T' := TJ18) (f' := (mkF m 163 #[.val (.int i0), .val (.int i1), .val (.int i2), .val (.int i3), .val (.int i4), .val (.int (i0 &&& (255 : Int32))), .val (.ref b1), .val (.int (own_v0_64 i0 i1 i2 i3 i4)), .val (.int (own_v0_78 i0 i1 i2 i3 i4)), .val (.int (own_v0_85 i0 i1 i2 i3 i4)), .val (.ref b7), .val (.int (own_ab (0 : Int32))), .val (.int (own_v0_113 i0 i1 i2 i3 i4)), .val (.int (1 : Int32)), .val (.int (own_v0_113 i0 i1 i2 i3 i4)), .unset] [(.int (1 : Int32))])) (fun t kt => ?_) ?_
        · show Steps p.tables e below (TJ18.setTop (mkF m 158 #[.val (.int i0), .val (.int i1), .val (.int i2), .val (.int i3), .val (.int i4), .val (.int (i0 &&& (255 : Int32))), .val (.ref b1), .val (.int (own_v0_64 i0 i1 i2 i3 i4)), .val (.int (own_v0_78 i0 i1 i2 i3 i4)), .val (.int (own_v0_85 i0 i1 i2 i3 i4)), .val (.ref b7), .val (.int (own_ab (0 : Int32))), .val (.int (own_v0_113 i0 i1 i2 i3 i4)), .val (.int (1 : Int32)), .val (.int (own_v0_113 i0 i1 i2 i3 i4)), .unset] [])) _
          refine XS.iconst XJ18.here hx rfl (hb hby at_158) ?_
          show Steps p.tables e below (TJ18.setTop (mkF m 159 #[.val (.int i0), .val (.int i1), .val (.int i2), .val (.int i3), .val (.int i4), .val (.int (i0 &&& (255 : Int32))), .val (.ref b1), .val (.int (own_v0_64 i0 i1 i2 i3 i4)), .val (.int (own_v0_78 i0 i1 i2 i3 i4)), .val (.int (own_v0_85 i0 i1 i2 i3 i4)), .val (.ref b7), .val (.int (own_ab (0 : Int32))), .val (.int (own_v0_113 i0 i1 i2 i3 i4)), .val (.int (1 : Int32)), .val (.int (own_v0_113 i0 i1 i2 i3 i4)), .unset] [(.int (1 : Int32))])) _
          refine XS.goto XJ18.here hx rfl (pc0 := 159) (pc' := 163) rfl (hb hby at_159) (by decide) (by decide) ?_
          exact kt
        have jj := J21 _ _ XJ18 eJ18 NJ18
        rw [show (own_j0_163_S0 i0 i1 i2 i3 i4) = (1 : Int32) from by rw [own_j0_163_S0, if_pos hc20]] at jj
        exact jj
      · -- pc 155
        refine ownE.go (T' := TJ18) (f' := (mkF m 162 #[.val (.int i0), .val (.int i1), .val (.int i2), .val (.int i3), .val (.int i4), .val (.int (i0 &&& (255 : Int32))), .val (.ref b1), .val (.int (own_v0_64 i0 i1 i2 i3 i4)), .val (.int (own_v0_78 i0 i1 i2 i3 i4)), .val (.int (own_v0_85 i0 i1 i2 i3 i4)), .val (.ref b7), .val (.int (own_ab (0 : Int32))), .val (.int (own_v0_113 i0 i1 i2 i3 i4)), .val (.int (1 : Int32)), .val (.int (own_v0_113 i0 i1 i2 i3 i4)), .unset] [])) (fun t kt => XS.icmpYes (g := (mkF m 155 #[.val (.int i0), .val (.int i1), .val (.int i2), .val (.int i3), .val (.int i4), .val (.int (i0 &&& (255 : Int32))), .val (.ref b1), .val (.int (own_v0_64 i0 i1 i2 i3 i4)), .val (.int (own_v0_78 i0 i1 i2 i3 i4)), .val (.int (own_v0_85 i0 i1 i2 i3 i4)), .val (.ref b7), .val (.int (own_ab (0 : Int32))), .val (.int (own_v0_113 i0 i1 i2 i3 i4)), .val (.int (1 : Int32)), .val (.int (own_v0_113 i0 i1 i2 i3 i4)), .unset] [(.int (own_j0_155_S0 i0 i1 i2 i3 i4)), (.int (own_ab ((own_ck (0 : Int32) (own_v0_78 i0 i1 i2 i3 i4) (0 : Int32) (128 : Int32) (191 : Int32) (((i0 &&& (255 : Int32)).toInt8.toInt32).toInt8.toInt32) ((((128 : Int32) ||| (i1 &&& (63 : Int32))).toInt8.toInt32).toInt8.toInt32) ((((128 : Int32) ||| (i2 &&& (63 : Int32))).toInt8.toInt32).toInt8.toInt32) ((((128 : Int32) ||| (i3 &&& (63 : Int32))).toInt8.toInt32).toInt8.toInt32) 5 (0 : Int32) (0 : Int32) (128 : Int32) (191 : Int32)).2.1)))])) XJ18.here hx rfl (pc0 := 155) (pc' := 162) rfl (hb hby at_155) rfl (Jvm.Free.XT.ii_ne_t hc20) (by decide) (by decide) kt) ?_
        refine ownE.go (T' := TJ18) (f' := (mkF m 163 #[.val (.int i0), .val (.int i1), .val (.int i2), .val (.int i3), .val (.int i4), .val (.int (i0 &&& (255 : Int32))), .val (.ref b1), .val (.int (own_v0_64 i0 i1 i2 i3 i4)), .val (.int (own_v0_78 i0 i1 i2 i3 i4)), .val (.int (own_v0_85 i0 i1 i2 i3 i4)), .val (.ref b7), .val (.int (own_ab (0 : Int32))), .val (.int (own_v0_113 i0 i1 i2 i3 i4)), .val (.int (1 : Int32)), .val (.int (own_v0_113 i0 i1 i2 i3 i4)), .unset] [(.int (0 : Int32))])) (fun t kt => ?_) ?_
        · show Steps p.tables e below (TJ18.setTop (mkF m 162 #[.val (.int i0), .val (.int i1), .val (.int i2), .val (.int i3), .val (.int i4), .val (.int (i0 &&& (255 : Int32))), .val (.ref b1), .val (.int (own_v0_64 i0 i1 i2 i3 i4)), .val (.int (own_v0_78 i0 i1 i2 i3 i4)), .val (.int (own_v0_85 i0 i1 i2 i3 i4)), .val (.ref b7), .val (.int (own_ab (0 : Int32))), .val (.int (own_v0_113 i0 i1 i2 i3 i4)), .val (.int (1 : Int32)), .val (.int (own_v0_113 i0 i1 i2 i3 i4)), .unset] [])) _
          refine XS.iconst XJ18.here hx rfl (hb hby at_162) ?_
          exact kt
        have jj := J21 _ _ XJ18 eJ18 NJ18
        rw [show (own_j0_163_S0 i0 i1 i2 i3 i4) = (0 : Int32) from by rw [own_j0_163_S0, if_neg hc20]] at jj
        exact jj
    refine ownE.go (T' := T13) (f' := (mkF m 135 #[.val (.int i0), .val (.int i1), .val (.int i2), .val (.int i3), .val (.int i4), .val (.int (i0 &&& (255 : Int32))), .val (.ref b1), .val (.int (own_v0_64 i0 i1 i2 i3 i4)), .val (.int (own_v0_78 i0 i1 i2 i3 i4)), .val (.int (own_v0_85 i0 i1 i2 i3 i4)), .val (.ref b7), .val (.int (own_ab (0 : Int32))), .val (.int (own_v0_113 i0 i1 i2 i3 i4)), .val (.int (1 : Int32)), .val (.int (own_v0_113 i0 i1 i2 i3 i4)), .unset] [(.int (2 : Int32)), (.int (own_v0_85 i0 i1 i2 i3 i4)), (.int (own_ab ((own_ck (0 : Int32) (own_v0_78 i0 i1 i2 i3 i4) (0 : Int32) (128 : Int32) (191 : Int32) (((i0 &&& (255 : Int32)).toInt8.toInt32).toInt8.toInt32) ((((128 : Int32) ||| (i1 &&& (63 : Int32))).toInt8.toInt32).toInt8.toInt32) ((((128 : Int32) ||| (i2 &&& (63 : Int32))).toInt8.toInt32).toInt8.toInt32) ((((128 : Int32) ||| (i3 &&& (63 : Int32))).toInt8.toInt32).toInt8.toInt32) 5 (0 : Int32) (0 : Int32) (128 : Int32) (191 : Int32)).2.1)))])) (fun t kt => ?_) ?_
    · show Steps p.tables e below (T13.setTop (mkF m 132 #[.val (.int i0), .val (.int i1), .val (.int i2), .val (.int i3), .val (.int i4), .val (.int (i0 &&& (255 : Int32))), .val (.ref b1), .val (.int (own_v0_64 i0 i1 i2 i3 i4)), .val (.int (own_v0_78 i0 i1 i2 i3 i4)), .val (.int (own_v0_85 i0 i1 i2 i3 i4)), .val (.ref b7), .val (.int (own_ab (0 : Int32))), .val (.int (own_v0_113 i0 i1 i2 i3 i4)), .val (.int (1 : Int32)), .val (.int (own_v0_113 i0 i1 i2 i3 i4)), .unset] [(.int (own_ab ((own_ck (0 : Int32) (own_v0_78 i0 i1 i2 i3 i4) (0 : Int32) (128 : Int32) (191 : Int32) (((i0 &&& (255 : Int32)).toInt8.toInt32).toInt8.toInt32) ((((128 : Int32) ||| (i1 &&& (63 : Int32))).toInt8.toInt32).toInt8.toInt32) ((((128 : Int32) ||| (i2 &&& (63 : Int32))).toInt8.toInt32).toInt8.toInt32) ((((128 : Int32) ||| (i3 &&& (63 : Int32))).toInt8.toInt32).toInt8.toInt32) 5 (0 : Int32) (0 : Int32) (128 : Int32) (191 : Int32)).2.1)))])) _
      refine XS.iload X13.here hx rfl (hb hby at_132) rfl ?_
      show Steps p.tables e below (T13.setTop (mkF m 134 #[.val (.int i0), .val (.int i1), .val (.int i2), .val (.int i3), .val (.int i4), .val (.int (i0 &&& (255 : Int32))), .val (.ref b1), .val (.int (own_v0_64 i0 i1 i2 i3 i4)), .val (.int (own_v0_78 i0 i1 i2 i3 i4)), .val (.int (own_v0_85 i0 i1 i2 i3 i4)), .val (.ref b7), .val (.int (own_ab (0 : Int32))), .val (.int (own_v0_113 i0 i1 i2 i3 i4)), .val (.int (1 : Int32)), .val (.int (own_v0_113 i0 i1 i2 i3 i4)), .unset] [(.int (own_v0_85 i0 i1 i2 i3 i4)), (.int (own_ab ((own_ck (0 : Int32) (own_v0_78 i0 i1 i2 i3 i4) (0 : Int32) (128 : Int32) (191 : Int32) (((i0 &&& (255 : Int32)).toInt8.toInt32).toInt8.toInt32) ((((128 : Int32) ||| (i1 &&& (63 : Int32))).toInt8.toInt32).toInt8.toInt32) ((((128 : Int32) ||| (i2 &&& (63 : Int32))).toInt8.toInt32).toInt8.toInt32) ((((128 : Int32) ||| (i3 &&& (63 : Int32))).toInt8.toInt32).toInt8.toInt32) 5 (0 : Int32) (0 : Int32) (128 : Int32) (191 : Int32)).2.1)))])) _
      refine XS.iconst X13.here hx rfl (hb hby at_134) ?_
      exact kt
    by_cases hc15 : (own_v0_85 i0 i1 i2 i3 i4) < (2 : Int32)
    · -- pc 135
      refine ownE.go (T' := T13) (f' := (mkF m 150 #[.val (.int i0), .val (.int i1), .val (.int i2), .val (.int i3), .val (.int i4), .val (.int (i0 &&& (255 : Int32))), .val (.ref b1), .val (.int (own_v0_64 i0 i1 i2 i3 i4)), .val (.int (own_v0_78 i0 i1 i2 i3 i4)), .val (.int (own_v0_85 i0 i1 i2 i3 i4)), .val (.ref b7), .val (.int (own_ab (0 : Int32))), .val (.int (own_v0_113 i0 i1 i2 i3 i4)), .val (.int (1 : Int32)), .val (.int (own_v0_113 i0 i1 i2 i3 i4)), .unset] [(.int (own_ab ((own_ck (0 : Int32) (own_v0_78 i0 i1 i2 i3 i4) (0 : Int32) (128 : Int32) (191 : Int32) (((i0 &&& (255 : Int32)).toInt8.toInt32).toInt8.toInt32) ((((128 : Int32) ||| (i1 &&& (63 : Int32))).toInt8.toInt32).toInt8.toInt32) ((((128 : Int32) ||| (i2 &&& (63 : Int32))).toInt8.toInt32).toInt8.toInt32) ((((128 : Int32) ||| (i3 &&& (63 : Int32))).toInt8.toInt32).toInt8.toInt32) 5 (0 : Int32) (0 : Int32) (128 : Int32) (191 : Int32)).2.1)))])) (fun t kt => XS.icmpYes (g := (mkF m 135 #[.val (.int i0), .val (.int i1), .val (.int i2), .val (.int i3), .val (.int i4), .val (.int (i0 &&& (255 : Int32))), .val (.ref b1), .val (.int (own_v0_64 i0 i1 i2 i3 i4)), .val (.int (own_v0_78 i0 i1 i2 i3 i4)), .val (.int (own_v0_85 i0 i1 i2 i3 i4)), .val (.ref b7), .val (.int (own_ab (0 : Int32))), .val (.int (own_v0_113 i0 i1 i2 i3 i4)), .val (.int (1 : Int32)), .val (.int (own_v0_113 i0 i1 i2 i3 i4)), .unset] [(.int (2 : Int32)), (.int (own_v0_85 i0 i1 i2 i3 i4)), (.int (own_ab ((own_ck (0 : Int32) (own_v0_78 i0 i1 i2 i3 i4) (0 : Int32) (128 : Int32) (191 : Int32) (((i0 &&& (255 : Int32)).toInt8.toInt32).toInt8.toInt32) ((((128 : Int32) ||| (i1 &&& (63 : Int32))).toInt8.toInt32).toInt8.toInt32) ((((128 : Int32) ||| (i2 &&& (63 : Int32))).toInt8.toInt32).toInt8.toInt32) ((((128 : Int32) ||| (i3 &&& (63 : Int32))).toInt8.toInt32).toInt8.toInt32) 5 (0 : Int32) (0 : Int32) (128 : Int32) (191 : Int32)).2.1)))])) X13.here hx rfl (pc0 := 135) (pc' := 150) rfl (hb hby at_135) rfl (Jvm.Free.XT.ii_lt_t hc15) (by decide) (by decide) kt) ?_
      refine ownE.go (T' := T13) (f' := (mkF m 155 #[.val (.int i0), .val (.int i1), .val (.int i2), .val (.int i3), .val (.int i4), .val (.int (i0 &&& (255 : Int32))), .val (.ref b1), .val (.int (own_v0_64 i0 i1 i2 i3 i4)), .val (.int (own_v0_78 i0 i1 i2 i3 i4)), .val (.int (own_v0_85 i0 i1 i2 i3 i4)), .val (.ref b7), .val (.int (own_ab (0 : Int32))), .val (.int (own_v0_113 i0 i1 i2 i3 i4)), .val (.int (1 : Int32)), .val (.int (own_v0_113 i0 i1 i2 i3 i4)), .unset] [(.int (1 : Int32)), (.int (own_ab ((own_ck (0 : Int32) (own_v0_78 i0 i1 i2 i3 i4) (0 : Int32) (128 : Int32) (191 : Int32) (((i0 &&& (255 : Int32)).toInt8.toInt32).toInt8.toInt32) ((((128 : Int32) ||| (i1 &&& (63 : Int32))).toInt8.toInt32).toInt8.toInt32) ((((128 : Int32) ||| (i2 &&& (63 : Int32))).toInt8.toInt32).toInt8.toInt32) ((((128 : Int32) ||| (i3 &&& (63 : Int32))).toInt8.toInt32).toInt8.toInt32) 5 (0 : Int32) (0 : Int32) (128 : Int32) (191 : Int32)).2.1)))])) (fun t kt => ?_) ?_
      · show Steps p.tables e below (T13.setTop (mkF m 150 #[.val (.int i0), .val (.int i1), .val (.int i2), .val (.int i3), .val (.int i4), .val (.int (i0 &&& (255 : Int32))), .val (.ref b1), .val (.int (own_v0_64 i0 i1 i2 i3 i4)), .val (.int (own_v0_78 i0 i1 i2 i3 i4)), .val (.int (own_v0_85 i0 i1 i2 i3 i4)), .val (.ref b7), .val (.int (own_ab (0 : Int32))), .val (.int (own_v0_113 i0 i1 i2 i3 i4)), .val (.int (1 : Int32)), .val (.int (own_v0_113 i0 i1 i2 i3 i4)), .unset] [(.int (own_ab ((own_ck (0 : Int32) (own_v0_78 i0 i1 i2 i3 i4) (0 : Int32) (128 : Int32) (191 : Int32) (((i0 &&& (255 : Int32)).toInt8.toInt32).toInt8.toInt32) ((((128 : Int32) ||| (i1 &&& (63 : Int32))).toInt8.toInt32).toInt8.toInt32) ((((128 : Int32) ||| (i2 &&& (63 : Int32))).toInt8.toInt32).toInt8.toInt32) ((((128 : Int32) ||| (i3 &&& (63 : Int32))).toInt8.toInt32).toInt8.toInt32) 5 (0 : Int32) (0 : Int32) (128 : Int32) (191 : Int32)).2.1)))])) _
        refine XS.iconst X13.here hx rfl (hb hby at_150) ?_
        show Steps p.tables e below (T13.setTop (mkF m 151 #[.val (.int i0), .val (.int i1), .val (.int i2), .val (.int i3), .val (.int i4), .val (.int (i0 &&& (255 : Int32))), .val (.ref b1), .val (.int (own_v0_64 i0 i1 i2 i3 i4)), .val (.int (own_v0_78 i0 i1 i2 i3 i4)), .val (.int (own_v0_85 i0 i1 i2 i3 i4)), .val (.ref b7), .val (.int (own_ab (0 : Int32))), .val (.int (own_v0_113 i0 i1 i2 i3 i4)), .val (.int (1 : Int32)), .val (.int (own_v0_113 i0 i1 i2 i3 i4)), .unset] [(.int (1 : Int32)), (.int (own_ab ((own_ck (0 : Int32) (own_v0_78 i0 i1 i2 i3 i4) (0 : Int32) (128 : Int32) (191 : Int32) (((i0 &&& (255 : Int32)).toInt8.toInt32).toInt8.toInt32) ((((128 : Int32) ||| (i1 &&& (63 : Int32))).toInt8.toInt32).toInt8.toInt32) ((((128 : Int32) ||| (i2 &&& (63 : Int32))).toInt8.toInt32).toInt8.toInt32) ((((128 : Int32) ||| (i3 &&& (63 : Int32))).toInt8.toInt32).toInt8.toInt32) 5 (0 : Int32) (0 : Int32) (128 : Int32) (191 : Int32)).2.1)))])) _
        refine XS.goto X13.here hx rfl (pc0 := 151) (pc' := 155) rfl (hb hby at_151) (by decide) (by decide) ?_
        exact kt
      have jj := J18 _ _ X13 e13 N13
      rw [show (own_j0_155_S0 i0 i1 i2 i3 i4) = (1 : Int32) from by rw [own_j0_155_S0, if_pos hc15]] at jj
      exact jj
    · -- pc 135
      refine ownE.go (T' := T13) (f' := (mkF m 138 #[.val (.int i0), .val (.int i1), .val (.int i2), .val (.int i3), .val (.int i4), .val (.int (i0 &&& (255 : Int32))), .val (.ref b1), .val (.int (own_v0_64 i0 i1 i2 i3 i4)), .val (.int (own_v0_78 i0 i1 i2 i3 i4)), .val (.int (own_v0_85 i0 i1 i2 i3 i4)), .val (.ref b7), .val (.int (own_ab (0 : Int32))), .val (.int (own_v0_113 i0 i1 i2 i3 i4)), .val (.int (1 : Int32)), .val (.int (own_v0_113 i0 i1 i2 i3 i4)), .unset] [(.int (own_ab ((own_ck (0 : Int32) (own_v0_78 i0 i1 i2 i3 i4) (0 : Int32) (128 : Int32) (191 : Int32) (((i0 &&& (255 : Int32)).toInt8.toInt32).toInt8.toInt32) ((((128 : Int32) ||| (i1 &&& (63 : Int32))).toInt8.toInt32).toInt8.toInt32) ((((128 : Int32) ||| (i2 &&& (63 : Int32))).toInt8.toInt32).toInt8.toInt32) ((((128 : Int32) ||| (i3 &&& (63 : Int32))).toInt8.toInt32).toInt8.toInt32) 5 (0 : Int32) (0 : Int32) (128 : Int32) (191 : Int32)).2.1)))])) (fun t kt => XS.icmpNo (g := (mkF m 135 #[.val (.int i0), .val (.int i1), .val (.int i2), .val (.int i3), .val (.int i4), .val (.int (i0 &&& (255 : Int32))), .val (.ref b1), .val (.int (own_v0_64 i0 i1 i2 i3 i4)), .val (.int (own_v0_78 i0 i1 i2 i3 i4)), .val (.int (own_v0_85 i0 i1 i2 i3 i4)), .val (.ref b7), .val (.int (own_ab (0 : Int32))), .val (.int (own_v0_113 i0 i1 i2 i3 i4)), .val (.int (1 : Int32)), .val (.int (own_v0_113 i0 i1 i2 i3 i4)), .unset] [(.int (2 : Int32)), (.int (own_v0_85 i0 i1 i2 i3 i4)), (.int (own_ab ((own_ck (0 : Int32) (own_v0_78 i0 i1 i2 i3 i4) (0 : Int32) (128 : Int32) (191 : Int32) (((i0 &&& (255 : Int32)).toInt8.toInt32).toInt8.toInt32) ((((128 : Int32) ||| (i1 &&& (63 : Int32))).toInt8.toInt32).toInt8.toInt32) ((((128 : Int32) ||| (i2 &&& (63 : Int32))).toInt8.toInt32).toInt8.toInt32) ((((128 : Int32) ||| (i3 &&& (63 : Int32))).toInt8.toInt32).toInt8.toInt32) 5 (0 : Int32) (0 : Int32) (128 : Int32) (191 : Int32)).2.1)))])) X13.here hx rfl (hb hby at_135) rfl (Jvm.Free.XT.ii_lt_f hc15) kt) ?_
      refine ownE.go (T' := T13) (f' := (mkF m 140 #[.val (.int i0), .val (.int i1), .val (.int i2), .val (.int i3), .val (.int i4), .val (.int (i0 &&& (255 : Int32))), .val (.ref b1), .val (.int (own_v0_64 i0 i1 i2 i3 i4)), .val (.int (own_v0_78 i0 i1 i2 i3 i4)), .val (.int (own_v0_85 i0 i1 i2 i3 i4)), .val (.ref b7), .val (.int (own_ab (0 : Int32))), .val (.int (own_v0_113 i0 i1 i2 i3 i4)), .val (.int (1 : Int32)), .val (.int (own_v0_113 i0 i1 i2 i3 i4)), .unset] [(.int (own_v0_78 i0 i1 i2 i3 i4)), (.int (own_ab ((own_ck (0 : Int32) (own_v0_78 i0 i1 i2 i3 i4) (0 : Int32) (128 : Int32) (191 : Int32) (((i0 &&& (255 : Int32)).toInt8.toInt32).toInt8.toInt32) ((((128 : Int32) ||| (i1 &&& (63 : Int32))).toInt8.toInt32).toInt8.toInt32) ((((128 : Int32) ||| (i2 &&& (63 : Int32))).toInt8.toInt32).toInt8.toInt32) ((((128 : Int32) ||| (i3 &&& (63 : Int32))).toInt8.toInt32).toInt8.toInt32) 5 (0 : Int32) (0 : Int32) (128 : Int32) (191 : Int32)).2.1)))])) (fun t kt => ?_) ?_
      · show Steps p.tables e below (T13.setTop (mkF m 138 #[.val (.int i0), .val (.int i1), .val (.int i2), .val (.int i3), .val (.int i4), .val (.int (i0 &&& (255 : Int32))), .val (.ref b1), .val (.int (own_v0_64 i0 i1 i2 i3 i4)), .val (.int (own_v0_78 i0 i1 i2 i3 i4)), .val (.int (own_v0_85 i0 i1 i2 i3 i4)), .val (.ref b7), .val (.int (own_ab (0 : Int32))), .val (.int (own_v0_113 i0 i1 i2 i3 i4)), .val (.int (1 : Int32)), .val (.int (own_v0_113 i0 i1 i2 i3 i4)), .unset] [(.int (own_ab ((own_ck (0 : Int32) (own_v0_78 i0 i1 i2 i3 i4) (0 : Int32) (128 : Int32) (191 : Int32) (((i0 &&& (255 : Int32)).toInt8.toInt32).toInt8.toInt32) ((((128 : Int32) ||| (i1 &&& (63 : Int32))).toInt8.toInt32).toInt8.toInt32) ((((128 : Int32) ||| (i2 &&& (63 : Int32))).toInt8.toInt32).toInt8.toInt32) ((((128 : Int32) ||| (i3 &&& (63 : Int32))).toInt8.toInt32).toInt8.toInt32) 5 (0 : Int32) (0 : Int32) (128 : Int32) (191 : Int32)).2.1)))])) _
        refine XS.iload X13.here hx rfl (hb hby at_138) rfl ?_
        exact kt
      by_cases hc16 : (own_v0_78 i0 i1 i2 i3 i4) = (0 : Int32)
      · -- pc 140
        refine ownE.go (T' := T13) (f' := (mkF m 150 #[.val (.int i0), .val (.int i1), .val (.int i2), .val (.int i3), .val (.int i4), .val (.int (i0 &&& (255 : Int32))), .val (.ref b1), .val (.int (own_v0_64 i0 i1 i2 i3 i4)), .val (.int (own_v0_78 i0 i1 i2 i3 i4)), .val (.int (own_v0_85 i0 i1 i2 i3 i4)), .val (.ref b7), .val (.int (own_ab (0 : Int32))), .val (.int (own_v0_113 i0 i1 i2 i3 i4)), .val (.int (1 : Int32)), .val (.int (own_v0_113 i0 i1 i2 i3 i4)), .unset] [(.int (own_ab ((own_ck (0 : Int32) (own_v0_78 i0 i1 i2 i3 i4) (0 : Int32) (128 : Int32) (191 : Int32) (((i0 &&& (255 : Int32)).toInt8.toInt32).toInt8.toInt32) ((((128 : Int32) ||| (i1 &&& (63 : Int32))).toInt8.toInt32).toInt8.toInt32) ((((128 : Int32) ||| (i2 &&& (63 : Int32))).toInt8.toInt32).toInt8.toInt32) ((((128 : Int32) ||| (i3 &&& (63 : Int32))).toInt8.toInt32).toInt8.toInt32) 5 (0 : Int32) (0 : Int32) (128 : Int32) (191 : Int32)).2.1)))])) (fun t kt => XS.ifYes (g := (mkF m 140 #[.val (.int i0), .val (.int i1), .val (.int i2), .val (.int i3), .val (.int i4), .val (.int (i0 &&& (255 : Int32))), .val (.ref b1), .val (.int (own_v0_64 i0 i1 i2 i3 i4)), .val (.int (own_v0_78 i0 i1 i2 i3 i4)), .val (.int (own_v0_85 i0 i1 i2 i3 i4)), .val (.ref b7), .val (.int (own_ab (0 : Int32))), .val (.int (own_v0_113 i0 i1 i2 i3 i4)), .val (.int (1 : Int32)), .val (.int (own_v0_113 i0 i1 i2 i3 i4)), .unset] [(.int (own_v0_78 i0 i1 i2 i3 i4)), (.int (own_ab ((own_ck (0 : Int32) (own_v0_78 i0 i1 i2 i3 i4) (0 : Int32) (128 : Int32) (191 : Int32) (((i0 &&& (255 : Int32)).toInt8.toInt32).toInt8.toInt32) ((((128 : Int32) ||| (i1 &&& (63 : Int32))).toInt8.toInt32).toInt8.toInt32) ((((128 : Int32) ||| (i2 &&& (63 : Int32))).toInt8.toInt32).toInt8.toInt32) ((((128 : Int32) ||| (i3 &&& (63 : Int32))).toInt8.toInt32).toInt8.toInt32) 5 (0 : Int32) (0 : Int32) (128 : Int32) (191 : Int32)).2.1)))])) X13.here hx rfl (pc0 := 140) (pc' := 150) rfl (hb hby at_140) rfl (Jvm.Free.XT.i0_eq_t hc16) (by decide) (by decide) kt) ?_
        refine ownE.go (T' := T13) (f' := (mkF m 155 #[.val (.int i0), .val (.int i1), .val (.int i2), .val (.int i3), .val (.int i4), .val (.int (i0 &&& (255 : Int32))), .val (.ref b1), .val (.int (own_v0_64 i0 i1 i2 i3 i4)), .val (.int (own_v0_78 i0 i1 i2 i3 i4)), .val (.int (own_v0_85 i0 i1 i2 i3 i4)), .val (.ref b7), .val (.int (own_ab (0 : Int32))), .val (.int (own_v0_113 i0 i1 i2 i3 i4)), .val (.int (1 : Int32)), .val (.int (own_v0_113 i0 i1 i2 i3 i4)), .unset] [(.int (1 : Int32)), (.int (own_ab ((own_ck (0 : Int32) (own_v0_78 i0 i1 i2 i3 i4) (0 : Int32) (128 : Int32) (191 : Int32) (((i0 &&& (255 : Int32)).toInt8.toInt32).toInt8.toInt32) ((((128 : Int32) ||| (i1 &&& (63 : Int32))).toInt8.toInt32).toInt8.toInt32) ((((128 : Int32) ||| (i2 &&& (63 : Int32))).toInt8.toInt32).toInt8.toInt32) ((((128 : Int32) ||| (i3 &&& (63 : Int32))).toInt8.toInt32).toInt8.toInt32) 5 (0 : Int32) (0 : Int32) (128 : Int32) (191 : Int32)).2.1)))])) (fun t kt => ?_) ?_
        · show Steps p.tables e below (T13.setTop (mkF m 150 #[.val (.int i0), .val (.int i1), .val (.int i2), .val (.int i3), .val (.int i4), .val (.int (i0 &&& (255 : Int32))), .val (.ref b1), .val (.int (own_v0_64 i0 i1 i2 i3 i4)), .val (.int (own_v0_78 i0 i1 i2 i3 i4)), .val (.int (own_v0_85 i0 i1 i2 i3 i4)), .val (.ref b7), .val (.int (own_ab (0 : Int32))), .val (.int (own_v0_113 i0 i1 i2 i3 i4)), .val (.int (1 : Int32)), .val (.int (own_v0_113 i0 i1 i2 i3 i4)), .unset] [(.int (own_ab ((own_ck (0 : Int32) (own_v0_78 i0 i1 i2 i3 i4) (0 : Int32) (128 : Int32) (191 : Int32) (((i0 &&& (255 : Int32)).toInt8.toInt32).toInt8.toInt32) ((((128 : Int32) ||| (i1 &&& (63 : Int32))).toInt8.toInt32).toInt8.toInt32) ((((128 : Int32) ||| (i2 &&& (63 : Int32))).toInt8.toInt32).toInt8.toInt32) ((((128 : Int32) ||| (i3 &&& (63 : Int32))).toInt8.toInt32).toInt8.toInt32) 5 (0 : Int32) (0 : Int32) (128 : Int32) (191 : Int32)).2.1)))])) _
          refine XS.iconst X13.here hx rfl (hb hby at_150) ?_
          show Steps p.tables e below (T13.setTop (mkF m 151 #[.val (.int i0), .val (.int i1), .val (.int i2), .val (.int i3), .val (.int i4), .val (.int (i0 &&& (255 : Int32))), .val (.ref b1), .val (.int (own_v0_64 i0 i1 i2 i3 i4)), .val (.int (own_v0_78 i0 i1 i2 i3 i4)), .val (.int (own_v0_85 i0 i1 i2 i3 i4)), .val (.ref b7), .val (.int (own_ab (0 : Int32))), .val (.int (own_v0_113 i0 i1 i2 i3 i4)), .val (.int (1 : Int32)), .val (.int (own_v0_113 i0 i1 i2 i3 i4)), .unset] [(.int (1 : Int32)), (.int (own_ab ((own_ck (0 : Int32) (own_v0_78 i0 i1 i2 i3 i4) (0 : Int32) (128 : Int32) (191 : Int32) (((i0 &&& (255 : Int32)).toInt8.toInt32).toInt8.toInt32) ((((128 : Int32) ||| (i1 &&& (63 : Int32))).toInt8.toInt32).toInt8.toInt32) ((((128 : Int32) ||| (i2 &&& (63 : Int32))).toInt8.toInt32).toInt8.toInt32) ((((128 : Int32) ||| (i3 &&& (63 : Int32))).toInt8.toInt32).toInt8.toInt32) 5 (0 : Int32) (0 : Int32) (128 : Int32) (191 : Int32)).2.1)))])) _
          refine XS.goto X13.here hx rfl (pc0 := 151) (pc' := 155) rfl (hb hby at_151) (by decide) (by decide) ?_
          exact kt
        have jj := J18 _ _ X13 e13 N13
        rw [show (own_j0_155_S0 i0 i1 i2 i3 i4) = (1 : Int32) from by rw [own_j0_155_S0, if_neg hc15, if_pos hc16]] at jj
        exact jj
      · -- pc 140
        refine ownE.go (T' := T13) (f' := (mkF m 143 #[.val (.int i0), .val (.int i1), .val (.int i2), .val (.int i3), .val (.int i4), .val (.int (i0 &&& (255 : Int32))), .val (.ref b1), .val (.int (own_v0_64 i0 i1 i2 i3 i4)), .val (.int (own_v0_78 i0 i1 i2 i3 i4)), .val (.int (own_v0_85 i0 i1 i2 i3 i4)), .val (.ref b7), .val (.int (own_ab (0 : Int32))), .val (.int (own_v0_113 i0 i1 i2 i3 i4)), .val (.int (1 : Int32)), .val (.int (own_v0_113 i0 i1 i2 i3 i4)), .unset] [(.int (own_ab ((own_ck (0 : Int32) (own_v0_78 i0 i1 i2 i3 i4) (0 : Int32) (128 : Int32) (191 : Int32) (((i0 &&& (255 : Int32)).toInt8.toInt32).toInt8.toInt32) ((((128 : Int32) ||| (i1 &&& (63 : Int32))).toInt8.toInt32).toInt8.toInt32) ((((128 : Int32) ||| (i2 &&& (63 : Int32))).toInt8.toInt32).toInt8.toInt32) ((((128 : Int32) ||| (i3 &&& (63 : Int32))).toInt8.toInt32).toInt8.toInt32) 5 (0 : Int32) (0 : Int32) (128 : Int32) (191 : Int32)).2.1)))])) (fun t kt => XS.ifNo (g := (mkF m 140 #[.val (.int i0), .val (.int i1), .val (.int i2), .val (.int i3), .val (.int i4), .val (.int (i0 &&& (255 : Int32))), .val (.ref b1), .val (.int (own_v0_64 i0 i1 i2 i3 i4)), .val (.int (own_v0_78 i0 i1 i2 i3 i4)), .val (.int (own_v0_85 i0 i1 i2 i3 i4)), .val (.ref b7), .val (.int (own_ab (0 : Int32))), .val (.int (own_v0_113 i0 i1 i2 i3 i4)), .val (.int (1 : Int32)), .val (.int (own_v0_113 i0 i1 i2 i3 i4)), .unset] [(.int (own_v0_78 i0 i1 i2 i3 i4)), (.int (own_ab ((own_ck (0 : Int32) (own_v0_78 i0 i1 i2 i3 i4) (0 : Int32) (128 : Int32) (191 : Int32) (((i0 &&& (255 : Int32)).toInt8.toInt32).toInt8.toInt32) ((((128 : Int32) ||| (i1 &&& (63 : Int32))).toInt8.toInt32).toInt8.toInt32) ((((128 : Int32) ||| (i2 &&& (63 : Int32))).toInt8.toInt32).toInt8.toInt32) ((((128 : Int32) ||| (i3 &&& (63 : Int32))).toInt8.toInt32).toInt8.toInt32) 5 (0 : Int32) (0 : Int32) (128 : Int32) (191 : Int32)).2.1)))])) X13.here hx rfl (hb hby at_140) rfl (Jvm.Free.XT.i0_eq_f hc16) kt) ?_
        refine ownE.go (T' := T13) (f' := (mkF m 147 #[.val (.int i0), .val (.int i1), .val (.int i2), .val (.int i3), .val (.int i4), .val (.int (i0 &&& (255 : Int32))), .val (.ref b1), .val (.int (own_v0_64 i0 i1 i2 i3 i4)), .val (.int (own_v0_78 i0 i1 i2 i3 i4)), .val (.int (own_v0_85 i0 i1 i2 i3 i4)), .val (.ref b7), .val (.int (own_ab (0 : Int32))), .val (.int (own_v0_113 i0 i1 i2 i3 i4)), .val (.int (1 : Int32)), .val (.int (own_v0_113 i0 i1 i2 i3 i4)), .unset] [(.int (own_v0_85 i0 i1 i2 i3 i4)), (.int (own_v0_78 i0 i1 i2 i3 i4)), (.int (own_ab ((own_ck (0 : Int32) (own_v0_78 i0 i1 i2 i3 i4) (0 : Int32) (128 : Int32) (191 : Int32) (((i0 &&& (255 : Int32)).toInt8.toInt32).toInt8.toInt32) ((((128 : Int32) ||| (i1 &&& (63 : Int32))).toInt8.toInt32).toInt8.toInt32) ((((128 : Int32) ||| (i2 &&& (63 : Int32))).toInt8.toInt32).toInt8.toInt32) ((((128 : Int32) ||| (i3 &&& (63 : Int32))).toInt8.toInt32).toInt8.toInt32) 5 (0 : Int32) (0 : Int32) (128 : Int32) (191 : Int32)).2.1)))])) (fun t kt => ?_) ?_
        · show Steps p.tables e below (T13.setTop (mkF m 143 #[.val (.int i0), .val (.int i1), .val (.int i2), .val (.int i3), .val (.int i4), .val (.int (i0 &&& (255 : Int32))), .val (.ref b1), .val (.int (own_v0_64 i0 i1 i2 i3 i4)), .val (.int (own_v0_78 i0 i1 i2 i3 i4)), .val (.int (own_v0_85 i0 i1 i2 i3 i4)), .val (.ref b7), .val (.int (own_ab (0 : Int32))), .val (.int (own_v0_113 i0 i1 i2 i3 i4)), .val (.int (1 : Int32)), .val (.int (own_v0_113 i0 i1 i2 i3 i4)), .unset] [(.int (own_ab ((own_ck (0 : Int32) (own_v0_78 i0 i1 i2 i3 i4) (0 : Int32) (128 : Int32) (191 : Int32) (((i0 &&& (255 : Int32)).toInt8.toInt32).toInt8.toInt32) ((((128 : Int32) ||| (i1 &&& (63 : Int32))).toInt8.toInt32).toInt8.toInt32) ((((128 : Int32) ||| (i2 &&& (63 : Int32))).toInt8.toInt32).toInt8.toInt32) ((((128 : Int32) ||| (i3 &&& (63 : Int32))).toInt8.toInt32).toInt8.toInt32) 5 (0 : Int32) (0 : Int32) (128 : Int32) (191 : Int32)).2.1)))])) _
          refine XS.iload X13.here hx rfl (hb hby at_143) rfl ?_
          show Steps p.tables e below (T13.setTop (mkF m 145 #[.val (.int i0), .val (.int i1), .val (.int i2), .val (.int i3), .val (.int i4), .val (.int (i0 &&& (255 : Int32))), .val (.ref b1), .val (.int (own_v0_64 i0 i1 i2 i3 i4)), .val (.int (own_v0_78 i0 i1 i2 i3 i4)), .val (.int (own_v0_85 i0 i1 i2 i3 i4)), .val (.ref b7), .val (.int (own_ab (0 : Int32))), .val (.int (own_v0_113 i0 i1 i2 i3 i4)), .val (.int (1 : Int32)), .val (.int (own_v0_113 i0 i1 i2 i3 i4)), .unset] [(.int (own_v0_78 i0 i1 i2 i3 i4)), (.int (own_ab ((own_ck (0 : Int32) (own_v0_78 i0 i1 i2 i3 i4) (0 : Int32) (128 : Int32) (191 : Int32) (((i0 &&& (255 : Int32)).toInt8.toInt32).toInt8.toInt32) ((((128 : Int32) ||| (i1 &&& (63 : Int32))).toInt8.toInt32).toInt8.toInt32) ((((128 : Int32) ||| (i2 &&& (63 : Int32))).toInt8.toInt32).toInt8.toInt32) ((((128 : Int32) ||| (i3 &&& (63 : Int32))).toInt8.toInt32).toInt8.toInt32) 5 (0 : Int32) (0 : Int32) (128 : Int32) (191 : Int32)).2.1)))])) _
          refine XS.iload X13.here hx rfl (hb hby at_145) rfl ?_
          exact kt
        by_cases hc17 : (own_v0_78 i0 i1 i2 i3 i4) = (own_v0_85 i0 i1 i2 i3 i4)
        · -- pc 147
          refine ownE.go (T' := T13) (f' := (mkF m 150 #[.val (.int i0), .val (.int i1), .val (.int i2), .val (.int i3), .val (.int i4), .val (.int (i0 &&& (255 : Int32))), .val (.ref b1), .val (.int (own_v0_64 i0 i1 i2 i3 i4)), .val (.int (own_v0_78 i0 i1 i2 i3 i4)), .val (.int (own_v0_85 i0 i1 i2 i3 i4)), .val (.ref b7), .val (.int (own_ab (0 : Int32))), .val (.int (own_v0_113 i0 i1 i2 i3 i4)), .val (.int (1 : Int32)), .val (.int (own_v0_113 i0 i1 i2 i3 i4)), .unset] [(.int (own_ab ((own_ck (0 : Int32) (own_v0_78 i0 i1 i2 i3 i4) (0 : Int32) (128 : Int32) (191 : Int32) (((i0 &&& (255 : Int32)).toInt8.toInt32).toInt8.toInt32) ((((128 : Int32) ||| (i1 &&& (63 : Int32))).toInt8.toInt32).toInt8.toInt32) ((((128 : Int32) ||| (i2 &&& (63 : Int32))).toInt8.toInt32).toInt8.toInt32) ((((128 : Int32) ||| (i3 &&& (63 : Int32))).toInt8.toInt32).toInt8.toInt32) 5 (0 : Int32) (0 : Int32) (128 : Int32) (191 : Int32)).2.1)))])) (fun t kt => XS.icmpNo (g := (mkF m 147 #[.val (.int i0), .val (.int i1), .val (.int i2), .val (.int i3), .val (.int i4), .val (.int (i0 &&& (255 : Int32))), .val (.ref b1), .val (.int (own_v0_64 i0 i1 i2 i3 i4)), .val (.int (own_v0_78 i0 i1 i2 i3 i4)), .val (.int (own_v0_85 i0 i1 i2 i3 i4)), .val (.ref b7), .val (.int (own_ab (0 : Int32))), .val (.int (own_v0_113 i0 i1 i2 i3 i4)), .val (.int (1 : Int32)), .val (.int (own_v0_113 i0 i1 i2 i3 i4)), .unset] [(.int (own_v0_85 i0 i1 i2 i3 i4)), (.int (own_v0_78 i0 i1 i2 i3 i4)), (.int (own_ab ((own_ck (0 : Int32) (own_v0_78 i0 i1 i2 i3 i4) (0 : Int32) (128 : Int32) (191 : Int32) (((i0 &&& (255 : Int32)).toInt8.toInt32).toInt8.toInt32) ((((128 : Int32) ||| (i1 &&& (63 : Int32))).toInt8.toInt32).toInt8.toInt32) ((((128 : Int32) ||| (i2 &&& (63 : Int32))).toInt8.toInt32).toInt8.toInt32) ((((128 : Int32) ||| (i3 &&& (63 : Int32))).toInt8.toInt32).toInt8.toInt32) 5 (0 : Int32) (0 : Int32) (128 : Int32) (191 : Int32)).2.1)))])) X13.here hx rfl (hb hby at_147) rfl (Jvm.Free.XT.ii_ne_f hc17) kt) ?_
          refine ownE.go (T' := T13) (f' := (mkF m 155 #[.val (.int i0), .val (.int i1), .val (.int i2), .val (.int i3), .val (.int i4), .val (.int (i0 &&& (255 : Int32))), .val (.ref b1), .val (.int (own_v0_64 i0 i1 i2 i3 i4)), .val (.int (own_v0_78 i0 i1 i2 i3 i4)), .val (.int (own_v0_85 i0 i1 i2 i3 i4)), .val (.ref b7), .val (.int (own_ab (0 : Int32))), .val (.int (own_v0_113 i0 i1 i2 i3 i4)), .val (.int (1 : Int32)), .val (.int (own_v0_113 i0 i1 i2 i3 i4)), .unset] [(.int (1 : Int32)), (.int (own_ab ((own_ck (0 : Int32) (own_v0_78 i0 i1 i2 i3 i4) (0 : Int32) (128 : Int32) (191 : Int32) (((i0 &&& (255 : Int32)).toInt8.toInt32).toInt8.toInt32) ((((128 : Int32) ||| (i1 &&& (63 : Int32))).toInt8.toInt32).toInt8.toInt32) ((((128 : Int32) ||| (i2 &&& (63 : Int32))).toInt8.toInt32).toInt8.toInt32) ((((128 : Int32) ||| (i3 &&& (63 : Int32))).toInt8.toInt32).toInt8.toInt32) 5 (0 : Int32) (0 : Int32) (128 : Int32) (191 : Int32)).2.1)))])) (fun t kt => ?_) ?_
          · show Steps p.tables e below (T13.setTop (mkF m 150 #[.val (.int i0), .val (.int i1), .val (.int i2), .val (.int i3), .val (.int i4), .val (.int (i0 &&& (255 : Int32))), .val (.ref b1), .val (.int (own_v0_64 i0 i1 i2 i3 i4)), .val (.int (own_v0_78 i0 i1 i2 i3 i4)), .val (.int (own_v0_85 i0 i1 i2 i3 i4)), .val (.ref b7), .val (.int (own_ab (0 : Int32))), .val (.int (own_v0_113 i0 i1 i2 i3 i4)), .val (.int (1 : Int32)), .val (.int (own_v0_113 i0 i1 i2 i3 i4)), .unset] [(.int (own_ab ((own_ck (0 : Int32) (own_v0_78 i0 i1 i2 i3 i4) (0 : Int32) (128 : Int32) (191 : Int32) (((i0 &&& (255 : Int32)).toInt8.toInt32).toInt8.toInt32) ((((128 : Int32) ||| (i1 &&& (63 : Int32))).toInt8.toInt32).toInt8.toInt32) ((((128 : Int32) ||| (i2 &&& (63 : Int32))).toInt8.toInt32).toInt8.toInt32) ((((128 : Int32) ||| (i3 &&& (63 : Int32))).toInt8.toInt32).toInt8.toInt32) 5 (0 : Int32) (0 : Int32) (128 : Int32) (191 : Int32)).2.1)))])) _
            refine XS.iconst X13.here hx rfl (hb hby at_150) ?_
            show Steps p.tables e below (T13.setTop (mkF m 151 #[.val (.int i0), .val (.int i1), .val (.int i2), .val (.int i3), .val (.int i4), .val (.int (i0 &&& (255 : Int32))), .val (.ref b1), .val (.int (own_v0_64 i0 i1 i2 i3 i4)), .val (.int (own_v0_78 i0 i1 i2 i3 i4)), .val (.int (own_v0_85 i0 i1 i2 i3 i4)), .val (.ref b7), .val (.int (own_ab (0 : Int32))), .val (.int (own_v0_113 i0 i1 i2 i3 i4)), .val (.int (1 : Int32)), .val (.int (own_v0_113 i0 i1 i2 i3 i4)), .unset] [(.int (1 : Int32)), (.int (own_ab ((own_ck (0 : Int32) (own_v0_78 i0 i1 i2 i3 i4) (0 : Int32) (128 : Int32) (191 : Int32) (((i0 &&& (255 : Int32)).toInt8.toInt32).toInt8.toInt32) ((((128 : Int32) ||| (i1 &&& (63 : Int32))).toInt8.toInt32).toInt8.toInt32) ((((128 : Int32) ||| (i2 &&& (63 : Int32))).toInt8.toInt32).toInt8.toInt32) ((((128 : Int32) ||| (i3 &&& (63 : Int32))).toInt8.toInt32).toInt8.toInt32) 5 (0 : Int32) (0 : Int32) (128 : Int32) (191 : Int32)).2.1)))])) _
            refine XS.goto X13.here hx rfl (pc0 := 151) (pc' := 155) rfl (hb hby at_151) (by decide) (by decide) ?_
            exact kt
          have jj := J18 _ _ X13 e13 N13
          rw [show (own_j0_155_S0 i0 i1 i2 i3 i4) = (1 : Int32) from by rw [own_j0_155_S0, if_neg hc15, if_neg hc16, if_pos hc17]] at jj
          exact jj
        · -- pc 147
          refine ownE.go (T' := T13) (f' := (mkF m 154 #[.val (.int i0), .val (.int i1), .val (.int i2), .val (.int i3), .val (.int i4), .val (.int (i0 &&& (255 : Int32))), .val (.ref b1), .val (.int (own_v0_64 i0 i1 i2 i3 i4)), .val (.int (own_v0_78 i0 i1 i2 i3 i4)), .val (.int (own_v0_85 i0 i1 i2 i3 i4)), .val (.ref b7), .val (.int (own_ab (0 : Int32))), .val (.int (own_v0_113 i0 i1 i2 i3 i4)), .val (.int (1 : Int32)), .val (.int (own_v0_113 i0 i1 i2 i3 i4)), .unset] [(.int (own_ab ((own_ck (0 : Int32) (own_v0_78 i0 i1 i2 i3 i4) (0 : Int32) (128 : Int32) (191 : Int32) (((i0 &&& (255 : Int32)).toInt8.toInt32).toInt8.toInt32) ((((128 : Int32) ||| (i1 &&& (63 : Int32))).toInt8.toInt32).toInt8.toInt32) ((((128 : Int32) ||| (i2 &&& (63 : Int32))).toInt8.toInt32).toInt8.toInt32) ((((128 : Int32) ||| (i3 &&& (63 : Int32))).toInt8.toInt32).toInt8.toInt32) 5 (0 : Int32) (0 : Int32) (128 : Int32) (191 : Int32)).2.1)))])) (fun t kt => XS.icmpYes (g := (mkF m 147 #[.val (.int i0), .val (.int i1), .val (.int i2), .val (.int i3), .val (.int i4), .val (.int (i0 &&& (255 : Int32))), .val (.ref b1), .val (.int (own_v0_64 i0 i1 i2 i3 i4)), .val (.int (own_v0_78 i0 i1 i2 i3 i4)), .val (.int (own_v0_85 i0 i1 i2 i3 i4)), .val (.ref b7), .val (.int (own_ab (0 : Int32))), .val (.int (own_v0_113 i0 i1 i2 i3 i4)), .val (.int (1 : Int32)), .val (.int (own_v0_113 i0 i1 i2 i3 i4)), .unset] [(.int (own_v0_85 i0 i1 i2 i3 i4)), (.int (own_v0_78 i0 i1 i2 i3 i4)), (.int (own_ab ((own_ck (0 : Int32) (own_v0_78 i0 i1 i2 i3 i4) (0 : Int32) (128 : Int32) (191 : Int32) (((i0 &&& (255 : Int32)).toInt8.toInt32).toInt8.toInt32) ((((128 : Int32) ||| (i1 &&& (63 : Int32))).toInt8.toInt32).toInt8.toInt32) ((((128 : Int32) ||| (i2 &&& (63 : Int32))).toInt8.toInt32).toInt8.toInt32) ((((128 : Int32) ||| (i3 &&& (63 : Int32))).toInt8.toInt32).toInt8.toInt32) 5 (0 : Int32) (0 : Int32) (128 : Int32) (191 : Int32)).2.1)))])) X13.here hx rfl (pc0 := 147) (pc' := 154) rfl (hb hby at_147) rfl (Jvm.Free.XT.ii_ne_t hc17) (by decide) (by decide) kt) ?_
          refine ownE.go (T' := T13) (f' := (mkF m 155 #[.val (.int i0), .val (.int i1), .val (.int i2), .val (.int i3), .val (.int i4), .val (.int (i0 &&& (255 : Int32))), .val (.ref b1), .val (.int (own_v0_64 i0 i1 i2 i3 i4)), .val (.int (own_v0_78 i0 i1 i2 i3 i4)), .val (.int (own_v0_85 i0 i1 i2 i3 i4)), .val (.ref b7), .val (.int (own_ab (0 : Int32))), .val (.int (own_v0_113 i0 i1 i2 i3 i4)), .val (.int (1 : Int32)), .val (.int (own_v0_113 i0 i1 i2 i3 i4)), .unset] [(.int (0 : Int32)), (.int (own_ab ((own_ck (0 : Int32) (own_v0_78 i0 i1 i2 i3 i4) (0 : Int32) (128 : Int32) (191 : Int32) (((i0 &&& (255 : Int32)).toInt8.toInt32).toInt8.toInt32) ((((128 : Int32) ||| (i1 &&& (63 : Int32))).toInt8.toInt32).toInt8.toInt32) ((((128 : Int32) ||| (i2 &&& (63 : Int32))).toInt8.toInt32).toInt8.toInt32) ((((128 : Int32) ||| (i3 &&& (63 : Int32))).toInt8.toInt32).toInt8.toInt32) 5 (0 : Int32) (0 : Int32) (128 : Int32) (191 : Int32)).2.1)))])) (fun t kt => ?_) ?_
          · show Steps p.tables e below (T13.setTop (mkF m 154 #[.val (.int i0), .val (.int i1), .val (.int i2), .val (.int i3), .val (.int i4), .val (.int (i0 &&& (255 : Int32))), .val (.ref b1), .val (.int (own_v0_64 i0 i1 i2 i3 i4)), .val (.int (own_v0_78 i0 i1 i2 i3 i4)), .val (.int (own_v0_85 i0 i1 i2 i3 i4)), .val (.ref b7), .val (.int (own_ab (0 : Int32))), .val (.int (own_v0_113 i0 i1 i2 i3 i4)), .val (.int (1 : Int32)), .val (.int (own_v0_113 i0 i1 i2 i3 i4)), .unset] [(.int (own_ab ((own_ck (0 : Int32) (own_v0_78 i0 i1 i2 i3 i4) (0 : Int32) (128 : Int32) (191 : Int32) (((i0 &&& (255 : Int32)).toInt8.toInt32).toInt8.toInt32) ((((128 : Int32) ||| (i1 &&& (63 : Int32))).toInt8.toInt32).toInt8.toInt32) ((((128 : Int32) ||| (i2 &&& (63 : Int32))).toInt8.toInt32).toInt8.toInt32) ((((128 : Int32) ||| (i3 &&& (63 : Int32))).toInt8.toInt32).toInt8.toInt32) 5 (0 : Int32) (0 : Int32) (128 : Int32) (191 : Int32)).2.1)))])) _
            refine XS.iconst X13.here hx rfl (hb hby at_154) ?_
            exact kt
          have jj := J18 _ _ X13 e13 N13
          rw [show (own_j0_155_S0 i0 i1 i2 i3 i4) = (0 : Int32) from by rw [own_j0_155_S0, if_neg hc15, if_neg hc16, if_neg hc17]] at jj
          exact jj
  · -- pc 124
    refine ownE.go (T' := T10) (f' := (mkF m 178 #[.val (.int i0), .val (.int i1), .val (.int i2), .val (.int i3), .val (.int i4), .val (.int (i0 &&& (255 : Int32))), .val (.ref b1), .val (.int (own_v0_64 i0 i1 i2 i3 i4)), .val (.int (own_v0_78 i0 i1 i2 i3 i4)), .val (.int (own_v0_85 i0 i1 i2 i3 i4)), .val (.ref b7), .val (.int (own_ab (0 : Int32))), .val (.int (own_v0_113 i0 i1 i2 i3 i4)), .val (.int (1 : Int32)), .val (.int (own_v0_113 i0 i1 i2 i3 i4)), .unset] [])) (fun t kt => XS.ifYes (g := (mkF m 124 #[.val (.int i0), .val (.int i1), .val (.int i2), .val (.int i3), .val (.int i4), .val (.int (i0 &&& (255 : Int32))), .val (.ref b1), .val (.int (own_v0_64 i0 i1 i2 i3 i4)), .val (.int (own_v0_78 i0 i1 i2 i3 i4)), .val (.int (own_v0_85 i0 i1 i2 i3 i4)), .val (.ref b7), .val (.int (own_ab (0 : Int32))), .val (.int (own_v0_113 i0 i1 i2 i3 i4)), .val (.int (1 : Int32)), .val (.int (own_v0_113 i0 i1 i2 i3 i4)), .unset] [(.int (own_v0_113 i0 i1 i2 i3 i4))])) X10.here hx rfl (pc0 := 124) (pc' := 178) rfl (hb hby at_124) rfl (Jvm.Free.XT.i0_ge_t hc12) (by decide) (by decide) kt) ?_
    have jj := J23 _ _ _ X10 rfl N10 K10 cArv_b1_10 f10_0 (by rw [own_j0_178_pending, if_neg hc12]; exact f10_1) (by rw [own_j0_178_lowest, if_neg hc12]; exact f10_2) (by rw [own_j0_178_highest, if_neg hc12]; exact f10_3)
    rw [show (own_j0_178_L13 i0 i1 i2 i3 i4) = (1 : Int32) from by rw [own_j0_178_L13, if_neg hc12]] at jj
    rw [show (own_j0_178_L14 i0 i1 i2 i3 i4) = (own_v0_113 i0 i1 i2 i3 i4) from by rw [own_j0_178_L14, if_neg hc12]] at jj
    exact jj
def own_G (s m len b0 b1 b2 b3 : Int32) : Int32 :=
  if (own_ab (0 : Int32)) = (0 : Int32) then (0 : Int32)
  else
    if (if (own_ck 0 s 0 128 191 b0 b1 b2 b3 5 0 0 128 191).1 < (0 : Int32) then (if own_ab (own_ck 0 s 0 128 191 b0 b1 b2 b3 5 0 0 128 191).2.1 = (if len < (2 : Int32) then (1 : Int32) else if s = (0 : Int32) then (1 : Int32) else if s = len then (1 : Int32) else (0 : Int32)) then (1 : Int32) else (0 : Int32)) else (1 : Int32)) = (0 : Int32) then (0 : Int32)
    else
      if own_ab (if (own_ck 0 s 0 128 191 b0 b1 b2 b3 5 0 0 128 191).1 < (0 : Int32) then (own_ck s m (own_ck 0 s 0 128 191 b0 b1 b2 b3 5 0 0 128 191).2.1 (own_ck 0 s 0 128 191 b0 b1 b2 b3 5 0 0 128 191).2.2.1 (own_ck 0 s 0 128 191 b0 b1 b2 b3 5 0 0 128 191).2.2.2 b0 b1 b2 b3 5 s (own_ck 0 s 0 128 191 b0 b1 b2 b3 5 0 0 128 191).2.1 (own_ck 0 s 0 128 191 b0 b1 b2 b3 5 0 0 128 191).2.2.1 (own_ck 0 s 0 128 191 b0 b1 b2 b3 5 0 0 128 191).2.2.2).2.1 else (own_ck 0 s 0 128 191 b0 b1 b2 b3 5 0 0 128 191).2.1)
        = (if len < (2 : Int32) then (1 : Int32) else
            if (if (own_ck 0 s 0 128 191 b0 b1 b2 b3 5 0 0 128 191).1 < (0 : Int32) then (own_ck s m (own_ck 0 s 0 128 191 b0 b1 b2 b3 5 0 0 128 191).2.1 (own_ck 0 s 0 128 191 b0 b1 b2 b3 5 0 0 128 191).2.2.1 (own_ck 0 s 0 128 191 b0 b1 b2 b3 5 0 0 128 191).2.2.2 b0 b1 b2 b3 5 s (own_ck 0 s 0 128 191 b0 b1 b2 b3 5 0 0 128 191).2.1 (own_ck 0 s 0 128 191 b0 b1 b2 b3 5 0 0 128 191).2.2.1 (own_ck 0 s 0 128 191 b0 b1 b2 b3 5 0 0 128 191).2.2.2).1 else (own_ck 0 s 0 128 191 b0 b1 b2 b3 5 0 0 128 191).1) < (0 : Int32) then (if m = len then (1 : Int32) else (0 : Int32))
            else (if (if (own_ck 0 s 0 128 191 b0 b1 b2 b3 5 0 0 128 191).1 < (0 : Int32) then (own_ck s m (own_ck 0 s 0 128 191 b0 b1 b2 b3 5 0 0 128 191).2.1 (own_ck 0 s 0 128 191 b0 b1 b2 b3 5 0 0 128 191).2.2.1 (own_ck 0 s 0 128 191 b0 b1 b2 b3 5 0 0 128 191).2.2.2 b0 b1 b2 b3 5 s (own_ck 0 s 0 128 191 b0 b1 b2 b3 5 0 0 128 191).2.1 (own_ck 0 s 0 128 191 b0 b1 b2 b3 5 0 0 128 191).2.2.1 (own_ck 0 s 0 128 191 b0 b1 b2 b3 5 0 0 128 191).2.2.2).1 else (own_ck 0 s 0 128 191 b0 b1 b2 b3 5 0 0 128 191).1) = len then (1 : Int32) else (0 : Int32)))
      then (1 : Int32) else (0 : Int32)
theorem own_s0 (a b c d : Int32) : own_sel4 0 a b c d = a := rfl
theorem own_s1 (a b c d : Int32) : own_sel4 1 a b c d = b := rfl
theorem own_s2 (a b c d : Int32) : own_sel4 2 a b c d = c := rfl
theorem own_s3 (a b c d : Int32) : own_sel4 3 a b c d = d := rfl
def own_SM (s m : Int32) : Prop := (s = 0 ∨ s = 1 ∨ s = 2 ∨ s = 3 ∨ s = 4) ∧ (m = 1 ∨ m = 2 ∨ m = 3 ∨ m = 4) ∧ ¬ m < s
/-- a byte that goes on a sequence, as a first byte -/
theorem own_cont (x p a b : Int32) (h : ¬ (191 : Int32) < x) : own_ld x p a b = 0 ∧ own_lp x p a b = p ∧ own_ll x p a b = a ∧ own_lh x p a b = b := by
  have q : x < (194 : Int32) := by
    rw [Int32.lt_iff_toInt_lt] at *
    have z1 : (191 : Int32).toInt = 191 := by decide
    have z2 : (194 : Int32).toInt = 194 := by decide
    omega
  unfold own_ld own_lp own_ll own_lh
  rw [if_pos q, if_pos q, if_pos q, if_pos q]
  exact ⟨rfl, rfl, rfl, rfl⟩
set_option maxHeartbeats 4000000 in
theorem own_gA (s m len b0 b1 b2 b3 : Int32) (hsm : own_SM s m) (hl : len < 2) (h0 : (b0 &&& 255) < 128) (n1 : ¬ (b1 &&& 255) < 128) (k1 : ¬ (191 : Int32) < (b1 &&& 255)) : own_G s m len b0 b1 b2 b3 = 1 := by
  have d1 := fun p a b => (own_cont (b1 &&& 255) p a b k1).1
  have d2 := fun p a b => (own_cont (b1 &&& 255) p a b k1).2.1
  obtain ⟨hs, hm, hn⟩ := hsm
  rcases hs with rfl | rfl | rfl | rfl | rfl <;> rcases hm with rfl | rfl | rfl | rfl <;> first | (exact absurd (by decide) hn) | simp [own_G, own_ck, own_s0, own_s1, own_ab, h0, n1, d1, d2, hl]
set_option maxHeartbeats 4000000 in
theorem own_gB (s m len b0 b1 b2 b3 : Int32) (hsm : own_SM s m) (hl : len < 2) (h0 : ¬ (b0 &&& 255) < 128) (d0 : own_ld (b0 &&& 255) 0 128 191 = 0) (p0 : own_lp (b0 &&& 255) 0 128 191 = 0) : own_G s m len b0 b1 b2 b3 = 1 := by
  obtain ⟨hs, hm, hn⟩ := hsm
  rcases hs with rfl | rfl | rfl | rfl | rfl <;> rcases hm with rfl | rfl | rfl | rfl <;> first | (exact absurd (by decide) hn) | simp [own_G, own_ck, own_s0, own_ab, h0, d0, p0, hl]
set_option maxHeartbeats 4000000 in
theorem own_gC (s m len P lo hi b0 b1 b2 b3 : Int32) (hsm : own_SM s m) (hP : (P = 1 ∧ len = 2 ∧ lo = 128 ∧ hi = 191) ∨ (P = 2 ∧ len = 3) ∨ (P = 3 ∧ len = 4)) (h0 : ¬ (b0 &&& 255) < 128) (d0 : own_ld (b0 &&& 255) 0 128 191 = 1) (p0 : own_lp (b0 &&& 255) 0 128 191 = P) (l0 : own_ll (b0 &&& 255) 0 128 191 = lo) (g0 : own_lh (b0 &&& 255) 0 128 191 = hi)
    (n1 : ¬ (b1 &&& 255) < 128) (k1 : ¬ (191 : Int32) < (b1 &&& 255)) (n2 : ¬ (b2 &&& 255) < 128) (k2 : ¬ (191 : Int32) < (b2 &&& 255)) (n3 : ¬ (b3 &&& 255) < 128) (k3 : ¬ (191 : Int32) < (b3 &&& 255)) : own_G s m len b0 b1 b2 b3 = 1 := by
  have c2 := fun p a b => (own_cont (b2 &&& 255) p a b k2).1
  have c2p := fun p a b => (own_cont (b2 &&& 255) p a b k2).2.1
  have c3 := fun p a b => (own_cont (b3 &&& 255) p a b k3).1
  have c3p := fun p a b => (own_cont (b3 &&& 255) p a b k3).2.1
  obtain ⟨hs, hm, hn⟩ := hsm
  rcases hP with ⟨rfl, rfl, rfl, rfl⟩ | ⟨rfl, rfl⟩ | ⟨rfl, rfl⟩
  · rcases hs with rfl | rfl | rfl | rfl | rfl <;> rcases hm with rfl | rfl | rfl | rfl <;> first | (exact absurd (by decide) hn) | simp [own_G, own_ck, own_s0, own_s1, own_s2, own_s3, own_ab, h0, d0, p0, l0, g0, n1, k1, n2, k2, n3, k3, c2, c2p, c3, c3p]
  · by_cases f1 : (b1 &&& 255) < lo
    · rcases hs with rfl | rfl | rfl | rfl | rfl <;> rcases hm with rfl | rfl | rfl | rfl <;> first | (exact absurd (by decide) hn) | simp [own_G, own_ck, own_s0, own_s1, own_s2, own_s3, own_ab, h0, d0, p0, l0, g0, f1]
    by_cases f2 : hi < (b1 &&& 255)
    · rcases hs with rfl | rfl | rfl | rfl | rfl <;> rcases hm with rfl | rfl | rfl | rfl <;> first | (exact absurd (by decide) hn) | simp [own_G, own_ck, own_s0, own_s1, own_s2, own_s3, own_ab, h0, d0, p0, l0, g0, f1, f2]
    · rcases hs with rfl | rfl | rfl | rfl | rfl <;> rcases hm with rfl | rfl | rfl | rfl <;> first | (exact absurd (by decide) hn) | simp [own_G, own_ck, own_s0, own_s1, own_s2, own_s3, own_ab, h0, d0, p0, l0, g0, f1, f2, n2, k2, n3, k3, c3, c3p]
  · by_cases f1 : (b1 &&& 255) < lo
    · rcases hs with rfl | rfl | rfl | rfl | rfl <;> rcases hm with rfl | rfl | rfl | rfl <;> first | (exact absurd (by decide) hn) | simp [own_G, own_ck, own_s0, own_s1, own_s2, own_s3, own_ab, h0, d0, p0, l0, g0, f1]
    by_cases f2 : hi < (b1 &&& 255)
    · rcases hs with rfl | rfl | rfl | rfl | rfl <;> rcases hm with rfl | rfl | rfl | rfl <;> first | (exact absurd (by decide) hn) | simp [own_G, own_ck, own_s0, own_s1, own_s2, own_s3, own_ab, h0, d0, p0, l0, g0, f1, f2]
    · rcases hs with rfl | rfl | rfl | rfl | rfl <;> rcases hm with rfl | rfl | rfl | rfl <;> first | (exact absurd (by decide) hn) | simp [own_G, own_ck, own_s0, own_s1, own_s2, own_s3, own_ab, h0, d0, p0, l0, g0, f1, f2, n2, k2, n3, k3]
theorem own_byte {P : Int32 → Prop} (H : ∀ n : Fin 256, P (Int32.ofInt (n.val : Int))) (c : Int32) (h0 : 0 ≤ c.toInt) (h1 : c.toInt ≤ 255) : P c := by
  have h := H ⟨c.toInt.toNat, by omega⟩
  have e : ((c.toInt.toNat : Nat) : Int) = c.toInt := Int.toNat_of_nonneg h0
  rw [e, Int32.ofInt_toInt] at h
  exact h
theorem own_lead (x : Int32) (h0 : 0 ≤ x.toInt) (h1 : x.toInt ≤ 255) : (x < 128 ∧ own_len x < 2) ∨ (¬ x < 128 ∧ own_len x < 2 ∧ own_ld x 0 128 191 = 0 ∧ own_lp x 0 128 191 = 0) ∨ (¬ x < 128 ∧ own_ld x 0 128 191 = 1 ∧ ((own_lp x 0 128 191 = 1 ∧ own_len x = 2 ∧ own_ll x 0 128 191 = 128 ∧ own_lh x 0 128 191 = 191) ∨ (own_lp x 0 128 191 = 2 ∧ own_len x = 3) ∨ (own_lp x 0 128 191 = 3 ∧ own_len x = 4))) :=
  own_byte (P := fun x => (x < 128 ∧ own_len x < 2) ∨ (¬ x < 128 ∧ own_len x < 2 ∧ own_ld x 0 128 191 = 0 ∧ own_lp x 0 128 191 = 0) ∨ (¬ x < 128 ∧ own_ld x 0 128 191 = 1 ∧ ((own_lp x 0 128 191 = 1 ∧ own_len x = 2 ∧ own_ll x 0 128 191 = 128 ∧ own_lh x 0 128 191 = 191) ∨ (own_lp x 0 128 191 = 2 ∧ own_len x = 3) ∨ (own_lp x 0 128 191 = 3 ∧ own_len x = 4)))) (by decide +kernel) x h0 h1
theorem own_m255 (c : Int32) : (c &&& (255 : Int32)).toInt = c.toInt % 256 := c_mask c 255 8 (by decide) (by decide)
theorem own_cb (b : Int32) : ¬ (((((128 : Int32) ||| (b &&& (63 : Int32))).toInt8.toInt32).toInt8.toInt32) &&& 255) < (128 : Int32) ∧ ¬ (191 : Int32) < (((((128 : Int32) ||| (b &&& (63 : Int32))).toInt8.toInt32).toInt8.toInt32) &&& 255) := by
  have m := c_mask b 63 6 (by decide) (by decide)
  have p : ((2 ^ 6 : Nat) : Int) = 64 := by decide
  rw [p] at m
  have z : (128 : Int32).toInt = 128 := by decide
  have z' : (191 : Int32).toInt = 191 := by decide
  have o := c_or 128 (b &&& (63 : Int32)) 6 (by decide) 64 (by decide) (by rw [z]; decide) (by omega) (by omega)
  have r := rng32 ((128 : Int32) ||| (b &&& (63 : Int32)))
  have a1 := c_i2b ((128 : Int32) ||| (b &&& (63 : Int32)))
  have a2 := c_i2b (((128 : Int32) ||| (b &&& (63 : Int32))).toInt8.toInt32)
  rw [Int32.lt_iff_toInt_lt, Int32.lt_iff_toInt_lt, own_m255, z, z']
  omega
theorem own_ab0 (a : Int32) : ((((a &&& (255 : Int32)).toInt8.toInt32).toInt8.toInt32) &&& 255) = a &&& 255 := by
  apply Int32.toInt_inj.mp
  have h := own_m255 a
  have a1 := c_i2b (a &&& (255 : Int32))
  have a2 := c_i2b ((a &&& (255 : Int32)).toInt8.toInt32)
  rw [own_m255 ((a &&& (255 : Int32)).toInt8.toInt32.toInt8.toInt32)]
  omega
theorem own_sle (x : Int32) : ¬ ((1 : Int32) + (x &&& (3 : Int32))) < ((((x.toUInt32 >>> ((2 : Int32) &&& 31).toUInt32).toInt32) &&& (7 : Int32)) % ((1 : Int32) + (x &&& (3 : Int32)) + (1 : Int32))) := by
  have h := own_mb x
  generalize ((x.toUInt32 >>> ((2 : Int32) &&& 31).toUInt32).toInt32) = w
  have hw := c_mask w 7 3 (by decide) (by decide)
  have p : ((2 ^ 3 : Nat) : Int) = 8 := by decide
  rw [p] at hw
  generalize (1 : Int32) + (x &&& (3 : Int32)) = m at h ⊢
  have q := (c_iremV (w &&& 7) (m + 1)).1 (by omega) (by omega)
  rw [Int32.lt_iff_toInt_lt]
  omega
theorem own_five (x : Int32) (h0 : ¬ x < 0) (h4 : ¬ 4 < x) : x = 0 ∨ x = 1 ∨ x = 2 ∨ x = 3 ∨ x = 4 := by
  rw [Int32.lt_iff_toInt_lt] at h0 h4
  simp only [← Int32.toInt_inj]
  have z0 : (0 : Int32).toInt = 0 := by decide
  have z1 : (1 : Int32).toInt = 1 := by decide
  have z2 : (2 : Int32).toInt = 2 := by decide
  have z3 : (3 : Int32).toInt = 3 := by decide
  have z4 : (4 : Int32).toInt = 4 := by decide
  rw [z0, z1, z2, z3, z4]
  omega
theorem own_law (a b c d e : Int32) : own_f0 a b c d e = 1 := by
  have hsm : own_SM (own_v0_78 a b c d e) (own_v0_64 a b c d e) := by
    refine ⟨own_five _ (own_sb e).1 (own_sb e).2, ?_, own_sle e⟩
    have h := own_mb e
    have z0 : (0 : Int32).toInt = 0 := by decide
    have q := own_five (own_v0_64 a b c d e) (fun y => by
      rw [Int32.lt_iff_toInt_lt, z0] at y
      have : (own_v0_64 a b c d e).toInt = ((1 : Int32) + (e &&& (3 : Int32))).toInt := rfl
      omega) h.1
    rcases q with q | q
    · exfalso
      have : (own_v0_64 a b c d e).toInt = ((1 : Int32) + (e &&& (3 : Int32))).toInt := rfl
      rw [q, z0] at this
      omega
    · exact q
  show own_G (own_v0_78 a b c d e) (own_v0_64 a b c d e) (own_len (a &&& 255)) (((a &&& (255 : Int32)).toInt8.toInt32).toInt8.toInt32) ((((128 : Int32) ||| (b &&& (63 : Int32))).toInt8.toInt32).toInt8.toInt32) ((((128 : Int32) ||| (c &&& (63 : Int32))).toInt8.toInt32).toInt8.toInt32) ((((128 : Int32) ||| (d &&& (63 : Int32))).toInt8.toInt32).toInt8.toInt32) = 1
  have hx := own_m255 a
  rcases own_lead (a &&& 255) (by omega) (by omega) with ⟨h, hl⟩ | ⟨h, hl, h2, h3⟩ | ⟨h, h2, h3⟩
  · exact own_gA _ _ _ _ _ _ _ hsm hl (by rw [own_ab0]; exact h) (own_cb b).1 (own_cb b).2
  · exact own_gB _ _ _ _ _ _ _ hsm hl (by rw [own_ab0]; exact h) (by rw [own_ab0]; exact h2) (by rw [own_ab0]; exact h3)
  · refine own_gC _ _ _ (own_lp (a &&& 255) 0 128 191) (own_ll (a &&& 255) 0 128 191) (own_lh (a &&& 255) 0 128 191) _ _ _ _ hsm h3 (by rw [own_ab0]; exact h) (by rw [own_ab0]; exact h2) (by rw [own_ab0]) (by rw [own_ab0]) (by rw [own_ab0]) (own_cb b).1 (own_cb b).2 (own_cb c).1 (own_cb c).2 (own_cb d).1 (own_cb d).2

set_option maxRecDepth 65536 in
set_option maxHeartbeats 40000000 in
theorem comes_1 {Post : Tables → Env → Array Value → State → Outcome → State → Prop} (hpost : ∀ tb e args s v u, (limb_1_1.after args s (.returned v) u = true ∧ limb_1_2.after args s (.returned v) u = true ∧ True) → FrameEnd s (.returned v) u (Jvm.fieldLocs frame_1_writes args s ++ Jvm.arrayLocs frame_1_arrays args s ++ Jvm.staticLocs frame_1_statics s) 16 128 → Post tb e args s (.returned v) u) :
    ArmFor flags0 classFile x code maxLocals ret World_1 tables_1 room_1 Calls_1 rest_1 Pre_1 Post := by
  intro l hfl _ _ p e ha hc hk s m args below hf hA hF happ hP
  obtain ⟨hcalls, hrest, hpre⟩ := hP
  obtain ⟨-, -, -, hnamed, -, -, -, hat⟩ := (Spec.applies_iff hf).mp happ
  obtain ⟨hg, hn⟩ := and_e (Cond.before_iff.mp (show (Jvm.Cond.and given_1 narrow_1).before args s = true from hpre))
  obtain ⟨g1, g2⟩ := and_e hg
  obtain ⟨g3, g4⟩ := and_e g2
  obtain ⟨g5, g6⟩ := and_e g4
  obtain ⟨g7, g8⟩ := and_e g6
  obtain ⟨g9, g10⟩ := and_e g8
  obtain ⟨w0, w1, w2, w3, w4, rfl⟩ : ∃ w0 w1 w2 w3 w4 : Value, args = #[w0, w1, w2, w3, w4] := by
    have hs : args.size = 5 := by simpa [Cond.value, given_1] using g1
    obtain ⟨L⟩ := args
    match L, hs with
    | [w0, w1, w2, w3, w4], _ => exact ⟨w0, w1, w2, w3, w4, rfl⟩
  have hw := fun d (hd : d ∈ tables_1) => atoms_spec (ws := Jvm.Cond.code x code maxLocals ret :: tables_1) hat d (List.mem_cons_of_mem _ hd)
  have hfit : Fit s := fun {y c} hc i hi => by
    obtain ⟨ha, rfl⟩ := Array.getElem?_eq_some_iff.mp hc
    have q := List.all_eq_true.mp ((Array.all_eq_true_iff_forall_mem.mp hF) _ (Array.getElem_mem ha)) i (List.mem_range.mpr hi)
    simpa [Array.getElem?_eq_getElem hi] using q
  obtain ⟨i0, ei0⟩ := is_v g3
  obtain rfl : w0 = (.int i0) := Option.some.inj ei0
  obtain ⟨i1, ei1⟩ := is_v g5
  obtain rfl : w1 = (.int i1) := Option.some.inj ei1
  obtain ⟨i2, ei2⟩ := is_v g7
  obtain rfl : w2 = (.int i2) := Option.some.inj ei2
  obtain ⟨i3, ei3⟩ := is_v g9
  obtain rfl : w3 = (.int i3) := Option.some.inj ei3
  obtain ⟨i4, ei4⟩ := is_v g10
  obtain rfl : w4 = (.int i4) := Option.some.inj ei4
  obtain ⟨n, o, h1, h2, h3, _, L, rfl, ⟨rfl, N, -⟩, hq⟩ := own_rm0 l s _ hw tables_1 i0 i1 i2 i3 i4  s.heap s.heap.size (Nat.le_refl _)  p e ha hc hk s m _ below hf ((Spec.applies_iff_loose hf).mp happ).1 ⟨rfl, State.Warmed39.refl s, rfl⟩ trivial
  refine ⟨n, _, h1, h2, h3, hpost _ _ _ _ _ _ ⟨Cond.after_iff.mpr rfl, Cond.after_iff.mpr (eq_i res_at (Term.int_eval (1)) (congrArg Value.int (own_law i0 i1 i2 i3 i4))), trivial⟩ ⟨hq.1, hq.2.1, (hq.2.2.sift fun y hy => Or.inr (N y hy)).mono (by decide) (by decide)⟩⟩
theorem main_1_1 : Claimed_1_1 := comes_1 fun _ _ _ _ _ _ h hF => ⟨h.1, hF⟩
theorem main_1_2 : Claimed_1_2 := comes_1 fun _ _ _ _ _ _ h hF => ⟨h.2.1, hF⟩
end Jvm.Pilot.@@N@@
namespace Jvm.Pilot.@@N@@
open Jvm Jvm.ClassFile Sem Op Lib Jvm.Free Jvm.Stand Jvm.Pilot.@@N@@.Jvm.D
/-! MADE BY PROGRAM (witnessworld.py) out of the Statement's table words and the real class files: 9 classes; the members and pool entries that the words name. The judged class is class 1, her method 2. -/
namespace start1
open Jvm.ClassFile
def u (s : String) : CpInfo := .utf8 (stringToUtf16 s)
/-- a pool by its gaps: so many unusable entries, then the entry; so many at the end -/
def gap : Nat → List CpInfo → List CpInfo
  | 0, r => r
  | n + 1, r => .unusable :: gap n r
def poolList (es : List (Nat × CpInfo)) (last : Nat) : List CpInfo := es.foldr (fun e r => gap e.1 (e.2 :: r)) (gap last [])
def pool (es : List (Nat × CpInfo)) (last : Nat) : Array CpInfo := ⟨poolList es last⟩
def fileOf (pool : Array CpInfo) (this : Nat) (attrs : Array Attribute := #[]) (ms : Array MethodInfo := #[]) (fl : Nat := 33) (sup : Nat := 0) (ifs : Array Nat := #[]) (fds : Array FieldInfo := #[]) : ClassFile where
  minorVersion := 0
  majorVersion := 65
  constantPool := pool
  accessFlags := fl
  thisClass := this
  superClass := sup
  interfaces := ifs
  fields := fds
  methods := ms
  attributes := attrs
def plain (name : String) (sup : Option ClassId) : Class where
  name := name
  kind := .ordinary
  loader := none
  accessFlags := 33
  super := sup
  interfaces := #[]
  cf := none
  fields := #[]
  methods := #[]
  instanceTypes := #[]
  staticTypes := #[]
  resolved := #[]
  callSites := []
  init := .initialized
  statics := none
  mirror := none

def pool0 : Array CpInfo := pool [(5, u "<init>"), (0, u "()V"), (1, .class_ 10), (1, u "java/lang/Object")] 113

def k0c0 : Code := { maxStack := 0, maxLocals := 1, code := object_method_1_code, exceptionTable := #[], attributes := #[] }
def k0m0 : Method := { name := "<init>", desc := "()V", sig := { parameters := [], returnType := none }, accessFlags := 1, code := some k0c0 }
/-- java/lang/Object -/
def k0 : Class := { plain "java/lang/Object" none with
  accessFlags := 33
  interfaces := #[]
  cf := some (fileOf pool0 8 #[] #[{ accessFlags := 1, nameIndex := 5, descriptorIndex := 6, attributes := #[] }] 33 0 #[] #[])
  fields := #[]
  methods := #[k0m0]
  instanceTypes := #[]
  staticTypes := #[]
  resolved := Array.replicate 124 none
  statics := none }

def pool1 : Array CpInfo := pool [(2, .class_ 4), (0, .nameAndType 5 6), (0, u "java/lang/Object"), (0, u "<init>"), (0, u "()V"), (0, .methodref 8 9), (0, .class_ 10), (0, .nameAndType 11 12), (0, u "com/example/marrow/marrow/Utf8CheckerAtBoundaryPinLaw"), (0, u "seqLen"), (0, u "(I)I"), (0, .class_ 14), (0, u "com/example/marrow/marrow/Utf8Checker"), (0, .methodref 13 3), (0, .methodref 13 17), (0, .nameAndType 18 19), (0, u "atBoundary"), (0, u "()Z"), (0, .methodref 13 21), (0, .nameAndType 22 23), (0, u "check"), (0, u "([BII)I"), (3, u "law"), (0, u "(IIIII)Z")] 4

def k1m0 : Method := { name := "<init>", desc := "()V", sig := { parameters := [], returnType := none }, accessFlags := 1, code := none }
def k1c1 : Code := { maxStack := 2, maxLocals := 1, code := method_2_code, exceptionTable := #[], attributes := #[] }
def k1m1 : Method := { name := "seqLen", desc := "(I)I", sig := { parameters := [.int], returnType := some .int }, accessFlags := 10, code := some k1c1 }
def k1c2 : Code := { maxStack := 5, maxLocals := 16, code := code, exceptionTable := #[], attributes := #[] }
def k1m2 : Method := { name := "law", desc := "(IIIII)Z", sig := { parameters := [.int, .int, .int, .int, .int], returnType := some .boolean }, accessFlags := 9, code := some k1c2 }
/-- com/example/marrow/marrow/Utf8CheckerAtBoundaryPinLaw -/
def k1 : Class := { plain "com/example/marrow/marrow/Utf8CheckerAtBoundaryPinLaw" (some 0) with
  accessFlags := 49
  interfaces := #[]
  cf := some (fileOf pool1 8 #[] #[{ accessFlags := 1, nameIndex := 5, descriptorIndex := 6, attributes := #[] }, { accessFlags := 10, nameIndex := 11, descriptorIndex := 12, attributes := #[] }, { accessFlags := 9, nameIndex := 27, descriptorIndex := 28, attributes := #[] }] 49 2 #[] #[])
  fields := #[]
  methods := #[k1m0, k1m1, k1m2]
  instanceTypes := #[]
  staticTypes := #[]
  resolved := Array.replicate 33 none
  statics := none }

def pool2 : Array CpInfo := pool [(1, .methodref 2 3), (0, .class_ 4), (0, .nameAndType 5 6), (0, u "java/lang/Object"), (0, u "<init>"), (0, u "()V"), (0, .fieldref 8 9), (0, .class_ 10), (0, .nameAndType 11 12), (0, u "com/example/marrow/marrow/Utf8Checker"), (0, u "lowest"), (0, u "I"), (0, .fieldref 8 14), (0, .nameAndType 15 12), (0, u "highest"), (3, u "check"), (0, u "([BII)I"), (2, u "atBoundary"), (0, u "()Z"), (19, .fieldref 8 45), (0, .nameAndType 46 12), (0, u "pending"), (0, .methodref 8 48), (0, .nameAndType 49 50), (0, u "lead"), (0, u "(I)Z")] 7

def k2c0 : Code := { maxStack := 2, maxLocals := 1, code := prog_50_method_1_code, exceptionTable := #[], attributes := #[] }
def k2m0 : Method := { name := "<init>", desc := "()V", sig := { parameters := [], returnType := none }, accessFlags := 0, code := some k2c0 }
def k2c1 : Code := { maxStack := 3, maxLocals := 6, code := prog_50_method_5_code, exceptionTable := #[], attributes := #[] }
def k2m1 : Method := { name := "check", desc := "([BII)I", sig := { parameters := [(.array .byte), .int, .int], returnType := some .int }, accessFlags := 0, code := some k2c1 }
def k2c2 : Code := { maxStack := 1, maxLocals := 1, code := prog_50_method_6_code, exceptionTable := #[], attributes := #[] }
def k2m2 : Method := { name := "atBoundary", desc := "()Z", sig := { parameters := [], returnType := some .boolean }, accessFlags := 0, code := some k2c2 }
def k2c3 : Code := { maxStack := 2, maxLocals := 3, code := prog_50_method_7_code, exceptionTable := #[], attributes := #[] }
def k2m3 : Method := { name := "lead", desc := "(I)Z", sig := { parameters := [.int], returnType := some .boolean }, accessFlags := 2, code := some k2c3 }
/-- com/example/marrow/marrow/Utf8Checker -/
def k2 : Class := { plain "com/example/marrow/marrow/Utf8Checker" (some 0) with
  accessFlags := 48
  interfaces := #[]
  cf := some (fileOf pool2 8 #[] #[{ accessFlags := 0, nameIndex := 5, descriptorIndex := 6, attributes := #[] }, { accessFlags := 0, nameIndex := 19, descriptorIndex := 20, attributes := #[] }, { accessFlags := 0, nameIndex := 23, descriptorIndex := 24, attributes := #[] }, { accessFlags := 2, nameIndex := 49, descriptorIndex := 50, attributes := #[] }] 48 2 #[] #[{ accessFlags := 2, nameIndex := 46, descriptorIndex := 12, attributes := #[] }, { accessFlags := 2, nameIndex := 11, descriptorIndex := 12, attributes := #[] }, { accessFlags := 2, nameIndex := 15, descriptorIndex := 12, attributes := #[] }])
  fields := #[{ name := "pending", type := .int, accessFlags := 2, slot := 0, constantValue := 0 }, { name := "lowest", type := .int, accessFlags := 2, slot := 1, constantValue := 0 }, { name := "highest", type := .int, accessFlags := 2, slot := 2, constantValue := 0 }]
  methods := #[k2m0, k2m1, k2m2, k2m3]
  instanceTypes := #[.int, .int, .int]
  staticTypes := #[]
  resolved := Array.replicate 58 none
  statics := none }

def pool3 : Array CpInfo := pool [(1, u "java/lang/Cloneable"), (0, .class_ 1), (0, u "java/lang/Object"), (0, .class_ 3)] 3

/-- java/lang/Cloneable -/
def k3 : Class := { plain "java/lang/Cloneable" (some 0) with
  accessFlags := 1537
  interfaces := #[]
  cf := some (fileOf pool3 2 #[] #[] 1537 4 #[] #[])
  fields := #[]
  methods := #[]
  instanceTypes := #[]
  staticTypes := #[]
  resolved := Array.replicate 8 none
  statics := none }

def pool4 : Array CpInfo := pool [(1, u "java/io/Serializable"), (0, .class_ 1), (0, u "java/lang/Object"), (0, .class_ 3)] 3

/-- java/io/Serializable -/
def k4 : Class := { plain "java/io/Serializable" (some 0) with
  accessFlags := 1537
  interfaces := #[]
  cf := some (fileOf pool4 2 #[] #[] 1537 4 #[] #[])
  fields := #[]
  methods := #[]
  instanceTypes := #[]
  staticTypes := #[]
  resolved := Array.replicate 8 none
  statics := none }

/-- the primitive byte -/
def k5 : Class := { plain "byte" none with kind := .primitive 'B', accessFlags := 0x411 }
/-- [B -/
def k6 : Class := { plain "[B" (some 0) with kind := .array 5 .byte, interfaces := #[3, 4], accessFlags := 1041 }

/-- the primitive int -/
def k7 : Class := { plain "int" none with kind := .primitive 'I', accessFlags := 0x411 }
/-- [I -/
def k8 : Class := { plain "[I" (some 0) with kind := .array 7 .int, interfaces := #[3, 4], accessFlags := 1041 }

def heap : Heap := #[]
def classes : Array Class := #[k0, k1, k2, k3, k4, k5, k6, k7, k8]
def interned : List (Array UInt16 × Addr) := []
def slotsUsed : Nat := 0
def theMethod : MethodId := ⟨1, 2⟩
def args0 : Array Value := #[.int 5, .int 5, .int 5, .int 5, .int 5]
def aboutOver (below : List Frame) : State where
  vm := { classes := classes, interned := interned.toArray }
  heap := heap
  slotsUsed := slotsUsed
  threads := #[{ frames := .invoking theMethod args0 :: below }]
def below0 : List Frame := [.native { method := ⟨0, 0⟩, args := #[] }]
def about1 : State := aboutOver below0
def p0 : Program := .bare "" "" ""
def e0 : Env := launch0.env 0 0 0
theorem w_frames : about1.frames = Frame.invoking theMethod args0 :: below0 := rfl
set_option maxRecDepth 65536 in
theorem w_args : argsFit about1.vm theMethod args0 = true := by decide +kernel
set_option maxRecDepth 65536 in
theorem w_heap : heapFits about1 = true := by decide +kernel
set_option maxRecDepth 65536 in
theorem w_runnable : about1.curStatus? = some .runnable := by decide +kernel
set_option maxRecDepth 65536 in
theorem w_alone : about1.alone = true := by decide +kernel
set_option maxRecDepth 65536 in
theorem w_named : about1.methodNamed? x = some theMethod := by decide +kernel
set_option maxRecDepth 65536 in
theorem w_hears : about1.hears theMethod below0 = true := by decide +kernel
set_option maxRecDepth 65536 in
theorem w_ripe : about1.ripe theMethod args0 below0 = true := by decide +kernel
theorem w_running : about1.status = .running := rfl
set_option maxRecDepth 65536 in
theorem w_room : about1.hasRoom e0.platform room_1 = true :=
  launch0.hasRoom_least _ room_1 (by decide +kernel) (by decide +kernel) (by decide +kernel) (by decide +kernel) (by decide +kernel) (by decide +kernel)
theorem allAtoms_all (ts : List Jvm.Cond) (a : Array Jvm.Value) (st : Jvm.State) : (allAtoms ts).before a st = ts.all (fun c => c.before a st) := by
  induction ts with
  | nil => rfl
  | cons c t ih =>
    show (Jvm.Cond.and c (allAtoms t)).before a st = _
    rw [Jvm.Cond.before_and, ih, List.all_cons]
def words1 : List Jvm.Cond := Jvm.Cond.code x code maxLocals ret :: tables_1
/-- a 'code' word, met by the world's own term for the bytes: nothing is compared byte by byte -/
theorem code_word {y : MethodName} {bytes : ByteArray} {mx : Nat} {rt : Option FieldType} {a : Array Value} {s : State} {m : MethodId} {meth : Method} {c : Code} (h1 : s.methodNamed? y = some m) (h2 : s.vm.method? m = some meth) (h3 : meth.code = some c) (h4 : c.code = bytes)
    (h5 : (c.maxLocals == mx && c.exceptionTable.isEmpty && decide (c.maxStack ≤ mostOperands) && decide (meth.sig.returnType = rt) && !meth.locks && decide (parseMethodDescriptor y.desc = some meth.sig)) = true) : (Jvm.Cond.code y bytes mx rt).before a s = true := by
  simp only [Bool.and_eq_true, beq_iff_eq, Bool.not_eq_true', decide_eq_true_eq] at h5
  obtain ⟨⟨⟨⟨⟨g1, g2⟩, g3⟩, g4⟩, g5⟩, g6⟩ := h5
  simp [Cond.before, Cond.holds, Cond.value, h1, h2, h3, h4, g1, g2, g3, g4, g5, g6]
def isCode : Jvm.Cond → Bool
  | .code _ _ _ _ => true
  | _ => false
theorem all_split {L : List Jvm.Cond} {P : Jvm.Cond → Bool} (h1 : L.all (fun c => isCode c || P c) = true) (h2 : ∀ c ∈ L.filter isCode, P c = true) : L.all P = true := by
  refine List.all_eq_true.mpr fun c hc => ?_
  have h := List.all_eq_true.mp h1 c hc
  rcases Bool.eq_false_or_eq_true (isCode c) with hi | hi
  · exact h2 c (List.mem_filter.mpr ⟨hc, hi⟩)
  · simpa [hi] using h
set_option maxRecDepth 65536 in
theorem w_c0 : (Jvm.Cond.code x code maxLocals ret).before args0 about1 = true := code_word (m := ⟨1, 2⟩) (meth := k1m2) (c := k1c2) (by decide +kernel) rfl rfl rfl (by decide +kernel)
set_option maxRecDepth 65536 in
theorem w_c1 : (Jvm.Cond.code ({ cls := "com/example/marrow/marrow/Utf8CheckerAtBoundaryPinLaw", name := "seqLen", desc := "(I)I" } : Jvm.MethodName) method_2_code (1 : Nat) (Option.some Jvm.ClassFile.FieldType.int)).before args0 about1 = true := code_word (m := ⟨1, 1⟩) (meth := k1m1) (c := k1c1) (by decide +kernel) rfl rfl rfl (by decide +kernel)
set_option maxRecDepth 65536 in
theorem w_c2 : (Jvm.Cond.code ({ cls := "com/example/marrow/marrow/Utf8Checker", name := "<init>", desc := "()V" } : Jvm.MethodName) prog_50_method_1_code (1 : Nat) (Option.none : Option Jvm.ClassFile.FieldType)).before args0 about1 = true := code_word (m := ⟨2, 0⟩) (meth := k2m0) (c := k2c0) (by decide +kernel) rfl rfl rfl (by decide +kernel)
set_option maxRecDepth 65536 in
theorem w_c3 : (Jvm.Cond.code ({ cls := "java/lang/Object", name := "<init>", desc := "()V" } : Jvm.MethodName) object_method_1_code (1 : Nat) (Option.none : Option Jvm.ClassFile.FieldType)).before args0 about1 = true := code_word (m := ⟨0, 0⟩) (meth := k0m0) (c := k0c0) (by decide +kernel) rfl rfl rfl (by decide +kernel)
set_option maxRecDepth 65536 in
theorem w_c4 : (Jvm.Cond.code ({ cls := "com/example/marrow/marrow/Utf8Checker", name := "atBoundary", desc := "()Z" } : Jvm.MethodName) prog_50_method_6_code (1 : Nat) (Option.some Jvm.ClassFile.FieldType.boolean)).before args0 about1 = true := code_word (m := ⟨2, 2⟩) (meth := k2m2) (c := k2c2) (by decide +kernel) rfl rfl rfl (by decide +kernel)
set_option maxRecDepth 65536 in
theorem w_c5 : (Jvm.Cond.code ({ cls := "com/example/marrow/marrow/Utf8Checker", name := "check", desc := "([BII)I" } : Jvm.MethodName) prog_50_method_5_code (6 : Nat) (Option.some Jvm.ClassFile.FieldType.int)).before args0 about1 = true := code_word (m := ⟨2, 1⟩) (meth := k2m1) (c := k2c1) (by decide +kernel) rfl rfl rfl (by decide +kernel)
set_option maxRecDepth 65536 in
theorem w_c6 : (Jvm.Cond.code ({ cls := "com/example/marrow/marrow/Utf8Checker", name := "lead", desc := "(I)Z" } : Jvm.MethodName) prog_50_method_7_code (3 : Nat) (Option.some Jvm.ClassFile.FieldType.boolean)).before args0 about1 = true := code_word (m := ⟨2, 3⟩) (meth := k2m3) (c := k2c3) (by decide +kernel) rfl rfl rfl (by decide +kernel)
def codes1 : List Jvm.Cond := [Jvm.Cond.code x code maxLocals ret, Jvm.Cond.code ({ cls := "com/example/marrow/marrow/Utf8CheckerAtBoundaryPinLaw", name := "seqLen", desc := "(I)I" } : Jvm.MethodName) method_2_code (1 : Nat) (Option.some Jvm.ClassFile.FieldType.int), Jvm.Cond.code ({ cls := "com/example/marrow/marrow/Utf8Checker", name := "<init>", desc := "()V" } : Jvm.MethodName) prog_50_method_1_code (1 : Nat) (Option.none : Option Jvm.ClassFile.FieldType), Jvm.Cond.code ({ cls := "java/lang/Object", name := "<init>", desc := "()V" } : Jvm.MethodName) object_method_1_code (1 : Nat) (Option.none : Option Jvm.ClassFile.FieldType), Jvm.Cond.code ({ cls := "com/example/marrow/marrow/Utf8Checker", name := "atBoundary", desc := "()Z" } : Jvm.MethodName) prog_50_method_6_code (1 : Nat) (Option.some Jvm.ClassFile.FieldType.boolean), Jvm.Cond.code ({ cls := "com/example/marrow/marrow/Utf8Checker", name := "check", desc := "([BII)I" } : Jvm.MethodName) prog_50_method_5_code (6 : Nat) (Option.some Jvm.ClassFile.FieldType.int), Jvm.Cond.code ({ cls := "com/example/marrow/marrow/Utf8Checker", name := "lead", desc := "(I)Z" } : Jvm.MethodName) prog_50_method_7_code (3 : Nat) (Option.some Jvm.ClassFile.FieldType.boolean)]
set_option maxRecDepth 65536 in
theorem codes_eq : words1.filter isCode = codes1 := rfl
theorem w_codes : ∀ c ∈ words1.filter isCode, c.before args0 about1 = true := by
  rw [codes_eq]
  intro c hc
  simp only [codes1, List.mem_cons, List.not_mem_nil, or_false] at hc
  rcases hc with rfl | rfl | rfl | rfl | rfl | rfl | rfl
  · exact w_c0
  · exact w_c1
  · exact w_c2
  · exact w_c3
  · exact w_c4
  · exact w_c5
  · exact w_c6
set_option maxRecDepth 65536 in
theorem w_t1 : (words1.take 24).all (fun c => isCode c || c.before args0 about1) = true := by decide +kernel
set_option maxRecDepth 65536 in
theorem w_t2 : (words1.drop 24).all (fun c => isCode c || c.before args0 about1) = true := by decide +kernel
theorem w_tables : (allAtoms (Jvm.Cond.code x code maxLocals ret :: tables_1)).before args0 about1 = true := by
  rw [allAtoms_all]
  show words1.all (fun c => c.before args0 about1) = true
  refine all_split ?_ w_codes
  rw [← List.take_append_drop 24 words1, List.all_append, w_t1, w_t2]
  rfl
set_option maxRecDepth 65536 in
theorem w_case : (Jvm.Cond.and given_1 narrow_1).before args0 about1 = true := by decide +kernel
theorem w_applies : (headSpec (Jvm.Cond.code x code maxLocals ret :: tables_1) room_1).applies x e0.platform about1 = true :=
  (Spec.applies_iff w_frames).mpr ⟨w_running, w_runnable, w_alone, w_named, w_hears, w_ripe, w_room, w_tables⟩
theorem atStart : AtStart classFile x code maxLocals ret World_1 tables_1 room_1 Calls_1 rest_1 Pre_1 launch0 p0 e0 about1 theMethod args0 below0 :=
  ⟨lists_1, trivial, launch0.admits_env _ _ _, launch0.least_env, fairChoices_fair.cas, fairChoices_fair.clock, w_frames, w_args, w_heap, w_applies, trivial, trivial, w_case⟩
end start1
theorem witness_1 : WitnessClaimed_1 := ⟨start1.p0, start1.e0, start1.about1, start1.theMethod, start1.args0, start1.below0, start1.atStart⟩
end Jvm.Pilot.@@N@@
