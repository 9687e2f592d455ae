import JvmDerived
import JvmDerived.Pilot.@@N@@Statement
import JvmDerived.Pilot.@@N@@Code
set_option linter.unusedVariables false
set_option linter.unusedSimpArgs false
namespace Jvm.RoadKit
open Sem ClassFile Op Lib Jvm.Stand Jvm.Free Jvm.LawKit
section New
variable {p : Program} {l : Launch} {e : Env} {R : Room} {s : State} {m : MethodId} {args : Array Value} {below : List Frame} {meth : Method} {c : Code} {T : State} {locs : List Loc} {cells slots : Nat}
theorem retI (X : Stand p l e R s m args below meth c T locs cells slots) (hx : p.tables.exec = Jvm.exec) {pc : Nat} {Ls : Array Slot} {z : Int32} {rest : List Value} (hret : meth.sig.returnType = some .int) (hd : decode c.code pc = .ok (.ireturn, 1)) {fs : List Frame}
    (hl : ∀ (f : JFrame) (acts : List Action), f.method = m → f.locked = none → f.entered = [] → (doReturn e (T.setTop f) acts (some (.int z))).1 = T.setFrames fs) : Steps p.tables e below (T.setTop (mkF m pc Ls (.int z :: rest))) (T.setFrames fs) := by
  have hm' : T.vm.method? m = some meth := X.method'
  have hn : narrow .int (.int z) = .int z := rfl
  show Steps p.tables e below (T.setTop { method := m, pc := pc, locals := Ls, stack := _ :: rest, locked := none }) _
  jvm_step X.here [X.here.top, hx, hd, hm', hret, hn]
  first | (intro acts; rw [hl _ acts rfl rfl rfl]) | rw [hl _ _ rfl rfl rfl]
  exact Steps.refl _
end New
/-! the walk in continuation form: from the state T at the frame f the run ends by a return, as Q says -/
section Own
variable {p : Program} {l : Launch} {e : Env} {R : Room} {s : State} {m : MethodId} {args : Array Value} {below : List Frame} {meth : Method} {c : Code} {T T' : State} {locs : List Loc} {cells slots k n : Nat} {Q : Option Value → Heap → List Loc → Prop} {f f' : JFrame}
def ownE (p : Program) (e : Env) (below : List Frame) (s : State) (Q : Option Value → Heap → List Loc → Prop) (k n : Nat) (T : State) (f : JFrame) : Prop :=
  ∃ s₂ o, Steps p.tables e below (T.setTop f) s₂ ∧ s₂.status = .running ∧ Ended s₂ below o ∧ ∃ v L, o = .returned v ∧ Q v s₂.heap L ∧ FrameEnd s o s₂ L k n
theorem ownE.go (g : ∀ t, Steps p.tables e below (T'.setTop f') t → Steps p.tables e below (T.setTop f) t) (h : ownE p e below s Q k n T' f') : ownE p e below s Q k n T f := by
  obtain ⟨s₂, o, h1, r⟩ := h
  exact ⟨s₂, o, g _ h1, r⟩
theorem ownE.goS (g : Steps p.tables e below (T.setTop f) (T'.setTop f')) (h : ownE p e below s Q k n T' f') : ownE p e below s Q k n T f := by
  obtain ⟨s₂, o, h1, r⟩ := h
  exact ⟨s₂, o, g.trans h1, r⟩
theorem ownE.ret (X : Stand p l e R s m args below meth c T locs cells slots) {v : Option Value} (hlk : meth.locks = false) (hv : meth.sig.returnType = none → v = none)
    (st : ∀ fs, (∀ (f : JFrame) (acts : List Action), f.method = m → f.locked = none → f.entered = [] → (doReturn e (T.setTop f) acts v).1 = T.setFrames fs) → Steps p.tables e below (T.setTop f) (T.setFrames fs))
    (hQ : Q v T.heap locs) (hk : cells ≤ k) (hn : slots ≤ n) : ownE p e below s Q k n T f := by
  obtain ⟨fs, hr, hrun, hended, hW, hsame⟩ := X.leave (v := v) hv hlk
  exact ⟨_, _, st fs hr, hrun, hended, _, _, rfl, hQ, ⟨_, rfl⟩, hW, hsame.mono hk hn⟩
theorem ownE.retI (X : Stand p l e R s m args below meth c T locs cells slots) (hx : p.tables.exec = Jvm.exec) (hlk : meth.locks = false) {pc : Nat} {Ls : Array Slot} {z : Int32} {rest : List Value} (hret : meth.sig.returnType = some .int) (hd : decode c.code pc = .ok (.ireturn, 1))
    (hQ : Q (some (.int z)) T.heap locs) (hk : cells ≤ k) (hn : slots ≤ n) : ownE p e below s Q k n T (mkF m pc Ls (.int z :: rest)) :=
  ownE.ret X hlk (fun h => by rw [hret] at h; cases h) (fun fs hr => Jvm.RoadKit.retI X hx hret hd hr) hQ hk hn
theorem ownE.retN (X : Stand p l e R s m args below meth c T locs cells slots) (hx : p.tables.exec = Jvm.exec) (hlk : meth.locks = false) {pc : Nat} {Ls : Array Slot} {z : Int32} {rest : List Value} {t : FieldType} (hret : meth.sig.returnType = some t) (ht : t = .boolean ∨ t = .byte ∨ t = .char ∨ t = .short) (hd : decode c.code pc = .ok (.ireturn, 1))
    (hQ : Q (some (.int (nar t z))) T.heap locs) (hk : cells ≤ k) (hn : slots ≤ n) : ownE p e below s Q k n T (mkF m pc Ls (.int z :: rest)) :=
  ownE.ret X hlk (fun h => by rw [hret] at h; cases h) (fun fs hr => Jvm.RoadKit.retN X hx hret ht hd hr) hQ hk hn
theorem ownE.retL (X : Stand p l e R s m args below meth c T locs cells slots) (hx : p.tables.exec = Jvm.exec) (hlk : meth.locks = false) {pc : Nat} {Ls : Array Slot} {z : Int64} {rest : List Value} (hret : meth.sig.returnType = some .long) (hd : decode c.code pc = .ok (.lreturn, 1))
    (hQ : Q (some (.long z)) T.heap locs) (hk : cells ≤ k) (hn : slots ≤ n) : ownE p e below s Q k n T (mkF m pc Ls (.long z :: rest)) :=
  ownE.ret X hlk (fun h => by rw [hret] at h; cases h) (fun fs hr => Jvm.RoadKit.retOut X hx hret rfl (Or.inr (Or.inl ⟨rfl, rfl, z, rfl⟩)) hd hr) hQ hk hn
theorem ownE.retA (X : Stand p l e R s m args below meth c T locs cells slots) (hx : p.tables.exec = Jvm.exec) (hlk : meth.locks = false) {pc : Nat} {Ls : Array Slot} {z : Value} {rest : List Value} {t : FieldType} (hret : meth.sig.returnType = some t) (ht : t.isReference = true) (hz : z.isRef = true) (hn' : narrow t z = z) (hd : decode c.code pc = .ok (.areturn, 1))
    (hQ : Q (some z) T.heap locs) (hk : cells ≤ k) (hn : slots ≤ n) : ownE p e below s Q k n T (mkF m pc Ls (z :: rest)) :=
  ownE.ret X hlk (fun h => by rw [hret] at h; cases h) (fun fs hr => Jvm.RoadKit.retOut X hx hret hn' (Or.inr (Or.inr (Or.inr (Or.inr ⟨rfl, ht, hz⟩)))) hd hr) hQ hk hn
theorem ownE.retV (X : Stand p l e R s m args below meth c T locs cells slots) (hx : p.tables.exec = Jvm.exec) (hlk : meth.locks = false) {pc : Nat} {Ls : Array Slot} (hret : meth.sig.returnType = none) (hd : decode c.code pc = .ok (.return_, 1))
    (hQ : Q none T.heap locs) (hk : cells ≤ k) (hn : slots ≤ n) : ownE p e below s Q k n T (mkF m pc Ls []) :=
  ownE.ret X hlk (fun _ => rfl) (fun fs hr => X.returnOut hx hret hd hr) hQ hk hn
end Own
theorem own_eqV {u : Term} {args : Array Value} {Z : State} {x k : Int32} (e : u.eval args Z none [] Z = some (.int x)) : (Jvm.Cond.eq u (.int k)).value args Z none Z [] = some (decide (x = k)) := by
  have ek : (Term.int k).eval args Z none [] Z = some (.int k) := Term.int_eval k
  simp only [Cond.value]
  rw [e, ek]
theorem own_selP {s : State} {args : Array Value} {y : MethodName} {n : Nat} (wi : (Cond.instantiable y.cls n).before args s = true) (hi : (Cond.instanceMethod y).before args s = true) (hp : s.PrivateAt y) (hy : y.cls ≠ "java/lang/invoke/MethodHandle" ∧ y.cls ≠ "java/lang/invoke/VarHandle") : (Cond.selects y.cls y y).before args s = true := by
  obtain ⟨c, k, h1, h2, -, h4, -⟩ := Cond.instantiable_spec wi
  exact selects_self_of_private h1 h2 (by simp at h4; exact h4.1) hp hi hy
end Jvm.RoadKit
namespace Jvm.Pilot.@@N@@
open Jvm Jvm.ClassFile Sem Op Lib Jvm.Free Jvm.Stand Jvm.LawKit Jvm.RoadKit Bundle Jvm.Pilot.@@N@@.Jvm.D
theorem own_d2_0 : decode jdk_43_method_3_code 0 = .ok (.iload_n 0, 1) := by decide +kernel
theorem own_d2_1 : decode jdk_43_method_3_code 1 = .ok (.sipush 255, 3) := by decide +kernel
theorem own_d2_4 : decode jdk_43_method_3_code 4 = .ok (.if_icmp .gt 7, 3) := by decide +kernel
theorem own_d2_7 : decode jdk_43_method_3_code 7 = .ok (.iconst 1, 1) := by decide +kernel
theorem own_d2_8 : decode jdk_43_method_3_code 8 = .ok (.goto 4, 3) := by decide +kernel
theorem own_d2_11 : decode jdk_43_method_3_code 11 = .ok (.iconst 0, 1) := by decide +kernel
theorem own_d2_12 : decode jdk_43_method_3_code 12 = .ok (.ireturn, 1) := by decide +kernel
theorem own_pn0 : plainName "java/lang/StringLatin1" = true := by first | (simp [plainName, overriddenIn]; done) | decide +kernel
theorem own_ef2 (m : MethodId) (x0 : Int32) : entryFrame m #[(.int x0)] 1 = mkF m 0 #[.val (.int x0)] [] := by first | (simp [entryFrame, mkF, argsToLocals, Value.category]; done) | rfl
def own_ce (i0 : Int32) : Int32 :=
  if (255 : Int32) < i0 then
    (0 : Int32)
  else
    (1 : Int32)
def own_Q2 (Z : State) (i0 : Int32) (h0 : Heap) (n0 : Nat) (v : Option Value) (h : Heap) (L : List Loc) : Prop := v = some (.int (own_ce i0)) ∧ Fr n0 L ∧ h = h0
set_option maxRecDepth 65536 in
set_option maxHeartbeats 40000000 in
theorem own_rm2 (l : Launch) (Z : State) (a0 : Array Value) (hw : ∀ d ∈ tables_1, d.before a0 Z = true) (ws : List Jvm.Cond) (i0 : Int32) (h0 : Heap) (n0 : Nat) (Z0 : n0 ≤ h0.size) :
    MetFree l (⟨"java/lang/StringLatin1", "canEncode", "(C)Z"⟩ : MethodName) (head1 (Jvm.Cond.code (⟨"java/lang/StringLatin1", "canEncode", "(C)Z"⟩ : MethodName) jdk_43_method_3_code 1 (some .boolean) :: ws) ({ frames := 0, cells := 0, slots := 0, locals := 0 } : Room)) (fun a U => a = #[(.int i0)] ∧ Z.Warmed39 U.vm ∧ U.heap = h0) (fun _ _ _ _ _ => True) (fun _ U o U' => ∃ v L, o = .returned v ∧ own_Q2 Z i0 h0 n0 v U'.heap L ∧ FrameEnd U o U' L ({ frames := 0, cells := 0, slots := 0, locals := 0 } : Room).cells ({ frames := 0, cells := 0, slots := 0, locals := 0 } : Room).slots) := by
  refine MetFree.of_bodySF (plainFor_of_name own_pn0) hisR ?_
  intro p e s m args below meth c s₁ Bd hml0 hP hK
  obtain ⟨rfl, hZ, hh⟩ := hP
  have hx := Bd.exec
  have hby := Bd.bytes
  have hret := Bd.returns
  have hlk := BodyLoose.notSynchronized Bd
  have hml : c.maxLocals = 1 := hml0
  have hown : s.vm.findClass "java/lang/StringLatin1" = some m.cls := findClass_of_methodNamed Bd.named
  have hnm := (name_of_methodNamed Bd.named Bd.method).1
  have X0 : Stand p l e ({ frames := 0, cells := 0, slots := 0, locals := 0 } : Room) s m #[(.int i0)] below meth c s₁ [] 0 0 := Stand.of_body Bd
  have e0 : s₁.heap = h0 := by rw [← hh, Bd.state]; rfl
  have N0 := Fr.nil n0
  have K0 : Keep h0 h0 [] := Keep.refl h0 _
  show ownE p e below s (own_Q2 Z i0 h0 n0) ({ frames := 0, cells := 0, slots := 0, locals := 0 } : Room).cells ({ frames := 0, cells := 0, slots := 0, locals := 0 } : Room).slots s₁ (entryFrame m #[(.int i0)] 1)
  rw [own_ef2]
  refine ownE.go (T' := s₁) (f' := (mkF m 4 #[.val (.int i0)] [(.int (255 : Int32)), (.int i0)])) (fun t kt => ?_) ?_
  · show Steps p.tables e below (s₁.setTop (mkF m 0 #[.val (.int i0)] [])) _
    refine XS.iloadN X0.here hx rfl (hb hby own_d2_0) rfl ?_
    show Steps p.tables e below (s₁.setTop (mkF m 1 #[.val (.int i0)] [(.int i0)])) _
    refine XS.sipush X0.here hx rfl (hb hby own_d2_1) ?_
    exact kt
  by_cases hc1 : (255 : Int32) < i0
  · -- pc 4
    refine ownE.go (T' := s₁) (f' := (mkF m 11 #[.val (.int i0)] [])) (fun t kt => XS.icmpYes (g := (mkF m 4 #[.val (.int i0)] [(.int (255 : Int32)), (.int i0)])) X0.here hx rfl (pc0 := 4) (pc' := 11) rfl (hb hby own_d2_4) rfl (Jvm.Free.XT.ii_gt_t hc1) (by decide) (by decide) kt) ?_
    refine ownE.go (T' := s₁) (f' := (mkF m 12 #[.val (.int i0)] [(.int (0 : Int32))])) (fun t kt => ?_) ?_
    · show Steps p.tables e below (s₁.setTop (mkF m 11 #[.val (.int i0)] [])) _
      refine XS.iconst X0.here hx rfl (hb hby own_d2_11) ?_
      exact kt
    refine ownE.retN X0 hx hlk (t := .boolean) hret (by simp) (hb hby own_d2_12) ?_ (by decide) (by decide)
    show own_Q2 Z i0 h0 n0 _ s₁.heap _
    rw [e0]
    exact ⟨(by rw [own_ce, if_pos hc1] <;> first | rfl | decide), N0, rfl⟩
  · -- pc 4
    refine ownE.go (T' := s₁) (f' := (mkF m 7 #[.val (.int i0)] [])) (fun t kt => XS.icmpNo (g := (mkF m 4 #[.val (.int i0)] [(.int (255 : Int32)), (.int i0)])) X0.here hx rfl (hb hby own_d2_4) rfl (Jvm.Free.XT.ii_gt_f hc1) kt) ?_
    refine ownE.go (T' := s₁) (f' := (mkF m 12 #[.val (.int i0)] [(.int (1 : Int32))])) (fun t kt => ?_) ?_
    · show Steps p.tables e below (s₁.setTop (mkF m 7 #[.val (.int i0)] [])) _
      refine XS.iconst X0.here hx rfl (hb hby own_d2_7) ?_
      show Steps p.tables e below (s₁.setTop (mkF m 8 #[.val (.int i0)] [(.int (1 : Int32))])) _
      refine XS.goto X0.here hx rfl (pc0 := 8) (pc' := 12) rfl (hb hby own_d2_8) (by decide) (by decide) ?_
      exact kt
    refine ownE.retN X0 hx hlk (t := .boolean) hret (by simp) (hb hby own_d2_12) ?_ (by decide) (by decide)
    show own_Q2 Z i0 h0 n0 _ s₁.heap _
    rw [e0]
    exact ⟨(by rw [own_ce, if_neg hc1] <;> first | rfl | decide), N0, rfl⟩
theorem own_ce_nz {x : Int32} (h : ¬ (255 : Int32) < x) : ¬ (own_ce x) = (0 : Int32) := by rw [own_ce, if_neg h]; decide
theorem own_d3_0 : decode jdk_43_method_46_code 0 = .ok (.iconst 1, 1) := by decide +kernel
theorem own_d3_1 : decode jdk_43_method_46_code 1 = .ok (.newarray .byte, 2) := by decide +kernel
theorem own_d3_3 : decode jdk_43_method_46_code 3 = .ok (.dup, 1) := by decide +kernel
theorem own_d3_4 : decode jdk_43_method_46_code 4 = .ok (.iconst 0, 1) := by decide +kernel
theorem own_d3_5 : decode jdk_43_method_46_code 5 = .ok (.iload_n 0, 1) := by decide +kernel
theorem own_d3_6 : decode jdk_43_method_46_code 6 = .ok (.i2b, 1) := by decide +kernel
theorem own_d3_7 : decode jdk_43_method_46_code 7 = .ok (.bastore, 1) := by decide +kernel
theorem own_d3_8 : decode jdk_43_method_46_code 8 = .ok (.areturn, 1) := by decide +kernel
theorem own_ef3 (m : MethodId) (x0 : Int32) : entryFrame m #[(.int x0)] 1 = mkF m 0 #[.val (.int x0)] [] := by first | (simp [entryFrame, mkF, argsToLocals, Value.category]; done) | rfl
def own_Q3 (Z : State) (i0 : Int32) (h0 : Heap) (n0 : Nat) (v : Option Value) (h : Heap) (L : List Loc) : Prop := ∃ ab : Addr, v = some (.ref ab) ∧ Fr n0 L ∧ Keep h0 h [] ∧ h0.size ≤ ab
set_option maxRecDepth 65536 in
set_option maxHeartbeats 40000000 in
theorem own_rm3 (l : Launch) (Z : State) (a0 : Array Value) (hw : ∀ d ∈ tables_1, d.before a0 Z = true) (ws : List Jvm.Cond) (i0 : Int32) (h0 : Heap) (n0 : Nat) (Z0 : n0 ≤ h0.size) :
    MetFree l (⟨"java/lang/StringLatin1", "toBytes", "(C)[B"⟩ : MethodName) (head1 (Jvm.Cond.code (⟨"java/lang/StringLatin1", "toBytes", "(C)[B"⟩ : MethodName) jdk_43_method_46_code 1 (some (.array .byte)) :: ws) ({ frames := 0, cells := 1, slots := 1, locals := 0 } : Room)) (fun a U => a = #[(.int i0)] ∧ Z.Warmed39 U.vm ∧ U.heap = h0) (fun _ _ _ _ _ => True) (fun _ U o U' => ∃ v L, o = .returned v ∧ own_Q3 Z i0 h0 n0 v U'.heap L ∧ FrameEnd U o U' L ({ frames := 0, cells := 1, slots := 1, locals := 0 } : Room).cells ({ frames := 0, cells := 1, slots := 1, locals := 0 } : Room).slots) := by
  refine MetFree.of_bodySF (plainFor_of_name own_pn0) hisR ?_
  intro p e s m args below meth c s₁ Bd hml0 hP hK
  obtain ⟨rfl, hZ, hh⟩ := hP
  have hx := Bd.exec
  have hby := Bd.bytes
  have hret := Bd.returns
  have hlk := BodyLoose.notSynchronized Bd
  have hml : c.maxLocals = 1 := hml0
  have hown : s.vm.findClass "java/lang/StringLatin1" = some m.cls := findClass_of_methodNamed Bd.named
  have hnm := (name_of_methodNamed Bd.named Bd.method).1
  have X0 : Stand p l e ({ frames := 0, cells := 1, slots := 1, locals := 0 } : Room) s m #[(.int i0)] below meth c s₁ [] 0 0 := Stand.of_body Bd
  have e0 : s₁.heap = h0 := by rw [← hh, Bd.state]; rfl
  have N0 := Fr.nil n0
  have K0 : Keep h0 h0 [] := Keep.refl h0 _
  show ownE p e below s (own_Q3 Z i0 h0 n0) ({ frames := 0, cells := 1, slots := 1, locals := 0 } : Room).cells ({ frames := 0, cells := 1, slots := 1, locals := 0 } : Room).slots s₁ (entryFrame m #[(.int i0)] 1)
  rw [own_ef3]
  refine ownE.go (T' := s₁) (f' := (mkF m 1 #[.val (.int i0)] [(.int (1 : Int32))])) (fun t kt => ?_) ?_
  · show Steps p.tables e below (s₁.setTop (mkF m 0 #[.val (.int i0)] [])) _
    refine XS.iconst X0.here hx rfl (hb hby own_d3_0) ?_
    exact kt
  obtain ⟨T1, h1, k1, X1, e1, E1, A1, st1⟩ := newP X0 hx hZ (hw _ (List.mem_of_getElem? (i := 14) rfl)) e0 (g := (mkF m 1 #[.val (.int i0)] [(.int (1 : Int32))])) rfl (hb hby own_d3_1) rfl (by decide) (cap := 1) (by decide) (by decide) (by decide) (by decide)
  obtain ⟨b1, g1⟩ : ∃ z, z = h0.size := ⟨_, rfl⟩
  rw [← g1] at A1 st1
  have sz_b1 : h0.size ≤ b1 := Nat.le_trans K0.1 (Nat.le_of_eq g1.symm)
  have ge_b1 : n0 ≤ b1 := Nat.le_trans Z0 sz_b1
  have V1 : Arv Z h1 b1 k1 .byte (1 : Int32) [(.int (0 : Int32))] (.int (0 : Int32)) := (Arv.new A1 (by decide)).pad (pad_rep [] (.int (0 : Int32)) 1)
  have K1 : Keep h0 h1 [] := K0.ext E1
  refine ownE.go (T' := T1) (f' := (mkF m 3 #[.val (.int i0)] [(.ref b1)])) st1 ?_
  refine ownE.go (T' := T1) (f' := (mkF m 7 #[.val (.int i0)] [(.int (i0.toInt8.toInt32)), (.int (0 : Int32)), (.ref b1), (.ref b1)])) (fun t kt => ?_) ?_
  · show Steps p.tables e below (T1.setTop (mkF m 3 #[.val (.int i0)] [(.ref b1)])) _
    refine XS.dup X1.here hx rfl (hb hby own_d3_3) rfl rfl ?_
    show Steps p.tables e below (T1.setTop (mkF m 4 #[.val (.int i0)] [(.ref b1), (.ref b1)])) _
    refine XS.iconst X1.here hx rfl (hb hby own_d3_4) ?_
    show Steps p.tables e below (T1.setTop (mkF m 5 #[.val (.int i0)] [(.int (0 : Int32)), (.ref b1), (.ref b1)])) _
    refine XS.iloadN X1.here hx rfl (hb hby own_d3_5) rfl ?_
    show Steps p.tables e below (T1.setTop (mkF m 6 #[.val (.int i0)] [(.int i0), (.int (0 : Int32)), (.ref b1), (.ref b1)])) _
    refine XS.i2b X1.here hx rfl (hb hby own_d3_6) rfl ?_
    exact kt
  obtain ⟨cl2, Ar2, q2, S2, Nn2, Hh2, G2⟩ := id V1
  have hin2 : ¬ ((0 : Int32) < 0 ∨ cl2.slots.size ≤ ((0 : Int32)).toNatClampNeg) := inb_of S2 ⟨by decide, by decide⟩
  obtain ⟨T2, h2, X2, e2, W2, st2⟩ := stB X1 hx hZ e1 Ar2 (j := (0 : Int32)) hin2 (g := (mkF m 7 #[.val (.int i0)] [(.int (i0.toInt8.toInt32)), (.int (0 : Int32)), (.ref b1), (.ref b1)])) rfl rfl (hb hby own_d3_7)
  have V2 : Arv Z h2 b1 k1 .byte (1 : Int32) [(.int ((i0.toInt8.toInt32).toInt8.toInt32))] (.int (0 : Int32)) := Arv.set Ar2 q2 S2 Nn2 Hh2 G2 (fits_nar_byte _) W2 0 rfl (Nat.le_of_ble_eq_true rfl)
  have K2 : Keep h0 h2 [] := K1.wr W2 (Or.inr sz_b1)
  have N2 := Fr.snoc X2 N0 ge_b1
  refine ownE.go (T' := T2) (f' := (mkF m 8 #[.val (.int i0)] [(.ref b1)])) st2 ?_
  refine ownE.retA X2 hx hlk hret rfl rfl rfl (hb hby own_d3_8) ?_ (by decide) (by decide)
  show own_Q3 Z i0 h0 n0 _ T2.heap _
  rw [e2]
  exact ⟨b1, rfl, N2, K2, sz_b1⟩
theorem own_d4_0 : decode jdk_42_method_151_code 0 = .ok (.aload_n 0, 1) := by decide +kernel
theorem own_d4_1 : decode jdk_42_method_151_code 1 = .ok (.invokespecial 1, 3) := by decide +kernel
theorem own_d4_4 : decode jdk_42_method_151_code 4 = .ok (.aload_n 0, 1) := by decide +kernel
theorem own_d4_5 : decode jdk_42_method_151_code 5 = .ok (.aload_n 1, 1) := by decide +kernel
theorem own_d4_6 : decode jdk_42_method_151_code 6 = .ok (.putfield 9, 3) := by decide +kernel
theorem own_d4_9 : decode jdk_42_method_151_code 9 = .ok (.aload_n 0, 1) := by decide +kernel
theorem own_d4_10 : decode jdk_42_method_151_code 10 = .ok (.iload_n 2, 1) := by decide +kernel
theorem own_d4_11 : decode jdk_42_method_151_code 11 = .ok (.putfield 15, 3) := by decide +kernel
theorem own_d4_14 : decode jdk_42_method_151_code 14 = .ok (.return_, 1) := by decide +kernel
theorem own_pn1 : plainName "java/lang/String" = true := by first | (simp [plainName, overriddenIn]; done) | decide +kernel
theorem own_ef4 (m : MethodId) (x0 : Addr) (x1 : Addr) : entryFrame m #[(.ref x0), (.ref x1), (.int (0 : Int32))] 3 = mkF m 0 #[.val (.ref x0), .val (.ref x1), .val (.int (0 : Int32))] [] := by first | (simp [entryFrame, mkF, argsToLocals, Value.category]; done) | rfl
def own_Q4 (Z : State) (r0 : Addr) (r1 : Addr) (h0 : Heap) (n0 : Nat) (v : Option Value) (h : Heap) (L : List Loc) : Prop := v = none ∧ Fr n0 L ∧ Keep h0 h [r0] ∧ Exa Z h r0 "java/lang/String" ∧ Fld Z h r0 "java/lang/String" "value" "[B" (.ref r1) ∧ Fld Z h r0 "java/lang/String" "coder" "B" (.int (0 : Int32))
set_option maxRecDepth 65536 in
set_option maxHeartbeats 40000000 in
theorem own_rm4 (l : Launch) (Z : State) (a0 : Array Value) (hw : ∀ d ∈ tables_1, d.before a0 Z = true) (ws : List Jvm.Cond) (r0 : Addr) (r1 : Addr) (h0 : Heap) (n0 : Nat) (Z0 : n0 ≤ h0.size) (P0 : Fld Z h0 r0 "java/lang/String" "value" "[B" .null) (P1 : Fld Z h0 r0 "java/lang/String" "coder" "B" (.int (0 : Int32))) (P2 : Exa Z h0 r0 "java/lang/String") (P3 : n0 ≤ r0) :
    MetFree l (⟨"java/lang/String", "<init>", "([BB)V"⟩ : MethodName) (head1 (Jvm.Cond.code (⟨"java/lang/String", "<init>", "([BB)V"⟩ : MethodName) jdk_42_method_151_code 3 none :: ws) ({ frames := 1, cells := 0, slots := 0, locals := 12 } : Room)) (fun a U => a = #[(.ref r0), (.ref r1), (.int (0 : Int32))] ∧ Z.Warmed39 U.vm ∧ U.heap = h0) (fun _ _ _ _ _ => True) (fun _ U o U' => ∃ v L, o = .returned v ∧ own_Q4 Z r0 r1 h0 n0 v U'.heap L ∧ FrameEnd U o U' L ({ frames := 1, cells := 0, slots := 0, locals := 12 } : Room).cells ({ frames := 1, cells := 0, slots := 0, locals := 12 } : Room).slots) := by
  refine MetFree.of_bodySF (plainFor_of_name own_pn1) hisR ?_
  intro p e s m args below meth c s₁ Bd hml0 hP hK
  obtain ⟨rfl, hZ, hh⟩ := hP
  have hx := Bd.exec
  have hby := Bd.bytes
  have hret := Bd.returns
  have hlk := BodyLoose.notSynchronized Bd
  have hml : c.maxLocals = 3 := hml0
  have hown : s.vm.findClass "java/lang/String" = some m.cls := findClass_of_methodNamed Bd.named
  have hnm := (name_of_methodNamed Bd.named Bd.method).1
  have X0 : Stand p l e ({ frames := 1, cells := 0, slots := 0, locals := 12 } : Room) s m #[(.ref r0), (.ref r1), (.int (0 : Int32))] below meth c s₁ [] 0 0 := Stand.of_body Bd
  have e0 : s₁.heap = h0 := by rw [← hh, Bd.state]; rfl
  have N0 := Fr.nil n0
  have K0 : Keep h0 h0 [r0] := Keep.refl h0 _
  show ownE p e below s (own_Q4 Z r0 r1 h0 n0) ({ frames := 1, cells := 0, slots := 0, locals := 12 } : Room).cells ({ frames := 1, cells := 0, slots := 0, locals := 12 } : Room).slots s₁ (entryFrame m #[(.ref r0), (.ref r1), (.int (0 : Int32))] 3)
  rw [own_ef4]
  refine ownE.go (T' := s₁) (f' := (mkF m 1 #[.val (.ref r0), .val (.ref r1), .val (.int (0 : Int32))] [(.ref r0)])) (fun t kt => ?_) ?_
  · show Steps p.tables e below (s₁.setTop (mkF m 0 #[.val (.ref r0), .val (.ref r1), .val (.int (0 : Int32))] [])) _
    refine XS.aloadN X0.here hx rfl (hb hby own_d4_0) rfl rfl ?_
    exact kt
  obtain ⟨T1, X1, e1, st1⟩ := initO X0 hx hZ hown (hw _ (List.mem_of_getElem? (i := 19) rfl)) (hw _ (List.mem_of_getElem? (i := 20) rfl)) (hw _ (List.mem_of_getElem? (i := 21) rfl)) e0 (g := (mkF m 1 #[.val (.ref r0), .val (.ref r1), .val (.int (0 : Int32))] [(.ref r0)])) rfl (by rw [hml]; rfl) rfl (hb hby own_d4_1) (by decide) (W := 0) (by show 2 * 0 + _ ≤ _; exact Nat.le_of_eq rfl) (by decide)
  refine ownE.go (T' := T1) (f' := (mkF m 4 #[.val (.ref r0), .val (.ref r1), .val (.int (0 : Int32))] [])) st1 ?_
  refine ownE.go (T' := T1) (f' := (mkF m 6 #[.val (.ref r0), .val (.ref r1), .val (.int (0 : Int32))] [(.ref r1), (.ref r0)])) (fun t kt => ?_) ?_
  · show Steps p.tables e below (T1.setTop (mkF m 4 #[.val (.ref r0), .val (.ref r1), .val (.int (0 : Int32))] [])) _
    refine XS.aloadN X1.here hx rfl (hb hby own_d4_4) rfl rfl ?_
    show Steps p.tables e below (T1.setTop (mkF m 5 #[.val (.ref r0), .val (.ref r1), .val (.int (0 : Int32))] [(.ref r0)])) _
    refine XS.aloadN X1.here hx rfl (hb hby own_d4_5) rfl rfl ?_
    exact kt
  obtain ⟨T2, h2, X2, e2, W2, st2⟩ := putF X1 hx hZ hown (host := "") (Or.inl (hw _ (List.mem_of_getElem? (i := 22) rfl))) Via.refl e1 P0 P2 (Or.inr ⟨(hw _ (List.mem_of_getElem? (i := 23) rfl)), rfl, hnm⟩) (hw _ (List.mem_of_getElem? (i := 10) rfl)) (ty := (.array .byte)) (by decide) rfl rfl (g := (mkF m 6 #[.val (.ref r0), .val (.ref r1), .val (.int (0 : Int32))] [(.ref r1), (.ref r0)])) rfl rfl (hb hby own_d4_6)
  have Fw2 : Fld Z h2 r0 "java/lang/String" "value" "[B" (.ref r1) := P0.same W2
  have cFld_r0_coder_2 : Fld Z h2 r0 "java/lang/String" "coder" "B" (.int (0 : Int32)) := P1.other W2 (Or.inr (slot_ne (Or.inr (hw _ (List.mem_of_getElem? (i := 25) rfl))) (Or.inr (hw _ (List.mem_of_getElem? (i := 23) rfl))) (by decide) (t := .byte) (t' := (.array .byte)) (by decide) (by decide)))
  have cExa_r0_2 : Exa Z h2 r0 "java/lang/String" := P2.wr W2
  have K2 : Keep h0 h2 [r0] := K0.wr W2 (Or.inl (List.mem_of_getElem? (i := 0) rfl))
  have N2 := Fr.snoc X2 N0 P3
  refine ownE.go (T' := T2) (f' := (mkF m 9 #[.val (.ref r0), .val (.ref r1), .val (.int (0 : Int32))] [])) st2 ?_
  refine ownE.go (T' := T2) (f' := (mkF m 11 #[.val (.ref r0), .val (.ref r1), .val (.int (0 : Int32))] [(.int (0 : Int32)), (.ref r0)])) (fun t kt => ?_) ?_
  · show Steps p.tables e below (T2.setTop (mkF m 9 #[.val (.ref r0), .val (.ref r1), .val (.int (0 : Int32))] [])) _
    refine XS.aloadN X2.here hx rfl (hb hby own_d4_9) rfl rfl ?_
    show Steps p.tables e below (T2.setTop (mkF m 10 #[.val (.ref r0), .val (.ref r1), .val (.int (0 : Int32))] [(.ref r0)])) _
    refine XS.iloadN X2.here hx rfl (hb hby own_d4_10) rfl ?_
    exact kt
  obtain ⟨T3, h3, X3, e3, W3, st3⟩ := putF X2 hx hZ hown (host := "") (Or.inl (hw _ (List.mem_of_getElem? (i := 24) rfl))) Via.refl e2 cFld_r0_coder_2 cExa_r0_2 (Or.inr ⟨(hw _ (List.mem_of_getElem? (i := 25) rfl)), rfl, hnm⟩) (hw _ (List.mem_of_getElem? (i := 10) rfl)) (ty := .byte) (by decide) rfl rfl (g := (mkF m 11 #[.val (.ref r0), .val (.ref r1), .val (.int (0 : Int32))] [(.int (0 : Int32)), (.ref r0)])) rfl rfl (hb hby own_d4_11)
  have Fw3 : Fld Z h3 r0 "java/lang/String" "coder" "B" (.int (0 : Int32)) := cFld_r0_coder_2.same W3
  have cFld_r0_value_3 : Fld Z h3 r0 "java/lang/String" "value" "[B" (.ref r1) := Fw2.other W3 (Or.inr (slot_ne (Or.inr (hw _ (List.mem_of_getElem? (i := 23) rfl))) (Or.inr (hw _ (List.mem_of_getElem? (i := 25) rfl))) (by decide) (t := (.array .byte)) (t' := .byte) (by decide) (by decide)))
  have cExa_r0_3 : Exa Z h3 r0 "java/lang/String" := cExa_r0_2.wr W3
  have K3 : Keep h0 h3 [r0] := K2.wr W3 (Or.inl (List.mem_of_getElem? (i := 0) rfl))
  have N3 := Fr.snoc X3 N2 P3
  refine ownE.go (T' := T3) (f' := (mkF m 14 #[.val (.ref r0), .val (.ref r1), .val (.int (0 : Int32))] [])) st3 ?_
  refine ownE.retV X3 hx hlk hret (hb hby own_d4_14) ?_ (by decide) (by decide)
  show own_Q4 Z r0 r1 h0 n0 _ T3.heap _
  rw [e3]
  exact ⟨rfl, N3, K3, cExa_r0_3, cFld_r0_value_3, Fw3⟩
theorem own_pd2 : parseMethodDescriptor "(C)Z" = some ⟨[.char], some .boolean⟩ := by decide +kernel
theorem own_pd3 : parseMethodDescriptor "(C)[B" = some ⟨[.char], some (.array .byte)⟩ := by decide +kernel
theorem own_pd4 : parseMethodDescriptor "([BB)V" = some ⟨[(.array .byte), .byte], none⟩ := by decide +kernel
theorem own_d1_0 : decode jdk_42_method_139_code 0 = .ok (.getstatic 38, 3) := by decide +kernel
theorem own_d1_3 : decode jdk_42_method_139_code 3 = .ok (.ifCond .eq 23, 3) := by decide +kernel
theorem own_d1_6 : decode jdk_42_method_139_code 6 = .ok (.iload_n 0, 1) := by decide +kernel
theorem own_d1_7 : decode jdk_42_method_139_code 7 = .ok (.invokestatic 1015, 3) := by decide +kernel
theorem own_d1_10 : decode jdk_42_method_139_code 10 = .ok (.ifCond .eq 16, 3) := by decide +kernel
theorem own_d1_13 : decode jdk_42_method_139_code 13 = .ok (.new 10, 3) := by decide +kernel
theorem own_d1_16 : decode jdk_42_method_139_code 16 = .ok (.dup, 1) := by decide +kernel
theorem own_d1_17 : decode jdk_42_method_139_code 17 = .ok (.iload_n 0, 1) := by decide +kernel
theorem own_d1_18 : decode jdk_42_method_139_code 18 = .ok (.invokestatic 1018, 3) := by decide +kernel
theorem own_d1_21 : decode jdk_42_method_139_code 21 = .ok (.iconst 0, 1) := by decide +kernel
theorem own_d1_22 : decode jdk_42_method_139_code 22 = .ok (.invokespecial 209, 3) := by decide +kernel
theorem own_d1_25 : decode jdk_42_method_139_code 25 = .ok (.areturn, 1) := by decide +kernel
theorem own_ef1 (m : MethodId) (x0 : Int32) : entryFrame m #[(.int x0)] 1 = mkF m 0 #[.val (.int x0)] [] := by first | (simp [entryFrame, mkF, argsToLocals, Value.category]; done) | rfl
def own_Q1 (Z : State) (i0 : Int32) (cs : Int32) (h0 : Heap) (n0 : Nat) (v : Option Value) (h : Heap) (L : List Loc) : Prop := ∃ sb : Addr, v = some (.ref sb) ∧ Fr n0 L ∧ Keep h0 h [] ∧ h0.size ≤ sb ∧ Exa Z h sb "java/lang/String"
set_option maxRecDepth 65536 in
set_option maxHeartbeats 40000000 in
theorem own_rm1 (l : Launch) (Z : State) (a0 : Array Value) (hw : ∀ d ∈ tables_1, d.before a0 Z = true) (ws : List Jvm.Cond) (i0 : Int32) (cs : Int32) (h0 : Heap) (n0 : Nat) (Z0 : n0 ≤ h0.size) (Od : Old Z n0 h0) (hcs : Sta Z Z.heap "java/lang/String" "COMPACT_STRINGS" "Z" (.int cs)) (hcsn : ¬ cs = (0 : Int32)) (hle : ¬ (255 : Int32) < i0) :
    MetFree l (⟨"java/lang/String", "valueOf", "(C)Ljava/lang/String;"⟩ : MethodName) (head1 (Jvm.Cond.code (⟨"java/lang/String", "valueOf", "(C)Ljava/lang/String;"⟩ : MethodName) jdk_42_method_139_code 1 (some (.object "java/lang/String")) :: ws) ({ frames := 2, cells := 2, slots := 5, locals := 27 } : Room)) (fun a U => a = #[(.int i0)] ∧ Z.Warmed39 U.vm ∧ U.heap = h0) (fun _ _ _ _ _ => True) (fun _ U o U' => ∃ v L, o = .returned v ∧ own_Q1 Z i0 cs h0 n0 v U'.heap L ∧ FrameEnd U o U' L ({ frames := 2, cells := 2, slots := 5, locals := 27 } : Room).cells ({ frames := 2, cells := 2, slots := 5, locals := 27 } : Room).slots) := by
  refine MetFree.of_bodySF (plainFor_of_name own_pn1) hisR ?_
  intro p e s m args below meth c s₁ Bd hml0 hP hK
  obtain ⟨rfl, hZ, hh⟩ := hP
  have hx := Bd.exec
  have hby := Bd.bytes
  have hret := Bd.returns
  have hlk := BodyLoose.notSynchronized Bd
  have hml : c.maxLocals = 1 := hml0
  have hown : s.vm.findClass "java/lang/String" = some m.cls := findClass_of_methodNamed Bd.named
  have hnm := (name_of_methodNamed Bd.named Bd.method).1
  have X0 : Stand p l e ({ frames := 2, cells := 2, slots := 5, locals := 27 } : Room) s m #[(.int i0)] below meth c s₁ [] 0 0 := Stand.of_body Bd
  have e0 : s₁.heap = h0 := by rw [← hh, Bd.state]; rfl
  have N0 := Fr.nil n0
  have K0 : Keep h0 h0 [] := Keep.refl h0 _
  show ownE p e below s (own_Q1 Z i0 cs h0 n0) ({ frames := 2, cells := 2, slots := 5, locals := 27 } : Room).cells ({ frames := 2, cells := 2, slots := 5, locals := 27 } : Room).slots s₁ (entryFrame m #[(.int i0)] 1)
  rw [own_ef1]
  obtain ⟨T1, X1, e1, st1⟩ := getS2 X0 hx hZ hown (host := "") (Or.inl (hw _ (List.mem_of_getElem? (i := 4) rfl))) Via.refl e0 (hcs.ext Od.2) (g := (mkF m 0 #[.val (.int i0)] [])) rfl (hb hby own_d1_0)
  refine ownE.go (T' := T1) (f' := (mkF m 3 #[.val (.int i0)] [(.int cs)])) st1 ?_
  refine ownE.go (T' := T1) (f' := (mkF m 6 #[.val (.int i0)] [])) (fun t kt => XS.ifNo (g := (mkF m 3 #[.val (.int i0)] [(.int cs)])) X1.here hx rfl (hb hby own_d1_3) rfl (Jvm.Free.XT.i0_eq_f hcsn) kt) ?_
  refine ownE.go (T' := T1) (f' := (mkF m 7 #[.val (.int i0)] [(.int i0)])) (fun t kt => ?_) ?_
  · show Steps p.tables e below (T1.setTop (mkF m 6 #[.val (.int i0)] [])) _
    refine XS.iloadN X1.here hx rfl (hb hby own_d1_6) rfl ?_
    exact kt
  obtain ⟨_, _, ⟨T2, L2, k2, n2⟩, -, X2, ⟨Lc2, hQ2, l2, y2, z2⟩, st2⟩ := Jvm.LawKit.callS X1 hx (y := (⟨"java/lang/StringLatin1", "canEncode", "(C)Z"⟩ : MethodName)) hown (mvT hZ (hw _ (List.mem_of_getElem? (i := 5) rfl))) (mvT hZ (hw _ (List.mem_of_getElem? (i := 6) rfl))) (mvT hZ (hw _ (List.mem_of_getElem? (i := 7) rfl))) (mvT hZ (hw _ (List.mem_of_getElem? (i := 8) rfl))) (by decide) (backOf (W := 0) (own_rm2 l Z a0 hw [] i0 h0 n0 (Nat.le_trans Z0 K0.1) ) hZ (hw _ (List.mem_of_getElem? (i := 8) rfl)) (hw _ (List.mem_of_getElem? (i := 7) rfl)) (by decide) (by decide)) (g := (mkF m 7 #[.val (.int i0)] [(.int i0)])) rfl (by rw [hml]; rfl) (argsL := [(.int i0)]) (rest := []) (lenOf own_pd2 rfl) rfl (by show 2 * 0 + _ ≤ _; exact Nat.le_of_eq rfl) (hb hby own_d1_7) (fun _ _ => ⟨rfl, e1, (by decide : 0 + 0 ≤ _), (by decide : 0 + 0 ≤ _)⟩)
  dsimp only [Pt.U, Pt.locs, Pt.cells, Pt.slots] at X2 l2 y2 z2 st2 hQ2
  subst l2 y2 z2
  obtain ⟨rfl, N2q, e2⟩ := hQ2
  have N2 := Fr.app N0 N2q
  refine ownE.go (T' := T2) (f' := (mkF m 10 #[.val (.int i0)] [(.int (own_ce i0))])) st2 ?_
  refine ownE.go (T' := T2) (f' := (mkF m 13 #[.val (.int i0)] [])) (fun t kt => XS.ifNo (g := (mkF m 10 #[.val (.int i0)] [(.int (own_ce i0))])) X2.here hx rfl (hb hby own_d1_10) rfl (Jvm.Free.XT.i0_eq_f (own_ce_nz hle)) kt) ?_
  obtain ⟨T3, h3, X3, e3, E3, A3, D3, -, st3⟩ := newO X2 hx hZ hown (hw _ (List.mem_of_getElem? (i := 9) rfl)) (hw _ (List.mem_of_getElem? (i := 10) rfl)) (hw _ (List.mem_of_getElem? (i := 2) rfl)) e2 (g := (mkF m 13 #[.val (.int i0)] [])) rfl (hb hby own_d1_13) (by decide) (by decide)
  obtain ⟨b3, g3⟩ : ∃ z, z = h0.size := ⟨_, rfl⟩
  rw [← g3] at A3 D3 st3
  have sz_b3 : h0.size ≤ b3 := Nat.le_trans K0.1 (Nat.le_of_eq g3.symm)
  have ge_b3 : n0 ≤ b3 := Nat.le_trans Z0 sz_b3
  have cOld_3 : Old Z n0 h3 := Od.ext E3
  have D3_value : Fld Z h3 b3 "java/lang/String" "value" "[B" .null := D3 (Or.inr (hw _ (List.mem_of_getElem? (i := 23) rfl))) (ty := (.array .byte)) (by decide)
  have D3_coder : Fld Z h3 b3 "java/lang/String" "coder" "B" (.int (0 : Int32)) := D3 (Or.inr (hw _ (List.mem_of_getElem? (i := 25) rfl))) (ty := .byte) (by decide)
  have K3 : Keep h0 h3 [] := K0.ext E3
  refine ownE.go (T' := T3) (f' := (mkF m 16 #[.val (.int i0)] [(.ref b3)])) st3 ?_
  refine ownE.go (T' := T3) (f' := (mkF m 18 #[.val (.int i0)] [(.int i0), (.ref b3), (.ref b3)])) (fun t kt => ?_) ?_
  · show Steps p.tables e below (T3.setTop (mkF m 16 #[.val (.int i0)] [(.ref b3)])) _
    refine XS.dup X3.here hx rfl (hb hby own_d1_16) rfl rfl ?_
    show Steps p.tables e below (T3.setTop (mkF m 17 #[.val (.int i0)] [(.ref b3), (.ref b3)])) _
    refine XS.iloadN X3.here hx rfl (hb hby own_d1_17) rfl ?_
    exact kt
  obtain ⟨_, _, ⟨T4, L4, k4, n4⟩, -, X4, ⟨Lc4, hQ4, l4, y4, z4⟩, st4⟩ := Jvm.LawKit.callS X3 hx (y := (⟨"java/lang/StringLatin1", "toBytes", "(C)[B"⟩ : MethodName)) hown (mvT hZ (hw _ (List.mem_of_getElem? (i := 11) rfl))) (mvT hZ (hw _ (List.mem_of_getElem? (i := 12) rfl))) (mvT hZ (hw _ (List.mem_of_getElem? (i := 7) rfl))) (mvT hZ (hw _ (List.mem_of_getElem? (i := 13) rfl))) (by decide) (backOf (W := 2) (own_rm3 l Z a0 hw [] i0 h3 n0 (Nat.le_trans Z0 K3.1) ) hZ (hw _ (List.mem_of_getElem? (i := 13) rfl)) (hw _ (List.mem_of_getElem? (i := 7) rfl)) (by decide) (by decide)) (g := (mkF m 18 #[.val (.int i0)] [(.int i0), (.ref b3), (.ref b3)])) rfl (by rw [hml]; rfl) (argsL := [(.int i0)]) (rest := [(.ref b3), (.ref b3)]) (lenOf own_pd3 rfl) rfl (by show 2 * 0 + _ ≤ _; exact Nat.le_of_eq rfl) (hb hby own_d1_18) (fun _ _ => ⟨rfl, e3, (by decide : 1 + 1 ≤ _), (by decide : 4 + 1 ≤ _)⟩)
  dsimp only [Pt.U, Pt.locs, Pt.cells, Pt.slots] at X4 l4 y4 z4 st4 hQ4
  subst l4 y4 z4
  obtain ⟨ab_4, rfl, N4q, K4q, f4_0⟩ := hQ4
  have ne_b3_ab_4 : b3 ≠ ab_4 := Nat.ne_of_lt (Nat.lt_of_lt_of_le A3.lt f4_0)
  have cOld_4 : Old Z n0 T4.heap := cOld_3.keep K4q all0
  have cExa_b3_4 : Exa Z T4.heap b3 "java/lang/String" := A3.keep K4q
  have cFld_b3_value_4 : Fld Z T4.heap b3 "java/lang/String" "value" "[B" .null := D3_value.keep K4q nin0
  have cFld_b3_coder_4 : Fld Z T4.heap b3 "java/lang/String" "coder" "B" (.int (0 : Int32)) := D3_coder.keep K4q nin0
  have K4 : Keep h0 T4.heap [] := K3.trans K4q all0
  have sz_ab_4 : h0.size ≤ ab_4 := Nat.le_trans K3.1 f4_0
  have ge_ab_4 : n0 ≤ ab_4 := Nat.le_trans Z0 sz_ab_4
  have N4 := Fr.app N2 N4q
  refine ownE.go (T' := T4) (f' := (mkF m 21 #[.val (.int i0)] [(.ref ab_4), (.ref b3), (.ref b3)])) st4 ?_
  refine ownE.go (T' := T4) (f' := (mkF m 22 #[.val (.int i0)] [(.int (0 : Int32)), (.ref ab_4), (.ref b3), (.ref b3)])) (fun t kt => ?_) ?_
  · show Steps p.tables e below (T4.setTop (mkF m 21 #[.val (.int i0)] [(.ref ab_4), (.ref b3), (.ref b3)])) _
    refine XS.iconst X4.here hx rfl (hb hby own_d1_21) ?_
    exact kt
  obtain ⟨_, _, ⟨T5, L5, k5, n5⟩, -, X5, ⟨Lc5, hQ5, l5, y5, z5⟩, st5⟩ := X4.specialBack hx (y := (⟨"java/lang/String", "<init>", "([BB)V"⟩ : MethodName)) rfl hown (mvT hZ (hw _ (List.mem_of_getElem? (i := 15) rfl))) (mvT hZ (hw _ (List.mem_of_getElem? (i := 16) rfl))) (mvT hZ (hw _ (List.mem_of_getElem? (i := 18) rfl))) (by decide) (backOf (W := 1) (own_rm4 l Z a0 hw [] b3 ab_4 T4.heap n0 (Nat.le_trans Z0 K4.1) cFld_b3_value_4 cFld_b3_coder_4 cExa_b3_4 ge_b3) hZ (hw _ (List.mem_of_getElem? (i := 18) rfl)) (hw _ (List.mem_of_getElem? (i := 2) rfl)) (by decide) (by decide)) (g := (mkF m 22 #[.val (.int i0)] [(.int (0 : Int32)), (.ref ab_4), (.ref b3), (.ref b3)])) rfl (by rw [hml]; rfl) (Steps.refl _) (a := b3) (argsL := [(.ref ab_4), (.int (0 : Int32))]) (rest := [(.ref b3)]) (lenOf own_pd4 rfl) rfl (by show 2 * 0 + _ ≤ _; exact Nat.le_of_eq rfl) (hb hby own_d1_22) (fun _ _ => ⟨rfl, rfl, (by decide : 2 + 0 ≤ _), (by decide : 5 + 0 ≤ _)⟩)
  dsimp only [Pt.U, Pt.locs, Pt.cells, Pt.slots] at X5 l5 y5 z5 st5 hQ5
  subst l5 y5 z5
  obtain ⟨rfl, N5q, K5q, f5_0, f5_1, f5_2⟩ := hQ5
  have cOld_5 : Old Z n0 T5.heap := cOld_4.keep K5q (allS ge_b3 all0)
  have cExa_b3_5 : Exa Z T5.heap b3 "java/lang/String" := cExa_b3_4.keep K5q
  have K5 : Keep h0 T5.heap [] := K4.trans K5q (allS (Or.inr sz_b3) all0)
  have N5 := Fr.app N4 N5q
  refine ownE.goS (T' := T5) (f' := (mkF m 25 #[.val (.int i0)] [(.ref b3)])) st5 ?_
  refine ownE.retA X5 hx hlk hret rfl rfl rfl (hb hby own_d1_25) ?_ (by decide) (by decide)
  show own_Q1 Z i0 cs h0 n0 _ T5.heap _
  exact ⟨b3, rfl, N5, K5, sz_b3, f5_0⟩
theorem own_d7_0 : decode prog_28_method_1_code 0 = .ok (.aload_n 0, 1) := by decide +kernel
theorem own_d7_1 : decode prog_28_method_1_code 1 = .ok (.invokespecial 1, 3) := by decide +kernel
theorem own_d7_4 : decode prog_28_method_1_code 4 = .ok (.aload_n 0, 1) := by decide +kernel
theorem own_d7_5 : decode prog_28_method_1_code 5 = .ok (.lload_n 1, 1) := by decide +kernel
theorem own_d7_6 : decode prog_28_method_1_code 6 = .ok (.putfield 7, 3) := by decide +kernel
theorem own_d7_9 : decode prog_28_method_1_code 9 = .ok (.aload_n 0, 1) := by decide +kernel
theorem own_d7_10 : decode prog_28_method_1_code 10 = .ok (.aload_n 3, 1) := by decide +kernel
theorem own_d7_11 : decode prog_28_method_1_code 11 = .ok (.putfield 13, 3) := by decide +kernel
theorem own_d7_14 : decode prog_28_method_1_code 14 = .ok (.aload_n 0, 1) := by decide +kernel
theorem own_d7_15 : decode prog_28_method_1_code 15 = .ok (.aload 4, 2) := by decide +kernel
theorem own_d7_17 : decode prog_28_method_1_code 17 = .ok (.putfield 17, 3) := by decide +kernel
theorem own_d7_20 : decode prog_28_method_1_code 20 = .ok (.aload_n 0, 1) := by decide +kernel
theorem own_d7_21 : decode prog_28_method_1_code 21 = .ok (.iload 5, 2) := by decide +kernel
theorem own_d7_23 : decode prog_28_method_1_code 23 = .ok (.putfield 20, 3) := by decide +kernel
theorem own_d7_26 : decode prog_28_method_1_code 26 = .ok (.aload_n 0, 1) := by decide +kernel
theorem own_d7_27 : decode prog_28_method_1_code 27 = .ok (.lload 6, 2) := by decide +kernel
theorem own_d7_29 : decode prog_28_method_1_code 29 = .ok (.putfield 24, 3) := by decide +kernel
theorem own_d7_32 : decode prog_28_method_1_code 32 = .ok (.aload_n 0, 1) := by decide +kernel
theorem own_d7_33 : decode prog_28_method_1_code 33 = .ok (.lload 8, 2) := by decide +kernel
theorem own_d7_35 : decode prog_28_method_1_code 35 = .ok (.putfield 27, 3) := by decide +kernel
theorem own_d7_38 : decode prog_28_method_1_code 38 = .ok (.return_, 1) := by decide +kernel
theorem own_pn5 : plainName "com/example/quayside/quayside/core/Entry" = true := by first | (simp [plainName, overriddenIn]; done) | decide +kernel
theorem own_ef7 (m : MethodId) (x0 : Addr) (x1 : Int64) (x2 : Addr) (x3 : Addr) (x4 : Int32) (x5 : Int64) : entryFrame m #[(.ref x0), (.long x1), (.ref x2), (.ref x3), (.int x4), (.long x5), (.long (0 : Int64))] 10 = mkF m 0 #[.val (.ref x0), .val (.long x1), .second, .val (.ref x2), .val (.ref x3), .val (.int x4), .val (.long x5), .second, .val (.long (0 : Int64)), .second] [] := by first | (simp [entryFrame, mkF, argsToLocals, Value.category]; done) | rfl
def own_Q7 (Z : State) (r0 : Addr) (j1 : Int64) (r2 : Addr) (r3 : Addr) (i4 : Int32) (j5 : Int64) (h0 : Heap) (n0 : Nat) (v : Option Value) (h : Heap) (L : List Loc) : Prop := v = none ∧ Fr n0 L ∧ Keep h0 h [r0] ∧ Exa Z h r0 "com/example/quayside/quayside/core/Directory" ∧ Fld Z h r0 "com/example/quayside/quayside/core/Entry" "permission" "I" (.int i4) ∧ Fld Z h r0 "com/example/quayside/quayside/core/Directory" "entries" "Lcom/example/quayside/quayside/core/Entries;" .null
set_option maxRecDepth 65536 in
set_option maxHeartbeats 40000000 in
theorem own_rm7 (l : Launch) (Z : State) (a0 : Array Value) (hw : ∀ d ∈ tables_1, d.before a0 Z = true) (ws : List Jvm.Cond) (r0 : Addr) (j1 : Int64) (r2 : Addr) (r3 : Addr) (i4 : Int32) (j5 : Int64) (h0 : Heap) (n0 : Nat) (Z0 : n0 ≤ h0.size) (P0 : Fld Z h0 r0 "com/example/quayside/quayside/core/Entry" "id" "J" (.long (0 : Int64))) (P1 : Fld Z h0 r0 "com/example/quayside/quayside/core/Entry" "owner" "Ljava/lang/String;" .null) (P2 : Fld Z h0 r0 "com/example/quayside/quayside/core/Entry" "group" "Ljava/lang/String;" .null) (P3 : Fld Z h0 r0 "com/example/quayside/quayside/core/Entry" "permission" "I" (.int (0 : Int32))) (P4 : Fld Z h0 r0 "com/example/quayside/quayside/core/Entry" "modificationTime" "J" (.long (0 : Int64))) (P5 : Fld Z h0 r0 "com/example/quayside/quayside/core/Entry" "accessTime" "J" (.long (0 : Int64))) (P6 : Fld Z h0 r0 "com/example/quayside/quayside/core/Directory" "entries" "Lcom/example/quayside/quayside/core/Entries;" .null) (P7 : Exa Z h0 r0 "com/example/quayside/quayside/core/Directory") (P8 : n0 ≤ r0) :
    MetFree l (⟨"com/example/quayside/quayside/core/Entry", "<init>", "(JLjava/lang/String;Ljava/lang/String;IJJ)V"⟩ : MethodName) (head1 (Jvm.Cond.code (⟨"com/example/quayside/quayside/core/Entry", "<init>", "(JLjava/lang/String;Ljava/lang/String;IJJ)V"⟩ : MethodName) prog_28_method_1_code 10 none :: ws) ({ frames := 1, cells := 0, slots := 0, locals := 12 } : Room)) (fun a U => a = #[(.ref r0), (.long j1), (.ref r2), (.ref r3), (.int i4), (.long j5), (.long (0 : Int64))] ∧ Z.Warmed39 U.vm ∧ U.heap = h0) (fun _ _ _ _ _ => True) (fun _ U o U' => ∃ v L, o = .returned v ∧ own_Q7 Z r0 j1 r2 r3 i4 j5 h0 n0 v U'.heap L ∧ FrameEnd U o U' L ({ frames := 1, cells := 0, slots := 0, locals := 12 } : Room).cells ({ frames := 1, cells := 0, slots := 0, locals := 12 } : Room).slots) := by
  refine MetFree.of_bodySF (plainFor_of_name own_pn5) hisR ?_
  intro p e s m args below meth c s₁ Bd hml0 hP hK
  obtain ⟨rfl, hZ, hh⟩ := hP
  have hx := Bd.exec
  have hby := Bd.bytes
  have hret := Bd.returns
  have hlk := BodyLoose.notSynchronized Bd
  have hml : c.maxLocals = 10 := hml0
  have hown : s.vm.findClass "com/example/quayside/quayside/core/Entry" = some m.cls := findClass_of_methodNamed Bd.named
  have hnm := (name_of_methodNamed Bd.named Bd.method).1
  have X0 : Stand p l e ({ frames := 1, cells := 0, slots := 0, locals := 12 } : Room) s m #[(.ref r0), (.long j1), (.ref r2), (.ref r3), (.int i4), (.long j5), (.long (0 : Int64))] below meth c s₁ [] 0 0 := Stand.of_body Bd
  have e0 : s₁.heap = h0 := by rw [← hh, Bd.state]; rfl
  have N0 := Fr.nil n0
  have K0 : Keep h0 h0 [r0] := Keep.refl h0 _
  show ownE p e below s (own_Q7 Z r0 j1 r2 r3 i4 j5 h0 n0) ({ frames := 1, cells := 0, slots := 0, locals := 12 } : Room).cells ({ frames := 1, cells := 0, slots := 0, locals := 12 } : Room).slots s₁ (entryFrame m #[(.ref r0), (.long j1), (.ref r2), (.ref r3), (.int i4), (.long j5), (.long (0 : Int64))] 10)
  rw [own_ef7]
  refine ownE.go (T' := s₁) (f' := (mkF m 1 #[.val (.ref r0), .val (.long j1), .second, .val (.ref r2), .val (.ref r3), .val (.int i4), .val (.long j5), .second, .val (.long (0 : Int64)), .second] [(.ref r0)])) (fun t kt => ?_) ?_
  · show Steps p.tables e below (s₁.setTop (mkF m 0 #[.val (.ref r0), .val (.long j1), .second, .val (.ref r2), .val (.ref r3), .val (.int i4), .val (.long j5), .second, .val (.long (0 : Int64)), .second] [])) _
    refine XS.aloadN X0.here hx rfl (hb hby own_d7_0) rfl rfl ?_
    exact kt
  obtain ⟨T1, X1, e1, st1⟩ := initO X0 hx hZ hown (hw _ (List.mem_of_getElem? (i := 37) rfl)) (hw _ (List.mem_of_getElem? (i := 20) rfl)) (hw _ (List.mem_of_getElem? (i := 21) rfl)) e0 (g := (mkF m 1 #[.val (.ref r0), .val (.long j1), .second, .val (.ref r2), .val (.ref r3), .val (.int i4), .val (.long j5), .second, .val (.long (0 : Int64)), .second] [(.ref r0)])) rfl (by rw [hml]; rfl) rfl (hb hby own_d7_1) (by decide) (W := 0) (by show 2 * 0 + _ ≤ _; exact Nat.le_of_eq rfl) (by decide)
  refine ownE.go (T' := T1) (f' := (mkF m 4 #[.val (.ref r0), .val (.long j1), .second, .val (.ref r2), .val (.ref r3), .val (.int i4), .val (.long j5), .second, .val (.long (0 : Int64)), .second] [])) st1 ?_
  refine ownE.go (T' := T1) (f' := (mkF m 6 #[.val (.ref r0), .val (.long j1), .second, .val (.ref r2), .val (.ref r3), .val (.int i4), .val (.long j5), .second, .val (.long (0 : Int64)), .second] [(.long j1), (.ref r0)])) (fun t kt => ?_) ?_
  · show Steps p.tables e below (T1.setTop (mkF m 4 #[.val (.ref r0), .val (.long j1), .second, .val (.ref r2), .val (.ref r3), .val (.int i4), .val (.long j5), .second, .val (.long (0 : Int64)), .second] [])) _
    refine XS.aloadN X1.here hx rfl (hb hby own_d7_4) rfl rfl ?_
    show Steps p.tables e below (T1.setTop (mkF m 5 #[.val (.ref r0), .val (.long j1), .second, .val (.ref r2), .val (.ref r3), .val (.int i4), .val (.long j5), .second, .val (.long (0 : Int64)), .second] [(.ref r0)])) _
    refine XS.lloadN X1.here hx rfl (hb hby own_d7_5) rfl ?_
    exact kt
  obtain ⟨T2, h2, X2, e2, W2, st2⟩ := putF X1 hx hZ hown (host := "") (Or.inl (hw _ (List.mem_of_getElem? (i := 38) rfl))) Via.refl e1 P0 P7 (Or.inr ⟨(hw _ (List.mem_of_getElem? (i := 39) rfl)), rfl, hnm⟩) (hw _ (List.mem_of_getElem? (i := 27) rfl)) (ty := .long) (by decide) rfl rfl (g := (mkF m 6 #[.val (.ref r0), .val (.long j1), .second, .val (.ref r2), .val (.ref r3), .val (.int i4), .val (.long j5), .second, .val (.long (0 : Int64)), .second] [(.long j1), (.ref r0)])) rfl rfl (hb hby own_d7_6)
  have Fw2 : Fld Z h2 r0 "com/example/quayside/quayside/core/Entry" "id" "J" (.long j1) := P0.same W2
  have cFld_r0_owner_2 : Fld Z h2 r0 "com/example/quayside/quayside/core/Entry" "owner" "Ljava/lang/String;" .null := P1.other W2 (Or.inr (slot_ne (Or.inl (hw _ (List.mem_of_getElem? (i := 41) rfl))) (Or.inr (hw _ (List.mem_of_getElem? (i := 39) rfl))) (by decide) (t := (.object "java/lang/String")) (t' := .long) (by decide) (by decide)))
  have cFld_r0_group_2 : Fld Z h2 r0 "com/example/quayside/quayside/core/Entry" "group" "Ljava/lang/String;" .null := P2.other W2 (Or.inr (slot_ne (Or.inl (hw _ (List.mem_of_getElem? (i := 43) rfl))) (Or.inr (hw _ (List.mem_of_getElem? (i := 39) rfl))) (by decide) (t := (.object "java/lang/String")) (t' := .long) (by decide) (by decide)))
  have cFld_r0_permission_2 : Fld Z h2 r0 "com/example/quayside/quayside/core/Entry" "permission" "I" (.int (0 : Int32)) := P3.other W2 (Or.inr (slot_ne (Or.inl (hw _ (List.mem_of_getElem? (i := 45) rfl))) (Or.inr (hw _ (List.mem_of_getElem? (i := 39) rfl))) (by decide) (t := .int) (t' := .long) (by decide) (by decide)))
  have cFld_r0_modificationTime_2 : Fld Z h2 r0 "com/example/quayside/quayside/core/Entry" "modificationTime" "J" (.long (0 : Int64)) := P4.other W2 (Or.inr (slot_ne (Or.inl (hw _ (List.mem_of_getElem? (i := 47) rfl))) (Or.inr (hw _ (List.mem_of_getElem? (i := 39) rfl))) (by decide) (t := .long) (t' := .long) (by decide) (by decide)))
  have cFld_r0_accessTime_2 : Fld Z h2 r0 "com/example/quayside/quayside/core/Entry" "accessTime" "J" (.long (0 : Int64)) := P5.other W2 (Or.inr (slot_ne (Or.inl (hw _ (List.mem_of_getElem? (i := 49) rfl))) (Or.inr (hw _ (List.mem_of_getElem? (i := 39) rfl))) (by decide) (t := .long) (t' := .long) (by decide) (by decide)))
  have cFld_r0_entries_2 : Fld Z h2 r0 "com/example/quayside/quayside/core/Directory" "entries" "Lcom/example/quayside/quayside/core/Entries;" .null := P6.other W2 (Or.inr (slot_ne (Or.inr (hw _ (List.mem_of_getElem? (i := 58) rfl))) (Or.inr (hw _ (List.mem_of_getElem? (i := 39) rfl))) (by decide) (t := (.object "com/example/quayside/quayside/core/Entries")) (t' := .long) (by decide) (by decide)))
  have cExa_r0_2 : Exa Z h2 r0 "com/example/quayside/quayside/core/Directory" := P7.wr W2
  have K2 : Keep h0 h2 [r0] := K0.wr W2 (Or.inl (List.mem_of_getElem? (i := 0) rfl))
  have N2 := Fr.snoc X2 N0 P8
  refine ownE.go (T' := T2) (f' := (mkF m 9 #[.val (.ref r0), .val (.long j1), .second, .val (.ref r2), .val (.ref r3), .val (.int i4), .val (.long j5), .second, .val (.long (0 : Int64)), .second] [])) st2 ?_
  refine ownE.go (T' := T2) (f' := (mkF m 11 #[.val (.ref r0), .val (.long j1), .second, .val (.ref r2), .val (.ref r3), .val (.int i4), .val (.long j5), .second, .val (.long (0 : Int64)), .second] [(.ref r2), (.ref r0)])) (fun t kt => ?_) ?_
  · show Steps p.tables e below (T2.setTop (mkF m 9 #[.val (.ref r0), .val (.long j1), .second, .val (.ref r2), .val (.ref r3), .val (.int i4), .val (.long j5), .second, .val (.long (0 : Int64)), .second] [])) _
    refine XS.aloadN X2.here hx rfl (hb hby own_d7_9) rfl rfl ?_
    show Steps p.tables e below (T2.setTop (mkF m 10 #[.val (.ref r0), .val (.long j1), .second, .val (.ref r2), .val (.ref r3), .val (.int i4), .val (.long j5), .second, .val (.long (0 : Int64)), .second] [(.ref r0)])) _
    refine XS.aloadN X2.here hx rfl (hb hby own_d7_10) rfl rfl ?_
    exact kt
  obtain ⟨T3, h3, X3, e3, W3, st3⟩ := putF X2 hx hZ hown (host := "") (Or.inl (hw _ (List.mem_of_getElem? (i := 40) rfl))) Via.refl e2 cFld_r0_owner_2 cExa_r0_2 (Or.inl (hw _ (List.mem_of_getElem? (i := 41) rfl))) (hw _ (List.mem_of_getElem? (i := 27) rfl)) (ty := (.object "java/lang/String")) (by decide) rfl rfl (g := (mkF m 11 #[.val (.ref r0), .val (.long j1), .second, .val (.ref r2), .val (.ref r3), .val (.int i4), .val (.long j5), .second, .val (.long (0 : Int64)), .second] [(.ref r2), (.ref r0)])) rfl rfl (hb hby own_d7_11)
  have Fw3 : Fld Z h3 r0 "com/example/quayside/quayside/core/Entry" "owner" "Ljava/lang/String;" (.ref r2) := cFld_r0_owner_2.same W3
  have cFld_r0_id_3 : Fld Z h3 r0 "com/example/quayside/quayside/core/Entry" "id" "J" (.long j1) := Fw2.other W3 (Or.inr (slot_ne (Or.inr (hw _ (List.mem_of_getElem? (i := 39) rfl))) (Or.inl (hw _ (List.mem_of_getElem? (i := 41) rfl))) (by decide) (t := .long) (t' := (.object "java/lang/String")) (by decide) (by decide)))
  have cFld_r0_group_3 : Fld Z h3 r0 "com/example/quayside/quayside/core/Entry" "group" "Ljava/lang/String;" .null := cFld_r0_group_2.other W3 (Or.inr (slot_ne (Or.inl (hw _ (List.mem_of_getElem? (i := 43) rfl))) (Or.inl (hw _ (List.mem_of_getElem? (i := 41) rfl))) (by decide) (t := (.object "java/lang/String")) (t' := (.object "java/lang/String")) (by decide) (by decide)))
  have cFld_r0_permission_3 : Fld Z h3 r0 "com/example/quayside/quayside/core/Entry" "permission" "I" (.int (0 : Int32)) := cFld_r0_permission_2.other W3 (Or.inr (slot_ne (Or.inl (hw _ (List.mem_of_getElem? (i := 45) rfl))) (Or.inl (hw _ (List.mem_of_getElem? (i := 41) rfl))) (by decide) (t := .int) (t' := (.object "java/lang/String")) (by decide) (by decide)))
  have cFld_r0_modificationTime_3 : Fld Z h3 r0 "com/example/quayside/quayside/core/Entry" "modificationTime" "J" (.long (0 : Int64)) := cFld_r0_modificationTime_2.other W3 (Or.inr (slot_ne (Or.inl (hw _ (List.mem_of_getElem? (i := 47) rfl))) (Or.inl (hw _ (List.mem_of_getElem? (i := 41) rfl))) (by decide) (t := .long) (t' := (.object "java/lang/String")) (by decide) (by decide)))
  have cFld_r0_accessTime_3 : Fld Z h3 r0 "com/example/quayside/quayside/core/Entry" "accessTime" "J" (.long (0 : Int64)) := cFld_r0_accessTime_2.other W3 (Or.inr (slot_ne (Or.inl (hw _ (List.mem_of_getElem? (i := 49) rfl))) (Or.inl (hw _ (List.mem_of_getElem? (i := 41) rfl))) (by decide) (t := .long) (t' := (.object "java/lang/String")) (by decide) (by decide)))
  have cFld_r0_entries_3 : Fld Z h3 r0 "com/example/quayside/quayside/core/Directory" "entries" "Lcom/example/quayside/quayside/core/Entries;" .null := cFld_r0_entries_2.other W3 (Or.inr (slot_ne (Or.inr (hw _ (List.mem_of_getElem? (i := 58) rfl))) (Or.inl (hw _ (List.mem_of_getElem? (i := 41) rfl))) (by decide) (t := (.object "com/example/quayside/quayside/core/Entries")) (t' := (.object "java/lang/String")) (by decide) (by decide)))
  have cExa_r0_3 : Exa Z h3 r0 "com/example/quayside/quayside/core/Directory" := cExa_r0_2.wr W3
  have K3 : Keep h0 h3 [r0] := K2.wr W3 (Or.inl (List.mem_of_getElem? (i := 0) rfl))
  have N3 := Fr.snoc X3 N2 P8
  refine ownE.go (T' := T3) (f' := (mkF m 14 #[.val (.ref r0), .val (.long j1), .second, .val (.ref r2), .val (.ref r3), .val (.int i4), .val (.long j5), .second, .val (.long (0 : Int64)), .second] [])) st3 ?_
  refine ownE.go (T' := T3) (f' := (mkF m 17 #[.val (.ref r0), .val (.long j1), .second, .val (.ref r2), .val (.ref r3), .val (.int i4), .val (.long j5), .second, .val (.long (0 : Int64)), .second] [(.ref r3), (.ref r0)])) (fun t kt => ?_) ?_
  · show Steps p.tables e below (T3.setTop (mkF m 14 #[.val (.ref r0), .val (.long j1), .second, .val (.ref r2), .val (.ref r3), .val (.int i4), .val (.long j5), .second, .val (.long (0 : Int64)), .second] [])) _
    refine XS.aloadN X3.here hx rfl (hb hby own_d7_14) rfl rfl ?_
    show Steps p.tables e below (T3.setTop (mkF m 15 #[.val (.ref r0), .val (.long j1), .second, .val (.ref r2), .val (.ref r3), .val (.int i4), .val (.long j5), .second, .val (.long (0 : Int64)), .second] [(.ref r0)])) _
    refine XS.aload X3.here hx rfl (hb hby own_d7_15) rfl rfl ?_
    exact kt
  obtain ⟨T4, h4, X4, e4, W4, st4⟩ := putF X3 hx hZ hown (host := "") (Or.inl (hw _ (List.mem_of_getElem? (i := 42) rfl))) Via.refl e3 cFld_r0_group_3 cExa_r0_3 (Or.inl (hw _ (List.mem_of_getElem? (i := 43) rfl))) (hw _ (List.mem_of_getElem? (i := 27) rfl)) (ty := (.object "java/lang/String")) (by decide) rfl rfl (g := (mkF m 17 #[.val (.ref r0), .val (.long j1), .second, .val (.ref r2), .val (.ref r3), .val (.int i4), .val (.long j5), .second, .val (.long (0 : Int64)), .second] [(.ref r3), (.ref r0)])) rfl rfl (hb hby own_d7_17)
  have Fw4 : Fld Z h4 r0 "com/example/quayside/quayside/core/Entry" "group" "Ljava/lang/String;" (.ref r3) := cFld_r0_group_3.same W4
  have cFld_r0_id_4 : Fld Z h4 r0 "com/example/quayside/quayside/core/Entry" "id" "J" (.long j1) := cFld_r0_id_3.other W4 (Or.inr (slot_ne (Or.inr (hw _ (List.mem_of_getElem? (i := 39) rfl))) (Or.inl (hw _ (List.mem_of_getElem? (i := 43) rfl))) (by decide) (t := .long) (t' := (.object "java/lang/String")) (by decide) (by decide)))
  have cFld_r0_owner_4 : Fld Z h4 r0 "com/example/quayside/quayside/core/Entry" "owner" "Ljava/lang/String;" (.ref r2) := Fw3.other W4 (Or.inr (slot_ne (Or.inl (hw _ (List.mem_of_getElem? (i := 41) rfl))) (Or.inl (hw _ (List.mem_of_getElem? (i := 43) rfl))) (by decide) (t := (.object "java/lang/String")) (t' := (.object "java/lang/String")) (by decide) (by decide)))
  have cFld_r0_permission_4 : Fld Z h4 r0 "com/example/quayside/quayside/core/Entry" "permission" "I" (.int (0 : Int32)) := cFld_r0_permission_3.other W4 (Or.inr (slot_ne (Or.inl (hw _ (List.mem_of_getElem? (i := 45) rfl))) (Or.inl (hw _ (List.mem_of_getElem? (i := 43) rfl))) (by decide) (t := .int) (t' := (.object "java/lang/String")) (by decide) (by decide)))
  have cFld_r0_modificationTime_4 : Fld Z h4 r0 "com/example/quayside/quayside/core/Entry" "modificationTime" "J" (.long (0 : Int64)) := cFld_r0_modificationTime_3.other W4 (Or.inr (slot_ne (Or.inl (hw _ (List.mem_of_getElem? (i := 47) rfl))) (Or.inl (hw _ (List.mem_of_getElem? (i := 43) rfl))) (by decide) (t := .long) (t' := (.object "java/lang/String")) (by decide) (by decide)))
  have cFld_r0_accessTime_4 : Fld Z h4 r0 "com/example/quayside/quayside/core/Entry" "accessTime" "J" (.long (0 : Int64)) := cFld_r0_accessTime_3.other W4 (Or.inr (slot_ne (Or.inl (hw _ (List.mem_of_getElem? (i := 49) rfl))) (Or.inl (hw _ (List.mem_of_getElem? (i := 43) rfl))) (by decide) (t := .long) (t' := (.object "java/lang/String")) (by decide) (by decide)))
  have cFld_r0_entries_4 : Fld Z h4 r0 "com/example/quayside/quayside/core/Directory" "entries" "Lcom/example/quayside/quayside/core/Entries;" .null := cFld_r0_entries_3.other W4 (Or.inr (slot_ne (Or.inr (hw _ (List.mem_of_getElem? (i := 58) rfl))) (Or.inl (hw _ (List.mem_of_getElem? (i := 43) rfl))) (by decide) (t := (.object "com/example/quayside/quayside/core/Entries")) (t' := (.object "java/lang/String")) (by decide) (by decide)))
  have cExa_r0_4 : Exa Z h4 r0 "com/example/quayside/quayside/core/Directory" := cExa_r0_3.wr W4
  have K4 : Keep h0 h4 [r0] := K3.wr W4 (Or.inl (List.mem_of_getElem? (i := 0) rfl))
  have N4 := Fr.snoc X4 N3 P8
  refine ownE.go (T' := T4) (f' := (mkF m 20 #[.val (.ref r0), .val (.long j1), .second, .val (.ref r2), .val (.ref r3), .val (.int i4), .val (.long j5), .second, .val (.long (0 : Int64)), .second] [])) st4 ?_
  refine ownE.go (T' := T4) (f' := (mkF m 23 #[.val (.ref r0), .val (.long j1), .second, .val (.ref r2), .val (.ref r3), .val (.int i4), .val (.long j5), .second, .val (.long (0 : Int64)), .second] [(.int i4), (.ref r0)])) (fun t kt => ?_) ?_
  · show Steps p.tables e below (T4.setTop (mkF m 20 #[.val (.ref r0), .val (.long j1), .second, .val (.ref r2), .val (.ref r3), .val (.int i4), .val (.long j5), .second, .val (.long (0 : Int64)), .second] [])) _
    refine XS.aloadN X4.here hx rfl (hb hby own_d7_20) rfl rfl ?_
    show Steps p.tables e below (T4.setTop (mkF m 21 #[.val (.ref r0), .val (.long j1), .second, .val (.ref r2), .val (.ref r3), .val (.int i4), .val (.long j5), .second, .val (.long (0 : Int64)), .second] [(.ref r0)])) _
    refine XS.iload X4.here hx rfl (hb hby own_d7_21) rfl ?_
    exact kt
  obtain ⟨T5, h5, X5, e5, W5, st5⟩ := putF X4 hx hZ hown (host := "") (Or.inl (hw _ (List.mem_of_getElem? (i := 44) rfl))) Via.refl e4 cFld_r0_permission_4 cExa_r0_4 (Or.inl (hw _ (List.mem_of_getElem? (i := 45) rfl))) (hw _ (List.mem_of_getElem? (i := 27) rfl)) (ty := .int) (by decide) rfl rfl (g := (mkF m 23 #[.val (.ref r0), .val (.long j1), .second, .val (.ref r2), .val (.ref r3), .val (.int i4), .val (.long j5), .second, .val (.long (0 : Int64)), .second] [(.int i4), (.ref r0)])) rfl rfl (hb hby own_d7_23)
  have Fw5 : Fld Z h5 r0 "com/example/quayside/quayside/core/Entry" "permission" "I" (.int i4) := cFld_r0_permission_4.same W5
  have cFld_r0_id_5 : Fld Z h5 r0 "com/example/quayside/quayside/core/Entry" "id" "J" (.long j1) := cFld_r0_id_4.other W5 (Or.inr (slot_ne (Or.inr (hw _ (List.mem_of_getElem? (i := 39) rfl))) (Or.inl (hw _ (List.mem_of_getElem? (i := 45) rfl))) (by decide) (t := .long) (t' := .int) (by decide) (by decide)))
  have cFld_r0_owner_5 : Fld Z h5 r0 "com/example/quayside/quayside/core/Entry" "owner" "Ljava/lang/String;" (.ref r2) := cFld_r0_owner_4.other W5 (Or.inr (slot_ne (Or.inl (hw _ (List.mem_of_getElem? (i := 41) rfl))) (Or.inl (hw _ (List.mem_of_getElem? (i := 45) rfl))) (by decide) (t := (.object "java/lang/String")) (t' := .int) (by decide) (by decide)))
  have cFld_r0_group_5 : Fld Z h5 r0 "com/example/quayside/quayside/core/Entry" "group" "Ljava/lang/String;" (.ref r3) := Fw4.other W5 (Or.inr (slot_ne (Or.inl (hw _ (List.mem_of_getElem? (i := 43) rfl))) (Or.inl (hw _ (List.mem_of_getElem? (i := 45) rfl))) (by decide) (t := (.object "java/lang/String")) (t' := .int) (by decide) (by decide)))
  have cFld_r0_modificationTime_5 : Fld Z h5 r0 "com/example/quayside/quayside/core/Entry" "modificationTime" "J" (.long (0 : Int64)) := cFld_r0_modificationTime_4.other W5 (Or.inr (slot_ne (Or.inl (hw _ (List.mem_of_getElem? (i := 47) rfl))) (Or.inl (hw _ (List.mem_of_getElem? (i := 45) rfl))) (by decide) (t := .long) (t' := .int) (by decide) (by decide)))
  have cFld_r0_accessTime_5 : Fld Z h5 r0 "com/example/quayside/quayside/core/Entry" "accessTime" "J" (.long (0 : Int64)) := cFld_r0_accessTime_4.other W5 (Or.inr (slot_ne (Or.inl (hw _ (List.mem_of_getElem? (i := 49) rfl))) (Or.inl (hw _ (List.mem_of_getElem? (i := 45) rfl))) (by decide) (t := .long) (t' := .int) (by decide) (by decide)))
  have cFld_r0_entries_5 : Fld Z h5 r0 "com/example/quayside/quayside/core/Directory" "entries" "Lcom/example/quayside/quayside/core/Entries;" .null := cFld_r0_entries_4.other W5 (Or.inr (slot_ne (Or.inr (hw _ (List.mem_of_getElem? (i := 58) rfl))) (Or.inl (hw _ (List.mem_of_getElem? (i := 45) rfl))) (by decide) (t := (.object "com/example/quayside/quayside/core/Entries")) (t' := .int) (by decide) (by decide)))
  have cExa_r0_5 : Exa Z h5 r0 "com/example/quayside/quayside/core/Directory" := cExa_r0_4.wr W5
  have K5 : Keep h0 h5 [r0] := K4.wr W5 (Or.inl (List.mem_of_getElem? (i := 0) rfl))
  have N5 := Fr.snoc X5 N4 P8
  refine ownE.go (T' := T5) (f' := (mkF m 26 #[.val (.ref r0), .val (.long j1), .second, .val (.ref r2), .val (.ref r3), .val (.int i4), .val (.long j5), .second, .val (.long (0 : Int64)), .second] [])) st5 ?_
  refine ownE.go (T' := T5) (f' := (mkF m 29 #[.val (.ref r0), .val (.long j1), .second, .val (.ref r2), .val (.ref r3), .val (.int i4), .val (.long j5), .second, .val (.long (0 : Int64)), .second] [(.long j5), (.ref r0)])) (fun t kt => ?_) ?_
  · show Steps p.tables e below (T5.setTop (mkF m 26 #[.val (.ref r0), .val (.long j1), .second, .val (.ref r2), .val (.ref r3), .val (.int i4), .val (.long j5), .second, .val (.long (0 : Int64)), .second] [])) _
    refine XS.aloadN X5.here hx rfl (hb hby own_d7_26) rfl rfl ?_
    show Steps p.tables e below (T5.setTop (mkF m 27 #[.val (.ref r0), .val (.long j1), .second, .val (.ref r2), .val (.ref r3), .val (.int i4), .val (.long j5), .second, .val (.long (0 : Int64)), .second] [(.ref r0)])) _
    refine XS.lload X5.here hx rfl (hb hby own_d7_27) rfl ?_
    exact kt
  obtain ⟨T6, h6, X6, e6, W6, st6⟩ := putF X5 hx hZ hown (host := "") (Or.inl (hw _ (List.mem_of_getElem? (i := 46) rfl))) Via.refl e5 cFld_r0_modificationTime_5 cExa_r0_5 (Or.inl (hw _ (List.mem_of_getElem? (i := 47) rfl))) (hw _ (List.mem_of_getElem? (i := 27) rfl)) (ty := .long) (by decide) rfl rfl (g := (mkF m 29 #[.val (.ref r0), .val (.long j1), .second, .val (.ref r2), .val (.ref r3), .val (.int i4), .val (.long j5), .second, .val (.long (0 : Int64)), .second] [(.long j5), (.ref r0)])) rfl rfl (hb hby own_d7_29)
  have Fw6 : Fld Z h6 r0 "com/example/quayside/quayside/core/Entry" "modificationTime" "J" (.long j5) := cFld_r0_modificationTime_5.same W6
  have cFld_r0_id_6 : Fld Z h6 r0 "com/example/quayside/quayside/core/Entry" "id" "J" (.long j1) := cFld_r0_id_5.other W6 (Or.inr (slot_ne (Or.inr (hw _ (List.mem_of_getElem? (i := 39) rfl))) (Or.inl (hw _ (List.mem_of_getElem? (i := 47) rfl))) (by decide) (t := .long) (t' := .long) (by decide) (by decide)))
  have cFld_r0_owner_6 : Fld Z h6 r0 "com/example/quayside/quayside/core/Entry" "owner" "Ljava/lang/String;" (.ref r2) := cFld_r0_owner_5.other W6 (Or.inr (slot_ne (Or.inl (hw _ (List.mem_of_getElem? (i := 41) rfl))) (Or.inl (hw _ (List.mem_of_getElem? (i := 47) rfl))) (by decide) (t := (.object "java/lang/String")) (t' := .long) (by decide) (by decide)))
  have cFld_r0_group_6 : Fld Z h6 r0 "com/example/quayside/quayside/core/Entry" "group" "Ljava/lang/String;" (.ref r3) := cFld_r0_group_5.other W6 (Or.inr (slot_ne (Or.inl (hw _ (List.mem_of_getElem? (i := 43) rfl))) (Or.inl (hw _ (List.mem_of_getElem? (i := 47) rfl))) (by decide) (t := (.object "java/lang/String")) (t' := .long) (by decide) (by decide)))
  have cFld_r0_permission_6 : Fld Z h6 r0 "com/example/quayside/quayside/core/Entry" "permission" "I" (.int i4) := Fw5.other W6 (Or.inr (slot_ne (Or.inl (hw _ (List.mem_of_getElem? (i := 45) rfl))) (Or.inl (hw _ (List.mem_of_getElem? (i := 47) rfl))) (by decide) (t := .int) (t' := .long) (by decide) (by decide)))
  have cFld_r0_accessTime_6 : Fld Z h6 r0 "com/example/quayside/quayside/core/Entry" "accessTime" "J" (.long (0 : Int64)) := cFld_r0_accessTime_5.other W6 (Or.inr (slot_ne (Or.inl (hw _ (List.mem_of_getElem? (i := 49) rfl))) (Or.inl (hw _ (List.mem_of_getElem? (i := 47) rfl))) (by decide) (t := .long) (t' := .long) (by decide) (by decide)))
  have cFld_r0_entries_6 : Fld Z h6 r0 "com/example/quayside/quayside/core/Directory" "entries" "Lcom/example/quayside/quayside/core/Entries;" .null := cFld_r0_entries_5.other W6 (Or.inr (slot_ne (Or.inr (hw _ (List.mem_of_getElem? (i := 58) rfl))) (Or.inl (hw _ (List.mem_of_getElem? (i := 47) rfl))) (by decide) (t := (.object "com/example/quayside/quayside/core/Entries")) (t' := .long) (by decide) (by decide)))
  have cExa_r0_6 : Exa Z h6 r0 "com/example/quayside/quayside/core/Directory" := cExa_r0_5.wr W6
  have K6 : Keep h0 h6 [r0] := K5.wr W6 (Or.inl (List.mem_of_getElem? (i := 0) rfl))
  have N6 := Fr.snoc X6 N5 P8
  refine ownE.go (T' := T6) (f' := (mkF m 32 #[.val (.ref r0), .val (.long j1), .second, .val (.ref r2), .val (.ref r3), .val (.int i4), .val (.long j5), .second, .val (.long (0 : Int64)), .second] [])) st6 ?_
  refine ownE.go (T' := T6) (f' := (mkF m 35 #[.val (.ref r0), .val (.long j1), .second, .val (.ref r2), .val (.ref r3), .val (.int i4), .val (.long j5), .second, .val (.long (0 : Int64)), .second] [(.long (0 : Int64)), (.ref r0)])) (fun t kt => ?_) ?_
  · show Steps p.tables e below (T6.setTop (mkF m 32 #[.val (.ref r0), .val (.long j1), .second, .val (.ref r2), .val (.ref r3), .val (.int i4), .val (.long j5), .second, .val (.long (0 : Int64)), .second] [])) _
    refine XS.aloadN X6.here hx rfl (hb hby own_d7_32) rfl rfl ?_
    show Steps p.tables e below (T6.setTop (mkF m 33 #[.val (.ref r0), .val (.long j1), .second, .val (.ref r2), .val (.ref r3), .val (.int i4), .val (.long j5), .second, .val (.long (0 : Int64)), .second] [(.ref r0)])) _
    refine XS.lload X6.here hx rfl (hb hby own_d7_33) rfl ?_
    exact kt
  obtain ⟨T7, h7, X7, e7, W7, st7⟩ := putF X6 hx hZ hown (host := "") (Or.inl (hw _ (List.mem_of_getElem? (i := 48) rfl))) Via.refl e6 cFld_r0_accessTime_6 cExa_r0_6 (Or.inl (hw _ (List.mem_of_getElem? (i := 49) rfl))) (hw _ (List.mem_of_getElem? (i := 27) rfl)) (ty := .long) (by decide) rfl rfl (g := (mkF m 35 #[.val (.ref r0), .val (.long j1), .second, .val (.ref r2), .val (.ref r3), .val (.int i4), .val (.long j5), .second, .val (.long (0 : Int64)), .second] [(.long (0 : Int64)), (.ref r0)])) rfl rfl (hb hby own_d7_35)
  have Fw7 : Fld Z h7 r0 "com/example/quayside/quayside/core/Entry" "accessTime" "J" (.long (0 : Int64)) := cFld_r0_accessTime_6.same W7
  have cFld_r0_id_7 : Fld Z h7 r0 "com/example/quayside/quayside/core/Entry" "id" "J" (.long j1) := cFld_r0_id_6.other W7 (Or.inr (slot_ne (Or.inr (hw _ (List.mem_of_getElem? (i := 39) rfl))) (Or.inl (hw _ (List.mem_of_getElem? (i := 49) rfl))) (by decide) (t := .long) (t' := .long) (by decide) (by decide)))
  have cFld_r0_owner_7 : Fld Z h7 r0 "com/example/quayside/quayside/core/Entry" "owner" "Ljava/lang/String;" (.ref r2) := cFld_r0_owner_6.other W7 (Or.inr (slot_ne (Or.inl (hw _ (List.mem_of_getElem? (i := 41) rfl))) (Or.inl (hw _ (List.mem_of_getElem? (i := 49) rfl))) (by decide) (t := (.object "java/lang/String")) (t' := .long) (by decide) (by decide)))
  have cFld_r0_group_7 : Fld Z h7 r0 "com/example/quayside/quayside/core/Entry" "group" "Ljava/lang/String;" (.ref r3) := cFld_r0_group_6.other W7 (Or.inr (slot_ne (Or.inl (hw _ (List.mem_of_getElem? (i := 43) rfl))) (Or.inl (hw _ (List.mem_of_getElem? (i := 49) rfl))) (by decide) (t := (.object "java/lang/String")) (t' := .long) (by decide) (by decide)))
  have cFld_r0_permission_7 : Fld Z h7 r0 "com/example/quayside/quayside/core/Entry" "permission" "I" (.int i4) := cFld_r0_permission_6.other W7 (Or.inr (slot_ne (Or.inl (hw _ (List.mem_of_getElem? (i := 45) rfl))) (Or.inl (hw _ (List.mem_of_getElem? (i := 49) rfl))) (by decide) (t := .int) (t' := .long) (by decide) (by decide)))
  have cFld_r0_modificationTime_7 : Fld Z h7 r0 "com/example/quayside/quayside/core/Entry" "modificationTime" "J" (.long j5) := Fw6.other W7 (Or.inr (slot_ne (Or.inl (hw _ (List.mem_of_getElem? (i := 47) rfl))) (Or.inl (hw _ (List.mem_of_getElem? (i := 49) rfl))) (by decide) (t := .long) (t' := .long) (by decide) (by decide)))
  have cFld_r0_entries_7 : Fld Z h7 r0 "com/example/quayside/quayside/core/Directory" "entries" "Lcom/example/quayside/quayside/core/Entries;" .null := cFld_r0_entries_6.other W7 (Or.inr (slot_ne (Or.inr (hw _ (List.mem_of_getElem? (i := 58) rfl))) (Or.inl (hw _ (List.mem_of_getElem? (i := 49) rfl))) (by decide) (t := (.object "com/example/quayside/quayside/core/Entries")) (t' := .long) (by decide) (by decide)))
  have cExa_r0_7 : Exa Z h7 r0 "com/example/quayside/quayside/core/Directory" := cExa_r0_6.wr W7
  have K7 : Keep h0 h7 [r0] := K6.wr W7 (Or.inl (List.mem_of_getElem? (i := 0) rfl))
  have N7 := Fr.snoc X7 N6 P8
  refine ownE.go (T' := T7) (f' := (mkF m 38 #[.val (.ref r0), .val (.long j1), .second, .val (.ref r2), .val (.ref r3), .val (.int i4), .val (.long j5), .second, .val (.long (0 : Int64)), .second] [])) st7 ?_
  refine ownE.retV X7 hx hlk hret (hb hby own_d7_38) ?_ (by decide) (by decide)
  show own_Q7 Z r0 j1 r2 r3 i4 j5 h0 n0 _ T7.heap _
  rw [e7]
  exact ⟨rfl, N7, K7, cExa_r0_7, cFld_r0_permission_7, cFld_r0_entries_7⟩
theorem own_d8_0 : decode prog_25_method_1_code 0 = .ok (.aload_n 0, 1) := by decide +kernel
theorem own_d8_1 : decode prog_25_method_1_code 1 = .ok (.invokespecial 1, 3) := by decide +kernel
theorem own_d8_4 : decode prog_25_method_1_code 4 = .ok (.return_, 1) := by decide +kernel
theorem own_pn6 : plainName "com/example/quayside/quayside/core/Entries" = true := by first | (simp [plainName, overriddenIn]; done) | decide +kernel
theorem own_ef8 (m : MethodId) (x0 : Addr) : entryFrame m #[(.ref x0)] 1 = mkF m 0 #[.val (.ref x0)] [] := by first | (simp [entryFrame, mkF, argsToLocals, Value.category]; done) | rfl
def own_Q8 (Z : State) (r0 : Addr) (h0 : Heap) (n0 : Nat) (v : Option Value) (h : Heap) (L : List Loc) : Prop := v = none ∧ Fr n0 L ∧ h = h0
set_option maxRecDepth 65536 in
set_option maxHeartbeats 40000000 in
theorem own_rm8 (l : Launch) (Z : State) (a0 : Array Value) (hw : ∀ d ∈ tables_1, d.before a0 Z = true) (ws : List Jvm.Cond) (r0 : Addr) (h0 : Heap) (n0 : Nat) (Z0 : n0 ≤ h0.size) :
    MetFree l (⟨"com/example/quayside/quayside/core/Entries", "<init>", "()V"⟩ : MethodName) (head1 (Jvm.Cond.code (⟨"com/example/quayside/quayside/core/Entries", "<init>", "()V"⟩ : MethodName) prog_25_method_1_code 1 none :: ws) ({ frames := 1, cells := 0, slots := 0, locals := 12 } : Room)) (fun a U => a = #[(.ref r0)] ∧ Z.Warmed39 U.vm ∧ U.heap = h0) (fun _ _ _ _ _ => True) (fun _ U o U' => ∃ v L, o = .returned v ∧ own_Q8 Z r0 h0 n0 v U'.heap L ∧ FrameEnd U o U' L ({ frames := 1, cells := 0, slots := 0, locals := 12 } : Room).cells ({ frames := 1, cells := 0, slots := 0, locals := 12 } : Room).slots) := by
  refine MetFree.of_bodySF (plainFor_of_name own_pn6) hisR ?_
  intro p e s m args below meth c s₁ Bd hml0 hP hK
  obtain ⟨rfl, hZ, hh⟩ := hP
  have hx := Bd.exec
  have hby := Bd.bytes
  have hret := Bd.returns
  have hlk := BodyLoose.notSynchronized Bd
  have hml : c.maxLocals = 1 := hml0
  have hown : s.vm.findClass "com/example/quayside/quayside/core/Entries" = some m.cls := findClass_of_methodNamed Bd.named
  have hnm := (name_of_methodNamed Bd.named Bd.method).1
  have X0 : Stand p l e ({ frames := 1, cells := 0, slots := 0, locals := 12 } : Room) s m #[(.ref r0)] below meth c s₁ [] 0 0 := Stand.of_body Bd
  have e0 : s₁.heap = h0 := by rw [← hh, Bd.state]; rfl
  have N0 := Fr.nil n0
  have K0 : Keep h0 h0 [] := Keep.refl h0 _
  show ownE p e below s (own_Q8 Z r0 h0 n0) ({ frames := 1, cells := 0, slots := 0, locals := 12 } : Room).cells ({ frames := 1, cells := 0, slots := 0, locals := 12 } : Room).slots s₁ (entryFrame m #[(.ref r0)] 1)
  rw [own_ef8]
  refine ownE.go (T' := s₁) (f' := (mkF m 1 #[.val (.ref r0)] [(.ref r0)])) (fun t kt => ?_) ?_
  · show Steps p.tables e below (s₁.setTop (mkF m 0 #[.val (.ref r0)] [])) _
    refine XS.aloadN X0.here hx rfl (hb hby own_d8_0) rfl rfl ?_
    exact kt
  obtain ⟨T1, X1, e1, st1⟩ := initO X0 hx hZ hown (hw _ (List.mem_of_getElem? (i := 56) rfl)) (hw _ (List.mem_of_getElem? (i := 20) rfl)) (hw _ (List.mem_of_getElem? (i := 21) rfl)) e0 (g := (mkF m 1 #[.val (.ref r0)] [(.ref r0)])) rfl (by rw [hml]; rfl) rfl (hb hby own_d8_1) (by decide) (W := 0) (by show 2 * 0 + _ ≤ _; exact Nat.le_of_eq rfl) (by decide)
  refine ownE.go (T' := T1) (f' := (mkF m 4 #[.val (.ref r0)] [])) st1 ?_
  refine ownE.retV X1 hx hlk hret (hb hby own_d8_4) ?_ (by decide) (by decide)
  show own_Q8 Z r0 h0 n0 _ T1.heap _
  rw [e1]
  exact ⟨rfl, N0, rfl⟩
theorem own_pd7 : parseMethodDescriptor "(JLjava/lang/String;Ljava/lang/String;IJJ)V" = some ⟨[.long, (.object "java/lang/String"), (.object "java/lang/String"), .int, .long, .long], none⟩ := by decide +kernel
theorem own_pd8 : parseMethodDescriptor "()V" = some ⟨[], none⟩ := by decide +kernel
theorem own_d6_0 : decode prog_23_method_1_code 0 = .ok (.aload_n 0, 1) := by decide +kernel
theorem own_d6_1 : decode prog_23_method_1_code 1 = .ok (.lload_n 1, 1) := by decide +kernel
theorem own_d6_2 : decode prog_23_method_1_code 2 = .ok (.aload_n 3, 1) := by decide +kernel
theorem own_d6_3 : decode prog_23_method_1_code 3 = .ok (.aload 4, 2) := by decide +kernel
theorem own_d6_5 : decode prog_23_method_1_code 5 = .ok (.iload 5, 2) := by decide +kernel
theorem own_d6_7 : decode prog_23_method_1_code 7 = .ok (.lload 6, 2) := by decide +kernel
theorem own_d6_9 : decode prog_23_method_1_code 9 = .ok (.lconst 0, 1) := by decide +kernel
theorem own_d6_10 : decode prog_23_method_1_code 10 = .ok (.invokespecial 1, 3) := by decide +kernel
theorem own_d6_13 : decode prog_23_method_1_code 13 = .ok (.aload_n 0, 1) := by decide +kernel
theorem own_d6_14 : decode prog_23_method_1_code 14 = .ok (.new 7, 3) := by decide +kernel
theorem own_d6_17 : decode prog_23_method_1_code 17 = .ok (.dup, 1) := by decide +kernel
theorem own_d6_18 : decode prog_23_method_1_code 18 = .ok (.invokespecial 9, 3) := by decide +kernel
theorem own_d6_21 : decode prog_23_method_1_code 21 = .ok (.putfield 12, 3) := by decide +kernel
theorem own_d6_24 : decode prog_23_method_1_code 24 = .ok (.return_, 1) := by decide +kernel
theorem own_pn9 : plainName "com/example/quayside/quayside/core/Directory" = true := by first | (simp [plainName, overriddenIn]; done) | decide +kernel
theorem own_ef6 (m : MethodId) (x0 : Addr) (x1 : Int64) (x2 : Addr) (x3 : Addr) (x4 : Int32) (x5 : Int64) : entryFrame m #[(.ref x0), (.long x1), (.ref x2), (.ref x3), (.int x4), (.long x5)] 8 = mkF m 0 #[.val (.ref x0), .val (.long x1), .second, .val (.ref x2), .val (.ref x3), .val (.int x4), .val (.long x5), .second] [] := by first | (simp [entryFrame, mkF, argsToLocals, Value.category]; done) | rfl
def own_Q6 (Z : State) (r0 : Addr) (j1 : Int64) (r2 : Addr) (r3 : Addr) (i4 : Int32) (j5 : Int64) (h0 : Heap) (n0 : Nat) (v : Option Value) (h : Heap) (L : List Loc) : Prop := v = none ∧ Fr n0 L ∧ Keep h0 h [r0] ∧ Exa Z h r0 "com/example/quayside/quayside/core/Directory" ∧ Fld Z h r0 "com/example/quayside/quayside/core/Entry" "permission" "I" (.int i4)
set_option maxRecDepth 65536 in
set_option maxHeartbeats 40000000 in
theorem own_rm6 (l : Launch) (Z : State) (a0 : Array Value) (hw : ∀ d ∈ tables_1, d.before a0 Z = true) (ws : List Jvm.Cond) (r0 : Addr) (j1 : Int64) (r2 : Addr) (r3 : Addr) (i4 : Int32) (j5 : Int64) (h0 : Heap) (n0 : Nat) (Z0 : n0 ≤ h0.size) (P0 : Fld Z h0 r0 "com/example/quayside/quayside/core/Entry" "id" "J" (.long (0 : Int64))) (P1 : Fld Z h0 r0 "com/example/quayside/quayside/core/Entry" "owner" "Ljava/lang/String;" .null) (P2 : Fld Z h0 r0 "com/example/quayside/quayside/core/Entry" "group" "Ljava/lang/String;" .null) (P3 : Fld Z h0 r0 "com/example/quayside/quayside/core/Entry" "permission" "I" (.int (0 : Int32))) (P4 : Fld Z h0 r0 "com/example/quayside/quayside/core/Entry" "modificationTime" "J" (.long (0 : Int64))) (P5 : Fld Z h0 r0 "com/example/quayside/quayside/core/Entry" "accessTime" "J" (.long (0 : Int64))) (P6 : Fld Z h0 r0 "com/example/quayside/quayside/core/Directory" "entries" "Lcom/example/quayside/quayside/core/Entries;" .null) (P7 : Exa Z h0 r0 "com/example/quayside/quayside/core/Directory") (P8 : n0 ≤ r0) :
    MetFree l (⟨"com/example/quayside/quayside/core/Directory", "<init>", "(JLjava/lang/String;Ljava/lang/String;IJ)V"⟩ : MethodName) (head1 (Jvm.Cond.code (⟨"com/example/quayside/quayside/core/Directory", "<init>", "(JLjava/lang/String;Ljava/lang/String;IJ)V"⟩ : MethodName) prog_23_method_1_code 8 none :: ws) ({ frames := 2, cells := 1, slots := 1, locals := 33 } : Room)) (fun a U => a = #[(.ref r0), (.long j1), (.ref r2), (.ref r3), (.int i4), (.long j5)] ∧ Z.Warmed39 U.vm ∧ U.heap = h0) (fun _ _ _ _ _ => True) (fun _ U o U' => ∃ v L, o = .returned v ∧ own_Q6 Z r0 j1 r2 r3 i4 j5 h0 n0 v U'.heap L ∧ FrameEnd U o U' L ({ frames := 2, cells := 1, slots := 1, locals := 33 } : Room).cells ({ frames := 2, cells := 1, slots := 1, locals := 33 } : Room).slots) := by
  refine MetFree.of_bodySF (plainFor_of_name own_pn9) hisR ?_
  intro p e s m args below meth c s₁ Bd hml0 hP hK
  obtain ⟨rfl, hZ, hh⟩ := hP
  have hx := Bd.exec
  have hby := Bd.bytes
  have hret := Bd.returns
  have hlk := BodyLoose.notSynchronized Bd
  have hml : c.maxLocals = 8 := hml0
  have hown : s.vm.findClass "com/example/quayside/quayside/core/Directory" = some m.cls := findClass_of_methodNamed Bd.named
  have hnm := (name_of_methodNamed Bd.named Bd.method).1
  have X0 : Stand p l e ({ frames := 2, cells := 1, slots := 1, locals := 33 } : Room) s m #[(.ref r0), (.long j1), (.ref r2), (.ref r3), (.int i4), (.long j5)] below meth c s₁ [] 0 0 := Stand.of_body Bd
  have e0 : s₁.heap = h0 := by rw [← hh, Bd.state]; rfl
  have N0 := Fr.nil n0
  have K0 : Keep h0 h0 [r0] := Keep.refl h0 _
  show ownE p e below s (own_Q6 Z r0 j1 r2 r3 i4 j5 h0 n0) ({ frames := 2, cells := 1, slots := 1, locals := 33 } : Room).cells ({ frames := 2, cells := 1, slots := 1, locals := 33 } : Room).slots s₁ (entryFrame m #[(.ref r0), (.long j1), (.ref r2), (.ref r3), (.int i4), (.long j5)] 8)
  rw [own_ef6]
  refine ownE.go (T' := s₁) (f' := (mkF m 10 #[.val (.ref r0), .val (.long j1), .second, .val (.ref r2), .val (.ref r3), .val (.int i4), .val (.long j5), .second] [(.long (0 : Int64)), (.long j5), (.int i4), (.ref r3), (.ref r2), (.long j1), (.ref r0)])) (fun t kt => ?_) ?_
  · show Steps p.tables e below (s₁.setTop (mkF m 0 #[.val (.ref r0), .val (.long j1), .second, .val (.ref r2), .val (.ref r3), .val (.int i4), .val (.long j5), .second] [])) _
    refine XS.aloadN X0.here hx rfl (hb hby own_d6_0) rfl rfl ?_
    show Steps p.tables e below (s₁.setTop (mkF m 1 #[.val (.ref r0), .val (.long j1), .second, .val (.ref r2), .val (.ref r3), .val (.int i4), .val (.long j5), .second] [(.ref r0)])) _
    refine XS.lloadN X0.here hx rfl (hb hby own_d6_1) rfl ?_
    show Steps p.tables e below (s₁.setTop (mkF m 2 #[.val (.ref r0), .val (.long j1), .second, .val (.ref r2), .val (.ref r3), .val (.int i4), .val (.long j5), .second] [(.long j1), (.ref r0)])) _
    refine XS.aloadN X0.here hx rfl (hb hby own_d6_2) rfl rfl ?_
    show Steps p.tables e below (s₁.setTop (mkF m 3 #[.val (.ref r0), .val (.long j1), .second, .val (.ref r2), .val (.ref r3), .val (.int i4), .val (.long j5), .second] [(.ref r2), (.long j1), (.ref r0)])) _
    refine XS.aload X0.here hx rfl (hb hby own_d6_3) rfl rfl ?_
    show Steps p.tables e below (s₁.setTop (mkF m 5 #[.val (.ref r0), .val (.long j1), .second, .val (.ref r2), .val (.ref r3), .val (.int i4), .val (.long j5), .second] [(.ref r3), (.ref r2), (.long j1), (.ref r0)])) _
    refine XS.iload X0.here hx rfl (hb hby own_d6_5) rfl ?_
    show Steps p.tables e below (s₁.setTop (mkF m 7 #[.val (.ref r0), .val (.long j1), .second, .val (.ref r2), .val (.ref r3), .val (.int i4), .val (.long j5), .second] [(.int i4), (.ref r3), (.ref r2), (.long j1), (.ref r0)])) _
    refine XS.lload X0.here hx rfl (hb hby own_d6_7) rfl ?_
    show Steps p.tables e below (s₁.setTop (mkF m 9 #[.val (.ref r0), .val (.long j1), .second, .val (.ref r2), .val (.ref r3), .val (.int i4), .val (.long j5), .second] [(.long j5), (.int i4), (.ref r3), (.ref r2), (.long j1), (.ref r0)])) _
    refine XS.lconst X0.here hx rfl (hb hby own_d6_9) ?_
    exact kt
  obtain ⟨_, _, ⟨T1, L1, k1, n1⟩, -, X1, ⟨Lc1, hQ1, l1, y1, z1⟩, st1⟩ := X0.specialBack hx (y := (⟨"com/example/quayside/quayside/core/Entry", "<init>", "(JLjava/lang/String;Ljava/lang/String;IJJ)V"⟩ : MethodName)) rfl hown (mvT hZ (hw _ (List.mem_of_getElem? (i := 32) rfl))) (mvT hZ (hw _ (List.mem_of_getElem? (i := 33) rfl))) (mvT hZ (hw _ (List.mem_of_getElem? (i := 36) rfl))) (by decide) (backOf (W := 0) (own_rm7 l Z a0 hw [] r0 j1 r2 r3 i4 j5 h0 n0 (Nat.le_trans Z0 K0.1) P0 P1 P2 P3 P4 P5 P6 P7 P8) hZ (hw _ (List.mem_of_getElem? (i := 36) rfl)) (hw _ (List.mem_of_getElem? (i := 35) rfl)) (by decide) (by decide)) (g := (mkF m 10 #[.val (.ref r0), .val (.long j1), .second, .val (.ref r2), .val (.ref r3), .val (.int i4), .val (.long j5), .second] [(.long (0 : Int64)), (.long j5), (.int i4), (.ref r3), (.ref r2), (.long j1), (.ref r0)])) rfl (by rw [hml]; rfl) (Steps.refl _) (a := r0) (argsL := [(.long j1), (.ref r2), (.ref r3), (.int i4), (.long j5), (.long (0 : Int64))]) (rest := []) (lenOf own_pd7 rfl) rfl (by show 2 * 0 + _ ≤ _; exact Nat.le_of_eq rfl) (hb hby own_d6_10) (fun _ _ => ⟨rfl, e0, (by decide : 0 + 0 ≤ _), (by decide : 0 + 0 ≤ _)⟩)
  dsimp only [Pt.U, Pt.locs, Pt.cells, Pt.slots] at X1 l1 y1 z1 st1 hQ1
  subst l1 y1 z1
  obtain ⟨rfl, N1q, K1q, f1_0, f1_1, f1_2⟩ := hQ1
  have cExa_r0_1 : Exa Z T1.heap r0 "com/example/quayside/quayside/core/Directory" := P7.keep K1q
  have K1 : Keep h0 T1.heap [r0] := K0.trans K1q (allS (Or.inl (List.mem_of_getElem? (i := 0) rfl)) all0)
  have N1 := Fr.app N0 N1q
  refine ownE.goS (T' := T1) (f' := (mkF m 13 #[.val (.ref r0), .val (.long j1), .second, .val (.ref r2), .val (.ref r3), .val (.int i4), .val (.long j5), .second] [])) st1 ?_
  refine ownE.go (T' := T1) (f' := (mkF m 14 #[.val (.ref r0), .val (.long j1), .second, .val (.ref r2), .val (.ref r3), .val (.int i4), .val (.long j5), .second] [(.ref r0)])) (fun t kt => ?_) ?_
  · show Steps p.tables e below (T1.setTop (mkF m 13 #[.val (.ref r0), .val (.long j1), .second, .val (.ref r2), .val (.ref r3), .val (.int i4), .val (.long j5), .second] [])) _
    refine XS.aloadN X1.here hx rfl (hb hby own_d6_13) rfl rfl ?_
    exact kt
  obtain ⟨T2, h2, X2, e2, E2, A2, D2, -, st2⟩ := newO X1 hx hZ hown (hw _ (List.mem_of_getElem? (i := 50) rfl)) (hw _ (List.mem_of_getElem? (i := 51) rfl)) (hw _ (List.mem_of_getElem? (i := 52) rfl)) rfl (g := (mkF m 14 #[.val (.ref r0), .val (.long j1), .second, .val (.ref r2), .val (.ref r3), .val (.int i4), .val (.long j5), .second] [(.ref r0)])) rfl (hb hby own_d6_14) (by decide) (by decide)
  obtain ⟨b2, g2⟩ : ∃ z, z = T1.heap.size := ⟨_, rfl⟩
  rw [← g2] at A2 D2 st2
  have ne_r0_b2 : r0 ≠ b2 := Nat.ne_of_lt (Nat.lt_of_lt_of_le f1_0.lt (Nat.le_of_eq g2.symm))
  have sz_b2 : h0.size ≤ b2 := Nat.le_trans K1.1 (Nat.le_of_eq g2.symm)
  have ge_b2 : n0 ≤ b2 := Nat.le_trans Z0 sz_b2
  have cExa_r0_2 : Exa Z h2 r0 "com/example/quayside/quayside/core/Directory" := f1_0.ext E2
  have cFld_r0_permission_2 : Fld Z h2 r0 "com/example/quayside/quayside/core/Entry" "permission" "I" (.int i4) := f1_1.ext E2
  have cFld_r0_entries_2 : Fld Z h2 r0 "com/example/quayside/quayside/core/Directory" "entries" "Lcom/example/quayside/quayside/core/Entries;" .null := f1_2.ext E2
  have K2 : Keep h0 h2 [r0] := K1.ext E2
  refine ownE.go (T' := T2) (f' := (mkF m 17 #[.val (.ref r0), .val (.long j1), .second, .val (.ref r2), .val (.ref r3), .val (.int i4), .val (.long j5), .second] [(.ref b2), (.ref r0)])) st2 ?_
  refine ownE.go (T' := T2) (f' := (mkF m 18 #[.val (.ref r0), .val (.long j1), .second, .val (.ref r2), .val (.ref r3), .val (.int i4), .val (.long j5), .second] [(.ref b2), (.ref b2), (.ref r0)])) (fun t kt => ?_) ?_
  · show Steps p.tables e below (T2.setTop (mkF m 17 #[.val (.ref r0), .val (.long j1), .second, .val (.ref r2), .val (.ref r3), .val (.int i4), .val (.long j5), .second] [(.ref b2), (.ref r0)])) _
    refine XS.dup X2.here hx rfl (hb hby own_d6_17) rfl rfl ?_
    exact kt
  obtain ⟨_, _, ⟨T3, L3, k3, n3⟩, -, X3, ⟨Lc3, hQ3, l3, y3, z3⟩, st3⟩ := X2.specialBack hx (y := (⟨"com/example/quayside/quayside/core/Entries", "<init>", "()V"⟩ : MethodName)) rfl hown (mvT hZ (hw _ (List.mem_of_getElem? (i := 53) rfl))) (mvT hZ (hw _ (List.mem_of_getElem? (i := 54) rfl))) (mvT hZ (hw _ (List.mem_of_getElem? (i := 55) rfl))) (by decide) (backOf (W := 2) (own_rm8 l Z a0 hw [] b2 h2 n0 (Nat.le_trans Z0 K2.1) ) hZ (hw _ (List.mem_of_getElem? (i := 55) rfl)) (hw _ (List.mem_of_getElem? (i := 52) rfl)) (by decide) (by decide)) (g := (mkF m 18 #[.val (.ref r0), .val (.long j1), .second, .val (.ref r2), .val (.ref r3), .val (.int i4), .val (.long j5), .second] [(.ref b2), (.ref b2), (.ref r0)])) rfl (by rw [hml]; rfl) (Steps.refl _) (a := b2) (argsL := []) (rest := [(.ref b2), (.ref r0)]) (lenOf own_pd8 rfl) rfl (by show 2 * 0 + _ ≤ _; exact Nat.le_of_eq rfl) (hb hby own_d6_18) (fun _ _ => ⟨rfl, e2, (by decide : 1 + 0 ≤ _), (by decide : 1 + 0 ≤ _)⟩)
  dsimp only [Pt.U, Pt.locs, Pt.cells, Pt.slots] at X3 l3 y3 z3 st3 hQ3
  subst l3 y3 z3
  obtain ⟨rfl, N3q, e3⟩ := hQ3
  have N3 := Fr.app N1 N3q
  refine ownE.goS (T' := T3) (f' := (mkF m 21 #[.val (.ref r0), .val (.long j1), .second, .val (.ref r2), .val (.ref r3), .val (.int i4), .val (.long j5), .second] [(.ref b2), (.ref r0)])) st3 ?_
  obtain ⟨T4, h4, X4, e4, W4, st4⟩ := putF X3 hx hZ hown (host := "") (Or.inl (hw _ (List.mem_of_getElem? (i := 57) rfl))) Via.refl e3 cFld_r0_entries_2 cExa_r0_2 (Or.inr ⟨(hw _ (List.mem_of_getElem? (i := 58) rfl)), rfl, hnm⟩) (hw _ (List.mem_of_getElem? (i := 27) rfl)) (ty := (.object "com/example/quayside/quayside/core/Entries")) (by decide) rfl rfl (g := (mkF m 21 #[.val (.ref r0), .val (.long j1), .second, .val (.ref r2), .val (.ref r3), .val (.int i4), .val (.long j5), .second] [(.ref b2), (.ref r0)])) rfl rfl (hb hby own_d6_21)
  have Fw4 : Fld Z h4 r0 "com/example/quayside/quayside/core/Directory" "entries" "Lcom/example/quayside/quayside/core/Entries;" (.ref b2) := cFld_r0_entries_2.same W4
  have cExa_r0_4 : Exa Z h4 r0 "com/example/quayside/quayside/core/Directory" := cExa_r0_2.wr W4
  have cFld_r0_permission_4 : Fld Z h4 r0 "com/example/quayside/quayside/core/Entry" "permission" "I" (.int i4) := cFld_r0_permission_2.other W4 (Or.inr (slot_ne (Or.inl (hw _ (List.mem_of_getElem? (i := 45) rfl))) (Or.inr (hw _ (List.mem_of_getElem? (i := 58) rfl))) (by decide) (t := .int) (t' := (.object "com/example/quayside/quayside/core/Entries")) (by decide) (by decide)))
  have cExa_b2_4 : Exa Z h4 b2 "com/example/quayside/quayside/core/Entries" := A2.wr W4
  have K4 : Keep h0 h4 [r0] := K2.wr W4 (Or.inl (List.mem_of_getElem? (i := 0) rfl))
  have N4 := Fr.snoc X4 N3 P8
  refine ownE.go (T' := T4) (f' := (mkF m 24 #[.val (.ref r0), .val (.long j1), .second, .val (.ref r2), .val (.ref r3), .val (.int i4), .val (.long j5), .second] [])) st4 ?_
  refine ownE.retV X4 hx hlk hret (hb hby own_d6_24) ?_ (by decide) (by decide)
  show own_Q6 Z r0 j1 r2 r3 i4 j5 h0 n0 _ T4.heap _
  rw [e4]
  exact ⟨rfl, N4, K4, cExa_r0_4, cFld_r0_permission_4⟩
theorem own_d9_0 : decode prog_23_method_2_code 0 = .ok (.aload_n 0, 1) := by decide +kernel
theorem own_d9_1 : decode prog_23_method_2_code 1 = .ok (.getfield 18, 3) := by decide +kernel
theorem own_d9_4 : decode prog_23_method_2_code 4 = .ok (.sipush 512, 3) := by decide +kernel
theorem own_d9_7 : decode prog_23_method_2_code 7 = .ok (.iand, 1) := by decide +kernel
theorem own_d9_8 : decode prog_23_method_2_code 8 = .ok (.ifCond .eq 7, 3) := by decide +kernel
theorem own_d9_11 : decode prog_23_method_2_code 11 = .ok (.iconst 1, 1) := by decide +kernel
theorem own_d9_12 : decode prog_23_method_2_code 12 = .ok (.goto 4, 3) := by decide +kernel
theorem own_d9_15 : decode prog_23_method_2_code 15 = .ok (.iconst 0, 1) := by decide +kernel
theorem own_d9_16 : decode prog_23_method_2_code 16 = .ok (.ireturn, 1) := by decide +kernel
theorem own_ef9 (m : MethodId) (x0 : Addr) : entryFrame m #[(.ref x0)] 1 = mkF m 0 #[.val (.ref x0)] [] := by first | (simp [entryFrame, mkF, argsToLocals, Value.category]; done) | rfl
def own_f9 (pm : Int32) : Int32 :=
  if (pm &&& (512 : Int32)) = (0 : Int32) then
    (0 : Int32)
  else
    (1 : Int32)
def own_Q9 (Z : State) (r0 : Addr) (pm : Int32) (h0 : Heap) (n0 : Nat) (v : Option Value) (h : Heap) (L : List Loc) : Prop := v = some (.int (own_f9 pm)) ∧ Fr n0 L ∧ h = h0
set_option maxRecDepth 65536 in
set_option maxHeartbeats 40000000 in
theorem own_rm9 (l : Launch) (Z : State) (a0 : Array Value) (hw : ∀ d ∈ tables_1, d.before a0 Z = true) (ws : List Jvm.Cond) (r0 : Addr) (pm : Int32) (h0 : Heap) (n0 : Nat) (Z0 : n0 ≤ h0.size) (P0 : Fld Z h0 r0 "com/example/quayside/quayside/core/Entry" "permission" "I" (.int pm)) :
    MetFree l (⟨"com/example/quayside/quayside/core/Directory", "isSticky", "()Z"⟩ : MethodName) (head1 (Jvm.Cond.code (⟨"com/example/quayside/quayside/core/Directory", "isSticky", "()Z"⟩ : MethodName) prog_23_method_2_code 1 (some .boolean) :: ws) ({ frames := 0, cells := 0, slots := 0, locals := 0 } : Room)) (fun a U => a = #[(.ref r0)] ∧ Z.Warmed39 U.vm ∧ U.heap = h0) (fun _ _ _ _ _ => True) (fun _ U o U' => ∃ v L, o = .returned v ∧ own_Q9 Z r0 pm h0 n0 v U'.heap L ∧ FrameEnd U o U' L ({ frames := 0, cells := 0, slots := 0, locals := 0 } : Room).cells ({ frames := 0, cells := 0, slots := 0, locals := 0 } : Room).slots) := by
  refine MetFree.of_bodySF (plainFor_of_name own_pn9) hisR ?_
  intro p e s m args below meth c s₁ Bd hml0 hP hK
  obtain ⟨rfl, hZ, hh⟩ := hP
  have hx := Bd.exec
  have hby := Bd.bytes
  have hret := Bd.returns
  have hlk := BodyLoose.notSynchronized Bd
  have hml : c.maxLocals = 1 := hml0
  have hown : s.vm.findClass "com/example/quayside/quayside/core/Directory" = some m.cls := findClass_of_methodNamed Bd.named
  have hnm := (name_of_methodNamed Bd.named Bd.method).1
  have X0 : Stand p l e ({ frames := 0, cells := 0, slots := 0, locals := 0 } : Room) s m #[(.ref r0)] below meth c s₁ [] 0 0 := Stand.of_body Bd
  have e0 : s₁.heap = h0 := by rw [← hh, Bd.state]; rfl
  have N0 := Fr.nil n0
  have K0 : Keep h0 h0 [] := Keep.refl h0 _
  show ownE p e below s (own_Q9 Z r0 pm h0 n0) ({ frames := 0, cells := 0, slots := 0, locals := 0 } : Room).cells ({ frames := 0, cells := 0, slots := 0, locals := 0 } : Room).slots s₁ (entryFrame m #[(.ref r0)] 1)
  rw [own_ef9]
  refine ownE.go (T' := s₁) (f' := (mkF m 1 #[.val (.ref r0)] [(.ref r0)])) (fun t kt => ?_) ?_
  · show Steps p.tables e below (s₁.setTop (mkF m 0 #[.val (.ref r0)] [])) _
    refine XS.aloadN X0.here hx rfl (hb hby own_d9_0) rfl rfl ?_
    exact kt
  obtain ⟨T1, X1, e1, st1⟩ := getF X0 hx hZ hown (host := "") (Or.inl (hw _ (List.mem_of_getElem? (i := 64) rfl))) (Via.of (hw _ (List.mem_of_getElem? (i := 65) rfl))) e0 P0 (g := (mkF m 1 #[.val (.ref r0)] [(.ref r0)])) rfl rfl (hb hby own_d9_1)
  refine ownE.go (T' := T1) (f' := (mkF m 4 #[.val (.ref r0)] [(.int pm)])) st1 ?_
  refine ownE.go (T' := T1) (f' := (mkF m 8 #[.val (.ref r0)] [(.int (pm &&& (512 : Int32)))])) (fun t kt => ?_) ?_
  · show Steps p.tables e below (T1.setTop (mkF m 4 #[.val (.ref r0)] [(.int pm)])) _
    refine XS.sipush X1.here hx rfl (hb hby own_d9_4) ?_
    show Steps p.tables e below (T1.setTop (mkF m 7 #[.val (.ref r0)] [(.int (512 : Int32)), (.int pm)])) _
    refine XS.iand X1.here hx rfl (hb hby own_d9_7) rfl ?_
    exact kt
  by_cases hc2 : (pm &&& (512 : Int32)) = (0 : Int32)
  · -- pc 8
    refine ownE.go (T' := T1) (f' := (mkF m 15 #[.val (.ref r0)] [])) (fun t kt => XS.ifYes (g := (mkF m 8 #[.val (.ref r0)] [(.int (pm &&& (512 : Int32)))])) X1.here hx rfl (pc0 := 8) (pc' := 15) rfl (hb hby own_d9_8) rfl (Jvm.Free.XT.i0_eq_t hc2) (by decide) (by decide) kt) ?_
    refine ownE.go (T' := T1) (f' := (mkF m 16 #[.val (.ref r0)] [(.int (0 : Int32))])) (fun t kt => ?_) ?_
    · show Steps p.tables e below (T1.setTop (mkF m 15 #[.val (.ref r0)] [])) _
      refine XS.iconst X1.here hx rfl (hb hby own_d9_15) ?_
      exact kt
    refine ownE.retN X1 hx hlk (t := .boolean) hret (by simp) (hb hby own_d9_16) ?_ (by decide) (by decide)
    show own_Q9 Z r0 pm h0 n0 _ T1.heap _
    rw [e1]
    exact ⟨(by rw [own_f9, if_pos hc2] <;> first | rfl | decide), N0, rfl⟩
  · -- pc 8
    refine ownE.go (T' := T1) (f' := (mkF m 11 #[.val (.ref r0)] [])) (fun t kt => XS.ifNo (g := (mkF m 8 #[.val (.ref r0)] [(.int (pm &&& (512 : Int32)))])) X1.here hx rfl (hb hby own_d9_8) rfl (Jvm.Free.XT.i0_eq_f hc2) kt) ?_
    refine ownE.go (T' := T1) (f' := (mkF m 16 #[.val (.ref r0)] [(.int (1 : Int32))])) (fun t kt => ?_) ?_
    · show Steps p.tables e below (T1.setTop (mkF m 11 #[.val (.ref r0)] [])) _
      refine XS.iconst X1.here hx rfl (hb hby own_d9_11) ?_
      show Steps p.tables e below (T1.setTop (mkF m 12 #[.val (.ref r0)] [(.int (1 : Int32))])) _
      refine XS.goto X1.here hx rfl (pc0 := 12) (pc' := 16) rfl (hb hby own_d9_12) (by decide) (by decide) ?_
      exact kt
    refine ownE.retN X1 hx hlk (t := .boolean) hret (by simp) (hb hby own_d9_16) ?_ (by decide) (by decide)
    show own_Q9 Z r0 pm h0 n0 _ T1.heap _
    rw [e1]
    exact ⟨(by rw [own_f9, if_neg hc2] <;> first | rfl | decide), N0, rfl⟩
theorem own_ch (x : Int32) : ¬ (255 : Int32) < ((x &&& (255 : Int32)).toUInt32.toUInt16.toUInt32.toInt32) := by
  rw [i2c_mask]
  have h := c_mask x 255 8 (by decide) (by decide)
  rw [Int32.lt_iff_toInt_lt, h]
  have e : (255 : Int32).toInt = 255 := by decide
  have p : ((2 ^ 8 : Nat) : Int) = 256 := by decide
  rw [e, p]
  omega
theorem own_pd10 : parseMethodDescriptor "(C)Ljava/lang/String;" = some ⟨[.char], some (.object "java/lang/String")⟩ := by decide +kernel
theorem own_pd11 : parseMethodDescriptor "(JLjava/lang/String;Ljava/lang/String;IJ)V" = some ⟨[.long, (.object "java/lang/String"), (.object "java/lang/String"), .int, .long], none⟩ := by decide +kernel
theorem own_pd12 : parseMethodDescriptor "()Z" = some ⟨[], some .boolean⟩ := by decide +kernel
def own_j0_66_S0 (j0 : Int64) (i1 : Int32) (i2 : Int32) (j3 : Int64) (i4 : Int32) (cs : Int32) : Int32 :=
  if (((i1.toUInt32 >>> ((9 : Int32) &&& 31).toUInt32).toInt32) &&& (1 : Int32)) = (1 : Int32) then
    (1 : Int32)
  else
    (0 : Int32)
def own_j0_127_S0 (j0 : Int64) (i1 : Int32) (i2 : Int32) (j3 : Int64) (i4 : Int32) (cs : Int32) : Int32 :=
  if (own_j0_66_S0 j0 i1 i2 j3 i4 cs) = (0 : Int32) then
    (1 : Int32)
  else
    (0 : Int32)
theorem own_pn13 : plainName "com/example/quayside/quayside/core/DirectoryIsStickyPinLaw" = true := by first | (simp [plainName, overriddenIn]; done) | decide +kernel
theorem own_ef0 (m : MethodId) (x0 : Int64) (x1 : Int32) (x2 : Int32) (x3 : Int64) (x4 : Int32) : entryFrame m #[(.long x0), (.int x1), (.int x2), (.long x3), (.int x4)] maxLocals = mkF m 0 #[.val (.long x0), .second, .val (.int x1), .val (.int x2), .val (.long x3), .second, .val (.int x4), .unset, .unset, .unset, .unset, .unset, .unset, .unset] [] := by first | (simp [entryFrame, mkF, argsToLocals, Value.category, maxLocals]; done) | rfl
def own_f0 (j0 : Int64) (i1 : Int32) (i2 : Int32) (j3 : Int64) (i4 : Int32) (cs : Int32) : Int32 :=
  if (own_f9 i1) = (own_j0_66_S0 j0 i1 i2 j3 i4 cs) then
    if (own_f9 (i1 ^^^ (512 : Int32))) = (own_j0_127_S0 j0 i1 i2 j3 i4 cs) then
      if (own_f9 ((i1 &&& (512 : Int32)) ||| (i2 &&& (-513 : Int32)))) = (own_j0_66_S0 j0 i1 i2 j3 i4 cs) then
        (1 : Int32)
      else
        (0 : Int32)
    else
      (0 : Int32)
  else
    (0 : Int32)
def own_Q0 (Z : State) (j0 : Int64) (i1 : Int32) (i2 : Int32) (j3 : Int64) (i4 : Int32) (cs : Int32) (h0 : Heap) (n0 : Nat) (v : Option Value) (h : Heap) (L : List Loc) : Prop := v = some (.int (own_f0 j0 i1 i2 j3 i4 cs)) ∧ Fr n0 L ∧ Keep h0 h []
set_option maxRecDepth 65536 in
set_option maxHeartbeats 40000000 in
theorem own_rm0 (l : Launch) (Z : State) (a0 : Array Value) (hw : ∀ d ∈ tables_1, d.before a0 Z = true) (ws : List Jvm.Cond) (j0 : Int64) (i1 : Int32) (i2 : Int32) (j3 : Int64) (i4 : Int32) (cs : Int32) (h0 : Heap) (n0 : Nat) (Z0 : n0 ≤ h0.size) (Od : Old Z n0 h0) (hcs : Sta Z Z.heap "java/lang/String" "COMPACT_STRINGS" "Z" (.int cs)) (hcsn : ¬ cs = (0 : Int32)) :
    MetFree l x (head1 (Jvm.Cond.code x code maxLocals ret :: ws) room_1) (fun a U => a = #[(.long j0), (.int i1), (.int i2), (.long j3), (.int i4)] ∧ Z.Warmed39 U.vm ∧ U.heap = h0) (fun _ _ _ _ _ => True) (fun _ U o U' => ∃ v L, o = .returned v ∧ own_Q0 Z j0 i1 i2 j3 i4 cs h0 n0 v U'.heap L ∧ FrameEnd U o U' L 6 18) := by
  refine MetFree.of_bodySF (plainFor_of_name own_pn13) hisR ?_
  intro p e s m args below meth c s₁ Bd hml0 hP hK
  obtain ⟨rfl, hZ, hh⟩ := hP
  have hx := Bd.exec
  have hby := Bd.bytes
  have hret := Bd.returns
  have hlk := BodyLoose.notSynchronized Bd
  have hml : c.maxLocals = 14 := hml0
  have hown : s.vm.findClass "com/example/quayside/quayside/core/DirectoryIsStickyPinLaw" = some m.cls := findClass_of_methodNamed Bd.named
  have hnm := (name_of_methodNamed Bd.named Bd.method).1
  have X0 : Stand p l e room_1 s m #[(.long j0), (.int i1), (.int i2), (.long j3), (.int i4)] below meth c s₁ [] 0 0 := Stand.of_body Bd
  have e0 : s₁.heap = h0 := by rw [← hh, Bd.state]; rfl
  have N0 := Fr.nil n0
  have K0 : Keep h0 h0 [] := Keep.refl h0 _
  show ownE p e below s (own_Q0 Z j0 i1 i2 j3 i4 cs h0 n0) 6 18 s₁ (entryFrame m #[(.long j0), (.int i1), (.int i2), (.long j3), (.int i4)] maxLocals)
  rw [own_ef0]
  refine ownE.go (T' := s₁) (f' := (mkF m 7 #[.val (.long j0), .second, .val (.int i1), .val (.int i2), .val (.long j3), .second, .val (.int i4), .unset, .unset, .unset, .unset, .unset, .unset, .unset] [(.int ((i4 &&& (255 : Int32)).toUInt32.toUInt16.toUInt32.toInt32))])) (fun t kt => ?_) ?_
  · show Steps p.tables e below (s₁.setTop (mkF m 0 #[.val (.long j0), .second, .val (.int i1), .val (.int i2), .val (.long j3), .second, .val (.int i4), .unset, .unset, .unset, .unset, .unset, .unset, .unset] [])) _
    refine XS.iload X0.here hx rfl (hb hby at_0) rfl ?_
    show Steps p.tables e below (s₁.setTop (mkF m 2 #[.val (.long j0), .second, .val (.int i1), .val (.int i2), .val (.long j3), .second, .val (.int i4), .unset, .unset, .unset, .unset, .unset, .unset, .unset] [(.int i4)])) _
    refine XS.sipush X0.here hx rfl (hb hby at_2) ?_
    show Steps p.tables e below (s₁.setTop (mkF m 5 #[.val (.long j0), .second, .val (.int i1), .val (.int i2), .val (.long j3), .second, .val (.int i4), .unset, .unset, .unset, .unset, .unset, .unset, .unset] [(.int (255 : Int32)), (.int i4)])) _
    refine XS.iand X0.here hx rfl (hb hby at_5) rfl ?_
    show Steps p.tables e below (s₁.setTop (mkF m 6 #[.val (.long j0), .second, .val (.int i1), .val (.int i2), .val (.long j3), .second, .val (.int i4), .unset, .unset, .unset, .unset, .unset, .unset, .unset] [(.int (i4 &&& (255 : Int32)))])) _
    refine XS.i2c X0.here hx rfl (hb hby at_6) rfl ?_
    exact kt
  obtain ⟨_, _, ⟨T1, L1, k1, n1⟩, -, X1, ⟨Lc1, hQ1, l1, y1, z1⟩, st1⟩ := Jvm.LawKit.callS X0 hx (y := (⟨"java/lang/String", "valueOf", "(C)Ljava/lang/String;"⟩ : MethodName)) hown (mvT hZ (hw _ (List.mem_of_getElem? (i := 0) rfl))) (mvT hZ (hw _ (List.mem_of_getElem? (i := 1) rfl))) (mvT hZ (hw _ (List.mem_of_getElem? (i := 2) rfl))) (mvT hZ (hw _ (List.mem_of_getElem? (i := 3) rfl))) (by decide) (backOf (W := 0) (own_rm1 l Z a0 hw [] ((i4 &&& (255 : Int32)).toUInt32.toUInt16.toUInt32.toInt32) cs h0 n0 (Nat.le_trans Z0 K0.1) Od hcs hcsn (own_ch i4)) hZ (hw _ (List.mem_of_getElem? (i := 3) rfl)) (hw _ (List.mem_of_getElem? (i := 2) rfl)) (by decide) (by decide)) (g := (mkF m 7 #[.val (.long j0), .second, .val (.int i1), .val (.int i2), .val (.long j3), .second, .val (.int i4), .unset, .unset, .unset, .unset, .unset, .unset, .unset] [(.int ((i4 &&& (255 : Int32)).toUInt32.toUInt16.toUInt32.toInt32))])) rfl (by rw [hml]; rfl) (argsL := [(.int ((i4 &&& (255 : Int32)).toUInt32.toUInt16.toUInt32.toInt32))]) (rest := []) (lenOf own_pd10 rfl) rfl (by show 2 * 0 + _ ≤ _; exact Nat.le_of_eq rfl) (hb hby at_7) (fun _ _ => ⟨rfl, e0, (by decide : 0 + 2 ≤ _), (by decide : 0 + 5 ≤ _)⟩)
  dsimp only [Pt.U, Pt.locs, Pt.cells, Pt.slots] at X1 l1 y1 z1 st1 hQ1
  subst l1 y1 z1
  obtain ⟨sb_1, rfl, N1q, K1q, f1_0, f1_1⟩ := hQ1
  have cOld_1 : Old Z n0 T1.heap := Od.keep K1q all0
  have K1 : Keep h0 T1.heap [] := K0.trans K1q all0
  have sz_sb_1 : h0.size ≤ sb_1 := Nat.le_trans K0.1 f1_0
  have ge_sb_1 : n0 ≤ sb_1 := Nat.le_trans Z0 sz_sb_1
  have N1 := Fr.app N0 N1q
  refine ownE.go (T' := T1) (f' := (mkF m 10 #[.val (.long j0), .second, .val (.int i1), .val (.int i2), .val (.long j3), .second, .val (.int i4), .unset, .unset, .unset, .unset, .unset, .unset, .unset] [(.ref sb_1)])) st1 ?_
  refine ownE.go (T' := T1) (f' := (mkF m 22 #[.val (.long j0), .second, .val (.int i1), .val (.int i2), .val (.long j3), .second, .val (.int i4), .val (.ref sb_1), .unset, .unset, .unset, .unset, .unset, .unset] [(.int ((((i4.toUInt32 >>> ((8 : Int32) &&& 31).toUInt32).toInt32) &&& (255 : Int32)).toUInt32.toUInt16.toUInt32.toInt32))])) (fun t kt => ?_) ?_
  · show Steps p.tables e below (T1.setTop (mkF m 10 #[.val (.long j0), .second, .val (.int i1), .val (.int i2), .val (.long j3), .second, .val (.int i4), .unset, .unset, .unset, .unset, .unset, .unset, .unset] [(.ref sb_1)])) _
    refine XS.astore X1.here hx rfl (hb hby at_10) rfl rfl (l' := #[.val (.long j0), .second, .val (.int i1), .val (.int i2), .val (.long j3), .second, .val (.int i4), .val (.ref sb_1), .unset, .unset, .unset, .unset, .unset, .unset]) rfl ?_
    show Steps p.tables e below (T1.setTop (mkF m 12 #[.val (.long j0), .second, .val (.int i1), .val (.int i2), .val (.long j3), .second, .val (.int i4), .val (.ref sb_1), .unset, .unset, .unset, .unset, .unset, .unset] [])) _
    refine XS.iload X1.here hx rfl (hb hby at_12) rfl ?_
    show Steps p.tables e below (T1.setTop (mkF m 14 #[.val (.long j0), .second, .val (.int i1), .val (.int i2), .val (.long j3), .second, .val (.int i4), .val (.ref sb_1), .unset, .unset, .unset, .unset, .unset, .unset] [(.int i4)])) _
    refine XS.bipush X1.here hx rfl (hb hby at_14) ?_
    show Steps p.tables e below (T1.setTop (mkF m 16 #[.val (.long j0), .second, .val (.int i1), .val (.int i2), .val (.long j3), .second, .val (.int i4), .val (.ref sb_1), .unset, .unset, .unset, .unset, .unset, .unset] [(.int (8 : Int32)), (.int i4)])) _
    refine XS.iushr X1.here hx rfl (hb hby at_16) rfl ?_
    show Steps p.tables e below (T1.setTop (mkF m 17 #[.val (.long j0), .second, .val (.int i1), .val (.int i2), .val (.long j3), .second, .val (.int i4), .val (.ref sb_1), .unset, .unset, .unset, .unset, .unset, .unset] [(.int ((i4.toUInt32 >>> ((8 : Int32) &&& 31).toUInt32).toInt32))])) _
    refine XS.sipush X1.here hx rfl (hb hby at_17) ?_
    show Steps p.tables e below (T1.setTop (mkF m 20 #[.val (.long j0), .second, .val (.int i1), .val (.int i2), .val (.long j3), .second, .val (.int i4), .val (.ref sb_1), .unset, .unset, .unset, .unset, .unset, .unset] [(.int (255 : Int32)), (.int ((i4.toUInt32 >>> ((8 : Int32) &&& 31).toUInt32).toInt32))])) _
    refine XS.iand X1.here hx rfl (hb hby at_20) rfl ?_
    show Steps p.tables e below (T1.setTop (mkF m 21 #[.val (.long j0), .second, .val (.int i1), .val (.int i2), .val (.long j3), .second, .val (.int i4), .val (.ref sb_1), .unset, .unset, .unset, .unset, .unset, .unset] [(.int (((i4.toUInt32 >>> ((8 : Int32) &&& 31).toUInt32).toInt32) &&& (255 : Int32)))])) _
    refine XS.i2c X1.here hx rfl (hb hby at_21) rfl ?_
    exact kt
  obtain ⟨_, _, ⟨T2, L2, k2, n2⟩, -, X2, ⟨Lc2, hQ2, l2, y2, z2⟩, st2⟩ := Jvm.LawKit.callS X1 hx (y := (⟨"java/lang/String", "valueOf", "(C)Ljava/lang/String;"⟩ : MethodName)) hown (mvT hZ (hw _ (List.mem_of_getElem? (i := 0) rfl))) (mvT hZ (hw _ (List.mem_of_getElem? (i := 1) rfl))) (mvT hZ (hw _ (List.mem_of_getElem? (i := 2) rfl))) (mvT hZ (hw _ (List.mem_of_getElem? (i := 3) rfl))) (by decide) (backOf (W := 0) (own_rm1 l Z a0 hw [] ((((i4.toUInt32 >>> ((8 : Int32) &&& 31).toUInt32).toInt32) &&& (255 : Int32)).toUInt32.toUInt16.toUInt32.toInt32) cs T1.heap n0 (Nat.le_trans Z0 K1.1) cOld_1 hcs hcsn (own_ch ((i4.toUInt32 >>> ((8 : Int32) &&& 31).toUInt32).toInt32))) hZ (hw _ (List.mem_of_getElem? (i := 3) rfl)) (hw _ (List.mem_of_getElem? (i := 2) rfl)) (by decide) (by decide)) (g := (mkF m 22 #[.val (.long j0), .second, .val (.int i1), .val (.int i2), .val (.long j3), .second, .val (.int i4), .val (.ref sb_1), .unset, .unset, .unset, .unset, .unset, .unset] [(.int ((((i4.toUInt32 >>> ((8 : Int32) &&& 31).toUInt32).toInt32) &&& (255 : Int32)).toUInt32.toUInt16.toUInt32.toInt32))])) rfl (by rw [hml]; rfl) (argsL := [(.int ((((i4.toUInt32 >>> ((8 : Int32) &&& 31).toUInt32).toInt32) &&& (255 : Int32)).toUInt32.toUInt16.toUInt32.toInt32))]) (rest := []) (lenOf own_pd10 rfl) rfl (by show 2 * 0 + _ ≤ _; exact Nat.le_of_eq rfl) (hb hby at_22) (fun _ _ => ⟨rfl, rfl, (by decide : 2 + 2 ≤ _), (by decide : 5 + 5 ≤ _)⟩)
  dsimp only [Pt.U, Pt.locs, Pt.cells, Pt.slots] at X2 l2 y2 z2 st2 hQ2
  subst l2 y2 z2
  obtain ⟨sb_2, rfl, N2q, K2q, f2_0, f2_1⟩ := hQ2
  have ne_sb_1_sb_2 : sb_1 ≠ sb_2 := Nat.ne_of_lt (Nat.lt_of_lt_of_le f1_1.lt f2_0)
  have cOld_2 : Old Z n0 T2.heap := cOld_1.keep K2q all0
  have cExa_sb_1_2 : Exa Z T2.heap sb_1 "java/lang/String" := f1_1.keep K2q
  have K2 : Keep h0 T2.heap [] := K1.trans K2q all0
  have sz_sb_2 : h0.size ≤ sb_2 := Nat.le_trans K1.1 f2_0
  have ge_sb_2 : n0 ≤ sb_2 := Nat.le_trans Z0 sz_sb_2
  have N2 := Fr.app N1 N2q
  refine ownE.go (T' := T2) (f' := (mkF m 25 #[.val (.long j0), .second, .val (.int i1), .val (.int i2), .val (.long j3), .second, .val (.int i4), .val (.ref sb_1), .unset, .unset, .unset, .unset, .unset, .unset] [(.ref sb_2)])) st2 ?_
  refine ownE.go (T' := T2) (f' := (mkF m 27 #[.val (.long j0), .second, .val (.int i1), .val (.int i2), .val (.long j3), .second, .val (.int i4), .val (.ref sb_1), .val (.ref sb_2), .unset, .unset, .unset, .unset, .unset] [])) (fun t kt => ?_) ?_
  · show Steps p.tables e below (T2.setTop (mkF m 25 #[.val (.long j0), .second, .val (.int i1), .val (.int i2), .val (.long j3), .second, .val (.int i4), .val (.ref sb_1), .unset, .unset, .unset, .unset, .unset, .unset] [(.ref sb_2)])) _
    refine XS.astore X2.here hx rfl (hb hby at_25) rfl rfl (l' := #[.val (.long j0), .second, .val (.int i1), .val (.int i2), .val (.long j3), .second, .val (.int i4), .val (.ref sb_1), .val (.ref sb_2), .unset, .unset, .unset, .unset, .unset]) rfl ?_
    exact kt
  obtain ⟨T3, h3, X3, e3, E3, A3, D3, -, st3⟩ := newO X2 hx hZ hown (hw _ (List.mem_of_getElem? (i := 26) rfl)) (hw _ (List.mem_of_getElem? (i := 27) rfl)) (hw _ (List.mem_of_getElem? (i := 28) rfl)) rfl (g := (mkF m 27 #[.val (.long j0), .second, .val (.int i1), .val (.int i2), .val (.long j3), .second, .val (.int i4), .val (.ref sb_1), .val (.ref sb_2), .unset, .unset, .unset, .unset, .unset] [])) rfl (hb hby at_27) (by decide) (by decide)
  obtain ⟨b3, g3⟩ : ∃ z, z = T2.heap.size := ⟨_, rfl⟩
  rw [← g3] at A3 D3 st3
  have ne_sb_1_b3 : sb_1 ≠ b3 := Nat.ne_of_lt (Nat.lt_of_lt_of_le cExa_sb_1_2.lt (Nat.le_of_eq g3.symm))
  have ne_sb_2_b3 : sb_2 ≠ b3 := Nat.ne_of_lt (Nat.lt_of_lt_of_le f2_1.lt (Nat.le_of_eq g3.symm))
  have sz_b3 : h0.size ≤ b3 := Nat.le_trans K2.1 (Nat.le_of_eq g3.symm)
  have ge_b3 : n0 ≤ b3 := Nat.le_trans Z0 sz_b3
  have cOld_3 : Old Z n0 h3 := cOld_2.ext E3
  have cExa_sb_1_3 : Exa Z h3 sb_1 "java/lang/String" := cExa_sb_1_2.ext E3
  have cExa_sb_2_3 : Exa Z h3 sb_2 "java/lang/String" := f2_1.ext E3
  have D3_id : Fld Z h3 b3 "com/example/quayside/quayside/core/Entry" "id" "J" (.long (0 : Int64)) := D3 (Or.inr (hw _ (List.mem_of_getElem? (i := 39) rfl))) (ty := .long) (by decide)
  have D3_owner : Fld Z h3 b3 "com/example/quayside/quayside/core/Entry" "owner" "Ljava/lang/String;" .null := D3 (Or.inl (hw _ (List.mem_of_getElem? (i := 41) rfl))) (ty := (.object "java/lang/String")) (by decide)
  have D3_group : Fld Z h3 b3 "com/example/quayside/quayside/core/Entry" "group" "Ljava/lang/String;" .null := D3 (Or.inl (hw _ (List.mem_of_getElem? (i := 43) rfl))) (ty := (.object "java/lang/String")) (by decide)
  have D3_permission : Fld Z h3 b3 "com/example/quayside/quayside/core/Entry" "permission" "I" (.int (0 : Int32)) := D3 (Or.inl (hw _ (List.mem_of_getElem? (i := 45) rfl))) (ty := .int) (by decide)
  have D3_modificationTime : Fld Z h3 b3 "com/example/quayside/quayside/core/Entry" "modificationTime" "J" (.long (0 : Int64)) := D3 (Or.inl (hw _ (List.mem_of_getElem? (i := 47) rfl))) (ty := .long) (by decide)
  have D3_accessTime : Fld Z h3 b3 "com/example/quayside/quayside/core/Entry" "accessTime" "J" (.long (0 : Int64)) := D3 (Or.inl (hw _ (List.mem_of_getElem? (i := 49) rfl))) (ty := .long) (by decide)
  have D3_entries : Fld Z h3 b3 "com/example/quayside/quayside/core/Directory" "entries" "Lcom/example/quayside/quayside/core/Entries;" .null := D3 (Or.inr (hw _ (List.mem_of_getElem? (i := 58) rfl))) (ty := (.object "com/example/quayside/quayside/core/Entries")) (by decide)
  have K3 : Keep h0 h3 [] := K2.ext E3
  refine ownE.go (T' := T3) (f' := (mkF m 30 #[.val (.long j0), .second, .val (.int i1), .val (.int i2), .val (.long j3), .second, .val (.int i4), .val (.ref sb_1), .val (.ref sb_2), .unset, .unset, .unset, .unset, .unset] [(.ref b3)])) st3 ?_
  refine ownE.go (T' := T3) (f' := (mkF m 39 #[.val (.long j0), .second, .val (.int i1), .val (.int i2), .val (.long j3), .second, .val (.int i4), .val (.ref sb_1), .val (.ref sb_2), .unset, .unset, .unset, .unset, .unset] [(.long j3), (.int i1), (.ref sb_2), (.ref sb_1), (.long j0), (.ref b3), (.ref b3)])) (fun t kt => ?_) ?_
  · show Steps p.tables e below (T3.setTop (mkF m 30 #[.val (.long j0), .second, .val (.int i1), .val (.int i2), .val (.long j3), .second, .val (.int i4), .val (.ref sb_1), .val (.ref sb_2), .unset, .unset, .unset, .unset, .unset] [(.ref b3)])) _
    refine XS.dup X3.here hx rfl (hb hby at_30) rfl rfl ?_
    show Steps p.tables e below (T3.setTop (mkF m 31 #[.val (.long j0), .second, .val (.int i1), .val (.int i2), .val (.long j3), .second, .val (.int i4), .val (.ref sb_1), .val (.ref sb_2), .unset, .unset, .unset, .unset, .unset] [(.ref b3), (.ref b3)])) _
    refine XS.lloadN X3.here hx rfl (hb hby at_31) rfl ?_
    show Steps p.tables e below (T3.setTop (mkF m 32 #[.val (.long j0), .second, .val (.int i1), .val (.int i2), .val (.long j3), .second, .val (.int i4), .val (.ref sb_1), .val (.ref sb_2), .unset, .unset, .unset, .unset, .unset] [(.long j0), (.ref b3), (.ref b3)])) _
    refine XS.aload X3.here hx rfl (hb hby at_32) rfl rfl ?_
    show Steps p.tables e below (T3.setTop (mkF m 34 #[.val (.long j0), .second, .val (.int i1), .val (.int i2), .val (.long j3), .second, .val (.int i4), .val (.ref sb_1), .val (.ref sb_2), .unset, .unset, .unset, .unset, .unset] [(.ref sb_1), (.long j0), (.ref b3), (.ref b3)])) _
    refine XS.aload X3.here hx rfl (hb hby at_34) rfl rfl ?_
    show Steps p.tables e below (T3.setTop (mkF m 36 #[.val (.long j0), .second, .val (.int i1), .val (.int i2), .val (.long j3), .second, .val (.int i4), .val (.ref sb_1), .val (.ref sb_2), .unset, .unset, .unset, .unset, .unset] [(.ref sb_2), (.ref sb_1), (.long j0), (.ref b3), (.ref b3)])) _
    refine XS.iloadN X3.here hx rfl (hb hby at_36) rfl ?_
    show Steps p.tables e below (T3.setTop (mkF m 37 #[.val (.long j0), .second, .val (.int i1), .val (.int i2), .val (.long j3), .second, .val (.int i4), .val (.ref sb_1), .val (.ref sb_2), .unset, .unset, .unset, .unset, .unset] [(.int i1), (.ref sb_2), (.ref sb_1), (.long j0), (.ref b3), (.ref b3)])) _
    refine XS.lload X3.here hx rfl (hb hby at_37) rfl ?_
    exact kt
  obtain ⟨_, _, ⟨T4, L4, k4, n4⟩, -, X4, ⟨Lc4, hQ4, l4, y4, z4⟩, st4⟩ := X3.specialBack hx (y := (⟨"com/example/quayside/quayside/core/Directory", "<init>", "(JLjava/lang/String;Ljava/lang/String;IJ)V"⟩ : MethodName)) rfl hown (mvT hZ (hw _ (List.mem_of_getElem? (i := 29) rfl))) (mvT hZ (hw _ (List.mem_of_getElem? (i := 30) rfl))) (mvT hZ (hw _ (List.mem_of_getElem? (i := 31) rfl))) (by decide) (backOf (W := 1) (own_rm6 l Z a0 hw [] b3 j0 sb_1 sb_2 i1 j3 h3 n0 (Nat.le_trans Z0 K3.1) D3_id D3_owner D3_group D3_permission D3_modificationTime D3_accessTime D3_entries A3 ge_b3) hZ (hw _ (List.mem_of_getElem? (i := 31) rfl)) (hw _ (List.mem_of_getElem? (i := 28) rfl)) (by decide) (by decide)) (g := (mkF m 39 #[.val (.long j0), .second, .val (.int i1), .val (.int i2), .val (.long j3), .second, .val (.int i4), .val (.ref sb_1), .val (.ref sb_2), .unset, .unset, .unset, .unset, .unset] [(.long j3), (.int i1), (.ref sb_2), (.ref sb_1), (.long j0), (.ref b3), (.ref b3)])) rfl (by rw [hml]; rfl) (Steps.refl _) (a := b3) (argsL := [(.long j0), (.ref sb_1), (.ref sb_2), (.int i1), (.long j3)]) (rest := [(.ref b3)]) (lenOf own_pd11 rfl) rfl (by show 2 * 0 + _ ≤ _; exact Nat.le_of_eq rfl) (hb hby at_39) (fun _ _ => ⟨rfl, e3, (by decide : 5 + 1 ≤ _), (by decide : 17 + 1 ≤ _)⟩)
  dsimp only [Pt.U, Pt.locs, Pt.cells, Pt.slots] at X4 l4 y4 z4 st4 hQ4
  subst l4 y4 z4
  obtain ⟨rfl, N4q, K4q, f4_0, f4_1⟩ := hQ4
  have cOld_4 : Old Z n0 T4.heap := cOld_3.keep K4q (allS ge_b3 all0)
  have cExa_sb_1_4 : Exa Z T4.heap sb_1 "java/lang/String" := cExa_sb_1_3.keep K4q
  have cExa_sb_2_4 : Exa Z T4.heap sb_2 "java/lang/String" := cExa_sb_2_3.keep K4q
  have cExa_b3_4 : Exa Z T4.heap b3 "com/example/quayside/quayside/core/Directory" := A3.keep K4q
  have K4 : Keep h0 T4.heap [] := K3.trans K4q (allS (Or.inr sz_b3) all0)
  have N4 := Fr.app N2 N4q
  refine ownE.goS (T' := T4) (f' := (mkF m 42 #[.val (.long j0), .second, .val (.int i1), .val (.int i2), .val (.long j3), .second, .val (.int i4), .val (.ref sb_1), .val (.ref sb_2), .unset, .unset, .unset, .unset, .unset] [(.ref b3)])) st4 ?_
  refine ownE.go (T' := T4) (f' := (mkF m 46 #[.val (.long j0), .second, .val (.int i1), .val (.int i2), .val (.long j3), .second, .val (.int i4), .val (.ref sb_1), .val (.ref sb_2), .val (.ref b3), .unset, .unset, .unset, .unset] [(.ref b3)])) (fun t kt => ?_) ?_
  · show Steps p.tables e below (T4.setTop (mkF m 42 #[.val (.long j0), .second, .val (.int i1), .val (.int i2), .val (.long j3), .second, .val (.int i4), .val (.ref sb_1), .val (.ref sb_2), .unset, .unset, .unset, .unset, .unset] [(.ref b3)])) _
    refine XS.astore X4.here hx rfl (hb hby at_42) rfl rfl (l' := #[.val (.long j0), .second, .val (.int i1), .val (.int i2), .val (.long j3), .second, .val (.int i4), .val (.ref sb_1), .val (.ref sb_2), .val (.ref b3), .unset, .unset, .unset, .unset]) rfl ?_
    show Steps p.tables e below (T4.setTop (mkF m 44 #[.val (.long j0), .second, .val (.int i1), .val (.int i2), .val (.long j3), .second, .val (.int i4), .val (.ref sb_1), .val (.ref sb_2), .val (.ref b3), .unset, .unset, .unset, .unset] [])) _
    refine XS.aload X4.here hx rfl (hb hby at_44) rfl rfl ?_
    exact kt
  obtain ⟨cq5, kq5, q5a, q5b, q5c⟩ := isOf hZ rfl f4_0
  obtain ⟨_, _, ⟨T5, L5, k5, n5⟩, -, X5, ⟨Lc5, hQ5, l5, y5, z5⟩, st5⟩ := X4.virtualBack hx (y := (⟨"com/example/quayside/quayside/core/Directory", "isSticky", "()Z"⟩ : MethodName)) (z := (⟨"com/example/quayside/quayside/core/Directory", "isSticky", "()Z"⟩ : MethodName)) hown (mvT hZ (hw _ (List.mem_of_getElem? (i := 59) rfl))) (mvT hZ (hw _ (List.mem_of_getElem? (i := 60) rfl))) (notFace_of_selects (args := #[]) (mvT hZ (hw _ (List.mem_of_getElem? (i := 62) rfl)))) (mvT hZ (hw _ (List.mem_of_getElem? (i := 62) rfl))) (mvT hZ (hw _ (List.mem_of_getElem? (i := 61) rfl))) (by decide) (backOf (W := 0) (own_rm9 l Z a0 hw [] b3 i1 T4.heap n0 (Nat.le_trans Z0 K4.1) f4_1) hZ (hw _ (List.mem_of_getElem? (i := 63) rfl)) (hw _ (List.mem_of_getElem? (i := 28) rfl)) (by decide) (by decide)) q5a q5c (g := (mkF m 46 #[.val (.long j0), .second, .val (.int i1), .val (.int i2), .val (.long j3), .second, .val (.int i4), .val (.ref sb_1), .val (.ref sb_2), .val (.ref b3), .unset, .unset, .unset, .unset] [(.ref b3)])) rfl (by rw [hml]; rfl) (Steps.refl _) (argsL := []) (rest := []) (lenOf own_pd12 rfl) rfl (by show 2 * 0 + _ ≤ _; exact Nat.le_of_eq rfl) (hb hby at_46) (fun _ _ => ⟨rfl, rfl, (by decide : 6 + 0 ≤ _), (by decide : 18 + 0 ≤ _)⟩)
  dsimp only [Pt.U, Pt.locs, Pt.cells, Pt.slots] at X5 l5 y5 z5 st5 hQ5
  subst l5 y5 z5
  obtain ⟨rfl, N5q, e5⟩ := hQ5
  have N5 := Fr.app N4 N5q
  refine ownE.goS (T' := T5) (f' := (mkF m 49 #[.val (.long j0), .second, .val (.int i1), .val (.int i2), .val (.long j3), .second, .val (.int i4), .val (.ref sb_1), .val (.ref sb_2), .val (.ref b3), .unset, .unset, .unset, .unset] [(.int (own_f9 i1))])) st5 ?_
  refine ownE.go (T' := T5) (f' := (mkF m 51 #[.val (.long j0), .second, .val (.int i1), .val (.int i2), .val (.long j3), .second, .val (.int i4), .val (.ref sb_1), .val (.ref sb_2), .val (.ref b3), .val (.int (own_f9 i1)), .unset, .unset, .unset] [])) (fun t kt => ?_) ?_
  · show Steps p.tables e below (T5.setTop (mkF m 49 #[.val (.long j0), .second, .val (.int i1), .val (.int i2), .val (.long j3), .second, .val (.int i4), .val (.ref sb_1), .val (.ref sb_2), .val (.ref b3), .unset, .unset, .unset, .unset] [(.int (own_f9 i1))])) _
    refine XS.istore X5.here hx rfl (hb hby at_49) rfl (l' := #[.val (.long j0), .second, .val (.int i1), .val (.int i2), .val (.long j3), .second, .val (.int i4), .val (.ref sb_1), .val (.ref sb_2), .val (.ref b3), .val (.int (own_f9 i1)), .unset, .unset, .unset]) rfl ?_
    exact kt
  have J8 : ∀ (TJ8 : State) (locsJ8 : List Loc), Stand p l e room_1 s m #[(.long j0), (.int i1), (.int i2), (.long j3), (.int i4)] below meth c TJ8 locsJ8 6 18 → TJ8.heap = T4.heap → Fr n0 locsJ8 → ownE p e below s (own_Q0 Z j0 i1 i2 j3 i4 cs h0 n0) 6 18 TJ8 (mkF m 66 #[.val (.long j0), .second, .val (.int i1), .val (.int i2), .val (.long j3), .second, .val (.int i4), .val (.ref sb_1), .val (.ref sb_2), .val (.ref b3), .val (.int (own_f9 i1)), .unset, .unset, .unset] [(.int (own_j0_66_S0 j0 i1 i2 j3 i4 cs))]) := by
    intro TJ8 locsJ8 XJ8 eJ8 NJ8
    refine ownE.go (T' := TJ8) (f' := (mkF m 75 #[.val (.long j0), .second, .val (.int i1), .val (.int i2), .val (.long j3), .second, .val (.int i4), .val (.ref sb_1), .val (.ref sb_2), .val (.ref b3), .val (.int (own_f9 i1)), .val (.int (own_j0_66_S0 j0 i1 i2 j3 i4 cs)), .unset, .unset] [(.int (i1 ^^^ (512 : Int32))), (.ref b3)])) (fun t kt => ?_) ?_
    · show Steps p.tables e below (TJ8.setTop (mkF m 66 #[.val (.long j0), .second, .val (.int i1), .val (.int i2), .val (.long j3), .second, .val (.int i4), .val (.ref sb_1), .val (.ref sb_2), .val (.ref b3), .val (.int (own_f9 i1)), .unset, .unset, .unset] [(.int (own_j0_66_S0 j0 i1 i2 j3 i4 cs))])) _
      refine XS.istore XJ8.here hx rfl (hb hby at_66) rfl (l' := #[.val (.long j0), .second, .val (.int i1), .val (.int i2), .val (.long j3), .second, .val (.int i4), .val (.ref sb_1), .val (.ref sb_2), .val (.ref b3), .val (.int (own_f9 i1)), .val (.int (own_j0_66_S0 j0 i1 i2 j3 i4 cs)), .unset, .unset]) rfl ?_
      show Steps p.tables e below (TJ8.setTop (mkF m 68 #[.val (.long j0), .second, .val (.int i1), .val (.int i2), .val (.long j3), .second, .val (.int i4), .val (.ref sb_1), .val (.ref sb_2), .val (.ref b3), .val (.int (own_f9 i1)), .val (.int (own_j0_66_S0 j0 i1 i2 j3 i4 cs)), .unset, .unset] [])) _
      refine XS.aload XJ8.here hx rfl (hb hby at_68) rfl rfl ?_
      show Steps p.tables e below (TJ8.setTop (mkF m 70 #[.val (.long j0), .second, .val (.int i1), .val (.int i2), .val (.long j3), .second, .val (.int i4), .val (.ref sb_1), .val (.ref sb_2), .val (.ref b3), .val (.int (own_f9 i1)), .val (.int (own_j0_66_S0 j0 i1 i2 j3 i4 cs)), .unset, .unset] [(.ref b3)])) _
      refine XS.iloadN XJ8.here hx rfl (hb hby at_70) rfl ?_
      show Steps p.tables e below (TJ8.setTop (mkF m 71 #[.val (.long j0), .second, .val (.int i1), .val (.int i2), .val (.long j3), .second, .val (.int i4), .val (.ref sb_1), .val (.ref sb_2), .val (.ref b3), .val (.int (own_f9 i1)), .val (.int (own_j0_66_S0 j0 i1 i2 j3 i4 cs)), .unset, .unset] [(.int i1), (.ref b3)])) _
      refine XS.sipush XJ8.here hx rfl (hb hby at_71) ?_
      show Steps p.tables e below (TJ8.setTop (mkF m 74 #[.val (.long j0), .second, .val (.int i1), .val (.int i2), .val (.long j3), .second, .val (.int i4), .val (.ref sb_1), .val (.ref sb_2), .val (.ref b3), .val (.int (own_f9 i1)), .val (.int (own_j0_66_S0 j0 i1 i2 j3 i4 cs)), .unset, .unset] [(.int (512 : Int32)), (.int i1), (.ref b3)])) _
      refine XS.ixor XJ8.here hx rfl (hb hby at_74) rfl ?_
      exact kt
    obtain ⟨T9, h9, X9, e9, W9, st9⟩ := putF XJ8 hx hZ hown (host := "") (Or.inl (hw _ (List.mem_of_getElem? (i := 66) rfl))) (Via.of (hw _ (List.mem_of_getElem? (i := 65) rfl))) eJ8 f4_1 f4_0 (Or.inl (hw _ (List.mem_of_getElem? (i := 45) rfl))) (hw _ (List.mem_of_getElem? (i := 27) rfl)) (ty := .int) (by decide) rfl rfl (g := (mkF m 75 #[.val (.long j0), .second, .val (.int i1), .val (.int i2), .val (.long j3), .second, .val (.int i4), .val (.ref sb_1), .val (.ref sb_2), .val (.ref b3), .val (.int (own_f9 i1)), .val (.int (own_j0_66_S0 j0 i1 i2 j3 i4 cs)), .unset, .unset] [(.int (i1 ^^^ (512 : Int32))), (.ref b3)])) rfl rfl (hb hby at_75)
    have Fw9 : Fld Z h9 b3 "com/example/quayside/quayside/core/Entry" "permission" "I" (.int (i1 ^^^ (512 : Int32))) := f4_1.same W9
    have cOld_9 : Old Z n0 h9 := cOld_4.wr W9 ge_b3
    have cExa_sb_1_9 : Exa Z h9 sb_1 "java/lang/String" := cExa_sb_1_4.wr W9
    have cExa_sb_2_9 : Exa Z h9 sb_2 "java/lang/String" := cExa_sb_2_4.wr W9
    have cExa_b3_9 : Exa Z h9 b3 "com/example/quayside/quayside/core/Directory" := f4_0.wr W9
    have K9 : Keep h0 h9 [] := K4.wr W9 (Or.inr sz_b3)
    have N9 := Fr.snoc X9 NJ8 ge_b3
    refine ownE.go (T' := T9) (f' := (mkF m 78 #[.val (.long j0), .second, .val (.int i1), .val (.int i2), .val (.long j3), .second, .val (.int i4), .val (.ref sb_1), .val (.ref sb_2), .val (.ref b3), .val (.int (own_f9 i1)), .val (.int (own_j0_66_S0 j0 i1 i2 j3 i4 cs)), .unset, .unset] [])) st9 ?_
    refine ownE.go (T' := T9) (f' := (mkF m 80 #[.val (.long j0), .second, .val (.int i1), .val (.int i2), .val (.long j3), .second, .val (.int i4), .val (.ref sb_1), .val (.ref sb_2), .val (.ref b3), .val (.int (own_f9 i1)), .val (.int (own_j0_66_S0 j0 i1 i2 j3 i4 cs)), .unset, .unset] [(.ref b3)])) (fun t kt => ?_) ?_
    · show Steps p.tables e below (T9.setTop (mkF m 78 #[.val (.long j0), .second, .val (.int i1), .val (.int i2), .val (.long j3), .second, .val (.int i4), .val (.ref sb_1), .val (.ref sb_2), .val (.ref b3), .val (.int (own_f9 i1)), .val (.int (own_j0_66_S0 j0 i1 i2 j3 i4 cs)), .unset, .unset] [])) _
      refine XS.aload X9.here hx rfl (hb hby at_78) rfl rfl ?_
      exact kt
    obtain ⟨cq10, kq10, q10a, q10b, q10c⟩ := isOf hZ e9 cExa_b3_9
    obtain ⟨_, _, ⟨T10, L10, k10, n10⟩, -, X10, ⟨Lc10, hQ10, l10, y10, z10⟩, st10⟩ := X9.virtualBack hx (y := (⟨"com/example/quayside/quayside/core/Directory", "isSticky", "()Z"⟩ : MethodName)) (z := (⟨"com/example/quayside/quayside/core/Directory", "isSticky", "()Z"⟩ : MethodName)) hown (mvT hZ (hw _ (List.mem_of_getElem? (i := 59) rfl))) (mvT hZ (hw _ (List.mem_of_getElem? (i := 60) rfl))) (notFace_of_selects (args := #[]) (mvT hZ (hw _ (List.mem_of_getElem? (i := 62) rfl)))) (mvT hZ (hw _ (List.mem_of_getElem? (i := 62) rfl))) (mvT hZ (hw _ (List.mem_of_getElem? (i := 61) rfl))) (by decide) (backOf (W := 0) (own_rm9 l Z a0 hw [] b3 (i1 ^^^ (512 : Int32)) h9 n0 (Nat.le_trans Z0 K9.1) Fw9) hZ (hw _ (List.mem_of_getElem? (i := 63) rfl)) (hw _ (List.mem_of_getElem? (i := 28) rfl)) (by decide) (by decide)) q10a q10c (g := (mkF m 80 #[.val (.long j0), .second, .val (.int i1), .val (.int i2), .val (.long j3), .second, .val (.int i4), .val (.ref sb_1), .val (.ref sb_2), .val (.ref b3), .val (.int (own_f9 i1)), .val (.int (own_j0_66_S0 j0 i1 i2 j3 i4 cs)), .unset, .unset] [(.ref b3)])) rfl (by rw [hml]; rfl) (Steps.refl _) (argsL := []) (rest := []) (lenOf own_pd12 rfl) rfl (by show 2 * 0 + _ ≤ _; exact Nat.le_of_eq rfl) (hb hby at_80) (fun _ _ => ⟨rfl, e9, (by decide : 6 + 0 ≤ _), (by decide : 18 + 0 ≤ _)⟩)
    dsimp only [Pt.U, Pt.locs, Pt.cells, Pt.slots] at X10 l10 y10 z10 st10 hQ10
    subst l10 y10 z10
    obtain ⟨rfl, N10q, e10⟩ := hQ10
    have N10 := Fr.app N9 N10q
    refine ownE.goS (T' := T10) (f' := (mkF m 83 #[.val (.long j0), .second, .val (.int i1), .val (.int i2), .val (.long j3), .second, .val (.int i4), .val (.ref sb_1), .val (.ref sb_2), .val (.ref b3), .val (.int (own_f9 i1)), .val (.int (own_j0_66_S0 j0 i1 i2 j3 i4 cs)), .unset, .unset] [(.int (own_f9 (i1 ^^^ (512 : Int32))))])) st10 ?_
    refine ownE.go (T' := T10) (f' := (mkF m 98 #[.val (.long j0), .second, .val (.int i1), .val (.int i2), .val (.long j3), .second, .val (.int i4), .val (.ref sb_1), .val (.ref sb_2), .val (.ref b3), .val (.int (own_f9 i1)), .val (.int (own_j0_66_S0 j0 i1 i2 j3 i4 cs)), .val (.int (own_f9 (i1 ^^^ (512 : Int32)))), .unset] [(.int ((i1 &&& (512 : Int32)) ||| (i2 &&& (-513 : Int32)))), (.ref b3)])) (fun t kt => ?_) ?_
    · show Steps p.tables e below (T10.setTop (mkF m 83 #[.val (.long j0), .second, .val (.int i1), .val (.int i2), .val (.long j3), .second, .val (.int i4), .val (.ref sb_1), .val (.ref sb_2), .val (.ref b3), .val (.int (own_f9 i1)), .val (.int (own_j0_66_S0 j0 i1 i2 j3 i4 cs)), .unset, .unset] [(.int (own_f9 (i1 ^^^ (512 : Int32))))])) _
      refine XS.istore X10.here hx rfl (hb hby at_83) rfl (l' := #[.val (.long j0), .second, .val (.int i1), .val (.int i2), .val (.long j3), .second, .val (.int i4), .val (.ref sb_1), .val (.ref sb_2), .val (.ref b3), .val (.int (own_f9 i1)), .val (.int (own_j0_66_S0 j0 i1 i2 j3 i4 cs)), .val (.int (own_f9 (i1 ^^^ (512 : Int32)))), .unset]) rfl ?_
      show Steps p.tables e below (T10.setTop (mkF m 85 #[.val (.long j0), .second, .val (.int i1), .val (.int i2), .val (.long j3), .second, .val (.int i4), .val (.ref sb_1), .val (.ref sb_2), .val (.ref b3), .val (.int (own_f9 i1)), .val (.int (own_j0_66_S0 j0 i1 i2 j3 i4 cs)), .val (.int (own_f9 (i1 ^^^ (512 : Int32)))), .unset] [])) _
      refine XS.aload X10.here hx rfl (hb hby at_85) rfl rfl ?_
      show Steps p.tables e below (T10.setTop (mkF m 87 #[.val (.long j0), .second, .val (.int i1), .val (.int i2), .val (.long j3), .second, .val (.int i4), .val (.ref sb_1), .val (.ref sb_2), .val (.ref b3), .val (.int (own_f9 i1)), .val (.int (own_j0_66_S0 j0 i1 i2 j3 i4 cs)), .val (.int (own_f9 (i1 ^^^ (512 : Int32)))), .unset] [(.ref b3)])) _
      refine XS.iloadN X10.here hx rfl (hb hby at_87) rfl ?_
      show Steps p.tables e below (T10.setTop (mkF m 88 #[.val (.long j0), .second, .val (.int i1), .val (.int i2), .val (.long j3), .second, .val (.int i4), .val (.ref sb_1), .val (.ref sb_2), .val (.ref b3), .val (.int (own_f9 i1)), .val (.int (own_j0_66_S0 j0 i1 i2 j3 i4 cs)), .val (.int (own_f9 (i1 ^^^ (512 : Int32)))), .unset] [(.int i1), (.ref b3)])) _
      refine XS.sipush X10.here hx rfl (hb hby at_88) ?_
      show Steps p.tables e below (T10.setTop (mkF m 91 #[.val (.long j0), .second, .val (.int i1), .val (.int i2), .val (.long j3), .second, .val (.int i4), .val (.ref sb_1), .val (.ref sb_2), .val (.ref b3), .val (.int (own_f9 i1)), .val (.int (own_j0_66_S0 j0 i1 i2 j3 i4 cs)), .val (.int (own_f9 (i1 ^^^ (512 : Int32)))), .unset] [(.int (512 : Int32)), (.int i1), (.ref b3)])) _
      refine XS.iand X10.here hx rfl (hb hby at_91) rfl ?_
      show Steps p.tables e below (T10.setTop (mkF m 92 #[.val (.long j0), .second, .val (.int i1), .val (.int i2), .val (.long j3), .second, .val (.int i4), .val (.ref sb_1), .val (.ref sb_2), .val (.ref b3), .val (.int (own_f9 i1)), .val (.int (own_j0_66_S0 j0 i1 i2 j3 i4 cs)), .val (.int (own_f9 (i1 ^^^ (512 : Int32)))), .unset] [(.int (i1 &&& (512 : Int32))), (.ref b3)])) _
      refine XS.iloadN X10.here hx rfl (hb hby at_92) rfl ?_
      show Steps p.tables e below (T10.setTop (mkF m 93 #[.val (.long j0), .second, .val (.int i1), .val (.int i2), .val (.long j3), .second, .val (.int i4), .val (.ref sb_1), .val (.ref sb_2), .val (.ref b3), .val (.int (own_f9 i1)), .val (.int (own_j0_66_S0 j0 i1 i2 j3 i4 cs)), .val (.int (own_f9 (i1 ^^^ (512 : Int32)))), .unset] [(.int i2), (.int (i1 &&& (512 : Int32))), (.ref b3)])) _
      refine XS.sipush X10.here hx rfl (hb hby at_93) ?_
      show Steps p.tables e below (T10.setTop (mkF m 96 #[.val (.long j0), .second, .val (.int i1), .val (.int i2), .val (.long j3), .second, .val (.int i4), .val (.ref sb_1), .val (.ref sb_2), .val (.ref b3), .val (.int (own_f9 i1)), .val (.int (own_j0_66_S0 j0 i1 i2 j3 i4 cs)), .val (.int (own_f9 (i1 ^^^ (512 : Int32)))), .unset] [(.int (-513 : Int32)), (.int i2), (.int (i1 &&& (512 : Int32))), (.ref b3)])) _
      refine XS.iand X10.here hx rfl (hb hby at_96) rfl ?_
      show Steps p.tables e below (T10.setTop (mkF m 97 #[.val (.long j0), .second, .val (.int i1), .val (.int i2), .val (.long j3), .second, .val (.int i4), .val (.ref sb_1), .val (.ref sb_2), .val (.ref b3), .val (.int (own_f9 i1)), .val (.int (own_j0_66_S0 j0 i1 i2 j3 i4 cs)), .val (.int (own_f9 (i1 ^^^ (512 : Int32)))), .unset] [(.int (i2 &&& (-513 : Int32))), (.int (i1 &&& (512 : Int32))), (.ref b3)])) _
      refine XS.ior X10.here hx rfl (hb hby at_97) rfl ?_
      exact kt
    obtain ⟨T11, h11, X11, e11, W11, st11⟩ := putF X10 hx hZ hown (host := "") (Or.inl (hw _ (List.mem_of_getElem? (i := 66) rfl))) (Via.of (hw _ (List.mem_of_getElem? (i := 65) rfl))) e10 Fw9 cExa_b3_9 (Or.inl (hw _ (List.mem_of_getElem? (i := 45) rfl))) (hw _ (List.mem_of_getElem? (i := 27) rfl)) (ty := .int) (by decide) rfl rfl (g := (mkF m 98 #[.val (.long j0), .second, .val (.int i1), .val (.int i2), .val (.long j3), .second, .val (.int i4), .val (.ref sb_1), .val (.ref sb_2), .val (.ref b3), .val (.int (own_f9 i1)), .val (.int (own_j0_66_S0 j0 i1 i2 j3 i4 cs)), .val (.int (own_f9 (i1 ^^^ (512 : Int32)))), .unset] [(.int ((i1 &&& (512 : Int32)) ||| (i2 &&& (-513 : Int32)))), (.ref b3)])) rfl rfl (hb hby at_98)
    have Fw11 : Fld Z h11 b3 "com/example/quayside/quayside/core/Entry" "permission" "I" (.int ((i1 &&& (512 : Int32)) ||| (i2 &&& (-513 : Int32)))) := Fw9.same W11
    have cOld_11 : Old Z n0 h11 := cOld_9.wr W11 ge_b3
    have cExa_sb_1_11 : Exa Z h11 sb_1 "java/lang/String" := cExa_sb_1_9.wr W11
    have cExa_sb_2_11 : Exa Z h11 sb_2 "java/lang/String" := cExa_sb_2_9.wr W11
    have cExa_b3_11 : Exa Z h11 b3 "com/example/quayside/quayside/core/Directory" := cExa_b3_9.wr W11
    have K11 : Keep h0 h11 [] := K9.wr W11 (Or.inr sz_b3)
    have N11 := Fr.snoc X11 N10 ge_b3
    refine ownE.go (T' := T11) (f' := (mkF m 101 #[.val (.long j0), .second, .val (.int i1), .val (.int i2), .val (.long j3), .second, .val (.int i4), .val (.ref sb_1), .val (.ref sb_2), .val (.ref b3), .val (.int (own_f9 i1)), .val (.int (own_j0_66_S0 j0 i1 i2 j3 i4 cs)), .val (.int (own_f9 (i1 ^^^ (512 : Int32)))), .unset] [])) st11 ?_
    refine ownE.go (T' := T11) (f' := (mkF m 103 #[.val (.long j0), .second, .val (.int i1), .val (.int i2), .val (.long j3), .second, .val (.int i4), .val (.ref sb_1), .val (.ref sb_2), .val (.ref b3), .val (.int (own_f9 i1)), .val (.int (own_j0_66_S0 j0 i1 i2 j3 i4 cs)), .val (.int (own_f9 (i1 ^^^ (512 : Int32)))), .unset] [(.ref b3)])) (fun t kt => ?_) ?_
    · show Steps p.tables e below (T11.setTop (mkF m 101 #[.val (.long j0), .second, .val (.int i1), .val (.int i2), .val (.long j3), .second, .val (.int i4), .val (.ref sb_1), .val (.ref sb_2), .val (.ref b3), .val (.int (own_f9 i1)), .val (.int (own_j0_66_S0 j0 i1 i2 j3 i4 cs)), .val (.int (own_f9 (i1 ^^^ (512 : Int32)))), .unset] [])) _
      refine XS.aload X11.here hx rfl (hb hby at_101) rfl rfl ?_
      exact kt
    obtain ⟨cq12, kq12, q12a, q12b, q12c⟩ := isOf hZ e11 cExa_b3_11
    obtain ⟨_, _, ⟨T12, L12, k12, n12⟩, -, X12, ⟨Lc12, hQ12, l12, y12, z12⟩, st12⟩ := X11.virtualBack hx (y := (⟨"com/example/quayside/quayside/core/Directory", "isSticky", "()Z"⟩ : MethodName)) (z := (⟨"com/example/quayside/quayside/core/Directory", "isSticky", "()Z"⟩ : MethodName)) hown (mvT hZ (hw _ (List.mem_of_getElem? (i := 59) rfl))) (mvT hZ (hw _ (List.mem_of_getElem? (i := 60) rfl))) (notFace_of_selects (args := #[]) (mvT hZ (hw _ (List.mem_of_getElem? (i := 62) rfl)))) (mvT hZ (hw _ (List.mem_of_getElem? (i := 62) rfl))) (mvT hZ (hw _ (List.mem_of_getElem? (i := 61) rfl))) (by decide) (backOf (W := 0) (own_rm9 l Z a0 hw [] b3 ((i1 &&& (512 : Int32)) ||| (i2 &&& (-513 : Int32))) h11 n0 (Nat.le_trans Z0 K11.1) Fw11) hZ (hw _ (List.mem_of_getElem? (i := 63) rfl)) (hw _ (List.mem_of_getElem? (i := 28) rfl)) (by decide) (by decide)) q12a q12c (g := (mkF m 103 #[.val (.long j0), .second, .val (.int i1), .val (.int i2), .val (.long j3), .second, .val (.int i4), .val (.ref sb_1), .val (.ref sb_2), .val (.ref b3), .val (.int (own_f9 i1)), .val (.int (own_j0_66_S0 j0 i1 i2 j3 i4 cs)), .val (.int (own_f9 (i1 ^^^ (512 : Int32)))), .unset] [(.ref b3)])) rfl (by rw [hml]; rfl) (Steps.refl _) (argsL := []) (rest := []) (lenOf own_pd12 rfl) rfl (by show 2 * 0 + _ ≤ _; exact Nat.le_of_eq rfl) (hb hby at_103) (fun _ _ => ⟨rfl, e11, (by decide : 6 + 0 ≤ _), (by decide : 18 + 0 ≤ _)⟩)
    dsimp only [Pt.U, Pt.locs, Pt.cells, Pt.slots] at X12 l12 y12 z12 st12 hQ12
    subst l12 y12 z12
    obtain ⟨rfl, N12q, e12⟩ := hQ12
    have N12 := Fr.app N11 N12q
    refine ownE.goS (T' := T12) (f' := (mkF m 106 #[.val (.long j0), .second, .val (.int i1), .val (.int i2), .val (.long j3), .second, .val (.int i4), .val (.ref sb_1), .val (.ref sb_2), .val (.ref b3), .val (.int (own_f9 i1)), .val (.int (own_j0_66_S0 j0 i1 i2 j3 i4 cs)), .val (.int (own_f9 (i1 ^^^ (512 : Int32)))), .unset] [(.int (own_f9 ((i1 &&& (512 : Int32)) ||| (i2 &&& (-513 : Int32)))))])) st12 ?_
    refine ownE.go (T' := T12) (f' := (mkF m 112 #[.val (.long j0), .second, .val (.int i1), .val (.int i2), .val (.long j3), .second, .val (.int i4), .val (.ref sb_1), .val (.ref sb_2), .val (.ref b3), .val (.int (own_f9 i1)), .val (.int (own_j0_66_S0 j0 i1 i2 j3 i4 cs)), .val (.int (own_f9 (i1 ^^^ (512 : Int32)))), .val (.int (own_f9 ((i1 &&& (512 : Int32)) ||| (i2 &&& (-513 : Int32)))))] [(.int (own_j0_66_S0 j0 i1 i2 j3 i4 cs)), (.int (own_f9 i1))])) (fun t kt => ?_) ?_
    · show Steps p.tables e below (T12.setTop (mkF m 106 #[.val (.long j0), .second, .val (.int i1), .val (.int i2), .val (.long j3), .second, .val (.int i4), .val (.ref sb_1), .val (.ref sb_2), .val (.ref b3), .val (.int (own_f9 i1)), .val (.int (own_j0_66_S0 j0 i1 i2 j3 i4 cs)), .val (.int (own_f9 (i1 ^^^ (512 : Int32)))), .unset] [(.int (own_f9 ((i1 &&& (512 : Int32)) ||| (i2 &&& (-513 : Int32)))))])) _
      refine XS.istore X12.here hx rfl (hb hby at_106) rfl (l' := #[.val (.long j0), .second, .val (.int i1), .val (.int i2), .val (.long j3), .second, .val (.int i4), .val (.ref sb_1), .val (.ref sb_2), .val (.ref b3), .val (.int (own_f9 i1)), .val (.int (own_j0_66_S0 j0 i1 i2 j3 i4 cs)), .val (.int (own_f9 (i1 ^^^ (512 : Int32)))), .val (.int (own_f9 ((i1 &&& (512 : Int32)) ||| (i2 &&& (-513 : Int32)))))]) rfl ?_
      show Steps p.tables e below (T12.setTop (mkF m 108 #[.val (.long j0), .second, .val (.int i1), .val (.int i2), .val (.long j3), .second, .val (.int i4), .val (.ref sb_1), .val (.ref sb_2), .val (.ref b3), .val (.int (own_f9 i1)), .val (.int (own_j0_66_S0 j0 i1 i2 j3 i4 cs)), .val (.int (own_f9 (i1 ^^^ (512 : Int32)))), .val (.int (own_f9 ((i1 &&& (512 : Int32)) ||| (i2 &&& (-513 : Int32)))))] [])) _
      refine XS.iload X12.here hx rfl (hb hby at_108) rfl ?_
      show Steps p.tables e below (T12.setTop (mkF m 110 #[.val (.long j0), .second, .val (.int i1), .val (.int i2), .val (.long j3), .second, .val (.int i4), .val (.ref sb_1), .val (.ref sb_2), .val (.ref b3), .val (.int (own_f9 i1)), .val (.int (own_j0_66_S0 j0 i1 i2 j3 i4 cs)), .val (.int (own_f9 (i1 ^^^ (512 : Int32)))), .val (.int (own_f9 ((i1 &&& (512 : Int32)) ||| (i2 &&& (-513 : Int32)))))] [(.int (own_f9 i1))])) _
      refine XS.iload X12.here hx rfl (hb hby at_110) rfl ?_
      exact kt
    by_cases hc13 : (own_f9 i1) = (own_j0_66_S0 j0 i1 i2 j3 i4 cs)
    · -- pc 112
      refine ownE.go (T' := T12) (f' := (mkF m 115 #[.val (.long j0), .second, .val (.int i1), .val (.int i2), .val (.long j3), .second, .val (.int i4), .val (.ref sb_1), .val (.ref sb_2), .val (.ref b3), .val (.int (own_f9 i1)), .val (.int (own_j0_66_S0 j0 i1 i2 j3 i4 cs)), .val (.int (own_f9 (i1 ^^^ (512 : Int32)))), .val (.int (own_f9 ((i1 &&& (512 : Int32)) ||| (i2 &&& (-513 : Int32)))))] [])) (fun t kt => XS.icmpNo (g := (mkF m 112 #[.val (.long j0), .second, .val (.int i1), .val (.int i2), .val (.long j3), .second, .val (.int i4), .val (.ref sb_1), .val (.ref sb_2), .val (.ref b3), .val (.int (own_f9 i1)), .val (.int (own_j0_66_S0 j0 i1 i2 j3 i4 cs)), .val (.int (own_f9 (i1 ^^^ (512 : Int32)))), .val (.int (own_f9 ((i1 &&& (512 : Int32)) ||| (i2 &&& (-513 : Int32)))))] [(.int (own_j0_66_S0 j0 i1 i2 j3 i4 cs)), (.int (own_f9 i1))])) X12.here hx rfl (hb hby at_112) rfl (Jvm.Free.XT.ii_ne_f hc13) kt) ?_
      refine ownE.go (T' := T12) (f' := (mkF m 117 #[.val (.long j0), .second, .val (.int i1), .val (.int i2), .val (.long j3), .second, .val (.int i4), .val (.ref sb_1), .val (.ref sb_2), .val (.ref b3), .val (.int (own_f9 i1)), .val (.int (own_j0_66_S0 j0 i1 i2 j3 i4 cs)), .val (.int (own_f9 (i1 ^^^ (512 : Int32)))), .val (.int (own_f9 ((i1 &&& (512 : Int32)) ||| (i2 &&& (-513 : Int32)))))] [(.int (own_f9 (i1 ^^^ (512 : Int32))))])) (fun t kt => ?_) ?_
      · show Steps p.tables e below (T12.setTop (mkF m 115 #[.val (.long j0), .second, .val (.int i1), .val (.int i2), .val (.long j3), .second, .val (.int i4), .val (.ref sb_1), .val (.ref sb_2), .val (.ref b3), .val (.int (own_f9 i1)), .val (.int (own_j0_66_S0 j0 i1 i2 j3 i4 cs)), .val (.int (own_f9 (i1 ^^^ (512 : Int32)))), .val (.int (own_f9 ((i1 &&& (512 : Int32)) ||| (i2 &&& (-513 : Int32)))))] [])) _
        refine XS.iload X12.here hx rfl (hb hby at_115) rfl ?_
        exact kt
      have J16 : ∀ (TJ16 : State) (locsJ16 : List Loc), Stand p l e room_1 s m #[(.long j0), (.int i1), (.int i2), (.long j3), (.int i4)] below meth c TJ16 locsJ16 6 18 → TJ16.heap = h11 → Fr n0 locsJ16 → ownE p e below s (own_Q0 Z j0 i1 i2 j3 i4 cs h0 n0) 6 18 TJ16 (mkF m 127 #[.val (.long j0), .second, .val (.int i1), .val (.int i2), .val (.long j3), .second, .val (.int i4), .val (.ref sb_1), .val (.ref sb_2), .val (.ref b3), .val (.int (own_f9 i1)), .val (.int (own_j0_66_S0 j0 i1 i2 j3 i4 cs)), .val (.int (own_f9 (i1 ^^^ (512 : Int32)))), .val (.int (own_f9 ((i1 &&& (512 : Int32)) ||| (i2 &&& (-513 : Int32)))))] [(.int (own_j0_127_S0 j0 i1 i2 j3 i4 cs)), (.int (own_f9 (i1 ^^^ (512 : Int32))))]) := by
        intro TJ16 locsJ16 XJ16 eJ16 NJ16
        by_cases hc17 : (own_f9 (i1 ^^^ (512 : Int32))) = (own_j0_127_S0 j0 i1 i2 j3 i4 cs)
        · -- pc 127
          refine ownE.go (T' := TJ16) (f' := (mkF m 130 #[.val (.long j0), .second, .val (.int i1), .val (.int i2), .val (.long j3), .second, .val (.int i4), .val (.ref sb_1), .val (.ref sb_2), .val (.ref b3), .val (.int (own_f9 i1)), .val (.int (own_j0_66_S0 j0 i1 i2 j3 i4 cs)), .val (.int (own_f9 (i1 ^^^ (512 : Int32)))), .val (.int (own_f9 ((i1 &&& (512 : Int32)) ||| (i2 &&& (-513 : Int32)))))] [])) (fun t kt => XS.icmpNo (g := (mkF m 127 #[.val (.long j0), .second, .val (.int i1), .val (.int i2), .val (.long j3), .second, .val (.int i4), .val (.ref sb_1), .val (.ref sb_2), .val (.ref b3), .val (.int (own_f9 i1)), .val (.int (own_j0_66_S0 j0 i1 i2 j3 i4 cs)), .val (.int (own_f9 (i1 ^^^ (512 : Int32)))), .val (.int (own_f9 ((i1 &&& (512 : Int32)) ||| (i2 &&& (-513 : Int32)))))] [(.int (own_j0_127_S0 j0 i1 i2 j3 i4 cs)), (.int (own_f9 (i1 ^^^ (512 : Int32))))])) XJ16.here hx rfl (hb hby at_127) rfl (Jvm.Free.XT.ii_ne_f hc17) kt) ?_
          refine ownE.go (T' := TJ16) (f' := (mkF m 134 #[.val (.long j0), .second, .val (.int i1), .val (.int i2), .val (.long j3), .second, .val (.int i4), .val (.ref sb_1), .val (.ref sb_2), .val (.ref b3), .val (.int (own_f9 i1)), .val (.int (own_j0_66_S0 j0 i1 i2 j3 i4 cs)), .val (.int (own_f9 (i1 ^^^ (512 : Int32)))), .val (.int (own_f9 ((i1 &&& (512 : Int32)) ||| (i2 &&& (-513 : Int32)))))] [(.int (own_j0_66_S0 j0 i1 i2 j3 i4 cs)), (.int (own_f9 ((i1 &&& (512 : Int32)) ||| (i2 &&& (-513 : Int32)))))])) (fun t kt => ?_) ?_
          · show Steps p.tables e below (TJ16.setTop (mkF m 130 #[.val (.long j0), .second, .val (.int i1), .val (.int i2), .val (.long j3), .second, .val (.int i4), .val (.ref sb_1), .val (.ref sb_2), .val (.ref b3), .val (.int (own_f9 i1)), .val (.int (own_j0_66_S0 j0 i1 i2 j3 i4 cs)), .val (.int (own_f9 (i1 ^^^ (512 : Int32)))), .val (.int (own_f9 ((i1 &&& (512 : Int32)) ||| (i2 &&& (-513 : Int32)))))] [])) _
            refine XS.iload XJ16.here hx rfl (hb hby at_130) rfl ?_
            show Steps p.tables e below (TJ16.setTop (mkF m 132 #[.val (.long j0), .second, .val (.int i1), .val (.int i2), .val (.long j3), .second, .val (.int i4), .val (.ref sb_1), .val (.ref sb_2), .val (.ref b3), .val (.int (own_f9 i1)), .val (.int (own_j0_66_S0 j0 i1 i2 j3 i4 cs)), .val (.int (own_f9 (i1 ^^^ (512 : Int32)))), .val (.int (own_f9 ((i1 &&& (512 : Int32)) ||| (i2 &&& (-513 : Int32)))))] [(.int (own_f9 ((i1 &&& (512 : Int32)) ||| (i2 &&& (-513 : Int32)))))])) _
            refine XS.iload XJ16.here hx rfl (hb hby at_132) rfl ?_
            exact kt
          by_cases hc18 : (own_f9 ((i1 &&& (512 : Int32)) ||| (i2 &&& (-513 : Int32)))) = (own_j0_66_S0 j0 i1 i2 j3 i4 cs)
          · -- pc 134
            refine ownE.go (T' := TJ16) (f' := (mkF m 137 #[.val (.long j0), .second, .val (.int i1), .val (.int i2), .val (.long j3), .second, .val (.int i4), .val (.ref sb_1), .val (.ref sb_2), .val (.ref b3), .val (.int (own_f9 i1)), .val (.int (own_j0_66_S0 j0 i1 i2 j3 i4 cs)), .val (.int (own_f9 (i1 ^^^ (512 : Int32)))), .val (.int (own_f9 ((i1 &&& (512 : Int32)) ||| (i2 &&& (-513 : Int32)))))] [])) (fun t kt => XS.icmpNo (g := (mkF m 134 #[.val (.long j0), .second, .val (.int i1), .val (.int i2), .val (.long j3), .second, .val (.int i4), .val (.ref sb_1), .val (.ref sb_2), .val (.ref b3), .val (.int (own_f9 i1)), .val (.int (own_j0_66_S0 j0 i1 i2 j3 i4 cs)), .val (.int (own_f9 (i1 ^^^ (512 : Int32)))), .val (.int (own_f9 ((i1 &&& (512 : Int32)) ||| (i2 &&& (-513 : Int32)))))] [(.int (own_j0_66_S0 j0 i1 i2 j3 i4 cs)), (.int (own_f9 ((i1 &&& (512 : Int32)) ||| (i2 &&& (-513 : Int32)))))])) XJ16.here hx rfl (hb hby at_134) rfl (Jvm.Free.XT.ii_ne_f hc18) kt) ?_
            refine ownE.go (T' := TJ16) (f' := (mkF m 142 #[.val (.long j0), .second, .val (.int i1), .val (.int i2), .val (.long j3), .second, .val (.int i4), .val (.ref sb_1), .val (.ref sb_2), .val (.ref b3), .val (.int (own_f9 i1)), .val (.int (own_j0_66_S0 j0 i1 i2 j3 i4 cs)), .val (.int (own_f9 (i1 ^^^ (512 : Int32)))), .val (.int (own_f9 ((i1 &&& (512 : Int32)) ||| (i2 &&& (-513 : Int32)))))] [(.int (1 : Int32))])) (fun t kt => ?_) ?_
            · show Steps p.tables e below (TJ16.setTop (mkF m 137 #[.val (.long j0), .second, .val (.int i1), .val (.int i2), .val (.long j3), .second, .val (.int i4), .val (.ref sb_1), .val (.ref sb_2), .val (.ref b3), .val (.int (own_f9 i1)), .val (.int (own_j0_66_S0 j0 i1 i2 j3 i4 cs)), .val (.int (own_f9 (i1 ^^^ (512 : Int32)))), .val (.int (own_f9 ((i1 &&& (512 : Int32)) ||| (i2 &&& (-513 : Int32)))))] [])) _
              refine XS.iconst XJ16.here hx rfl (hb hby at_137) ?_
              show Steps p.tables e below (TJ16.setTop (mkF m 138 #[.val (.long j0), .second, .val (.int i1), .val (.int i2), .val (.long j3), .second, .val (.int i4), .val (.ref sb_1), .val (.ref sb_2), .val (.ref b3), .val (.int (own_f9 i1)), .val (.int (own_j0_66_S0 j0 i1 i2 j3 i4 cs)), .val (.int (own_f9 (i1 ^^^ (512 : Int32)))), .val (.int (own_f9 ((i1 &&& (512 : Int32)) ||| (i2 &&& (-513 : Int32)))))] [(.int (1 : Int32))])) _
              refine XS.goto XJ16.here hx rfl (pc0 := 138) (pc' := 142) rfl (hb hby at_138) (by decide) (by decide) ?_
              exact kt
            refine ownE.retN XJ16 hx hlk (t := .boolean) hret (by simp) (hb hby at_142) ?_ (by decide) (by decide)
            show own_Q0 Z j0 i1 i2 j3 i4 cs h0 n0 _ TJ16.heap _
            rw [eJ16]
            exact ⟨(by rw [own_f0, if_pos hc13, if_pos hc17, if_pos hc18] <;> first | rfl | decide), NJ16, K11⟩
          · -- pc 134
            refine ownE.go (T' := TJ16) (f' := (mkF m 141 #[.val (.long j0), .second, .val (.int i1), .val (.int i2), .val (.long j3), .second, .val (.int i4), .val (.ref sb_1), .val (.ref sb_2), .val (.ref b3), .val (.int (own_f9 i1)), .val (.int (own_j0_66_S0 j0 i1 i2 j3 i4 cs)), .val (.int (own_f9 (i1 ^^^ (512 : Int32)))), .val (.int (own_f9 ((i1 &&& (512 : Int32)) ||| (i2 &&& (-513 : Int32)))))] [])) (fun t kt => XS.icmpYes (g := (mkF m 134 #[.val (.long j0), .second, .val (.int i1), .val (.int i2), .val (.long j3), .second, .val (.int i4), .val (.ref sb_1), .val (.ref sb_2), .val (.ref b3), .val (.int (own_f9 i1)), .val (.int (own_j0_66_S0 j0 i1 i2 j3 i4 cs)), .val (.int (own_f9 (i1 ^^^ (512 : Int32)))), .val (.int (own_f9 ((i1 &&& (512 : Int32)) ||| (i2 &&& (-513 : Int32)))))] [(.int (own_j0_66_S0 j0 i1 i2 j3 i4 cs)), (.int (own_f9 ((i1 &&& (512 : Int32)) ||| (i2 &&& (-513 : Int32)))))])) XJ16.here hx rfl (pc0 := 134) (pc' := 141) rfl (hb hby at_134) rfl (Jvm.Free.XT.ii_ne_t hc18) (by decide) (by decide) kt) ?_
            refine ownE.go (T' := TJ16) (f' := (mkF m 142 #[.val (.long j0), .second, .val (.int i1), .val (.int i2), .val (.long j3), .second, .val (.int i4), .val (.ref sb_1), .val (.ref sb_2), .val (.ref b3), .val (.int (own_f9 i1)), .val (.int (own_j0_66_S0 j0 i1 i2 j3 i4 cs)), .val (.int (own_f9 (i1 ^^^ (512 : Int32)))), .val (.int (own_f9 ((i1 &&& (512 : Int32)) ||| (i2 &&& (-513 : Int32)))))] [(.int (0 : Int32))])) (fun t kt => ?_) ?_
            · show Steps p.tables e below (TJ16.setTop (mkF m 141 #[.val (.long j0), .second, .val (.int i1), .val (.int i2), .val (.long j3), .second, .val (.int i4), .val (.ref sb_1), .val (.ref sb_2), .val (.ref b3), .val (.int (own_f9 i1)), .val (.int (own_j0_66_S0 j0 i1 i2 j3 i4 cs)), .val (.int (own_f9 (i1 ^^^ (512 : Int32)))), .val (.int (own_f9 ((i1 &&& (512 : Int32)) ||| (i2 &&& (-513 : Int32)))))] [])) _
              refine XS.iconst XJ16.here hx rfl (hb hby at_141) ?_
              exact kt
            refine ownE.retN XJ16 hx hlk (t := .boolean) hret (by simp) (hb hby at_142) ?_ (by decide) (by decide)
            show own_Q0 Z j0 i1 i2 j3 i4 cs h0 n0 _ TJ16.heap _
            rw [eJ16]
            exact ⟨(by rw [own_f0, if_pos hc13, if_pos hc17, if_neg hc18] <;> first | rfl | decide), NJ16, K11⟩
        · -- pc 127
          refine ownE.go (T' := TJ16) (f' := (mkF m 141 #[.val (.long j0), .second, .val (.int i1), .val (.int i2), .val (.long j3), .second, .val (.int i4), .val (.ref sb_1), .val (.ref sb_2), .val (.ref b3), .val (.int (own_f9 i1)), .val (.int (own_j0_66_S0 j0 i1 i2 j3 i4 cs)), .val (.int (own_f9 (i1 ^^^ (512 : Int32)))), .val (.int (own_f9 ((i1 &&& (512 : Int32)) ||| (i2 &&& (-513 : Int32)))))] [])) (fun t kt => XS.icmpYes (g := (mkF m 127 #[.val (.long j0), .second, .val (.int i1), .val (.int i2), .val (.long j3), .second, .val (.int i4), .val (.ref sb_1), .val (.ref sb_2), .val (.ref b3), .val (.int (own_f9 i1)), .val (.int (own_j0_66_S0 j0 i1 i2 j3 i4 cs)), .val (.int (own_f9 (i1 ^^^ (512 : Int32)))), .val (.int (own_f9 ((i1 &&& (512 : Int32)) ||| (i2 &&& (-513 : Int32)))))] [(.int (own_j0_127_S0 j0 i1 i2 j3 i4 cs)), (.int (own_f9 (i1 ^^^ (512 : Int32))))])) XJ16.here hx rfl (pc0 := 127) (pc' := 141) rfl (hb hby at_127) rfl (Jvm.Free.XT.ii_ne_t hc17) (by decide) (by decide) kt) ?_
          refine ownE.go (T' := TJ16) (f' := (mkF m 142 #[.val (.long j0), .second, .val (.int i1), .val (.int i2), .val (.long j3), .second, .val (.int i4), .val (.ref sb_1), .val (.ref sb_2), .val (.ref b3), .val (.int (own_f9 i1)), .val (.int (own_j0_66_S0 j0 i1 i2 j3 i4 cs)), .val (.int (own_f9 (i1 ^^^ (512 : Int32)))), .val (.int (own_f9 ((i1 &&& (512 : Int32)) ||| (i2 &&& (-513 : Int32)))))] [(.int (0 : Int32))])) (fun t kt => ?_) ?_
          · show Steps p.tables e below (TJ16.setTop (mkF m 141 #[.val (.long j0), .second, .val (.int i1), .val (.int i2), .val (.long j3), .second, .val (.int i4), .val (.ref sb_1), .val (.ref sb_2), .val (.ref b3), .val (.int (own_f9 i1)), .val (.int (own_j0_66_S0 j0 i1 i2 j3 i4 cs)), .val (.int (own_f9 (i1 ^^^ (512 : Int32)))), .val (.int (own_f9 ((i1 &&& (512 : Int32)) ||| (i2 &&& (-513 : Int32)))))] [])) _
            refine XS.iconst XJ16.here hx rfl (hb hby at_141) ?_
            exact kt
          refine ownE.retN XJ16 hx hlk (t := .boolean) hret (by simp) (hb hby at_142) ?_ (by decide) (by decide)
          show own_Q0 Z j0 i1 i2 j3 i4 cs h0 n0 _ TJ16.heap _
          rw [eJ16]
          exact ⟨(by rw [own_f0, if_pos hc13, if_neg hc17] <;> first | rfl | decide), NJ16, K11⟩
      refine ownE.go (T' := T12) (f' := (mkF m 119 #[.val (.long j0), .second, .val (.int i1), .val (.int i2), .val (.long j3), .second, .val (.int i4), .val (.ref sb_1), .val (.ref sb_2), .val (.ref b3), .val (.int (own_f9 i1)), .val (.int (own_j0_66_S0 j0 i1 i2 j3 i4 cs)), .val (.int (own_f9 (i1 ^^^ (512 : Int32)))), .val (.int (own_f9 ((i1 &&& (512 : Int32)) ||| (i2 &&& (-513 : Int32)))))] [(.int (own_j0_66_S0 j0 i1 i2 j3 i4 cs)), (.int (own_f9 (i1 ^^^ (512 : Int32))))])) (fun t kt => ?_) ?_
      · show Steps p.tables e below (T12.setTop (mkF m 117 #[.val (.long j0), .second, .val (.int i1), .val (.int i2), .val (.long j3), .second, .val (.int i4), .val (.ref sb_1), .val (.ref sb_2), .val (.ref b3), .val (.int (own_f9 i1)), .val (.int (own_j0_66_S0 j0 i1 i2 j3 i4 cs)), .val (.int (own_f9 (i1 ^^^ (512 : Int32)))), .val (.int (own_f9 ((i1 &&& (512 : Int32)) ||| (i2 &&& (-513 : Int32)))))] [(.int (own_f9 (i1 ^^^ (512 : Int32))))])) _
        refine XS.iload X12.here hx rfl (hb hby at_117) rfl ?_
        exact kt
      by_cases hc15 : (own_j0_66_S0 j0 i1 i2 j3 i4 cs) = (0 : Int32)
      · -- pc 119
        refine ownE.go (T' := T12) (f' := (mkF m 122 #[.val (.long j0), .second, .val (.int i1), .val (.int i2), .val (.long j3), .second, .val (.int i4), .val (.ref sb_1), .val (.ref sb_2), .val (.ref b3), .val (.int (own_f9 i1)), .val (.int (own_j0_66_S0 j0 i1 i2 j3 i4 cs)), .val (.int (own_f9 (i1 ^^^ (512 : Int32)))), .val (.int (own_f9 ((i1 &&& (512 : Int32)) ||| (i2 &&& (-513 : Int32)))))] [(.int (own_f9 (i1 ^^^ (512 : Int32))))])) (fun t kt => XS.ifNo (g := (mkF m 119 #[.val (.long j0), .second, .val (.int i1), .val (.int i2), .val (.long j3), .second, .val (.int i4), .val (.ref sb_1), .val (.ref sb_2), .val (.ref b3), .val (.int (own_f9 i1)), .val (.int (own_j0_66_S0 j0 i1 i2 j3 i4 cs)), .val (.int (own_f9 (i1 ^^^ (512 : Int32)))), .val (.int (own_f9 ((i1 &&& (512 : Int32)) ||| (i2 &&& (-513 : Int32)))))] [(.int (own_j0_66_S0 j0 i1 i2 j3 i4 cs)), (.int (own_f9 (i1 ^^^ (512 : Int32))))])) X12.here hx rfl (hb hby at_119) rfl (Jvm.Free.XT.i0_ne_f hc15) kt) ?_
        refine ownE.go (T' := T12) (f' := (mkF m 127 #[.val (.long j0), .second, .val (.int i1), .val (.int i2), .val (.long j3), .second, .val (.int i4), .val (.ref sb_1), .val (.ref sb_2), .val (.ref b3), .val (.int (own_f9 i1)), .val (.int (own_j0_66_S0 j0 i1 i2 j3 i4 cs)), .val (.int (own_f9 (i1 ^^^ (512 : Int32)))), .val (.int (own_f9 ((i1 &&& (512 : Int32)) ||| (i2 &&& (-513 : Int32)))))] [(.int (1 : Int32)), (.int (own_f9 (i1 ^^^ (512 : Int32))))])) (fun t kt => ?_) ?_
        · show Steps p.tables e below (T12.setTop (mkF m 122 #[.val (.long j0), .second, .val (.int i1), .val (.int i2), .val (.long j3), .second, .val (.int i4), .val (.ref sb_1), .val (.ref sb_2), .val (.ref b3), .val (.int (own_f9 i1)), .val (.int (own_j0_66_S0 j0 i1 i2 j3 i4 cs)), .val (.int (own_f9 (i1 ^^^ (512 : Int32)))), .val (.int (own_f9 ((i1 &&& (512 : Int32)) ||| (i2 &&& (-513 : Int32)))))] [(.int (own_f9 (i1 ^^^ (512 : Int32))))])) _
          refine XS.iconst X12.here hx rfl (hb hby at_122) ?_
          show Steps p.tables e below (T12.setTop (mkF m 123 #[.val (.long j0), .second, .val (.int i1), .val (.int i2), .val (.long j3), .second, .val (.int i4), .val (.ref sb_1), .val (.ref sb_2), .val (.ref b3), .val (.int (own_f9 i1)), .val (.int (own_j0_66_S0 j0 i1 i2 j3 i4 cs)), .val (.int (own_f9 (i1 ^^^ (512 : Int32)))), .val (.int (own_f9 ((i1 &&& (512 : Int32)) ||| (i2 &&& (-513 : Int32)))))] [(.int (1 : Int32)), (.int (own_f9 (i1 ^^^ (512 : Int32))))])) _
          refine XS.goto X12.here hx rfl (pc0 := 123) (pc' := 127) rfl (hb hby at_123) (by decide) (by decide) ?_
          exact kt
        have jj := J16 _ _ X12 e12 N12
        rw [show (own_j0_127_S0 j0 i1 i2 j3 i4 cs) = (1 : Int32) from by rw [own_j0_127_S0, if_pos hc15]] at jj
        exact jj
      · -- pc 119
        refine ownE.go (T' := T12) (f' := (mkF m 126 #[.val (.long j0), .second, .val (.int i1), .val (.int i2), .val (.long j3), .second, .val (.int i4), .val (.ref sb_1), .val (.ref sb_2), .val (.ref b3), .val (.int (own_f9 i1)), .val (.int (own_j0_66_S0 j0 i1 i2 j3 i4 cs)), .val (.int (own_f9 (i1 ^^^ (512 : Int32)))), .val (.int (own_f9 ((i1 &&& (512 : Int32)) ||| (i2 &&& (-513 : Int32)))))] [(.int (own_f9 (i1 ^^^ (512 : Int32))))])) (fun t kt => XS.ifYes (g := (mkF m 119 #[.val (.long j0), .second, .val (.int i1), .val (.int i2), .val (.long j3), .second, .val (.int i4), .val (.ref sb_1), .val (.ref sb_2), .val (.ref b3), .val (.int (own_f9 i1)), .val (.int (own_j0_66_S0 j0 i1 i2 j3 i4 cs)), .val (.int (own_f9 (i1 ^^^ (512 : Int32)))), .val (.int (own_f9 ((i1 &&& (512 : Int32)) ||| (i2 &&& (-513 : Int32)))))] [(.int (own_j0_66_S0 j0 i1 i2 j3 i4 cs)), (.int (own_f9 (i1 ^^^ (512 : Int32))))])) X12.here hx rfl (pc0 := 119) (pc' := 126) rfl (hb hby at_119) rfl (Jvm.Free.XT.i0_ne_t hc15) (by decide) (by decide) kt) ?_
        refine ownE.go (T' := T12) (f' := (mkF m 127 #[.val (.long j0), .second, .val (.int i1), .val (.int i2), .val (.long j3), .second, .val (.int i4), .val (.ref sb_1), .val (.ref sb_2), .val (.ref b3), .val (.int (own_f9 i1)), .val (.int (own_j0_66_S0 j0 i1 i2 j3 i4 cs)), .val (.int (own_f9 (i1 ^^^ (512 : Int32)))), .val (.int (own_f9 ((i1 &&& (512 : Int32)) ||| (i2 &&& (-513 : Int32)))))] [(.int (0 : Int32)), (.int (own_f9 (i1 ^^^ (512 : Int32))))])) (fun t kt => ?_) ?_
        · show Steps p.tables e below (T12.setTop (mkF m 126 #[.val (.long j0), .second, .val (.int i1), .val (.int i2), .val (.long j3), .second, .val (.int i4), .val (.ref sb_1), .val (.ref sb_2), .val (.ref b3), .val (.int (own_f9 i1)), .val (.int (own_j0_66_S0 j0 i1 i2 j3 i4 cs)), .val (.int (own_f9 (i1 ^^^ (512 : Int32)))), .val (.int (own_f9 ((i1 &&& (512 : Int32)) ||| (i2 &&& (-513 : Int32)))))] [(.int (own_f9 (i1 ^^^ (512 : Int32))))])) _
          refine XS.iconst X12.here hx rfl (hb hby at_126) ?_
          exact kt
        have jj := J16 _ _ X12 e12 N12
        rw [show (own_j0_127_S0 j0 i1 i2 j3 i4 cs) = (0 : Int32) from by rw [own_j0_127_S0, if_neg hc15]] at jj
        exact jj
    · -- pc 112
      refine ownE.go (T' := T12) (f' := (mkF m 141 #[.val (.long j0), .second, .val (.int i1), .val (.int i2), .val (.long j3), .second, .val (.int i4), .val (.ref sb_1), .val (.ref sb_2), .val (.ref b3), .val (.int (own_f9 i1)), .val (.int (own_j0_66_S0 j0 i1 i2 j3 i4 cs)), .val (.int (own_f9 (i1 ^^^ (512 : Int32)))), .val (.int (own_f9 ((i1 &&& (512 : Int32)) ||| (i2 &&& (-513 : Int32)))))] [])) (fun t kt => XS.icmpYes (g := (mkF m 112 #[.val (.long j0), .second, .val (.int i1), .val (.int i2), .val (.long j3), .second, .val (.int i4), .val (.ref sb_1), .val (.ref sb_2), .val (.ref b3), .val (.int (own_f9 i1)), .val (.int (own_j0_66_S0 j0 i1 i2 j3 i4 cs)), .val (.int (own_f9 (i1 ^^^ (512 : Int32)))), .val (.int (own_f9 ((i1 &&& (512 : Int32)) ||| (i2 &&& (-513 : Int32)))))] [(.int (own_j0_66_S0 j0 i1 i2 j3 i4 cs)), (.int (own_f9 i1))])) X12.here hx rfl (pc0 := 112) (pc' := 141) rfl (hb hby at_112) rfl (Jvm.Free.XT.ii_ne_t hc13) (by decide) (by decide) kt) ?_
      refine ownE.go (T' := T12) (f' := (mkF m 142 #[.val (.long j0), .second, .val (.int i1), .val (.int i2), .val (.long j3), .second, .val (.int i4), .val (.ref sb_1), .val (.ref sb_2), .val (.ref b3), .val (.int (own_f9 i1)), .val (.int (own_j0_66_S0 j0 i1 i2 j3 i4 cs)), .val (.int (own_f9 (i1 ^^^ (512 : Int32)))), .val (.int (own_f9 ((i1 &&& (512 : Int32)) ||| (i2 &&& (-513 : Int32)))))] [(.int (0 : Int32))])) (fun t kt => ?_) ?_
      · show Steps p.tables e below (T12.setTop (mkF m 141 #[.val (.long j0), .second, .val (.int i1), .val (.int i2), .val (.long j3), .second, .val (.int i4), .val (.ref sb_1), .val (.ref sb_2), .val (.ref b3), .val (.int (own_f9 i1)), .val (.int (own_j0_66_S0 j0 i1 i2 j3 i4 cs)), .val (.int (own_f9 (i1 ^^^ (512 : Int32)))), .val (.int (own_f9 ((i1 &&& (512 : Int32)) ||| (i2 &&& (-513 : Int32)))))] [])) _
        refine XS.iconst X12.here hx rfl (hb hby at_141) ?_
        exact kt
      refine ownE.retN X12 hx hlk (t := .boolean) hret (by simp) (hb hby at_142) ?_ (by decide) (by decide)
      show own_Q0 Z j0 i1 i2 j3 i4 cs h0 n0 _ T12.heap _
      rw [e12]
      exact ⟨(by rw [own_f0, if_neg hc13] <;> first | rfl | decide), N12, K11⟩
  refine ownE.go (T' := T5) (f' := (mkF m 58 #[.val (.long j0), .second, .val (.int i1), .val (.int i2), .val (.long j3), .second, .val (.int i4), .val (.ref sb_1), .val (.ref sb_2), .val (.ref b3), .val (.int (own_f9 i1)), .unset, .unset, .unset] [(.int (1 : Int32)), (.int (((i1.toUInt32 >>> ((9 : Int32) &&& 31).toUInt32).toInt32) &&& (1 : Int32)))])) (fun t kt => ?_) ?_
  · show Steps p.tables e below (T5.setTop (mkF m 51 #[.val (.long j0), .second, .val (.int i1), .val (.int i2), .val (.long j3), .second, .val (.int i4), .val (.ref sb_1), .val (.ref sb_2), .val (.ref b3), .val (.int (own_f9 i1)), .unset, .unset, .unset] [])) _
    refine XS.iloadN X5.here hx rfl (hb hby at_51) rfl ?_
    show Steps p.tables e below (T5.setTop (mkF m 52 #[.val (.long j0), .second, .val (.int i1), .val (.int i2), .val (.long j3), .second, .val (.int i4), .val (.ref sb_1), .val (.ref sb_2), .val (.ref b3), .val (.int (own_f9 i1)), .unset, .unset, .unset] [(.int i1)])) _
    refine XS.bipush X5.here hx rfl (hb hby at_52) ?_
    show Steps p.tables e below (T5.setTop (mkF m 54 #[.val (.long j0), .second, .val (.int i1), .val (.int i2), .val (.long j3), .second, .val (.int i4), .val (.ref sb_1), .val (.ref sb_2), .val (.ref b3), .val (.int (own_f9 i1)), .unset, .unset, .unset] [(.int (9 : Int32)), (.int i1)])) _
    refine XS.iushr X5.here hx rfl (hb hby at_54) rfl ?_
    show Steps p.tables e below (T5.setTop (mkF m 55 #[.val (.long j0), .second, .val (.int i1), .val (.int i2), .val (.long j3), .second, .val (.int i4), .val (.ref sb_1), .val (.ref sb_2), .val (.ref b3), .val (.int (own_f9 i1)), .unset, .unset, .unset] [(.int ((i1.toUInt32 >>> ((9 : Int32) &&& 31).toUInt32).toInt32))])) _
    refine XS.iconst X5.here hx rfl (hb hby at_55) ?_
    show Steps p.tables e below (T5.setTop (mkF m 56 #[.val (.long j0), .second, .val (.int i1), .val (.int i2), .val (.long j3), .second, .val (.int i4), .val (.ref sb_1), .val (.ref sb_2), .val (.ref b3), .val (.int (own_f9 i1)), .unset, .unset, .unset] [(.int (1 : Int32)), (.int ((i1.toUInt32 >>> ((9 : Int32) &&& 31).toUInt32).toInt32))])) _
    refine XS.iand X5.here hx rfl (hb hby at_56) rfl ?_
    show Steps p.tables e below (T5.setTop (mkF m 57 #[.val (.long j0), .second, .val (.int i1), .val (.int i2), .val (.long j3), .second, .val (.int i4), .val (.ref sb_1), .val (.ref sb_2), .val (.ref b3), .val (.int (own_f9 i1)), .unset, .unset, .unset] [(.int (((i1.toUInt32 >>> ((9 : Int32) &&& 31).toUInt32).toInt32) &&& (1 : Int32)))])) _
    refine XS.iconst X5.here hx rfl (hb hby at_57) ?_
    exact kt
  by_cases hc7 : (((i1.toUInt32 >>> ((9 : Int32) &&& 31).toUInt32).toInt32) &&& (1 : Int32)) = (1 : Int32)
  · -- pc 58
    refine ownE.go (T' := T5) (f' := (mkF m 61 #[.val (.long j0), .second, .val (.int i1), .val (.int i2), .val (.long j3), .second, .val (.int i4), .val (.ref sb_1), .val (.ref sb_2), .val (.ref b3), .val (.int (own_f9 i1)), .unset, .unset, .unset] [])) (fun t kt => XS.icmpNo (g := (mkF m 58 #[.val (.long j0), .second, .val (.int i1), .val (.int i2), .val (.long j3), .second, .val (.int i4), .val (.ref sb_1), .val (.ref sb_2), .val (.ref b3), .val (.int (own_f9 i1)), .unset, .unset, .unset] [(.int (1 : Int32)), (.int (((i1.toUInt32 >>> ((9 : Int32) &&& 31).toUInt32).toInt32) &&& (1 : Int32)))])) X5.here hx rfl (hb hby at_58) rfl (Jvm.Free.XT.ii_ne_f hc7) kt) ?_
    refine ownE.go (T' := T5) (f' := (mkF m 66 #[.val (.long j0), .second, .val (.int i1), .val (.int i2), .val (.long j3), .second, .val (.int i4), .val (.ref sb_1), .val (.ref sb_2), .val (.ref b3), .val (.int (own_f9 i1)), .unset, .unset, .unset] [(.int (1 : Int32))])) (fun t kt => ?_) ?_
    · show Steps p.tables e below (T5.setTop (mkF m 61 #[.val (.long j0), .second, .val (.int i1), .val (.int i2), .val (.long j3), .second, .val (.int i4), .val (.ref sb_1), .val (.ref sb_2), .val (.ref b3), .val (.int (own_f9 i1)), .unset, .unset, .unset] [])) _
      refine XS.iconst X5.here hx rfl (hb hby at_61) ?_
      show Steps p.tables e below (T5.setTop (mkF m 62 #[.val (.long j0), .second, .val (.int i1), .val (.int i2), .val (.long j3), .second, .val (.int i4), .val (.ref sb_1), .val (.ref sb_2), .val (.ref b3), .val (.int (own_f9 i1)), .unset, .unset, .unset] [(.int (1 : Int32))])) _
      refine XS.goto X5.here hx rfl (pc0 := 62) (pc' := 66) rfl (hb hby at_62) (by decide) (by decide) ?_
      exact kt
    have jj := J8 _ _ X5 e5 N5
    rw [show (own_j0_66_S0 j0 i1 i2 j3 i4 cs) = (1 : Int32) from by rw [own_j0_66_S0, if_pos hc7]] at jj
    exact jj
  · -- pc 58
    refine ownE.go (T' := T5) (f' := (mkF m 65 #[.val (.long j0), .second, .val (.int i1), .val (.int i2), .val (.long j3), .second, .val (.int i4), .val (.ref sb_1), .val (.ref sb_2), .val (.ref b3), .val (.int (own_f9 i1)), .unset, .unset, .unset] [])) (fun t kt => XS.icmpYes (g := (mkF m 58 #[.val (.long j0), .second, .val (.int i1), .val (.int i2), .val (.long j3), .second, .val (.int i4), .val (.ref sb_1), .val (.ref sb_2), .val (.ref b3), .val (.int (own_f9 i1)), .unset, .unset, .unset] [(.int (1 : Int32)), (.int (((i1.toUInt32 >>> ((9 : Int32) &&& 31).toUInt32).toInt32) &&& (1 : Int32)))])) X5.here hx rfl (pc0 := 58) (pc' := 65) rfl (hb hby at_58) rfl (Jvm.Free.XT.ii_ne_t hc7) (by decide) (by decide) kt) ?_
    refine ownE.go (T' := T5) (f' := (mkF m 66 #[.val (.long j0), .second, .val (.int i1), .val (.int i2), .val (.long j3), .second, .val (.int i4), .val (.ref sb_1), .val (.ref sb_2), .val (.ref b3), .val (.int (own_f9 i1)), .unset, .unset, .unset] [(.int (0 : Int32))])) (fun t kt => ?_) ?_
    · show Steps p.tables e below (T5.setTop (mkF m 65 #[.val (.long j0), .second, .val (.int i1), .val (.int i2), .val (.long j3), .second, .val (.int i4), .val (.ref sb_1), .val (.ref sb_2), .val (.ref b3), .val (.int (own_f9 i1)), .unset, .unset, .unset] [])) _
      refine XS.iconst X5.here hx rfl (hb hby at_65) ?_
      exact kt
    have jj := J8 _ _ X5 e5 N5
    rw [show (own_j0_66_S0 j0 i1 i2 j3 i4 cs) = (0 : Int32) from by rw [own_j0_66_S0, if_neg hc7]] at jj
    exact jj
theorem own_eq32 (a b : Int32) : a = b ↔ a.toBitVec.toNat = b.toBitVec.toNat := by
  rw [← BitVec.toNat_inj.symm, Int32.toBitVec_inj]
/-- bit 9 -/
def own_t (p : Int32) : Bool := p.toBitVec.toNat.testBit 9
theorem own_tn (p : Int32) : (own_t p).toNat = p.toBitVec.toNat / 512 % 2 := Nat.toNat_testBit _ 9
theorem own_at_top (x v : Nat) : x &&& 2 ^ v = if x.testBit v then 2 ^ v else 0 := by
  apply Nat.eq_of_testBit_eq
  intro i
  rw [Nat.testBit_and, Nat.testBit_two_pow]
  by_cases h : v = i
  · subst h
    cases x.testBit v <;> simp [Nat.testBit_two_pow]
  · cases x.testBit v <;> simp [h, Nat.testBit_two_pow]
theorem own_and9 (p : Int32) : (p &&& (512 : Int32)) = (0 : Int32) ↔ own_t p = false := by
  rw [own_eq32, Int32.toBitVec_and, BitVec.toNat_and]
  have e : (512 : Int32).toBitVec.toNat = 2 ^ 9 := by decide
  have z : (0 : Int32).toBitVec.toNat = 0 := by decide
  rw [e, z, own_at_top]
  show _ ↔ p.toBitVec.toNat.testBit 9 = false
  cases p.toBitVec.toNat.testBit 9 <;> simp
theorem own_shr9 (p : Int32) : (((p.toUInt32 >>> ((9 : Int32) &&& 31).toUInt32).toInt32) &&& (1 : Int32)) = (1 : Int32) ↔ own_t p = true := by
  have s := c_iushr p 9 9 (by decide) (by decide)
  have m := c_mask ((p.toUInt32 >>> ((9 : Int32) &&& 31).toUInt32).toInt32) 1 1 (by decide) (by decide)
  have p9 : ((2 ^ 9 : Nat) : Int) = 512 := by decide
  have p1 : ((2 ^ 1 : Nat) : Int) = 2 := by decide
  rw [p9] at s
  rw [p1, s] at m
  have o : (1 : Int32).toInt = 1 := by decide
  rw [← Int32.toInt_inj, m, o]
  have t := own_tn p
  have q : p.toInt % 4294967296 = (p.toBitVec.toNat : Int) := by
    have h : p.toInt = p.toBitVec.toInt := rfl
    have l := p.toBitVec.isLt
    rw [h, BitVec.toInt_eq_toNat_cond]
    split <;> omega
  rw [q]
  cases hq : own_t p <;> rw [hq] at t <;> simp at t ⊢ <;> omega
theorem own_x9 (p : Int32) : own_t (p ^^^ (512 : Int32)) = !own_t p := by
  unfold own_t
  rw [Int32.toBitVec_xor, BitVec.toNat_xor, Nat.testBit_xor]
  have e : (512 : Int32).toBitVec.toNat.testBit 9 = true := by decide
  rw [e]
  simp
theorem own_o9 (p q : Int32) : own_t ((p &&& (512 : Int32)) ||| (q &&& (-513 : Int32))) = own_t p := by
  unfold own_t
  rw [Int32.toBitVec_or, BitVec.toNat_or, Nat.testBit_or, Int32.toBitVec_and, BitVec.toNat_and, Nat.testBit_and, Int32.toBitVec_and, BitVec.toNat_and, Nat.testBit_and]
  have e : (512 : Int32).toBitVec.toNat.testBit 9 = true := by decide
  have e2 : (-513 : Int32).toBitVec.toNat.testBit 9 = false := by decide
  rw [e, e2]
  simp
theorem own_s (p : Int32) : own_f9 p = if own_t p = true then 1 else 0 := by
  unfold own_f9
  have h := own_and9 p
  cases q : own_t p
  · rw [if_pos (h.mpr q)]; rfl
  · rw [if_neg (fun z => by rw [h.mp z] at q; cases q)]; rfl
theorem own_law (a : Int64) (b c : Int32) (d : Int64) (e f : Int32) : own_f0 a b c d e f = 1 := by
  have j : own_j0_66_S0 a b c d e f = if own_t b = true then 1 else 0 := by
    unfold own_j0_66_S0
    have h := own_shr9 b
    by_cases q : own_t b = true
    · rw [if_pos (h.mpr q), if_pos q]
    · rw [if_neg (fun z => q (h.mp z)), if_neg q]
  unfold own_f0 own_j0_127_S0
  rw [own_s, own_s, own_s, own_x9, own_o9, j]
  cases own_t b <;> decide

set_option maxRecDepth 65536 in
set_option maxHeartbeats 40000000 in
theorem comes_1 {Post : Tables → Env → Array Value → State → Outcome → State → Prop} (hpost : ∀ tb e args s v u, (limb_1_1.after args s (.returned v) u = true ∧ limb_1_2.after args s (.returned v) u = true ∧ True) → FrameEnd s (.returned v) u (Jvm.fieldLocs frame_1_writes args s ++ Jvm.arrayLocs frame_1_arrays args s ++ Jvm.staticLocs frame_1_statics s) 24 128 → Post tb e args s (.returned v) u) :
    ArmFor flags0 classFile x code maxLocals ret World_1 tables_1 room_1 Calls_1 rest_1 Pre_1 Post := by
  intro l hfl _ _ p e ha hc hk s m args below hf hA hF happ hP
  obtain ⟨hcalls, hrest, hpre⟩ := hP
  obtain ⟨-, -, -, hnamed, -, -, -, hat⟩ := (Spec.applies_iff hf).mp happ
  obtain ⟨hg, hn⟩ := and_e (Cond.before_iff.mp (show (Jvm.Cond.and given_1 narrow_1).before args s = true from hpre))
  obtain ⟨g1, g2⟩ := and_e hg
  obtain ⟨g3, g4⟩ := and_e g2
  obtain ⟨g5, g6⟩ := and_e g4
  obtain ⟨g7, g8⟩ := and_e g6
  obtain ⟨g9, g10⟩ := and_e g8
  obtain ⟨w0, w1, w2, w3, w4, rfl⟩ : ∃ w0 w1 w2 w3 w4 : Value, args = #[w0, w1, w2, w3, w4] := by
    have hs : args.size = 5 := by simpa [Cond.value, given_1] using g1
    obtain ⟨L⟩ := args
    match L, hs with
    | [w0, w1, w2, w3, w4], _ => exact ⟨w0, w1, w2, w3, w4, rfl⟩
  have hw := fun d (hd : d ∈ tables_1) => atoms_spec (ws := Jvm.Cond.code x code maxLocals ret :: tables_1) hat d (List.mem_cons_of_mem _ hd)
  have hfit : Fit s := fun {y c} hc i hi => by
    obtain ⟨ha, rfl⟩ := Array.getElem?_eq_some_iff.mp hc
    have q := List.all_eq_true.mp ((Array.all_eq_true_iff_forall_mem.mp hF) _ (Array.getElem_mem ha)) i (List.mem_range.mpr hi)
    simpa [Array.getElem?_eq_getElem hi] using q
  obtain ⟨hsets, hown0⟩ := atoms_of _ (rest_1_c_eq ▸ (show rest_1_c.before _ s = true from hrest))
  have hr0 := Cond.before_iff.mp hown0
  obtain ⟨i0, ei0⟩ := isL_v g3
  obtain rfl : w0 = (.long i0) := Option.some.inj ei0
  obtain ⟨i1, ei1⟩ := is_v g5
  obtain rfl : w1 = (.int i1) := Option.some.inj ei1
  obtain ⟨i2, ei2⟩ := is_v g7
  obtain rfl : w2 = (.int i2) := Option.some.inj ei2
  obtain ⟨i3, ei3⟩ := isL_v g9
  obtain rfl : w3 = (.long i3) := Option.some.inj ei3
  obtain ⟨i4, ei4⟩ := is_v g10
  obtain rfl : w4 = (.int i4) := Option.some.inj ei4
  obtain ⟨ics, ecs⟩ := is_v (Cond.before_iff.mp (hsets _ (List.mem_of_getElem? (i := 1) rfl)))
  have hcs := Sta.start ecs (Or.inl (hsets _ (List.mem_of_getElem? (i := 0) rfl)))
  have hcsn : ¬ ics = (0 : Int32) := gotF (own_eqV ecs) (not_v (Cond.before_iff.mp (hsets _ (List.mem_of_getElem? (i := 2) rfl))))
  obtain ⟨n, o, h1, h2, h3, _, L, rfl, ⟨rfl, N, -⟩, hq⟩ := own_rm0 l s _ hw tables_1 i0 i1 i2 i3 i4 ics s.heap s.heap.size (Nat.le_refl _) (Old.start s) hcs hcsn p e ha hc hk s m _ below hf ((Spec.applies_iff_loose hf).mp happ).1 ⟨rfl, State.Warmed39.refl s, rfl⟩ trivial
  refine ⟨n, _, h1, h2, h3, hpost _ _ _ _ _ _ ⟨Cond.after_iff.mpr rfl, Cond.after_iff.mpr (eq_i res_at (Term.int_eval (1)) (congrArg Value.int (own_law i0 i1 i2 i3 i4 ics))), trivial⟩ ⟨hq.1, hq.2.1, (hq.2.2.sift fun y hy => Or.inr (N y hy)).mono (by decide) (by decide)⟩⟩
theorem main_1_1 : Claimed_1_1 := comes_1 fun _ _ _ _ _ _ h hF => ⟨h.1, hF⟩
theorem main_1_2 : Claimed_1_2 := comes_1 fun _ _ _ _ _ _ h hF => ⟨h.2.1, hF⟩
end Jvm.Pilot.@@N@@
namespace Jvm.Pilot.@@N@@
open Jvm Jvm.ClassFile Sem Op Lib Jvm.Free Jvm.Stand Jvm.Pilot.@@N@@.Jvm.D
/-! MADE BY PROGRAM (witnessworld.py) out of the Statement's table words and the real class files: 20 classes; the members and pool entries that the words name. The judged class is class 1, her method 1. -/
namespace start1
open Jvm.ClassFile
def u (s : String) : CpInfo := .utf8 (stringToUtf16 s)
/-- a pool by its gaps: so many unusable entries, then the entry; so many at the end -/
def gap : Nat → List CpInfo → List CpInfo
  | 0, r => r
  | n + 1, r => .unusable :: gap n r
def poolList (es : List (Nat × CpInfo)) (last : Nat) : List CpInfo := es.foldr (fun e r => gap e.1 (e.2 :: r)) (gap last [])
def pool (es : List (Nat × CpInfo)) (last : Nat) : Array CpInfo := ⟨poolList es last⟩
def fileOf (pool : Array CpInfo) (this : Nat) (attrs : Array Attribute := #[]) (ms : Array MethodInfo := #[]) (fl : Nat := 33) (sup : Nat := 0) (ifs : Array Nat := #[]) (fds : Array FieldInfo := #[]) : ClassFile where
  minorVersion := 0
  majorVersion := 65
  constantPool := pool
  accessFlags := fl
  thisClass := this
  superClass := sup
  interfaces := ifs
  fields := fds
  methods := ms
  attributes := attrs
def plain (name : String) (sup : Option ClassId) : Class where
  name := name
  kind := .ordinary
  loader := none
  accessFlags := 33
  super := sup
  interfaces := #[]
  cf := none
  fields := #[]
  methods := #[]
  instanceTypes := #[]
  staticTypes := #[]
  resolved := #[]
  callSites := []
  init := .initialized
  statics := none
  mirror := none

def pool0 : Array CpInfo := pool [(5, u "<init>"), (0, u "()V"), (1, .class_ 10), (1, u "java/lang/Object")] 113

def k0c0 : Code := { maxStack := 0, maxLocals := 1, code := object_method_1_code, exceptionTable := #[], attributes := #[] }
def k0m0 : Method := { name := "<init>", desc := "()V", sig := { parameters := [], returnType := none }, accessFlags := 1, code := some k0c0 }
/-- java/lang/Object -/
def k0 : Class := { plain "java/lang/Object" none with
  accessFlags := 33
  interfaces := #[]
  cf := some (fileOf pool0 8 #[] #[{ accessFlags := 1, nameIndex := 5, descriptorIndex := 6, attributes := #[] }] 33 0 #[] #[])
  fields := #[]
  methods := #[k0m0]
  instanceTypes := #[]
  staticTypes := #[]
  resolved := Array.replicate 124 none
  statics := none }

def pool1 : Array CpInfo := pool [(2, .class_ 4), (1, u "java/lang/Object"), (0, u "<init>"), (0, u "()V"), (0, .methodref 8 9), (0, .class_ 10), (0, .nameAndType 11 12), (0, u "java/lang/String"), (0, u "valueOf"), (0, u "(C)Ljava/lang/String;"), (0, .class_ 14), (0, u "com/example/quayside/quayside/core/Directory"), (0, .methodref 13 16), (0, .nameAndType 5 17), (0, u "(JLjava/lang/String;Ljava/lang/String;IJ)V"), (0, .methodref 13 19), (0, .nameAndType 20 21), (0, u "isSticky"), (0, u "()Z"), (0, .fieldref 13 23), (0, .nameAndType 24 25), (0, u "permission"), (0, u "I"), (0, .class_ 27), (0, u "com/example/quayside/quayside/core/DirectoryIsStickyPinLaw"), (2, u "law"), (0, u "(JIIJI)Z")] 3

def k1m0 : Method := { name := "<init>", desc := "()V", sig := { parameters := [], returnType := none }, accessFlags := 1, code := none }
def k1c1 : Code := { maxStack := 9, maxLocals := 14, code := code, exceptionTable := #[], attributes := #[] }
def k1m1 : Method := { name := "law", desc := "(JIIJI)Z", sig := { parameters := [.long, .int, .int, .long, .int], returnType := some .boolean }, accessFlags := 9, code := some k1c1 }
/-- com/example/quayside/quayside/core/DirectoryIsStickyPinLaw -/
def k1 : Class := { plain "com/example/quayside/quayside/core/DirectoryIsStickyPinLaw" (some 0) with
  accessFlags := 49
  interfaces := #[]
  cf := some (fileOf pool1 26 #[] #[{ accessFlags := 1, nameIndex := 5, descriptorIndex := 6, attributes := #[] }, { accessFlags := 9, nameIndex := 30, descriptorIndex := 31, attributes := #[] }] 49 2 #[] #[])
  fields := #[]
  methods := #[k1m0, k1m1]
  instanceTypes := #[]
  staticTypes := #[]
  resolved := Array.replicate 35 none
  statics := none }

def pool2 : Array CpInfo := pool [(1, .class_ 2), (0, u "java/io/Serializable"), (0, .class_ 4), (0, u "java/lang/Object")] 2

/-- java/io/Serializable -/
def k2 : Class := { plain "java/io/Serializable" (some 0) with
  accessFlags := 1537
  interfaces := #[]
  cf := some (fileOf pool2 1 #[] #[] 1537 3 #[] #[])
  fields := #[]
  methods := #[]
  instanceTypes := #[]
  staticTypes := #[]
  resolved := Array.replicate 7 none
  statics := none }

def pool3 : Array CpInfo := pool [(1, .class_ 2), (0, u "java/lang/Comparable"), (0, .class_ 4), (0, u "java/lang/Object")] 7

/-- java/lang/Comparable -/
def k3 : Class := { plain "java/lang/Comparable" (some 0) with
  accessFlags := 1537
  interfaces := #[]
  cf := some (fileOf pool3 1 #[] #[] 1537 3 #[] #[])
  fields := #[]
  methods := #[]
  instanceTypes := #[]
  staticTypes := #[]
  resolved := Array.replicate 12 none
  statics := none }

def pool4 : Array CpInfo := pool [(2, .class_ 4), (1, u "java/lang/CharSequence"), (42, .class_ 48), (0, u "java/lang/CharSequence$1CodePointIterator"), (10, .class_ 60), (0, u "java/lang/CharSequence$1CharIterator"), (5, .class_ 67), (0, u "java/lang/Object")] 63

/-- java/lang/CharSequence -/
def k4 : Class := { plain "java/lang/CharSequence" (some 0) with
  accessFlags := 1537
  interfaces := #[]
  cf := some (fileOf pool4 2 #[.nestMembers #[47, 59]] #[] 1537 66 #[] #[])
  fields := #[]
  methods := #[]
  instanceTypes := #[]
  staticTypes := #[]
  resolved := Array.replicate 131 none
  statics := none }

def pool5 : Array CpInfo := pool [(1, .class_ 2), (0, u "java/lang/constant/Constable"), (0, .class_ 4), (0, u "java/lang/Object")] 6

/-- java/lang/constant/Constable -/
def k5 : Class := { plain "java/lang/constant/Constable" (some 0) with
  accessFlags := 1537
  interfaces := #[]
  cf := some (fileOf pool5 1 #[] #[] 1537 3 #[] #[])
  fields := #[]
  methods := #[]
  instanceTypes := #[]
  staticTypes := #[]
  resolved := Array.replicate 11 none
  statics := none }

def pool6 : Array CpInfo := pool [(1, .class_ 2), (0, u "java/lang/constant/ConstantDesc"), (0, .class_ 4), (0, u "java/lang/Object")] 32

/-- java/lang/constant/ConstantDesc -/
def k6 : Class := { plain "java/lang/constant/ConstantDesc" (some 0) with
  accessFlags := 1537
  interfaces := #[]
  cf := some (fileOf pool6 1 #[] #[] 1537 3 #[] #[])
  fields := #[]
  methods := #[]
  instanceTypes := #[]
  staticTypes := #[]
  resolved := Array.replicate 37 none
  statics := none }

def pool7 : Array CpInfo := pool [(1, .methodref 2 3), (0, .class_ 4), (0, .nameAndType 5 6), (0, u "java/lang/Object"), (0, u "<init>"), (0, u "()V"), (2, .fieldref 10 11), (0, .class_ 12), (0, .nameAndType 13 14), (0, u "java/lang/String"), (0, u "value"), (0, u "[B"), (0, .fieldref 10 16), (0, .nameAndType 17 18), (0, u "coder"), (0, u "B"), (2, u "hash"), (0, u "I"), (2, u "hashIsZero"), (0, u "Z"), (11, .fieldref 10 39), (0, .nameAndType 40 26), (0, u "COMPACT_STRINGS"), (12, u "toBytes"), (53, .class_ 109), (1, u "java/lang/StringLatin1"), (99, .methodref 10 210), (0, .nameAndType 5 211), (0, u "([BB)V"), (157, u "(C)Z"), (205, .class_ 576), (0, u "java/lang/CharSequence"), (22, u "CASE_INSENSITIVE_ORDER"), (0, u "Ljava/util/Comparator;"), (181, u "valueOf"), (0, u "(C)Ljava/lang/String;"), (231, .methodref 107 1016), (0, .nameAndType 1017 369), (0, u "canEncode"), (0, .methodref 107 1019), (0, .nameAndType 53 1020), (0, u "(C)[B"), (80, u "serialPersistentFields"), (0, u "[Ljava/io/ObjectStreamField;"), (0, .class_ 1104), (0, u "java/lang/String$CaseInsensitiveComparator"), (1, .class_ 1107), (0, u "java/io/Serializable"), (0, .class_ 1109), (0, u "java/lang/Comparable"), (0, .class_ 1111), (0, u "java/lang/constant/Constable"), (0, .class_ 1113), (0, u "java/lang/constant/ConstantDesc"), (2, u "serialVersionUID"), (0, u "J"), (3, u "REPL"), (0, u "C"), (2, u "LATIN1"), (1, u "UTF16")] 323

def k7m0 : Method := { name := "<init>", desc := "()V", sig := { parameters := [], returnType := none }, accessFlags := 1, code := none }
def k7c1 : Code := { maxStack := 4, maxLocals := 1, code := jdk_42_method_139_code, exceptionTable := #[], attributes := #[] }
def k7m1 : Method := { name := "valueOf", desc := "(C)Ljava/lang/String;", sig := { parameters := [.char], returnType := some (.object "java/lang/String") }, accessFlags := 9, code := some k7c1 }
def k7c2 : Code := { maxStack := 2, maxLocals := 3, code := jdk_42_method_151_code, exceptionTable := #[], attributes := #[] }
def k7m2 : Method := { name := "<init>", desc := "([BB)V", sig := { parameters := [(.array .byte), .byte], returnType := none }, accessFlags := 0, code := some k7c2 }
/-- java/lang/String -/
def k7 : Class := { plain "java/lang/String" (some 0) with
  accessFlags := 49
  interfaces := #[2, 3, 4, 5, 6]
  cf := some (fileOf pool7 10 #[.nestMembers #[1103]] #[{ accessFlags := 1, nameIndex := 5, descriptorIndex := 6, attributes := #[] }, { accessFlags := 9, nameIndex := 782, descriptorIndex := 783, attributes := #[] }, { accessFlags := 0, nameIndex := 5, descriptorIndex := 211, attributes := #[] }] 49 2 #[1106, 1108, 575, 1110, 1112] #[{ accessFlags := 18, nameIndex := 13, descriptorIndex := 14, attributes := #[] }, { accessFlags := 18, nameIndex := 17, descriptorIndex := 18, attributes := #[] }, { accessFlags := 2, nameIndex := 21, descriptorIndex := 22, attributes := #[] }, { accessFlags := 2, nameIndex := 25, descriptorIndex := 26, attributes := #[] }, { accessFlags := 26, nameIndex := 1116, descriptorIndex := 1117, attributes := #[] }, { accessFlags := 24, nameIndex := 40, descriptorIndex := 26, attributes := #[] }, { accessFlags := 26, nameIndex := 1101, descriptorIndex := 1102, attributes := #[] }, { accessFlags := 26, nameIndex := 1121, descriptorIndex := 1122, attributes := #[] }, { accessFlags := 25, nameIndex := 599, descriptorIndex := 600, attributes := #[] }, { accessFlags := 24, nameIndex := 1125, descriptorIndex := 18, attributes := #[] }, { accessFlags := 24, nameIndex := 1127, descriptorIndex := 18, attributes := #[] }])
  fields := #[{ name := "value", type := (.array .byte), accessFlags := 18, slot := 0, constantValue := 0 }, { name := "coder", type := .byte, accessFlags := 18, slot := 1, constantValue := 0 }, { name := "hash", type := .int, accessFlags := 2, slot := 2, constantValue := 0 }, { name := "hashIsZero", type := .boolean, accessFlags := 2, slot := 3, constantValue := 0 }, { name := "serialVersionUID", type := .long, accessFlags := 26, slot := 0, constantValue := 0 }, { name := "COMPACT_STRINGS", type := .boolean, accessFlags := 24, slot := 1, constantValue := 0 }, { name := "serialPersistentFields", type := (.array (.object "java/io/ObjectStreamField")), accessFlags := 26, slot := 2, constantValue := 0 }, { name := "REPL", type := .char, accessFlags := 26, slot := 3, constantValue := 0 }, { name := "CASE_INSENSITIVE_ORDER", type := (.object "java/util/Comparator"), accessFlags := 25, slot := 4, constantValue := 0 }, { name := "LATIN1", type := .byte, accessFlags := 24, slot := 5, constantValue := 0 }, { name := "UTF16", type := .byte, accessFlags := 24, slot := 6, constantValue := 0 }]
  methods := #[k7m0, k7m1, k7m2]
  instanceTypes := #[(.array .byte), .byte, .int, .boolean]
  staticTypes := #[.long, .boolean, (.array (.object "java/io/ObjectStreamField")), .char, (.object "java/util/Comparator"), .byte, .byte]
  resolved := Array.replicate 1451 none
  statics := some 0 }

def pool8 : Array CpInfo := pool [(4, .class_ 6), (1, u "java/lang/Object"), (0, u "<init>"), (0, u "()V"), (5, .class_ 16), (1, u "java/lang/StringLatin1"), (73, u "canEncode"), (14, u "(C)Z"), (15, u "$assertionsDisabled"), (0, u "Z"), (98, .class_ 223), (1, u "java/lang/StringLatin1$LinesSpliterator"), (156, u "toBytes"), (1, u "(C)[B"), (7, .class_ 391), (0, u "java/lang/StringLatin1$CharsSpliterator")] 3

def k8m0 : Method := { name := "<init>", desc := "()V", sig := { parameters := [], returnType := none }, accessFlags := 0, code := none }
def k8c1 : Code := { maxStack := 2, maxLocals := 1, code := jdk_43_method_3_code, exceptionTable := #[], attributes := #[] }
def k8m1 : Method := { name := "canEncode", desc := "(C)Z", sig := { parameters := [.char], returnType := some .boolean }, accessFlags := 9, code := some k8c1 }
def k8c2 : Code := { maxStack := 4, maxLocals := 1, code := jdk_43_method_46_code, exceptionTable := #[], attributes := #[] }
def k8m2 : Method := { name := "toBytes", desc := "(C)[B", sig := { parameters := [.char], returnType := some (.array .byte) }, accessFlags := 9, code := some k8c2 }
/-- java/lang/StringLatin1 -/
def k8 : Class := { plain "java/lang/StringLatin1" (some 0) with
  accessFlags := 48
  interfaces := #[]
  cf := some (fileOf pool8 14 #[.nestMembers #[390, 221]] #[{ accessFlags := 0, nameIndex := 7, descriptorIndex := 8, attributes := #[] }, { accessFlags := 9, nameIndex := 90, descriptorIndex := 105, attributes := #[] }, { accessFlags := 9, nameIndex := 380, descriptorIndex := 382, attributes := #[] }] 48 4 #[] #[{ accessFlags := 4120, nameIndex := 121, descriptorIndex := 122, attributes := #[] }])
  fields := #[{ name := "$assertionsDisabled", type := .boolean, accessFlags := 4120, slot := 0, constantValue := 0 }]
  methods := #[k8m0, k8m1, k8m2]
  instanceTypes := #[]
  staticTypes := #[.boolean]
  resolved := Array.replicate 395 none
  statics := none }

def pool9 : Array CpInfo := pool [(1, .methodref 2 3), (0, .class_ 4), (0, .nameAndType 5 6), (0, u "java/lang/Object"), (0, u "<init>"), (0, u "()V"), (0, .fieldref 8 9), (0, .class_ 10), (0, .nameAndType 11 12), (0, u "com/example/quayside/quayside/core/Entry"), (0, u "id"), (0, u "J"), (0, .fieldref 8 14), (0, .nameAndType 15 16), (0, u "owner"), (0, u "Ljava/lang/String;"), (0, .fieldref 8 18), (0, .nameAndType 19 16), (0, u "group"), (0, .fieldref 8 21), (0, .nameAndType 22 23), (0, u "permission"), (0, u "I"), (0, .fieldref 8 25), (0, .nameAndType 26 12), (0, u "modificationTime"), (0, .fieldref 8 28), (0, .nameAndType 29 12), (0, u "accessTime"), (0, u "(JLjava/lang/String;Ljava/lang/String;IJJ)V")] 11

def k9c0 : Code := { maxStack := 3, maxLocals := 10, code := prog_28_method_1_code, exceptionTable := #[], attributes := #[] }
def k9m0 : Method := { name := "<init>", desc := "(JLjava/lang/String;Ljava/lang/String;IJJ)V", sig := { parameters := [.long, (.object "java/lang/String"), (.object "java/lang/String"), .int, .long, .long], returnType := none }, accessFlags := 0, code := some k9c0 }
/-- com/example/quayside/quayside/core/Entry -/
def k9 : Class := { plain "com/example/quayside/quayside/core/Entry" (some 0) with
  accessFlags := 1056
  interfaces := #[]
  cf := some (fileOf pool9 8 #[] #[{ accessFlags := 0, nameIndex := 5, descriptorIndex := 30, attributes := #[] }] 1056 2 #[] #[{ accessFlags := 16, nameIndex := 11, descriptorIndex := 12, attributes := #[] }, { accessFlags := 0, nameIndex := 15, descriptorIndex := 16, attributes := #[] }, { accessFlags := 0, nameIndex := 19, descriptorIndex := 16, attributes := #[] }, { accessFlags := 0, nameIndex := 22, descriptorIndex := 23, attributes := #[] }, { accessFlags := 0, nameIndex := 26, descriptorIndex := 12, attributes := #[] }, { accessFlags := 0, nameIndex := 29, descriptorIndex := 12, attributes := #[] }])
  fields := #[{ name := "id", type := .long, accessFlags := 16, slot := 0, constantValue := 0 }, { name := "owner", type := (.object "java/lang/String"), accessFlags := 0, slot := 1, constantValue := 0 }, { name := "group", type := (.object "java/lang/String"), accessFlags := 0, slot := 2, constantValue := 0 }, { name := "permission", type := .int, accessFlags := 0, slot := 3, constantValue := 0 }, { name := "modificationTime", type := .long, accessFlags := 0, slot := 4, constantValue := 0 }, { name := "accessTime", type := .long, accessFlags := 0, slot := 5, constantValue := 0 }]
  methods := #[k9m0]
  instanceTypes := #[.long, (.object "java/lang/String"), (.object "java/lang/String"), .int, .long, .long]
  staticTypes := #[]
  resolved := Array.replicate 42 none
  statics := none }

def pool10 : Array CpInfo := pool [(1, .methodref 2 3), (0, .class_ 4), (0, .nameAndType 5 6), (0, u "com/example/quayside/quayside/core/Entry"), (0, u "<init>"), (0, u "(JLjava/lang/String;Ljava/lang/String;IJJ)V"), (0, .class_ 8), (0, u "com/example/quayside/quayside/core/Entries"), (0, .methodref 7 10), (0, .nameAndType 5 11), (0, u "()V"), (0, .fieldref 13 14), (0, .class_ 15), (0, .nameAndType 16 17), (0, u "com/example/quayside/quayside/core/Directory"), (0, u "entries"), (0, u "Lcom/example/quayside/quayside/core/Entries;"), (0, .fieldref 13 19), (0, .nameAndType 20 21), (0, u "permission"), (0, u "I"), (30, u "()Z"), (60, u "STICKY"), (2, u "(JLjava/lang/String;Ljava/lang/String;IJ)V"), (2, u "isSticky")] 8

def k10c0 : Code := { maxStack := 10, maxLocals := 8, code := prog_23_method_1_code, exceptionTable := #[], attributes := #[] }
def k10m0 : Method := { name := "<init>", desc := "(JLjava/lang/String;Ljava/lang/String;IJ)V", sig := { parameters := [.long, (.object "java/lang/String"), (.object "java/lang/String"), .int, .long], returnType := none }, accessFlags := 0, code := some k10c0 }
def k10c1 : Code := { maxStack := 2, maxLocals := 1, code := prog_23_method_2_code, exceptionTable := #[], attributes := #[] }
def k10m1 : Method := { name := "isSticky", desc := "()Z", sig := { parameters := [], returnType := some .boolean }, accessFlags := 0, code := some k10c1 }
/-- com/example/quayside/quayside/core/Directory -/
def k10 : Class := { plain "com/example/quayside/quayside/core/Directory" (some 9) with
  accessFlags := 48
  interfaces := #[]
  cf := some (fileOf pool10 13 #[] #[{ accessFlags := 0, nameIndex := 5, descriptorIndex := 116, attributes := #[] }, { accessFlags := 0, nameIndex := 119, descriptorIndex := 52, attributes := #[] }] 48 2 #[] #[{ accessFlags := 16, nameIndex := 16, descriptorIndex := 17, attributes := #[] }, { accessFlags := 24, nameIndex := 113, descriptorIndex := 21, attributes := #[] }])
  fields := #[{ name := "entries", type := (.object "com/example/quayside/quayside/core/Entries"), accessFlags := 16, slot := 6, constantValue := 0 }, { name := "STICKY", type := .int, accessFlags := 24, slot := 0, constantValue := 0 }]
  methods := #[k10m0, k10m1]
  instanceTypes := #[.long, (.object "java/lang/String"), (.object "java/lang/String"), .int, .long, .long, (.object "com/example/quayside/quayside/core/Entries")]
  staticTypes := #[.int]
  resolved := Array.replicate 128 none
  statics := none }

def pool11 : Array CpInfo := pool [(8, .class_ 10), (1, u "java/lang/Iterable"), (24, .class_ 36), (0, u "java/lang/Object")] 25

/-- java/lang/Iterable -/
def k11 : Class := { plain "java/lang/Iterable" (some 0) with
  accessFlags := 1537
  interfaces := #[]
  cf := some (fileOf pool11 8 #[] #[] 1537 35 #[] #[])
  fields := #[]
  methods := #[]
  instanceTypes := #[]
  staticTypes := #[]
  resolved := Array.replicate 62 none
  statics := none }

def pool12 : Array CpInfo := pool [(1, .methodref 2 3), (0, .class_ 4), (0, .nameAndType 5 6), (0, u "java/lang/Object"), (0, u "<init>"), (0, u "()V"), (1, .class_ 10), (1, u "com/example/quayside/quayside/core/Entries"), (0, u "root"), (0, u "Lcom/example/quayside/quayside/core/Entries$Link;"), (5, .class_ 20), (1, u "com/example/quayside/quayside/core/Entries$Link"), (34, .class_ 56), (0, u "com/example/quayside/quayside/core/Entries$Walk"), (60, u "$assertionsDisabled"), (0, u "Z"), (9, u "I"), (8, .class_ 138), (0, u "java/lang/Iterable"), (0, u "DELTA"), (2, u "GAMMA")] 47

def k12c0 : Code := { maxStack := 1, maxLocals := 1, code := prog_25_method_1_code, exceptionTable := #[], attributes := #[] }
def k12m0 : Method := { name := "<init>", desc := "()V", sig := { parameters := [], returnType := none }, accessFlags := 0, code := some k12c0 }
/-- com/example/quayside/quayside/core/Entries -/
def k12 : Class := { plain "com/example/quayside/quayside/core/Entries" (some 0) with
  accessFlags := 48
  interfaces := #[11]
  cf := some (fileOf pool12 8 #[.nestMembers #[55, 18]] #[{ accessFlags := 0, nameIndex := 5, descriptorIndex := 6, attributes := #[] }] 48 2 #[137] #[{ accessFlags := 26, nameIndex := 139, descriptorIndex := 128, attributes := #[] }, { accessFlags := 26, nameIndex := 142, descriptorIndex := 128, attributes := #[] }, { accessFlags := 2, nameIndex := 11, descriptorIndex := 12, attributes := #[] }, { accessFlags := 4120, nameIndex := 117, descriptorIndex := 118, attributes := #[] }])
  fields := #[{ name := "DELTA", type := .int, accessFlags := 26, slot := 0, constantValue := 0 }, { name := "GAMMA", type := .int, accessFlags := 26, slot := 1, constantValue := 0 }, { name := "root", type := (.object "com/example/quayside/quayside/core/Entries$Link"), accessFlags := 2, slot := 0, constantValue := 0 }, { name := "$assertionsDisabled", type := .boolean, accessFlags := 4120, slot := 2, constantValue := 0 }]
  methods := #[k12m0]
  instanceTypes := #[(.object "com/example/quayside/quayside/core/Entries$Link")]
  staticTypes := #[.int, .int, .boolean]
  resolved := Array.replicate 190 none
  statics := none }

def pool13 : Array CpInfo := pool [(2, .class_ 4), (1, u "java/lang/Object"), (0, u "<init>"), (0, u "()V"), (17, .class_ 26), (1, u "jdk/internal/util/Preconditions"), (28, .class_ 56), (0, u "jdk/internal/util/Preconditions$4"), (57, .class_ 115), (0, u "jdk/internal/util/Preconditions$1"), (7, u "SIOOBE_FORMATTER"), (0, u "Ljava/util/function/BiFunction;"), (0, .class_ 126), (0, u "jdk/internal/util/Preconditions$2"), (3, u "AIOOBE_FORMATTER"), (0, .class_ 132), (0, u "jdk/internal/util/Preconditions$3"), (3, u "IOOBE_FORMATTER")] 57

def k13m0 : Method := { name := "<init>", desc := "()V", sig := { parameters := [], returnType := none }, accessFlags := 1, code := none }
/-- jdk/internal/util/Preconditions -/
def k13 : Class := { plain "jdk/internal/util/Preconditions" (some 0) with
  accessFlags := 33
  interfaces := #[]
  cf := some (fileOf pool13 24 #[.nestMembers #[55, 131, 125, 114]] #[{ accessFlags := 1, nameIndex := 5, descriptorIndex := 6, attributes := #[] }] 33 2 #[] #[{ accessFlags := 25, nameIndex := 123, descriptorIndex := 124, attributes := #[] }, { accessFlags := 25, nameIndex := 130, descriptorIndex := 124, attributes := #[] }, { accessFlags := 25, nameIndex := 136, descriptorIndex := 124, attributes := #[] }])
  fields := #[{ name := "SIOOBE_FORMATTER", type := (.object "java/util/function/BiFunction"), accessFlags := 25, slot := 0, constantValue := 0 }, { name := "AIOOBE_FORMATTER", type := (.object "java/util/function/BiFunction"), accessFlags := 25, slot := 1, constantValue := 0 }, { name := "IOOBE_FORMATTER", type := (.object "java/util/function/BiFunction"), accessFlags := 25, slot := 2, constantValue := 0 }]
  methods := #[k13m0]
  instanceTypes := #[]
  staticTypes := #[(.object "java/util/function/BiFunction"), (.object "java/util/function/BiFunction"), (.object "java/util/function/BiFunction")]
  resolved := Array.replicate 194 none
  statics := some 1 }

def pool14 : Array CpInfo := pool [(9, u "<init>"), (6, .class_ 18), (1, u "java/lang/Object"), (0, u "()V"), (1, .class_ 23), (1, u "jdk/internal/util/ArraysSupport"), (0, u "LOG2_ARRAY_LONG_INDEX_SCALE"), (0, u "I"), (2, u "U"), (0, u "Ljdk/internal/misc/Unsafe;"), (8, u "BIG_ENDIAN"), (0, u "Z"), (8, u "LOG2_BYTE_BIT_SIZE"), (4, u "LOG2_ARRAY_INT_INDEX_SCALE"), (54, u "JLA"), (0, u "Ljdk/internal/access/JavaLangAccess;"), (11, u "LOG2_ARRAY_BOOLEAN_INDEX_SCALE"), (9, u "LOG2_ARRAY_BYTE_INDEX_SCALE"), (5, u "LOG2_ARRAY_CHAR_INDEX_SCALE"), (5, u "LOG2_ARRAY_SHORT_INDEX_SCALE"), (18, u "LOG2_ARRAY_FLOAT_INDEX_SCALE"), (24, u "LOG2_ARRAY_DOUBLE_INDEX_SCALE"), (89, u "T_BOOLEAN"), (2, u "T_CHAR"), (1, u "T_FLOAT"), (1, u "T_DOUBLE"), (1, u "T_BYTE"), (1, u "T_SHORT"), (1, u "T_INT"), (1, u "T_LONG"), (1, u "SOFT_MAX_ARRAY_LENGTH")] 83

def k14m0 : Method := { name := "<init>", desc := "()V", sig := { parameters := [], returnType := none }, accessFlags := 2, code := none }
/-- jdk/internal/util/ArraysSupport -/
def k14 : Class := { plain "jdk/internal/util/ArraysSupport" (some 0) with
  accessFlags := 33
  interfaces := #[]
  cf := some (fileOf pool14 21 #[] #[{ accessFlags := 2, nameIndex := 9, descriptorIndex := 19, attributes := #[] }] 33 16 #[] #[{ accessFlags := 24, nameIndex := 28, descriptorIndex := 29, attributes := #[] }, { accessFlags := 26, nameIndex := 38, descriptorIndex := 39, attributes := #[] }, { accessFlags := 25, nameIndex := 121, descriptorIndex := 25, attributes := #[] }, { accessFlags := 25, nameIndex := 131, descriptorIndex := 25, attributes := #[] }, { accessFlags := 25, nameIndex := 137, descriptorIndex := 25, attributes := #[] }, { accessFlags := 25, nameIndex := 143, descriptorIndex := 25, attributes := #[] }, { accessFlags := 25, nameIndex := 53, descriptorIndex := 25, attributes := #[] }, { accessFlags := 25, nameIndex := 24, descriptorIndex := 25, attributes := #[] }, { accessFlags := 25, nameIndex := 162, descriptorIndex := 25, attributes := #[] }, { accessFlags := 25, nameIndex := 187, descriptorIndex := 25, attributes := #[] }, { accessFlags := 26, nameIndex := 48, descriptorIndex := 25, attributes := #[] }, { accessFlags := 25, nameIndex := 277, descriptorIndex := 25, attributes := #[] }, { accessFlags := 25, nameIndex := 280, descriptorIndex := 25, attributes := #[] }, { accessFlags := 25, nameIndex := 282, descriptorIndex := 25, attributes := #[] }, { accessFlags := 25, nameIndex := 284, descriptorIndex := 25, attributes := #[] }, { accessFlags := 25, nameIndex := 286, descriptorIndex := 25, attributes := #[] }, { accessFlags := 25, nameIndex := 288, descriptorIndex := 25, attributes := #[] }, { accessFlags := 25, nameIndex := 290, descriptorIndex := 25, attributes := #[] }, { accessFlags := 25, nameIndex := 292, descriptorIndex := 25, attributes := #[] }, { accessFlags := 26, nameIndex := 108, descriptorIndex := 109, attributes := #[] }, { accessFlags := 25, nameIndex := 294, descriptorIndex := 25, attributes := #[] }])
  fields := #[{ name := "U", type := (.object "jdk/internal/misc/Unsafe"), accessFlags := 24, slot := 0, constantValue := 0 }, { name := "BIG_ENDIAN", type := .boolean, accessFlags := 26, slot := 1, constantValue := 0 }, { name := "LOG2_ARRAY_BOOLEAN_INDEX_SCALE", type := .int, accessFlags := 25, slot := 2, constantValue := 0 }, { name := "LOG2_ARRAY_BYTE_INDEX_SCALE", type := .int, accessFlags := 25, slot := 3, constantValue := 0 }, { name := "LOG2_ARRAY_CHAR_INDEX_SCALE", type := .int, accessFlags := 25, slot := 4, constantValue := 0 }, { name := "LOG2_ARRAY_SHORT_INDEX_SCALE", type := .int, accessFlags := 25, slot := 5, constantValue := 0 }, { name := "LOG2_ARRAY_INT_INDEX_SCALE", type := .int, accessFlags := 25, slot := 6, constantValue := 0 }, { name := "LOG2_ARRAY_LONG_INDEX_SCALE", type := .int, accessFlags := 25, slot := 7, constantValue := 0 }, { name := "LOG2_ARRAY_FLOAT_INDEX_SCALE", type := .int, accessFlags := 25, slot := 8, constantValue := 0 }, { name := "LOG2_ARRAY_DOUBLE_INDEX_SCALE", type := .int, accessFlags := 25, slot := 9, constantValue := 0 }, { name := "LOG2_BYTE_BIT_SIZE", type := .int, accessFlags := 26, slot := 10, constantValue := 0 }, { name := "T_BOOLEAN", type := .int, accessFlags := 25, slot := 11, constantValue := 0 }, { name := "T_CHAR", type := .int, accessFlags := 25, slot := 12, constantValue := 0 }, { name := "T_FLOAT", type := .int, accessFlags := 25, slot := 13, constantValue := 0 }, { name := "T_DOUBLE", type := .int, accessFlags := 25, slot := 14, constantValue := 0 }, { name := "T_BYTE", type := .int, accessFlags := 25, slot := 15, constantValue := 0 }, { name := "T_SHORT", type := .int, accessFlags := 25, slot := 16, constantValue := 0 }, { name := "T_INT", type := .int, accessFlags := 25, slot := 17, constantValue := 0 }, { name := "T_LONG", type := .int, accessFlags := 25, slot := 18, constantValue := 0 }, { name := "JLA", type := (.object "jdk/internal/access/JavaLangAccess"), accessFlags := 26, slot := 19, constantValue := 0 }, { name := "SOFT_MAX_ARRAY_LENGTH", type := .int, accessFlags := 25, slot := 20, constantValue := 0 }]
  methods := #[k14m0]
  instanceTypes := #[]
  staticTypes := #[(.object "jdk/internal/misc/Unsafe"), .boolean, .int, .int, .int, .int, .int, .int, .int, .int, .int, .int, .int, .int, .int, .int, .int, .int, .int, (.object "jdk/internal/access/JavaLangAccess"), .int]
  resolved := Array.replicate 378 none
  statics := none }

def pool15 : Array CpInfo := pool [(1, u "java/lang/Cloneable"), (0, .class_ 1), (0, u "java/lang/Object"), (0, .class_ 3)] 3

/-- java/lang/Cloneable -/
def k15 : Class := { plain "java/lang/Cloneable" (some 0) with
  accessFlags := 1537
  interfaces := #[]
  cf := some (fileOf pool15 2 #[] #[] 1537 4 #[] #[])
  fields := #[]
  methods := #[]
  instanceTypes := #[]
  staticTypes := #[]
  resolved := Array.replicate 8 none
  statics := none }

/-- the primitive byte -/
def k16 : Class := { plain "byte" none with kind := .primitive 'B', accessFlags := 0x411 }
/-- [B -/
def k17 : Class := { plain "[B" (some 0) with kind := .array 16 .byte, interfaces := #[15, 2], accessFlags := 1041 }

/-- the primitive int -/
def k18 : Class := { plain "int" none with kind := .primitive 'I', accessFlags := 0x411 }
/-- [I -/
def k19 : Class := { plain "[I" (some 0) with kind := .array 18 .int, interfaces := #[15, 2], accessFlags := 1041 }

def heap : Heap := #[{ cls := 7, slots := #[.long 0, .int 1, .null, .int 0, .null, .int 0, .int 0], vm := .statics 7 },
  { cls := 13, slots := #[.null, .null, .null], vm := .statics 13 }]
def classes : Array Class := #[k0, k1, k2, k3, k4, k5, k6, k7, k8, k9, k10, k11, k12, k13, k14, k15, k16, k17, k18, k19]
def interned : List (Array UInt16 × Addr) := []
def slotsUsed : Nat := 10
def theMethod : MethodId := ⟨1, 1⟩
def args0 : Array Value := #[.long 5, .int 5, .int 5, .long 5, .int 5]
def aboutOver (below : List Frame) : State where
  vm := { classes := classes, interned := interned.toArray }
  heap := heap
  slotsUsed := slotsUsed
  threads := #[{ frames := .invoking theMethod args0 :: below }]
def below0 : List Frame := [.native { method := ⟨0, 0⟩, args := #[] }]
def about1 : State := aboutOver below0
def p0 : Program := .bare "" "" ""
def e0 : Env := launch0.env 0 0 0
theorem w_frames : about1.frames = Frame.invoking theMethod args0 :: below0 := rfl
set_option maxRecDepth 65536 in
theorem w_args : argsFit about1.vm theMethod args0 = true := by decide +kernel
set_option maxRecDepth 65536 in
theorem w_heap : heapFits about1 = true := by decide +kernel
set_option maxRecDepth 65536 in
theorem w_runnable : about1.curStatus? = some .runnable := by decide +kernel
set_option maxRecDepth 65536 in
theorem w_alone : about1.alone = true := by decide +kernel
set_option maxRecDepth 65536 in
theorem w_named : about1.methodNamed? x = some theMethod := by decide +kernel
set_option maxRecDepth 65536 in
theorem w_hears : about1.hears theMethod below0 = true := by decide +kernel
set_option maxRecDepth 65536 in
theorem w_ripe : about1.ripe theMethod args0 below0 = true := by decide +kernel
theorem w_running : about1.status = .running := rfl
set_option maxRecDepth 65536 in
theorem w_room : about1.hasRoom e0.platform room_1 = true :=
  launch0.hasRoom_least _ room_1 (by decide +kernel) (by decide +kernel) (by decide +kernel) (by decide +kernel) (by decide +kernel) (by decide +kernel)
theorem allAtoms_all (ts : List Jvm.Cond) (a : Array Jvm.Value) (st : Jvm.State) : (allAtoms ts).before a st = ts.all (fun c => c.before a st) := by
  induction ts with
  | nil => rfl
  | cons c t ih =>
    show (Jvm.Cond.and c (allAtoms t)).before a st = _
    rw [Jvm.Cond.before_and, ih, List.all_cons]
def words1 : List Jvm.Cond := Jvm.Cond.code x code maxLocals ret :: tables_1
/-- a 'code' word, met by the world's own term for the bytes: nothing is compared byte by byte -/
theorem code_word {y : MethodName} {bytes : ByteArray} {mx : Nat} {rt : Option FieldType} {a : Array Value} {s : State} {m : MethodId} {meth : Method} {c : Code} (h1 : s.methodNamed? y = some m) (h2 : s.vm.method? m = some meth) (h3 : meth.code = some c) (h4 : c.code = bytes)
    (h5 : (c.maxLocals == mx && c.exceptionTable.isEmpty && decide (c.maxStack ≤ mostOperands) && decide (meth.sig.returnType = rt) && !meth.locks && decide (parseMethodDescriptor y.desc = some meth.sig)) = true) : (Jvm.Cond.code y bytes mx rt).before a s = true := by
  simp only [Bool.and_eq_true, beq_iff_eq, Bool.not_eq_true', decide_eq_true_eq] at h5
  obtain ⟨⟨⟨⟨⟨g1, g2⟩, g3⟩, g4⟩, g5⟩, g6⟩ := h5
  simp [Cond.before, Cond.holds, Cond.value, h1, h2, h3, h4, g1, g2, g3, g4, g5, g6]
def isCode : Jvm.Cond → Bool
  | .code _ _ _ _ => true
  | _ => false
theorem all_split {L : List Jvm.Cond} {P : Jvm.Cond → Bool} (h1 : L.all (fun c => isCode c || P c) = true) (h2 : ∀ c ∈ L.filter isCode, P c = true) : L.all P = true := by
  refine List.all_eq_true.mpr fun c hc => ?_
  have h := List.all_eq_true.mp h1 c hc
  rcases Bool.eq_false_or_eq_true (isCode c) with hi | hi
  · exact h2 c (List.mem_filter.mpr ⟨hc, hi⟩)
  · simpa [hi] using h
set_option maxRecDepth 65536 in
theorem w_c0 : (Jvm.Cond.code x code maxLocals ret).before args0 about1 = true := code_word (m := ⟨1, 1⟩) (meth := k1m1) (c := k1c1) (by decide +kernel) rfl rfl rfl (by decide +kernel)
set_option maxRecDepth 65536 in
theorem w_c1 : (Jvm.Cond.code ({ cls := "java/lang/String", name := "valueOf", desc := "(C)Ljava/lang/String;" } : Jvm.MethodName) jdk_42_method_139_code (1 : Nat) (Option.some (Jvm.ClassFile.FieldType.object "java/lang/String"))).before args0 about1 = true := code_word (m := ⟨7, 1⟩) (meth := k7m1) (c := k7c1) (by decide +kernel) rfl rfl rfl (by decide +kernel)
set_option maxRecDepth 65536 in
theorem w_c2 : (Jvm.Cond.code ({ cls := "java/lang/StringLatin1", name := "canEncode", desc := "(C)Z" } : Jvm.MethodName) jdk_43_method_3_code (1 : Nat) (Option.some Jvm.ClassFile.FieldType.boolean)).before args0 about1 = true := code_word (m := ⟨8, 1⟩) (meth := k8m1) (c := k8c1) (by decide +kernel) rfl rfl rfl (by decide +kernel)
set_option maxRecDepth 65536 in
theorem w_c3 : (Jvm.Cond.code ({ cls := "java/lang/StringLatin1", name := "toBytes", desc := "(C)[B" } : Jvm.MethodName) jdk_43_method_46_code (1 : Nat) (Option.some (Jvm.ClassFile.FieldType.array Jvm.ClassFile.FieldType.byte))).before args0 about1 = true := code_word (m := ⟨8, 2⟩) (meth := k8m2) (c := k8c2) (by decide +kernel) rfl rfl rfl (by decide +kernel)
set_option maxRecDepth 65536 in
theorem w_c4 : (Jvm.Cond.code ({ cls := "java/lang/String", name := "<init>", desc := "([BB)V" } : Jvm.MethodName) jdk_42_method_151_code (3 : Nat) (Option.none : Option Jvm.ClassFile.FieldType)).before args0 about1 = true := code_word (m := ⟨7, 2⟩) (meth := k7m2) (c := k7c2) (by decide +kernel) rfl rfl rfl (by decide +kernel)
set_option maxRecDepth 65536 in
theorem w_c5 : (Jvm.Cond.code ({ cls := "java/lang/Object", name := "<init>", desc := "()V" } : Jvm.MethodName) object_method_1_code (1 : Nat) (Option.none : Option Jvm.ClassFile.FieldType)).before args0 about1 = true := code_word (m := ⟨0, 0⟩) (meth := k0m0) (c := k0c0) (by decide +kernel) rfl rfl rfl (by decide +kernel)
set_option maxRecDepth 65536 in
theorem w_c6 : (Jvm.Cond.code ({ cls := "com/example/quayside/quayside/core/Directory", name := "<init>", desc := "(JLjava/lang/String;Ljava/lang/String;IJ)V" } : Jvm.MethodName) prog_23_method_1_code (8 : Nat) (Option.none : Option Jvm.ClassFile.FieldType)).before args0 about1 = true := code_word (m := ⟨10, 0⟩) (meth := k10m0) (c := k10c0) (by decide +kernel) rfl rfl rfl (by decide +kernel)
set_option maxRecDepth 65536 in
theorem w_c7 : (Jvm.Cond.code ({ cls := "com/example/quayside/quayside/core/Entry", name := "<init>", desc := "(JLjava/lang/String;Ljava/lang/String;IJJ)V" } : Jvm.MethodName) prog_28_method_1_code (10 : Nat) (Option.none : Option Jvm.ClassFile.FieldType)).before args0 about1 = true := code_word (m := ⟨9, 0⟩) (meth := k9m0) (c := k9c0) (by decide +kernel) rfl rfl rfl (by decide +kernel)
set_option maxRecDepth 65536 in
theorem w_c8 : (Jvm.Cond.code ({ cls := "com/example/quayside/quayside/core/Entries", name := "<init>", desc := "()V" } : Jvm.MethodName) prog_25_method_1_code (1 : Nat) (Option.none : Option Jvm.ClassFile.FieldType)).before args0 about1 = true := code_word (m := ⟨12, 0⟩) (meth := k12m0) (c := k12c0) (by decide +kernel) rfl rfl rfl (by decide +kernel)
set_option maxRecDepth 65536 in
theorem w_c9 : (Jvm.Cond.code ({ cls := "com/example/quayside/quayside/core/Directory", name := "isSticky", desc := "()Z" } : Jvm.MethodName) prog_23_method_2_code (1 : Nat) (Option.some Jvm.ClassFile.FieldType.boolean)).before args0 about1 = true := code_word (m := ⟨10, 1⟩) (meth := k10m1) (c := k10c1) (by decide +kernel) rfl rfl rfl (by decide +kernel)
def codes1 : List Jvm.Cond := [Jvm.Cond.code x code maxLocals ret, Jvm.Cond.code ({ cls := "java/lang/String", name := "valueOf", desc := "(C)Ljava/lang/String;" } : Jvm.MethodName) jdk_42_method_139_code (1 : Nat) (Option.some (Jvm.ClassFile.FieldType.object "java/lang/String")), Jvm.Cond.code ({ cls := "java/lang/StringLatin1", name := "canEncode", desc := "(C)Z" } : Jvm.MethodName) jdk_43_method_3_code (1 : Nat) (Option.some Jvm.ClassFile.FieldType.boolean), Jvm.Cond.code ({ cls := "java/lang/StringLatin1", name := "toBytes", desc := "(C)[B" } : Jvm.MethodName) jdk_43_method_46_code (1 : Nat) (Option.some (Jvm.ClassFile.FieldType.array Jvm.ClassFile.FieldType.byte)), Jvm.Cond.code ({ cls := "java/lang/String", name := "<init>", desc := "([BB)V" } : Jvm.MethodName) jdk_42_method_151_code (3 : Nat) (Option.none : Option Jvm.ClassFile.FieldType), Jvm.Cond.code ({ cls := "java/lang/Object", name := "<init>", desc := "()V" } : Jvm.MethodName) object_method_1_code (1 : Nat) (Option.none : Option Jvm.ClassFile.FieldType), Jvm.Cond.code ({ cls := "com/example/quayside/quayside/core/Directory", name := "<init>", desc := "(JLjava/lang/String;Ljava/lang/String;IJ)V" } : Jvm.MethodName) prog_23_method_1_code (8 : Nat) (Option.none : Option Jvm.ClassFile.FieldType), Jvm.Cond.code ({ cls := "com/example/quayside/quayside/core/Entry", name := "<init>", desc := "(JLjava/lang/String;Ljava/lang/String;IJJ)V" } : Jvm.MethodName) prog_28_method_1_code (10 : Nat) (Option.none : Option Jvm.ClassFile.FieldType), Jvm.Cond.code ({ cls := "com/example/quayside/quayside/core/Entries", name := "<init>", desc := "()V" } : Jvm.MethodName) prog_25_method_1_code (1 : Nat) (Option.none : Option Jvm.ClassFile.FieldType), Jvm.Cond.code ({ cls := "com/example/quayside/quayside/core/Directory", name := "isSticky", desc := "()Z" } : Jvm.MethodName) prog_23_method_2_code (1 : Nat) (Option.some Jvm.ClassFile.FieldType.boolean)]
set_option maxRecDepth 65536 in
theorem codes_eq : words1.filter isCode = codes1 := rfl
theorem w_codes : ∀ c ∈ words1.filter isCode, c.before args0 about1 = true := by
  rw [codes_eq]
  intro c hc
  simp only [codes1, List.mem_cons, List.not_mem_nil, or_false] at hc
  rcases hc with rfl | rfl | rfl | rfl | rfl | rfl | rfl | rfl | rfl | rfl
  · exact w_c0
  · exact w_c1
  · exact w_c2
  · exact w_c3
  · exact w_c4
  · exact w_c5
  · exact w_c6
  · exact w_c7
  · exact w_c8
  · exact w_c9
set_option maxRecDepth 65536 in
theorem w_t1 : (words1.take 24).all (fun c => isCode c || c.before args0 about1) = true := by decide +kernel
set_option maxRecDepth 65536 in
theorem w_t2 : ((words1.drop 24).take 24).all (fun c => isCode c || c.before args0 about1) = true := by decide +kernel
set_option maxRecDepth 65536 in
theorem w_t3 : ((words1.drop 24).drop 24).all (fun c => isCode c || c.before args0 about1) = true := by decide +kernel
theorem w_tables : (allAtoms (Jvm.Cond.code x code maxLocals ret :: tables_1)).before args0 about1 = true := by
  rw [allAtoms_all]
  show words1.all (fun c => c.before args0 about1) = true
  refine all_split ?_ w_codes
  rw [← List.take_append_drop 24 words1, List.all_append, w_t1, ← List.take_append_drop 24 (words1.drop 24), List.all_append, w_t2, w_t3]
  rfl
set_option maxRecDepth 65536 in
theorem w_rest : rest_1_c.before args0 about1 = true := by decide +kernel
set_option maxRecDepth 65536 in
theorem w_case : (Jvm.Cond.and given_1 narrow_1).before args0 about1 = true := by decide +kernel
theorem w_applies : (headSpec (Jvm.Cond.code x code maxLocals ret :: tables_1) room_1).applies x e0.platform about1 = true :=
  (Spec.applies_iff w_frames).mpr ⟨w_running, w_runnable, w_alone, w_named, w_hears, w_ripe, w_room, w_tables⟩
theorem atStart : AtStart classFile x code maxLocals ret World_1 tables_1 room_1 Calls_1 rest_1 Pre_1 launch0 p0 e0 about1 theMethod args0 below0 :=
  ⟨lists_1, trivial, launch0.admits_env _ _ _, launch0.least_env, fairChoices_fair.cas, fairChoices_fair.clock, w_frames, w_args, w_heap, w_applies, trivial, w_rest, w_case⟩
end start1
theorem witness_1 : WitnessClaimed_1 := ⟨start1.p0, start1.e0, start1.about1, start1.theMethod, start1.args0, start1.below0, start1.atStart⟩
end Jvm.Pilot.@@N@@
