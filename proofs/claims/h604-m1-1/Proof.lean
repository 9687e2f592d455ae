import JvmDerived
import JvmDerived.Pilot.@@N@@Statement
import JvmDerived.Pilot.@@N@@Code
set_option linter.unusedVariables false
set_option linter.unusedSimpArgs false
namespace Jvm.RoadKit
open Sem ClassFile Op Lib Jvm.Stand Jvm.Free Jvm.LawKit
section New
variable {p : Program} {l : Launch} {e : Env} {R : Room} {s : State} {m : MethodId} {args : Array Value} {below : List Frame} {meth : Method} {c : Code} {T : State} {locs : List Loc} {cells slots : Nat}
theorem retI (X : Stand p l e R s m args below meth c T locs cells slots) (hx : p.tables.exec = Jvm.exec) {pc : Nat} {Ls : Array Slot} {z : Int32} {rest : List Value} (hret : meth.sig.returnType = some .int) (hd : decode c.code pc = .ok (.ireturn, 1)) {fs : List Frame}
    (hl : ∀ (f : JFrame) (acts : List Action), f.method = m → f.locked = none → f.entered = [] → (doReturn e (T.setTop f) acts (some (.int z))).1 = T.setFrames fs) : Steps p.tables e below (T.setTop (mkF m pc Ls (.int z :: rest))) (T.setFrames fs) := by
  have hm' : T.vm.method? m = some meth := X.method'
  have hn : narrow .int (.int z) = .int z := rfl
  show Steps p.tables e below (T.setTop { method := m, pc := pc, locals := Ls, stack := _ :: rest, locked := none }) _
  jvm_step X.here [X.here.top, hx, hd, hm', hret, hn]
  first | (intro acts; rw [hl _ acts rfl rfl rfl]) | rw [hl _ _ rfl rfl rfl]
  exact Steps.refl _
end New
/-! the walk in continuation form: from the state T at the frame f the run ends by a return, as Q says -/
section Own
variable {p : Program} {l : Launch} {e : Env} {R : Room} {s : State} {m : MethodId} {args : Array Value} {below : List Frame} {meth : Method} {c : Code} {T T' : State} {locs : List Loc} {cells slots k n : Nat} {Q : Option Value → Heap → List Loc → Prop} {f f' : JFrame}
def ownE (p : Program) (e : Env) (below : List Frame) (s : State) (Q : Option Value → Heap → List Loc → Prop) (k n : Nat) (T : State) (f : JFrame) : Prop :=
  ∃ s₂ o, Steps p.tables e below (T.setTop f) s₂ ∧ s₂.status = .running ∧ Ended s₂ below o ∧ ∃ v L, o = .returned v ∧ Q v s₂.heap L ∧ FrameEnd s o s₂ L k n
theorem ownE.go (g : ∀ t, Steps p.tables e below (T'.setTop f') t → Steps p.tables e below (T.setTop f) t) (h : ownE p e below s Q k n T' f') : ownE p e below s Q k n T f := by
  obtain ⟨s₂, o, h1, r⟩ := h
  exact ⟨s₂, o, g _ h1, r⟩
theorem ownE.goS (g : Steps p.tables e below (T.setTop f) (T'.setTop f')) (h : ownE p e below s Q k n T' f') : ownE p e below s Q k n T f := by
  obtain ⟨s₂, o, h1, r⟩ := h
  exact ⟨s₂, o, g.trans h1, r⟩
theorem ownE.ret (X : Stand p l e R s m args below meth c T locs cells slots) {v : Option Value} (hlk : meth.locks = false) (hv : meth.sig.returnType = none → v = none)
    (st : ∀ fs, (∀ (f : JFrame) (acts : List Action), f.method = m → f.locked = none → f.entered = [] → (doReturn e (T.setTop f) acts v).1 = T.setFrames fs) → Steps p.tables e below (T.setTop f) (T.setFrames fs))
    (hQ : Q v T.heap locs) (hk : cells ≤ k) (hn : slots ≤ n) : ownE p e below s Q k n T f := by
  obtain ⟨fs, hr, hrun, hended, hW, hsame⟩ := X.leave (v := v) hv hlk
  exact ⟨_, _, st fs hr, hrun, hended, _, _, rfl, hQ, ⟨_, rfl⟩, hW, hsame.mono hk hn⟩
theorem ownE.retI (X : Stand p l e R s m args below meth c T locs cells slots) (hx : p.tables.exec = Jvm.exec) (hlk : meth.locks = false) {pc : Nat} {Ls : Array Slot} {z : Int32} {rest : List Value} (hret : meth.sig.returnType = some .int) (hd : decode c.code pc = .ok (.ireturn, 1))
    (hQ : Q (some (.int z)) T.heap locs) (hk : cells ≤ k) (hn : slots ≤ n) : ownE p e below s Q k n T (mkF m pc Ls (.int z :: rest)) :=
  ownE.ret X hlk (fun h => by rw [hret] at h; cases h) (fun fs hr => Jvm.RoadKit.retI X hx hret hd hr) hQ hk hn
theorem ownE.retN (X : Stand p l e R s m args below meth c T locs cells slots) (hx : p.tables.exec = Jvm.exec) (hlk : meth.locks = false) {pc : Nat} {Ls : Array Slot} {z : Int32} {rest : List Value} {t : FieldType} (hret : meth.sig.returnType = some t) (ht : t = .boolean ∨ t = .byte ∨ t = .char ∨ t = .short) (hd : decode c.code pc = .ok (.ireturn, 1))
    (hQ : Q (some (.int (nar t z))) T.heap locs) (hk : cells ≤ k) (hn : slots ≤ n) : ownE p e below s Q k n T (mkF m pc Ls (.int z :: rest)) :=
  ownE.ret X hlk (fun h => by rw [hret] at h; cases h) (fun fs hr => Jvm.RoadKit.retN X hx hret ht hd hr) hQ hk hn
theorem ownE.retL (X : Stand p l e R s m args below meth c T locs cells slots) (hx : p.tables.exec = Jvm.exec) (hlk : meth.locks = false) {pc : Nat} {Ls : Array Slot} {z : Int64} {rest : List Value} (hret : meth.sig.returnType = some .long) (hd : decode c.code pc = .ok (.lreturn, 1))
    (hQ : Q (some (.long z)) T.heap locs) (hk : cells ≤ k) (hn : slots ≤ n) : ownE p e below s Q k n T (mkF m pc Ls (.long z :: rest)) :=
  ownE.ret X hlk (fun h => by rw [hret] at h; cases h) (fun fs hr => Jvm.RoadKit.retOut X hx hret rfl (Or.inr (Or.inl ⟨rfl, rfl, z, rfl⟩)) hd hr) hQ hk hn
theorem ownE.retA (X : Stand p l e R s m args below meth c T locs cells slots) (hx : p.tables.exec = Jvm.exec) (hlk : meth.locks = false) {pc : Nat} {Ls : Array Slot} {z : Value} {rest : List Value} {t : FieldType} (hret : meth.sig.returnType = some t) (ht : t.isReference = true) (hz : z.isRef = true) (hn' : narrow t z = z) (hd : decode c.code pc = .ok (.areturn, 1))
    (hQ : Q (some z) T.heap locs) (hk : cells ≤ k) (hn : slots ≤ n) : ownE p e below s Q k n T (mkF m pc Ls (z :: rest)) :=
  ownE.ret X hlk (fun h => by rw [hret] at h; cases h) (fun fs hr => Jvm.RoadKit.retOut X hx hret hn' (Or.inr (Or.inr (Or.inr (Or.inr ⟨rfl, ht, hz⟩)))) hd hr) hQ hk hn
theorem ownE.retV (X : Stand p l e R s m args below meth c T locs cells slots) (hx : p.tables.exec = Jvm.exec) (hlk : meth.locks = false) {pc : Nat} {Ls : Array Slot} (hret : meth.sig.returnType = none) (hd : decode c.code pc = .ok (.return_, 1))
    (hQ : Q none T.heap locs) (hk : cells ≤ k) (hn : slots ≤ n) : ownE p e below s Q k n T (mkF m pc Ls []) :=
  ownE.ret X hlk (fun _ => rfl) (fun fs hr => X.returnOut hx hret hd hr) hQ hk hn
end Own
theorem own_eqV {u : Term} {args : Array Value} {Z : State} {x k : Int32} (e : u.eval args Z none [] Z = some (.int x)) : (Jvm.Cond.eq u (.int k)).value args Z none Z [] = some (decide (x = k)) := by
  have ek : (Term.int k).eval args Z none [] Z = some (.int k) := Term.int_eval k
  simp only [Cond.value]
  rw [e, ek]
theorem own_selP {s : State} {args : Array Value} {y : MethodName} {n : Nat} (wi : (Cond.instantiable y.cls n).before args s = true) (hi : (Cond.instanceMethod y).before args s = true) (hp : s.PrivateAt y) (hy : y.cls ≠ "java/lang/invoke/MethodHandle" ∧ y.cls ≠ "java/lang/invoke/VarHandle") : (Cond.selects y.cls y y).before args s = true := by
  obtain ⟨c, k, h1, h2, -, h4, -⟩ := Cond.instantiable_spec wi
  exact selects_self_of_private h1 h2 (by simp at h4; exact h4.1) hp hi hy
end Jvm.RoadKit
namespace Jvm.Pilot.@@N@@
open Jvm Jvm.ClassFile Sem Op Lib Jvm.Free Jvm.Stand Jvm.LawKit Jvm.RoadKit Bundle Jvm.Pilot.@@N@@.Jvm.D
theorem own_d3_0 : decode method_3_code 0 = .ok (.iload_n 0, 1) := by decide +kernel
theorem own_d3_1 : decode method_3_code 1 = .ok (.sipush 192, 3) := by decide +kernel
theorem own_d3_4 : decode method_3_code 4 = .ok (.iand, 1) := by decide +kernel
theorem own_d3_5 : decode method_3_code 5 = .ok (.sipush 128, 3) := by decide +kernel
theorem own_d3_8 : decode method_3_code 8 = .ok (.if_icmp .ne 7, 3) := by decide +kernel
theorem own_d3_11 : decode method_3_code 11 = .ok (.iconst 1, 1) := by decide +kernel
theorem own_d3_12 : decode method_3_code 12 = .ok (.goto 4, 3) := by decide +kernel
theorem own_d3_15 : decode method_3_code 15 = .ok (.iconst 0, 1) := by decide +kernel
theorem own_d3_16 : decode method_3_code 16 = .ok (.ireturn, 1) := by decide +kernel
theorem own_pn0 : plainName "traceward/schema/Utf8CodePointPinLaw" = true := by first | (simp [plainName, overriddenIn]; done) | decide +kernel
theorem own_ef3 (m : MethodId) (x0 : Int32) : entryFrame m #[(.int x0)] 1 = mkF m 0 #[.val (.int x0)] [] := by first | (simp [entryFrame, mkF, argsToLocals, Value.category]; done) | rfl
def own_cont (i0 : Int32) : Int32 :=
  if (i0 &&& (192 : Int32)) = (128 : Int32) then
    (1 : Int32)
  else
    (0 : Int32)
def own_Q3 (Z : State) (i0 : Int32) (h0 : Heap) (n0 : Nat) (v : Option Value) (h : Heap) (L : List Loc) : Prop := v = some (.int (own_cont i0)) ∧ Fr n0 L ∧ h = h0
set_option maxRecDepth 65536 in
set_option maxHeartbeats 40000000 in
theorem own_rm3 (l : Launch) (Z : State) (a0 : Array Value) (hw : ∀ d ∈ tables_1, d.before a0 Z = true) (ws : List Jvm.Cond) (i0 : Int32) (h0 : Heap) (n0 : Nat) (Z0 : n0 ≤ h0.size) :
    MetFree l (⟨"traceward/schema/Utf8CodePointPinLaw", "cont", "(I)Z"⟩ : MethodName) (head1 (Jvm.Cond.code (⟨"traceward/schema/Utf8CodePointPinLaw", "cont", "(I)Z"⟩ : MethodName) method_3_code 1 (some .boolean) :: ws) ({ frames := 0, cells := 0, slots := 0, locals := 0 } : Room)) (fun a U => a = #[(.int i0)] ∧ Z.Warmed39 U.vm ∧ U.heap = h0) (fun _ _ _ _ _ => True) (fun _ U o U' => ∃ v L, o = .returned v ∧ own_Q3 Z i0 h0 n0 v U'.heap L ∧ FrameEnd U o U' L ({ frames := 0, cells := 0, slots := 0, locals := 0 } : Room).cells ({ frames := 0, cells := 0, slots := 0, locals := 0 } : Room).slots) := by
  refine MetFree.of_bodySF (plainFor_of_name own_pn0) hisR ?_
  intro p e s m args below meth c s₁ Bd hml0 hP hK
  obtain ⟨rfl, hZ, hh⟩ := hP
  have hx := Bd.exec
  have hby := Bd.bytes
  have hret := Bd.returns
  have hlk := BodyLoose.notSynchronized Bd
  have hml : c.maxLocals = 1 := hml0
  have hown : s.vm.findClass "traceward/schema/Utf8CodePointPinLaw" = some m.cls := findClass_of_methodNamed Bd.named
  have hnm := (name_of_methodNamed Bd.named Bd.method).1
  have X0 : Stand p l e ({ frames := 0, cells := 0, slots := 0, locals := 0 } : Room) s m #[(.int i0)] below meth c s₁ [] 0 0 := Stand.of_body Bd
  have e0 : s₁.heap = h0 := by rw [← hh, Bd.state]; rfl
  have N0 := Fr.nil n0
  have K0 : Keep h0 h0 [] := Keep.refl h0 _
  show ownE p e below s (own_Q3 Z i0 h0 n0) ({ frames := 0, cells := 0, slots := 0, locals := 0 } : Room).cells ({ frames := 0, cells := 0, slots := 0, locals := 0 } : Room).slots s₁ (entryFrame m #[(.int i0)] 1)
  rw [own_ef3]
  refine ownE.go (T' := s₁) (f' := (mkF m 8 #[.val (.int i0)] [(.int (128 : Int32)), (.int (i0 &&& (192 : Int32)))])) (fun t kt => ?_) ?_
  · show Steps p.tables e below (s₁.setTop (mkF m 0 #[.val (.int i0)] [])) _
    refine XS.iloadN X0.here hx rfl (hb hby own_d3_0) rfl ?_
    show Steps p.tables e below (s₁.setTop (mkF m 1 #[.val (.int i0)] [(.int i0)])) _
    refine XS.sipush X0.here hx rfl (hb hby own_d3_1) ?_
    show Steps p.tables e below (s₁.setTop (mkF m 4 #[.val (.int i0)] [(.int (192 : Int32)), (.int i0)])) _
    refine XS.iand X0.here hx rfl (hb hby own_d3_4) rfl ?_
    show Steps p.tables e below (s₁.setTop (mkF m 5 #[.val (.int i0)] [(.int (i0 &&& (192 : Int32)))])) _
    refine XS.sipush X0.here hx rfl (hb hby own_d3_5) ?_
    exact kt
  by_cases hc1 : (i0 &&& (192 : Int32)) = (128 : Int32)
  · -- pc 8
    refine ownE.go (T' := s₁) (f' := (mkF m 11 #[.val (.int i0)] [])) (fun t kt => XS.icmpNo (g := (mkF m 8 #[.val (.int i0)] [(.int (128 : Int32)), (.int (i0 &&& (192 : Int32)))])) X0.here hx rfl (hb hby own_d3_8) rfl (Jvm.Free.XT.ii_ne_f hc1) kt) ?_
    refine ownE.go (T' := s₁) (f' := (mkF m 16 #[.val (.int i0)] [(.int (1 : Int32))])) (fun t kt => ?_) ?_
    · show Steps p.tables e below (s₁.setTop (mkF m 11 #[.val (.int i0)] [])) _
      refine XS.iconst X0.here hx rfl (hb hby own_d3_11) ?_
      show Steps p.tables e below (s₁.setTop (mkF m 12 #[.val (.int i0)] [(.int (1 : Int32))])) _
      refine XS.goto X0.here hx rfl (pc0 := 12) (pc' := 16) rfl (hb hby own_d3_12) (by decide) (by decide) ?_
      exact kt
    refine ownE.retN X0 hx hlk (t := .boolean) hret (by simp) (hb hby own_d3_16) ?_ (by decide) (by decide)
    show own_Q3 Z i0 h0 n0 _ s₁.heap _
    rw [e0]
    exact ⟨(by rw [own_cont, if_pos hc1] <;> first | rfl | decide), N0, rfl⟩
  · -- pc 8
    refine ownE.go (T' := s₁) (f' := (mkF m 15 #[.val (.int i0)] [])) (fun t kt => XS.icmpYes (g := (mkF m 8 #[.val (.int i0)] [(.int (128 : Int32)), (.int (i0 &&& (192 : Int32)))])) X0.here hx rfl (pc0 := 8) (pc' := 15) rfl (hb hby own_d3_8) rfl (Jvm.Free.XT.ii_ne_t hc1) (by decide) (by decide) kt) ?_
    refine ownE.go (T' := s₁) (f' := (mkF m 16 #[.val (.int i0)] [(.int (0 : Int32))])) (fun t kt => ?_) ?_
    · show Steps p.tables e below (s₁.setTop (mkF m 15 #[.val (.int i0)] [])) _
      refine XS.iconst X0.here hx rfl (hb hby own_d3_15) ?_
      exact kt
    refine ownE.retN X0 hx hlk (t := .boolean) hret (by simp) (hb hby own_d3_16) ?_ (by decide) (by decide)
    show own_Q3 Z i0 h0 n0 _ s₁.heap _
    rw [e0]
    exact ⟨(by rw [own_cont, if_neg hc1] <;> first | rfl | decide), N0, rfl⟩
def own_v2_40 (i0 : Int32) (i1 : Int32) (i2 : Int32) (i3 : Int32) (i4 : Int32) : Int32 := (((i0 &&& (31 : Int32)) <<< ((6 : Int32) &&& 31)) ||| (i1 &&& (63 : Int32)))
def own_v2_84 (i0 : Int32) (i1 : Int32) (i2 : Int32) (i3 : Int32) (i4 : Int32) : Int32 := ((((i0 &&& (15 : Int32)) <<< ((12 : Int32) &&& 31)) ||| ((i1 &&& (63 : Int32)) <<< ((6 : Int32) &&& 31))) ||| (i2 &&& (63 : Int32)))
def own_v2_135 (i0 : Int32) (i1 : Int32) (i2 : Int32) (i3 : Int32) (i4 : Int32) : Int32 := (((((i0 &&& (7 : Int32)) <<< ((18 : Int32) &&& 31)) ||| ((i1 &&& (63 : Int32)) <<< ((12 : Int32) &&& 31))) ||| ((i2 &&& (63 : Int32)) <<< ((6 : Int32) &&& 31))) ||| (i3 &&& (63 : Int32)))
def own_j2_142_L5 (i0 : Int32) (i1 : Int32) (i2 : Int32) (i3 : Int32) (i4 : Int32) : Int32 :=
  if (i0 &&& (224 : Int32)) = (192 : Int32) then
    (2 : Int32)
  else
    if (i0 &&& (240 : Int32)) = (224 : Int32) then
      (3 : Int32)
    else
      if (i0 &&& (248 : Int32)) = (240 : Int32) then
        (4 : Int32)
      else
        (2 : Int32)
def own_j2_142_L6 (i0 : Int32) (i1 : Int32) (i2 : Int32) (i3 : Int32) (i4 : Int32) : Int32 :=
  if (i0 &&& (224 : Int32)) = (192 : Int32) then
    (own_v2_40 i0 i1 i2 i3 i4)
  else
    if (i0 &&& (240 : Int32)) = (224 : Int32) then
      (own_v2_84 i0 i1 i2 i3 i4)
    else
      if (i0 &&& (248 : Int32)) = (240 : Int32) then
        (own_v2_135 i0 i1 i2 i3 i4)
      else
        (own_v2_40 i0 i1 i2 i3 i4)
def own_j2_142_L7 (i0 : Int32) (i1 : Int32) (i2 : Int32) (i3 : Int32) (i4 : Int32) : Int32 :=
  if (i0 &&& (224 : Int32)) = (192 : Int32) then
    (128 : Int32)
  else
    if (i0 &&& (240 : Int32)) = (224 : Int32) then
      (2048 : Int32)
    else
      if (i0 &&& (248 : Int32)) = (240 : Int32) then
        (65536 : Int32)
      else
        (128 : Int32)
theorem own_pd1 : parseMethodDescriptor "(I)Z" = some ⟨[.int], some .boolean⟩ := by decide +kernel
def own_r2_190 (i0 : Int32) (i1 : Int32) (i2 : Int32) (i3 : Int32) (i4 : Int32) : Int32 :=
  if (own_j2_142_L6 i0 i1 i2 i3 i4) < (own_j2_142_L7 i0 i1 i2 i3 i4) then
    (-1 : Int32)
  else
    if (1114111 : Int32) < (own_j2_142_L6 i0 i1 i2 i3 i4) then
      (-1 : Int32)
    else
      if (own_j2_142_L6 i0 i1 i2 i3 i4) < (55296 : Int32) then
        (own_j2_142_L6 i0 i1 i2 i3 i4)
      else
        if (57343 : Int32) < (own_j2_142_L6 i0 i1 i2 i3 i4) then
          (own_j2_142_L6 i0 i1 i2 i3 i4)
        else
          (-1 : Int32)
def own_r2_175 (i0 : Int32) (i1 : Int32) (i2 : Int32) (i3 : Int32) (i4 : Int32) : Int32 :=
  if (own_j2_142_L5 i0 i1 i2 i3 i4) = (4 : Int32) then
    if (own_cont i3) = (0 : Int32) then
      (-1 : Int32)
    else
      (own_r2_190 i0 i1 i2 i3 i4)
  else
    (own_r2_190 i0 i1 i2 i3 i4)
def own_r2_142 (i0 : Int32) (i1 : Int32) (i2 : Int32) (i3 : Int32) (i4 : Int32) : Int32 :=
  if i4 < (own_j2_142_L5 i0 i1 i2 i3 i4) then
    (-1 : Int32)
  else
    if (own_cont i1) = (0 : Int32) then
      (-1 : Int32)
    else
      if (own_j2_142_L5 i0 i1 i2 i3 i4) < (3 : Int32) then
        (own_r2_175 i0 i1 i2 i3 i4)
      else
        if (own_cont i2) = (0 : Int32) then
          (-1 : Int32)
        else
          (own_r2_175 i0 i1 i2 i3 i4)
theorem own_d2_0 : decode method_4_code 0 = .ok (.iload_n 0, 1) := by decide +kernel
theorem own_d2_1 : decode method_4_code 1 = .ok (.sipush 128, 3) := by decide +kernel
theorem own_d2_4 : decode method_4_code 4 = .ok (.if_icmp .ge 5, 3) := by decide +kernel
theorem own_d2_7 : decode method_4_code 7 = .ok (.iload_n 0, 1) := by decide +kernel
theorem own_d2_8 : decode method_4_code 8 = .ok (.ireturn, 1) := by decide +kernel
theorem own_d2_9 : decode method_4_code 9 = .ok (.iload_n 0, 1) := by decide +kernel
theorem own_d2_10 : decode method_4_code 10 = .ok (.sipush 224, 3) := by decide +kernel
theorem own_d2_13 : decode method_4_code 13 = .ok (.iand, 1) := by decide +kernel
theorem own_d2_14 : decode method_4_code 14 = .ok (.sipush 192, 3) := by decide +kernel
theorem own_d2_17 : decode method_4_code 17 = .ok (.if_icmp .ne 28, 3) := by decide +kernel
theorem own_d2_20 : decode method_4_code 20 = .ok (.iconst 2, 1) := by decide +kernel
theorem own_d2_21 : decode method_4_code 21 = .ok (.istore 5, 2) := by decide +kernel
theorem own_d2_23 : decode method_4_code 23 = .ok (.sipush 128, 3) := by decide +kernel
theorem own_d2_26 : decode method_4_code 26 = .ok (.istore 7, 2) := by decide +kernel
theorem own_d2_28 : decode method_4_code 28 = .ok (.iload_n 0, 1) := by decide +kernel
theorem own_d2_29 : decode method_4_code 29 = .ok (.bipush 31, 2) := by decide +kernel
theorem own_d2_31 : decode method_4_code 31 = .ok (.iand, 1) := by decide +kernel
theorem own_d2_32 : decode method_4_code 32 = .ok (.bipush 6, 2) := by decide +kernel
theorem own_d2_34 : decode method_4_code 34 = .ok (.ishl, 1) := by decide +kernel
theorem own_d2_35 : decode method_4_code 35 = .ok (.iload_n 1, 1) := by decide +kernel
theorem own_d2_36 : decode method_4_code 36 = .ok (.bipush 63, 2) := by decide +kernel
theorem own_d2_38 : decode method_4_code 38 = .ok (.iand, 1) := by decide +kernel
theorem own_d2_39 : decode method_4_code 39 = .ok (.ior, 1) := by decide +kernel
theorem own_d2_40 : decode method_4_code 40 = .ok (.istore 6, 2) := by decide +kernel
theorem own_d2_42 : decode method_4_code 42 = .ok (.goto 100, 3) := by decide +kernel
theorem own_d2_45 : decode method_4_code 45 = .ok (.iload_n 0, 1) := by decide +kernel
theorem own_d2_46 : decode method_4_code 46 = .ok (.sipush 240, 3) := by decide +kernel
theorem own_d2_49 : decode method_4_code 49 = .ok (.iand, 1) := by decide +kernel
theorem own_d2_50 : decode method_4_code 50 = .ok (.sipush 224, 3) := by decide +kernel
theorem own_d2_53 : decode method_4_code 53 = .ok (.if_icmp .ne 36, 3) := by decide +kernel
theorem own_d2_56 : decode method_4_code 56 = .ok (.iconst 3, 1) := by decide +kernel
theorem own_d2_57 : decode method_4_code 57 = .ok (.istore 5, 2) := by decide +kernel
theorem own_d2_59 : decode method_4_code 59 = .ok (.sipush 2048, 3) := by decide +kernel
theorem own_d2_62 : decode method_4_code 62 = .ok (.istore 7, 2) := by decide +kernel
theorem own_d2_64 : decode method_4_code 64 = .ok (.iload_n 0, 1) := by decide +kernel
theorem own_d2_65 : decode method_4_code 65 = .ok (.bipush 15, 2) := by decide +kernel
theorem own_d2_67 : decode method_4_code 67 = .ok (.iand, 1) := by decide +kernel
theorem own_d2_68 : decode method_4_code 68 = .ok (.bipush 12, 2) := by decide +kernel
theorem own_d2_70 : decode method_4_code 70 = .ok (.ishl, 1) := by decide +kernel
theorem own_d2_71 : decode method_4_code 71 = .ok (.iload_n 1, 1) := by decide +kernel
theorem own_d2_72 : decode method_4_code 72 = .ok (.bipush 63, 2) := by decide +kernel
theorem own_d2_74 : decode method_4_code 74 = .ok (.iand, 1) := by decide +kernel
theorem own_d2_75 : decode method_4_code 75 = .ok (.bipush 6, 2) := by decide +kernel
theorem own_d2_77 : decode method_4_code 77 = .ok (.ishl, 1) := by decide +kernel
theorem own_d2_78 : decode method_4_code 78 = .ok (.ior, 1) := by decide +kernel
theorem own_d2_79 : decode method_4_code 79 = .ok (.iload_n 2, 1) := by decide +kernel
theorem own_d2_80 : decode method_4_code 80 = .ok (.bipush 63, 2) := by decide +kernel
theorem own_d2_82 : decode method_4_code 82 = .ok (.iand, 1) := by decide +kernel
theorem own_d2_83 : decode method_4_code 83 = .ok (.ior, 1) := by decide +kernel
theorem own_d2_84 : decode method_4_code 84 = .ok (.istore 6, 2) := by decide +kernel
theorem own_d2_86 : decode method_4_code 86 = .ok (.goto 56, 3) := by decide +kernel
theorem own_d2_89 : decode method_4_code 89 = .ok (.iload_n 0, 1) := by decide +kernel
theorem own_d2_90 : decode method_4_code 90 = .ok (.sipush 248, 3) := by decide +kernel
theorem own_d2_93 : decode method_4_code 93 = .ok (.iand, 1) := by decide +kernel
theorem own_d2_94 : decode method_4_code 94 = .ok (.sipush 240, 3) := by decide +kernel
theorem own_d2_97 : decode method_4_code 97 = .ok (.if_icmp .ne 43, 3) := by decide +kernel
theorem own_d2_100 : decode method_4_code 100 = .ok (.iconst 4, 1) := by decide +kernel
theorem own_d2_101 : decode method_4_code 101 = .ok (.istore 5, 2) := by decide +kernel
theorem own_d2_103 : decode method_4_code 103 = .ok (.ldc 19, 2) := by decide +kernel
theorem own_d2_105 : decode method_4_code 105 = .ok (.istore 7, 2) := by decide +kernel
theorem own_d2_107 : decode method_4_code 107 = .ok (.iload_n 0, 1) := by decide +kernel
theorem own_d2_108 : decode method_4_code 108 = .ok (.bipush 7, 2) := by decide +kernel
theorem own_d2_110 : decode method_4_code 110 = .ok (.iand, 1) := by decide +kernel
theorem own_d2_111 : decode method_4_code 111 = .ok (.bipush 18, 2) := by decide +kernel
theorem own_d2_113 : decode method_4_code 113 = .ok (.ishl, 1) := by decide +kernel
theorem own_d2_114 : decode method_4_code 114 = .ok (.iload_n 1, 1) := by decide +kernel
theorem own_d2_115 : decode method_4_code 115 = .ok (.bipush 63, 2) := by decide +kernel
theorem own_d2_117 : decode method_4_code 117 = .ok (.iand, 1) := by decide +kernel
theorem own_d2_118 : decode method_4_code 118 = .ok (.bipush 12, 2) := by decide +kernel
theorem own_d2_120 : decode method_4_code 120 = .ok (.ishl, 1) := by decide +kernel
theorem own_d2_121 : decode method_4_code 121 = .ok (.ior, 1) := by decide +kernel
theorem own_d2_122 : decode method_4_code 122 = .ok (.iload_n 2, 1) := by decide +kernel
theorem own_d2_123 : decode method_4_code 123 = .ok (.bipush 63, 2) := by decide +kernel
theorem own_d2_125 : decode method_4_code 125 = .ok (.iand, 1) := by decide +kernel
theorem own_d2_126 : decode method_4_code 126 = .ok (.bipush 6, 2) := by decide +kernel
theorem own_d2_128 : decode method_4_code 128 = .ok (.ishl, 1) := by decide +kernel
theorem own_d2_129 : decode method_4_code 129 = .ok (.ior, 1) := by decide +kernel
theorem own_d2_130 : decode method_4_code 130 = .ok (.iload_n 3, 1) := by decide +kernel
theorem own_d2_131 : decode method_4_code 131 = .ok (.bipush 63, 2) := by decide +kernel
theorem own_d2_133 : decode method_4_code 133 = .ok (.iand, 1) := by decide +kernel
theorem own_d2_134 : decode method_4_code 134 = .ok (.ior, 1) := by decide +kernel
theorem own_d2_135 : decode method_4_code 135 = .ok (.istore 6, 2) := by decide +kernel
theorem own_d2_137 : decode method_4_code 137 = .ok (.goto 5, 3) := by decide +kernel
theorem own_d2_140 : decode method_4_code 140 = .ok (.iconst (-1), 1) := by decide +kernel
theorem own_d2_141 : decode method_4_code 141 = .ok (.ireturn, 1) := by decide +kernel
theorem own_d2_142 : decode method_4_code 142 = .ok (.iload 4, 2) := by decide +kernel
theorem own_d2_144 : decode method_4_code 144 = .ok (.iload 5, 2) := by decide +kernel
theorem own_d2_146 : decode method_4_code 146 = .ok (.if_icmp .ge 5, 3) := by decide +kernel
theorem own_d2_149 : decode method_4_code 149 = .ok (.iconst (-1), 1) := by decide +kernel
theorem own_d2_150 : decode method_4_code 150 = .ok (.ireturn, 1) := by decide +kernel
theorem own_d2_151 : decode method_4_code 151 = .ok (.iload_n 1, 1) := by decide +kernel
theorem own_d2_152 : decode method_4_code 152 = .ok (.invokestatic 20, 3) := by decide +kernel
theorem own_d2_155 : decode method_4_code 155 = .ok (.ifCond .ne 5, 3) := by decide +kernel
theorem own_d2_158 : decode method_4_code 158 = .ok (.iconst (-1), 1) := by decide +kernel
theorem own_d2_159 : decode method_4_code 159 = .ok (.ireturn, 1) := by decide +kernel
theorem own_d2_160 : decode method_4_code 160 = .ok (.iload 5, 2) := by decide +kernel
theorem own_d2_162 : decode method_4_code 162 = .ok (.iconst 3, 1) := by decide +kernel
theorem own_d2_163 : decode method_4_code 163 = .ok (.if_icmp .lt 12, 3) := by decide +kernel
theorem own_d2_166 : decode method_4_code 166 = .ok (.iload_n 2, 1) := by decide +kernel
theorem own_d2_167 : decode method_4_code 167 = .ok (.invokestatic 20, 3) := by decide +kernel
theorem own_d2_170 : decode method_4_code 170 = .ok (.ifCond .ne 5, 3) := by decide +kernel
theorem own_d2_173 : decode method_4_code 173 = .ok (.iconst (-1), 1) := by decide +kernel
theorem own_d2_174 : decode method_4_code 174 = .ok (.ireturn, 1) := by decide +kernel
theorem own_d2_175 : decode method_4_code 175 = .ok (.iload 5, 2) := by decide +kernel
theorem own_d2_177 : decode method_4_code 177 = .ok (.iconst 4, 1) := by decide +kernel
theorem own_d2_178 : decode method_4_code 178 = .ok (.if_icmp .ne 12, 3) := by decide +kernel
theorem own_d2_181 : decode method_4_code 181 = .ok (.iload_n 3, 1) := by decide +kernel
theorem own_d2_182 : decode method_4_code 182 = .ok (.invokestatic 20, 3) := by decide +kernel
theorem own_d2_185 : decode method_4_code 185 = .ok (.ifCond .ne 5, 3) := by decide +kernel
theorem own_d2_188 : decode method_4_code 188 = .ok (.iconst (-1), 1) := by decide +kernel
theorem own_d2_189 : decode method_4_code 189 = .ok (.ireturn, 1) := by decide +kernel
theorem own_d2_190 : decode method_4_code 190 = .ok (.iload 6, 2) := by decide +kernel
theorem own_d2_192 : decode method_4_code 192 = .ok (.iload 7, 2) := by decide +kernel
theorem own_d2_194 : decode method_4_code 194 = .ok (.if_icmp .ge 5, 3) := by decide +kernel
theorem own_d2_197 : decode method_4_code 197 = .ok (.iconst (-1), 1) := by decide +kernel
theorem own_d2_198 : decode method_4_code 198 = .ok (.ireturn, 1) := by decide +kernel
theorem own_d2_199 : decode method_4_code 199 = .ok (.iload 6, 2) := by decide +kernel
theorem own_d2_201 : decode method_4_code 201 = .ok (.ldc 24, 2) := by decide +kernel
theorem own_d2_203 : decode method_4_code 203 = .ok (.if_icmp .le 5, 3) := by decide +kernel
theorem own_d2_206 : decode method_4_code 206 = .ok (.iconst (-1), 1) := by decide +kernel
theorem own_d2_207 : decode method_4_code 207 = .ok (.ireturn, 1) := by decide +kernel
theorem own_d2_208 : decode method_4_code 208 = .ok (.iload 6, 2) := by decide +kernel
theorem own_d2_210 : decode method_4_code 210 = .ok (.ldc 25, 2) := by decide +kernel
theorem own_d2_212 : decode method_4_code 212 = .ok (.if_icmp .lt 12, 3) := by decide +kernel
theorem own_d2_215 : decode method_4_code 215 = .ok (.iload 6, 2) := by decide +kernel
theorem own_d2_217 : decode method_4_code 217 = .ok (.ldc 26, 2) := by decide +kernel
theorem own_d2_219 : decode method_4_code 219 = .ok (.if_icmp .gt 5, 3) := by decide +kernel
theorem own_d2_222 : decode method_4_code 222 = .ok (.iconst (-1), 1) := by decide +kernel
theorem own_d2_223 : decode method_4_code 223 = .ok (.ireturn, 1) := by decide +kernel
theorem own_d2_224 : decode method_4_code 224 = .ok (.iload 6, 2) := by decide +kernel
theorem own_d2_226 : decode method_4_code 226 = .ok (.ireturn, 1) := by decide +kernel
theorem own_ef2 (m : MethodId) (x0 : Int32) (x1 : Int32) (x2 : Int32) (x3 : Int32) (x4 : Int32) : entryFrame m #[(.int x0), (.int x1), (.int x2), (.int x3), (.int x4)] 8 = mkF m 0 #[.val (.int x0), .val (.int x1), .val (.int x2), .val (.int x3), .val (.int x4), .unset, .unset, .unset] [] := by first | (simp [entryFrame, mkF, argsToLocals, Value.category]; done) | rfl
def own_exp (i0 : Int32) (i1 : Int32) (i2 : Int32) (i3 : Int32) (i4 : Int32) : Int32 :=
  if i0 < (128 : Int32) then
    i0
  else
    if (i0 &&& (224 : Int32)) = (192 : Int32) then
      (own_r2_142 i0 i1 i2 i3 i4)
    else
      if (i0 &&& (240 : Int32)) = (224 : Int32) then
        (own_r2_142 i0 i1 i2 i3 i4)
      else
        if (i0 &&& (248 : Int32)) = (240 : Int32) then
          (own_r2_142 i0 i1 i2 i3 i4)
        else
          (-1 : Int32)
def own_Q2 (Z : State) (i0 : Int32) (i1 : Int32) (i2 : Int32) (i3 : Int32) (i4 : Int32) (h0 : Heap) (n0 : Nat) (v : Option Value) (h : Heap) (L : List Loc) : Prop := v = some (.int (own_exp i0 i1 i2 i3 i4)) ∧ Fr n0 L ∧ h = h0
set_option maxRecDepth 65536 in
set_option maxHeartbeats 40000000 in
theorem own_rm2 (l : Launch) (Z : State) (a0 : Array Value) (hw : ∀ d ∈ tables_1, d.before a0 Z = true) (ws : List Jvm.Cond) (i0 : Int32) (i1 : Int32) (i2 : Int32) (i3 : Int32) (i4 : Int32) (h0 : Heap) (n0 : Nat) (Z0 : n0 ≤ h0.size) :
    MetFree l (⟨"traceward/schema/Utf8CodePointPinLaw", "expected", "(IIIII)I"⟩ : MethodName) (head1 (Jvm.Cond.code (⟨"traceward/schema/Utf8CodePointPinLaw", "expected", "(IIIII)I"⟩ : MethodName) method_4_code 8 (some .int) :: ws) ({ frames := 1, cells := 0, slots := 0, locals := 12 } : Room)) (fun a U => a = #[(.int i0), (.int i1), (.int i2), (.int i3), (.int i4)] ∧ Z.Warmed39 U.vm ∧ U.heap = h0) (fun _ _ _ _ _ => True) (fun _ U o U' => ∃ v L, o = .returned v ∧ own_Q2 Z i0 i1 i2 i3 i4 h0 n0 v U'.heap L ∧ FrameEnd U o U' L ({ frames := 1, cells := 0, slots := 0, locals := 12 } : Room).cells ({ frames := 1, cells := 0, slots := 0, locals := 12 } : Room).slots) := by
  refine MetFree.of_bodySF (plainFor_of_name own_pn0) hisR ?_
  intro p e s m args below meth c s₁ Bd hml0 hP hK
  obtain ⟨rfl, hZ, hh⟩ := hP
  have hx := Bd.exec
  have hby := Bd.bytes
  have hret := Bd.returns
  have hlk := BodyLoose.notSynchronized Bd
  have hml : c.maxLocals = 8 := hml0
  have hown : s.vm.findClass "traceward/schema/Utf8CodePointPinLaw" = some m.cls := findClass_of_methodNamed Bd.named
  have hnm := (name_of_methodNamed Bd.named Bd.method).1
  have X0 : Stand p l e ({ frames := 1, cells := 0, slots := 0, locals := 12 } : Room) s m #[(.int i0), (.int i1), (.int i2), (.int i3), (.int i4)] below meth c s₁ [] 0 0 := Stand.of_body Bd
  have e0 : s₁.heap = h0 := by rw [← hh, Bd.state]; rfl
  have N0 := Fr.nil n0
  have K0 : Keep h0 h0 [] := Keep.refl h0 _
  show ownE p e below s (own_Q2 Z i0 i1 i2 i3 i4 h0 n0) ({ frames := 1, cells := 0, slots := 0, locals := 12 } : Room).cells ({ frames := 1, cells := 0, slots := 0, locals := 12 } : Room).slots s₁ (entryFrame m #[(.int i0), (.int i1), (.int i2), (.int i3), (.int i4)] 8)
  rw [own_ef2]
  refine ownE.go (T' := s₁) (f' := (mkF m 4 #[.val (.int i0), .val (.int i1), .val (.int i2), .val (.int i3), .val (.int i4), .unset, .unset, .unset] [(.int (128 : Int32)), (.int i0)])) (fun t kt => ?_) ?_
  · show Steps p.tables e below (s₁.setTop (mkF m 0 #[.val (.int i0), .val (.int i1), .val (.int i2), .val (.int i3), .val (.int i4), .unset, .unset, .unset] [])) _
    refine XS.iloadN X0.here hx rfl (hb hby own_d2_0) rfl ?_
    show Steps p.tables e below (s₁.setTop (mkF m 1 #[.val (.int i0), .val (.int i1), .val (.int i2), .val (.int i3), .val (.int i4), .unset, .unset, .unset] [(.int i0)])) _
    refine XS.sipush X0.here hx rfl (hb hby own_d2_1) ?_
    exact kt
  by_cases hc1 : i0 < (128 : Int32)
  · -- pc 4
    refine ownE.go (T' := s₁) (f' := (mkF m 7 #[.val (.int i0), .val (.int i1), .val (.int i2), .val (.int i3), .val (.int i4), .unset, .unset, .unset] [])) (fun t kt => XS.icmpNo (g := (mkF m 4 #[.val (.int i0), .val (.int i1), .val (.int i2), .val (.int i3), .val (.int i4), .unset, .unset, .unset] [(.int (128 : Int32)), (.int i0)])) X0.here hx rfl (hb hby own_d2_4) rfl (Jvm.Free.XT.ii_ge_f hc1) kt) ?_
    refine ownE.go (T' := s₁) (f' := (mkF m 8 #[.val (.int i0), .val (.int i1), .val (.int i2), .val (.int i3), .val (.int i4), .unset, .unset, .unset] [(.int i0)])) (fun t kt => ?_) ?_
    · show Steps p.tables e below (s₁.setTop (mkF m 7 #[.val (.int i0), .val (.int i1), .val (.int i2), .val (.int i3), .val (.int i4), .unset, .unset, .unset] [])) _
      refine XS.iloadN X0.here hx rfl (hb hby own_d2_7) rfl ?_
      exact kt
    refine ownE.retI X0 hx hlk hret (hb hby own_d2_8) ?_ (by decide) (by decide)
    show own_Q2 Z i0 i1 i2 i3 i4 h0 n0 _ s₁.heap _
    rw [e0]
    exact ⟨(by rw [own_exp, if_pos hc1] <;> first | rfl | decide), N0, rfl⟩
  · -- pc 4
    refine ownE.go (T' := s₁) (f' := (mkF m 9 #[.val (.int i0), .val (.int i1), .val (.int i2), .val (.int i3), .val (.int i4), .unset, .unset, .unset] [])) (fun t kt => XS.icmpYes (g := (mkF m 4 #[.val (.int i0), .val (.int i1), .val (.int i2), .val (.int i3), .val (.int i4), .unset, .unset, .unset] [(.int (128 : Int32)), (.int i0)])) X0.here hx rfl (pc0 := 4) (pc' := 9) rfl (hb hby own_d2_4) rfl (Jvm.Free.XT.ii_ge_t hc1) (by decide) (by decide) kt) ?_
    have J6 : ∀ (TJ6 : State) (locsJ6 : List Loc), Stand p l e ({ frames := 1, cells := 0, slots := 0, locals := 12 } : Room) s m #[(.int i0), (.int i1), (.int i2), (.int i3), (.int i4)] below meth c TJ6 locsJ6 0 0 → TJ6.heap = h0 → Fr n0 locsJ6 → own_exp i0 i1 i2 i3 i4 = own_r2_142 i0 i1 i2 i3 i4 → ownE p e below s (own_Q2 Z i0 i1 i2 i3 i4 h0 n0) ({ frames := 1, cells := 0, slots := 0, locals := 12 } : Room).cells ({ frames := 1, cells := 0, slots := 0, locals := 12 } : Room).slots TJ6 (mkF m 142 #[.val (.int i0), .val (.int i1), .val (.int i2), .val (.int i3), .val (.int i4), .val (.int (own_j2_142_L5 i0 i1 i2 i3 i4)), .val (.int (own_j2_142_L6 i0 i1 i2 i3 i4)), .val (.int (own_j2_142_L7 i0 i1 i2 i3 i4))] []) := by
      intro TJ6 locsJ6 XJ6 eJ6 NJ6 hv6
      refine ownE.go (T' := TJ6) (f' := (mkF m 146 #[.val (.int i0), .val (.int i1), .val (.int i2), .val (.int i3), .val (.int i4), .val (.int (own_j2_142_L5 i0 i1 i2 i3 i4)), .val (.int (own_j2_142_L6 i0 i1 i2 i3 i4)), .val (.int (own_j2_142_L7 i0 i1 i2 i3 i4))] [(.int (own_j2_142_L5 i0 i1 i2 i3 i4)), (.int i4)])) (fun t kt => ?_) ?_
      · show Steps p.tables e below (TJ6.setTop (mkF m 142 #[.val (.int i0), .val (.int i1), .val (.int i2), .val (.int i3), .val (.int i4), .val (.int (own_j2_142_L5 i0 i1 i2 i3 i4)), .val (.int (own_j2_142_L6 i0 i1 i2 i3 i4)), .val (.int (own_j2_142_L7 i0 i1 i2 i3 i4))] [])) _
        refine XS.iload XJ6.here hx rfl (hb hby own_d2_142) rfl ?_
        show Steps p.tables e below (TJ6.setTop (mkF m 144 #[.val (.int i0), .val (.int i1), .val (.int i2), .val (.int i3), .val (.int i4), .val (.int (own_j2_142_L5 i0 i1 i2 i3 i4)), .val (.int (own_j2_142_L6 i0 i1 i2 i3 i4)), .val (.int (own_j2_142_L7 i0 i1 i2 i3 i4))] [(.int i4)])) _
        refine XS.iload XJ6.here hx rfl (hb hby own_d2_144) rfl ?_
        exact kt
      by_cases hc7 : i4 < (own_j2_142_L5 i0 i1 i2 i3 i4)
      · -- pc 146
        refine ownE.go (T' := TJ6) (f' := (mkF m 149 #[.val (.int i0), .val (.int i1), .val (.int i2), .val (.int i3), .val (.int i4), .val (.int (own_j2_142_L5 i0 i1 i2 i3 i4)), .val (.int (own_j2_142_L6 i0 i1 i2 i3 i4)), .val (.int (own_j2_142_L7 i0 i1 i2 i3 i4))] [])) (fun t kt => XS.icmpNo (g := (mkF m 146 #[.val (.int i0), .val (.int i1), .val (.int i2), .val (.int i3), .val (.int i4), .val (.int (own_j2_142_L5 i0 i1 i2 i3 i4)), .val (.int (own_j2_142_L6 i0 i1 i2 i3 i4)), .val (.int (own_j2_142_L7 i0 i1 i2 i3 i4))] [(.int (own_j2_142_L5 i0 i1 i2 i3 i4)), (.int i4)])) XJ6.here hx rfl (hb hby own_d2_146) rfl (Jvm.Free.XT.ii_ge_f hc7) kt) ?_
        refine ownE.go (T' := TJ6) (f' := (mkF m 150 #[.val (.int i0), .val (.int i1), .val (.int i2), .val (.int i3), .val (.int i4), .val (.int (own_j2_142_L5 i0 i1 i2 i3 i4)), .val (.int (own_j2_142_L6 i0 i1 i2 i3 i4)), .val (.int (own_j2_142_L7 i0 i1 i2 i3 i4))] [(.int (-1 : Int32))])) (fun t kt => ?_) ?_
        · show Steps p.tables e below (TJ6.setTop (mkF m 149 #[.val (.int i0), .val (.int i1), .val (.int i2), .val (.int i3), .val (.int i4), .val (.int (own_j2_142_L5 i0 i1 i2 i3 i4)), .val (.int (own_j2_142_L6 i0 i1 i2 i3 i4)), .val (.int (own_j2_142_L7 i0 i1 i2 i3 i4))] [])) _
          refine XS.iconst XJ6.here hx rfl (hb hby own_d2_149) ?_
          exact kt
        refine ownE.retI XJ6 hx hlk hret (hb hby own_d2_150) ?_ (by decide) (by decide)
        show own_Q2 Z i0 i1 i2 i3 i4 h0 n0 _ TJ6.heap _
        rw [eJ6]
        exact ⟨(by rw [hv6, own_r2_142, if_pos hc7] <;> first | rfl | decide), NJ6, rfl⟩
      · -- pc 146
        refine ownE.go (T' := TJ6) (f' := (mkF m 151 #[.val (.int i0), .val (.int i1), .val (.int i2), .val (.int i3), .val (.int i4), .val (.int (own_j2_142_L5 i0 i1 i2 i3 i4)), .val (.int (own_j2_142_L6 i0 i1 i2 i3 i4)), .val (.int (own_j2_142_L7 i0 i1 i2 i3 i4))] [])) (fun t kt => XS.icmpYes (g := (mkF m 146 #[.val (.int i0), .val (.int i1), .val (.int i2), .val (.int i3), .val (.int i4), .val (.int (own_j2_142_L5 i0 i1 i2 i3 i4)), .val (.int (own_j2_142_L6 i0 i1 i2 i3 i4)), .val (.int (own_j2_142_L7 i0 i1 i2 i3 i4))] [(.int (own_j2_142_L5 i0 i1 i2 i3 i4)), (.int i4)])) XJ6.here hx rfl (pc0 := 146) (pc' := 151) rfl (hb hby own_d2_146) rfl (Jvm.Free.XT.ii_ge_t hc7) (by decide) (by decide) kt) ?_
        refine ownE.go (T' := TJ6) (f' := (mkF m 152 #[.val (.int i0), .val (.int i1), .val (.int i2), .val (.int i3), .val (.int i4), .val (.int (own_j2_142_L5 i0 i1 i2 i3 i4)), .val (.int (own_j2_142_L6 i0 i1 i2 i3 i4)), .val (.int (own_j2_142_L7 i0 i1 i2 i3 i4))] [(.int i1)])) (fun t kt => ?_) ?_
        · show Steps p.tables e below (TJ6.setTop (mkF m 151 #[.val (.int i0), .val (.int i1), .val (.int i2), .val (.int i3), .val (.int i4), .val (.int (own_j2_142_L5 i0 i1 i2 i3 i4)), .val (.int (own_j2_142_L6 i0 i1 i2 i3 i4)), .val (.int (own_j2_142_L7 i0 i1 i2 i3 i4))] [])) _
          refine XS.iloadN XJ6.here hx rfl (hb hby own_d2_151) rfl ?_
          exact kt
        obtain ⟨_, _, ⟨T8, L8, k8, n8⟩, -, X8, ⟨Lc8, hQ8, l8, y8, z8⟩, st8⟩ := Jvm.LawKit.callS XJ6 hx (y := (⟨"traceward/schema/Utf8CodePointPinLaw", "cont", "(I)Z"⟩ : MethodName)) hown (mvT hZ (hw _ (List.mem_of_getElem? (i := 9) rfl))) (mvT hZ (hw _ (List.mem_of_getElem? (i := 10) rfl))) (mvT hZ (hw _ (List.mem_of_getElem? (i := 7) rfl))) (mvT hZ (hw _ (List.mem_of_getElem? (i := 11) rfl))) (by decide) (backOf (W := 0) (own_rm3 l Z a0 hw [] i1 h0 n0 (Nat.le_trans Z0 K0.1) ) hZ (hw _ (List.mem_of_getElem? (i := 11) rfl)) (hw _ (List.mem_of_getElem? (i := 7) rfl)) (by decide) (by decide)) (g := (mkF m 152 #[.val (.int i0), .val (.int i1), .val (.int i2), .val (.int i3), .val (.int i4), .val (.int (own_j2_142_L5 i0 i1 i2 i3 i4)), .val (.int (own_j2_142_L6 i0 i1 i2 i3 i4)), .val (.int (own_j2_142_L7 i0 i1 i2 i3 i4))] [(.int i1)])) rfl (by rw [hml]; rfl) (argsL := [(.int i1)]) (rest := []) (lenOf own_pd1 rfl) rfl (by show 2 * 0 + _ ≤ _; exact Nat.le_of_eq rfl) (hb hby own_d2_152) (fun _ _ => ⟨rfl, eJ6, (by decide : 0 + 0 ≤ _), (by decide : 0 + 0 ≤ _)⟩)
        dsimp only [Pt.U, Pt.locs, Pt.cells, Pt.slots] at X8 l8 y8 z8 st8 hQ8
        subst l8 y8 z8
        obtain ⟨rfl, N8q, e8⟩ := hQ8
        have N8 := Fr.app NJ6 N8q
        refine ownE.go (T' := T8) (f' := (mkF m 155 #[.val (.int i0), .val (.int i1), .val (.int i2), .val (.int i3), .val (.int i4), .val (.int (own_j2_142_L5 i0 i1 i2 i3 i4)), .val (.int (own_j2_142_L6 i0 i1 i2 i3 i4)), .val (.int (own_j2_142_L7 i0 i1 i2 i3 i4))] [(.int (own_cont i1))])) st8 ?_
        by_cases hc9 : (own_cont i1) = (0 : Int32)
        · -- pc 155
          refine ownE.go (T' := T8) (f' := (mkF m 158 #[.val (.int i0), .val (.int i1), .val (.int i2), .val (.int i3), .val (.int i4), .val (.int (own_j2_142_L5 i0 i1 i2 i3 i4)), .val (.int (own_j2_142_L6 i0 i1 i2 i3 i4)), .val (.int (own_j2_142_L7 i0 i1 i2 i3 i4))] [])) (fun t kt => XS.ifNo (g := (mkF m 155 #[.val (.int i0), .val (.int i1), .val (.int i2), .val (.int i3), .val (.int i4), .val (.int (own_j2_142_L5 i0 i1 i2 i3 i4)), .val (.int (own_j2_142_L6 i0 i1 i2 i3 i4)), .val (.int (own_j2_142_L7 i0 i1 i2 i3 i4))] [(.int (own_cont i1))])) X8.here hx rfl (hb hby own_d2_155) rfl (Jvm.Free.XT.i0_ne_f hc9) kt) ?_
          refine ownE.go (T' := T8) (f' := (mkF m 159 #[.val (.int i0), .val (.int i1), .val (.int i2), .val (.int i3), .val (.int i4), .val (.int (own_j2_142_L5 i0 i1 i2 i3 i4)), .val (.int (own_j2_142_L6 i0 i1 i2 i3 i4)), .val (.int (own_j2_142_L7 i0 i1 i2 i3 i4))] [(.int (-1 : Int32))])) (fun t kt => ?_) ?_
          · show Steps p.tables e below (T8.setTop (mkF m 158 #[.val (.int i0), .val (.int i1), .val (.int i2), .val (.int i3), .val (.int i4), .val (.int (own_j2_142_L5 i0 i1 i2 i3 i4)), .val (.int (own_j2_142_L6 i0 i1 i2 i3 i4)), .val (.int (own_j2_142_L7 i0 i1 i2 i3 i4))] [])) _
            refine XS.iconst X8.here hx rfl (hb hby own_d2_158) ?_
            exact kt
          refine ownE.retI X8 hx hlk hret (hb hby own_d2_159) ?_ (by decide) (by decide)
          show own_Q2 Z i0 i1 i2 i3 i4 h0 n0 _ T8.heap _
          rw [e8]
          exact ⟨(by rw [hv6, own_r2_142, if_neg hc7, if_pos hc9] <;> first | rfl | decide), N8, rfl⟩
        · -- pc 155
          refine ownE.go (T' := T8) (f' := (mkF m 160 #[.val (.int i0), .val (.int i1), .val (.int i2), .val (.int i3), .val (.int i4), .val (.int (own_j2_142_L5 i0 i1 i2 i3 i4)), .val (.int (own_j2_142_L6 i0 i1 i2 i3 i4)), .val (.int (own_j2_142_L7 i0 i1 i2 i3 i4))] [])) (fun t kt => XS.ifYes (g := (mkF m 155 #[.val (.int i0), .val (.int i1), .val (.int i2), .val (.int i3), .val (.int i4), .val (.int (own_j2_142_L5 i0 i1 i2 i3 i4)), .val (.int (own_j2_142_L6 i0 i1 i2 i3 i4)), .val (.int (own_j2_142_L7 i0 i1 i2 i3 i4))] [(.int (own_cont i1))])) X8.here hx rfl (pc0 := 155) (pc' := 160) rfl (hb hby own_d2_155) rfl (Jvm.Free.XT.i0_ne_t hc9) (by decide) (by decide) kt) ?_
          have J14 : ∀ (TJ14 : State) (locsJ14 : List Loc), Stand p l e ({ frames := 1, cells := 0, slots := 0, locals := 12 } : Room) s m #[(.int i0), (.int i1), (.int i2), (.int i3), (.int i4)] below meth c TJ14 locsJ14 0 0 → TJ14.heap = h0 → Fr n0 locsJ14 → own_r2_142 i0 i1 i2 i3 i4 = own_r2_175 i0 i1 i2 i3 i4 → ownE p e below s (own_Q2 Z i0 i1 i2 i3 i4 h0 n0) ({ frames := 1, cells := 0, slots := 0, locals := 12 } : Room).cells ({ frames := 1, cells := 0, slots := 0, locals := 12 } : Room).slots TJ14 (mkF m 175 #[.val (.int i0), .val (.int i1), .val (.int i2), .val (.int i3), .val (.int i4), .val (.int (own_j2_142_L5 i0 i1 i2 i3 i4)), .val (.int (own_j2_142_L6 i0 i1 i2 i3 i4)), .val (.int (own_j2_142_L7 i0 i1 i2 i3 i4))] []) := by
            intro TJ14 locsJ14 XJ14 eJ14 NJ14 hv14
            have J19 : ∀ (TJ19 : State) (locsJ19 : List Loc), Stand p l e ({ frames := 1, cells := 0, slots := 0, locals := 12 } : Room) s m #[(.int i0), (.int i1), (.int i2), (.int i3), (.int i4)] below meth c TJ19 locsJ19 0 0 → TJ19.heap = h0 → Fr n0 locsJ19 → own_r2_175 i0 i1 i2 i3 i4 = own_r2_190 i0 i1 i2 i3 i4 → ownE p e below s (own_Q2 Z i0 i1 i2 i3 i4 h0 n0) ({ frames := 1, cells := 0, slots := 0, locals := 12 } : Room).cells ({ frames := 1, cells := 0, slots := 0, locals := 12 } : Room).slots TJ19 (mkF m 190 #[.val (.int i0), .val (.int i1), .val (.int i2), .val (.int i3), .val (.int i4), .val (.int (own_j2_142_L5 i0 i1 i2 i3 i4)), .val (.int (own_j2_142_L6 i0 i1 i2 i3 i4)), .val (.int (own_j2_142_L7 i0 i1 i2 i3 i4))] []) := by
              intro TJ19 locsJ19 XJ19 eJ19 NJ19 hv19
              refine ownE.go (T' := TJ19) (f' := (mkF m 194 #[.val (.int i0), .val (.int i1), .val (.int i2), .val (.int i3), .val (.int i4), .val (.int (own_j2_142_L5 i0 i1 i2 i3 i4)), .val (.int (own_j2_142_L6 i0 i1 i2 i3 i4)), .val (.int (own_j2_142_L7 i0 i1 i2 i3 i4))] [(.int (own_j2_142_L7 i0 i1 i2 i3 i4)), (.int (own_j2_142_L6 i0 i1 i2 i3 i4))])) (fun t kt => ?_) ?_
              · show Steps p.tables e below (TJ19.setTop (mkF m 190 #[.val (.int i0), .val (.int i1), .val (.int i2), .val (.int i3), .val (.int i4), .val (.int (own_j2_142_L5 i0 i1 i2 i3 i4)), .val (.int (own_j2_142_L6 i0 i1 i2 i3 i4)), .val (.int (own_j2_142_L7 i0 i1 i2 i3 i4))] [])) _
                refine XS.iload XJ19.here hx rfl (hb hby own_d2_190) rfl ?_
                show Steps p.tables e below (TJ19.setTop (mkF m 192 #[.val (.int i0), .val (.int i1), .val (.int i2), .val (.int i3), .val (.int i4), .val (.int (own_j2_142_L5 i0 i1 i2 i3 i4)), .val (.int (own_j2_142_L6 i0 i1 i2 i3 i4)), .val (.int (own_j2_142_L7 i0 i1 i2 i3 i4))] [(.int (own_j2_142_L6 i0 i1 i2 i3 i4))])) _
                refine XS.iload XJ19.here hx rfl (hb hby own_d2_192) rfl ?_
                exact kt
              by_cases hc20 : (own_j2_142_L6 i0 i1 i2 i3 i4) < (own_j2_142_L7 i0 i1 i2 i3 i4)
              · -- pc 194
                refine ownE.go (T' := TJ19) (f' := (mkF m 197 #[.val (.int i0), .val (.int i1), .val (.int i2), .val (.int i3), .val (.int i4), .val (.int (own_j2_142_L5 i0 i1 i2 i3 i4)), .val (.int (own_j2_142_L6 i0 i1 i2 i3 i4)), .val (.int (own_j2_142_L7 i0 i1 i2 i3 i4))] [])) (fun t kt => XS.icmpNo (g := (mkF m 194 #[.val (.int i0), .val (.int i1), .val (.int i2), .val (.int i3), .val (.int i4), .val (.int (own_j2_142_L5 i0 i1 i2 i3 i4)), .val (.int (own_j2_142_L6 i0 i1 i2 i3 i4)), .val (.int (own_j2_142_L7 i0 i1 i2 i3 i4))] [(.int (own_j2_142_L7 i0 i1 i2 i3 i4)), (.int (own_j2_142_L6 i0 i1 i2 i3 i4))])) XJ19.here hx rfl (hb hby own_d2_194) rfl (Jvm.Free.XT.ii_ge_f hc20) kt) ?_
                refine ownE.go (T' := TJ19) (f' := (mkF m 198 #[.val (.int i0), .val (.int i1), .val (.int i2), .val (.int i3), .val (.int i4), .val (.int (own_j2_142_L5 i0 i1 i2 i3 i4)), .val (.int (own_j2_142_L6 i0 i1 i2 i3 i4)), .val (.int (own_j2_142_L7 i0 i1 i2 i3 i4))] [(.int (-1 : Int32))])) (fun t kt => ?_) ?_
                · show Steps p.tables e below (TJ19.setTop (mkF m 197 #[.val (.int i0), .val (.int i1), .val (.int i2), .val (.int i3), .val (.int i4), .val (.int (own_j2_142_L5 i0 i1 i2 i3 i4)), .val (.int (own_j2_142_L6 i0 i1 i2 i3 i4)), .val (.int (own_j2_142_L7 i0 i1 i2 i3 i4))] [])) _
                  refine XS.iconst XJ19.here hx rfl (hb hby own_d2_197) ?_
                  exact kt
                refine ownE.retI XJ19 hx hlk hret (hb hby own_d2_198) ?_ (by decide) (by decide)
                show own_Q2 Z i0 i1 i2 i3 i4 h0 n0 _ TJ19.heap _
                rw [eJ19]
                exact ⟨(by rw [hv6, hv14, hv19, own_r2_190, if_pos hc20] <;> first | rfl | decide), NJ19, rfl⟩
              · -- pc 194
                refine ownE.go (T' := TJ19) (f' := (mkF m 199 #[.val (.int i0), .val (.int i1), .val (.int i2), .val (.int i3), .val (.int i4), .val (.int (own_j2_142_L5 i0 i1 i2 i3 i4)), .val (.int (own_j2_142_L6 i0 i1 i2 i3 i4)), .val (.int (own_j2_142_L7 i0 i1 i2 i3 i4))] [])) (fun t kt => XS.icmpYes (g := (mkF m 194 #[.val (.int i0), .val (.int i1), .val (.int i2), .val (.int i3), .val (.int i4), .val (.int (own_j2_142_L5 i0 i1 i2 i3 i4)), .val (.int (own_j2_142_L6 i0 i1 i2 i3 i4)), .val (.int (own_j2_142_L7 i0 i1 i2 i3 i4))] [(.int (own_j2_142_L7 i0 i1 i2 i3 i4)), (.int (own_j2_142_L6 i0 i1 i2 i3 i4))])) XJ19.here hx rfl (pc0 := 194) (pc' := 199) rfl (hb hby own_d2_194) rfl (Jvm.Free.XT.ii_ge_t hc20) (by decide) (by decide) kt) ?_
                refine ownE.go (T' := TJ19) (f' := (mkF m 203 #[.val (.int i0), .val (.int i1), .val (.int i2), .val (.int i3), .val (.int i4), .val (.int (own_j2_142_L5 i0 i1 i2 i3 i4)), .val (.int (own_j2_142_L6 i0 i1 i2 i3 i4)), .val (.int (own_j2_142_L7 i0 i1 i2 i3 i4))] [(.int (1114111 : Int32)), (.int (own_j2_142_L6 i0 i1 i2 i3 i4))])) (fun t kt => ?_) ?_
                · show Steps p.tables e below (TJ19.setTop (mkF m 199 #[.val (.int i0), .val (.int i1), .val (.int i2), .val (.int i3), .val (.int i4), .val (.int (own_j2_142_L5 i0 i1 i2 i3 i4)), .val (.int (own_j2_142_L6 i0 i1 i2 i3 i4)), .val (.int (own_j2_142_L7 i0 i1 i2 i3 i4))] [])) _
                  refine XS.iload XJ19.here hx rfl (hb hby own_d2_199) rfl ?_
                  show Steps p.tables e below (TJ19.setTop (mkF m 201 #[.val (.int i0), .val (.int i1), .val (.int i2), .val (.int i3), .val (.int i4), .val (.int (own_j2_142_L5 i0 i1 i2 i3 i4)), .val (.int (own_j2_142_L6 i0 i1 i2 i3 i4)), .val (.int (own_j2_142_L7 i0 i1 i2 i3 i4))] [(.int (own_j2_142_L6 i0 i1 i2 i3 i4))])) _
                  refine XJ19.ldcInt hx hown (mvT hZ (hw _ (List.mem_of_getElem? (i := 13) rfl))) (g := (mkF m 201 #[.val (.int i0), .val (.int i1), .val (.int i2), .val (.int i3), .val (.int i4), .val (.int (own_j2_142_L5 i0 i1 i2 i3 i4)), .val (.int (own_j2_142_L6 i0 i1 i2 i3 i4)), .val (.int (own_j2_142_L7 i0 i1 i2 i3 i4))] [(.int (own_j2_142_L6 i0 i1 i2 i3 i4))])) rfl (hb hby own_d2_201) _ ?_
                  exact kt
                by_cases hc21 : (1114111 : Int32) < (own_j2_142_L6 i0 i1 i2 i3 i4)
                · -- pc 203
                  refine ownE.go (T' := TJ19) (f' := (mkF m 206 #[.val (.int i0), .val (.int i1), .val (.int i2), .val (.int i3), .val (.int i4), .val (.int (own_j2_142_L5 i0 i1 i2 i3 i4)), .val (.int (own_j2_142_L6 i0 i1 i2 i3 i4)), .val (.int (own_j2_142_L7 i0 i1 i2 i3 i4))] [])) (fun t kt => XS.icmpNo (g := (mkF m 203 #[.val (.int i0), .val (.int i1), .val (.int i2), .val (.int i3), .val (.int i4), .val (.int (own_j2_142_L5 i0 i1 i2 i3 i4)), .val (.int (own_j2_142_L6 i0 i1 i2 i3 i4)), .val (.int (own_j2_142_L7 i0 i1 i2 i3 i4))] [(.int (1114111 : Int32)), (.int (own_j2_142_L6 i0 i1 i2 i3 i4))])) XJ19.here hx rfl (hb hby own_d2_203) rfl (Jvm.Free.XT.ii_le_f hc21) kt) ?_
                  refine ownE.go (T' := TJ19) (f' := (mkF m 207 #[.val (.int i0), .val (.int i1), .val (.int i2), .val (.int i3), .val (.int i4), .val (.int (own_j2_142_L5 i0 i1 i2 i3 i4)), .val (.int (own_j2_142_L6 i0 i1 i2 i3 i4)), .val (.int (own_j2_142_L7 i0 i1 i2 i3 i4))] [(.int (-1 : Int32))])) (fun t kt => ?_) ?_
                  · show Steps p.tables e below (TJ19.setTop (mkF m 206 #[.val (.int i0), .val (.int i1), .val (.int i2), .val (.int i3), .val (.int i4), .val (.int (own_j2_142_L5 i0 i1 i2 i3 i4)), .val (.int (own_j2_142_L6 i0 i1 i2 i3 i4)), .val (.int (own_j2_142_L7 i0 i1 i2 i3 i4))] [])) _
                    refine XS.iconst XJ19.here hx rfl (hb hby own_d2_206) ?_
                    exact kt
                  refine ownE.retI XJ19 hx hlk hret (hb hby own_d2_207) ?_ (by decide) (by decide)
                  show own_Q2 Z i0 i1 i2 i3 i4 h0 n0 _ TJ19.heap _
                  rw [eJ19]
                  exact ⟨(by rw [hv6, hv14, hv19, own_r2_190, if_neg hc20, if_pos hc21] <;> first | rfl | decide), NJ19, rfl⟩
                · -- pc 203
                  refine ownE.go (T' := TJ19) (f' := (mkF m 208 #[.val (.int i0), .val (.int i1), .val (.int i2), .val (.int i3), .val (.int i4), .val (.int (own_j2_142_L5 i0 i1 i2 i3 i4)), .val (.int (own_j2_142_L6 i0 i1 i2 i3 i4)), .val (.int (own_j2_142_L7 i0 i1 i2 i3 i4))] [])) (fun t kt => XS.icmpYes (g := (mkF m 203 #[.val (.int i0), .val (.int i1), .val (.int i2), .val (.int i3), .val (.int i4), .val (.int (own_j2_142_L5 i0 i1 i2 i3 i4)), .val (.int (own_j2_142_L6 i0 i1 i2 i3 i4)), .val (.int (own_j2_142_L7 i0 i1 i2 i3 i4))] [(.int (1114111 : Int32)), (.int (own_j2_142_L6 i0 i1 i2 i3 i4))])) XJ19.here hx rfl (pc0 := 203) (pc' := 208) rfl (hb hby own_d2_203) rfl (Jvm.Free.XT.ii_le_t hc21) (by decide) (by decide) kt) ?_
                  refine ownE.go (T' := TJ19) (f' := (mkF m 212 #[.val (.int i0), .val (.int i1), .val (.int i2), .val (.int i3), .val (.int i4), .val (.int (own_j2_142_L5 i0 i1 i2 i3 i4)), .val (.int (own_j2_142_L6 i0 i1 i2 i3 i4)), .val (.int (own_j2_142_L7 i0 i1 i2 i3 i4))] [(.int (55296 : Int32)), (.int (own_j2_142_L6 i0 i1 i2 i3 i4))])) (fun t kt => ?_) ?_
                  · show Steps p.tables e below (TJ19.setTop (mkF m 208 #[.val (.int i0), .val (.int i1), .val (.int i2), .val (.int i3), .val (.int i4), .val (.int (own_j2_142_L5 i0 i1 i2 i3 i4)), .val (.int (own_j2_142_L6 i0 i1 i2 i3 i4)), .val (.int (own_j2_142_L7 i0 i1 i2 i3 i4))] [])) _
                    refine XS.iload XJ19.here hx rfl (hb hby own_d2_208) rfl ?_
                    show Steps p.tables e below (TJ19.setTop (mkF m 210 #[.val (.int i0), .val (.int i1), .val (.int i2), .val (.int i3), .val (.int i4), .val (.int (own_j2_142_L5 i0 i1 i2 i3 i4)), .val (.int (own_j2_142_L6 i0 i1 i2 i3 i4)), .val (.int (own_j2_142_L7 i0 i1 i2 i3 i4))] [(.int (own_j2_142_L6 i0 i1 i2 i3 i4))])) _
                    refine XJ19.ldcInt hx hown (mvT hZ (hw _ (List.mem_of_getElem? (i := 14) rfl))) (g := (mkF m 210 #[.val (.int i0), .val (.int i1), .val (.int i2), .val (.int i3), .val (.int i4), .val (.int (own_j2_142_L5 i0 i1 i2 i3 i4)), .val (.int (own_j2_142_L6 i0 i1 i2 i3 i4)), .val (.int (own_j2_142_L7 i0 i1 i2 i3 i4))] [(.int (own_j2_142_L6 i0 i1 i2 i3 i4))])) rfl (hb hby own_d2_210) _ ?_
                    exact kt
                  by_cases hc22 : (own_j2_142_L6 i0 i1 i2 i3 i4) < (55296 : Int32)
                  · -- pc 212
                    refine ownE.go (T' := TJ19) (f' := (mkF m 224 #[.val (.int i0), .val (.int i1), .val (.int i2), .val (.int i3), .val (.int i4), .val (.int (own_j2_142_L5 i0 i1 i2 i3 i4)), .val (.int (own_j2_142_L6 i0 i1 i2 i3 i4)), .val (.int (own_j2_142_L7 i0 i1 i2 i3 i4))] [])) (fun t kt => XS.icmpYes (g := (mkF m 212 #[.val (.int i0), .val (.int i1), .val (.int i2), .val (.int i3), .val (.int i4), .val (.int (own_j2_142_L5 i0 i1 i2 i3 i4)), .val (.int (own_j2_142_L6 i0 i1 i2 i3 i4)), .val (.int (own_j2_142_L7 i0 i1 i2 i3 i4))] [(.int (55296 : Int32)), (.int (own_j2_142_L6 i0 i1 i2 i3 i4))])) XJ19.here hx rfl (pc0 := 212) (pc' := 224) rfl (hb hby own_d2_212) rfl (Jvm.Free.XT.ii_lt_t hc22) (by decide) (by decide) kt) ?_
                    refine ownE.go (T' := TJ19) (f' := (mkF m 226 #[.val (.int i0), .val (.int i1), .val (.int i2), .val (.int i3), .val (.int i4), .val (.int (own_j2_142_L5 i0 i1 i2 i3 i4)), .val (.int (own_j2_142_L6 i0 i1 i2 i3 i4)), .val (.int (own_j2_142_L7 i0 i1 i2 i3 i4))] [(.int (own_j2_142_L6 i0 i1 i2 i3 i4))])) (fun t kt => ?_) ?_
                    · show Steps p.tables e below (TJ19.setTop (mkF m 224 #[.val (.int i0), .val (.int i1), .val (.int i2), .val (.int i3), .val (.int i4), .val (.int (own_j2_142_L5 i0 i1 i2 i3 i4)), .val (.int (own_j2_142_L6 i0 i1 i2 i3 i4)), .val (.int (own_j2_142_L7 i0 i1 i2 i3 i4))] [])) _
                      refine XS.iload XJ19.here hx rfl (hb hby own_d2_224) rfl ?_
                      exact kt
                    refine ownE.retI XJ19 hx hlk hret (hb hby own_d2_226) ?_ (by decide) (by decide)
                    show own_Q2 Z i0 i1 i2 i3 i4 h0 n0 _ TJ19.heap _
                    rw [eJ19]
                    exact ⟨(by rw [hv6, hv14, hv19, own_r2_190, if_neg hc20, if_neg hc21, if_pos hc22] <;> first | rfl | decide), NJ19, rfl⟩
                  · -- pc 212
                    refine ownE.go (T' := TJ19) (f' := (mkF m 215 #[.val (.int i0), .val (.int i1), .val (.int i2), .val (.int i3), .val (.int i4), .val (.int (own_j2_142_L5 i0 i1 i2 i3 i4)), .val (.int (own_j2_142_L6 i0 i1 i2 i3 i4)), .val (.int (own_j2_142_L7 i0 i1 i2 i3 i4))] [])) (fun t kt => XS.icmpNo (g := (mkF m 212 #[.val (.int i0), .val (.int i1), .val (.int i2), .val (.int i3), .val (.int i4), .val (.int (own_j2_142_L5 i0 i1 i2 i3 i4)), .val (.int (own_j2_142_L6 i0 i1 i2 i3 i4)), .val (.int (own_j2_142_L7 i0 i1 i2 i3 i4))] [(.int (55296 : Int32)), (.int (own_j2_142_L6 i0 i1 i2 i3 i4))])) XJ19.here hx rfl (hb hby own_d2_212) rfl (Jvm.Free.XT.ii_lt_f hc22) kt) ?_
                    refine ownE.go (T' := TJ19) (f' := (mkF m 219 #[.val (.int i0), .val (.int i1), .val (.int i2), .val (.int i3), .val (.int i4), .val (.int (own_j2_142_L5 i0 i1 i2 i3 i4)), .val (.int (own_j2_142_L6 i0 i1 i2 i3 i4)), .val (.int (own_j2_142_L7 i0 i1 i2 i3 i4))] [(.int (57343 : Int32)), (.int (own_j2_142_L6 i0 i1 i2 i3 i4))])) (fun t kt => ?_) ?_
                    · show Steps p.tables e below (TJ19.setTop (mkF m 215 #[.val (.int i0), .val (.int i1), .val (.int i2), .val (.int i3), .val (.int i4), .val (.int (own_j2_142_L5 i0 i1 i2 i3 i4)), .val (.int (own_j2_142_L6 i0 i1 i2 i3 i4)), .val (.int (own_j2_142_L7 i0 i1 i2 i3 i4))] [])) _
                      refine XS.iload XJ19.here hx rfl (hb hby own_d2_215) rfl ?_
                      show Steps p.tables e below (TJ19.setTop (mkF m 217 #[.val (.int i0), .val (.int i1), .val (.int i2), .val (.int i3), .val (.int i4), .val (.int (own_j2_142_L5 i0 i1 i2 i3 i4)), .val (.int (own_j2_142_L6 i0 i1 i2 i3 i4)), .val (.int (own_j2_142_L7 i0 i1 i2 i3 i4))] [(.int (own_j2_142_L6 i0 i1 i2 i3 i4))])) _
                      refine XJ19.ldcInt hx hown (mvT hZ (hw _ (List.mem_of_getElem? (i := 15) rfl))) (g := (mkF m 217 #[.val (.int i0), .val (.int i1), .val (.int i2), .val (.int i3), .val (.int i4), .val (.int (own_j2_142_L5 i0 i1 i2 i3 i4)), .val (.int (own_j2_142_L6 i0 i1 i2 i3 i4)), .val (.int (own_j2_142_L7 i0 i1 i2 i3 i4))] [(.int (own_j2_142_L6 i0 i1 i2 i3 i4))])) rfl (hb hby own_d2_217) _ ?_
                      exact kt
                    by_cases hc23 : (57343 : Int32) < (own_j2_142_L6 i0 i1 i2 i3 i4)
                    · -- pc 219
                      refine ownE.go (T' := TJ19) (f' := (mkF m 224 #[.val (.int i0), .val (.int i1), .val (.int i2), .val (.int i3), .val (.int i4), .val (.int (own_j2_142_L5 i0 i1 i2 i3 i4)), .val (.int (own_j2_142_L6 i0 i1 i2 i3 i4)), .val (.int (own_j2_142_L7 i0 i1 i2 i3 i4))] [])) (fun t kt => XS.icmpYes (g := (mkF m 219 #[.val (.int i0), .val (.int i1), .val (.int i2), .val (.int i3), .val (.int i4), .val (.int (own_j2_142_L5 i0 i1 i2 i3 i4)), .val (.int (own_j2_142_L6 i0 i1 i2 i3 i4)), .val (.int (own_j2_142_L7 i0 i1 i2 i3 i4))] [(.int (57343 : Int32)), (.int (own_j2_142_L6 i0 i1 i2 i3 i4))])) XJ19.here hx rfl (pc0 := 219) (pc' := 224) rfl (hb hby own_d2_219) rfl (Jvm.Free.XT.ii_gt_t hc23) (by decide) (by decide) kt) ?_
                      refine ownE.go (T' := TJ19) (f' := (mkF m 226 #[.val (.int i0), .val (.int i1), .val (.int i2), .val (.int i3), .val (.int i4), .val (.int (own_j2_142_L5 i0 i1 i2 i3 i4)), .val (.int (own_j2_142_L6 i0 i1 i2 i3 i4)), .val (.int (own_j2_142_L7 i0 i1 i2 i3 i4))] [(.int (own_j2_142_L6 i0 i1 i2 i3 i4))])) (fun t kt => ?_) ?_
                      · show Steps p.tables e below (TJ19.setTop (mkF m 224 #[.val (.int i0), .val (.int i1), .val (.int i2), .val (.int i3), .val (.int i4), .val (.int (own_j2_142_L5 i0 i1 i2 i3 i4)), .val (.int (own_j2_142_L6 i0 i1 i2 i3 i4)), .val (.int (own_j2_142_L7 i0 i1 i2 i3 i4))] [])) _
                        refine XS.iload XJ19.here hx rfl (hb hby own_d2_224) rfl ?_
                        exact kt
                      refine ownE.retI XJ19 hx hlk hret (hb hby own_d2_226) ?_ (by decide) (by decide)
                      show own_Q2 Z i0 i1 i2 i3 i4 h0 n0 _ TJ19.heap _
                      rw [eJ19]
                      exact ⟨(by rw [hv6, hv14, hv19, own_r2_190, if_neg hc20, if_neg hc21, if_neg hc22, if_pos hc23] <;> first | rfl | decide), NJ19, rfl⟩
                    · -- pc 219
                      refine ownE.go (T' := TJ19) (f' := (mkF m 222 #[.val (.int i0), .val (.int i1), .val (.int i2), .val (.int i3), .val (.int i4), .val (.int (own_j2_142_L5 i0 i1 i2 i3 i4)), .val (.int (own_j2_142_L6 i0 i1 i2 i3 i4)), .val (.int (own_j2_142_L7 i0 i1 i2 i3 i4))] [])) (fun t kt => XS.icmpNo (g := (mkF m 219 #[.val (.int i0), .val (.int i1), .val (.int i2), .val (.int i3), .val (.int i4), .val (.int (own_j2_142_L5 i0 i1 i2 i3 i4)), .val (.int (own_j2_142_L6 i0 i1 i2 i3 i4)), .val (.int (own_j2_142_L7 i0 i1 i2 i3 i4))] [(.int (57343 : Int32)), (.int (own_j2_142_L6 i0 i1 i2 i3 i4))])) XJ19.here hx rfl (hb hby own_d2_219) rfl (Jvm.Free.XT.ii_gt_f hc23) kt) ?_
                      refine ownE.go (T' := TJ19) (f' := (mkF m 223 #[.val (.int i0), .val (.int i1), .val (.int i2), .val (.int i3), .val (.int i4), .val (.int (own_j2_142_L5 i0 i1 i2 i3 i4)), .val (.int (own_j2_142_L6 i0 i1 i2 i3 i4)), .val (.int (own_j2_142_L7 i0 i1 i2 i3 i4))] [(.int (-1 : Int32))])) (fun t kt => ?_) ?_
                      · show Steps p.tables e below (TJ19.setTop (mkF m 222 #[.val (.int i0), .val (.int i1), .val (.int i2), .val (.int i3), .val (.int i4), .val (.int (own_j2_142_L5 i0 i1 i2 i3 i4)), .val (.int (own_j2_142_L6 i0 i1 i2 i3 i4)), .val (.int (own_j2_142_L7 i0 i1 i2 i3 i4))] [])) _
                        refine XS.iconst XJ19.here hx rfl (hb hby own_d2_222) ?_
                        exact kt
                      refine ownE.retI XJ19 hx hlk hret (hb hby own_d2_223) ?_ (by decide) (by decide)
                      show own_Q2 Z i0 i1 i2 i3 i4 h0 n0 _ TJ19.heap _
                      rw [eJ19]
                      exact ⟨(by rw [hv6, hv14, hv19, own_r2_190, if_neg hc20, if_neg hc21, if_neg hc22, if_neg hc23] <;> first | rfl | decide), NJ19, rfl⟩
            refine ownE.go (T' := TJ14) (f' := (mkF m 178 #[.val (.int i0), .val (.int i1), .val (.int i2), .val (.int i3), .val (.int i4), .val (.int (own_j2_142_L5 i0 i1 i2 i3 i4)), .val (.int (own_j2_142_L6 i0 i1 i2 i3 i4)), .val (.int (own_j2_142_L7 i0 i1 i2 i3 i4))] [(.int (4 : Int32)), (.int (own_j2_142_L5 i0 i1 i2 i3 i4))])) (fun t kt => ?_) ?_
            · show Steps p.tables e below (TJ14.setTop (mkF m 175 #[.val (.int i0), .val (.int i1), .val (.int i2), .val (.int i3), .val (.int i4), .val (.int (own_j2_142_L5 i0 i1 i2 i3 i4)), .val (.int (own_j2_142_L6 i0 i1 i2 i3 i4)), .val (.int (own_j2_142_L7 i0 i1 i2 i3 i4))] [])) _
              refine XS.iload XJ14.here hx rfl (hb hby own_d2_175) rfl ?_
              show Steps p.tables e below (TJ14.setTop (mkF m 177 #[.val (.int i0), .val (.int i1), .val (.int i2), .val (.int i3), .val (.int i4), .val (.int (own_j2_142_L5 i0 i1 i2 i3 i4)), .val (.int (own_j2_142_L6 i0 i1 i2 i3 i4)), .val (.int (own_j2_142_L7 i0 i1 i2 i3 i4))] [(.int (own_j2_142_L5 i0 i1 i2 i3 i4))])) _
              refine XS.iconst XJ14.here hx rfl (hb hby own_d2_177) ?_
              exact kt
            by_cases hc16 : (own_j2_142_L5 i0 i1 i2 i3 i4) = (4 : Int32)
            · -- pc 178
              refine ownE.go (T' := TJ14) (f' := (mkF m 181 #[.val (.int i0), .val (.int i1), .val (.int i2), .val (.int i3), .val (.int i4), .val (.int (own_j2_142_L5 i0 i1 i2 i3 i4)), .val (.int (own_j2_142_L6 i0 i1 i2 i3 i4)), .val (.int (own_j2_142_L7 i0 i1 i2 i3 i4))] [])) (fun t kt => XS.icmpNo (g := (mkF m 178 #[.val (.int i0), .val (.int i1), .val (.int i2), .val (.int i3), .val (.int i4), .val (.int (own_j2_142_L5 i0 i1 i2 i3 i4)), .val (.int (own_j2_142_L6 i0 i1 i2 i3 i4)), .val (.int (own_j2_142_L7 i0 i1 i2 i3 i4))] [(.int (4 : Int32)), (.int (own_j2_142_L5 i0 i1 i2 i3 i4))])) XJ14.here hx rfl (hb hby own_d2_178) rfl (Jvm.Free.XT.ii_ne_f hc16) kt) ?_
              refine ownE.go (T' := TJ14) (f' := (mkF m 182 #[.val (.int i0), .val (.int i1), .val (.int i2), .val (.int i3), .val (.int i4), .val (.int (own_j2_142_L5 i0 i1 i2 i3 i4)), .val (.int (own_j2_142_L6 i0 i1 i2 i3 i4)), .val (.int (own_j2_142_L7 i0 i1 i2 i3 i4))] [(.int i3)])) (fun t kt => ?_) ?_
              · show Steps p.tables e below (TJ14.setTop (mkF m 181 #[.val (.int i0), .val (.int i1), .val (.int i2), .val (.int i3), .val (.int i4), .val (.int (own_j2_142_L5 i0 i1 i2 i3 i4)), .val (.int (own_j2_142_L6 i0 i1 i2 i3 i4)), .val (.int (own_j2_142_L7 i0 i1 i2 i3 i4))] [])) _
                refine XS.iloadN XJ14.here hx rfl (hb hby own_d2_181) rfl ?_
                exact kt
              obtain ⟨_, _, ⟨T17, L17, k17, n17⟩, -, X17, ⟨Lc17, hQ17, l17, y17, z17⟩, st17⟩ := Jvm.LawKit.callS XJ14 hx (y := (⟨"traceward/schema/Utf8CodePointPinLaw", "cont", "(I)Z"⟩ : MethodName)) hown (mvT hZ (hw _ (List.mem_of_getElem? (i := 9) rfl))) (mvT hZ (hw _ (List.mem_of_getElem? (i := 10) rfl))) (mvT hZ (hw _ (List.mem_of_getElem? (i := 7) rfl))) (mvT hZ (hw _ (List.mem_of_getElem? (i := 11) rfl))) (by decide) (backOf (W := 0) (own_rm3 l Z a0 hw [] i3 h0 n0 (Nat.le_trans Z0 K0.1) ) hZ (hw _ (List.mem_of_getElem? (i := 11) rfl)) (hw _ (List.mem_of_getElem? (i := 7) rfl)) (by decide) (by decide)) (g := (mkF m 182 #[.val (.int i0), .val (.int i1), .val (.int i2), .val (.int i3), .val (.int i4), .val (.int (own_j2_142_L5 i0 i1 i2 i3 i4)), .val (.int (own_j2_142_L6 i0 i1 i2 i3 i4)), .val (.int (own_j2_142_L7 i0 i1 i2 i3 i4))] [(.int i3)])) rfl (by rw [hml]; rfl) (argsL := [(.int i3)]) (rest := []) (lenOf own_pd1 rfl) rfl (by show 2 * 0 + _ ≤ _; exact Nat.le_of_eq rfl) (hb hby own_d2_182) (fun _ _ => ⟨rfl, eJ14, (by decide : 0 + 0 ≤ _), (by decide : 0 + 0 ≤ _)⟩)
              dsimp only [Pt.U, Pt.locs, Pt.cells, Pt.slots] at X17 l17 y17 z17 st17 hQ17
              subst l17 y17 z17
              obtain ⟨rfl, N17q, e17⟩ := hQ17
              have N17 := Fr.app NJ14 N17q
              refine ownE.go (T' := T17) (f' := (mkF m 185 #[.val (.int i0), .val (.int i1), .val (.int i2), .val (.int i3), .val (.int i4), .val (.int (own_j2_142_L5 i0 i1 i2 i3 i4)), .val (.int (own_j2_142_L6 i0 i1 i2 i3 i4)), .val (.int (own_j2_142_L7 i0 i1 i2 i3 i4))] [(.int (own_cont i3))])) st17 ?_
              by_cases hc18 : (own_cont i3) = (0 : Int32)
              · -- pc 185
                refine ownE.go (T' := T17) (f' := (mkF m 188 #[.val (.int i0), .val (.int i1), .val (.int i2), .val (.int i3), .val (.int i4), .val (.int (own_j2_142_L5 i0 i1 i2 i3 i4)), .val (.int (own_j2_142_L6 i0 i1 i2 i3 i4)), .val (.int (own_j2_142_L7 i0 i1 i2 i3 i4))] [])) (fun t kt => XS.ifNo (g := (mkF m 185 #[.val (.int i0), .val (.int i1), .val (.int i2), .val (.int i3), .val (.int i4), .val (.int (own_j2_142_L5 i0 i1 i2 i3 i4)), .val (.int (own_j2_142_L6 i0 i1 i2 i3 i4)), .val (.int (own_j2_142_L7 i0 i1 i2 i3 i4))] [(.int (own_cont i3))])) X17.here hx rfl (hb hby own_d2_185) rfl (Jvm.Free.XT.i0_ne_f hc18) kt) ?_
                refine ownE.go (T' := T17) (f' := (mkF m 189 #[.val (.int i0), .val (.int i1), .val (.int i2), .val (.int i3), .val (.int i4), .val (.int (own_j2_142_L5 i0 i1 i2 i3 i4)), .val (.int (own_j2_142_L6 i0 i1 i2 i3 i4)), .val (.int (own_j2_142_L7 i0 i1 i2 i3 i4))] [(.int (-1 : Int32))])) (fun t kt => ?_) ?_
                · show Steps p.tables e below (T17.setTop (mkF m 188 #[.val (.int i0), .val (.int i1), .val (.int i2), .val (.int i3), .val (.int i4), .val (.int (own_j2_142_L5 i0 i1 i2 i3 i4)), .val (.int (own_j2_142_L6 i0 i1 i2 i3 i4)), .val (.int (own_j2_142_L7 i0 i1 i2 i3 i4))] [])) _
                  refine XS.iconst X17.here hx rfl (hb hby own_d2_188) ?_
                  exact kt
                refine ownE.retI X17 hx hlk hret (hb hby own_d2_189) ?_ (by decide) (by decide)
                show own_Q2 Z i0 i1 i2 i3 i4 h0 n0 _ T17.heap _
                rw [e17]
                exact ⟨(by rw [hv6, hv14, own_r2_175, if_pos hc16, if_pos hc18] <;> first | rfl | decide), N17, rfl⟩
              · -- pc 185
                refine ownE.go (T' := T17) (f' := (mkF m 190 #[.val (.int i0), .val (.int i1), .val (.int i2), .val (.int i3), .val (.int i4), .val (.int (own_j2_142_L5 i0 i1 i2 i3 i4)), .val (.int (own_j2_142_L6 i0 i1 i2 i3 i4)), .val (.int (own_j2_142_L7 i0 i1 i2 i3 i4))] [])) (fun t kt => XS.ifYes (g := (mkF m 185 #[.val (.int i0), .val (.int i1), .val (.int i2), .val (.int i3), .val (.int i4), .val (.int (own_j2_142_L5 i0 i1 i2 i3 i4)), .val (.int (own_j2_142_L6 i0 i1 i2 i3 i4)), .val (.int (own_j2_142_L7 i0 i1 i2 i3 i4))] [(.int (own_cont i3))])) X17.here hx rfl (pc0 := 185) (pc' := 190) rfl (hb hby own_d2_185) rfl (Jvm.Free.XT.i0_ne_t hc18) (by decide) (by decide) kt) ?_
                have jj := J19 _ _ X17 e17 N17 (by rw [own_r2_175, if_pos hc16, if_neg hc18])
                exact jj
            · -- pc 178
              refine ownE.go (T' := TJ14) (f' := (mkF m 190 #[.val (.int i0), .val (.int i1), .val (.int i2), .val (.int i3), .val (.int i4), .val (.int (own_j2_142_L5 i0 i1 i2 i3 i4)), .val (.int (own_j2_142_L6 i0 i1 i2 i3 i4)), .val (.int (own_j2_142_L7 i0 i1 i2 i3 i4))] [])) (fun t kt => XS.icmpYes (g := (mkF m 178 #[.val (.int i0), .val (.int i1), .val (.int i2), .val (.int i3), .val (.int i4), .val (.int (own_j2_142_L5 i0 i1 i2 i3 i4)), .val (.int (own_j2_142_L6 i0 i1 i2 i3 i4)), .val (.int (own_j2_142_L7 i0 i1 i2 i3 i4))] [(.int (4 : Int32)), (.int (own_j2_142_L5 i0 i1 i2 i3 i4))])) XJ14.here hx rfl (pc0 := 178) (pc' := 190) rfl (hb hby own_d2_178) rfl (Jvm.Free.XT.ii_ne_t hc16) (by decide) (by decide) kt) ?_
              have jj := J19 _ _ XJ14 eJ14 NJ14 (by rw [own_r2_175, if_neg hc16])
              exact jj
          refine ownE.go (T' := T8) (f' := (mkF m 163 #[.val (.int i0), .val (.int i1), .val (.int i2), .val (.int i3), .val (.int i4), .val (.int (own_j2_142_L5 i0 i1 i2 i3 i4)), .val (.int (own_j2_142_L6 i0 i1 i2 i3 i4)), .val (.int (own_j2_142_L7 i0 i1 i2 i3 i4))] [(.int (3 : Int32)), (.int (own_j2_142_L5 i0 i1 i2 i3 i4))])) (fun t kt => ?_) ?_
          · show Steps p.tables e below (T8.setTop (mkF m 160 #[.val (.int i0), .val (.int i1), .val (.int i2), .val (.int i3), .val (.int i4), .val (.int (own_j2_142_L5 i0 i1 i2 i3 i4)), .val (.int (own_j2_142_L6 i0 i1 i2 i3 i4)), .val (.int (own_j2_142_L7 i0 i1 i2 i3 i4))] [])) _
            refine XS.iload X8.here hx rfl (hb hby own_d2_160) rfl ?_
            show Steps p.tables e below (T8.setTop (mkF m 162 #[.val (.int i0), .val (.int i1), .val (.int i2), .val (.int i3), .val (.int i4), .val (.int (own_j2_142_L5 i0 i1 i2 i3 i4)), .val (.int (own_j2_142_L6 i0 i1 i2 i3 i4)), .val (.int (own_j2_142_L7 i0 i1 i2 i3 i4))] [(.int (own_j2_142_L5 i0 i1 i2 i3 i4))])) _
            refine XS.iconst X8.here hx rfl (hb hby own_d2_162) ?_
            exact kt
          by_cases hc11 : (own_j2_142_L5 i0 i1 i2 i3 i4) < (3 : Int32)
          · -- pc 163
            refine ownE.go (T' := T8) (f' := (mkF m 175 #[.val (.int i0), .val (.int i1), .val (.int i2), .val (.int i3), .val (.int i4), .val (.int (own_j2_142_L5 i0 i1 i2 i3 i4)), .val (.int (own_j2_142_L6 i0 i1 i2 i3 i4)), .val (.int (own_j2_142_L7 i0 i1 i2 i3 i4))] [])) (fun t kt => XS.icmpYes (g := (mkF m 163 #[.val (.int i0), .val (.int i1), .val (.int i2), .val (.int i3), .val (.int i4), .val (.int (own_j2_142_L5 i0 i1 i2 i3 i4)), .val (.int (own_j2_142_L6 i0 i1 i2 i3 i4)), .val (.int (own_j2_142_L7 i0 i1 i2 i3 i4))] [(.int (3 : Int32)), (.int (own_j2_142_L5 i0 i1 i2 i3 i4))])) X8.here hx rfl (pc0 := 163) (pc' := 175) rfl (hb hby own_d2_163) rfl (Jvm.Free.XT.ii_lt_t hc11) (by decide) (by decide) kt) ?_
            have jj := J14 _ _ X8 e8 N8 (by rw [own_r2_142, if_neg hc7, if_neg hc9, if_pos hc11])
            exact jj
          · -- pc 163
            refine ownE.go (T' := T8) (f' := (mkF m 166 #[.val (.int i0), .val (.int i1), .val (.int i2), .val (.int i3), .val (.int i4), .val (.int (own_j2_142_L5 i0 i1 i2 i3 i4)), .val (.int (own_j2_142_L6 i0 i1 i2 i3 i4)), .val (.int (own_j2_142_L7 i0 i1 i2 i3 i4))] [])) (fun t kt => XS.icmpNo (g := (mkF m 163 #[.val (.int i0), .val (.int i1), .val (.int i2), .val (.int i3), .val (.int i4), .val (.int (own_j2_142_L5 i0 i1 i2 i3 i4)), .val (.int (own_j2_142_L6 i0 i1 i2 i3 i4)), .val (.int (own_j2_142_L7 i0 i1 i2 i3 i4))] [(.int (3 : Int32)), (.int (own_j2_142_L5 i0 i1 i2 i3 i4))])) X8.here hx rfl (hb hby own_d2_163) rfl (Jvm.Free.XT.ii_lt_f hc11) kt) ?_
            refine ownE.go (T' := T8) (f' := (mkF m 167 #[.val (.int i0), .val (.int i1), .val (.int i2), .val (.int i3), .val (.int i4), .val (.int (own_j2_142_L5 i0 i1 i2 i3 i4)), .val (.int (own_j2_142_L6 i0 i1 i2 i3 i4)), .val (.int (own_j2_142_L7 i0 i1 i2 i3 i4))] [(.int i2)])) (fun t kt => ?_) ?_
            · show Steps p.tables e below (T8.setTop (mkF m 166 #[.val (.int i0), .val (.int i1), .val (.int i2), .val (.int i3), .val (.int i4), .val (.int (own_j2_142_L5 i0 i1 i2 i3 i4)), .val (.int (own_j2_142_L6 i0 i1 i2 i3 i4)), .val (.int (own_j2_142_L7 i0 i1 i2 i3 i4))] [])) _
              refine XS.iloadN X8.here hx rfl (hb hby own_d2_166) rfl ?_
              exact kt
            obtain ⟨_, _, ⟨T12, L12, k12, n12⟩, -, X12, ⟨Lc12, hQ12, l12, y12, z12⟩, st12⟩ := Jvm.LawKit.callS X8 hx (y := (⟨"traceward/schema/Utf8CodePointPinLaw", "cont", "(I)Z"⟩ : MethodName)) hown (mvT hZ (hw _ (List.mem_of_getElem? (i := 9) rfl))) (mvT hZ (hw _ (List.mem_of_getElem? (i := 10) rfl))) (mvT hZ (hw _ (List.mem_of_getElem? (i := 7) rfl))) (mvT hZ (hw _ (List.mem_of_getElem? (i := 11) rfl))) (by decide) (backOf (W := 0) (own_rm3 l Z a0 hw [] i2 h0 n0 (Nat.le_trans Z0 K0.1) ) hZ (hw _ (List.mem_of_getElem? (i := 11) rfl)) (hw _ (List.mem_of_getElem? (i := 7) rfl)) (by decide) (by decide)) (g := (mkF m 167 #[.val (.int i0), .val (.int i1), .val (.int i2), .val (.int i3), .val (.int i4), .val (.int (own_j2_142_L5 i0 i1 i2 i3 i4)), .val (.int (own_j2_142_L6 i0 i1 i2 i3 i4)), .val (.int (own_j2_142_L7 i0 i1 i2 i3 i4))] [(.int i2)])) rfl (by rw [hml]; rfl) (argsL := [(.int i2)]) (rest := []) (lenOf own_pd1 rfl) rfl (by show 2 * 0 + _ ≤ _; exact Nat.le_of_eq rfl) (hb hby own_d2_167) (fun _ _ => ⟨rfl, e8, (by decide : 0 + 0 ≤ _), (by decide : 0 + 0 ≤ _)⟩)
            dsimp only [Pt.U, Pt.locs, Pt.cells, Pt.slots] at X12 l12 y12 z12 st12 hQ12
            subst l12 y12 z12
            obtain ⟨rfl, N12q, e12⟩ := hQ12
            have N12 := Fr.app N8 N12q
            refine ownE.go (T' := T12) (f' := (mkF m 170 #[.val (.int i0), .val (.int i1), .val (.int i2), .val (.int i3), .val (.int i4), .val (.int (own_j2_142_L5 i0 i1 i2 i3 i4)), .val (.int (own_j2_142_L6 i0 i1 i2 i3 i4)), .val (.int (own_j2_142_L7 i0 i1 i2 i3 i4))] [(.int (own_cont i2))])) st12 ?_
            by_cases hc13 : (own_cont i2) = (0 : Int32)
            · -- pc 170
              refine ownE.go (T' := T12) (f' := (mkF m 173 #[.val (.int i0), .val (.int i1), .val (.int i2), .val (.int i3), .val (.int i4), .val (.int (own_j2_142_L5 i0 i1 i2 i3 i4)), .val (.int (own_j2_142_L6 i0 i1 i2 i3 i4)), .val (.int (own_j2_142_L7 i0 i1 i2 i3 i4))] [])) (fun t kt => XS.ifNo (g := (mkF m 170 #[.val (.int i0), .val (.int i1), .val (.int i2), .val (.int i3), .val (.int i4), .val (.int (own_j2_142_L5 i0 i1 i2 i3 i4)), .val (.int (own_j2_142_L6 i0 i1 i2 i3 i4)), .val (.int (own_j2_142_L7 i0 i1 i2 i3 i4))] [(.int (own_cont i2))])) X12.here hx rfl (hb hby own_d2_170) rfl (Jvm.Free.XT.i0_ne_f hc13) kt) ?_
              refine ownE.go (T' := T12) (f' := (mkF m 174 #[.val (.int i0), .val (.int i1), .val (.int i2), .val (.int i3), .val (.int i4), .val (.int (own_j2_142_L5 i0 i1 i2 i3 i4)), .val (.int (own_j2_142_L6 i0 i1 i2 i3 i4)), .val (.int (own_j2_142_L7 i0 i1 i2 i3 i4))] [(.int (-1 : Int32))])) (fun t kt => ?_) ?_
              · show Steps p.tables e below (T12.setTop (mkF m 173 #[.val (.int i0), .val (.int i1), .val (.int i2), .val (.int i3), .val (.int i4), .val (.int (own_j2_142_L5 i0 i1 i2 i3 i4)), .val (.int (own_j2_142_L6 i0 i1 i2 i3 i4)), .val (.int (own_j2_142_L7 i0 i1 i2 i3 i4))] [])) _
                refine XS.iconst X12.here hx rfl (hb hby own_d2_173) ?_
                exact kt
              refine ownE.retI X12 hx hlk hret (hb hby own_d2_174) ?_ (by decide) (by decide)
              show own_Q2 Z i0 i1 i2 i3 i4 h0 n0 _ T12.heap _
              rw [e12]
              exact ⟨(by rw [hv6, own_r2_142, if_neg hc7, if_neg hc9, if_neg hc11, if_pos hc13] <;> first | rfl | decide), N12, rfl⟩
            · -- pc 170
              refine ownE.go (T' := T12) (f' := (mkF m 175 #[.val (.int i0), .val (.int i1), .val (.int i2), .val (.int i3), .val (.int i4), .val (.int (own_j2_142_L5 i0 i1 i2 i3 i4)), .val (.int (own_j2_142_L6 i0 i1 i2 i3 i4)), .val (.int (own_j2_142_L7 i0 i1 i2 i3 i4))] [])) (fun t kt => XS.ifYes (g := (mkF m 170 #[.val (.int i0), .val (.int i1), .val (.int i2), .val (.int i3), .val (.int i4), .val (.int (own_j2_142_L5 i0 i1 i2 i3 i4)), .val (.int (own_j2_142_L6 i0 i1 i2 i3 i4)), .val (.int (own_j2_142_L7 i0 i1 i2 i3 i4))] [(.int (own_cont i2))])) X12.here hx rfl (pc0 := 170) (pc' := 175) rfl (hb hby own_d2_170) rfl (Jvm.Free.XT.i0_ne_t hc13) (by decide) (by decide) kt) ?_
              have jj := J14 _ _ X12 e12 N12 (by rw [own_r2_142, if_neg hc7, if_neg hc9, if_neg hc11, if_neg hc13])
              exact jj
    refine ownE.go (T' := s₁) (f' := (mkF m 17 #[.val (.int i0), .val (.int i1), .val (.int i2), .val (.int i3), .val (.int i4), .unset, .unset, .unset] [(.int (192 : Int32)), (.int (i0 &&& (224 : Int32)))])) (fun t kt => ?_) ?_
    · show Steps p.tables e below (s₁.setTop (mkF m 9 #[.val (.int i0), .val (.int i1), .val (.int i2), .val (.int i3), .val (.int i4), .unset, .unset, .unset] [])) _
      refine XS.iloadN X0.here hx rfl (hb hby own_d2_9) rfl ?_
      show Steps p.tables e below (s₁.setTop (mkF m 10 #[.val (.int i0), .val (.int i1), .val (.int i2), .val (.int i3), .val (.int i4), .unset, .unset, .unset] [(.int i0)])) _
      refine XS.sipush X0.here hx rfl (hb hby own_d2_10) ?_
      show Steps p.tables e below (s₁.setTop (mkF m 13 #[.val (.int i0), .val (.int i1), .val (.int i2), .val (.int i3), .val (.int i4), .unset, .unset, .unset] [(.int (224 : Int32)), (.int i0)])) _
      refine XS.iand X0.here hx rfl (hb hby own_d2_13) rfl ?_
      show Steps p.tables e below (s₁.setTop (mkF m 14 #[.val (.int i0), .val (.int i1), .val (.int i2), .val (.int i3), .val (.int i4), .unset, .unset, .unset] [(.int (i0 &&& (224 : Int32)))])) _
      refine XS.sipush X0.here hx rfl (hb hby own_d2_14) ?_
      exact kt
    by_cases hc3 : (i0 &&& (224 : Int32)) = (192 : Int32)
    · -- pc 17
      refine ownE.go (T' := s₁) (f' := (mkF m 20 #[.val (.int i0), .val (.int i1), .val (.int i2), .val (.int i3), .val (.int i4), .unset, .unset, .unset] [])) (fun t kt => XS.icmpNo (g := (mkF m 17 #[.val (.int i0), .val (.int i1), .val (.int i2), .val (.int i3), .val (.int i4), .unset, .unset, .unset] [(.int (192 : Int32)), (.int (i0 &&& (224 : Int32)))])) X0.here hx rfl (hb hby own_d2_17) rfl (Jvm.Free.XT.ii_ne_f hc3) kt) ?_
      refine ownE.go (T' := s₁) (f' := (mkF m 142 #[.val (.int i0), .val (.int i1), .val (.int i2), .val (.int i3), .val (.int i4), .val (.int (2 : Int32)), .val (.int (own_v2_40 i0 i1 i2 i3 i4)), .val (.int (128 : Int32))] [])) (fun t kt => ?_) ?_
      · show Steps p.tables e below (s₁.setTop (mkF m 20 #[.val (.int i0), .val (.int i1), .val (.int i2), .val (.int i3), .val (.int i4), .unset, .unset, .unset] [])) _
        refine XS.iconst X0.here hx rfl (hb hby own_d2_20) ?_
        show Steps p.tables e below (s₁.setTop (mkF m 21 #[.val (.int i0), .val (.int i1), .val (.int i2), .val (.int i3), .val (.int i4), .unset, .unset, .unset] [(.int (2 : Int32))])) _
        refine XS.istore X0.here hx rfl (hb hby own_d2_21) rfl (l' := #[.val (.int i0), .val (.int i1), .val (.int i2), .val (.int i3), .val (.int i4), .val (.int (2 : Int32)), .unset, .unset]) rfl ?_
        show Steps p.tables e below (s₁.setTop (mkF m 23 #[.val (.int i0), .val (.int i1), .val (.int i2), .val (.int i3), .val (.int i4), .val (.int (2 : Int32)), .unset, .unset] [])) _
        refine XS.sipush X0.here hx rfl (hb hby own_d2_23) ?_
        show Steps p.tables e below (s₁.setTop (mkF m 26 #[.val (.int i0), .val (.int i1), .val (.int i2), .val (.int i3), .val (.int i4), .val (.int (2 : Int32)), .unset, .unset] [(.int (128 : Int32))])) _
        refine XS.istore X0.here hx rfl (hb hby own_d2_26) rfl (l' := #[.val (.int i0), .val (.int i1), .val (.int i2), .val (.int i3), .val (.int i4), .val (.int (2 : Int32)), .unset, .val (.int (128 : Int32))]) rfl ?_
        show Steps p.tables e below (s₁.setTop (mkF m 28 #[.val (.int i0), .val (.int i1), .val (.int i2), .val (.int i3), .val (.int i4), .val (.int (2 : Int32)), .unset, .val (.int (128 : Int32))] [])) _
        refine XS.iloadN X0.here hx rfl (hb hby own_d2_28) rfl ?_
        show Steps p.tables e below (s₁.setTop (mkF m 29 #[.val (.int i0), .val (.int i1), .val (.int i2), .val (.int i3), .val (.int i4), .val (.int (2 : Int32)), .unset, .val (.int (128 : Int32))] [(.int i0)])) _
        refine XS.bipush X0.here hx rfl (hb hby own_d2_29) ?_
        show Steps p.tables e below (s₁.setTop (mkF m 31 #[.val (.int i0), .val (.int i1), .val (.int i2), .val (.int i3), .val (.int i4), .val (.int (2 : Int32)), .unset, .val (.int (128 : Int32))] [(.int (31 : Int32)), (.int i0)])) _
        refine XS.iand X0.here hx rfl (hb hby own_d2_31) rfl ?_
        show Steps p.tables e below (s₁.setTop (mkF m 32 #[.val (.int i0), .val (.int i1), .val (.int i2), .val (.int i3), .val (.int i4), .val (.int (2 : Int32)), .unset, .val (.int (128 : Int32))] [(.int (i0 &&& (31 : Int32)))])) _
        refine XS.bipush X0.here hx rfl (hb hby own_d2_32) ?_
        show Steps p.tables e below (s₁.setTop (mkF m 34 #[.val (.int i0), .val (.int i1), .val (.int i2), .val (.int i3), .val (.int i4), .val (.int (2 : Int32)), .unset, .val (.int (128 : Int32))] [(.int (6 : Int32)), (.int (i0 &&& (31 : Int32)))])) _
        refine XS.ishl X0.here hx rfl (hb hby own_d2_34) rfl ?_
        show Steps p.tables e below (s₁.setTop (mkF m 35 #[.val (.int i0), .val (.int i1), .val (.int i2), .val (.int i3), .val (.int i4), .val (.int (2 : Int32)), .unset, .val (.int (128 : Int32))] [(.int ((i0 &&& (31 : Int32)) <<< ((6 : Int32) &&& 31)))])) _
        refine XS.iloadN X0.here hx rfl (hb hby own_d2_35) rfl ?_
        show Steps p.tables e below (s₁.setTop (mkF m 36 #[.val (.int i0), .val (.int i1), .val (.int i2), .val (.int i3), .val (.int i4), .val (.int (2 : Int32)), .unset, .val (.int (128 : Int32))] [(.int i1), (.int ((i0 &&& (31 : Int32)) <<< ((6 : Int32) &&& 31)))])) _
        refine XS.bipush X0.here hx rfl (hb hby own_d2_36) ?_
        show Steps p.tables e below (s₁.setTop (mkF m 38 #[.val (.int i0), .val (.int i1), .val (.int i2), .val (.int i3), .val (.int i4), .val (.int (2 : Int32)), .unset, .val (.int (128 : Int32))] [(.int (63 : Int32)), (.int i1), (.int ((i0 &&& (31 : Int32)) <<< ((6 : Int32) &&& 31)))])) _
        refine XS.iand X0.here hx rfl (hb hby own_d2_38) rfl ?_
        show Steps p.tables e below (s₁.setTop (mkF m 39 #[.val (.int i0), .val (.int i1), .val (.int i2), .val (.int i3), .val (.int i4), .val (.int (2 : Int32)), .unset, .val (.int (128 : Int32))] [(.int (i1 &&& (63 : Int32))), (.int ((i0 &&& (31 : Int32)) <<< ((6 : Int32) &&& 31)))])) _
        refine XS.ior X0.here hx rfl (hb hby own_d2_39) rfl ?_
        show Steps p.tables e below (s₁.setTop (mkF m 40 #[.val (.int i0), .val (.int i1), .val (.int i2), .val (.int i3), .val (.int i4), .val (.int (2 : Int32)), .unset, .val (.int (128 : Int32))] [(.int (((i0 &&& (31 : Int32)) <<< ((6 : Int32) &&& 31)) ||| (i1 &&& (63 : Int32))))])) _
        refine XS.istore X0.here hx rfl (hb hby own_d2_40) rfl (l' := #[.val (.int i0), .val (.int i1), .val (.int i2), .val (.int i3), .val (.int i4), .val (.int (2 : Int32)), .val (.int (own_v2_40 i0 i1 i2 i3 i4)), .val (.int (128 : Int32))]) rfl ?_
        show Steps p.tables e below (s₁.setTop (mkF m 42 #[.val (.int i0), .val (.int i1), .val (.int i2), .val (.int i3), .val (.int i4), .val (.int (2 : Int32)), .val (.int (own_v2_40 i0 i1 i2 i3 i4)), .val (.int (128 : Int32))] [])) _
        refine XS.goto X0.here hx rfl (pc0 := 42) (pc' := 142) rfl (hb hby own_d2_42) (by decide) (by decide) ?_
        exact kt
      have jj := J6 _ _ X0 e0 N0 (by rw [own_exp, if_neg hc1, if_pos hc3])
      rw [show (own_j2_142_L5 i0 i1 i2 i3 i4) = (2 : Int32) from by rw [own_j2_142_L5, if_pos hc3]] at jj
      rw [show (own_j2_142_L6 i0 i1 i2 i3 i4) = (own_v2_40 i0 i1 i2 i3 i4) from by rw [own_j2_142_L6, if_pos hc3]] at jj
      rw [show (own_j2_142_L7 i0 i1 i2 i3 i4) = (128 : Int32) from by rw [own_j2_142_L7, if_pos hc3]] at jj
      exact jj
    · -- pc 17
      refine ownE.go (T' := s₁) (f' := (mkF m 45 #[.val (.int i0), .val (.int i1), .val (.int i2), .val (.int i3), .val (.int i4), .unset, .unset, .unset] [])) (fun t kt => XS.icmpYes (g := (mkF m 17 #[.val (.int i0), .val (.int i1), .val (.int i2), .val (.int i3), .val (.int i4), .unset, .unset, .unset] [(.int (192 : Int32)), (.int (i0 &&& (224 : Int32)))])) X0.here hx rfl (pc0 := 17) (pc' := 45) rfl (hb hby own_d2_17) rfl (Jvm.Free.XT.ii_ne_t hc3) (by decide) (by decide) kt) ?_
      refine ownE.go (T' := s₁) (f' := (mkF m 53 #[.val (.int i0), .val (.int i1), .val (.int i2), .val (.int i3), .val (.int i4), .unset, .unset, .unset] [(.int (224 : Int32)), (.int (i0 &&& (240 : Int32)))])) (fun t kt => ?_) ?_
      · show Steps p.tables e below (s₁.setTop (mkF m 45 #[.val (.int i0), .val (.int i1), .val (.int i2), .val (.int i3), .val (.int i4), .unset, .unset, .unset] [])) _
        refine XS.iloadN X0.here hx rfl (hb hby own_d2_45) rfl ?_
        show Steps p.tables e below (s₁.setTop (mkF m 46 #[.val (.int i0), .val (.int i1), .val (.int i2), .val (.int i3), .val (.int i4), .unset, .unset, .unset] [(.int i0)])) _
        refine XS.sipush X0.here hx rfl (hb hby own_d2_46) ?_
        show Steps p.tables e below (s₁.setTop (mkF m 49 #[.val (.int i0), .val (.int i1), .val (.int i2), .val (.int i3), .val (.int i4), .unset, .unset, .unset] [(.int (240 : Int32)), (.int i0)])) _
        refine XS.iand X0.here hx rfl (hb hby own_d2_49) rfl ?_
        show Steps p.tables e below (s₁.setTop (mkF m 50 #[.val (.int i0), .val (.int i1), .val (.int i2), .val (.int i3), .val (.int i4), .unset, .unset, .unset] [(.int (i0 &&& (240 : Int32)))])) _
        refine XS.sipush X0.here hx rfl (hb hby own_d2_50) ?_
        exact kt
      by_cases hc4 : (i0 &&& (240 : Int32)) = (224 : Int32)
      · -- pc 53
        refine ownE.go (T' := s₁) (f' := (mkF m 56 #[.val (.int i0), .val (.int i1), .val (.int i2), .val (.int i3), .val (.int i4), .unset, .unset, .unset] [])) (fun t kt => XS.icmpNo (g := (mkF m 53 #[.val (.int i0), .val (.int i1), .val (.int i2), .val (.int i3), .val (.int i4), .unset, .unset, .unset] [(.int (224 : Int32)), (.int (i0 &&& (240 : Int32)))])) X0.here hx rfl (hb hby own_d2_53) rfl (Jvm.Free.XT.ii_ne_f hc4) kt) ?_
        refine ownE.go (T' := s₁) (f' := (mkF m 142 #[.val (.int i0), .val (.int i1), .val (.int i2), .val (.int i3), .val (.int i4), .val (.int (3 : Int32)), .val (.int (own_v2_84 i0 i1 i2 i3 i4)), .val (.int (2048 : Int32))] [])) (fun t kt => ?_) ?_
        · show Steps p.tables e below (s₁.setTop (mkF m 56 #[.val (.int i0), .val (.int i1), .val (.int i2), .val (.int i3), .val (.int i4), .unset, .unset, .unset] [])) _
          refine XS.iconst X0.here hx rfl (hb hby own_d2_56) ?_
          show Steps p.tables e below (s₁.setTop (mkF m 57 #[.val (.int i0), .val (.int i1), .val (.int i2), .val (.int i3), .val (.int i4), .unset, .unset, .unset] [(.int (3 : Int32))])) _
          refine XS.istore X0.here hx rfl (hb hby own_d2_57) rfl (l' := #[.val (.int i0), .val (.int i1), .val (.int i2), .val (.int i3), .val (.int i4), .val (.int (3 : Int32)), .unset, .unset]) rfl ?_
          show Steps p.tables e below (s₁.setTop (mkF m 59 #[.val (.int i0), .val (.int i1), .val (.int i2), .val (.int i3), .val (.int i4), .val (.int (3 : Int32)), .unset, .unset] [])) _
          refine XS.sipush X0.here hx rfl (hb hby own_d2_59) ?_
          show Steps p.tables e below (s₁.setTop (mkF m 62 #[.val (.int i0), .val (.int i1), .val (.int i2), .val (.int i3), .val (.int i4), .val (.int (3 : Int32)), .unset, .unset] [(.int (2048 : Int32))])) _
          refine XS.istore X0.here hx rfl (hb hby own_d2_62) rfl (l' := #[.val (.int i0), .val (.int i1), .val (.int i2), .val (.int i3), .val (.int i4), .val (.int (3 : Int32)), .unset, .val (.int (2048 : Int32))]) rfl ?_
          show Steps p.tables e below (s₁.setTop (mkF m 64 #[.val (.int i0), .val (.int i1), .val (.int i2), .val (.int i3), .val (.int i4), .val (.int (3 : Int32)), .unset, .val (.int (2048 : Int32))] [])) _
          refine XS.iloadN X0.here hx rfl (hb hby own_d2_64) rfl ?_
          show Steps p.tables e below (s₁.setTop (mkF m 65 #[.val (.int i0), .val (.int i1), .val (.int i2), .val (.int i3), .val (.int i4), .val (.int (3 : Int32)), .unset, .val (.int (2048 : Int32))] [(.int i0)])) _
          refine XS.bipush X0.here hx rfl (hb hby own_d2_65) ?_
          show Steps p.tables e below (s₁.setTop (mkF m 67 #[.val (.int i0), .val (.int i1), .val (.int i2), .val (.int i3), .val (.int i4), .val (.int (3 : Int32)), .unset, .val (.int (2048 : Int32))] [(.int (15 : Int32)), (.int i0)])) _
          refine XS.iand X0.here hx rfl (hb hby own_d2_67) rfl ?_
          show Steps p.tables e below (s₁.setTop (mkF m 68 #[.val (.int i0), .val (.int i1), .val (.int i2), .val (.int i3), .val (.int i4), .val (.int (3 : Int32)), .unset, .val (.int (2048 : Int32))] [(.int (i0 &&& (15 : Int32)))])) _
          refine XS.bipush X0.here hx rfl (hb hby own_d2_68) ?_
          show Steps p.tables e below (s₁.setTop (mkF m 70 #[.val (.int i0), .val (.int i1), .val (.int i2), .val (.int i3), .val (.int i4), .val (.int (3 : Int32)), .unset, .val (.int (2048 : Int32))] [(.int (12 : Int32)), (.int (i0 &&& (15 : Int32)))])) _
          refine XS.ishl X0.here hx rfl (hb hby own_d2_70) rfl ?_
          show Steps p.tables e below (s₁.setTop (mkF m 71 #[.val (.int i0), .val (.int i1), .val (.int i2), .val (.int i3), .val (.int i4), .val (.int (3 : Int32)), .unset, .val (.int (2048 : Int32))] [(.int ((i0 &&& (15 : Int32)) <<< ((12 : Int32) &&& 31)))])) _
          refine XS.iloadN X0.here hx rfl (hb hby own_d2_71) rfl ?_
          show Steps p.tables e below (s₁.setTop (mkF m 72 #[.val (.int i0), .val (.int i1), .val (.int i2), .val (.int i3), .val (.int i4), .val (.int (3 : Int32)), .unset, .val (.int (2048 : Int32))] [(.int i1), (.int ((i0 &&& (15 : Int32)) <<< ((12 : Int32) &&& 31)))])) _
          refine XS.bipush X0.here hx rfl (hb hby own_d2_72) ?_
          show Steps p.tables e below (s₁.setTop (mkF m 74 #[.val (.int i0), .val (.int i1), .val (.int i2), .val (.int i3), .val (.int i4), .val (.int (3 : Int32)), .unset, .val (.int (2048 : Int32))] [(.int (63 : Int32)), (.int i1), (.int ((i0 &&& (15 : Int32)) <<< ((12 : Int32) &&& 31)))])) _
          refine XS.iand X0.here hx rfl (hb hby own_d2_74) rfl ?_
          show Steps p.tables e below (s₁.setTop (mkF m 75 #[.val (.int i0), .val (.int i1), .val (.int i2), .val (.int i3), .val (.int i4), .val (.int (3 : Int32)), .unset, .val (.int (2048 : Int32))] [(.int (i1 &&& (63 : Int32))), (.int ((i0 &&& (15 : Int32)) <<< ((12 : Int32) &&& 31)))])) _
          refine XS.bipush X0.here hx rfl (hb hby own_d2_75) ?_
          show Steps p.tables e below (s₁.setTop (mkF m 77 #[.val (.int i0), .val (.int i1), .val (.int i2), .val (.int i3), .val (.int i4), .val (.int (3 : Int32)), .unset, .val (.int (2048 : Int32))] [(.int (6 : Int32)), (.int (i1 &&& (63 : Int32))), (.int ((i0 &&& (15 : Int32)) <<< ((12 : Int32) &&& 31)))])) _
          refine XS.ishl X0.here hx rfl (hb hby own_d2_77) rfl ?_
          show Steps p.tables e below (s₁.setTop (mkF m 78 #[.val (.int i0), .val (.int i1), .val (.int i2), .val (.int i3), .val (.int i4), .val (.int (3 : Int32)), .unset, .val (.int (2048 : Int32))] [(.int ((i1 &&& (63 : Int32)) <<< ((6 : Int32) &&& 31))), (.int ((i0 &&& (15 : Int32)) <<< ((12 : Int32) &&& 31)))])) _
          refine XS.ior X0.here hx rfl (hb hby own_d2_78) rfl ?_
          show Steps p.tables e below (s₁.setTop (mkF m 79 #[.val (.int i0), .val (.int i1), .val (.int i2), .val (.int i3), .val (.int i4), .val (.int (3 : Int32)), .unset, .val (.int (2048 : Int32))] [(.int (((i0 &&& (15 : Int32)) <<< ((12 : Int32) &&& 31)) ||| ((i1 &&& (63 : Int32)) <<< ((6 : Int32) &&& 31))))])) _
          refine XS.iloadN X0.here hx rfl (hb hby own_d2_79) rfl ?_
          show Steps p.tables e below (s₁.setTop (mkF m 80 #[.val (.int i0), .val (.int i1), .val (.int i2), .val (.int i3), .val (.int i4), .val (.int (3 : Int32)), .unset, .val (.int (2048 : Int32))] [(.int i2), (.int (((i0 &&& (15 : Int32)) <<< ((12 : Int32) &&& 31)) ||| ((i1 &&& (63 : Int32)) <<< ((6 : Int32) &&& 31))))])) _
          refine XS.bipush X0.here hx rfl (hb hby own_d2_80) ?_
          show Steps p.tables e below (s₁.setTop (mkF m 82 #[.val (.int i0), .val (.int i1), .val (.int i2), .val (.int i3), .val (.int i4), .val (.int (3 : Int32)), .unset, .val (.int (2048 : Int32))] [(.int (63 : Int32)), (.int i2), (.int (((i0 &&& (15 : Int32)) <<< ((12 : Int32) &&& 31)) ||| ((i1 &&& (63 : Int32)) <<< ((6 : Int32) &&& 31))))])) _
          refine XS.iand X0.here hx rfl (hb hby own_d2_82) rfl ?_
          show Steps p.tables e below (s₁.setTop (mkF m 83 #[.val (.int i0), .val (.int i1), .val (.int i2), .val (.int i3), .val (.int i4), .val (.int (3 : Int32)), .unset, .val (.int (2048 : Int32))] [(.int (i2 &&& (63 : Int32))), (.int (((i0 &&& (15 : Int32)) <<< ((12 : Int32) &&& 31)) ||| ((i1 &&& (63 : Int32)) <<< ((6 : Int32) &&& 31))))])) _
          refine XS.ior X0.here hx rfl (hb hby own_d2_83) rfl ?_
          show Steps p.tables e below (s₁.setTop (mkF m 84 #[.val (.int i0), .val (.int i1), .val (.int i2), .val (.int i3), .val (.int i4), .val (.int (3 : Int32)), .unset, .val (.int (2048 : Int32))] [(.int ((((i0 &&& (15 : Int32)) <<< ((12 : Int32) &&& 31)) ||| ((i1 &&& (63 : Int32)) <<< ((6 : Int32) &&& 31))) ||| (i2 &&& (63 : Int32))))])) _
          refine XS.istore X0.here hx rfl (hb hby own_d2_84) rfl (l' := #[.val (.int i0), .val (.int i1), .val (.int i2), .val (.int i3), .val (.int i4), .val (.int (3 : Int32)), .val (.int (own_v2_84 i0 i1 i2 i3 i4)), .val (.int (2048 : Int32))]) rfl ?_
          show Steps p.tables e below (s₁.setTop (mkF m 86 #[.val (.int i0), .val (.int i1), .val (.int i2), .val (.int i3), .val (.int i4), .val (.int (3 : Int32)), .val (.int (own_v2_84 i0 i1 i2 i3 i4)), .val (.int (2048 : Int32))] [])) _
          refine XS.goto X0.here hx rfl (pc0 := 86) (pc' := 142) rfl (hb hby own_d2_86) (by decide) (by decide) ?_
          exact kt
        have jj := J6 _ _ X0 e0 N0 (by rw [own_exp, if_neg hc1, if_neg hc3, if_pos hc4])
        rw [show (own_j2_142_L5 i0 i1 i2 i3 i4) = (3 : Int32) from by rw [own_j2_142_L5, if_neg hc3, if_pos hc4]] at jj
        rw [show (own_j2_142_L6 i0 i1 i2 i3 i4) = (own_v2_84 i0 i1 i2 i3 i4) from by rw [own_j2_142_L6, if_neg hc3, if_pos hc4]] at jj
        rw [show (own_j2_142_L7 i0 i1 i2 i3 i4) = (2048 : Int32) from by rw [own_j2_142_L7, if_neg hc3, if_pos hc4]] at jj
        exact jj
      · -- pc 53
        refine ownE.go (T' := s₁) (f' := (mkF m 89 #[.val (.int i0), .val (.int i1), .val (.int i2), .val (.int i3), .val (.int i4), .unset, .unset, .unset] [])) (fun t kt => XS.icmpYes (g := (mkF m 53 #[.val (.int i0), .val (.int i1), .val (.int i2), .val (.int i3), .val (.int i4), .unset, .unset, .unset] [(.int (224 : Int32)), (.int (i0 &&& (240 : Int32)))])) X0.here hx rfl (pc0 := 53) (pc' := 89) rfl (hb hby own_d2_53) rfl (Jvm.Free.XT.ii_ne_t hc4) (by decide) (by decide) kt) ?_
        refine ownE.go (T' := s₁) (f' := (mkF m 97 #[.val (.int i0), .val (.int i1), .val (.int i2), .val (.int i3), .val (.int i4), .unset, .unset, .unset] [(.int (240 : Int32)), (.int (i0 &&& (248 : Int32)))])) (fun t kt => ?_) ?_
        · show Steps p.tables e below (s₁.setTop (mkF m 89 #[.val (.int i0), .val (.int i1), .val (.int i2), .val (.int i3), .val (.int i4), .unset, .unset, .unset] [])) _
          refine XS.iloadN X0.here hx rfl (hb hby own_d2_89) rfl ?_
          show Steps p.tables e below (s₁.setTop (mkF m 90 #[.val (.int i0), .val (.int i1), .val (.int i2), .val (.int i3), .val (.int i4), .unset, .unset, .unset] [(.int i0)])) _
          refine XS.sipush X0.here hx rfl (hb hby own_d2_90) ?_
          show Steps p.tables e below (s₁.setTop (mkF m 93 #[.val (.int i0), .val (.int i1), .val (.int i2), .val (.int i3), .val (.int i4), .unset, .unset, .unset] [(.int (248 : Int32)), (.int i0)])) _
          refine XS.iand X0.here hx rfl (hb hby own_d2_93) rfl ?_
          show Steps p.tables e below (s₁.setTop (mkF m 94 #[.val (.int i0), .val (.int i1), .val (.int i2), .val (.int i3), .val (.int i4), .unset, .unset, .unset] [(.int (i0 &&& (248 : Int32)))])) _
          refine XS.sipush X0.here hx rfl (hb hby own_d2_94) ?_
          exact kt
        by_cases hc5 : (i0 &&& (248 : Int32)) = (240 : Int32)
        · -- pc 97
          refine ownE.go (T' := s₁) (f' := (mkF m 100 #[.val (.int i0), .val (.int i1), .val (.int i2), .val (.int i3), .val (.int i4), .unset, .unset, .unset] [])) (fun t kt => XS.icmpNo (g := (mkF m 97 #[.val (.int i0), .val (.int i1), .val (.int i2), .val (.int i3), .val (.int i4), .unset, .unset, .unset] [(.int (240 : Int32)), (.int (i0 &&& (248 : Int32)))])) X0.here hx rfl (hb hby own_d2_97) rfl (Jvm.Free.XT.ii_ne_f hc5) kt) ?_
          refine ownE.go (T' := s₁) (f' := (mkF m 142 #[.val (.int i0), .val (.int i1), .val (.int i2), .val (.int i3), .val (.int i4), .val (.int (4 : Int32)), .val (.int (own_v2_135 i0 i1 i2 i3 i4)), .val (.int (65536 : Int32))] [])) (fun t kt => ?_) ?_
          · show Steps p.tables e below (s₁.setTop (mkF m 100 #[.val (.int i0), .val (.int i1), .val (.int i2), .val (.int i3), .val (.int i4), .unset, .unset, .unset] [])) _
            refine XS.iconst X0.here hx rfl (hb hby own_d2_100) ?_
            show Steps p.tables e below (s₁.setTop (mkF m 101 #[.val (.int i0), .val (.int i1), .val (.int i2), .val (.int i3), .val (.int i4), .unset, .unset, .unset] [(.int (4 : Int32))])) _
            refine XS.istore X0.here hx rfl (hb hby own_d2_101) rfl (l' := #[.val (.int i0), .val (.int i1), .val (.int i2), .val (.int i3), .val (.int i4), .val (.int (4 : Int32)), .unset, .unset]) rfl ?_
            show Steps p.tables e below (s₁.setTop (mkF m 103 #[.val (.int i0), .val (.int i1), .val (.int i2), .val (.int i3), .val (.int i4), .val (.int (4 : Int32)), .unset, .unset] [])) _
            refine X0.ldcInt hx hown (mvT hZ (hw _ (List.mem_of_getElem? (i := 12) rfl))) (g := (mkF m 103 #[.val (.int i0), .val (.int i1), .val (.int i2), .val (.int i3), .val (.int i4), .val (.int (4 : Int32)), .unset, .unset] [])) rfl (hb hby own_d2_103) _ ?_
            show Steps p.tables e below (s₁.setTop (mkF m 105 #[.val (.int i0), .val (.int i1), .val (.int i2), .val (.int i3), .val (.int i4), .val (.int (4 : Int32)), .unset, .unset] [(.int (65536 : Int32))])) _
            refine XS.istore X0.here hx rfl (hb hby own_d2_105) rfl (l' := #[.val (.int i0), .val (.int i1), .val (.int i2), .val (.int i3), .val (.int i4), .val (.int (4 : Int32)), .unset, .val (.int (65536 : Int32))]) rfl ?_
            show Steps p.tables e below (s₁.setTop (mkF m 107 #[.val (.int i0), .val (.int i1), .val (.int i2), .val (.int i3), .val (.int i4), .val (.int (4 : Int32)), .unset, .val (.int (65536 : Int32))] [])) _
            refine XS.iloadN X0.here hx rfl (hb hby own_d2_107) rfl ?_
            show Steps p.tables e below (s₁.setTop (mkF m 108 #[.val (.int i0), .val (.int i1), .val (.int i2), .val (.int i3), .val (.int i4), .val (.int (4 : Int32)), .unset, .val (.int (65536 : Int32))] [(.int i0)])) _
            refine XS.bipush X0.here hx rfl (hb hby own_d2_108) ?_
            show Steps p.tables e below (s₁.setTop (mkF m 110 #[.val (.int i0), .val (.int i1), .val (.int i2), .val (.int i3), .val (.int i4), .val (.int (4 : Int32)), .unset, .val (.int (65536 : Int32))] [(.int (7 : Int32)), (.int i0)])) _
            refine XS.iand X0.here hx rfl (hb hby own_d2_110) rfl ?_
            show Steps p.tables e below (s₁.setTop (mkF m 111 #[.val (.int i0), .val (.int i1), .val (.int i2), .val (.int i3), .val (.int i4), .val (.int (4 : Int32)), .unset, .val (.int (65536 : Int32))] [(.int (i0 &&& (7 : Int32)))])) _
            refine XS.bipush X0.here hx rfl (hb hby own_d2_111) ?_
            show Steps p.tables e below (s₁.setTop (mkF m 113 #[.val (.int i0), .val (.int i1), .val (.int i2), .val (.int i3), .val (.int i4), .val (.int (4 : Int32)), .unset, .val (.int (65536 : Int32))] [(.int (18 : Int32)), (.int (i0 &&& (7 : Int32)))])) _
            refine XS.ishl X0.here hx rfl (hb hby own_d2_113) rfl ?_
            show Steps p.tables e below (s₁.setTop (mkF m 114 #[.val (.int i0), .val (.int i1), .val (.int i2), .val (.int i3), .val (.int i4), .val (.int (4 : Int32)), .unset, .val (.int (65536 : Int32))] [(.int ((i0 &&& (7 : Int32)) <<< ((18 : Int32) &&& 31)))])) _
            refine XS.iloadN X0.here hx rfl (hb hby own_d2_114) rfl ?_
            show Steps p.tables e below (s₁.setTop (mkF m 115 #[.val (.int i0), .val (.int i1), .val (.int i2), .val (.int i3), .val (.int i4), .val (.int (4 : Int32)), .unset, .val (.int (65536 : Int32))] [(.int i1), (.int ((i0 &&& (7 : Int32)) <<< ((18 : Int32) &&& 31)))])) _
            refine XS.bipush X0.here hx rfl (hb hby own_d2_115) ?_
            show Steps p.tables e below (s₁.setTop (mkF m 117 #[.val (.int i0), .val (.int i1), .val (.int i2), .val (.int i3), .val (.int i4), .val (.int (4 : Int32)), .unset, .val (.int (65536 : Int32))] [(.int (63 : Int32)), (.int i1), (.int ((i0 &&& (7 : Int32)) <<< ((18 : Int32) &&& 31)))])) _
            refine XS.iand X0.here hx rfl (hb hby own_d2_117) rfl ?_
            show Steps p.tables e below (s₁.setTop (mkF m 118 #[.val (.int i0), .val (.int i1), .val (.int i2), .val (.int i3), .val (.int i4), .val (.int (4 : Int32)), .unset, .val (.int (65536 : Int32))] [(.int (i1 &&& (63 : Int32))), (.int ((i0 &&& (7 : Int32)) <<< ((18 : Int32) &&& 31)))])) _
            refine XS.bipush X0.here hx rfl (hb hby own_d2_118) ?_
            show Steps p.tables e below (s₁.setTop (mkF m 120 #[.val (.int i0), .val (.int i1), .val (.int i2), .val (.int i3), .val (.int i4), .val (.int (4 : Int32)), .unset, .val (.int (65536 : Int32))] [(.int (12 : Int32)), (.int (i1 &&& (63 : Int32))), (.int ((i0 &&& (7 : Int32)) <<< ((18 : Int32) &&& 31)))])) _
            refine XS.ishl X0.here hx rfl (hb hby own_d2_120) rfl ?_
            show Steps p.tables e below (s₁.setTop (mkF m 121 #[.val (.int i0), .val (.int i1), .val (.int i2), .val (.int i3), .val (.int i4), .val (.int (4 : Int32)), .unset, .val (.int (65536 : Int32))] [(.int ((i1 &&& (63 : Int32)) <<< ((12 : Int32) &&& 31))), (.int ((i0 &&& (7 : Int32)) <<< ((18 : Int32) &&& 31)))])) _
            refine XS.ior X0.here hx rfl (hb hby own_d2_121) rfl ?_
            show Steps p.tables e below (s₁.setTop (mkF m 122 #[.val (.int i0), .val (.int i1), .val (.int i2), .val (.int i3), .val (.int i4), .val (.int (4 : Int32)), .unset, .val (.int (65536 : Int32))] [(.int (((i0 &&& (7 : Int32)) <<< ((18 : Int32) &&& 31)) ||| ((i1 &&& (63 : Int32)) <<< ((12 : Int32) &&& 31))))])) _
            refine XS.iloadN X0.here hx rfl (hb hby own_d2_122) rfl ?_
            show Steps p.tables e below (s₁.setTop (mkF m 123 #[.val (.int i0), .val (.int i1), .val (.int i2), .val (.int i3), .val (.int i4), .val (.int (4 : Int32)), .unset, .val (.int (65536 : Int32))] [(.int i2), (.int (((i0 &&& (7 : Int32)) <<< ((18 : Int32) &&& 31)) ||| ((i1 &&& (63 : Int32)) <<< ((12 : Int32) &&& 31))))])) _
            refine XS.bipush X0.here hx rfl (hb hby own_d2_123) ?_
            show Steps p.tables e below (s₁.setTop (mkF m 125 #[.val (.int i0), .val (.int i1), .val (.int i2), .val (.int i3), .val (.int i4), .val (.int (4 : Int32)), .unset, .val (.int (65536 : Int32))] [(.int (63 : Int32)), (.int i2), (.int (((i0 &&& (7 : Int32)) <<< ((18 : Int32) &&& 31)) ||| ((i1 &&& (63 : Int32)) <<< ((12 : Int32) &&& 31))))])) _
            refine XS.iand X0.here hx rfl (hb hby own_d2_125) rfl ?_
            show Steps p.tables e below (s₁.setTop (mkF m 126 #[.val (.int i0), .val (.int i1), .val (.int i2), .val (.int i3), .val (.int i4), .val (.int (4 : Int32)), .unset, .val (.int (65536 : Int32))] [(.int (i2 &&& (63 : Int32))), (.int (((i0 &&& (7 : Int32)) <<< ((18 : Int32) &&& 31)) ||| ((i1 &&& (63 : Int32)) <<< ((12 : Int32) &&& 31))))])) _
            refine XS.bipush X0.here hx rfl (hb hby own_d2_126) ?_
            show Steps p.tables e below (s₁.setTop (mkF m 128 #[.val (.int i0), .val (.int i1), .val (.int i2), .val (.int i3), .val (.int i4), .val (.int (4 : Int32)), .unset, .val (.int (65536 : Int32))] [(.int (6 : Int32)), (.int (i2 &&& (63 : Int32))), (.int (((i0 &&& (7 : Int32)) <<< ((18 : Int32) &&& 31)) ||| ((i1 &&& (63 : Int32)) <<< ((12 : Int32) &&& 31))))])) _
            refine XS.ishl X0.here hx rfl (hb hby own_d2_128) rfl ?_
            show Steps p.tables e below (s₁.setTop (mkF m 129 #[.val (.int i0), .val (.int i1), .val (.int i2), .val (.int i3), .val (.int i4), .val (.int (4 : Int32)), .unset, .val (.int (65536 : Int32))] [(.int ((i2 &&& (63 : Int32)) <<< ((6 : Int32) &&& 31))), (.int (((i0 &&& (7 : Int32)) <<< ((18 : Int32) &&& 31)) ||| ((i1 &&& (63 : Int32)) <<< ((12 : Int32) &&& 31))))])) _
            refine XS.ior X0.here hx rfl (hb hby own_d2_129) rfl ?_
            show Steps p.tables e below (s₁.setTop (mkF m 130 #[.val (.int i0), .val (.int i1), .val (.int i2), .val (.int i3), .val (.int i4), .val (.int (4 : Int32)), .unset, .val (.int (65536 : Int32))] [(.int ((((i0 &&& (7 : Int32)) <<< ((18 : Int32) &&& 31)) ||| ((i1 &&& (63 : Int32)) <<< ((12 : Int32) &&& 31))) ||| ((i2 &&& (63 : Int32)) <<< ((6 : Int32) &&& 31))))])) _
            refine XS.iloadN X0.here hx rfl (hb hby own_d2_130) rfl ?_
            show Steps p.tables e below (s₁.setTop (mkF m 131 #[.val (.int i0), .val (.int i1), .val (.int i2), .val (.int i3), .val (.int i4), .val (.int (4 : Int32)), .unset, .val (.int (65536 : Int32))] [(.int i3), (.int ((((i0 &&& (7 : Int32)) <<< ((18 : Int32) &&& 31)) ||| ((i1 &&& (63 : Int32)) <<< ((12 : Int32) &&& 31))) ||| ((i2 &&& (63 : Int32)) <<< ((6 : Int32) &&& 31))))])) _
            refine XS.bipush X0.here hx rfl (hb hby own_d2_131) ?_
            show Steps p.tables e below (s₁.setTop (mkF m 133 #[.val (.int i0), .val (.int i1), .val (.int i2), .val (.int i3), .val (.int i4), .val (.int (4 : Int32)), .unset, .val (.int (65536 : Int32))] [(.int (63 : Int32)), (.int i3), (.int ((((i0 &&& (7 : Int32)) <<< ((18 : Int32) &&& 31)) ||| ((i1 &&& (63 : Int32)) <<< ((12 : Int32) &&& 31))) ||| ((i2 &&& (63 : Int32)) <<< ((6 : Int32) &&& 31))))])) _
            refine XS.iand X0.here hx rfl (hb hby own_d2_133) rfl ?_
            show Steps p.tables e below (s₁.setTop (mkF m 134 #[.val (.int i0), .val (.int i1), .val (.int i2), .val (.int i3), .val (.int i4), .val (.int (4 : Int32)), .unset, .val (.int (65536 : Int32))] [(.int (i3 &&& (63 : Int32))), (.int ((((i0 &&& (7 : Int32)) <<< ((18 : Int32) &&& 31)) ||| ((i1 &&& (63 : Int32)) <<< ((12 : Int32) &&& 31))) ||| ((i2 &&& (63 : Int32)) <<< ((6 : Int32) &&& 31))))])) _
            refine XS.ior X0.here hx rfl (hb hby own_d2_134) rfl ?_
            show Steps p.tables e below (s₁.setTop (mkF m 135 #[.val (.int i0), .val (.int i1), .val (.int i2), .val (.int i3), .val (.int i4), .val (.int (4 : Int32)), .unset, .val (.int (65536 : Int32))] [(.int (((((i0 &&& (7 : Int32)) <<< ((18 : Int32) &&& 31)) ||| ((i1 &&& (63 : Int32)) <<< ((12 : Int32) &&& 31))) ||| ((i2 &&& (63 : Int32)) <<< ((6 : Int32) &&& 31))) ||| (i3 &&& (63 : Int32))))])) _
            refine XS.istore X0.here hx rfl (hb hby own_d2_135) rfl (l' := #[.val (.int i0), .val (.int i1), .val (.int i2), .val (.int i3), .val (.int i4), .val (.int (4 : Int32)), .val (.int (own_v2_135 i0 i1 i2 i3 i4)), .val (.int (65536 : Int32))]) rfl ?_
            show Steps p.tables e below (s₁.setTop (mkF m 137 #[.val (.int i0), .val (.int i1), .val (.int i2), .val (.int i3), .val (.int i4), .val (.int (4 : Int32)), .val (.int (own_v2_135 i0 i1 i2 i3 i4)), .val (.int (65536 : Int32))] [])) _
            refine XS.goto X0.here hx rfl (pc0 := 137) (pc' := 142) rfl (hb hby own_d2_137) (by decide) (by decide) ?_
            exact kt
          have jj := J6 _ _ X0 e0 N0 (by rw [own_exp, if_neg hc1, if_neg hc3, if_neg hc4, if_pos hc5])
          rw [show (own_j2_142_L5 i0 i1 i2 i3 i4) = (4 : Int32) from by rw [own_j2_142_L5, if_neg hc3, if_neg hc4, if_pos hc5]] at jj
          rw [show (own_j2_142_L6 i0 i1 i2 i3 i4) = (own_v2_135 i0 i1 i2 i3 i4) from by rw [own_j2_142_L6, if_neg hc3, if_neg hc4, if_pos hc5]] at jj
          rw [show (own_j2_142_L7 i0 i1 i2 i3 i4) = (65536 : Int32) from by rw [own_j2_142_L7, if_neg hc3, if_neg hc4, if_pos hc5]] at jj
          exact jj
        · -- pc 97
          refine ownE.go (T' := s₁) (f' := (mkF m 140 #[.val (.int i0), .val (.int i1), .val (.int i2), .val (.int i3), .val (.int i4), .unset, .unset, .unset] [])) (fun t kt => XS.icmpYes (g := (mkF m 97 #[.val (.int i0), .val (.int i1), .val (.int i2), .val (.int i3), .val (.int i4), .unset, .unset, .unset] [(.int (240 : Int32)), (.int (i0 &&& (248 : Int32)))])) X0.here hx rfl (pc0 := 97) (pc' := 140) rfl (hb hby own_d2_97) rfl (Jvm.Free.XT.ii_ne_t hc5) (by decide) (by decide) kt) ?_
          refine ownE.go (T' := s₁) (f' := (mkF m 141 #[.val (.int i0), .val (.int i1), .val (.int i2), .val (.int i3), .val (.int i4), .unset, .unset, .unset] [(.int (-1 : Int32))])) (fun t kt => ?_) ?_
          · show Steps p.tables e below (s₁.setTop (mkF m 140 #[.val (.int i0), .val (.int i1), .val (.int i2), .val (.int i3), .val (.int i4), .unset, .unset, .unset] [])) _
            refine XS.iconst X0.here hx rfl (hb hby own_d2_140) ?_
            exact kt
          refine ownE.retI X0 hx hlk hret (hb hby own_d2_141) ?_ (by decide) (by decide)
          show own_Q2 Z i0 i1 i2 i3 i4 h0 n0 _ s₁.heap _
          rw [e0]
          exact ⟨(by rw [own_exp, if_neg hc1, if_neg hc3, if_neg hc4, if_neg hc5] <;> first | rfl | decide), N0, rfl⟩
def own_v1a0_7 (i2 : Int32) (b0 : Int32) (b1 : Int32) (b2 : Int32) (b3 : Int32) (b4 : Int32) : Int32 := (b0 &&& (255 : Int32))
theorem own_z128 : (128 : Int32).toInt = 128 := by decide
theorem own_z194 : (194 : Int32).toInt = 194 := by decide
theorem own_z224 : (224 : Int32).toInt = 224 := by decide
theorem own_z240 : (240 : Int32).toInt = 240 := by decide
theorem own_z223 : (223 : Int32).toInt = 223 := by decide
theorem own_z239 : (239 : Int32).toInt = 239 := by decide
def own_v1a0_127 (i2 : Int32) (b0 : Int32) (b1 : Int32) (b2 : Int32) (b3 : Int32) (b4 : Int32) : Int32 := ((own_v1a0_7 i2 b0 b1 b2 b3 b4) &&& (7 : Int32))
def own_v1a0_74 (i2 : Int32) (b0 : Int32) (b1 : Int32) (b2 : Int32) (b3 : Int32) (b4 : Int32) : Int32 := ((own_v1a0_7 i2 b0 b1 b2 b3 b4) &&& (15 : Int32))
def own_v1a0_48 (i2 : Int32) (b0 : Int32) (b1 : Int32) (b2 : Int32) (b3 : Int32) (b4 : Int32) : Int32 := ((own_v1a0_7 i2 b0 b1 b2 b3 b4) &&& (31 : Int32))
def own_j1a0_161_L4 (i2 : Int32) (b0 : Int32) (b1 : Int32) (b2 : Int32) (b3 : Int32) (b4 : Int32) : Int32 :=
  if (own_v1a0_7 i2 b0 b1 b2 b3 b4) < (194 : Int32) then
    (3 : Int32)
  else
    if (223 : Int32) < (own_v1a0_7 i2 b0 b1 b2 b3 b4) then
      if (239 : Int32) < (own_v1a0_7 i2 b0 b1 b2 b3 b4) then
        if (244 : Int32) < (own_v1a0_7 i2 b0 b1 b2 b3 b4) then
          (3 : Int32)
        else
          if (own_v1a0_7 i2 b0 b1 b2 b3 b4) = (240 : Int32) then
            (3 : Int32)
          else
            if (own_v1a0_7 i2 b0 b1 b2 b3 b4) = (244 : Int32) then
              (3 : Int32)
            else
              (3 : Int32)
      else
        if (own_v1a0_7 i2 b0 b1 b2 b3 b4) = (224 : Int32) then
          (2 : Int32)
        else
          if (own_v1a0_7 i2 b0 b1 b2 b3 b4) = (237 : Int32) then
            (2 : Int32)
          else
            (2 : Int32)
    else
      (1 : Int32)
def own_j1a0_161_L5 (i2 : Int32) (b0 : Int32) (b1 : Int32) (b2 : Int32) (b3 : Int32) (b4 : Int32) : Int32 :=
  if (own_v1a0_7 i2 b0 b1 b2 b3 b4) < (194 : Int32) then
    (own_v1a0_127 i2 b0 b1 b2 b3 b4)
  else
    if (223 : Int32) < (own_v1a0_7 i2 b0 b1 b2 b3 b4) then
      if (239 : Int32) < (own_v1a0_7 i2 b0 b1 b2 b3 b4) then
        if (244 : Int32) < (own_v1a0_7 i2 b0 b1 b2 b3 b4) then
          (own_v1a0_127 i2 b0 b1 b2 b3 b4)
        else
          if (own_v1a0_7 i2 b0 b1 b2 b3 b4) = (240 : Int32) then
            (own_v1a0_127 i2 b0 b1 b2 b3 b4)
          else
            if (own_v1a0_7 i2 b0 b1 b2 b3 b4) = (244 : Int32) then
              (own_v1a0_127 i2 b0 b1 b2 b3 b4)
            else
              (own_v1a0_127 i2 b0 b1 b2 b3 b4)
      else
        if (own_v1a0_7 i2 b0 b1 b2 b3 b4) = (224 : Int32) then
          (own_v1a0_74 i2 b0 b1 b2 b3 b4)
        else
          if (own_v1a0_7 i2 b0 b1 b2 b3 b4) = (237 : Int32) then
            (own_v1a0_74 i2 b0 b1 b2 b3 b4)
          else
            (own_v1a0_74 i2 b0 b1 b2 b3 b4)
    else
      (own_v1a0_48 i2 b0 b1 b2 b3 b4)
def own_j1a0_161_L6 (i2 : Int32) (b0 : Int32) (b1 : Int32) (b2 : Int32) (b3 : Int32) (b4 : Int32) : Int32 :=
  if (own_v1a0_7 i2 b0 b1 b2 b3 b4) < (194 : Int32) then
    (144 : Int32)
  else
    if (223 : Int32) < (own_v1a0_7 i2 b0 b1 b2 b3 b4) then
      if (239 : Int32) < (own_v1a0_7 i2 b0 b1 b2 b3 b4) then
        if (244 : Int32) < (own_v1a0_7 i2 b0 b1 b2 b3 b4) then
          (144 : Int32)
        else
          if (own_v1a0_7 i2 b0 b1 b2 b3 b4) = (240 : Int32) then
            (144 : Int32)
          else
            if (own_v1a0_7 i2 b0 b1 b2 b3 b4) = (244 : Int32) then
              (128 : Int32)
            else
              (128 : Int32)
      else
        if (own_v1a0_7 i2 b0 b1 b2 b3 b4) = (224 : Int32) then
          (160 : Int32)
        else
          if (own_v1a0_7 i2 b0 b1 b2 b3 b4) = (237 : Int32) then
            (128 : Int32)
          else
            (128 : Int32)
    else
      (128 : Int32)
def own_j1a0_161_L7 (i2 : Int32) (b0 : Int32) (b1 : Int32) (b2 : Int32) (b3 : Int32) (b4 : Int32) : Int32 :=
  if (own_v1a0_7 i2 b0 b1 b2 b3 b4) < (194 : Int32) then
    (191 : Int32)
  else
    if (223 : Int32) < (own_v1a0_7 i2 b0 b1 b2 b3 b4) then
      if (239 : Int32) < (own_v1a0_7 i2 b0 b1 b2 b3 b4) then
        if (244 : Int32) < (own_v1a0_7 i2 b0 b1 b2 b3 b4) then
          (191 : Int32)
        else
          if (own_v1a0_7 i2 b0 b1 b2 b3 b4) = (240 : Int32) then
            (191 : Int32)
          else
            if (own_v1a0_7 i2 b0 b1 b2 b3 b4) = (244 : Int32) then
              (143 : Int32)
            else
              (191 : Int32)
      else
        if (own_v1a0_7 i2 b0 b1 b2 b3 b4) = (224 : Int32) then
          (191 : Int32)
        else
          if (own_v1a0_7 i2 b0 b1 b2 b3 b4) = (237 : Int32) then
            (159 : Int32)
          else
            (191 : Int32)
    else
      (191 : Int32)
theorem own_l4 (i2 : Int32) (b0 : Int32) (b1 : Int32) (b2 : Int32) (b3 : Int32) (b4 : Int32) : (own_j1a0_161_L4 i2 b0 b1 b2 b3 b4) = 1 ∨ (own_j1a0_161_L4 i2 b0 b1 b2 b3 b4) = 2 ∨ (own_j1a0_161_L4 i2 b0 b1 b2 b3 b4) = 3 := by
  unfold own_j1a0_161_L4
  repeat' split
  all_goals decide
def own_v1a0_191 (i2 : Int32) (b0 : Int32) (b1 : Int32) (b2 : Int32) (b3 : Int32) (b4 : Int32) : Int32 := (b1 &&& (255 : Int32))
def own_v1a0_220 (i2 : Int32) (b0 : Int32) (b1 : Int32) (b2 : Int32) (b3 : Int32) (b4 : Int32) : Int32 := (((own_j1a0_161_L5 i2 b0 b1 b2 b3 b4) <<< ((6 : Int32) &&& 31)) ||| ((own_v1a0_191 i2 b0 b1 b2 b3 b4) &&& (63 : Int32)))
def own_v1a0_191_2 (i2 : Int32) (b0 : Int32) (b1 : Int32) (b2 : Int32) (b3 : Int32) (b4 : Int32) : Int32 := (b1 &&& (255 : Int32))
def own_v1a0_220_2 (i2 : Int32) (b0 : Int32) (b1 : Int32) (b2 : Int32) (b3 : Int32) (b4 : Int32) : Int32 := (((own_j1a0_161_L5 i2 b0 b1 b2 b3 b4) <<< ((6 : Int32) &&& 31)) ||| ((own_v1a0_191_2 i2 b0 b1 b2 b3 b4) &&& (63 : Int32)))
def own_v1a0_191_3 (i2 : Int32) (b0 : Int32) (b1 : Int32) (b2 : Int32) (b3 : Int32) (b4 : Int32) : Int32 := (b2 &&& (255 : Int32))
def own_v1a0_220_3 (i2 : Int32) (b0 : Int32) (b1 : Int32) (b2 : Int32) (b3 : Int32) (b4 : Int32) : Int32 := (((own_v1a0_220_2 i2 b0 b1 b2 b3 b4) <<< ((6 : Int32) &&& 31)) ||| ((own_v1a0_191_3 i2 b0 b1 b2 b3 b4) &&& (63 : Int32)))
def own_v1a0_191_4 (i2 : Int32) (b0 : Int32) (b1 : Int32) (b2 : Int32) (b3 : Int32) (b4 : Int32) : Int32 := (b1 &&& (255 : Int32))
def own_v1a0_220_4 (i2 : Int32) (b0 : Int32) (b1 : Int32) (b2 : Int32) (b3 : Int32) (b4 : Int32) : Int32 := (((own_j1a0_161_L5 i2 b0 b1 b2 b3 b4) <<< ((6 : Int32) &&& 31)) ||| ((own_v1a0_191_4 i2 b0 b1 b2 b3 b4) &&& (63 : Int32)))
def own_v1a0_191_5 (i2 : Int32) (b0 : Int32) (b1 : Int32) (b2 : Int32) (b3 : Int32) (b4 : Int32) : Int32 := (b2 &&& (255 : Int32))
def own_v1a0_220_5 (i2 : Int32) (b0 : Int32) (b1 : Int32) (b2 : Int32) (b3 : Int32) (b4 : Int32) : Int32 := (((own_v1a0_220_4 i2 b0 b1 b2 b3 b4) <<< ((6 : Int32) &&& 31)) ||| ((own_v1a0_191_5 i2 b0 b1 b2 b3 b4) &&& (63 : Int32)))
def own_v1a0_191_6 (i2 : Int32) (b0 : Int32) (b1 : Int32) (b2 : Int32) (b3 : Int32) (b4 : Int32) : Int32 := (b3 &&& (255 : Int32))
def own_v1a0_220_6 (i2 : Int32) (b0 : Int32) (b1 : Int32) (b2 : Int32) (b3 : Int32) (b4 : Int32) : Int32 := (((own_v1a0_220_5 i2 b0 b1 b2 b3 b4) <<< ((6 : Int32) &&& 31)) ||| ((own_v1a0_191_6 i2 b0 b1 b2 b3 b4) &&& (63 : Int32)))
def own_r1a0_161 (i2 : Int32) (b0 : Int32) (b1 : Int32) (b2 : Int32) (b3 : Int32) (b4 : Int32) : Int32 :=
  if (own_j1a0_161_L4 i2 b0 b1 b2 b3 b4) < (i2 - (0 : Int32)) then
    if (own_j1a0_161_L4 i2 b0 b1 b2 b3 b4) = (1 : Int32) then
      if (own_v1a0_191 i2 b0 b1 b2 b3 b4) < (own_j1a0_161_L6 i2 b0 b1 b2 b3 b4) then
        (-1 : Int32)
      else
        if (own_j1a0_161_L7 i2 b0 b1 b2 b3 b4) < (own_v1a0_191 i2 b0 b1 b2 b3 b4) then
          (-1 : Int32)
        else
          (own_v1a0_220 i2 b0 b1 b2 b3 b4)
    else
      if (own_j1a0_161_L4 i2 b0 b1 b2 b3 b4) = (2 : Int32) then
        if (own_v1a0_191_2 i2 b0 b1 b2 b3 b4) < (own_j1a0_161_L6 i2 b0 b1 b2 b3 b4) then
          (-1 : Int32)
        else
          if (own_j1a0_161_L7 i2 b0 b1 b2 b3 b4) < (own_v1a0_191_2 i2 b0 b1 b2 b3 b4) then
            (-1 : Int32)
          else
            if (own_v1a0_191_3 i2 b0 b1 b2 b3 b4) < (128 : Int32) then
              (-1 : Int32)
            else
              if (191 : Int32) < (own_v1a0_191_3 i2 b0 b1 b2 b3 b4) then
                (-1 : Int32)
              else
                (own_v1a0_220_3 i2 b0 b1 b2 b3 b4)
      else
        if (own_v1a0_191_4 i2 b0 b1 b2 b3 b4) < (own_j1a0_161_L6 i2 b0 b1 b2 b3 b4) then
          (-1 : Int32)
        else
          if (own_j1a0_161_L7 i2 b0 b1 b2 b3 b4) < (own_v1a0_191_4 i2 b0 b1 b2 b3 b4) then
            (-1 : Int32)
          else
            if (own_v1a0_191_5 i2 b0 b1 b2 b3 b4) < (128 : Int32) then
              (-1 : Int32)
            else
              if (191 : Int32) < (own_v1a0_191_5 i2 b0 b1 b2 b3 b4) then
                (-1 : Int32)
              else
                if (own_v1a0_191_6 i2 b0 b1 b2 b3 b4) < (128 : Int32) then
                  (-1 : Int32)
                else
                  if (191 : Int32) < (own_v1a0_191_6 i2 b0 b1 b2 b3 b4) then
                    (-1 : Int32)
                  else
                    (own_v1a0_220_6 i2 b0 b1 b2 b3 b4)
  else
    (-1 : Int32)
theorem own_d1_0 : decode prog_153_method_2_code 0 = .ok (.aload_n 0, 1) := by decide +kernel
theorem own_d1_1 : decode prog_153_method_2_code 1 = .ok (.iload_n 1, 1) := by decide +kernel
theorem own_d1_2 : decode prog_153_method_2_code 2 = .ok (.baload, 1) := by decide +kernel
theorem own_d1_3 : decode prog_153_method_2_code 3 = .ok (.sipush 255, 3) := by decide +kernel
theorem own_d1_6 : decode prog_153_method_2_code 6 = .ok (.iand, 1) := by decide +kernel
theorem own_d1_7 : decode prog_153_method_2_code 7 = .ok (.istore_n 3, 1) := by decide +kernel
theorem own_d1_8 : decode prog_153_method_2_code 8 = .ok (.iload_n 3, 1) := by decide +kernel
theorem own_d1_9 : decode prog_153_method_2_code 9 = .ok (.sipush 128, 3) := by decide +kernel
theorem own_d1_12 : decode prog_153_method_2_code 12 = .ok (.if_icmp .ge 5, 3) := by decide +kernel
theorem own_d1_15 : decode prog_153_method_2_code 15 = .ok (.iload_n 3, 1) := by decide +kernel
theorem own_d1_16 : decode prog_153_method_2_code 16 = .ok (.ireturn, 1) := by decide +kernel
theorem own_d1_17 : decode prog_153_method_2_code 17 = .ok (.sipush 128, 3) := by decide +kernel
theorem own_d1_20 : decode prog_153_method_2_code 20 = .ok (.istore 6, 2) := by decide +kernel
theorem own_d1_22 : decode prog_153_method_2_code 22 = .ok (.sipush 191, 3) := by decide +kernel
theorem own_d1_25 : decode prog_153_method_2_code 25 = .ok (.istore 7, 2) := by decide +kernel
theorem own_d1_27 : decode prog_153_method_2_code 27 = .ok (.iload_n 3, 1) := by decide +kernel
theorem own_d1_28 : decode prog_153_method_2_code 28 = .ok (.sipush 194, 3) := by decide +kernel
theorem own_d1_31 : decode prog_153_method_2_code 31 = .ok (.if_icmp .lt 22, 3) := by decide +kernel
theorem own_d1_34 : decode prog_153_method_2_code 34 = .ok (.iload_n 3, 1) := by decide +kernel
theorem own_d1_35 : decode prog_153_method_2_code 35 = .ok (.sipush 223, 3) := by decide +kernel
theorem own_d1_38 : decode prog_153_method_2_code 38 = .ok (.if_icmp .gt 15, 3) := by decide +kernel
theorem own_d1_41 : decode prog_153_method_2_code 41 = .ok (.iconst 1, 1) := by decide +kernel
theorem own_d1_42 : decode prog_153_method_2_code 42 = .ok (.istore 4, 2) := by decide +kernel
theorem own_d1_44 : decode prog_153_method_2_code 44 = .ok (.iload_n 3, 1) := by decide +kernel
theorem own_d1_45 : decode prog_153_method_2_code 45 = .ok (.bipush 31, 2) := by decide +kernel
theorem own_d1_47 : decode prog_153_method_2_code 47 = .ok (.iand, 1) := by decide +kernel
theorem own_d1_48 : decode prog_153_method_2_code 48 = .ok (.istore 5, 2) := by decide +kernel
theorem own_d1_50 : decode prog_153_method_2_code 50 = .ok (.goto 111, 3) := by decide +kernel
theorem own_d1_53 : decode prog_153_method_2_code 53 = .ok (.iload_n 3, 1) := by decide +kernel
theorem own_d1_54 : decode prog_153_method_2_code 54 = .ok (.sipush 224, 3) := by decide +kernel
theorem own_d1_57 : decode prog_153_method_2_code 57 = .ok (.if_icmp .lt 49, 3) := by decide +kernel
theorem own_d1_60 : decode prog_153_method_2_code 60 = .ok (.iload_n 3, 1) := by decide +kernel
theorem own_d1_61 : decode prog_153_method_2_code 61 = .ok (.sipush 239, 3) := by decide +kernel
theorem own_d1_64 : decode prog_153_method_2_code 64 = .ok (.if_icmp .gt 42, 3) := by decide +kernel
theorem own_d1_67 : decode prog_153_method_2_code 67 = .ok (.iconst 2, 1) := by decide +kernel
theorem own_d1_68 : decode prog_153_method_2_code 68 = .ok (.istore 4, 2) := by decide +kernel
theorem own_d1_70 : decode prog_153_method_2_code 70 = .ok (.iload_n 3, 1) := by decide +kernel
theorem own_d1_71 : decode prog_153_method_2_code 71 = .ok (.bipush 15, 2) := by decide +kernel
theorem own_d1_73 : decode prog_153_method_2_code 73 = .ok (.iand, 1) := by decide +kernel
theorem own_d1_74 : decode prog_153_method_2_code 74 = .ok (.istore 5, 2) := by decide +kernel
theorem own_d1_76 : decode prog_153_method_2_code 76 = .ok (.iload_n 3, 1) := by decide +kernel
theorem own_d1_77 : decode prog_153_method_2_code 77 = .ok (.sipush 224, 3) := by decide +kernel
theorem own_d1_80 : decode prog_153_method_2_code 80 = .ok (.if_icmp .ne 11, 3) := by decide +kernel
theorem own_d1_83 : decode prog_153_method_2_code 83 = .ok (.sipush 160, 3) := by decide +kernel
theorem own_d1_86 : decode prog_153_method_2_code 86 = .ok (.istore 6, 2) := by decide +kernel
theorem own_d1_88 : decode prog_153_method_2_code 88 = .ok (.goto 73, 3) := by decide +kernel
theorem own_d1_91 : decode prog_153_method_2_code 91 = .ok (.iload_n 3, 1) := by decide +kernel
theorem own_d1_92 : decode prog_153_method_2_code 92 = .ok (.sipush 237, 3) := by decide +kernel
theorem own_d1_95 : decode prog_153_method_2_code 95 = .ok (.if_icmp .ne 66, 3) := by decide +kernel
theorem own_d1_98 : decode prog_153_method_2_code 98 = .ok (.sipush 159, 3) := by decide +kernel
theorem own_d1_101 : decode prog_153_method_2_code 101 = .ok (.istore 7, 2) := by decide +kernel
theorem own_d1_103 : decode prog_153_method_2_code 103 = .ok (.goto 58, 3) := by decide +kernel
theorem own_d1_106 : decode prog_153_method_2_code 106 = .ok (.iload_n 3, 1) := by decide +kernel
theorem own_d1_107 : decode prog_153_method_2_code 107 = .ok (.sipush 240, 3) := by decide +kernel
theorem own_d1_110 : decode prog_153_method_2_code 110 = .ok (.if_icmp .lt 49, 3) := by decide +kernel
theorem own_d1_113 : decode prog_153_method_2_code 113 = .ok (.iload_n 3, 1) := by decide +kernel
theorem own_d1_114 : decode prog_153_method_2_code 114 = .ok (.sipush 244, 3) := by decide +kernel
theorem own_d1_117 : decode prog_153_method_2_code 117 = .ok (.if_icmp .gt 42, 3) := by decide +kernel
theorem own_d1_120 : decode prog_153_method_2_code 120 = .ok (.iconst 3, 1) := by decide +kernel
theorem own_d1_121 : decode prog_153_method_2_code 121 = .ok (.istore 4, 2) := by decide +kernel
theorem own_d1_123 : decode prog_153_method_2_code 123 = .ok (.iload_n 3, 1) := by decide +kernel
theorem own_d1_124 : decode prog_153_method_2_code 124 = .ok (.bipush 7, 2) := by decide +kernel
theorem own_d1_126 : decode prog_153_method_2_code 126 = .ok (.iand, 1) := by decide +kernel
theorem own_d1_127 : decode prog_153_method_2_code 127 = .ok (.istore 5, 2) := by decide +kernel
theorem own_d1_129 : decode prog_153_method_2_code 129 = .ok (.iload_n 3, 1) := by decide +kernel
theorem own_d1_130 : decode prog_153_method_2_code 130 = .ok (.sipush 240, 3) := by decide +kernel
theorem own_d1_133 : decode prog_153_method_2_code 133 = .ok (.if_icmp .ne 11, 3) := by decide +kernel
theorem own_d1_136 : decode prog_153_method_2_code 136 = .ok (.sipush 144, 3) := by decide +kernel
theorem own_d1_139 : decode prog_153_method_2_code 139 = .ok (.istore 6, 2) := by decide +kernel
theorem own_d1_141 : decode prog_153_method_2_code 141 = .ok (.goto 20, 3) := by decide +kernel
theorem own_d1_144 : decode prog_153_method_2_code 144 = .ok (.iload_n 3, 1) := by decide +kernel
theorem own_d1_145 : decode prog_153_method_2_code 145 = .ok (.sipush 244, 3) := by decide +kernel
theorem own_d1_148 : decode prog_153_method_2_code 148 = .ok (.if_icmp .ne 13, 3) := by decide +kernel
theorem own_d1_151 : decode prog_153_method_2_code 151 = .ok (.sipush 143, 3) := by decide +kernel
theorem own_d1_154 : decode prog_153_method_2_code 154 = .ok (.istore 7, 2) := by decide +kernel
theorem own_d1_156 : decode prog_153_method_2_code 156 = .ok (.goto 5, 3) := by decide +kernel
theorem own_d1_159 : decode prog_153_method_2_code 159 = .ok (.iconst (-1), 1) := by decide +kernel
theorem own_d1_160 : decode prog_153_method_2_code 160 = .ok (.ireturn, 1) := by decide +kernel
theorem own_d1_161 : decode prog_153_method_2_code 161 = .ok (.iload_n 2, 1) := by decide +kernel
theorem own_d1_162 : decode prog_153_method_2_code 162 = .ok (.iload_n 1, 1) := by decide +kernel
theorem own_d1_163 : decode prog_153_method_2_code 163 = .ok (.isub, 1) := by decide +kernel
theorem own_d1_164 : decode prog_153_method_2_code 164 = .ok (.iload 4, 2) := by decide +kernel
theorem own_d1_166 : decode prog_153_method_2_code 166 = .ok (.if_icmp .gt 5, 3) := by decide +kernel
theorem own_d1_169 : decode prog_153_method_2_code 169 = .ok (.iconst (-1), 1) := by decide +kernel
theorem own_d1_170 : decode prog_153_method_2_code 170 = .ok (.ireturn, 1) := by decide +kernel
theorem own_d1_171 : decode prog_153_method_2_code 171 = .ok (.iconst 1, 1) := by decide +kernel
theorem own_d1_172 : decode prog_153_method_2_code 172 = .ok (.istore 8, 2) := by decide +kernel
theorem own_d1_174 : decode prog_153_method_2_code 174 = .ok (.iload 8, 2) := by decide +kernel
theorem own_d1_176 : decode prog_153_method_2_code 176 = .ok (.iload 4, 2) := by decide +kernel
theorem own_d1_178 : decode prog_153_method_2_code 178 = .ok (.if_icmp .gt 60, 3) := by decide +kernel
theorem own_d1_181 : decode prog_153_method_2_code 181 = .ok (.aload_n 0, 1) := by decide +kernel
theorem own_d1_182 : decode prog_153_method_2_code 182 = .ok (.iload_n 1, 1) := by decide +kernel
theorem own_d1_183 : decode prog_153_method_2_code 183 = .ok (.iload 8, 2) := by decide +kernel
theorem own_d1_185 : decode prog_153_method_2_code 185 = .ok (.iadd, 1) := by decide +kernel
theorem own_d1_186 : decode prog_153_method_2_code 186 = .ok (.baload, 1) := by decide +kernel
theorem own_d1_187 : decode prog_153_method_2_code 187 = .ok (.sipush 255, 3) := by decide +kernel
theorem own_d1_190 : decode prog_153_method_2_code 190 = .ok (.iand, 1) := by decide +kernel
theorem own_d1_191 : decode prog_153_method_2_code 191 = .ok (.istore 9, 2) := by decide +kernel
theorem own_d1_193 : decode prog_153_method_2_code 193 = .ok (.iload 9, 2) := by decide +kernel
theorem own_d1_195 : decode prog_153_method_2_code 195 = .ok (.iload 6, 2) := by decide +kernel
theorem own_d1_197 : decode prog_153_method_2_code 197 = .ok (.if_icmp .lt 10, 3) := by decide +kernel
theorem own_d1_200 : decode prog_153_method_2_code 200 = .ok (.iload 9, 2) := by decide +kernel
theorem own_d1_202 : decode prog_153_method_2_code 202 = .ok (.iload 7, 2) := by decide +kernel
theorem own_d1_204 : decode prog_153_method_2_code 204 = .ok (.if_icmp .le 5, 3) := by decide +kernel
theorem own_d1_207 : decode prog_153_method_2_code 207 = .ok (.iconst (-1), 1) := by decide +kernel
theorem own_d1_208 : decode prog_153_method_2_code 208 = .ok (.ireturn, 1) := by decide +kernel
theorem own_d1_209 : decode prog_153_method_2_code 209 = .ok (.iload 5, 2) := by decide +kernel
theorem own_d1_211 : decode prog_153_method_2_code 211 = .ok (.bipush 6, 2) := by decide +kernel
theorem own_d1_213 : decode prog_153_method_2_code 213 = .ok (.ishl, 1) := by decide +kernel
theorem own_d1_214 : decode prog_153_method_2_code 214 = .ok (.iload 9, 2) := by decide +kernel
theorem own_d1_216 : decode prog_153_method_2_code 216 = .ok (.bipush 63, 2) := by decide +kernel
theorem own_d1_218 : decode prog_153_method_2_code 218 = .ok (.iand, 1) := by decide +kernel
theorem own_d1_219 : decode prog_153_method_2_code 219 = .ok (.ior, 1) := by decide +kernel
theorem own_d1_220 : decode prog_153_method_2_code 220 = .ok (.istore 5, 2) := by decide +kernel
theorem own_d1_222 : decode prog_153_method_2_code 222 = .ok (.sipush 128, 3) := by decide +kernel
theorem own_d1_225 : decode prog_153_method_2_code 225 = .ok (.istore 6, 2) := by decide +kernel
theorem own_d1_227 : decode prog_153_method_2_code 227 = .ok (.sipush 191, 3) := by decide +kernel
theorem own_d1_230 : decode prog_153_method_2_code 230 = .ok (.istore 7, 2) := by decide +kernel
theorem own_d1_232 : decode prog_153_method_2_code 232 = .ok (.iinc 8 1, 3) := by decide +kernel
theorem own_d1_235 : decode prog_153_method_2_code 235 = .ok (.goto (-61), 3) := by decide +kernel
theorem own_d1_238 : decode prog_153_method_2_code 238 = .ok (.iload 5, 2) := by decide +kernel
theorem own_d1_240 : decode prog_153_method_2_code 240 = .ok (.ireturn, 1) := by decide +kernel
theorem own_pn2 : plainName "traceward/schema/Utf8" = true := by first | (simp [plainName, overriddenIn]; done) | decide +kernel
theorem own_ef1a0 (m : MethodId) (x0 : Addr) (x2 : Int32) : entryFrame m #[(.ref x0), (.int (0 : Int32)), (.int x2)] 10 = mkF m 0 #[.val (.ref x0), .val (.int (0 : Int32)), .val (.int x2), .unset, .unset, .unset, .unset, .unset, .unset, .unset] [] := by first | (simp [entryFrame, mkF, argsToLocals, Value.category]; done) | rfl
def own_cp0 (i2 : Int32) (b0 : Int32) (b1 : Int32) (b2 : Int32) (b3 : Int32) (b4 : Int32) : Int32 :=
  if (own_v1a0_7 i2 b0 b1 b2 b3 b4) < (128 : Int32) then
    (own_v1a0_7 i2 b0 b1 b2 b3 b4)
  else
    if (own_v1a0_7 i2 b0 b1 b2 b3 b4) < (194 : Int32) then
      (-1 : Int32)
    else
      if (223 : Int32) < (own_v1a0_7 i2 b0 b1 b2 b3 b4) then
        if (239 : Int32) < (own_v1a0_7 i2 b0 b1 b2 b3 b4) then
          if (244 : Int32) < (own_v1a0_7 i2 b0 b1 b2 b3 b4) then
            (-1 : Int32)
          else
            if (own_v1a0_7 i2 b0 b1 b2 b3 b4) = (240 : Int32) then
              (own_r1a0_161 i2 b0 b1 b2 b3 b4)
            else
              if (own_v1a0_7 i2 b0 b1 b2 b3 b4) = (244 : Int32) then
                (own_r1a0_161 i2 b0 b1 b2 b3 b4)
              else
                (own_r1a0_161 i2 b0 b1 b2 b3 b4)
        else
          if (own_v1a0_7 i2 b0 b1 b2 b3 b4) = (224 : Int32) then
            (own_r1a0_161 i2 b0 b1 b2 b3 b4)
          else
            if (own_v1a0_7 i2 b0 b1 b2 b3 b4) = (237 : Int32) then
              (own_r1a0_161 i2 b0 b1 b2 b3 b4)
            else
              (own_r1a0_161 i2 b0 b1 b2 b3 b4)
      else
        (own_r1a0_161 i2 b0 b1 b2 b3 b4)
def own_Q1a0 (Z : State) (r0 : Addr) (i2 : Int32) (kk : ClassId) (b0 : Int32) (b1 : Int32) (b2 : Int32) (b3 : Int32) (b4 : Int32) (h0 : Heap) (n0 : Nat) (v : Option Value) (h : Heap) (L : List Loc) : Prop := v = some (.int (own_cp0 i2 b0 b1 b2 b3 b4)) ∧ Fr n0 L ∧ h = h0
set_option maxRecDepth 65536 in
set_option maxHeartbeats 40000000 in
theorem own_rm1a0 (l : Launch) (Z : State) (a0 : Array Value) (hw : ∀ d ∈ tables_1, d.before a0 Z = true) (ws : List Jvm.Cond) (r0 : Addr) (i2 : Int32) (kk : ClassId) (b0 : Int32) (b1 : Int32) (b2 : Int32) (b3 : Int32) (b4 : Int32) (h0 : Heap) (n0 : Nat) (Z0 : n0 ≤ h0.size) (P0 : Arv Z h0 r0 kk .byte (5 : Int32) [(.int b0), (.int b1), (.int b2), (.int b3), (.int b4)] (.int (0 : Int32))) :
    MetFree l (⟨"traceward/schema/Utf8", "codePoint", "([BII)I"⟩ : MethodName) (head1 (Jvm.Cond.code (⟨"traceward/schema/Utf8", "codePoint", "([BII)I"⟩ : MethodName) prog_153_method_2_code 10 (some .int) :: ws) ({ frames := 0, cells := 0, slots := 0, locals := 0 } : Room)) (fun a U => a = #[(.ref r0), (.int (0 : Int32)), (.int i2)] ∧ Z.Warmed39 U.vm ∧ U.heap = h0) (fun _ _ _ _ _ => True) (fun _ U o U' => ∃ v L, o = .returned v ∧ own_Q1a0 Z r0 i2 kk b0 b1 b2 b3 b4 h0 n0 v U'.heap L ∧ FrameEnd U o U' L ({ frames := 0, cells := 0, slots := 0, locals := 0 } : Room).cells ({ frames := 0, cells := 0, slots := 0, locals := 0 } : Room).slots) := by
  refine MetFree.of_bodySF (plainFor_of_name own_pn2) hisR ?_
  intro p e s m args below meth c s₁ Bd hml0 hP hK
  obtain ⟨rfl, hZ, hh⟩ := hP
  have hx := Bd.exec
  have hby := Bd.bytes
  have hret := Bd.returns
  have hlk := BodyLoose.notSynchronized Bd
  have hml : c.maxLocals = 10 := hml0
  have hown : s.vm.findClass "traceward/schema/Utf8" = some m.cls := findClass_of_methodNamed Bd.named
  have hnm := (name_of_methodNamed Bd.named Bd.method).1
  have X0 : Stand p l e ({ frames := 0, cells := 0, slots := 0, locals := 0 } : Room) s m #[(.ref r0), (.int (0 : Int32)), (.int i2)] below meth c s₁ [] 0 0 := Stand.of_body Bd
  have e0 : s₁.heap = h0 := by rw [← hh, Bd.state]; rfl
  have N0 := Fr.nil n0
  have K0 : Keep h0 h0 [] := Keep.refl h0 _
  show ownE p e below s (own_Q1a0 Z r0 i2 kk b0 b1 b2 b3 b4 h0 n0) ({ frames := 0, cells := 0, slots := 0, locals := 0 } : Room).cells ({ frames := 0, cells := 0, slots := 0, locals := 0 } : Room).slots s₁ (entryFrame m #[(.ref r0), (.int (0 : Int32)), (.int i2)] 10)
  rw [own_ef1a0]
  refine ownE.go (T' := s₁) (f' := (mkF m 2 #[.val (.ref r0), .val (.int (0 : Int32)), .val (.int i2), .unset, .unset, .unset, .unset, .unset, .unset, .unset] [(.int (0 : Int32)), (.ref r0)])) (fun t kt => ?_) ?_
  · show Steps p.tables e below (s₁.setTop (mkF m 0 #[.val (.ref r0), .val (.int (0 : Int32)), .val (.int i2), .unset, .unset, .unset, .unset, .unset, .unset, .unset] [])) _
    refine XS.aloadN X0.here hx rfl (hb hby own_d1_0) rfl rfl ?_
    show Steps p.tables e below (s₁.setTop (mkF m 1 #[.val (.ref r0), .val (.int (0 : Int32)), .val (.int i2), .unset, .unset, .unset, .unset, .unset, .unset, .unset] [(.ref r0)])) _
    refine XS.iloadN X0.here hx rfl (hb hby own_d1_1) rfl ?_
    exact kt
  obtain ⟨cl1, Ar1, q1, S1, Nn1, Hh1, G1⟩ := id P0
  refine ownE.go (T' := s₁) (f' := (mkF m 3 #[.val (.ref r0), .val (.int (0 : Int32)), .val (.int i2), .unset, .unset, .unset, .unset, .unset, .unset, .unset] [(.int b0)])) (fun t kt => X0.baloadBytes hx (j := (0 : Int32)) (v := (.int b0)) (by rw [e0]; exact Ar1.1) (State.isArrayOf_alike hZ.alike Ar1.2.1) Ar1.2.2 (inb_of S1 ⟨by decide, by decide⟩) (Hh1.at (inb_of S1 ⟨by decide, by decide⟩) rfl) (g := (mkF m 2 #[.val (.ref r0), .val (.int (0 : Int32)), .val (.int i2), .unset, .unset, .unset, .unset, .unset, .unset, .unset] [(.int (0 : Int32)), (.ref r0)])) rfl rfl (hb hby own_d1_2) _ kt) ?_
  refine ownE.go (T' := s₁) (f' := (mkF m 12 #[.val (.ref r0), .val (.int (0 : Int32)), .val (.int i2), .val (.int (own_v1a0_7 i2 b0 b1 b2 b3 b4)), .unset, .unset, .unset, .unset, .unset, .unset] [(.int (128 : Int32)), (.int (own_v1a0_7 i2 b0 b1 b2 b3 b4))])) (fun t kt => ?_) ?_
  · show Steps p.tables e below (s₁.setTop (mkF m 3 #[.val (.ref r0), .val (.int (0 : Int32)), .val (.int i2), .unset, .unset, .unset, .unset, .unset, .unset, .unset] [(.int b0)])) _
    refine XS.sipush X0.here hx rfl (hb hby own_d1_3) ?_
    show Steps p.tables e below (s₁.setTop (mkF m 6 #[.val (.ref r0), .val (.int (0 : Int32)), .val (.int i2), .unset, .unset, .unset, .unset, .unset, .unset, .unset] [(.int (255 : Int32)), (.int b0)])) _
    refine XS.iand X0.here hx rfl (hb hby own_d1_6) rfl ?_
    show Steps p.tables e below (s₁.setTop (mkF m 7 #[.val (.ref r0), .val (.int (0 : Int32)), .val (.int i2), .unset, .unset, .unset, .unset, .unset, .unset, .unset] [(.int (b0 &&& (255 : Int32)))])) _
    refine XS.istoreN X0.here hx rfl (hb hby own_d1_7) rfl (l' := #[.val (.ref r0), .val (.int (0 : Int32)), .val (.int i2), .val (.int (own_v1a0_7 i2 b0 b1 b2 b3 b4)), .unset, .unset, .unset, .unset, .unset, .unset]) rfl ?_
    show Steps p.tables e below (s₁.setTop (mkF m 8 #[.val (.ref r0), .val (.int (0 : Int32)), .val (.int i2), .val (.int (own_v1a0_7 i2 b0 b1 b2 b3 b4)), .unset, .unset, .unset, .unset, .unset, .unset] [])) _
    refine XS.iloadN X0.here hx rfl (hb hby own_d1_8) rfl ?_
    show Steps p.tables e below (s₁.setTop (mkF m 9 #[.val (.ref r0), .val (.int (0 : Int32)), .val (.int i2), .val (.int (own_v1a0_7 i2 b0 b1 b2 b3 b4)), .unset, .unset, .unset, .unset, .unset, .unset] [(.int (own_v1a0_7 i2 b0 b1 b2 b3 b4))])) _
    refine XS.sipush X0.here hx rfl (hb hby own_d1_9) ?_
    exact kt
  by_cases hc2 : (own_v1a0_7 i2 b0 b1 b2 b3 b4) < (128 : Int32)
  · -- pc 12
    refine ownE.go (T' := s₁) (f' := (mkF m 15 #[.val (.ref r0), .val (.int (0 : Int32)), .val (.int i2), .val (.int (own_v1a0_7 i2 b0 b1 b2 b3 b4)), .unset, .unset, .unset, .unset, .unset, .unset] [])) (fun t kt => XS.icmpNo (g := (mkF m 12 #[.val (.ref r0), .val (.int (0 : Int32)), .val (.int i2), .val (.int (own_v1a0_7 i2 b0 b1 b2 b3 b4)), .unset, .unset, .unset, .unset, .unset, .unset] [(.int (128 : Int32)), (.int (own_v1a0_7 i2 b0 b1 b2 b3 b4))])) X0.here hx rfl (hb hby own_d1_12) rfl (Jvm.Free.XT.ii_ge_f hc2) kt) ?_
    refine ownE.go (T' := s₁) (f' := (mkF m 16 #[.val (.ref r0), .val (.int (0 : Int32)), .val (.int i2), .val (.int (own_v1a0_7 i2 b0 b1 b2 b3 b4)), .unset, .unset, .unset, .unset, .unset, .unset] [(.int (own_v1a0_7 i2 b0 b1 b2 b3 b4))])) (fun t kt => ?_) ?_
    · show Steps p.tables e below (s₁.setTop (mkF m 15 #[.val (.ref r0), .val (.int (0 : Int32)), .val (.int i2), .val (.int (own_v1a0_7 i2 b0 b1 b2 b3 b4)), .unset, .unset, .unset, .unset, .unset, .unset] [])) _
      refine XS.iloadN X0.here hx rfl (hb hby own_d1_15) rfl ?_
      exact kt
    refine ownE.retI X0 hx hlk hret (hb hby own_d1_16) ?_ (by decide) (by decide)
    show own_Q1a0 Z r0 i2 kk b0 b1 b2 b3 b4 h0 n0 _ s₁.heap _
    rw [e0]
    exact ⟨(by rw [own_cp0, if_pos hc2] <;> first | rfl | decide), N0, rfl⟩
  · -- pc 12
    refine ownE.go (T' := s₁) (f' := (mkF m 17 #[.val (.ref r0), .val (.int (0 : Int32)), .val (.int i2), .val (.int (own_v1a0_7 i2 b0 b1 b2 b3 b4)), .unset, .unset, .unset, .unset, .unset, .unset] [])) (fun t kt => XS.icmpYes (g := (mkF m 12 #[.val (.ref r0), .val (.int (0 : Int32)), .val (.int i2), .val (.int (own_v1a0_7 i2 b0 b1 b2 b3 b4)), .unset, .unset, .unset, .unset, .unset, .unset] [(.int (128 : Int32)), (.int (own_v1a0_7 i2 b0 b1 b2 b3 b4))])) X0.here hx rfl (pc0 := 12) (pc' := 17) rfl (hb hby own_d1_12) rfl (Jvm.Free.XT.ii_ge_t hc2) (by decide) (by decide) kt) ?_
    have J16 : ∀ (TJ16 : State) (locsJ16 : List Loc), Stand p l e ({ frames := 0, cells := 0, slots := 0, locals := 0 } : Room) s m #[(.ref r0), (.int (0 : Int32)), (.int i2)] below meth c TJ16 locsJ16 0 0 → TJ16.heap = h0 → Fr n0 locsJ16 → own_cp0 i2 b0 b1 b2 b3 b4 = own_r1a0_161 i2 b0 b1 b2 b3 b4 → ownE p e below s (own_Q1a0 Z r0 i2 kk b0 b1 b2 b3 b4 h0 n0) ({ frames := 0, cells := 0, slots := 0, locals := 0 } : Room).cells ({ frames := 0, cells := 0, slots := 0, locals := 0 } : Room).slots TJ16 (mkF m 161 #[.val (.ref r0), .val (.int (0 : Int32)), .val (.int i2), .val (.int (own_v1a0_7 i2 b0 b1 b2 b3 b4)), .val (.int (own_j1a0_161_L4 i2 b0 b1 b2 b3 b4)), .val (.int (own_j1a0_161_L5 i2 b0 b1 b2 b3 b4)), .val (.int (own_j1a0_161_L6 i2 b0 b1 b2 b3 b4)), .val (.int (own_j1a0_161_L7 i2 b0 b1 b2 b3 b4)), .unset, .unset] []) := by
      intro TJ16 locsJ16 XJ16 eJ16 NJ16 hv16
      refine ownE.go (T' := TJ16) (f' := (mkF m 166 #[.val (.ref r0), .val (.int (0 : Int32)), .val (.int i2), .val (.int (own_v1a0_7 i2 b0 b1 b2 b3 b4)), .val (.int (own_j1a0_161_L4 i2 b0 b1 b2 b3 b4)), .val (.int (own_j1a0_161_L5 i2 b0 b1 b2 b3 b4)), .val (.int (own_j1a0_161_L6 i2 b0 b1 b2 b3 b4)), .val (.int (own_j1a0_161_L7 i2 b0 b1 b2 b3 b4)), .unset, .unset] [(.int (own_j1a0_161_L4 i2 b0 b1 b2 b3 b4)), (.int (i2 - (0 : Int32)))])) (fun t kt => ?_) ?_
      · show Steps p.tables e below (TJ16.setTop (mkF m 161 #[.val (.ref r0), .val (.int (0 : Int32)), .val (.int i2), .val (.int (own_v1a0_7 i2 b0 b1 b2 b3 b4)), .val (.int (own_j1a0_161_L4 i2 b0 b1 b2 b3 b4)), .val (.int (own_j1a0_161_L5 i2 b0 b1 b2 b3 b4)), .val (.int (own_j1a0_161_L6 i2 b0 b1 b2 b3 b4)), .val (.int (own_j1a0_161_L7 i2 b0 b1 b2 b3 b4)), .unset, .unset] [])) _
        refine XS.iloadN XJ16.here hx rfl (hb hby own_d1_161) rfl ?_
        show Steps p.tables e below (TJ16.setTop (mkF m 162 #[.val (.ref r0), .val (.int (0 : Int32)), .val (.int i2), .val (.int (own_v1a0_7 i2 b0 b1 b2 b3 b4)), .val (.int (own_j1a0_161_L4 i2 b0 b1 b2 b3 b4)), .val (.int (own_j1a0_161_L5 i2 b0 b1 b2 b3 b4)), .val (.int (own_j1a0_161_L6 i2 b0 b1 b2 b3 b4)), .val (.int (own_j1a0_161_L7 i2 b0 b1 b2 b3 b4)), .unset, .unset] [(.int i2)])) _
        refine XS.iloadN XJ16.here hx rfl (hb hby own_d1_162) rfl ?_
        show Steps p.tables e below (TJ16.setTop (mkF m 163 #[.val (.ref r0), .val (.int (0 : Int32)), .val (.int i2), .val (.int (own_v1a0_7 i2 b0 b1 b2 b3 b4)), .val (.int (own_j1a0_161_L4 i2 b0 b1 b2 b3 b4)), .val (.int (own_j1a0_161_L5 i2 b0 b1 b2 b3 b4)), .val (.int (own_j1a0_161_L6 i2 b0 b1 b2 b3 b4)), .val (.int (own_j1a0_161_L7 i2 b0 b1 b2 b3 b4)), .unset, .unset] [(.int (0 : Int32)), (.int i2)])) _
        refine XS.isub XJ16.here hx rfl (hb hby own_d1_163) rfl ?_
        show Steps p.tables e below (TJ16.setTop (mkF m 164 #[.val (.ref r0), .val (.int (0 : Int32)), .val (.int i2), .val (.int (own_v1a0_7 i2 b0 b1 b2 b3 b4)), .val (.int (own_j1a0_161_L4 i2 b0 b1 b2 b3 b4)), .val (.int (own_j1a0_161_L5 i2 b0 b1 b2 b3 b4)), .val (.int (own_j1a0_161_L6 i2 b0 b1 b2 b3 b4)), .val (.int (own_j1a0_161_L7 i2 b0 b1 b2 b3 b4)), .unset, .unset] [(.int (i2 - (0 : Int32)))])) _
        refine XS.iload XJ16.here hx rfl (hb hby own_d1_164) rfl ?_
        exact kt
      by_cases hc17 : (own_j1a0_161_L4 i2 b0 b1 b2 b3 b4) < (i2 - (0 : Int32))
      · -- pc 166
        refine ownE.go (T' := TJ16) (f' := (mkF m 171 #[.val (.ref r0), .val (.int (0 : Int32)), .val (.int i2), .val (.int (own_v1a0_7 i2 b0 b1 b2 b3 b4)), .val (.int (own_j1a0_161_L4 i2 b0 b1 b2 b3 b4)), .val (.int (own_j1a0_161_L5 i2 b0 b1 b2 b3 b4)), .val (.int (own_j1a0_161_L6 i2 b0 b1 b2 b3 b4)), .val (.int (own_j1a0_161_L7 i2 b0 b1 b2 b3 b4)), .unset, .unset] [])) (fun t kt => XS.icmpYes (g := (mkF m 166 #[.val (.ref r0), .val (.int (0 : Int32)), .val (.int i2), .val (.int (own_v1a0_7 i2 b0 b1 b2 b3 b4)), .val (.int (own_j1a0_161_L4 i2 b0 b1 b2 b3 b4)), .val (.int (own_j1a0_161_L5 i2 b0 b1 b2 b3 b4)), .val (.int (own_j1a0_161_L6 i2 b0 b1 b2 b3 b4)), .val (.int (own_j1a0_161_L7 i2 b0 b1 b2 b3 b4)), .unset, .unset] [(.int (own_j1a0_161_L4 i2 b0 b1 b2 b3 b4)), (.int (i2 - (0 : Int32)))])) XJ16.here hx rfl (pc0 := 166) (pc' := 171) rfl (hb hby own_d1_166) rfl (Jvm.Free.XT.ii_gt_t hc17) (by decide) (by decide) kt) ?_
        rcases (own_l4 i2 b0 b1 b2 b3 b4) with hk18 | hk18 | hk18
        · -- (own_j1a0_161_L4 i2 b0 b1 b2 b3 b4) = 1
          have hf18 : (mkF m 171 #[.val (.ref r0), .val (.int (0 : Int32)), .val (.int i2), .val (.int (own_v1a0_7 i2 b0 b1 b2 b3 b4)), .val (.int (own_j1a0_161_L4 i2 b0 b1 b2 b3 b4)), .val (.int (own_j1a0_161_L5 i2 b0 b1 b2 b3 b4)), .val (.int (own_j1a0_161_L6 i2 b0 b1 b2 b3 b4)), .val (.int (own_j1a0_161_L7 i2 b0 b1 b2 b3 b4)), .unset, .unset] []) = (mkF m 171 #[.val (.ref r0), .val (.int (0 : Int32)), .val (.int i2), .val (.int (own_v1a0_7 i2 b0 b1 b2 b3 b4)), .val (.int (1 : Int32)), .val (.int (own_j1a0_161_L5 i2 b0 b1 b2 b3 b4)), .val (.int (own_j1a0_161_L6 i2 b0 b1 b2 b3 b4)), .val (.int (own_j1a0_161_L7 i2 b0 b1 b2 b3 b4)), .unset, .unset] []) := by rw [hk18]
          rw [hf18]
          refine ownE.go (T' := TJ16) (f' := (mkF m 178 #[.val (.ref r0), .val (.int (0 : Int32)), .val (.int i2), .val (.int (own_v1a0_7 i2 b0 b1 b2 b3 b4)), .val (.int (1 : Int32)), .val (.int (own_j1a0_161_L5 i2 b0 b1 b2 b3 b4)), .val (.int (own_j1a0_161_L6 i2 b0 b1 b2 b3 b4)), .val (.int (own_j1a0_161_L7 i2 b0 b1 b2 b3 b4)), .val (.int (1 : Int32)), .unset] [(.int (1 : Int32)), (.int (1 : Int32))])) (fun t kt => ?_) ?_
          · show Steps p.tables e below (TJ16.setTop (mkF m 171 #[.val (.ref r0), .val (.int (0 : Int32)), .val (.int i2), .val (.int (own_v1a0_7 i2 b0 b1 b2 b3 b4)), .val (.int (1 : Int32)), .val (.int (own_j1a0_161_L5 i2 b0 b1 b2 b3 b4)), .val (.int (own_j1a0_161_L6 i2 b0 b1 b2 b3 b4)), .val (.int (own_j1a0_161_L7 i2 b0 b1 b2 b3 b4)), .unset, .unset] [])) _
            refine XS.iconst XJ16.here hx rfl (hb hby own_d1_171) ?_
            show Steps p.tables e below (TJ16.setTop (mkF m 172 #[.val (.ref r0), .val (.int (0 : Int32)), .val (.int i2), .val (.int (own_v1a0_7 i2 b0 b1 b2 b3 b4)), .val (.int (1 : Int32)), .val (.int (own_j1a0_161_L5 i2 b0 b1 b2 b3 b4)), .val (.int (own_j1a0_161_L6 i2 b0 b1 b2 b3 b4)), .val (.int (own_j1a0_161_L7 i2 b0 b1 b2 b3 b4)), .unset, .unset] [(.int (1 : Int32))])) _
            refine XS.istore XJ16.here hx rfl (hb hby own_d1_172) rfl (l' := #[.val (.ref r0), .val (.int (0 : Int32)), .val (.int i2), .val (.int (own_v1a0_7 i2 b0 b1 b2 b3 b4)), .val (.int (1 : Int32)), .val (.int (own_j1a0_161_L5 i2 b0 b1 b2 b3 b4)), .val (.int (own_j1a0_161_L6 i2 b0 b1 b2 b3 b4)), .val (.int (own_j1a0_161_L7 i2 b0 b1 b2 b3 b4)), .val (.int (1 : Int32)), .unset]) rfl ?_
            show Steps p.tables e below (TJ16.setTop (mkF m 174 #[.val (.ref r0), .val (.int (0 : Int32)), .val (.int i2), .val (.int (own_v1a0_7 i2 b0 b1 b2 b3 b4)), .val (.int (1 : Int32)), .val (.int (own_j1a0_161_L5 i2 b0 b1 b2 b3 b4)), .val (.int (own_j1a0_161_L6 i2 b0 b1 b2 b3 b4)), .val (.int (own_j1a0_161_L7 i2 b0 b1 b2 b3 b4)), .val (.int (1 : Int32)), .unset] [])) _
            refine XS.iload XJ16.here hx rfl (hb hby own_d1_174) rfl ?_
            show Steps p.tables e below (TJ16.setTop (mkF m 176 #[.val (.ref r0), .val (.int (0 : Int32)), .val (.int i2), .val (.int (own_v1a0_7 i2 b0 b1 b2 b3 b4)), .val (.int (1 : Int32)), .val (.int (own_j1a0_161_L5 i2 b0 b1 b2 b3 b4)), .val (.int (own_j1a0_161_L6 i2 b0 b1 b2 b3 b4)), .val (.int (own_j1a0_161_L7 i2 b0 b1 b2 b3 b4)), .val (.int (1 : Int32)), .unset] [(.int (1 : Int32))])) _
            refine XS.iload XJ16.here hx rfl (hb hby own_d1_176) rfl ?_
            exact kt
          refine ownE.go (T' := TJ16) (f' := (mkF m 181 #[.val (.ref r0), .val (.int (0 : Int32)), .val (.int i2), .val (.int (own_v1a0_7 i2 b0 b1 b2 b3 b4)), .val (.int (1 : Int32)), .val (.int (own_j1a0_161_L5 i2 b0 b1 b2 b3 b4)), .val (.int (own_j1a0_161_L6 i2 b0 b1 b2 b3 b4)), .val (.int (own_j1a0_161_L7 i2 b0 b1 b2 b3 b4)), .val (.int (1 : Int32)), .unset] [])) (fun t kt => XS.icmpNo (g := (mkF m 178 #[.val (.ref r0), .val (.int (0 : Int32)), .val (.int i2), .val (.int (own_v1a0_7 i2 b0 b1 b2 b3 b4)), .val (.int (1 : Int32)), .val (.int (own_j1a0_161_L5 i2 b0 b1 b2 b3 b4)), .val (.int (own_j1a0_161_L6 i2 b0 b1 b2 b3 b4)), .val (.int (own_j1a0_161_L7 i2 b0 b1 b2 b3 b4)), .val (.int (1 : Int32)), .unset] [(.int (1 : Int32)), (.int (1 : Int32))])) XJ16.here hx rfl (hb hby own_d1_178) rfl (Jvm.Free.XT.ii_gt_f (by decide)) kt) ?_
          refine ownE.go (T' := TJ16) (f' := (mkF m 186 #[.val (.ref r0), .val (.int (0 : Int32)), .val (.int i2), .val (.int (own_v1a0_7 i2 b0 b1 b2 b3 b4)), .val (.int (1 : Int32)), .val (.int (own_j1a0_161_L5 i2 b0 b1 b2 b3 b4)), .val (.int (own_j1a0_161_L6 i2 b0 b1 b2 b3 b4)), .val (.int (own_j1a0_161_L7 i2 b0 b1 b2 b3 b4)), .val (.int (1 : Int32)), .unset] [(.int (1 : Int32)), (.ref r0)])) (fun t kt => ?_) ?_
          · show Steps p.tables e below (TJ16.setTop (mkF m 181 #[.val (.ref r0), .val (.int (0 : Int32)), .val (.int i2), .val (.int (own_v1a0_7 i2 b0 b1 b2 b3 b4)), .val (.int (1 : Int32)), .val (.int (own_j1a0_161_L5 i2 b0 b1 b2 b3 b4)), .val (.int (own_j1a0_161_L6 i2 b0 b1 b2 b3 b4)), .val (.int (own_j1a0_161_L7 i2 b0 b1 b2 b3 b4)), .val (.int (1 : Int32)), .unset] [])) _
            refine XS.aloadN XJ16.here hx rfl (hb hby own_d1_181) rfl rfl ?_
            show Steps p.tables e below (TJ16.setTop (mkF m 182 #[.val (.ref r0), .val (.int (0 : Int32)), .val (.int i2), .val (.int (own_v1a0_7 i2 b0 b1 b2 b3 b4)), .val (.int (1 : Int32)), .val (.int (own_j1a0_161_L5 i2 b0 b1 b2 b3 b4)), .val (.int (own_j1a0_161_L6 i2 b0 b1 b2 b3 b4)), .val (.int (own_j1a0_161_L7 i2 b0 b1 b2 b3 b4)), .val (.int (1 : Int32)), .unset] [(.ref r0)])) _
            refine XS.iloadN XJ16.here hx rfl (hb hby own_d1_182) rfl ?_
            show Steps p.tables e below (TJ16.setTop (mkF m 183 #[.val (.ref r0), .val (.int (0 : Int32)), .val (.int i2), .val (.int (own_v1a0_7 i2 b0 b1 b2 b3 b4)), .val (.int (1 : Int32)), .val (.int (own_j1a0_161_L5 i2 b0 b1 b2 b3 b4)), .val (.int (own_j1a0_161_L6 i2 b0 b1 b2 b3 b4)), .val (.int (own_j1a0_161_L7 i2 b0 b1 b2 b3 b4)), .val (.int (1 : Int32)), .unset] [(.int (0 : Int32)), (.ref r0)])) _
            refine XS.iload XJ16.here hx rfl (hb hby own_d1_183) rfl ?_
            show Steps p.tables e below (TJ16.setTop (mkF m 185 #[.val (.ref r0), .val (.int (0 : Int32)), .val (.int i2), .val (.int (own_v1a0_7 i2 b0 b1 b2 b3 b4)), .val (.int (1 : Int32)), .val (.int (own_j1a0_161_L5 i2 b0 b1 b2 b3 b4)), .val (.int (own_j1a0_161_L6 i2 b0 b1 b2 b3 b4)), .val (.int (own_j1a0_161_L7 i2 b0 b1 b2 b3 b4)), .val (.int (1 : Int32)), .unset] [(.int (1 : Int32)), (.int (0 : Int32)), (.ref r0)])) _
            refine XS.iadd XJ16.here hx rfl (hb hby own_d1_185) rfl ?_
            exact kt
          obtain ⟨cl19, Ar19, q19, S19, Nn19, Hh19, G19⟩ := id P0
          refine ownE.go (T' := TJ16) (f' := (mkF m 187 #[.val (.ref r0), .val (.int (0 : Int32)), .val (.int i2), .val (.int (own_v1a0_7 i2 b0 b1 b2 b3 b4)), .val (.int (1 : Int32)), .val (.int (own_j1a0_161_L5 i2 b0 b1 b2 b3 b4)), .val (.int (own_j1a0_161_L6 i2 b0 b1 b2 b3 b4)), .val (.int (own_j1a0_161_L7 i2 b0 b1 b2 b3 b4)), .val (.int (1 : Int32)), .unset] [(.int b1)])) (fun t kt => XJ16.baloadBytes hx (j := (1 : Int32)) (v := (.int b1)) (by rw [eJ16]; exact Ar19.1) (State.isArrayOf_alike hZ.alike Ar19.2.1) Ar19.2.2 (inb_of S19 ⟨by decide, by decide⟩) (Hh19.at (inb_of S19 ⟨by decide, by decide⟩) rfl) (g := (mkF m 186 #[.val (.ref r0), .val (.int (0 : Int32)), .val (.int i2), .val (.int (own_v1a0_7 i2 b0 b1 b2 b3 b4)), .val (.int (1 : Int32)), .val (.int (own_j1a0_161_L5 i2 b0 b1 b2 b3 b4)), .val (.int (own_j1a0_161_L6 i2 b0 b1 b2 b3 b4)), .val (.int (own_j1a0_161_L7 i2 b0 b1 b2 b3 b4)), .val (.int (1 : Int32)), .unset] [(.int (1 : Int32)), (.ref r0)])) rfl rfl (hb hby own_d1_186) _ kt) ?_
          refine ownE.go (T' := TJ16) (f' := (mkF m 197 #[.val (.ref r0), .val (.int (0 : Int32)), .val (.int i2), .val (.int (own_v1a0_7 i2 b0 b1 b2 b3 b4)), .val (.int (1 : Int32)), .val (.int (own_j1a0_161_L5 i2 b0 b1 b2 b3 b4)), .val (.int (own_j1a0_161_L6 i2 b0 b1 b2 b3 b4)), .val (.int (own_j1a0_161_L7 i2 b0 b1 b2 b3 b4)), .val (.int (1 : Int32)), .val (.int (own_v1a0_191 i2 b0 b1 b2 b3 b4))] [(.int (own_j1a0_161_L6 i2 b0 b1 b2 b3 b4)), (.int (own_v1a0_191 i2 b0 b1 b2 b3 b4))])) (fun t kt => ?_) ?_
          · show Steps p.tables e below (TJ16.setTop (mkF m 187 #[.val (.ref r0), .val (.int (0 : Int32)), .val (.int i2), .val (.int (own_v1a0_7 i2 b0 b1 b2 b3 b4)), .val (.int (1 : Int32)), .val (.int (own_j1a0_161_L5 i2 b0 b1 b2 b3 b4)), .val (.int (own_j1a0_161_L6 i2 b0 b1 b2 b3 b4)), .val (.int (own_j1a0_161_L7 i2 b0 b1 b2 b3 b4)), .val (.int (1 : Int32)), .unset] [(.int b1)])) _
            refine XS.sipush XJ16.here hx rfl (hb hby own_d1_187) ?_
            show Steps p.tables e below (TJ16.setTop (mkF m 190 #[.val (.ref r0), .val (.int (0 : Int32)), .val (.int i2), .val (.int (own_v1a0_7 i2 b0 b1 b2 b3 b4)), .val (.int (1 : Int32)), .val (.int (own_j1a0_161_L5 i2 b0 b1 b2 b3 b4)), .val (.int (own_j1a0_161_L6 i2 b0 b1 b2 b3 b4)), .val (.int (own_j1a0_161_L7 i2 b0 b1 b2 b3 b4)), .val (.int (1 : Int32)), .unset] [(.int (255 : Int32)), (.int b1)])) _
            refine XS.iand XJ16.here hx rfl (hb hby own_d1_190) rfl ?_
            show Steps p.tables e below (TJ16.setTop (mkF m 191 #[.val (.ref r0), .val (.int (0 : Int32)), .val (.int i2), .val (.int (own_v1a0_7 i2 b0 b1 b2 b3 b4)), .val (.int (1 : Int32)), .val (.int (own_j1a0_161_L5 i2 b0 b1 b2 b3 b4)), .val (.int (own_j1a0_161_L6 i2 b0 b1 b2 b3 b4)), .val (.int (own_j1a0_161_L7 i2 b0 b1 b2 b3 b4)), .val (.int (1 : Int32)), .unset] [(.int (b1 &&& (255 : Int32)))])) _
            refine XS.istore XJ16.here hx rfl (hb hby own_d1_191) rfl (l' := #[.val (.ref r0), .val (.int (0 : Int32)), .val (.int i2), .val (.int (own_v1a0_7 i2 b0 b1 b2 b3 b4)), .val (.int (1 : Int32)), .val (.int (own_j1a0_161_L5 i2 b0 b1 b2 b3 b4)), .val (.int (own_j1a0_161_L6 i2 b0 b1 b2 b3 b4)), .val (.int (own_j1a0_161_L7 i2 b0 b1 b2 b3 b4)), .val (.int (1 : Int32)), .val (.int (own_v1a0_191 i2 b0 b1 b2 b3 b4))]) rfl ?_
            show Steps p.tables e below (TJ16.setTop (mkF m 193 #[.val (.ref r0), .val (.int (0 : Int32)), .val (.int i2), .val (.int (own_v1a0_7 i2 b0 b1 b2 b3 b4)), .val (.int (1 : Int32)), .val (.int (own_j1a0_161_L5 i2 b0 b1 b2 b3 b4)), .val (.int (own_j1a0_161_L6 i2 b0 b1 b2 b3 b4)), .val (.int (own_j1a0_161_L7 i2 b0 b1 b2 b3 b4)), .val (.int (1 : Int32)), .val (.int (own_v1a0_191 i2 b0 b1 b2 b3 b4))] [])) _
            refine XS.iload XJ16.here hx rfl (hb hby own_d1_193) rfl ?_
            show Steps p.tables e below (TJ16.setTop (mkF m 195 #[.val (.ref r0), .val (.int (0 : Int32)), .val (.int i2), .val (.int (own_v1a0_7 i2 b0 b1 b2 b3 b4)), .val (.int (1 : Int32)), .val (.int (own_j1a0_161_L5 i2 b0 b1 b2 b3 b4)), .val (.int (own_j1a0_161_L6 i2 b0 b1 b2 b3 b4)), .val (.int (own_j1a0_161_L7 i2 b0 b1 b2 b3 b4)), .val (.int (1 : Int32)), .val (.int (own_v1a0_191 i2 b0 b1 b2 b3 b4))] [(.int (own_v1a0_191 i2 b0 b1 b2 b3 b4))])) _
            refine XS.iload XJ16.here hx rfl (hb hby own_d1_195) rfl ?_
            exact kt
          by_cases hc20 : (own_v1a0_191 i2 b0 b1 b2 b3 b4) < (own_j1a0_161_L6 i2 b0 b1 b2 b3 b4)
          · -- pc 197
            refine ownE.go (T' := TJ16) (f' := (mkF m 207 #[.val (.ref r0), .val (.int (0 : Int32)), .val (.int i2), .val (.int (own_v1a0_7 i2 b0 b1 b2 b3 b4)), .val (.int (1 : Int32)), .val (.int (own_j1a0_161_L5 i2 b0 b1 b2 b3 b4)), .val (.int (own_j1a0_161_L6 i2 b0 b1 b2 b3 b4)), .val (.int (own_j1a0_161_L7 i2 b0 b1 b2 b3 b4)), .val (.int (1 : Int32)), .val (.int (own_v1a0_191 i2 b0 b1 b2 b3 b4))] [])) (fun t kt => XS.icmpYes (g := (mkF m 197 #[.val (.ref r0), .val (.int (0 : Int32)), .val (.int i2), .val (.int (own_v1a0_7 i2 b0 b1 b2 b3 b4)), .val (.int (1 : Int32)), .val (.int (own_j1a0_161_L5 i2 b0 b1 b2 b3 b4)), .val (.int (own_j1a0_161_L6 i2 b0 b1 b2 b3 b4)), .val (.int (own_j1a0_161_L7 i2 b0 b1 b2 b3 b4)), .val (.int (1 : Int32)), .val (.int (own_v1a0_191 i2 b0 b1 b2 b3 b4))] [(.int (own_j1a0_161_L6 i2 b0 b1 b2 b3 b4)), (.int (own_v1a0_191 i2 b0 b1 b2 b3 b4))])) XJ16.here hx rfl (pc0 := 197) (pc' := 207) rfl (hb hby own_d1_197) rfl (Jvm.Free.XT.ii_lt_t hc20) (by decide) (by decide) kt) ?_
            refine ownE.go (T' := TJ16) (f' := (mkF m 208 #[.val (.ref r0), .val (.int (0 : Int32)), .val (.int i2), .val (.int (own_v1a0_7 i2 b0 b1 b2 b3 b4)), .val (.int (1 : Int32)), .val (.int (own_j1a0_161_L5 i2 b0 b1 b2 b3 b4)), .val (.int (own_j1a0_161_L6 i2 b0 b1 b2 b3 b4)), .val (.int (own_j1a0_161_L7 i2 b0 b1 b2 b3 b4)), .val (.int (1 : Int32)), .val (.int (own_v1a0_191 i2 b0 b1 b2 b3 b4))] [(.int (-1 : Int32))])) (fun t kt => ?_) ?_
            · show Steps p.tables e below (TJ16.setTop (mkF m 207 #[.val (.ref r0), .val (.int (0 : Int32)), .val (.int i2), .val (.int (own_v1a0_7 i2 b0 b1 b2 b3 b4)), .val (.int (1 : Int32)), .val (.int (own_j1a0_161_L5 i2 b0 b1 b2 b3 b4)), .val (.int (own_j1a0_161_L6 i2 b0 b1 b2 b3 b4)), .val (.int (own_j1a0_161_L7 i2 b0 b1 b2 b3 b4)), .val (.int (1 : Int32)), .val (.int (own_v1a0_191 i2 b0 b1 b2 b3 b4))] [])) _
              refine XS.iconst XJ16.here hx rfl (hb hby own_d1_207) ?_
              exact kt
            refine ownE.retI XJ16 hx hlk hret (hb hby own_d1_208) ?_ (by decide) (by decide)
            show own_Q1a0 Z r0 i2 kk b0 b1 b2 b3 b4 h0 n0 _ TJ16.heap _
            rw [eJ16]
            exact ⟨(by rw [hv16, own_r1a0_161, if_pos hc17, if_pos hk18, if_pos hc20] <;> first | rfl | decide), NJ16, rfl⟩
          · -- pc 197
            refine ownE.go (T' := TJ16) (f' := (mkF m 200 #[.val (.ref r0), .val (.int (0 : Int32)), .val (.int i2), .val (.int (own_v1a0_7 i2 b0 b1 b2 b3 b4)), .val (.int (1 : Int32)), .val (.int (own_j1a0_161_L5 i2 b0 b1 b2 b3 b4)), .val (.int (own_j1a0_161_L6 i2 b0 b1 b2 b3 b4)), .val (.int (own_j1a0_161_L7 i2 b0 b1 b2 b3 b4)), .val (.int (1 : Int32)), .val (.int (own_v1a0_191 i2 b0 b1 b2 b3 b4))] [])) (fun t kt => XS.icmpNo (g := (mkF m 197 #[.val (.ref r0), .val (.int (0 : Int32)), .val (.int i2), .val (.int (own_v1a0_7 i2 b0 b1 b2 b3 b4)), .val (.int (1 : Int32)), .val (.int (own_j1a0_161_L5 i2 b0 b1 b2 b3 b4)), .val (.int (own_j1a0_161_L6 i2 b0 b1 b2 b3 b4)), .val (.int (own_j1a0_161_L7 i2 b0 b1 b2 b3 b4)), .val (.int (1 : Int32)), .val (.int (own_v1a0_191 i2 b0 b1 b2 b3 b4))] [(.int (own_j1a0_161_L6 i2 b0 b1 b2 b3 b4)), (.int (own_v1a0_191 i2 b0 b1 b2 b3 b4))])) XJ16.here hx rfl (hb hby own_d1_197) rfl (Jvm.Free.XT.ii_lt_f hc20) kt) ?_
            refine ownE.go (T' := TJ16) (f' := (mkF m 204 #[.val (.ref r0), .val (.int (0 : Int32)), .val (.int i2), .val (.int (own_v1a0_7 i2 b0 b1 b2 b3 b4)), .val (.int (1 : Int32)), .val (.int (own_j1a0_161_L5 i2 b0 b1 b2 b3 b4)), .val (.int (own_j1a0_161_L6 i2 b0 b1 b2 b3 b4)), .val (.int (own_j1a0_161_L7 i2 b0 b1 b2 b3 b4)), .val (.int (1 : Int32)), .val (.int (own_v1a0_191 i2 b0 b1 b2 b3 b4))] [(.int (own_j1a0_161_L7 i2 b0 b1 b2 b3 b4)), (.int (own_v1a0_191 i2 b0 b1 b2 b3 b4))])) (fun t kt => ?_) ?_
            · show Steps p.tables e below (TJ16.setTop (mkF m 200 #[.val (.ref r0), .val (.int (0 : Int32)), .val (.int i2), .val (.int (own_v1a0_7 i2 b0 b1 b2 b3 b4)), .val (.int (1 : Int32)), .val (.int (own_j1a0_161_L5 i2 b0 b1 b2 b3 b4)), .val (.int (own_j1a0_161_L6 i2 b0 b1 b2 b3 b4)), .val (.int (own_j1a0_161_L7 i2 b0 b1 b2 b3 b4)), .val (.int (1 : Int32)), .val (.int (own_v1a0_191 i2 b0 b1 b2 b3 b4))] [])) _
              refine XS.iload XJ16.here hx rfl (hb hby own_d1_200) rfl ?_
              show Steps p.tables e below (TJ16.setTop (mkF m 202 #[.val (.ref r0), .val (.int (0 : Int32)), .val (.int i2), .val (.int (own_v1a0_7 i2 b0 b1 b2 b3 b4)), .val (.int (1 : Int32)), .val (.int (own_j1a0_161_L5 i2 b0 b1 b2 b3 b4)), .val (.int (own_j1a0_161_L6 i2 b0 b1 b2 b3 b4)), .val (.int (own_j1a0_161_L7 i2 b0 b1 b2 b3 b4)), .val (.int (1 : Int32)), .val (.int (own_v1a0_191 i2 b0 b1 b2 b3 b4))] [(.int (own_v1a0_191 i2 b0 b1 b2 b3 b4))])) _
              refine XS.iload XJ16.here hx rfl (hb hby own_d1_202) rfl ?_
              exact kt
            by_cases hc21 : (own_j1a0_161_L7 i2 b0 b1 b2 b3 b4) < (own_v1a0_191 i2 b0 b1 b2 b3 b4)
            · -- pc 204
              refine ownE.go (T' := TJ16) (f' := (mkF m 207 #[.val (.ref r0), .val (.int (0 : Int32)), .val (.int i2), .val (.int (own_v1a0_7 i2 b0 b1 b2 b3 b4)), .val (.int (1 : Int32)), .val (.int (own_j1a0_161_L5 i2 b0 b1 b2 b3 b4)), .val (.int (own_j1a0_161_L6 i2 b0 b1 b2 b3 b4)), .val (.int (own_j1a0_161_L7 i2 b0 b1 b2 b3 b4)), .val (.int (1 : Int32)), .val (.int (own_v1a0_191 i2 b0 b1 b2 b3 b4))] [])) (fun t kt => XS.icmpNo (g := (mkF m 204 #[.val (.ref r0), .val (.int (0 : Int32)), .val (.int i2), .val (.int (own_v1a0_7 i2 b0 b1 b2 b3 b4)), .val (.int (1 : Int32)), .val (.int (own_j1a0_161_L5 i2 b0 b1 b2 b3 b4)), .val (.int (own_j1a0_161_L6 i2 b0 b1 b2 b3 b4)), .val (.int (own_j1a0_161_L7 i2 b0 b1 b2 b3 b4)), .val (.int (1 : Int32)), .val (.int (own_v1a0_191 i2 b0 b1 b2 b3 b4))] [(.int (own_j1a0_161_L7 i2 b0 b1 b2 b3 b4)), (.int (own_v1a0_191 i2 b0 b1 b2 b3 b4))])) XJ16.here hx rfl (hb hby own_d1_204) rfl (Jvm.Free.XT.ii_le_f hc21) kt) ?_
              refine ownE.go (T' := TJ16) (f' := (mkF m 208 #[.val (.ref r0), .val (.int (0 : Int32)), .val (.int i2), .val (.int (own_v1a0_7 i2 b0 b1 b2 b3 b4)), .val (.int (1 : Int32)), .val (.int (own_j1a0_161_L5 i2 b0 b1 b2 b3 b4)), .val (.int (own_j1a0_161_L6 i2 b0 b1 b2 b3 b4)), .val (.int (own_j1a0_161_L7 i2 b0 b1 b2 b3 b4)), .val (.int (1 : Int32)), .val (.int (own_v1a0_191 i2 b0 b1 b2 b3 b4))] [(.int (-1 : Int32))])) (fun t kt => ?_) ?_
              · show Steps p.tables e below (TJ16.setTop (mkF m 207 #[.val (.ref r0), .val (.int (0 : Int32)), .val (.int i2), .val (.int (own_v1a0_7 i2 b0 b1 b2 b3 b4)), .val (.int (1 : Int32)), .val (.int (own_j1a0_161_L5 i2 b0 b1 b2 b3 b4)), .val (.int (own_j1a0_161_L6 i2 b0 b1 b2 b3 b4)), .val (.int (own_j1a0_161_L7 i2 b0 b1 b2 b3 b4)), .val (.int (1 : Int32)), .val (.int (own_v1a0_191 i2 b0 b1 b2 b3 b4))] [])) _
                refine XS.iconst XJ16.here hx rfl (hb hby own_d1_207) ?_
                exact kt
              refine ownE.retI XJ16 hx hlk hret (hb hby own_d1_208) ?_ (by decide) (by decide)
              show own_Q1a0 Z r0 i2 kk b0 b1 b2 b3 b4 h0 n0 _ TJ16.heap _
              rw [eJ16]
              exact ⟨(by rw [hv16, own_r1a0_161, if_pos hc17, if_pos hk18, if_neg hc20, if_pos hc21] <;> first | rfl | decide), NJ16, rfl⟩
            · -- pc 204
              refine ownE.go (T' := TJ16) (f' := (mkF m 209 #[.val (.ref r0), .val (.int (0 : Int32)), .val (.int i2), .val (.int (own_v1a0_7 i2 b0 b1 b2 b3 b4)), .val (.int (1 : Int32)), .val (.int (own_j1a0_161_L5 i2 b0 b1 b2 b3 b4)), .val (.int (own_j1a0_161_L6 i2 b0 b1 b2 b3 b4)), .val (.int (own_j1a0_161_L7 i2 b0 b1 b2 b3 b4)), .val (.int (1 : Int32)), .val (.int (own_v1a0_191 i2 b0 b1 b2 b3 b4))] [])) (fun t kt => XS.icmpYes (g := (mkF m 204 #[.val (.ref r0), .val (.int (0 : Int32)), .val (.int i2), .val (.int (own_v1a0_7 i2 b0 b1 b2 b3 b4)), .val (.int (1 : Int32)), .val (.int (own_j1a0_161_L5 i2 b0 b1 b2 b3 b4)), .val (.int (own_j1a0_161_L6 i2 b0 b1 b2 b3 b4)), .val (.int (own_j1a0_161_L7 i2 b0 b1 b2 b3 b4)), .val (.int (1 : Int32)), .val (.int (own_v1a0_191 i2 b0 b1 b2 b3 b4))] [(.int (own_j1a0_161_L7 i2 b0 b1 b2 b3 b4)), (.int (own_v1a0_191 i2 b0 b1 b2 b3 b4))])) XJ16.here hx rfl (pc0 := 204) (pc' := 209) rfl (hb hby own_d1_204) rfl (Jvm.Free.XT.ii_le_t hc21) (by decide) (by decide) kt) ?_
              refine ownE.go (T' := TJ16) (f' := (mkF m 178 #[.val (.ref r0), .val (.int (0 : Int32)), .val (.int i2), .val (.int (own_v1a0_7 i2 b0 b1 b2 b3 b4)), .val (.int (1 : Int32)), .val (.int (own_v1a0_220 i2 b0 b1 b2 b3 b4)), .val (.int (128 : Int32)), .val (.int (191 : Int32)), .val (.int (2 : Int32)), .val (.int (own_v1a0_191 i2 b0 b1 b2 b3 b4))] [(.int (1 : Int32)), (.int (2 : Int32))])) (fun t kt => ?_) ?_
              · show Steps p.tables e below (TJ16.setTop (mkF m 209 #[.val (.ref r0), .val (.int (0 : Int32)), .val (.int i2), .val (.int (own_v1a0_7 i2 b0 b1 b2 b3 b4)), .val (.int (1 : Int32)), .val (.int (own_j1a0_161_L5 i2 b0 b1 b2 b3 b4)), .val (.int (own_j1a0_161_L6 i2 b0 b1 b2 b3 b4)), .val (.int (own_j1a0_161_L7 i2 b0 b1 b2 b3 b4)), .val (.int (1 : Int32)), .val (.int (own_v1a0_191 i2 b0 b1 b2 b3 b4))] [])) _
                refine XS.iload XJ16.here hx rfl (hb hby own_d1_209) rfl ?_
                show Steps p.tables e below (TJ16.setTop (mkF m 211 #[.val (.ref r0), .val (.int (0 : Int32)), .val (.int i2), .val (.int (own_v1a0_7 i2 b0 b1 b2 b3 b4)), .val (.int (1 : Int32)), .val (.int (own_j1a0_161_L5 i2 b0 b1 b2 b3 b4)), .val (.int (own_j1a0_161_L6 i2 b0 b1 b2 b3 b4)), .val (.int (own_j1a0_161_L7 i2 b0 b1 b2 b3 b4)), .val (.int (1 : Int32)), .val (.int (own_v1a0_191 i2 b0 b1 b2 b3 b4))] [(.int (own_j1a0_161_L5 i2 b0 b1 b2 b3 b4))])) _
                refine XS.bipush XJ16.here hx rfl (hb hby own_d1_211) ?_
                show Steps p.tables e below (TJ16.setTop (mkF m 213 #[.val (.ref r0), .val (.int (0 : Int32)), .val (.int i2), .val (.int (own_v1a0_7 i2 b0 b1 b2 b3 b4)), .val (.int (1 : Int32)), .val (.int (own_j1a0_161_L5 i2 b0 b1 b2 b3 b4)), .val (.int (own_j1a0_161_L6 i2 b0 b1 b2 b3 b4)), .val (.int (own_j1a0_161_L7 i2 b0 b1 b2 b3 b4)), .val (.int (1 : Int32)), .val (.int (own_v1a0_191 i2 b0 b1 b2 b3 b4))] [(.int (6 : Int32)), (.int (own_j1a0_161_L5 i2 b0 b1 b2 b3 b4))])) _
                refine XS.ishl XJ16.here hx rfl (hb hby own_d1_213) rfl ?_
                show Steps p.tables e below (TJ16.setTop (mkF m 214 #[.val (.ref r0), .val (.int (0 : Int32)), .val (.int i2), .val (.int (own_v1a0_7 i2 b0 b1 b2 b3 b4)), .val (.int (1 : Int32)), .val (.int (own_j1a0_161_L5 i2 b0 b1 b2 b3 b4)), .val (.int (own_j1a0_161_L6 i2 b0 b1 b2 b3 b4)), .val (.int (own_j1a0_161_L7 i2 b0 b1 b2 b3 b4)), .val (.int (1 : Int32)), .val (.int (own_v1a0_191 i2 b0 b1 b2 b3 b4))] [(.int ((own_j1a0_161_L5 i2 b0 b1 b2 b3 b4) <<< ((6 : Int32) &&& 31)))])) _
                refine XS.iload XJ16.here hx rfl (hb hby own_d1_214) rfl ?_
                show Steps p.tables e below (TJ16.setTop (mkF m 216 #[.val (.ref r0), .val (.int (0 : Int32)), .val (.int i2), .val (.int (own_v1a0_7 i2 b0 b1 b2 b3 b4)), .val (.int (1 : Int32)), .val (.int (own_j1a0_161_L5 i2 b0 b1 b2 b3 b4)), .val (.int (own_j1a0_161_L6 i2 b0 b1 b2 b3 b4)), .val (.int (own_j1a0_161_L7 i2 b0 b1 b2 b3 b4)), .val (.int (1 : Int32)), .val (.int (own_v1a0_191 i2 b0 b1 b2 b3 b4))] [(.int (own_v1a0_191 i2 b0 b1 b2 b3 b4)), (.int ((own_j1a0_161_L5 i2 b0 b1 b2 b3 b4) <<< ((6 : Int32) &&& 31)))])) _
                refine XS.bipush XJ16.here hx rfl (hb hby own_d1_216) ?_
                show Steps p.tables e below (TJ16.setTop (mkF m 218 #[.val (.ref r0), .val (.int (0 : Int32)), .val (.int i2), .val (.int (own_v1a0_7 i2 b0 b1 b2 b3 b4)), .val (.int (1 : Int32)), .val (.int (own_j1a0_161_L5 i2 b0 b1 b2 b3 b4)), .val (.int (own_j1a0_161_L6 i2 b0 b1 b2 b3 b4)), .val (.int (own_j1a0_161_L7 i2 b0 b1 b2 b3 b4)), .val (.int (1 : Int32)), .val (.int (own_v1a0_191 i2 b0 b1 b2 b3 b4))] [(.int (63 : Int32)), (.int (own_v1a0_191 i2 b0 b1 b2 b3 b4)), (.int ((own_j1a0_161_L5 i2 b0 b1 b2 b3 b4) <<< ((6 : Int32) &&& 31)))])) _
                refine XS.iand XJ16.here hx rfl (hb hby own_d1_218) rfl ?_
                show Steps p.tables e below (TJ16.setTop (mkF m 219 #[.val (.ref r0), .val (.int (0 : Int32)), .val (.int i2), .val (.int (own_v1a0_7 i2 b0 b1 b2 b3 b4)), .val (.int (1 : Int32)), .val (.int (own_j1a0_161_L5 i2 b0 b1 b2 b3 b4)), .val (.int (own_j1a0_161_L6 i2 b0 b1 b2 b3 b4)), .val (.int (own_j1a0_161_L7 i2 b0 b1 b2 b3 b4)), .val (.int (1 : Int32)), .val (.int (own_v1a0_191 i2 b0 b1 b2 b3 b4))] [(.int ((own_v1a0_191 i2 b0 b1 b2 b3 b4) &&& (63 : Int32))), (.int ((own_j1a0_161_L5 i2 b0 b1 b2 b3 b4) <<< ((6 : Int32) &&& 31)))])) _
                refine XS.ior XJ16.here hx rfl (hb hby own_d1_219) rfl ?_
                show Steps p.tables e below (TJ16.setTop (mkF m 220 #[.val (.ref r0), .val (.int (0 : Int32)), .val (.int i2), .val (.int (own_v1a0_7 i2 b0 b1 b2 b3 b4)), .val (.int (1 : Int32)), .val (.int (own_j1a0_161_L5 i2 b0 b1 b2 b3 b4)), .val (.int (own_j1a0_161_L6 i2 b0 b1 b2 b3 b4)), .val (.int (own_j1a0_161_L7 i2 b0 b1 b2 b3 b4)), .val (.int (1 : Int32)), .val (.int (own_v1a0_191 i2 b0 b1 b2 b3 b4))] [(.int (((own_j1a0_161_L5 i2 b0 b1 b2 b3 b4) <<< ((6 : Int32) &&& 31)) ||| ((own_v1a0_191 i2 b0 b1 b2 b3 b4) &&& (63 : Int32))))])) _
                refine XS.istore XJ16.here hx rfl (hb hby own_d1_220) rfl (l' := #[.val (.ref r0), .val (.int (0 : Int32)), .val (.int i2), .val (.int (own_v1a0_7 i2 b0 b1 b2 b3 b4)), .val (.int (1 : Int32)), .val (.int (own_v1a0_220 i2 b0 b1 b2 b3 b4)), .val (.int (own_j1a0_161_L6 i2 b0 b1 b2 b3 b4)), .val (.int (own_j1a0_161_L7 i2 b0 b1 b2 b3 b4)), .val (.int (1 : Int32)), .val (.int (own_v1a0_191 i2 b0 b1 b2 b3 b4))]) rfl ?_
                show Steps p.tables e below (TJ16.setTop (mkF m 222 #[.val (.ref r0), .val (.int (0 : Int32)), .val (.int i2), .val (.int (own_v1a0_7 i2 b0 b1 b2 b3 b4)), .val (.int (1 : Int32)), .val (.int (own_v1a0_220 i2 b0 b1 b2 b3 b4)), .val (.int (own_j1a0_161_L6 i2 b0 b1 b2 b3 b4)), .val (.int (own_j1a0_161_L7 i2 b0 b1 b2 b3 b4)), .val (.int (1 : Int32)), .val (.int (own_v1a0_191 i2 b0 b1 b2 b3 b4))] [])) _
                refine XS.sipush XJ16.here hx rfl (hb hby own_d1_222) ?_
                show Steps p.tables e below (TJ16.setTop (mkF m 225 #[.val (.ref r0), .val (.int (0 : Int32)), .val (.int i2), .val (.int (own_v1a0_7 i2 b0 b1 b2 b3 b4)), .val (.int (1 : Int32)), .val (.int (own_v1a0_220 i2 b0 b1 b2 b3 b4)), .val (.int (own_j1a0_161_L6 i2 b0 b1 b2 b3 b4)), .val (.int (own_j1a0_161_L7 i2 b0 b1 b2 b3 b4)), .val (.int (1 : Int32)), .val (.int (own_v1a0_191 i2 b0 b1 b2 b3 b4))] [(.int (128 : Int32))])) _
                refine XS.istore XJ16.here hx rfl (hb hby own_d1_225) rfl (l' := #[.val (.ref r0), .val (.int (0 : Int32)), .val (.int i2), .val (.int (own_v1a0_7 i2 b0 b1 b2 b3 b4)), .val (.int (1 : Int32)), .val (.int (own_v1a0_220 i2 b0 b1 b2 b3 b4)), .val (.int (128 : Int32)), .val (.int (own_j1a0_161_L7 i2 b0 b1 b2 b3 b4)), .val (.int (1 : Int32)), .val (.int (own_v1a0_191 i2 b0 b1 b2 b3 b4))]) rfl ?_
                show Steps p.tables e below (TJ16.setTop (mkF m 227 #[.val (.ref r0), .val (.int (0 : Int32)), .val (.int i2), .val (.int (own_v1a0_7 i2 b0 b1 b2 b3 b4)), .val (.int (1 : Int32)), .val (.int (own_v1a0_220 i2 b0 b1 b2 b3 b4)), .val (.int (128 : Int32)), .val (.int (own_j1a0_161_L7 i2 b0 b1 b2 b3 b4)), .val (.int (1 : Int32)), .val (.int (own_v1a0_191 i2 b0 b1 b2 b3 b4))] [])) _
                refine XS.sipush XJ16.here hx rfl (hb hby own_d1_227) ?_
                show Steps p.tables e below (TJ16.setTop (mkF m 230 #[.val (.ref r0), .val (.int (0 : Int32)), .val (.int i2), .val (.int (own_v1a0_7 i2 b0 b1 b2 b3 b4)), .val (.int (1 : Int32)), .val (.int (own_v1a0_220 i2 b0 b1 b2 b3 b4)), .val (.int (128 : Int32)), .val (.int (own_j1a0_161_L7 i2 b0 b1 b2 b3 b4)), .val (.int (1 : Int32)), .val (.int (own_v1a0_191 i2 b0 b1 b2 b3 b4))] [(.int (191 : Int32))])) _
                refine XS.istore XJ16.here hx rfl (hb hby own_d1_230) rfl (l' := #[.val (.ref r0), .val (.int (0 : Int32)), .val (.int i2), .val (.int (own_v1a0_7 i2 b0 b1 b2 b3 b4)), .val (.int (1 : Int32)), .val (.int (own_v1a0_220 i2 b0 b1 b2 b3 b4)), .val (.int (128 : Int32)), .val (.int (191 : Int32)), .val (.int (1 : Int32)), .val (.int (own_v1a0_191 i2 b0 b1 b2 b3 b4))]) rfl ?_
                show Steps p.tables e below (TJ16.setTop (mkF m 232 #[.val (.ref r0), .val (.int (0 : Int32)), .val (.int i2), .val (.int (own_v1a0_7 i2 b0 b1 b2 b3 b4)), .val (.int (1 : Int32)), .val (.int (own_v1a0_220 i2 b0 b1 b2 b3 b4)), .val (.int (128 : Int32)), .val (.int (191 : Int32)), .val (.int (1 : Int32)), .val (.int (own_v1a0_191 i2 b0 b1 b2 b3 b4))] [])) _
                refine XS.iinc XJ16.here hx rfl (hb hby own_d1_232) rfl (l' := #[.val (.ref r0), .val (.int (0 : Int32)), .val (.int i2), .val (.int (own_v1a0_7 i2 b0 b1 b2 b3 b4)), .val (.int (1 : Int32)), .val (.int (own_v1a0_220 i2 b0 b1 b2 b3 b4)), .val (.int (128 : Int32)), .val (.int (191 : Int32)), .val (.int (2 : Int32)), .val (.int (own_v1a0_191 i2 b0 b1 b2 b3 b4))]) rfl ?_
                show Steps p.tables e below (TJ16.setTop (mkF m 235 #[.val (.ref r0), .val (.int (0 : Int32)), .val (.int i2), .val (.int (own_v1a0_7 i2 b0 b1 b2 b3 b4)), .val (.int (1 : Int32)), .val (.int (own_v1a0_220 i2 b0 b1 b2 b3 b4)), .val (.int (128 : Int32)), .val (.int (191 : Int32)), .val (.int (2 : Int32)), .val (.int (own_v1a0_191 i2 b0 b1 b2 b3 b4))] [])) _
                refine XS.goto XJ16.here hx rfl (pc0 := 235) (pc' := 174) rfl (hb hby own_d1_235) (by decide) (by decide) ?_
                show Steps p.tables e below (TJ16.setTop (mkF m 174 #[.val (.ref r0), .val (.int (0 : Int32)), .val (.int i2), .val (.int (own_v1a0_7 i2 b0 b1 b2 b3 b4)), .val (.int (1 : Int32)), .val (.int (own_v1a0_220 i2 b0 b1 b2 b3 b4)), .val (.int (128 : Int32)), .val (.int (191 : Int32)), .val (.int (2 : Int32)), .val (.int (own_v1a0_191 i2 b0 b1 b2 b3 b4))] [])) _
                refine XS.iload XJ16.here hx rfl (hb hby own_d1_174) rfl ?_
                show Steps p.tables e below (TJ16.setTop (mkF m 176 #[.val (.ref r0), .val (.int (0 : Int32)), .val (.int i2), .val (.int (own_v1a0_7 i2 b0 b1 b2 b3 b4)), .val (.int (1 : Int32)), .val (.int (own_v1a0_220 i2 b0 b1 b2 b3 b4)), .val (.int (128 : Int32)), .val (.int (191 : Int32)), .val (.int (2 : Int32)), .val (.int (own_v1a0_191 i2 b0 b1 b2 b3 b4))] [(.int (2 : Int32))])) _
                refine XS.iload XJ16.here hx rfl (hb hby own_d1_176) rfl ?_
                exact kt
              refine ownE.go (T' := TJ16) (f' := (mkF m 238 #[.val (.ref r0), .val (.int (0 : Int32)), .val (.int i2), .val (.int (own_v1a0_7 i2 b0 b1 b2 b3 b4)), .val (.int (1 : Int32)), .val (.int (own_v1a0_220 i2 b0 b1 b2 b3 b4)), .val (.int (128 : Int32)), .val (.int (191 : Int32)), .val (.int (2 : Int32)), .val (.int (own_v1a0_191 i2 b0 b1 b2 b3 b4))] [])) (fun t kt => XS.icmpYes (g := (mkF m 178 #[.val (.ref r0), .val (.int (0 : Int32)), .val (.int i2), .val (.int (own_v1a0_7 i2 b0 b1 b2 b3 b4)), .val (.int (1 : Int32)), .val (.int (own_v1a0_220 i2 b0 b1 b2 b3 b4)), .val (.int (128 : Int32)), .val (.int (191 : Int32)), .val (.int (2 : Int32)), .val (.int (own_v1a0_191 i2 b0 b1 b2 b3 b4))] [(.int (1 : Int32)), (.int (2 : Int32))])) XJ16.here hx rfl (pc0 := 178) (pc' := 238) rfl (hb hby own_d1_178) rfl (Jvm.Free.XT.ii_gt_t (by decide)) (by decide) (by decide) kt) ?_
              refine ownE.go (T' := TJ16) (f' := (mkF m 240 #[.val (.ref r0), .val (.int (0 : Int32)), .val (.int i2), .val (.int (own_v1a0_7 i2 b0 b1 b2 b3 b4)), .val (.int (1 : Int32)), .val (.int (own_v1a0_220 i2 b0 b1 b2 b3 b4)), .val (.int (128 : Int32)), .val (.int (191 : Int32)), .val (.int (2 : Int32)), .val (.int (own_v1a0_191 i2 b0 b1 b2 b3 b4))] [(.int (own_v1a0_220 i2 b0 b1 b2 b3 b4))])) (fun t kt => ?_) ?_
              · show Steps p.tables e below (TJ16.setTop (mkF m 238 #[.val (.ref r0), .val (.int (0 : Int32)), .val (.int i2), .val (.int (own_v1a0_7 i2 b0 b1 b2 b3 b4)), .val (.int (1 : Int32)), .val (.int (own_v1a0_220 i2 b0 b1 b2 b3 b4)), .val (.int (128 : Int32)), .val (.int (191 : Int32)), .val (.int (2 : Int32)), .val (.int (own_v1a0_191 i2 b0 b1 b2 b3 b4))] [])) _
                refine XS.iload XJ16.here hx rfl (hb hby own_d1_238) rfl ?_
                exact kt
              refine ownE.retI XJ16 hx hlk hret (hb hby own_d1_240) ?_ (by decide) (by decide)
              show own_Q1a0 Z r0 i2 kk b0 b1 b2 b3 b4 h0 n0 _ TJ16.heap _
              rw [eJ16]
              exact ⟨(by rw [hv16, own_r1a0_161, if_pos hc17, if_pos hk18, if_neg hc20, if_neg hc21] <;> first | rfl | decide), NJ16, rfl⟩
        · -- (own_j1a0_161_L4 i2 b0 b1 b2 b3 b4) = 2
          have hf18 : (mkF m 171 #[.val (.ref r0), .val (.int (0 : Int32)), .val (.int i2), .val (.int (own_v1a0_7 i2 b0 b1 b2 b3 b4)), .val (.int (own_j1a0_161_L4 i2 b0 b1 b2 b3 b4)), .val (.int (own_j1a0_161_L5 i2 b0 b1 b2 b3 b4)), .val (.int (own_j1a0_161_L6 i2 b0 b1 b2 b3 b4)), .val (.int (own_j1a0_161_L7 i2 b0 b1 b2 b3 b4)), .unset, .unset] []) = (mkF m 171 #[.val (.ref r0), .val (.int (0 : Int32)), .val (.int i2), .val (.int (own_v1a0_7 i2 b0 b1 b2 b3 b4)), .val (.int (2 : Int32)), .val (.int (own_j1a0_161_L5 i2 b0 b1 b2 b3 b4)), .val (.int (own_j1a0_161_L6 i2 b0 b1 b2 b3 b4)), .val (.int (own_j1a0_161_L7 i2 b0 b1 b2 b3 b4)), .unset, .unset] []) := by rw [hk18]
          rw [hf18]
          have hk18_0 : ¬ (own_j1a0_161_L4 i2 b0 b1 b2 b3 b4) = (1 : Int32) := by rw [hk18]; decide
          refine ownE.go (T' := TJ16) (f' := (mkF m 178 #[.val (.ref r0), .val (.int (0 : Int32)), .val (.int i2), .val (.int (own_v1a0_7 i2 b0 b1 b2 b3 b4)), .val (.int (2 : Int32)), .val (.int (own_j1a0_161_L5 i2 b0 b1 b2 b3 b4)), .val (.int (own_j1a0_161_L6 i2 b0 b1 b2 b3 b4)), .val (.int (own_j1a0_161_L7 i2 b0 b1 b2 b3 b4)), .val (.int (1 : Int32)), .unset] [(.int (2 : Int32)), (.int (1 : Int32))])) (fun t kt => ?_) ?_
          · show Steps p.tables e below (TJ16.setTop (mkF m 171 #[.val (.ref r0), .val (.int (0 : Int32)), .val (.int i2), .val (.int (own_v1a0_7 i2 b0 b1 b2 b3 b4)), .val (.int (2 : Int32)), .val (.int (own_j1a0_161_L5 i2 b0 b1 b2 b3 b4)), .val (.int (own_j1a0_161_L6 i2 b0 b1 b2 b3 b4)), .val (.int (own_j1a0_161_L7 i2 b0 b1 b2 b3 b4)), .unset, .unset] [])) _
            refine XS.iconst XJ16.here hx rfl (hb hby own_d1_171) ?_
            show Steps p.tables e below (TJ16.setTop (mkF m 172 #[.val (.ref r0), .val (.int (0 : Int32)), .val (.int i2), .val (.int (own_v1a0_7 i2 b0 b1 b2 b3 b4)), .val (.int (2 : Int32)), .val (.int (own_j1a0_161_L5 i2 b0 b1 b2 b3 b4)), .val (.int (own_j1a0_161_L6 i2 b0 b1 b2 b3 b4)), .val (.int (own_j1a0_161_L7 i2 b0 b1 b2 b3 b4)), .unset, .unset] [(.int (1 : Int32))])) _
            refine XS.istore XJ16.here hx rfl (hb hby own_d1_172) rfl (l' := #[.val (.ref r0), .val (.int (0 : Int32)), .val (.int i2), .val (.int (own_v1a0_7 i2 b0 b1 b2 b3 b4)), .val (.int (2 : Int32)), .val (.int (own_j1a0_161_L5 i2 b0 b1 b2 b3 b4)), .val (.int (own_j1a0_161_L6 i2 b0 b1 b2 b3 b4)), .val (.int (own_j1a0_161_L7 i2 b0 b1 b2 b3 b4)), .val (.int (1 : Int32)), .unset]) rfl ?_
            show Steps p.tables e below (TJ16.setTop (mkF m 174 #[.val (.ref r0), .val (.int (0 : Int32)), .val (.int i2), .val (.int (own_v1a0_7 i2 b0 b1 b2 b3 b4)), .val (.int (2 : Int32)), .val (.int (own_j1a0_161_L5 i2 b0 b1 b2 b3 b4)), .val (.int (own_j1a0_161_L6 i2 b0 b1 b2 b3 b4)), .val (.int (own_j1a0_161_L7 i2 b0 b1 b2 b3 b4)), .val (.int (1 : Int32)), .unset] [])) _
            refine XS.iload XJ16.here hx rfl (hb hby own_d1_174) rfl ?_
            show Steps p.tables e below (TJ16.setTop (mkF m 176 #[.val (.ref r0), .val (.int (0 : Int32)), .val (.int i2), .val (.int (own_v1a0_7 i2 b0 b1 b2 b3 b4)), .val (.int (2 : Int32)), .val (.int (own_j1a0_161_L5 i2 b0 b1 b2 b3 b4)), .val (.int (own_j1a0_161_L6 i2 b0 b1 b2 b3 b4)), .val (.int (own_j1a0_161_L7 i2 b0 b1 b2 b3 b4)), .val (.int (1 : Int32)), .unset] [(.int (1 : Int32))])) _
            refine XS.iload XJ16.here hx rfl (hb hby own_d1_176) rfl ?_
            exact kt
          refine ownE.go (T' := TJ16) (f' := (mkF m 181 #[.val (.ref r0), .val (.int (0 : Int32)), .val (.int i2), .val (.int (own_v1a0_7 i2 b0 b1 b2 b3 b4)), .val (.int (2 : Int32)), .val (.int (own_j1a0_161_L5 i2 b0 b1 b2 b3 b4)), .val (.int (own_j1a0_161_L6 i2 b0 b1 b2 b3 b4)), .val (.int (own_j1a0_161_L7 i2 b0 b1 b2 b3 b4)), .val (.int (1 : Int32)), .unset] [])) (fun t kt => XS.icmpNo (g := (mkF m 178 #[.val (.ref r0), .val (.int (0 : Int32)), .val (.int i2), .val (.int (own_v1a0_7 i2 b0 b1 b2 b3 b4)), .val (.int (2 : Int32)), .val (.int (own_j1a0_161_L5 i2 b0 b1 b2 b3 b4)), .val (.int (own_j1a0_161_L6 i2 b0 b1 b2 b3 b4)), .val (.int (own_j1a0_161_L7 i2 b0 b1 b2 b3 b4)), .val (.int (1 : Int32)), .unset] [(.int (2 : Int32)), (.int (1 : Int32))])) XJ16.here hx rfl (hb hby own_d1_178) rfl (Jvm.Free.XT.ii_gt_f (by decide)) kt) ?_
          refine ownE.go (T' := TJ16) (f' := (mkF m 186 #[.val (.ref r0), .val (.int (0 : Int32)), .val (.int i2), .val (.int (own_v1a0_7 i2 b0 b1 b2 b3 b4)), .val (.int (2 : Int32)), .val (.int (own_j1a0_161_L5 i2 b0 b1 b2 b3 b4)), .val (.int (own_j1a0_161_L6 i2 b0 b1 b2 b3 b4)), .val (.int (own_j1a0_161_L7 i2 b0 b1 b2 b3 b4)), .val (.int (1 : Int32)), .unset] [(.int (1 : Int32)), (.ref r0)])) (fun t kt => ?_) ?_
          · show Steps p.tables e below (TJ16.setTop (mkF m 181 #[.val (.ref r0), .val (.int (0 : Int32)), .val (.int i2), .val (.int (own_v1a0_7 i2 b0 b1 b2 b3 b4)), .val (.int (2 : Int32)), .val (.int (own_j1a0_161_L5 i2 b0 b1 b2 b3 b4)), .val (.int (own_j1a0_161_L6 i2 b0 b1 b2 b3 b4)), .val (.int (own_j1a0_161_L7 i2 b0 b1 b2 b3 b4)), .val (.int (1 : Int32)), .unset] [])) _
            refine XS.aloadN XJ16.here hx rfl (hb hby own_d1_181) rfl rfl ?_
            show Steps p.tables e below (TJ16.setTop (mkF m 182 #[.val (.ref r0), .val (.int (0 : Int32)), .val (.int i2), .val (.int (own_v1a0_7 i2 b0 b1 b2 b3 b4)), .val (.int (2 : Int32)), .val (.int (own_j1a0_161_L5 i2 b0 b1 b2 b3 b4)), .val (.int (own_j1a0_161_L6 i2 b0 b1 b2 b3 b4)), .val (.int (own_j1a0_161_L7 i2 b0 b1 b2 b3 b4)), .val (.int (1 : Int32)), .unset] [(.ref r0)])) _
            refine XS.iloadN XJ16.here hx rfl (hb hby own_d1_182) rfl ?_
            show Steps p.tables e below (TJ16.setTop (mkF m 183 #[.val (.ref r0), .val (.int (0 : Int32)), .val (.int i2), .val (.int (own_v1a0_7 i2 b0 b1 b2 b3 b4)), .val (.int (2 : Int32)), .val (.int (own_j1a0_161_L5 i2 b0 b1 b2 b3 b4)), .val (.int (own_j1a0_161_L6 i2 b0 b1 b2 b3 b4)), .val (.int (own_j1a0_161_L7 i2 b0 b1 b2 b3 b4)), .val (.int (1 : Int32)), .unset] [(.int (0 : Int32)), (.ref r0)])) _
            refine XS.iload XJ16.here hx rfl (hb hby own_d1_183) rfl ?_
            show Steps p.tables e below (TJ16.setTop (mkF m 185 #[.val (.ref r0), .val (.int (0 : Int32)), .val (.int i2), .val (.int (own_v1a0_7 i2 b0 b1 b2 b3 b4)), .val (.int (2 : Int32)), .val (.int (own_j1a0_161_L5 i2 b0 b1 b2 b3 b4)), .val (.int (own_j1a0_161_L6 i2 b0 b1 b2 b3 b4)), .val (.int (own_j1a0_161_L7 i2 b0 b1 b2 b3 b4)), .val (.int (1 : Int32)), .unset] [(.int (1 : Int32)), (.int (0 : Int32)), (.ref r0)])) _
            refine XS.iadd XJ16.here hx rfl (hb hby own_d1_185) rfl ?_
            exact kt
          obtain ⟨cl22, Ar22, q22, S22, Nn22, Hh22, G22⟩ := id P0
          refine ownE.go (T' := TJ16) (f' := (mkF m 187 #[.val (.ref r0), .val (.int (0 : Int32)), .val (.int i2), .val (.int (own_v1a0_7 i2 b0 b1 b2 b3 b4)), .val (.int (2 : Int32)), .val (.int (own_j1a0_161_L5 i2 b0 b1 b2 b3 b4)), .val (.int (own_j1a0_161_L6 i2 b0 b1 b2 b3 b4)), .val (.int (own_j1a0_161_L7 i2 b0 b1 b2 b3 b4)), .val (.int (1 : Int32)), .unset] [(.int b1)])) (fun t kt => XJ16.baloadBytes hx (j := (1 : Int32)) (v := (.int b1)) (by rw [eJ16]; exact Ar22.1) (State.isArrayOf_alike hZ.alike Ar22.2.1) Ar22.2.2 (inb_of S22 ⟨by decide, by decide⟩) (Hh22.at (inb_of S22 ⟨by decide, by decide⟩) rfl) (g := (mkF m 186 #[.val (.ref r0), .val (.int (0 : Int32)), .val (.int i2), .val (.int (own_v1a0_7 i2 b0 b1 b2 b3 b4)), .val (.int (2 : Int32)), .val (.int (own_j1a0_161_L5 i2 b0 b1 b2 b3 b4)), .val (.int (own_j1a0_161_L6 i2 b0 b1 b2 b3 b4)), .val (.int (own_j1a0_161_L7 i2 b0 b1 b2 b3 b4)), .val (.int (1 : Int32)), .unset] [(.int (1 : Int32)), (.ref r0)])) rfl rfl (hb hby own_d1_186) _ kt) ?_
          refine ownE.go (T' := TJ16) (f' := (mkF m 197 #[.val (.ref r0), .val (.int (0 : Int32)), .val (.int i2), .val (.int (own_v1a0_7 i2 b0 b1 b2 b3 b4)), .val (.int (2 : Int32)), .val (.int (own_j1a0_161_L5 i2 b0 b1 b2 b3 b4)), .val (.int (own_j1a0_161_L6 i2 b0 b1 b2 b3 b4)), .val (.int (own_j1a0_161_L7 i2 b0 b1 b2 b3 b4)), .val (.int (1 : Int32)), .val (.int (own_v1a0_191_2 i2 b0 b1 b2 b3 b4))] [(.int (own_j1a0_161_L6 i2 b0 b1 b2 b3 b4)), (.int (own_v1a0_191_2 i2 b0 b1 b2 b3 b4))])) (fun t kt => ?_) ?_
          · show Steps p.tables e below (TJ16.setTop (mkF m 187 #[.val (.ref r0), .val (.int (0 : Int32)), .val (.int i2), .val (.int (own_v1a0_7 i2 b0 b1 b2 b3 b4)), .val (.int (2 : Int32)), .val (.int (own_j1a0_161_L5 i2 b0 b1 b2 b3 b4)), .val (.int (own_j1a0_161_L6 i2 b0 b1 b2 b3 b4)), .val (.int (own_j1a0_161_L7 i2 b0 b1 b2 b3 b4)), .val (.int (1 : Int32)), .unset] [(.int b1)])) _
            refine XS.sipush XJ16.here hx rfl (hb hby own_d1_187) ?_
            show Steps p.tables e below (TJ16.setTop (mkF m 190 #[.val (.ref r0), .val (.int (0 : Int32)), .val (.int i2), .val (.int (own_v1a0_7 i2 b0 b1 b2 b3 b4)), .val (.int (2 : Int32)), .val (.int (own_j1a0_161_L5 i2 b0 b1 b2 b3 b4)), .val (.int (own_j1a0_161_L6 i2 b0 b1 b2 b3 b4)), .val (.int (own_j1a0_161_L7 i2 b0 b1 b2 b3 b4)), .val (.int (1 : Int32)), .unset] [(.int (255 : Int32)), (.int b1)])) _
            refine XS.iand XJ16.here hx rfl (hb hby own_d1_190) rfl ?_
            show Steps p.tables e below (TJ16.setTop (mkF m 191 #[.val (.ref r0), .val (.int (0 : Int32)), .val (.int i2), .val (.int (own_v1a0_7 i2 b0 b1 b2 b3 b4)), .val (.int (2 : Int32)), .val (.int (own_j1a0_161_L5 i2 b0 b1 b2 b3 b4)), .val (.int (own_j1a0_161_L6 i2 b0 b1 b2 b3 b4)), .val (.int (own_j1a0_161_L7 i2 b0 b1 b2 b3 b4)), .val (.int (1 : Int32)), .unset] [(.int (b1 &&& (255 : Int32)))])) _
            refine XS.istore XJ16.here hx rfl (hb hby own_d1_191) rfl (l' := #[.val (.ref r0), .val (.int (0 : Int32)), .val (.int i2), .val (.int (own_v1a0_7 i2 b0 b1 b2 b3 b4)), .val (.int (2 : Int32)), .val (.int (own_j1a0_161_L5 i2 b0 b1 b2 b3 b4)), .val (.int (own_j1a0_161_L6 i2 b0 b1 b2 b3 b4)), .val (.int (own_j1a0_161_L7 i2 b0 b1 b2 b3 b4)), .val (.int (1 : Int32)), .val (.int (own_v1a0_191_2 i2 b0 b1 b2 b3 b4))]) rfl ?_
            show Steps p.tables e below (TJ16.setTop (mkF m 193 #[.val (.ref r0), .val (.int (0 : Int32)), .val (.int i2), .val (.int (own_v1a0_7 i2 b0 b1 b2 b3 b4)), .val (.int (2 : Int32)), .val (.int (own_j1a0_161_L5 i2 b0 b1 b2 b3 b4)), .val (.int (own_j1a0_161_L6 i2 b0 b1 b2 b3 b4)), .val (.int (own_j1a0_161_L7 i2 b0 b1 b2 b3 b4)), .val (.int (1 : Int32)), .val (.int (own_v1a0_191_2 i2 b0 b1 b2 b3 b4))] [])) _
            refine XS.iload XJ16.here hx rfl (hb hby own_d1_193) rfl ?_
            show Steps p.tables e below (TJ16.setTop (mkF m 195 #[.val (.ref r0), .val (.int (0 : Int32)), .val (.int i2), .val (.int (own_v1a0_7 i2 b0 b1 b2 b3 b4)), .val (.int (2 : Int32)), .val (.int (own_j1a0_161_L5 i2 b0 b1 b2 b3 b4)), .val (.int (own_j1a0_161_L6 i2 b0 b1 b2 b3 b4)), .val (.int (own_j1a0_161_L7 i2 b0 b1 b2 b3 b4)), .val (.int (1 : Int32)), .val (.int (own_v1a0_191_2 i2 b0 b1 b2 b3 b4))] [(.int (own_v1a0_191_2 i2 b0 b1 b2 b3 b4))])) _
            refine XS.iload XJ16.here hx rfl (hb hby own_d1_195) rfl ?_
            exact kt
          by_cases hc23 : (own_v1a0_191_2 i2 b0 b1 b2 b3 b4) < (own_j1a0_161_L6 i2 b0 b1 b2 b3 b4)
          · -- pc 197
            refine ownE.go (T' := TJ16) (f' := (mkF m 207 #[.val (.ref r0), .val (.int (0 : Int32)), .val (.int i2), .val (.int (own_v1a0_7 i2 b0 b1 b2 b3 b4)), .val (.int (2 : Int32)), .val (.int (own_j1a0_161_L5 i2 b0 b1 b2 b3 b4)), .val (.int (own_j1a0_161_L6 i2 b0 b1 b2 b3 b4)), .val (.int (own_j1a0_161_L7 i2 b0 b1 b2 b3 b4)), .val (.int (1 : Int32)), .val (.int (own_v1a0_191_2 i2 b0 b1 b2 b3 b4))] [])) (fun t kt => XS.icmpYes (g := (mkF m 197 #[.val (.ref r0), .val (.int (0 : Int32)), .val (.int i2), .val (.int (own_v1a0_7 i2 b0 b1 b2 b3 b4)), .val (.int (2 : Int32)), .val (.int (own_j1a0_161_L5 i2 b0 b1 b2 b3 b4)), .val (.int (own_j1a0_161_L6 i2 b0 b1 b2 b3 b4)), .val (.int (own_j1a0_161_L7 i2 b0 b1 b2 b3 b4)), .val (.int (1 : Int32)), .val (.int (own_v1a0_191_2 i2 b0 b1 b2 b3 b4))] [(.int (own_j1a0_161_L6 i2 b0 b1 b2 b3 b4)), (.int (own_v1a0_191_2 i2 b0 b1 b2 b3 b4))])) XJ16.here hx rfl (pc0 := 197) (pc' := 207) rfl (hb hby own_d1_197) rfl (Jvm.Free.XT.ii_lt_t hc23) (by decide) (by decide) kt) ?_
            refine ownE.go (T' := TJ16) (f' := (mkF m 208 #[.val (.ref r0), .val (.int (0 : Int32)), .val (.int i2), .val (.int (own_v1a0_7 i2 b0 b1 b2 b3 b4)), .val (.int (2 : Int32)), .val (.int (own_j1a0_161_L5 i2 b0 b1 b2 b3 b4)), .val (.int (own_j1a0_161_L6 i2 b0 b1 b2 b3 b4)), .val (.int (own_j1a0_161_L7 i2 b0 b1 b2 b3 b4)), .val (.int (1 : Int32)), .val (.int (own_v1a0_191_2 i2 b0 b1 b2 b3 b4))] [(.int (-1 : Int32))])) (fun t kt => ?_) ?_
            · show Steps p.tables e below (TJ16.setTop (mkF m 207 #[.val (.ref r0), .val (.int (0 : Int32)), .val (.int i2), .val (.int (own_v1a0_7 i2 b0 b1 b2 b3 b4)), .val (.int (2 : Int32)), .val (.int (own_j1a0_161_L5 i2 b0 b1 b2 b3 b4)), .val (.int (own_j1a0_161_L6 i2 b0 b1 b2 b3 b4)), .val (.int (own_j1a0_161_L7 i2 b0 b1 b2 b3 b4)), .val (.int (1 : Int32)), .val (.int (own_v1a0_191_2 i2 b0 b1 b2 b3 b4))] [])) _
              refine XS.iconst XJ16.here hx rfl (hb hby own_d1_207) ?_
              exact kt
            refine ownE.retI XJ16 hx hlk hret (hb hby own_d1_208) ?_ (by decide) (by decide)
            show own_Q1a0 Z r0 i2 kk b0 b1 b2 b3 b4 h0 n0 _ TJ16.heap _
            rw [eJ16]
            exact ⟨(by rw [hv16, own_r1a0_161, if_pos hc17, if_neg hk18_0, if_pos hk18, if_pos hc23] <;> first | rfl | decide), NJ16, rfl⟩
          · -- pc 197
            refine ownE.go (T' := TJ16) (f' := (mkF m 200 #[.val (.ref r0), .val (.int (0 : Int32)), .val (.int i2), .val (.int (own_v1a0_7 i2 b0 b1 b2 b3 b4)), .val (.int (2 : Int32)), .val (.int (own_j1a0_161_L5 i2 b0 b1 b2 b3 b4)), .val (.int (own_j1a0_161_L6 i2 b0 b1 b2 b3 b4)), .val (.int (own_j1a0_161_L7 i2 b0 b1 b2 b3 b4)), .val (.int (1 : Int32)), .val (.int (own_v1a0_191_2 i2 b0 b1 b2 b3 b4))] [])) (fun t kt => XS.icmpNo (g := (mkF m 197 #[.val (.ref r0), .val (.int (0 : Int32)), .val (.int i2), .val (.int (own_v1a0_7 i2 b0 b1 b2 b3 b4)), .val (.int (2 : Int32)), .val (.int (own_j1a0_161_L5 i2 b0 b1 b2 b3 b4)), .val (.int (own_j1a0_161_L6 i2 b0 b1 b2 b3 b4)), .val (.int (own_j1a0_161_L7 i2 b0 b1 b2 b3 b4)), .val (.int (1 : Int32)), .val (.int (own_v1a0_191_2 i2 b0 b1 b2 b3 b4))] [(.int (own_j1a0_161_L6 i2 b0 b1 b2 b3 b4)), (.int (own_v1a0_191_2 i2 b0 b1 b2 b3 b4))])) XJ16.here hx rfl (hb hby own_d1_197) rfl (Jvm.Free.XT.ii_lt_f hc23) kt) ?_
            refine ownE.go (T' := TJ16) (f' := (mkF m 204 #[.val (.ref r0), .val (.int (0 : Int32)), .val (.int i2), .val (.int (own_v1a0_7 i2 b0 b1 b2 b3 b4)), .val (.int (2 : Int32)), .val (.int (own_j1a0_161_L5 i2 b0 b1 b2 b3 b4)), .val (.int (own_j1a0_161_L6 i2 b0 b1 b2 b3 b4)), .val (.int (own_j1a0_161_L7 i2 b0 b1 b2 b3 b4)), .val (.int (1 : Int32)), .val (.int (own_v1a0_191_2 i2 b0 b1 b2 b3 b4))] [(.int (own_j1a0_161_L7 i2 b0 b1 b2 b3 b4)), (.int (own_v1a0_191_2 i2 b0 b1 b2 b3 b4))])) (fun t kt => ?_) ?_
            · show Steps p.tables e below (TJ16.setTop (mkF m 200 #[.val (.ref r0), .val (.int (0 : Int32)), .val (.int i2), .val (.int (own_v1a0_7 i2 b0 b1 b2 b3 b4)), .val (.int (2 : Int32)), .val (.int (own_j1a0_161_L5 i2 b0 b1 b2 b3 b4)), .val (.int (own_j1a0_161_L6 i2 b0 b1 b2 b3 b4)), .val (.int (own_j1a0_161_L7 i2 b0 b1 b2 b3 b4)), .val (.int (1 : Int32)), .val (.int (own_v1a0_191_2 i2 b0 b1 b2 b3 b4))] [])) _
              refine XS.iload XJ16.here hx rfl (hb hby own_d1_200) rfl ?_
              show Steps p.tables e below (TJ16.setTop (mkF m 202 #[.val (.ref r0), .val (.int (0 : Int32)), .val (.int i2), .val (.int (own_v1a0_7 i2 b0 b1 b2 b3 b4)), .val (.int (2 : Int32)), .val (.int (own_j1a0_161_L5 i2 b0 b1 b2 b3 b4)), .val (.int (own_j1a0_161_L6 i2 b0 b1 b2 b3 b4)), .val (.int (own_j1a0_161_L7 i2 b0 b1 b2 b3 b4)), .val (.int (1 : Int32)), .val (.int (own_v1a0_191_2 i2 b0 b1 b2 b3 b4))] [(.int (own_v1a0_191_2 i2 b0 b1 b2 b3 b4))])) _
              refine XS.iload XJ16.here hx rfl (hb hby own_d1_202) rfl ?_
              exact kt
            by_cases hc24 : (own_j1a0_161_L7 i2 b0 b1 b2 b3 b4) < (own_v1a0_191_2 i2 b0 b1 b2 b3 b4)
            · -- pc 204
              refine ownE.go (T' := TJ16) (f' := (mkF m 207 #[.val (.ref r0), .val (.int (0 : Int32)), .val (.int i2), .val (.int (own_v1a0_7 i2 b0 b1 b2 b3 b4)), .val (.int (2 : Int32)), .val (.int (own_j1a0_161_L5 i2 b0 b1 b2 b3 b4)), .val (.int (own_j1a0_161_L6 i2 b0 b1 b2 b3 b4)), .val (.int (own_j1a0_161_L7 i2 b0 b1 b2 b3 b4)), .val (.int (1 : Int32)), .val (.int (own_v1a0_191_2 i2 b0 b1 b2 b3 b4))] [])) (fun t kt => XS.icmpNo (g := (mkF m 204 #[.val (.ref r0), .val (.int (0 : Int32)), .val (.int i2), .val (.int (own_v1a0_7 i2 b0 b1 b2 b3 b4)), .val (.int (2 : Int32)), .val (.int (own_j1a0_161_L5 i2 b0 b1 b2 b3 b4)), .val (.int (own_j1a0_161_L6 i2 b0 b1 b2 b3 b4)), .val (.int (own_j1a0_161_L7 i2 b0 b1 b2 b3 b4)), .val (.int (1 : Int32)), .val (.int (own_v1a0_191_2 i2 b0 b1 b2 b3 b4))] [(.int (own_j1a0_161_L7 i2 b0 b1 b2 b3 b4)), (.int (own_v1a0_191_2 i2 b0 b1 b2 b3 b4))])) XJ16.here hx rfl (hb hby own_d1_204) rfl (Jvm.Free.XT.ii_le_f hc24) kt) ?_
              refine ownE.go (T' := TJ16) (f' := (mkF m 208 #[.val (.ref r0), .val (.int (0 : Int32)), .val (.int i2), .val (.int (own_v1a0_7 i2 b0 b1 b2 b3 b4)), .val (.int (2 : Int32)), .val (.int (own_j1a0_161_L5 i2 b0 b1 b2 b3 b4)), .val (.int (own_j1a0_161_L6 i2 b0 b1 b2 b3 b4)), .val (.int (own_j1a0_161_L7 i2 b0 b1 b2 b3 b4)), .val (.int (1 : Int32)), .val (.int (own_v1a0_191_2 i2 b0 b1 b2 b3 b4))] [(.int (-1 : Int32))])) (fun t kt => ?_) ?_
              · show Steps p.tables e below (TJ16.setTop (mkF m 207 #[.val (.ref r0), .val (.int (0 : Int32)), .val (.int i2), .val (.int (own_v1a0_7 i2 b0 b1 b2 b3 b4)), .val (.int (2 : Int32)), .val (.int (own_j1a0_161_L5 i2 b0 b1 b2 b3 b4)), .val (.int (own_j1a0_161_L6 i2 b0 b1 b2 b3 b4)), .val (.int (own_j1a0_161_L7 i2 b0 b1 b2 b3 b4)), .val (.int (1 : Int32)), .val (.int (own_v1a0_191_2 i2 b0 b1 b2 b3 b4))] [])) _
                refine XS.iconst XJ16.here hx rfl (hb hby own_d1_207) ?_
                exact kt
              refine ownE.retI XJ16 hx hlk hret (hb hby own_d1_208) ?_ (by decide) (by decide)
              show own_Q1a0 Z r0 i2 kk b0 b1 b2 b3 b4 h0 n0 _ TJ16.heap _
              rw [eJ16]
              exact ⟨(by rw [hv16, own_r1a0_161, if_pos hc17, if_neg hk18_0, if_pos hk18, if_neg hc23, if_pos hc24] <;> first | rfl | decide), NJ16, rfl⟩
            · -- pc 204
              refine ownE.go (T' := TJ16) (f' := (mkF m 209 #[.val (.ref r0), .val (.int (0 : Int32)), .val (.int i2), .val (.int (own_v1a0_7 i2 b0 b1 b2 b3 b4)), .val (.int (2 : Int32)), .val (.int (own_j1a0_161_L5 i2 b0 b1 b2 b3 b4)), .val (.int (own_j1a0_161_L6 i2 b0 b1 b2 b3 b4)), .val (.int (own_j1a0_161_L7 i2 b0 b1 b2 b3 b4)), .val (.int (1 : Int32)), .val (.int (own_v1a0_191_2 i2 b0 b1 b2 b3 b4))] [])) (fun t kt => XS.icmpYes (g := (mkF m 204 #[.val (.ref r0), .val (.int (0 : Int32)), .val (.int i2), .val (.int (own_v1a0_7 i2 b0 b1 b2 b3 b4)), .val (.int (2 : Int32)), .val (.int (own_j1a0_161_L5 i2 b0 b1 b2 b3 b4)), .val (.int (own_j1a0_161_L6 i2 b0 b1 b2 b3 b4)), .val (.int (own_j1a0_161_L7 i2 b0 b1 b2 b3 b4)), .val (.int (1 : Int32)), .val (.int (own_v1a0_191_2 i2 b0 b1 b2 b3 b4))] [(.int (own_j1a0_161_L7 i2 b0 b1 b2 b3 b4)), (.int (own_v1a0_191_2 i2 b0 b1 b2 b3 b4))])) XJ16.here hx rfl (pc0 := 204) (pc' := 209) rfl (hb hby own_d1_204) rfl (Jvm.Free.XT.ii_le_t hc24) (by decide) (by decide) kt) ?_
              refine ownE.go (T' := TJ16) (f' := (mkF m 178 #[.val (.ref r0), .val (.int (0 : Int32)), .val (.int i2), .val (.int (own_v1a0_7 i2 b0 b1 b2 b3 b4)), .val (.int (2 : Int32)), .val (.int (own_v1a0_220_2 i2 b0 b1 b2 b3 b4)), .val (.int (128 : Int32)), .val (.int (191 : Int32)), .val (.int (2 : Int32)), .val (.int (own_v1a0_191_2 i2 b0 b1 b2 b3 b4))] [(.int (2 : Int32)), (.int (2 : Int32))])) (fun t kt => ?_) ?_
              · show Steps p.tables e below (TJ16.setTop (mkF m 209 #[.val (.ref r0), .val (.int (0 : Int32)), .val (.int i2), .val (.int (own_v1a0_7 i2 b0 b1 b2 b3 b4)), .val (.int (2 : Int32)), .val (.int (own_j1a0_161_L5 i2 b0 b1 b2 b3 b4)), .val (.int (own_j1a0_161_L6 i2 b0 b1 b2 b3 b4)), .val (.int (own_j1a0_161_L7 i2 b0 b1 b2 b3 b4)), .val (.int (1 : Int32)), .val (.int (own_v1a0_191_2 i2 b0 b1 b2 b3 b4))] [])) _
                refine XS.iload XJ16.here hx rfl (hb hby own_d1_209) rfl ?_
                show Steps p.tables e below (TJ16.setTop (mkF m 211 #[.val (.ref r0), .val (.int (0 : Int32)), .val (.int i2), .val (.int (own_v1a0_7 i2 b0 b1 b2 b3 b4)), .val (.int (2 : Int32)), .val (.int (own_j1a0_161_L5 i2 b0 b1 b2 b3 b4)), .val (.int (own_j1a0_161_L6 i2 b0 b1 b2 b3 b4)), .val (.int (own_j1a0_161_L7 i2 b0 b1 b2 b3 b4)), .val (.int (1 : Int32)), .val (.int (own_v1a0_191_2 i2 b0 b1 b2 b3 b4))] [(.int (own_j1a0_161_L5 i2 b0 b1 b2 b3 b4))])) _
                refine XS.bipush XJ16.here hx rfl (hb hby own_d1_211) ?_
                show Steps p.tables e below (TJ16.setTop (mkF m 213 #[.val (.ref r0), .val (.int (0 : Int32)), .val (.int i2), .val (.int (own_v1a0_7 i2 b0 b1 b2 b3 b4)), .val (.int (2 : Int32)), .val (.int (own_j1a0_161_L5 i2 b0 b1 b2 b3 b4)), .val (.int (own_j1a0_161_L6 i2 b0 b1 b2 b3 b4)), .val (.int (own_j1a0_161_L7 i2 b0 b1 b2 b3 b4)), .val (.int (1 : Int32)), .val (.int (own_v1a0_191_2 i2 b0 b1 b2 b3 b4))] [(.int (6 : Int32)), (.int (own_j1a0_161_L5 i2 b0 b1 b2 b3 b4))])) _
                refine XS.ishl XJ16.here hx rfl (hb hby own_d1_213) rfl ?_
                show Steps p.tables e below (TJ16.setTop (mkF m 214 #[.val (.ref r0), .val (.int (0 : Int32)), .val (.int i2), .val (.int (own_v1a0_7 i2 b0 b1 b2 b3 b4)), .val (.int (2 : Int32)), .val (.int (own_j1a0_161_L5 i2 b0 b1 b2 b3 b4)), .val (.int (own_j1a0_161_L6 i2 b0 b1 b2 b3 b4)), .val (.int (own_j1a0_161_L7 i2 b0 b1 b2 b3 b4)), .val (.int (1 : Int32)), .val (.int (own_v1a0_191_2 i2 b0 b1 b2 b3 b4))] [(.int ((own_j1a0_161_L5 i2 b0 b1 b2 b3 b4) <<< ((6 : Int32) &&& 31)))])) _
                refine XS.iload XJ16.here hx rfl (hb hby own_d1_214) rfl ?_
                show Steps p.tables e below (TJ16.setTop (mkF m 216 #[.val (.ref r0), .val (.int (0 : Int32)), .val (.int i2), .val (.int (own_v1a0_7 i2 b0 b1 b2 b3 b4)), .val (.int (2 : Int32)), .val (.int (own_j1a0_161_L5 i2 b0 b1 b2 b3 b4)), .val (.int (own_j1a0_161_L6 i2 b0 b1 b2 b3 b4)), .val (.int (own_j1a0_161_L7 i2 b0 b1 b2 b3 b4)), .val (.int (1 : Int32)), .val (.int (own_v1a0_191_2 i2 b0 b1 b2 b3 b4))] [(.int (own_v1a0_191_2 i2 b0 b1 b2 b3 b4)), (.int ((own_j1a0_161_L5 i2 b0 b1 b2 b3 b4) <<< ((6 : Int32) &&& 31)))])) _
                refine XS.bipush XJ16.here hx rfl (hb hby own_d1_216) ?_
                show Steps p.tables e below (TJ16.setTop (mkF m 218 #[.val (.ref r0), .val (.int (0 : Int32)), .val (.int i2), .val (.int (own_v1a0_7 i2 b0 b1 b2 b3 b4)), .val (.int (2 : Int32)), .val (.int (own_j1a0_161_L5 i2 b0 b1 b2 b3 b4)), .val (.int (own_j1a0_161_L6 i2 b0 b1 b2 b3 b4)), .val (.int (own_j1a0_161_L7 i2 b0 b1 b2 b3 b4)), .val (.int (1 : Int32)), .val (.int (own_v1a0_191_2 i2 b0 b1 b2 b3 b4))] [(.int (63 : Int32)), (.int (own_v1a0_191_2 i2 b0 b1 b2 b3 b4)), (.int ((own_j1a0_161_L5 i2 b0 b1 b2 b3 b4) <<< ((6 : Int32) &&& 31)))])) _
                refine XS.iand XJ16.here hx rfl (hb hby own_d1_218) rfl ?_
                show Steps p.tables e below (TJ16.setTop (mkF m 219 #[.val (.ref r0), .val (.int (0 : Int32)), .val (.int i2), .val (.int (own_v1a0_7 i2 b0 b1 b2 b3 b4)), .val (.int (2 : Int32)), .val (.int (own_j1a0_161_L5 i2 b0 b1 b2 b3 b4)), .val (.int (own_j1a0_161_L6 i2 b0 b1 b2 b3 b4)), .val (.int (own_j1a0_161_L7 i2 b0 b1 b2 b3 b4)), .val (.int (1 : Int32)), .val (.int (own_v1a0_191_2 i2 b0 b1 b2 b3 b4))] [(.int ((own_v1a0_191_2 i2 b0 b1 b2 b3 b4) &&& (63 : Int32))), (.int ((own_j1a0_161_L5 i2 b0 b1 b2 b3 b4) <<< ((6 : Int32) &&& 31)))])) _
                refine XS.ior XJ16.here hx rfl (hb hby own_d1_219) rfl ?_
                show Steps p.tables e below (TJ16.setTop (mkF m 220 #[.val (.ref r0), .val (.int (0 : Int32)), .val (.int i2), .val (.int (own_v1a0_7 i2 b0 b1 b2 b3 b4)), .val (.int (2 : Int32)), .val (.int (own_j1a0_161_L5 i2 b0 b1 b2 b3 b4)), .val (.int (own_j1a0_161_L6 i2 b0 b1 b2 b3 b4)), .val (.int (own_j1a0_161_L7 i2 b0 b1 b2 b3 b4)), .val (.int (1 : Int32)), .val (.int (own_v1a0_191_2 i2 b0 b1 b2 b3 b4))] [(.int (((own_j1a0_161_L5 i2 b0 b1 b2 b3 b4) <<< ((6 : Int32) &&& 31)) ||| ((own_v1a0_191_2 i2 b0 b1 b2 b3 b4) &&& (63 : Int32))))])) _
                refine XS.istore XJ16.here hx rfl (hb hby own_d1_220) rfl (l' := #[.val (.ref r0), .val (.int (0 : Int32)), .val (.int i2), .val (.int (own_v1a0_7 i2 b0 b1 b2 b3 b4)), .val (.int (2 : Int32)), .val (.int (own_v1a0_220_2 i2 b0 b1 b2 b3 b4)), .val (.int (own_j1a0_161_L6 i2 b0 b1 b2 b3 b4)), .val (.int (own_j1a0_161_L7 i2 b0 b1 b2 b3 b4)), .val (.int (1 : Int32)), .val (.int (own_v1a0_191_2 i2 b0 b1 b2 b3 b4))]) rfl ?_
                show Steps p.tables e below (TJ16.setTop (mkF m 222 #[.val (.ref r0), .val (.int (0 : Int32)), .val (.int i2), .val (.int (own_v1a0_7 i2 b0 b1 b2 b3 b4)), .val (.int (2 : Int32)), .val (.int (own_v1a0_220_2 i2 b0 b1 b2 b3 b4)), .val (.int (own_j1a0_161_L6 i2 b0 b1 b2 b3 b4)), .val (.int (own_j1a0_161_L7 i2 b0 b1 b2 b3 b4)), .val (.int (1 : Int32)), .val (.int (own_v1a0_191_2 i2 b0 b1 b2 b3 b4))] [])) _
                refine XS.sipush XJ16.here hx rfl (hb hby own_d1_222) ?_
                show Steps p.tables e below (TJ16.setTop (mkF m 225 #[.val (.ref r0), .val (.int (0 : Int32)), .val (.int i2), .val (.int (own_v1a0_7 i2 b0 b1 b2 b3 b4)), .val (.int (2 : Int32)), .val (.int (own_v1a0_220_2 i2 b0 b1 b2 b3 b4)), .val (.int (own_j1a0_161_L6 i2 b0 b1 b2 b3 b4)), .val (.int (own_j1a0_161_L7 i2 b0 b1 b2 b3 b4)), .val (.int (1 : Int32)), .val (.int (own_v1a0_191_2 i2 b0 b1 b2 b3 b4))] [(.int (128 : Int32))])) _
                refine XS.istore XJ16.here hx rfl (hb hby own_d1_225) rfl (l' := #[.val (.ref r0), .val (.int (0 : Int32)), .val (.int i2), .val (.int (own_v1a0_7 i2 b0 b1 b2 b3 b4)), .val (.int (2 : Int32)), .val (.int (own_v1a0_220_2 i2 b0 b1 b2 b3 b4)), .val (.int (128 : Int32)), .val (.int (own_j1a0_161_L7 i2 b0 b1 b2 b3 b4)), .val (.int (1 : Int32)), .val (.int (own_v1a0_191_2 i2 b0 b1 b2 b3 b4))]) rfl ?_
                show Steps p.tables e below (TJ16.setTop (mkF m 227 #[.val (.ref r0), .val (.int (0 : Int32)), .val (.int i2), .val (.int (own_v1a0_7 i2 b0 b1 b2 b3 b4)), .val (.int (2 : Int32)), .val (.int (own_v1a0_220_2 i2 b0 b1 b2 b3 b4)), .val (.int (128 : Int32)), .val (.int (own_j1a0_161_L7 i2 b0 b1 b2 b3 b4)), .val (.int (1 : Int32)), .val (.int (own_v1a0_191_2 i2 b0 b1 b2 b3 b4))] [])) _
                refine XS.sipush XJ16.here hx rfl (hb hby own_d1_227) ?_
                show Steps p.tables e below (TJ16.setTop (mkF m 230 #[.val (.ref r0), .val (.int (0 : Int32)), .val (.int i2), .val (.int (own_v1a0_7 i2 b0 b1 b2 b3 b4)), .val (.int (2 : Int32)), .val (.int (own_v1a0_220_2 i2 b0 b1 b2 b3 b4)), .val (.int (128 : Int32)), .val (.int (own_j1a0_161_L7 i2 b0 b1 b2 b3 b4)), .val (.int (1 : Int32)), .val (.int (own_v1a0_191_2 i2 b0 b1 b2 b3 b4))] [(.int (191 : Int32))])) _
                refine XS.istore XJ16.here hx rfl (hb hby own_d1_230) rfl (l' := #[.val (.ref r0), .val (.int (0 : Int32)), .val (.int i2), .val (.int (own_v1a0_7 i2 b0 b1 b2 b3 b4)), .val (.int (2 : Int32)), .val (.int (own_v1a0_220_2 i2 b0 b1 b2 b3 b4)), .val (.int (128 : Int32)), .val (.int (191 : Int32)), .val (.int (1 : Int32)), .val (.int (own_v1a0_191_2 i2 b0 b1 b2 b3 b4))]) rfl ?_
                show Steps p.tables e below (TJ16.setTop (mkF m 232 #[.val (.ref r0), .val (.int (0 : Int32)), .val (.int i2), .val (.int (own_v1a0_7 i2 b0 b1 b2 b3 b4)), .val (.int (2 : Int32)), .val (.int (own_v1a0_220_2 i2 b0 b1 b2 b3 b4)), .val (.int (128 : Int32)), .val (.int (191 : Int32)), .val (.int (1 : Int32)), .val (.int (own_v1a0_191_2 i2 b0 b1 b2 b3 b4))] [])) _
                refine XS.iinc XJ16.here hx rfl (hb hby own_d1_232) rfl (l' := #[.val (.ref r0), .val (.int (0 : Int32)), .val (.int i2), .val (.int (own_v1a0_7 i2 b0 b1 b2 b3 b4)), .val (.int (2 : Int32)), .val (.int (own_v1a0_220_2 i2 b0 b1 b2 b3 b4)), .val (.int (128 : Int32)), .val (.int (191 : Int32)), .val (.int (2 : Int32)), .val (.int (own_v1a0_191_2 i2 b0 b1 b2 b3 b4))]) rfl ?_
                show Steps p.tables e below (TJ16.setTop (mkF m 235 #[.val (.ref r0), .val (.int (0 : Int32)), .val (.int i2), .val (.int (own_v1a0_7 i2 b0 b1 b2 b3 b4)), .val (.int (2 : Int32)), .val (.int (own_v1a0_220_2 i2 b0 b1 b2 b3 b4)), .val (.int (128 : Int32)), .val (.int (191 : Int32)), .val (.int (2 : Int32)), .val (.int (own_v1a0_191_2 i2 b0 b1 b2 b3 b4))] [])) _
                refine XS.goto XJ16.here hx rfl (pc0 := 235) (pc' := 174) rfl (hb hby own_d1_235) (by decide) (by decide) ?_
                show Steps p.tables e below (TJ16.setTop (mkF m 174 #[.val (.ref r0), .val (.int (0 : Int32)), .val (.int i2), .val (.int (own_v1a0_7 i2 b0 b1 b2 b3 b4)), .val (.int (2 : Int32)), .val (.int (own_v1a0_220_2 i2 b0 b1 b2 b3 b4)), .val (.int (128 : Int32)), .val (.int (191 : Int32)), .val (.int (2 : Int32)), .val (.int (own_v1a0_191_2 i2 b0 b1 b2 b3 b4))] [])) _
                refine XS.iload XJ16.here hx rfl (hb hby own_d1_174) rfl ?_
                show Steps p.tables e below (TJ16.setTop (mkF m 176 #[.val (.ref r0), .val (.int (0 : Int32)), .val (.int i2), .val (.int (own_v1a0_7 i2 b0 b1 b2 b3 b4)), .val (.int (2 : Int32)), .val (.int (own_v1a0_220_2 i2 b0 b1 b2 b3 b4)), .val (.int (128 : Int32)), .val (.int (191 : Int32)), .val (.int (2 : Int32)), .val (.int (own_v1a0_191_2 i2 b0 b1 b2 b3 b4))] [(.int (2 : Int32))])) _
                refine XS.iload XJ16.here hx rfl (hb hby own_d1_176) rfl ?_
                exact kt
              refine ownE.go (T' := TJ16) (f' := (mkF m 181 #[.val (.ref r0), .val (.int (0 : Int32)), .val (.int i2), .val (.int (own_v1a0_7 i2 b0 b1 b2 b3 b4)), .val (.int (2 : Int32)), .val (.int (own_v1a0_220_2 i2 b0 b1 b2 b3 b4)), .val (.int (128 : Int32)), .val (.int (191 : Int32)), .val (.int (2 : Int32)), .val (.int (own_v1a0_191_2 i2 b0 b1 b2 b3 b4))] [])) (fun t kt => XS.icmpNo (g := (mkF m 178 #[.val (.ref r0), .val (.int (0 : Int32)), .val (.int i2), .val (.int (own_v1a0_7 i2 b0 b1 b2 b3 b4)), .val (.int (2 : Int32)), .val (.int (own_v1a0_220_2 i2 b0 b1 b2 b3 b4)), .val (.int (128 : Int32)), .val (.int (191 : Int32)), .val (.int (2 : Int32)), .val (.int (own_v1a0_191_2 i2 b0 b1 b2 b3 b4))] [(.int (2 : Int32)), (.int (2 : Int32))])) XJ16.here hx rfl (hb hby own_d1_178) rfl (Jvm.Free.XT.ii_gt_f (by decide)) kt) ?_
              refine ownE.go (T' := TJ16) (f' := (mkF m 186 #[.val (.ref r0), .val (.int (0 : Int32)), .val (.int i2), .val (.int (own_v1a0_7 i2 b0 b1 b2 b3 b4)), .val (.int (2 : Int32)), .val (.int (own_v1a0_220_2 i2 b0 b1 b2 b3 b4)), .val (.int (128 : Int32)), .val (.int (191 : Int32)), .val (.int (2 : Int32)), .val (.int (own_v1a0_191_2 i2 b0 b1 b2 b3 b4))] [(.int (2 : Int32)), (.ref r0)])) (fun t kt => ?_) ?_
              · show Steps p.tables e below (TJ16.setTop (mkF m 181 #[.val (.ref r0), .val (.int (0 : Int32)), .val (.int i2), .val (.int (own_v1a0_7 i2 b0 b1 b2 b3 b4)), .val (.int (2 : Int32)), .val (.int (own_v1a0_220_2 i2 b0 b1 b2 b3 b4)), .val (.int (128 : Int32)), .val (.int (191 : Int32)), .val (.int (2 : Int32)), .val (.int (own_v1a0_191_2 i2 b0 b1 b2 b3 b4))] [])) _
                refine XS.aloadN XJ16.here hx rfl (hb hby own_d1_181) rfl rfl ?_
                show Steps p.tables e below (TJ16.setTop (mkF m 182 #[.val (.ref r0), .val (.int (0 : Int32)), .val (.int i2), .val (.int (own_v1a0_7 i2 b0 b1 b2 b3 b4)), .val (.int (2 : Int32)), .val (.int (own_v1a0_220_2 i2 b0 b1 b2 b3 b4)), .val (.int (128 : Int32)), .val (.int (191 : Int32)), .val (.int (2 : Int32)), .val (.int (own_v1a0_191_2 i2 b0 b1 b2 b3 b4))] [(.ref r0)])) _
                refine XS.iloadN XJ16.here hx rfl (hb hby own_d1_182) rfl ?_
                show Steps p.tables e below (TJ16.setTop (mkF m 183 #[.val (.ref r0), .val (.int (0 : Int32)), .val (.int i2), .val (.int (own_v1a0_7 i2 b0 b1 b2 b3 b4)), .val (.int (2 : Int32)), .val (.int (own_v1a0_220_2 i2 b0 b1 b2 b3 b4)), .val (.int (128 : Int32)), .val (.int (191 : Int32)), .val (.int (2 : Int32)), .val (.int (own_v1a0_191_2 i2 b0 b1 b2 b3 b4))] [(.int (0 : Int32)), (.ref r0)])) _
                refine XS.iload XJ16.here hx rfl (hb hby own_d1_183) rfl ?_
                show Steps p.tables e below (TJ16.setTop (mkF m 185 #[.val (.ref r0), .val (.int (0 : Int32)), .val (.int i2), .val (.int (own_v1a0_7 i2 b0 b1 b2 b3 b4)), .val (.int (2 : Int32)), .val (.int (own_v1a0_220_2 i2 b0 b1 b2 b3 b4)), .val (.int (128 : Int32)), .val (.int (191 : Int32)), .val (.int (2 : Int32)), .val (.int (own_v1a0_191_2 i2 b0 b1 b2 b3 b4))] [(.int (2 : Int32)), (.int (0 : Int32)), (.ref r0)])) _
                refine XS.iadd XJ16.here hx rfl (hb hby own_d1_185) rfl ?_
                exact kt
              obtain ⟨cl25, Ar25, q25, S25, Nn25, Hh25, G25⟩ := id P0
              refine ownE.go (T' := TJ16) (f' := (mkF m 187 #[.val (.ref r0), .val (.int (0 : Int32)), .val (.int i2), .val (.int (own_v1a0_7 i2 b0 b1 b2 b3 b4)), .val (.int (2 : Int32)), .val (.int (own_v1a0_220_2 i2 b0 b1 b2 b3 b4)), .val (.int (128 : Int32)), .val (.int (191 : Int32)), .val (.int (2 : Int32)), .val (.int (own_v1a0_191_2 i2 b0 b1 b2 b3 b4))] [(.int b2)])) (fun t kt => XJ16.baloadBytes hx (j := (2 : Int32)) (v := (.int b2)) (by rw [eJ16]; exact Ar25.1) (State.isArrayOf_alike hZ.alike Ar25.2.1) Ar25.2.2 (inb_of S25 ⟨by decide, by decide⟩) (Hh25.at (inb_of S25 ⟨by decide, by decide⟩) rfl) (g := (mkF m 186 #[.val (.ref r0), .val (.int (0 : Int32)), .val (.int i2), .val (.int (own_v1a0_7 i2 b0 b1 b2 b3 b4)), .val (.int (2 : Int32)), .val (.int (own_v1a0_220_2 i2 b0 b1 b2 b3 b4)), .val (.int (128 : Int32)), .val (.int (191 : Int32)), .val (.int (2 : Int32)), .val (.int (own_v1a0_191_2 i2 b0 b1 b2 b3 b4))] [(.int (2 : Int32)), (.ref r0)])) rfl rfl (hb hby own_d1_186) _ kt) ?_
              refine ownE.go (T' := TJ16) (f' := (mkF m 197 #[.val (.ref r0), .val (.int (0 : Int32)), .val (.int i2), .val (.int (own_v1a0_7 i2 b0 b1 b2 b3 b4)), .val (.int (2 : Int32)), .val (.int (own_v1a0_220_2 i2 b0 b1 b2 b3 b4)), .val (.int (128 : Int32)), .val (.int (191 : Int32)), .val (.int (2 : Int32)), .val (.int (own_v1a0_191_3 i2 b0 b1 b2 b3 b4))] [(.int (128 : Int32)), (.int (own_v1a0_191_3 i2 b0 b1 b2 b3 b4))])) (fun t kt => ?_) ?_
              · show Steps p.tables e below (TJ16.setTop (mkF m 187 #[.val (.ref r0), .val (.int (0 : Int32)), .val (.int i2), .val (.int (own_v1a0_7 i2 b0 b1 b2 b3 b4)), .val (.int (2 : Int32)), .val (.int (own_v1a0_220_2 i2 b0 b1 b2 b3 b4)), .val (.int (128 : Int32)), .val (.int (191 : Int32)), .val (.int (2 : Int32)), .val (.int (own_v1a0_191_2 i2 b0 b1 b2 b3 b4))] [(.int b2)])) _
                refine XS.sipush XJ16.here hx rfl (hb hby own_d1_187) ?_
                show Steps p.tables e below (TJ16.setTop (mkF m 190 #[.val (.ref r0), .val (.int (0 : Int32)), .val (.int i2), .val (.int (own_v1a0_7 i2 b0 b1 b2 b3 b4)), .val (.int (2 : Int32)), .val (.int (own_v1a0_220_2 i2 b0 b1 b2 b3 b4)), .val (.int (128 : Int32)), .val (.int (191 : Int32)), .val (.int (2 : Int32)), .val (.int (own_v1a0_191_2 i2 b0 b1 b2 b3 b4))] [(.int (255 : Int32)), (.int b2)])) _
                refine XS.iand XJ16.here hx rfl (hb hby own_d1_190) rfl ?_
                show Steps p.tables e below (TJ16.setTop (mkF m 191 #[.val (.ref r0), .val (.int (0 : Int32)), .val (.int i2), .val (.int (own_v1a0_7 i2 b0 b1 b2 b3 b4)), .val (.int (2 : Int32)), .val (.int (own_v1a0_220_2 i2 b0 b1 b2 b3 b4)), .val (.int (128 : Int32)), .val (.int (191 : Int32)), .val (.int (2 : Int32)), .val (.int (own_v1a0_191_2 i2 b0 b1 b2 b3 b4))] [(.int (b2 &&& (255 : Int32)))])) _
                refine XS.istore XJ16.here hx rfl (hb hby own_d1_191) rfl (l' := #[.val (.ref r0), .val (.int (0 : Int32)), .val (.int i2), .val (.int (own_v1a0_7 i2 b0 b1 b2 b3 b4)), .val (.int (2 : Int32)), .val (.int (own_v1a0_220_2 i2 b0 b1 b2 b3 b4)), .val (.int (128 : Int32)), .val (.int (191 : Int32)), .val (.int (2 : Int32)), .val (.int (own_v1a0_191_3 i2 b0 b1 b2 b3 b4))]) rfl ?_
                show Steps p.tables e below (TJ16.setTop (mkF m 193 #[.val (.ref r0), .val (.int (0 : Int32)), .val (.int i2), .val (.int (own_v1a0_7 i2 b0 b1 b2 b3 b4)), .val (.int (2 : Int32)), .val (.int (own_v1a0_220_2 i2 b0 b1 b2 b3 b4)), .val (.int (128 : Int32)), .val (.int (191 : Int32)), .val (.int (2 : Int32)), .val (.int (own_v1a0_191_3 i2 b0 b1 b2 b3 b4))] [])) _
                refine XS.iload XJ16.here hx rfl (hb hby own_d1_193) rfl ?_
                show Steps p.tables e below (TJ16.setTop (mkF m 195 #[.val (.ref r0), .val (.int (0 : Int32)), .val (.int i2), .val (.int (own_v1a0_7 i2 b0 b1 b2 b3 b4)), .val (.int (2 : Int32)), .val (.int (own_v1a0_220_2 i2 b0 b1 b2 b3 b4)), .val (.int (128 : Int32)), .val (.int (191 : Int32)), .val (.int (2 : Int32)), .val (.int (own_v1a0_191_3 i2 b0 b1 b2 b3 b4))] [(.int (own_v1a0_191_3 i2 b0 b1 b2 b3 b4))])) _
                refine XS.iload XJ16.here hx rfl (hb hby own_d1_195) rfl ?_
                exact kt
              by_cases hc26 : (own_v1a0_191_3 i2 b0 b1 b2 b3 b4) < (128 : Int32)
              · -- pc 197
                refine ownE.go (T' := TJ16) (f' := (mkF m 207 #[.val (.ref r0), .val (.int (0 : Int32)), .val (.int i2), .val (.int (own_v1a0_7 i2 b0 b1 b2 b3 b4)), .val (.int (2 : Int32)), .val (.int (own_v1a0_220_2 i2 b0 b1 b2 b3 b4)), .val (.int (128 : Int32)), .val (.int (191 : Int32)), .val (.int (2 : Int32)), .val (.int (own_v1a0_191_3 i2 b0 b1 b2 b3 b4))] [])) (fun t kt => XS.icmpYes (g := (mkF m 197 #[.val (.ref r0), .val (.int (0 : Int32)), .val (.int i2), .val (.int (own_v1a0_7 i2 b0 b1 b2 b3 b4)), .val (.int (2 : Int32)), .val (.int (own_v1a0_220_2 i2 b0 b1 b2 b3 b4)), .val (.int (128 : Int32)), .val (.int (191 : Int32)), .val (.int (2 : Int32)), .val (.int (own_v1a0_191_3 i2 b0 b1 b2 b3 b4))] [(.int (128 : Int32)), (.int (own_v1a0_191_3 i2 b0 b1 b2 b3 b4))])) XJ16.here hx rfl (pc0 := 197) (pc' := 207) rfl (hb hby own_d1_197) rfl (Jvm.Free.XT.ii_lt_t hc26) (by decide) (by decide) kt) ?_
                refine ownE.go (T' := TJ16) (f' := (mkF m 208 #[.val (.ref r0), .val (.int (0 : Int32)), .val (.int i2), .val (.int (own_v1a0_7 i2 b0 b1 b2 b3 b4)), .val (.int (2 : Int32)), .val (.int (own_v1a0_220_2 i2 b0 b1 b2 b3 b4)), .val (.int (128 : Int32)), .val (.int (191 : Int32)), .val (.int (2 : Int32)), .val (.int (own_v1a0_191_3 i2 b0 b1 b2 b3 b4))] [(.int (-1 : Int32))])) (fun t kt => ?_) ?_
                · show Steps p.tables e below (TJ16.setTop (mkF m 207 #[.val (.ref r0), .val (.int (0 : Int32)), .val (.int i2), .val (.int (own_v1a0_7 i2 b0 b1 b2 b3 b4)), .val (.int (2 : Int32)), .val (.int (own_v1a0_220_2 i2 b0 b1 b2 b3 b4)), .val (.int (128 : Int32)), .val (.int (191 : Int32)), .val (.int (2 : Int32)), .val (.int (own_v1a0_191_3 i2 b0 b1 b2 b3 b4))] [])) _
                  refine XS.iconst XJ16.here hx rfl (hb hby own_d1_207) ?_
                  exact kt
                refine ownE.retI XJ16 hx hlk hret (hb hby own_d1_208) ?_ (by decide) (by decide)
                show own_Q1a0 Z r0 i2 kk b0 b1 b2 b3 b4 h0 n0 _ TJ16.heap _
                rw [eJ16]
                exact ⟨(by rw [hv16, own_r1a0_161, if_pos hc17, if_neg hk18_0, if_pos hk18, if_neg hc23, if_neg hc24, if_pos hc26] <;> first | rfl | decide), NJ16, rfl⟩
              · -- pc 197
                refine ownE.go (T' := TJ16) (f' := (mkF m 200 #[.val (.ref r0), .val (.int (0 : Int32)), .val (.int i2), .val (.int (own_v1a0_7 i2 b0 b1 b2 b3 b4)), .val (.int (2 : Int32)), .val (.int (own_v1a0_220_2 i2 b0 b1 b2 b3 b4)), .val (.int (128 : Int32)), .val (.int (191 : Int32)), .val (.int (2 : Int32)), .val (.int (own_v1a0_191_3 i2 b0 b1 b2 b3 b4))] [])) (fun t kt => XS.icmpNo (g := (mkF m 197 #[.val (.ref r0), .val (.int (0 : Int32)), .val (.int i2), .val (.int (own_v1a0_7 i2 b0 b1 b2 b3 b4)), .val (.int (2 : Int32)), .val (.int (own_v1a0_220_2 i2 b0 b1 b2 b3 b4)), .val (.int (128 : Int32)), .val (.int (191 : Int32)), .val (.int (2 : Int32)), .val (.int (own_v1a0_191_3 i2 b0 b1 b2 b3 b4))] [(.int (128 : Int32)), (.int (own_v1a0_191_3 i2 b0 b1 b2 b3 b4))])) XJ16.here hx rfl (hb hby own_d1_197) rfl (Jvm.Free.XT.ii_lt_f hc26) kt) ?_
                refine ownE.go (T' := TJ16) (f' := (mkF m 204 #[.val (.ref r0), .val (.int (0 : Int32)), .val (.int i2), .val (.int (own_v1a0_7 i2 b0 b1 b2 b3 b4)), .val (.int (2 : Int32)), .val (.int (own_v1a0_220_2 i2 b0 b1 b2 b3 b4)), .val (.int (128 : Int32)), .val (.int (191 : Int32)), .val (.int (2 : Int32)), .val (.int (own_v1a0_191_3 i2 b0 b1 b2 b3 b4))] [(.int (191 : Int32)), (.int (own_v1a0_191_3 i2 b0 b1 b2 b3 b4))])) (fun t kt => ?_) ?_
                · show Steps p.tables e below (TJ16.setTop (mkF m 200 #[.val (.ref r0), .val (.int (0 : Int32)), .val (.int i2), .val (.int (own_v1a0_7 i2 b0 b1 b2 b3 b4)), .val (.int (2 : Int32)), .val (.int (own_v1a0_220_2 i2 b0 b1 b2 b3 b4)), .val (.int (128 : Int32)), .val (.int (191 : Int32)), .val (.int (2 : Int32)), .val (.int (own_v1a0_191_3 i2 b0 b1 b2 b3 b4))] [])) _
                  refine XS.iload XJ16.here hx rfl (hb hby own_d1_200) rfl ?_
                  show Steps p.tables e below (TJ16.setTop (mkF m 202 #[.val (.ref r0), .val (.int (0 : Int32)), .val (.int i2), .val (.int (own_v1a0_7 i2 b0 b1 b2 b3 b4)), .val (.int (2 : Int32)), .val (.int (own_v1a0_220_2 i2 b0 b1 b2 b3 b4)), .val (.int (128 : Int32)), .val (.int (191 : Int32)), .val (.int (2 : Int32)), .val (.int (own_v1a0_191_3 i2 b0 b1 b2 b3 b4))] [(.int (own_v1a0_191_3 i2 b0 b1 b2 b3 b4))])) _
                  refine XS.iload XJ16.here hx rfl (hb hby own_d1_202) rfl ?_
                  exact kt
                by_cases hc27 : (191 : Int32) < (own_v1a0_191_3 i2 b0 b1 b2 b3 b4)
                · -- pc 204
                  refine ownE.go (T' := TJ16) (f' := (mkF m 207 #[.val (.ref r0), .val (.int (0 : Int32)), .val (.int i2), .val (.int (own_v1a0_7 i2 b0 b1 b2 b3 b4)), .val (.int (2 : Int32)), .val (.int (own_v1a0_220_2 i2 b0 b1 b2 b3 b4)), .val (.int (128 : Int32)), .val (.int (191 : Int32)), .val (.int (2 : Int32)), .val (.int (own_v1a0_191_3 i2 b0 b1 b2 b3 b4))] [])) (fun t kt => XS.icmpNo (g := (mkF m 204 #[.val (.ref r0), .val (.int (0 : Int32)), .val (.int i2), .val (.int (own_v1a0_7 i2 b0 b1 b2 b3 b4)), .val (.int (2 : Int32)), .val (.int (own_v1a0_220_2 i2 b0 b1 b2 b3 b4)), .val (.int (128 : Int32)), .val (.int (191 : Int32)), .val (.int (2 : Int32)), .val (.int (own_v1a0_191_3 i2 b0 b1 b2 b3 b4))] [(.int (191 : Int32)), (.int (own_v1a0_191_3 i2 b0 b1 b2 b3 b4))])) XJ16.here hx rfl (hb hby own_d1_204) rfl (Jvm.Free.XT.ii_le_f hc27) kt) ?_
                  refine ownE.go (T' := TJ16) (f' := (mkF m 208 #[.val (.ref r0), .val (.int (0 : Int32)), .val (.int i2), .val (.int (own_v1a0_7 i2 b0 b1 b2 b3 b4)), .val (.int (2 : Int32)), .val (.int (own_v1a0_220_2 i2 b0 b1 b2 b3 b4)), .val (.int (128 : Int32)), .val (.int (191 : Int32)), .val (.int (2 : Int32)), .val (.int (own_v1a0_191_3 i2 b0 b1 b2 b3 b4))] [(.int (-1 : Int32))])) (fun t kt => ?_) ?_
                  · show Steps p.tables e below (TJ16.setTop (mkF m 207 #[.val (.ref r0), .val (.int (0 : Int32)), .val (.int i2), .val (.int (own_v1a0_7 i2 b0 b1 b2 b3 b4)), .val (.int (2 : Int32)), .val (.int (own_v1a0_220_2 i2 b0 b1 b2 b3 b4)), .val (.int (128 : Int32)), .val (.int (191 : Int32)), .val (.int (2 : Int32)), .val (.int (own_v1a0_191_3 i2 b0 b1 b2 b3 b4))] [])) _
                    refine XS.iconst XJ16.here hx rfl (hb hby own_d1_207) ?_
                    exact kt
                  refine ownE.retI XJ16 hx hlk hret (hb hby own_d1_208) ?_ (by decide) (by decide)
                  show own_Q1a0 Z r0 i2 kk b0 b1 b2 b3 b4 h0 n0 _ TJ16.heap _
                  rw [eJ16]
                  exact ⟨(by rw [hv16, own_r1a0_161, if_pos hc17, if_neg hk18_0, if_pos hk18, if_neg hc23, if_neg hc24, if_neg hc26, if_pos hc27] <;> first | rfl | decide), NJ16, rfl⟩
                · -- pc 204
                  refine ownE.go (T' := TJ16) (f' := (mkF m 209 #[.val (.ref r0), .val (.int (0 : Int32)), .val (.int i2), .val (.int (own_v1a0_7 i2 b0 b1 b2 b3 b4)), .val (.int (2 : Int32)), .val (.int (own_v1a0_220_2 i2 b0 b1 b2 b3 b4)), .val (.int (128 : Int32)), .val (.int (191 : Int32)), .val (.int (2 : Int32)), .val (.int (own_v1a0_191_3 i2 b0 b1 b2 b3 b4))] [])) (fun t kt => XS.icmpYes (g := (mkF m 204 #[.val (.ref r0), .val (.int (0 : Int32)), .val (.int i2), .val (.int (own_v1a0_7 i2 b0 b1 b2 b3 b4)), .val (.int (2 : Int32)), .val (.int (own_v1a0_220_2 i2 b0 b1 b2 b3 b4)), .val (.int (128 : Int32)), .val (.int (191 : Int32)), .val (.int (2 : Int32)), .val (.int (own_v1a0_191_3 i2 b0 b1 b2 b3 b4))] [(.int (191 : Int32)), (.int (own_v1a0_191_3 i2 b0 b1 b2 b3 b4))])) XJ16.here hx rfl (pc0 := 204) (pc' := 209) rfl (hb hby own_d1_204) rfl (Jvm.Free.XT.ii_le_t hc27) (by decide) (by decide) kt) ?_
                  refine ownE.go (T' := TJ16) (f' := (mkF m 178 #[.val (.ref r0), .val (.int (0 : Int32)), .val (.int i2), .val (.int (own_v1a0_7 i2 b0 b1 b2 b3 b4)), .val (.int (2 : Int32)), .val (.int (own_v1a0_220_3 i2 b0 b1 b2 b3 b4)), .val (.int (128 : Int32)), .val (.int (191 : Int32)), .val (.int (3 : Int32)), .val (.int (own_v1a0_191_3 i2 b0 b1 b2 b3 b4))] [(.int (2 : Int32)), (.int (3 : Int32))])) (fun t kt => ?_) ?_
                  · show Steps p.tables e below (TJ16.setTop (mkF m 209 #[.val (.ref r0), .val (.int (0 : Int32)), .val (.int i2), .val (.int (own_v1a0_7 i2 b0 b1 b2 b3 b4)), .val (.int (2 : Int32)), .val (.int (own_v1a0_220_2 i2 b0 b1 b2 b3 b4)), .val (.int (128 : Int32)), .val (.int (191 : Int32)), .val (.int (2 : Int32)), .val (.int (own_v1a0_191_3 i2 b0 b1 b2 b3 b4))] [])) _
                    refine XS.iload XJ16.here hx rfl (hb hby own_d1_209) rfl ?_
                    show Steps p.tables e below (TJ16.setTop (mkF m 211 #[.val (.ref r0), .val (.int (0 : Int32)), .val (.int i2), .val (.int (own_v1a0_7 i2 b0 b1 b2 b3 b4)), .val (.int (2 : Int32)), .val (.int (own_v1a0_220_2 i2 b0 b1 b2 b3 b4)), .val (.int (128 : Int32)), .val (.int (191 : Int32)), .val (.int (2 : Int32)), .val (.int (own_v1a0_191_3 i2 b0 b1 b2 b3 b4))] [(.int (own_v1a0_220_2 i2 b0 b1 b2 b3 b4))])) _
                    refine XS.bipush XJ16.here hx rfl (hb hby own_d1_211) ?_
                    show Steps p.tables e below (TJ16.setTop (mkF m 213 #[.val (.ref r0), .val (.int (0 : Int32)), .val (.int i2), .val (.int (own_v1a0_7 i2 b0 b1 b2 b3 b4)), .val (.int (2 : Int32)), .val (.int (own_v1a0_220_2 i2 b0 b1 b2 b3 b4)), .val (.int (128 : Int32)), .val (.int (191 : Int32)), .val (.int (2 : Int32)), .val (.int (own_v1a0_191_3 i2 b0 b1 b2 b3 b4))] [(.int (6 : Int32)), (.int (own_v1a0_220_2 i2 b0 b1 b2 b3 b4))])) _
                    refine XS.ishl XJ16.here hx rfl (hb hby own_d1_213) rfl ?_
                    show Steps p.tables e below (TJ16.setTop (mkF m 214 #[.val (.ref r0), .val (.int (0 : Int32)), .val (.int i2), .val (.int (own_v1a0_7 i2 b0 b1 b2 b3 b4)), .val (.int (2 : Int32)), .val (.int (own_v1a0_220_2 i2 b0 b1 b2 b3 b4)), .val (.int (128 : Int32)), .val (.int (191 : Int32)), .val (.int (2 : Int32)), .val (.int (own_v1a0_191_3 i2 b0 b1 b2 b3 b4))] [(.int ((own_v1a0_220_2 i2 b0 b1 b2 b3 b4) <<< ((6 : Int32) &&& 31)))])) _
                    refine XS.iload XJ16.here hx rfl (hb hby own_d1_214) rfl ?_
                    show Steps p.tables e below (TJ16.setTop (mkF m 216 #[.val (.ref r0), .val (.int (0 : Int32)), .val (.int i2), .val (.int (own_v1a0_7 i2 b0 b1 b2 b3 b4)), .val (.int (2 : Int32)), .val (.int (own_v1a0_220_2 i2 b0 b1 b2 b3 b4)), .val (.int (128 : Int32)), .val (.int (191 : Int32)), .val (.int (2 : Int32)), .val (.int (own_v1a0_191_3 i2 b0 b1 b2 b3 b4))] [(.int (own_v1a0_191_3 i2 b0 b1 b2 b3 b4)), (.int ((own_v1a0_220_2 i2 b0 b1 b2 b3 b4) <<< ((6 : Int32) &&& 31)))])) _
                    refine XS.bipush XJ16.here hx rfl (hb hby own_d1_216) ?_
                    show Steps p.tables e below (TJ16.setTop (mkF m 218 #[.val (.ref r0), .val (.int (0 : Int32)), .val (.int i2), .val (.int (own_v1a0_7 i2 b0 b1 b2 b3 b4)), .val (.int (2 : Int32)), .val (.int (own_v1a0_220_2 i2 b0 b1 b2 b3 b4)), .val (.int (128 : Int32)), .val (.int (191 : Int32)), .val (.int (2 : Int32)), .val (.int (own_v1a0_191_3 i2 b0 b1 b2 b3 b4))] [(.int (63 : Int32)), (.int (own_v1a0_191_3 i2 b0 b1 b2 b3 b4)), (.int ((own_v1a0_220_2 i2 b0 b1 b2 b3 b4) <<< ((6 : Int32) &&& 31)))])) _
                    refine XS.iand XJ16.here hx rfl (hb hby own_d1_218) rfl ?_
                    show Steps p.tables e below (TJ16.setTop (mkF m 219 #[.val (.ref r0), .val (.int (0 : Int32)), .val (.int i2), .val (.int (own_v1a0_7 i2 b0 b1 b2 b3 b4)), .val (.int (2 : Int32)), .val (.int (own_v1a0_220_2 i2 b0 b1 b2 b3 b4)), .val (.int (128 : Int32)), .val (.int (191 : Int32)), .val (.int (2 : Int32)), .val (.int (own_v1a0_191_3 i2 b0 b1 b2 b3 b4))] [(.int ((own_v1a0_191_3 i2 b0 b1 b2 b3 b4) &&& (63 : Int32))), (.int ((own_v1a0_220_2 i2 b0 b1 b2 b3 b4) <<< ((6 : Int32) &&& 31)))])) _
                    refine XS.ior XJ16.here hx rfl (hb hby own_d1_219) rfl ?_
                    show Steps p.tables e below (TJ16.setTop (mkF m 220 #[.val (.ref r0), .val (.int (0 : Int32)), .val (.int i2), .val (.int (own_v1a0_7 i2 b0 b1 b2 b3 b4)), .val (.int (2 : Int32)), .val (.int (own_v1a0_220_2 i2 b0 b1 b2 b3 b4)), .val (.int (128 : Int32)), .val (.int (191 : Int32)), .val (.int (2 : Int32)), .val (.int (own_v1a0_191_3 i2 b0 b1 b2 b3 b4))] [(.int (((own_v1a0_220_2 i2 b0 b1 b2 b3 b4) <<< ((6 : Int32) &&& 31)) ||| ((own_v1a0_191_3 i2 b0 b1 b2 b3 b4) &&& (63 : Int32))))])) _
                    refine XS.istore XJ16.here hx rfl (hb hby own_d1_220) rfl (l' := #[.val (.ref r0), .val (.int (0 : Int32)), .val (.int i2), .val (.int (own_v1a0_7 i2 b0 b1 b2 b3 b4)), .val (.int (2 : Int32)), .val (.int (own_v1a0_220_3 i2 b0 b1 b2 b3 b4)), .val (.int (128 : Int32)), .val (.int (191 : Int32)), .val (.int (2 : Int32)), .val (.int (own_v1a0_191_3 i2 b0 b1 b2 b3 b4))]) rfl ?_
                    show Steps p.tables e below (TJ16.setTop (mkF m 222 #[.val (.ref r0), .val (.int (0 : Int32)), .val (.int i2), .val (.int (own_v1a0_7 i2 b0 b1 b2 b3 b4)), .val (.int (2 : Int32)), .val (.int (own_v1a0_220_3 i2 b0 b1 b2 b3 b4)), .val (.int (128 : Int32)), .val (.int (191 : Int32)), .val (.int (2 : Int32)), .val (.int (own_v1a0_191_3 i2 b0 b1 b2 b3 b4))] [])) _
                    refine XS.sipush XJ16.here hx rfl (hb hby own_d1_222) ?_
                    show Steps p.tables e below (TJ16.setTop (mkF m 225 #[.val (.ref r0), .val (.int (0 : Int32)), .val (.int i2), .val (.int (own_v1a0_7 i2 b0 b1 b2 b3 b4)), .val (.int (2 : Int32)), .val (.int (own_v1a0_220_3 i2 b0 b1 b2 b3 b4)), .val (.int (128 : Int32)), .val (.int (191 : Int32)), .val (.int (2 : Int32)), .val (.int (own_v1a0_191_3 i2 b0 b1 b2 b3 b4))] [(.int (128 : Int32))])) _
                    refine XS.istore XJ16.here hx rfl (hb hby own_d1_225) rfl (l' := #[.val (.ref r0), .val (.int (0 : Int32)), .val (.int i2), .val (.int (own_v1a0_7 i2 b0 b1 b2 b3 b4)), .val (.int (2 : Int32)), .val (.int (own_v1a0_220_3 i2 b0 b1 b2 b3 b4)), .val (.int (128 : Int32)), .val (.int (191 : Int32)), .val (.int (2 : Int32)), .val (.int (own_v1a0_191_3 i2 b0 b1 b2 b3 b4))]) rfl ?_
                    show Steps p.tables e below (TJ16.setTop (mkF m 227 #[.val (.ref r0), .val (.int (0 : Int32)), .val (.int i2), .val (.int (own_v1a0_7 i2 b0 b1 b2 b3 b4)), .val (.int (2 : Int32)), .val (.int (own_v1a0_220_3 i2 b0 b1 b2 b3 b4)), .val (.int (128 : Int32)), .val (.int (191 : Int32)), .val (.int (2 : Int32)), .val (.int (own_v1a0_191_3 i2 b0 b1 b2 b3 b4))] [])) _
                    refine XS.sipush XJ16.here hx rfl (hb hby own_d1_227) ?_
                    show Steps p.tables e below (TJ16.setTop (mkF m 230 #[.val (.ref r0), .val (.int (0 : Int32)), .val (.int i2), .val (.int (own_v1a0_7 i2 b0 b1 b2 b3 b4)), .val (.int (2 : Int32)), .val (.int (own_v1a0_220_3 i2 b0 b1 b2 b3 b4)), .val (.int (128 : Int32)), .val (.int (191 : Int32)), .val (.int (2 : Int32)), .val (.int (own_v1a0_191_3 i2 b0 b1 b2 b3 b4))] [(.int (191 : Int32))])) _
                    refine XS.istore XJ16.here hx rfl (hb hby own_d1_230) rfl (l' := #[.val (.ref r0), .val (.int (0 : Int32)), .val (.int i2), .val (.int (own_v1a0_7 i2 b0 b1 b2 b3 b4)), .val (.int (2 : Int32)), .val (.int (own_v1a0_220_3 i2 b0 b1 b2 b3 b4)), .val (.int (128 : Int32)), .val (.int (191 : Int32)), .val (.int (2 : Int32)), .val (.int (own_v1a0_191_3 i2 b0 b1 b2 b3 b4))]) rfl ?_
                    show Steps p.tables e below (TJ16.setTop (mkF m 232 #[.val (.ref r0), .val (.int (0 : Int32)), .val (.int i2), .val (.int (own_v1a0_7 i2 b0 b1 b2 b3 b4)), .val (.int (2 : Int32)), .val (.int (own_v1a0_220_3 i2 b0 b1 b2 b3 b4)), .val (.int (128 : Int32)), .val (.int (191 : Int32)), .val (.int (2 : Int32)), .val (.int (own_v1a0_191_3 i2 b0 b1 b2 b3 b4))] [])) _
                    refine XS.iinc XJ16.here hx rfl (hb hby own_d1_232) rfl (l' := #[.val (.ref r0), .val (.int (0 : Int32)), .val (.int i2), .val (.int (own_v1a0_7 i2 b0 b1 b2 b3 b4)), .val (.int (2 : Int32)), .val (.int (own_v1a0_220_3 i2 b0 b1 b2 b3 b4)), .val (.int (128 : Int32)), .val (.int (191 : Int32)), .val (.int (3 : Int32)), .val (.int (own_v1a0_191_3 i2 b0 b1 b2 b3 b4))]) rfl ?_
                    show Steps p.tables e below (TJ16.setTop (mkF m 235 #[.val (.ref r0), .val (.int (0 : Int32)), .val (.int i2), .val (.int (own_v1a0_7 i2 b0 b1 b2 b3 b4)), .val (.int (2 : Int32)), .val (.int (own_v1a0_220_3 i2 b0 b1 b2 b3 b4)), .val (.int (128 : Int32)), .val (.int (191 : Int32)), .val (.int (3 : Int32)), .val (.int (own_v1a0_191_3 i2 b0 b1 b2 b3 b4))] [])) _
                    refine XS.goto XJ16.here hx rfl (pc0 := 235) (pc' := 174) rfl (hb hby own_d1_235) (by decide) (by decide) ?_
                    show Steps p.tables e below (TJ16.setTop (mkF m 174 #[.val (.ref r0), .val (.int (0 : Int32)), .val (.int i2), .val (.int (own_v1a0_7 i2 b0 b1 b2 b3 b4)), .val (.int (2 : Int32)), .val (.int (own_v1a0_220_3 i2 b0 b1 b2 b3 b4)), .val (.int (128 : Int32)), .val (.int (191 : Int32)), .val (.int (3 : Int32)), .val (.int (own_v1a0_191_3 i2 b0 b1 b2 b3 b4))] [])) _
                    refine XS.iload XJ16.here hx rfl (hb hby own_d1_174) rfl ?_
                    show Steps p.tables e below (TJ16.setTop (mkF m 176 #[.val (.ref r0), .val (.int (0 : Int32)), .val (.int i2), .val (.int (own_v1a0_7 i2 b0 b1 b2 b3 b4)), .val (.int (2 : Int32)), .val (.int (own_v1a0_220_3 i2 b0 b1 b2 b3 b4)), .val (.int (128 : Int32)), .val (.int (191 : Int32)), .val (.int (3 : Int32)), .val (.int (own_v1a0_191_3 i2 b0 b1 b2 b3 b4))] [(.int (3 : Int32))])) _
                    refine XS.iload XJ16.here hx rfl (hb hby own_d1_176) rfl ?_
                    exact kt
                  refine ownE.go (T' := TJ16) (f' := (mkF m 238 #[.val (.ref r0), .val (.int (0 : Int32)), .val (.int i2), .val (.int (own_v1a0_7 i2 b0 b1 b2 b3 b4)), .val (.int (2 : Int32)), .val (.int (own_v1a0_220_3 i2 b0 b1 b2 b3 b4)), .val (.int (128 : Int32)), .val (.int (191 : Int32)), .val (.int (3 : Int32)), .val (.int (own_v1a0_191_3 i2 b0 b1 b2 b3 b4))] [])) (fun t kt => XS.icmpYes (g := (mkF m 178 #[.val (.ref r0), .val (.int (0 : Int32)), .val (.int i2), .val (.int (own_v1a0_7 i2 b0 b1 b2 b3 b4)), .val (.int (2 : Int32)), .val (.int (own_v1a0_220_3 i2 b0 b1 b2 b3 b4)), .val (.int (128 : Int32)), .val (.int (191 : Int32)), .val (.int (3 : Int32)), .val (.int (own_v1a0_191_3 i2 b0 b1 b2 b3 b4))] [(.int (2 : Int32)), (.int (3 : Int32))])) XJ16.here hx rfl (pc0 := 178) (pc' := 238) rfl (hb hby own_d1_178) rfl (Jvm.Free.XT.ii_gt_t (by decide)) (by decide) (by decide) kt) ?_
                  refine ownE.go (T' := TJ16) (f' := (mkF m 240 #[.val (.ref r0), .val (.int (0 : Int32)), .val (.int i2), .val (.int (own_v1a0_7 i2 b0 b1 b2 b3 b4)), .val (.int (2 : Int32)), .val (.int (own_v1a0_220_3 i2 b0 b1 b2 b3 b4)), .val (.int (128 : Int32)), .val (.int (191 : Int32)), .val (.int (3 : Int32)), .val (.int (own_v1a0_191_3 i2 b0 b1 b2 b3 b4))] [(.int (own_v1a0_220_3 i2 b0 b1 b2 b3 b4))])) (fun t kt => ?_) ?_
                  · show Steps p.tables e below (TJ16.setTop (mkF m 238 #[.val (.ref r0), .val (.int (0 : Int32)), .val (.int i2), .val (.int (own_v1a0_7 i2 b0 b1 b2 b3 b4)), .val (.int (2 : Int32)), .val (.int (own_v1a0_220_3 i2 b0 b1 b2 b3 b4)), .val (.int (128 : Int32)), .val (.int (191 : Int32)), .val (.int (3 : Int32)), .val (.int (own_v1a0_191_3 i2 b0 b1 b2 b3 b4))] [])) _
                    refine XS.iload XJ16.here hx rfl (hb hby own_d1_238) rfl ?_
                    exact kt
                  refine ownE.retI XJ16 hx hlk hret (hb hby own_d1_240) ?_ (by decide) (by decide)
                  show own_Q1a0 Z r0 i2 kk b0 b1 b2 b3 b4 h0 n0 _ TJ16.heap _
                  rw [eJ16]
                  exact ⟨(by rw [hv16, own_r1a0_161, if_pos hc17, if_neg hk18_0, if_pos hk18, if_neg hc23, if_neg hc24, if_neg hc26, if_neg hc27] <;> first | rfl | decide), NJ16, rfl⟩
        · -- (own_j1a0_161_L4 i2 b0 b1 b2 b3 b4) = 3
          have hf18 : (mkF m 171 #[.val (.ref r0), .val (.int (0 : Int32)), .val (.int i2), .val (.int (own_v1a0_7 i2 b0 b1 b2 b3 b4)), .val (.int (own_j1a0_161_L4 i2 b0 b1 b2 b3 b4)), .val (.int (own_j1a0_161_L5 i2 b0 b1 b2 b3 b4)), .val (.int (own_j1a0_161_L6 i2 b0 b1 b2 b3 b4)), .val (.int (own_j1a0_161_L7 i2 b0 b1 b2 b3 b4)), .unset, .unset] []) = (mkF m 171 #[.val (.ref r0), .val (.int (0 : Int32)), .val (.int i2), .val (.int (own_v1a0_7 i2 b0 b1 b2 b3 b4)), .val (.int (3 : Int32)), .val (.int (own_j1a0_161_L5 i2 b0 b1 b2 b3 b4)), .val (.int (own_j1a0_161_L6 i2 b0 b1 b2 b3 b4)), .val (.int (own_j1a0_161_L7 i2 b0 b1 b2 b3 b4)), .unset, .unset] []) := by rw [hk18]
          rw [hf18]
          have hk18_0 : ¬ (own_j1a0_161_L4 i2 b0 b1 b2 b3 b4) = (1 : Int32) := by rw [hk18]; decide
          have hk18_1 : ¬ (own_j1a0_161_L4 i2 b0 b1 b2 b3 b4) = (2 : Int32) := by rw [hk18]; decide
          refine ownE.go (T' := TJ16) (f' := (mkF m 178 #[.val (.ref r0), .val (.int (0 : Int32)), .val (.int i2), .val (.int (own_v1a0_7 i2 b0 b1 b2 b3 b4)), .val (.int (3 : Int32)), .val (.int (own_j1a0_161_L5 i2 b0 b1 b2 b3 b4)), .val (.int (own_j1a0_161_L6 i2 b0 b1 b2 b3 b4)), .val (.int (own_j1a0_161_L7 i2 b0 b1 b2 b3 b4)), .val (.int (1 : Int32)), .unset] [(.int (3 : Int32)), (.int (1 : Int32))])) (fun t kt => ?_) ?_
          · show Steps p.tables e below (TJ16.setTop (mkF m 171 #[.val (.ref r0), .val (.int (0 : Int32)), .val (.int i2), .val (.int (own_v1a0_7 i2 b0 b1 b2 b3 b4)), .val (.int (3 : Int32)), .val (.int (own_j1a0_161_L5 i2 b0 b1 b2 b3 b4)), .val (.int (own_j1a0_161_L6 i2 b0 b1 b2 b3 b4)), .val (.int (own_j1a0_161_L7 i2 b0 b1 b2 b3 b4)), .unset, .unset] [])) _
            refine XS.iconst XJ16.here hx rfl (hb hby own_d1_171) ?_
            show Steps p.tables e below (TJ16.setTop (mkF m 172 #[.val (.ref r0), .val (.int (0 : Int32)), .val (.int i2), .val (.int (own_v1a0_7 i2 b0 b1 b2 b3 b4)), .val (.int (3 : Int32)), .val (.int (own_j1a0_161_L5 i2 b0 b1 b2 b3 b4)), .val (.int (own_j1a0_161_L6 i2 b0 b1 b2 b3 b4)), .val (.int (own_j1a0_161_L7 i2 b0 b1 b2 b3 b4)), .unset, .unset] [(.int (1 : Int32))])) _
            refine XS.istore XJ16.here hx rfl (hb hby own_d1_172) rfl (l' := #[.val (.ref r0), .val (.int (0 : Int32)), .val (.int i2), .val (.int (own_v1a0_7 i2 b0 b1 b2 b3 b4)), .val (.int (3 : Int32)), .val (.int (own_j1a0_161_L5 i2 b0 b1 b2 b3 b4)), .val (.int (own_j1a0_161_L6 i2 b0 b1 b2 b3 b4)), .val (.int (own_j1a0_161_L7 i2 b0 b1 b2 b3 b4)), .val (.int (1 : Int32)), .unset]) rfl ?_
            show Steps p.tables e below (TJ16.setTop (mkF m 174 #[.val (.ref r0), .val (.int (0 : Int32)), .val (.int i2), .val (.int (own_v1a0_7 i2 b0 b1 b2 b3 b4)), .val (.int (3 : Int32)), .val (.int (own_j1a0_161_L5 i2 b0 b1 b2 b3 b4)), .val (.int (own_j1a0_161_L6 i2 b0 b1 b2 b3 b4)), .val (.int (own_j1a0_161_L7 i2 b0 b1 b2 b3 b4)), .val (.int (1 : Int32)), .unset] [])) _
            refine XS.iload XJ16.here hx rfl (hb hby own_d1_174) rfl ?_
            show Steps p.tables e below (TJ16.setTop (mkF m 176 #[.val (.ref r0), .val (.int (0 : Int32)), .val (.int i2), .val (.int (own_v1a0_7 i2 b0 b1 b2 b3 b4)), .val (.int (3 : Int32)), .val (.int (own_j1a0_161_L5 i2 b0 b1 b2 b3 b4)), .val (.int (own_j1a0_161_L6 i2 b0 b1 b2 b3 b4)), .val (.int (own_j1a0_161_L7 i2 b0 b1 b2 b3 b4)), .val (.int (1 : Int32)), .unset] [(.int (1 : Int32))])) _
            refine XS.iload XJ16.here hx rfl (hb hby own_d1_176) rfl ?_
            exact kt
          refine ownE.go (T' := TJ16) (f' := (mkF m 181 #[.val (.ref r0), .val (.int (0 : Int32)), .val (.int i2), .val (.int (own_v1a0_7 i2 b0 b1 b2 b3 b4)), .val (.int (3 : Int32)), .val (.int (own_j1a0_161_L5 i2 b0 b1 b2 b3 b4)), .val (.int (own_j1a0_161_L6 i2 b0 b1 b2 b3 b4)), .val (.int (own_j1a0_161_L7 i2 b0 b1 b2 b3 b4)), .val (.int (1 : Int32)), .unset] [])) (fun t kt => XS.icmpNo (g := (mkF m 178 #[.val (.ref r0), .val (.int (0 : Int32)), .val (.int i2), .val (.int (own_v1a0_7 i2 b0 b1 b2 b3 b4)), .val (.int (3 : Int32)), .val (.int (own_j1a0_161_L5 i2 b0 b1 b2 b3 b4)), .val (.int (own_j1a0_161_L6 i2 b0 b1 b2 b3 b4)), .val (.int (own_j1a0_161_L7 i2 b0 b1 b2 b3 b4)), .val (.int (1 : Int32)), .unset] [(.int (3 : Int32)), (.int (1 : Int32))])) XJ16.here hx rfl (hb hby own_d1_178) rfl (Jvm.Free.XT.ii_gt_f (by decide)) kt) ?_
          refine ownE.go (T' := TJ16) (f' := (mkF m 186 #[.val (.ref r0), .val (.int (0 : Int32)), .val (.int i2), .val (.int (own_v1a0_7 i2 b0 b1 b2 b3 b4)), .val (.int (3 : Int32)), .val (.int (own_j1a0_161_L5 i2 b0 b1 b2 b3 b4)), .val (.int (own_j1a0_161_L6 i2 b0 b1 b2 b3 b4)), .val (.int (own_j1a0_161_L7 i2 b0 b1 b2 b3 b4)), .val (.int (1 : Int32)), .unset] [(.int (1 : Int32)), (.ref r0)])) (fun t kt => ?_) ?_
          · show Steps p.tables e below (TJ16.setTop (mkF m 181 #[.val (.ref r0), .val (.int (0 : Int32)), .val (.int i2), .val (.int (own_v1a0_7 i2 b0 b1 b2 b3 b4)), .val (.int (3 : Int32)), .val (.int (own_j1a0_161_L5 i2 b0 b1 b2 b3 b4)), .val (.int (own_j1a0_161_L6 i2 b0 b1 b2 b3 b4)), .val (.int (own_j1a0_161_L7 i2 b0 b1 b2 b3 b4)), .val (.int (1 : Int32)), .unset] [])) _
            refine XS.aloadN XJ16.here hx rfl (hb hby own_d1_181) rfl rfl ?_
            show Steps p.tables e below (TJ16.setTop (mkF m 182 #[.val (.ref r0), .val (.int (0 : Int32)), .val (.int i2), .val (.int (own_v1a0_7 i2 b0 b1 b2 b3 b4)), .val (.int (3 : Int32)), .val (.int (own_j1a0_161_L5 i2 b0 b1 b2 b3 b4)), .val (.int (own_j1a0_161_L6 i2 b0 b1 b2 b3 b4)), .val (.int (own_j1a0_161_L7 i2 b0 b1 b2 b3 b4)), .val (.int (1 : Int32)), .unset] [(.ref r0)])) _
            refine XS.iloadN XJ16.here hx rfl (hb hby own_d1_182) rfl ?_
            show Steps p.tables e below (TJ16.setTop (mkF m 183 #[.val (.ref r0), .val (.int (0 : Int32)), .val (.int i2), .val (.int (own_v1a0_7 i2 b0 b1 b2 b3 b4)), .val (.int (3 : Int32)), .val (.int (own_j1a0_161_L5 i2 b0 b1 b2 b3 b4)), .val (.int (own_j1a0_161_L6 i2 b0 b1 b2 b3 b4)), .val (.int (own_j1a0_161_L7 i2 b0 b1 b2 b3 b4)), .val (.int (1 : Int32)), .unset] [(.int (0 : Int32)), (.ref r0)])) _
            refine XS.iload XJ16.here hx rfl (hb hby own_d1_183) rfl ?_
            show Steps p.tables e below (TJ16.setTop (mkF m 185 #[.val (.ref r0), .val (.int (0 : Int32)), .val (.int i2), .val (.int (own_v1a0_7 i2 b0 b1 b2 b3 b4)), .val (.int (3 : Int32)), .val (.int (own_j1a0_161_L5 i2 b0 b1 b2 b3 b4)), .val (.int (own_j1a0_161_L6 i2 b0 b1 b2 b3 b4)), .val (.int (own_j1a0_161_L7 i2 b0 b1 b2 b3 b4)), .val (.int (1 : Int32)), .unset] [(.int (1 : Int32)), (.int (0 : Int32)), (.ref r0)])) _
            refine XS.iadd XJ16.here hx rfl (hb hby own_d1_185) rfl ?_
            exact kt
          obtain ⟨cl28, Ar28, q28, S28, Nn28, Hh28, G28⟩ := id P0
          refine ownE.go (T' := TJ16) (f' := (mkF m 187 #[.val (.ref r0), .val (.int (0 : Int32)), .val (.int i2), .val (.int (own_v1a0_7 i2 b0 b1 b2 b3 b4)), .val (.int (3 : Int32)), .val (.int (own_j1a0_161_L5 i2 b0 b1 b2 b3 b4)), .val (.int (own_j1a0_161_L6 i2 b0 b1 b2 b3 b4)), .val (.int (own_j1a0_161_L7 i2 b0 b1 b2 b3 b4)), .val (.int (1 : Int32)), .unset] [(.int b1)])) (fun t kt => XJ16.baloadBytes hx (j := (1 : Int32)) (v := (.int b1)) (by rw [eJ16]; exact Ar28.1) (State.isArrayOf_alike hZ.alike Ar28.2.1) Ar28.2.2 (inb_of S28 ⟨by decide, by decide⟩) (Hh28.at (inb_of S28 ⟨by decide, by decide⟩) rfl) (g := (mkF m 186 #[.val (.ref r0), .val (.int (0 : Int32)), .val (.int i2), .val (.int (own_v1a0_7 i2 b0 b1 b2 b3 b4)), .val (.int (3 : Int32)), .val (.int (own_j1a0_161_L5 i2 b0 b1 b2 b3 b4)), .val (.int (own_j1a0_161_L6 i2 b0 b1 b2 b3 b4)), .val (.int (own_j1a0_161_L7 i2 b0 b1 b2 b3 b4)), .val (.int (1 : Int32)), .unset] [(.int (1 : Int32)), (.ref r0)])) rfl rfl (hb hby own_d1_186) _ kt) ?_
          refine ownE.go (T' := TJ16) (f' := (mkF m 197 #[.val (.ref r0), .val (.int (0 : Int32)), .val (.int i2), .val (.int (own_v1a0_7 i2 b0 b1 b2 b3 b4)), .val (.int (3 : Int32)), .val (.int (own_j1a0_161_L5 i2 b0 b1 b2 b3 b4)), .val (.int (own_j1a0_161_L6 i2 b0 b1 b2 b3 b4)), .val (.int (own_j1a0_161_L7 i2 b0 b1 b2 b3 b4)), .val (.int (1 : Int32)), .val (.int (own_v1a0_191_4 i2 b0 b1 b2 b3 b4))] [(.int (own_j1a0_161_L6 i2 b0 b1 b2 b3 b4)), (.int (own_v1a0_191_4 i2 b0 b1 b2 b3 b4))])) (fun t kt => ?_) ?_
          · show Steps p.tables e below (TJ16.setTop (mkF m 187 #[.val (.ref r0), .val (.int (0 : Int32)), .val (.int i2), .val (.int (own_v1a0_7 i2 b0 b1 b2 b3 b4)), .val (.int (3 : Int32)), .val (.int (own_j1a0_161_L5 i2 b0 b1 b2 b3 b4)), .val (.int (own_j1a0_161_L6 i2 b0 b1 b2 b3 b4)), .val (.int (own_j1a0_161_L7 i2 b0 b1 b2 b3 b4)), .val (.int (1 : Int32)), .unset] [(.int b1)])) _
            refine XS.sipush XJ16.here hx rfl (hb hby own_d1_187) ?_
            show Steps p.tables e below (TJ16.setTop (mkF m 190 #[.val (.ref r0), .val (.int (0 : Int32)), .val (.int i2), .val (.int (own_v1a0_7 i2 b0 b1 b2 b3 b4)), .val (.int (3 : Int32)), .val (.int (own_j1a0_161_L5 i2 b0 b1 b2 b3 b4)), .val (.int (own_j1a0_161_L6 i2 b0 b1 b2 b3 b4)), .val (.int (own_j1a0_161_L7 i2 b0 b1 b2 b3 b4)), .val (.int (1 : Int32)), .unset] [(.int (255 : Int32)), (.int b1)])) _
            refine XS.iand XJ16.here hx rfl (hb hby own_d1_190) rfl ?_
            show Steps p.tables e below (TJ16.setTop (mkF m 191 #[.val (.ref r0), .val (.int (0 : Int32)), .val (.int i2), .val (.int (own_v1a0_7 i2 b0 b1 b2 b3 b4)), .val (.int (3 : Int32)), .val (.int (own_j1a0_161_L5 i2 b0 b1 b2 b3 b4)), .val (.int (own_j1a0_161_L6 i2 b0 b1 b2 b3 b4)), .val (.int (own_j1a0_161_L7 i2 b0 b1 b2 b3 b4)), .val (.int (1 : Int32)), .unset] [(.int (b1 &&& (255 : Int32)))])) _
            refine XS.istore XJ16.here hx rfl (hb hby own_d1_191) rfl (l' := #[.val (.ref r0), .val (.int (0 : Int32)), .val (.int i2), .val (.int (own_v1a0_7 i2 b0 b1 b2 b3 b4)), .val (.int (3 : Int32)), .val (.int (own_j1a0_161_L5 i2 b0 b1 b2 b3 b4)), .val (.int (own_j1a0_161_L6 i2 b0 b1 b2 b3 b4)), .val (.int (own_j1a0_161_L7 i2 b0 b1 b2 b3 b4)), .val (.int (1 : Int32)), .val (.int (own_v1a0_191_4 i2 b0 b1 b2 b3 b4))]) rfl ?_
            show Steps p.tables e below (TJ16.setTop (mkF m 193 #[.val (.ref r0), .val (.int (0 : Int32)), .val (.int i2), .val (.int (own_v1a0_7 i2 b0 b1 b2 b3 b4)), .val (.int (3 : Int32)), .val (.int (own_j1a0_161_L5 i2 b0 b1 b2 b3 b4)), .val (.int (own_j1a0_161_L6 i2 b0 b1 b2 b3 b4)), .val (.int (own_j1a0_161_L7 i2 b0 b1 b2 b3 b4)), .val (.int (1 : Int32)), .val (.int (own_v1a0_191_4 i2 b0 b1 b2 b3 b4))] [])) _
            refine XS.iload XJ16.here hx rfl (hb hby own_d1_193) rfl ?_
            show Steps p.tables e below (TJ16.setTop (mkF m 195 #[.val (.ref r0), .val (.int (0 : Int32)), .val (.int i2), .val (.int (own_v1a0_7 i2 b0 b1 b2 b3 b4)), .val (.int (3 : Int32)), .val (.int (own_j1a0_161_L5 i2 b0 b1 b2 b3 b4)), .val (.int (own_j1a0_161_L6 i2 b0 b1 b2 b3 b4)), .val (.int (own_j1a0_161_L7 i2 b0 b1 b2 b3 b4)), .val (.int (1 : Int32)), .val (.int (own_v1a0_191_4 i2 b0 b1 b2 b3 b4))] [(.int (own_v1a0_191_4 i2 b0 b1 b2 b3 b4))])) _
            refine XS.iload XJ16.here hx rfl (hb hby own_d1_195) rfl ?_
            exact kt
          by_cases hc29 : (own_v1a0_191_4 i2 b0 b1 b2 b3 b4) < (own_j1a0_161_L6 i2 b0 b1 b2 b3 b4)
          · -- pc 197
            refine ownE.go (T' := TJ16) (f' := (mkF m 207 #[.val (.ref r0), .val (.int (0 : Int32)), .val (.int i2), .val (.int (own_v1a0_7 i2 b0 b1 b2 b3 b4)), .val (.int (3 : Int32)), .val (.int (own_j1a0_161_L5 i2 b0 b1 b2 b3 b4)), .val (.int (own_j1a0_161_L6 i2 b0 b1 b2 b3 b4)), .val (.int (own_j1a0_161_L7 i2 b0 b1 b2 b3 b4)), .val (.int (1 : Int32)), .val (.int (own_v1a0_191_4 i2 b0 b1 b2 b3 b4))] [])) (fun t kt => XS.icmpYes (g := (mkF m 197 #[.val (.ref r0), .val (.int (0 : Int32)), .val (.int i2), .val (.int (own_v1a0_7 i2 b0 b1 b2 b3 b4)), .val (.int (3 : Int32)), .val (.int (own_j1a0_161_L5 i2 b0 b1 b2 b3 b4)), .val (.int (own_j1a0_161_L6 i2 b0 b1 b2 b3 b4)), .val (.int (own_j1a0_161_L7 i2 b0 b1 b2 b3 b4)), .val (.int (1 : Int32)), .val (.int (own_v1a0_191_4 i2 b0 b1 b2 b3 b4))] [(.int (own_j1a0_161_L6 i2 b0 b1 b2 b3 b4)), (.int (own_v1a0_191_4 i2 b0 b1 b2 b3 b4))])) XJ16.here hx rfl (pc0 := 197) (pc' := 207) rfl (hb hby own_d1_197) rfl (Jvm.Free.XT.ii_lt_t hc29) (by decide) (by decide) kt) ?_
            refine ownE.go (T' := TJ16) (f' := (mkF m 208 #[.val (.ref r0), .val (.int (0 : Int32)), .val (.int i2), .val (.int (own_v1a0_7 i2 b0 b1 b2 b3 b4)), .val (.int (3 : Int32)), .val (.int (own_j1a0_161_L5 i2 b0 b1 b2 b3 b4)), .val (.int (own_j1a0_161_L6 i2 b0 b1 b2 b3 b4)), .val (.int (own_j1a0_161_L7 i2 b0 b1 b2 b3 b4)), .val (.int (1 : Int32)), .val (.int (own_v1a0_191_4 i2 b0 b1 b2 b3 b4))] [(.int (-1 : Int32))])) (fun t kt => ?_) ?_
            · show Steps p.tables e below (TJ16.setTop (mkF m 207 #[.val (.ref r0), .val (.int (0 : Int32)), .val (.int i2), .val (.int (own_v1a0_7 i2 b0 b1 b2 b3 b4)), .val (.int (3 : Int32)), .val (.int (own_j1a0_161_L5 i2 b0 b1 b2 b3 b4)), .val (.int (own_j1a0_161_L6 i2 b0 b1 b2 b3 b4)), .val (.int (own_j1a0_161_L7 i2 b0 b1 b2 b3 b4)), .val (.int (1 : Int32)), .val (.int (own_v1a0_191_4 i2 b0 b1 b2 b3 b4))] [])) _
              refine XS.iconst XJ16.here hx rfl (hb hby own_d1_207) ?_
              exact kt
            refine ownE.retI XJ16 hx hlk hret (hb hby own_d1_208) ?_ (by decide) (by decide)
            show own_Q1a0 Z r0 i2 kk b0 b1 b2 b3 b4 h0 n0 _ TJ16.heap _
            rw [eJ16]
            exact ⟨(by rw [hv16, own_r1a0_161, if_pos hc17, if_neg hk18_0, if_neg hk18_1, if_pos hc29] <;> first | rfl | decide), NJ16, rfl⟩
          · -- pc 197
            refine ownE.go (T' := TJ16) (f' := (mkF m 200 #[.val (.ref r0), .val (.int (0 : Int32)), .val (.int i2), .val (.int (own_v1a0_7 i2 b0 b1 b2 b3 b4)), .val (.int (3 : Int32)), .val (.int (own_j1a0_161_L5 i2 b0 b1 b2 b3 b4)), .val (.int (own_j1a0_161_L6 i2 b0 b1 b2 b3 b4)), .val (.int (own_j1a0_161_L7 i2 b0 b1 b2 b3 b4)), .val (.int (1 : Int32)), .val (.int (own_v1a0_191_4 i2 b0 b1 b2 b3 b4))] [])) (fun t kt => XS.icmpNo (g := (mkF m 197 #[.val (.ref r0), .val (.int (0 : Int32)), .val (.int i2), .val (.int (own_v1a0_7 i2 b0 b1 b2 b3 b4)), .val (.int (3 : Int32)), .val (.int (own_j1a0_161_L5 i2 b0 b1 b2 b3 b4)), .val (.int (own_j1a0_161_L6 i2 b0 b1 b2 b3 b4)), .val (.int (own_j1a0_161_L7 i2 b0 b1 b2 b3 b4)), .val (.int (1 : Int32)), .val (.int (own_v1a0_191_4 i2 b0 b1 b2 b3 b4))] [(.int (own_j1a0_161_L6 i2 b0 b1 b2 b3 b4)), (.int (own_v1a0_191_4 i2 b0 b1 b2 b3 b4))])) XJ16.here hx rfl (hb hby own_d1_197) rfl (Jvm.Free.XT.ii_lt_f hc29) kt) ?_
            refine ownE.go (T' := TJ16) (f' := (mkF m 204 #[.val (.ref r0), .val (.int (0 : Int32)), .val (.int i2), .val (.int (own_v1a0_7 i2 b0 b1 b2 b3 b4)), .val (.int (3 : Int32)), .val (.int (own_j1a0_161_L5 i2 b0 b1 b2 b3 b4)), .val (.int (own_j1a0_161_L6 i2 b0 b1 b2 b3 b4)), .val (.int (own_j1a0_161_L7 i2 b0 b1 b2 b3 b4)), .val (.int (1 : Int32)), .val (.int (own_v1a0_191_4 i2 b0 b1 b2 b3 b4))] [(.int (own_j1a0_161_L7 i2 b0 b1 b2 b3 b4)), (.int (own_v1a0_191_4 i2 b0 b1 b2 b3 b4))])) (fun t kt => ?_) ?_
            · show Steps p.tables e below (TJ16.setTop (mkF m 200 #[.val (.ref r0), .val (.int (0 : Int32)), .val (.int i2), .val (.int (own_v1a0_7 i2 b0 b1 b2 b3 b4)), .val (.int (3 : Int32)), .val (.int (own_j1a0_161_L5 i2 b0 b1 b2 b3 b4)), .val (.int (own_j1a0_161_L6 i2 b0 b1 b2 b3 b4)), .val (.int (own_j1a0_161_L7 i2 b0 b1 b2 b3 b4)), .val (.int (1 : Int32)), .val (.int (own_v1a0_191_4 i2 b0 b1 b2 b3 b4))] [])) _
              refine XS.iload XJ16.here hx rfl (hb hby own_d1_200) rfl ?_
              show Steps p.tables e below (TJ16.setTop (mkF m 202 #[.val (.ref r0), .val (.int (0 : Int32)), .val (.int i2), .val (.int (own_v1a0_7 i2 b0 b1 b2 b3 b4)), .val (.int (3 : Int32)), .val (.int (own_j1a0_161_L5 i2 b0 b1 b2 b3 b4)), .val (.int (own_j1a0_161_L6 i2 b0 b1 b2 b3 b4)), .val (.int (own_j1a0_161_L7 i2 b0 b1 b2 b3 b4)), .val (.int (1 : Int32)), .val (.int (own_v1a0_191_4 i2 b0 b1 b2 b3 b4))] [(.int (own_v1a0_191_4 i2 b0 b1 b2 b3 b4))])) _
              refine XS.iload XJ16.here hx rfl (hb hby own_d1_202) rfl ?_
              exact kt
            by_cases hc30 : (own_j1a0_161_L7 i2 b0 b1 b2 b3 b4) < (own_v1a0_191_4 i2 b0 b1 b2 b3 b4)
            · -- pc 204
              refine ownE.go (T' := TJ16) (f' := (mkF m 207 #[.val (.ref r0), .val (.int (0 : Int32)), .val (.int i2), .val (.int (own_v1a0_7 i2 b0 b1 b2 b3 b4)), .val (.int (3 : Int32)), .val (.int (own_j1a0_161_L5 i2 b0 b1 b2 b3 b4)), .val (.int (own_j1a0_161_L6 i2 b0 b1 b2 b3 b4)), .val (.int (own_j1a0_161_L7 i2 b0 b1 b2 b3 b4)), .val (.int (1 : Int32)), .val (.int (own_v1a0_191_4 i2 b0 b1 b2 b3 b4))] [])) (fun t kt => XS.icmpNo (g := (mkF m 204 #[.val (.ref r0), .val (.int (0 : Int32)), .val (.int i2), .val (.int (own_v1a0_7 i2 b0 b1 b2 b3 b4)), .val (.int (3 : Int32)), .val (.int (own_j1a0_161_L5 i2 b0 b1 b2 b3 b4)), .val (.int (own_j1a0_161_L6 i2 b0 b1 b2 b3 b4)), .val (.int (own_j1a0_161_L7 i2 b0 b1 b2 b3 b4)), .val (.int (1 : Int32)), .val (.int (own_v1a0_191_4 i2 b0 b1 b2 b3 b4))] [(.int (own_j1a0_161_L7 i2 b0 b1 b2 b3 b4)), (.int (own_v1a0_191_4 i2 b0 b1 b2 b3 b4))])) XJ16.here hx rfl (hb hby own_d1_204) rfl (Jvm.Free.XT.ii_le_f hc30) kt) ?_
              refine ownE.go (T' := TJ16) (f' := (mkF m 208 #[.val (.ref r0), .val (.int (0 : Int32)), .val (.int i2), .val (.int (own_v1a0_7 i2 b0 b1 b2 b3 b4)), .val (.int (3 : Int32)), .val (.int (own_j1a0_161_L5 i2 b0 b1 b2 b3 b4)), .val (.int (own_j1a0_161_L6 i2 b0 b1 b2 b3 b4)), .val (.int (own_j1a0_161_L7 i2 b0 b1 b2 b3 b4)), .val (.int (1 : Int32)), .val (.int (own_v1a0_191_4 i2 b0 b1 b2 b3 b4))] [(.int (-1 : Int32))])) (fun t kt => ?_) ?_
              · show Steps p.tables e below (TJ16.setTop (mkF m 207 #[.val (.ref r0), .val (.int (0 : Int32)), .val (.int i2), .val (.int (own_v1a0_7 i2 b0 b1 b2 b3 b4)), .val (.int (3 : Int32)), .val (.int (own_j1a0_161_L5 i2 b0 b1 b2 b3 b4)), .val (.int (own_j1a0_161_L6 i2 b0 b1 b2 b3 b4)), .val (.int (own_j1a0_161_L7 i2 b0 b1 b2 b3 b4)), .val (.int (1 : Int32)), .val (.int (own_v1a0_191_4 i2 b0 b1 b2 b3 b4))] [])) _
                refine XS.iconst XJ16.here hx rfl (hb hby own_d1_207) ?_
                exact kt
              refine ownE.retI XJ16 hx hlk hret (hb hby own_d1_208) ?_ (by decide) (by decide)
              show own_Q1a0 Z r0 i2 kk b0 b1 b2 b3 b4 h0 n0 _ TJ16.heap _
              rw [eJ16]
              exact ⟨(by rw [hv16, own_r1a0_161, if_pos hc17, if_neg hk18_0, if_neg hk18_1, if_neg hc29, if_pos hc30] <;> first | rfl | decide), NJ16, rfl⟩
            · -- pc 204
              refine ownE.go (T' := TJ16) (f' := (mkF m 209 #[.val (.ref r0), .val (.int (0 : Int32)), .val (.int i2), .val (.int (own_v1a0_7 i2 b0 b1 b2 b3 b4)), .val (.int (3 : Int32)), .val (.int (own_j1a0_161_L5 i2 b0 b1 b2 b3 b4)), .val (.int (own_j1a0_161_L6 i2 b0 b1 b2 b3 b4)), .val (.int (own_j1a0_161_L7 i2 b0 b1 b2 b3 b4)), .val (.int (1 : Int32)), .val (.int (own_v1a0_191_4 i2 b0 b1 b2 b3 b4))] [])) (fun t kt => XS.icmpYes (g := (mkF m 204 #[.val (.ref r0), .val (.int (0 : Int32)), .val (.int i2), .val (.int (own_v1a0_7 i2 b0 b1 b2 b3 b4)), .val (.int (3 : Int32)), .val (.int (own_j1a0_161_L5 i2 b0 b1 b2 b3 b4)), .val (.int (own_j1a0_161_L6 i2 b0 b1 b2 b3 b4)), .val (.int (own_j1a0_161_L7 i2 b0 b1 b2 b3 b4)), .val (.int (1 : Int32)), .val (.int (own_v1a0_191_4 i2 b0 b1 b2 b3 b4))] [(.int (own_j1a0_161_L7 i2 b0 b1 b2 b3 b4)), (.int (own_v1a0_191_4 i2 b0 b1 b2 b3 b4))])) XJ16.here hx rfl (pc0 := 204) (pc' := 209) rfl (hb hby own_d1_204) rfl (Jvm.Free.XT.ii_le_t hc30) (by decide) (by decide) kt) ?_
              refine ownE.go (T' := TJ16) (f' := (mkF m 178 #[.val (.ref r0), .val (.int (0 : Int32)), .val (.int i2), .val (.int (own_v1a0_7 i2 b0 b1 b2 b3 b4)), .val (.int (3 : Int32)), .val (.int (own_v1a0_220_4 i2 b0 b1 b2 b3 b4)), .val (.int (128 : Int32)), .val (.int (191 : Int32)), .val (.int (2 : Int32)), .val (.int (own_v1a0_191_4 i2 b0 b1 b2 b3 b4))] [(.int (3 : Int32)), (.int (2 : Int32))])) (fun t kt => ?_) ?_
              · show Steps p.tables e below (TJ16.setTop (mkF m 209 #[.val (.ref r0), .val (.int (0 : Int32)), .val (.int i2), .val (.int (own_v1a0_7 i2 b0 b1 b2 b3 b4)), .val (.int (3 : Int32)), .val (.int (own_j1a0_161_L5 i2 b0 b1 b2 b3 b4)), .val (.int (own_j1a0_161_L6 i2 b0 b1 b2 b3 b4)), .val (.int (own_j1a0_161_L7 i2 b0 b1 b2 b3 b4)), .val (.int (1 : Int32)), .val (.int (own_v1a0_191_4 i2 b0 b1 b2 b3 b4))] [])) _
                refine XS.iload XJ16.here hx rfl (hb hby own_d1_209) rfl ?_
                show Steps p.tables e below (TJ16.setTop (mkF m 211 #[.val (.ref r0), .val (.int (0 : Int32)), .val (.int i2), .val (.int (own_v1a0_7 i2 b0 b1 b2 b3 b4)), .val (.int (3 : Int32)), .val (.int (own_j1a0_161_L5 i2 b0 b1 b2 b3 b4)), .val (.int (own_j1a0_161_L6 i2 b0 b1 b2 b3 b4)), .val (.int (own_j1a0_161_L7 i2 b0 b1 b2 b3 b4)), .val (.int (1 : Int32)), .val (.int (own_v1a0_191_4 i2 b0 b1 b2 b3 b4))] [(.int (own_j1a0_161_L5 i2 b0 b1 b2 b3 b4))])) _
                refine XS.bipush XJ16.here hx rfl (hb hby own_d1_211) ?_
                show Steps p.tables e below (TJ16.setTop (mkF m 213 #[.val (.ref r0), .val (.int (0 : Int32)), .val (.int i2), .val (.int (own_v1a0_7 i2 b0 b1 b2 b3 b4)), .val (.int (3 : Int32)), .val (.int (own_j1a0_161_L5 i2 b0 b1 b2 b3 b4)), .val (.int (own_j1a0_161_L6 i2 b0 b1 b2 b3 b4)), .val (.int (own_j1a0_161_L7 i2 b0 b1 b2 b3 b4)), .val (.int (1 : Int32)), .val (.int (own_v1a0_191_4 i2 b0 b1 b2 b3 b4))] [(.int (6 : Int32)), (.int (own_j1a0_161_L5 i2 b0 b1 b2 b3 b4))])) _
                refine XS.ishl XJ16.here hx rfl (hb hby own_d1_213) rfl ?_
                show Steps p.tables e below (TJ16.setTop (mkF m 214 #[.val (.ref r0), .val (.int (0 : Int32)), .val (.int i2), .val (.int (own_v1a0_7 i2 b0 b1 b2 b3 b4)), .val (.int (3 : Int32)), .val (.int (own_j1a0_161_L5 i2 b0 b1 b2 b3 b4)), .val (.int (own_j1a0_161_L6 i2 b0 b1 b2 b3 b4)), .val (.int (own_j1a0_161_L7 i2 b0 b1 b2 b3 b4)), .val (.int (1 : Int32)), .val (.int (own_v1a0_191_4 i2 b0 b1 b2 b3 b4))] [(.int ((own_j1a0_161_L5 i2 b0 b1 b2 b3 b4) <<< ((6 : Int32) &&& 31)))])) _
                refine XS.iload XJ16.here hx rfl (hb hby own_d1_214) rfl ?_
                show Steps p.tables e below (TJ16.setTop (mkF m 216 #[.val (.ref r0), .val (.int (0 : Int32)), .val (.int i2), .val (.int (own_v1a0_7 i2 b0 b1 b2 b3 b4)), .val (.int (3 : Int32)), .val (.int (own_j1a0_161_L5 i2 b0 b1 b2 b3 b4)), .val (.int (own_j1a0_161_L6 i2 b0 b1 b2 b3 b4)), .val (.int (own_j1a0_161_L7 i2 b0 b1 b2 b3 b4)), .val (.int (1 : Int32)), .val (.int (own_v1a0_191_4 i2 b0 b1 b2 b3 b4))] [(.int (own_v1a0_191_4 i2 b0 b1 b2 b3 b4)), (.int ((own_j1a0_161_L5 i2 b0 b1 b2 b3 b4) <<< ((6 : Int32) &&& 31)))])) _
                refine XS.bipush XJ16.here hx rfl (hb hby own_d1_216) ?_
                show Steps p.tables e below (TJ16.setTop (mkF m 218 #[.val (.ref r0), .val (.int (0 : Int32)), .val (.int i2), .val (.int (own_v1a0_7 i2 b0 b1 b2 b3 b4)), .val (.int (3 : Int32)), .val (.int (own_j1a0_161_L5 i2 b0 b1 b2 b3 b4)), .val (.int (own_j1a0_161_L6 i2 b0 b1 b2 b3 b4)), .val (.int (own_j1a0_161_L7 i2 b0 b1 b2 b3 b4)), .val (.int (1 : Int32)), .val (.int (own_v1a0_191_4 i2 b0 b1 b2 b3 b4))] [(.int (63 : Int32)), (.int (own_v1a0_191_4 i2 b0 b1 b2 b3 b4)), (.int ((own_j1a0_161_L5 i2 b0 b1 b2 b3 b4) <<< ((6 : Int32) &&& 31)))])) _
                refine XS.iand XJ16.here hx rfl (hb hby own_d1_218) rfl ?_
                show Steps p.tables e below (TJ16.setTop (mkF m 219 #[.val (.ref r0), .val (.int (0 : Int32)), .val (.int i2), .val (.int (own_v1a0_7 i2 b0 b1 b2 b3 b4)), .val (.int (3 : Int32)), .val (.int (own_j1a0_161_L5 i2 b0 b1 b2 b3 b4)), .val (.int (own_j1a0_161_L6 i2 b0 b1 b2 b3 b4)), .val (.int (own_j1a0_161_L7 i2 b0 b1 b2 b3 b4)), .val (.int (1 : Int32)), .val (.int (own_v1a0_191_4 i2 b0 b1 b2 b3 b4))] [(.int ((own_v1a0_191_4 i2 b0 b1 b2 b3 b4) &&& (63 : Int32))), (.int ((own_j1a0_161_L5 i2 b0 b1 b2 b3 b4) <<< ((6 : Int32) &&& 31)))])) _
                refine XS.ior XJ16.here hx rfl (hb hby own_d1_219) rfl ?_
                show Steps p.tables e below (TJ16.setTop (mkF m 220 #[.val (.ref r0), .val (.int (0 : Int32)), .val (.int i2), .val (.int (own_v1a0_7 i2 b0 b1 b2 b3 b4)), .val (.int (3 : Int32)), .val (.int (own_j1a0_161_L5 i2 b0 b1 b2 b3 b4)), .val (.int (own_j1a0_161_L6 i2 b0 b1 b2 b3 b4)), .val (.int (own_j1a0_161_L7 i2 b0 b1 b2 b3 b4)), .val (.int (1 : Int32)), .val (.int (own_v1a0_191_4 i2 b0 b1 b2 b3 b4))] [(.int (((own_j1a0_161_L5 i2 b0 b1 b2 b3 b4) <<< ((6 : Int32) &&& 31)) ||| ((own_v1a0_191_4 i2 b0 b1 b2 b3 b4) &&& (63 : Int32))))])) _
                refine XS.istore XJ16.here hx rfl (hb hby own_d1_220) rfl (l' := #[.val (.ref r0), .val (.int (0 : Int32)), .val (.int i2), .val (.int (own_v1a0_7 i2 b0 b1 b2 b3 b4)), .val (.int (3 : Int32)), .val (.int (own_v1a0_220_4 i2 b0 b1 b2 b3 b4)), .val (.int (own_j1a0_161_L6 i2 b0 b1 b2 b3 b4)), .val (.int (own_j1a0_161_L7 i2 b0 b1 b2 b3 b4)), .val (.int (1 : Int32)), .val (.int (own_v1a0_191_4 i2 b0 b1 b2 b3 b4))]) rfl ?_
                show Steps p.tables e below (TJ16.setTop (mkF m 222 #[.val (.ref r0), .val (.int (0 : Int32)), .val (.int i2), .val (.int (own_v1a0_7 i2 b0 b1 b2 b3 b4)), .val (.int (3 : Int32)), .val (.int (own_v1a0_220_4 i2 b0 b1 b2 b3 b4)), .val (.int (own_j1a0_161_L6 i2 b0 b1 b2 b3 b4)), .val (.int (own_j1a0_161_L7 i2 b0 b1 b2 b3 b4)), .val (.int (1 : Int32)), .val (.int (own_v1a0_191_4 i2 b0 b1 b2 b3 b4))] [])) _
                refine XS.sipush XJ16.here hx rfl (hb hby own_d1_222) ?_
                show Steps p.tables e below (TJ16.setTop (mkF m 225 #[.val (.ref r0), .val (.int (0 : Int32)), .val (.int i2), .val (.int (own_v1a0_7 i2 b0 b1 b2 b3 b4)), .val (.int (3 : Int32)), .val (.int (own_v1a0_220_4 i2 b0 b1 b2 b3 b4)), .val (.int (own_j1a0_161_L6 i2 b0 b1 b2 b3 b4)), .val (.int (own_j1a0_161_L7 i2 b0 b1 b2 b3 b4)), .val (.int (1 : Int32)), .val (.int (own_v1a0_191_4 i2 b0 b1 b2 b3 b4))] [(.int (128 : Int32))])) _
                refine XS.istore XJ16.here hx rfl (hb hby own_d1_225) rfl (l' := #[.val (.ref r0), .val (.int (0 : Int32)), .val (.int i2), .val (.int (own_v1a0_7 i2 b0 b1 b2 b3 b4)), .val (.int (3 : Int32)), .val (.int (own_v1a0_220_4 i2 b0 b1 b2 b3 b4)), .val (.int (128 : Int32)), .val (.int (own_j1a0_161_L7 i2 b0 b1 b2 b3 b4)), .val (.int (1 : Int32)), .val (.int (own_v1a0_191_4 i2 b0 b1 b2 b3 b4))]) rfl ?_
                show Steps p.tables e below (TJ16.setTop (mkF m 227 #[.val (.ref r0), .val (.int (0 : Int32)), .val (.int i2), .val (.int (own_v1a0_7 i2 b0 b1 b2 b3 b4)), .val (.int (3 : Int32)), .val (.int (own_v1a0_220_4 i2 b0 b1 b2 b3 b4)), .val (.int (128 : Int32)), .val (.int (own_j1a0_161_L7 i2 b0 b1 b2 b3 b4)), .val (.int (1 : Int32)), .val (.int (own_v1a0_191_4 i2 b0 b1 b2 b3 b4))] [])) _
                refine XS.sipush XJ16.here hx rfl (hb hby own_d1_227) ?_
                show Steps p.tables e below (TJ16.setTop (mkF m 230 #[.val (.ref r0), .val (.int (0 : Int32)), .val (.int i2), .val (.int (own_v1a0_7 i2 b0 b1 b2 b3 b4)), .val (.int (3 : Int32)), .val (.int (own_v1a0_220_4 i2 b0 b1 b2 b3 b4)), .val (.int (128 : Int32)), .val (.int (own_j1a0_161_L7 i2 b0 b1 b2 b3 b4)), .val (.int (1 : Int32)), .val (.int (own_v1a0_191_4 i2 b0 b1 b2 b3 b4))] [(.int (191 : Int32))])) _
                refine XS.istore XJ16.here hx rfl (hb hby own_d1_230) rfl (l' := #[.val (.ref r0), .val (.int (0 : Int32)), .val (.int i2), .val (.int (own_v1a0_7 i2 b0 b1 b2 b3 b4)), .val (.int (3 : Int32)), .val (.int (own_v1a0_220_4 i2 b0 b1 b2 b3 b4)), .val (.int (128 : Int32)), .val (.int (191 : Int32)), .val (.int (1 : Int32)), .val (.int (own_v1a0_191_4 i2 b0 b1 b2 b3 b4))]) rfl ?_
                show Steps p.tables e below (TJ16.setTop (mkF m 232 #[.val (.ref r0), .val (.int (0 : Int32)), .val (.int i2), .val (.int (own_v1a0_7 i2 b0 b1 b2 b3 b4)), .val (.int (3 : Int32)), .val (.int (own_v1a0_220_4 i2 b0 b1 b2 b3 b4)), .val (.int (128 : Int32)), .val (.int (191 : Int32)), .val (.int (1 : Int32)), .val (.int (own_v1a0_191_4 i2 b0 b1 b2 b3 b4))] [])) _
                refine XS.iinc XJ16.here hx rfl (hb hby own_d1_232) rfl (l' := #[.val (.ref r0), .val (.int (0 : Int32)), .val (.int i2), .val (.int (own_v1a0_7 i2 b0 b1 b2 b3 b4)), .val (.int (3 : Int32)), .val (.int (own_v1a0_220_4 i2 b0 b1 b2 b3 b4)), .val (.int (128 : Int32)), .val (.int (191 : Int32)), .val (.int (2 : Int32)), .val (.int (own_v1a0_191_4 i2 b0 b1 b2 b3 b4))]) rfl ?_
                show Steps p.tables e below (TJ16.setTop (mkF m 235 #[.val (.ref r0), .val (.int (0 : Int32)), .val (.int i2), .val (.int (own_v1a0_7 i2 b0 b1 b2 b3 b4)), .val (.int (3 : Int32)), .val (.int (own_v1a0_220_4 i2 b0 b1 b2 b3 b4)), .val (.int (128 : Int32)), .val (.int (191 : Int32)), .val (.int (2 : Int32)), .val (.int (own_v1a0_191_4 i2 b0 b1 b2 b3 b4))] [])) _
                refine XS.goto XJ16.here hx rfl (pc0 := 235) (pc' := 174) rfl (hb hby own_d1_235) (by decide) (by decide) ?_
                show Steps p.tables e below (TJ16.setTop (mkF m 174 #[.val (.ref r0), .val (.int (0 : Int32)), .val (.int i2), .val (.int (own_v1a0_7 i2 b0 b1 b2 b3 b4)), .val (.int (3 : Int32)), .val (.int (own_v1a0_220_4 i2 b0 b1 b2 b3 b4)), .val (.int (128 : Int32)), .val (.int (191 : Int32)), .val (.int (2 : Int32)), .val (.int (own_v1a0_191_4 i2 b0 b1 b2 b3 b4))] [])) _
                refine XS.iload XJ16.here hx rfl (hb hby own_d1_174) rfl ?_
                show Steps p.tables e below (TJ16.setTop (mkF m 176 #[.val (.ref r0), .val (.int (0 : Int32)), .val (.int i2), .val (.int (own_v1a0_7 i2 b0 b1 b2 b3 b4)), .val (.int (3 : Int32)), .val (.int (own_v1a0_220_4 i2 b0 b1 b2 b3 b4)), .val (.int (128 : Int32)), .val (.int (191 : Int32)), .val (.int (2 : Int32)), .val (.int (own_v1a0_191_4 i2 b0 b1 b2 b3 b4))] [(.int (2 : Int32))])) _
                refine XS.iload XJ16.here hx rfl (hb hby own_d1_176) rfl ?_
                exact kt
              refine ownE.go (T' := TJ16) (f' := (mkF m 181 #[.val (.ref r0), .val (.int (0 : Int32)), .val (.int i2), .val (.int (own_v1a0_7 i2 b0 b1 b2 b3 b4)), .val (.int (3 : Int32)), .val (.int (own_v1a0_220_4 i2 b0 b1 b2 b3 b4)), .val (.int (128 : Int32)), .val (.int (191 : Int32)), .val (.int (2 : Int32)), .val (.int (own_v1a0_191_4 i2 b0 b1 b2 b3 b4))] [])) (fun t kt => XS.icmpNo (g := (mkF m 178 #[.val (.ref r0), .val (.int (0 : Int32)), .val (.int i2), .val (.int (own_v1a0_7 i2 b0 b1 b2 b3 b4)), .val (.int (3 : Int32)), .val (.int (own_v1a0_220_4 i2 b0 b1 b2 b3 b4)), .val (.int (128 : Int32)), .val (.int (191 : Int32)), .val (.int (2 : Int32)), .val (.int (own_v1a0_191_4 i2 b0 b1 b2 b3 b4))] [(.int (3 : Int32)), (.int (2 : Int32))])) XJ16.here hx rfl (hb hby own_d1_178) rfl (Jvm.Free.XT.ii_gt_f (by decide)) kt) ?_
              refine ownE.go (T' := TJ16) (f' := (mkF m 186 #[.val (.ref r0), .val (.int (0 : Int32)), .val (.int i2), .val (.int (own_v1a0_7 i2 b0 b1 b2 b3 b4)), .val (.int (3 : Int32)), .val (.int (own_v1a0_220_4 i2 b0 b1 b2 b3 b4)), .val (.int (128 : Int32)), .val (.int (191 : Int32)), .val (.int (2 : Int32)), .val (.int (own_v1a0_191_4 i2 b0 b1 b2 b3 b4))] [(.int (2 : Int32)), (.ref r0)])) (fun t kt => ?_) ?_
              · show Steps p.tables e below (TJ16.setTop (mkF m 181 #[.val (.ref r0), .val (.int (0 : Int32)), .val (.int i2), .val (.int (own_v1a0_7 i2 b0 b1 b2 b3 b4)), .val (.int (3 : Int32)), .val (.int (own_v1a0_220_4 i2 b0 b1 b2 b3 b4)), .val (.int (128 : Int32)), .val (.int (191 : Int32)), .val (.int (2 : Int32)), .val (.int (own_v1a0_191_4 i2 b0 b1 b2 b3 b4))] [])) _
                refine XS.aloadN XJ16.here hx rfl (hb hby own_d1_181) rfl rfl ?_
                show Steps p.tables e below (TJ16.setTop (mkF m 182 #[.val (.ref r0), .val (.int (0 : Int32)), .val (.int i2), .val (.int (own_v1a0_7 i2 b0 b1 b2 b3 b4)), .val (.int (3 : Int32)), .val (.int (own_v1a0_220_4 i2 b0 b1 b2 b3 b4)), .val (.int (128 : Int32)), .val (.int (191 : Int32)), .val (.int (2 : Int32)), .val (.int (own_v1a0_191_4 i2 b0 b1 b2 b3 b4))] [(.ref r0)])) _
                refine XS.iloadN XJ16.here hx rfl (hb hby own_d1_182) rfl ?_
                show Steps p.tables e below (TJ16.setTop (mkF m 183 #[.val (.ref r0), .val (.int (0 : Int32)), .val (.int i2), .val (.int (own_v1a0_7 i2 b0 b1 b2 b3 b4)), .val (.int (3 : Int32)), .val (.int (own_v1a0_220_4 i2 b0 b1 b2 b3 b4)), .val (.int (128 : Int32)), .val (.int (191 : Int32)), .val (.int (2 : Int32)), .val (.int (own_v1a0_191_4 i2 b0 b1 b2 b3 b4))] [(.int (0 : Int32)), (.ref r0)])) _
                refine XS.iload XJ16.here hx rfl (hb hby own_d1_183) rfl ?_
                show Steps p.tables e below (TJ16.setTop (mkF m 185 #[.val (.ref r0), .val (.int (0 : Int32)), .val (.int i2), .val (.int (own_v1a0_7 i2 b0 b1 b2 b3 b4)), .val (.int (3 : Int32)), .val (.int (own_v1a0_220_4 i2 b0 b1 b2 b3 b4)), .val (.int (128 : Int32)), .val (.int (191 : Int32)), .val (.int (2 : Int32)), .val (.int (own_v1a0_191_4 i2 b0 b1 b2 b3 b4))] [(.int (2 : Int32)), (.int (0 : Int32)), (.ref r0)])) _
                refine XS.iadd XJ16.here hx rfl (hb hby own_d1_185) rfl ?_
                exact kt
              obtain ⟨cl31, Ar31, q31, S31, Nn31, Hh31, G31⟩ := id P0
              refine ownE.go (T' := TJ16) (f' := (mkF m 187 #[.val (.ref r0), .val (.int (0 : Int32)), .val (.int i2), .val (.int (own_v1a0_7 i2 b0 b1 b2 b3 b4)), .val (.int (3 : Int32)), .val (.int (own_v1a0_220_4 i2 b0 b1 b2 b3 b4)), .val (.int (128 : Int32)), .val (.int (191 : Int32)), .val (.int (2 : Int32)), .val (.int (own_v1a0_191_4 i2 b0 b1 b2 b3 b4))] [(.int b2)])) (fun t kt => XJ16.baloadBytes hx (j := (2 : Int32)) (v := (.int b2)) (by rw [eJ16]; exact Ar31.1) (State.isArrayOf_alike hZ.alike Ar31.2.1) Ar31.2.2 (inb_of S31 ⟨by decide, by decide⟩) (Hh31.at (inb_of S31 ⟨by decide, by decide⟩) rfl) (g := (mkF m 186 #[.val (.ref r0), .val (.int (0 : Int32)), .val (.int i2), .val (.int (own_v1a0_7 i2 b0 b1 b2 b3 b4)), .val (.int (3 : Int32)), .val (.int (own_v1a0_220_4 i2 b0 b1 b2 b3 b4)), .val (.int (128 : Int32)), .val (.int (191 : Int32)), .val (.int (2 : Int32)), .val (.int (own_v1a0_191_4 i2 b0 b1 b2 b3 b4))] [(.int (2 : Int32)), (.ref r0)])) rfl rfl (hb hby own_d1_186) _ kt) ?_
              refine ownE.go (T' := TJ16) (f' := (mkF m 197 #[.val (.ref r0), .val (.int (0 : Int32)), .val (.int i2), .val (.int (own_v1a0_7 i2 b0 b1 b2 b3 b4)), .val (.int (3 : Int32)), .val (.int (own_v1a0_220_4 i2 b0 b1 b2 b3 b4)), .val (.int (128 : Int32)), .val (.int (191 : Int32)), .val (.int (2 : Int32)), .val (.int (own_v1a0_191_5 i2 b0 b1 b2 b3 b4))] [(.int (128 : Int32)), (.int (own_v1a0_191_5 i2 b0 b1 b2 b3 b4))])) (fun t kt => ?_) ?_
              · show Steps p.tables e below (TJ16.setTop (mkF m 187 #[.val (.ref r0), .val (.int (0 : Int32)), .val (.int i2), .val (.int (own_v1a0_7 i2 b0 b1 b2 b3 b4)), .val (.int (3 : Int32)), .val (.int (own_v1a0_220_4 i2 b0 b1 b2 b3 b4)), .val (.int (128 : Int32)), .val (.int (191 : Int32)), .val (.int (2 : Int32)), .val (.int (own_v1a0_191_4 i2 b0 b1 b2 b3 b4))] [(.int b2)])) _
                refine XS.sipush XJ16.here hx rfl (hb hby own_d1_187) ?_
                show Steps p.tables e below (TJ16.setTop (mkF m 190 #[.val (.ref r0), .val (.int (0 : Int32)), .val (.int i2), .val (.int (own_v1a0_7 i2 b0 b1 b2 b3 b4)), .val (.int (3 : Int32)), .val (.int (own_v1a0_220_4 i2 b0 b1 b2 b3 b4)), .val (.int (128 : Int32)), .val (.int (191 : Int32)), .val (.int (2 : Int32)), .val (.int (own_v1a0_191_4 i2 b0 b1 b2 b3 b4))] [(.int (255 : Int32)), (.int b2)])) _
                refine XS.iand XJ16.here hx rfl (hb hby own_d1_190) rfl ?_
                show Steps p.tables e below (TJ16.setTop (mkF m 191 #[.val (.ref r0), .val (.int (0 : Int32)), .val (.int i2), .val (.int (own_v1a0_7 i2 b0 b1 b2 b3 b4)), .val (.int (3 : Int32)), .val (.int (own_v1a0_220_4 i2 b0 b1 b2 b3 b4)), .val (.int (128 : Int32)), .val (.int (191 : Int32)), .val (.int (2 : Int32)), .val (.int (own_v1a0_191_4 i2 b0 b1 b2 b3 b4))] [(.int (b2 &&& (255 : Int32)))])) _
                refine XS.istore XJ16.here hx rfl (hb hby own_d1_191) rfl (l' := #[.val (.ref r0), .val (.int (0 : Int32)), .val (.int i2), .val (.int (own_v1a0_7 i2 b0 b1 b2 b3 b4)), .val (.int (3 : Int32)), .val (.int (own_v1a0_220_4 i2 b0 b1 b2 b3 b4)), .val (.int (128 : Int32)), .val (.int (191 : Int32)), .val (.int (2 : Int32)), .val (.int (own_v1a0_191_5 i2 b0 b1 b2 b3 b4))]) rfl ?_
                show Steps p.tables e below (TJ16.setTop (mkF m 193 #[.val (.ref r0), .val (.int (0 : Int32)), .val (.int i2), .val (.int (own_v1a0_7 i2 b0 b1 b2 b3 b4)), .val (.int (3 : Int32)), .val (.int (own_v1a0_220_4 i2 b0 b1 b2 b3 b4)), .val (.int (128 : Int32)), .val (.int (191 : Int32)), .val (.int (2 : Int32)), .val (.int (own_v1a0_191_5 i2 b0 b1 b2 b3 b4))] [])) _
                refine XS.iload XJ16.here hx rfl (hb hby own_d1_193) rfl ?_
                show Steps p.tables e below (TJ16.setTop (mkF m 195 #[.val (.ref r0), .val (.int (0 : Int32)), .val (.int i2), .val (.int (own_v1a0_7 i2 b0 b1 b2 b3 b4)), .val (.int (3 : Int32)), .val (.int (own_v1a0_220_4 i2 b0 b1 b2 b3 b4)), .val (.int (128 : Int32)), .val (.int (191 : Int32)), .val (.int (2 : Int32)), .val (.int (own_v1a0_191_5 i2 b0 b1 b2 b3 b4))] [(.int (own_v1a0_191_5 i2 b0 b1 b2 b3 b4))])) _
                refine XS.iload XJ16.here hx rfl (hb hby own_d1_195) rfl ?_
                exact kt
              by_cases hc32 : (own_v1a0_191_5 i2 b0 b1 b2 b3 b4) < (128 : Int32)
              · -- pc 197
                refine ownE.go (T' := TJ16) (f' := (mkF m 207 #[.val (.ref r0), .val (.int (0 : Int32)), .val (.int i2), .val (.int (own_v1a0_7 i2 b0 b1 b2 b3 b4)), .val (.int (3 : Int32)), .val (.int (own_v1a0_220_4 i2 b0 b1 b2 b3 b4)), .val (.int (128 : Int32)), .val (.int (191 : Int32)), .val (.int (2 : Int32)), .val (.int (own_v1a0_191_5 i2 b0 b1 b2 b3 b4))] [])) (fun t kt => XS.icmpYes (g := (mkF m 197 #[.val (.ref r0), .val (.int (0 : Int32)), .val (.int i2), .val (.int (own_v1a0_7 i2 b0 b1 b2 b3 b4)), .val (.int (3 : Int32)), .val (.int (own_v1a0_220_4 i2 b0 b1 b2 b3 b4)), .val (.int (128 : Int32)), .val (.int (191 : Int32)), .val (.int (2 : Int32)), .val (.int (own_v1a0_191_5 i2 b0 b1 b2 b3 b4))] [(.int (128 : Int32)), (.int (own_v1a0_191_5 i2 b0 b1 b2 b3 b4))])) XJ16.here hx rfl (pc0 := 197) (pc' := 207) rfl (hb hby own_d1_197) rfl (Jvm.Free.XT.ii_lt_t hc32) (by decide) (by decide) kt) ?_
                refine ownE.go (T' := TJ16) (f' := (mkF m 208 #[.val (.ref r0), .val (.int (0 : Int32)), .val (.int i2), .val (.int (own_v1a0_7 i2 b0 b1 b2 b3 b4)), .val (.int (3 : Int32)), .val (.int (own_v1a0_220_4 i2 b0 b1 b2 b3 b4)), .val (.int (128 : Int32)), .val (.int (191 : Int32)), .val (.int (2 : Int32)), .val (.int (own_v1a0_191_5 i2 b0 b1 b2 b3 b4))] [(.int (-1 : Int32))])) (fun t kt => ?_) ?_
                · show Steps p.tables e below (TJ16.setTop (mkF m 207 #[.val (.ref r0), .val (.int (0 : Int32)), .val (.int i2), .val (.int (own_v1a0_7 i2 b0 b1 b2 b3 b4)), .val (.int (3 : Int32)), .val (.int (own_v1a0_220_4 i2 b0 b1 b2 b3 b4)), .val (.int (128 : Int32)), .val (.int (191 : Int32)), .val (.int (2 : Int32)), .val (.int (own_v1a0_191_5 i2 b0 b1 b2 b3 b4))] [])) _
                  refine XS.iconst XJ16.here hx rfl (hb hby own_d1_207) ?_
                  exact kt
                refine ownE.retI XJ16 hx hlk hret (hb hby own_d1_208) ?_ (by decide) (by decide)
                show own_Q1a0 Z r0 i2 kk b0 b1 b2 b3 b4 h0 n0 _ TJ16.heap _
                rw [eJ16]
                exact ⟨(by rw [hv16, own_r1a0_161, if_pos hc17, if_neg hk18_0, if_neg hk18_1, if_neg hc29, if_neg hc30, if_pos hc32] <;> first | rfl | decide), NJ16, rfl⟩
              · -- pc 197
                refine ownE.go (T' := TJ16) (f' := (mkF m 200 #[.val (.ref r0), .val (.int (0 : Int32)), .val (.int i2), .val (.int (own_v1a0_7 i2 b0 b1 b2 b3 b4)), .val (.int (3 : Int32)), .val (.int (own_v1a0_220_4 i2 b0 b1 b2 b3 b4)), .val (.int (128 : Int32)), .val (.int (191 : Int32)), .val (.int (2 : Int32)), .val (.int (own_v1a0_191_5 i2 b0 b1 b2 b3 b4))] [])) (fun t kt => XS.icmpNo (g := (mkF m 197 #[.val (.ref r0), .val (.int (0 : Int32)), .val (.int i2), .val (.int (own_v1a0_7 i2 b0 b1 b2 b3 b4)), .val (.int (3 : Int32)), .val (.int (own_v1a0_220_4 i2 b0 b1 b2 b3 b4)), .val (.int (128 : Int32)), .val (.int (191 : Int32)), .val (.int (2 : Int32)), .val (.int (own_v1a0_191_5 i2 b0 b1 b2 b3 b4))] [(.int (128 : Int32)), (.int (own_v1a0_191_5 i2 b0 b1 b2 b3 b4))])) XJ16.here hx rfl (hb hby own_d1_197) rfl (Jvm.Free.XT.ii_lt_f hc32) kt) ?_
                refine ownE.go (T' := TJ16) (f' := (mkF m 204 #[.val (.ref r0), .val (.int (0 : Int32)), .val (.int i2), .val (.int (own_v1a0_7 i2 b0 b1 b2 b3 b4)), .val (.int (3 : Int32)), .val (.int (own_v1a0_220_4 i2 b0 b1 b2 b3 b4)), .val (.int (128 : Int32)), .val (.int (191 : Int32)), .val (.int (2 : Int32)), .val (.int (own_v1a0_191_5 i2 b0 b1 b2 b3 b4))] [(.int (191 : Int32)), (.int (own_v1a0_191_5 i2 b0 b1 b2 b3 b4))])) (fun t kt => ?_) ?_
                · show Steps p.tables e below (TJ16.setTop (mkF m 200 #[.val (.ref r0), .val (.int (0 : Int32)), .val (.int i2), .val (.int (own_v1a0_7 i2 b0 b1 b2 b3 b4)), .val (.int (3 : Int32)), .val (.int (own_v1a0_220_4 i2 b0 b1 b2 b3 b4)), .val (.int (128 : Int32)), .val (.int (191 : Int32)), .val (.int (2 : Int32)), .val (.int (own_v1a0_191_5 i2 b0 b1 b2 b3 b4))] [])) _
                  refine XS.iload XJ16.here hx rfl (hb hby own_d1_200) rfl ?_
                  show Steps p.tables e below (TJ16.setTop (mkF m 202 #[.val (.ref r0), .val (.int (0 : Int32)), .val (.int i2), .val (.int (own_v1a0_7 i2 b0 b1 b2 b3 b4)), .val (.int (3 : Int32)), .val (.int (own_v1a0_220_4 i2 b0 b1 b2 b3 b4)), .val (.int (128 : Int32)), .val (.int (191 : Int32)), .val (.int (2 : Int32)), .val (.int (own_v1a0_191_5 i2 b0 b1 b2 b3 b4))] [(.int (own_v1a0_191_5 i2 b0 b1 b2 b3 b4))])) _
                  refine XS.iload XJ16.here hx rfl (hb hby own_d1_202) rfl ?_
                  exact kt
                by_cases hc33 : (191 : Int32) < (own_v1a0_191_5 i2 b0 b1 b2 b3 b4)
                · -- pc 204
                  refine ownE.go (T' := TJ16) (f' := (mkF m 207 #[.val (.ref r0), .val (.int (0 : Int32)), .val (.int i2), .val (.int (own_v1a0_7 i2 b0 b1 b2 b3 b4)), .val (.int (3 : Int32)), .val (.int (own_v1a0_220_4 i2 b0 b1 b2 b3 b4)), .val (.int (128 : Int32)), .val (.int (191 : Int32)), .val (.int (2 : Int32)), .val (.int (own_v1a0_191_5 i2 b0 b1 b2 b3 b4))] [])) (fun t kt => XS.icmpNo (g := (mkF m 204 #[.val (.ref r0), .val (.int (0 : Int32)), .val (.int i2), .val (.int (own_v1a0_7 i2 b0 b1 b2 b3 b4)), .val (.int (3 : Int32)), .val (.int (own_v1a0_220_4 i2 b0 b1 b2 b3 b4)), .val (.int (128 : Int32)), .val (.int (191 : Int32)), .val (.int (2 : Int32)), .val (.int (own_v1a0_191_5 i2 b0 b1 b2 b3 b4))] [(.int (191 : Int32)), (.int (own_v1a0_191_5 i2 b0 b1 b2 b3 b4))])) XJ16.here hx rfl (hb hby own_d1_204) rfl (Jvm.Free.XT.ii_le_f hc33) kt) ?_
                  refine ownE.go (T' := TJ16) (f' := (mkF m 208 #[.val (.ref r0), .val (.int (0 : Int32)), .val (.int i2), .val (.int (own_v1a0_7 i2 b0 b1 b2 b3 b4)), .val (.int (3 : Int32)), .val (.int (own_v1a0_220_4 i2 b0 b1 b2 b3 b4)), .val (.int (128 : Int32)), .val (.int (191 : Int32)), .val (.int (2 : Int32)), .val (.int (own_v1a0_191_5 i2 b0 b1 b2 b3 b4))] [(.int (-1 : Int32))])) (fun t kt => ?_) ?_
                  · show Steps p.tables e below (TJ16.setTop (mkF m 207 #[.val (.ref r0), .val (.int (0 : Int32)), .val (.int i2), .val (.int (own_v1a0_7 i2 b0 b1 b2 b3 b4)), .val (.int (3 : Int32)), .val (.int (own_v1a0_220_4 i2 b0 b1 b2 b3 b4)), .val (.int (128 : Int32)), .val (.int (191 : Int32)), .val (.int (2 : Int32)), .val (.int (own_v1a0_191_5 i2 b0 b1 b2 b3 b4))] [])) _
                    refine XS.iconst XJ16.here hx rfl (hb hby own_d1_207) ?_
                    exact kt
                  refine ownE.retI XJ16 hx hlk hret (hb hby own_d1_208) ?_ (by decide) (by decide)
                  show own_Q1a0 Z r0 i2 kk b0 b1 b2 b3 b4 h0 n0 _ TJ16.heap _
                  rw [eJ16]
                  exact ⟨(by rw [hv16, own_r1a0_161, if_pos hc17, if_neg hk18_0, if_neg hk18_1, if_neg hc29, if_neg hc30, if_neg hc32, if_pos hc33] <;> first | rfl | decide), NJ16, rfl⟩
                · -- pc 204
                  refine ownE.go (T' := TJ16) (f' := (mkF m 209 #[.val (.ref r0), .val (.int (0 : Int32)), .val (.int i2), .val (.int (own_v1a0_7 i2 b0 b1 b2 b3 b4)), .val (.int (3 : Int32)), .val (.int (own_v1a0_220_4 i2 b0 b1 b2 b3 b4)), .val (.int (128 : Int32)), .val (.int (191 : Int32)), .val (.int (2 : Int32)), .val (.int (own_v1a0_191_5 i2 b0 b1 b2 b3 b4))] [])) (fun t kt => XS.icmpYes (g := (mkF m 204 #[.val (.ref r0), .val (.int (0 : Int32)), .val (.int i2), .val (.int (own_v1a0_7 i2 b0 b1 b2 b3 b4)), .val (.int (3 : Int32)), .val (.int (own_v1a0_220_4 i2 b0 b1 b2 b3 b4)), .val (.int (128 : Int32)), .val (.int (191 : Int32)), .val (.int (2 : Int32)), .val (.int (own_v1a0_191_5 i2 b0 b1 b2 b3 b4))] [(.int (191 : Int32)), (.int (own_v1a0_191_5 i2 b0 b1 b2 b3 b4))])) XJ16.here hx rfl (pc0 := 204) (pc' := 209) rfl (hb hby own_d1_204) rfl (Jvm.Free.XT.ii_le_t hc33) (by decide) (by decide) kt) ?_
                  refine ownE.go (T' := TJ16) (f' := (mkF m 178 #[.val (.ref r0), .val (.int (0 : Int32)), .val (.int i2), .val (.int (own_v1a0_7 i2 b0 b1 b2 b3 b4)), .val (.int (3 : Int32)), .val (.int (own_v1a0_220_5 i2 b0 b1 b2 b3 b4)), .val (.int (128 : Int32)), .val (.int (191 : Int32)), .val (.int (3 : Int32)), .val (.int (own_v1a0_191_5 i2 b0 b1 b2 b3 b4))] [(.int (3 : Int32)), (.int (3 : Int32))])) (fun t kt => ?_) ?_
                  · show Steps p.tables e below (TJ16.setTop (mkF m 209 #[.val (.ref r0), .val (.int (0 : Int32)), .val (.int i2), .val (.int (own_v1a0_7 i2 b0 b1 b2 b3 b4)), .val (.int (3 : Int32)), .val (.int (own_v1a0_220_4 i2 b0 b1 b2 b3 b4)), .val (.int (128 : Int32)), .val (.int (191 : Int32)), .val (.int (2 : Int32)), .val (.int (own_v1a0_191_5 i2 b0 b1 b2 b3 b4))] [])) _
                    refine XS.iload XJ16.here hx rfl (hb hby own_d1_209) rfl ?_
                    show Steps p.tables e below (TJ16.setTop (mkF m 211 #[.val (.ref r0), .val (.int (0 : Int32)), .val (.int i2), .val (.int (own_v1a0_7 i2 b0 b1 b2 b3 b4)), .val (.int (3 : Int32)), .val (.int (own_v1a0_220_4 i2 b0 b1 b2 b3 b4)), .val (.int (128 : Int32)), .val (.int (191 : Int32)), .val (.int (2 : Int32)), .val (.int (own_v1a0_191_5 i2 b0 b1 b2 b3 b4))] [(.int (own_v1a0_220_4 i2 b0 b1 b2 b3 b4))])) _
                    refine XS.bipush XJ16.here hx rfl (hb hby own_d1_211) ?_
                    show Steps p.tables e below (TJ16.setTop (mkF m 213 #[.val (.ref r0), .val (.int (0 : Int32)), .val (.int i2), .val (.int (own_v1a0_7 i2 b0 b1 b2 b3 b4)), .val (.int (3 : Int32)), .val (.int (own_v1a0_220_4 i2 b0 b1 b2 b3 b4)), .val (.int (128 : Int32)), .val (.int (191 : Int32)), .val (.int (2 : Int32)), .val (.int (own_v1a0_191_5 i2 b0 b1 b2 b3 b4))] [(.int (6 : Int32)), (.int (own_v1a0_220_4 i2 b0 b1 b2 b3 b4))])) _
                    refine XS.ishl XJ16.here hx rfl (hb hby own_d1_213) rfl ?_
                    show Steps p.tables e below (TJ16.setTop (mkF m 214 #[.val (.ref r0), .val (.int (0 : Int32)), .val (.int i2), .val (.int (own_v1a0_7 i2 b0 b1 b2 b3 b4)), .val (.int (3 : Int32)), .val (.int (own_v1a0_220_4 i2 b0 b1 b2 b3 b4)), .val (.int (128 : Int32)), .val (.int (191 : Int32)), .val (.int (2 : Int32)), .val (.int (own_v1a0_191_5 i2 b0 b1 b2 b3 b4))] [(.int ((own_v1a0_220_4 i2 b0 b1 b2 b3 b4) <<< ((6 : Int32) &&& 31)))])) _
                    refine XS.iload XJ16.here hx rfl (hb hby own_d1_214) rfl ?_
                    show Steps p.tables e below (TJ16.setTop (mkF m 216 #[.val (.ref r0), .val (.int (0 : Int32)), .val (.int i2), .val (.int (own_v1a0_7 i2 b0 b1 b2 b3 b4)), .val (.int (3 : Int32)), .val (.int (own_v1a0_220_4 i2 b0 b1 b2 b3 b4)), .val (.int (128 : Int32)), .val (.int (191 : Int32)), .val (.int (2 : Int32)), .val (.int (own_v1a0_191_5 i2 b0 b1 b2 b3 b4))] [(.int (own_v1a0_191_5 i2 b0 b1 b2 b3 b4)), (.int ((own_v1a0_220_4 i2 b0 b1 b2 b3 b4) <<< ((6 : Int32) &&& 31)))])) _
                    refine XS.bipush XJ16.here hx rfl (hb hby own_d1_216) ?_
                    show Steps p.tables e below (TJ16.setTop (mkF m 218 #[.val (.ref r0), .val (.int (0 : Int32)), .val (.int i2), .val (.int (own_v1a0_7 i2 b0 b1 b2 b3 b4)), .val (.int (3 : Int32)), .val (.int (own_v1a0_220_4 i2 b0 b1 b2 b3 b4)), .val (.int (128 : Int32)), .val (.int (191 : Int32)), .val (.int (2 : Int32)), .val (.int (own_v1a0_191_5 i2 b0 b1 b2 b3 b4))] [(.int (63 : Int32)), (.int (own_v1a0_191_5 i2 b0 b1 b2 b3 b4)), (.int ((own_v1a0_220_4 i2 b0 b1 b2 b3 b4) <<< ((6 : Int32) &&& 31)))])) _
                    refine XS.iand XJ16.here hx rfl (hb hby own_d1_218) rfl ?_
                    show Steps p.tables e below (TJ16.setTop (mkF m 219 #[.val (.ref r0), .val (.int (0 : Int32)), .val (.int i2), .val (.int (own_v1a0_7 i2 b0 b1 b2 b3 b4)), .val (.int (3 : Int32)), .val (.int (own_v1a0_220_4 i2 b0 b1 b2 b3 b4)), .val (.int (128 : Int32)), .val (.int (191 : Int32)), .val (.int (2 : Int32)), .val (.int (own_v1a0_191_5 i2 b0 b1 b2 b3 b4))] [(.int ((own_v1a0_191_5 i2 b0 b1 b2 b3 b4) &&& (63 : Int32))), (.int ((own_v1a0_220_4 i2 b0 b1 b2 b3 b4) <<< ((6 : Int32) &&& 31)))])) _
                    refine XS.ior XJ16.here hx rfl (hb hby own_d1_219) rfl ?_
                    show Steps p.tables e below (TJ16.setTop (mkF m 220 #[.val (.ref r0), .val (.int (0 : Int32)), .val (.int i2), .val (.int (own_v1a0_7 i2 b0 b1 b2 b3 b4)), .val (.int (3 : Int32)), .val (.int (own_v1a0_220_4 i2 b0 b1 b2 b3 b4)), .val (.int (128 : Int32)), .val (.int (191 : Int32)), .val (.int (2 : Int32)), .val (.int (own_v1a0_191_5 i2 b0 b1 b2 b3 b4))] [(.int (((own_v1a0_220_4 i2 b0 b1 b2 b3 b4) <<< ((6 : Int32) &&& 31)) ||| ((own_v1a0_191_5 i2 b0 b1 b2 b3 b4) &&& (63 : Int32))))])) _
                    refine XS.istore XJ16.here hx rfl (hb hby own_d1_220) rfl (l' := #[.val (.ref r0), .val (.int (0 : Int32)), .val (.int i2), .val (.int (own_v1a0_7 i2 b0 b1 b2 b3 b4)), .val (.int (3 : Int32)), .val (.int (own_v1a0_220_5 i2 b0 b1 b2 b3 b4)), .val (.int (128 : Int32)), .val (.int (191 : Int32)), .val (.int (2 : Int32)), .val (.int (own_v1a0_191_5 i2 b0 b1 b2 b3 b4))]) rfl ?_
                    show Steps p.tables e below (TJ16.setTop (mkF m 222 #[.val (.ref r0), .val (.int (0 : Int32)), .val (.int i2), .val (.int (own_v1a0_7 i2 b0 b1 b2 b3 b4)), .val (.int (3 : Int32)), .val (.int (own_v1a0_220_5 i2 b0 b1 b2 b3 b4)), .val (.int (128 : Int32)), .val (.int (191 : Int32)), .val (.int (2 : Int32)), .val (.int (own_v1a0_191_5 i2 b0 b1 b2 b3 b4))] [])) _
                    refine XS.sipush XJ16.here hx rfl (hb hby own_d1_222) ?_
                    show Steps p.tables e below (TJ16.setTop (mkF m 225 #[.val (.ref r0), .val (.int (0 : Int32)), .val (.int i2), .val (.int (own_v1a0_7 i2 b0 b1 b2 b3 b4)), .val (.int (3 : Int32)), .val (.int (own_v1a0_220_5 i2 b0 b1 b2 b3 b4)), .val (.int (128 : Int32)), .val (.int (191 : Int32)), .val (.int (2 : Int32)), .val (.int (own_v1a0_191_5 i2 b0 b1 b2 b3 b4))] [(.int (128 : Int32))])) _
                    refine XS.istore XJ16.here hx rfl (hb hby own_d1_225) rfl (l' := #[.val (.ref r0), .val (.int (0 : Int32)), .val (.int i2), .val (.int (own_v1a0_7 i2 b0 b1 b2 b3 b4)), .val (.int (3 : Int32)), .val (.int (own_v1a0_220_5 i2 b0 b1 b2 b3 b4)), .val (.int (128 : Int32)), .val (.int (191 : Int32)), .val (.int (2 : Int32)), .val (.int (own_v1a0_191_5 i2 b0 b1 b2 b3 b4))]) rfl ?_
                    show Steps p.tables e below (TJ16.setTop (mkF m 227 #[.val (.ref r0), .val (.int (0 : Int32)), .val (.int i2), .val (.int (own_v1a0_7 i2 b0 b1 b2 b3 b4)), .val (.int (3 : Int32)), .val (.int (own_v1a0_220_5 i2 b0 b1 b2 b3 b4)), .val (.int (128 : Int32)), .val (.int (191 : Int32)), .val (.int (2 : Int32)), .val (.int (own_v1a0_191_5 i2 b0 b1 b2 b3 b4))] [])) _
                    refine XS.sipush XJ16.here hx rfl (hb hby own_d1_227) ?_
                    show Steps p.tables e below (TJ16.setTop (mkF m 230 #[.val (.ref r0), .val (.int (0 : Int32)), .val (.int i2), .val (.int (own_v1a0_7 i2 b0 b1 b2 b3 b4)), .val (.int (3 : Int32)), .val (.int (own_v1a0_220_5 i2 b0 b1 b2 b3 b4)), .val (.int (128 : Int32)), .val (.int (191 : Int32)), .val (.int (2 : Int32)), .val (.int (own_v1a0_191_5 i2 b0 b1 b2 b3 b4))] [(.int (191 : Int32))])) _
                    refine XS.istore XJ16.here hx rfl (hb hby own_d1_230) rfl (l' := #[.val (.ref r0), .val (.int (0 : Int32)), .val (.int i2), .val (.int (own_v1a0_7 i2 b0 b1 b2 b3 b4)), .val (.int (3 : Int32)), .val (.int (own_v1a0_220_5 i2 b0 b1 b2 b3 b4)), .val (.int (128 : Int32)), .val (.int (191 : Int32)), .val (.int (2 : Int32)), .val (.int (own_v1a0_191_5 i2 b0 b1 b2 b3 b4))]) rfl ?_
                    show Steps p.tables e below (TJ16.setTop (mkF m 232 #[.val (.ref r0), .val (.int (0 : Int32)), .val (.int i2), .val (.int (own_v1a0_7 i2 b0 b1 b2 b3 b4)), .val (.int (3 : Int32)), .val (.int (own_v1a0_220_5 i2 b0 b1 b2 b3 b4)), .val (.int (128 : Int32)), .val (.int (191 : Int32)), .val (.int (2 : Int32)), .val (.int (own_v1a0_191_5 i2 b0 b1 b2 b3 b4))] [])) _
                    refine XS.iinc XJ16.here hx rfl (hb hby own_d1_232) rfl (l' := #[.val (.ref r0), .val (.int (0 : Int32)), .val (.int i2), .val (.int (own_v1a0_7 i2 b0 b1 b2 b3 b4)), .val (.int (3 : Int32)), .val (.int (own_v1a0_220_5 i2 b0 b1 b2 b3 b4)), .val (.int (128 : Int32)), .val (.int (191 : Int32)), .val (.int (3 : Int32)), .val (.int (own_v1a0_191_5 i2 b0 b1 b2 b3 b4))]) rfl ?_
                    show Steps p.tables e below (TJ16.setTop (mkF m 235 #[.val (.ref r0), .val (.int (0 : Int32)), .val (.int i2), .val (.int (own_v1a0_7 i2 b0 b1 b2 b3 b4)), .val (.int (3 : Int32)), .val (.int (own_v1a0_220_5 i2 b0 b1 b2 b3 b4)), .val (.int (128 : Int32)), .val (.int (191 : Int32)), .val (.int (3 : Int32)), .val (.int (own_v1a0_191_5 i2 b0 b1 b2 b3 b4))] [])) _
                    refine XS.goto XJ16.here hx rfl (pc0 := 235) (pc' := 174) rfl (hb hby own_d1_235) (by decide) (by decide) ?_
                    show Steps p.tables e below (TJ16.setTop (mkF m 174 #[.val (.ref r0), .val (.int (0 : Int32)), .val (.int i2), .val (.int (own_v1a0_7 i2 b0 b1 b2 b3 b4)), .val (.int (3 : Int32)), .val (.int (own_v1a0_220_5 i2 b0 b1 b2 b3 b4)), .val (.int (128 : Int32)), .val (.int (191 : Int32)), .val (.int (3 : Int32)), .val (.int (own_v1a0_191_5 i2 b0 b1 b2 b3 b4))] [])) _
                    refine XS.iload XJ16.here hx rfl (hb hby own_d1_174) rfl ?_
                    show Steps p.tables e below (TJ16.setTop (mkF m 176 #[.val (.ref r0), .val (.int (0 : Int32)), .val (.int i2), .val (.int (own_v1a0_7 i2 b0 b1 b2 b3 b4)), .val (.int (3 : Int32)), .val (.int (own_v1a0_220_5 i2 b0 b1 b2 b3 b4)), .val (.int (128 : Int32)), .val (.int (191 : Int32)), .val (.int (3 : Int32)), .val (.int (own_v1a0_191_5 i2 b0 b1 b2 b3 b4))] [(.int (3 : Int32))])) _
                    refine XS.iload XJ16.here hx rfl (hb hby own_d1_176) rfl ?_
                    exact kt
                  refine ownE.go (T' := TJ16) (f' := (mkF m 181 #[.val (.ref r0), .val (.int (0 : Int32)), .val (.int i2), .val (.int (own_v1a0_7 i2 b0 b1 b2 b3 b4)), .val (.int (3 : Int32)), .val (.int (own_v1a0_220_5 i2 b0 b1 b2 b3 b4)), .val (.int (128 : Int32)), .val (.int (191 : Int32)), .val (.int (3 : Int32)), .val (.int (own_v1a0_191_5 i2 b0 b1 b2 b3 b4))] [])) (fun t kt => XS.icmpNo (g := (mkF m 178 #[.val (.ref r0), .val (.int (0 : Int32)), .val (.int i2), .val (.int (own_v1a0_7 i2 b0 b1 b2 b3 b4)), .val (.int (3 : Int32)), .val (.int (own_v1a0_220_5 i2 b0 b1 b2 b3 b4)), .val (.int (128 : Int32)), .val (.int (191 : Int32)), .val (.int (3 : Int32)), .val (.int (own_v1a0_191_5 i2 b0 b1 b2 b3 b4))] [(.int (3 : Int32)), (.int (3 : Int32))])) XJ16.here hx rfl (hb hby own_d1_178) rfl (Jvm.Free.XT.ii_gt_f (by decide)) kt) ?_
                  refine ownE.go (T' := TJ16) (f' := (mkF m 186 #[.val (.ref r0), .val (.int (0 : Int32)), .val (.int i2), .val (.int (own_v1a0_7 i2 b0 b1 b2 b3 b4)), .val (.int (3 : Int32)), .val (.int (own_v1a0_220_5 i2 b0 b1 b2 b3 b4)), .val (.int (128 : Int32)), .val (.int (191 : Int32)), .val (.int (3 : Int32)), .val (.int (own_v1a0_191_5 i2 b0 b1 b2 b3 b4))] [(.int (3 : Int32)), (.ref r0)])) (fun t kt => ?_) ?_
                  · show Steps p.tables e below (TJ16.setTop (mkF m 181 #[.val (.ref r0), .val (.int (0 : Int32)), .val (.int i2), .val (.int (own_v1a0_7 i2 b0 b1 b2 b3 b4)), .val (.int (3 : Int32)), .val (.int (own_v1a0_220_5 i2 b0 b1 b2 b3 b4)), .val (.int (128 : Int32)), .val (.int (191 : Int32)), .val (.int (3 : Int32)), .val (.int (own_v1a0_191_5 i2 b0 b1 b2 b3 b4))] [])) _
                    refine XS.aloadN XJ16.here hx rfl (hb hby own_d1_181) rfl rfl ?_
                    show Steps p.tables e below (TJ16.setTop (mkF m 182 #[.val (.ref r0), .val (.int (0 : Int32)), .val (.int i2), .val (.int (own_v1a0_7 i2 b0 b1 b2 b3 b4)), .val (.int (3 : Int32)), .val (.int (own_v1a0_220_5 i2 b0 b1 b2 b3 b4)), .val (.int (128 : Int32)), .val (.int (191 : Int32)), .val (.int (3 : Int32)), .val (.int (own_v1a0_191_5 i2 b0 b1 b2 b3 b4))] [(.ref r0)])) _
                    refine XS.iloadN XJ16.here hx rfl (hb hby own_d1_182) rfl ?_
                    show Steps p.tables e below (TJ16.setTop (mkF m 183 #[.val (.ref r0), .val (.int (0 : Int32)), .val (.int i2), .val (.int (own_v1a0_7 i2 b0 b1 b2 b3 b4)), .val (.int (3 : Int32)), .val (.int (own_v1a0_220_5 i2 b0 b1 b2 b3 b4)), .val (.int (128 : Int32)), .val (.int (191 : Int32)), .val (.int (3 : Int32)), .val (.int (own_v1a0_191_5 i2 b0 b1 b2 b3 b4))] [(.int (0 : Int32)), (.ref r0)])) _
                    refine XS.iload XJ16.here hx rfl (hb hby own_d1_183) rfl ?_
                    show Steps p.tables e below (TJ16.setTop (mkF m 185 #[.val (.ref r0), .val (.int (0 : Int32)), .val (.int i2), .val (.int (own_v1a0_7 i2 b0 b1 b2 b3 b4)), .val (.int (3 : Int32)), .val (.int (own_v1a0_220_5 i2 b0 b1 b2 b3 b4)), .val (.int (128 : Int32)), .val (.int (191 : Int32)), .val (.int (3 : Int32)), .val (.int (own_v1a0_191_5 i2 b0 b1 b2 b3 b4))] [(.int (3 : Int32)), (.int (0 : Int32)), (.ref r0)])) _
                    refine XS.iadd XJ16.here hx rfl (hb hby own_d1_185) rfl ?_
                    exact kt
                  obtain ⟨cl34, Ar34, q34, S34, Nn34, Hh34, G34⟩ := id P0
                  refine ownE.go (T' := TJ16) (f' := (mkF m 187 #[.val (.ref r0), .val (.int (0 : Int32)), .val (.int i2), .val (.int (own_v1a0_7 i2 b0 b1 b2 b3 b4)), .val (.int (3 : Int32)), .val (.int (own_v1a0_220_5 i2 b0 b1 b2 b3 b4)), .val (.int (128 : Int32)), .val (.int (191 : Int32)), .val (.int (3 : Int32)), .val (.int (own_v1a0_191_5 i2 b0 b1 b2 b3 b4))] [(.int b3)])) (fun t kt => XJ16.baloadBytes hx (j := (3 : Int32)) (v := (.int b3)) (by rw [eJ16]; exact Ar34.1) (State.isArrayOf_alike hZ.alike Ar34.2.1) Ar34.2.2 (inb_of S34 ⟨by decide, by decide⟩) (Hh34.at (inb_of S34 ⟨by decide, by decide⟩) rfl) (g := (mkF m 186 #[.val (.ref r0), .val (.int (0 : Int32)), .val (.int i2), .val (.int (own_v1a0_7 i2 b0 b1 b2 b3 b4)), .val (.int (3 : Int32)), .val (.int (own_v1a0_220_5 i2 b0 b1 b2 b3 b4)), .val (.int (128 : Int32)), .val (.int (191 : Int32)), .val (.int (3 : Int32)), .val (.int (own_v1a0_191_5 i2 b0 b1 b2 b3 b4))] [(.int (3 : Int32)), (.ref r0)])) rfl rfl (hb hby own_d1_186) _ kt) ?_
                  refine ownE.go (T' := TJ16) (f' := (mkF m 197 #[.val (.ref r0), .val (.int (0 : Int32)), .val (.int i2), .val (.int (own_v1a0_7 i2 b0 b1 b2 b3 b4)), .val (.int (3 : Int32)), .val (.int (own_v1a0_220_5 i2 b0 b1 b2 b3 b4)), .val (.int (128 : Int32)), .val (.int (191 : Int32)), .val (.int (3 : Int32)), .val (.int (own_v1a0_191_6 i2 b0 b1 b2 b3 b4))] [(.int (128 : Int32)), (.int (own_v1a0_191_6 i2 b0 b1 b2 b3 b4))])) (fun t kt => ?_) ?_
                  · show Steps p.tables e below (TJ16.setTop (mkF m 187 #[.val (.ref r0), .val (.int (0 : Int32)), .val (.int i2), .val (.int (own_v1a0_7 i2 b0 b1 b2 b3 b4)), .val (.int (3 : Int32)), .val (.int (own_v1a0_220_5 i2 b0 b1 b2 b3 b4)), .val (.int (128 : Int32)), .val (.int (191 : Int32)), .val (.int (3 : Int32)), .val (.int (own_v1a0_191_5 i2 b0 b1 b2 b3 b4))] [(.int b3)])) _
                    refine XS.sipush XJ16.here hx rfl (hb hby own_d1_187) ?_
                    show Steps p.tables e below (TJ16.setTop (mkF m 190 #[.val (.ref r0), .val (.int (0 : Int32)), .val (.int i2), .val (.int (own_v1a0_7 i2 b0 b1 b2 b3 b4)), .val (.int (3 : Int32)), .val (.int (own_v1a0_220_5 i2 b0 b1 b2 b3 b4)), .val (.int (128 : Int32)), .val (.int (191 : Int32)), .val (.int (3 : Int32)), .val (.int (own_v1a0_191_5 i2 b0 b1 b2 b3 b4))] [(.int (255 : Int32)), (.int b3)])) _
                    refine XS.iand XJ16.here hx rfl (hb hby own_d1_190) rfl ?_
                    show Steps p.tables e below (TJ16.setTop (mkF m 191 #[.val (.ref r0), .val (.int (0 : Int32)), .val (.int i2), .val (.int (own_v1a0_7 i2 b0 b1 b2 b3 b4)), .val (.int (3 : Int32)), .val (.int (own_v1a0_220_5 i2 b0 b1 b2 b3 b4)), .val (.int (128 : Int32)), .val (.int (191 : Int32)), .val (.int (3 : Int32)), .val (.int (own_v1a0_191_5 i2 b0 b1 b2 b3 b4))] [(.int (b3 &&& (255 : Int32)))])) _
                    refine XS.istore XJ16.here hx rfl (hb hby own_d1_191) rfl (l' := #[.val (.ref r0), .val (.int (0 : Int32)), .val (.int i2), .val (.int (own_v1a0_7 i2 b0 b1 b2 b3 b4)), .val (.int (3 : Int32)), .val (.int (own_v1a0_220_5 i2 b0 b1 b2 b3 b4)), .val (.int (128 : Int32)), .val (.int (191 : Int32)), .val (.int (3 : Int32)), .val (.int (own_v1a0_191_6 i2 b0 b1 b2 b3 b4))]) rfl ?_
                    show Steps p.tables e below (TJ16.setTop (mkF m 193 #[.val (.ref r0), .val (.int (0 : Int32)), .val (.int i2), .val (.int (own_v1a0_7 i2 b0 b1 b2 b3 b4)), .val (.int (3 : Int32)), .val (.int (own_v1a0_220_5 i2 b0 b1 b2 b3 b4)), .val (.int (128 : Int32)), .val (.int (191 : Int32)), .val (.int (3 : Int32)), .val (.int (own_v1a0_191_6 i2 b0 b1 b2 b3 b4))] [])) _
                    refine XS.iload XJ16.here hx rfl (hb hby own_d1_193) rfl ?_
                    show Steps p.tables e below (TJ16.setTop (mkF m 195 #[.val (.ref r0), .val (.int (0 : Int32)), .val (.int i2), .val (.int (own_v1a0_7 i2 b0 b1 b2 b3 b4)), .val (.int (3 : Int32)), .val (.int (own_v1a0_220_5 i2 b0 b1 b2 b3 b4)), .val (.int (128 : Int32)), .val (.int (191 : Int32)), .val (.int (3 : Int32)), .val (.int (own_v1a0_191_6 i2 b0 b1 b2 b3 b4))] [(.int (own_v1a0_191_6 i2 b0 b1 b2 b3 b4))])) _
                    refine XS.iload XJ16.here hx rfl (hb hby own_d1_195) rfl ?_
                    exact kt
                  by_cases hc35 : (own_v1a0_191_6 i2 b0 b1 b2 b3 b4) < (128 : Int32)
                  · -- pc 197
                    refine ownE.go (T' := TJ16) (f' := (mkF m 207 #[.val (.ref r0), .val (.int (0 : Int32)), .val (.int i2), .val (.int (own_v1a0_7 i2 b0 b1 b2 b3 b4)), .val (.int (3 : Int32)), .val (.int (own_v1a0_220_5 i2 b0 b1 b2 b3 b4)), .val (.int (128 : Int32)), .val (.int (191 : Int32)), .val (.int (3 : Int32)), .val (.int (own_v1a0_191_6 i2 b0 b1 b2 b3 b4))] [])) (fun t kt => XS.icmpYes (g := (mkF m 197 #[.val (.ref r0), .val (.int (0 : Int32)), .val (.int i2), .val (.int (own_v1a0_7 i2 b0 b1 b2 b3 b4)), .val (.int (3 : Int32)), .val (.int (own_v1a0_220_5 i2 b0 b1 b2 b3 b4)), .val (.int (128 : Int32)), .val (.int (191 : Int32)), .val (.int (3 : Int32)), .val (.int (own_v1a0_191_6 i2 b0 b1 b2 b3 b4))] [(.int (128 : Int32)), (.int (own_v1a0_191_6 i2 b0 b1 b2 b3 b4))])) XJ16.here hx rfl (pc0 := 197) (pc' := 207) rfl (hb hby own_d1_197) rfl (Jvm.Free.XT.ii_lt_t hc35) (by decide) (by decide) kt) ?_
                    refine ownE.go (T' := TJ16) (f' := (mkF m 208 #[.val (.ref r0), .val (.int (0 : Int32)), .val (.int i2), .val (.int (own_v1a0_7 i2 b0 b1 b2 b3 b4)), .val (.int (3 : Int32)), .val (.int (own_v1a0_220_5 i2 b0 b1 b2 b3 b4)), .val (.int (128 : Int32)), .val (.int (191 : Int32)), .val (.int (3 : Int32)), .val (.int (own_v1a0_191_6 i2 b0 b1 b2 b3 b4))] [(.int (-1 : Int32))])) (fun t kt => ?_) ?_
                    · show Steps p.tables e below (TJ16.setTop (mkF m 207 #[.val (.ref r0), .val (.int (0 : Int32)), .val (.int i2), .val (.int (own_v1a0_7 i2 b0 b1 b2 b3 b4)), .val (.int (3 : Int32)), .val (.int (own_v1a0_220_5 i2 b0 b1 b2 b3 b4)), .val (.int (128 : Int32)), .val (.int (191 : Int32)), .val (.int (3 : Int32)), .val (.int (own_v1a0_191_6 i2 b0 b1 b2 b3 b4))] [])) _
                      refine XS.iconst XJ16.here hx rfl (hb hby own_d1_207) ?_
                      exact kt
                    refine ownE.retI XJ16 hx hlk hret (hb hby own_d1_208) ?_ (by decide) (by decide)
                    show own_Q1a0 Z r0 i2 kk b0 b1 b2 b3 b4 h0 n0 _ TJ16.heap _
                    rw [eJ16]
                    exact ⟨(by rw [hv16, own_r1a0_161, if_pos hc17, if_neg hk18_0, if_neg hk18_1, if_neg hc29, if_neg hc30, if_neg hc32, if_neg hc33, if_pos hc35] <;> first | rfl | decide), NJ16, rfl⟩
                  · -- pc 197
                    refine ownE.go (T' := TJ16) (f' := (mkF m 200 #[.val (.ref r0), .val (.int (0 : Int32)), .val (.int i2), .val (.int (own_v1a0_7 i2 b0 b1 b2 b3 b4)), .val (.int (3 : Int32)), .val (.int (own_v1a0_220_5 i2 b0 b1 b2 b3 b4)), .val (.int (128 : Int32)), .val (.int (191 : Int32)), .val (.int (3 : Int32)), .val (.int (own_v1a0_191_6 i2 b0 b1 b2 b3 b4))] [])) (fun t kt => XS.icmpNo (g := (mkF m 197 #[.val (.ref r0), .val (.int (0 : Int32)), .val (.int i2), .val (.int (own_v1a0_7 i2 b0 b1 b2 b3 b4)), .val (.int (3 : Int32)), .val (.int (own_v1a0_220_5 i2 b0 b1 b2 b3 b4)), .val (.int (128 : Int32)), .val (.int (191 : Int32)), .val (.int (3 : Int32)), .val (.int (own_v1a0_191_6 i2 b0 b1 b2 b3 b4))] [(.int (128 : Int32)), (.int (own_v1a0_191_6 i2 b0 b1 b2 b3 b4))])) XJ16.here hx rfl (hb hby own_d1_197) rfl (Jvm.Free.XT.ii_lt_f hc35) kt) ?_
                    refine ownE.go (T' := TJ16) (f' := (mkF m 204 #[.val (.ref r0), .val (.int (0 : Int32)), .val (.int i2), .val (.int (own_v1a0_7 i2 b0 b1 b2 b3 b4)), .val (.int (3 : Int32)), .val (.int (own_v1a0_220_5 i2 b0 b1 b2 b3 b4)), .val (.int (128 : Int32)), .val (.int (191 : Int32)), .val (.int (3 : Int32)), .val (.int (own_v1a0_191_6 i2 b0 b1 b2 b3 b4))] [(.int (191 : Int32)), (.int (own_v1a0_191_6 i2 b0 b1 b2 b3 b4))])) (fun t kt => ?_) ?_
                    · show Steps p.tables e below (TJ16.setTop (mkF m 200 #[.val (.ref r0), .val (.int (0 : Int32)), .val (.int i2), .val (.int (own_v1a0_7 i2 b0 b1 b2 b3 b4)), .val (.int (3 : Int32)), .val (.int (own_v1a0_220_5 i2 b0 b1 b2 b3 b4)), .val (.int (128 : Int32)), .val (.int (191 : Int32)), .val (.int (3 : Int32)), .val (.int (own_v1a0_191_6 i2 b0 b1 b2 b3 b4))] [])) _
                      refine XS.iload XJ16.here hx rfl (hb hby own_d1_200) rfl ?_
                      show Steps p.tables e below (TJ16.setTop (mkF m 202 #[.val (.ref r0), .val (.int (0 : Int32)), .val (.int i2), .val (.int (own_v1a0_7 i2 b0 b1 b2 b3 b4)), .val (.int (3 : Int32)), .val (.int (own_v1a0_220_5 i2 b0 b1 b2 b3 b4)), .val (.int (128 : Int32)), .val (.int (191 : Int32)), .val (.int (3 : Int32)), .val (.int (own_v1a0_191_6 i2 b0 b1 b2 b3 b4))] [(.int (own_v1a0_191_6 i2 b0 b1 b2 b3 b4))])) _
                      refine XS.iload XJ16.here hx rfl (hb hby own_d1_202) rfl ?_
                      exact kt
                    by_cases hc36 : (191 : Int32) < (own_v1a0_191_6 i2 b0 b1 b2 b3 b4)
                    · -- pc 204
                      refine ownE.go (T' := TJ16) (f' := (mkF m 207 #[.val (.ref r0), .val (.int (0 : Int32)), .val (.int i2), .val (.int (own_v1a0_7 i2 b0 b1 b2 b3 b4)), .val (.int (3 : Int32)), .val (.int (own_v1a0_220_5 i2 b0 b1 b2 b3 b4)), .val (.int (128 : Int32)), .val (.int (191 : Int32)), .val (.int (3 : Int32)), .val (.int (own_v1a0_191_6 i2 b0 b1 b2 b3 b4))] [])) (fun t kt => XS.icmpNo (g := (mkF m 204 #[.val (.ref r0), .val (.int (0 : Int32)), .val (.int i2), .val (.int (own_v1a0_7 i2 b0 b1 b2 b3 b4)), .val (.int (3 : Int32)), .val (.int (own_v1a0_220_5 i2 b0 b1 b2 b3 b4)), .val (.int (128 : Int32)), .val (.int (191 : Int32)), .val (.int (3 : Int32)), .val (.int (own_v1a0_191_6 i2 b0 b1 b2 b3 b4))] [(.int (191 : Int32)), (.int (own_v1a0_191_6 i2 b0 b1 b2 b3 b4))])) XJ16.here hx rfl (hb hby own_d1_204) rfl (Jvm.Free.XT.ii_le_f hc36) kt) ?_
                      refine ownE.go (T' := TJ16) (f' := (mkF m 208 #[.val (.ref r0), .val (.int (0 : Int32)), .val (.int i2), .val (.int (own_v1a0_7 i2 b0 b1 b2 b3 b4)), .val (.int (3 : Int32)), .val (.int (own_v1a0_220_5 i2 b0 b1 b2 b3 b4)), .val (.int (128 : Int32)), .val (.int (191 : Int32)), .val (.int (3 : Int32)), .val (.int (own_v1a0_191_6 i2 b0 b1 b2 b3 b4))] [(.int (-1 : Int32))])) (fun t kt => ?_) ?_
                      · show Steps p.tables e below (TJ16.setTop (mkF m 207 #[.val (.ref r0), .val (.int (0 : Int32)), .val (.int i2), .val (.int (own_v1a0_7 i2 b0 b1 b2 b3 b4)), .val (.int (3 : Int32)), .val (.int (own_v1a0_220_5 i2 b0 b1 b2 b3 b4)), .val (.int (128 : Int32)), .val (.int (191 : Int32)), .val (.int (3 : Int32)), .val (.int (own_v1a0_191_6 i2 b0 b1 b2 b3 b4))] [])) _
                        refine XS.iconst XJ16.here hx rfl (hb hby own_d1_207) ?_
                        exact kt
                      refine ownE.retI XJ16 hx hlk hret (hb hby own_d1_208) ?_ (by decide) (by decide)
                      show own_Q1a0 Z r0 i2 kk b0 b1 b2 b3 b4 h0 n0 _ TJ16.heap _
                      rw [eJ16]
                      exact ⟨(by rw [hv16, own_r1a0_161, if_pos hc17, if_neg hk18_0, if_neg hk18_1, if_neg hc29, if_neg hc30, if_neg hc32, if_neg hc33, if_neg hc35, if_pos hc36] <;> first | rfl | decide), NJ16, rfl⟩
                    · -- pc 204
                      refine ownE.go (T' := TJ16) (f' := (mkF m 209 #[.val (.ref r0), .val (.int (0 : Int32)), .val (.int i2), .val (.int (own_v1a0_7 i2 b0 b1 b2 b3 b4)), .val (.int (3 : Int32)), .val (.int (own_v1a0_220_5 i2 b0 b1 b2 b3 b4)), .val (.int (128 : Int32)), .val (.int (191 : Int32)), .val (.int (3 : Int32)), .val (.int (own_v1a0_191_6 i2 b0 b1 b2 b3 b4))] [])) (fun t kt => XS.icmpYes (g := (mkF m 204 #[.val (.ref r0), .val (.int (0 : Int32)), .val (.int i2), .val (.int (own_v1a0_7 i2 b0 b1 b2 b3 b4)), .val (.int (3 : Int32)), .val (.int (own_v1a0_220_5 i2 b0 b1 b2 b3 b4)), .val (.int (128 : Int32)), .val (.int (191 : Int32)), .val (.int (3 : Int32)), .val (.int (own_v1a0_191_6 i2 b0 b1 b2 b3 b4))] [(.int (191 : Int32)), (.int (own_v1a0_191_6 i2 b0 b1 b2 b3 b4))])) XJ16.here hx rfl (pc0 := 204) (pc' := 209) rfl (hb hby own_d1_204) rfl (Jvm.Free.XT.ii_le_t hc36) (by decide) (by decide) kt) ?_
                      refine ownE.go (T' := TJ16) (f' := (mkF m 178 #[.val (.ref r0), .val (.int (0 : Int32)), .val (.int i2), .val (.int (own_v1a0_7 i2 b0 b1 b2 b3 b4)), .val (.int (3 : Int32)), .val (.int (own_v1a0_220_6 i2 b0 b1 b2 b3 b4)), .val (.int (128 : Int32)), .val (.int (191 : Int32)), .val (.int (4 : Int32)), .val (.int (own_v1a0_191_6 i2 b0 b1 b2 b3 b4))] [(.int (3 : Int32)), (.int (4 : Int32))])) (fun t kt => ?_) ?_
                      · show Steps p.tables e below (TJ16.setTop (mkF m 209 #[.val (.ref r0), .val (.int (0 : Int32)), .val (.int i2), .val (.int (own_v1a0_7 i2 b0 b1 b2 b3 b4)), .val (.int (3 : Int32)), .val (.int (own_v1a0_220_5 i2 b0 b1 b2 b3 b4)), .val (.int (128 : Int32)), .val (.int (191 : Int32)), .val (.int (3 : Int32)), .val (.int (own_v1a0_191_6 i2 b0 b1 b2 b3 b4))] [])) _
                        refine XS.iload XJ16.here hx rfl (hb hby own_d1_209) rfl ?_
                        show Steps p.tables e below (TJ16.setTop (mkF m 211 #[.val (.ref r0), .val (.int (0 : Int32)), .val (.int i2), .val (.int (own_v1a0_7 i2 b0 b1 b2 b3 b4)), .val (.int (3 : Int32)), .val (.int (own_v1a0_220_5 i2 b0 b1 b2 b3 b4)), .val (.int (128 : Int32)), .val (.int (191 : Int32)), .val (.int (3 : Int32)), .val (.int (own_v1a0_191_6 i2 b0 b1 b2 b3 b4))] [(.int (own_v1a0_220_5 i2 b0 b1 b2 b3 b4))])) _
                        refine XS.bipush XJ16.here hx rfl (hb hby own_d1_211) ?_
                        show Steps p.tables e below (TJ16.setTop (mkF m 213 #[.val (.ref r0), .val (.int (0 : Int32)), .val (.int i2), .val (.int (own_v1a0_7 i2 b0 b1 b2 b3 b4)), .val (.int (3 : Int32)), .val (.int (own_v1a0_220_5 i2 b0 b1 b2 b3 b4)), .val (.int (128 : Int32)), .val (.int (191 : Int32)), .val (.int (3 : Int32)), .val (.int (own_v1a0_191_6 i2 b0 b1 b2 b3 b4))] [(.int (6 : Int32)), (.int (own_v1a0_220_5 i2 b0 b1 b2 b3 b4))])) _
                        refine XS.ishl XJ16.here hx rfl (hb hby own_d1_213) rfl ?_
                        show Steps p.tables e below (TJ16.setTop (mkF m 214 #[.val (.ref r0), .val (.int (0 : Int32)), .val (.int i2), .val (.int (own_v1a0_7 i2 b0 b1 b2 b3 b4)), .val (.int (3 : Int32)), .val (.int (own_v1a0_220_5 i2 b0 b1 b2 b3 b4)), .val (.int (128 : Int32)), .val (.int (191 : Int32)), .val (.int (3 : Int32)), .val (.int (own_v1a0_191_6 i2 b0 b1 b2 b3 b4))] [(.int ((own_v1a0_220_5 i2 b0 b1 b2 b3 b4) <<< ((6 : Int32) &&& 31)))])) _
                        refine XS.iload XJ16.here hx rfl (hb hby own_d1_214) rfl ?_
                        show Steps p.tables e below (TJ16.setTop (mkF m 216 #[.val (.ref r0), .val (.int (0 : Int32)), .val (.int i2), .val (.int (own_v1a0_7 i2 b0 b1 b2 b3 b4)), .val (.int (3 : Int32)), .val (.int (own_v1a0_220_5 i2 b0 b1 b2 b3 b4)), .val (.int (128 : Int32)), .val (.int (191 : Int32)), .val (.int (3 : Int32)), .val (.int (own_v1a0_191_6 i2 b0 b1 b2 b3 b4))] [(.int (own_v1a0_191_6 i2 b0 b1 b2 b3 b4)), (.int ((own_v1a0_220_5 i2 b0 b1 b2 b3 b4) <<< ((6 : Int32) &&& 31)))])) _
                        refine XS.bipush XJ16.here hx rfl (hb hby own_d1_216) ?_
                        show Steps p.tables e below (TJ16.setTop (mkF m 218 #[.val (.ref r0), .val (.int (0 : Int32)), .val (.int i2), .val (.int (own_v1a0_7 i2 b0 b1 b2 b3 b4)), .val (.int (3 : Int32)), .val (.int (own_v1a0_220_5 i2 b0 b1 b2 b3 b4)), .val (.int (128 : Int32)), .val (.int (191 : Int32)), .val (.int (3 : Int32)), .val (.int (own_v1a0_191_6 i2 b0 b1 b2 b3 b4))] [(.int (63 : Int32)), (.int (own_v1a0_191_6 i2 b0 b1 b2 b3 b4)), (.int ((own_v1a0_220_5 i2 b0 b1 b2 b3 b4) <<< ((6 : Int32) &&& 31)))])) _
                        refine XS.iand XJ16.here hx rfl (hb hby own_d1_218) rfl ?_
                        show Steps p.tables e below (TJ16.setTop (mkF m 219 #[.val (.ref r0), .val (.int (0 : Int32)), .val (.int i2), .val (.int (own_v1a0_7 i2 b0 b1 b2 b3 b4)), .val (.int (3 : Int32)), .val (.int (own_v1a0_220_5 i2 b0 b1 b2 b3 b4)), .val (.int (128 : Int32)), .val (.int (191 : Int32)), .val (.int (3 : Int32)), .val (.int (own_v1a0_191_6 i2 b0 b1 b2 b3 b4))] [(.int ((own_v1a0_191_6 i2 b0 b1 b2 b3 b4) &&& (63 : Int32))), (.int ((own_v1a0_220_5 i2 b0 b1 b2 b3 b4) <<< ((6 : Int32) &&& 31)))])) _
                        refine XS.ior XJ16.here hx rfl (hb hby own_d1_219) rfl ?_
                        show Steps p.tables e below (TJ16.setTop (mkF m 220 #[.val (.ref r0), .val (.int (0 : Int32)), .val (.int i2), .val (.int (own_v1a0_7 i2 b0 b1 b2 b3 b4)), .val (.int (3 : Int32)), .val (.int (own_v1a0_220_5 i2 b0 b1 b2 b3 b4)), .val (.int (128 : Int32)), .val (.int (191 : Int32)), .val (.int (3 : Int32)), .val (.int (own_v1a0_191_6 i2 b0 b1 b2 b3 b4))] [(.int (((own_v1a0_220_5 i2 b0 b1 b2 b3 b4) <<< ((6 : Int32) &&& 31)) ||| ((own_v1a0_191_6 i2 b0 b1 b2 b3 b4) &&& (63 : Int32))))])) _
                        refine XS.istore XJ16.here hx rfl (hb hby own_d1_220) rfl (l' := #[.val (.ref r0), .val (.int (0 : Int32)), .val (.int i2), .val (.int (own_v1a0_7 i2 b0 b1 b2 b3 b4)), .val (.int (3 : Int32)), .val (.int (own_v1a0_220_6 i2 b0 b1 b2 b3 b4)), .val (.int (128 : Int32)), .val (.int (191 : Int32)), .val (.int (3 : Int32)), .val (.int (own_v1a0_191_6 i2 b0 b1 b2 b3 b4))]) rfl ?_
                        show Steps p.tables e below (TJ16.setTop (mkF m 222 #[.val (.ref r0), .val (.int (0 : Int32)), .val (.int i2), .val (.int (own_v1a0_7 i2 b0 b1 b2 b3 b4)), .val (.int (3 : Int32)), .val (.int (own_v1a0_220_6 i2 b0 b1 b2 b3 b4)), .val (.int (128 : Int32)), .val (.int (191 : Int32)), .val (.int (3 : Int32)), .val (.int (own_v1a0_191_6 i2 b0 b1 b2 b3 b4))] [])) _
                        refine XS.sipush XJ16.here hx rfl (hb hby own_d1_222) ?_
                        show Steps p.tables e below (TJ16.setTop (mkF m 225 #[.val (.ref r0), .val (.int (0 : Int32)), .val (.int i2), .val (.int (own_v1a0_7 i2 b0 b1 b2 b3 b4)), .val (.int (3 : Int32)), .val (.int (own_v1a0_220_6 i2 b0 b1 b2 b3 b4)), .val (.int (128 : Int32)), .val (.int (191 : Int32)), .val (.int (3 : Int32)), .val (.int (own_v1a0_191_6 i2 b0 b1 b2 b3 b4))] [(.int (128 : Int32))])) _
                        refine XS.istore XJ16.here hx rfl (hb hby own_d1_225) rfl (l' := #[.val (.ref r0), .val (.int (0 : Int32)), .val (.int i2), .val (.int (own_v1a0_7 i2 b0 b1 b2 b3 b4)), .val (.int (3 : Int32)), .val (.int (own_v1a0_220_6 i2 b0 b1 b2 b3 b4)), .val (.int (128 : Int32)), .val (.int (191 : Int32)), .val (.int (3 : Int32)), .val (.int (own_v1a0_191_6 i2 b0 b1 b2 b3 b4))]) rfl ?_
                        show Steps p.tables e below (TJ16.setTop (mkF m 227 #[.val (.ref r0), .val (.int (0 : Int32)), .val (.int i2), .val (.int (own_v1a0_7 i2 b0 b1 b2 b3 b4)), .val (.int (3 : Int32)), .val (.int (own_v1a0_220_6 i2 b0 b1 b2 b3 b4)), .val (.int (128 : Int32)), .val (.int (191 : Int32)), .val (.int (3 : Int32)), .val (.int (own_v1a0_191_6 i2 b0 b1 b2 b3 b4))] [])) _
                        refine XS.sipush XJ16.here hx rfl (hb hby own_d1_227) ?_
                        show Steps p.tables e below (TJ16.setTop (mkF m 230 #[.val (.ref r0), .val (.int (0 : Int32)), .val (.int i2), .val (.int (own_v1a0_7 i2 b0 b1 b2 b3 b4)), .val (.int (3 : Int32)), .val (.int (own_v1a0_220_6 i2 b0 b1 b2 b3 b4)), .val (.int (128 : Int32)), .val (.int (191 : Int32)), .val (.int (3 : Int32)), .val (.int (own_v1a0_191_6 i2 b0 b1 b2 b3 b4))] [(.int (191 : Int32))])) _
                        refine XS.istore XJ16.here hx rfl (hb hby own_d1_230) rfl (l' := #[.val (.ref r0), .val (.int (0 : Int32)), .val (.int i2), .val (.int (own_v1a0_7 i2 b0 b1 b2 b3 b4)), .val (.int (3 : Int32)), .val (.int (own_v1a0_220_6 i2 b0 b1 b2 b3 b4)), .val (.int (128 : Int32)), .val (.int (191 : Int32)), .val (.int (3 : Int32)), .val (.int (own_v1a0_191_6 i2 b0 b1 b2 b3 b4))]) rfl ?_
                        show Steps p.tables e below (TJ16.setTop (mkF m 232 #[.val (.ref r0), .val (.int (0 : Int32)), .val (.int i2), .val (.int (own_v1a0_7 i2 b0 b1 b2 b3 b4)), .val (.int (3 : Int32)), .val (.int (own_v1a0_220_6 i2 b0 b1 b2 b3 b4)), .val (.int (128 : Int32)), .val (.int (191 : Int32)), .val (.int (3 : Int32)), .val (.int (own_v1a0_191_6 i2 b0 b1 b2 b3 b4))] [])) _
                        refine XS.iinc XJ16.here hx rfl (hb hby own_d1_232) rfl (l' := #[.val (.ref r0), .val (.int (0 : Int32)), .val (.int i2), .val (.int (own_v1a0_7 i2 b0 b1 b2 b3 b4)), .val (.int (3 : Int32)), .val (.int (own_v1a0_220_6 i2 b0 b1 b2 b3 b4)), .val (.int (128 : Int32)), .val (.int (191 : Int32)), .val (.int (4 : Int32)), .val (.int (own_v1a0_191_6 i2 b0 b1 b2 b3 b4))]) rfl ?_
                        show Steps p.tables e below (TJ16.setTop (mkF m 235 #[.val (.ref r0), .val (.int (0 : Int32)), .val (.int i2), .val (.int (own_v1a0_7 i2 b0 b1 b2 b3 b4)), .val (.int (3 : Int32)), .val (.int (own_v1a0_220_6 i2 b0 b1 b2 b3 b4)), .val (.int (128 : Int32)), .val (.int (191 : Int32)), .val (.int (4 : Int32)), .val (.int (own_v1a0_191_6 i2 b0 b1 b2 b3 b4))] [])) _
                        refine XS.goto XJ16.here hx rfl (pc0 := 235) (pc' := 174) rfl (hb hby own_d1_235) (by decide) (by decide) ?_
                        show Steps p.tables e below (TJ16.setTop (mkF m 174 #[.val (.ref r0), .val (.int (0 : Int32)), .val (.int i2), .val (.int (own_v1a0_7 i2 b0 b1 b2 b3 b4)), .val (.int (3 : Int32)), .val (.int (own_v1a0_220_6 i2 b0 b1 b2 b3 b4)), .val (.int (128 : Int32)), .val (.int (191 : Int32)), .val (.int (4 : Int32)), .val (.int (own_v1a0_191_6 i2 b0 b1 b2 b3 b4))] [])) _
                        refine XS.iload XJ16.here hx rfl (hb hby own_d1_174) rfl ?_
                        show Steps p.tables e below (TJ16.setTop (mkF m 176 #[.val (.ref r0), .val (.int (0 : Int32)), .val (.int i2), .val (.int (own_v1a0_7 i2 b0 b1 b2 b3 b4)), .val (.int (3 : Int32)), .val (.int (own_v1a0_220_6 i2 b0 b1 b2 b3 b4)), .val (.int (128 : Int32)), .val (.int (191 : Int32)), .val (.int (4 : Int32)), .val (.int (own_v1a0_191_6 i2 b0 b1 b2 b3 b4))] [(.int (4 : Int32))])) _
                        refine XS.iload XJ16.here hx rfl (hb hby own_d1_176) rfl ?_
                        exact kt
                      refine ownE.go (T' := TJ16) (f' := (mkF m 238 #[.val (.ref r0), .val (.int (0 : Int32)), .val (.int i2), .val (.int (own_v1a0_7 i2 b0 b1 b2 b3 b4)), .val (.int (3 : Int32)), .val (.int (own_v1a0_220_6 i2 b0 b1 b2 b3 b4)), .val (.int (128 : Int32)), .val (.int (191 : Int32)), .val (.int (4 : Int32)), .val (.int (own_v1a0_191_6 i2 b0 b1 b2 b3 b4))] [])) (fun t kt => XS.icmpYes (g := (mkF m 178 #[.val (.ref r0), .val (.int (0 : Int32)), .val (.int i2), .val (.int (own_v1a0_7 i2 b0 b1 b2 b3 b4)), .val (.int (3 : Int32)), .val (.int (own_v1a0_220_6 i2 b0 b1 b2 b3 b4)), .val (.int (128 : Int32)), .val (.int (191 : Int32)), .val (.int (4 : Int32)), .val (.int (own_v1a0_191_6 i2 b0 b1 b2 b3 b4))] [(.int (3 : Int32)), (.int (4 : Int32))])) XJ16.here hx rfl (pc0 := 178) (pc' := 238) rfl (hb hby own_d1_178) rfl (Jvm.Free.XT.ii_gt_t (by decide)) (by decide) (by decide) kt) ?_
                      refine ownE.go (T' := TJ16) (f' := (mkF m 240 #[.val (.ref r0), .val (.int (0 : Int32)), .val (.int i2), .val (.int (own_v1a0_7 i2 b0 b1 b2 b3 b4)), .val (.int (3 : Int32)), .val (.int (own_v1a0_220_6 i2 b0 b1 b2 b3 b4)), .val (.int (128 : Int32)), .val (.int (191 : Int32)), .val (.int (4 : Int32)), .val (.int (own_v1a0_191_6 i2 b0 b1 b2 b3 b4))] [(.int (own_v1a0_220_6 i2 b0 b1 b2 b3 b4))])) (fun t kt => ?_) ?_
                      · show Steps p.tables e below (TJ16.setTop (mkF m 238 #[.val (.ref r0), .val (.int (0 : Int32)), .val (.int i2), .val (.int (own_v1a0_7 i2 b0 b1 b2 b3 b4)), .val (.int (3 : Int32)), .val (.int (own_v1a0_220_6 i2 b0 b1 b2 b3 b4)), .val (.int (128 : Int32)), .val (.int (191 : Int32)), .val (.int (4 : Int32)), .val (.int (own_v1a0_191_6 i2 b0 b1 b2 b3 b4))] [])) _
                        refine XS.iload XJ16.here hx rfl (hb hby own_d1_238) rfl ?_
                        exact kt
                      refine ownE.retI XJ16 hx hlk hret (hb hby own_d1_240) ?_ (by decide) (by decide)
                      show own_Q1a0 Z r0 i2 kk b0 b1 b2 b3 b4 h0 n0 _ TJ16.heap _
                      rw [eJ16]
                      exact ⟨(by rw [hv16, own_r1a0_161, if_pos hc17, if_neg hk18_0, if_neg hk18_1, if_neg hc29, if_neg hc30, if_neg hc32, if_neg hc33, if_neg hc35, if_neg hc36] <;> first | rfl | decide), NJ16, rfl⟩
      · -- pc 166
        refine ownE.go (T' := TJ16) (f' := (mkF m 169 #[.val (.ref r0), .val (.int (0 : Int32)), .val (.int i2), .val (.int (own_v1a0_7 i2 b0 b1 b2 b3 b4)), .val (.int (own_j1a0_161_L4 i2 b0 b1 b2 b3 b4)), .val (.int (own_j1a0_161_L5 i2 b0 b1 b2 b3 b4)), .val (.int (own_j1a0_161_L6 i2 b0 b1 b2 b3 b4)), .val (.int (own_j1a0_161_L7 i2 b0 b1 b2 b3 b4)), .unset, .unset] [])) (fun t kt => XS.icmpNo (g := (mkF m 166 #[.val (.ref r0), .val (.int (0 : Int32)), .val (.int i2), .val (.int (own_v1a0_7 i2 b0 b1 b2 b3 b4)), .val (.int (own_j1a0_161_L4 i2 b0 b1 b2 b3 b4)), .val (.int (own_j1a0_161_L5 i2 b0 b1 b2 b3 b4)), .val (.int (own_j1a0_161_L6 i2 b0 b1 b2 b3 b4)), .val (.int (own_j1a0_161_L7 i2 b0 b1 b2 b3 b4)), .unset, .unset] [(.int (own_j1a0_161_L4 i2 b0 b1 b2 b3 b4)), (.int (i2 - (0 : Int32)))])) XJ16.here hx rfl (hb hby own_d1_166) rfl (Jvm.Free.XT.ii_gt_f hc17) kt) ?_
        refine ownE.go (T' := TJ16) (f' := (mkF m 170 #[.val (.ref r0), .val (.int (0 : Int32)), .val (.int i2), .val (.int (own_v1a0_7 i2 b0 b1 b2 b3 b4)), .val (.int (own_j1a0_161_L4 i2 b0 b1 b2 b3 b4)), .val (.int (own_j1a0_161_L5 i2 b0 b1 b2 b3 b4)), .val (.int (own_j1a0_161_L6 i2 b0 b1 b2 b3 b4)), .val (.int (own_j1a0_161_L7 i2 b0 b1 b2 b3 b4)), .unset, .unset] [(.int (-1 : Int32))])) (fun t kt => ?_) ?_
        · show Steps p.tables e below (TJ16.setTop (mkF m 169 #[.val (.ref r0), .val (.int (0 : Int32)), .val (.int i2), .val (.int (own_v1a0_7 i2 b0 b1 b2 b3 b4)), .val (.int (own_j1a0_161_L4 i2 b0 b1 b2 b3 b4)), .val (.int (own_j1a0_161_L5 i2 b0 b1 b2 b3 b4)), .val (.int (own_j1a0_161_L6 i2 b0 b1 b2 b3 b4)), .val (.int (own_j1a0_161_L7 i2 b0 b1 b2 b3 b4)), .unset, .unset] [])) _
          refine XS.iconst XJ16.here hx rfl (hb hby own_d1_169) ?_
          exact kt
        refine ownE.retI XJ16 hx hlk hret (hb hby own_d1_170) ?_ (by decide) (by decide)
        show own_Q1a0 Z r0 i2 kk b0 b1 b2 b3 b4 h0 n0 _ TJ16.heap _
        rw [eJ16]
        exact ⟨(by rw [hv16, own_r1a0_161, if_neg hc17] <;> first | rfl | decide), NJ16, rfl⟩
    refine ownE.go (T' := s₁) (f' := (mkF m 31 #[.val (.ref r0), .val (.int (0 : Int32)), .val (.int i2), .val (.int (own_v1a0_7 i2 b0 b1 b2 b3 b4)), .unset, .unset, .val (.int (128 : Int32)), .val (.int (191 : Int32)), .unset, .unset] [(.int (194 : Int32)), (.int (own_v1a0_7 i2 b0 b1 b2 b3 b4))])) (fun t kt => ?_) ?_
    · show Steps p.tables e below (s₁.setTop (mkF m 17 #[.val (.ref r0), .val (.int (0 : Int32)), .val (.int i2), .val (.int (own_v1a0_7 i2 b0 b1 b2 b3 b4)), .unset, .unset, .unset, .unset, .unset, .unset] [])) _
      refine XS.sipush X0.here hx rfl (hb hby own_d1_17) ?_
      show Steps p.tables e below (s₁.setTop (mkF m 20 #[.val (.ref r0), .val (.int (0 : Int32)), .val (.int i2), .val (.int (own_v1a0_7 i2 b0 b1 b2 b3 b4)), .unset, .unset, .unset, .unset, .unset, .unset] [(.int (128 : Int32))])) _
      refine XS.istore X0.here hx rfl (hb hby own_d1_20) rfl (l' := #[.val (.ref r0), .val (.int (0 : Int32)), .val (.int i2), .val (.int (own_v1a0_7 i2 b0 b1 b2 b3 b4)), .unset, .unset, .val (.int (128 : Int32)), .unset, .unset, .unset]) rfl ?_
      show Steps p.tables e below (s₁.setTop (mkF m 22 #[.val (.ref r0), .val (.int (0 : Int32)), .val (.int i2), .val (.int (own_v1a0_7 i2 b0 b1 b2 b3 b4)), .unset, .unset, .val (.int (128 : Int32)), .unset, .unset, .unset] [])) _
      refine XS.sipush X0.here hx rfl (hb hby own_d1_22) ?_
      show Steps p.tables e below (s₁.setTop (mkF m 25 #[.val (.ref r0), .val (.int (0 : Int32)), .val (.int i2), .val (.int (own_v1a0_7 i2 b0 b1 b2 b3 b4)), .unset, .unset, .val (.int (128 : Int32)), .unset, .unset, .unset] [(.int (191 : Int32))])) _
      refine XS.istore X0.here hx rfl (hb hby own_d1_25) rfl (l' := #[.val (.ref r0), .val (.int (0 : Int32)), .val (.int i2), .val (.int (own_v1a0_7 i2 b0 b1 b2 b3 b4)), .unset, .unset, .val (.int (128 : Int32)), .val (.int (191 : Int32)), .unset, .unset]) rfl ?_
      show Steps p.tables e below (s₁.setTop (mkF m 27 #[.val (.ref r0), .val (.int (0 : Int32)), .val (.int i2), .val (.int (own_v1a0_7 i2 b0 b1 b2 b3 b4)), .unset, .unset, .val (.int (128 : Int32)), .val (.int (191 : Int32)), .unset, .unset] [])) _
      refine XS.iloadN X0.here hx rfl (hb hby own_d1_27) rfl ?_
      show Steps p.tables e below (s₁.setTop (mkF m 28 #[.val (.ref r0), .val (.int (0 : Int32)), .val (.int i2), .val (.int (own_v1a0_7 i2 b0 b1 b2 b3 b4)), .unset, .unset, .val (.int (128 : Int32)), .val (.int (191 : Int32)), .unset, .unset] [(.int (own_v1a0_7 i2 b0 b1 b2 b3 b4))])) _
      refine XS.sipush X0.here hx rfl (hb hby own_d1_28) ?_
      exact kt
    by_cases hc4 : (own_v1a0_7 i2 b0 b1 b2 b3 b4) < (194 : Int32)
    · -- pc 31
      refine ownE.go (T' := s₁) (f' := (mkF m 53 #[.val (.ref r0), .val (.int (0 : Int32)), .val (.int i2), .val (.int (own_v1a0_7 i2 b0 b1 b2 b3 b4)), .unset, .unset, .val (.int (128 : Int32)), .val (.int (191 : Int32)), .unset, .unset] [])) (fun t kt => XS.icmpYes (g := (mkF m 31 #[.val (.ref r0), .val (.int (0 : Int32)), .val (.int i2), .val (.int (own_v1a0_7 i2 b0 b1 b2 b3 b4)), .unset, .unset, .val (.int (128 : Int32)), .val (.int (191 : Int32)), .unset, .unset] [(.int (194 : Int32)), (.int (own_v1a0_7 i2 b0 b1 b2 b3 b4))])) X0.here hx rfl (pc0 := 31) (pc' := 53) rfl (hb hby own_d1_31) rfl (Jvm.Free.XT.ii_lt_t hc4) (by decide) (by decide) kt) ?_
      refine ownE.go (T' := s₁) (f' := (mkF m 57 #[.val (.ref r0), .val (.int (0 : Int32)), .val (.int i2), .val (.int (own_v1a0_7 i2 b0 b1 b2 b3 b4)), .unset, .unset, .val (.int (128 : Int32)), .val (.int (191 : Int32)), .unset, .unset] [(.int (224 : Int32)), (.int (own_v1a0_7 i2 b0 b1 b2 b3 b4))])) (fun t kt => ?_) ?_
      · show Steps p.tables e below (s₁.setTop (mkF m 53 #[.val (.ref r0), .val (.int (0 : Int32)), .val (.int i2), .val (.int (own_v1a0_7 i2 b0 b1 b2 b3 b4)), .unset, .unset, .val (.int (128 : Int32)), .val (.int (191 : Int32)), .unset, .unset] [])) _
        refine XS.iloadN X0.here hx rfl (hb hby own_d1_53) rfl ?_
        show Steps p.tables e below (s₁.setTop (mkF m 54 #[.val (.ref r0), .val (.int (0 : Int32)), .val (.int i2), .val (.int (own_v1a0_7 i2 b0 b1 b2 b3 b4)), .unset, .unset, .val (.int (128 : Int32)), .val (.int (191 : Int32)), .unset, .unset] [(.int (own_v1a0_7 i2 b0 b1 b2 b3 b4))])) _
        refine XS.sipush X0.here hx rfl (hb hby own_d1_54) ?_
        exact kt
      have hc5 : (own_v1a0_7 i2 b0 b1 b2 b3 b4) < (224 : Int32) := by
        revert hc2 hc4
        simp only [Int32.lt_iff_toInt_lt, ← Int32.toInt_inj, own_z128, own_z194, own_z224]
        intros
        omega
      refine ownE.go (T' := s₁) (f' := (mkF m 106 #[.val (.ref r0), .val (.int (0 : Int32)), .val (.int i2), .val (.int (own_v1a0_7 i2 b0 b1 b2 b3 b4)), .unset, .unset, .val (.int (128 : Int32)), .val (.int (191 : Int32)), .unset, .unset] [])) (fun t kt => XS.icmpYes (g := (mkF m 57 #[.val (.ref r0), .val (.int (0 : Int32)), .val (.int i2), .val (.int (own_v1a0_7 i2 b0 b1 b2 b3 b4)), .unset, .unset, .val (.int (128 : Int32)), .val (.int (191 : Int32)), .unset, .unset] [(.int (224 : Int32)), (.int (own_v1a0_7 i2 b0 b1 b2 b3 b4))])) X0.here hx rfl (pc0 := 57) (pc' := 106) rfl (hb hby own_d1_57) rfl (Jvm.Free.XT.ii_lt_t hc5) (by decide) (by decide) kt) ?_
      refine ownE.go (T' := s₁) (f' := (mkF m 110 #[.val (.ref r0), .val (.int (0 : Int32)), .val (.int i2), .val (.int (own_v1a0_7 i2 b0 b1 b2 b3 b4)), .unset, .unset, .val (.int (128 : Int32)), .val (.int (191 : Int32)), .unset, .unset] [(.int (240 : Int32)), (.int (own_v1a0_7 i2 b0 b1 b2 b3 b4))])) (fun t kt => ?_) ?_
      · show Steps p.tables e below (s₁.setTop (mkF m 106 #[.val (.ref r0), .val (.int (0 : Int32)), .val (.int i2), .val (.int (own_v1a0_7 i2 b0 b1 b2 b3 b4)), .unset, .unset, .val (.int (128 : Int32)), .val (.int (191 : Int32)), .unset, .unset] [])) _
        refine XS.iloadN X0.here hx rfl (hb hby own_d1_106) rfl ?_
        show Steps p.tables e below (s₁.setTop (mkF m 107 #[.val (.ref r0), .val (.int (0 : Int32)), .val (.int i2), .val (.int (own_v1a0_7 i2 b0 b1 b2 b3 b4)), .unset, .unset, .val (.int (128 : Int32)), .val (.int (191 : Int32)), .unset, .unset] [(.int (own_v1a0_7 i2 b0 b1 b2 b3 b4))])) _
        refine XS.sipush X0.here hx rfl (hb hby own_d1_107) ?_
        exact kt
      have hc6 : (own_v1a0_7 i2 b0 b1 b2 b3 b4) < (240 : Int32) := by
        revert hc2 hc4
        simp only [Int32.lt_iff_toInt_lt, ← Int32.toInt_inj, own_z128, own_z194, own_z240]
        intros
        omega
      refine ownE.go (T' := s₁) (f' := (mkF m 159 #[.val (.ref r0), .val (.int (0 : Int32)), .val (.int i2), .val (.int (own_v1a0_7 i2 b0 b1 b2 b3 b4)), .unset, .unset, .val (.int (128 : Int32)), .val (.int (191 : Int32)), .unset, .unset] [])) (fun t kt => XS.icmpYes (g := (mkF m 110 #[.val (.ref r0), .val (.int (0 : Int32)), .val (.int i2), .val (.int (own_v1a0_7 i2 b0 b1 b2 b3 b4)), .unset, .unset, .val (.int (128 : Int32)), .val (.int (191 : Int32)), .unset, .unset] [(.int (240 : Int32)), (.int (own_v1a0_7 i2 b0 b1 b2 b3 b4))])) X0.here hx rfl (pc0 := 110) (pc' := 159) rfl (hb hby own_d1_110) rfl (Jvm.Free.XT.ii_lt_t hc6) (by decide) (by decide) kt) ?_
      refine ownE.go (T' := s₁) (f' := (mkF m 160 #[.val (.ref r0), .val (.int (0 : Int32)), .val (.int i2), .val (.int (own_v1a0_7 i2 b0 b1 b2 b3 b4)), .unset, .unset, .val (.int (128 : Int32)), .val (.int (191 : Int32)), .unset, .unset] [(.int (-1 : Int32))])) (fun t kt => ?_) ?_
      · show Steps p.tables e below (s₁.setTop (mkF m 159 #[.val (.ref r0), .val (.int (0 : Int32)), .val (.int i2), .val (.int (own_v1a0_7 i2 b0 b1 b2 b3 b4)), .unset, .unset, .val (.int (128 : Int32)), .val (.int (191 : Int32)), .unset, .unset] [])) _
        refine XS.iconst X0.here hx rfl (hb hby own_d1_159) ?_
        exact kt
      refine ownE.retI X0 hx hlk hret (hb hby own_d1_160) ?_ (by decide) (by decide)
      show own_Q1a0 Z r0 i2 kk b0 b1 b2 b3 b4 h0 n0 _ s₁.heap _
      rw [e0]
      exact ⟨(by rw [own_cp0, if_neg hc2, if_pos hc4] <;> first | rfl | decide), N0, rfl⟩
    · -- pc 31
      refine ownE.go (T' := s₁) (f' := (mkF m 34 #[.val (.ref r0), .val (.int (0 : Int32)), .val (.int i2), .val (.int (own_v1a0_7 i2 b0 b1 b2 b3 b4)), .unset, .unset, .val (.int (128 : Int32)), .val (.int (191 : Int32)), .unset, .unset] [])) (fun t kt => XS.icmpNo (g := (mkF m 31 #[.val (.ref r0), .val (.int (0 : Int32)), .val (.int i2), .val (.int (own_v1a0_7 i2 b0 b1 b2 b3 b4)), .unset, .unset, .val (.int (128 : Int32)), .val (.int (191 : Int32)), .unset, .unset] [(.int (194 : Int32)), (.int (own_v1a0_7 i2 b0 b1 b2 b3 b4))])) X0.here hx rfl (hb hby own_d1_31) rfl (Jvm.Free.XT.ii_lt_f hc4) kt) ?_
      refine ownE.go (T' := s₁) (f' := (mkF m 38 #[.val (.ref r0), .val (.int (0 : Int32)), .val (.int i2), .val (.int (own_v1a0_7 i2 b0 b1 b2 b3 b4)), .unset, .unset, .val (.int (128 : Int32)), .val (.int (191 : Int32)), .unset, .unset] [(.int (223 : Int32)), (.int (own_v1a0_7 i2 b0 b1 b2 b3 b4))])) (fun t kt => ?_) ?_
      · show Steps p.tables e below (s₁.setTop (mkF m 34 #[.val (.ref r0), .val (.int (0 : Int32)), .val (.int i2), .val (.int (own_v1a0_7 i2 b0 b1 b2 b3 b4)), .unset, .unset, .val (.int (128 : Int32)), .val (.int (191 : Int32)), .unset, .unset] [])) _
        refine XS.iloadN X0.here hx rfl (hb hby own_d1_34) rfl ?_
        show Steps p.tables e below (s₁.setTop (mkF m 35 #[.val (.ref r0), .val (.int (0 : Int32)), .val (.int i2), .val (.int (own_v1a0_7 i2 b0 b1 b2 b3 b4)), .unset, .unset, .val (.int (128 : Int32)), .val (.int (191 : Int32)), .unset, .unset] [(.int (own_v1a0_7 i2 b0 b1 b2 b3 b4))])) _
        refine XS.sipush X0.here hx rfl (hb hby own_d1_35) ?_
        exact kt
      by_cases hc7 : (223 : Int32) < (own_v1a0_7 i2 b0 b1 b2 b3 b4)
      · -- pc 38
        refine ownE.go (T' := s₁) (f' := (mkF m 53 #[.val (.ref r0), .val (.int (0 : Int32)), .val (.int i2), .val (.int (own_v1a0_7 i2 b0 b1 b2 b3 b4)), .unset, .unset, .val (.int (128 : Int32)), .val (.int (191 : Int32)), .unset, .unset] [])) (fun t kt => XS.icmpYes (g := (mkF m 38 #[.val (.ref r0), .val (.int (0 : Int32)), .val (.int i2), .val (.int (own_v1a0_7 i2 b0 b1 b2 b3 b4)), .unset, .unset, .val (.int (128 : Int32)), .val (.int (191 : Int32)), .unset, .unset] [(.int (223 : Int32)), (.int (own_v1a0_7 i2 b0 b1 b2 b3 b4))])) X0.here hx rfl (pc0 := 38) (pc' := 53) rfl (hb hby own_d1_38) rfl (Jvm.Free.XT.ii_gt_t hc7) (by decide) (by decide) kt) ?_
        refine ownE.go (T' := s₁) (f' := (mkF m 57 #[.val (.ref r0), .val (.int (0 : Int32)), .val (.int i2), .val (.int (own_v1a0_7 i2 b0 b1 b2 b3 b4)), .unset, .unset, .val (.int (128 : Int32)), .val (.int (191 : Int32)), .unset, .unset] [(.int (224 : Int32)), (.int (own_v1a0_7 i2 b0 b1 b2 b3 b4))])) (fun t kt => ?_) ?_
        · show Steps p.tables e below (s₁.setTop (mkF m 53 #[.val (.ref r0), .val (.int (0 : Int32)), .val (.int i2), .val (.int (own_v1a0_7 i2 b0 b1 b2 b3 b4)), .unset, .unset, .val (.int (128 : Int32)), .val (.int (191 : Int32)), .unset, .unset] [])) _
          refine XS.iloadN X0.here hx rfl (hb hby own_d1_53) rfl ?_
          show Steps p.tables e below (s₁.setTop (mkF m 54 #[.val (.ref r0), .val (.int (0 : Int32)), .val (.int i2), .val (.int (own_v1a0_7 i2 b0 b1 b2 b3 b4)), .unset, .unset, .val (.int (128 : Int32)), .val (.int (191 : Int32)), .unset, .unset] [(.int (own_v1a0_7 i2 b0 b1 b2 b3 b4))])) _
          refine XS.sipush X0.here hx rfl (hb hby own_d1_54) ?_
          exact kt
        have hc8 : ¬ (own_v1a0_7 i2 b0 b1 b2 b3 b4) < (224 : Int32) := by
          revert hc2 hc4 hc7
          simp only [Int32.lt_iff_toInt_lt, ← Int32.toInt_inj, own_z128, own_z194, own_z223, own_z224]
          intros
          omega
        refine ownE.go (T' := s₁) (f' := (mkF m 60 #[.val (.ref r0), .val (.int (0 : Int32)), .val (.int i2), .val (.int (own_v1a0_7 i2 b0 b1 b2 b3 b4)), .unset, .unset, .val (.int (128 : Int32)), .val (.int (191 : Int32)), .unset, .unset] [])) (fun t kt => XS.icmpNo (g := (mkF m 57 #[.val (.ref r0), .val (.int (0 : Int32)), .val (.int i2), .val (.int (own_v1a0_7 i2 b0 b1 b2 b3 b4)), .unset, .unset, .val (.int (128 : Int32)), .val (.int (191 : Int32)), .unset, .unset] [(.int (224 : Int32)), (.int (own_v1a0_7 i2 b0 b1 b2 b3 b4))])) X0.here hx rfl (hb hby own_d1_57) rfl (Jvm.Free.XT.ii_lt_f hc8) kt) ?_
        refine ownE.go (T' := s₁) (f' := (mkF m 64 #[.val (.ref r0), .val (.int (0 : Int32)), .val (.int i2), .val (.int (own_v1a0_7 i2 b0 b1 b2 b3 b4)), .unset, .unset, .val (.int (128 : Int32)), .val (.int (191 : Int32)), .unset, .unset] [(.int (239 : Int32)), (.int (own_v1a0_7 i2 b0 b1 b2 b3 b4))])) (fun t kt => ?_) ?_
        · show Steps p.tables e below (s₁.setTop (mkF m 60 #[.val (.ref r0), .val (.int (0 : Int32)), .val (.int i2), .val (.int (own_v1a0_7 i2 b0 b1 b2 b3 b4)), .unset, .unset, .val (.int (128 : Int32)), .val (.int (191 : Int32)), .unset, .unset] [])) _
          refine XS.iloadN X0.here hx rfl (hb hby own_d1_60) rfl ?_
          show Steps p.tables e below (s₁.setTop (mkF m 61 #[.val (.ref r0), .val (.int (0 : Int32)), .val (.int i2), .val (.int (own_v1a0_7 i2 b0 b1 b2 b3 b4)), .unset, .unset, .val (.int (128 : Int32)), .val (.int (191 : Int32)), .unset, .unset] [(.int (own_v1a0_7 i2 b0 b1 b2 b3 b4))])) _
          refine XS.sipush X0.here hx rfl (hb hby own_d1_61) ?_
          exact kt
        by_cases hc9 : (239 : Int32) < (own_v1a0_7 i2 b0 b1 b2 b3 b4)
        · -- pc 64
          refine ownE.go (T' := s₁) (f' := (mkF m 106 #[.val (.ref r0), .val (.int (0 : Int32)), .val (.int i2), .val (.int (own_v1a0_7 i2 b0 b1 b2 b3 b4)), .unset, .unset, .val (.int (128 : Int32)), .val (.int (191 : Int32)), .unset, .unset] [])) (fun t kt => XS.icmpYes (g := (mkF m 64 #[.val (.ref r0), .val (.int (0 : Int32)), .val (.int i2), .val (.int (own_v1a0_7 i2 b0 b1 b2 b3 b4)), .unset, .unset, .val (.int (128 : Int32)), .val (.int (191 : Int32)), .unset, .unset] [(.int (239 : Int32)), (.int (own_v1a0_7 i2 b0 b1 b2 b3 b4))])) X0.here hx rfl (pc0 := 64) (pc' := 106) rfl (hb hby own_d1_64) rfl (Jvm.Free.XT.ii_gt_t hc9) (by decide) (by decide) kt) ?_
          refine ownE.go (T' := s₁) (f' := (mkF m 110 #[.val (.ref r0), .val (.int (0 : Int32)), .val (.int i2), .val (.int (own_v1a0_7 i2 b0 b1 b2 b3 b4)), .unset, .unset, .val (.int (128 : Int32)), .val (.int (191 : Int32)), .unset, .unset] [(.int (240 : Int32)), (.int (own_v1a0_7 i2 b0 b1 b2 b3 b4))])) (fun t kt => ?_) ?_
          · show Steps p.tables e below (s₁.setTop (mkF m 106 #[.val (.ref r0), .val (.int (0 : Int32)), .val (.int i2), .val (.int (own_v1a0_7 i2 b0 b1 b2 b3 b4)), .unset, .unset, .val (.int (128 : Int32)), .val (.int (191 : Int32)), .unset, .unset] [])) _
            refine XS.iloadN X0.here hx rfl (hb hby own_d1_106) rfl ?_
            show Steps p.tables e below (s₁.setTop (mkF m 107 #[.val (.ref r0), .val (.int (0 : Int32)), .val (.int i2), .val (.int (own_v1a0_7 i2 b0 b1 b2 b3 b4)), .unset, .unset, .val (.int (128 : Int32)), .val (.int (191 : Int32)), .unset, .unset] [(.int (own_v1a0_7 i2 b0 b1 b2 b3 b4))])) _
            refine XS.sipush X0.here hx rfl (hb hby own_d1_107) ?_
            exact kt
          have hc10 : ¬ (own_v1a0_7 i2 b0 b1 b2 b3 b4) < (240 : Int32) := by
            revert hc2 hc4 hc7 hc9
            simp only [Int32.lt_iff_toInt_lt, ← Int32.toInt_inj, own_z128, own_z194, own_z223, own_z239, own_z240]
            intros
            omega
          refine ownE.go (T' := s₁) (f' := (mkF m 113 #[.val (.ref r0), .val (.int (0 : Int32)), .val (.int i2), .val (.int (own_v1a0_7 i2 b0 b1 b2 b3 b4)), .unset, .unset, .val (.int (128 : Int32)), .val (.int (191 : Int32)), .unset, .unset] [])) (fun t kt => XS.icmpNo (g := (mkF m 110 #[.val (.ref r0), .val (.int (0 : Int32)), .val (.int i2), .val (.int (own_v1a0_7 i2 b0 b1 b2 b3 b4)), .unset, .unset, .val (.int (128 : Int32)), .val (.int (191 : Int32)), .unset, .unset] [(.int (240 : Int32)), (.int (own_v1a0_7 i2 b0 b1 b2 b3 b4))])) X0.here hx rfl (hb hby own_d1_110) rfl (Jvm.Free.XT.ii_lt_f hc10) kt) ?_
          refine ownE.go (T' := s₁) (f' := (mkF m 117 #[.val (.ref r0), .val (.int (0 : Int32)), .val (.int i2), .val (.int (own_v1a0_7 i2 b0 b1 b2 b3 b4)), .unset, .unset, .val (.int (128 : Int32)), .val (.int (191 : Int32)), .unset, .unset] [(.int (244 : Int32)), (.int (own_v1a0_7 i2 b0 b1 b2 b3 b4))])) (fun t kt => ?_) ?_
          · show Steps p.tables e below (s₁.setTop (mkF m 113 #[.val (.ref r0), .val (.int (0 : Int32)), .val (.int i2), .val (.int (own_v1a0_7 i2 b0 b1 b2 b3 b4)), .unset, .unset, .val (.int (128 : Int32)), .val (.int (191 : Int32)), .unset, .unset] [])) _
            refine XS.iloadN X0.here hx rfl (hb hby own_d1_113) rfl ?_
            show Steps p.tables e below (s₁.setTop (mkF m 114 #[.val (.ref r0), .val (.int (0 : Int32)), .val (.int i2), .val (.int (own_v1a0_7 i2 b0 b1 b2 b3 b4)), .unset, .unset, .val (.int (128 : Int32)), .val (.int (191 : Int32)), .unset, .unset] [(.int (own_v1a0_7 i2 b0 b1 b2 b3 b4))])) _
            refine XS.sipush X0.here hx rfl (hb hby own_d1_114) ?_
            exact kt
          by_cases hc11 : (244 : Int32) < (own_v1a0_7 i2 b0 b1 b2 b3 b4)
          · -- pc 117
            refine ownE.go (T' := s₁) (f' := (mkF m 159 #[.val (.ref r0), .val (.int (0 : Int32)), .val (.int i2), .val (.int (own_v1a0_7 i2 b0 b1 b2 b3 b4)), .unset, .unset, .val (.int (128 : Int32)), .val (.int (191 : Int32)), .unset, .unset] [])) (fun t kt => XS.icmpYes (g := (mkF m 117 #[.val (.ref r0), .val (.int (0 : Int32)), .val (.int i2), .val (.int (own_v1a0_7 i2 b0 b1 b2 b3 b4)), .unset, .unset, .val (.int (128 : Int32)), .val (.int (191 : Int32)), .unset, .unset] [(.int (244 : Int32)), (.int (own_v1a0_7 i2 b0 b1 b2 b3 b4))])) X0.here hx rfl (pc0 := 117) (pc' := 159) rfl (hb hby own_d1_117) rfl (Jvm.Free.XT.ii_gt_t hc11) (by decide) (by decide) kt) ?_
            refine ownE.go (T' := s₁) (f' := (mkF m 160 #[.val (.ref r0), .val (.int (0 : Int32)), .val (.int i2), .val (.int (own_v1a0_7 i2 b0 b1 b2 b3 b4)), .unset, .unset, .val (.int (128 : Int32)), .val (.int (191 : Int32)), .unset, .unset] [(.int (-1 : Int32))])) (fun t kt => ?_) ?_
            · show Steps p.tables e below (s₁.setTop (mkF m 159 #[.val (.ref r0), .val (.int (0 : Int32)), .val (.int i2), .val (.int (own_v1a0_7 i2 b0 b1 b2 b3 b4)), .unset, .unset, .val (.int (128 : Int32)), .val (.int (191 : Int32)), .unset, .unset] [])) _
              refine XS.iconst X0.here hx rfl (hb hby own_d1_159) ?_
              exact kt
            refine ownE.retI X0 hx hlk hret (hb hby own_d1_160) ?_ (by decide) (by decide)
            show own_Q1a0 Z r0 i2 kk b0 b1 b2 b3 b4 h0 n0 _ s₁.heap _
            rw [e0]
            exact ⟨(by rw [own_cp0, if_neg hc2, if_neg hc4, if_pos hc7, if_pos hc9, if_pos hc11] <;> first | rfl | decide), N0, rfl⟩
          · -- pc 117
            refine ownE.go (T' := s₁) (f' := (mkF m 120 #[.val (.ref r0), .val (.int (0 : Int32)), .val (.int i2), .val (.int (own_v1a0_7 i2 b0 b1 b2 b3 b4)), .unset, .unset, .val (.int (128 : Int32)), .val (.int (191 : Int32)), .unset, .unset] [])) (fun t kt => XS.icmpNo (g := (mkF m 117 #[.val (.ref r0), .val (.int (0 : Int32)), .val (.int i2), .val (.int (own_v1a0_7 i2 b0 b1 b2 b3 b4)), .unset, .unset, .val (.int (128 : Int32)), .val (.int (191 : Int32)), .unset, .unset] [(.int (244 : Int32)), (.int (own_v1a0_7 i2 b0 b1 b2 b3 b4))])) X0.here hx rfl (hb hby own_d1_117) rfl (Jvm.Free.XT.ii_gt_f hc11) kt) ?_
            refine ownE.go (T' := s₁) (f' := (mkF m 133 #[.val (.ref r0), .val (.int (0 : Int32)), .val (.int i2), .val (.int (own_v1a0_7 i2 b0 b1 b2 b3 b4)), .val (.int (3 : Int32)), .val (.int (own_v1a0_127 i2 b0 b1 b2 b3 b4)), .val (.int (128 : Int32)), .val (.int (191 : Int32)), .unset, .unset] [(.int (240 : Int32)), (.int (own_v1a0_7 i2 b0 b1 b2 b3 b4))])) (fun t kt => ?_) ?_
            · show Steps p.tables e below (s₁.setTop (mkF m 120 #[.val (.ref r0), .val (.int (0 : Int32)), .val (.int i2), .val (.int (own_v1a0_7 i2 b0 b1 b2 b3 b4)), .unset, .unset, .val (.int (128 : Int32)), .val (.int (191 : Int32)), .unset, .unset] [])) _
              refine XS.iconst X0.here hx rfl (hb hby own_d1_120) ?_
              show Steps p.tables e below (s₁.setTop (mkF m 121 #[.val (.ref r0), .val (.int (0 : Int32)), .val (.int i2), .val (.int (own_v1a0_7 i2 b0 b1 b2 b3 b4)), .unset, .unset, .val (.int (128 : Int32)), .val (.int (191 : Int32)), .unset, .unset] [(.int (3 : Int32))])) _
              refine XS.istore X0.here hx rfl (hb hby own_d1_121) rfl (l' := #[.val (.ref r0), .val (.int (0 : Int32)), .val (.int i2), .val (.int (own_v1a0_7 i2 b0 b1 b2 b3 b4)), .val (.int (3 : Int32)), .unset, .val (.int (128 : Int32)), .val (.int (191 : Int32)), .unset, .unset]) rfl ?_
              show Steps p.tables e below (s₁.setTop (mkF m 123 #[.val (.ref r0), .val (.int (0 : Int32)), .val (.int i2), .val (.int (own_v1a0_7 i2 b0 b1 b2 b3 b4)), .val (.int (3 : Int32)), .unset, .val (.int (128 : Int32)), .val (.int (191 : Int32)), .unset, .unset] [])) _
              refine XS.iloadN X0.here hx rfl (hb hby own_d1_123) rfl ?_
              show Steps p.tables e below (s₁.setTop (mkF m 124 #[.val (.ref r0), .val (.int (0 : Int32)), .val (.int i2), .val (.int (own_v1a0_7 i2 b0 b1 b2 b3 b4)), .val (.int (3 : Int32)), .unset, .val (.int (128 : Int32)), .val (.int (191 : Int32)), .unset, .unset] [(.int (own_v1a0_7 i2 b0 b1 b2 b3 b4))])) _
              refine XS.bipush X0.here hx rfl (hb hby own_d1_124) ?_
              show Steps p.tables e below (s₁.setTop (mkF m 126 #[.val (.ref r0), .val (.int (0 : Int32)), .val (.int i2), .val (.int (own_v1a0_7 i2 b0 b1 b2 b3 b4)), .val (.int (3 : Int32)), .unset, .val (.int (128 : Int32)), .val (.int (191 : Int32)), .unset, .unset] [(.int (7 : Int32)), (.int (own_v1a0_7 i2 b0 b1 b2 b3 b4))])) _
              refine XS.iand X0.here hx rfl (hb hby own_d1_126) rfl ?_
              show Steps p.tables e below (s₁.setTop (mkF m 127 #[.val (.ref r0), .val (.int (0 : Int32)), .val (.int i2), .val (.int (own_v1a0_7 i2 b0 b1 b2 b3 b4)), .val (.int (3 : Int32)), .unset, .val (.int (128 : Int32)), .val (.int (191 : Int32)), .unset, .unset] [(.int ((own_v1a0_7 i2 b0 b1 b2 b3 b4) &&& (7 : Int32)))])) _
              refine XS.istore X0.here hx rfl (hb hby own_d1_127) rfl (l' := #[.val (.ref r0), .val (.int (0 : Int32)), .val (.int i2), .val (.int (own_v1a0_7 i2 b0 b1 b2 b3 b4)), .val (.int (3 : Int32)), .val (.int (own_v1a0_127 i2 b0 b1 b2 b3 b4)), .val (.int (128 : Int32)), .val (.int (191 : Int32)), .unset, .unset]) rfl ?_
              show Steps p.tables e below (s₁.setTop (mkF m 129 #[.val (.ref r0), .val (.int (0 : Int32)), .val (.int i2), .val (.int (own_v1a0_7 i2 b0 b1 b2 b3 b4)), .val (.int (3 : Int32)), .val (.int (own_v1a0_127 i2 b0 b1 b2 b3 b4)), .val (.int (128 : Int32)), .val (.int (191 : Int32)), .unset, .unset] [])) _
              refine XS.iloadN X0.here hx rfl (hb hby own_d1_129) rfl ?_
              show Steps p.tables e below (s₁.setTop (mkF m 130 #[.val (.ref r0), .val (.int (0 : Int32)), .val (.int i2), .val (.int (own_v1a0_7 i2 b0 b1 b2 b3 b4)), .val (.int (3 : Int32)), .val (.int (own_v1a0_127 i2 b0 b1 b2 b3 b4)), .val (.int (128 : Int32)), .val (.int (191 : Int32)), .unset, .unset] [(.int (own_v1a0_7 i2 b0 b1 b2 b3 b4))])) _
              refine XS.sipush X0.here hx rfl (hb hby own_d1_130) ?_
              exact kt
            by_cases hc12 : (own_v1a0_7 i2 b0 b1 b2 b3 b4) = (240 : Int32)
            · -- pc 133
              refine ownE.go (T' := s₁) (f' := (mkF m 136 #[.val (.ref r0), .val (.int (0 : Int32)), .val (.int i2), .val (.int (own_v1a0_7 i2 b0 b1 b2 b3 b4)), .val (.int (3 : Int32)), .val (.int (own_v1a0_127 i2 b0 b1 b2 b3 b4)), .val (.int (128 : Int32)), .val (.int (191 : Int32)), .unset, .unset] [])) (fun t kt => XS.icmpNo (g := (mkF m 133 #[.val (.ref r0), .val (.int (0 : Int32)), .val (.int i2), .val (.int (own_v1a0_7 i2 b0 b1 b2 b3 b4)), .val (.int (3 : Int32)), .val (.int (own_v1a0_127 i2 b0 b1 b2 b3 b4)), .val (.int (128 : Int32)), .val (.int (191 : Int32)), .unset, .unset] [(.int (240 : Int32)), (.int (own_v1a0_7 i2 b0 b1 b2 b3 b4))])) X0.here hx rfl (hb hby own_d1_133) rfl (Jvm.Free.XT.ii_ne_f hc12) kt) ?_
              refine ownE.go (T' := s₁) (f' := (mkF m 161 #[.val (.ref r0), .val (.int (0 : Int32)), .val (.int i2), .val (.int (own_v1a0_7 i2 b0 b1 b2 b3 b4)), .val (.int (3 : Int32)), .val (.int (own_v1a0_127 i2 b0 b1 b2 b3 b4)), .val (.int (144 : Int32)), .val (.int (191 : Int32)), .unset, .unset] [])) (fun t kt => ?_) ?_
              · show Steps p.tables e below (s₁.setTop (mkF m 136 #[.val (.ref r0), .val (.int (0 : Int32)), .val (.int i2), .val (.int (own_v1a0_7 i2 b0 b1 b2 b3 b4)), .val (.int (3 : Int32)), .val (.int (own_v1a0_127 i2 b0 b1 b2 b3 b4)), .val (.int (128 : Int32)), .val (.int (191 : Int32)), .unset, .unset] [])) _
                refine XS.sipush X0.here hx rfl (hb hby own_d1_136) ?_
                show Steps p.tables e below (s₁.setTop (mkF m 139 #[.val (.ref r0), .val (.int (0 : Int32)), .val (.int i2), .val (.int (own_v1a0_7 i2 b0 b1 b2 b3 b4)), .val (.int (3 : Int32)), .val (.int (own_v1a0_127 i2 b0 b1 b2 b3 b4)), .val (.int (128 : Int32)), .val (.int (191 : Int32)), .unset, .unset] [(.int (144 : Int32))])) _
                refine XS.istore X0.here hx rfl (hb hby own_d1_139) rfl (l' := #[.val (.ref r0), .val (.int (0 : Int32)), .val (.int i2), .val (.int (own_v1a0_7 i2 b0 b1 b2 b3 b4)), .val (.int (3 : Int32)), .val (.int (own_v1a0_127 i2 b0 b1 b2 b3 b4)), .val (.int (144 : Int32)), .val (.int (191 : Int32)), .unset, .unset]) rfl ?_
                show Steps p.tables e below (s₁.setTop (mkF m 141 #[.val (.ref r0), .val (.int (0 : Int32)), .val (.int i2), .val (.int (own_v1a0_7 i2 b0 b1 b2 b3 b4)), .val (.int (3 : Int32)), .val (.int (own_v1a0_127 i2 b0 b1 b2 b3 b4)), .val (.int (144 : Int32)), .val (.int (191 : Int32)), .unset, .unset] [])) _
                refine XS.goto X0.here hx rfl (pc0 := 141) (pc' := 161) rfl (hb hby own_d1_141) (by decide) (by decide) ?_
                exact kt
              have jj := J16 _ _ X0 e0 N0 (by rw [own_cp0, if_neg hc2, if_neg hc4, if_pos hc7, if_pos hc9, if_neg hc11, if_pos hc12])
              rw [show (own_j1a0_161_L4 i2 b0 b1 b2 b3 b4) = (3 : Int32) from by rw [own_j1a0_161_L4, if_neg hc4, if_pos hc7, if_pos hc9, if_neg hc11, if_pos hc12]] at jj
              rw [show (own_j1a0_161_L5 i2 b0 b1 b2 b3 b4) = (own_v1a0_127 i2 b0 b1 b2 b3 b4) from by rw [own_j1a0_161_L5, if_neg hc4, if_pos hc7, if_pos hc9, if_neg hc11, if_pos hc12]] at jj
              rw [show (own_j1a0_161_L6 i2 b0 b1 b2 b3 b4) = (144 : Int32) from by rw [own_j1a0_161_L6, if_neg hc4, if_pos hc7, if_pos hc9, if_neg hc11, if_pos hc12]] at jj
              rw [show (own_j1a0_161_L7 i2 b0 b1 b2 b3 b4) = (191 : Int32) from by rw [own_j1a0_161_L7, if_neg hc4, if_pos hc7, if_pos hc9, if_neg hc11, if_pos hc12]] at jj
              exact jj
            · -- pc 133
              refine ownE.go (T' := s₁) (f' := (mkF m 144 #[.val (.ref r0), .val (.int (0 : Int32)), .val (.int i2), .val (.int (own_v1a0_7 i2 b0 b1 b2 b3 b4)), .val (.int (3 : Int32)), .val (.int (own_v1a0_127 i2 b0 b1 b2 b3 b4)), .val (.int (128 : Int32)), .val (.int (191 : Int32)), .unset, .unset] [])) (fun t kt => XS.icmpYes (g := (mkF m 133 #[.val (.ref r0), .val (.int (0 : Int32)), .val (.int i2), .val (.int (own_v1a0_7 i2 b0 b1 b2 b3 b4)), .val (.int (3 : Int32)), .val (.int (own_v1a0_127 i2 b0 b1 b2 b3 b4)), .val (.int (128 : Int32)), .val (.int (191 : Int32)), .unset, .unset] [(.int (240 : Int32)), (.int (own_v1a0_7 i2 b0 b1 b2 b3 b4))])) X0.here hx rfl (pc0 := 133) (pc' := 144) rfl (hb hby own_d1_133) rfl (Jvm.Free.XT.ii_ne_t hc12) (by decide) (by decide) kt) ?_
              refine ownE.go (T' := s₁) (f' := (mkF m 148 #[.val (.ref r0), .val (.int (0 : Int32)), .val (.int i2), .val (.int (own_v1a0_7 i2 b0 b1 b2 b3 b4)), .val (.int (3 : Int32)), .val (.int (own_v1a0_127 i2 b0 b1 b2 b3 b4)), .val (.int (128 : Int32)), .val (.int (191 : Int32)), .unset, .unset] [(.int (244 : Int32)), (.int (own_v1a0_7 i2 b0 b1 b2 b3 b4))])) (fun t kt => ?_) ?_
              · show Steps p.tables e below (s₁.setTop (mkF m 144 #[.val (.ref r0), .val (.int (0 : Int32)), .val (.int i2), .val (.int (own_v1a0_7 i2 b0 b1 b2 b3 b4)), .val (.int (3 : Int32)), .val (.int (own_v1a0_127 i2 b0 b1 b2 b3 b4)), .val (.int (128 : Int32)), .val (.int (191 : Int32)), .unset, .unset] [])) _
                refine XS.iloadN X0.here hx rfl (hb hby own_d1_144) rfl ?_
                show Steps p.tables e below (s₁.setTop (mkF m 145 #[.val (.ref r0), .val (.int (0 : Int32)), .val (.int i2), .val (.int (own_v1a0_7 i2 b0 b1 b2 b3 b4)), .val (.int (3 : Int32)), .val (.int (own_v1a0_127 i2 b0 b1 b2 b3 b4)), .val (.int (128 : Int32)), .val (.int (191 : Int32)), .unset, .unset] [(.int (own_v1a0_7 i2 b0 b1 b2 b3 b4))])) _
                refine XS.sipush X0.here hx rfl (hb hby own_d1_145) ?_
                exact kt
              by_cases hc13 : (own_v1a0_7 i2 b0 b1 b2 b3 b4) = (244 : Int32)
              · -- pc 148
                refine ownE.go (T' := s₁) (f' := (mkF m 151 #[.val (.ref r0), .val (.int (0 : Int32)), .val (.int i2), .val (.int (own_v1a0_7 i2 b0 b1 b2 b3 b4)), .val (.int (3 : Int32)), .val (.int (own_v1a0_127 i2 b0 b1 b2 b3 b4)), .val (.int (128 : Int32)), .val (.int (191 : Int32)), .unset, .unset] [])) (fun t kt => XS.icmpNo (g := (mkF m 148 #[.val (.ref r0), .val (.int (0 : Int32)), .val (.int i2), .val (.int (own_v1a0_7 i2 b0 b1 b2 b3 b4)), .val (.int (3 : Int32)), .val (.int (own_v1a0_127 i2 b0 b1 b2 b3 b4)), .val (.int (128 : Int32)), .val (.int (191 : Int32)), .unset, .unset] [(.int (244 : Int32)), (.int (own_v1a0_7 i2 b0 b1 b2 b3 b4))])) X0.here hx rfl (hb hby own_d1_148) rfl (Jvm.Free.XT.ii_ne_f hc13) kt) ?_
                refine ownE.go (T' := s₁) (f' := (mkF m 161 #[.val (.ref r0), .val (.int (0 : Int32)), .val (.int i2), .val (.int (own_v1a0_7 i2 b0 b1 b2 b3 b4)), .val (.int (3 : Int32)), .val (.int (own_v1a0_127 i2 b0 b1 b2 b3 b4)), .val (.int (128 : Int32)), .val (.int (143 : Int32)), .unset, .unset] [])) (fun t kt => ?_) ?_
                · show Steps p.tables e below (s₁.setTop (mkF m 151 #[.val (.ref r0), .val (.int (0 : Int32)), .val (.int i2), .val (.int (own_v1a0_7 i2 b0 b1 b2 b3 b4)), .val (.int (3 : Int32)), .val (.int (own_v1a0_127 i2 b0 b1 b2 b3 b4)), .val (.int (128 : Int32)), .val (.int (191 : Int32)), .unset, .unset] [])) _
                  refine XS.sipush X0.here hx rfl (hb hby own_d1_151) ?_
                  show Steps p.tables e below (s₁.setTop (mkF m 154 #[.val (.ref r0), .val (.int (0 : Int32)), .val (.int i2), .val (.int (own_v1a0_7 i2 b0 b1 b2 b3 b4)), .val (.int (3 : Int32)), .val (.int (own_v1a0_127 i2 b0 b1 b2 b3 b4)), .val (.int (128 : Int32)), .val (.int (191 : Int32)), .unset, .unset] [(.int (143 : Int32))])) _
                  refine XS.istore X0.here hx rfl (hb hby own_d1_154) rfl (l' := #[.val (.ref r0), .val (.int (0 : Int32)), .val (.int i2), .val (.int (own_v1a0_7 i2 b0 b1 b2 b3 b4)), .val (.int (3 : Int32)), .val (.int (own_v1a0_127 i2 b0 b1 b2 b3 b4)), .val (.int (128 : Int32)), .val (.int (143 : Int32)), .unset, .unset]) rfl ?_
                  show Steps p.tables e below (s₁.setTop (mkF m 156 #[.val (.ref r0), .val (.int (0 : Int32)), .val (.int i2), .val (.int (own_v1a0_7 i2 b0 b1 b2 b3 b4)), .val (.int (3 : Int32)), .val (.int (own_v1a0_127 i2 b0 b1 b2 b3 b4)), .val (.int (128 : Int32)), .val (.int (143 : Int32)), .unset, .unset] [])) _
                  refine XS.goto X0.here hx rfl (pc0 := 156) (pc' := 161) rfl (hb hby own_d1_156) (by decide) (by decide) ?_
                  exact kt
                have jj := J16 _ _ X0 e0 N0 (by rw [own_cp0, if_neg hc2, if_neg hc4, if_pos hc7, if_pos hc9, if_neg hc11, if_neg hc12, if_pos hc13])
                rw [show (own_j1a0_161_L4 i2 b0 b1 b2 b3 b4) = (3 : Int32) from by rw [own_j1a0_161_L4, if_neg hc4, if_pos hc7, if_pos hc9, if_neg hc11, if_neg hc12, if_pos hc13]] at jj
                rw [show (own_j1a0_161_L5 i2 b0 b1 b2 b3 b4) = (own_v1a0_127 i2 b0 b1 b2 b3 b4) from by rw [own_j1a0_161_L5, if_neg hc4, if_pos hc7, if_pos hc9, if_neg hc11, if_neg hc12, if_pos hc13]] at jj
                rw [show (own_j1a0_161_L6 i2 b0 b1 b2 b3 b4) = (128 : Int32) from by rw [own_j1a0_161_L6, if_neg hc4, if_pos hc7, if_pos hc9, if_neg hc11, if_neg hc12, if_pos hc13]] at jj
                rw [show (own_j1a0_161_L7 i2 b0 b1 b2 b3 b4) = (143 : Int32) from by rw [own_j1a0_161_L7, if_neg hc4, if_pos hc7, if_pos hc9, if_neg hc11, if_neg hc12, if_pos hc13]] at jj
                exact jj
              · -- pc 148
                refine ownE.go (T' := s₁) (f' := (mkF m 161 #[.val (.ref r0), .val (.int (0 : Int32)), .val (.int i2), .val (.int (own_v1a0_7 i2 b0 b1 b2 b3 b4)), .val (.int (3 : Int32)), .val (.int (own_v1a0_127 i2 b0 b1 b2 b3 b4)), .val (.int (128 : Int32)), .val (.int (191 : Int32)), .unset, .unset] [])) (fun t kt => XS.icmpYes (g := (mkF m 148 #[.val (.ref r0), .val (.int (0 : Int32)), .val (.int i2), .val (.int (own_v1a0_7 i2 b0 b1 b2 b3 b4)), .val (.int (3 : Int32)), .val (.int (own_v1a0_127 i2 b0 b1 b2 b3 b4)), .val (.int (128 : Int32)), .val (.int (191 : Int32)), .unset, .unset] [(.int (244 : Int32)), (.int (own_v1a0_7 i2 b0 b1 b2 b3 b4))])) X0.here hx rfl (pc0 := 148) (pc' := 161) rfl (hb hby own_d1_148) rfl (Jvm.Free.XT.ii_ne_t hc13) (by decide) (by decide) kt) ?_
                have jj := J16 _ _ X0 e0 N0 (by rw [own_cp0, if_neg hc2, if_neg hc4, if_pos hc7, if_pos hc9, if_neg hc11, if_neg hc12, if_neg hc13])
                rw [show (own_j1a0_161_L4 i2 b0 b1 b2 b3 b4) = (3 : Int32) from by rw [own_j1a0_161_L4, if_neg hc4, if_pos hc7, if_pos hc9, if_neg hc11, if_neg hc12, if_neg hc13]] at jj
                rw [show (own_j1a0_161_L5 i2 b0 b1 b2 b3 b4) = (own_v1a0_127 i2 b0 b1 b2 b3 b4) from by rw [own_j1a0_161_L5, if_neg hc4, if_pos hc7, if_pos hc9, if_neg hc11, if_neg hc12, if_neg hc13]] at jj
                rw [show (own_j1a0_161_L6 i2 b0 b1 b2 b3 b4) = (128 : Int32) from by rw [own_j1a0_161_L6, if_neg hc4, if_pos hc7, if_pos hc9, if_neg hc11, if_neg hc12, if_neg hc13]] at jj
                rw [show (own_j1a0_161_L7 i2 b0 b1 b2 b3 b4) = (191 : Int32) from by rw [own_j1a0_161_L7, if_neg hc4, if_pos hc7, if_pos hc9, if_neg hc11, if_neg hc12, if_neg hc13]] at jj
                exact jj
        · -- pc 64
          refine ownE.go (T' := s₁) (f' := (mkF m 67 #[.val (.ref r0), .val (.int (0 : Int32)), .val (.int i2), .val (.int (own_v1a0_7 i2 b0 b1 b2 b3 b4)), .unset, .unset, .val (.int (128 : Int32)), .val (.int (191 : Int32)), .unset, .unset] [])) (fun t kt => XS.icmpNo (g := (mkF m 64 #[.val (.ref r0), .val (.int (0 : Int32)), .val (.int i2), .val (.int (own_v1a0_7 i2 b0 b1 b2 b3 b4)), .unset, .unset, .val (.int (128 : Int32)), .val (.int (191 : Int32)), .unset, .unset] [(.int (239 : Int32)), (.int (own_v1a0_7 i2 b0 b1 b2 b3 b4))])) X0.here hx rfl (hb hby own_d1_64) rfl (Jvm.Free.XT.ii_gt_f hc9) kt) ?_
          refine ownE.go (T' := s₁) (f' := (mkF m 80 #[.val (.ref r0), .val (.int (0 : Int32)), .val (.int i2), .val (.int (own_v1a0_7 i2 b0 b1 b2 b3 b4)), .val (.int (2 : Int32)), .val (.int (own_v1a0_74 i2 b0 b1 b2 b3 b4)), .val (.int (128 : Int32)), .val (.int (191 : Int32)), .unset, .unset] [(.int (224 : Int32)), (.int (own_v1a0_7 i2 b0 b1 b2 b3 b4))])) (fun t kt => ?_) ?_
          · show Steps p.tables e below (s₁.setTop (mkF m 67 #[.val (.ref r0), .val (.int (0 : Int32)), .val (.int i2), .val (.int (own_v1a0_7 i2 b0 b1 b2 b3 b4)), .unset, .unset, .val (.int (128 : Int32)), .val (.int (191 : Int32)), .unset, .unset] [])) _
            refine XS.iconst X0.here hx rfl (hb hby own_d1_67) ?_
            show Steps p.tables e below (s₁.setTop (mkF m 68 #[.val (.ref r0), .val (.int (0 : Int32)), .val (.int i2), .val (.int (own_v1a0_7 i2 b0 b1 b2 b3 b4)), .unset, .unset, .val (.int (128 : Int32)), .val (.int (191 : Int32)), .unset, .unset] [(.int (2 : Int32))])) _
            refine XS.istore X0.here hx rfl (hb hby own_d1_68) rfl (l' := #[.val (.ref r0), .val (.int (0 : Int32)), .val (.int i2), .val (.int (own_v1a0_7 i2 b0 b1 b2 b3 b4)), .val (.int (2 : Int32)), .unset, .val (.int (128 : Int32)), .val (.int (191 : Int32)), .unset, .unset]) rfl ?_
            show Steps p.tables e below (s₁.setTop (mkF m 70 #[.val (.ref r0), .val (.int (0 : Int32)), .val (.int i2), .val (.int (own_v1a0_7 i2 b0 b1 b2 b3 b4)), .val (.int (2 : Int32)), .unset, .val (.int (128 : Int32)), .val (.int (191 : Int32)), .unset, .unset] [])) _
            refine XS.iloadN X0.here hx rfl (hb hby own_d1_70) rfl ?_
            show Steps p.tables e below (s₁.setTop (mkF m 71 #[.val (.ref r0), .val (.int (0 : Int32)), .val (.int i2), .val (.int (own_v1a0_7 i2 b0 b1 b2 b3 b4)), .val (.int (2 : Int32)), .unset, .val (.int (128 : Int32)), .val (.int (191 : Int32)), .unset, .unset] [(.int (own_v1a0_7 i2 b0 b1 b2 b3 b4))])) _
            refine XS.bipush X0.here hx rfl (hb hby own_d1_71) ?_
            show Steps p.tables e below (s₁.setTop (mkF m 73 #[.val (.ref r0), .val (.int (0 : Int32)), .val (.int i2), .val (.int (own_v1a0_7 i2 b0 b1 b2 b3 b4)), .val (.int (2 : Int32)), .unset, .val (.int (128 : Int32)), .val (.int (191 : Int32)), .unset, .unset] [(.int (15 : Int32)), (.int (own_v1a0_7 i2 b0 b1 b2 b3 b4))])) _
            refine XS.iand X0.here hx rfl (hb hby own_d1_73) rfl ?_
            show Steps p.tables e below (s₁.setTop (mkF m 74 #[.val (.ref r0), .val (.int (0 : Int32)), .val (.int i2), .val (.int (own_v1a0_7 i2 b0 b1 b2 b3 b4)), .val (.int (2 : Int32)), .unset, .val (.int (128 : Int32)), .val (.int (191 : Int32)), .unset, .unset] [(.int ((own_v1a0_7 i2 b0 b1 b2 b3 b4) &&& (15 : Int32)))])) _
            refine XS.istore X0.here hx rfl (hb hby own_d1_74) rfl (l' := #[.val (.ref r0), .val (.int (0 : Int32)), .val (.int i2), .val (.int (own_v1a0_7 i2 b0 b1 b2 b3 b4)), .val (.int (2 : Int32)), .val (.int (own_v1a0_74 i2 b0 b1 b2 b3 b4)), .val (.int (128 : Int32)), .val (.int (191 : Int32)), .unset, .unset]) rfl ?_
            show Steps p.tables e below (s₁.setTop (mkF m 76 #[.val (.ref r0), .val (.int (0 : Int32)), .val (.int i2), .val (.int (own_v1a0_7 i2 b0 b1 b2 b3 b4)), .val (.int (2 : Int32)), .val (.int (own_v1a0_74 i2 b0 b1 b2 b3 b4)), .val (.int (128 : Int32)), .val (.int (191 : Int32)), .unset, .unset] [])) _
            refine XS.iloadN X0.here hx rfl (hb hby own_d1_76) rfl ?_
            show Steps p.tables e below (s₁.setTop (mkF m 77 #[.val (.ref r0), .val (.int (0 : Int32)), .val (.int i2), .val (.int (own_v1a0_7 i2 b0 b1 b2 b3 b4)), .val (.int (2 : Int32)), .val (.int (own_v1a0_74 i2 b0 b1 b2 b3 b4)), .val (.int (128 : Int32)), .val (.int (191 : Int32)), .unset, .unset] [(.int (own_v1a0_7 i2 b0 b1 b2 b3 b4))])) _
            refine XS.sipush X0.here hx rfl (hb hby own_d1_77) ?_
            exact kt
          by_cases hc14 : (own_v1a0_7 i2 b0 b1 b2 b3 b4) = (224 : Int32)
          · -- pc 80
            refine ownE.go (T' := s₁) (f' := (mkF m 83 #[.val (.ref r0), .val (.int (0 : Int32)), .val (.int i2), .val (.int (own_v1a0_7 i2 b0 b1 b2 b3 b4)), .val (.int (2 : Int32)), .val (.int (own_v1a0_74 i2 b0 b1 b2 b3 b4)), .val (.int (128 : Int32)), .val (.int (191 : Int32)), .unset, .unset] [])) (fun t kt => XS.icmpNo (g := (mkF m 80 #[.val (.ref r0), .val (.int (0 : Int32)), .val (.int i2), .val (.int (own_v1a0_7 i2 b0 b1 b2 b3 b4)), .val (.int (2 : Int32)), .val (.int (own_v1a0_74 i2 b0 b1 b2 b3 b4)), .val (.int (128 : Int32)), .val (.int (191 : Int32)), .unset, .unset] [(.int (224 : Int32)), (.int (own_v1a0_7 i2 b0 b1 b2 b3 b4))])) X0.here hx rfl (hb hby own_d1_80) rfl (Jvm.Free.XT.ii_ne_f hc14) kt) ?_
            refine ownE.go (T' := s₁) (f' := (mkF m 161 #[.val (.ref r0), .val (.int (0 : Int32)), .val (.int i2), .val (.int (own_v1a0_7 i2 b0 b1 b2 b3 b4)), .val (.int (2 : Int32)), .val (.int (own_v1a0_74 i2 b0 b1 b2 b3 b4)), .val (.int (160 : Int32)), .val (.int (191 : Int32)), .unset, .unset] [])) (fun t kt => ?_) ?_
            · show Steps p.tables e below (s₁.setTop (mkF m 83 #[.val (.ref r0), .val (.int (0 : Int32)), .val (.int i2), .val (.int (own_v1a0_7 i2 b0 b1 b2 b3 b4)), .val (.int (2 : Int32)), .val (.int (own_v1a0_74 i2 b0 b1 b2 b3 b4)), .val (.int (128 : Int32)), .val (.int (191 : Int32)), .unset, .unset] [])) _
              refine XS.sipush X0.here hx rfl (hb hby own_d1_83) ?_
              show Steps p.tables e below (s₁.setTop (mkF m 86 #[.val (.ref r0), .val (.int (0 : Int32)), .val (.int i2), .val (.int (own_v1a0_7 i2 b0 b1 b2 b3 b4)), .val (.int (2 : Int32)), .val (.int (own_v1a0_74 i2 b0 b1 b2 b3 b4)), .val (.int (128 : Int32)), .val (.int (191 : Int32)), .unset, .unset] [(.int (160 : Int32))])) _
              refine XS.istore X0.here hx rfl (hb hby own_d1_86) rfl (l' := #[.val (.ref r0), .val (.int (0 : Int32)), .val (.int i2), .val (.int (own_v1a0_7 i2 b0 b1 b2 b3 b4)), .val (.int (2 : Int32)), .val (.int (own_v1a0_74 i2 b0 b1 b2 b3 b4)), .val (.int (160 : Int32)), .val (.int (191 : Int32)), .unset, .unset]) rfl ?_
              show Steps p.tables e below (s₁.setTop (mkF m 88 #[.val (.ref r0), .val (.int (0 : Int32)), .val (.int i2), .val (.int (own_v1a0_7 i2 b0 b1 b2 b3 b4)), .val (.int (2 : Int32)), .val (.int (own_v1a0_74 i2 b0 b1 b2 b3 b4)), .val (.int (160 : Int32)), .val (.int (191 : Int32)), .unset, .unset] [])) _
              refine XS.goto X0.here hx rfl (pc0 := 88) (pc' := 161) rfl (hb hby own_d1_88) (by decide) (by decide) ?_
              exact kt
            have jj := J16 _ _ X0 e0 N0 (by rw [own_cp0, if_neg hc2, if_neg hc4, if_pos hc7, if_neg hc9, if_pos hc14])
            rw [show (own_j1a0_161_L4 i2 b0 b1 b2 b3 b4) = (2 : Int32) from by rw [own_j1a0_161_L4, if_neg hc4, if_pos hc7, if_neg hc9, if_pos hc14]] at jj
            rw [show (own_j1a0_161_L5 i2 b0 b1 b2 b3 b4) = (own_v1a0_74 i2 b0 b1 b2 b3 b4) from by rw [own_j1a0_161_L5, if_neg hc4, if_pos hc7, if_neg hc9, if_pos hc14]] at jj
            rw [show (own_j1a0_161_L6 i2 b0 b1 b2 b3 b4) = (160 : Int32) from by rw [own_j1a0_161_L6, if_neg hc4, if_pos hc7, if_neg hc9, if_pos hc14]] at jj
            rw [show (own_j1a0_161_L7 i2 b0 b1 b2 b3 b4) = (191 : Int32) from by rw [own_j1a0_161_L7, if_neg hc4, if_pos hc7, if_neg hc9, if_pos hc14]] at jj
            exact jj
          · -- pc 80
            refine ownE.go (T' := s₁) (f' := (mkF m 91 #[.val (.ref r0), .val (.int (0 : Int32)), .val (.int i2), .val (.int (own_v1a0_7 i2 b0 b1 b2 b3 b4)), .val (.int (2 : Int32)), .val (.int (own_v1a0_74 i2 b0 b1 b2 b3 b4)), .val (.int (128 : Int32)), .val (.int (191 : Int32)), .unset, .unset] [])) (fun t kt => XS.icmpYes (g := (mkF m 80 #[.val (.ref r0), .val (.int (0 : Int32)), .val (.int i2), .val (.int (own_v1a0_7 i2 b0 b1 b2 b3 b4)), .val (.int (2 : Int32)), .val (.int (own_v1a0_74 i2 b0 b1 b2 b3 b4)), .val (.int (128 : Int32)), .val (.int (191 : Int32)), .unset, .unset] [(.int (224 : Int32)), (.int (own_v1a0_7 i2 b0 b1 b2 b3 b4))])) X0.here hx rfl (pc0 := 80) (pc' := 91) rfl (hb hby own_d1_80) rfl (Jvm.Free.XT.ii_ne_t hc14) (by decide) (by decide) kt) ?_
            refine ownE.go (T' := s₁) (f' := (mkF m 95 #[.val (.ref r0), .val (.int (0 : Int32)), .val (.int i2), .val (.int (own_v1a0_7 i2 b0 b1 b2 b3 b4)), .val (.int (2 : Int32)), .val (.int (own_v1a0_74 i2 b0 b1 b2 b3 b4)), .val (.int (128 : Int32)), .val (.int (191 : Int32)), .unset, .unset] [(.int (237 : Int32)), (.int (own_v1a0_7 i2 b0 b1 b2 b3 b4))])) (fun t kt => ?_) ?_
            · show Steps p.tables e below (s₁.setTop (mkF m 91 #[.val (.ref r0), .val (.int (0 : Int32)), .val (.int i2), .val (.int (own_v1a0_7 i2 b0 b1 b2 b3 b4)), .val (.int (2 : Int32)), .val (.int (own_v1a0_74 i2 b0 b1 b2 b3 b4)), .val (.int (128 : Int32)), .val (.int (191 : Int32)), .unset, .unset] [])) _
              refine XS.iloadN X0.here hx rfl (hb hby own_d1_91) rfl ?_
              show Steps p.tables e below (s₁.setTop (mkF m 92 #[.val (.ref r0), .val (.int (0 : Int32)), .val (.int i2), .val (.int (own_v1a0_7 i2 b0 b1 b2 b3 b4)), .val (.int (2 : Int32)), .val (.int (own_v1a0_74 i2 b0 b1 b2 b3 b4)), .val (.int (128 : Int32)), .val (.int (191 : Int32)), .unset, .unset] [(.int (own_v1a0_7 i2 b0 b1 b2 b3 b4))])) _
              refine XS.sipush X0.here hx rfl (hb hby own_d1_92) ?_
              exact kt
            by_cases hc15 : (own_v1a0_7 i2 b0 b1 b2 b3 b4) = (237 : Int32)
            · -- pc 95
              refine ownE.go (T' := s₁) (f' := (mkF m 98 #[.val (.ref r0), .val (.int (0 : Int32)), .val (.int i2), .val (.int (own_v1a0_7 i2 b0 b1 b2 b3 b4)), .val (.int (2 : Int32)), .val (.int (own_v1a0_74 i2 b0 b1 b2 b3 b4)), .val (.int (128 : Int32)), .val (.int (191 : Int32)), .unset, .unset] [])) (fun t kt => XS.icmpNo (g := (mkF m 95 #[.val (.ref r0), .val (.int (0 : Int32)), .val (.int i2), .val (.int (own_v1a0_7 i2 b0 b1 b2 b3 b4)), .val (.int (2 : Int32)), .val (.int (own_v1a0_74 i2 b0 b1 b2 b3 b4)), .val (.int (128 : Int32)), .val (.int (191 : Int32)), .unset, .unset] [(.int (237 : Int32)), (.int (own_v1a0_7 i2 b0 b1 b2 b3 b4))])) X0.here hx rfl (hb hby own_d1_95) rfl (Jvm.Free.XT.ii_ne_f hc15) kt) ?_
              refine ownE.go (T' := s₁) (f' := (mkF m 161 #[.val (.ref r0), .val (.int (0 : Int32)), .val (.int i2), .val (.int (own_v1a0_7 i2 b0 b1 b2 b3 b4)), .val (.int (2 : Int32)), .val (.int (own_v1a0_74 i2 b0 b1 b2 b3 b4)), .val (.int (128 : Int32)), .val (.int (159 : Int32)), .unset, .unset] [])) (fun t kt => ?_) ?_
              · show Steps p.tables e below (s₁.setTop (mkF m 98 #[.val (.ref r0), .val (.int (0 : Int32)), .val (.int i2), .val (.int (own_v1a0_7 i2 b0 b1 b2 b3 b4)), .val (.int (2 : Int32)), .val (.int (own_v1a0_74 i2 b0 b1 b2 b3 b4)), .val (.int (128 : Int32)), .val (.int (191 : Int32)), .unset, .unset] [])) _
                refine XS.sipush X0.here hx rfl (hb hby own_d1_98) ?_
                show Steps p.tables e below (s₁.setTop (mkF m 101 #[.val (.ref r0), .val (.int (0 : Int32)), .val (.int i2), .val (.int (own_v1a0_7 i2 b0 b1 b2 b3 b4)), .val (.int (2 : Int32)), .val (.int (own_v1a0_74 i2 b0 b1 b2 b3 b4)), .val (.int (128 : Int32)), .val (.int (191 : Int32)), .unset, .unset] [(.int (159 : Int32))])) _
                refine XS.istore X0.here hx rfl (hb hby own_d1_101) rfl (l' := #[.val (.ref r0), .val (.int (0 : Int32)), .val (.int i2), .val (.int (own_v1a0_7 i2 b0 b1 b2 b3 b4)), .val (.int (2 : Int32)), .val (.int (own_v1a0_74 i2 b0 b1 b2 b3 b4)), .val (.int (128 : Int32)), .val (.int (159 : Int32)), .unset, .unset]) rfl ?_
                show Steps p.tables e below (s₁.setTop (mkF m 103 #[.val (.ref r0), .val (.int (0 : Int32)), .val (.int i2), .val (.int (own_v1a0_7 i2 b0 b1 b2 b3 b4)), .val (.int (2 : Int32)), .val (.int (own_v1a0_74 i2 b0 b1 b2 b3 b4)), .val (.int (128 : Int32)), .val (.int (159 : Int32)), .unset, .unset] [])) _
                refine XS.goto X0.here hx rfl (pc0 := 103) (pc' := 161) rfl (hb hby own_d1_103) (by decide) (by decide) ?_
                exact kt
              have jj := J16 _ _ X0 e0 N0 (by rw [own_cp0, if_neg hc2, if_neg hc4, if_pos hc7, if_neg hc9, if_neg hc14, if_pos hc15])
              rw [show (own_j1a0_161_L4 i2 b0 b1 b2 b3 b4) = (2 : Int32) from by rw [own_j1a0_161_L4, if_neg hc4, if_pos hc7, if_neg hc9, if_neg hc14, if_pos hc15]] at jj
              rw [show (own_j1a0_161_L5 i2 b0 b1 b2 b3 b4) = (own_v1a0_74 i2 b0 b1 b2 b3 b4) from by rw [own_j1a0_161_L5, if_neg hc4, if_pos hc7, if_neg hc9, if_neg hc14, if_pos hc15]] at jj
              rw [show (own_j1a0_161_L6 i2 b0 b1 b2 b3 b4) = (128 : Int32) from by rw [own_j1a0_161_L6, if_neg hc4, if_pos hc7, if_neg hc9, if_neg hc14, if_pos hc15]] at jj
              rw [show (own_j1a0_161_L7 i2 b0 b1 b2 b3 b4) = (159 : Int32) from by rw [own_j1a0_161_L7, if_neg hc4, if_pos hc7, if_neg hc9, if_neg hc14, if_pos hc15]] at jj
              exact jj
            · -- pc 95
              refine ownE.go (T' := s₁) (f' := (mkF m 161 #[.val (.ref r0), .val (.int (0 : Int32)), .val (.int i2), .val (.int (own_v1a0_7 i2 b0 b1 b2 b3 b4)), .val (.int (2 : Int32)), .val (.int (own_v1a0_74 i2 b0 b1 b2 b3 b4)), .val (.int (128 : Int32)), .val (.int (191 : Int32)), .unset, .unset] [])) (fun t kt => XS.icmpYes (g := (mkF m 95 #[.val (.ref r0), .val (.int (0 : Int32)), .val (.int i2), .val (.int (own_v1a0_7 i2 b0 b1 b2 b3 b4)), .val (.int (2 : Int32)), .val (.int (own_v1a0_74 i2 b0 b1 b2 b3 b4)), .val (.int (128 : Int32)), .val (.int (191 : Int32)), .unset, .unset] [(.int (237 : Int32)), (.int (own_v1a0_7 i2 b0 b1 b2 b3 b4))])) X0.here hx rfl (pc0 := 95) (pc' := 161) rfl (hb hby own_d1_95) rfl (Jvm.Free.XT.ii_ne_t hc15) (by decide) (by decide) kt) ?_
              have jj := J16 _ _ X0 e0 N0 (by rw [own_cp0, if_neg hc2, if_neg hc4, if_pos hc7, if_neg hc9, if_neg hc14, if_neg hc15])
              rw [show (own_j1a0_161_L4 i2 b0 b1 b2 b3 b4) = (2 : Int32) from by rw [own_j1a0_161_L4, if_neg hc4, if_pos hc7, if_neg hc9, if_neg hc14, if_neg hc15]] at jj
              rw [show (own_j1a0_161_L5 i2 b0 b1 b2 b3 b4) = (own_v1a0_74 i2 b0 b1 b2 b3 b4) from by rw [own_j1a0_161_L5, if_neg hc4, if_pos hc7, if_neg hc9, if_neg hc14, if_neg hc15]] at jj
              rw [show (own_j1a0_161_L6 i2 b0 b1 b2 b3 b4) = (128 : Int32) from by rw [own_j1a0_161_L6, if_neg hc4, if_pos hc7, if_neg hc9, if_neg hc14, if_neg hc15]] at jj
              rw [show (own_j1a0_161_L7 i2 b0 b1 b2 b3 b4) = (191 : Int32) from by rw [own_j1a0_161_L7, if_neg hc4, if_pos hc7, if_neg hc9, if_neg hc14, if_neg hc15]] at jj
              exact jj
      · -- pc 38
        refine ownE.go (T' := s₁) (f' := (mkF m 41 #[.val (.ref r0), .val (.int (0 : Int32)), .val (.int i2), .val (.int (own_v1a0_7 i2 b0 b1 b2 b3 b4)), .unset, .unset, .val (.int (128 : Int32)), .val (.int (191 : Int32)), .unset, .unset] [])) (fun t kt => XS.icmpNo (g := (mkF m 38 #[.val (.ref r0), .val (.int (0 : Int32)), .val (.int i2), .val (.int (own_v1a0_7 i2 b0 b1 b2 b3 b4)), .unset, .unset, .val (.int (128 : Int32)), .val (.int (191 : Int32)), .unset, .unset] [(.int (223 : Int32)), (.int (own_v1a0_7 i2 b0 b1 b2 b3 b4))])) X0.here hx rfl (hb hby own_d1_38) rfl (Jvm.Free.XT.ii_gt_f hc7) kt) ?_
        refine ownE.go (T' := s₁) (f' := (mkF m 161 #[.val (.ref r0), .val (.int (0 : Int32)), .val (.int i2), .val (.int (own_v1a0_7 i2 b0 b1 b2 b3 b4)), .val (.int (1 : Int32)), .val (.int (own_v1a0_48 i2 b0 b1 b2 b3 b4)), .val (.int (128 : Int32)), .val (.int (191 : Int32)), .unset, .unset] [])) (fun t kt => ?_) ?_
        · show Steps p.tables e below (s₁.setTop (mkF m 41 #[.val (.ref r0), .val (.int (0 : Int32)), .val (.int i2), .val (.int (own_v1a0_7 i2 b0 b1 b2 b3 b4)), .unset, .unset, .val (.int (128 : Int32)), .val (.int (191 : Int32)), .unset, .unset] [])) _
          refine XS.iconst X0.here hx rfl (hb hby own_d1_41) ?_
          show Steps p.tables e below (s₁.setTop (mkF m 42 #[.val (.ref r0), .val (.int (0 : Int32)), .val (.int i2), .val (.int (own_v1a0_7 i2 b0 b1 b2 b3 b4)), .unset, .unset, .val (.int (128 : Int32)), .val (.int (191 : Int32)), .unset, .unset] [(.int (1 : Int32))])) _
          refine XS.istore X0.here hx rfl (hb hby own_d1_42) rfl (l' := #[.val (.ref r0), .val (.int (0 : Int32)), .val (.int i2), .val (.int (own_v1a0_7 i2 b0 b1 b2 b3 b4)), .val (.int (1 : Int32)), .unset, .val (.int (128 : Int32)), .val (.int (191 : Int32)), .unset, .unset]) rfl ?_
          show Steps p.tables e below (s₁.setTop (mkF m 44 #[.val (.ref r0), .val (.int (0 : Int32)), .val (.int i2), .val (.int (own_v1a0_7 i2 b0 b1 b2 b3 b4)), .val (.int (1 : Int32)), .unset, .val (.int (128 : Int32)), .val (.int (191 : Int32)), .unset, .unset] [])) _
          refine XS.iloadN X0.here hx rfl (hb hby own_d1_44) rfl ?_
          show Steps p.tables e below (s₁.setTop (mkF m 45 #[.val (.ref r0), .val (.int (0 : Int32)), .val (.int i2), .val (.int (own_v1a0_7 i2 b0 b1 b2 b3 b4)), .val (.int (1 : Int32)), .unset, .val (.int (128 : Int32)), .val (.int (191 : Int32)), .unset, .unset] [(.int (own_v1a0_7 i2 b0 b1 b2 b3 b4))])) _
          refine XS.bipush X0.here hx rfl (hb hby own_d1_45) ?_
          show Steps p.tables e below (s₁.setTop (mkF m 47 #[.val (.ref r0), .val (.int (0 : Int32)), .val (.int i2), .val (.int (own_v1a0_7 i2 b0 b1 b2 b3 b4)), .val (.int (1 : Int32)), .unset, .val (.int (128 : Int32)), .val (.int (191 : Int32)), .unset, .unset] [(.int (31 : Int32)), (.int (own_v1a0_7 i2 b0 b1 b2 b3 b4))])) _
          refine XS.iand X0.here hx rfl (hb hby own_d1_47) rfl ?_
          show Steps p.tables e below (s₁.setTop (mkF m 48 #[.val (.ref r0), .val (.int (0 : Int32)), .val (.int i2), .val (.int (own_v1a0_7 i2 b0 b1 b2 b3 b4)), .val (.int (1 : Int32)), .unset, .val (.int (128 : Int32)), .val (.int (191 : Int32)), .unset, .unset] [(.int ((own_v1a0_7 i2 b0 b1 b2 b3 b4) &&& (31 : Int32)))])) _
          refine XS.istore X0.here hx rfl (hb hby own_d1_48) rfl (l' := #[.val (.ref r0), .val (.int (0 : Int32)), .val (.int i2), .val (.int (own_v1a0_7 i2 b0 b1 b2 b3 b4)), .val (.int (1 : Int32)), .val (.int (own_v1a0_48 i2 b0 b1 b2 b3 b4)), .val (.int (128 : Int32)), .val (.int (191 : Int32)), .unset, .unset]) rfl ?_
          show Steps p.tables e below (s₁.setTop (mkF m 50 #[.val (.ref r0), .val (.int (0 : Int32)), .val (.int i2), .val (.int (own_v1a0_7 i2 b0 b1 b2 b3 b4)), .val (.int (1 : Int32)), .val (.int (own_v1a0_48 i2 b0 b1 b2 b3 b4)), .val (.int (128 : Int32)), .val (.int (191 : Int32)), .unset, .unset] [])) _
          refine XS.goto X0.here hx rfl (pc0 := 50) (pc' := 161) rfl (hb hby own_d1_50) (by decide) (by decide) ?_
          exact kt
        have jj := J16 _ _ X0 e0 N0 (by rw [own_cp0, if_neg hc2, if_neg hc4, if_neg hc7])
        rw [show (own_j1a0_161_L4 i2 b0 b1 b2 b3 b4) = (1 : Int32) from by rw [own_j1a0_161_L4, if_neg hc4, if_neg hc7]] at jj
        rw [show (own_j1a0_161_L5 i2 b0 b1 b2 b3 b4) = (own_v1a0_48 i2 b0 b1 b2 b3 b4) from by rw [own_j1a0_161_L5, if_neg hc4, if_neg hc7]] at jj
        rw [show (own_j1a0_161_L6 i2 b0 b1 b2 b3 b4) = (128 : Int32) from by rw [own_j1a0_161_L6, if_neg hc4, if_neg hc7]] at jj
        rw [show (own_j1a0_161_L7 i2 b0 b1 b2 b3 b4) = (191 : Int32) from by rw [own_j1a0_161_L7, if_neg hc4, if_neg hc7]] at jj
        exact jj
def own_v1a1_7 (i2 : Int32) (b0 : Int32) (b1 : Int32) (b2 : Int32) (b3 : Int32) (b4 : Int32) : Int32 := (b1 &&& (255 : Int32))
def own_v1a1_127 (i2 : Int32) (b0 : Int32) (b1 : Int32) (b2 : Int32) (b3 : Int32) (b4 : Int32) : Int32 := ((own_v1a1_7 i2 b0 b1 b2 b3 b4) &&& (7 : Int32))
def own_v1a1_74 (i2 : Int32) (b0 : Int32) (b1 : Int32) (b2 : Int32) (b3 : Int32) (b4 : Int32) : Int32 := ((own_v1a1_7 i2 b0 b1 b2 b3 b4) &&& (15 : Int32))
def own_v1a1_48 (i2 : Int32) (b0 : Int32) (b1 : Int32) (b2 : Int32) (b3 : Int32) (b4 : Int32) : Int32 := ((own_v1a1_7 i2 b0 b1 b2 b3 b4) &&& (31 : Int32))
def own_j1a1_161_L4 (i2 : Int32) (b0 : Int32) (b1 : Int32) (b2 : Int32) (b3 : Int32) (b4 : Int32) : Int32 :=
  if (own_v1a1_7 i2 b0 b1 b2 b3 b4) < (194 : Int32) then
    (3 : Int32)
  else
    if (223 : Int32) < (own_v1a1_7 i2 b0 b1 b2 b3 b4) then
      if (239 : Int32) < (own_v1a1_7 i2 b0 b1 b2 b3 b4) then
        if (244 : Int32) < (own_v1a1_7 i2 b0 b1 b2 b3 b4) then
          (3 : Int32)
        else
          if (own_v1a1_7 i2 b0 b1 b2 b3 b4) = (240 : Int32) then
            (3 : Int32)
          else
            if (own_v1a1_7 i2 b0 b1 b2 b3 b4) = (244 : Int32) then
              (3 : Int32)
            else
              (3 : Int32)
      else
        if (own_v1a1_7 i2 b0 b1 b2 b3 b4) = (224 : Int32) then
          (2 : Int32)
        else
          if (own_v1a1_7 i2 b0 b1 b2 b3 b4) = (237 : Int32) then
            (2 : Int32)
          else
            (2 : Int32)
    else
      (1 : Int32)
def own_j1a1_161_L5 (i2 : Int32) (b0 : Int32) (b1 : Int32) (b2 : Int32) (b3 : Int32) (b4 : Int32) : Int32 :=
  if (own_v1a1_7 i2 b0 b1 b2 b3 b4) < (194 : Int32) then
    (own_v1a1_127 i2 b0 b1 b2 b3 b4)
  else
    if (223 : Int32) < (own_v1a1_7 i2 b0 b1 b2 b3 b4) then
      if (239 : Int32) < (own_v1a1_7 i2 b0 b1 b2 b3 b4) then
        if (244 : Int32) < (own_v1a1_7 i2 b0 b1 b2 b3 b4) then
          (own_v1a1_127 i2 b0 b1 b2 b3 b4)
        else
          if (own_v1a1_7 i2 b0 b1 b2 b3 b4) = (240 : Int32) then
            (own_v1a1_127 i2 b0 b1 b2 b3 b4)
          else
            if (own_v1a1_7 i2 b0 b1 b2 b3 b4) = (244 : Int32) then
              (own_v1a1_127 i2 b0 b1 b2 b3 b4)
            else
              (own_v1a1_127 i2 b0 b1 b2 b3 b4)
      else
        if (own_v1a1_7 i2 b0 b1 b2 b3 b4) = (224 : Int32) then
          (own_v1a1_74 i2 b0 b1 b2 b3 b4)
        else
          if (own_v1a1_7 i2 b0 b1 b2 b3 b4) = (237 : Int32) then
            (own_v1a1_74 i2 b0 b1 b2 b3 b4)
          else
            (own_v1a1_74 i2 b0 b1 b2 b3 b4)
    else
      (own_v1a1_48 i2 b0 b1 b2 b3 b4)
def own_j1a1_161_L6 (i2 : Int32) (b0 : Int32) (b1 : Int32) (b2 : Int32) (b3 : Int32) (b4 : Int32) : Int32 :=
  if (own_v1a1_7 i2 b0 b1 b2 b3 b4) < (194 : Int32) then
    (144 : Int32)
  else
    if (223 : Int32) < (own_v1a1_7 i2 b0 b1 b2 b3 b4) then
      if (239 : Int32) < (own_v1a1_7 i2 b0 b1 b2 b3 b4) then
        if (244 : Int32) < (own_v1a1_7 i2 b0 b1 b2 b3 b4) then
          (144 : Int32)
        else
          if (own_v1a1_7 i2 b0 b1 b2 b3 b4) = (240 : Int32) then
            (144 : Int32)
          else
            if (own_v1a1_7 i2 b0 b1 b2 b3 b4) = (244 : Int32) then
              (128 : Int32)
            else
              (128 : Int32)
      else
        if (own_v1a1_7 i2 b0 b1 b2 b3 b4) = (224 : Int32) then
          (160 : Int32)
        else
          if (own_v1a1_7 i2 b0 b1 b2 b3 b4) = (237 : Int32) then
            (128 : Int32)
          else
            (128 : Int32)
    else
      (128 : Int32)
def own_j1a1_161_L7 (i2 : Int32) (b0 : Int32) (b1 : Int32) (b2 : Int32) (b3 : Int32) (b4 : Int32) : Int32 :=
  if (own_v1a1_7 i2 b0 b1 b2 b3 b4) < (194 : Int32) then
    (191 : Int32)
  else
    if (223 : Int32) < (own_v1a1_7 i2 b0 b1 b2 b3 b4) then
      if (239 : Int32) < (own_v1a1_7 i2 b0 b1 b2 b3 b4) then
        if (244 : Int32) < (own_v1a1_7 i2 b0 b1 b2 b3 b4) then
          (191 : Int32)
        else
          if (own_v1a1_7 i2 b0 b1 b2 b3 b4) = (240 : Int32) then
            (191 : Int32)
          else
            if (own_v1a1_7 i2 b0 b1 b2 b3 b4) = (244 : Int32) then
              (143 : Int32)
            else
              (191 : Int32)
      else
        if (own_v1a1_7 i2 b0 b1 b2 b3 b4) = (224 : Int32) then
          (191 : Int32)
        else
          if (own_v1a1_7 i2 b0 b1 b2 b3 b4) = (237 : Int32) then
            (159 : Int32)
          else
            (191 : Int32)
    else
      (191 : Int32)
theorem own_l4_2 (i2 : Int32) (b0 : Int32) (b1 : Int32) (b2 : Int32) (b3 : Int32) (b4 : Int32) : (own_j1a1_161_L4 i2 b0 b1 b2 b3 b4) = 1 ∨ (own_j1a1_161_L4 i2 b0 b1 b2 b3 b4) = 2 ∨ (own_j1a1_161_L4 i2 b0 b1 b2 b3 b4) = 3 := by
  unfold own_j1a1_161_L4
  repeat' split
  all_goals decide
def own_v1a1_191 (i2 : Int32) (b0 : Int32) (b1 : Int32) (b2 : Int32) (b3 : Int32) (b4 : Int32) : Int32 := (b2 &&& (255 : Int32))
def own_v1a1_220 (i2 : Int32) (b0 : Int32) (b1 : Int32) (b2 : Int32) (b3 : Int32) (b4 : Int32) : Int32 := (((own_j1a1_161_L5 i2 b0 b1 b2 b3 b4) <<< ((6 : Int32) &&& 31)) ||| ((own_v1a1_191 i2 b0 b1 b2 b3 b4) &&& (63 : Int32)))
def own_v1a1_191_2 (i2 : Int32) (b0 : Int32) (b1 : Int32) (b2 : Int32) (b3 : Int32) (b4 : Int32) : Int32 := (b2 &&& (255 : Int32))
def own_v1a1_220_2 (i2 : Int32) (b0 : Int32) (b1 : Int32) (b2 : Int32) (b3 : Int32) (b4 : Int32) : Int32 := (((own_j1a1_161_L5 i2 b0 b1 b2 b3 b4) <<< ((6 : Int32) &&& 31)) ||| ((own_v1a1_191_2 i2 b0 b1 b2 b3 b4) &&& (63 : Int32)))
def own_v1a1_191_3 (i2 : Int32) (b0 : Int32) (b1 : Int32) (b2 : Int32) (b3 : Int32) (b4 : Int32) : Int32 := (b3 &&& (255 : Int32))
def own_v1a1_220_3 (i2 : Int32) (b0 : Int32) (b1 : Int32) (b2 : Int32) (b3 : Int32) (b4 : Int32) : Int32 := (((own_v1a1_220_2 i2 b0 b1 b2 b3 b4) <<< ((6 : Int32) &&& 31)) ||| ((own_v1a1_191_3 i2 b0 b1 b2 b3 b4) &&& (63 : Int32)))
def own_v1a1_191_4 (i2 : Int32) (b0 : Int32) (b1 : Int32) (b2 : Int32) (b3 : Int32) (b4 : Int32) : Int32 := (b2 &&& (255 : Int32))
def own_v1a1_220_4 (i2 : Int32) (b0 : Int32) (b1 : Int32) (b2 : Int32) (b3 : Int32) (b4 : Int32) : Int32 := (((own_j1a1_161_L5 i2 b0 b1 b2 b3 b4) <<< ((6 : Int32) &&& 31)) ||| ((own_v1a1_191_4 i2 b0 b1 b2 b3 b4) &&& (63 : Int32)))
def own_v1a1_191_5 (i2 : Int32) (b0 : Int32) (b1 : Int32) (b2 : Int32) (b3 : Int32) (b4 : Int32) : Int32 := (b3 &&& (255 : Int32))
def own_v1a1_220_5 (i2 : Int32) (b0 : Int32) (b1 : Int32) (b2 : Int32) (b3 : Int32) (b4 : Int32) : Int32 := (((own_v1a1_220_4 i2 b0 b1 b2 b3 b4) <<< ((6 : Int32) &&& 31)) ||| ((own_v1a1_191_5 i2 b0 b1 b2 b3 b4) &&& (63 : Int32)))
def own_v1a1_191_6 (i2 : Int32) (b0 : Int32) (b1 : Int32) (b2 : Int32) (b3 : Int32) (b4 : Int32) : Int32 := (b4 &&& (255 : Int32))
def own_v1a1_220_6 (i2 : Int32) (b0 : Int32) (b1 : Int32) (b2 : Int32) (b3 : Int32) (b4 : Int32) : Int32 := (((own_v1a1_220_5 i2 b0 b1 b2 b3 b4) <<< ((6 : Int32) &&& 31)) ||| ((own_v1a1_191_6 i2 b0 b1 b2 b3 b4) &&& (63 : Int32)))
def own_r1a1_161 (i2 : Int32) (b0 : Int32) (b1 : Int32) (b2 : Int32) (b3 : Int32) (b4 : Int32) : Int32 :=
  if (own_j1a1_161_L4 i2 b0 b1 b2 b3 b4) < (i2 - (1 : Int32)) then
    if (own_j1a1_161_L4 i2 b0 b1 b2 b3 b4) = (1 : Int32) then
      if (own_v1a1_191 i2 b0 b1 b2 b3 b4) < (own_j1a1_161_L6 i2 b0 b1 b2 b3 b4) then
        (-1 : Int32)
      else
        if (own_j1a1_161_L7 i2 b0 b1 b2 b3 b4) < (own_v1a1_191 i2 b0 b1 b2 b3 b4) then
          (-1 : Int32)
        else
          (own_v1a1_220 i2 b0 b1 b2 b3 b4)
    else
      if (own_j1a1_161_L4 i2 b0 b1 b2 b3 b4) = (2 : Int32) then
        if (own_v1a1_191_2 i2 b0 b1 b2 b3 b4) < (own_j1a1_161_L6 i2 b0 b1 b2 b3 b4) then
          (-1 : Int32)
        else
          if (own_j1a1_161_L7 i2 b0 b1 b2 b3 b4) < (own_v1a1_191_2 i2 b0 b1 b2 b3 b4) then
            (-1 : Int32)
          else
            if (own_v1a1_191_3 i2 b0 b1 b2 b3 b4) < (128 : Int32) then
              (-1 : Int32)
            else
              if (191 : Int32) < (own_v1a1_191_3 i2 b0 b1 b2 b3 b4) then
                (-1 : Int32)
              else
                (own_v1a1_220_3 i2 b0 b1 b2 b3 b4)
      else
        if (own_v1a1_191_4 i2 b0 b1 b2 b3 b4) < (own_j1a1_161_L6 i2 b0 b1 b2 b3 b4) then
          (-1 : Int32)
        else
          if (own_j1a1_161_L7 i2 b0 b1 b2 b3 b4) < (own_v1a1_191_4 i2 b0 b1 b2 b3 b4) then
            (-1 : Int32)
          else
            if (own_v1a1_191_5 i2 b0 b1 b2 b3 b4) < (128 : Int32) then
              (-1 : Int32)
            else
              if (191 : Int32) < (own_v1a1_191_5 i2 b0 b1 b2 b3 b4) then
                (-1 : Int32)
              else
                if (own_v1a1_191_6 i2 b0 b1 b2 b3 b4) < (128 : Int32) then
                  (-1 : Int32)
                else
                  if (191 : Int32) < (own_v1a1_191_6 i2 b0 b1 b2 b3 b4) then
                    (-1 : Int32)
                  else
                    (own_v1a1_220_6 i2 b0 b1 b2 b3 b4)
  else
    (-1 : Int32)
theorem own_ef1a1 (m : MethodId) (x0 : Addr) (x2 : Int32) : entryFrame m #[(.ref x0), (.int (1 : Int32)), (.int x2)] 10 = mkF m 0 #[.val (.ref x0), .val (.int (1 : Int32)), .val (.int x2), .unset, .unset, .unset, .unset, .unset, .unset, .unset] [] := by first | (simp [entryFrame, mkF, argsToLocals, Value.category]; done) | rfl
def own_cp1 (i2 : Int32) (b0 : Int32) (b1 : Int32) (b2 : Int32) (b3 : Int32) (b4 : Int32) : Int32 :=
  if (own_v1a1_7 i2 b0 b1 b2 b3 b4) < (128 : Int32) then
    (own_v1a1_7 i2 b0 b1 b2 b3 b4)
  else
    if (own_v1a1_7 i2 b0 b1 b2 b3 b4) < (194 : Int32) then
      (-1 : Int32)
    else
      if (223 : Int32) < (own_v1a1_7 i2 b0 b1 b2 b3 b4) then
        if (239 : Int32) < (own_v1a1_7 i2 b0 b1 b2 b3 b4) then
          if (244 : Int32) < (own_v1a1_7 i2 b0 b1 b2 b3 b4) then
            (-1 : Int32)
          else
            if (own_v1a1_7 i2 b0 b1 b2 b3 b4) = (240 : Int32) then
              (own_r1a1_161 i2 b0 b1 b2 b3 b4)
            else
              if (own_v1a1_7 i2 b0 b1 b2 b3 b4) = (244 : Int32) then
                (own_r1a1_161 i2 b0 b1 b2 b3 b4)
              else
                (own_r1a1_161 i2 b0 b1 b2 b3 b4)
        else
          if (own_v1a1_7 i2 b0 b1 b2 b3 b4) = (224 : Int32) then
            (own_r1a1_161 i2 b0 b1 b2 b3 b4)
          else
            if (own_v1a1_7 i2 b0 b1 b2 b3 b4) = (237 : Int32) then
              (own_r1a1_161 i2 b0 b1 b2 b3 b4)
            else
              (own_r1a1_161 i2 b0 b1 b2 b3 b4)
      else
        (own_r1a1_161 i2 b0 b1 b2 b3 b4)
def own_Q1a1 (Z : State) (r0 : Addr) (i2 : Int32) (kk : ClassId) (b0 : Int32) (b1 : Int32) (b2 : Int32) (b3 : Int32) (b4 : Int32) (h0 : Heap) (n0 : Nat) (v : Option Value) (h : Heap) (L : List Loc) : Prop := v = some (.int (own_cp1 i2 b0 b1 b2 b3 b4)) ∧ Fr n0 L ∧ h = h0
set_option maxRecDepth 65536 in
set_option maxHeartbeats 40000000 in
theorem own_rm1a1 (l : Launch) (Z : State) (a0 : Array Value) (hw : ∀ d ∈ tables_1, d.before a0 Z = true) (ws : List Jvm.Cond) (r0 : Addr) (i2 : Int32) (kk : ClassId) (b0 : Int32) (b1 : Int32) (b2 : Int32) (b3 : Int32) (b4 : Int32) (h0 : Heap) (n0 : Nat) (Z0 : n0 ≤ h0.size) (P0 : Arv Z h0 r0 kk .byte (5 : Int32) [(.int b0), (.int b1), (.int b2), (.int b3), (.int b4)] (.int (0 : Int32))) :
    MetFree l (⟨"traceward/schema/Utf8", "codePoint", "([BII)I"⟩ : MethodName) (head1 (Jvm.Cond.code (⟨"traceward/schema/Utf8", "codePoint", "([BII)I"⟩ : MethodName) prog_153_method_2_code 10 (some .int) :: ws) ({ frames := 0, cells := 0, slots := 0, locals := 0 } : Room)) (fun a U => a = #[(.ref r0), (.int (1 : Int32)), (.int i2)] ∧ Z.Warmed39 U.vm ∧ U.heap = h0) (fun _ _ _ _ _ => True) (fun _ U o U' => ∃ v L, o = .returned v ∧ own_Q1a1 Z r0 i2 kk b0 b1 b2 b3 b4 h0 n0 v U'.heap L ∧ FrameEnd U o U' L ({ frames := 0, cells := 0, slots := 0, locals := 0 } : Room).cells ({ frames := 0, cells := 0, slots := 0, locals := 0 } : Room).slots) := by
  refine MetFree.of_bodySF (plainFor_of_name own_pn2) hisR ?_
  intro p e s m args below meth c s₁ Bd hml0 hP hK
  obtain ⟨rfl, hZ, hh⟩ := hP
  have hx := Bd.exec
  have hby := Bd.bytes
  have hret := Bd.returns
  have hlk := BodyLoose.notSynchronized Bd
  have hml : c.maxLocals = 10 := hml0
  have hown : s.vm.findClass "traceward/schema/Utf8" = some m.cls := findClass_of_methodNamed Bd.named
  have hnm := (name_of_methodNamed Bd.named Bd.method).1
  have X0 : Stand p l e ({ frames := 0, cells := 0, slots := 0, locals := 0 } : Room) s m #[(.ref r0), (.int (1 : Int32)), (.int i2)] below meth c s₁ [] 0 0 := Stand.of_body Bd
  have e0 : s₁.heap = h0 := by rw [← hh, Bd.state]; rfl
  have N0 := Fr.nil n0
  have K0 : Keep h0 h0 [] := Keep.refl h0 _
  show ownE p e below s (own_Q1a1 Z r0 i2 kk b0 b1 b2 b3 b4 h0 n0) ({ frames := 0, cells := 0, slots := 0, locals := 0 } : Room).cells ({ frames := 0, cells := 0, slots := 0, locals := 0 } : Room).slots s₁ (entryFrame m #[(.ref r0), (.int (1 : Int32)), (.int i2)] 10)
  rw [own_ef1a1]
  refine ownE.go (T' := s₁) (f' := (mkF m 2 #[.val (.ref r0), .val (.int (1 : Int32)), .val (.int i2), .unset, .unset, .unset, .unset, .unset, .unset, .unset] [(.int (1 : Int32)), (.ref r0)])) (fun t kt => ?_) ?_
  · show Steps p.tables e below (s₁.setTop (mkF m 0 #[.val (.ref r0), .val (.int (1 : Int32)), .val (.int i2), .unset, .unset, .unset, .unset, .unset, .unset, .unset] [])) _
    refine XS.aloadN X0.here hx rfl (hb hby own_d1_0) rfl rfl ?_
    show Steps p.tables e below (s₁.setTop (mkF m 1 #[.val (.ref r0), .val (.int (1 : Int32)), .val (.int i2), .unset, .unset, .unset, .unset, .unset, .unset, .unset] [(.ref r0)])) _
    refine XS.iloadN X0.here hx rfl (hb hby own_d1_1) rfl ?_
    exact kt
  obtain ⟨cl1, Ar1, q1, S1, Nn1, Hh1, G1⟩ := id P0
  refine ownE.go (T' := s₁) (f' := (mkF m 3 #[.val (.ref r0), .val (.int (1 : Int32)), .val (.int i2), .unset, .unset, .unset, .unset, .unset, .unset, .unset] [(.int b1)])) (fun t kt => X0.baloadBytes hx (j := (1 : Int32)) (v := (.int b1)) (by rw [e0]; exact Ar1.1) (State.isArrayOf_alike hZ.alike Ar1.2.1) Ar1.2.2 (inb_of S1 ⟨by decide, by decide⟩) (Hh1.at (inb_of S1 ⟨by decide, by decide⟩) rfl) (g := (mkF m 2 #[.val (.ref r0), .val (.int (1 : Int32)), .val (.int i2), .unset, .unset, .unset, .unset, .unset, .unset, .unset] [(.int (1 : Int32)), (.ref r0)])) rfl rfl (hb hby own_d1_2) _ kt) ?_
  refine ownE.go (T' := s₁) (f' := (mkF m 12 #[.val (.ref r0), .val (.int (1 : Int32)), .val (.int i2), .val (.int (own_v1a1_7 i2 b0 b1 b2 b3 b4)), .unset, .unset, .unset, .unset, .unset, .unset] [(.int (128 : Int32)), (.int (own_v1a1_7 i2 b0 b1 b2 b3 b4))])) (fun t kt => ?_) ?_
  · show Steps p.tables e below (s₁.setTop (mkF m 3 #[.val (.ref r0), .val (.int (1 : Int32)), .val (.int i2), .unset, .unset, .unset, .unset, .unset, .unset, .unset] [(.int b1)])) _
    refine XS.sipush X0.here hx rfl (hb hby own_d1_3) ?_
    show Steps p.tables e below (s₁.setTop (mkF m 6 #[.val (.ref r0), .val (.int (1 : Int32)), .val (.int i2), .unset, .unset, .unset, .unset, .unset, .unset, .unset] [(.int (255 : Int32)), (.int b1)])) _
    refine XS.iand X0.here hx rfl (hb hby own_d1_6) rfl ?_
    show Steps p.tables e below (s₁.setTop (mkF m 7 #[.val (.ref r0), .val (.int (1 : Int32)), .val (.int i2), .unset, .unset, .unset, .unset, .unset, .unset, .unset] [(.int (b1 &&& (255 : Int32)))])) _
    refine XS.istoreN X0.here hx rfl (hb hby own_d1_7) rfl (l' := #[.val (.ref r0), .val (.int (1 : Int32)), .val (.int i2), .val (.int (own_v1a1_7 i2 b0 b1 b2 b3 b4)), .unset, .unset, .unset, .unset, .unset, .unset]) rfl ?_
    show Steps p.tables e below (s₁.setTop (mkF m 8 #[.val (.ref r0), .val (.int (1 : Int32)), .val (.int i2), .val (.int (own_v1a1_7 i2 b0 b1 b2 b3 b4)), .unset, .unset, .unset, .unset, .unset, .unset] [])) _
    refine XS.iloadN X0.here hx rfl (hb hby own_d1_8) rfl ?_
    show Steps p.tables e below (s₁.setTop (mkF m 9 #[.val (.ref r0), .val (.int (1 : Int32)), .val (.int i2), .val (.int (own_v1a1_7 i2 b0 b1 b2 b3 b4)), .unset, .unset, .unset, .unset, .unset, .unset] [(.int (own_v1a1_7 i2 b0 b1 b2 b3 b4))])) _
    refine XS.sipush X0.here hx rfl (hb hby own_d1_9) ?_
    exact kt
  by_cases hc2 : (own_v1a1_7 i2 b0 b1 b2 b3 b4) < (128 : Int32)
  · -- pc 12
    refine ownE.go (T' := s₁) (f' := (mkF m 15 #[.val (.ref r0), .val (.int (1 : Int32)), .val (.int i2), .val (.int (own_v1a1_7 i2 b0 b1 b2 b3 b4)), .unset, .unset, .unset, .unset, .unset, .unset] [])) (fun t kt => XS.icmpNo (g := (mkF m 12 #[.val (.ref r0), .val (.int (1 : Int32)), .val (.int i2), .val (.int (own_v1a1_7 i2 b0 b1 b2 b3 b4)), .unset, .unset, .unset, .unset, .unset, .unset] [(.int (128 : Int32)), (.int (own_v1a1_7 i2 b0 b1 b2 b3 b4))])) X0.here hx rfl (hb hby own_d1_12) rfl (Jvm.Free.XT.ii_ge_f hc2) kt) ?_
    refine ownE.go (T' := s₁) (f' := (mkF m 16 #[.val (.ref r0), .val (.int (1 : Int32)), .val (.int i2), .val (.int (own_v1a1_7 i2 b0 b1 b2 b3 b4)), .unset, .unset, .unset, .unset, .unset, .unset] [(.int (own_v1a1_7 i2 b0 b1 b2 b3 b4))])) (fun t kt => ?_) ?_
    · show Steps p.tables e below (s₁.setTop (mkF m 15 #[.val (.ref r0), .val (.int (1 : Int32)), .val (.int i2), .val (.int (own_v1a1_7 i2 b0 b1 b2 b3 b4)), .unset, .unset, .unset, .unset, .unset, .unset] [])) _
      refine XS.iloadN X0.here hx rfl (hb hby own_d1_15) rfl ?_
      exact kt
    refine ownE.retI X0 hx hlk hret (hb hby own_d1_16) ?_ (by decide) (by decide)
    show own_Q1a1 Z r0 i2 kk b0 b1 b2 b3 b4 h0 n0 _ s₁.heap _
    rw [e0]
    exact ⟨(by rw [own_cp1, if_pos hc2] <;> first | rfl | decide), N0, rfl⟩
  · -- pc 12
    refine ownE.go (T' := s₁) (f' := (mkF m 17 #[.val (.ref r0), .val (.int (1 : Int32)), .val (.int i2), .val (.int (own_v1a1_7 i2 b0 b1 b2 b3 b4)), .unset, .unset, .unset, .unset, .unset, .unset] [])) (fun t kt => XS.icmpYes (g := (mkF m 12 #[.val (.ref r0), .val (.int (1 : Int32)), .val (.int i2), .val (.int (own_v1a1_7 i2 b0 b1 b2 b3 b4)), .unset, .unset, .unset, .unset, .unset, .unset] [(.int (128 : Int32)), (.int (own_v1a1_7 i2 b0 b1 b2 b3 b4))])) X0.here hx rfl (pc0 := 12) (pc' := 17) rfl (hb hby own_d1_12) rfl (Jvm.Free.XT.ii_ge_t hc2) (by decide) (by decide) kt) ?_
    have J16 : ∀ (TJ16 : State) (locsJ16 : List Loc), Stand p l e ({ frames := 0, cells := 0, slots := 0, locals := 0 } : Room) s m #[(.ref r0), (.int (1 : Int32)), (.int i2)] below meth c TJ16 locsJ16 0 0 → TJ16.heap = h0 → Fr n0 locsJ16 → own_cp1 i2 b0 b1 b2 b3 b4 = own_r1a1_161 i2 b0 b1 b2 b3 b4 → ownE p e below s (own_Q1a1 Z r0 i2 kk b0 b1 b2 b3 b4 h0 n0) ({ frames := 0, cells := 0, slots := 0, locals := 0 } : Room).cells ({ frames := 0, cells := 0, slots := 0, locals := 0 } : Room).slots TJ16 (mkF m 161 #[.val (.ref r0), .val (.int (1 : Int32)), .val (.int i2), .val (.int (own_v1a1_7 i2 b0 b1 b2 b3 b4)), .val (.int (own_j1a1_161_L4 i2 b0 b1 b2 b3 b4)), .val (.int (own_j1a1_161_L5 i2 b0 b1 b2 b3 b4)), .val (.int (own_j1a1_161_L6 i2 b0 b1 b2 b3 b4)), .val (.int (own_j1a1_161_L7 i2 b0 b1 b2 b3 b4)), .unset, .unset] []) := by
      intro TJ16 locsJ16 XJ16 eJ16 NJ16 hv16
      refine ownE.go (T' := TJ16) (f' := (mkF m 166 #[.val (.ref r0), .val (.int (1 : Int32)), .val (.int i2), .val (.int (own_v1a1_7 i2 b0 b1 b2 b3 b4)), .val (.int (own_j1a1_161_L4 i2 b0 b1 b2 b3 b4)), .val (.int (own_j1a1_161_L5 i2 b0 b1 b2 b3 b4)), .val (.int (own_j1a1_161_L6 i2 b0 b1 b2 b3 b4)), .val (.int (own_j1a1_161_L7 i2 b0 b1 b2 b3 b4)), .unset, .unset] [(.int (own_j1a1_161_L4 i2 b0 b1 b2 b3 b4)), (.int (i2 - (1 : Int32)))])) (fun t kt => ?_) ?_
      · show Steps p.tables e below (TJ16.setTop (mkF m 161 #[.val (.ref r0), .val (.int (1 : Int32)), .val (.int i2), .val (.int (own_v1a1_7 i2 b0 b1 b2 b3 b4)), .val (.int (own_j1a1_161_L4 i2 b0 b1 b2 b3 b4)), .val (.int (own_j1a1_161_L5 i2 b0 b1 b2 b3 b4)), .val (.int (own_j1a1_161_L6 i2 b0 b1 b2 b3 b4)), .val (.int (own_j1a1_161_L7 i2 b0 b1 b2 b3 b4)), .unset, .unset] [])) _
        refine XS.iloadN XJ16.here hx rfl (hb hby own_d1_161) rfl ?_
        show Steps p.tables e below (TJ16.setTop (mkF m 162 #[.val (.ref r0), .val (.int (1 : Int32)), .val (.int i2), .val (.int (own_v1a1_7 i2 b0 b1 b2 b3 b4)), .val (.int (own_j1a1_161_L4 i2 b0 b1 b2 b3 b4)), .val (.int (own_j1a1_161_L5 i2 b0 b1 b2 b3 b4)), .val (.int (own_j1a1_161_L6 i2 b0 b1 b2 b3 b4)), .val (.int (own_j1a1_161_L7 i2 b0 b1 b2 b3 b4)), .unset, .unset] [(.int i2)])) _
        refine XS.iloadN XJ16.here hx rfl (hb hby own_d1_162) rfl ?_
        show Steps p.tables e below (TJ16.setTop (mkF m 163 #[.val (.ref r0), .val (.int (1 : Int32)), .val (.int i2), .val (.int (own_v1a1_7 i2 b0 b1 b2 b3 b4)), .val (.int (own_j1a1_161_L4 i2 b0 b1 b2 b3 b4)), .val (.int (own_j1a1_161_L5 i2 b0 b1 b2 b3 b4)), .val (.int (own_j1a1_161_L6 i2 b0 b1 b2 b3 b4)), .val (.int (own_j1a1_161_L7 i2 b0 b1 b2 b3 b4)), .unset, .unset] [(.int (1 : Int32)), (.int i2)])) _
        refine XS.isub XJ16.here hx rfl (hb hby own_d1_163) rfl ?_
        show Steps p.tables e below (TJ16.setTop (mkF m 164 #[.val (.ref r0), .val (.int (1 : Int32)), .val (.int i2), .val (.int (own_v1a1_7 i2 b0 b1 b2 b3 b4)), .val (.int (own_j1a1_161_L4 i2 b0 b1 b2 b3 b4)), .val (.int (own_j1a1_161_L5 i2 b0 b1 b2 b3 b4)), .val (.int (own_j1a1_161_L6 i2 b0 b1 b2 b3 b4)), .val (.int (own_j1a1_161_L7 i2 b0 b1 b2 b3 b4)), .unset, .unset] [(.int (i2 - (1 : Int32)))])) _
        refine XS.iload XJ16.here hx rfl (hb hby own_d1_164) rfl ?_
        exact kt
      by_cases hc17 : (own_j1a1_161_L4 i2 b0 b1 b2 b3 b4) < (i2 - (1 : Int32))
      · -- pc 166
        refine ownE.go (T' := TJ16) (f' := (mkF m 171 #[.val (.ref r0), .val (.int (1 : Int32)), .val (.int i2), .val (.int (own_v1a1_7 i2 b0 b1 b2 b3 b4)), .val (.int (own_j1a1_161_L4 i2 b0 b1 b2 b3 b4)), .val (.int (own_j1a1_161_L5 i2 b0 b1 b2 b3 b4)), .val (.int (own_j1a1_161_L6 i2 b0 b1 b2 b3 b4)), .val (.int (own_j1a1_161_L7 i2 b0 b1 b2 b3 b4)), .unset, .unset] [])) (fun t kt => XS.icmpYes (g := (mkF m 166 #[.val (.ref r0), .val (.int (1 : Int32)), .val (.int i2), .val (.int (own_v1a1_7 i2 b0 b1 b2 b3 b4)), .val (.int (own_j1a1_161_L4 i2 b0 b1 b2 b3 b4)), .val (.int (own_j1a1_161_L5 i2 b0 b1 b2 b3 b4)), .val (.int (own_j1a1_161_L6 i2 b0 b1 b2 b3 b4)), .val (.int (own_j1a1_161_L7 i2 b0 b1 b2 b3 b4)), .unset, .unset] [(.int (own_j1a1_161_L4 i2 b0 b1 b2 b3 b4)), (.int (i2 - (1 : Int32)))])) XJ16.here hx rfl (pc0 := 166) (pc' := 171) rfl (hb hby own_d1_166) rfl (Jvm.Free.XT.ii_gt_t hc17) (by decide) (by decide) kt) ?_
        rcases (own_l4_2 i2 b0 b1 b2 b3 b4) with hk18 | hk18 | hk18
        · -- (own_j1a1_161_L4 i2 b0 b1 b2 b3 b4) = 1
          have hf18 : (mkF m 171 #[.val (.ref r0), .val (.int (1 : Int32)), .val (.int i2), .val (.int (own_v1a1_7 i2 b0 b1 b2 b3 b4)), .val (.int (own_j1a1_161_L4 i2 b0 b1 b2 b3 b4)), .val (.int (own_j1a1_161_L5 i2 b0 b1 b2 b3 b4)), .val (.int (own_j1a1_161_L6 i2 b0 b1 b2 b3 b4)), .val (.int (own_j1a1_161_L7 i2 b0 b1 b2 b3 b4)), .unset, .unset] []) = (mkF m 171 #[.val (.ref r0), .val (.int (1 : Int32)), .val (.int i2), .val (.int (own_v1a1_7 i2 b0 b1 b2 b3 b4)), .val (.int (1 : Int32)), .val (.int (own_j1a1_161_L5 i2 b0 b1 b2 b3 b4)), .val (.int (own_j1a1_161_L6 i2 b0 b1 b2 b3 b4)), .val (.int (own_j1a1_161_L7 i2 b0 b1 b2 b3 b4)), .unset, .unset] []) := by rw [hk18]
          rw [hf18]
          refine ownE.go (T' := TJ16) (f' := (mkF m 178 #[.val (.ref r0), .val (.int (1 : Int32)), .val (.int i2), .val (.int (own_v1a1_7 i2 b0 b1 b2 b3 b4)), .val (.int (1 : Int32)), .val (.int (own_j1a1_161_L5 i2 b0 b1 b2 b3 b4)), .val (.int (own_j1a1_161_L6 i2 b0 b1 b2 b3 b4)), .val (.int (own_j1a1_161_L7 i2 b0 b1 b2 b3 b4)), .val (.int (1 : Int32)), .unset] [(.int (1 : Int32)), (.int (1 : Int32))])) (fun t kt => ?_) ?_
          · show Steps p.tables e below (TJ16.setTop (mkF m 171 #[.val (.ref r0), .val (.int (1 : Int32)), .val (.int i2), .val (.int (own_v1a1_7 i2 b0 b1 b2 b3 b4)), .val (.int (1 : Int32)), .val (.int (own_j1a1_161_L5 i2 b0 b1 b2 b3 b4)), .val (.int (own_j1a1_161_L6 i2 b0 b1 b2 b3 b4)), .val (.int (own_j1a1_161_L7 i2 b0 b1 b2 b3 b4)), .unset, .unset] [])) _
            refine XS.iconst XJ16.here hx rfl (hb hby own_d1_171) ?_
            show Steps p.tables e below (TJ16.setTop (mkF m 172 #[.val (.ref r0), .val (.int (1 : Int32)), .val (.int i2), .val (.int (own_v1a1_7 i2 b0 b1 b2 b3 b4)), .val (.int (1 : Int32)), .val (.int (own_j1a1_161_L5 i2 b0 b1 b2 b3 b4)), .val (.int (own_j1a1_161_L6 i2 b0 b1 b2 b3 b4)), .val (.int (own_j1a1_161_L7 i2 b0 b1 b2 b3 b4)), .unset, .unset] [(.int (1 : Int32))])) _
            refine XS.istore XJ16.here hx rfl (hb hby own_d1_172) rfl (l' := #[.val (.ref r0), .val (.int (1 : Int32)), .val (.int i2), .val (.int (own_v1a1_7 i2 b0 b1 b2 b3 b4)), .val (.int (1 : Int32)), .val (.int (own_j1a1_161_L5 i2 b0 b1 b2 b3 b4)), .val (.int (own_j1a1_161_L6 i2 b0 b1 b2 b3 b4)), .val (.int (own_j1a1_161_L7 i2 b0 b1 b2 b3 b4)), .val (.int (1 : Int32)), .unset]) rfl ?_
            show Steps p.tables e below (TJ16.setTop (mkF m 174 #[.val (.ref r0), .val (.int (1 : Int32)), .val (.int i2), .val (.int (own_v1a1_7 i2 b0 b1 b2 b3 b4)), .val (.int (1 : Int32)), .val (.int (own_j1a1_161_L5 i2 b0 b1 b2 b3 b4)), .val (.int (own_j1a1_161_L6 i2 b0 b1 b2 b3 b4)), .val (.int (own_j1a1_161_L7 i2 b0 b1 b2 b3 b4)), .val (.int (1 : Int32)), .unset] [])) _
            refine XS.iload XJ16.here hx rfl (hb hby own_d1_174) rfl ?_
            show Steps p.tables e below (TJ16.setTop (mkF m 176 #[.val (.ref r0), .val (.int (1 : Int32)), .val (.int i2), .val (.int (own_v1a1_7 i2 b0 b1 b2 b3 b4)), .val (.int (1 : Int32)), .val (.int (own_j1a1_161_L5 i2 b0 b1 b2 b3 b4)), .val (.int (own_j1a1_161_L6 i2 b0 b1 b2 b3 b4)), .val (.int (own_j1a1_161_L7 i2 b0 b1 b2 b3 b4)), .val (.int (1 : Int32)), .unset] [(.int (1 : Int32))])) _
            refine XS.iload XJ16.here hx rfl (hb hby own_d1_176) rfl ?_
            exact kt
          refine ownE.go (T' := TJ16) (f' := (mkF m 181 #[.val (.ref r0), .val (.int (1 : Int32)), .val (.int i2), .val (.int (own_v1a1_7 i2 b0 b1 b2 b3 b4)), .val (.int (1 : Int32)), .val (.int (own_j1a1_161_L5 i2 b0 b1 b2 b3 b4)), .val (.int (own_j1a1_161_L6 i2 b0 b1 b2 b3 b4)), .val (.int (own_j1a1_161_L7 i2 b0 b1 b2 b3 b4)), .val (.int (1 : Int32)), .unset] [])) (fun t kt => XS.icmpNo (g := (mkF m 178 #[.val (.ref r0), .val (.int (1 : Int32)), .val (.int i2), .val (.int (own_v1a1_7 i2 b0 b1 b2 b3 b4)), .val (.int (1 : Int32)), .val (.int (own_j1a1_161_L5 i2 b0 b1 b2 b3 b4)), .val (.int (own_j1a1_161_L6 i2 b0 b1 b2 b3 b4)), .val (.int (own_j1a1_161_L7 i2 b0 b1 b2 b3 b4)), .val (.int (1 : Int32)), .unset] [(.int (1 : Int32)), (.int (1 : Int32))])) XJ16.here hx rfl (hb hby own_d1_178) rfl (Jvm.Free.XT.ii_gt_f (by decide)) kt) ?_
          refine ownE.go (T' := TJ16) (f' := (mkF m 186 #[.val (.ref r0), .val (.int (1 : Int32)), .val (.int i2), .val (.int (own_v1a1_7 i2 b0 b1 b2 b3 b4)), .val (.int (1 : Int32)), .val (.int (own_j1a1_161_L5 i2 b0 b1 b2 b3 b4)), .val (.int (own_j1a1_161_L6 i2 b0 b1 b2 b3 b4)), .val (.int (own_j1a1_161_L7 i2 b0 b1 b2 b3 b4)), .val (.int (1 : Int32)), .unset] [(.int (2 : Int32)), (.ref r0)])) (fun t kt => ?_) ?_
          · show Steps p.tables e below (TJ16.setTop (mkF m 181 #[.val (.ref r0), .val (.int (1 : Int32)), .val (.int i2), .val (.int (own_v1a1_7 i2 b0 b1 b2 b3 b4)), .val (.int (1 : Int32)), .val (.int (own_j1a1_161_L5 i2 b0 b1 b2 b3 b4)), .val (.int (own_j1a1_161_L6 i2 b0 b1 b2 b3 b4)), .val (.int (own_j1a1_161_L7 i2 b0 b1 b2 b3 b4)), .val (.int (1 : Int32)), .unset] [])) _
            refine XS.aloadN XJ16.here hx rfl (hb hby own_d1_181) rfl rfl ?_
            show Steps p.tables e below (TJ16.setTop (mkF m 182 #[.val (.ref r0), .val (.int (1 : Int32)), .val (.int i2), .val (.int (own_v1a1_7 i2 b0 b1 b2 b3 b4)), .val (.int (1 : Int32)), .val (.int (own_j1a1_161_L5 i2 b0 b1 b2 b3 b4)), .val (.int (own_j1a1_161_L6 i2 b0 b1 b2 b3 b4)), .val (.int (own_j1a1_161_L7 i2 b0 b1 b2 b3 b4)), .val (.int (1 : Int32)), .unset] [(.ref r0)])) _
            refine XS.iloadN XJ16.here hx rfl (hb hby own_d1_182) rfl ?_
            show Steps p.tables e below (TJ16.setTop (mkF m 183 #[.val (.ref r0), .val (.int (1 : Int32)), .val (.int i2), .val (.int (own_v1a1_7 i2 b0 b1 b2 b3 b4)), .val (.int (1 : Int32)), .val (.int (own_j1a1_161_L5 i2 b0 b1 b2 b3 b4)), .val (.int (own_j1a1_161_L6 i2 b0 b1 b2 b3 b4)), .val (.int (own_j1a1_161_L7 i2 b0 b1 b2 b3 b4)), .val (.int (1 : Int32)), .unset] [(.int (1 : Int32)), (.ref r0)])) _
            refine XS.iload XJ16.here hx rfl (hb hby own_d1_183) rfl ?_
            show Steps p.tables e below (TJ16.setTop (mkF m 185 #[.val (.ref r0), .val (.int (1 : Int32)), .val (.int i2), .val (.int (own_v1a1_7 i2 b0 b1 b2 b3 b4)), .val (.int (1 : Int32)), .val (.int (own_j1a1_161_L5 i2 b0 b1 b2 b3 b4)), .val (.int (own_j1a1_161_L6 i2 b0 b1 b2 b3 b4)), .val (.int (own_j1a1_161_L7 i2 b0 b1 b2 b3 b4)), .val (.int (1 : Int32)), .unset] [(.int (1 : Int32)), (.int (1 : Int32)), (.ref r0)])) _
            refine XS.iadd XJ16.here hx rfl (hb hby own_d1_185) rfl ?_
            exact kt
          obtain ⟨cl19, Ar19, q19, S19, Nn19, Hh19, G19⟩ := id P0
          refine ownE.go (T' := TJ16) (f' := (mkF m 187 #[.val (.ref r0), .val (.int (1 : Int32)), .val (.int i2), .val (.int (own_v1a1_7 i2 b0 b1 b2 b3 b4)), .val (.int (1 : Int32)), .val (.int (own_j1a1_161_L5 i2 b0 b1 b2 b3 b4)), .val (.int (own_j1a1_161_L6 i2 b0 b1 b2 b3 b4)), .val (.int (own_j1a1_161_L7 i2 b0 b1 b2 b3 b4)), .val (.int (1 : Int32)), .unset] [(.int b2)])) (fun t kt => XJ16.baloadBytes hx (j := (2 : Int32)) (v := (.int b2)) (by rw [eJ16]; exact Ar19.1) (State.isArrayOf_alike hZ.alike Ar19.2.1) Ar19.2.2 (inb_of S19 ⟨by decide, by decide⟩) (Hh19.at (inb_of S19 ⟨by decide, by decide⟩) rfl) (g := (mkF m 186 #[.val (.ref r0), .val (.int (1 : Int32)), .val (.int i2), .val (.int (own_v1a1_7 i2 b0 b1 b2 b3 b4)), .val (.int (1 : Int32)), .val (.int (own_j1a1_161_L5 i2 b0 b1 b2 b3 b4)), .val (.int (own_j1a1_161_L6 i2 b0 b1 b2 b3 b4)), .val (.int (own_j1a1_161_L7 i2 b0 b1 b2 b3 b4)), .val (.int (1 : Int32)), .unset] [(.int (2 : Int32)), (.ref r0)])) rfl rfl (hb hby own_d1_186) _ kt) ?_
          refine ownE.go (T' := TJ16) (f' := (mkF m 197 #[.val (.ref r0), .val (.int (1 : Int32)), .val (.int i2), .val (.int (own_v1a1_7 i2 b0 b1 b2 b3 b4)), .val (.int (1 : Int32)), .val (.int (own_j1a1_161_L5 i2 b0 b1 b2 b3 b4)), .val (.int (own_j1a1_161_L6 i2 b0 b1 b2 b3 b4)), .val (.int (own_j1a1_161_L7 i2 b0 b1 b2 b3 b4)), .val (.int (1 : Int32)), .val (.int (own_v1a1_191 i2 b0 b1 b2 b3 b4))] [(.int (own_j1a1_161_L6 i2 b0 b1 b2 b3 b4)), (.int (own_v1a1_191 i2 b0 b1 b2 b3 b4))])) (fun t kt => ?_) ?_
          · show Steps p.tables e below (TJ16.setTop (mkF m 187 #[.val (.ref r0), .val (.int (1 : Int32)), .val (.int i2), .val (.int (own_v1a1_7 i2 b0 b1 b2 b3 b4)), .val (.int (1 : Int32)), .val (.int (own_j1a1_161_L5 i2 b0 b1 b2 b3 b4)), .val (.int (own_j1a1_161_L6 i2 b0 b1 b2 b3 b4)), .val (.int (own_j1a1_161_L7 i2 b0 b1 b2 b3 b4)), .val (.int (1 : Int32)), .unset] [(.int b2)])) _
            refine XS.sipush XJ16.here hx rfl (hb hby own_d1_187) ?_
            show Steps p.tables e below (TJ16.setTop (mkF m 190 #[.val (.ref r0), .val (.int (1 : Int32)), .val (.int i2), .val (.int (own_v1a1_7 i2 b0 b1 b2 b3 b4)), .val (.int (1 : Int32)), .val (.int (own_j1a1_161_L5 i2 b0 b1 b2 b3 b4)), .val (.int (own_j1a1_161_L6 i2 b0 b1 b2 b3 b4)), .val (.int (own_j1a1_161_L7 i2 b0 b1 b2 b3 b4)), .val (.int (1 : Int32)), .unset] [(.int (255 : Int32)), (.int b2)])) _
            refine XS.iand XJ16.here hx rfl (hb hby own_d1_190) rfl ?_
            show Steps p.tables e below (TJ16.setTop (mkF m 191 #[.val (.ref r0), .val (.int (1 : Int32)), .val (.int i2), .val (.int (own_v1a1_7 i2 b0 b1 b2 b3 b4)), .val (.int (1 : Int32)), .val (.int (own_j1a1_161_L5 i2 b0 b1 b2 b3 b4)), .val (.int (own_j1a1_161_L6 i2 b0 b1 b2 b3 b4)), .val (.int (own_j1a1_161_L7 i2 b0 b1 b2 b3 b4)), .val (.int (1 : Int32)), .unset] [(.int (b2 &&& (255 : Int32)))])) _
            refine XS.istore XJ16.here hx rfl (hb hby own_d1_191) rfl (l' := #[.val (.ref r0), .val (.int (1 : Int32)), .val (.int i2), .val (.int (own_v1a1_7 i2 b0 b1 b2 b3 b4)), .val (.int (1 : Int32)), .val (.int (own_j1a1_161_L5 i2 b0 b1 b2 b3 b4)), .val (.int (own_j1a1_161_L6 i2 b0 b1 b2 b3 b4)), .val (.int (own_j1a1_161_L7 i2 b0 b1 b2 b3 b4)), .val (.int (1 : Int32)), .val (.int (own_v1a1_191 i2 b0 b1 b2 b3 b4))]) rfl ?_
            show Steps p.tables e below (TJ16.setTop (mkF m 193 #[.val (.ref r0), .val (.int (1 : Int32)), .val (.int i2), .val (.int (own_v1a1_7 i2 b0 b1 b2 b3 b4)), .val (.int (1 : Int32)), .val (.int (own_j1a1_161_L5 i2 b0 b1 b2 b3 b4)), .val (.int (own_j1a1_161_L6 i2 b0 b1 b2 b3 b4)), .val (.int (own_j1a1_161_L7 i2 b0 b1 b2 b3 b4)), .val (.int (1 : Int32)), .val (.int (own_v1a1_191 i2 b0 b1 b2 b3 b4))] [])) _
            refine XS.iload XJ16.here hx rfl (hb hby own_d1_193) rfl ?_
            show Steps p.tables e below (TJ16.setTop (mkF m 195 #[.val (.ref r0), .val (.int (1 : Int32)), .val (.int i2), .val (.int (own_v1a1_7 i2 b0 b1 b2 b3 b4)), .val (.int (1 : Int32)), .val (.int (own_j1a1_161_L5 i2 b0 b1 b2 b3 b4)), .val (.int (own_j1a1_161_L6 i2 b0 b1 b2 b3 b4)), .val (.int (own_j1a1_161_L7 i2 b0 b1 b2 b3 b4)), .val (.int (1 : Int32)), .val (.int (own_v1a1_191 i2 b0 b1 b2 b3 b4))] [(.int (own_v1a1_191 i2 b0 b1 b2 b3 b4))])) _
            refine XS.iload XJ16.here hx rfl (hb hby own_d1_195) rfl ?_
            exact kt
          by_cases hc20 : (own_v1a1_191 i2 b0 b1 b2 b3 b4) < (own_j1a1_161_L6 i2 b0 b1 b2 b3 b4)
          · -- pc 197
            refine ownE.go (T' := TJ16) (f' := (mkF m 207 #[.val (.ref r0), .val (.int (1 : Int32)), .val (.int i2), .val (.int (own_v1a1_7 i2 b0 b1 b2 b3 b4)), .val (.int (1 : Int32)), .val (.int (own_j1a1_161_L5 i2 b0 b1 b2 b3 b4)), .val (.int (own_j1a1_161_L6 i2 b0 b1 b2 b3 b4)), .val (.int (own_j1a1_161_L7 i2 b0 b1 b2 b3 b4)), .val (.int (1 : Int32)), .val (.int (own_v1a1_191 i2 b0 b1 b2 b3 b4))] [])) (fun t kt => XS.icmpYes (g := (mkF m 197 #[.val (.ref r0), .val (.int (1 : Int32)), .val (.int i2), .val (.int (own_v1a1_7 i2 b0 b1 b2 b3 b4)), .val (.int (1 : Int32)), .val (.int (own_j1a1_161_L5 i2 b0 b1 b2 b3 b4)), .val (.int (own_j1a1_161_L6 i2 b0 b1 b2 b3 b4)), .val (.int (own_j1a1_161_L7 i2 b0 b1 b2 b3 b4)), .val (.int (1 : Int32)), .val (.int (own_v1a1_191 i2 b0 b1 b2 b3 b4))] [(.int (own_j1a1_161_L6 i2 b0 b1 b2 b3 b4)), (.int (own_v1a1_191 i2 b0 b1 b2 b3 b4))])) XJ16.here hx rfl (pc0 := 197) (pc' := 207) rfl (hb hby own_d1_197) rfl (Jvm.Free.XT.ii_lt_t hc20) (by decide) (by decide) kt) ?_
            refine ownE.go (T' := TJ16) (f' := (mkF m 208 #[.val (.ref r0), .val (.int (1 : Int32)), .val (.int i2), .val (.int (own_v1a1_7 i2 b0 b1 b2 b3 b4)), .val (.int (1 : Int32)), .val (.int (own_j1a1_161_L5 i2 b0 b1 b2 b3 b4)), .val (.int (own_j1a1_161_L6 i2 b0 b1 b2 b3 b4)), .val (.int (own_j1a1_161_L7 i2 b0 b1 b2 b3 b4)), .val (.int (1 : Int32)), .val (.int (own_v1a1_191 i2 b0 b1 b2 b3 b4))] [(.int (-1 : Int32))])) (fun t kt => ?_) ?_
            · show Steps p.tables e below (TJ16.setTop (mkF m 207 #[.val (.ref r0), .val (.int (1 : Int32)), .val (.int i2), .val (.int (own_v1a1_7 i2 b0 b1 b2 b3 b4)), .val (.int (1 : Int32)), .val (.int (own_j1a1_161_L5 i2 b0 b1 b2 b3 b4)), .val (.int (own_j1a1_161_L6 i2 b0 b1 b2 b3 b4)), .val (.int (own_j1a1_161_L7 i2 b0 b1 b2 b3 b4)), .val (.int (1 : Int32)), .val (.int (own_v1a1_191 i2 b0 b1 b2 b3 b4))] [])) _
              refine XS.iconst XJ16.here hx rfl (hb hby own_d1_207) ?_
              exact kt
            refine ownE.retI XJ16 hx hlk hret (hb hby own_d1_208) ?_ (by decide) (by decide)
            show own_Q1a1 Z r0 i2 kk b0 b1 b2 b3 b4 h0 n0 _ TJ16.heap _
            rw [eJ16]
            exact ⟨(by rw [hv16, own_r1a1_161, if_pos hc17, if_pos hk18, if_pos hc20] <;> first | rfl | decide), NJ16, rfl⟩
          · -- pc 197
            refine ownE.go (T' := TJ16) (f' := (mkF m 200 #[.val (.ref r0), .val (.int (1 : Int32)), .val (.int i2), .val (.int (own_v1a1_7 i2 b0 b1 b2 b3 b4)), .val (.int (1 : Int32)), .val (.int (own_j1a1_161_L5 i2 b0 b1 b2 b3 b4)), .val (.int (own_j1a1_161_L6 i2 b0 b1 b2 b3 b4)), .val (.int (own_j1a1_161_L7 i2 b0 b1 b2 b3 b4)), .val (.int (1 : Int32)), .val (.int (own_v1a1_191 i2 b0 b1 b2 b3 b4))] [])) (fun t kt => XS.icmpNo (g := (mkF m 197 #[.val (.ref r0), .val (.int (1 : Int32)), .val (.int i2), .val (.int (own_v1a1_7 i2 b0 b1 b2 b3 b4)), .val (.int (1 : Int32)), .val (.int (own_j1a1_161_L5 i2 b0 b1 b2 b3 b4)), .val (.int (own_j1a1_161_L6 i2 b0 b1 b2 b3 b4)), .val (.int (own_j1a1_161_L7 i2 b0 b1 b2 b3 b4)), .val (.int (1 : Int32)), .val (.int (own_v1a1_191 i2 b0 b1 b2 b3 b4))] [(.int (own_j1a1_161_L6 i2 b0 b1 b2 b3 b4)), (.int (own_v1a1_191 i2 b0 b1 b2 b3 b4))])) XJ16.here hx rfl (hb hby own_d1_197) rfl (Jvm.Free.XT.ii_lt_f hc20) kt) ?_
            refine ownE.go (T' := TJ16) (f' := (mkF m 204 #[.val (.ref r0), .val (.int (1 : Int32)), .val (.int i2), .val (.int (own_v1a1_7 i2 b0 b1 b2 b3 b4)), .val (.int (1 : Int32)), .val (.int (own_j1a1_161_L5 i2 b0 b1 b2 b3 b4)), .val (.int (own_j1a1_161_L6 i2 b0 b1 b2 b3 b4)), .val (.int (own_j1a1_161_L7 i2 b0 b1 b2 b3 b4)), .val (.int (1 : Int32)), .val (.int (own_v1a1_191 i2 b0 b1 b2 b3 b4))] [(.int (own_j1a1_161_L7 i2 b0 b1 b2 b3 b4)), (.int (own_v1a1_191 i2 b0 b1 b2 b3 b4))])) (fun t kt => ?_) ?_
            · show Steps p.tables e below (TJ16.setTop (mkF m 200 #[.val (.ref r0), .val (.int (1 : Int32)), .val (.int i2), .val (.int (own_v1a1_7 i2 b0 b1 b2 b3 b4)), .val (.int (1 : Int32)), .val (.int (own_j1a1_161_L5 i2 b0 b1 b2 b3 b4)), .val (.int (own_j1a1_161_L6 i2 b0 b1 b2 b3 b4)), .val (.int (own_j1a1_161_L7 i2 b0 b1 b2 b3 b4)), .val (.int (1 : Int32)), .val (.int (own_v1a1_191 i2 b0 b1 b2 b3 b4))] [])) _
              refine XS.iload XJ16.here hx rfl (hb hby own_d1_200) rfl ?_
              show Steps p.tables e below (TJ16.setTop (mkF m 202 #[.val (.ref r0), .val (.int (1 : Int32)), .val (.int i2), .val (.int (own_v1a1_7 i2 b0 b1 b2 b3 b4)), .val (.int (1 : Int32)), .val (.int (own_j1a1_161_L5 i2 b0 b1 b2 b3 b4)), .val (.int (own_j1a1_161_L6 i2 b0 b1 b2 b3 b4)), .val (.int (own_j1a1_161_L7 i2 b0 b1 b2 b3 b4)), .val (.int (1 : Int32)), .val (.int (own_v1a1_191 i2 b0 b1 b2 b3 b4))] [(.int (own_v1a1_191 i2 b0 b1 b2 b3 b4))])) _
              refine XS.iload XJ16.here hx rfl (hb hby own_d1_202) rfl ?_
              exact kt
            by_cases hc21 : (own_j1a1_161_L7 i2 b0 b1 b2 b3 b4) < (own_v1a1_191 i2 b0 b1 b2 b3 b4)
            · -- pc 204
              refine ownE.go (T' := TJ16) (f' := (mkF m 207 #[.val (.ref r0), .val (.int (1 : Int32)), .val (.int i2), .val (.int (own_v1a1_7 i2 b0 b1 b2 b3 b4)), .val (.int (1 : Int32)), .val (.int (own_j1a1_161_L5 i2 b0 b1 b2 b3 b4)), .val (.int (own_j1a1_161_L6 i2 b0 b1 b2 b3 b4)), .val (.int (own_j1a1_161_L7 i2 b0 b1 b2 b3 b4)), .val (.int (1 : Int32)), .val (.int (own_v1a1_191 i2 b0 b1 b2 b3 b4))] [])) (fun t kt => XS.icmpNo (g := (mkF m 204 #[.val (.ref r0), .val (.int (1 : Int32)), .val (.int i2), .val (.int (own_v1a1_7 i2 b0 b1 b2 b3 b4)), .val (.int (1 : Int32)), .val (.int (own_j1a1_161_L5 i2 b0 b1 b2 b3 b4)), .val (.int (own_j1a1_161_L6 i2 b0 b1 b2 b3 b4)), .val (.int (own_j1a1_161_L7 i2 b0 b1 b2 b3 b4)), .val (.int (1 : Int32)), .val (.int (own_v1a1_191 i2 b0 b1 b2 b3 b4))] [(.int (own_j1a1_161_L7 i2 b0 b1 b2 b3 b4)), (.int (own_v1a1_191 i2 b0 b1 b2 b3 b4))])) XJ16.here hx rfl (hb hby own_d1_204) rfl (Jvm.Free.XT.ii_le_f hc21) kt) ?_
              refine ownE.go (T' := TJ16) (f' := (mkF m 208 #[.val (.ref r0), .val (.int (1 : Int32)), .val (.int i2), .val (.int (own_v1a1_7 i2 b0 b1 b2 b3 b4)), .val (.int (1 : Int32)), .val (.int (own_j1a1_161_L5 i2 b0 b1 b2 b3 b4)), .val (.int (own_j1a1_161_L6 i2 b0 b1 b2 b3 b4)), .val (.int (own_j1a1_161_L7 i2 b0 b1 b2 b3 b4)), .val (.int (1 : Int32)), .val (.int (own_v1a1_191 i2 b0 b1 b2 b3 b4))] [(.int (-1 : Int32))])) (fun t kt => ?_) ?_
              · show Steps p.tables e below (TJ16.setTop (mkF m 207 #[.val (.ref r0), .val (.int (1 : Int32)), .val (.int i2), .val (.int (own_v1a1_7 i2 b0 b1 b2 b3 b4)), .val (.int (1 : Int32)), .val (.int (own_j1a1_161_L5 i2 b0 b1 b2 b3 b4)), .val (.int (own_j1a1_161_L6 i2 b0 b1 b2 b3 b4)), .val (.int (own_j1a1_161_L7 i2 b0 b1 b2 b3 b4)), .val (.int (1 : Int32)), .val (.int (own_v1a1_191 i2 b0 b1 b2 b3 b4))] [])) _
                refine XS.iconst XJ16.here hx rfl (hb hby own_d1_207) ?_
                exact kt
              refine ownE.retI XJ16 hx hlk hret (hb hby own_d1_208) ?_ (by decide) (by decide)
              show own_Q1a1 Z r0 i2 kk b0 b1 b2 b3 b4 h0 n0 _ TJ16.heap _
              rw [eJ16]
              exact ⟨(by rw [hv16, own_r1a1_161, if_pos hc17, if_pos hk18, if_neg hc20, if_pos hc21] <;> first | rfl | decide), NJ16, rfl⟩
            · -- pc 204
              refine ownE.go (T' := TJ16) (f' := (mkF m 209 #[.val (.ref r0), .val (.int (1 : Int32)), .val (.int i2), .val (.int (own_v1a1_7 i2 b0 b1 b2 b3 b4)), .val (.int (1 : Int32)), .val (.int (own_j1a1_161_L5 i2 b0 b1 b2 b3 b4)), .val (.int (own_j1a1_161_L6 i2 b0 b1 b2 b3 b4)), .val (.int (own_j1a1_161_L7 i2 b0 b1 b2 b3 b4)), .val (.int (1 : Int32)), .val (.int (own_v1a1_191 i2 b0 b1 b2 b3 b4))] [])) (fun t kt => XS.icmpYes (g := (mkF m 204 #[.val (.ref r0), .val (.int (1 : Int32)), .val (.int i2), .val (.int (own_v1a1_7 i2 b0 b1 b2 b3 b4)), .val (.int (1 : Int32)), .val (.int (own_j1a1_161_L5 i2 b0 b1 b2 b3 b4)), .val (.int (own_j1a1_161_L6 i2 b0 b1 b2 b3 b4)), .val (.int (own_j1a1_161_L7 i2 b0 b1 b2 b3 b4)), .val (.int (1 : Int32)), .val (.int (own_v1a1_191 i2 b0 b1 b2 b3 b4))] [(.int (own_j1a1_161_L7 i2 b0 b1 b2 b3 b4)), (.int (own_v1a1_191 i2 b0 b1 b2 b3 b4))])) XJ16.here hx rfl (pc0 := 204) (pc' := 209) rfl (hb hby own_d1_204) rfl (Jvm.Free.XT.ii_le_t hc21) (by decide) (by decide) kt) ?_
              refine ownE.go (T' := TJ16) (f' := (mkF m 178 #[.val (.ref r0), .val (.int (1 : Int32)), .val (.int i2), .val (.int (own_v1a1_7 i2 b0 b1 b2 b3 b4)), .val (.int (1 : Int32)), .val (.int (own_v1a1_220 i2 b0 b1 b2 b3 b4)), .val (.int (128 : Int32)), .val (.int (191 : Int32)), .val (.int (2 : Int32)), .val (.int (own_v1a1_191 i2 b0 b1 b2 b3 b4))] [(.int (1 : Int32)), (.int (2 : Int32))])) (fun t kt => ?_) ?_
              · show Steps p.tables e below (TJ16.setTop (mkF m 209 #[.val (.ref r0), .val (.int (1 : Int32)), .val (.int i2), .val (.int (own_v1a1_7 i2 b0 b1 b2 b3 b4)), .val (.int (1 : Int32)), .val (.int (own_j1a1_161_L5 i2 b0 b1 b2 b3 b4)), .val (.int (own_j1a1_161_L6 i2 b0 b1 b2 b3 b4)), .val (.int (own_j1a1_161_L7 i2 b0 b1 b2 b3 b4)), .val (.int (1 : Int32)), .val (.int (own_v1a1_191 i2 b0 b1 b2 b3 b4))] [])) _
                refine XS.iload XJ16.here hx rfl (hb hby own_d1_209) rfl ?_
                show Steps p.tables e below (TJ16.setTop (mkF m 211 #[.val (.ref r0), .val (.int (1 : Int32)), .val (.int i2), .val (.int (own_v1a1_7 i2 b0 b1 b2 b3 b4)), .val (.int (1 : Int32)), .val (.int (own_j1a1_161_L5 i2 b0 b1 b2 b3 b4)), .val (.int (own_j1a1_161_L6 i2 b0 b1 b2 b3 b4)), .val (.int (own_j1a1_161_L7 i2 b0 b1 b2 b3 b4)), .val (.int (1 : Int32)), .val (.int (own_v1a1_191 i2 b0 b1 b2 b3 b4))] [(.int (own_j1a1_161_L5 i2 b0 b1 b2 b3 b4))])) _
                refine XS.bipush XJ16.here hx rfl (hb hby own_d1_211) ?_
                show Steps p.tables e below (TJ16.setTop (mkF m 213 #[.val (.ref r0), .val (.int (1 : Int32)), .val (.int i2), .val (.int (own_v1a1_7 i2 b0 b1 b2 b3 b4)), .val (.int (1 : Int32)), .val (.int (own_j1a1_161_L5 i2 b0 b1 b2 b3 b4)), .val (.int (own_j1a1_161_L6 i2 b0 b1 b2 b3 b4)), .val (.int (own_j1a1_161_L7 i2 b0 b1 b2 b3 b4)), .val (.int (1 : Int32)), .val (.int (own_v1a1_191 i2 b0 b1 b2 b3 b4))] [(.int (6 : Int32)), (.int (own_j1a1_161_L5 i2 b0 b1 b2 b3 b4))])) _
                refine XS.ishl XJ16.here hx rfl (hb hby own_d1_213) rfl ?_
                show Steps p.tables e below (TJ16.setTop (mkF m 214 #[.val (.ref r0), .val (.int (1 : Int32)), .val (.int i2), .val (.int (own_v1a1_7 i2 b0 b1 b2 b3 b4)), .val (.int (1 : Int32)), .val (.int (own_j1a1_161_L5 i2 b0 b1 b2 b3 b4)), .val (.int (own_j1a1_161_L6 i2 b0 b1 b2 b3 b4)), .val (.int (own_j1a1_161_L7 i2 b0 b1 b2 b3 b4)), .val (.int (1 : Int32)), .val (.int (own_v1a1_191 i2 b0 b1 b2 b3 b4))] [(.int ((own_j1a1_161_L5 i2 b0 b1 b2 b3 b4) <<< ((6 : Int32) &&& 31)))])) _
                refine XS.iload XJ16.here hx rfl (hb hby own_d1_214) rfl ?_
                show Steps p.tables e below (TJ16.setTop (mkF m 216 #[.val (.ref r0), .val (.int (1 : Int32)), .val (.int i2), .val (.int (own_v1a1_7 i2 b0 b1 b2 b3 b4)), .val (.int (1 : Int32)), .val (.int (own_j1a1_161_L5 i2 b0 b1 b2 b3 b4)), .val (.int (own_j1a1_161_L6 i2 b0 b1 b2 b3 b4)), .val (.int (own_j1a1_161_L7 i2 b0 b1 b2 b3 b4)), .val (.int (1 : Int32)), .val (.int (own_v1a1_191 i2 b0 b1 b2 b3 b4))] [(.int (own_v1a1_191 i2 b0 b1 b2 b3 b4)), (.int ((own_j1a1_161_L5 i2 b0 b1 b2 b3 b4) <<< ((6 : Int32) &&& 31)))])) _
                refine XS.bipush XJ16.here hx rfl (hb hby own_d1_216) ?_
                show Steps p.tables e below (TJ16.setTop (mkF m 218 #[.val (.ref r0), .val (.int (1 : Int32)), .val (.int i2), .val (.int (own_v1a1_7 i2 b0 b1 b2 b3 b4)), .val (.int (1 : Int32)), .val (.int (own_j1a1_161_L5 i2 b0 b1 b2 b3 b4)), .val (.int (own_j1a1_161_L6 i2 b0 b1 b2 b3 b4)), .val (.int (own_j1a1_161_L7 i2 b0 b1 b2 b3 b4)), .val (.int (1 : Int32)), .val (.int (own_v1a1_191 i2 b0 b1 b2 b3 b4))] [(.int (63 : Int32)), (.int (own_v1a1_191 i2 b0 b1 b2 b3 b4)), (.int ((own_j1a1_161_L5 i2 b0 b1 b2 b3 b4) <<< ((6 : Int32) &&& 31)))])) _
                refine XS.iand XJ16.here hx rfl (hb hby own_d1_218) rfl ?_
                show Steps p.tables e below (TJ16.setTop (mkF m 219 #[.val (.ref r0), .val (.int (1 : Int32)), .val (.int i2), .val (.int (own_v1a1_7 i2 b0 b1 b2 b3 b4)), .val (.int (1 : Int32)), .val (.int (own_j1a1_161_L5 i2 b0 b1 b2 b3 b4)), .val (.int (own_j1a1_161_L6 i2 b0 b1 b2 b3 b4)), .val (.int (own_j1a1_161_L7 i2 b0 b1 b2 b3 b4)), .val (.int (1 : Int32)), .val (.int (own_v1a1_191 i2 b0 b1 b2 b3 b4))] [(.int ((own_v1a1_191 i2 b0 b1 b2 b3 b4) &&& (63 : Int32))), (.int ((own_j1a1_161_L5 i2 b0 b1 b2 b3 b4) <<< ((6 : Int32) &&& 31)))])) _
                refine XS.ior XJ16.here hx rfl (hb hby own_d1_219) rfl ?_
                show Steps p.tables e below (TJ16.setTop (mkF m 220 #[.val (.ref r0), .val (.int (1 : Int32)), .val (.int i2), .val (.int (own_v1a1_7 i2 b0 b1 b2 b3 b4)), .val (.int (1 : Int32)), .val (.int (own_j1a1_161_L5 i2 b0 b1 b2 b3 b4)), .val (.int (own_j1a1_161_L6 i2 b0 b1 b2 b3 b4)), .val (.int (own_j1a1_161_L7 i2 b0 b1 b2 b3 b4)), .val (.int (1 : Int32)), .val (.int (own_v1a1_191 i2 b0 b1 b2 b3 b4))] [(.int (((own_j1a1_161_L5 i2 b0 b1 b2 b3 b4) <<< ((6 : Int32) &&& 31)) ||| ((own_v1a1_191 i2 b0 b1 b2 b3 b4) &&& (63 : Int32))))])) _
                refine XS.istore XJ16.here hx rfl (hb hby own_d1_220) rfl (l' := #[.val (.ref r0), .val (.int (1 : Int32)), .val (.int i2), .val (.int (own_v1a1_7 i2 b0 b1 b2 b3 b4)), .val (.int (1 : Int32)), .val (.int (own_v1a1_220 i2 b0 b1 b2 b3 b4)), .val (.int (own_j1a1_161_L6 i2 b0 b1 b2 b3 b4)), .val (.int (own_j1a1_161_L7 i2 b0 b1 b2 b3 b4)), .val (.int (1 : Int32)), .val (.int (own_v1a1_191 i2 b0 b1 b2 b3 b4))]) rfl ?_
                show Steps p.tables e below (TJ16.setTop (mkF m 222 #[.val (.ref r0), .val (.int (1 : Int32)), .val (.int i2), .val (.int (own_v1a1_7 i2 b0 b1 b2 b3 b4)), .val (.int (1 : Int32)), .val (.int (own_v1a1_220 i2 b0 b1 b2 b3 b4)), .val (.int (own_j1a1_161_L6 i2 b0 b1 b2 b3 b4)), .val (.int (own_j1a1_161_L7 i2 b0 b1 b2 b3 b4)), .val (.int (1 : Int32)), .val (.int (own_v1a1_191 i2 b0 b1 b2 b3 b4))] [])) _
                refine XS.sipush XJ16.here hx rfl (hb hby own_d1_222) ?_
                show Steps p.tables e below (TJ16.setTop (mkF m 225 #[.val (.ref r0), .val (.int (1 : Int32)), .val (.int i2), .val (.int (own_v1a1_7 i2 b0 b1 b2 b3 b4)), .val (.int (1 : Int32)), .val (.int (own_v1a1_220 i2 b0 b1 b2 b3 b4)), .val (.int (own_j1a1_161_L6 i2 b0 b1 b2 b3 b4)), .val (.int (own_j1a1_161_L7 i2 b0 b1 b2 b3 b4)), .val (.int (1 : Int32)), .val (.int (own_v1a1_191 i2 b0 b1 b2 b3 b4))] [(.int (128 : Int32))])) _
                refine XS.istore XJ16.here hx rfl (hb hby own_d1_225) rfl (l' := #[.val (.ref r0), .val (.int (1 : Int32)), .val (.int i2), .val (.int (own_v1a1_7 i2 b0 b1 b2 b3 b4)), .val (.int (1 : Int32)), .val (.int (own_v1a1_220 i2 b0 b1 b2 b3 b4)), .val (.int (128 : Int32)), .val (.int (own_j1a1_161_L7 i2 b0 b1 b2 b3 b4)), .val (.int (1 : Int32)), .val (.int (own_v1a1_191 i2 b0 b1 b2 b3 b4))]) rfl ?_
                show Steps p.tables e below (TJ16.setTop (mkF m 227 #[.val (.ref r0), .val (.int (1 : Int32)), .val (.int i2), .val (.int (own_v1a1_7 i2 b0 b1 b2 b3 b4)), .val (.int (1 : Int32)), .val (.int (own_v1a1_220 i2 b0 b1 b2 b3 b4)), .val (.int (128 : Int32)), .val (.int (own_j1a1_161_L7 i2 b0 b1 b2 b3 b4)), .val (.int (1 : Int32)), .val (.int (own_v1a1_191 i2 b0 b1 b2 b3 b4))] [])) _
                refine XS.sipush XJ16.here hx rfl (hb hby own_d1_227) ?_
                show Steps p.tables e below (TJ16.setTop (mkF m 230 #[.val (.ref r0), .val (.int (1 : Int32)), .val (.int i2), .val (.int (own_v1a1_7 i2 b0 b1 b2 b3 b4)), .val (.int (1 : Int32)), .val (.int (own_v1a1_220 i2 b0 b1 b2 b3 b4)), .val (.int (128 : Int32)), .val (.int (own_j1a1_161_L7 i2 b0 b1 b2 b3 b4)), .val (.int (1 : Int32)), .val (.int (own_v1a1_191 i2 b0 b1 b2 b3 b4))] [(.int (191 : Int32))])) _
                refine XS.istore XJ16.here hx rfl (hb hby own_d1_230) rfl (l' := #[.val (.ref r0), .val (.int (1 : Int32)), .val (.int i2), .val (.int (own_v1a1_7 i2 b0 b1 b2 b3 b4)), .val (.int (1 : Int32)), .val (.int (own_v1a1_220 i2 b0 b1 b2 b3 b4)), .val (.int (128 : Int32)), .val (.int (191 : Int32)), .val (.int (1 : Int32)), .val (.int (own_v1a1_191 i2 b0 b1 b2 b3 b4))]) rfl ?_
                show Steps p.tables e below (TJ16.setTop (mkF m 232 #[.val (.ref r0), .val (.int (1 : Int32)), .val (.int i2), .val (.int (own_v1a1_7 i2 b0 b1 b2 b3 b4)), .val (.int (1 : Int32)), .val (.int (own_v1a1_220 i2 b0 b1 b2 b3 b4)), .val (.int (128 : Int32)), .val (.int (191 : Int32)), .val (.int (1 : Int32)), .val (.int (own_v1a1_191 i2 b0 b1 b2 b3 b4))] [])) _
                refine XS.iinc XJ16.here hx rfl (hb hby own_d1_232) rfl (l' := #[.val (.ref r0), .val (.int (1 : Int32)), .val (.int i2), .val (.int (own_v1a1_7 i2 b0 b1 b2 b3 b4)), .val (.int (1 : Int32)), .val (.int (own_v1a1_220 i2 b0 b1 b2 b3 b4)), .val (.int (128 : Int32)), .val (.int (191 : Int32)), .val (.int (2 : Int32)), .val (.int (own_v1a1_191 i2 b0 b1 b2 b3 b4))]) rfl ?_
                show Steps p.tables e below (TJ16.setTop (mkF m 235 #[.val (.ref r0), .val (.int (1 : Int32)), .val (.int i2), .val (.int (own_v1a1_7 i2 b0 b1 b2 b3 b4)), .val (.int (1 : Int32)), .val (.int (own_v1a1_220 i2 b0 b1 b2 b3 b4)), .val (.int (128 : Int32)), .val (.int (191 : Int32)), .val (.int (2 : Int32)), .val (.int (own_v1a1_191 i2 b0 b1 b2 b3 b4))] [])) _
                refine XS.goto XJ16.here hx rfl (pc0 := 235) (pc' := 174) rfl (hb hby own_d1_235) (by decide) (by decide) ?_
                show Steps p.tables e below (TJ16.setTop (mkF m 174 #[.val (.ref r0), .val (.int (1 : Int32)), .val (.int i2), .val (.int (own_v1a1_7 i2 b0 b1 b2 b3 b4)), .val (.int (1 : Int32)), .val (.int (own_v1a1_220 i2 b0 b1 b2 b3 b4)), .val (.int (128 : Int32)), .val (.int (191 : Int32)), .val (.int (2 : Int32)), .val (.int (own_v1a1_191 i2 b0 b1 b2 b3 b4))] [])) _
                refine XS.iload XJ16.here hx rfl (hb hby own_d1_174) rfl ?_
                show Steps p.tables e below (TJ16.setTop (mkF m 176 #[.val (.ref r0), .val (.int (1 : Int32)), .val (.int i2), .val (.int (own_v1a1_7 i2 b0 b1 b2 b3 b4)), .val (.int (1 : Int32)), .val (.int (own_v1a1_220 i2 b0 b1 b2 b3 b4)), .val (.int (128 : Int32)), .val (.int (191 : Int32)), .val (.int (2 : Int32)), .val (.int (own_v1a1_191 i2 b0 b1 b2 b3 b4))] [(.int (2 : Int32))])) _
                refine XS.iload XJ16.here hx rfl (hb hby own_d1_176) rfl ?_
                exact kt
              refine ownE.go (T' := TJ16) (f' := (mkF m 238 #[.val (.ref r0), .val (.int (1 : Int32)), .val (.int i2), .val (.int (own_v1a1_7 i2 b0 b1 b2 b3 b4)), .val (.int (1 : Int32)), .val (.int (own_v1a1_220 i2 b0 b1 b2 b3 b4)), .val (.int (128 : Int32)), .val (.int (191 : Int32)), .val (.int (2 : Int32)), .val (.int (own_v1a1_191 i2 b0 b1 b2 b3 b4))] [])) (fun t kt => XS.icmpYes (g := (mkF m 178 #[.val (.ref r0), .val (.int (1 : Int32)), .val (.int i2), .val (.int (own_v1a1_7 i2 b0 b1 b2 b3 b4)), .val (.int (1 : Int32)), .val (.int (own_v1a1_220 i2 b0 b1 b2 b3 b4)), .val (.int (128 : Int32)), .val (.int (191 : Int32)), .val (.int (2 : Int32)), .val (.int (own_v1a1_191 i2 b0 b1 b2 b3 b4))] [(.int (1 : Int32)), (.int (2 : Int32))])) XJ16.here hx rfl (pc0 := 178) (pc' := 238) rfl (hb hby own_d1_178) rfl (Jvm.Free.XT.ii_gt_t (by decide)) (by decide) (by decide) kt) ?_
              refine ownE.go (T' := TJ16) (f' := (mkF m 240 #[.val (.ref r0), .val (.int (1 : Int32)), .val (.int i2), .val (.int (own_v1a1_7 i2 b0 b1 b2 b3 b4)), .val (.int (1 : Int32)), .val (.int (own_v1a1_220 i2 b0 b1 b2 b3 b4)), .val (.int (128 : Int32)), .val (.int (191 : Int32)), .val (.int (2 : Int32)), .val (.int (own_v1a1_191 i2 b0 b1 b2 b3 b4))] [(.int (own_v1a1_220 i2 b0 b1 b2 b3 b4))])) (fun t kt => ?_) ?_
              · show Steps p.tables e below (TJ16.setTop (mkF m 238 #[.val (.ref r0), .val (.int (1 : Int32)), .val (.int i2), .val (.int (own_v1a1_7 i2 b0 b1 b2 b3 b4)), .val (.int (1 : Int32)), .val (.int (own_v1a1_220 i2 b0 b1 b2 b3 b4)), .val (.int (128 : Int32)), .val (.int (191 : Int32)), .val (.int (2 : Int32)), .val (.int (own_v1a1_191 i2 b0 b1 b2 b3 b4))] [])) _
                refine XS.iload XJ16.here hx rfl (hb hby own_d1_238) rfl ?_
                exact kt
              refine ownE.retI XJ16 hx hlk hret (hb hby own_d1_240) ?_ (by decide) (by decide)
              show own_Q1a1 Z r0 i2 kk b0 b1 b2 b3 b4 h0 n0 _ TJ16.heap _
              rw [eJ16]
              exact ⟨(by rw [hv16, own_r1a1_161, if_pos hc17, if_pos hk18, if_neg hc20, if_neg hc21] <;> first | rfl | decide), NJ16, rfl⟩
        · -- (own_j1a1_161_L4 i2 b0 b1 b2 b3 b4) = 2
          have hf18 : (mkF m 171 #[.val (.ref r0), .val (.int (1 : Int32)), .val (.int i2), .val (.int (own_v1a1_7 i2 b0 b1 b2 b3 b4)), .val (.int (own_j1a1_161_L4 i2 b0 b1 b2 b3 b4)), .val (.int (own_j1a1_161_L5 i2 b0 b1 b2 b3 b4)), .val (.int (own_j1a1_161_L6 i2 b0 b1 b2 b3 b4)), .val (.int (own_j1a1_161_L7 i2 b0 b1 b2 b3 b4)), .unset, .unset] []) = (mkF m 171 #[.val (.ref r0), .val (.int (1 : Int32)), .val (.int i2), .val (.int (own_v1a1_7 i2 b0 b1 b2 b3 b4)), .val (.int (2 : Int32)), .val (.int (own_j1a1_161_L5 i2 b0 b1 b2 b3 b4)), .val (.int (own_j1a1_161_L6 i2 b0 b1 b2 b3 b4)), .val (.int (own_j1a1_161_L7 i2 b0 b1 b2 b3 b4)), .unset, .unset] []) := by rw [hk18]
          rw [hf18]
          have hk18_0 : ¬ (own_j1a1_161_L4 i2 b0 b1 b2 b3 b4) = (1 : Int32) := by rw [hk18]; decide
          refine ownE.go (T' := TJ16) (f' := (mkF m 178 #[.val (.ref r0), .val (.int (1 : Int32)), .val (.int i2), .val (.int (own_v1a1_7 i2 b0 b1 b2 b3 b4)), .val (.int (2 : Int32)), .val (.int (own_j1a1_161_L5 i2 b0 b1 b2 b3 b4)), .val (.int (own_j1a1_161_L6 i2 b0 b1 b2 b3 b4)), .val (.int (own_j1a1_161_L7 i2 b0 b1 b2 b3 b4)), .val (.int (1 : Int32)), .unset] [(.int (2 : Int32)), (.int (1 : Int32))])) (fun t kt => ?_) ?_
          · show Steps p.tables e below (TJ16.setTop (mkF m 171 #[.val (.ref r0), .val (.int (1 : Int32)), .val (.int i2), .val (.int (own_v1a1_7 i2 b0 b1 b2 b3 b4)), .val (.int (2 : Int32)), .val (.int (own_j1a1_161_L5 i2 b0 b1 b2 b3 b4)), .val (.int (own_j1a1_161_L6 i2 b0 b1 b2 b3 b4)), .val (.int (own_j1a1_161_L7 i2 b0 b1 b2 b3 b4)), .unset, .unset] [])) _
            refine XS.iconst XJ16.here hx rfl (hb hby own_d1_171) ?_
            show Steps p.tables e below (TJ16.setTop (mkF m 172 #[.val (.ref r0), .val (.int (1 : Int32)), .val (.int i2), .val (.int (own_v1a1_7 i2 b0 b1 b2 b3 b4)), .val (.int (2 : Int32)), .val (.int (own_j1a1_161_L5 i2 b0 b1 b2 b3 b4)), .val (.int (own_j1a1_161_L6 i2 b0 b1 b2 b3 b4)), .val (.int (own_j1a1_161_L7 i2 b0 b1 b2 b3 b4)), .unset, .unset] [(.int (1 : Int32))])) _
            refine XS.istore XJ16.here hx rfl (hb hby own_d1_172) rfl (l' := #[.val (.ref r0), .val (.int (1 : Int32)), .val (.int i2), .val (.int (own_v1a1_7 i2 b0 b1 b2 b3 b4)), .val (.int (2 : Int32)), .val (.int (own_j1a1_161_L5 i2 b0 b1 b2 b3 b4)), .val (.int (own_j1a1_161_L6 i2 b0 b1 b2 b3 b4)), .val (.int (own_j1a1_161_L7 i2 b0 b1 b2 b3 b4)), .val (.int (1 : Int32)), .unset]) rfl ?_
            show Steps p.tables e below (TJ16.setTop (mkF m 174 #[.val (.ref r0), .val (.int (1 : Int32)), .val (.int i2), .val (.int (own_v1a1_7 i2 b0 b1 b2 b3 b4)), .val (.int (2 : Int32)), .val (.int (own_j1a1_161_L5 i2 b0 b1 b2 b3 b4)), .val (.int (own_j1a1_161_L6 i2 b0 b1 b2 b3 b4)), .val (.int (own_j1a1_161_L7 i2 b0 b1 b2 b3 b4)), .val (.int (1 : Int32)), .unset] [])) _
            refine XS.iload XJ16.here hx rfl (hb hby own_d1_174) rfl ?_
            show Steps p.tables e below (TJ16.setTop (mkF m 176 #[.val (.ref r0), .val (.int (1 : Int32)), .val (.int i2), .val (.int (own_v1a1_7 i2 b0 b1 b2 b3 b4)), .val (.int (2 : Int32)), .val (.int (own_j1a1_161_L5 i2 b0 b1 b2 b3 b4)), .val (.int (own_j1a1_161_L6 i2 b0 b1 b2 b3 b4)), .val (.int (own_j1a1_161_L7 i2 b0 b1 b2 b3 b4)), .val (.int (1 : Int32)), .unset] [(.int (1 : Int32))])) _
            refine XS.iload XJ16.here hx rfl (hb hby own_d1_176) rfl ?_
            exact kt
          refine ownE.go (T' := TJ16) (f' := (mkF m 181 #[.val (.ref r0), .val (.int (1 : Int32)), .val (.int i2), .val (.int (own_v1a1_7 i2 b0 b1 b2 b3 b4)), .val (.int (2 : Int32)), .val (.int (own_j1a1_161_L5 i2 b0 b1 b2 b3 b4)), .val (.int (own_j1a1_161_L6 i2 b0 b1 b2 b3 b4)), .val (.int (own_j1a1_161_L7 i2 b0 b1 b2 b3 b4)), .val (.int (1 : Int32)), .unset] [])) (fun t kt => XS.icmpNo (g := (mkF m 178 #[.val (.ref r0), .val (.int (1 : Int32)), .val (.int i2), .val (.int (own_v1a1_7 i2 b0 b1 b2 b3 b4)), .val (.int (2 : Int32)), .val (.int (own_j1a1_161_L5 i2 b0 b1 b2 b3 b4)), .val (.int (own_j1a1_161_L6 i2 b0 b1 b2 b3 b4)), .val (.int (own_j1a1_161_L7 i2 b0 b1 b2 b3 b4)), .val (.int (1 : Int32)), .unset] [(.int (2 : Int32)), (.int (1 : Int32))])) XJ16.here hx rfl (hb hby own_d1_178) rfl (Jvm.Free.XT.ii_gt_f (by decide)) kt) ?_
          refine ownE.go (T' := TJ16) (f' := (mkF m 186 #[.val (.ref r0), .val (.int (1 : Int32)), .val (.int i2), .val (.int (own_v1a1_7 i2 b0 b1 b2 b3 b4)), .val (.int (2 : Int32)), .val (.int (own_j1a1_161_L5 i2 b0 b1 b2 b3 b4)), .val (.int (own_j1a1_161_L6 i2 b0 b1 b2 b3 b4)), .val (.int (own_j1a1_161_L7 i2 b0 b1 b2 b3 b4)), .val (.int (1 : Int32)), .unset] [(.int (2 : Int32)), (.ref r0)])) (fun t kt => ?_) ?_
          · show Steps p.tables e below (TJ16.setTop (mkF m 181 #[.val (.ref r0), .val (.int (1 : Int32)), .val (.int i2), .val (.int (own_v1a1_7 i2 b0 b1 b2 b3 b4)), .val (.int (2 : Int32)), .val (.int (own_j1a1_161_L5 i2 b0 b1 b2 b3 b4)), .val (.int (own_j1a1_161_L6 i2 b0 b1 b2 b3 b4)), .val (.int (own_j1a1_161_L7 i2 b0 b1 b2 b3 b4)), .val (.int (1 : Int32)), .unset] [])) _
            refine XS.aloadN XJ16.here hx rfl (hb hby own_d1_181) rfl rfl ?_
            show Steps p.tables e below (TJ16.setTop (mkF m 182 #[.val (.ref r0), .val (.int (1 : Int32)), .val (.int i2), .val (.int (own_v1a1_7 i2 b0 b1 b2 b3 b4)), .val (.int (2 : Int32)), .val (.int (own_j1a1_161_L5 i2 b0 b1 b2 b3 b4)), .val (.int (own_j1a1_161_L6 i2 b0 b1 b2 b3 b4)), .val (.int (own_j1a1_161_L7 i2 b0 b1 b2 b3 b4)), .val (.int (1 : Int32)), .unset] [(.ref r0)])) _
            refine XS.iloadN XJ16.here hx rfl (hb hby own_d1_182) rfl ?_
            show Steps p.tables e below (TJ16.setTop (mkF m 183 #[.val (.ref r0), .val (.int (1 : Int32)), .val (.int i2), .val (.int (own_v1a1_7 i2 b0 b1 b2 b3 b4)), .val (.int (2 : Int32)), .val (.int (own_j1a1_161_L5 i2 b0 b1 b2 b3 b4)), .val (.int (own_j1a1_161_L6 i2 b0 b1 b2 b3 b4)), .val (.int (own_j1a1_161_L7 i2 b0 b1 b2 b3 b4)), .val (.int (1 : Int32)), .unset] [(.int (1 : Int32)), (.ref r0)])) _
            refine XS.iload XJ16.here hx rfl (hb hby own_d1_183) rfl ?_
            show Steps p.tables e below (TJ16.setTop (mkF m 185 #[.val (.ref r0), .val (.int (1 : Int32)), .val (.int i2), .val (.int (own_v1a1_7 i2 b0 b1 b2 b3 b4)), .val (.int (2 : Int32)), .val (.int (own_j1a1_161_L5 i2 b0 b1 b2 b3 b4)), .val (.int (own_j1a1_161_L6 i2 b0 b1 b2 b3 b4)), .val (.int (own_j1a1_161_L7 i2 b0 b1 b2 b3 b4)), .val (.int (1 : Int32)), .unset] [(.int (1 : Int32)), (.int (1 : Int32)), (.ref r0)])) _
            refine XS.iadd XJ16.here hx rfl (hb hby own_d1_185) rfl ?_
            exact kt
          obtain ⟨cl22, Ar22, q22, S22, Nn22, Hh22, G22⟩ := id P0
          refine ownE.go (T' := TJ16) (f' := (mkF m 187 #[.val (.ref r0), .val (.int (1 : Int32)), .val (.int i2), .val (.int (own_v1a1_7 i2 b0 b1 b2 b3 b4)), .val (.int (2 : Int32)), .val (.int (own_j1a1_161_L5 i2 b0 b1 b2 b3 b4)), .val (.int (own_j1a1_161_L6 i2 b0 b1 b2 b3 b4)), .val (.int (own_j1a1_161_L7 i2 b0 b1 b2 b3 b4)), .val (.int (1 : Int32)), .unset] [(.int b2)])) (fun t kt => XJ16.baloadBytes hx (j := (2 : Int32)) (v := (.int b2)) (by rw [eJ16]; exact Ar22.1) (State.isArrayOf_alike hZ.alike Ar22.2.1) Ar22.2.2 (inb_of S22 ⟨by decide, by decide⟩) (Hh22.at (inb_of S22 ⟨by decide, by decide⟩) rfl) (g := (mkF m 186 #[.val (.ref r0), .val (.int (1 : Int32)), .val (.int i2), .val (.int (own_v1a1_7 i2 b0 b1 b2 b3 b4)), .val (.int (2 : Int32)), .val (.int (own_j1a1_161_L5 i2 b0 b1 b2 b3 b4)), .val (.int (own_j1a1_161_L6 i2 b0 b1 b2 b3 b4)), .val (.int (own_j1a1_161_L7 i2 b0 b1 b2 b3 b4)), .val (.int (1 : Int32)), .unset] [(.int (2 : Int32)), (.ref r0)])) rfl rfl (hb hby own_d1_186) _ kt) ?_
          refine ownE.go (T' := TJ16) (f' := (mkF m 197 #[.val (.ref r0), .val (.int (1 : Int32)), .val (.int i2), .val (.int (own_v1a1_7 i2 b0 b1 b2 b3 b4)), .val (.int (2 : Int32)), .val (.int (own_j1a1_161_L5 i2 b0 b1 b2 b3 b4)), .val (.int (own_j1a1_161_L6 i2 b0 b1 b2 b3 b4)), .val (.int (own_j1a1_161_L7 i2 b0 b1 b2 b3 b4)), .val (.int (1 : Int32)), .val (.int (own_v1a1_191_2 i2 b0 b1 b2 b3 b4))] [(.int (own_j1a1_161_L6 i2 b0 b1 b2 b3 b4)), (.int (own_v1a1_191_2 i2 b0 b1 b2 b3 b4))])) (fun t kt => ?_) ?_
          · show Steps p.tables e below (TJ16.setTop (mkF m 187 #[.val (.ref r0), .val (.int (1 : Int32)), .val (.int i2), .val (.int (own_v1a1_7 i2 b0 b1 b2 b3 b4)), .val (.int (2 : Int32)), .val (.int (own_j1a1_161_L5 i2 b0 b1 b2 b3 b4)), .val (.int (own_j1a1_161_L6 i2 b0 b1 b2 b3 b4)), .val (.int (own_j1a1_161_L7 i2 b0 b1 b2 b3 b4)), .val (.int (1 : Int32)), .unset] [(.int b2)])) _
            refine XS.sipush XJ16.here hx rfl (hb hby own_d1_187) ?_
            show Steps p.tables e below (TJ16.setTop (mkF m 190 #[.val (.ref r0), .val (.int (1 : Int32)), .val (.int i2), .val (.int (own_v1a1_7 i2 b0 b1 b2 b3 b4)), .val (.int (2 : Int32)), .val (.int (own_j1a1_161_L5 i2 b0 b1 b2 b3 b4)), .val (.int (own_j1a1_161_L6 i2 b0 b1 b2 b3 b4)), .val (.int (own_j1a1_161_L7 i2 b0 b1 b2 b3 b4)), .val (.int (1 : Int32)), .unset] [(.int (255 : Int32)), (.int b2)])) _
            refine XS.iand XJ16.here hx rfl (hb hby own_d1_190) rfl ?_
            show Steps p.tables e below (TJ16.setTop (mkF m 191 #[.val (.ref r0), .val (.int (1 : Int32)), .val (.int i2), .val (.int (own_v1a1_7 i2 b0 b1 b2 b3 b4)), .val (.int (2 : Int32)), .val (.int (own_j1a1_161_L5 i2 b0 b1 b2 b3 b4)), .val (.int (own_j1a1_161_L6 i2 b0 b1 b2 b3 b4)), .val (.int (own_j1a1_161_L7 i2 b0 b1 b2 b3 b4)), .val (.int (1 : Int32)), .unset] [(.int (b2 &&& (255 : Int32)))])) _
            refine XS.istore XJ16.here hx rfl (hb hby own_d1_191) rfl (l' := #[.val (.ref r0), .val (.int (1 : Int32)), .val (.int i2), .val (.int (own_v1a1_7 i2 b0 b1 b2 b3 b4)), .val (.int (2 : Int32)), .val (.int (own_j1a1_161_L5 i2 b0 b1 b2 b3 b4)), .val (.int (own_j1a1_161_L6 i2 b0 b1 b2 b3 b4)), .val (.int (own_j1a1_161_L7 i2 b0 b1 b2 b3 b4)), .val (.int (1 : Int32)), .val (.int (own_v1a1_191_2 i2 b0 b1 b2 b3 b4))]) rfl ?_
            show Steps p.tables e below (TJ16.setTop (mkF m 193 #[.val (.ref r0), .val (.int (1 : Int32)), .val (.int i2), .val (.int (own_v1a1_7 i2 b0 b1 b2 b3 b4)), .val (.int (2 : Int32)), .val (.int (own_j1a1_161_L5 i2 b0 b1 b2 b3 b4)), .val (.int (own_j1a1_161_L6 i2 b0 b1 b2 b3 b4)), .val (.int (own_j1a1_161_L7 i2 b0 b1 b2 b3 b4)), .val (.int (1 : Int32)), .val (.int (own_v1a1_191_2 i2 b0 b1 b2 b3 b4))] [])) _
            refine XS.iload XJ16.here hx rfl (hb hby own_d1_193) rfl ?_
            show Steps p.tables e below (TJ16.setTop (mkF m 195 #[.val (.ref r0), .val (.int (1 : Int32)), .val (.int i2), .val (.int (own_v1a1_7 i2 b0 b1 b2 b3 b4)), .val (.int (2 : Int32)), .val (.int (own_j1a1_161_L5 i2 b0 b1 b2 b3 b4)), .val (.int (own_j1a1_161_L6 i2 b0 b1 b2 b3 b4)), .val (.int (own_j1a1_161_L7 i2 b0 b1 b2 b3 b4)), .val (.int (1 : Int32)), .val (.int (own_v1a1_191_2 i2 b0 b1 b2 b3 b4))] [(.int (own_v1a1_191_2 i2 b0 b1 b2 b3 b4))])) _
            refine XS.iload XJ16.here hx rfl (hb hby own_d1_195) rfl ?_
            exact kt
          by_cases hc23 : (own_v1a1_191_2 i2 b0 b1 b2 b3 b4) < (own_j1a1_161_L6 i2 b0 b1 b2 b3 b4)
          · -- pc 197
            refine ownE.go (T' := TJ16) (f' := (mkF m 207 #[.val (.ref r0), .val (.int (1 : Int32)), .val (.int i2), .val (.int (own_v1a1_7 i2 b0 b1 b2 b3 b4)), .val (.int (2 : Int32)), .val (.int (own_j1a1_161_L5 i2 b0 b1 b2 b3 b4)), .val (.int (own_j1a1_161_L6 i2 b0 b1 b2 b3 b4)), .val (.int (own_j1a1_161_L7 i2 b0 b1 b2 b3 b4)), .val (.int (1 : Int32)), .val (.int (own_v1a1_191_2 i2 b0 b1 b2 b3 b4))] [])) (fun t kt => XS.icmpYes (g := (mkF m 197 #[.val (.ref r0), .val (.int (1 : Int32)), .val (.int i2), .val (.int (own_v1a1_7 i2 b0 b1 b2 b3 b4)), .val (.int (2 : Int32)), .val (.int (own_j1a1_161_L5 i2 b0 b1 b2 b3 b4)), .val (.int (own_j1a1_161_L6 i2 b0 b1 b2 b3 b4)), .val (.int (own_j1a1_161_L7 i2 b0 b1 b2 b3 b4)), .val (.int (1 : Int32)), .val (.int (own_v1a1_191_2 i2 b0 b1 b2 b3 b4))] [(.int (own_j1a1_161_L6 i2 b0 b1 b2 b3 b4)), (.int (own_v1a1_191_2 i2 b0 b1 b2 b3 b4))])) XJ16.here hx rfl (pc0 := 197) (pc' := 207) rfl (hb hby own_d1_197) rfl (Jvm.Free.XT.ii_lt_t hc23) (by decide) (by decide) kt) ?_
            refine ownE.go (T' := TJ16) (f' := (mkF m 208 #[.val (.ref r0), .val (.int (1 : Int32)), .val (.int i2), .val (.int (own_v1a1_7 i2 b0 b1 b2 b3 b4)), .val (.int (2 : Int32)), .val (.int (own_j1a1_161_L5 i2 b0 b1 b2 b3 b4)), .val (.int (own_j1a1_161_L6 i2 b0 b1 b2 b3 b4)), .val (.int (own_j1a1_161_L7 i2 b0 b1 b2 b3 b4)), .val (.int (1 : Int32)), .val (.int (own_v1a1_191_2 i2 b0 b1 b2 b3 b4))] [(.int (-1 : Int32))])) (fun t kt => ?_) ?_
            · show Steps p.tables e below (TJ16.setTop (mkF m 207 #[.val (.ref r0), .val (.int (1 : Int32)), .val (.int i2), .val (.int (own_v1a1_7 i2 b0 b1 b2 b3 b4)), .val (.int (2 : Int32)), .val (.int (own_j1a1_161_L5 i2 b0 b1 b2 b3 b4)), .val (.int (own_j1a1_161_L6 i2 b0 b1 b2 b3 b4)), .val (.int (own_j1a1_161_L7 i2 b0 b1 b2 b3 b4)), .val (.int (1 : Int32)), .val (.int (own_v1a1_191_2 i2 b0 b1 b2 b3 b4))] [])) _
              refine XS.iconst XJ16.here hx rfl (hb hby own_d1_207) ?_
              exact kt
            refine ownE.retI XJ16 hx hlk hret (hb hby own_d1_208) ?_ (by decide) (by decide)
            show own_Q1a1 Z r0 i2 kk b0 b1 b2 b3 b4 h0 n0 _ TJ16.heap _
            rw [eJ16]
            exact ⟨(by rw [hv16, own_r1a1_161, if_pos hc17, if_neg hk18_0, if_pos hk18, if_pos hc23] <;> first | rfl | decide), NJ16, rfl⟩
          · -- pc 197
            refine ownE.go (T' := TJ16) (f' := (mkF m 200 #[.val (.ref r0), .val (.int (1 : Int32)), .val (.int i2), .val (.int (own_v1a1_7 i2 b0 b1 b2 b3 b4)), .val (.int (2 : Int32)), .val (.int (own_j1a1_161_L5 i2 b0 b1 b2 b3 b4)), .val (.int (own_j1a1_161_L6 i2 b0 b1 b2 b3 b4)), .val (.int (own_j1a1_161_L7 i2 b0 b1 b2 b3 b4)), .val (.int (1 : Int32)), .val (.int (own_v1a1_191_2 i2 b0 b1 b2 b3 b4))] [])) (fun t kt => XS.icmpNo (g := (mkF m 197 #[.val (.ref r0), .val (.int (1 : Int32)), .val (.int i2), .val (.int (own_v1a1_7 i2 b0 b1 b2 b3 b4)), .val (.int (2 : Int32)), .val (.int (own_j1a1_161_L5 i2 b0 b1 b2 b3 b4)), .val (.int (own_j1a1_161_L6 i2 b0 b1 b2 b3 b4)), .val (.int (own_j1a1_161_L7 i2 b0 b1 b2 b3 b4)), .val (.int (1 : Int32)), .val (.int (own_v1a1_191_2 i2 b0 b1 b2 b3 b4))] [(.int (own_j1a1_161_L6 i2 b0 b1 b2 b3 b4)), (.int (own_v1a1_191_2 i2 b0 b1 b2 b3 b4))])) XJ16.here hx rfl (hb hby own_d1_197) rfl (Jvm.Free.XT.ii_lt_f hc23) kt) ?_
            refine ownE.go (T' := TJ16) (f' := (mkF m 204 #[.val (.ref r0), .val (.int (1 : Int32)), .val (.int i2), .val (.int (own_v1a1_7 i2 b0 b1 b2 b3 b4)), .val (.int (2 : Int32)), .val (.int (own_j1a1_161_L5 i2 b0 b1 b2 b3 b4)), .val (.int (own_j1a1_161_L6 i2 b0 b1 b2 b3 b4)), .val (.int (own_j1a1_161_L7 i2 b0 b1 b2 b3 b4)), .val (.int (1 : Int32)), .val (.int (own_v1a1_191_2 i2 b0 b1 b2 b3 b4))] [(.int (own_j1a1_161_L7 i2 b0 b1 b2 b3 b4)), (.int (own_v1a1_191_2 i2 b0 b1 b2 b3 b4))])) (fun t kt => ?_) ?_
            · show Steps p.tables e below (TJ16.setTop (mkF m 200 #[.val (.ref r0), .val (.int (1 : Int32)), .val (.int i2), .val (.int (own_v1a1_7 i2 b0 b1 b2 b3 b4)), .val (.int (2 : Int32)), .val (.int (own_j1a1_161_L5 i2 b0 b1 b2 b3 b4)), .val (.int (own_j1a1_161_L6 i2 b0 b1 b2 b3 b4)), .val (.int (own_j1a1_161_L7 i2 b0 b1 b2 b3 b4)), .val (.int (1 : Int32)), .val (.int (own_v1a1_191_2 i2 b0 b1 b2 b3 b4))] [])) _
              refine XS.iload XJ16.here hx rfl (hb hby own_d1_200) rfl ?_
              show Steps p.tables e below (TJ16.setTop (mkF m 202 #[.val (.ref r0), .val (.int (1 : Int32)), .val (.int i2), .val (.int (own_v1a1_7 i2 b0 b1 b2 b3 b4)), .val (.int (2 : Int32)), .val (.int (own_j1a1_161_L5 i2 b0 b1 b2 b3 b4)), .val (.int (own_j1a1_161_L6 i2 b0 b1 b2 b3 b4)), .val (.int (own_j1a1_161_L7 i2 b0 b1 b2 b3 b4)), .val (.int (1 : Int32)), .val (.int (own_v1a1_191_2 i2 b0 b1 b2 b3 b4))] [(.int (own_v1a1_191_2 i2 b0 b1 b2 b3 b4))])) _
              refine XS.iload XJ16.here hx rfl (hb hby own_d1_202) rfl ?_
              exact kt
            by_cases hc24 : (own_j1a1_161_L7 i2 b0 b1 b2 b3 b4) < (own_v1a1_191_2 i2 b0 b1 b2 b3 b4)
            · -- pc 204
              refine ownE.go (T' := TJ16) (f' := (mkF m 207 #[.val (.ref r0), .val (.int (1 : Int32)), .val (.int i2), .val (.int (own_v1a1_7 i2 b0 b1 b2 b3 b4)), .val (.int (2 : Int32)), .val (.int (own_j1a1_161_L5 i2 b0 b1 b2 b3 b4)), .val (.int (own_j1a1_161_L6 i2 b0 b1 b2 b3 b4)), .val (.int (own_j1a1_161_L7 i2 b0 b1 b2 b3 b4)), .val (.int (1 : Int32)), .val (.int (own_v1a1_191_2 i2 b0 b1 b2 b3 b4))] [])) (fun t kt => XS.icmpNo (g := (mkF m 204 #[.val (.ref r0), .val (.int (1 : Int32)), .val (.int i2), .val (.int (own_v1a1_7 i2 b0 b1 b2 b3 b4)), .val (.int (2 : Int32)), .val (.int (own_j1a1_161_L5 i2 b0 b1 b2 b3 b4)), .val (.int (own_j1a1_161_L6 i2 b0 b1 b2 b3 b4)), .val (.int (own_j1a1_161_L7 i2 b0 b1 b2 b3 b4)), .val (.int (1 : Int32)), .val (.int (own_v1a1_191_2 i2 b0 b1 b2 b3 b4))] [(.int (own_j1a1_161_L7 i2 b0 b1 b2 b3 b4)), (.int (own_v1a1_191_2 i2 b0 b1 b2 b3 b4))])) XJ16.here hx rfl (hb hby own_d1_204) rfl (Jvm.Free.XT.ii_le_f hc24) kt) ?_
              refine ownE.go (T' := TJ16) (f' := (mkF m 208 #[.val (.ref r0), .val (.int (1 : Int32)), .val (.int i2), .val (.int (own_v1a1_7 i2 b0 b1 b2 b3 b4)), .val (.int (2 : Int32)), .val (.int (own_j1a1_161_L5 i2 b0 b1 b2 b3 b4)), .val (.int (own_j1a1_161_L6 i2 b0 b1 b2 b3 b4)), .val (.int (own_j1a1_161_L7 i2 b0 b1 b2 b3 b4)), .val (.int (1 : Int32)), .val (.int (own_v1a1_191_2 i2 b0 b1 b2 b3 b4))] [(.int (-1 : Int32))])) (fun t kt => ?_) ?_
              · show Steps p.tables e below (TJ16.setTop (mkF m 207 #[.val (.ref r0), .val (.int (1 : Int32)), .val (.int i2), .val (.int (own_v1a1_7 i2 b0 b1 b2 b3 b4)), .val (.int (2 : Int32)), .val (.int (own_j1a1_161_L5 i2 b0 b1 b2 b3 b4)), .val (.int (own_j1a1_161_L6 i2 b0 b1 b2 b3 b4)), .val (.int (own_j1a1_161_L7 i2 b0 b1 b2 b3 b4)), .val (.int (1 : Int32)), .val (.int (own_v1a1_191_2 i2 b0 b1 b2 b3 b4))] [])) _
                refine XS.iconst XJ16.here hx rfl (hb hby own_d1_207) ?_
                exact kt
              refine ownE.retI XJ16 hx hlk hret (hb hby own_d1_208) ?_ (by decide) (by decide)
              show own_Q1a1 Z r0 i2 kk b0 b1 b2 b3 b4 h0 n0 _ TJ16.heap _
              rw [eJ16]
              exact ⟨(by rw [hv16, own_r1a1_161, if_pos hc17, if_neg hk18_0, if_pos hk18, if_neg hc23, if_pos hc24] <;> first | rfl | decide), NJ16, rfl⟩
            · -- pc 204
              refine ownE.go (T' := TJ16) (f' := (mkF m 209 #[.val (.ref r0), .val (.int (1 : Int32)), .val (.int i2), .val (.int (own_v1a1_7 i2 b0 b1 b2 b3 b4)), .val (.int (2 : Int32)), .val (.int (own_j1a1_161_L5 i2 b0 b1 b2 b3 b4)), .val (.int (own_j1a1_161_L6 i2 b0 b1 b2 b3 b4)), .val (.int (own_j1a1_161_L7 i2 b0 b1 b2 b3 b4)), .val (.int (1 : Int32)), .val (.int (own_v1a1_191_2 i2 b0 b1 b2 b3 b4))] [])) (fun t kt => XS.icmpYes (g := (mkF m 204 #[.val (.ref r0), .val (.int (1 : Int32)), .val (.int i2), .val (.int (own_v1a1_7 i2 b0 b1 b2 b3 b4)), .val (.int (2 : Int32)), .val (.int (own_j1a1_161_L5 i2 b0 b1 b2 b3 b4)), .val (.int (own_j1a1_161_L6 i2 b0 b1 b2 b3 b4)), .val (.int (own_j1a1_161_L7 i2 b0 b1 b2 b3 b4)), .val (.int (1 : Int32)), .val (.int (own_v1a1_191_2 i2 b0 b1 b2 b3 b4))] [(.int (own_j1a1_161_L7 i2 b0 b1 b2 b3 b4)), (.int (own_v1a1_191_2 i2 b0 b1 b2 b3 b4))])) XJ16.here hx rfl (pc0 := 204) (pc' := 209) rfl (hb hby own_d1_204) rfl (Jvm.Free.XT.ii_le_t hc24) (by decide) (by decide) kt) ?_
              refine ownE.go (T' := TJ16) (f' := (mkF m 178 #[.val (.ref r0), .val (.int (1 : Int32)), .val (.int i2), .val (.int (own_v1a1_7 i2 b0 b1 b2 b3 b4)), .val (.int (2 : Int32)), .val (.int (own_v1a1_220_2 i2 b0 b1 b2 b3 b4)), .val (.int (128 : Int32)), .val (.int (191 : Int32)), .val (.int (2 : Int32)), .val (.int (own_v1a1_191_2 i2 b0 b1 b2 b3 b4))] [(.int (2 : Int32)), (.int (2 : Int32))])) (fun t kt => ?_) ?_
              · show Steps p.tables e below (TJ16.setTop (mkF m 209 #[.val (.ref r0), .val (.int (1 : Int32)), .val (.int i2), .val (.int (own_v1a1_7 i2 b0 b1 b2 b3 b4)), .val (.int (2 : Int32)), .val (.int (own_j1a1_161_L5 i2 b0 b1 b2 b3 b4)), .val (.int (own_j1a1_161_L6 i2 b0 b1 b2 b3 b4)), .val (.int (own_j1a1_161_L7 i2 b0 b1 b2 b3 b4)), .val (.int (1 : Int32)), .val (.int (own_v1a1_191_2 i2 b0 b1 b2 b3 b4))] [])) _
                refine XS.iload XJ16.here hx rfl (hb hby own_d1_209) rfl ?_
                show Steps p.tables e below (TJ16.setTop (mkF m 211 #[.val (.ref r0), .val (.int (1 : Int32)), .val (.int i2), .val (.int (own_v1a1_7 i2 b0 b1 b2 b3 b4)), .val (.int (2 : Int32)), .val (.int (own_j1a1_161_L5 i2 b0 b1 b2 b3 b4)), .val (.int (own_j1a1_161_L6 i2 b0 b1 b2 b3 b4)), .val (.int (own_j1a1_161_L7 i2 b0 b1 b2 b3 b4)), .val (.int (1 : Int32)), .val (.int (own_v1a1_191_2 i2 b0 b1 b2 b3 b4))] [(.int (own_j1a1_161_L5 i2 b0 b1 b2 b3 b4))])) _
                refine XS.bipush XJ16.here hx rfl (hb hby own_d1_211) ?_
                show Steps p.tables e below (TJ16.setTop (mkF m 213 #[.val (.ref r0), .val (.int (1 : Int32)), .val (.int i2), .val (.int (own_v1a1_7 i2 b0 b1 b2 b3 b4)), .val (.int (2 : Int32)), .val (.int (own_j1a1_161_L5 i2 b0 b1 b2 b3 b4)), .val (.int (own_j1a1_161_L6 i2 b0 b1 b2 b3 b4)), .val (.int (own_j1a1_161_L7 i2 b0 b1 b2 b3 b4)), .val (.int (1 : Int32)), .val (.int (own_v1a1_191_2 i2 b0 b1 b2 b3 b4))] [(.int (6 : Int32)), (.int (own_j1a1_161_L5 i2 b0 b1 b2 b3 b4))])) _
                refine XS.ishl XJ16.here hx rfl (hb hby own_d1_213) rfl ?_
                show Steps p.tables e below (TJ16.setTop (mkF m 214 #[.val (.ref r0), .val (.int (1 : Int32)), .val (.int i2), .val (.int (own_v1a1_7 i2 b0 b1 b2 b3 b4)), .val (.int (2 : Int32)), .val (.int (own_j1a1_161_L5 i2 b0 b1 b2 b3 b4)), .val (.int (own_j1a1_161_L6 i2 b0 b1 b2 b3 b4)), .val (.int (own_j1a1_161_L7 i2 b0 b1 b2 b3 b4)), .val (.int (1 : Int32)), .val (.int (own_v1a1_191_2 i2 b0 b1 b2 b3 b4))] [(.int ((own_j1a1_161_L5 i2 b0 b1 b2 b3 b4) <<< ((6 : Int32) &&& 31)))])) _
                refine XS.iload XJ16.here hx rfl (hb hby own_d1_214) rfl ?_
                show Steps p.tables e below (TJ16.setTop (mkF m 216 #[.val (.ref r0), .val (.int (1 : Int32)), .val (.int i2), .val (.int (own_v1a1_7 i2 b0 b1 b2 b3 b4)), .val (.int (2 : Int32)), .val (.int (own_j1a1_161_L5 i2 b0 b1 b2 b3 b4)), .val (.int (own_j1a1_161_L6 i2 b0 b1 b2 b3 b4)), .val (.int (own_j1a1_161_L7 i2 b0 b1 b2 b3 b4)), .val (.int (1 : Int32)), .val (.int (own_v1a1_191_2 i2 b0 b1 b2 b3 b4))] [(.int (own_v1a1_191_2 i2 b0 b1 b2 b3 b4)), (.int ((own_j1a1_161_L5 i2 b0 b1 b2 b3 b4) <<< ((6 : Int32) &&& 31)))])) _
                refine XS.bipush XJ16.here hx rfl (hb hby own_d1_216) ?_
                show Steps p.tables e below (TJ16.setTop (mkF m 218 #[.val (.ref r0), .val (.int (1 : Int32)), .val (.int i2), .val (.int (own_v1a1_7 i2 b0 b1 b2 b3 b4)), .val (.int (2 : Int32)), .val (.int (own_j1a1_161_L5 i2 b0 b1 b2 b3 b4)), .val (.int (own_j1a1_161_L6 i2 b0 b1 b2 b3 b4)), .val (.int (own_j1a1_161_L7 i2 b0 b1 b2 b3 b4)), .val (.int (1 : Int32)), .val (.int (own_v1a1_191_2 i2 b0 b1 b2 b3 b4))] [(.int (63 : Int32)), (.int (own_v1a1_191_2 i2 b0 b1 b2 b3 b4)), (.int ((own_j1a1_161_L5 i2 b0 b1 b2 b3 b4) <<< ((6 : Int32) &&& 31)))])) _
                refine XS.iand XJ16.here hx rfl (hb hby own_d1_218) rfl ?_
                show Steps p.tables e below (TJ16.setTop (mkF m 219 #[.val (.ref r0), .val (.int (1 : Int32)), .val (.int i2), .val (.int (own_v1a1_7 i2 b0 b1 b2 b3 b4)), .val (.int (2 : Int32)), .val (.int (own_j1a1_161_L5 i2 b0 b1 b2 b3 b4)), .val (.int (own_j1a1_161_L6 i2 b0 b1 b2 b3 b4)), .val (.int (own_j1a1_161_L7 i2 b0 b1 b2 b3 b4)), .val (.int (1 : Int32)), .val (.int (own_v1a1_191_2 i2 b0 b1 b2 b3 b4))] [(.int ((own_v1a1_191_2 i2 b0 b1 b2 b3 b4) &&& (63 : Int32))), (.int ((own_j1a1_161_L5 i2 b0 b1 b2 b3 b4) <<< ((6 : Int32) &&& 31)))])) _
                refine XS.ior XJ16.here hx rfl (hb hby own_d1_219) rfl ?_
                show Steps p.tables e below (TJ16.setTop (mkF m 220 #[.val (.ref r0), .val (.int (1 : Int32)), .val (.int i2), .val (.int (own_v1a1_7 i2 b0 b1 b2 b3 b4)), .val (.int (2 : Int32)), .val (.int (own_j1a1_161_L5 i2 b0 b1 b2 b3 b4)), .val (.int (own_j1a1_161_L6 i2 b0 b1 b2 b3 b4)), .val (.int (own_j1a1_161_L7 i2 b0 b1 b2 b3 b4)), .val (.int (1 : Int32)), .val (.int (own_v1a1_191_2 i2 b0 b1 b2 b3 b4))] [(.int (((own_j1a1_161_L5 i2 b0 b1 b2 b3 b4) <<< ((6 : Int32) &&& 31)) ||| ((own_v1a1_191_2 i2 b0 b1 b2 b3 b4) &&& (63 : Int32))))])) _
                refine XS.istore XJ16.here hx rfl (hb hby own_d1_220) rfl (l' := #[.val (.ref r0), .val (.int (1 : Int32)), .val (.int i2), .val (.int (own_v1a1_7 i2 b0 b1 b2 b3 b4)), .val (.int (2 : Int32)), .val (.int (own_v1a1_220_2 i2 b0 b1 b2 b3 b4)), .val (.int (own_j1a1_161_L6 i2 b0 b1 b2 b3 b4)), .val (.int (own_j1a1_161_L7 i2 b0 b1 b2 b3 b4)), .val (.int (1 : Int32)), .val (.int (own_v1a1_191_2 i2 b0 b1 b2 b3 b4))]) rfl ?_
                show Steps p.tables e below (TJ16.setTop (mkF m 222 #[.val (.ref r0), .val (.int (1 : Int32)), .val (.int i2), .val (.int (own_v1a1_7 i2 b0 b1 b2 b3 b4)), .val (.int (2 : Int32)), .val (.int (own_v1a1_220_2 i2 b0 b1 b2 b3 b4)), .val (.int (own_j1a1_161_L6 i2 b0 b1 b2 b3 b4)), .val (.int (own_j1a1_161_L7 i2 b0 b1 b2 b3 b4)), .val (.int (1 : Int32)), .val (.int (own_v1a1_191_2 i2 b0 b1 b2 b3 b4))] [])) _
                refine XS.sipush XJ16.here hx rfl (hb hby own_d1_222) ?_
                show Steps p.tables e below (TJ16.setTop (mkF m 225 #[.val (.ref r0), .val (.int (1 : Int32)), .val (.int i2), .val (.int (own_v1a1_7 i2 b0 b1 b2 b3 b4)), .val (.int (2 : Int32)), .val (.int (own_v1a1_220_2 i2 b0 b1 b2 b3 b4)), .val (.int (own_j1a1_161_L6 i2 b0 b1 b2 b3 b4)), .val (.int (own_j1a1_161_L7 i2 b0 b1 b2 b3 b4)), .val (.int (1 : Int32)), .val (.int (own_v1a1_191_2 i2 b0 b1 b2 b3 b4))] [(.int (128 : Int32))])) _
                refine XS.istore XJ16.here hx rfl (hb hby own_d1_225) rfl (l' := #[.val (.ref r0), .val (.int (1 : Int32)), .val (.int i2), .val (.int (own_v1a1_7 i2 b0 b1 b2 b3 b4)), .val (.int (2 : Int32)), .val (.int (own_v1a1_220_2 i2 b0 b1 b2 b3 b4)), .val (.int (128 : Int32)), .val (.int (own_j1a1_161_L7 i2 b0 b1 b2 b3 b4)), .val (.int (1 : Int32)), .val (.int (own_v1a1_191_2 i2 b0 b1 b2 b3 b4))]) rfl ?_
                show Steps p.tables e below (TJ16.setTop (mkF m 227 #[.val (.ref r0), .val (.int (1 : Int32)), .val (.int i2), .val (.int (own_v1a1_7 i2 b0 b1 b2 b3 b4)), .val (.int (2 : Int32)), .val (.int (own_v1a1_220_2 i2 b0 b1 b2 b3 b4)), .val (.int (128 : Int32)), .val (.int (own_j1a1_161_L7 i2 b0 b1 b2 b3 b4)), .val (.int (1 : Int32)), .val (.int (own_v1a1_191_2 i2 b0 b1 b2 b3 b4))] [])) _
                refine XS.sipush XJ16.here hx rfl (hb hby own_d1_227) ?_
                show Steps p.tables e below (TJ16.setTop (mkF m 230 #[.val (.ref r0), .val (.int (1 : Int32)), .val (.int i2), .val (.int (own_v1a1_7 i2 b0 b1 b2 b3 b4)), .val (.int (2 : Int32)), .val (.int (own_v1a1_220_2 i2 b0 b1 b2 b3 b4)), .val (.int (128 : Int32)), .val (.int (own_j1a1_161_L7 i2 b0 b1 b2 b3 b4)), .val (.int (1 : Int32)), .val (.int (own_v1a1_191_2 i2 b0 b1 b2 b3 b4))] [(.int (191 : Int32))])) _
                refine XS.istore XJ16.here hx rfl (hb hby own_d1_230) rfl (l' := #[.val (.ref r0), .val (.int (1 : Int32)), .val (.int i2), .val (.int (own_v1a1_7 i2 b0 b1 b2 b3 b4)), .val (.int (2 : Int32)), .val (.int (own_v1a1_220_2 i2 b0 b1 b2 b3 b4)), .val (.int (128 : Int32)), .val (.int (191 : Int32)), .val (.int (1 : Int32)), .val (.int (own_v1a1_191_2 i2 b0 b1 b2 b3 b4))]) rfl ?_
                show Steps p.tables e below (TJ16.setTop (mkF m 232 #[.val (.ref r0), .val (.int (1 : Int32)), .val (.int i2), .val (.int (own_v1a1_7 i2 b0 b1 b2 b3 b4)), .val (.int (2 : Int32)), .val (.int (own_v1a1_220_2 i2 b0 b1 b2 b3 b4)), .val (.int (128 : Int32)), .val (.int (191 : Int32)), .val (.int (1 : Int32)), .val (.int (own_v1a1_191_2 i2 b0 b1 b2 b3 b4))] [])) _
                refine XS.iinc XJ16.here hx rfl (hb hby own_d1_232) rfl (l' := #[.val (.ref r0), .val (.int (1 : Int32)), .val (.int i2), .val (.int (own_v1a1_7 i2 b0 b1 b2 b3 b4)), .val (.int (2 : Int32)), .val (.int (own_v1a1_220_2 i2 b0 b1 b2 b3 b4)), .val (.int (128 : Int32)), .val (.int (191 : Int32)), .val (.int (2 : Int32)), .val (.int (own_v1a1_191_2 i2 b0 b1 b2 b3 b4))]) rfl ?_
                show Steps p.tables e below (TJ16.setTop (mkF m 235 #[.val (.ref r0), .val (.int (1 : Int32)), .val (.int i2), .val (.int (own_v1a1_7 i2 b0 b1 b2 b3 b4)), .val (.int (2 : Int32)), .val (.int (own_v1a1_220_2 i2 b0 b1 b2 b3 b4)), .val (.int (128 : Int32)), .val (.int (191 : Int32)), .val (.int (2 : Int32)), .val (.int (own_v1a1_191_2 i2 b0 b1 b2 b3 b4))] [])) _
                refine XS.goto XJ16.here hx rfl (pc0 := 235) (pc' := 174) rfl (hb hby own_d1_235) (by decide) (by decide) ?_
                show Steps p.tables e below (TJ16.setTop (mkF m 174 #[.val (.ref r0), .val (.int (1 : Int32)), .val (.int i2), .val (.int (own_v1a1_7 i2 b0 b1 b2 b3 b4)), .val (.int (2 : Int32)), .val (.int (own_v1a1_220_2 i2 b0 b1 b2 b3 b4)), .val (.int (128 : Int32)), .val (.int (191 : Int32)), .val (.int (2 : Int32)), .val (.int (own_v1a1_191_2 i2 b0 b1 b2 b3 b4))] [])) _
                refine XS.iload XJ16.here hx rfl (hb hby own_d1_174) rfl ?_
                show Steps p.tables e below (TJ16.setTop (mkF m 176 #[.val (.ref r0), .val (.int (1 : Int32)), .val (.int i2), .val (.int (own_v1a1_7 i2 b0 b1 b2 b3 b4)), .val (.int (2 : Int32)), .val (.int (own_v1a1_220_2 i2 b0 b1 b2 b3 b4)), .val (.int (128 : Int32)), .val (.int (191 : Int32)), .val (.int (2 : Int32)), .val (.int (own_v1a1_191_2 i2 b0 b1 b2 b3 b4))] [(.int (2 : Int32))])) _
                refine XS.iload XJ16.here hx rfl (hb hby own_d1_176) rfl ?_
                exact kt
              refine ownE.go (T' := TJ16) (f' := (mkF m 181 #[.val (.ref r0), .val (.int (1 : Int32)), .val (.int i2), .val (.int (own_v1a1_7 i2 b0 b1 b2 b3 b4)), .val (.int (2 : Int32)), .val (.int (own_v1a1_220_2 i2 b0 b1 b2 b3 b4)), .val (.int (128 : Int32)), .val (.int (191 : Int32)), .val (.int (2 : Int32)), .val (.int (own_v1a1_191_2 i2 b0 b1 b2 b3 b4))] [])) (fun t kt => XS.icmpNo (g := (mkF m 178 #[.val (.ref r0), .val (.int (1 : Int32)), .val (.int i2), .val (.int (own_v1a1_7 i2 b0 b1 b2 b3 b4)), .val (.int (2 : Int32)), .val (.int (own_v1a1_220_2 i2 b0 b1 b2 b3 b4)), .val (.int (128 : Int32)), .val (.int (191 : Int32)), .val (.int (2 : Int32)), .val (.int (own_v1a1_191_2 i2 b0 b1 b2 b3 b4))] [(.int (2 : Int32)), (.int (2 : Int32))])) XJ16.here hx rfl (hb hby own_d1_178) rfl (Jvm.Free.XT.ii_gt_f (by decide)) kt) ?_
              refine ownE.go (T' := TJ16) (f' := (mkF m 186 #[.val (.ref r0), .val (.int (1 : Int32)), .val (.int i2), .val (.int (own_v1a1_7 i2 b0 b1 b2 b3 b4)), .val (.int (2 : Int32)), .val (.int (own_v1a1_220_2 i2 b0 b1 b2 b3 b4)), .val (.int (128 : Int32)), .val (.int (191 : Int32)), .val (.int (2 : Int32)), .val (.int (own_v1a1_191_2 i2 b0 b1 b2 b3 b4))] [(.int (3 : Int32)), (.ref r0)])) (fun t kt => ?_) ?_
              · show Steps p.tables e below (TJ16.setTop (mkF m 181 #[.val (.ref r0), .val (.int (1 : Int32)), .val (.int i2), .val (.int (own_v1a1_7 i2 b0 b1 b2 b3 b4)), .val (.int (2 : Int32)), .val (.int (own_v1a1_220_2 i2 b0 b1 b2 b3 b4)), .val (.int (128 : Int32)), .val (.int (191 : Int32)), .val (.int (2 : Int32)), .val (.int (own_v1a1_191_2 i2 b0 b1 b2 b3 b4))] [])) _
                refine XS.aloadN XJ16.here hx rfl (hb hby own_d1_181) rfl rfl ?_
                show Steps p.tables e below (TJ16.setTop (mkF m 182 #[.val (.ref r0), .val (.int (1 : Int32)), .val (.int i2), .val (.int (own_v1a1_7 i2 b0 b1 b2 b3 b4)), .val (.int (2 : Int32)), .val (.int (own_v1a1_220_2 i2 b0 b1 b2 b3 b4)), .val (.int (128 : Int32)), .val (.int (191 : Int32)), .val (.int (2 : Int32)), .val (.int (own_v1a1_191_2 i2 b0 b1 b2 b3 b4))] [(.ref r0)])) _
                refine XS.iloadN XJ16.here hx rfl (hb hby own_d1_182) rfl ?_
                show Steps p.tables e below (TJ16.setTop (mkF m 183 #[.val (.ref r0), .val (.int (1 : Int32)), .val (.int i2), .val (.int (own_v1a1_7 i2 b0 b1 b2 b3 b4)), .val (.int (2 : Int32)), .val (.int (own_v1a1_220_2 i2 b0 b1 b2 b3 b4)), .val (.int (128 : Int32)), .val (.int (191 : Int32)), .val (.int (2 : Int32)), .val (.int (own_v1a1_191_2 i2 b0 b1 b2 b3 b4))] [(.int (1 : Int32)), (.ref r0)])) _
                refine XS.iload XJ16.here hx rfl (hb hby own_d1_183) rfl ?_
                show Steps p.tables e below (TJ16.setTop (mkF m 185 #[.val (.ref r0), .val (.int (1 : Int32)), .val (.int i2), .val (.int (own_v1a1_7 i2 b0 b1 b2 b3 b4)), .val (.int (2 : Int32)), .val (.int (own_v1a1_220_2 i2 b0 b1 b2 b3 b4)), .val (.int (128 : Int32)), .val (.int (191 : Int32)), .val (.int (2 : Int32)), .val (.int (own_v1a1_191_2 i2 b0 b1 b2 b3 b4))] [(.int (2 : Int32)), (.int (1 : Int32)), (.ref r0)])) _
                refine XS.iadd XJ16.here hx rfl (hb hby own_d1_185) rfl ?_
                exact kt
              obtain ⟨cl25, Ar25, q25, S25, Nn25, Hh25, G25⟩ := id P0
              refine ownE.go (T' := TJ16) (f' := (mkF m 187 #[.val (.ref r0), .val (.int (1 : Int32)), .val (.int i2), .val (.int (own_v1a1_7 i2 b0 b1 b2 b3 b4)), .val (.int (2 : Int32)), .val (.int (own_v1a1_220_2 i2 b0 b1 b2 b3 b4)), .val (.int (128 : Int32)), .val (.int (191 : Int32)), .val (.int (2 : Int32)), .val (.int (own_v1a1_191_2 i2 b0 b1 b2 b3 b4))] [(.int b3)])) (fun t kt => XJ16.baloadBytes hx (j := (3 : Int32)) (v := (.int b3)) (by rw [eJ16]; exact Ar25.1) (State.isArrayOf_alike hZ.alike Ar25.2.1) Ar25.2.2 (inb_of S25 ⟨by decide, by decide⟩) (Hh25.at (inb_of S25 ⟨by decide, by decide⟩) rfl) (g := (mkF m 186 #[.val (.ref r0), .val (.int (1 : Int32)), .val (.int i2), .val (.int (own_v1a1_7 i2 b0 b1 b2 b3 b4)), .val (.int (2 : Int32)), .val (.int (own_v1a1_220_2 i2 b0 b1 b2 b3 b4)), .val (.int (128 : Int32)), .val (.int (191 : Int32)), .val (.int (2 : Int32)), .val (.int (own_v1a1_191_2 i2 b0 b1 b2 b3 b4))] [(.int (3 : Int32)), (.ref r0)])) rfl rfl (hb hby own_d1_186) _ kt) ?_
              refine ownE.go (T' := TJ16) (f' := (mkF m 197 #[.val (.ref r0), .val (.int (1 : Int32)), .val (.int i2), .val (.int (own_v1a1_7 i2 b0 b1 b2 b3 b4)), .val (.int (2 : Int32)), .val (.int (own_v1a1_220_2 i2 b0 b1 b2 b3 b4)), .val (.int (128 : Int32)), .val (.int (191 : Int32)), .val (.int (2 : Int32)), .val (.int (own_v1a1_191_3 i2 b0 b1 b2 b3 b4))] [(.int (128 : Int32)), (.int (own_v1a1_191_3 i2 b0 b1 b2 b3 b4))])) (fun t kt => ?_) ?_
              · show Steps p.tables e below (TJ16.setTop (mkF m 187 #[.val (.ref r0), .val (.int (1 : Int32)), .val (.int i2), .val (.int (own_v1a1_7 i2 b0 b1 b2 b3 b4)), .val (.int (2 : Int32)), .val (.int (own_v1a1_220_2 i2 b0 b1 b2 b3 b4)), .val (.int (128 : Int32)), .val (.int (191 : Int32)), .val (.int (2 : Int32)), .val (.int (own_v1a1_191_2 i2 b0 b1 b2 b3 b4))] [(.int b3)])) _
                refine XS.sipush XJ16.here hx rfl (hb hby own_d1_187) ?_
                show Steps p.tables e below (TJ16.setTop (mkF m 190 #[.val (.ref r0), .val (.int (1 : Int32)), .val (.int i2), .val (.int (own_v1a1_7 i2 b0 b1 b2 b3 b4)), .val (.int (2 : Int32)), .val (.int (own_v1a1_220_2 i2 b0 b1 b2 b3 b4)), .val (.int (128 : Int32)), .val (.int (191 : Int32)), .val (.int (2 : Int32)), .val (.int (own_v1a1_191_2 i2 b0 b1 b2 b3 b4))] [(.int (255 : Int32)), (.int b3)])) _
                refine XS.iand XJ16.here hx rfl (hb hby own_d1_190) rfl ?_
                show Steps p.tables e below (TJ16.setTop (mkF m 191 #[.val (.ref r0), .val (.int (1 : Int32)), .val (.int i2), .val (.int (own_v1a1_7 i2 b0 b1 b2 b3 b4)), .val (.int (2 : Int32)), .val (.int (own_v1a1_220_2 i2 b0 b1 b2 b3 b4)), .val (.int (128 : Int32)), .val (.int (191 : Int32)), .val (.int (2 : Int32)), .val (.int (own_v1a1_191_2 i2 b0 b1 b2 b3 b4))] [(.int (b3 &&& (255 : Int32)))])) _
                refine XS.istore XJ16.here hx rfl (hb hby own_d1_191) rfl (l' := #[.val (.ref r0), .val (.int (1 : Int32)), .val (.int i2), .val (.int (own_v1a1_7 i2 b0 b1 b2 b3 b4)), .val (.int (2 : Int32)), .val (.int (own_v1a1_220_2 i2 b0 b1 b2 b3 b4)), .val (.int (128 : Int32)), .val (.int (191 : Int32)), .val (.int (2 : Int32)), .val (.int (own_v1a1_191_3 i2 b0 b1 b2 b3 b4))]) rfl ?_
                show Steps p.tables e below (TJ16.setTop (mkF m 193 #[.val (.ref r0), .val (.int (1 : Int32)), .val (.int i2), .val (.int (own_v1a1_7 i2 b0 b1 b2 b3 b4)), .val (.int (2 : Int32)), .val (.int (own_v1a1_220_2 i2 b0 b1 b2 b3 b4)), .val (.int (128 : Int32)), .val (.int (191 : Int32)), .val (.int (2 : Int32)), .val (.int (own_v1a1_191_3 i2 b0 b1 b2 b3 b4))] [])) _
                refine XS.iload XJ16.here hx rfl (hb hby own_d1_193) rfl ?_
                show Steps p.tables e below (TJ16.setTop (mkF m 195 #[.val (.ref r0), .val (.int (1 : Int32)), .val (.int i2), .val (.int (own_v1a1_7 i2 b0 b1 b2 b3 b4)), .val (.int (2 : Int32)), .val (.int (own_v1a1_220_2 i2 b0 b1 b2 b3 b4)), .val (.int (128 : Int32)), .val (.int (191 : Int32)), .val (.int (2 : Int32)), .val (.int (own_v1a1_191_3 i2 b0 b1 b2 b3 b4))] [(.int (own_v1a1_191_3 i2 b0 b1 b2 b3 b4))])) _
                refine XS.iload XJ16.here hx rfl (hb hby own_d1_195) rfl ?_
                exact kt
              by_cases hc26 : (own_v1a1_191_3 i2 b0 b1 b2 b3 b4) < (128 : Int32)
              · -- pc 197
                refine ownE.go (T' := TJ16) (f' := (mkF m 207 #[.val (.ref r0), .val (.int (1 : Int32)), .val (.int i2), .val (.int (own_v1a1_7 i2 b0 b1 b2 b3 b4)), .val (.int (2 : Int32)), .val (.int (own_v1a1_220_2 i2 b0 b1 b2 b3 b4)), .val (.int (128 : Int32)), .val (.int (191 : Int32)), .val (.int (2 : Int32)), .val (.int (own_v1a1_191_3 i2 b0 b1 b2 b3 b4))] [])) (fun t kt => XS.icmpYes (g := (mkF m 197 #[.val (.ref r0), .val (.int (1 : Int32)), .val (.int i2), .val (.int (own_v1a1_7 i2 b0 b1 b2 b3 b4)), .val (.int (2 : Int32)), .val (.int (own_v1a1_220_2 i2 b0 b1 b2 b3 b4)), .val (.int (128 : Int32)), .val (.int (191 : Int32)), .val (.int (2 : Int32)), .val (.int (own_v1a1_191_3 i2 b0 b1 b2 b3 b4))] [(.int (128 : Int32)), (.int (own_v1a1_191_3 i2 b0 b1 b2 b3 b4))])) XJ16.here hx rfl (pc0 := 197) (pc' := 207) rfl (hb hby own_d1_197) rfl (Jvm.Free.XT.ii_lt_t hc26) (by decide) (by decide) kt) ?_
                refine ownE.go (T' := TJ16) (f' := (mkF m 208 #[.val (.ref r0), .val (.int (1 : Int32)), .val (.int i2), .val (.int (own_v1a1_7 i2 b0 b1 b2 b3 b4)), .val (.int (2 : Int32)), .val (.int (own_v1a1_220_2 i2 b0 b1 b2 b3 b4)), .val (.int (128 : Int32)), .val (.int (191 : Int32)), .val (.int (2 : Int32)), .val (.int (own_v1a1_191_3 i2 b0 b1 b2 b3 b4))] [(.int (-1 : Int32))])) (fun t kt => ?_) ?_
                · show Steps p.tables e below (TJ16.setTop (mkF m 207 #[.val (.ref r0), .val (.int (1 : Int32)), .val (.int i2), .val (.int (own_v1a1_7 i2 b0 b1 b2 b3 b4)), .val (.int (2 : Int32)), .val (.int (own_v1a1_220_2 i2 b0 b1 b2 b3 b4)), .val (.int (128 : Int32)), .val (.int (191 : Int32)), .val (.int (2 : Int32)), .val (.int (own_v1a1_191_3 i2 b0 b1 b2 b3 b4))] [])) _
                  refine XS.iconst XJ16.here hx rfl (hb hby own_d1_207) ?_
                  exact kt
                refine ownE.retI XJ16 hx hlk hret (hb hby own_d1_208) ?_ (by decide) (by decide)
                show own_Q1a1 Z r0 i2 kk b0 b1 b2 b3 b4 h0 n0 _ TJ16.heap _
                rw [eJ16]
                exact ⟨(by rw [hv16, own_r1a1_161, if_pos hc17, if_neg hk18_0, if_pos hk18, if_neg hc23, if_neg hc24, if_pos hc26] <;> first | rfl | decide), NJ16, rfl⟩
              · -- pc 197
                refine ownE.go (T' := TJ16) (f' := (mkF m 200 #[.val (.ref r0), .val (.int (1 : Int32)), .val (.int i2), .val (.int (own_v1a1_7 i2 b0 b1 b2 b3 b4)), .val (.int (2 : Int32)), .val (.int (own_v1a1_220_2 i2 b0 b1 b2 b3 b4)), .val (.int (128 : Int32)), .val (.int (191 : Int32)), .val (.int (2 : Int32)), .val (.int (own_v1a1_191_3 i2 b0 b1 b2 b3 b4))] [])) (fun t kt => XS.icmpNo (g := (mkF m 197 #[.val (.ref r0), .val (.int (1 : Int32)), .val (.int i2), .val (.int (own_v1a1_7 i2 b0 b1 b2 b3 b4)), .val (.int (2 : Int32)), .val (.int (own_v1a1_220_2 i2 b0 b1 b2 b3 b4)), .val (.int (128 : Int32)), .val (.int (191 : Int32)), .val (.int (2 : Int32)), .val (.int (own_v1a1_191_3 i2 b0 b1 b2 b3 b4))] [(.int (128 : Int32)), (.int (own_v1a1_191_3 i2 b0 b1 b2 b3 b4))])) XJ16.here hx rfl (hb hby own_d1_197) rfl (Jvm.Free.XT.ii_lt_f hc26) kt) ?_
                refine ownE.go (T' := TJ16) (f' := (mkF m 204 #[.val (.ref r0), .val (.int (1 : Int32)), .val (.int i2), .val (.int (own_v1a1_7 i2 b0 b1 b2 b3 b4)), .val (.int (2 : Int32)), .val (.int (own_v1a1_220_2 i2 b0 b1 b2 b3 b4)), .val (.int (128 : Int32)), .val (.int (191 : Int32)), .val (.int (2 : Int32)), .val (.int (own_v1a1_191_3 i2 b0 b1 b2 b3 b4))] [(.int (191 : Int32)), (.int (own_v1a1_191_3 i2 b0 b1 b2 b3 b4))])) (fun t kt => ?_) ?_
                · show Steps p.tables e below (TJ16.setTop (mkF m 200 #[.val (.ref r0), .val (.int (1 : Int32)), .val (.int i2), .val (.int (own_v1a1_7 i2 b0 b1 b2 b3 b4)), .val (.int (2 : Int32)), .val (.int (own_v1a1_220_2 i2 b0 b1 b2 b3 b4)), .val (.int (128 : Int32)), .val (.int (191 : Int32)), .val (.int (2 : Int32)), .val (.int (own_v1a1_191_3 i2 b0 b1 b2 b3 b4))] [])) _
                  refine XS.iload XJ16.here hx rfl (hb hby own_d1_200) rfl ?_
                  show Steps p.tables e below (TJ16.setTop (mkF m 202 #[.val (.ref r0), .val (.int (1 : Int32)), .val (.int i2), .val (.int (own_v1a1_7 i2 b0 b1 b2 b3 b4)), .val (.int (2 : Int32)), .val (.int (own_v1a1_220_2 i2 b0 b1 b2 b3 b4)), .val (.int (128 : Int32)), .val (.int (191 : Int32)), .val (.int (2 : Int32)), .val (.int (own_v1a1_191_3 i2 b0 b1 b2 b3 b4))] [(.int (own_v1a1_191_3 i2 b0 b1 b2 b3 b4))])) _
                  refine XS.iload XJ16.here hx rfl (hb hby own_d1_202) rfl ?_
                  exact kt
                by_cases hc27 : (191 : Int32) < (own_v1a1_191_3 i2 b0 b1 b2 b3 b4)
                · -- pc 204
                  refine ownE.go (T' := TJ16) (f' := (mkF m 207 #[.val (.ref r0), .val (.int (1 : Int32)), .val (.int i2), .val (.int (own_v1a1_7 i2 b0 b1 b2 b3 b4)), .val (.int (2 : Int32)), .val (.int (own_v1a1_220_2 i2 b0 b1 b2 b3 b4)), .val (.int (128 : Int32)), .val (.int (191 : Int32)), .val (.int (2 : Int32)), .val (.int (own_v1a1_191_3 i2 b0 b1 b2 b3 b4))] [])) (fun t kt => XS.icmpNo (g := (mkF m 204 #[.val (.ref r0), .val (.int (1 : Int32)), .val (.int i2), .val (.int (own_v1a1_7 i2 b0 b1 b2 b3 b4)), .val (.int (2 : Int32)), .val (.int (own_v1a1_220_2 i2 b0 b1 b2 b3 b4)), .val (.int (128 : Int32)), .val (.int (191 : Int32)), .val (.int (2 : Int32)), .val (.int (own_v1a1_191_3 i2 b0 b1 b2 b3 b4))] [(.int (191 : Int32)), (.int (own_v1a1_191_3 i2 b0 b1 b2 b3 b4))])) XJ16.here hx rfl (hb hby own_d1_204) rfl (Jvm.Free.XT.ii_le_f hc27) kt) ?_
                  refine ownE.go (T' := TJ16) (f' := (mkF m 208 #[.val (.ref r0), .val (.int (1 : Int32)), .val (.int i2), .val (.int (own_v1a1_7 i2 b0 b1 b2 b3 b4)), .val (.int (2 : Int32)), .val (.int (own_v1a1_220_2 i2 b0 b1 b2 b3 b4)), .val (.int (128 : Int32)), .val (.int (191 : Int32)), .val (.int (2 : Int32)), .val (.int (own_v1a1_191_3 i2 b0 b1 b2 b3 b4))] [(.int (-1 : Int32))])) (fun t kt => ?_) ?_
                  · show Steps p.tables e below (TJ16.setTop (mkF m 207 #[.val (.ref r0), .val (.int (1 : Int32)), .val (.int i2), .val (.int (own_v1a1_7 i2 b0 b1 b2 b3 b4)), .val (.int (2 : Int32)), .val (.int (own_v1a1_220_2 i2 b0 b1 b2 b3 b4)), .val (.int (128 : Int32)), .val (.int (191 : Int32)), .val (.int (2 : Int32)), .val (.int (own_v1a1_191_3 i2 b0 b1 b2 b3 b4))] [])) _
                    refine XS.iconst XJ16.here hx rfl (hb hby own_d1_207) ?_
                    exact kt
                  refine ownE.retI XJ16 hx hlk hret (hb hby own_d1_208) ?_ (by decide) (by decide)
                  show own_Q1a1 Z r0 i2 kk b0 b1 b2 b3 b4 h0 n0 _ TJ16.heap _
                  rw [eJ16]
                  exact ⟨(by rw [hv16, own_r1a1_161, if_pos hc17, if_neg hk18_0, if_pos hk18, if_neg hc23, if_neg hc24, if_neg hc26, if_pos hc27] <;> first | rfl | decide), NJ16, rfl⟩
                · -- pc 204
                  refine ownE.go (T' := TJ16) (f' := (mkF m 209 #[.val (.ref r0), .val (.int (1 : Int32)), .val (.int i2), .val (.int (own_v1a1_7 i2 b0 b1 b2 b3 b4)), .val (.int (2 : Int32)), .val (.int (own_v1a1_220_2 i2 b0 b1 b2 b3 b4)), .val (.int (128 : Int32)), .val (.int (191 : Int32)), .val (.int (2 : Int32)), .val (.int (own_v1a1_191_3 i2 b0 b1 b2 b3 b4))] [])) (fun t kt => XS.icmpYes (g := (mkF m 204 #[.val (.ref r0), .val (.int (1 : Int32)), .val (.int i2), .val (.int (own_v1a1_7 i2 b0 b1 b2 b3 b4)), .val (.int (2 : Int32)), .val (.int (own_v1a1_220_2 i2 b0 b1 b2 b3 b4)), .val (.int (128 : Int32)), .val (.int (191 : Int32)), .val (.int (2 : Int32)), .val (.int (own_v1a1_191_3 i2 b0 b1 b2 b3 b4))] [(.int (191 : Int32)), (.int (own_v1a1_191_3 i2 b0 b1 b2 b3 b4))])) XJ16.here hx rfl (pc0 := 204) (pc' := 209) rfl (hb hby own_d1_204) rfl (Jvm.Free.XT.ii_le_t hc27) (by decide) (by decide) kt) ?_
                  refine ownE.go (T' := TJ16) (f' := (mkF m 178 #[.val (.ref r0), .val (.int (1 : Int32)), .val (.int i2), .val (.int (own_v1a1_7 i2 b0 b1 b2 b3 b4)), .val (.int (2 : Int32)), .val (.int (own_v1a1_220_3 i2 b0 b1 b2 b3 b4)), .val (.int (128 : Int32)), .val (.int (191 : Int32)), .val (.int (3 : Int32)), .val (.int (own_v1a1_191_3 i2 b0 b1 b2 b3 b4))] [(.int (2 : Int32)), (.int (3 : Int32))])) (fun t kt => ?_) ?_
                  · show Steps p.tables e below (TJ16.setTop (mkF m 209 #[.val (.ref r0), .val (.int (1 : Int32)), .val (.int i2), .val (.int (own_v1a1_7 i2 b0 b1 b2 b3 b4)), .val (.int (2 : Int32)), .val (.int (own_v1a1_220_2 i2 b0 b1 b2 b3 b4)), .val (.int (128 : Int32)), .val (.int (191 : Int32)), .val (.int (2 : Int32)), .val (.int (own_v1a1_191_3 i2 b0 b1 b2 b3 b4))] [])) _
                    refine XS.iload XJ16.here hx rfl (hb hby own_d1_209) rfl ?_
                    show Steps p.tables e below (TJ16.setTop (mkF m 211 #[.val (.ref r0), .val (.int (1 : Int32)), .val (.int i2), .val (.int (own_v1a1_7 i2 b0 b1 b2 b3 b4)), .val (.int (2 : Int32)), .val (.int (own_v1a1_220_2 i2 b0 b1 b2 b3 b4)), .val (.int (128 : Int32)), .val (.int (191 : Int32)), .val (.int (2 : Int32)), .val (.int (own_v1a1_191_3 i2 b0 b1 b2 b3 b4))] [(.int (own_v1a1_220_2 i2 b0 b1 b2 b3 b4))])) _
                    refine XS.bipush XJ16.here hx rfl (hb hby own_d1_211) ?_
                    show Steps p.tables e below (TJ16.setTop (mkF m 213 #[.val (.ref r0), .val (.int (1 : Int32)), .val (.int i2), .val (.int (own_v1a1_7 i2 b0 b1 b2 b3 b4)), .val (.int (2 : Int32)), .val (.int (own_v1a1_220_2 i2 b0 b1 b2 b3 b4)), .val (.int (128 : Int32)), .val (.int (191 : Int32)), .val (.int (2 : Int32)), .val (.int (own_v1a1_191_3 i2 b0 b1 b2 b3 b4))] [(.int (6 : Int32)), (.int (own_v1a1_220_2 i2 b0 b1 b2 b3 b4))])) _
                    refine XS.ishl XJ16.here hx rfl (hb hby own_d1_213) rfl ?_
                    show Steps p.tables e below (TJ16.setTop (mkF m 214 #[.val (.ref r0), .val (.int (1 : Int32)), .val (.int i2), .val (.int (own_v1a1_7 i2 b0 b1 b2 b3 b4)), .val (.int (2 : Int32)), .val (.int (own_v1a1_220_2 i2 b0 b1 b2 b3 b4)), .val (.int (128 : Int32)), .val (.int (191 : Int32)), .val (.int (2 : Int32)), .val (.int (own_v1a1_191_3 i2 b0 b1 b2 b3 b4))] [(.int ((own_v1a1_220_2 i2 b0 b1 b2 b3 b4) <<< ((6 : Int32) &&& 31)))])) _
                    refine XS.iload XJ16.here hx rfl (hb hby own_d1_214) rfl ?_
                    show Steps p.tables e below (TJ16.setTop (mkF m 216 #[.val (.ref r0), .val (.int (1 : Int32)), .val (.int i2), .val (.int (own_v1a1_7 i2 b0 b1 b2 b3 b4)), .val (.int (2 : Int32)), .val (.int (own_v1a1_220_2 i2 b0 b1 b2 b3 b4)), .val (.int (128 : Int32)), .val (.int (191 : Int32)), .val (.int (2 : Int32)), .val (.int (own_v1a1_191_3 i2 b0 b1 b2 b3 b4))] [(.int (own_v1a1_191_3 i2 b0 b1 b2 b3 b4)), (.int ((own_v1a1_220_2 i2 b0 b1 b2 b3 b4) <<< ((6 : Int32) &&& 31)))])) _
                    refine XS.bipush XJ16.here hx rfl (hb hby own_d1_216) ?_
                    show Steps p.tables e below (TJ16.setTop (mkF m 218 #[.val (.ref r0), .val (.int (1 : Int32)), .val (.int i2), .val (.int (own_v1a1_7 i2 b0 b1 b2 b3 b4)), .val (.int (2 : Int32)), .val (.int (own_v1a1_220_2 i2 b0 b1 b2 b3 b4)), .val (.int (128 : Int32)), .val (.int (191 : Int32)), .val (.int (2 : Int32)), .val (.int (own_v1a1_191_3 i2 b0 b1 b2 b3 b4))] [(.int (63 : Int32)), (.int (own_v1a1_191_3 i2 b0 b1 b2 b3 b4)), (.int ((own_v1a1_220_2 i2 b0 b1 b2 b3 b4) <<< ((6 : Int32) &&& 31)))])) _
                    refine XS.iand XJ16.here hx rfl (hb hby own_d1_218) rfl ?_
                    show Steps p.tables e below (TJ16.setTop (mkF m 219 #[.val (.ref r0), .val (.int (1 : Int32)), .val (.int i2), .val (.int (own_v1a1_7 i2 b0 b1 b2 b3 b4)), .val (.int (2 : Int32)), .val (.int (own_v1a1_220_2 i2 b0 b1 b2 b3 b4)), .val (.int (128 : Int32)), .val (.int (191 : Int32)), .val (.int (2 : Int32)), .val (.int (own_v1a1_191_3 i2 b0 b1 b2 b3 b4))] [(.int ((own_v1a1_191_3 i2 b0 b1 b2 b3 b4) &&& (63 : Int32))), (.int ((own_v1a1_220_2 i2 b0 b1 b2 b3 b4) <<< ((6 : Int32) &&& 31)))])) _
                    refine XS.ior XJ16.here hx rfl (hb hby own_d1_219) rfl ?_
                    show Steps p.tables e below (TJ16.setTop (mkF m 220 #[.val (.ref r0), .val (.int (1 : Int32)), .val (.int i2), .val (.int (own_v1a1_7 i2 b0 b1 b2 b3 b4)), .val (.int (2 : Int32)), .val (.int (own_v1a1_220_2 i2 b0 b1 b2 b3 b4)), .val (.int (128 : Int32)), .val (.int (191 : Int32)), .val (.int (2 : Int32)), .val (.int (own_v1a1_191_3 i2 b0 b1 b2 b3 b4))] [(.int (((own_v1a1_220_2 i2 b0 b1 b2 b3 b4) <<< ((6 : Int32) &&& 31)) ||| ((own_v1a1_191_3 i2 b0 b1 b2 b3 b4) &&& (63 : Int32))))])) _
                    refine XS.istore XJ16.here hx rfl (hb hby own_d1_220) rfl (l' := #[.val (.ref r0), .val (.int (1 : Int32)), .val (.int i2), .val (.int (own_v1a1_7 i2 b0 b1 b2 b3 b4)), .val (.int (2 : Int32)), .val (.int (own_v1a1_220_3 i2 b0 b1 b2 b3 b4)), .val (.int (128 : Int32)), .val (.int (191 : Int32)), .val (.int (2 : Int32)), .val (.int (own_v1a1_191_3 i2 b0 b1 b2 b3 b4))]) rfl ?_
                    show Steps p.tables e below (TJ16.setTop (mkF m 222 #[.val (.ref r0), .val (.int (1 : Int32)), .val (.int i2), .val (.int (own_v1a1_7 i2 b0 b1 b2 b3 b4)), .val (.int (2 : Int32)), .val (.int (own_v1a1_220_3 i2 b0 b1 b2 b3 b4)), .val (.int (128 : Int32)), .val (.int (191 : Int32)), .val (.int (2 : Int32)), .val (.int (own_v1a1_191_3 i2 b0 b1 b2 b3 b4))] [])) _
                    refine XS.sipush XJ16.here hx rfl (hb hby own_d1_222) ?_
                    show Steps p.tables e below (TJ16.setTop (mkF m 225 #[.val (.ref r0), .val (.int (1 : Int32)), .val (.int i2), .val (.int (own_v1a1_7 i2 b0 b1 b2 b3 b4)), .val (.int (2 : Int32)), .val (.int (own_v1a1_220_3 i2 b0 b1 b2 b3 b4)), .val (.int (128 : Int32)), .val (.int (191 : Int32)), .val (.int (2 : Int32)), .val (.int (own_v1a1_191_3 i2 b0 b1 b2 b3 b4))] [(.int (128 : Int32))])) _
                    refine XS.istore XJ16.here hx rfl (hb hby own_d1_225) rfl (l' := #[.val (.ref r0), .val (.int (1 : Int32)), .val (.int i2), .val (.int (own_v1a1_7 i2 b0 b1 b2 b3 b4)), .val (.int (2 : Int32)), .val (.int (own_v1a1_220_3 i2 b0 b1 b2 b3 b4)), .val (.int (128 : Int32)), .val (.int (191 : Int32)), .val (.int (2 : Int32)), .val (.int (own_v1a1_191_3 i2 b0 b1 b2 b3 b4))]) rfl ?_
                    show Steps p.tables e below (TJ16.setTop (mkF m 227 #[.val (.ref r0), .val (.int (1 : Int32)), .val (.int i2), .val (.int (own_v1a1_7 i2 b0 b1 b2 b3 b4)), .val (.int (2 : Int32)), .val (.int (own_v1a1_220_3 i2 b0 b1 b2 b3 b4)), .val (.int (128 : Int32)), .val (.int (191 : Int32)), .val (.int (2 : Int32)), .val (.int (own_v1a1_191_3 i2 b0 b1 b2 b3 b4))] [])) _
                    refine XS.sipush XJ16.here hx rfl (hb hby own_d1_227) ?_
                    show Steps p.tables e below (TJ16.setTop (mkF m 230 #[.val (.ref r0), .val (.int (1 : Int32)), .val (.int i2), .val (.int (own_v1a1_7 i2 b0 b1 b2 b3 b4)), .val (.int (2 : Int32)), .val (.int (own_v1a1_220_3 i2 b0 b1 b2 b3 b4)), .val (.int (128 : Int32)), .val (.int (191 : Int32)), .val (.int (2 : Int32)), .val (.int (own_v1a1_191_3 i2 b0 b1 b2 b3 b4))] [(.int (191 : Int32))])) _
                    refine XS.istore XJ16.here hx rfl (hb hby own_d1_230) rfl (l' := #[.val (.ref r0), .val (.int (1 : Int32)), .val (.int i2), .val (.int (own_v1a1_7 i2 b0 b1 b2 b3 b4)), .val (.int (2 : Int32)), .val (.int (own_v1a1_220_3 i2 b0 b1 b2 b3 b4)), .val (.int (128 : Int32)), .val (.int (191 : Int32)), .val (.int (2 : Int32)), .val (.int (own_v1a1_191_3 i2 b0 b1 b2 b3 b4))]) rfl ?_
                    show Steps p.tables e below (TJ16.setTop (mkF m 232 #[.val (.ref r0), .val (.int (1 : Int32)), .val (.int i2), .val (.int (own_v1a1_7 i2 b0 b1 b2 b3 b4)), .val (.int (2 : Int32)), .val (.int (own_v1a1_220_3 i2 b0 b1 b2 b3 b4)), .val (.int (128 : Int32)), .val (.int (191 : Int32)), .val (.int (2 : Int32)), .val (.int (own_v1a1_191_3 i2 b0 b1 b2 b3 b4))] [])) _
                    refine XS.iinc XJ16.here hx rfl (hb hby own_d1_232) rfl (l' := #[.val (.ref r0), .val (.int (1 : Int32)), .val (.int i2), .val (.int (own_v1a1_7 i2 b0 b1 b2 b3 b4)), .val (.int (2 : Int32)), .val (.int (own_v1a1_220_3 i2 b0 b1 b2 b3 b4)), .val (.int (128 : Int32)), .val (.int (191 : Int32)), .val (.int (3 : Int32)), .val (.int (own_v1a1_191_3 i2 b0 b1 b2 b3 b4))]) rfl ?_
                    show Steps p.tables e below (TJ16.setTop (mkF m 235 #[.val (.ref r0), .val (.int (1 : Int32)), .val (.int i2), .val (.int (own_v1a1_7 i2 b0 b1 b2 b3 b4)), .val (.int (2 : Int32)), .val (.int (own_v1a1_220_3 i2 b0 b1 b2 b3 b4)), .val (.int (128 : Int32)), .val (.int (191 : Int32)), .val (.int (3 : Int32)), .val (.int (own_v1a1_191_3 i2 b0 b1 b2 b3 b4))] [])) _
                    refine XS.goto XJ16.here hx rfl (pc0 := 235) (pc' := 174) rfl (hb hby own_d1_235) (by decide) (by decide) ?_
                    show Steps p.tables e below (TJ16.setTop (mkF m 174 #[.val (.ref r0), .val (.int (1 : Int32)), .val (.int i2), .val (.int (own_v1a1_7 i2 b0 b1 b2 b3 b4)), .val (.int (2 : Int32)), .val (.int (own_v1a1_220_3 i2 b0 b1 b2 b3 b4)), .val (.int (128 : Int32)), .val (.int (191 : Int32)), .val (.int (3 : Int32)), .val (.int (own_v1a1_191_3 i2 b0 b1 b2 b3 b4))] [])) _
                    refine XS.iload XJ16.here hx rfl (hb hby own_d1_174) rfl ?_
                    show Steps p.tables e below (TJ16.setTop (mkF m 176 #[.val (.ref r0), .val (.int (1 : Int32)), .val (.int i2), .val (.int (own_v1a1_7 i2 b0 b1 b2 b3 b4)), .val (.int (2 : Int32)), .val (.int (own_v1a1_220_3 i2 b0 b1 b2 b3 b4)), .val (.int (128 : Int32)), .val (.int (191 : Int32)), .val (.int (3 : Int32)), .val (.int (own_v1a1_191_3 i2 b0 b1 b2 b3 b4))] [(.int (3 : Int32))])) _
                    refine XS.iload XJ16.here hx rfl (hb hby own_d1_176) rfl ?_
                    exact kt
                  refine ownE.go (T' := TJ16) (f' := (mkF m 238 #[.val (.ref r0), .val (.int (1 : Int32)), .val (.int i2), .val (.int (own_v1a1_7 i2 b0 b1 b2 b3 b4)), .val (.int (2 : Int32)), .val (.int (own_v1a1_220_3 i2 b0 b1 b2 b3 b4)), .val (.int (128 : Int32)), .val (.int (191 : Int32)), .val (.int (3 : Int32)), .val (.int (own_v1a1_191_3 i2 b0 b1 b2 b3 b4))] [])) (fun t kt => XS.icmpYes (g := (mkF m 178 #[.val (.ref r0), .val (.int (1 : Int32)), .val (.int i2), .val (.int (own_v1a1_7 i2 b0 b1 b2 b3 b4)), .val (.int (2 : Int32)), .val (.int (own_v1a1_220_3 i2 b0 b1 b2 b3 b4)), .val (.int (128 : Int32)), .val (.int (191 : Int32)), .val (.int (3 : Int32)), .val (.int (own_v1a1_191_3 i2 b0 b1 b2 b3 b4))] [(.int (2 : Int32)), (.int (3 : Int32))])) XJ16.here hx rfl (pc0 := 178) (pc' := 238) rfl (hb hby own_d1_178) rfl (Jvm.Free.XT.ii_gt_t (by decide)) (by decide) (by decide) kt) ?_
                  refine ownE.go (T' := TJ16) (f' := (mkF m 240 #[.val (.ref r0), .val (.int (1 : Int32)), .val (.int i2), .val (.int (own_v1a1_7 i2 b0 b1 b2 b3 b4)), .val (.int (2 : Int32)), .val (.int (own_v1a1_220_3 i2 b0 b1 b2 b3 b4)), .val (.int (128 : Int32)), .val (.int (191 : Int32)), .val (.int (3 : Int32)), .val (.int (own_v1a1_191_3 i2 b0 b1 b2 b3 b4))] [(.int (own_v1a1_220_3 i2 b0 b1 b2 b3 b4))])) (fun t kt => ?_) ?_
                  · show Steps p.tables e below (TJ16.setTop (mkF m 238 #[.val (.ref r0), .val (.int (1 : Int32)), .val (.int i2), .val (.int (own_v1a1_7 i2 b0 b1 b2 b3 b4)), .val (.int (2 : Int32)), .val (.int (own_v1a1_220_3 i2 b0 b1 b2 b3 b4)), .val (.int (128 : Int32)), .val (.int (191 : Int32)), .val (.int (3 : Int32)), .val (.int (own_v1a1_191_3 i2 b0 b1 b2 b3 b4))] [])) _
                    refine XS.iload XJ16.here hx rfl (hb hby own_d1_238) rfl ?_
                    exact kt
                  refine ownE.retI XJ16 hx hlk hret (hb hby own_d1_240) ?_ (by decide) (by decide)
                  show own_Q1a1 Z r0 i2 kk b0 b1 b2 b3 b4 h0 n0 _ TJ16.heap _
                  rw [eJ16]
                  exact ⟨(by rw [hv16, own_r1a1_161, if_pos hc17, if_neg hk18_0, if_pos hk18, if_neg hc23, if_neg hc24, if_neg hc26, if_neg hc27] <;> first | rfl | decide), NJ16, rfl⟩
        · -- (own_j1a1_161_L4 i2 b0 b1 b2 b3 b4) = 3
          have hf18 : (mkF m 171 #[.val (.ref r0), .val (.int (1 : Int32)), .val (.int i2), .val (.int (own_v1a1_7 i2 b0 b1 b2 b3 b4)), .val (.int (own_j1a1_161_L4 i2 b0 b1 b2 b3 b4)), .val (.int (own_j1a1_161_L5 i2 b0 b1 b2 b3 b4)), .val (.int (own_j1a1_161_L6 i2 b0 b1 b2 b3 b4)), .val (.int (own_j1a1_161_L7 i2 b0 b1 b2 b3 b4)), .unset, .unset] []) = (mkF m 171 #[.val (.ref r0), .val (.int (1 : Int32)), .val (.int i2), .val (.int (own_v1a1_7 i2 b0 b1 b2 b3 b4)), .val (.int (3 : Int32)), .val (.int (own_j1a1_161_L5 i2 b0 b1 b2 b3 b4)), .val (.int (own_j1a1_161_L6 i2 b0 b1 b2 b3 b4)), .val (.int (own_j1a1_161_L7 i2 b0 b1 b2 b3 b4)), .unset, .unset] []) := by rw [hk18]
          rw [hf18]
          have hk18_0 : ¬ (own_j1a1_161_L4 i2 b0 b1 b2 b3 b4) = (1 : Int32) := by rw [hk18]; decide
          have hk18_1 : ¬ (own_j1a1_161_L4 i2 b0 b1 b2 b3 b4) = (2 : Int32) := by rw [hk18]; decide
          refine ownE.go (T' := TJ16) (f' := (mkF m 178 #[.val (.ref r0), .val (.int (1 : Int32)), .val (.int i2), .val (.int (own_v1a1_7 i2 b0 b1 b2 b3 b4)), .val (.int (3 : Int32)), .val (.int (own_j1a1_161_L5 i2 b0 b1 b2 b3 b4)), .val (.int (own_j1a1_161_L6 i2 b0 b1 b2 b3 b4)), .val (.int (own_j1a1_161_L7 i2 b0 b1 b2 b3 b4)), .val (.int (1 : Int32)), .unset] [(.int (3 : Int32)), (.int (1 : Int32))])) (fun t kt => ?_) ?_
          · show Steps p.tables e below (TJ16.setTop (mkF m 171 #[.val (.ref r0), .val (.int (1 : Int32)), .val (.int i2), .val (.int (own_v1a1_7 i2 b0 b1 b2 b3 b4)), .val (.int (3 : Int32)), .val (.int (own_j1a1_161_L5 i2 b0 b1 b2 b3 b4)), .val (.int (own_j1a1_161_L6 i2 b0 b1 b2 b3 b4)), .val (.int (own_j1a1_161_L7 i2 b0 b1 b2 b3 b4)), .unset, .unset] [])) _
            refine XS.iconst XJ16.here hx rfl (hb hby own_d1_171) ?_
            show Steps p.tables e below (TJ16.setTop (mkF m 172 #[.val (.ref r0), .val (.int (1 : Int32)), .val (.int i2), .val (.int (own_v1a1_7 i2 b0 b1 b2 b3 b4)), .val (.int (3 : Int32)), .val (.int (own_j1a1_161_L5 i2 b0 b1 b2 b3 b4)), .val (.int (own_j1a1_161_L6 i2 b0 b1 b2 b3 b4)), .val (.int (own_j1a1_161_L7 i2 b0 b1 b2 b3 b4)), .unset, .unset] [(.int (1 : Int32))])) _
            refine XS.istore XJ16.here hx rfl (hb hby own_d1_172) rfl (l' := #[.val (.ref r0), .val (.int (1 : Int32)), .val (.int i2), .val (.int (own_v1a1_7 i2 b0 b1 b2 b3 b4)), .val (.int (3 : Int32)), .val (.int (own_j1a1_161_L5 i2 b0 b1 b2 b3 b4)), .val (.int (own_j1a1_161_L6 i2 b0 b1 b2 b3 b4)), .val (.int (own_j1a1_161_L7 i2 b0 b1 b2 b3 b4)), .val (.int (1 : Int32)), .unset]) rfl ?_
            show Steps p.tables e below (TJ16.setTop (mkF m 174 #[.val (.ref r0), .val (.int (1 : Int32)), .val (.int i2), .val (.int (own_v1a1_7 i2 b0 b1 b2 b3 b4)), .val (.int (3 : Int32)), .val (.int (own_j1a1_161_L5 i2 b0 b1 b2 b3 b4)), .val (.int (own_j1a1_161_L6 i2 b0 b1 b2 b3 b4)), .val (.int (own_j1a1_161_L7 i2 b0 b1 b2 b3 b4)), .val (.int (1 : Int32)), .unset] [])) _
            refine XS.iload XJ16.here hx rfl (hb hby own_d1_174) rfl ?_
            show Steps p.tables e below (TJ16.setTop (mkF m 176 #[.val (.ref r0), .val (.int (1 : Int32)), .val (.int i2), .val (.int (own_v1a1_7 i2 b0 b1 b2 b3 b4)), .val (.int (3 : Int32)), .val (.int (own_j1a1_161_L5 i2 b0 b1 b2 b3 b4)), .val (.int (own_j1a1_161_L6 i2 b0 b1 b2 b3 b4)), .val (.int (own_j1a1_161_L7 i2 b0 b1 b2 b3 b4)), .val (.int (1 : Int32)), .unset] [(.int (1 : Int32))])) _
            refine XS.iload XJ16.here hx rfl (hb hby own_d1_176) rfl ?_
            exact kt
          refine ownE.go (T' := TJ16) (f' := (mkF m 181 #[.val (.ref r0), .val (.int (1 : Int32)), .val (.int i2), .val (.int (own_v1a1_7 i2 b0 b1 b2 b3 b4)), .val (.int (3 : Int32)), .val (.int (own_j1a1_161_L5 i2 b0 b1 b2 b3 b4)), .val (.int (own_j1a1_161_L6 i2 b0 b1 b2 b3 b4)), .val (.int (own_j1a1_161_L7 i2 b0 b1 b2 b3 b4)), .val (.int (1 : Int32)), .unset] [])) (fun t kt => XS.icmpNo (g := (mkF m 178 #[.val (.ref r0), .val (.int (1 : Int32)), .val (.int i2), .val (.int (own_v1a1_7 i2 b0 b1 b2 b3 b4)), .val (.int (3 : Int32)), .val (.int (own_j1a1_161_L5 i2 b0 b1 b2 b3 b4)), .val (.int (own_j1a1_161_L6 i2 b0 b1 b2 b3 b4)), .val (.int (own_j1a1_161_L7 i2 b0 b1 b2 b3 b4)), .val (.int (1 : Int32)), .unset] [(.int (3 : Int32)), (.int (1 : Int32))])) XJ16.here hx rfl (hb hby own_d1_178) rfl (Jvm.Free.XT.ii_gt_f (by decide)) kt) ?_
          refine ownE.go (T' := TJ16) (f' := (mkF m 186 #[.val (.ref r0), .val (.int (1 : Int32)), .val (.int i2), .val (.int (own_v1a1_7 i2 b0 b1 b2 b3 b4)), .val (.int (3 : Int32)), .val (.int (own_j1a1_161_L5 i2 b0 b1 b2 b3 b4)), .val (.int (own_j1a1_161_L6 i2 b0 b1 b2 b3 b4)), .val (.int (own_j1a1_161_L7 i2 b0 b1 b2 b3 b4)), .val (.int (1 : Int32)), .unset] [(.int (2 : Int32)), (.ref r0)])) (fun t kt => ?_) ?_
          · show Steps p.tables e below (TJ16.setTop (mkF m 181 #[.val (.ref r0), .val (.int (1 : Int32)), .val (.int i2), .val (.int (own_v1a1_7 i2 b0 b1 b2 b3 b4)), .val (.int (3 : Int32)), .val (.int (own_j1a1_161_L5 i2 b0 b1 b2 b3 b4)), .val (.int (own_j1a1_161_L6 i2 b0 b1 b2 b3 b4)), .val (.int (own_j1a1_161_L7 i2 b0 b1 b2 b3 b4)), .val (.int (1 : Int32)), .unset] [])) _
            refine XS.aloadN XJ16.here hx rfl (hb hby own_d1_181) rfl rfl ?_
            show Steps p.tables e below (TJ16.setTop (mkF m 182 #[.val (.ref r0), .val (.int (1 : Int32)), .val (.int i2), .val (.int (own_v1a1_7 i2 b0 b1 b2 b3 b4)), .val (.int (3 : Int32)), .val (.int (own_j1a1_161_L5 i2 b0 b1 b2 b3 b4)), .val (.int (own_j1a1_161_L6 i2 b0 b1 b2 b3 b4)), .val (.int (own_j1a1_161_L7 i2 b0 b1 b2 b3 b4)), .val (.int (1 : Int32)), .unset] [(.ref r0)])) _
            refine XS.iloadN XJ16.here hx rfl (hb hby own_d1_182) rfl ?_
            show Steps p.tables e below (TJ16.setTop (mkF m 183 #[.val (.ref r0), .val (.int (1 : Int32)), .val (.int i2), .val (.int (own_v1a1_7 i2 b0 b1 b2 b3 b4)), .val (.int (3 : Int32)), .val (.int (own_j1a1_161_L5 i2 b0 b1 b2 b3 b4)), .val (.int (own_j1a1_161_L6 i2 b0 b1 b2 b3 b4)), .val (.int (own_j1a1_161_L7 i2 b0 b1 b2 b3 b4)), .val (.int (1 : Int32)), .unset] [(.int (1 : Int32)), (.ref r0)])) _
            refine XS.iload XJ16.here hx rfl (hb hby own_d1_183) rfl ?_
            show Steps p.tables e below (TJ16.setTop (mkF m 185 #[.val (.ref r0), .val (.int (1 : Int32)), .val (.int i2), .val (.int (own_v1a1_7 i2 b0 b1 b2 b3 b4)), .val (.int (3 : Int32)), .val (.int (own_j1a1_161_L5 i2 b0 b1 b2 b3 b4)), .val (.int (own_j1a1_161_L6 i2 b0 b1 b2 b3 b4)), .val (.int (own_j1a1_161_L7 i2 b0 b1 b2 b3 b4)), .val (.int (1 : Int32)), .unset] [(.int (1 : Int32)), (.int (1 : Int32)), (.ref r0)])) _
            refine XS.iadd XJ16.here hx rfl (hb hby own_d1_185) rfl ?_
            exact kt
          obtain ⟨cl28, Ar28, q28, S28, Nn28, Hh28, G28⟩ := id P0
          refine ownE.go (T' := TJ16) (f' := (mkF m 187 #[.val (.ref r0), .val (.int (1 : Int32)), .val (.int i2), .val (.int (own_v1a1_7 i2 b0 b1 b2 b3 b4)), .val (.int (3 : Int32)), .val (.int (own_j1a1_161_L5 i2 b0 b1 b2 b3 b4)), .val (.int (own_j1a1_161_L6 i2 b0 b1 b2 b3 b4)), .val (.int (own_j1a1_161_L7 i2 b0 b1 b2 b3 b4)), .val (.int (1 : Int32)), .unset] [(.int b2)])) (fun t kt => XJ16.baloadBytes hx (j := (2 : Int32)) (v := (.int b2)) (by rw [eJ16]; exact Ar28.1) (State.isArrayOf_alike hZ.alike Ar28.2.1) Ar28.2.2 (inb_of S28 ⟨by decide, by decide⟩) (Hh28.at (inb_of S28 ⟨by decide, by decide⟩) rfl) (g := (mkF m 186 #[.val (.ref r0), .val (.int (1 : Int32)), .val (.int i2), .val (.int (own_v1a1_7 i2 b0 b1 b2 b3 b4)), .val (.int (3 : Int32)), .val (.int (own_j1a1_161_L5 i2 b0 b1 b2 b3 b4)), .val (.int (own_j1a1_161_L6 i2 b0 b1 b2 b3 b4)), .val (.int (own_j1a1_161_L7 i2 b0 b1 b2 b3 b4)), .val (.int (1 : Int32)), .unset] [(.int (2 : Int32)), (.ref r0)])) rfl rfl (hb hby own_d1_186) _ kt) ?_
          refine ownE.go (T' := TJ16) (f' := (mkF m 197 #[.val (.ref r0), .val (.int (1 : Int32)), .val (.int i2), .val (.int (own_v1a1_7 i2 b0 b1 b2 b3 b4)), .val (.int (3 : Int32)), .val (.int (own_j1a1_161_L5 i2 b0 b1 b2 b3 b4)), .val (.int (own_j1a1_161_L6 i2 b0 b1 b2 b3 b4)), .val (.int (own_j1a1_161_L7 i2 b0 b1 b2 b3 b4)), .val (.int (1 : Int32)), .val (.int (own_v1a1_191_4 i2 b0 b1 b2 b3 b4))] [(.int (own_j1a1_161_L6 i2 b0 b1 b2 b3 b4)), (.int (own_v1a1_191_4 i2 b0 b1 b2 b3 b4))])) (fun t kt => ?_) ?_
          · show Steps p.tables e below (TJ16.setTop (mkF m 187 #[.val (.ref r0), .val (.int (1 : Int32)), .val (.int i2), .val (.int (own_v1a1_7 i2 b0 b1 b2 b3 b4)), .val (.int (3 : Int32)), .val (.int (own_j1a1_161_L5 i2 b0 b1 b2 b3 b4)), .val (.int (own_j1a1_161_L6 i2 b0 b1 b2 b3 b4)), .val (.int (own_j1a1_161_L7 i2 b0 b1 b2 b3 b4)), .val (.int (1 : Int32)), .unset] [(.int b2)])) _
            refine XS.sipush XJ16.here hx rfl (hb hby own_d1_187) ?_
            show Steps p.tables e below (TJ16.setTop (mkF m 190 #[.val (.ref r0), .val (.int (1 : Int32)), .val (.int i2), .val (.int (own_v1a1_7 i2 b0 b1 b2 b3 b4)), .val (.int (3 : Int32)), .val (.int (own_j1a1_161_L5 i2 b0 b1 b2 b3 b4)), .val (.int (own_j1a1_161_L6 i2 b0 b1 b2 b3 b4)), .val (.int (own_j1a1_161_L7 i2 b0 b1 b2 b3 b4)), .val (.int (1 : Int32)), .unset] [(.int (255 : Int32)), (.int b2)])) _
            refine XS.iand XJ16.here hx rfl (hb hby own_d1_190) rfl ?_
            show Steps p.tables e below (TJ16.setTop (mkF m 191 #[.val (.ref r0), .val (.int (1 : Int32)), .val (.int i2), .val (.int (own_v1a1_7 i2 b0 b1 b2 b3 b4)), .val (.int (3 : Int32)), .val (.int (own_j1a1_161_L5 i2 b0 b1 b2 b3 b4)), .val (.int (own_j1a1_161_L6 i2 b0 b1 b2 b3 b4)), .val (.int (own_j1a1_161_L7 i2 b0 b1 b2 b3 b4)), .val (.int (1 : Int32)), .unset] [(.int (b2 &&& (255 : Int32)))])) _
            refine XS.istore XJ16.here hx rfl (hb hby own_d1_191) rfl (l' := #[.val (.ref r0), .val (.int (1 : Int32)), .val (.int i2), .val (.int (own_v1a1_7 i2 b0 b1 b2 b3 b4)), .val (.int (3 : Int32)), .val (.int (own_j1a1_161_L5 i2 b0 b1 b2 b3 b4)), .val (.int (own_j1a1_161_L6 i2 b0 b1 b2 b3 b4)), .val (.int (own_j1a1_161_L7 i2 b0 b1 b2 b3 b4)), .val (.int (1 : Int32)), .val (.int (own_v1a1_191_4 i2 b0 b1 b2 b3 b4))]) rfl ?_
            show Steps p.tables e below (TJ16.setTop (mkF m 193 #[.val (.ref r0), .val (.int (1 : Int32)), .val (.int i2), .val (.int (own_v1a1_7 i2 b0 b1 b2 b3 b4)), .val (.int (3 : Int32)), .val (.int (own_j1a1_161_L5 i2 b0 b1 b2 b3 b4)), .val (.int (own_j1a1_161_L6 i2 b0 b1 b2 b3 b4)), .val (.int (own_j1a1_161_L7 i2 b0 b1 b2 b3 b4)), .val (.int (1 : Int32)), .val (.int (own_v1a1_191_4 i2 b0 b1 b2 b3 b4))] [])) _
            refine XS.iload XJ16.here hx rfl (hb hby own_d1_193) rfl ?_
            show Steps p.tables e below (TJ16.setTop (mkF m 195 #[.val (.ref r0), .val (.int (1 : Int32)), .val (.int i2), .val (.int (own_v1a1_7 i2 b0 b1 b2 b3 b4)), .val (.int (3 : Int32)), .val (.int (own_j1a1_161_L5 i2 b0 b1 b2 b3 b4)), .val (.int (own_j1a1_161_L6 i2 b0 b1 b2 b3 b4)), .val (.int (own_j1a1_161_L7 i2 b0 b1 b2 b3 b4)), .val (.int (1 : Int32)), .val (.int (own_v1a1_191_4 i2 b0 b1 b2 b3 b4))] [(.int (own_v1a1_191_4 i2 b0 b1 b2 b3 b4))])) _
            refine XS.iload XJ16.here hx rfl (hb hby own_d1_195) rfl ?_
            exact kt
          by_cases hc29 : (own_v1a1_191_4 i2 b0 b1 b2 b3 b4) < (own_j1a1_161_L6 i2 b0 b1 b2 b3 b4)
          · -- pc 197
            refine ownE.go (T' := TJ16) (f' := (mkF m 207 #[.val (.ref r0), .val (.int (1 : Int32)), .val (.int i2), .val (.int (own_v1a1_7 i2 b0 b1 b2 b3 b4)), .val (.int (3 : Int32)), .val (.int (own_j1a1_161_L5 i2 b0 b1 b2 b3 b4)), .val (.int (own_j1a1_161_L6 i2 b0 b1 b2 b3 b4)), .val (.int (own_j1a1_161_L7 i2 b0 b1 b2 b3 b4)), .val (.int (1 : Int32)), .val (.int (own_v1a1_191_4 i2 b0 b1 b2 b3 b4))] [])) (fun t kt => XS.icmpYes (g := (mkF m 197 #[.val (.ref r0), .val (.int (1 : Int32)), .val (.int i2), .val (.int (own_v1a1_7 i2 b0 b1 b2 b3 b4)), .val (.int (3 : Int32)), .val (.int (own_j1a1_161_L5 i2 b0 b1 b2 b3 b4)), .val (.int (own_j1a1_161_L6 i2 b0 b1 b2 b3 b4)), .val (.int (own_j1a1_161_L7 i2 b0 b1 b2 b3 b4)), .val (.int (1 : Int32)), .val (.int (own_v1a1_191_4 i2 b0 b1 b2 b3 b4))] [(.int (own_j1a1_161_L6 i2 b0 b1 b2 b3 b4)), (.int (own_v1a1_191_4 i2 b0 b1 b2 b3 b4))])) XJ16.here hx rfl (pc0 := 197) (pc' := 207) rfl (hb hby own_d1_197) rfl (Jvm.Free.XT.ii_lt_t hc29) (by decide) (by decide) kt) ?_
            refine ownE.go (T' := TJ16) (f' := (mkF m 208 #[.val (.ref r0), .val (.int (1 : Int32)), .val (.int i2), .val (.int (own_v1a1_7 i2 b0 b1 b2 b3 b4)), .val (.int (3 : Int32)), .val (.int (own_j1a1_161_L5 i2 b0 b1 b2 b3 b4)), .val (.int (own_j1a1_161_L6 i2 b0 b1 b2 b3 b4)), .val (.int (own_j1a1_161_L7 i2 b0 b1 b2 b3 b4)), .val (.int (1 : Int32)), .val (.int (own_v1a1_191_4 i2 b0 b1 b2 b3 b4))] [(.int (-1 : Int32))])) (fun t kt => ?_) ?_
            · show Steps p.tables e below (TJ16.setTop (mkF m 207 #[.val (.ref r0), .val (.int (1 : Int32)), .val (.int i2), .val (.int (own_v1a1_7 i2 b0 b1 b2 b3 b4)), .val (.int (3 : Int32)), .val (.int (own_j1a1_161_L5 i2 b0 b1 b2 b3 b4)), .val (.int (own_j1a1_161_L6 i2 b0 b1 b2 b3 b4)), .val (.int (own_j1a1_161_L7 i2 b0 b1 b2 b3 b4)), .val (.int (1 : Int32)), .val (.int (own_v1a1_191_4 i2 b0 b1 b2 b3 b4))] [])) _
              refine XS.iconst XJ16.here hx rfl (hb hby own_d1_207) ?_
              exact kt
            refine ownE.retI XJ16 hx hlk hret (hb hby own_d1_208) ?_ (by decide) (by decide)
            show own_Q1a1 Z r0 i2 kk b0 b1 b2 b3 b4 h0 n0 _ TJ16.heap _
            rw [eJ16]
            exact ⟨(by rw [hv16, own_r1a1_161, if_pos hc17, if_neg hk18_0, if_neg hk18_1, if_pos hc29] <;> first | rfl | decide), NJ16, rfl⟩
          · -- pc 197
            refine ownE.go (T' := TJ16) (f' := (mkF m 200 #[.val (.ref r0), .val (.int (1 : Int32)), .val (.int i2), .val (.int (own_v1a1_7 i2 b0 b1 b2 b3 b4)), .val (.int (3 : Int32)), .val (.int (own_j1a1_161_L5 i2 b0 b1 b2 b3 b4)), .val (.int (own_j1a1_161_L6 i2 b0 b1 b2 b3 b4)), .val (.int (own_j1a1_161_L7 i2 b0 b1 b2 b3 b4)), .val (.int (1 : Int32)), .val (.int (own_v1a1_191_4 i2 b0 b1 b2 b3 b4))] [])) (fun t kt => XS.icmpNo (g := (mkF m 197 #[.val (.ref r0), .val (.int (1 : Int32)), .val (.int i2), .val (.int (own_v1a1_7 i2 b0 b1 b2 b3 b4)), .val (.int (3 : Int32)), .val (.int (own_j1a1_161_L5 i2 b0 b1 b2 b3 b4)), .val (.int (own_j1a1_161_L6 i2 b0 b1 b2 b3 b4)), .val (.int (own_j1a1_161_L7 i2 b0 b1 b2 b3 b4)), .val (.int (1 : Int32)), .val (.int (own_v1a1_191_4 i2 b0 b1 b2 b3 b4))] [(.int (own_j1a1_161_L6 i2 b0 b1 b2 b3 b4)), (.int (own_v1a1_191_4 i2 b0 b1 b2 b3 b4))])) XJ16.here hx rfl (hb hby own_d1_197) rfl (Jvm.Free.XT.ii_lt_f hc29) kt) ?_
            refine ownE.go (T' := TJ16) (f' := (mkF m 204 #[.val (.ref r0), .val (.int (1 : Int32)), .val (.int i2), .val (.int (own_v1a1_7 i2 b0 b1 b2 b3 b4)), .val (.int (3 : Int32)), .val (.int (own_j1a1_161_L5 i2 b0 b1 b2 b3 b4)), .val (.int (own_j1a1_161_L6 i2 b0 b1 b2 b3 b4)), .val (.int (own_j1a1_161_L7 i2 b0 b1 b2 b3 b4)), .val (.int (1 : Int32)), .val (.int (own_v1a1_191_4 i2 b0 b1 b2 b3 b4))] [(.int (own_j1a1_161_L7 i2 b0 b1 b2 b3 b4)), (.int (own_v1a1_191_4 i2 b0 b1 b2 b3 b4))])) (fun t kt => ?_) ?_
            · show Steps p.tables e below (TJ16.setTop (mkF m 200 #[.val (.ref r0), .val (.int (1 : Int32)), .val (.int i2), .val (.int (own_v1a1_7 i2 b0 b1 b2 b3 b4)), .val (.int (3 : Int32)), .val (.int (own_j1a1_161_L5 i2 b0 b1 b2 b3 b4)), .val (.int (own_j1a1_161_L6 i2 b0 b1 b2 b3 b4)), .val (.int (own_j1a1_161_L7 i2 b0 b1 b2 b3 b4)), .val (.int (1 : Int32)), .val (.int (own_v1a1_191_4 i2 b0 b1 b2 b3 b4))] [])) _
              refine XS.iload XJ16.here hx rfl (hb hby own_d1_200) rfl ?_
              show Steps p.tables e below (TJ16.setTop (mkF m 202 #[.val (.ref r0), .val (.int (1 : Int32)), .val (.int i2), .val (.int (own_v1a1_7 i2 b0 b1 b2 b3 b4)), .val (.int (3 : Int32)), .val (.int (own_j1a1_161_L5 i2 b0 b1 b2 b3 b4)), .val (.int (own_j1a1_161_L6 i2 b0 b1 b2 b3 b4)), .val (.int (own_j1a1_161_L7 i2 b0 b1 b2 b3 b4)), .val (.int (1 : Int32)), .val (.int (own_v1a1_191_4 i2 b0 b1 b2 b3 b4))] [(.int (own_v1a1_191_4 i2 b0 b1 b2 b3 b4))])) _
              refine XS.iload XJ16.here hx rfl (hb hby own_d1_202) rfl ?_
              exact kt
            by_cases hc30 : (own_j1a1_161_L7 i2 b0 b1 b2 b3 b4) < (own_v1a1_191_4 i2 b0 b1 b2 b3 b4)
            · -- pc 204
              refine ownE.go (T' := TJ16) (f' := (mkF m 207 #[.val (.ref r0), .val (.int (1 : Int32)), .val (.int i2), .val (.int (own_v1a1_7 i2 b0 b1 b2 b3 b4)), .val (.int (3 : Int32)), .val (.int (own_j1a1_161_L5 i2 b0 b1 b2 b3 b4)), .val (.int (own_j1a1_161_L6 i2 b0 b1 b2 b3 b4)), .val (.int (own_j1a1_161_L7 i2 b0 b1 b2 b3 b4)), .val (.int (1 : Int32)), .val (.int (own_v1a1_191_4 i2 b0 b1 b2 b3 b4))] [])) (fun t kt => XS.icmpNo (g := (mkF m 204 #[.val (.ref r0), .val (.int (1 : Int32)), .val (.int i2), .val (.int (own_v1a1_7 i2 b0 b1 b2 b3 b4)), .val (.int (3 : Int32)), .val (.int (own_j1a1_161_L5 i2 b0 b1 b2 b3 b4)), .val (.int (own_j1a1_161_L6 i2 b0 b1 b2 b3 b4)), .val (.int (own_j1a1_161_L7 i2 b0 b1 b2 b3 b4)), .val (.int (1 : Int32)), .val (.int (own_v1a1_191_4 i2 b0 b1 b2 b3 b4))] [(.int (own_j1a1_161_L7 i2 b0 b1 b2 b3 b4)), (.int (own_v1a1_191_4 i2 b0 b1 b2 b3 b4))])) XJ16.here hx rfl (hb hby own_d1_204) rfl (Jvm.Free.XT.ii_le_f hc30) kt) ?_
              refine ownE.go (T' := TJ16) (f' := (mkF m 208 #[.val (.ref r0), .val (.int (1 : Int32)), .val (.int i2), .val (.int (own_v1a1_7 i2 b0 b1 b2 b3 b4)), .val (.int (3 : Int32)), .val (.int (own_j1a1_161_L5 i2 b0 b1 b2 b3 b4)), .val (.int (own_j1a1_161_L6 i2 b0 b1 b2 b3 b4)), .val (.int (own_j1a1_161_L7 i2 b0 b1 b2 b3 b4)), .val (.int (1 : Int32)), .val (.int (own_v1a1_191_4 i2 b0 b1 b2 b3 b4))] [(.int (-1 : Int32))])) (fun t kt => ?_) ?_
              · show Steps p.tables e below (TJ16.setTop (mkF m 207 #[.val (.ref r0), .val (.int (1 : Int32)), .val (.int i2), .val (.int (own_v1a1_7 i2 b0 b1 b2 b3 b4)), .val (.int (3 : Int32)), .val (.int (own_j1a1_161_L5 i2 b0 b1 b2 b3 b4)), .val (.int (own_j1a1_161_L6 i2 b0 b1 b2 b3 b4)), .val (.int (own_j1a1_161_L7 i2 b0 b1 b2 b3 b4)), .val (.int (1 : Int32)), .val (.int (own_v1a1_191_4 i2 b0 b1 b2 b3 b4))] [])) _
                refine XS.iconst XJ16.here hx rfl (hb hby own_d1_207) ?_
                exact kt
              refine ownE.retI XJ16 hx hlk hret (hb hby own_d1_208) ?_ (by decide) (by decide)
              show own_Q1a1 Z r0 i2 kk b0 b1 b2 b3 b4 h0 n0 _ TJ16.heap _
              rw [eJ16]
              exact ⟨(by rw [hv16, own_r1a1_161, if_pos hc17, if_neg hk18_0, if_neg hk18_1, if_neg hc29, if_pos hc30] <;> first | rfl | decide), NJ16, rfl⟩
            · -- pc 204
              refine ownE.go (T' := TJ16) (f' := (mkF m 209 #[.val (.ref r0), .val (.int (1 : Int32)), .val (.int i2), .val (.int (own_v1a1_7 i2 b0 b1 b2 b3 b4)), .val (.int (3 : Int32)), .val (.int (own_j1a1_161_L5 i2 b0 b1 b2 b3 b4)), .val (.int (own_j1a1_161_L6 i2 b0 b1 b2 b3 b4)), .val (.int (own_j1a1_161_L7 i2 b0 b1 b2 b3 b4)), .val (.int (1 : Int32)), .val (.int (own_v1a1_191_4 i2 b0 b1 b2 b3 b4))] [])) (fun t kt => XS.icmpYes (g := (mkF m 204 #[.val (.ref r0), .val (.int (1 : Int32)), .val (.int i2), .val (.int (own_v1a1_7 i2 b0 b1 b2 b3 b4)), .val (.int (3 : Int32)), .val (.int (own_j1a1_161_L5 i2 b0 b1 b2 b3 b4)), .val (.int (own_j1a1_161_L6 i2 b0 b1 b2 b3 b4)), .val (.int (own_j1a1_161_L7 i2 b0 b1 b2 b3 b4)), .val (.int (1 : Int32)), .val (.int (own_v1a1_191_4 i2 b0 b1 b2 b3 b4))] [(.int (own_j1a1_161_L7 i2 b0 b1 b2 b3 b4)), (.int (own_v1a1_191_4 i2 b0 b1 b2 b3 b4))])) XJ16.here hx rfl (pc0 := 204) (pc' := 209) rfl (hb hby own_d1_204) rfl (Jvm.Free.XT.ii_le_t hc30) (by decide) (by decide) kt) ?_
              refine ownE.go (T' := TJ16) (f' := (mkF m 178 #[.val (.ref r0), .val (.int (1 : Int32)), .val (.int i2), .val (.int (own_v1a1_7 i2 b0 b1 b2 b3 b4)), .val (.int (3 : Int32)), .val (.int (own_v1a1_220_4 i2 b0 b1 b2 b3 b4)), .val (.int (128 : Int32)), .val (.int (191 : Int32)), .val (.int (2 : Int32)), .val (.int (own_v1a1_191_4 i2 b0 b1 b2 b3 b4))] [(.int (3 : Int32)), (.int (2 : Int32))])) (fun t kt => ?_) ?_
              · show Steps p.tables e below (TJ16.setTop (mkF m 209 #[.val (.ref r0), .val (.int (1 : Int32)), .val (.int i2), .val (.int (own_v1a1_7 i2 b0 b1 b2 b3 b4)), .val (.int (3 : Int32)), .val (.int (own_j1a1_161_L5 i2 b0 b1 b2 b3 b4)), .val (.int (own_j1a1_161_L6 i2 b0 b1 b2 b3 b4)), .val (.int (own_j1a1_161_L7 i2 b0 b1 b2 b3 b4)), .val (.int (1 : Int32)), .val (.int (own_v1a1_191_4 i2 b0 b1 b2 b3 b4))] [])) _
                refine XS.iload XJ16.here hx rfl (hb hby own_d1_209) rfl ?_
                show Steps p.tables e below (TJ16.setTop (mkF m 211 #[.val (.ref r0), .val (.int (1 : Int32)), .val (.int i2), .val (.int (own_v1a1_7 i2 b0 b1 b2 b3 b4)), .val (.int (3 : Int32)), .val (.int (own_j1a1_161_L5 i2 b0 b1 b2 b3 b4)), .val (.int (own_j1a1_161_L6 i2 b0 b1 b2 b3 b4)), .val (.int (own_j1a1_161_L7 i2 b0 b1 b2 b3 b4)), .val (.int (1 : Int32)), .val (.int (own_v1a1_191_4 i2 b0 b1 b2 b3 b4))] [(.int (own_j1a1_161_L5 i2 b0 b1 b2 b3 b4))])) _
                refine XS.bipush XJ16.here hx rfl (hb hby own_d1_211) ?_
                show Steps p.tables e below (TJ16.setTop (mkF m 213 #[.val (.ref r0), .val (.int (1 : Int32)), .val (.int i2), .val (.int (own_v1a1_7 i2 b0 b1 b2 b3 b4)), .val (.int (3 : Int32)), .val (.int (own_j1a1_161_L5 i2 b0 b1 b2 b3 b4)), .val (.int (own_j1a1_161_L6 i2 b0 b1 b2 b3 b4)), .val (.int (own_j1a1_161_L7 i2 b0 b1 b2 b3 b4)), .val (.int (1 : Int32)), .val (.int (own_v1a1_191_4 i2 b0 b1 b2 b3 b4))] [(.int (6 : Int32)), (.int (own_j1a1_161_L5 i2 b0 b1 b2 b3 b4))])) _
                refine XS.ishl XJ16.here hx rfl (hb hby own_d1_213) rfl ?_
                show Steps p.tables e below (TJ16.setTop (mkF m 214 #[.val (.ref r0), .val (.int (1 : Int32)), .val (.int i2), .val (.int (own_v1a1_7 i2 b0 b1 b2 b3 b4)), .val (.int (3 : Int32)), .val (.int (own_j1a1_161_L5 i2 b0 b1 b2 b3 b4)), .val (.int (own_j1a1_161_L6 i2 b0 b1 b2 b3 b4)), .val (.int (own_j1a1_161_L7 i2 b0 b1 b2 b3 b4)), .val (.int (1 : Int32)), .val (.int (own_v1a1_191_4 i2 b0 b1 b2 b3 b4))] [(.int ((own_j1a1_161_L5 i2 b0 b1 b2 b3 b4) <<< ((6 : Int32) &&& 31)))])) _
                refine XS.iload XJ16.here hx rfl (hb hby own_d1_214) rfl ?_
                show Steps p.tables e below (TJ16.setTop (mkF m 216 #[.val (.ref r0), .val (.int (1 : Int32)), .val (.int i2), .val (.int (own_v1a1_7 i2 b0 b1 b2 b3 b4)), .val (.int (3 : Int32)), .val (.int (own_j1a1_161_L5 i2 b0 b1 b2 b3 b4)), .val (.int (own_j1a1_161_L6 i2 b0 b1 b2 b3 b4)), .val (.int (own_j1a1_161_L7 i2 b0 b1 b2 b3 b4)), .val (.int (1 : Int32)), .val (.int (own_v1a1_191_4 i2 b0 b1 b2 b3 b4))] [(.int (own_v1a1_191_4 i2 b0 b1 b2 b3 b4)), (.int ((own_j1a1_161_L5 i2 b0 b1 b2 b3 b4) <<< ((6 : Int32) &&& 31)))])) _
                refine XS.bipush XJ16.here hx rfl (hb hby own_d1_216) ?_
                show Steps p.tables e below (TJ16.setTop (mkF m 218 #[.val (.ref r0), .val (.int (1 : Int32)), .val (.int i2), .val (.int (own_v1a1_7 i2 b0 b1 b2 b3 b4)), .val (.int (3 : Int32)), .val (.int (own_j1a1_161_L5 i2 b0 b1 b2 b3 b4)), .val (.int (own_j1a1_161_L6 i2 b0 b1 b2 b3 b4)), .val (.int (own_j1a1_161_L7 i2 b0 b1 b2 b3 b4)), .val (.int (1 : Int32)), .val (.int (own_v1a1_191_4 i2 b0 b1 b2 b3 b4))] [(.int (63 : Int32)), (.int (own_v1a1_191_4 i2 b0 b1 b2 b3 b4)), (.int ((own_j1a1_161_L5 i2 b0 b1 b2 b3 b4) <<< ((6 : Int32) &&& 31)))])) _
                refine XS.iand XJ16.here hx rfl (hb hby own_d1_218) rfl ?_
                show Steps p.tables e below (TJ16.setTop (mkF m 219 #[.val (.ref r0), .val (.int (1 : Int32)), .val (.int i2), .val (.int (own_v1a1_7 i2 b0 b1 b2 b3 b4)), .val (.int (3 : Int32)), .val (.int (own_j1a1_161_L5 i2 b0 b1 b2 b3 b4)), .val (.int (own_j1a1_161_L6 i2 b0 b1 b2 b3 b4)), .val (.int (own_j1a1_161_L7 i2 b0 b1 b2 b3 b4)), .val (.int (1 : Int32)), .val (.int (own_v1a1_191_4 i2 b0 b1 b2 b3 b4))] [(.int ((own_v1a1_191_4 i2 b0 b1 b2 b3 b4) &&& (63 : Int32))), (.int ((own_j1a1_161_L5 i2 b0 b1 b2 b3 b4) <<< ((6 : Int32) &&& 31)))])) _
                refine XS.ior XJ16.here hx rfl (hb hby own_d1_219) rfl ?_
                show Steps p.tables e below (TJ16.setTop (mkF m 220 #[.val (.ref r0), .val (.int (1 : Int32)), .val (.int i2), .val (.int (own_v1a1_7 i2 b0 b1 b2 b3 b4)), .val (.int (3 : Int32)), .val (.int (own_j1a1_161_L5 i2 b0 b1 b2 b3 b4)), .val (.int (own_j1a1_161_L6 i2 b0 b1 b2 b3 b4)), .val (.int (own_j1a1_161_L7 i2 b0 b1 b2 b3 b4)), .val (.int (1 : Int32)), .val (.int (own_v1a1_191_4 i2 b0 b1 b2 b3 b4))] [(.int (((own_j1a1_161_L5 i2 b0 b1 b2 b3 b4) <<< ((6 : Int32) &&& 31)) ||| ((own_v1a1_191_4 i2 b0 b1 b2 b3 b4) &&& (63 : Int32))))])) _
                refine XS.istore XJ16.here hx rfl (hb hby own_d1_220) rfl (l' := #[.val (.ref r0), .val (.int (1 : Int32)), .val (.int i2), .val (.int (own_v1a1_7 i2 b0 b1 b2 b3 b4)), .val (.int (3 : Int32)), .val (.int (own_v1a1_220_4 i2 b0 b1 b2 b3 b4)), .val (.int (own_j1a1_161_L6 i2 b0 b1 b2 b3 b4)), .val (.int (own_j1a1_161_L7 i2 b0 b1 b2 b3 b4)), .val (.int (1 : Int32)), .val (.int (own_v1a1_191_4 i2 b0 b1 b2 b3 b4))]) rfl ?_
                show Steps p.tables e below (TJ16.setTop (mkF m 222 #[.val (.ref r0), .val (.int (1 : Int32)), .val (.int i2), .val (.int (own_v1a1_7 i2 b0 b1 b2 b3 b4)), .val (.int (3 : Int32)), .val (.int (own_v1a1_220_4 i2 b0 b1 b2 b3 b4)), .val (.int (own_j1a1_161_L6 i2 b0 b1 b2 b3 b4)), .val (.int (own_j1a1_161_L7 i2 b0 b1 b2 b3 b4)), .val (.int (1 : Int32)), .val (.int (own_v1a1_191_4 i2 b0 b1 b2 b3 b4))] [])) _
                refine XS.sipush XJ16.here hx rfl (hb hby own_d1_222) ?_
                show Steps p.tables e below (TJ16.setTop (mkF m 225 #[.val (.ref r0), .val (.int (1 : Int32)), .val (.int i2), .val (.int (own_v1a1_7 i2 b0 b1 b2 b3 b4)), .val (.int (3 : Int32)), .val (.int (own_v1a1_220_4 i2 b0 b1 b2 b3 b4)), .val (.int (own_j1a1_161_L6 i2 b0 b1 b2 b3 b4)), .val (.int (own_j1a1_161_L7 i2 b0 b1 b2 b3 b4)), .val (.int (1 : Int32)), .val (.int (own_v1a1_191_4 i2 b0 b1 b2 b3 b4))] [(.int (128 : Int32))])) _
                refine XS.istore XJ16.here hx rfl (hb hby own_d1_225) rfl (l' := #[.val (.ref r0), .val (.int (1 : Int32)), .val (.int i2), .val (.int (own_v1a1_7 i2 b0 b1 b2 b3 b4)), .val (.int (3 : Int32)), .val (.int (own_v1a1_220_4 i2 b0 b1 b2 b3 b4)), .val (.int (128 : Int32)), .val (.int (own_j1a1_161_L7 i2 b0 b1 b2 b3 b4)), .val (.int (1 : Int32)), .val (.int (own_v1a1_191_4 i2 b0 b1 b2 b3 b4))]) rfl ?_
                show Steps p.tables e below (TJ16.setTop (mkF m 227 #[.val (.ref r0), .val (.int (1 : Int32)), .val (.int i2), .val (.int (own_v1a1_7 i2 b0 b1 b2 b3 b4)), .val (.int (3 : Int32)), .val (.int (own_v1a1_220_4 i2 b0 b1 b2 b3 b4)), .val (.int (128 : Int32)), .val (.int (own_j1a1_161_L7 i2 b0 b1 b2 b3 b4)), .val (.int (1 : Int32)), .val (.int (own_v1a1_191_4 i2 b0 b1 b2 b3 b4))] [])) _
                refine XS.sipush XJ16.here hx rfl (hb hby own_d1_227) ?_
                show Steps p.tables e below (TJ16.setTop (mkF m 230 #[.val (.ref r0), .val (.int (1 : Int32)), .val (.int i2), .val (.int (own_v1a1_7 i2 b0 b1 b2 b3 b4)), .val (.int (3 : Int32)), .val (.int (own_v1a1_220_4 i2 b0 b1 b2 b3 b4)), .val (.int (128 : Int32)), .val (.int (own_j1a1_161_L7 i2 b0 b1 b2 b3 b4)), .val (.int (1 : Int32)), .val (.int (own_v1a1_191_4 i2 b0 b1 b2 b3 b4))] [(.int (191 : Int32))])) _
                refine XS.istore XJ16.here hx rfl (hb hby own_d1_230) rfl (l' := #[.val (.ref r0), .val (.int (1 : Int32)), .val (.int i2), .val (.int (own_v1a1_7 i2 b0 b1 b2 b3 b4)), .val (.int (3 : Int32)), .val (.int (own_v1a1_220_4 i2 b0 b1 b2 b3 b4)), .val (.int (128 : Int32)), .val (.int (191 : Int32)), .val (.int (1 : Int32)), .val (.int (own_v1a1_191_4 i2 b0 b1 b2 b3 b4))]) rfl ?_
                show Steps p.tables e below (TJ16.setTop (mkF m 232 #[.val (.ref r0), .val (.int (1 : Int32)), .val (.int i2), .val (.int (own_v1a1_7 i2 b0 b1 b2 b3 b4)), .val (.int (3 : Int32)), .val (.int (own_v1a1_220_4 i2 b0 b1 b2 b3 b4)), .val (.int (128 : Int32)), .val (.int (191 : Int32)), .val (.int (1 : Int32)), .val (.int (own_v1a1_191_4 i2 b0 b1 b2 b3 b4))] [])) _
                refine XS.iinc XJ16.here hx rfl (hb hby own_d1_232) rfl (l' := #[.val (.ref r0), .val (.int (1 : Int32)), .val (.int i2), .val (.int (own_v1a1_7 i2 b0 b1 b2 b3 b4)), .val (.int (3 : Int32)), .val (.int (own_v1a1_220_4 i2 b0 b1 b2 b3 b4)), .val (.int (128 : Int32)), .val (.int (191 : Int32)), .val (.int (2 : Int32)), .val (.int (own_v1a1_191_4 i2 b0 b1 b2 b3 b4))]) rfl ?_
                show Steps p.tables e below (TJ16.setTop (mkF m 235 #[.val (.ref r0), .val (.int (1 : Int32)), .val (.int i2), .val (.int (own_v1a1_7 i2 b0 b1 b2 b3 b4)), .val (.int (3 : Int32)), .val (.int (own_v1a1_220_4 i2 b0 b1 b2 b3 b4)), .val (.int (128 : Int32)), .val (.int (191 : Int32)), .val (.int (2 : Int32)), .val (.int (own_v1a1_191_4 i2 b0 b1 b2 b3 b4))] [])) _
                refine XS.goto XJ16.here hx rfl (pc0 := 235) (pc' := 174) rfl (hb hby own_d1_235) (by decide) (by decide) ?_
                show Steps p.tables e below (TJ16.setTop (mkF m 174 #[.val (.ref r0), .val (.int (1 : Int32)), .val (.int i2), .val (.int (own_v1a1_7 i2 b0 b1 b2 b3 b4)), .val (.int (3 : Int32)), .val (.int (own_v1a1_220_4 i2 b0 b1 b2 b3 b4)), .val (.int (128 : Int32)), .val (.int (191 : Int32)), .val (.int (2 : Int32)), .val (.int (own_v1a1_191_4 i2 b0 b1 b2 b3 b4))] [])) _
                refine XS.iload XJ16.here hx rfl (hb hby own_d1_174) rfl ?_
                show Steps p.tables e below (TJ16.setTop (mkF m 176 #[.val (.ref r0), .val (.int (1 : Int32)), .val (.int i2), .val (.int (own_v1a1_7 i2 b0 b1 b2 b3 b4)), .val (.int (3 : Int32)), .val (.int (own_v1a1_220_4 i2 b0 b1 b2 b3 b4)), .val (.int (128 : Int32)), .val (.int (191 : Int32)), .val (.int (2 : Int32)), .val (.int (own_v1a1_191_4 i2 b0 b1 b2 b3 b4))] [(.int (2 : Int32))])) _
                refine XS.iload XJ16.here hx rfl (hb hby own_d1_176) rfl ?_
                exact kt
              refine ownE.go (T' := TJ16) (f' := (mkF m 181 #[.val (.ref r0), .val (.int (1 : Int32)), .val (.int i2), .val (.int (own_v1a1_7 i2 b0 b1 b2 b3 b4)), .val (.int (3 : Int32)), .val (.int (own_v1a1_220_4 i2 b0 b1 b2 b3 b4)), .val (.int (128 : Int32)), .val (.int (191 : Int32)), .val (.int (2 : Int32)), .val (.int (own_v1a1_191_4 i2 b0 b1 b2 b3 b4))] [])) (fun t kt => XS.icmpNo (g := (mkF m 178 #[.val (.ref r0), .val (.int (1 : Int32)), .val (.int i2), .val (.int (own_v1a1_7 i2 b0 b1 b2 b3 b4)), .val (.int (3 : Int32)), .val (.int (own_v1a1_220_4 i2 b0 b1 b2 b3 b4)), .val (.int (128 : Int32)), .val (.int (191 : Int32)), .val (.int (2 : Int32)), .val (.int (own_v1a1_191_4 i2 b0 b1 b2 b3 b4))] [(.int (3 : Int32)), (.int (2 : Int32))])) XJ16.here hx rfl (hb hby own_d1_178) rfl (Jvm.Free.XT.ii_gt_f (by decide)) kt) ?_
              refine ownE.go (T' := TJ16) (f' := (mkF m 186 #[.val (.ref r0), .val (.int (1 : Int32)), .val (.int i2), .val (.int (own_v1a1_7 i2 b0 b1 b2 b3 b4)), .val (.int (3 : Int32)), .val (.int (own_v1a1_220_4 i2 b0 b1 b2 b3 b4)), .val (.int (128 : Int32)), .val (.int (191 : Int32)), .val (.int (2 : Int32)), .val (.int (own_v1a1_191_4 i2 b0 b1 b2 b3 b4))] [(.int (3 : Int32)), (.ref r0)])) (fun t kt => ?_) ?_
              · show Steps p.tables e below (TJ16.setTop (mkF m 181 #[.val (.ref r0), .val (.int (1 : Int32)), .val (.int i2), .val (.int (own_v1a1_7 i2 b0 b1 b2 b3 b4)), .val (.int (3 : Int32)), .val (.int (own_v1a1_220_4 i2 b0 b1 b2 b3 b4)), .val (.int (128 : Int32)), .val (.int (191 : Int32)), .val (.int (2 : Int32)), .val (.int (own_v1a1_191_4 i2 b0 b1 b2 b3 b4))] [])) _
                refine XS.aloadN XJ16.here hx rfl (hb hby own_d1_181) rfl rfl ?_
                show Steps p.tables e below (TJ16.setTop (mkF m 182 #[.val (.ref r0), .val (.int (1 : Int32)), .val (.int i2), .val (.int (own_v1a1_7 i2 b0 b1 b2 b3 b4)), .val (.int (3 : Int32)), .val (.int (own_v1a1_220_4 i2 b0 b1 b2 b3 b4)), .val (.int (128 : Int32)), .val (.int (191 : Int32)), .val (.int (2 : Int32)), .val (.int (own_v1a1_191_4 i2 b0 b1 b2 b3 b4))] [(.ref r0)])) _
                refine XS.iloadN XJ16.here hx rfl (hb hby own_d1_182) rfl ?_
                show Steps p.tables e below (TJ16.setTop (mkF m 183 #[.val (.ref r0), .val (.int (1 : Int32)), .val (.int i2), .val (.int (own_v1a1_7 i2 b0 b1 b2 b3 b4)), .val (.int (3 : Int32)), .val (.int (own_v1a1_220_4 i2 b0 b1 b2 b3 b4)), .val (.int (128 : Int32)), .val (.int (191 : Int32)), .val (.int (2 : Int32)), .val (.int (own_v1a1_191_4 i2 b0 b1 b2 b3 b4))] [(.int (1 : Int32)), (.ref r0)])) _
                refine XS.iload XJ16.here hx rfl (hb hby own_d1_183) rfl ?_
                show Steps p.tables e below (TJ16.setTop (mkF m 185 #[.val (.ref r0), .val (.int (1 : Int32)), .val (.int i2), .val (.int (own_v1a1_7 i2 b0 b1 b2 b3 b4)), .val (.int (3 : Int32)), .val (.int (own_v1a1_220_4 i2 b0 b1 b2 b3 b4)), .val (.int (128 : Int32)), .val (.int (191 : Int32)), .val (.int (2 : Int32)), .val (.int (own_v1a1_191_4 i2 b0 b1 b2 b3 b4))] [(.int (2 : Int32)), (.int (1 : Int32)), (.ref r0)])) _
                refine XS.iadd XJ16.here hx rfl (hb hby own_d1_185) rfl ?_
                exact kt
              obtain ⟨cl31, Ar31, q31, S31, Nn31, Hh31, G31⟩ := id P0
              refine ownE.go (T' := TJ16) (f' := (mkF m 187 #[.val (.ref r0), .val (.int (1 : Int32)), .val (.int i2), .val (.int (own_v1a1_7 i2 b0 b1 b2 b3 b4)), .val (.int (3 : Int32)), .val (.int (own_v1a1_220_4 i2 b0 b1 b2 b3 b4)), .val (.int (128 : Int32)), .val (.int (191 : Int32)), .val (.int (2 : Int32)), .val (.int (own_v1a1_191_4 i2 b0 b1 b2 b3 b4))] [(.int b3)])) (fun t kt => XJ16.baloadBytes hx (j := (3 : Int32)) (v := (.int b3)) (by rw [eJ16]; exact Ar31.1) (State.isArrayOf_alike hZ.alike Ar31.2.1) Ar31.2.2 (inb_of S31 ⟨by decide, by decide⟩) (Hh31.at (inb_of S31 ⟨by decide, by decide⟩) rfl) (g := (mkF m 186 #[.val (.ref r0), .val (.int (1 : Int32)), .val (.int i2), .val (.int (own_v1a1_7 i2 b0 b1 b2 b3 b4)), .val (.int (3 : Int32)), .val (.int (own_v1a1_220_4 i2 b0 b1 b2 b3 b4)), .val (.int (128 : Int32)), .val (.int (191 : Int32)), .val (.int (2 : Int32)), .val (.int (own_v1a1_191_4 i2 b0 b1 b2 b3 b4))] [(.int (3 : Int32)), (.ref r0)])) rfl rfl (hb hby own_d1_186) _ kt) ?_
              refine ownE.go (T' := TJ16) (f' := (mkF m 197 #[.val (.ref r0), .val (.int (1 : Int32)), .val (.int i2), .val (.int (own_v1a1_7 i2 b0 b1 b2 b3 b4)), .val (.int (3 : Int32)), .val (.int (own_v1a1_220_4 i2 b0 b1 b2 b3 b4)), .val (.int (128 : Int32)), .val (.int (191 : Int32)), .val (.int (2 : Int32)), .val (.int (own_v1a1_191_5 i2 b0 b1 b2 b3 b4))] [(.int (128 : Int32)), (.int (own_v1a1_191_5 i2 b0 b1 b2 b3 b4))])) (fun t kt => ?_) ?_
              · show Steps p.tables e below (TJ16.setTop (mkF m 187 #[.val (.ref r0), .val (.int (1 : Int32)), .val (.int i2), .val (.int (own_v1a1_7 i2 b0 b1 b2 b3 b4)), .val (.int (3 : Int32)), .val (.int (own_v1a1_220_4 i2 b0 b1 b2 b3 b4)), .val (.int (128 : Int32)), .val (.int (191 : Int32)), .val (.int (2 : Int32)), .val (.int (own_v1a1_191_4 i2 b0 b1 b2 b3 b4))] [(.int b3)])) _
                refine XS.sipush XJ16.here hx rfl (hb hby own_d1_187) ?_
                show Steps p.tables e below (TJ16.setTop (mkF m 190 #[.val (.ref r0), .val (.int (1 : Int32)), .val (.int i2), .val (.int (own_v1a1_7 i2 b0 b1 b2 b3 b4)), .val (.int (3 : Int32)), .val (.int (own_v1a1_220_4 i2 b0 b1 b2 b3 b4)), .val (.int (128 : Int32)), .val (.int (191 : Int32)), .val (.int (2 : Int32)), .val (.int (own_v1a1_191_4 i2 b0 b1 b2 b3 b4))] [(.int (255 : Int32)), (.int b3)])) _
                refine XS.iand XJ16.here hx rfl (hb hby own_d1_190) rfl ?_
                show Steps p.tables e below (TJ16.setTop (mkF m 191 #[.val (.ref r0), .val (.int (1 : Int32)), .val (.int i2), .val (.int (own_v1a1_7 i2 b0 b1 b2 b3 b4)), .val (.int (3 : Int32)), .val (.int (own_v1a1_220_4 i2 b0 b1 b2 b3 b4)), .val (.int (128 : Int32)), .val (.int (191 : Int32)), .val (.int (2 : Int32)), .val (.int (own_v1a1_191_4 i2 b0 b1 b2 b3 b4))] [(.int (b3 &&& (255 : Int32)))])) _
                refine XS.istore XJ16.here hx rfl (hb hby own_d1_191) rfl (l' := #[.val (.ref r0), .val (.int (1 : Int32)), .val (.int i2), .val (.int (own_v1a1_7 i2 b0 b1 b2 b3 b4)), .val (.int (3 : Int32)), .val (.int (own_v1a1_220_4 i2 b0 b1 b2 b3 b4)), .val (.int (128 : Int32)), .val (.int (191 : Int32)), .val (.int (2 : Int32)), .val (.int (own_v1a1_191_5 i2 b0 b1 b2 b3 b4))]) rfl ?_
                show Steps p.tables e below (TJ16.setTop (mkF m 193 #[.val (.ref r0), .val (.int (1 : Int32)), .val (.int i2), .val (.int (own_v1a1_7 i2 b0 b1 b2 b3 b4)), .val (.int (3 : Int32)), .val (.int (own_v1a1_220_4 i2 b0 b1 b2 b3 b4)), .val (.int (128 : Int32)), .val (.int (191 : Int32)), .val (.int (2 : Int32)), .val (.int (own_v1a1_191_5 i2 b0 b1 b2 b3 b4))] [])) _
                refine XS.iload XJ16.here hx rfl (hb hby own_d1_193) rfl ?_
                show Steps p.tables e below (TJ16.setTop (mkF m 195 #[.val (.ref r0), .val (.int (1 : Int32)), .val (.int i2), .val (.int (own_v1a1_7 i2 b0 b1 b2 b3 b4)), .val (.int (3 : Int32)), .val (.int (own_v1a1_220_4 i2 b0 b1 b2 b3 b4)), .val (.int (128 : Int32)), .val (.int (191 : Int32)), .val (.int (2 : Int32)), .val (.int (own_v1a1_191_5 i2 b0 b1 b2 b3 b4))] [(.int (own_v1a1_191_5 i2 b0 b1 b2 b3 b4))])) _
                refine XS.iload XJ16.here hx rfl (hb hby own_d1_195) rfl ?_
                exact kt
              by_cases hc32 : (own_v1a1_191_5 i2 b0 b1 b2 b3 b4) < (128 : Int32)
              · -- pc 197
                refine ownE.go (T' := TJ16) (f' := (mkF m 207 #[.val (.ref r0), .val (.int (1 : Int32)), .val (.int i2), .val (.int (own_v1a1_7 i2 b0 b1 b2 b3 b4)), .val (.int (3 : Int32)), .val (.int (own_v1a1_220_4 i2 b0 b1 b2 b3 b4)), .val (.int (128 : Int32)), .val (.int (191 : Int32)), .val (.int (2 : Int32)), .val (.int (own_v1a1_191_5 i2 b0 b1 b2 b3 b4))] [])) (fun t kt => XS.icmpYes (g := (mkF m 197 #[.val (.ref r0), .val (.int (1 : Int32)), .val (.int i2), .val (.int (own_v1a1_7 i2 b0 b1 b2 b3 b4)), .val (.int (3 : Int32)), .val (.int (own_v1a1_220_4 i2 b0 b1 b2 b3 b4)), .val (.int (128 : Int32)), .val (.int (191 : Int32)), .val (.int (2 : Int32)), .val (.int (own_v1a1_191_5 i2 b0 b1 b2 b3 b4))] [(.int (128 : Int32)), (.int (own_v1a1_191_5 i2 b0 b1 b2 b3 b4))])) XJ16.here hx rfl (pc0 := 197) (pc' := 207) rfl (hb hby own_d1_197) rfl (Jvm.Free.XT.ii_lt_t hc32) (by decide) (by decide) kt) ?_
                refine ownE.go (T' := TJ16) (f' := (mkF m 208 #[.val (.ref r0), .val (.int (1 : Int32)), .val (.int i2), .val (.int (own_v1a1_7 i2 b0 b1 b2 b3 b4)), .val (.int (3 : Int32)), .val (.int (own_v1a1_220_4 i2 b0 b1 b2 b3 b4)), .val (.int (128 : Int32)), .val (.int (191 : Int32)), .val (.int (2 : Int32)), .val (.int (own_v1a1_191_5 i2 b0 b1 b2 b3 b4))] [(.int (-1 : Int32))])) (fun t kt => ?_) ?_
                · show Steps p.tables e below (TJ16.setTop (mkF m 207 #[.val (.ref r0), .val (.int (1 : Int32)), .val (.int i2), .val (.int (own_v1a1_7 i2 b0 b1 b2 b3 b4)), .val (.int (3 : Int32)), .val (.int (own_v1a1_220_4 i2 b0 b1 b2 b3 b4)), .val (.int (128 : Int32)), .val (.int (191 : Int32)), .val (.int (2 : Int32)), .val (.int (own_v1a1_191_5 i2 b0 b1 b2 b3 b4))] [])) _
                  refine XS.iconst XJ16.here hx rfl (hb hby own_d1_207) ?_
                  exact kt
                refine ownE.retI XJ16 hx hlk hret (hb hby own_d1_208) ?_ (by decide) (by decide)
                show own_Q1a1 Z r0 i2 kk b0 b1 b2 b3 b4 h0 n0 _ TJ16.heap _
                rw [eJ16]
                exact ⟨(by rw [hv16, own_r1a1_161, if_pos hc17, if_neg hk18_0, if_neg hk18_1, if_neg hc29, if_neg hc30, if_pos hc32] <;> first | rfl | decide), NJ16, rfl⟩
              · -- pc 197
                refine ownE.go (T' := TJ16) (f' := (mkF m 200 #[.val (.ref r0), .val (.int (1 : Int32)), .val (.int i2), .val (.int (own_v1a1_7 i2 b0 b1 b2 b3 b4)), .val (.int (3 : Int32)), .val (.int (own_v1a1_220_4 i2 b0 b1 b2 b3 b4)), .val (.int (128 : Int32)), .val (.int (191 : Int32)), .val (.int (2 : Int32)), .val (.int (own_v1a1_191_5 i2 b0 b1 b2 b3 b4))] [])) (fun t kt => XS.icmpNo (g := (mkF m 197 #[.val (.ref r0), .val (.int (1 : Int32)), .val (.int i2), .val (.int (own_v1a1_7 i2 b0 b1 b2 b3 b4)), .val (.int (3 : Int32)), .val (.int (own_v1a1_220_4 i2 b0 b1 b2 b3 b4)), .val (.int (128 : Int32)), .val (.int (191 : Int32)), .val (.int (2 : Int32)), .val (.int (own_v1a1_191_5 i2 b0 b1 b2 b3 b4))] [(.int (128 : Int32)), (.int (own_v1a1_191_5 i2 b0 b1 b2 b3 b4))])) XJ16.here hx rfl (hb hby own_d1_197) rfl (Jvm.Free.XT.ii_lt_f hc32) kt) ?_
                refine ownE.go (T' := TJ16) (f' := (mkF m 204 #[.val (.ref r0), .val (.int (1 : Int32)), .val (.int i2), .val (.int (own_v1a1_7 i2 b0 b1 b2 b3 b4)), .val (.int (3 : Int32)), .val (.int (own_v1a1_220_4 i2 b0 b1 b2 b3 b4)), .val (.int (128 : Int32)), .val (.int (191 : Int32)), .val (.int (2 : Int32)), .val (.int (own_v1a1_191_5 i2 b0 b1 b2 b3 b4))] [(.int (191 : Int32)), (.int (own_v1a1_191_5 i2 b0 b1 b2 b3 b4))])) (fun t kt => ?_) ?_
                · show Steps p.tables e below (TJ16.setTop (mkF m 200 #[.val (.ref r0), .val (.int (1 : Int32)), .val (.int i2), .val (.int (own_v1a1_7 i2 b0 b1 b2 b3 b4)), .val (.int (3 : Int32)), .val (.int (own_v1a1_220_4 i2 b0 b1 b2 b3 b4)), .val (.int (128 : Int32)), .val (.int (191 : Int32)), .val (.int (2 : Int32)), .val (.int (own_v1a1_191_5 i2 b0 b1 b2 b3 b4))] [])) _
                  refine XS.iload XJ16.here hx rfl (hb hby own_d1_200) rfl ?_
                  show Steps p.tables e below (TJ16.setTop (mkF m 202 #[.val (.ref r0), .val (.int (1 : Int32)), .val (.int i2), .val (.int (own_v1a1_7 i2 b0 b1 b2 b3 b4)), .val (.int (3 : Int32)), .val (.int (own_v1a1_220_4 i2 b0 b1 b2 b3 b4)), .val (.int (128 : Int32)), .val (.int (191 : Int32)), .val (.int (2 : Int32)), .val (.int (own_v1a1_191_5 i2 b0 b1 b2 b3 b4))] [(.int (own_v1a1_191_5 i2 b0 b1 b2 b3 b4))])) _
                  refine XS.iload XJ16.here hx rfl (hb hby own_d1_202) rfl ?_
                  exact kt
                by_cases hc33 : (191 : Int32) < (own_v1a1_191_5 i2 b0 b1 b2 b3 b4)
                · -- pc 204
                  refine ownE.go (T' := TJ16) (f' := (mkF m 207 #[.val (.ref r0), .val (.int (1 : Int32)), .val (.int i2), .val (.int (own_v1a1_7 i2 b0 b1 b2 b3 b4)), .val (.int (3 : Int32)), .val (.int (own_v1a1_220_4 i2 b0 b1 b2 b3 b4)), .val (.int (128 : Int32)), .val (.int (191 : Int32)), .val (.int (2 : Int32)), .val (.int (own_v1a1_191_5 i2 b0 b1 b2 b3 b4))] [])) (fun t kt => XS.icmpNo (g := (mkF m 204 #[.val (.ref r0), .val (.int (1 : Int32)), .val (.int i2), .val (.int (own_v1a1_7 i2 b0 b1 b2 b3 b4)), .val (.int (3 : Int32)), .val (.int (own_v1a1_220_4 i2 b0 b1 b2 b3 b4)), .val (.int (128 : Int32)), .val (.int (191 : Int32)), .val (.int (2 : Int32)), .val (.int (own_v1a1_191_5 i2 b0 b1 b2 b3 b4))] [(.int (191 : Int32)), (.int (own_v1a1_191_5 i2 b0 b1 b2 b3 b4))])) XJ16.here hx rfl (hb hby own_d1_204) rfl (Jvm.Free.XT.ii_le_f hc33) kt) ?_
                  refine ownE.go (T' := TJ16) (f' := (mkF m 208 #[.val (.ref r0), .val (.int (1 : Int32)), .val (.int i2), .val (.int (own_v1a1_7 i2 b0 b1 b2 b3 b4)), .val (.int (3 : Int32)), .val (.int (own_v1a1_220_4 i2 b0 b1 b2 b3 b4)), .val (.int (128 : Int32)), .val (.int (191 : Int32)), .val (.int (2 : Int32)), .val (.int (own_v1a1_191_5 i2 b0 b1 b2 b3 b4))] [(.int (-1 : Int32))])) (fun t kt => ?_) ?_
                  · show Steps p.tables e below (TJ16.setTop (mkF m 207 #[.val (.ref r0), .val (.int (1 : Int32)), .val (.int i2), .val (.int (own_v1a1_7 i2 b0 b1 b2 b3 b4)), .val (.int (3 : Int32)), .val (.int (own_v1a1_220_4 i2 b0 b1 b2 b3 b4)), .val (.int (128 : Int32)), .val (.int (191 : Int32)), .val (.int (2 : Int32)), .val (.int (own_v1a1_191_5 i2 b0 b1 b2 b3 b4))] [])) _
                    refine XS.iconst XJ16.here hx rfl (hb hby own_d1_207) ?_
                    exact kt
                  refine ownE.retI XJ16 hx hlk hret (hb hby own_d1_208) ?_ (by decide) (by decide)
                  show own_Q1a1 Z r0 i2 kk b0 b1 b2 b3 b4 h0 n0 _ TJ16.heap _
                  rw [eJ16]
                  exact ⟨(by rw [hv16, own_r1a1_161, if_pos hc17, if_neg hk18_0, if_neg hk18_1, if_neg hc29, if_neg hc30, if_neg hc32, if_pos hc33] <;> first | rfl | decide), NJ16, rfl⟩
                · -- pc 204
                  refine ownE.go (T' := TJ16) (f' := (mkF m 209 #[.val (.ref r0), .val (.int (1 : Int32)), .val (.int i2), .val (.int (own_v1a1_7 i2 b0 b1 b2 b3 b4)), .val (.int (3 : Int32)), .val (.int (own_v1a1_220_4 i2 b0 b1 b2 b3 b4)), .val (.int (128 : Int32)), .val (.int (191 : Int32)), .val (.int (2 : Int32)), .val (.int (own_v1a1_191_5 i2 b0 b1 b2 b3 b4))] [])) (fun t kt => XS.icmpYes (g := (mkF m 204 #[.val (.ref r0), .val (.int (1 : Int32)), .val (.int i2), .val (.int (own_v1a1_7 i2 b0 b1 b2 b3 b4)), .val (.int (3 : Int32)), .val (.int (own_v1a1_220_4 i2 b0 b1 b2 b3 b4)), .val (.int (128 : Int32)), .val (.int (191 : Int32)), .val (.int (2 : Int32)), .val (.int (own_v1a1_191_5 i2 b0 b1 b2 b3 b4))] [(.int (191 : Int32)), (.int (own_v1a1_191_5 i2 b0 b1 b2 b3 b4))])) XJ16.here hx rfl (pc0 := 204) (pc' := 209) rfl (hb hby own_d1_204) rfl (Jvm.Free.XT.ii_le_t hc33) (by decide) (by decide) kt) ?_
                  refine ownE.go (T' := TJ16) (f' := (mkF m 178 #[.val (.ref r0), .val (.int (1 : Int32)), .val (.int i2), .val (.int (own_v1a1_7 i2 b0 b1 b2 b3 b4)), .val (.int (3 : Int32)), .val (.int (own_v1a1_220_5 i2 b0 b1 b2 b3 b4)), .val (.int (128 : Int32)), .val (.int (191 : Int32)), .val (.int (3 : Int32)), .val (.int (own_v1a1_191_5 i2 b0 b1 b2 b3 b4))] [(.int (3 : Int32)), (.int (3 : Int32))])) (fun t kt => ?_) ?_
                  · show Steps p.tables e below (TJ16.setTop (mkF m 209 #[.val (.ref r0), .val (.int (1 : Int32)), .val (.int i2), .val (.int (own_v1a1_7 i2 b0 b1 b2 b3 b4)), .val (.int (3 : Int32)), .val (.int (own_v1a1_220_4 i2 b0 b1 b2 b3 b4)), .val (.int (128 : Int32)), .val (.int (191 : Int32)), .val (.int (2 : Int32)), .val (.int (own_v1a1_191_5 i2 b0 b1 b2 b3 b4))] [])) _
                    refine XS.iload XJ16.here hx rfl (hb hby own_d1_209) rfl ?_
                    show Steps p.tables e below (TJ16.setTop (mkF m 211 #[.val (.ref r0), .val (.int (1 : Int32)), .val (.int i2), .val (.int (own_v1a1_7 i2 b0 b1 b2 b3 b4)), .val (.int (3 : Int32)), .val (.int (own_v1a1_220_4 i2 b0 b1 b2 b3 b4)), .val (.int (128 : Int32)), .val (.int (191 : Int32)), .val (.int (2 : Int32)), .val (.int (own_v1a1_191_5 i2 b0 b1 b2 b3 b4))] [(.int (own_v1a1_220_4 i2 b0 b1 b2 b3 b4))])) _
                    refine XS.bipush XJ16.here hx rfl (hb hby own_d1_211) ?_
                    show Steps p.tables e below (TJ16.setTop (mkF m 213 #[.val (.ref r0), .val (.int (1 : Int32)), .val (.int i2), .val (.int (own_v1a1_7 i2 b0 b1 b2 b3 b4)), .val (.int (3 : Int32)), .val (.int (own_v1a1_220_4 i2 b0 b1 b2 b3 b4)), .val (.int (128 : Int32)), .val (.int (191 : Int32)), .val (.int (2 : Int32)), .val (.int (own_v1a1_191_5 i2 b0 b1 b2 b3 b4))] [(.int (6 : Int32)), (.int (own_v1a1_220_4 i2 b0 b1 b2 b3 b4))])) _
                    refine XS.ishl XJ16.here hx rfl (hb hby own_d1_213) rfl ?_
                    show Steps p.tables e below (TJ16.setTop (mkF m 214 #[.val (.ref r0), .val (.int (1 : Int32)), .val (.int i2), .val (.int (own_v1a1_7 i2 b0 b1 b2 b3 b4)), .val (.int (3 : Int32)), .val (.int (own_v1a1_220_4 i2 b0 b1 b2 b3 b4)), .val (.int (128 : Int32)), .val (.int (191 : Int32)), .val (.int (2 : Int32)), .val (.int (own_v1a1_191_5 i2 b0 b1 b2 b3 b4))] [(.int ((own_v1a1_220_4 i2 b0 b1 b2 b3 b4) <<< ((6 : Int32) &&& 31)))])) _
                    refine XS.iload XJ16.here hx rfl (hb hby own_d1_214) rfl ?_
                    show Steps p.tables e below (TJ16.setTop (mkF m 216 #[.val (.ref r0), .val (.int (1 : Int32)), .val (.int i2), .val (.int (own_v1a1_7 i2 b0 b1 b2 b3 b4)), .val (.int (3 : Int32)), .val (.int (own_v1a1_220_4 i2 b0 b1 b2 b3 b4)), .val (.int (128 : Int32)), .val (.int (191 : Int32)), .val (.int (2 : Int32)), .val (.int (own_v1a1_191_5 i2 b0 b1 b2 b3 b4))] [(.int (own_v1a1_191_5 i2 b0 b1 b2 b3 b4)), (.int ((own_v1a1_220_4 i2 b0 b1 b2 b3 b4) <<< ((6 : Int32) &&& 31)))])) _
                    refine XS.bipush XJ16.here hx rfl (hb hby own_d1_216) ?_
                    show Steps p.tables e below (TJ16.setTop (mkF m 218 #[.val (.ref r0), .val (.int (1 : Int32)), .val (.int i2), .val (.int (own_v1a1_7 i2 b0 b1 b2 b3 b4)), .val (.int (3 : Int32)), .val (.int (own_v1a1_220_4 i2 b0 b1 b2 b3 b4)), .val (.int (128 : Int32)), .val (.int (191 : Int32)), .val (.int (2 : Int32)), .val (.int (own_v1a1_191_5 i2 b0 b1 b2 b3 b4))] [(.int (63 : Int32)), (.int (own_v1a1_191_5 i2 b0 b1 b2 b3 b4)), (.int ((own_v1a1_220_4 i2 b0 b1 b2 b3 b4) <<< ((6 : Int32) &&& 31)))])) _
                    refine XS.iand XJ16.here hx rfl (hb hby own_d1_218) rfl ?_
                    show Steps p.tables e below (TJ16.setTop (mkF m 219 #[.val (.ref r0), .val (.int (1 : Int32)), .val (.int i2), .val (.int (own_v1a1_7 i2 b0 b1 b2 b3 b4)), .val (.int (3 : Int32)), .val (.int (own_v1a1_220_4 i2 b0 b1 b2 b3 b4)), .val (.int (128 : Int32)), .val (.int (191 : Int32)), .val (.int (2 : Int32)), .val (.int (own_v1a1_191_5 i2 b0 b1 b2 b3 b4))] [(.int ((own_v1a1_191_5 i2 b0 b1 b2 b3 b4) &&& (63 : Int32))), (.int ((own_v1a1_220_4 i2 b0 b1 b2 b3 b4) <<< ((6 : Int32) &&& 31)))])) _
                    refine XS.ior XJ16.here hx rfl (hb hby own_d1_219) rfl ?_
                    show Steps p.tables e below (TJ16.setTop (mkF m 220 #[.val (.ref r0), .val (.int (1 : Int32)), .val (.int i2), .val (.int (own_v1a1_7 i2 b0 b1 b2 b3 b4)), .val (.int (3 : Int32)), .val (.int (own_v1a1_220_4 i2 b0 b1 b2 b3 b4)), .val (.int (128 : Int32)), .val (.int (191 : Int32)), .val (.int (2 : Int32)), .val (.int (own_v1a1_191_5 i2 b0 b1 b2 b3 b4))] [(.int (((own_v1a1_220_4 i2 b0 b1 b2 b3 b4) <<< ((6 : Int32) &&& 31)) ||| ((own_v1a1_191_5 i2 b0 b1 b2 b3 b4) &&& (63 : Int32))))])) _
                    refine XS.istore XJ16.here hx rfl (hb hby own_d1_220) rfl (l' := #[.val (.ref r0), .val (.int (1 : Int32)), .val (.int i2), .val (.int (own_v1a1_7 i2 b0 b1 b2 b3 b4)), .val (.int (3 : Int32)), .val (.int (own_v1a1_220_5 i2 b0 b1 b2 b3 b4)), .val (.int (128 : Int32)), .val (.int (191 : Int32)), .val (.int (2 : Int32)), .val (.int (own_v1a1_191_5 i2 b0 b1 b2 b3 b4))]) rfl ?_
                    show Steps p.tables e below (TJ16.setTop (mkF m 222 #[.val (.ref r0), .val (.int (1 : Int32)), .val (.int i2), .val (.int (own_v1a1_7 i2 b0 b1 b2 b3 b4)), .val (.int (3 : Int32)), .val (.int (own_v1a1_220_5 i2 b0 b1 b2 b3 b4)), .val (.int (128 : Int32)), .val (.int (191 : Int32)), .val (.int (2 : Int32)), .val (.int (own_v1a1_191_5 i2 b0 b1 b2 b3 b4))] [])) _
                    refine XS.sipush XJ16.here hx rfl (hb hby own_d1_222) ?_
                    show Steps p.tables e below (TJ16.setTop (mkF m 225 #[.val (.ref r0), .val (.int (1 : Int32)), .val (.int i2), .val (.int (own_v1a1_7 i2 b0 b1 b2 b3 b4)), .val (.int (3 : Int32)), .val (.int (own_v1a1_220_5 i2 b0 b1 b2 b3 b4)), .val (.int (128 : Int32)), .val (.int (191 : Int32)), .val (.int (2 : Int32)), .val (.int (own_v1a1_191_5 i2 b0 b1 b2 b3 b4))] [(.int (128 : Int32))])) _
                    refine XS.istore XJ16.here hx rfl (hb hby own_d1_225) rfl (l' := #[.val (.ref r0), .val (.int (1 : Int32)), .val (.int i2), .val (.int (own_v1a1_7 i2 b0 b1 b2 b3 b4)), .val (.int (3 : Int32)), .val (.int (own_v1a1_220_5 i2 b0 b1 b2 b3 b4)), .val (.int (128 : Int32)), .val (.int (191 : Int32)), .val (.int (2 : Int32)), .val (.int (own_v1a1_191_5 i2 b0 b1 b2 b3 b4))]) rfl ?_
                    show Steps p.tables e below (TJ16.setTop (mkF m 227 #[.val (.ref r0), .val (.int (1 : Int32)), .val (.int i2), .val (.int (own_v1a1_7 i2 b0 b1 b2 b3 b4)), .val (.int (3 : Int32)), .val (.int (own_v1a1_220_5 i2 b0 b1 b2 b3 b4)), .val (.int (128 : Int32)), .val (.int (191 : Int32)), .val (.int (2 : Int32)), .val (.int (own_v1a1_191_5 i2 b0 b1 b2 b3 b4))] [])) _
                    refine XS.sipush XJ16.here hx rfl (hb hby own_d1_227) ?_
                    show Steps p.tables e below (TJ16.setTop (mkF m 230 #[.val (.ref r0), .val (.int (1 : Int32)), .val (.int i2), .val (.int (own_v1a1_7 i2 b0 b1 b2 b3 b4)), .val (.int (3 : Int32)), .val (.int (own_v1a1_220_5 i2 b0 b1 b2 b3 b4)), .val (.int (128 : Int32)), .val (.int (191 : Int32)), .val (.int (2 : Int32)), .val (.int (own_v1a1_191_5 i2 b0 b1 b2 b3 b4))] [(.int (191 : Int32))])) _
                    refine XS.istore XJ16.here hx rfl (hb hby own_d1_230) rfl (l' := #[.val (.ref r0), .val (.int (1 : Int32)), .val (.int i2), .val (.int (own_v1a1_7 i2 b0 b1 b2 b3 b4)), .val (.int (3 : Int32)), .val (.int (own_v1a1_220_5 i2 b0 b1 b2 b3 b4)), .val (.int (128 : Int32)), .val (.int (191 : Int32)), .val (.int (2 : Int32)), .val (.int (own_v1a1_191_5 i2 b0 b1 b2 b3 b4))]) rfl ?_
                    show Steps p.tables e below (TJ16.setTop (mkF m 232 #[.val (.ref r0), .val (.int (1 : Int32)), .val (.int i2), .val (.int (own_v1a1_7 i2 b0 b1 b2 b3 b4)), .val (.int (3 : Int32)), .val (.int (own_v1a1_220_5 i2 b0 b1 b2 b3 b4)), .val (.int (128 : Int32)), .val (.int (191 : Int32)), .val (.int (2 : Int32)), .val (.int (own_v1a1_191_5 i2 b0 b1 b2 b3 b4))] [])) _
                    refine XS.iinc XJ16.here hx rfl (hb hby own_d1_232) rfl (l' := #[.val (.ref r0), .val (.int (1 : Int32)), .val (.int i2), .val (.int (own_v1a1_7 i2 b0 b1 b2 b3 b4)), .val (.int (3 : Int32)), .val (.int (own_v1a1_220_5 i2 b0 b1 b2 b3 b4)), .val (.int (128 : Int32)), .val (.int (191 : Int32)), .val (.int (3 : Int32)), .val (.int (own_v1a1_191_5 i2 b0 b1 b2 b3 b4))]) rfl ?_
                    show Steps p.tables e below (TJ16.setTop (mkF m 235 #[.val (.ref r0), .val (.int (1 : Int32)), .val (.int i2), .val (.int (own_v1a1_7 i2 b0 b1 b2 b3 b4)), .val (.int (3 : Int32)), .val (.int (own_v1a1_220_5 i2 b0 b1 b2 b3 b4)), .val (.int (128 : Int32)), .val (.int (191 : Int32)), .val (.int (3 : Int32)), .val (.int (own_v1a1_191_5 i2 b0 b1 b2 b3 b4))] [])) _
                    refine XS.goto XJ16.here hx rfl (pc0 := 235) (pc' := 174) rfl (hb hby own_d1_235) (by decide) (by decide) ?_
                    show Steps p.tables e below (TJ16.setTop (mkF m 174 #[.val (.ref r0), .val (.int (1 : Int32)), .val (.int i2), .val (.int (own_v1a1_7 i2 b0 b1 b2 b3 b4)), .val (.int (3 : Int32)), .val (.int (own_v1a1_220_5 i2 b0 b1 b2 b3 b4)), .val (.int (128 : Int32)), .val (.int (191 : Int32)), .val (.int (3 : Int32)), .val (.int (own_v1a1_191_5 i2 b0 b1 b2 b3 b4))] [])) _
                    refine XS.iload XJ16.here hx rfl (hb hby own_d1_174) rfl ?_
                    show Steps p.tables e below (TJ16.setTop (mkF m 176 #[.val (.ref r0), .val (.int (1 : Int32)), .val (.int i2), .val (.int (own_v1a1_7 i2 b0 b1 b2 b3 b4)), .val (.int (3 : Int32)), .val (.int (own_v1a1_220_5 i2 b0 b1 b2 b3 b4)), .val (.int (128 : Int32)), .val (.int (191 : Int32)), .val (.int (3 : Int32)), .val (.int (own_v1a1_191_5 i2 b0 b1 b2 b3 b4))] [(.int (3 : Int32))])) _
                    refine XS.iload XJ16.here hx rfl (hb hby own_d1_176) rfl ?_
                    exact kt
                  refine ownE.go (T' := TJ16) (f' := (mkF m 181 #[.val (.ref r0), .val (.int (1 : Int32)), .val (.int i2), .val (.int (own_v1a1_7 i2 b0 b1 b2 b3 b4)), .val (.int (3 : Int32)), .val (.int (own_v1a1_220_5 i2 b0 b1 b2 b3 b4)), .val (.int (128 : Int32)), .val (.int (191 : Int32)), .val (.int (3 : Int32)), .val (.int (own_v1a1_191_5 i2 b0 b1 b2 b3 b4))] [])) (fun t kt => XS.icmpNo (g := (mkF m 178 #[.val (.ref r0), .val (.int (1 : Int32)), .val (.int i2), .val (.int (own_v1a1_7 i2 b0 b1 b2 b3 b4)), .val (.int (3 : Int32)), .val (.int (own_v1a1_220_5 i2 b0 b1 b2 b3 b4)), .val (.int (128 : Int32)), .val (.int (191 : Int32)), .val (.int (3 : Int32)), .val (.int (own_v1a1_191_5 i2 b0 b1 b2 b3 b4))] [(.int (3 : Int32)), (.int (3 : Int32))])) XJ16.here hx rfl (hb hby own_d1_178) rfl (Jvm.Free.XT.ii_gt_f (by decide)) kt) ?_
                  refine ownE.go (T' := TJ16) (f' := (mkF m 186 #[.val (.ref r0), .val (.int (1 : Int32)), .val (.int i2), .val (.int (own_v1a1_7 i2 b0 b1 b2 b3 b4)), .val (.int (3 : Int32)), .val (.int (own_v1a1_220_5 i2 b0 b1 b2 b3 b4)), .val (.int (128 : Int32)), .val (.int (191 : Int32)), .val (.int (3 : Int32)), .val (.int (own_v1a1_191_5 i2 b0 b1 b2 b3 b4))] [(.int (4 : Int32)), (.ref r0)])) (fun t kt => ?_) ?_
                  · show Steps p.tables e below (TJ16.setTop (mkF m 181 #[.val (.ref r0), .val (.int (1 : Int32)), .val (.int i2), .val (.int (own_v1a1_7 i2 b0 b1 b2 b3 b4)), .val (.int (3 : Int32)), .val (.int (own_v1a1_220_5 i2 b0 b1 b2 b3 b4)), .val (.int (128 : Int32)), .val (.int (191 : Int32)), .val (.int (3 : Int32)), .val (.int (own_v1a1_191_5 i2 b0 b1 b2 b3 b4))] [])) _
                    refine XS.aloadN XJ16.here hx rfl (hb hby own_d1_181) rfl rfl ?_
                    show Steps p.tables e below (TJ16.setTop (mkF m 182 #[.val (.ref r0), .val (.int (1 : Int32)), .val (.int i2), .val (.int (own_v1a1_7 i2 b0 b1 b2 b3 b4)), .val (.int (3 : Int32)), .val (.int (own_v1a1_220_5 i2 b0 b1 b2 b3 b4)), .val (.int (128 : Int32)), .val (.int (191 : Int32)), .val (.int (3 : Int32)), .val (.int (own_v1a1_191_5 i2 b0 b1 b2 b3 b4))] [(.ref r0)])) _
                    refine XS.iloadN XJ16.here hx rfl (hb hby own_d1_182) rfl ?_
                    show Steps p.tables e below (TJ16.setTop (mkF m 183 #[.val (.ref r0), .val (.int (1 : Int32)), .val (.int i2), .val (.int (own_v1a1_7 i2 b0 b1 b2 b3 b4)), .val (.int (3 : Int32)), .val (.int (own_v1a1_220_5 i2 b0 b1 b2 b3 b4)), .val (.int (128 : Int32)), .val (.int (191 : Int32)), .val (.int (3 : Int32)), .val (.int (own_v1a1_191_5 i2 b0 b1 b2 b3 b4))] [(.int (1 : Int32)), (.ref r0)])) _
                    refine XS.iload XJ16.here hx rfl (hb hby own_d1_183) rfl ?_
                    show Steps p.tables e below (TJ16.setTop (mkF m 185 #[.val (.ref r0), .val (.int (1 : Int32)), .val (.int i2), .val (.int (own_v1a1_7 i2 b0 b1 b2 b3 b4)), .val (.int (3 : Int32)), .val (.int (own_v1a1_220_5 i2 b0 b1 b2 b3 b4)), .val (.int (128 : Int32)), .val (.int (191 : Int32)), .val (.int (3 : Int32)), .val (.int (own_v1a1_191_5 i2 b0 b1 b2 b3 b4))] [(.int (3 : Int32)), (.int (1 : Int32)), (.ref r0)])) _
                    refine XS.iadd XJ16.here hx rfl (hb hby own_d1_185) rfl ?_
                    exact kt
                  obtain ⟨cl34, Ar34, q34, S34, Nn34, Hh34, G34⟩ := id P0
                  refine ownE.go (T' := TJ16) (f' := (mkF m 187 #[.val (.ref r0), .val (.int (1 : Int32)), .val (.int i2), .val (.int (own_v1a1_7 i2 b0 b1 b2 b3 b4)), .val (.int (3 : Int32)), .val (.int (own_v1a1_220_5 i2 b0 b1 b2 b3 b4)), .val (.int (128 : Int32)), .val (.int (191 : Int32)), .val (.int (3 : Int32)), .val (.int (own_v1a1_191_5 i2 b0 b1 b2 b3 b4))] [(.int b4)])) (fun t kt => XJ16.baloadBytes hx (j := (4 : Int32)) (v := (.int b4)) (by rw [eJ16]; exact Ar34.1) (State.isArrayOf_alike hZ.alike Ar34.2.1) Ar34.2.2 (inb_of S34 ⟨by decide, by decide⟩) (Hh34.at (inb_of S34 ⟨by decide, by decide⟩) rfl) (g := (mkF m 186 #[.val (.ref r0), .val (.int (1 : Int32)), .val (.int i2), .val (.int (own_v1a1_7 i2 b0 b1 b2 b3 b4)), .val (.int (3 : Int32)), .val (.int (own_v1a1_220_5 i2 b0 b1 b2 b3 b4)), .val (.int (128 : Int32)), .val (.int (191 : Int32)), .val (.int (3 : Int32)), .val (.int (own_v1a1_191_5 i2 b0 b1 b2 b3 b4))] [(.int (4 : Int32)), (.ref r0)])) rfl rfl (hb hby own_d1_186) _ kt) ?_
                  refine ownE.go (T' := TJ16) (f' := (mkF m 197 #[.val (.ref r0), .val (.int (1 : Int32)), .val (.int i2), .val (.int (own_v1a1_7 i2 b0 b1 b2 b3 b4)), .val (.int (3 : Int32)), .val (.int (own_v1a1_220_5 i2 b0 b1 b2 b3 b4)), .val (.int (128 : Int32)), .val (.int (191 : Int32)), .val (.int (3 : Int32)), .val (.int (own_v1a1_191_6 i2 b0 b1 b2 b3 b4))] [(.int (128 : Int32)), (.int (own_v1a1_191_6 i2 b0 b1 b2 b3 b4))])) (fun t kt => ?_) ?_
                  · show Steps p.tables e below (TJ16.setTop (mkF m 187 #[.val (.ref r0), .val (.int (1 : Int32)), .val (.int i2), .val (.int (own_v1a1_7 i2 b0 b1 b2 b3 b4)), .val (.int (3 : Int32)), .val (.int (own_v1a1_220_5 i2 b0 b1 b2 b3 b4)), .val (.int (128 : Int32)), .val (.int (191 : Int32)), .val (.int (3 : Int32)), .val (.int (own_v1a1_191_5 i2 b0 b1 b2 b3 b4))] [(.int b4)])) _
                    refine XS.sipush XJ16.here hx rfl (hb hby own_d1_187) ?_
                    show Steps p.tables e below (TJ16.setTop (mkF m 190 #[.val (.ref r0), .val (.int (1 : Int32)), .val (.int i2), .val (.int (own_v1a1_7 i2 b0 b1 b2 b3 b4)), .val (.int (3 : Int32)), .val (.int (own_v1a1_220_5 i2 b0 b1 b2 b3 b4)), .val (.int (128 : Int32)), .val (.int (191 : Int32)), .val (.int (3 : Int32)), .val (.int (own_v1a1_191_5 i2 b0 b1 b2 b3 b4))] [(.int (255 : Int32)), (.int b4)])) _
                    refine XS.iand XJ16.here hx rfl (hb hby own_d1_190) rfl ?_
                    show Steps p.tables e below (TJ16.setTop (mkF m 191 #[.val (.ref r0), .val (.int (1 : Int32)), .val (.int i2), .val (.int (own_v1a1_7 i2 b0 b1 b2 b3 b4)), .val (.int (3 : Int32)), .val (.int (own_v1a1_220_5 i2 b0 b1 b2 b3 b4)), .val (.int (128 : Int32)), .val (.int (191 : Int32)), .val (.int (3 : Int32)), .val (.int (own_v1a1_191_5 i2 b0 b1 b2 b3 b4))] [(.int (b4 &&& (255 : Int32)))])) _
                    refine XS.istore XJ16.here hx rfl (hb hby own_d1_191) rfl (l' := #[.val (.ref r0), .val (.int (1 : Int32)), .val (.int i2), .val (.int (own_v1a1_7 i2 b0 b1 b2 b3 b4)), .val (.int (3 : Int32)), .val (.int (own_v1a1_220_5 i2 b0 b1 b2 b3 b4)), .val (.int (128 : Int32)), .val (.int (191 : Int32)), .val (.int (3 : Int32)), .val (.int (own_v1a1_191_6 i2 b0 b1 b2 b3 b4))]) rfl ?_
                    show Steps p.tables e below (TJ16.setTop (mkF m 193 #[.val (.ref r0), .val (.int (1 : Int32)), .val (.int i2), .val (.int (own_v1a1_7 i2 b0 b1 b2 b3 b4)), .val (.int (3 : Int32)), .val (.int (own_v1a1_220_5 i2 b0 b1 b2 b3 b4)), .val (.int (128 : Int32)), .val (.int (191 : Int32)), .val (.int (3 : Int32)), .val (.int (own_v1a1_191_6 i2 b0 b1 b2 b3 b4))] [])) _
                    refine XS.iload XJ16.here hx rfl (hb hby own_d1_193) rfl ?_
                    show Steps p.tables e below (TJ16.setTop (mkF m 195 #[.val (.ref r0), .val (.int (1 : Int32)), .val (.int i2), .val (.int (own_v1a1_7 i2 b0 b1 b2 b3 b4)), .val (.int (3 : Int32)), .val (.int (own_v1a1_220_5 i2 b0 b1 b2 b3 b4)), .val (.int (128 : Int32)), .val (.int (191 : Int32)), .val (.int (3 : Int32)), .val (.int (own_v1a1_191_6 i2 b0 b1 b2 b3 b4))] [(.int (own_v1a1_191_6 i2 b0 b1 b2 b3 b4))])) _
                    refine XS.iload XJ16.here hx rfl (hb hby own_d1_195) rfl ?_
                    exact kt
                  by_cases hc35 : (own_v1a1_191_6 i2 b0 b1 b2 b3 b4) < (128 : Int32)
                  · -- pc 197
                    refine ownE.go (T' := TJ16) (f' := (mkF m 207 #[.val (.ref r0), .val (.int (1 : Int32)), .val (.int i2), .val (.int (own_v1a1_7 i2 b0 b1 b2 b3 b4)), .val (.int (3 : Int32)), .val (.int (own_v1a1_220_5 i2 b0 b1 b2 b3 b4)), .val (.int (128 : Int32)), .val (.int (191 : Int32)), .val (.int (3 : Int32)), .val (.int (own_v1a1_191_6 i2 b0 b1 b2 b3 b4))] [])) (fun t kt => XS.icmpYes (g := (mkF m 197 #[.val (.ref r0), .val (.int (1 : Int32)), .val (.int i2), .val (.int (own_v1a1_7 i2 b0 b1 b2 b3 b4)), .val (.int (3 : Int32)), .val (.int (own_v1a1_220_5 i2 b0 b1 b2 b3 b4)), .val (.int (128 : Int32)), .val (.int (191 : Int32)), .val (.int (3 : Int32)), .val (.int (own_v1a1_191_6 i2 b0 b1 b2 b3 b4))] [(.int (128 : Int32)), (.int (own_v1a1_191_6 i2 b0 b1 b2 b3 b4))])) XJ16.here hx rfl (pc0 := 197) (pc' := 207) rfl (hb hby own_d1_197) rfl (Jvm.Free.XT.ii_lt_t hc35) (by decide) (by decide) kt) ?_
                    refine ownE.go (T' := TJ16) (f' := (mkF m 208 #[.val (.ref r0), .val (.int (1 : Int32)), .val (.int i2), .val (.int (own_v1a1_7 i2 b0 b1 b2 b3 b4)), .val (.int (3 : Int32)), .val (.int (own_v1a1_220_5 i2 b0 b1 b2 b3 b4)), .val (.int (128 : Int32)), .val (.int (191 : Int32)), .val (.int (3 : Int32)), .val (.int (own_v1a1_191_6 i2 b0 b1 b2 b3 b4))] [(.int (-1 : Int32))])) (fun t kt => ?_) ?_
                    · show Steps p.tables e below (TJ16.setTop (mkF m 207 #[.val (.ref r0), .val (.int (1 : Int32)), .val (.int i2), .val (.int (own_v1a1_7 i2 b0 b1 b2 b3 b4)), .val (.int (3 : Int32)), .val (.int (own_v1a1_220_5 i2 b0 b1 b2 b3 b4)), .val (.int (128 : Int32)), .val (.int (191 : Int32)), .val (.int (3 : Int32)), .val (.int (own_v1a1_191_6 i2 b0 b1 b2 b3 b4))] [])) _
                      refine XS.iconst XJ16.here hx rfl (hb hby own_d1_207) ?_
                      exact kt
                    refine ownE.retI XJ16 hx hlk hret (hb hby own_d1_208) ?_ (by decide) (by decide)
                    show own_Q1a1 Z r0 i2 kk b0 b1 b2 b3 b4 h0 n0 _ TJ16.heap _
                    rw [eJ16]
                    exact ⟨(by rw [hv16, own_r1a1_161, if_pos hc17, if_neg hk18_0, if_neg hk18_1, if_neg hc29, if_neg hc30, if_neg hc32, if_neg hc33, if_pos hc35] <;> first | rfl | decide), NJ16, rfl⟩
                  · -- pc 197
                    refine ownE.go (T' := TJ16) (f' := (mkF m 200 #[.val (.ref r0), .val (.int (1 : Int32)), .val (.int i2), .val (.int (own_v1a1_7 i2 b0 b1 b2 b3 b4)), .val (.int (3 : Int32)), .val (.int (own_v1a1_220_5 i2 b0 b1 b2 b3 b4)), .val (.int (128 : Int32)), .val (.int (191 : Int32)), .val (.int (3 : Int32)), .val (.int (own_v1a1_191_6 i2 b0 b1 b2 b3 b4))] [])) (fun t kt => XS.icmpNo (g := (mkF m 197 #[.val (.ref r0), .val (.int (1 : Int32)), .val (.int i2), .val (.int (own_v1a1_7 i2 b0 b1 b2 b3 b4)), .val (.int (3 : Int32)), .val (.int (own_v1a1_220_5 i2 b0 b1 b2 b3 b4)), .val (.int (128 : Int32)), .val (.int (191 : Int32)), .val (.int (3 : Int32)), .val (.int (own_v1a1_191_6 i2 b0 b1 b2 b3 b4))] [(.int (128 : Int32)), (.int (own_v1a1_191_6 i2 b0 b1 b2 b3 b4))])) XJ16.here hx rfl (hb hby own_d1_197) rfl (Jvm.Free.XT.ii_lt_f hc35) kt) ?_
                    refine ownE.go (T' := TJ16) (f' := (mkF m 204 #[.val (.ref r0), .val (.int (1 : Int32)), .val (.int i2), .val (.int (own_v1a1_7 i2 b0 b1 b2 b3 b4)), .val (.int (3 : Int32)), .val (.int (own_v1a1_220_5 i2 b0 b1 b2 b3 b4)), .val (.int (128 : Int32)), .val (.int (191 : Int32)), .val (.int (3 : Int32)), .val (.int (own_v1a1_191_6 i2 b0 b1 b2 b3 b4))] [(.int (191 : Int32)), (.int (own_v1a1_191_6 i2 b0 b1 b2 b3 b4))])) (fun t kt => ?_) ?_
                    · show Steps p.tables e below (TJ16.setTop (mkF m 200 #[.val (.ref r0), .val (.int (1 : Int32)), .val (.int i2), .val (.int (own_v1a1_7 i2 b0 b1 b2 b3 b4)), .val (.int (3 : Int32)), .val (.int (own_v1a1_220_5 i2 b0 b1 b2 b3 b4)), .val (.int (128 : Int32)), .val (.int (191 : Int32)), .val (.int (3 : Int32)), .val (.int (own_v1a1_191_6 i2 b0 b1 b2 b3 b4))] [])) _
                      refine XS.iload XJ16.here hx rfl (hb hby own_d1_200) rfl ?_
                      show Steps p.tables e below (TJ16.setTop (mkF m 202 #[.val (.ref r0), .val (.int (1 : Int32)), .val (.int i2), .val (.int (own_v1a1_7 i2 b0 b1 b2 b3 b4)), .val (.int (3 : Int32)), .val (.int (own_v1a1_220_5 i2 b0 b1 b2 b3 b4)), .val (.int (128 : Int32)), .val (.int (191 : Int32)), .val (.int (3 : Int32)), .val (.int (own_v1a1_191_6 i2 b0 b1 b2 b3 b4))] [(.int (own_v1a1_191_6 i2 b0 b1 b2 b3 b4))])) _
                      refine XS.iload XJ16.here hx rfl (hb hby own_d1_202) rfl ?_
                      exact kt
                    by_cases hc36 : (191 : Int32) < (own_v1a1_191_6 i2 b0 b1 b2 b3 b4)
                    · -- pc 204
                      refine ownE.go (T' := TJ16) (f' := (mkF m 207 #[.val (.ref r0), .val (.int (1 : Int32)), .val (.int i2), .val (.int (own_v1a1_7 i2 b0 b1 b2 b3 b4)), .val (.int (3 : Int32)), .val (.int (own_v1a1_220_5 i2 b0 b1 b2 b3 b4)), .val (.int (128 : Int32)), .val (.int (191 : Int32)), .val (.int (3 : Int32)), .val (.int (own_v1a1_191_6 i2 b0 b1 b2 b3 b4))] [])) (fun t kt => XS.icmpNo (g := (mkF m 204 #[.val (.ref r0), .val (.int (1 : Int32)), .val (.int i2), .val (.int (own_v1a1_7 i2 b0 b1 b2 b3 b4)), .val (.int (3 : Int32)), .val (.int (own_v1a1_220_5 i2 b0 b1 b2 b3 b4)), .val (.int (128 : Int32)), .val (.int (191 : Int32)), .val (.int (3 : Int32)), .val (.int (own_v1a1_191_6 i2 b0 b1 b2 b3 b4))] [(.int (191 : Int32)), (.int (own_v1a1_191_6 i2 b0 b1 b2 b3 b4))])) XJ16.here hx rfl (hb hby own_d1_204) rfl (Jvm.Free.XT.ii_le_f hc36) kt) ?_
                      refine ownE.go (T' := TJ16) (f' := (mkF m 208 #[.val (.ref r0), .val (.int (1 : Int32)), .val (.int i2), .val (.int (own_v1a1_7 i2 b0 b1 b2 b3 b4)), .val (.int (3 : Int32)), .val (.int (own_v1a1_220_5 i2 b0 b1 b2 b3 b4)), .val (.int (128 : Int32)), .val (.int (191 : Int32)), .val (.int (3 : Int32)), .val (.int (own_v1a1_191_6 i2 b0 b1 b2 b3 b4))] [(.int (-1 : Int32))])) (fun t kt => ?_) ?_
                      · show Steps p.tables e below (TJ16.setTop (mkF m 207 #[.val (.ref r0), .val (.int (1 : Int32)), .val (.int i2), .val (.int (own_v1a1_7 i2 b0 b1 b2 b3 b4)), .val (.int (3 : Int32)), .val (.int (own_v1a1_220_5 i2 b0 b1 b2 b3 b4)), .val (.int (128 : Int32)), .val (.int (191 : Int32)), .val (.int (3 : Int32)), .val (.int (own_v1a1_191_6 i2 b0 b1 b2 b3 b4))] [])) _
                        refine XS.iconst XJ16.here hx rfl (hb hby own_d1_207) ?_
                        exact kt
                      refine ownE.retI XJ16 hx hlk hret (hb hby own_d1_208) ?_ (by decide) (by decide)
                      show own_Q1a1 Z r0 i2 kk b0 b1 b2 b3 b4 h0 n0 _ TJ16.heap _
                      rw [eJ16]
                      exact ⟨(by rw [hv16, own_r1a1_161, if_pos hc17, if_neg hk18_0, if_neg hk18_1, if_neg hc29, if_neg hc30, if_neg hc32, if_neg hc33, if_neg hc35, if_pos hc36] <;> first | rfl | decide), NJ16, rfl⟩
                    · -- pc 204
                      refine ownE.go (T' := TJ16) (f' := (mkF m 209 #[.val (.ref r0), .val (.int (1 : Int32)), .val (.int i2), .val (.int (own_v1a1_7 i2 b0 b1 b2 b3 b4)), .val (.int (3 : Int32)), .val (.int (own_v1a1_220_5 i2 b0 b1 b2 b3 b4)), .val (.int (128 : Int32)), .val (.int (191 : Int32)), .val (.int (3 : Int32)), .val (.int (own_v1a1_191_6 i2 b0 b1 b2 b3 b4))] [])) (fun t kt => XS.icmpYes (g := (mkF m 204 #[.val (.ref r0), .val (.int (1 : Int32)), .val (.int i2), .val (.int (own_v1a1_7 i2 b0 b1 b2 b3 b4)), .val (.int (3 : Int32)), .val (.int (own_v1a1_220_5 i2 b0 b1 b2 b3 b4)), .val (.int (128 : Int32)), .val (.int (191 : Int32)), .val (.int (3 : Int32)), .val (.int (own_v1a1_191_6 i2 b0 b1 b2 b3 b4))] [(.int (191 : Int32)), (.int (own_v1a1_191_6 i2 b0 b1 b2 b3 b4))])) XJ16.here hx rfl (pc0 := 204) (pc' := 209) rfl (hb hby own_d1_204) rfl (Jvm.Free.XT.ii_le_t hc36) (by decide) (by decide) kt) ?_
                      refine ownE.go (T' := TJ16) (f' := (mkF m 178 #[.val (.ref r0), .val (.int (1 : Int32)), .val (.int i2), .val (.int (own_v1a1_7 i2 b0 b1 b2 b3 b4)), .val (.int (3 : Int32)), .val (.int (own_v1a1_220_6 i2 b0 b1 b2 b3 b4)), .val (.int (128 : Int32)), .val (.int (191 : Int32)), .val (.int (4 : Int32)), .val (.int (own_v1a1_191_6 i2 b0 b1 b2 b3 b4))] [(.int (3 : Int32)), (.int (4 : Int32))])) (fun t kt => ?_) ?_
                      · show Steps p.tables e below (TJ16.setTop (mkF m 209 #[.val (.ref r0), .val (.int (1 : Int32)), .val (.int i2), .val (.int (own_v1a1_7 i2 b0 b1 b2 b3 b4)), .val (.int (3 : Int32)), .val (.int (own_v1a1_220_5 i2 b0 b1 b2 b3 b4)), .val (.int (128 : Int32)), .val (.int (191 : Int32)), .val (.int (3 : Int32)), .val (.int (own_v1a1_191_6 i2 b0 b1 b2 b3 b4))] [])) _
                        refine XS.iload XJ16.here hx rfl (hb hby own_d1_209) rfl ?_
                        show Steps p.tables e below (TJ16.setTop (mkF m 211 #[.val (.ref r0), .val (.int (1 : Int32)), .val (.int i2), .val (.int (own_v1a1_7 i2 b0 b1 b2 b3 b4)), .val (.int (3 : Int32)), .val (.int (own_v1a1_220_5 i2 b0 b1 b2 b3 b4)), .val (.int (128 : Int32)), .val (.int (191 : Int32)), .val (.int (3 : Int32)), .val (.int (own_v1a1_191_6 i2 b0 b1 b2 b3 b4))] [(.int (own_v1a1_220_5 i2 b0 b1 b2 b3 b4))])) _
                        refine XS.bipush XJ16.here hx rfl (hb hby own_d1_211) ?_
                        show Steps p.tables e below (TJ16.setTop (mkF m 213 #[.val (.ref r0), .val (.int (1 : Int32)), .val (.int i2), .val (.int (own_v1a1_7 i2 b0 b1 b2 b3 b4)), .val (.int (3 : Int32)), .val (.int (own_v1a1_220_5 i2 b0 b1 b2 b3 b4)), .val (.int (128 : Int32)), .val (.int (191 : Int32)), .val (.int (3 : Int32)), .val (.int (own_v1a1_191_6 i2 b0 b1 b2 b3 b4))] [(.int (6 : Int32)), (.int (own_v1a1_220_5 i2 b0 b1 b2 b3 b4))])) _
                        refine XS.ishl XJ16.here hx rfl (hb hby own_d1_213) rfl ?_
                        show Steps p.tables e below (TJ16.setTop (mkF m 214 #[.val (.ref r0), .val (.int (1 : Int32)), .val (.int i2), .val (.int (own_v1a1_7 i2 b0 b1 b2 b3 b4)), .val (.int (3 : Int32)), .val (.int (own_v1a1_220_5 i2 b0 b1 b2 b3 b4)), .val (.int (128 : Int32)), .val (.int (191 : Int32)), .val (.int (3 : Int32)), .val (.int (own_v1a1_191_6 i2 b0 b1 b2 b3 b4))] [(.int ((own_v1a1_220_5 i2 b0 b1 b2 b3 b4) <<< ((6 : Int32) &&& 31)))])) _
                        refine XS.iload XJ16.here hx rfl (hb hby own_d1_214) rfl ?_
                        show Steps p.tables e below (TJ16.setTop (mkF m 216 #[.val (.ref r0), .val (.int (1 : Int32)), .val (.int i2), .val (.int (own_v1a1_7 i2 b0 b1 b2 b3 b4)), .val (.int (3 : Int32)), .val (.int (own_v1a1_220_5 i2 b0 b1 b2 b3 b4)), .val (.int (128 : Int32)), .val (.int (191 : Int32)), .val (.int (3 : Int32)), .val (.int (own_v1a1_191_6 i2 b0 b1 b2 b3 b4))] [(.int (own_v1a1_191_6 i2 b0 b1 b2 b3 b4)), (.int ((own_v1a1_220_5 i2 b0 b1 b2 b3 b4) <<< ((6 : Int32) &&& 31)))])) _
                        refine XS.bipush XJ16.here hx rfl (hb hby own_d1_216) ?_
                        show Steps p.tables e below (TJ16.setTop (mkF m 218 #[.val (.ref r0), .val (.int (1 : Int32)), .val (.int i2), .val (.int (own_v1a1_7 i2 b0 b1 b2 b3 b4)), .val (.int (3 : Int32)), .val (.int (own_v1a1_220_5 i2 b0 b1 b2 b3 b4)), .val (.int (128 : Int32)), .val (.int (191 : Int32)), .val (.int (3 : Int32)), .val (.int (own_v1a1_191_6 i2 b0 b1 b2 b3 b4))] [(.int (63 : Int32)), (.int (own_v1a1_191_6 i2 b0 b1 b2 b3 b4)), (.int ((own_v1a1_220_5 i2 b0 b1 b2 b3 b4) <<< ((6 : Int32) &&& 31)))])) _
                        refine XS.iand XJ16.here hx rfl (hb hby own_d1_218) rfl ?_
                        show Steps p.tables e below (TJ16.setTop (mkF m 219 #[.val (.ref r0), .val (.int (1 : Int32)), .val (.int i2), .val (.int (own_v1a1_7 i2 b0 b1 b2 b3 b4)), .val (.int (3 : Int32)), .val (.int (own_v1a1_220_5 i2 b0 b1 b2 b3 b4)), .val (.int (128 : Int32)), .val (.int (191 : Int32)), .val (.int (3 : Int32)), .val (.int (own_v1a1_191_6 i2 b0 b1 b2 b3 b4))] [(.int ((own_v1a1_191_6 i2 b0 b1 b2 b3 b4) &&& (63 : Int32))), (.int ((own_v1a1_220_5 i2 b0 b1 b2 b3 b4) <<< ((6 : Int32) &&& 31)))])) _
                        refine XS.ior XJ16.here hx rfl (hb hby own_d1_219) rfl ?_
                        show Steps p.tables e below (TJ16.setTop (mkF m 220 #[.val (.ref r0), .val (.int (1 : Int32)), .val (.int i2), .val (.int (own_v1a1_7 i2 b0 b1 b2 b3 b4)), .val (.int (3 : Int32)), .val (.int (own_v1a1_220_5 i2 b0 b1 b2 b3 b4)), .val (.int (128 : Int32)), .val (.int (191 : Int32)), .val (.int (3 : Int32)), .val (.int (own_v1a1_191_6 i2 b0 b1 b2 b3 b4))] [(.int (((own_v1a1_220_5 i2 b0 b1 b2 b3 b4) <<< ((6 : Int32) &&& 31)) ||| ((own_v1a1_191_6 i2 b0 b1 b2 b3 b4) &&& (63 : Int32))))])) _
                        refine XS.istore XJ16.here hx rfl (hb hby own_d1_220) rfl (l' := #[.val (.ref r0), .val (.int (1 : Int32)), .val (.int i2), .val (.int (own_v1a1_7 i2 b0 b1 b2 b3 b4)), .val (.int (3 : Int32)), .val (.int (own_v1a1_220_6 i2 b0 b1 b2 b3 b4)), .val (.int (128 : Int32)), .val (.int (191 : Int32)), .val (.int (3 : Int32)), .val (.int (own_v1a1_191_6 i2 b0 b1 b2 b3 b4))]) rfl ?_
                        show Steps p.tables e below (TJ16.setTop (mkF m 222 #[.val (.ref r0), .val (.int (1 : Int32)), .val (.int i2), .val (.int (own_v1a1_7 i2 b0 b1 b2 b3 b4)), .val (.int (3 : Int32)), .val (.int (own_v1a1_220_6 i2 b0 b1 b2 b3 b4)), .val (.int (128 : Int32)), .val (.int (191 : Int32)), .val (.int (3 : Int32)), .val (.int (own_v1a1_191_6 i2 b0 b1 b2 b3 b4))] [])) _
                        refine XS.sipush XJ16.here hx rfl (hb hby own_d1_222) ?_
                        show Steps p.tables e below (TJ16.setTop (mkF m 225 #[.val (.ref r0), .val (.int (1 : Int32)), .val (.int i2), .val (.int (own_v1a1_7 i2 b0 b1 b2 b3 b4)), .val (.int (3 : Int32)), .val (.int (own_v1a1_220_6 i2 b0 b1 b2 b3 b4)), .val (.int (128 : Int32)), .val (.int (191 : Int32)), .val (.int (3 : Int32)), .val (.int (own_v1a1_191_6 i2 b0 b1 b2 b3 b4))] [(.int (128 : Int32))])) _
                        refine XS.istore XJ16.here hx rfl (hb hby own_d1_225) rfl (l' := #[.val (.ref r0), .val (.int (1 : Int32)), .val (.int i2), .val (.int (own_v1a1_7 i2 b0 b1 b2 b3 b4)), .val (.int (3 : Int32)), .val (.int (own_v1a1_220_6 i2 b0 b1 b2 b3 b4)), .val (.int (128 : Int32)), .val (.int (191 : Int32)), .val (.int (3 : Int32)), .val (.int (own_v1a1_191_6 i2 b0 b1 b2 b3 b4))]) rfl ?_
                        show Steps p.tables e below (TJ16.setTop (mkF m 227 #[.val (.ref r0), .val (.int (1 : Int32)), .val (.int i2), .val (.int (own_v1a1_7 i2 b0 b1 b2 b3 b4)), .val (.int (3 : Int32)), .val (.int (own_v1a1_220_6 i2 b0 b1 b2 b3 b4)), .val (.int (128 : Int32)), .val (.int (191 : Int32)), .val (.int (3 : Int32)), .val (.int (own_v1a1_191_6 i2 b0 b1 b2 b3 b4))] [])) _
                        refine XS.sipush XJ16.here hx rfl (hb hby own_d1_227) ?_
                        show Steps p.tables e below (TJ16.setTop (mkF m 230 #[.val (.ref r0), .val (.int (1 : Int32)), .val (.int i2), .val (.int (own_v1a1_7 i2 b0 b1 b2 b3 b4)), .val (.int (3 : Int32)), .val (.int (own_v1a1_220_6 i2 b0 b1 b2 b3 b4)), .val (.int (128 : Int32)), .val (.int (191 : Int32)), .val (.int (3 : Int32)), .val (.int (own_v1a1_191_6 i2 b0 b1 b2 b3 b4))] [(.int (191 : Int32))])) _
                        refine XS.istore XJ16.here hx rfl (hb hby own_d1_230) rfl (l' := #[.val (.ref r0), .val (.int (1 : Int32)), .val (.int i2), .val (.int (own_v1a1_7 i2 b0 b1 b2 b3 b4)), .val (.int (3 : Int32)), .val (.int (own_v1a1_220_6 i2 b0 b1 b2 b3 b4)), .val (.int (128 : Int32)), .val (.int (191 : Int32)), .val (.int (3 : Int32)), .val (.int (own_v1a1_191_6 i2 b0 b1 b2 b3 b4))]) rfl ?_
                        show Steps p.tables e below (TJ16.setTop (mkF m 232 #[.val (.ref r0), .val (.int (1 : Int32)), .val (.int i2), .val (.int (own_v1a1_7 i2 b0 b1 b2 b3 b4)), .val (.int (3 : Int32)), .val (.int (own_v1a1_220_6 i2 b0 b1 b2 b3 b4)), .val (.int (128 : Int32)), .val (.int (191 : Int32)), .val (.int (3 : Int32)), .val (.int (own_v1a1_191_6 i2 b0 b1 b2 b3 b4))] [])) _
                        refine XS.iinc XJ16.here hx rfl (hb hby own_d1_232) rfl (l' := #[.val (.ref r0), .val (.int (1 : Int32)), .val (.int i2), .val (.int (own_v1a1_7 i2 b0 b1 b2 b3 b4)), .val (.int (3 : Int32)), .val (.int (own_v1a1_220_6 i2 b0 b1 b2 b3 b4)), .val (.int (128 : Int32)), .val (.int (191 : Int32)), .val (.int (4 : Int32)), .val (.int (own_v1a1_191_6 i2 b0 b1 b2 b3 b4))]) rfl ?_
                        show Steps p.tables e below (TJ16.setTop (mkF m 235 #[.val (.ref r0), .val (.int (1 : Int32)), .val (.int i2), .val (.int (own_v1a1_7 i2 b0 b1 b2 b3 b4)), .val (.int (3 : Int32)), .val (.int (own_v1a1_220_6 i2 b0 b1 b2 b3 b4)), .val (.int (128 : Int32)), .val (.int (191 : Int32)), .val (.int (4 : Int32)), .val (.int (own_v1a1_191_6 i2 b0 b1 b2 b3 b4))] [])) _
                        refine XS.goto XJ16.here hx rfl (pc0 := 235) (pc' := 174) rfl (hb hby own_d1_235) (by decide) (by decide) ?_
                        show Steps p.tables e below (TJ16.setTop (mkF m 174 #[.val (.ref r0), .val (.int (1 : Int32)), .val (.int i2), .val (.int (own_v1a1_7 i2 b0 b1 b2 b3 b4)), .val (.int (3 : Int32)), .val (.int (own_v1a1_220_6 i2 b0 b1 b2 b3 b4)), .val (.int (128 : Int32)), .val (.int (191 : Int32)), .val (.int (4 : Int32)), .val (.int (own_v1a1_191_6 i2 b0 b1 b2 b3 b4))] [])) _
                        refine XS.iload XJ16.here hx rfl (hb hby own_d1_174) rfl ?_
                        show Steps p.tables e below (TJ16.setTop (mkF m 176 #[.val (.ref r0), .val (.int (1 : Int32)), .val (.int i2), .val (.int (own_v1a1_7 i2 b0 b1 b2 b3 b4)), .val (.int (3 : Int32)), .val (.int (own_v1a1_220_6 i2 b0 b1 b2 b3 b4)), .val (.int (128 : Int32)), .val (.int (191 : Int32)), .val (.int (4 : Int32)), .val (.int (own_v1a1_191_6 i2 b0 b1 b2 b3 b4))] [(.int (4 : Int32))])) _
                        refine XS.iload XJ16.here hx rfl (hb hby own_d1_176) rfl ?_
                        exact kt
                      refine ownE.go (T' := TJ16) (f' := (mkF m 238 #[.val (.ref r0), .val (.int (1 : Int32)), .val (.int i2), .val (.int (own_v1a1_7 i2 b0 b1 b2 b3 b4)), .val (.int (3 : Int32)), .val (.int (own_v1a1_220_6 i2 b0 b1 b2 b3 b4)), .val (.int (128 : Int32)), .val (.int (191 : Int32)), .val (.int (4 : Int32)), .val (.int (own_v1a1_191_6 i2 b0 b1 b2 b3 b4))] [])) (fun t kt => XS.icmpYes (g := (mkF m 178 #[.val (.ref r0), .val (.int (1 : Int32)), .val (.int i2), .val (.int (own_v1a1_7 i2 b0 b1 b2 b3 b4)), .val (.int (3 : Int32)), .val (.int (own_v1a1_220_6 i2 b0 b1 b2 b3 b4)), .val (.int (128 : Int32)), .val (.int (191 : Int32)), .val (.int (4 : Int32)), .val (.int (own_v1a1_191_6 i2 b0 b1 b2 b3 b4))] [(.int (3 : Int32)), (.int (4 : Int32))])) XJ16.here hx rfl (pc0 := 178) (pc' := 238) rfl (hb hby own_d1_178) rfl (Jvm.Free.XT.ii_gt_t (by decide)) (by decide) (by decide) kt) ?_
                      refine ownE.go (T' := TJ16) (f' := (mkF m 240 #[.val (.ref r0), .val (.int (1 : Int32)), .val (.int i2), .val (.int (own_v1a1_7 i2 b0 b1 b2 b3 b4)), .val (.int (3 : Int32)), .val (.int (own_v1a1_220_6 i2 b0 b1 b2 b3 b4)), .val (.int (128 : Int32)), .val (.int (191 : Int32)), .val (.int (4 : Int32)), .val (.int (own_v1a1_191_6 i2 b0 b1 b2 b3 b4))] [(.int (own_v1a1_220_6 i2 b0 b1 b2 b3 b4))])) (fun t kt => ?_) ?_
                      · show Steps p.tables e below (TJ16.setTop (mkF m 238 #[.val (.ref r0), .val (.int (1 : Int32)), .val (.int i2), .val (.int (own_v1a1_7 i2 b0 b1 b2 b3 b4)), .val (.int (3 : Int32)), .val (.int (own_v1a1_220_6 i2 b0 b1 b2 b3 b4)), .val (.int (128 : Int32)), .val (.int (191 : Int32)), .val (.int (4 : Int32)), .val (.int (own_v1a1_191_6 i2 b0 b1 b2 b3 b4))] [])) _
                        refine XS.iload XJ16.here hx rfl (hb hby own_d1_238) rfl ?_
                        exact kt
                      refine ownE.retI XJ16 hx hlk hret (hb hby own_d1_240) ?_ (by decide) (by decide)
                      show own_Q1a1 Z r0 i2 kk b0 b1 b2 b3 b4 h0 n0 _ TJ16.heap _
                      rw [eJ16]
                      exact ⟨(by rw [hv16, own_r1a1_161, if_pos hc17, if_neg hk18_0, if_neg hk18_1, if_neg hc29, if_neg hc30, if_neg hc32, if_neg hc33, if_neg hc35, if_neg hc36] <;> first | rfl | decide), NJ16, rfl⟩
      · -- pc 166
        refine ownE.go (T' := TJ16) (f' := (mkF m 169 #[.val (.ref r0), .val (.int (1 : Int32)), .val (.int i2), .val (.int (own_v1a1_7 i2 b0 b1 b2 b3 b4)), .val (.int (own_j1a1_161_L4 i2 b0 b1 b2 b3 b4)), .val (.int (own_j1a1_161_L5 i2 b0 b1 b2 b3 b4)), .val (.int (own_j1a1_161_L6 i2 b0 b1 b2 b3 b4)), .val (.int (own_j1a1_161_L7 i2 b0 b1 b2 b3 b4)), .unset, .unset] [])) (fun t kt => XS.icmpNo (g := (mkF m 166 #[.val (.ref r0), .val (.int (1 : Int32)), .val (.int i2), .val (.int (own_v1a1_7 i2 b0 b1 b2 b3 b4)), .val (.int (own_j1a1_161_L4 i2 b0 b1 b2 b3 b4)), .val (.int (own_j1a1_161_L5 i2 b0 b1 b2 b3 b4)), .val (.int (own_j1a1_161_L6 i2 b0 b1 b2 b3 b4)), .val (.int (own_j1a1_161_L7 i2 b0 b1 b2 b3 b4)), .unset, .unset] [(.int (own_j1a1_161_L4 i2 b0 b1 b2 b3 b4)), (.int (i2 - (1 : Int32)))])) XJ16.here hx rfl (hb hby own_d1_166) rfl (Jvm.Free.XT.ii_gt_f hc17) kt) ?_
        refine ownE.go (T' := TJ16) (f' := (mkF m 170 #[.val (.ref r0), .val (.int (1 : Int32)), .val (.int i2), .val (.int (own_v1a1_7 i2 b0 b1 b2 b3 b4)), .val (.int (own_j1a1_161_L4 i2 b0 b1 b2 b3 b4)), .val (.int (own_j1a1_161_L5 i2 b0 b1 b2 b3 b4)), .val (.int (own_j1a1_161_L6 i2 b0 b1 b2 b3 b4)), .val (.int (own_j1a1_161_L7 i2 b0 b1 b2 b3 b4)), .unset, .unset] [(.int (-1 : Int32))])) (fun t kt => ?_) ?_
        · show Steps p.tables e below (TJ16.setTop (mkF m 169 #[.val (.ref r0), .val (.int (1 : Int32)), .val (.int i2), .val (.int (own_v1a1_7 i2 b0 b1 b2 b3 b4)), .val (.int (own_j1a1_161_L4 i2 b0 b1 b2 b3 b4)), .val (.int (own_j1a1_161_L5 i2 b0 b1 b2 b3 b4)), .val (.int (own_j1a1_161_L6 i2 b0 b1 b2 b3 b4)), .val (.int (own_j1a1_161_L7 i2 b0 b1 b2 b3 b4)), .unset, .unset] [])) _
          refine XS.iconst XJ16.here hx rfl (hb hby own_d1_169) ?_
          exact kt
        refine ownE.retI XJ16 hx hlk hret (hb hby own_d1_170) ?_ (by decide) (by decide)
        show own_Q1a1 Z r0 i2 kk b0 b1 b2 b3 b4 h0 n0 _ TJ16.heap _
        rw [eJ16]
        exact ⟨(by rw [hv16, own_r1a1_161, if_neg hc17] <;> first | rfl | decide), NJ16, rfl⟩
    refine ownE.go (T' := s₁) (f' := (mkF m 31 #[.val (.ref r0), .val (.int (1 : Int32)), .val (.int i2), .val (.int (own_v1a1_7 i2 b0 b1 b2 b3 b4)), .unset, .unset, .val (.int (128 : Int32)), .val (.int (191 : Int32)), .unset, .unset] [(.int (194 : Int32)), (.int (own_v1a1_7 i2 b0 b1 b2 b3 b4))])) (fun t kt => ?_) ?_
    · show Steps p.tables e below (s₁.setTop (mkF m 17 #[.val (.ref r0), .val (.int (1 : Int32)), .val (.int i2), .val (.int (own_v1a1_7 i2 b0 b1 b2 b3 b4)), .unset, .unset, .unset, .unset, .unset, .unset] [])) _
      refine XS.sipush X0.here hx rfl (hb hby own_d1_17) ?_
      show Steps p.tables e below (s₁.setTop (mkF m 20 #[.val (.ref r0), .val (.int (1 : Int32)), .val (.int i2), .val (.int (own_v1a1_7 i2 b0 b1 b2 b3 b4)), .unset, .unset, .unset, .unset, .unset, .unset] [(.int (128 : Int32))])) _
      refine XS.istore X0.here hx rfl (hb hby own_d1_20) rfl (l' := #[.val (.ref r0), .val (.int (1 : Int32)), .val (.int i2), .val (.int (own_v1a1_7 i2 b0 b1 b2 b3 b4)), .unset, .unset, .val (.int (128 : Int32)), .unset, .unset, .unset]) rfl ?_
      show Steps p.tables e below (s₁.setTop (mkF m 22 #[.val (.ref r0), .val (.int (1 : Int32)), .val (.int i2), .val (.int (own_v1a1_7 i2 b0 b1 b2 b3 b4)), .unset, .unset, .val (.int (128 : Int32)), .unset, .unset, .unset] [])) _
      refine XS.sipush X0.here hx rfl (hb hby own_d1_22) ?_
      show Steps p.tables e below (s₁.setTop (mkF m 25 #[.val (.ref r0), .val (.int (1 : Int32)), .val (.int i2), .val (.int (own_v1a1_7 i2 b0 b1 b2 b3 b4)), .unset, .unset, .val (.int (128 : Int32)), .unset, .unset, .unset] [(.int (191 : Int32))])) _
      refine XS.istore X0.here hx rfl (hb hby own_d1_25) rfl (l' := #[.val (.ref r0), .val (.int (1 : Int32)), .val (.int i2), .val (.int (own_v1a1_7 i2 b0 b1 b2 b3 b4)), .unset, .unset, .val (.int (128 : Int32)), .val (.int (191 : Int32)), .unset, .unset]) rfl ?_
      show Steps p.tables e below (s₁.setTop (mkF m 27 #[.val (.ref r0), .val (.int (1 : Int32)), .val (.int i2), .val (.int (own_v1a1_7 i2 b0 b1 b2 b3 b4)), .unset, .unset, .val (.int (128 : Int32)), .val (.int (191 : Int32)), .unset, .unset] [])) _
      refine XS.iloadN X0.here hx rfl (hb hby own_d1_27) rfl ?_
      show Steps p.tables e below (s₁.setTop (mkF m 28 #[.val (.ref r0), .val (.int (1 : Int32)), .val (.int i2), .val (.int (own_v1a1_7 i2 b0 b1 b2 b3 b4)), .unset, .unset, .val (.int (128 : Int32)), .val (.int (191 : Int32)), .unset, .unset] [(.int (own_v1a1_7 i2 b0 b1 b2 b3 b4))])) _
      refine XS.sipush X0.here hx rfl (hb hby own_d1_28) ?_
      exact kt
    by_cases hc4 : (own_v1a1_7 i2 b0 b1 b2 b3 b4) < (194 : Int32)
    · -- pc 31
      refine ownE.go (T' := s₁) (f' := (mkF m 53 #[.val (.ref r0), .val (.int (1 : Int32)), .val (.int i2), .val (.int (own_v1a1_7 i2 b0 b1 b2 b3 b4)), .unset, .unset, .val (.int (128 : Int32)), .val (.int (191 : Int32)), .unset, .unset] [])) (fun t kt => XS.icmpYes (g := (mkF m 31 #[.val (.ref r0), .val (.int (1 : Int32)), .val (.int i2), .val (.int (own_v1a1_7 i2 b0 b1 b2 b3 b4)), .unset, .unset, .val (.int (128 : Int32)), .val (.int (191 : Int32)), .unset, .unset] [(.int (194 : Int32)), (.int (own_v1a1_7 i2 b0 b1 b2 b3 b4))])) X0.here hx rfl (pc0 := 31) (pc' := 53) rfl (hb hby own_d1_31) rfl (Jvm.Free.XT.ii_lt_t hc4) (by decide) (by decide) kt) ?_
      refine ownE.go (T' := s₁) (f' := (mkF m 57 #[.val (.ref r0), .val (.int (1 : Int32)), .val (.int i2), .val (.int (own_v1a1_7 i2 b0 b1 b2 b3 b4)), .unset, .unset, .val (.int (128 : Int32)), .val (.int (191 : Int32)), .unset, .unset] [(.int (224 : Int32)), (.int (own_v1a1_7 i2 b0 b1 b2 b3 b4))])) (fun t kt => ?_) ?_
      · show Steps p.tables e below (s₁.setTop (mkF m 53 #[.val (.ref r0), .val (.int (1 : Int32)), .val (.int i2), .val (.int (own_v1a1_7 i2 b0 b1 b2 b3 b4)), .unset, .unset, .val (.int (128 : Int32)), .val (.int (191 : Int32)), .unset, .unset] [])) _
        refine XS.iloadN X0.here hx rfl (hb hby own_d1_53) rfl ?_
        show Steps p.tables e below (s₁.setTop (mkF m 54 #[.val (.ref r0), .val (.int (1 : Int32)), .val (.int i2), .val (.int (own_v1a1_7 i2 b0 b1 b2 b3 b4)), .unset, .unset, .val (.int (128 : Int32)), .val (.int (191 : Int32)), .unset, .unset] [(.int (own_v1a1_7 i2 b0 b1 b2 b3 b4))])) _
        refine XS.sipush X0.here hx rfl (hb hby own_d1_54) ?_
        exact kt
      have hc5 : (own_v1a1_7 i2 b0 b1 b2 b3 b4) < (224 : Int32) := by
        revert hc2 hc4
        simp only [Int32.lt_iff_toInt_lt, ← Int32.toInt_inj, own_z128, own_z194, own_z224]
        intros
        omega
      refine ownE.go (T' := s₁) (f' := (mkF m 106 #[.val (.ref r0), .val (.int (1 : Int32)), .val (.int i2), .val (.int (own_v1a1_7 i2 b0 b1 b2 b3 b4)), .unset, .unset, .val (.int (128 : Int32)), .val (.int (191 : Int32)), .unset, .unset] [])) (fun t kt => XS.icmpYes (g := (mkF m 57 #[.val (.ref r0), .val (.int (1 : Int32)), .val (.int i2), .val (.int (own_v1a1_7 i2 b0 b1 b2 b3 b4)), .unset, .unset, .val (.int (128 : Int32)), .val (.int (191 : Int32)), .unset, .unset] [(.int (224 : Int32)), (.int (own_v1a1_7 i2 b0 b1 b2 b3 b4))])) X0.here hx rfl (pc0 := 57) (pc' := 106) rfl (hb hby own_d1_57) rfl (Jvm.Free.XT.ii_lt_t hc5) (by decide) (by decide) kt) ?_
      refine ownE.go (T' := s₁) (f' := (mkF m 110 #[.val (.ref r0), .val (.int (1 : Int32)), .val (.int i2), .val (.int (own_v1a1_7 i2 b0 b1 b2 b3 b4)), .unset, .unset, .val (.int (128 : Int32)), .val (.int (191 : Int32)), .unset, .unset] [(.int (240 : Int32)), (.int (own_v1a1_7 i2 b0 b1 b2 b3 b4))])) (fun t kt => ?_) ?_
      · show Steps p.tables e below (s₁.setTop (mkF m 106 #[.val (.ref r0), .val (.int (1 : Int32)), .val (.int i2), .val (.int (own_v1a1_7 i2 b0 b1 b2 b3 b4)), .unset, .unset, .val (.int (128 : Int32)), .val (.int (191 : Int32)), .unset, .unset] [])) _
        refine XS.iloadN X0.here hx rfl (hb hby own_d1_106) rfl ?_
        show Steps p.tables e below (s₁.setTop (mkF m 107 #[.val (.ref r0), .val (.int (1 : Int32)), .val (.int i2), .val (.int (own_v1a1_7 i2 b0 b1 b2 b3 b4)), .unset, .unset, .val (.int (128 : Int32)), .val (.int (191 : Int32)), .unset, .unset] [(.int (own_v1a1_7 i2 b0 b1 b2 b3 b4))])) _
        refine XS.sipush X0.here hx rfl (hb hby own_d1_107) ?_
        exact kt
      have hc6 : (own_v1a1_7 i2 b0 b1 b2 b3 b4) < (240 : Int32) := by
        revert hc2 hc4
        simp only [Int32.lt_iff_toInt_lt, ← Int32.toInt_inj, own_z128, own_z194, own_z240]
        intros
        omega
      refine ownE.go (T' := s₁) (f' := (mkF m 159 #[.val (.ref r0), .val (.int (1 : Int32)), .val (.int i2), .val (.int (own_v1a1_7 i2 b0 b1 b2 b3 b4)), .unset, .unset, .val (.int (128 : Int32)), .val (.int (191 : Int32)), .unset, .unset] [])) (fun t kt => XS.icmpYes (g := (mkF m 110 #[.val (.ref r0), .val (.int (1 : Int32)), .val (.int i2), .val (.int (own_v1a1_7 i2 b0 b1 b2 b3 b4)), .unset, .unset, .val (.int (128 : Int32)), .val (.int (191 : Int32)), .unset, .unset] [(.int (240 : Int32)), (.int (own_v1a1_7 i2 b0 b1 b2 b3 b4))])) X0.here hx rfl (pc0 := 110) (pc' := 159) rfl (hb hby own_d1_110) rfl (Jvm.Free.XT.ii_lt_t hc6) (by decide) (by decide) kt) ?_
      refine ownE.go (T' := s₁) (f' := (mkF m 160 #[.val (.ref r0), .val (.int (1 : Int32)), .val (.int i2), .val (.int (own_v1a1_7 i2 b0 b1 b2 b3 b4)), .unset, .unset, .val (.int (128 : Int32)), .val (.int (191 : Int32)), .unset, .unset] [(.int (-1 : Int32))])) (fun t kt => ?_) ?_
      · show Steps p.tables e below (s₁.setTop (mkF m 159 #[.val (.ref r0), .val (.int (1 : Int32)), .val (.int i2), .val (.int (own_v1a1_7 i2 b0 b1 b2 b3 b4)), .unset, .unset, .val (.int (128 : Int32)), .val (.int (191 : Int32)), .unset, .unset] [])) _
        refine XS.iconst X0.here hx rfl (hb hby own_d1_159) ?_
        exact kt
      refine ownE.retI X0 hx hlk hret (hb hby own_d1_160) ?_ (by decide) (by decide)
      show own_Q1a1 Z r0 i2 kk b0 b1 b2 b3 b4 h0 n0 _ s₁.heap _
      rw [e0]
      exact ⟨(by rw [own_cp1, if_neg hc2, if_pos hc4] <;> first | rfl | decide), N0, rfl⟩
    · -- pc 31
      refine ownE.go (T' := s₁) (f' := (mkF m 34 #[.val (.ref r0), .val (.int (1 : Int32)), .val (.int i2), .val (.int (own_v1a1_7 i2 b0 b1 b2 b3 b4)), .unset, .unset, .val (.int (128 : Int32)), .val (.int (191 : Int32)), .unset, .unset] [])) (fun t kt => XS.icmpNo (g := (mkF m 31 #[.val (.ref r0), .val (.int (1 : Int32)), .val (.int i2), .val (.int (own_v1a1_7 i2 b0 b1 b2 b3 b4)), .unset, .unset, .val (.int (128 : Int32)), .val (.int (191 : Int32)), .unset, .unset] [(.int (194 : Int32)), (.int (own_v1a1_7 i2 b0 b1 b2 b3 b4))])) X0.here hx rfl (hb hby own_d1_31) rfl (Jvm.Free.XT.ii_lt_f hc4) kt) ?_
      refine ownE.go (T' := s₁) (f' := (mkF m 38 #[.val (.ref r0), .val (.int (1 : Int32)), .val (.int i2), .val (.int (own_v1a1_7 i2 b0 b1 b2 b3 b4)), .unset, .unset, .val (.int (128 : Int32)), .val (.int (191 : Int32)), .unset, .unset] [(.int (223 : Int32)), (.int (own_v1a1_7 i2 b0 b1 b2 b3 b4))])) (fun t kt => ?_) ?_
      · show Steps p.tables e below (s₁.setTop (mkF m 34 #[.val (.ref r0), .val (.int (1 : Int32)), .val (.int i2), .val (.int (own_v1a1_7 i2 b0 b1 b2 b3 b4)), .unset, .unset, .val (.int (128 : Int32)), .val (.int (191 : Int32)), .unset, .unset] [])) _
        refine XS.iloadN X0.here hx rfl (hb hby own_d1_34) rfl ?_
        show Steps p.tables e below (s₁.setTop (mkF m 35 #[.val (.ref r0), .val (.int (1 : Int32)), .val (.int i2), .val (.int (own_v1a1_7 i2 b0 b1 b2 b3 b4)), .unset, .unset, .val (.int (128 : Int32)), .val (.int (191 : Int32)), .unset, .unset] [(.int (own_v1a1_7 i2 b0 b1 b2 b3 b4))])) _
        refine XS.sipush X0.here hx rfl (hb hby own_d1_35) ?_
        exact kt
      by_cases hc7 : (223 : Int32) < (own_v1a1_7 i2 b0 b1 b2 b3 b4)
      · -- pc 38
        refine ownE.go (T' := s₁) (f' := (mkF m 53 #[.val (.ref r0), .val (.int (1 : Int32)), .val (.int i2), .val (.int (own_v1a1_7 i2 b0 b1 b2 b3 b4)), .unset, .unset, .val (.int (128 : Int32)), .val (.int (191 : Int32)), .unset, .unset] [])) (fun t kt => XS.icmpYes (g := (mkF m 38 #[.val (.ref r0), .val (.int (1 : Int32)), .val (.int i2), .val (.int (own_v1a1_7 i2 b0 b1 b2 b3 b4)), .unset, .unset, .val (.int (128 : Int32)), .val (.int (191 : Int32)), .unset, .unset] [(.int (223 : Int32)), (.int (own_v1a1_7 i2 b0 b1 b2 b3 b4))])) X0.here hx rfl (pc0 := 38) (pc' := 53) rfl (hb hby own_d1_38) rfl (Jvm.Free.XT.ii_gt_t hc7) (by decide) (by decide) kt) ?_
        refine ownE.go (T' := s₁) (f' := (mkF m 57 #[.val (.ref r0), .val (.int (1 : Int32)), .val (.int i2), .val (.int (own_v1a1_7 i2 b0 b1 b2 b3 b4)), .unset, .unset, .val (.int (128 : Int32)), .val (.int (191 : Int32)), .unset, .unset] [(.int (224 : Int32)), (.int (own_v1a1_7 i2 b0 b1 b2 b3 b4))])) (fun t kt => ?_) ?_
        · show Steps p.tables e below (s₁.setTop (mkF m 53 #[.val (.ref r0), .val (.int (1 : Int32)), .val (.int i2), .val (.int (own_v1a1_7 i2 b0 b1 b2 b3 b4)), .unset, .unset, .val (.int (128 : Int32)), .val (.int (191 : Int32)), .unset, .unset] [])) _
          refine XS.iloadN X0.here hx rfl (hb hby own_d1_53) rfl ?_
          show Steps p.tables e below (s₁.setTop (mkF m 54 #[.val (.ref r0), .val (.int (1 : Int32)), .val (.int i2), .val (.int (own_v1a1_7 i2 b0 b1 b2 b3 b4)), .unset, .unset, .val (.int (128 : Int32)), .val (.int (191 : Int32)), .unset, .unset] [(.int (own_v1a1_7 i2 b0 b1 b2 b3 b4))])) _
          refine XS.sipush X0.here hx rfl (hb hby own_d1_54) ?_
          exact kt
        have hc8 : ¬ (own_v1a1_7 i2 b0 b1 b2 b3 b4) < (224 : Int32) := by
          revert hc2 hc4 hc7
          simp only [Int32.lt_iff_toInt_lt, ← Int32.toInt_inj, own_z128, own_z194, own_z223, own_z224]
          intros
          omega
        refine ownE.go (T' := s₁) (f' := (mkF m 60 #[.val (.ref r0), .val (.int (1 : Int32)), .val (.int i2), .val (.int (own_v1a1_7 i2 b0 b1 b2 b3 b4)), .unset, .unset, .val (.int (128 : Int32)), .val (.int (191 : Int32)), .unset, .unset] [])) (fun t kt => XS.icmpNo (g := (mkF m 57 #[.val (.ref r0), .val (.int (1 : Int32)), .val (.int i2), .val (.int (own_v1a1_7 i2 b0 b1 b2 b3 b4)), .unset, .unset, .val (.int (128 : Int32)), .val (.int (191 : Int32)), .unset, .unset] [(.int (224 : Int32)), (.int (own_v1a1_7 i2 b0 b1 b2 b3 b4))])) X0.here hx rfl (hb hby own_d1_57) rfl (Jvm.Free.XT.ii_lt_f hc8) kt) ?_
        refine ownE.go (T' := s₁) (f' := (mkF m 64 #[.val (.ref r0), .val (.int (1 : Int32)), .val (.int i2), .val (.int (own_v1a1_7 i2 b0 b1 b2 b3 b4)), .unset, .unset, .val (.int (128 : Int32)), .val (.int (191 : Int32)), .unset, .unset] [(.int (239 : Int32)), (.int (own_v1a1_7 i2 b0 b1 b2 b3 b4))])) (fun t kt => ?_) ?_
        · show Steps p.tables e below (s₁.setTop (mkF m 60 #[.val (.ref r0), .val (.int (1 : Int32)), .val (.int i2), .val (.int (own_v1a1_7 i2 b0 b1 b2 b3 b4)), .unset, .unset, .val (.int (128 : Int32)), .val (.int (191 : Int32)), .unset, .unset] [])) _
          refine XS.iloadN X0.here hx rfl (hb hby own_d1_60) rfl ?_
          show Steps p.tables e below (s₁.setTop (mkF m 61 #[.val (.ref r0), .val (.int (1 : Int32)), .val (.int i2), .val (.int (own_v1a1_7 i2 b0 b1 b2 b3 b4)), .unset, .unset, .val (.int (128 : Int32)), .val (.int (191 : Int32)), .unset, .unset] [(.int (own_v1a1_7 i2 b0 b1 b2 b3 b4))])) _
          refine XS.sipush X0.here hx rfl (hb hby own_d1_61) ?_
          exact kt
        by_cases hc9 : (239 : Int32) < (own_v1a1_7 i2 b0 b1 b2 b3 b4)
        · -- pc 64
          refine ownE.go (T' := s₁) (f' := (mkF m 106 #[.val (.ref r0), .val (.int (1 : Int32)), .val (.int i2), .val (.int (own_v1a1_7 i2 b0 b1 b2 b3 b4)), .unset, .unset, .val (.int (128 : Int32)), .val (.int (191 : Int32)), .unset, .unset] [])) (fun t kt => XS.icmpYes (g := (mkF m 64 #[.val (.ref r0), .val (.int (1 : Int32)), .val (.int i2), .val (.int (own_v1a1_7 i2 b0 b1 b2 b3 b4)), .unset, .unset, .val (.int (128 : Int32)), .val (.int (191 : Int32)), .unset, .unset] [(.int (239 : Int32)), (.int (own_v1a1_7 i2 b0 b1 b2 b3 b4))])) X0.here hx rfl (pc0 := 64) (pc' := 106) rfl (hb hby own_d1_64) rfl (Jvm.Free.XT.ii_gt_t hc9) (by decide) (by decide) kt) ?_
          refine ownE.go (T' := s₁) (f' := (mkF m 110 #[.val (.ref r0), .val (.int (1 : Int32)), .val (.int i2), .val (.int (own_v1a1_7 i2 b0 b1 b2 b3 b4)), .unset, .unset, .val (.int (128 : Int32)), .val (.int (191 : Int32)), .unset, .unset] [(.int (240 : Int32)), (.int (own_v1a1_7 i2 b0 b1 b2 b3 b4))])) (fun t kt => ?_) ?_
          · show Steps p.tables e below (s₁.setTop (mkF m 106 #[.val (.ref r0), .val (.int (1 : Int32)), .val (.int i2), .val (.int (own_v1a1_7 i2 b0 b1 b2 b3 b4)), .unset, .unset, .val (.int (128 : Int32)), .val (.int (191 : Int32)), .unset, .unset] [])) _
            refine XS.iloadN X0.here hx rfl (hb hby own_d1_106) rfl ?_
            show Steps p.tables e below (s₁.setTop (mkF m 107 #[.val (.ref r0), .val (.int (1 : Int32)), .val (.int i2), .val (.int (own_v1a1_7 i2 b0 b1 b2 b3 b4)), .unset, .unset, .val (.int (128 : Int32)), .val (.int (191 : Int32)), .unset, .unset] [(.int (own_v1a1_7 i2 b0 b1 b2 b3 b4))])) _
            refine XS.sipush X0.here hx rfl (hb hby own_d1_107) ?_
            exact kt
          have hc10 : ¬ (own_v1a1_7 i2 b0 b1 b2 b3 b4) < (240 : Int32) := by
            revert hc2 hc4 hc7 hc9
            simp only [Int32.lt_iff_toInt_lt, ← Int32.toInt_inj, own_z128, own_z194, own_z223, own_z239, own_z240]
            intros
            omega
          refine ownE.go (T' := s₁) (f' := (mkF m 113 #[.val (.ref r0), .val (.int (1 : Int32)), .val (.int i2), .val (.int (own_v1a1_7 i2 b0 b1 b2 b3 b4)), .unset, .unset, .val (.int (128 : Int32)), .val (.int (191 : Int32)), .unset, .unset] [])) (fun t kt => XS.icmpNo (g := (mkF m 110 #[.val (.ref r0), .val (.int (1 : Int32)), .val (.int i2), .val (.int (own_v1a1_7 i2 b0 b1 b2 b3 b4)), .unset, .unset, .val (.int (128 : Int32)), .val (.int (191 : Int32)), .unset, .unset] [(.int (240 : Int32)), (.int (own_v1a1_7 i2 b0 b1 b2 b3 b4))])) X0.here hx rfl (hb hby own_d1_110) rfl (Jvm.Free.XT.ii_lt_f hc10) kt) ?_
          refine ownE.go (T' := s₁) (f' := (mkF m 117 #[.val (.ref r0), .val (.int (1 : Int32)), .val (.int i2), .val (.int (own_v1a1_7 i2 b0 b1 b2 b3 b4)), .unset, .unset, .val (.int (128 : Int32)), .val (.int (191 : Int32)), .unset, .unset] [(.int (244 : Int32)), (.int (own_v1a1_7 i2 b0 b1 b2 b3 b4))])) (fun t kt => ?_) ?_
          · show Steps p.tables e below (s₁.setTop (mkF m 113 #[.val (.ref r0), .val (.int (1 : Int32)), .val (.int i2), .val (.int (own_v1a1_7 i2 b0 b1 b2 b3 b4)), .unset, .unset, .val (.int (128 : Int32)), .val (.int (191 : Int32)), .unset, .unset] [])) _
            refine XS.iloadN X0.here hx rfl (hb hby own_d1_113) rfl ?_
            show Steps p.tables e below (s₁.setTop (mkF m 114 #[.val (.ref r0), .val (.int (1 : Int32)), .val (.int i2), .val (.int (own_v1a1_7 i2 b0 b1 b2 b3 b4)), .unset, .unset, .val (.int (128 : Int32)), .val (.int (191 : Int32)), .unset, .unset] [(.int (own_v1a1_7 i2 b0 b1 b2 b3 b4))])) _
            refine XS.sipush X0.here hx rfl (hb hby own_d1_114) ?_
            exact kt
          by_cases hc11 : (244 : Int32) < (own_v1a1_7 i2 b0 b1 b2 b3 b4)
          · -- pc 117
            refine ownE.go (T' := s₁) (f' := (mkF m 159 #[.val (.ref r0), .val (.int (1 : Int32)), .val (.int i2), .val (.int (own_v1a1_7 i2 b0 b1 b2 b3 b4)), .unset, .unset, .val (.int (128 : Int32)), .val (.int (191 : Int32)), .unset, .unset] [])) (fun t kt => XS.icmpYes (g := (mkF m 117 #[.val (.ref r0), .val (.int (1 : Int32)), .val (.int i2), .val (.int (own_v1a1_7 i2 b0 b1 b2 b3 b4)), .unset, .unset, .val (.int (128 : Int32)), .val (.int (191 : Int32)), .unset, .unset] [(.int (244 : Int32)), (.int (own_v1a1_7 i2 b0 b1 b2 b3 b4))])) X0.here hx rfl (pc0 := 117) (pc' := 159) rfl (hb hby own_d1_117) rfl (Jvm.Free.XT.ii_gt_t hc11) (by decide) (by decide) kt) ?_
            refine ownE.go (T' := s₁) (f' := (mkF m 160 #[.val (.ref r0), .val (.int (1 : Int32)), .val (.int i2), .val (.int (own_v1a1_7 i2 b0 b1 b2 b3 b4)), .unset, .unset, .val (.int (128 : Int32)), .val (.int (191 : Int32)), .unset, .unset] [(.int (-1 : Int32))])) (fun t kt => ?_) ?_
            · show Steps p.tables e below (s₁.setTop (mkF m 159 #[.val (.ref r0), .val (.int (1 : Int32)), .val (.int i2), .val (.int (own_v1a1_7 i2 b0 b1 b2 b3 b4)), .unset, .unset, .val (.int (128 : Int32)), .val (.int (191 : Int32)), .unset, .unset] [])) _
              refine XS.iconst X0.here hx rfl (hb hby own_d1_159) ?_
              exact kt
            refine ownE.retI X0 hx hlk hret (hb hby own_d1_160) ?_ (by decide) (by decide)
            show own_Q1a1 Z r0 i2 kk b0 b1 b2 b3 b4 h0 n0 _ s₁.heap _
            rw [e0]
            exact ⟨(by rw [own_cp1, if_neg hc2, if_neg hc4, if_pos hc7, if_pos hc9, if_pos hc11] <;> first | rfl | decide), N0, rfl⟩
          · -- pc 117
            refine ownE.go (T' := s₁) (f' := (mkF m 120 #[.val (.ref r0), .val (.int (1 : Int32)), .val (.int i2), .val (.int (own_v1a1_7 i2 b0 b1 b2 b3 b4)), .unset, .unset, .val (.int (128 : Int32)), .val (.int (191 : Int32)), .unset, .unset] [])) (fun t kt => XS.icmpNo (g := (mkF m 117 #[.val (.ref r0), .val (.int (1 : Int32)), .val (.int i2), .val (.int (own_v1a1_7 i2 b0 b1 b2 b3 b4)), .unset, .unset, .val (.int (128 : Int32)), .val (.int (191 : Int32)), .unset, .unset] [(.int (244 : Int32)), (.int (own_v1a1_7 i2 b0 b1 b2 b3 b4))])) X0.here hx rfl (hb hby own_d1_117) rfl (Jvm.Free.XT.ii_gt_f hc11) kt) ?_
            refine ownE.go (T' := s₁) (f' := (mkF m 133 #[.val (.ref r0), .val (.int (1 : Int32)), .val (.int i2), .val (.int (own_v1a1_7 i2 b0 b1 b2 b3 b4)), .val (.int (3 : Int32)), .val (.int (own_v1a1_127 i2 b0 b1 b2 b3 b4)), .val (.int (128 : Int32)), .val (.int (191 : Int32)), .unset, .unset] [(.int (240 : Int32)), (.int (own_v1a1_7 i2 b0 b1 b2 b3 b4))])) (fun t kt => ?_) ?_
            · show Steps p.tables e below (s₁.setTop (mkF m 120 #[.val (.ref r0), .val (.int (1 : Int32)), .val (.int i2), .val (.int (own_v1a1_7 i2 b0 b1 b2 b3 b4)), .unset, .unset, .val (.int (128 : Int32)), .val (.int (191 : Int32)), .unset, .unset] [])) _
              refine XS.iconst X0.here hx rfl (hb hby own_d1_120) ?_
              show Steps p.tables e below (s₁.setTop (mkF m 121 #[.val (.ref r0), .val (.int (1 : Int32)), .val (.int i2), .val (.int (own_v1a1_7 i2 b0 b1 b2 b3 b4)), .unset, .unset, .val (.int (128 : Int32)), .val (.int (191 : Int32)), .unset, .unset] [(.int (3 : Int32))])) _
              refine XS.istore X0.here hx rfl (hb hby own_d1_121) rfl (l' := #[.val (.ref r0), .val (.int (1 : Int32)), .val (.int i2), .val (.int (own_v1a1_7 i2 b0 b1 b2 b3 b4)), .val (.int (3 : Int32)), .unset, .val (.int (128 : Int32)), .val (.int (191 : Int32)), .unset, .unset]) rfl ?_
              show Steps p.tables e below (s₁.setTop (mkF m 123 #[.val (.ref r0), .val (.int (1 : Int32)), .val (.int i2), .val (.int (own_v1a1_7 i2 b0 b1 b2 b3 b4)), .val (.int (3 : Int32)), .unset, .val (.int (128 : Int32)), .val (.int (191 : Int32)), .unset, .unset] [])) _
              refine XS.iloadN X0.here hx rfl (hb hby own_d1_123) rfl ?_
              show Steps p.tables e below (s₁.setTop (mkF m 124 #[.val (.ref r0), .val (.int (1 : Int32)), .val (.int i2), .val (.int (own_v1a1_7 i2 b0 b1 b2 b3 b4)), .val (.int (3 : Int32)), .unset, .val (.int (128 : Int32)), .val (.int (191 : Int32)), .unset, .unset] [(.int (own_v1a1_7 i2 b0 b1 b2 b3 b4))])) _
              refine XS.bipush X0.here hx rfl (hb hby own_d1_124) ?_
              show Steps p.tables e below (s₁.setTop (mkF m 126 #[.val (.ref r0), .val (.int (1 : Int32)), .val (.int i2), .val (.int (own_v1a1_7 i2 b0 b1 b2 b3 b4)), .val (.int (3 : Int32)), .unset, .val (.int (128 : Int32)), .val (.int (191 : Int32)), .unset, .unset] [(.int (7 : Int32)), (.int (own_v1a1_7 i2 b0 b1 b2 b3 b4))])) _
              refine XS.iand X0.here hx rfl (hb hby own_d1_126) rfl ?_
              show Steps p.tables e below (s₁.setTop (mkF m 127 #[.val (.ref r0), .val (.int (1 : Int32)), .val (.int i2), .val (.int (own_v1a1_7 i2 b0 b1 b2 b3 b4)), .val (.int (3 : Int32)), .unset, .val (.int (128 : Int32)), .val (.int (191 : Int32)), .unset, .unset] [(.int ((own_v1a1_7 i2 b0 b1 b2 b3 b4) &&& (7 : Int32)))])) _
              refine XS.istore X0.here hx rfl (hb hby own_d1_127) rfl (l' := #[.val (.ref r0), .val (.int (1 : Int32)), .val (.int i2), .val (.int (own_v1a1_7 i2 b0 b1 b2 b3 b4)), .val (.int (3 : Int32)), .val (.int (own_v1a1_127 i2 b0 b1 b2 b3 b4)), .val (.int (128 : Int32)), .val (.int (191 : Int32)), .unset, .unset]) rfl ?_
              show Steps p.tables e below (s₁.setTop (mkF m 129 #[.val (.ref r0), .val (.int (1 : Int32)), .val (.int i2), .val (.int (own_v1a1_7 i2 b0 b1 b2 b3 b4)), .val (.int (3 : Int32)), .val (.int (own_v1a1_127 i2 b0 b1 b2 b3 b4)), .val (.int (128 : Int32)), .val (.int (191 : Int32)), .unset, .unset] [])) _
              refine XS.iloadN X0.here hx rfl (hb hby own_d1_129) rfl ?_
              show Steps p.tables e below (s₁.setTop (mkF m 130 #[.val (.ref r0), .val (.int (1 : Int32)), .val (.int i2), .val (.int (own_v1a1_7 i2 b0 b1 b2 b3 b4)), .val (.int (3 : Int32)), .val (.int (own_v1a1_127 i2 b0 b1 b2 b3 b4)), .val (.int (128 : Int32)), .val (.int (191 : Int32)), .unset, .unset] [(.int (own_v1a1_7 i2 b0 b1 b2 b3 b4))])) _
              refine XS.sipush X0.here hx rfl (hb hby own_d1_130) ?_
              exact kt
            by_cases hc12 : (own_v1a1_7 i2 b0 b1 b2 b3 b4) = (240 : Int32)
            · -- pc 133
              refine ownE.go (T' := s₁) (f' := (mkF m 136 #[.val (.ref r0), .val (.int (1 : Int32)), .val (.int i2), .val (.int (own_v1a1_7 i2 b0 b1 b2 b3 b4)), .val (.int (3 : Int32)), .val (.int (own_v1a1_127 i2 b0 b1 b2 b3 b4)), .val (.int (128 : Int32)), .val (.int (191 : Int32)), .unset, .unset] [])) (fun t kt => XS.icmpNo (g := (mkF m 133 #[.val (.ref r0), .val (.int (1 : Int32)), .val (.int i2), .val (.int (own_v1a1_7 i2 b0 b1 b2 b3 b4)), .val (.int (3 : Int32)), .val (.int (own_v1a1_127 i2 b0 b1 b2 b3 b4)), .val (.int (128 : Int32)), .val (.int (191 : Int32)), .unset, .unset] [(.int (240 : Int32)), (.int (own_v1a1_7 i2 b0 b1 b2 b3 b4))])) X0.here hx rfl (hb hby own_d1_133) rfl (Jvm.Free.XT.ii_ne_f hc12) kt) ?_
              refine ownE.go (T' := s₁) (f' := (mkF m 161 #[.val (.ref r0), .val (.int (1 : Int32)), .val (.int i2), .val (.int (own_v1a1_7 i2 b0 b1 b2 b3 b4)), .val (.int (3 : Int32)), .val (.int (own_v1a1_127 i2 b0 b1 b2 b3 b4)), .val (.int (144 : Int32)), .val (.int (191 : Int32)), .unset, .unset] [])) (fun t kt => ?_) ?_
              · show Steps p.tables e below (s₁.setTop (mkF m 136 #[.val (.ref r0), .val (.int (1 : Int32)), .val (.int i2), .val (.int (own_v1a1_7 i2 b0 b1 b2 b3 b4)), .val (.int (3 : Int32)), .val (.int (own_v1a1_127 i2 b0 b1 b2 b3 b4)), .val (.int (128 : Int32)), .val (.int (191 : Int32)), .unset, .unset] [])) _
                refine XS.sipush X0.here hx rfl (hb hby own_d1_136) ?_
                show Steps p.tables e below (s₁.setTop (mkF m 139 #[.val (.ref r0), .val (.int (1 : Int32)), .val (.int i2), .val (.int (own_v1a1_7 i2 b0 b1 b2 b3 b4)), .val (.int (3 : Int32)), .val (.int (own_v1a1_127 i2 b0 b1 b2 b3 b4)), .val (.int (128 : Int32)), .val (.int (191 : Int32)), .unset, .unset] [(.int (144 : Int32))])) _
                refine XS.istore X0.here hx rfl (hb hby own_d1_139) rfl (l' := #[.val (.ref r0), .val (.int (1 : Int32)), .val (.int i2), .val (.int (own_v1a1_7 i2 b0 b1 b2 b3 b4)), .val (.int (3 : Int32)), .val (.int (own_v1a1_127 i2 b0 b1 b2 b3 b4)), .val (.int (144 : Int32)), .val (.int (191 : Int32)), .unset, .unset]) rfl ?_
                show Steps p.tables e below (s₁.setTop (mkF m 141 #[.val (.ref r0), .val (.int (1 : Int32)), .val (.int i2), .val (.int (own_v1a1_7 i2 b0 b1 b2 b3 b4)), .val (.int (3 : Int32)), .val (.int (own_v1a1_127 i2 b0 b1 b2 b3 b4)), .val (.int (144 : Int32)), .val (.int (191 : Int32)), .unset, .unset] [])) _
                refine XS.goto X0.here hx rfl (pc0 := 141) (pc' := 161) rfl (hb hby own_d1_141) (by decide) (by decide) ?_
                exact kt
              have jj := J16 _ _ X0 e0 N0 (by rw [own_cp1, if_neg hc2, if_neg hc4, if_pos hc7, if_pos hc9, if_neg hc11, if_pos hc12])
              rw [show (own_j1a1_161_L4 i2 b0 b1 b2 b3 b4) = (3 : Int32) from by rw [own_j1a1_161_L4, if_neg hc4, if_pos hc7, if_pos hc9, if_neg hc11, if_pos hc12]] at jj
              rw [show (own_j1a1_161_L5 i2 b0 b1 b2 b3 b4) = (own_v1a1_127 i2 b0 b1 b2 b3 b4) from by rw [own_j1a1_161_L5, if_neg hc4, if_pos hc7, if_pos hc9, if_neg hc11, if_pos hc12]] at jj
              rw [show (own_j1a1_161_L6 i2 b0 b1 b2 b3 b4) = (144 : Int32) from by rw [own_j1a1_161_L6, if_neg hc4, if_pos hc7, if_pos hc9, if_neg hc11, if_pos hc12]] at jj
              rw [show (own_j1a1_161_L7 i2 b0 b1 b2 b3 b4) = (191 : Int32) from by rw [own_j1a1_161_L7, if_neg hc4, if_pos hc7, if_pos hc9, if_neg hc11, if_pos hc12]] at jj
              exact jj
            · -- pc 133
              refine ownE.go (T' := s₁) (f' := (mkF m 144 #[.val (.ref r0), .val (.int (1 : Int32)), .val (.int i2), .val (.int (own_v1a1_7 i2 b0 b1 b2 b3 b4)), .val (.int (3 : Int32)), .val (.int (own_v1a1_127 i2 b0 b1 b2 b3 b4)), .val (.int (128 : Int32)), .val (.int (191 : Int32)), .unset, .unset] [])) (fun t kt => XS.icmpYes (g := (mkF m 133 #[.val (.ref r0), .val (.int (1 : Int32)), .val (.int i2), .val (.int (own_v1a1_7 i2 b0 b1 b2 b3 b4)), .val (.int (3 : Int32)), .val (.int (own_v1a1_127 i2 b0 b1 b2 b3 b4)), .val (.int (128 : Int32)), .val (.int (191 : Int32)), .unset, .unset] [(.int (240 : Int32)), (.int (own_v1a1_7 i2 b0 b1 b2 b3 b4))])) X0.here hx rfl (pc0 := 133) (pc' := 144) rfl (hb hby own_d1_133) rfl (Jvm.Free.XT.ii_ne_t hc12) (by decide) (by decide) kt) ?_
              refine ownE.go (T' := s₁) (f' := (mkF m 148 #[.val (.ref r0), .val (.int (1 : Int32)), .val (.int i2), .val (.int (own_v1a1_7 i2 b0 b1 b2 b3 b4)), .val (.int (3 : Int32)), .val (.int (own_v1a1_127 i2 b0 b1 b2 b3 b4)), .val (.int (128 : Int32)), .val (.int (191 : Int32)), .unset, .unset] [(.int (244 : Int32)), (.int (own_v1a1_7 i2 b0 b1 b2 b3 b4))])) (fun t kt => ?_) ?_
              · show Steps p.tables e below (s₁.setTop (mkF m 144 #[.val (.ref r0), .val (.int (1 : Int32)), .val (.int i2), .val (.int (own_v1a1_7 i2 b0 b1 b2 b3 b4)), .val (.int (3 : Int32)), .val (.int (own_v1a1_127 i2 b0 b1 b2 b3 b4)), .val (.int (128 : Int32)), .val (.int (191 : Int32)), .unset, .unset] [])) _
                refine XS.iloadN X0.here hx rfl (hb hby own_d1_144) rfl ?_
                show Steps p.tables e below (s₁.setTop (mkF m 145 #[.val (.ref r0), .val (.int (1 : Int32)), .val (.int i2), .val (.int (own_v1a1_7 i2 b0 b1 b2 b3 b4)), .val (.int (3 : Int32)), .val (.int (own_v1a1_127 i2 b0 b1 b2 b3 b4)), .val (.int (128 : Int32)), .val (.int (191 : Int32)), .unset, .unset] [(.int (own_v1a1_7 i2 b0 b1 b2 b3 b4))])) _
                refine XS.sipush X0.here hx rfl (hb hby own_d1_145) ?_
                exact kt
              by_cases hc13 : (own_v1a1_7 i2 b0 b1 b2 b3 b4) = (244 : Int32)
              · -- pc 148
                refine ownE.go (T' := s₁) (f' := (mkF m 151 #[.val (.ref r0), .val (.int (1 : Int32)), .val (.int i2), .val (.int (own_v1a1_7 i2 b0 b1 b2 b3 b4)), .val (.int (3 : Int32)), .val (.int (own_v1a1_127 i2 b0 b1 b2 b3 b4)), .val (.int (128 : Int32)), .val (.int (191 : Int32)), .unset, .unset] [])) (fun t kt => XS.icmpNo (g := (mkF m 148 #[.val (.ref r0), .val (.int (1 : Int32)), .val (.int i2), .val (.int (own_v1a1_7 i2 b0 b1 b2 b3 b4)), .val (.int (3 : Int32)), .val (.int (own_v1a1_127 i2 b0 b1 b2 b3 b4)), .val (.int (128 : Int32)), .val (.int (191 : Int32)), .unset, .unset] [(.int (244 : Int32)), (.int (own_v1a1_7 i2 b0 b1 b2 b3 b4))])) X0.here hx rfl (hb hby own_d1_148) rfl (Jvm.Free.XT.ii_ne_f hc13) kt) ?_
                refine ownE.go (T' := s₁) (f' := (mkF m 161 #[.val (.ref r0), .val (.int (1 : Int32)), .val (.int i2), .val (.int (own_v1a1_7 i2 b0 b1 b2 b3 b4)), .val (.int (3 : Int32)), .val (.int (own_v1a1_127 i2 b0 b1 b2 b3 b4)), .val (.int (128 : Int32)), .val (.int (143 : Int32)), .unset, .unset] [])) (fun t kt => ?_) ?_
                · show Steps p.tables e below (s₁.setTop (mkF m 151 #[.val (.ref r0), .val (.int (1 : Int32)), .val (.int i2), .val (.int (own_v1a1_7 i2 b0 b1 b2 b3 b4)), .val (.int (3 : Int32)), .val (.int (own_v1a1_127 i2 b0 b1 b2 b3 b4)), .val (.int (128 : Int32)), .val (.int (191 : Int32)), .unset, .unset] [])) _
                  refine XS.sipush X0.here hx rfl (hb hby own_d1_151) ?_
                  show Steps p.tables e below (s₁.setTop (mkF m 154 #[.val (.ref r0), .val (.int (1 : Int32)), .val (.int i2), .val (.int (own_v1a1_7 i2 b0 b1 b2 b3 b4)), .val (.int (3 : Int32)), .val (.int (own_v1a1_127 i2 b0 b1 b2 b3 b4)), .val (.int (128 : Int32)), .val (.int (191 : Int32)), .unset, .unset] [(.int (143 : Int32))])) _
                  refine XS.istore X0.here hx rfl (hb hby own_d1_154) rfl (l' := #[.val (.ref r0), .val (.int (1 : Int32)), .val (.int i2), .val (.int (own_v1a1_7 i2 b0 b1 b2 b3 b4)), .val (.int (3 : Int32)), .val (.int (own_v1a1_127 i2 b0 b1 b2 b3 b4)), .val (.int (128 : Int32)), .val (.int (143 : Int32)), .unset, .unset]) rfl ?_
                  show Steps p.tables e below (s₁.setTop (mkF m 156 #[.val (.ref r0), .val (.int (1 : Int32)), .val (.int i2), .val (.int (own_v1a1_7 i2 b0 b1 b2 b3 b4)), .val (.int (3 : Int32)), .val (.int (own_v1a1_127 i2 b0 b1 b2 b3 b4)), .val (.int (128 : Int32)), .val (.int (143 : Int32)), .unset, .unset] [])) _
                  refine XS.goto X0.here hx rfl (pc0 := 156) (pc' := 161) rfl (hb hby own_d1_156) (by decide) (by decide) ?_
                  exact kt
                have jj := J16 _ _ X0 e0 N0 (by rw [own_cp1, if_neg hc2, if_neg hc4, if_pos hc7, if_pos hc9, if_neg hc11, if_neg hc12, if_pos hc13])
                rw [show (own_j1a1_161_L4 i2 b0 b1 b2 b3 b4) = (3 : Int32) from by rw [own_j1a1_161_L4, if_neg hc4, if_pos hc7, if_pos hc9, if_neg hc11, if_neg hc12, if_pos hc13]] at jj
                rw [show (own_j1a1_161_L5 i2 b0 b1 b2 b3 b4) = (own_v1a1_127 i2 b0 b1 b2 b3 b4) from by rw [own_j1a1_161_L5, if_neg hc4, if_pos hc7, if_pos hc9, if_neg hc11, if_neg hc12, if_pos hc13]] at jj
                rw [show (own_j1a1_161_L6 i2 b0 b1 b2 b3 b4) = (128 : Int32) from by rw [own_j1a1_161_L6, if_neg hc4, if_pos hc7, if_pos hc9, if_neg hc11, if_neg hc12, if_pos hc13]] at jj
                rw [show (own_j1a1_161_L7 i2 b0 b1 b2 b3 b4) = (143 : Int32) from by rw [own_j1a1_161_L7, if_neg hc4, if_pos hc7, if_pos hc9, if_neg hc11, if_neg hc12, if_pos hc13]] at jj
                exact jj
              · -- pc 148
                refine ownE.go (T' := s₁) (f' := (mkF m 161 #[.val (.ref r0), .val (.int (1 : Int32)), .val (.int i2), .val (.int (own_v1a1_7 i2 b0 b1 b2 b3 b4)), .val (.int (3 : Int32)), .val (.int (own_v1a1_127 i2 b0 b1 b2 b3 b4)), .val (.int (128 : Int32)), .val (.int (191 : Int32)), .unset, .unset] [])) (fun t kt => XS.icmpYes (g := (mkF m 148 #[.val (.ref r0), .val (.int (1 : Int32)), .val (.int i2), .val (.int (own_v1a1_7 i2 b0 b1 b2 b3 b4)), .val (.int (3 : Int32)), .val (.int (own_v1a1_127 i2 b0 b1 b2 b3 b4)), .val (.int (128 : Int32)), .val (.int (191 : Int32)), .unset, .unset] [(.int (244 : Int32)), (.int (own_v1a1_7 i2 b0 b1 b2 b3 b4))])) X0.here hx rfl (pc0 := 148) (pc' := 161) rfl (hb hby own_d1_148) rfl (Jvm.Free.XT.ii_ne_t hc13) (by decide) (by decide) kt) ?_
                have jj := J16 _ _ X0 e0 N0 (by rw [own_cp1, if_neg hc2, if_neg hc4, if_pos hc7, if_pos hc9, if_neg hc11, if_neg hc12, if_neg hc13])
                rw [show (own_j1a1_161_L4 i2 b0 b1 b2 b3 b4) = (3 : Int32) from by rw [own_j1a1_161_L4, if_neg hc4, if_pos hc7, if_pos hc9, if_neg hc11, if_neg hc12, if_neg hc13]] at jj
                rw [show (own_j1a1_161_L5 i2 b0 b1 b2 b3 b4) = (own_v1a1_127 i2 b0 b1 b2 b3 b4) from by rw [own_j1a1_161_L5, if_neg hc4, if_pos hc7, if_pos hc9, if_neg hc11, if_neg hc12, if_neg hc13]] at jj
                rw [show (own_j1a1_161_L6 i2 b0 b1 b2 b3 b4) = (128 : Int32) from by rw [own_j1a1_161_L6, if_neg hc4, if_pos hc7, if_pos hc9, if_neg hc11, if_neg hc12, if_neg hc13]] at jj
                rw [show (own_j1a1_161_L7 i2 b0 b1 b2 b3 b4) = (191 : Int32) from by rw [own_j1a1_161_L7, if_neg hc4, if_pos hc7, if_pos hc9, if_neg hc11, if_neg hc12, if_neg hc13]] at jj
                exact jj
        · -- pc 64
          refine ownE.go (T' := s₁) (f' := (mkF m 67 #[.val (.ref r0), .val (.int (1 : Int32)), .val (.int i2), .val (.int (own_v1a1_7 i2 b0 b1 b2 b3 b4)), .unset, .unset, .val (.int (128 : Int32)), .val (.int (191 : Int32)), .unset, .unset] [])) (fun t kt => XS.icmpNo (g := (mkF m 64 #[.val (.ref r0), .val (.int (1 : Int32)), .val (.int i2), .val (.int (own_v1a1_7 i2 b0 b1 b2 b3 b4)), .unset, .unset, .val (.int (128 : Int32)), .val (.int (191 : Int32)), .unset, .unset] [(.int (239 : Int32)), (.int (own_v1a1_7 i2 b0 b1 b2 b3 b4))])) X0.here hx rfl (hb hby own_d1_64) rfl (Jvm.Free.XT.ii_gt_f hc9) kt) ?_
          refine ownE.go (T' := s₁) (f' := (mkF m 80 #[.val (.ref r0), .val (.int (1 : Int32)), .val (.int i2), .val (.int (own_v1a1_7 i2 b0 b1 b2 b3 b4)), .val (.int (2 : Int32)), .val (.int (own_v1a1_74 i2 b0 b1 b2 b3 b4)), .val (.int (128 : Int32)), .val (.int (191 : Int32)), .unset, .unset] [(.int (224 : Int32)), (.int (own_v1a1_7 i2 b0 b1 b2 b3 b4))])) (fun t kt => ?_) ?_
          · show Steps p.tables e below (s₁.setTop (mkF m 67 #[.val (.ref r0), .val (.int (1 : Int32)), .val (.int i2), .val (.int (own_v1a1_7 i2 b0 b1 b2 b3 b4)), .unset, .unset, .val (.int (128 : Int32)), .val (.int (191 : Int32)), .unset, .unset] [])) _
            refine XS.iconst X0.here hx rfl (hb hby own_d1_67) ?_
            show Steps p.tables e below (s₁.setTop (mkF m 68 #[.val (.ref r0), .val (.int (1 : Int32)), .val (.int i2), .val (.int (own_v1a1_7 i2 b0 b1 b2 b3 b4)), .unset, .unset, .val (.int (128 : Int32)), .val (.int (191 : Int32)), .unset, .unset] [(.int (2 : Int32))])) _
            refine XS.istore X0.here hx rfl (hb hby own_d1_68) rfl (l' := #[.val (.ref r0), .val (.int (1 : Int32)), .val (.int i2), .val (.int (own_v1a1_7 i2 b0 b1 b2 b3 b4)), .val (.int (2 : Int32)), .unset, .val (.int (128 : Int32)), .val (.int (191 : Int32)), .unset, .unset]) rfl ?_
            show Steps p.tables e below (s₁.setTop (mkF m 70 #[.val (.ref r0), .val (.int (1 : Int32)), .val (.int i2), .val (.int (own_v1a1_7 i2 b0 b1 b2 b3 b4)), .val (.int (2 : Int32)), .unset, .val (.int (128 : Int32)), .val (.int (191 : Int32)), .unset, .unset] [])) _
            refine XS.iloadN X0.here hx rfl (hb hby own_d1_70) rfl ?_
            show Steps p.tables e below (s₁.setTop (mkF m 71 #[.val (.ref r0), .val (.int (1 : Int32)), .val (.int i2), .val (.int (own_v1a1_7 i2 b0 b1 b2 b3 b4)), .val (.int (2 : Int32)), .unset, .val (.int (128 : Int32)), .val (.int (191 : Int32)), .unset, .unset] [(.int (own_v1a1_7 i2 b0 b1 b2 b3 b4))])) _
            refine XS.bipush X0.here hx rfl (hb hby own_d1_71) ?_
            show Steps p.tables e below (s₁.setTop (mkF m 73 #[.val (.ref r0), .val (.int (1 : Int32)), .val (.int i2), .val (.int (own_v1a1_7 i2 b0 b1 b2 b3 b4)), .val (.int (2 : Int32)), .unset, .val (.int (128 : Int32)), .val (.int (191 : Int32)), .unset, .unset] [(.int (15 : Int32)), (.int (own_v1a1_7 i2 b0 b1 b2 b3 b4))])) _
            refine XS.iand X0.here hx rfl (hb hby own_d1_73) rfl ?_
            show Steps p.tables e below (s₁.setTop (mkF m 74 #[.val (.ref r0), .val (.int (1 : Int32)), .val (.int i2), .val (.int (own_v1a1_7 i2 b0 b1 b2 b3 b4)), .val (.int (2 : Int32)), .unset, .val (.int (128 : Int32)), .val (.int (191 : Int32)), .unset, .unset] [(.int ((own_v1a1_7 i2 b0 b1 b2 b3 b4) &&& (15 : Int32)))])) _
            refine XS.istore X0.here hx rfl (hb hby own_d1_74) rfl (l' := #[.val (.ref r0), .val (.int (1 : Int32)), .val (.int i2), .val (.int (own_v1a1_7 i2 b0 b1 b2 b3 b4)), .val (.int (2 : Int32)), .val (.int (own_v1a1_74 i2 b0 b1 b2 b3 b4)), .val (.int (128 : Int32)), .val (.int (191 : Int32)), .unset, .unset]) rfl ?_
            show Steps p.tables e below (s₁.setTop (mkF m 76 #[.val (.ref r0), .val (.int (1 : Int32)), .val (.int i2), .val (.int (own_v1a1_7 i2 b0 b1 b2 b3 b4)), .val (.int (2 : Int32)), .val (.int (own_v1a1_74 i2 b0 b1 b2 b3 b4)), .val (.int (128 : Int32)), .val (.int (191 : Int32)), .unset, .unset] [])) _
            refine XS.iloadN X0.here hx rfl (hb hby own_d1_76) rfl ?_
            show Steps p.tables e below (s₁.setTop (mkF m 77 #[.val (.ref r0), .val (.int (1 : Int32)), .val (.int i2), .val (.int (own_v1a1_7 i2 b0 b1 b2 b3 b4)), .val (.int (2 : Int32)), .val (.int (own_v1a1_74 i2 b0 b1 b2 b3 b4)), .val (.int (128 : Int32)), .val (.int (191 : Int32)), .unset, .unset] [(.int (own_v1a1_7 i2 b0 b1 b2 b3 b4))])) _
            refine XS.sipush X0.here hx rfl (hb hby own_d1_77) ?_
            exact kt
          by_cases hc14 : (own_v1a1_7 i2 b0 b1 b2 b3 b4) = (224 : Int32)
          · -- pc 80
            refine ownE.go (T' := s₁) (f' := (mkF m 83 #[.val (.ref r0), .val (.int (1 : Int32)), .val (.int i2), .val (.int (own_v1a1_7 i2 b0 b1 b2 b3 b4)), .val (.int (2 : Int32)), .val (.int (own_v1a1_74 i2 b0 b1 b2 b3 b4)), .val (.int (128 : Int32)), .val (.int (191 : Int32)), .unset, .unset] [])) (fun t kt => XS.icmpNo (g := (mkF m 80 #[.val (.ref r0), .val (.int (1 : Int32)), .val (.int i2), .val (.int (own_v1a1_7 i2 b0 b1 b2 b3 b4)), .val (.int (2 : Int32)), .val (.int (own_v1a1_74 i2 b0 b1 b2 b3 b4)), .val (.int (128 : Int32)), .val (.int (191 : Int32)), .unset, .unset] [(.int (224 : Int32)), (.int (own_v1a1_7 i2 b0 b1 b2 b3 b4))])) X0.here hx rfl (hb hby own_d1_80) rfl (Jvm.Free.XT.ii_ne_f hc14) kt) ?_
            refine ownE.go (T' := s₁) (f' := (mkF m 161 #[.val (.ref r0), .val (.int (1 : Int32)), .val (.int i2), .val (.int (own_v1a1_7 i2 b0 b1 b2 b3 b4)), .val (.int (2 : Int32)), .val (.int (own_v1a1_74 i2 b0 b1 b2 b3 b4)), .val (.int (160 : Int32)), .val (.int (191 : Int32)), .unset, .unset] [])) (fun t kt => ?_) ?_
            · show Steps p.tables e below (s₁.setTop (mkF m 83 #[.val (.ref r0), .val (.int (1 : Int32)), .val (.int i2), .val (.int (own_v1a1_7 i2 b0 b1 b2 b3 b4)), .val (.int (2 : Int32)), .val (.int (own_v1a1_74 i2 b0 b1 b2 b3 b4)), .val (.int (128 : Int32)), .val (.int (191 : Int32)), .unset, .unset] [])) _
              refine XS.sipush X0.here hx rfl (hb hby own_d1_83) ?_
              show Steps p.tables e below (s₁.setTop (mkF m 86 #[.val (.ref r0), .val (.int (1 : Int32)), .val (.int i2), .val (.int (own_v1a1_7 i2 b0 b1 b2 b3 b4)), .val (.int (2 : Int32)), .val (.int (own_v1a1_74 i2 b0 b1 b2 b3 b4)), .val (.int (128 : Int32)), .val (.int (191 : Int32)), .unset, .unset] [(.int (160 : Int32))])) _
              refine XS.istore X0.here hx rfl (hb hby own_d1_86) rfl (l' := #[.val (.ref r0), .val (.int (1 : Int32)), .val (.int i2), .val (.int (own_v1a1_7 i2 b0 b1 b2 b3 b4)), .val (.int (2 : Int32)), .val (.int (own_v1a1_74 i2 b0 b1 b2 b3 b4)), .val (.int (160 : Int32)), .val (.int (191 : Int32)), .unset, .unset]) rfl ?_
              show Steps p.tables e below (s₁.setTop (mkF m 88 #[.val (.ref r0), .val (.int (1 : Int32)), .val (.int i2), .val (.int (own_v1a1_7 i2 b0 b1 b2 b3 b4)), .val (.int (2 : Int32)), .val (.int (own_v1a1_74 i2 b0 b1 b2 b3 b4)), .val (.int (160 : Int32)), .val (.int (191 : Int32)), .unset, .unset] [])) _
              refine XS.goto X0.here hx rfl (pc0 := 88) (pc' := 161) rfl (hb hby own_d1_88) (by decide) (by decide) ?_
              exact kt
            have jj := J16 _ _ X0 e0 N0 (by rw [own_cp1, if_neg hc2, if_neg hc4, if_pos hc7, if_neg hc9, if_pos hc14])
            rw [show (own_j1a1_161_L4 i2 b0 b1 b2 b3 b4) = (2 : Int32) from by rw [own_j1a1_161_L4, if_neg hc4, if_pos hc7, if_neg hc9, if_pos hc14]] at jj
            rw [show (own_j1a1_161_L5 i2 b0 b1 b2 b3 b4) = (own_v1a1_74 i2 b0 b1 b2 b3 b4) from by rw [own_j1a1_161_L5, if_neg hc4, if_pos hc7, if_neg hc9, if_pos hc14]] at jj
            rw [show (own_j1a1_161_L6 i2 b0 b1 b2 b3 b4) = (160 : Int32) from by rw [own_j1a1_161_L6, if_neg hc4, if_pos hc7, if_neg hc9, if_pos hc14]] at jj
            rw [show (own_j1a1_161_L7 i2 b0 b1 b2 b3 b4) = (191 : Int32) from by rw [own_j1a1_161_L7, if_neg hc4, if_pos hc7, if_neg hc9, if_pos hc14]] at jj
            exact jj
          · -- pc 80
            refine ownE.go (T' := s₁) (f' := (mkF m 91 #[.val (.ref r0), .val (.int (1 : Int32)), .val (.int i2), .val (.int (own_v1a1_7 i2 b0 b1 b2 b3 b4)), .val (.int (2 : Int32)), .val (.int (own_v1a1_74 i2 b0 b1 b2 b3 b4)), .val (.int (128 : Int32)), .val (.int (191 : Int32)), .unset, .unset] [])) (fun t kt => XS.icmpYes (g := (mkF m 80 #[.val (.ref r0), .val (.int (1 : Int32)), .val (.int i2), .val (.int (own_v1a1_7 i2 b0 b1 b2 b3 b4)), .val (.int (2 : Int32)), .val (.int (own_v1a1_74 i2 b0 b1 b2 b3 b4)), .val (.int (128 : Int32)), .val (.int (191 : Int32)), .unset, .unset] [(.int (224 : Int32)), (.int (own_v1a1_7 i2 b0 b1 b2 b3 b4))])) X0.here hx rfl (pc0 := 80) (pc' := 91) rfl (hb hby own_d1_80) rfl (Jvm.Free.XT.ii_ne_t hc14) (by decide) (by decide) kt) ?_
            refine ownE.go (T' := s₁) (f' := (mkF m 95 #[.val (.ref r0), .val (.int (1 : Int32)), .val (.int i2), .val (.int (own_v1a1_7 i2 b0 b1 b2 b3 b4)), .val (.int (2 : Int32)), .val (.int (own_v1a1_74 i2 b0 b1 b2 b3 b4)), .val (.int (128 : Int32)), .val (.int (191 : Int32)), .unset, .unset] [(.int (237 : Int32)), (.int (own_v1a1_7 i2 b0 b1 b2 b3 b4))])) (fun t kt => ?_) ?_
            · show Steps p.tables e below (s₁.setTop (mkF m 91 #[.val (.ref r0), .val (.int (1 : Int32)), .val (.int i2), .val (.int (own_v1a1_7 i2 b0 b1 b2 b3 b4)), .val (.int (2 : Int32)), .val (.int (own_v1a1_74 i2 b0 b1 b2 b3 b4)), .val (.int (128 : Int32)), .val (.int (191 : Int32)), .unset, .unset] [])) _
              refine XS.iloadN X0.here hx rfl (hb hby own_d1_91) rfl ?_
              show Steps p.tables e below (s₁.setTop (mkF m 92 #[.val (.ref r0), .val (.int (1 : Int32)), .val (.int i2), .val (.int (own_v1a1_7 i2 b0 b1 b2 b3 b4)), .val (.int (2 : Int32)), .val (.int (own_v1a1_74 i2 b0 b1 b2 b3 b4)), .val (.int (128 : Int32)), .val (.int (191 : Int32)), .unset, .unset] [(.int (own_v1a1_7 i2 b0 b1 b2 b3 b4))])) _
              refine XS.sipush X0.here hx rfl (hb hby own_d1_92) ?_
              exact kt
            by_cases hc15 : (own_v1a1_7 i2 b0 b1 b2 b3 b4) = (237 : Int32)
            · -- pc 95
              refine ownE.go (T' := s₁) (f' := (mkF m 98 #[.val (.ref r0), .val (.int (1 : Int32)), .val (.int i2), .val (.int (own_v1a1_7 i2 b0 b1 b2 b3 b4)), .val (.int (2 : Int32)), .val (.int (own_v1a1_74 i2 b0 b1 b2 b3 b4)), .val (.int (128 : Int32)), .val (.int (191 : Int32)), .unset, .unset] [])) (fun t kt => XS.icmpNo (g := (mkF m 95 #[.val (.ref r0), .val (.int (1 : Int32)), .val (.int i2), .val (.int (own_v1a1_7 i2 b0 b1 b2 b3 b4)), .val (.int (2 : Int32)), .val (.int (own_v1a1_74 i2 b0 b1 b2 b3 b4)), .val (.int (128 : Int32)), .val (.int (191 : Int32)), .unset, .unset] [(.int (237 : Int32)), (.int (own_v1a1_7 i2 b0 b1 b2 b3 b4))])) X0.here hx rfl (hb hby own_d1_95) rfl (Jvm.Free.XT.ii_ne_f hc15) kt) ?_
              refine ownE.go (T' := s₁) (f' := (mkF m 161 #[.val (.ref r0), .val (.int (1 : Int32)), .val (.int i2), .val (.int (own_v1a1_7 i2 b0 b1 b2 b3 b4)), .val (.int (2 : Int32)), .val (.int (own_v1a1_74 i2 b0 b1 b2 b3 b4)), .val (.int (128 : Int32)), .val (.int (159 : Int32)), .unset, .unset] [])) (fun t kt => ?_) ?_
              · show Steps p.tables e below (s₁.setTop (mkF m 98 #[.val (.ref r0), .val (.int (1 : Int32)), .val (.int i2), .val (.int (own_v1a1_7 i2 b0 b1 b2 b3 b4)), .val (.int (2 : Int32)), .val (.int (own_v1a1_74 i2 b0 b1 b2 b3 b4)), .val (.int (128 : Int32)), .val (.int (191 : Int32)), .unset, .unset] [])) _
                refine XS.sipush X0.here hx rfl (hb hby own_d1_98) ?_
                show Steps p.tables e below (s₁.setTop (mkF m 101 #[.val (.ref r0), .val (.int (1 : Int32)), .val (.int i2), .val (.int (own_v1a1_7 i2 b0 b1 b2 b3 b4)), .val (.int (2 : Int32)), .val (.int (own_v1a1_74 i2 b0 b1 b2 b3 b4)), .val (.int (128 : Int32)), .val (.int (191 : Int32)), .unset, .unset] [(.int (159 : Int32))])) _
                refine XS.istore X0.here hx rfl (hb hby own_d1_101) rfl (l' := #[.val (.ref r0), .val (.int (1 : Int32)), .val (.int i2), .val (.int (own_v1a1_7 i2 b0 b1 b2 b3 b4)), .val (.int (2 : Int32)), .val (.int (own_v1a1_74 i2 b0 b1 b2 b3 b4)), .val (.int (128 : Int32)), .val (.int (159 : Int32)), .unset, .unset]) rfl ?_
                show Steps p.tables e below (s₁.setTop (mkF m 103 #[.val (.ref r0), .val (.int (1 : Int32)), .val (.int i2), .val (.int (own_v1a1_7 i2 b0 b1 b2 b3 b4)), .val (.int (2 : Int32)), .val (.int (own_v1a1_74 i2 b0 b1 b2 b3 b4)), .val (.int (128 : Int32)), .val (.int (159 : Int32)), .unset, .unset] [])) _
                refine XS.goto X0.here hx rfl (pc0 := 103) (pc' := 161) rfl (hb hby own_d1_103) (by decide) (by decide) ?_
                exact kt
              have jj := J16 _ _ X0 e0 N0 (by rw [own_cp1, if_neg hc2, if_neg hc4, if_pos hc7, if_neg hc9, if_neg hc14, if_pos hc15])
              rw [show (own_j1a1_161_L4 i2 b0 b1 b2 b3 b4) = (2 : Int32) from by rw [own_j1a1_161_L4, if_neg hc4, if_pos hc7, if_neg hc9, if_neg hc14, if_pos hc15]] at jj
              rw [show (own_j1a1_161_L5 i2 b0 b1 b2 b3 b4) = (own_v1a1_74 i2 b0 b1 b2 b3 b4) from by rw [own_j1a1_161_L5, if_neg hc4, if_pos hc7, if_neg hc9, if_neg hc14, if_pos hc15]] at jj
              rw [show (own_j1a1_161_L6 i2 b0 b1 b2 b3 b4) = (128 : Int32) from by rw [own_j1a1_161_L6, if_neg hc4, if_pos hc7, if_neg hc9, if_neg hc14, if_pos hc15]] at jj
              rw [show (own_j1a1_161_L7 i2 b0 b1 b2 b3 b4) = (159 : Int32) from by rw [own_j1a1_161_L7, if_neg hc4, if_pos hc7, if_neg hc9, if_neg hc14, if_pos hc15]] at jj
              exact jj
            · -- pc 95
              refine ownE.go (T' := s₁) (f' := (mkF m 161 #[.val (.ref r0), .val (.int (1 : Int32)), .val (.int i2), .val (.int (own_v1a1_7 i2 b0 b1 b2 b3 b4)), .val (.int (2 : Int32)), .val (.int (own_v1a1_74 i2 b0 b1 b2 b3 b4)), .val (.int (128 : Int32)), .val (.int (191 : Int32)), .unset, .unset] [])) (fun t kt => XS.icmpYes (g := (mkF m 95 #[.val (.ref r0), .val (.int (1 : Int32)), .val (.int i2), .val (.int (own_v1a1_7 i2 b0 b1 b2 b3 b4)), .val (.int (2 : Int32)), .val (.int (own_v1a1_74 i2 b0 b1 b2 b3 b4)), .val (.int (128 : Int32)), .val (.int (191 : Int32)), .unset, .unset] [(.int (237 : Int32)), (.int (own_v1a1_7 i2 b0 b1 b2 b3 b4))])) X0.here hx rfl (pc0 := 95) (pc' := 161) rfl (hb hby own_d1_95) rfl (Jvm.Free.XT.ii_ne_t hc15) (by decide) (by decide) kt) ?_
              have jj := J16 _ _ X0 e0 N0 (by rw [own_cp1, if_neg hc2, if_neg hc4, if_pos hc7, if_neg hc9, if_neg hc14, if_neg hc15])
              rw [show (own_j1a1_161_L4 i2 b0 b1 b2 b3 b4) = (2 : Int32) from by rw [own_j1a1_161_L4, if_neg hc4, if_pos hc7, if_neg hc9, if_neg hc14, if_neg hc15]] at jj
              rw [show (own_j1a1_161_L5 i2 b0 b1 b2 b3 b4) = (own_v1a1_74 i2 b0 b1 b2 b3 b4) from by rw [own_j1a1_161_L5, if_neg hc4, if_pos hc7, if_neg hc9, if_neg hc14, if_neg hc15]] at jj
              rw [show (own_j1a1_161_L6 i2 b0 b1 b2 b3 b4) = (128 : Int32) from by rw [own_j1a1_161_L6, if_neg hc4, if_pos hc7, if_neg hc9, if_neg hc14, if_neg hc15]] at jj
              rw [show (own_j1a1_161_L7 i2 b0 b1 b2 b3 b4) = (191 : Int32) from by rw [own_j1a1_161_L7, if_neg hc4, if_pos hc7, if_neg hc9, if_neg hc14, if_neg hc15]] at jj
              exact jj
      · -- pc 38
        refine ownE.go (T' := s₁) (f' := (mkF m 41 #[.val (.ref r0), .val (.int (1 : Int32)), .val (.int i2), .val (.int (own_v1a1_7 i2 b0 b1 b2 b3 b4)), .unset, .unset, .val (.int (128 : Int32)), .val (.int (191 : Int32)), .unset, .unset] [])) (fun t kt => XS.icmpNo (g := (mkF m 38 #[.val (.ref r0), .val (.int (1 : Int32)), .val (.int i2), .val (.int (own_v1a1_7 i2 b0 b1 b2 b3 b4)), .unset, .unset, .val (.int (128 : Int32)), .val (.int (191 : Int32)), .unset, .unset] [(.int (223 : Int32)), (.int (own_v1a1_7 i2 b0 b1 b2 b3 b4))])) X0.here hx rfl (hb hby own_d1_38) rfl (Jvm.Free.XT.ii_gt_f hc7) kt) ?_
        refine ownE.go (T' := s₁) (f' := (mkF m 161 #[.val (.ref r0), .val (.int (1 : Int32)), .val (.int i2), .val (.int (own_v1a1_7 i2 b0 b1 b2 b3 b4)), .val (.int (1 : Int32)), .val (.int (own_v1a1_48 i2 b0 b1 b2 b3 b4)), .val (.int (128 : Int32)), .val (.int (191 : Int32)), .unset, .unset] [])) (fun t kt => ?_) ?_
        · show Steps p.tables e below (s₁.setTop (mkF m 41 #[.val (.ref r0), .val (.int (1 : Int32)), .val (.int i2), .val (.int (own_v1a1_7 i2 b0 b1 b2 b3 b4)), .unset, .unset, .val (.int (128 : Int32)), .val (.int (191 : Int32)), .unset, .unset] [])) _
          refine XS.iconst X0.here hx rfl (hb hby own_d1_41) ?_
          show Steps p.tables e below (s₁.setTop (mkF m 42 #[.val (.ref r0), .val (.int (1 : Int32)), .val (.int i2), .val (.int (own_v1a1_7 i2 b0 b1 b2 b3 b4)), .unset, .unset, .val (.int (128 : Int32)), .val (.int (191 : Int32)), .unset, .unset] [(.int (1 : Int32))])) _
          refine XS.istore X0.here hx rfl (hb hby own_d1_42) rfl (l' := #[.val (.ref r0), .val (.int (1 : Int32)), .val (.int i2), .val (.int (own_v1a1_7 i2 b0 b1 b2 b3 b4)), .val (.int (1 : Int32)), .unset, .val (.int (128 : Int32)), .val (.int (191 : Int32)), .unset, .unset]) rfl ?_
          show Steps p.tables e below (s₁.setTop (mkF m 44 #[.val (.ref r0), .val (.int (1 : Int32)), .val (.int i2), .val (.int (own_v1a1_7 i2 b0 b1 b2 b3 b4)), .val (.int (1 : Int32)), .unset, .val (.int (128 : Int32)), .val (.int (191 : Int32)), .unset, .unset] [])) _
          refine XS.iloadN X0.here hx rfl (hb hby own_d1_44) rfl ?_
          show Steps p.tables e below (s₁.setTop (mkF m 45 #[.val (.ref r0), .val (.int (1 : Int32)), .val (.int i2), .val (.int (own_v1a1_7 i2 b0 b1 b2 b3 b4)), .val (.int (1 : Int32)), .unset, .val (.int (128 : Int32)), .val (.int (191 : Int32)), .unset, .unset] [(.int (own_v1a1_7 i2 b0 b1 b2 b3 b4))])) _
          refine XS.bipush X0.here hx rfl (hb hby own_d1_45) ?_
          show Steps p.tables e below (s₁.setTop (mkF m 47 #[.val (.ref r0), .val (.int (1 : Int32)), .val (.int i2), .val (.int (own_v1a1_7 i2 b0 b1 b2 b3 b4)), .val (.int (1 : Int32)), .unset, .val (.int (128 : Int32)), .val (.int (191 : Int32)), .unset, .unset] [(.int (31 : Int32)), (.int (own_v1a1_7 i2 b0 b1 b2 b3 b4))])) _
          refine XS.iand X0.here hx rfl (hb hby own_d1_47) rfl ?_
          show Steps p.tables e below (s₁.setTop (mkF m 48 #[.val (.ref r0), .val (.int (1 : Int32)), .val (.int i2), .val (.int (own_v1a1_7 i2 b0 b1 b2 b3 b4)), .val (.int (1 : Int32)), .unset, .val (.int (128 : Int32)), .val (.int (191 : Int32)), .unset, .unset] [(.int ((own_v1a1_7 i2 b0 b1 b2 b3 b4) &&& (31 : Int32)))])) _
          refine XS.istore X0.here hx rfl (hb hby own_d1_48) rfl (l' := #[.val (.ref r0), .val (.int (1 : Int32)), .val (.int i2), .val (.int (own_v1a1_7 i2 b0 b1 b2 b3 b4)), .val (.int (1 : Int32)), .val (.int (own_v1a1_48 i2 b0 b1 b2 b3 b4)), .val (.int (128 : Int32)), .val (.int (191 : Int32)), .unset, .unset]) rfl ?_
          show Steps p.tables e below (s₁.setTop (mkF m 50 #[.val (.ref r0), .val (.int (1 : Int32)), .val (.int i2), .val (.int (own_v1a1_7 i2 b0 b1 b2 b3 b4)), .val (.int (1 : Int32)), .val (.int (own_v1a1_48 i2 b0 b1 b2 b3 b4)), .val (.int (128 : Int32)), .val (.int (191 : Int32)), .unset, .unset] [])) _
          refine XS.goto X0.here hx rfl (pc0 := 50) (pc' := 161) rfl (hb hby own_d1_50) (by decide) (by decide) ?_
          exact kt
        have jj := J16 _ _ X0 e0 N0 (by rw [own_cp1, if_neg hc2, if_neg hc4, if_neg hc7])
        rw [show (own_j1a1_161_L4 i2 b0 b1 b2 b3 b4) = (1 : Int32) from by rw [own_j1a1_161_L4, if_neg hc4, if_neg hc7]] at jj
        rw [show (own_j1a1_161_L5 i2 b0 b1 b2 b3 b4) = (own_v1a1_48 i2 b0 b1 b2 b3 b4) from by rw [own_j1a1_161_L5, if_neg hc4, if_neg hc7]] at jj
        rw [show (own_j1a1_161_L6 i2 b0 b1 b2 b3 b4) = (128 : Int32) from by rw [own_j1a1_161_L6, if_neg hc4, if_neg hc7]] at jj
        rw [show (own_j1a1_161_L7 i2 b0 b1 b2 b3 b4) = (191 : Int32) from by rw [own_j1a1_161_L7, if_neg hc4, if_neg hc7]] at jj
        exact jj
def own_v0_17 (i0 : Int32) (i1 : Int32) (i2 : Int32) (i3 : Int32) (i4 : Int32) : Int32 := ((1 : Int32) + (((i4.toUInt32 >>> ((1 : Int32) &&& 31).toUInt32).toInt32) &&& (3 : Int32)))
theorem own_pd3 : parseMethodDescriptor "([BII)I" = some ⟨[(.array .byte), .int, .int], some .int⟩ := by decide +kernel
theorem own_pd4 : parseMethodDescriptor "(IIIII)I" = some ⟨[.int, .int, .int, .int, .int], some .int⟩ := by decide +kernel
def own_v0_17_2 (i0 : Int32) (i1 : Int32) (i2 : Int32) (i3 : Int32) (i4 : Int32) : Int32 := ((2 : Int32) + (((i4.toUInt32 >>> ((1 : Int32) &&& 31).toUInt32).toInt32) &&& (3 : Int32)))
theorem own_ef0 (m : MethodId) (x0 : Int32) (x1 : Int32) (x2 : Int32) (x3 : Int32) (x4 : Int32) : entryFrame m #[(.int x0), (.int x1), (.int x2), (.int x3), (.int x4)] maxLocals = mkF m 0 #[.val (.int x0), .val (.int x1), .val (.int x2), .val (.int x3), .val (.int x4), .unset, .unset, .unset, .unset] [] := by first | (simp [entryFrame, mkF, argsToLocals, Value.category, maxLocals]; done) | rfl
def own_f0 (i0 : Int32) (i1 : Int32) (i2 : Int32) (i3 : Int32) (i4 : Int32) : Int32 :=
  if (i4 &&& (1 : Int32)) = (0 : Int32) then
    if (own_cp0 (own_v0_17 i0 i1 i2 i3 i4) ((i0.toInt8.toInt32).toInt8.toInt32) ((i1.toInt8.toInt32).toInt8.toInt32) ((i2.toInt8.toInt32).toInt8.toInt32) ((i3.toInt8.toInt32).toInt8.toInt32) ((((i4.toUInt32 >>> ((11 : Int32) &&& 31).toUInt32).toInt32).toInt8.toInt32).toInt8.toInt32)) = (own_exp (i0 &&& (255 : Int32)) (i1 &&& (255 : Int32)) (i2 &&& (255 : Int32)) (i3 &&& (255 : Int32)) ((own_v0_17 i0 i1 i2 i3 i4) - (0 : Int32))) then
      (1 : Int32)
    else
      (0 : Int32)
  else
    if (own_cp1 (own_v0_17_2 i0 i1 i2 i3 i4) ((((i4.toUInt32 >>> ((3 : Int32) &&& 31).toUInt32).toInt32).toInt8.toInt32).toInt8.toInt32) ((i0.toInt8.toInt32).toInt8.toInt32) ((i1.toInt8.toInt32).toInt8.toInt32) ((i2.toInt8.toInt32).toInt8.toInt32) ((i3.toInt8.toInt32).toInt8.toInt32)) = (own_exp (i0 &&& (255 : Int32)) (i1 &&& (255 : Int32)) (i2 &&& (255 : Int32)) (i3 &&& (255 : Int32)) ((own_v0_17_2 i0 i1 i2 i3 i4) - (1 : Int32))) then
      (1 : Int32)
    else
      (0 : Int32)
def own_Q0 (Z : State) (i0 : Int32) (i1 : Int32) (i2 : Int32) (i3 : Int32) (i4 : Int32) (h0 : Heap) (n0 : Nat) (v : Option Value) (h : Heap) (L : List Loc) : Prop := v = some (.int (own_f0 i0 i1 i2 i3 i4)) ∧ Fr n0 L ∧ Keep h0 h []
set_option maxRecDepth 65536 in
set_option maxHeartbeats 40000000 in
theorem own_rm0 (l : Launch) (Z : State) (a0 : Array Value) (hw : ∀ d ∈ tables_1, d.before a0 Z = true) (ws : List Jvm.Cond) (i0 : Int32) (i1 : Int32) (i2 : Int32) (i3 : Int32) (i4 : Int32) (h0 : Heap) (n0 : Nat) (Z0 : n0 ≤ h0.size) :
    MetFree l x (head1 (Jvm.Cond.code x code maxLocals ret :: ws) room_1) (fun a U => a = #[(.int i0), (.int i1), (.int i2), (.int i3), (.int i4)] ∧ Z.Warmed39 U.vm ∧ U.heap = h0) (fun _ _ _ _ _ => True) (fun _ U o U' => ∃ v L, o = .returned v ∧ own_Q0 Z i0 i1 i2 i3 i4 h0 n0 v U'.heap L ∧ FrameEnd U o U' L 1 5) := by
  refine MetFree.of_bodySF (plainFor_of_name own_pn0) hisR ?_
  intro p e s m args below meth c s₁ Bd hml0 hP hK
  obtain ⟨rfl, hZ, hh⟩ := hP
  have hx := Bd.exec
  have hby := Bd.bytes
  have hret := Bd.returns
  have hlk := BodyLoose.notSynchronized Bd
  have hml : c.maxLocals = 9 := hml0
  have hown : s.vm.findClass "traceward/schema/Utf8CodePointPinLaw" = some m.cls := findClass_of_methodNamed Bd.named
  have hnm := (name_of_methodNamed Bd.named Bd.method).1
  have X0 : Stand p l e room_1 s m #[(.int i0), (.int i1), (.int i2), (.int i3), (.int i4)] below meth c s₁ [] 0 0 := Stand.of_body Bd
  have e0 : s₁.heap = h0 := by rw [← hh, Bd.state]; rfl
  have N0 := Fr.nil n0
  have K0 : Keep h0 h0 [] := Keep.refl h0 _
  show ownE p e below s (own_Q0 Z i0 i1 i2 i3 i4 h0 n0) 1 5 s₁ (entryFrame m #[(.int i0), (.int i1), (.int i2), (.int i3), (.int i4)] maxLocals)
  rw [own_ef0]
  refine ownE.go (T' := s₁) (f' := (mkF m 6 #[.val (.int i0), .val (.int i1), .val (.int i2), .val (.int i3), .val (.int i4), .val (.int (i4 &&& (1 : Int32))), .unset, .unset, .unset] [])) (fun t kt => ?_) ?_
  · show Steps p.tables e below (s₁.setTop (mkF m 0 #[.val (.int i0), .val (.int i1), .val (.int i2), .val (.int i3), .val (.int i4), .unset, .unset, .unset, .unset] [])) _
    refine XS.iload X0.here hx rfl (hb hby at_0) rfl ?_
    show Steps p.tables e below (s₁.setTop (mkF m 2 #[.val (.int i0), .val (.int i1), .val (.int i2), .val (.int i3), .val (.int i4), .unset, .unset, .unset, .unset] [(.int i4)])) _
    refine XS.iconst X0.here hx rfl (hb hby at_2) ?_
    show Steps p.tables e below (s₁.setTop (mkF m 3 #[.val (.int i0), .val (.int i1), .val (.int i2), .val (.int i3), .val (.int i4), .unset, .unset, .unset, .unset] [(.int (1 : Int32)), (.int i4)])) _
    refine XS.iand X0.here hx rfl (hb hby at_3) rfl ?_
    show Steps p.tables e below (s₁.setTop (mkF m 4 #[.val (.int i0), .val (.int i1), .val (.int i2), .val (.int i3), .val (.int i4), .unset, .unset, .unset, .unset] [(.int (i4 &&& (1 : Int32)))])) _
    refine XS.istore X0.here hx rfl (hb hby at_4) rfl (l' := #[.val (.int i0), .val (.int i1), .val (.int i2), .val (.int i3), .val (.int i4), .val (.int (i4 &&& (1 : Int32))), .unset, .unset, .unset]) rfl ?_
    exact kt
  rcases and_one i4 with hk1 | hk1
  · -- (i4 &&& (1 : Int32)) = 0
    have hf1 : (mkF m 6 #[.val (.int i0), .val (.int i1), .val (.int i2), .val (.int i3), .val (.int i4), .val (.int (i4 &&& (1 : Int32))), .unset, .unset, .unset] []) = (mkF m 6 #[.val (.int i0), .val (.int i1), .val (.int i2), .val (.int i3), .val (.int i4), .val (.int (0 : Int32)), .unset, .unset, .unset] []) := by rw [hk1]
    rw [hf1]
    refine ownE.go (T' := s₁) (f' := (mkF m 20 #[.val (.int i0), .val (.int i1), .val (.int i2), .val (.int i3), .val (.int i4), .val (.int (0 : Int32)), .val (.int (own_v0_17 i0 i1 i2 i3 i4)), .unset, .unset] [(.int (5 : Int32))])) (fun t kt => ?_) ?_
    · show Steps p.tables e below (s₁.setTop (mkF m 6 #[.val (.int i0), .val (.int i1), .val (.int i2), .val (.int i3), .val (.int i4), .val (.int (0 : Int32)), .unset, .unset, .unset] [])) _
      refine XS.iload X0.here hx rfl (hb hby at_6) rfl ?_
      show Steps p.tables e below (s₁.setTop (mkF m 8 #[.val (.int i0), .val (.int i1), .val (.int i2), .val (.int i3), .val (.int i4), .val (.int (0 : Int32)), .unset, .unset, .unset] [(.int (0 : Int32))])) _
      refine XS.iconst X0.here hx rfl (hb hby at_8) ?_
      show Steps p.tables e below (s₁.setTop (mkF m 9 #[.val (.int i0), .val (.int i1), .val (.int i2), .val (.int i3), .val (.int i4), .val (.int (0 : Int32)), .unset, .unset, .unset] [(.int (1 : Int32)), (.int (0 : Int32))])) _
      refine XS.iadd X0.here hx rfl (hb hby at_9) rfl ?_
      show Steps p.tables e below (s₁.setTop (mkF m 10 #[.val (.int i0), .val (.int i1), .val (.int i2), .val (.int i3), .val (.int i4), .val (.int (0 : Int32)), .unset, .unset, .unset] [(.int (1 : Int32))])) _
      refine XS.iload X0.here hx rfl (hb hby at_10) rfl ?_
      show Steps p.tables e below (s₁.setTop (mkF m 12 #[.val (.int i0), .val (.int i1), .val (.int i2), .val (.int i3), .val (.int i4), .val (.int (0 : Int32)), .unset, .unset, .unset] [(.int i4), (.int (1 : Int32))])) _
      refine XS.iconst X0.here hx rfl (hb hby at_12) ?_
      show Steps p.tables e below (s₁.setTop (mkF m 13 #[.val (.int i0), .val (.int i1), .val (.int i2), .val (.int i3), .val (.int i4), .val (.int (0 : Int32)), .unset, .unset, .unset] [(.int (1 : Int32)), (.int i4), (.int (1 : Int32))])) _
      refine XS.iushr X0.here hx rfl (hb hby at_13) rfl ?_
      show Steps p.tables e below (s₁.setTop (mkF m 14 #[.val (.int i0), .val (.int i1), .val (.int i2), .val (.int i3), .val (.int i4), .val (.int (0 : Int32)), .unset, .unset, .unset] [(.int ((i4.toUInt32 >>> ((1 : Int32) &&& 31).toUInt32).toInt32)), (.int (1 : Int32))])) _
      refine XS.iconst X0.here hx rfl (hb hby at_14) ?_
      show Steps p.tables e below (s₁.setTop (mkF m 15 #[.val (.int i0), .val (.int i1), .val (.int i2), .val (.int i3), .val (.int i4), .val (.int (0 : Int32)), .unset, .unset, .unset] [(.int (3 : Int32)), (.int ((i4.toUInt32 >>> ((1 : Int32) &&& 31).toUInt32).toInt32)), (.int (1 : Int32))])) _
      refine XS.iand X0.here hx rfl (hb hby at_15) rfl ?_
      show Steps p.tables e below (s₁.setTop (mkF m 16 #[.val (.int i0), .val (.int i1), .val (.int i2), .val (.int i3), .val (.int i4), .val (.int (0 : Int32)), .unset, .unset, .unset] [(.int (((i4.toUInt32 >>> ((1 : Int32) &&& 31).toUInt32).toInt32) &&& (3 : Int32))), (.int (1 : Int32))])) _
      refine XS.iadd X0.here hx rfl (hb hby at_16) rfl ?_
      show Steps p.tables e below (s₁.setTop (mkF m 17 #[.val (.int i0), .val (.int i1), .val (.int i2), .val (.int i3), .val (.int i4), .val (.int (0 : Int32)), .unset, .unset, .unset] [(.int ((1 : Int32) + (((i4.toUInt32 >>> ((1 : Int32) &&& 31).toUInt32).toInt32) &&& (3 : Int32))))])) _
      refine XS.istore X0.here hx rfl (hb hby at_17) rfl (l' := #[.val (.int i0), .val (.int i1), .val (.int i2), .val (.int i3), .val (.int i4), .val (.int (0 : Int32)), .val (.int (own_v0_17 i0 i1 i2 i3 i4)), .unset, .unset]) rfl ?_
      show Steps p.tables e below (s₁.setTop (mkF m 19 #[.val (.int i0), .val (.int i1), .val (.int i2), .val (.int i3), .val (.int i4), .val (.int (0 : Int32)), .val (.int (own_v0_17 i0 i1 i2 i3 i4)), .unset, .unset] [])) _
      refine XS.iconst X0.here hx rfl (hb hby at_19) ?_
      exact kt
    obtain ⟨T2, h2, k2, X2, e2, E2, A2, st2⟩ := newP X0 hx hZ (hw _ (List.mem_of_getElem? (i := 0) rfl)) e0 (g := (mkF m 20 #[.val (.int i0), .val (.int i1), .val (.int i2), .val (.int i3), .val (.int i4), .val (.int (0 : Int32)), .val (.int (own_v0_17 i0 i1 i2 i3 i4)), .unset, .unset] [(.int (5 : Int32))])) rfl (hb hby at_20) rfl (by decide) (cap := 5) (by decide) (by decide) (by decide) (by decide)
    obtain ⟨b2, g2⟩ : ∃ z, z = h0.size := ⟨_, rfl⟩
    rw [← g2] at A2 st2
    have sz_b2 : h0.size ≤ b2 := Nat.le_trans K0.1 (Nat.le_of_eq g2.symm)
    have ge_b2 : n0 ≤ b2 := Nat.le_trans Z0 sz_b2
    have V2 : Arv Z h2 b2 k2 .byte (5 : Int32) [(.int (0 : Int32)), (.int (0 : Int32)), (.int (0 : Int32)), (.int (0 : Int32)), (.int (0 : Int32))] (.int (0 : Int32)) := (Arv.new A2 (by decide)).pad (pad_rep [] (.int (0 : Int32)) 5)
    have K2 : Keep h0 h2 [] := K0.ext E2
    refine ownE.go (T' := T2) (f' := (mkF m 22 #[.val (.int i0), .val (.int i1), .val (.int i2), .val (.int i3), .val (.int i4), .val (.int (0 : Int32)), .val (.int (own_v0_17 i0 i1 i2 i3 i4)), .unset, .unset] [(.ref b2)])) st2 ?_
    refine ownE.go (T' := T2) (f' := (mkF m 32 #[.val (.int i0), .val (.int i1), .val (.int i2), .val (.int i3), .val (.int i4), .val (.int (0 : Int32)), .val (.int (own_v0_17 i0 i1 i2 i3 i4)), .val (.ref b2), .unset] [(.int (((i4.toUInt32 >>> ((3 : Int32) &&& 31).toUInt32).toInt32).toInt8.toInt32)), (.int (0 : Int32)), (.ref b2)])) (fun t kt => ?_) ?_
    · show Steps p.tables e below (T2.setTop (mkF m 22 #[.val (.int i0), .val (.int i1), .val (.int i2), .val (.int i3), .val (.int i4), .val (.int (0 : Int32)), .val (.int (own_v0_17 i0 i1 i2 i3 i4)), .unset, .unset] [(.ref b2)])) _
      refine XS.astore X2.here hx rfl (hb hby at_22) rfl rfl (l' := #[.val (.int i0), .val (.int i1), .val (.int i2), .val (.int i3), .val (.int i4), .val (.int (0 : Int32)), .val (.int (own_v0_17 i0 i1 i2 i3 i4)), .val (.ref b2), .unset]) rfl ?_
      show Steps p.tables e below (T2.setTop (mkF m 24 #[.val (.int i0), .val (.int i1), .val (.int i2), .val (.int i3), .val (.int i4), .val (.int (0 : Int32)), .val (.int (own_v0_17 i0 i1 i2 i3 i4)), .val (.ref b2), .unset] [])) _
      refine XS.aload X2.here hx rfl (hb hby at_24) rfl rfl ?_
      show Steps p.tables e below (T2.setTop (mkF m 26 #[.val (.int i0), .val (.int i1), .val (.int i2), .val (.int i3), .val (.int i4), .val (.int (0 : Int32)), .val (.int (own_v0_17 i0 i1 i2 i3 i4)), .val (.ref b2), .unset] [(.ref b2)])) _
      refine XS.iconst X2.here hx rfl (hb hby at_26) ?_
      show Steps p.tables e below (T2.setTop (mkF m 27 #[.val (.int i0), .val (.int i1), .val (.int i2), .val (.int i3), .val (.int i4), .val (.int (0 : Int32)), .val (.int (own_v0_17 i0 i1 i2 i3 i4)), .val (.ref b2), .unset] [(.int (0 : Int32)), (.ref b2)])) _
      refine XS.iload X2.here hx rfl (hb hby at_27) rfl ?_
      show Steps p.tables e below (T2.setTop (mkF m 29 #[.val (.int i0), .val (.int i1), .val (.int i2), .val (.int i3), .val (.int i4), .val (.int (0 : Int32)), .val (.int (own_v0_17 i0 i1 i2 i3 i4)), .val (.ref b2), .unset] [(.int i4), (.int (0 : Int32)), (.ref b2)])) _
      refine XS.iconst X2.here hx rfl (hb hby at_29) ?_
      show Steps p.tables e below (T2.setTop (mkF m 30 #[.val (.int i0), .val (.int i1), .val (.int i2), .val (.int i3), .val (.int i4), .val (.int (0 : Int32)), .val (.int (own_v0_17 i0 i1 i2 i3 i4)), .val (.ref b2), .unset] [(.int (3 : Int32)), (.int i4), (.int (0 : Int32)), (.ref b2)])) _
      refine XS.iushr X2.here hx rfl (hb hby at_30) rfl ?_
      show Steps p.tables e below (T2.setTop (mkF m 31 #[.val (.int i0), .val (.int i1), .val (.int i2), .val (.int i3), .val (.int i4), .val (.int (0 : Int32)), .val (.int (own_v0_17 i0 i1 i2 i3 i4)), .val (.ref b2), .unset] [(.int ((i4.toUInt32 >>> ((3 : Int32) &&& 31).toUInt32).toInt32)), (.int (0 : Int32)), (.ref b2)])) _
      refine XS.i2b X2.here hx rfl (hb hby at_31) rfl ?_
      exact kt
    obtain ⟨cl3, Ar3, q3, S3, Nn3, Hh3, G3⟩ := id V2
    have hin3 : ¬ ((0 : Int32) < 0 ∨ cl3.slots.size ≤ ((0 : Int32)).toNatClampNeg) := inb_of S3 ⟨by decide, by decide⟩
    obtain ⟨T3, h3, X3, e3, W3, st3⟩ := stB X2 hx hZ e2 Ar3 (j := (0 : Int32)) hin3 (g := (mkF m 32 #[.val (.int i0), .val (.int i1), .val (.int i2), .val (.int i3), .val (.int i4), .val (.int (0 : Int32)), .val (.int (own_v0_17 i0 i1 i2 i3 i4)), .val (.ref b2), .unset] [(.int (((i4.toUInt32 >>> ((3 : Int32) &&& 31).toUInt32).toInt32).toInt8.toInt32)), (.int (0 : Int32)), (.ref b2)])) rfl rfl (hb hby at_32)
    have V3 : Arv Z h3 b2 k2 .byte (5 : Int32) [(.int ((((i4.toUInt32 >>> ((3 : Int32) &&& 31).toUInt32).toInt32).toInt8.toInt32).toInt8.toInt32)), (.int (0 : Int32)), (.int (0 : Int32)), (.int (0 : Int32)), (.int (0 : Int32))] (.int (0 : Int32)) := Arv.set Ar3 q3 S3 Nn3 Hh3 G3 (fits_nar_byte _) W3 0 rfl (Nat.le_of_ble_eq_true rfl)
    have K3 : Keep h0 h3 [] := K2.wr W3 (Or.inr sz_b2)
    have N3 := Fr.snoc X3 N0 ge_b2
    refine ownE.go (T' := T3) (f' := (mkF m 33 #[.val (.int i0), .val (.int i1), .val (.int i2), .val (.int i3), .val (.int i4), .val (.int (0 : Int32)), .val (.int (own_v0_17 i0 i1 i2 i3 i4)), .val (.ref b2), .unset] [])) st3 ?_
    refine ownE.go (T' := T3) (f' := (mkF m 42 #[.val (.int i0), .val (.int i1), .val (.int i2), .val (.int i3), .val (.int i4), .val (.int (0 : Int32)), .val (.int (own_v0_17 i0 i1 i2 i3 i4)), .val (.ref b2), .unset] [(.int (((i4.toUInt32 >>> ((11 : Int32) &&& 31).toUInt32).toInt32).toInt8.toInt32)), (.int (4 : Int32)), (.ref b2)])) (fun t kt => ?_) ?_
    · show Steps p.tables e below (T3.setTop (mkF m 33 #[.val (.int i0), .val (.int i1), .val (.int i2), .val (.int i3), .val (.int i4), .val (.int (0 : Int32)), .val (.int (own_v0_17 i0 i1 i2 i3 i4)), .val (.ref b2), .unset] [])) _
      refine XS.aload X3.here hx rfl (hb hby at_33) rfl rfl ?_
      show Steps p.tables e below (T3.setTop (mkF m 35 #[.val (.int i0), .val (.int i1), .val (.int i2), .val (.int i3), .val (.int i4), .val (.int (0 : Int32)), .val (.int (own_v0_17 i0 i1 i2 i3 i4)), .val (.ref b2), .unset] [(.ref b2)])) _
      refine XS.iconst X3.here hx rfl (hb hby at_35) ?_
      show Steps p.tables e below (T3.setTop (mkF m 36 #[.val (.int i0), .val (.int i1), .val (.int i2), .val (.int i3), .val (.int i4), .val (.int (0 : Int32)), .val (.int (own_v0_17 i0 i1 i2 i3 i4)), .val (.ref b2), .unset] [(.int (4 : Int32)), (.ref b2)])) _
      refine XS.iload X3.here hx rfl (hb hby at_36) rfl ?_
      show Steps p.tables e below (T3.setTop (mkF m 38 #[.val (.int i0), .val (.int i1), .val (.int i2), .val (.int i3), .val (.int i4), .val (.int (0 : Int32)), .val (.int (own_v0_17 i0 i1 i2 i3 i4)), .val (.ref b2), .unset] [(.int i4), (.int (4 : Int32)), (.ref b2)])) _
      refine XS.bipush X3.here hx rfl (hb hby at_38) ?_
      show Steps p.tables e below (T3.setTop (mkF m 40 #[.val (.int i0), .val (.int i1), .val (.int i2), .val (.int i3), .val (.int i4), .val (.int (0 : Int32)), .val (.int (own_v0_17 i0 i1 i2 i3 i4)), .val (.ref b2), .unset] [(.int (11 : Int32)), (.int i4), (.int (4 : Int32)), (.ref b2)])) _
      refine XS.iushr X3.here hx rfl (hb hby at_40) rfl ?_
      show Steps p.tables e below (T3.setTop (mkF m 41 #[.val (.int i0), .val (.int i1), .val (.int i2), .val (.int i3), .val (.int i4), .val (.int (0 : Int32)), .val (.int (own_v0_17 i0 i1 i2 i3 i4)), .val (.ref b2), .unset] [(.int ((i4.toUInt32 >>> ((11 : Int32) &&& 31).toUInt32).toInt32)), (.int (4 : Int32)), (.ref b2)])) _
      refine XS.i2b X3.here hx rfl (hb hby at_41) rfl ?_
      exact kt
    obtain ⟨cl4, Ar4, q4, S4, Nn4, Hh4, G4⟩ := id V3
    have hin4 : ¬ ((4 : Int32) < 0 ∨ cl4.slots.size ≤ ((4 : Int32)).toNatClampNeg) := inb_of S4 ⟨by decide, by decide⟩
    obtain ⟨T4, h4, X4, e4, W4, st4⟩ := stB X3 hx hZ e3 Ar4 (j := (4 : Int32)) hin4 (g := (mkF m 42 #[.val (.int i0), .val (.int i1), .val (.int i2), .val (.int i3), .val (.int i4), .val (.int (0 : Int32)), .val (.int (own_v0_17 i0 i1 i2 i3 i4)), .val (.ref b2), .unset] [(.int (((i4.toUInt32 >>> ((11 : Int32) &&& 31).toUInt32).toInt32).toInt8.toInt32)), (.int (4 : Int32)), (.ref b2)])) rfl rfl (hb hby at_42)
    have V4 : Arv Z h4 b2 k2 .byte (5 : Int32) [(.int ((((i4.toUInt32 >>> ((3 : Int32) &&& 31).toUInt32).toInt32).toInt8.toInt32).toInt8.toInt32)), (.int (0 : Int32)), (.int (0 : Int32)), (.int (0 : Int32)), (.int ((((i4.toUInt32 >>> ((11 : Int32) &&& 31).toUInt32).toInt32).toInt8.toInt32).toInt8.toInt32))] (.int (0 : Int32)) := Arv.set Ar4 q4 S4 Nn4 Hh4 G4 (fits_nar_byte _) W4 4 rfl (Nat.le_of_ble_eq_true rfl)
    have K4 : Keep h0 h4 [] := K3.wr W4 (Or.inr sz_b2)
    have N4 := Fr.snoc X4 N3 ge_b2
    refine ownE.go (T' := T4) (f' := (mkF m 43 #[.val (.int i0), .val (.int i1), .val (.int i2), .val (.int i3), .val (.int i4), .val (.int (0 : Int32)), .val (.int (own_v0_17 i0 i1 i2 i3 i4)), .val (.ref b2), .unset] [])) st4 ?_
    refine ownE.go (T' := T4) (f' := (mkF m 49 #[.val (.int i0), .val (.int i1), .val (.int i2), .val (.int i3), .val (.int i4), .val (.int (0 : Int32)), .val (.int (own_v0_17 i0 i1 i2 i3 i4)), .val (.ref b2), .unset] [(.int (i0.toInt8.toInt32)), (.int (0 : Int32)), (.ref b2)])) (fun t kt => ?_) ?_
    · show Steps p.tables e below (T4.setTop (mkF m 43 #[.val (.int i0), .val (.int i1), .val (.int i2), .val (.int i3), .val (.int i4), .val (.int (0 : Int32)), .val (.int (own_v0_17 i0 i1 i2 i3 i4)), .val (.ref b2), .unset] [])) _
      refine XS.aload X4.here hx rfl (hb hby at_43) rfl rfl ?_
      show Steps p.tables e below (T4.setTop (mkF m 45 #[.val (.int i0), .val (.int i1), .val (.int i2), .val (.int i3), .val (.int i4), .val (.int (0 : Int32)), .val (.int (own_v0_17 i0 i1 i2 i3 i4)), .val (.ref b2), .unset] [(.ref b2)])) _
      refine XS.iload X4.here hx rfl (hb hby at_45) rfl ?_
      show Steps p.tables e below (T4.setTop (mkF m 47 #[.val (.int i0), .val (.int i1), .val (.int i2), .val (.int i3), .val (.int i4), .val (.int (0 : Int32)), .val (.int (own_v0_17 i0 i1 i2 i3 i4)), .val (.ref b2), .unset] [(.int (0 : Int32)), (.ref b2)])) _
      refine XS.iloadN X4.here hx rfl (hb hby at_47) rfl ?_
      show Steps p.tables e below (T4.setTop (mkF m 48 #[.val (.int i0), .val (.int i1), .val (.int i2), .val (.int i3), .val (.int i4), .val (.int (0 : Int32)), .val (.int (own_v0_17 i0 i1 i2 i3 i4)), .val (.ref b2), .unset] [(.int i0), (.int (0 : Int32)), (.ref b2)])) _
      refine XS.i2b X4.here hx rfl (hb hby at_48) rfl ?_
      exact kt
    obtain ⟨cl5, Ar5, q5, S5, Nn5, Hh5, G5⟩ := id V4
    have hin5 : ¬ ((0 : Int32) < 0 ∨ cl5.slots.size ≤ ((0 : Int32)).toNatClampNeg) := inb_of S5 ⟨by decide, by decide⟩
    obtain ⟨T5, h5, X5, e5, W5, st5⟩ := stB X4 hx hZ e4 Ar5 (j := (0 : Int32)) hin5 (g := (mkF m 49 #[.val (.int i0), .val (.int i1), .val (.int i2), .val (.int i3), .val (.int i4), .val (.int (0 : Int32)), .val (.int (own_v0_17 i0 i1 i2 i3 i4)), .val (.ref b2), .unset] [(.int (i0.toInt8.toInt32)), (.int (0 : Int32)), (.ref b2)])) rfl rfl (hb hby at_49)
    have V5 : Arv Z h5 b2 k2 .byte (5 : Int32) [(.int ((i0.toInt8.toInt32).toInt8.toInt32)), (.int (0 : Int32)), (.int (0 : Int32)), (.int (0 : Int32)), (.int ((((i4.toUInt32 >>> ((11 : Int32) &&& 31).toUInt32).toInt32).toInt8.toInt32).toInt8.toInt32))] (.int (0 : Int32)) := Arv.set Ar5 q5 S5 Nn5 Hh5 G5 (fits_nar_byte _) W5 0 rfl (Nat.le_of_ble_eq_true rfl)
    have K5 : Keep h0 h5 [] := K4.wr W5 (Or.inr sz_b2)
    have N5 := Fr.snoc X5 N4 ge_b2
    refine ownE.go (T' := T5) (f' := (mkF m 50 #[.val (.int i0), .val (.int i1), .val (.int i2), .val (.int i3), .val (.int i4), .val (.int (0 : Int32)), .val (.int (own_v0_17 i0 i1 i2 i3 i4)), .val (.ref b2), .unset] [])) st5 ?_
    refine ownE.go (T' := T5) (f' := (mkF m 58 #[.val (.int i0), .val (.int i1), .val (.int i2), .val (.int i3), .val (.int i4), .val (.int (0 : Int32)), .val (.int (own_v0_17 i0 i1 i2 i3 i4)), .val (.ref b2), .unset] [(.int (i1.toInt8.toInt32)), (.int (1 : Int32)), (.ref b2)])) (fun t kt => ?_) ?_
    · show Steps p.tables e below (T5.setTop (mkF m 50 #[.val (.int i0), .val (.int i1), .val (.int i2), .val (.int i3), .val (.int i4), .val (.int (0 : Int32)), .val (.int (own_v0_17 i0 i1 i2 i3 i4)), .val (.ref b2), .unset] [])) _
      refine XS.aload X5.here hx rfl (hb hby at_50) rfl rfl ?_
      show Steps p.tables e below (T5.setTop (mkF m 52 #[.val (.int i0), .val (.int i1), .val (.int i2), .val (.int i3), .val (.int i4), .val (.int (0 : Int32)), .val (.int (own_v0_17 i0 i1 i2 i3 i4)), .val (.ref b2), .unset] [(.ref b2)])) _
      refine XS.iload X5.here hx rfl (hb hby at_52) rfl ?_
      show Steps p.tables e below (T5.setTop (mkF m 54 #[.val (.int i0), .val (.int i1), .val (.int i2), .val (.int i3), .val (.int i4), .val (.int (0 : Int32)), .val (.int (own_v0_17 i0 i1 i2 i3 i4)), .val (.ref b2), .unset] [(.int (0 : Int32)), (.ref b2)])) _
      refine XS.iconst X5.here hx rfl (hb hby at_54) ?_
      show Steps p.tables e below (T5.setTop (mkF m 55 #[.val (.int i0), .val (.int i1), .val (.int i2), .val (.int i3), .val (.int i4), .val (.int (0 : Int32)), .val (.int (own_v0_17 i0 i1 i2 i3 i4)), .val (.ref b2), .unset] [(.int (1 : Int32)), (.int (0 : Int32)), (.ref b2)])) _
      refine XS.iadd X5.here hx rfl (hb hby at_55) rfl ?_
      show Steps p.tables e below (T5.setTop (mkF m 56 #[.val (.int i0), .val (.int i1), .val (.int i2), .val (.int i3), .val (.int i4), .val (.int (0 : Int32)), .val (.int (own_v0_17 i0 i1 i2 i3 i4)), .val (.ref b2), .unset] [(.int (1 : Int32)), (.ref b2)])) _
      refine XS.iloadN X5.here hx rfl (hb hby at_56) rfl ?_
      show Steps p.tables e below (T5.setTop (mkF m 57 #[.val (.int i0), .val (.int i1), .val (.int i2), .val (.int i3), .val (.int i4), .val (.int (0 : Int32)), .val (.int (own_v0_17 i0 i1 i2 i3 i4)), .val (.ref b2), .unset] [(.int i1), (.int (1 : Int32)), (.ref b2)])) _
      refine XS.i2b X5.here hx rfl (hb hby at_57) rfl ?_
      exact kt
    obtain ⟨cl6, Ar6, q6, S6, Nn6, Hh6, G6⟩ := id V5
    have hin6 : ¬ ((1 : Int32) < 0 ∨ cl6.slots.size ≤ ((1 : Int32)).toNatClampNeg) := inb_of S6 ⟨by decide, by decide⟩
    obtain ⟨T6, h6, X6, e6, W6, st6⟩ := stB X5 hx hZ e5 Ar6 (j := (1 : Int32)) hin6 (g := (mkF m 58 #[.val (.int i0), .val (.int i1), .val (.int i2), .val (.int i3), .val (.int i4), .val (.int (0 : Int32)), .val (.int (own_v0_17 i0 i1 i2 i3 i4)), .val (.ref b2), .unset] [(.int (i1.toInt8.toInt32)), (.int (1 : Int32)), (.ref b2)])) rfl rfl (hb hby at_58)
    have V6 : Arv Z h6 b2 k2 .byte (5 : Int32) [(.int ((i0.toInt8.toInt32).toInt8.toInt32)), (.int ((i1.toInt8.toInt32).toInt8.toInt32)), (.int (0 : Int32)), (.int (0 : Int32)), (.int ((((i4.toUInt32 >>> ((11 : Int32) &&& 31).toUInt32).toInt32).toInt8.toInt32).toInt8.toInt32))] (.int (0 : Int32)) := Arv.set Ar6 q6 S6 Nn6 Hh6 G6 (fits_nar_byte _) W6 1 rfl (Nat.le_of_ble_eq_true rfl)
    have K6 : Keep h0 h6 [] := K5.wr W6 (Or.inr sz_b2)
    have N6 := Fr.snoc X6 N5 ge_b2
    refine ownE.go (T' := T6) (f' := (mkF m 59 #[.val (.int i0), .val (.int i1), .val (.int i2), .val (.int i3), .val (.int i4), .val (.int (0 : Int32)), .val (.int (own_v0_17 i0 i1 i2 i3 i4)), .val (.ref b2), .unset] [])) st6 ?_
    refine ownE.go (T' := T6) (f' := (mkF m 67 #[.val (.int i0), .val (.int i1), .val (.int i2), .val (.int i3), .val (.int i4), .val (.int (0 : Int32)), .val (.int (own_v0_17 i0 i1 i2 i3 i4)), .val (.ref b2), .unset] [(.int (i2.toInt8.toInt32)), (.int (2 : Int32)), (.ref b2)])) (fun t kt => ?_) ?_
    · show Steps p.tables e below (T6.setTop (mkF m 59 #[.val (.int i0), .val (.int i1), .val (.int i2), .val (.int i3), .val (.int i4), .val (.int (0 : Int32)), .val (.int (own_v0_17 i0 i1 i2 i3 i4)), .val (.ref b2), .unset] [])) _
      refine XS.aload X6.here hx rfl (hb hby at_59) rfl rfl ?_
      show Steps p.tables e below (T6.setTop (mkF m 61 #[.val (.int i0), .val (.int i1), .val (.int i2), .val (.int i3), .val (.int i4), .val (.int (0 : Int32)), .val (.int (own_v0_17 i0 i1 i2 i3 i4)), .val (.ref b2), .unset] [(.ref b2)])) _
      refine XS.iload X6.here hx rfl (hb hby at_61) rfl ?_
      show Steps p.tables e below (T6.setTop (mkF m 63 #[.val (.int i0), .val (.int i1), .val (.int i2), .val (.int i3), .val (.int i4), .val (.int (0 : Int32)), .val (.int (own_v0_17 i0 i1 i2 i3 i4)), .val (.ref b2), .unset] [(.int (0 : Int32)), (.ref b2)])) _
      refine XS.iconst X6.here hx rfl (hb hby at_63) ?_
      show Steps p.tables e below (T6.setTop (mkF m 64 #[.val (.int i0), .val (.int i1), .val (.int i2), .val (.int i3), .val (.int i4), .val (.int (0 : Int32)), .val (.int (own_v0_17 i0 i1 i2 i3 i4)), .val (.ref b2), .unset] [(.int (2 : Int32)), (.int (0 : Int32)), (.ref b2)])) _
      refine XS.iadd X6.here hx rfl (hb hby at_64) rfl ?_
      show Steps p.tables e below (T6.setTop (mkF m 65 #[.val (.int i0), .val (.int i1), .val (.int i2), .val (.int i3), .val (.int i4), .val (.int (0 : Int32)), .val (.int (own_v0_17 i0 i1 i2 i3 i4)), .val (.ref b2), .unset] [(.int (2 : Int32)), (.ref b2)])) _
      refine XS.iloadN X6.here hx rfl (hb hby at_65) rfl ?_
      show Steps p.tables e below (T6.setTop (mkF m 66 #[.val (.int i0), .val (.int i1), .val (.int i2), .val (.int i3), .val (.int i4), .val (.int (0 : Int32)), .val (.int (own_v0_17 i0 i1 i2 i3 i4)), .val (.ref b2), .unset] [(.int i2), (.int (2 : Int32)), (.ref b2)])) _
      refine XS.i2b X6.here hx rfl (hb hby at_66) rfl ?_
      exact kt
    obtain ⟨cl7, Ar7, q7, S7, Nn7, Hh7, G7⟩ := id V6
    have hin7 : ¬ ((2 : Int32) < 0 ∨ cl7.slots.size ≤ ((2 : Int32)).toNatClampNeg) := inb_of S7 ⟨by decide, by decide⟩
    obtain ⟨T7, h7, X7, e7, W7, st7⟩ := stB X6 hx hZ e6 Ar7 (j := (2 : Int32)) hin7 (g := (mkF m 67 #[.val (.int i0), .val (.int i1), .val (.int i2), .val (.int i3), .val (.int i4), .val (.int (0 : Int32)), .val (.int (own_v0_17 i0 i1 i2 i3 i4)), .val (.ref b2), .unset] [(.int (i2.toInt8.toInt32)), (.int (2 : Int32)), (.ref b2)])) rfl rfl (hb hby at_67)
    have V7 : Arv Z h7 b2 k2 .byte (5 : Int32) [(.int ((i0.toInt8.toInt32).toInt8.toInt32)), (.int ((i1.toInt8.toInt32).toInt8.toInt32)), (.int ((i2.toInt8.toInt32).toInt8.toInt32)), (.int (0 : Int32)), (.int ((((i4.toUInt32 >>> ((11 : Int32) &&& 31).toUInt32).toInt32).toInt8.toInt32).toInt8.toInt32))] (.int (0 : Int32)) := Arv.set Ar7 q7 S7 Nn7 Hh7 G7 (fits_nar_byte _) W7 2 rfl (Nat.le_of_ble_eq_true rfl)
    have K7 : Keep h0 h7 [] := K6.wr W7 (Or.inr sz_b2)
    have N7 := Fr.snoc X7 N6 ge_b2
    refine ownE.go (T' := T7) (f' := (mkF m 68 #[.val (.int i0), .val (.int i1), .val (.int i2), .val (.int i3), .val (.int i4), .val (.int (0 : Int32)), .val (.int (own_v0_17 i0 i1 i2 i3 i4)), .val (.ref b2), .unset] [])) st7 ?_
    refine ownE.go (T' := T7) (f' := (mkF m 76 #[.val (.int i0), .val (.int i1), .val (.int i2), .val (.int i3), .val (.int i4), .val (.int (0 : Int32)), .val (.int (own_v0_17 i0 i1 i2 i3 i4)), .val (.ref b2), .unset] [(.int (i3.toInt8.toInt32)), (.int (3 : Int32)), (.ref b2)])) (fun t kt => ?_) ?_
    · show Steps p.tables e below (T7.setTop (mkF m 68 #[.val (.int i0), .val (.int i1), .val (.int i2), .val (.int i3), .val (.int i4), .val (.int (0 : Int32)), .val (.int (own_v0_17 i0 i1 i2 i3 i4)), .val (.ref b2), .unset] [])) _
      refine XS.aload X7.here hx rfl (hb hby at_68) rfl rfl ?_
      show Steps p.tables e below (T7.setTop (mkF m 70 #[.val (.int i0), .val (.int i1), .val (.int i2), .val (.int i3), .val (.int i4), .val (.int (0 : Int32)), .val (.int (own_v0_17 i0 i1 i2 i3 i4)), .val (.ref b2), .unset] [(.ref b2)])) _
      refine XS.iload X7.here hx rfl (hb hby at_70) rfl ?_
      show Steps p.tables e below (T7.setTop (mkF m 72 #[.val (.int i0), .val (.int i1), .val (.int i2), .val (.int i3), .val (.int i4), .val (.int (0 : Int32)), .val (.int (own_v0_17 i0 i1 i2 i3 i4)), .val (.ref b2), .unset] [(.int (0 : Int32)), (.ref b2)])) _
      refine XS.iconst X7.here hx rfl (hb hby at_72) ?_
      show Steps p.tables e below (T7.setTop (mkF m 73 #[.val (.int i0), .val (.int i1), .val (.int i2), .val (.int i3), .val (.int i4), .val (.int (0 : Int32)), .val (.int (own_v0_17 i0 i1 i2 i3 i4)), .val (.ref b2), .unset] [(.int (3 : Int32)), (.int (0 : Int32)), (.ref b2)])) _
      refine XS.iadd X7.here hx rfl (hb hby at_73) rfl ?_
      show Steps p.tables e below (T7.setTop (mkF m 74 #[.val (.int i0), .val (.int i1), .val (.int i2), .val (.int i3), .val (.int i4), .val (.int (0 : Int32)), .val (.int (own_v0_17 i0 i1 i2 i3 i4)), .val (.ref b2), .unset] [(.int (3 : Int32)), (.ref b2)])) _
      refine XS.iloadN X7.here hx rfl (hb hby at_74) rfl ?_
      show Steps p.tables e below (T7.setTop (mkF m 75 #[.val (.int i0), .val (.int i1), .val (.int i2), .val (.int i3), .val (.int i4), .val (.int (0 : Int32)), .val (.int (own_v0_17 i0 i1 i2 i3 i4)), .val (.ref b2), .unset] [(.int i3), (.int (3 : Int32)), (.ref b2)])) _
      refine XS.i2b X7.here hx rfl (hb hby at_75) rfl ?_
      exact kt
    obtain ⟨cl8, Ar8, q8, S8, Nn8, Hh8, G8⟩ := id V7
    have hin8 : ¬ ((3 : Int32) < 0 ∨ cl8.slots.size ≤ ((3 : Int32)).toNatClampNeg) := inb_of S8 ⟨by decide, by decide⟩
    obtain ⟨T8, h8, X8, e8, W8, st8⟩ := stB X7 hx hZ e7 Ar8 (j := (3 : Int32)) hin8 (g := (mkF m 76 #[.val (.int i0), .val (.int i1), .val (.int i2), .val (.int i3), .val (.int i4), .val (.int (0 : Int32)), .val (.int (own_v0_17 i0 i1 i2 i3 i4)), .val (.ref b2), .unset] [(.int (i3.toInt8.toInt32)), (.int (3 : Int32)), (.ref b2)])) rfl rfl (hb hby at_76)
    have V8 : Arv Z h8 b2 k2 .byte (5 : Int32) [(.int ((i0.toInt8.toInt32).toInt8.toInt32)), (.int ((i1.toInt8.toInt32).toInt8.toInt32)), (.int ((i2.toInt8.toInt32).toInt8.toInt32)), (.int ((i3.toInt8.toInt32).toInt8.toInt32)), (.int ((((i4.toUInt32 >>> ((11 : Int32) &&& 31).toUInt32).toInt32).toInt8.toInt32).toInt8.toInt32))] (.int (0 : Int32)) := Arv.set Ar8 q8 S8 Nn8 Hh8 G8 (fits_nar_byte _) W8 3 rfl (Nat.le_of_ble_eq_true rfl)
    have K8 : Keep h0 h8 [] := K7.wr W8 (Or.inr sz_b2)
    have N8 := Fr.snoc X8 N7 ge_b2
    refine ownE.go (T' := T8) (f' := (mkF m 77 #[.val (.int i0), .val (.int i1), .val (.int i2), .val (.int i3), .val (.int i4), .val (.int (0 : Int32)), .val (.int (own_v0_17 i0 i1 i2 i3 i4)), .val (.ref b2), .unset] [])) st8 ?_
    refine ownE.go (T' := T8) (f' := (mkF m 83 #[.val (.int i0), .val (.int i1), .val (.int i2), .val (.int i3), .val (.int i4), .val (.int (0 : Int32)), .val (.int (own_v0_17 i0 i1 i2 i3 i4)), .val (.ref b2), .unset] [(.int (own_v0_17 i0 i1 i2 i3 i4)), (.int (0 : Int32)), (.ref b2)])) (fun t kt => ?_) ?_
    · show Steps p.tables e below (T8.setTop (mkF m 77 #[.val (.int i0), .val (.int i1), .val (.int i2), .val (.int i3), .val (.int i4), .val (.int (0 : Int32)), .val (.int (own_v0_17 i0 i1 i2 i3 i4)), .val (.ref b2), .unset] [])) _
      refine XS.aload X8.here hx rfl (hb hby at_77) rfl rfl ?_
      show Steps p.tables e below (T8.setTop (mkF m 79 #[.val (.int i0), .val (.int i1), .val (.int i2), .val (.int i3), .val (.int i4), .val (.int (0 : Int32)), .val (.int (own_v0_17 i0 i1 i2 i3 i4)), .val (.ref b2), .unset] [(.ref b2)])) _
      refine XS.iload X8.here hx rfl (hb hby at_79) rfl ?_
      show Steps p.tables e below (T8.setTop (mkF m 81 #[.val (.int i0), .val (.int i1), .val (.int i2), .val (.int i3), .val (.int i4), .val (.int (0 : Int32)), .val (.int (own_v0_17 i0 i1 i2 i3 i4)), .val (.ref b2), .unset] [(.int (0 : Int32)), (.ref b2)])) _
      refine XS.iload X8.here hx rfl (hb hby at_81) rfl ?_
      exact kt
    obtain ⟨_, _, ⟨T9, L9, k9, n9⟩, -, X9, ⟨Lc9, hQ9, l9, y9, z9⟩, st9⟩ := Jvm.LawKit.callS X8 hx (y := (⟨"traceward/schema/Utf8", "codePoint", "([BII)I"⟩ : MethodName)) hown (mvT hZ (hw _ (List.mem_of_getElem? (i := 1) rfl))) (mvT hZ (hw _ (List.mem_of_getElem? (i := 2) rfl))) (mvT hZ (hw _ (List.mem_of_getElem? (i := 3) rfl))) (mvT hZ (hw _ (List.mem_of_getElem? (i := 4) rfl))) (by decide) (backOf (W := 0) (own_rm1a0 l Z a0 hw [] b2 (own_v0_17 i0 i1 i2 i3 i4) k2 ((i0.toInt8.toInt32).toInt8.toInt32) ((i1.toInt8.toInt32).toInt8.toInt32) ((i2.toInt8.toInt32).toInt8.toInt32) ((i3.toInt8.toInt32).toInt8.toInt32) ((((i4.toUInt32 >>> ((11 : Int32) &&& 31).toUInt32).toInt32).toInt8.toInt32).toInt8.toInt32) h8 n0 (Nat.le_trans Z0 K8.1) V8) hZ (hw _ (List.mem_of_getElem? (i := 4) rfl)) (hw _ (List.mem_of_getElem? (i := 3) rfl)) (by decide) (by decide)) (g := (mkF m 83 #[.val (.int i0), .val (.int i1), .val (.int i2), .val (.int i3), .val (.int i4), .val (.int (0 : Int32)), .val (.int (own_v0_17 i0 i1 i2 i3 i4)), .val (.ref b2), .unset] [(.int (own_v0_17 i0 i1 i2 i3 i4)), (.int (0 : Int32)), (.ref b2)])) rfl (by rw [hml]; rfl) (argsL := [(.ref b2), (.int (0 : Int32)), (.int (own_v0_17 i0 i1 i2 i3 i4))]) (rest := []) (lenOf own_pd3 rfl) rfl (by show 2 * 0 + _ ≤ _; exact Nat.le_of_eq rfl) (hb hby at_83) (fun _ _ => ⟨rfl, e8, (by decide : 1 + 0 ≤ _), (by decide : 5 + 0 ≤ _)⟩)
    dsimp only [Pt.U, Pt.locs, Pt.cells, Pt.slots] at X9 l9 y9 z9 st9 hQ9
    subst l9 y9 z9
    obtain ⟨rfl, N9q, e9⟩ := hQ9
    have N9 := Fr.app N8 N9q
    refine ownE.go (T' := T9) (f' := (mkF m 86 #[.val (.int i0), .val (.int i1), .val (.int i2), .val (.int i3), .val (.int i4), .val (.int (0 : Int32)), .val (.int (own_v0_17 i0 i1 i2 i3 i4)), .val (.ref b2), .unset] [(.int (own_cp0 (own_v0_17 i0 i1 i2 i3 i4) ((i0.toInt8.toInt32).toInt8.toInt32) ((i1.toInt8.toInt32).toInt8.toInt32) ((i2.toInt8.toInt32).toInt8.toInt32) ((i3.toInt8.toInt32).toInt8.toInt32) ((((i4.toUInt32 >>> ((11 : Int32) &&& 31).toUInt32).toInt32).toInt8.toInt32).toInt8.toInt32)))])) st9 ?_
    refine ownE.go (T' := T9) (f' := (mkF m 115 #[.val (.int i0), .val (.int i1), .val (.int i2), .val (.int i3), .val (.int i4), .val (.int (0 : Int32)), .val (.int (own_v0_17 i0 i1 i2 i3 i4)), .val (.ref b2), .val (.int (own_cp0 (own_v0_17 i0 i1 i2 i3 i4) ((i0.toInt8.toInt32).toInt8.toInt32) ((i1.toInt8.toInt32).toInt8.toInt32) ((i2.toInt8.toInt32).toInt8.toInt32) ((i3.toInt8.toInt32).toInt8.toInt32) ((((i4.toUInt32 >>> ((11 : Int32) &&& 31).toUInt32).toInt32).toInt8.toInt32).toInt8.toInt32)))] [(.int ((own_v0_17 i0 i1 i2 i3 i4) - (0 : Int32))), (.int (i3 &&& (255 : Int32))), (.int (i2 &&& (255 : Int32))), (.int (i1 &&& (255 : Int32))), (.int (i0 &&& (255 : Int32))), (.int (own_cp0 (own_v0_17 i0 i1 i2 i3 i4) ((i0.toInt8.toInt32).toInt8.toInt32) ((i1.toInt8.toInt32).toInt8.toInt32) ((i2.toInt8.toInt32).toInt8.toInt32) ((i3.toInt8.toInt32).toInt8.toInt32) ((((i4.toUInt32 >>> ((11 : Int32) &&& 31).toUInt32).toInt32).toInt8.toInt32).toInt8.toInt32)))])) (fun t kt => ?_) ?_
    · show Steps p.tables e below (T9.setTop (mkF m 86 #[.val (.int i0), .val (.int i1), .val (.int i2), .val (.int i3), .val (.int i4), .val (.int (0 : Int32)), .val (.int (own_v0_17 i0 i1 i2 i3 i4)), .val (.ref b2), .unset] [(.int (own_cp0 (own_v0_17 i0 i1 i2 i3 i4) ((i0.toInt8.toInt32).toInt8.toInt32) ((i1.toInt8.toInt32).toInt8.toInt32) ((i2.toInt8.toInt32).toInt8.toInt32) ((i3.toInt8.toInt32).toInt8.toInt32) ((((i4.toUInt32 >>> ((11 : Int32) &&& 31).toUInt32).toInt32).toInt8.toInt32).toInt8.toInt32)))])) _
      refine XS.istore X9.here hx rfl (hb hby at_86) rfl (l' := #[.val (.int i0), .val (.int i1), .val (.int i2), .val (.int i3), .val (.int i4), .val (.int (0 : Int32)), .val (.int (own_v0_17 i0 i1 i2 i3 i4)), .val (.ref b2), .val (.int (own_cp0 (own_v0_17 i0 i1 i2 i3 i4) ((i0.toInt8.toInt32).toInt8.toInt32) ((i1.toInt8.toInt32).toInt8.toInt32) ((i2.toInt8.toInt32).toInt8.toInt32) ((i3.toInt8.toInt32).toInt8.toInt32) ((((i4.toUInt32 >>> ((11 : Int32) &&& 31).toUInt32).toInt32).toInt8.toInt32).toInt8.toInt32)))]) rfl ?_
      show Steps p.tables e below (T9.setTop (mkF m 88 #[.val (.int i0), .val (.int i1), .val (.int i2), .val (.int i3), .val (.int i4), .val (.int (0 : Int32)), .val (.int (own_v0_17 i0 i1 i2 i3 i4)), .val (.ref b2), .val (.int (own_cp0 (own_v0_17 i0 i1 i2 i3 i4) ((i0.toInt8.toInt32).toInt8.toInt32) ((i1.toInt8.toInt32).toInt8.toInt32) ((i2.toInt8.toInt32).toInt8.toInt32) ((i3.toInt8.toInt32).toInt8.toInt32) ((((i4.toUInt32 >>> ((11 : Int32) &&& 31).toUInt32).toInt32).toInt8.toInt32).toInt8.toInt32)))] [])) _
      refine XS.iload X9.here hx rfl (hb hby at_88) rfl ?_
      show Steps p.tables e below (T9.setTop (mkF m 90 #[.val (.int i0), .val (.int i1), .val (.int i2), .val (.int i3), .val (.int i4), .val (.int (0 : Int32)), .val (.int (own_v0_17 i0 i1 i2 i3 i4)), .val (.ref b2), .val (.int (own_cp0 (own_v0_17 i0 i1 i2 i3 i4) ((i0.toInt8.toInt32).toInt8.toInt32) ((i1.toInt8.toInt32).toInt8.toInt32) ((i2.toInt8.toInt32).toInt8.toInt32) ((i3.toInt8.toInt32).toInt8.toInt32) ((((i4.toUInt32 >>> ((11 : Int32) &&& 31).toUInt32).toInt32).toInt8.toInt32).toInt8.toInt32)))] [(.int (own_cp0 (own_v0_17 i0 i1 i2 i3 i4) ((i0.toInt8.toInt32).toInt8.toInt32) ((i1.toInt8.toInt32).toInt8.toInt32) ((i2.toInt8.toInt32).toInt8.toInt32) ((i3.toInt8.toInt32).toInt8.toInt32) ((((i4.toUInt32 >>> ((11 : Int32) &&& 31).toUInt32).toInt32).toInt8.toInt32).toInt8.toInt32)))])) _
      refine XS.iloadN X9.here hx rfl (hb hby at_90) rfl ?_
      show Steps p.tables e below (T9.setTop (mkF m 91 #[.val (.int i0), .val (.int i1), .val (.int i2), .val (.int i3), .val (.int i4), .val (.int (0 : Int32)), .val (.int (own_v0_17 i0 i1 i2 i3 i4)), .val (.ref b2), .val (.int (own_cp0 (own_v0_17 i0 i1 i2 i3 i4) ((i0.toInt8.toInt32).toInt8.toInt32) ((i1.toInt8.toInt32).toInt8.toInt32) ((i2.toInt8.toInt32).toInt8.toInt32) ((i3.toInt8.toInt32).toInt8.toInt32) ((((i4.toUInt32 >>> ((11 : Int32) &&& 31).toUInt32).toInt32).toInt8.toInt32).toInt8.toInt32)))] [(.int i0), (.int (own_cp0 (own_v0_17 i0 i1 i2 i3 i4) ((i0.toInt8.toInt32).toInt8.toInt32) ((i1.toInt8.toInt32).toInt8.toInt32) ((i2.toInt8.toInt32).toInt8.toInt32) ((i3.toInt8.toInt32).toInt8.toInt32) ((((i4.toUInt32 >>> ((11 : Int32) &&& 31).toUInt32).toInt32).toInt8.toInt32).toInt8.toInt32)))])) _
      refine XS.sipush X9.here hx rfl (hb hby at_91) ?_
      show Steps p.tables e below (T9.setTop (mkF m 94 #[.val (.int i0), .val (.int i1), .val (.int i2), .val (.int i3), .val (.int i4), .val (.int (0 : Int32)), .val (.int (own_v0_17 i0 i1 i2 i3 i4)), .val (.ref b2), .val (.int (own_cp0 (own_v0_17 i0 i1 i2 i3 i4) ((i0.toInt8.toInt32).toInt8.toInt32) ((i1.toInt8.toInt32).toInt8.toInt32) ((i2.toInt8.toInt32).toInt8.toInt32) ((i3.toInt8.toInt32).toInt8.toInt32) ((((i4.toUInt32 >>> ((11 : Int32) &&& 31).toUInt32).toInt32).toInt8.toInt32).toInt8.toInt32)))] [(.int (255 : Int32)), (.int i0), (.int (own_cp0 (own_v0_17 i0 i1 i2 i3 i4) ((i0.toInt8.toInt32).toInt8.toInt32) ((i1.toInt8.toInt32).toInt8.toInt32) ((i2.toInt8.toInt32).toInt8.toInt32) ((i3.toInt8.toInt32).toInt8.toInt32) ((((i4.toUInt32 >>> ((11 : Int32) &&& 31).toUInt32).toInt32).toInt8.toInt32).toInt8.toInt32)))])) _
      refine XS.iand X9.here hx rfl (hb hby at_94) rfl ?_
      show Steps p.tables e below (T9.setTop (mkF m 95 #[.val (.int i0), .val (.int i1), .val (.int i2), .val (.int i3), .val (.int i4), .val (.int (0 : Int32)), .val (.int (own_v0_17 i0 i1 i2 i3 i4)), .val (.ref b2), .val (.int (own_cp0 (own_v0_17 i0 i1 i2 i3 i4) ((i0.toInt8.toInt32).toInt8.toInt32) ((i1.toInt8.toInt32).toInt8.toInt32) ((i2.toInt8.toInt32).toInt8.toInt32) ((i3.toInt8.toInt32).toInt8.toInt32) ((((i4.toUInt32 >>> ((11 : Int32) &&& 31).toUInt32).toInt32).toInt8.toInt32).toInt8.toInt32)))] [(.int (i0 &&& (255 : Int32))), (.int (own_cp0 (own_v0_17 i0 i1 i2 i3 i4) ((i0.toInt8.toInt32).toInt8.toInt32) ((i1.toInt8.toInt32).toInt8.toInt32) ((i2.toInt8.toInt32).toInt8.toInt32) ((i3.toInt8.toInt32).toInt8.toInt32) ((((i4.toUInt32 >>> ((11 : Int32) &&& 31).toUInt32).toInt32).toInt8.toInt32).toInt8.toInt32)))])) _
      refine XS.iloadN X9.here hx rfl (hb hby at_95) rfl ?_
      show Steps p.tables e below (T9.setTop (mkF m 96 #[.val (.int i0), .val (.int i1), .val (.int i2), .val (.int i3), .val (.int i4), .val (.int (0 : Int32)), .val (.int (own_v0_17 i0 i1 i2 i3 i4)), .val (.ref b2), .val (.int (own_cp0 (own_v0_17 i0 i1 i2 i3 i4) ((i0.toInt8.toInt32).toInt8.toInt32) ((i1.toInt8.toInt32).toInt8.toInt32) ((i2.toInt8.toInt32).toInt8.toInt32) ((i3.toInt8.toInt32).toInt8.toInt32) ((((i4.toUInt32 >>> ((11 : Int32) &&& 31).toUInt32).toInt32).toInt8.toInt32).toInt8.toInt32)))] [(.int i1), (.int (i0 &&& (255 : Int32))), (.int (own_cp0 (own_v0_17 i0 i1 i2 i3 i4) ((i0.toInt8.toInt32).toInt8.toInt32) ((i1.toInt8.toInt32).toInt8.toInt32) ((i2.toInt8.toInt32).toInt8.toInt32) ((i3.toInt8.toInt32).toInt8.toInt32) ((((i4.toUInt32 >>> ((11 : Int32) &&& 31).toUInt32).toInt32).toInt8.toInt32).toInt8.toInt32)))])) _
      refine XS.sipush X9.here hx rfl (hb hby at_96) ?_
      show Steps p.tables e below (T9.setTop (mkF m 99 #[.val (.int i0), .val (.int i1), .val (.int i2), .val (.int i3), .val (.int i4), .val (.int (0 : Int32)), .val (.int (own_v0_17 i0 i1 i2 i3 i4)), .val (.ref b2), .val (.int (own_cp0 (own_v0_17 i0 i1 i2 i3 i4) ((i0.toInt8.toInt32).toInt8.toInt32) ((i1.toInt8.toInt32).toInt8.toInt32) ((i2.toInt8.toInt32).toInt8.toInt32) ((i3.toInt8.toInt32).toInt8.toInt32) ((((i4.toUInt32 >>> ((11 : Int32) &&& 31).toUInt32).toInt32).toInt8.toInt32).toInt8.toInt32)))] [(.int (255 : Int32)), (.int i1), (.int (i0 &&& (255 : Int32))), (.int (own_cp0 (own_v0_17 i0 i1 i2 i3 i4) ((i0.toInt8.toInt32).toInt8.toInt32) ((i1.toInt8.toInt32).toInt8.toInt32) ((i2.toInt8.toInt32).toInt8.toInt32) ((i3.toInt8.toInt32).toInt8.toInt32) ((((i4.toUInt32 >>> ((11 : Int32) &&& 31).toUInt32).toInt32).toInt8.toInt32).toInt8.toInt32)))])) _
      refine XS.iand X9.here hx rfl (hb hby at_99) rfl ?_
      show Steps p.tables e below (T9.setTop (mkF m 100 #[.val (.int i0), .val (.int i1), .val (.int i2), .val (.int i3), .val (.int i4), .val (.int (0 : Int32)), .val (.int (own_v0_17 i0 i1 i2 i3 i4)), .val (.ref b2), .val (.int (own_cp0 (own_v0_17 i0 i1 i2 i3 i4) ((i0.toInt8.toInt32).toInt8.toInt32) ((i1.toInt8.toInt32).toInt8.toInt32) ((i2.toInt8.toInt32).toInt8.toInt32) ((i3.toInt8.toInt32).toInt8.toInt32) ((((i4.toUInt32 >>> ((11 : Int32) &&& 31).toUInt32).toInt32).toInt8.toInt32).toInt8.toInt32)))] [(.int (i1 &&& (255 : Int32))), (.int (i0 &&& (255 : Int32))), (.int (own_cp0 (own_v0_17 i0 i1 i2 i3 i4) ((i0.toInt8.toInt32).toInt8.toInt32) ((i1.toInt8.toInt32).toInt8.toInt32) ((i2.toInt8.toInt32).toInt8.toInt32) ((i3.toInt8.toInt32).toInt8.toInt32) ((((i4.toUInt32 >>> ((11 : Int32) &&& 31).toUInt32).toInt32).toInt8.toInt32).toInt8.toInt32)))])) _
      refine XS.iloadN X9.here hx rfl (hb hby at_100) rfl ?_
      show Steps p.tables e below (T9.setTop (mkF m 101 #[.val (.int i0), .val (.int i1), .val (.int i2), .val (.int i3), .val (.int i4), .val (.int (0 : Int32)), .val (.int (own_v0_17 i0 i1 i2 i3 i4)), .val (.ref b2), .val (.int (own_cp0 (own_v0_17 i0 i1 i2 i3 i4) ((i0.toInt8.toInt32).toInt8.toInt32) ((i1.toInt8.toInt32).toInt8.toInt32) ((i2.toInt8.toInt32).toInt8.toInt32) ((i3.toInt8.toInt32).toInt8.toInt32) ((((i4.toUInt32 >>> ((11 : Int32) &&& 31).toUInt32).toInt32).toInt8.toInt32).toInt8.toInt32)))] [(.int i2), (.int (i1 &&& (255 : Int32))), (.int (i0 &&& (255 : Int32))), (.int (own_cp0 (own_v0_17 i0 i1 i2 i3 i4) ((i0.toInt8.toInt32).toInt8.toInt32) ((i1.toInt8.toInt32).toInt8.toInt32) ((i2.toInt8.toInt32).toInt8.toInt32) ((i3.toInt8.toInt32).toInt8.toInt32) ((((i4.toUInt32 >>> ((11 : Int32) &&& 31).toUInt32).toInt32).toInt8.toInt32).toInt8.toInt32)))])) _
      refine XS.sipush X9.here hx rfl (hb hby at_101) ?_
      show Steps p.tables e below (T9.setTop (mkF m 104 #[.val (.int i0), .val (.int i1), .val (.int i2), .val (.int i3), .val (.int i4), .val (.int (0 : Int32)), .val (.int (own_v0_17 i0 i1 i2 i3 i4)), .val (.ref b2), .val (.int (own_cp0 (own_v0_17 i0 i1 i2 i3 i4) ((i0.toInt8.toInt32).toInt8.toInt32) ((i1.toInt8.toInt32).toInt8.toInt32) ((i2.toInt8.toInt32).toInt8.toInt32) ((i3.toInt8.toInt32).toInt8.toInt32) ((((i4.toUInt32 >>> ((11 : Int32) &&& 31).toUInt32).toInt32).toInt8.toInt32).toInt8.toInt32)))] [(.int (255 : Int32)), (.int i2), (.int (i1 &&& (255 : Int32))), (.int (i0 &&& (255 : Int32))), (.int (own_cp0 (own_v0_17 i0 i1 i2 i3 i4) ((i0.toInt8.toInt32).toInt8.toInt32) ((i1.toInt8.toInt32).toInt8.toInt32) ((i2.toInt8.toInt32).toInt8.toInt32) ((i3.toInt8.toInt32).toInt8.toInt32) ((((i4.toUInt32 >>> ((11 : Int32) &&& 31).toUInt32).toInt32).toInt8.toInt32).toInt8.toInt32)))])) _
      refine XS.iand X9.here hx rfl (hb hby at_104) rfl ?_
      show Steps p.tables e below (T9.setTop (mkF m 105 #[.val (.int i0), .val (.int i1), .val (.int i2), .val (.int i3), .val (.int i4), .val (.int (0 : Int32)), .val (.int (own_v0_17 i0 i1 i2 i3 i4)), .val (.ref b2), .val (.int (own_cp0 (own_v0_17 i0 i1 i2 i3 i4) ((i0.toInt8.toInt32).toInt8.toInt32) ((i1.toInt8.toInt32).toInt8.toInt32) ((i2.toInt8.toInt32).toInt8.toInt32) ((i3.toInt8.toInt32).toInt8.toInt32) ((((i4.toUInt32 >>> ((11 : Int32) &&& 31).toUInt32).toInt32).toInt8.toInt32).toInt8.toInt32)))] [(.int (i2 &&& (255 : Int32))), (.int (i1 &&& (255 : Int32))), (.int (i0 &&& (255 : Int32))), (.int (own_cp0 (own_v0_17 i0 i1 i2 i3 i4) ((i0.toInt8.toInt32).toInt8.toInt32) ((i1.toInt8.toInt32).toInt8.toInt32) ((i2.toInt8.toInt32).toInt8.toInt32) ((i3.toInt8.toInt32).toInt8.toInt32) ((((i4.toUInt32 >>> ((11 : Int32) &&& 31).toUInt32).toInt32).toInt8.toInt32).toInt8.toInt32)))])) _
      refine XS.iloadN X9.here hx rfl (hb hby at_105) rfl ?_
      show Steps p.tables e below (T9.setTop (mkF m 106 #[.val (.int i0), .val (.int i1), .val (.int i2), .val (.int i3), .val (.int i4), .val (.int (0 : Int32)), .val (.int (own_v0_17 i0 i1 i2 i3 i4)), .val (.ref b2), .val (.int (own_cp0 (own_v0_17 i0 i1 i2 i3 i4) ((i0.toInt8.toInt32).toInt8.toInt32) ((i1.toInt8.toInt32).toInt8.toInt32) ((i2.toInt8.toInt32).toInt8.toInt32) ((i3.toInt8.toInt32).toInt8.toInt32) ((((i4.toUInt32 >>> ((11 : Int32) &&& 31).toUInt32).toInt32).toInt8.toInt32).toInt8.toInt32)))] [(.int i3), (.int (i2 &&& (255 : Int32))), (.int (i1 &&& (255 : Int32))), (.int (i0 &&& (255 : Int32))), (.int (own_cp0 (own_v0_17 i0 i1 i2 i3 i4) ((i0.toInt8.toInt32).toInt8.toInt32) ((i1.toInt8.toInt32).toInt8.toInt32) ((i2.toInt8.toInt32).toInt8.toInt32) ((i3.toInt8.toInt32).toInt8.toInt32) ((((i4.toUInt32 >>> ((11 : Int32) &&& 31).toUInt32).toInt32).toInt8.toInt32).toInt8.toInt32)))])) _
      refine XS.sipush X9.here hx rfl (hb hby at_106) ?_
      show Steps p.tables e below (T9.setTop (mkF m 109 #[.val (.int i0), .val (.int i1), .val (.int i2), .val (.int i3), .val (.int i4), .val (.int (0 : Int32)), .val (.int (own_v0_17 i0 i1 i2 i3 i4)), .val (.ref b2), .val (.int (own_cp0 (own_v0_17 i0 i1 i2 i3 i4) ((i0.toInt8.toInt32).toInt8.toInt32) ((i1.toInt8.toInt32).toInt8.toInt32) ((i2.toInt8.toInt32).toInt8.toInt32) ((i3.toInt8.toInt32).toInt8.toInt32) ((((i4.toUInt32 >>> ((11 : Int32) &&& 31).toUInt32).toInt32).toInt8.toInt32).toInt8.toInt32)))] [(.int (255 : Int32)), (.int i3), (.int (i2 &&& (255 : Int32))), (.int (i1 &&& (255 : Int32))), (.int (i0 &&& (255 : Int32))), (.int (own_cp0 (own_v0_17 i0 i1 i2 i3 i4) ((i0.toInt8.toInt32).toInt8.toInt32) ((i1.toInt8.toInt32).toInt8.toInt32) ((i2.toInt8.toInt32).toInt8.toInt32) ((i3.toInt8.toInt32).toInt8.toInt32) ((((i4.toUInt32 >>> ((11 : Int32) &&& 31).toUInt32).toInt32).toInt8.toInt32).toInt8.toInt32)))])) _
      refine XS.iand X9.here hx rfl (hb hby at_109) rfl ?_
      show Steps p.tables e below (T9.setTop (mkF m 110 #[.val (.int i0), .val (.int i1), .val (.int i2), .val (.int i3), .val (.int i4), .val (.int (0 : Int32)), .val (.int (own_v0_17 i0 i1 i2 i3 i4)), .val (.ref b2), .val (.int (own_cp0 (own_v0_17 i0 i1 i2 i3 i4) ((i0.toInt8.toInt32).toInt8.toInt32) ((i1.toInt8.toInt32).toInt8.toInt32) ((i2.toInt8.toInt32).toInt8.toInt32) ((i3.toInt8.toInt32).toInt8.toInt32) ((((i4.toUInt32 >>> ((11 : Int32) &&& 31).toUInt32).toInt32).toInt8.toInt32).toInt8.toInt32)))] [(.int (i3 &&& (255 : Int32))), (.int (i2 &&& (255 : Int32))), (.int (i1 &&& (255 : Int32))), (.int (i0 &&& (255 : Int32))), (.int (own_cp0 (own_v0_17 i0 i1 i2 i3 i4) ((i0.toInt8.toInt32).toInt8.toInt32) ((i1.toInt8.toInt32).toInt8.toInt32) ((i2.toInt8.toInt32).toInt8.toInt32) ((i3.toInt8.toInt32).toInt8.toInt32) ((((i4.toUInt32 >>> ((11 : Int32) &&& 31).toUInt32).toInt32).toInt8.toInt32).toInt8.toInt32)))])) _
      refine XS.iload X9.here hx rfl (hb hby at_110) rfl ?_
      show Steps p.tables e below (T9.setTop (mkF m 112 #[.val (.int i0), .val (.int i1), .val (.int i2), .val (.int i3), .val (.int i4), .val (.int (0 : Int32)), .val (.int (own_v0_17 i0 i1 i2 i3 i4)), .val (.ref b2), .val (.int (own_cp0 (own_v0_17 i0 i1 i2 i3 i4) ((i0.toInt8.toInt32).toInt8.toInt32) ((i1.toInt8.toInt32).toInt8.toInt32) ((i2.toInt8.toInt32).toInt8.toInt32) ((i3.toInt8.toInt32).toInt8.toInt32) ((((i4.toUInt32 >>> ((11 : Int32) &&& 31).toUInt32).toInt32).toInt8.toInt32).toInt8.toInt32)))] [(.int (own_v0_17 i0 i1 i2 i3 i4)), (.int (i3 &&& (255 : Int32))), (.int (i2 &&& (255 : Int32))), (.int (i1 &&& (255 : Int32))), (.int (i0 &&& (255 : Int32))), (.int (own_cp0 (own_v0_17 i0 i1 i2 i3 i4) ((i0.toInt8.toInt32).toInt8.toInt32) ((i1.toInt8.toInt32).toInt8.toInt32) ((i2.toInt8.toInt32).toInt8.toInt32) ((i3.toInt8.toInt32).toInt8.toInt32) ((((i4.toUInt32 >>> ((11 : Int32) &&& 31).toUInt32).toInt32).toInt8.toInt32).toInt8.toInt32)))])) _
      refine XS.iload X9.here hx rfl (hb hby at_112) rfl ?_
      show Steps p.tables e below (T9.setTop (mkF m 114 #[.val (.int i0), .val (.int i1), .val (.int i2), .val (.int i3), .val (.int i4), .val (.int (0 : Int32)), .val (.int (own_v0_17 i0 i1 i2 i3 i4)), .val (.ref b2), .val (.int (own_cp0 (own_v0_17 i0 i1 i2 i3 i4) ((i0.toInt8.toInt32).toInt8.toInt32) ((i1.toInt8.toInt32).toInt8.toInt32) ((i2.toInt8.toInt32).toInt8.toInt32) ((i3.toInt8.toInt32).toInt8.toInt32) ((((i4.toUInt32 >>> ((11 : Int32) &&& 31).toUInt32).toInt32).toInt8.toInt32).toInt8.toInt32)))] [(.int (0 : Int32)), (.int (own_v0_17 i0 i1 i2 i3 i4)), (.int (i3 &&& (255 : Int32))), (.int (i2 &&& (255 : Int32))), (.int (i1 &&& (255 : Int32))), (.int (i0 &&& (255 : Int32))), (.int (own_cp0 (own_v0_17 i0 i1 i2 i3 i4) ((i0.toInt8.toInt32).toInt8.toInt32) ((i1.toInt8.toInt32).toInt8.toInt32) ((i2.toInt8.toInt32).toInt8.toInt32) ((i3.toInt8.toInt32).toInt8.toInt32) ((((i4.toUInt32 >>> ((11 : Int32) &&& 31).toUInt32).toInt32).toInt8.toInt32).toInt8.toInt32)))])) _
      refine XS.isub X9.here hx rfl (hb hby at_114) rfl ?_
      exact kt
    obtain ⟨_, _, ⟨T10, L10, k10, n10⟩, -, X10, ⟨Lc10, hQ10, l10, y10, z10⟩, st10⟩ := Jvm.LawKit.callS X9 hx (y := (⟨"traceward/schema/Utf8CodePointPinLaw", "expected", "(IIIII)I"⟩ : MethodName)) hown (mvT hZ (hw _ (List.mem_of_getElem? (i := 5) rfl))) (mvT hZ (hw _ (List.mem_of_getElem? (i := 6) rfl))) (mvT hZ (hw _ (List.mem_of_getElem? (i := 7) rfl))) (mvT hZ (hw _ (List.mem_of_getElem? (i := 8) rfl))) (by decide) (backOf (W := 1) (own_rm2 l Z a0 hw [] (i0 &&& (255 : Int32)) (i1 &&& (255 : Int32)) (i2 &&& (255 : Int32)) (i3 &&& (255 : Int32)) ((own_v0_17 i0 i1 i2 i3 i4) - (0 : Int32)) h8 n0 (Nat.le_trans Z0 K8.1) ) hZ (hw _ (List.mem_of_getElem? (i := 8) rfl)) (hw _ (List.mem_of_getElem? (i := 7) rfl)) (by decide) (by decide)) (g := (mkF m 115 #[.val (.int i0), .val (.int i1), .val (.int i2), .val (.int i3), .val (.int i4), .val (.int (0 : Int32)), .val (.int (own_v0_17 i0 i1 i2 i3 i4)), .val (.ref b2), .val (.int (own_cp0 (own_v0_17 i0 i1 i2 i3 i4) ((i0.toInt8.toInt32).toInt8.toInt32) ((i1.toInt8.toInt32).toInt8.toInt32) ((i2.toInt8.toInt32).toInt8.toInt32) ((i3.toInt8.toInt32).toInt8.toInt32) ((((i4.toUInt32 >>> ((11 : Int32) &&& 31).toUInt32).toInt32).toInt8.toInt32).toInt8.toInt32)))] [(.int ((own_v0_17 i0 i1 i2 i3 i4) - (0 : Int32))), (.int (i3 &&& (255 : Int32))), (.int (i2 &&& (255 : Int32))), (.int (i1 &&& (255 : Int32))), (.int (i0 &&& (255 : Int32))), (.int (own_cp0 (own_v0_17 i0 i1 i2 i3 i4) ((i0.toInt8.toInt32).toInt8.toInt32) ((i1.toInt8.toInt32).toInt8.toInt32) ((i2.toInt8.toInt32).toInt8.toInt32) ((i3.toInt8.toInt32).toInt8.toInt32) ((((i4.toUInt32 >>> ((11 : Int32) &&& 31).toUInt32).toInt32).toInt8.toInt32).toInt8.toInt32)))])) rfl (by rw [hml]; rfl) (argsL := [(.int (i0 &&& (255 : Int32))), (.int (i1 &&& (255 : Int32))), (.int (i2 &&& (255 : Int32))), (.int (i3 &&& (255 : Int32))), (.int ((own_v0_17 i0 i1 i2 i3 i4) - (0 : Int32)))]) (rest := [(.int (own_cp0 (own_v0_17 i0 i1 i2 i3 i4) ((i0.toInt8.toInt32).toInt8.toInt32) ((i1.toInt8.toInt32).toInt8.toInt32) ((i2.toInt8.toInt32).toInt8.toInt32) ((i3.toInt8.toInt32).toInt8.toInt32) ((((i4.toUInt32 >>> ((11 : Int32) &&& 31).toUInt32).toInt32).toInt8.toInt32).toInt8.toInt32)))]) (lenOf own_pd4 rfl) rfl (by show 2 * 0 + _ ≤ _; exact Nat.le_of_eq rfl) (hb hby at_115) (fun _ _ => ⟨rfl, e9, (by decide : 1 + 0 ≤ _), (by decide : 5 + 0 ≤ _)⟩)
    dsimp only [Pt.U, Pt.locs, Pt.cells, Pt.slots] at X10 l10 y10 z10 st10 hQ10
    subst l10 y10 z10
    obtain ⟨rfl, N10q, e10⟩ := hQ10
    have N10 := Fr.app N9 N10q
    refine ownE.go (T' := T10) (f' := (mkF m 118 #[.val (.int i0), .val (.int i1), .val (.int i2), .val (.int i3), .val (.int i4), .val (.int (0 : Int32)), .val (.int (own_v0_17 i0 i1 i2 i3 i4)), .val (.ref b2), .val (.int (own_cp0 (own_v0_17 i0 i1 i2 i3 i4) ((i0.toInt8.toInt32).toInt8.toInt32) ((i1.toInt8.toInt32).toInt8.toInt32) ((i2.toInt8.toInt32).toInt8.toInt32) ((i3.toInt8.toInt32).toInt8.toInt32) ((((i4.toUInt32 >>> ((11 : Int32) &&& 31).toUInt32).toInt32).toInt8.toInt32).toInt8.toInt32)))] [(.int (own_exp (i0 &&& (255 : Int32)) (i1 &&& (255 : Int32)) (i2 &&& (255 : Int32)) (i3 &&& (255 : Int32)) ((own_v0_17 i0 i1 i2 i3 i4) - (0 : Int32)))), (.int (own_cp0 (own_v0_17 i0 i1 i2 i3 i4) ((i0.toInt8.toInt32).toInt8.toInt32) ((i1.toInt8.toInt32).toInt8.toInt32) ((i2.toInt8.toInt32).toInt8.toInt32) ((i3.toInt8.toInt32).toInt8.toInt32) ((((i4.toUInt32 >>> ((11 : Int32) &&& 31).toUInt32).toInt32).toInt8.toInt32).toInt8.toInt32)))])) st10 ?_
    by_cases hc11 : (own_cp0 (own_v0_17 i0 i1 i2 i3 i4) ((i0.toInt8.toInt32).toInt8.toInt32) ((i1.toInt8.toInt32).toInt8.toInt32) ((i2.toInt8.toInt32).toInt8.toInt32) ((i3.toInt8.toInt32).toInt8.toInt32) ((((i4.toUInt32 >>> ((11 : Int32) &&& 31).toUInt32).toInt32).toInt8.toInt32).toInt8.toInt32)) = (own_exp (i0 &&& (255 : Int32)) (i1 &&& (255 : Int32)) (i2 &&& (255 : Int32)) (i3 &&& (255 : Int32)) ((own_v0_17 i0 i1 i2 i3 i4) - (0 : Int32)))
    · -- pc 118
      refine ownE.go (T' := T10) (f' := (mkF m 121 #[.val (.int i0), .val (.int i1), .val (.int i2), .val (.int i3), .val (.int i4), .val (.int (0 : Int32)), .val (.int (own_v0_17 i0 i1 i2 i3 i4)), .val (.ref b2), .val (.int (own_cp0 (own_v0_17 i0 i1 i2 i3 i4) ((i0.toInt8.toInt32).toInt8.toInt32) ((i1.toInt8.toInt32).toInt8.toInt32) ((i2.toInt8.toInt32).toInt8.toInt32) ((i3.toInt8.toInt32).toInt8.toInt32) ((((i4.toUInt32 >>> ((11 : Int32) &&& 31).toUInt32).toInt32).toInt8.toInt32).toInt8.toInt32)))] [])) (fun t kt => XS.icmpNo (g := (mkF m 118 #[.val (.int i0), .val (.int i1), .val (.int i2), .val (.int i3), .val (.int i4), .val (.int (0 : Int32)), .val (.int (own_v0_17 i0 i1 i2 i3 i4)), .val (.ref b2), .val (.int (own_cp0 (own_v0_17 i0 i1 i2 i3 i4) ((i0.toInt8.toInt32).toInt8.toInt32) ((i1.toInt8.toInt32).toInt8.toInt32) ((i2.toInt8.toInt32).toInt8.toInt32) ((i3.toInt8.toInt32).toInt8.toInt32) ((((i4.toUInt32 >>> ((11 : Int32) &&& 31).toUInt32).toInt32).toInt8.toInt32).toInt8.toInt32)))] [(.int (own_exp (i0 &&& (255 : Int32)) (i1 &&& (255 : Int32)) (i2 &&& (255 : Int32)) (i3 &&& (255 : Int32)) ((own_v0_17 i0 i1 i2 i3 i4) - (0 : Int32)))), (.int (own_cp0 (own_v0_17 i0 i1 i2 i3 i4) ((i0.toInt8.toInt32).toInt8.toInt32) ((i1.toInt8.toInt32).toInt8.toInt32) ((i2.toInt8.toInt32).toInt8.toInt32) ((i3.toInt8.toInt32).toInt8.toInt32) ((((i4.toUInt32 >>> ((11 : Int32) &&& 31).toUInt32).toInt32).toInt8.toInt32).toInt8.toInt32)))])) X10.here hx rfl (hb hby at_118) rfl (Jvm.Free.XT.ii_ne_f hc11) kt) ?_
      refine ownE.go (T' := T10) (f' := (mkF m 126 #[.val (.int i0), .val (.int i1), .val (.int i2), .val (.int i3), .val (.int i4), .val (.int (0 : Int32)), .val (.int (own_v0_17 i0 i1 i2 i3 i4)), .val (.ref b2), .val (.int (own_cp0 (own_v0_17 i0 i1 i2 i3 i4) ((i0.toInt8.toInt32).toInt8.toInt32) ((i1.toInt8.toInt32).toInt8.toInt32) ((i2.toInt8.toInt32).toInt8.toInt32) ((i3.toInt8.toInt32).toInt8.toInt32) ((((i4.toUInt32 >>> ((11 : Int32) &&& 31).toUInt32).toInt32).toInt8.toInt32).toInt8.toInt32)))] [(.int (1 : Int32))])) (fun t kt => ?_) ?_
      · show Steps p.tables e below (T10.setTop (mkF m 121 #[.val (.int i0), .val (.int i1), .val (.int i2), .val (.int i3), .val (.int i4), .val (.int (0 : Int32)), .val (.int (own_v0_17 i0 i1 i2 i3 i4)), .val (.ref b2), .val (.int (own_cp0 (own_v0_17 i0 i1 i2 i3 i4) ((i0.toInt8.toInt32).toInt8.toInt32) ((i1.toInt8.toInt32).toInt8.toInt32) ((i2.toInt8.toInt32).toInt8.toInt32) ((i3.toInt8.toInt32).toInt8.toInt32) ((((i4.toUInt32 >>> ((11 : Int32) &&& 31).toUInt32).toInt32).toInt8.toInt32).toInt8.toInt32)))] [])) _
        refine XS.iconst X10.here hx rfl (hb hby at_121) ?_
        show Steps p.tables e below (T10.setTop (mkF m 122 #[.val (.int i0), .val (.int i1), .val (.int i2), .val (.int i3), .val (.int i4), .val (.int (0 : Int32)), .val (.int (own_v0_17 i0 i1 i2 i3 i4)), .val (.ref b2), .val (.int (own_cp0 (own_v0_17 i0 i1 i2 i3 i4) ((i0.toInt8.toInt32).toInt8.toInt32) ((i1.toInt8.toInt32).toInt8.toInt32) ((i2.toInt8.toInt32).toInt8.toInt32) ((i3.toInt8.toInt32).toInt8.toInt32) ((((i4.toUInt32 >>> ((11 : Int32) &&& 31).toUInt32).toInt32).toInt8.toInt32).toInt8.toInt32)))] [(.int (1 : Int32))])) _
        refine XS.goto X10.here hx rfl (pc0 := 122) (pc' := 126) rfl (hb hby at_122) (by decide) (by decide) ?_
        exact kt
      refine ownE.retN X10 hx hlk (t := .boolean) hret (by simp) (hb hby at_126) ?_ (by decide) (by decide)
      show own_Q0 Z i0 i1 i2 i3 i4 h0 n0 _ T10.heap _
      rw [e10]
      exact ⟨(by rw [own_f0, if_pos hk1, if_pos hc11] <;> first | rfl | decide), N10, K8⟩
    · -- pc 118
      refine ownE.go (T' := T10) (f' := (mkF m 125 #[.val (.int i0), .val (.int i1), .val (.int i2), .val (.int i3), .val (.int i4), .val (.int (0 : Int32)), .val (.int (own_v0_17 i0 i1 i2 i3 i4)), .val (.ref b2), .val (.int (own_cp0 (own_v0_17 i0 i1 i2 i3 i4) ((i0.toInt8.toInt32).toInt8.toInt32) ((i1.toInt8.toInt32).toInt8.toInt32) ((i2.toInt8.toInt32).toInt8.toInt32) ((i3.toInt8.toInt32).toInt8.toInt32) ((((i4.toUInt32 >>> ((11 : Int32) &&& 31).toUInt32).toInt32).toInt8.toInt32).toInt8.toInt32)))] [])) (fun t kt => XS.icmpYes (g := (mkF m 118 #[.val (.int i0), .val (.int i1), .val (.int i2), .val (.int i3), .val (.int i4), .val (.int (0 : Int32)), .val (.int (own_v0_17 i0 i1 i2 i3 i4)), .val (.ref b2), .val (.int (own_cp0 (own_v0_17 i0 i1 i2 i3 i4) ((i0.toInt8.toInt32).toInt8.toInt32) ((i1.toInt8.toInt32).toInt8.toInt32) ((i2.toInt8.toInt32).toInt8.toInt32) ((i3.toInt8.toInt32).toInt8.toInt32) ((((i4.toUInt32 >>> ((11 : Int32) &&& 31).toUInt32).toInt32).toInt8.toInt32).toInt8.toInt32)))] [(.int (own_exp (i0 &&& (255 : Int32)) (i1 &&& (255 : Int32)) (i2 &&& (255 : Int32)) (i3 &&& (255 : Int32)) ((own_v0_17 i0 i1 i2 i3 i4) - (0 : Int32)))), (.int (own_cp0 (own_v0_17 i0 i1 i2 i3 i4) ((i0.toInt8.toInt32).toInt8.toInt32) ((i1.toInt8.toInt32).toInt8.toInt32) ((i2.toInt8.toInt32).toInt8.toInt32) ((i3.toInt8.toInt32).toInt8.toInt32) ((((i4.toUInt32 >>> ((11 : Int32) &&& 31).toUInt32).toInt32).toInt8.toInt32).toInt8.toInt32)))])) X10.here hx rfl (pc0 := 118) (pc' := 125) rfl (hb hby at_118) rfl (Jvm.Free.XT.ii_ne_t hc11) (by decide) (by decide) kt) ?_
      refine ownE.go (T' := T10) (f' := (mkF m 126 #[.val (.int i0), .val (.int i1), .val (.int i2), .val (.int i3), .val (.int i4), .val (.int (0 : Int32)), .val (.int (own_v0_17 i0 i1 i2 i3 i4)), .val (.ref b2), .val (.int (own_cp0 (own_v0_17 i0 i1 i2 i3 i4) ((i0.toInt8.toInt32).toInt8.toInt32) ((i1.toInt8.toInt32).toInt8.toInt32) ((i2.toInt8.toInt32).toInt8.toInt32) ((i3.toInt8.toInt32).toInt8.toInt32) ((((i4.toUInt32 >>> ((11 : Int32) &&& 31).toUInt32).toInt32).toInt8.toInt32).toInt8.toInt32)))] [(.int (0 : Int32))])) (fun t kt => ?_) ?_
      · show Steps p.tables e below (T10.setTop (mkF m 125 #[.val (.int i0), .val (.int i1), .val (.int i2), .val (.int i3), .val (.int i4), .val (.int (0 : Int32)), .val (.int (own_v0_17 i0 i1 i2 i3 i4)), .val (.ref b2), .val (.int (own_cp0 (own_v0_17 i0 i1 i2 i3 i4) ((i0.toInt8.toInt32).toInt8.toInt32) ((i1.toInt8.toInt32).toInt8.toInt32) ((i2.toInt8.toInt32).toInt8.toInt32) ((i3.toInt8.toInt32).toInt8.toInt32) ((((i4.toUInt32 >>> ((11 : Int32) &&& 31).toUInt32).toInt32).toInt8.toInt32).toInt8.toInt32)))] [])) _
        refine XS.iconst X10.here hx rfl (hb hby at_125) ?_
        exact kt
      refine ownE.retN X10 hx hlk (t := .boolean) hret (by simp) (hb hby at_126) ?_ (by decide) (by decide)
      show own_Q0 Z i0 i1 i2 i3 i4 h0 n0 _ T10.heap _
      rw [e10]
      exact ⟨(by rw [own_f0, if_pos hk1, if_neg hc11] <;> first | rfl | decide), N10, K8⟩
  · -- (i4 &&& (1 : Int32)) = 1
    have hf1 : (mkF m 6 #[.val (.int i0), .val (.int i1), .val (.int i2), .val (.int i3), .val (.int i4), .val (.int (i4 &&& (1 : Int32))), .unset, .unset, .unset] []) = (mkF m 6 #[.val (.int i0), .val (.int i1), .val (.int i2), .val (.int i3), .val (.int i4), .val (.int (1 : Int32)), .unset, .unset, .unset] []) := by rw [hk1]
    rw [hf1]
    have hk1_0 : ¬ (i4 &&& (1 : Int32)) = (0 : Int32) := by rw [hk1]; decide
    refine ownE.go (T' := s₁) (f' := (mkF m 20 #[.val (.int i0), .val (.int i1), .val (.int i2), .val (.int i3), .val (.int i4), .val (.int (1 : Int32)), .val (.int (own_v0_17_2 i0 i1 i2 i3 i4)), .unset, .unset] [(.int (5 : Int32))])) (fun t kt => ?_) ?_
    · show Steps p.tables e below (s₁.setTop (mkF m 6 #[.val (.int i0), .val (.int i1), .val (.int i2), .val (.int i3), .val (.int i4), .val (.int (1 : Int32)), .unset, .unset, .unset] [])) _
      refine XS.iload X0.here hx rfl (hb hby at_6) rfl ?_
      show Steps p.tables e below (s₁.setTop (mkF m 8 #[.val (.int i0), .val (.int i1), .val (.int i2), .val (.int i3), .val (.int i4), .val (.int (1 : Int32)), .unset, .unset, .unset] [(.int (1 : Int32))])) _
      refine XS.iconst X0.here hx rfl (hb hby at_8) ?_
      show Steps p.tables e below (s₁.setTop (mkF m 9 #[.val (.int i0), .val (.int i1), .val (.int i2), .val (.int i3), .val (.int i4), .val (.int (1 : Int32)), .unset, .unset, .unset] [(.int (1 : Int32)), (.int (1 : Int32))])) _
      refine XS.iadd X0.here hx rfl (hb hby at_9) rfl ?_
      show Steps p.tables e below (s₁.setTop (mkF m 10 #[.val (.int i0), .val (.int i1), .val (.int i2), .val (.int i3), .val (.int i4), .val (.int (1 : Int32)), .unset, .unset, .unset] [(.int (2 : Int32))])) _
      refine XS.iload X0.here hx rfl (hb hby at_10) rfl ?_
      show Steps p.tables e below (s₁.setTop (mkF m 12 #[.val (.int i0), .val (.int i1), .val (.int i2), .val (.int i3), .val (.int i4), .val (.int (1 : Int32)), .unset, .unset, .unset] [(.int i4), (.int (2 : Int32))])) _
      refine XS.iconst X0.here hx rfl (hb hby at_12) ?_
      show Steps p.tables e below (s₁.setTop (mkF m 13 #[.val (.int i0), .val (.int i1), .val (.int i2), .val (.int i3), .val (.int i4), .val (.int (1 : Int32)), .unset, .unset, .unset] [(.int (1 : Int32)), (.int i4), (.int (2 : Int32))])) _
      refine XS.iushr X0.here hx rfl (hb hby at_13) rfl ?_
      show Steps p.tables e below (s₁.setTop (mkF m 14 #[.val (.int i0), .val (.int i1), .val (.int i2), .val (.int i3), .val (.int i4), .val (.int (1 : Int32)), .unset, .unset, .unset] [(.int ((i4.toUInt32 >>> ((1 : Int32) &&& 31).toUInt32).toInt32)), (.int (2 : Int32))])) _
      refine XS.iconst X0.here hx rfl (hb hby at_14) ?_
      show Steps p.tables e below (s₁.setTop (mkF m 15 #[.val (.int i0), .val (.int i1), .val (.int i2), .val (.int i3), .val (.int i4), .val (.int (1 : Int32)), .unset, .unset, .unset] [(.int (3 : Int32)), (.int ((i4.toUInt32 >>> ((1 : Int32) &&& 31).toUInt32).toInt32)), (.int (2 : Int32))])) _
      refine XS.iand X0.here hx rfl (hb hby at_15) rfl ?_
      show Steps p.tables e below (s₁.setTop (mkF m 16 #[.val (.int i0), .val (.int i1), .val (.int i2), .val (.int i3), .val (.int i4), .val (.int (1 : Int32)), .unset, .unset, .unset] [(.int (((i4.toUInt32 >>> ((1 : Int32) &&& 31).toUInt32).toInt32) &&& (3 : Int32))), (.int (2 : Int32))])) _
      refine XS.iadd X0.here hx rfl (hb hby at_16) rfl ?_
      show Steps p.tables e below (s₁.setTop (mkF m 17 #[.val (.int i0), .val (.int i1), .val (.int i2), .val (.int i3), .val (.int i4), .val (.int (1 : Int32)), .unset, .unset, .unset] [(.int ((2 : Int32) + (((i4.toUInt32 >>> ((1 : Int32) &&& 31).toUInt32).toInt32) &&& (3 : Int32))))])) _
      refine XS.istore X0.here hx rfl (hb hby at_17) rfl (l' := #[.val (.int i0), .val (.int i1), .val (.int i2), .val (.int i3), .val (.int i4), .val (.int (1 : Int32)), .val (.int (own_v0_17_2 i0 i1 i2 i3 i4)), .unset, .unset]) rfl ?_
      show Steps p.tables e below (s₁.setTop (mkF m 19 #[.val (.int i0), .val (.int i1), .val (.int i2), .val (.int i3), .val (.int i4), .val (.int (1 : Int32)), .val (.int (own_v0_17_2 i0 i1 i2 i3 i4)), .unset, .unset] [])) _
      refine XS.iconst X0.here hx rfl (hb hby at_19) ?_
      exact kt
    obtain ⟨T12, h12, k12, X12, e12, E12, A12, st12⟩ := newP X0 hx hZ (hw _ (List.mem_of_getElem? (i := 0) rfl)) e0 (g := (mkF m 20 #[.val (.int i0), .val (.int i1), .val (.int i2), .val (.int i3), .val (.int i4), .val (.int (1 : Int32)), .val (.int (own_v0_17_2 i0 i1 i2 i3 i4)), .unset, .unset] [(.int (5 : Int32))])) rfl (hb hby at_20) rfl (by decide) (cap := 5) (by decide) (by decide) (by decide) (by decide)
    obtain ⟨b12, g12⟩ : ∃ z, z = h0.size := ⟨_, rfl⟩
    rw [← g12] at A12 st12
    have sz_b12 : h0.size ≤ b12 := Nat.le_trans K0.1 (Nat.le_of_eq g12.symm)
    have ge_b12 : n0 ≤ b12 := Nat.le_trans Z0 sz_b12
    have V12 : Arv Z h12 b12 k12 .byte (5 : Int32) [(.int (0 : Int32)), (.int (0 : Int32)), (.int (0 : Int32)), (.int (0 : Int32)), (.int (0 : Int32))] (.int (0 : Int32)) := (Arv.new A12 (by decide)).pad (pad_rep [] (.int (0 : Int32)) 5)
    have K12 : Keep h0 h12 [] := K0.ext E12
    refine ownE.go (T' := T12) (f' := (mkF m 22 #[.val (.int i0), .val (.int i1), .val (.int i2), .val (.int i3), .val (.int i4), .val (.int (1 : Int32)), .val (.int (own_v0_17_2 i0 i1 i2 i3 i4)), .unset, .unset] [(.ref b12)])) st12 ?_
    refine ownE.go (T' := T12) (f' := (mkF m 32 #[.val (.int i0), .val (.int i1), .val (.int i2), .val (.int i3), .val (.int i4), .val (.int (1 : Int32)), .val (.int (own_v0_17_2 i0 i1 i2 i3 i4)), .val (.ref b12), .unset] [(.int (((i4.toUInt32 >>> ((3 : Int32) &&& 31).toUInt32).toInt32).toInt8.toInt32)), (.int (0 : Int32)), (.ref b12)])) (fun t kt => ?_) ?_
    · show Steps p.tables e below (T12.setTop (mkF m 22 #[.val (.int i0), .val (.int i1), .val (.int i2), .val (.int i3), .val (.int i4), .val (.int (1 : Int32)), .val (.int (own_v0_17_2 i0 i1 i2 i3 i4)), .unset, .unset] [(.ref b12)])) _
      refine XS.astore X12.here hx rfl (hb hby at_22) rfl rfl (l' := #[.val (.int i0), .val (.int i1), .val (.int i2), .val (.int i3), .val (.int i4), .val (.int (1 : Int32)), .val (.int (own_v0_17_2 i0 i1 i2 i3 i4)), .val (.ref b12), .unset]) rfl ?_
      show Steps p.tables e below (T12.setTop (mkF m 24 #[.val (.int i0), .val (.int i1), .val (.int i2), .val (.int i3), .val (.int i4), .val (.int (1 : Int32)), .val (.int (own_v0_17_2 i0 i1 i2 i3 i4)), .val (.ref b12), .unset] [])) _
      refine XS.aload X12.here hx rfl (hb hby at_24) rfl rfl ?_
      show Steps p.tables e below (T12.setTop (mkF m 26 #[.val (.int i0), .val (.int i1), .val (.int i2), .val (.int i3), .val (.int i4), .val (.int (1 : Int32)), .val (.int (own_v0_17_2 i0 i1 i2 i3 i4)), .val (.ref b12), .unset] [(.ref b12)])) _
      refine XS.iconst X12.here hx rfl (hb hby at_26) ?_
      show Steps p.tables e below (T12.setTop (mkF m 27 #[.val (.int i0), .val (.int i1), .val (.int i2), .val (.int i3), .val (.int i4), .val (.int (1 : Int32)), .val (.int (own_v0_17_2 i0 i1 i2 i3 i4)), .val (.ref b12), .unset] [(.int (0 : Int32)), (.ref b12)])) _
      refine XS.iload X12.here hx rfl (hb hby at_27) rfl ?_
      show Steps p.tables e below (T12.setTop (mkF m 29 #[.val (.int i0), .val (.int i1), .val (.int i2), .val (.int i3), .val (.int i4), .val (.int (1 : Int32)), .val (.int (own_v0_17_2 i0 i1 i2 i3 i4)), .val (.ref b12), .unset] [(.int i4), (.int (0 : Int32)), (.ref b12)])) _
      refine XS.iconst X12.here hx rfl (hb hby at_29) ?_
      show Steps p.tables e below (T12.setTop (mkF m 30 #[.val (.int i0), .val (.int i1), .val (.int i2), .val (.int i3), .val (.int i4), .val (.int (1 : Int32)), .val (.int (own_v0_17_2 i0 i1 i2 i3 i4)), .val (.ref b12), .unset] [(.int (3 : Int32)), (.int i4), (.int (0 : Int32)), (.ref b12)])) _
      refine XS.iushr X12.here hx rfl (hb hby at_30) rfl ?_
      show Steps p.tables e below (T12.setTop (mkF m 31 #[.val (.int i0), .val (.int i1), .val (.int i2), .val (.int i3), .val (.int i4), .val (.int (1 : Int32)), .val (.int (own_v0_17_2 i0 i1 i2 i3 i4)), .val (.ref b12), .unset] [(.int ((i4.toUInt32 >>> ((3 : Int32) &&& 31).toUInt32).toInt32)), (.int (0 : Int32)), (.ref b12)])) _
      refine XS.i2b X12.here hx rfl (hb hby at_31) rfl ?_
      exact kt
    obtain ⟨cl13, Ar13, q13, S13, Nn13, Hh13, G13⟩ := id V12
    have hin13 : ¬ ((0 : Int32) < 0 ∨ cl13.slots.size ≤ ((0 : Int32)).toNatClampNeg) := inb_of S13 ⟨by decide, by decide⟩
    obtain ⟨T13, h13, X13, e13, W13, st13⟩ := stB X12 hx hZ e12 Ar13 (j := (0 : Int32)) hin13 (g := (mkF m 32 #[.val (.int i0), .val (.int i1), .val (.int i2), .val (.int i3), .val (.int i4), .val (.int (1 : Int32)), .val (.int (own_v0_17_2 i0 i1 i2 i3 i4)), .val (.ref b12), .unset] [(.int (((i4.toUInt32 >>> ((3 : Int32) &&& 31).toUInt32).toInt32).toInt8.toInt32)), (.int (0 : Int32)), (.ref b12)])) rfl rfl (hb hby at_32)
    have V13 : Arv Z h13 b12 k12 .byte (5 : Int32) [(.int ((((i4.toUInt32 >>> ((3 : Int32) &&& 31).toUInt32).toInt32).toInt8.toInt32).toInt8.toInt32)), (.int (0 : Int32)), (.int (0 : Int32)), (.int (0 : Int32)), (.int (0 : Int32))] (.int (0 : Int32)) := Arv.set Ar13 q13 S13 Nn13 Hh13 G13 (fits_nar_byte _) W13 0 rfl (Nat.le_of_ble_eq_true rfl)
    have K13 : Keep h0 h13 [] := K12.wr W13 (Or.inr sz_b12)
    have N13 := Fr.snoc X13 N0 ge_b12
    refine ownE.go (T' := T13) (f' := (mkF m 33 #[.val (.int i0), .val (.int i1), .val (.int i2), .val (.int i3), .val (.int i4), .val (.int (1 : Int32)), .val (.int (own_v0_17_2 i0 i1 i2 i3 i4)), .val (.ref b12), .unset] [])) st13 ?_
    refine ownE.go (T' := T13) (f' := (mkF m 42 #[.val (.int i0), .val (.int i1), .val (.int i2), .val (.int i3), .val (.int i4), .val (.int (1 : Int32)), .val (.int (own_v0_17_2 i0 i1 i2 i3 i4)), .val (.ref b12), .unset] [(.int (((i4.toUInt32 >>> ((11 : Int32) &&& 31).toUInt32).toInt32).toInt8.toInt32)), (.int (4 : Int32)), (.ref b12)])) (fun t kt => ?_) ?_
    · show Steps p.tables e below (T13.setTop (mkF m 33 #[.val (.int i0), .val (.int i1), .val (.int i2), .val (.int i3), .val (.int i4), .val (.int (1 : Int32)), .val (.int (own_v0_17_2 i0 i1 i2 i3 i4)), .val (.ref b12), .unset] [])) _
      refine XS.aload X13.here hx rfl (hb hby at_33) rfl rfl ?_
      show Steps p.tables e below (T13.setTop (mkF m 35 #[.val (.int i0), .val (.int i1), .val (.int i2), .val (.int i3), .val (.int i4), .val (.int (1 : Int32)), .val (.int (own_v0_17_2 i0 i1 i2 i3 i4)), .val (.ref b12), .unset] [(.ref b12)])) _
      refine XS.iconst X13.here hx rfl (hb hby at_35) ?_
      show Steps p.tables e below (T13.setTop (mkF m 36 #[.val (.int i0), .val (.int i1), .val (.int i2), .val (.int i3), .val (.int i4), .val (.int (1 : Int32)), .val (.int (own_v0_17_2 i0 i1 i2 i3 i4)), .val (.ref b12), .unset] [(.int (4 : Int32)), (.ref b12)])) _
      refine XS.iload X13.here hx rfl (hb hby at_36) rfl ?_
      show Steps p.tables e below (T13.setTop (mkF m 38 #[.val (.int i0), .val (.int i1), .val (.int i2), .val (.int i3), .val (.int i4), .val (.int (1 : Int32)), .val (.int (own_v0_17_2 i0 i1 i2 i3 i4)), .val (.ref b12), .unset] [(.int i4), (.int (4 : Int32)), (.ref b12)])) _
      refine XS.bipush X13.here hx rfl (hb hby at_38) ?_
      show Steps p.tables e below (T13.setTop (mkF m 40 #[.val (.int i0), .val (.int i1), .val (.int i2), .val (.int i3), .val (.int i4), .val (.int (1 : Int32)), .val (.int (own_v0_17_2 i0 i1 i2 i3 i4)), .val (.ref b12), .unset] [(.int (11 : Int32)), (.int i4), (.int (4 : Int32)), (.ref b12)])) _
      refine XS.iushr X13.here hx rfl (hb hby at_40) rfl ?_
      show Steps p.tables e below (T13.setTop (mkF m 41 #[.val (.int i0), .val (.int i1), .val (.int i2), .val (.int i3), .val (.int i4), .val (.int (1 : Int32)), .val (.int (own_v0_17_2 i0 i1 i2 i3 i4)), .val (.ref b12), .unset] [(.int ((i4.toUInt32 >>> ((11 : Int32) &&& 31).toUInt32).toInt32)), (.int (4 : Int32)), (.ref b12)])) _
      refine XS.i2b X13.here hx rfl (hb hby at_41) rfl ?_
      exact kt
    obtain ⟨cl14, Ar14, q14, S14, Nn14, Hh14, G14⟩ := id V13
    have hin14 : ¬ ((4 : Int32) < 0 ∨ cl14.slots.size ≤ ((4 : Int32)).toNatClampNeg) := inb_of S14 ⟨by decide, by decide⟩
    obtain ⟨T14, h14, X14, e14, W14, st14⟩ := stB X13 hx hZ e13 Ar14 (j := (4 : Int32)) hin14 (g := (mkF m 42 #[.val (.int i0), .val (.int i1), .val (.int i2), .val (.int i3), .val (.int i4), .val (.int (1 : Int32)), .val (.int (own_v0_17_2 i0 i1 i2 i3 i4)), .val (.ref b12), .unset] [(.int (((i4.toUInt32 >>> ((11 : Int32) &&& 31).toUInt32).toInt32).toInt8.toInt32)), (.int (4 : Int32)), (.ref b12)])) rfl rfl (hb hby at_42)
    have V14 : Arv Z h14 b12 k12 .byte (5 : Int32) [(.int ((((i4.toUInt32 >>> ((3 : Int32) &&& 31).toUInt32).toInt32).toInt8.toInt32).toInt8.toInt32)), (.int (0 : Int32)), (.int (0 : Int32)), (.int (0 : Int32)), (.int ((((i4.toUInt32 >>> ((11 : Int32) &&& 31).toUInt32).toInt32).toInt8.toInt32).toInt8.toInt32))] (.int (0 : Int32)) := Arv.set Ar14 q14 S14 Nn14 Hh14 G14 (fits_nar_byte _) W14 4 rfl (Nat.le_of_ble_eq_true rfl)
    have K14 : Keep h0 h14 [] := K13.wr W14 (Or.inr sz_b12)
    have N14 := Fr.snoc X14 N13 ge_b12
    refine ownE.go (T' := T14) (f' := (mkF m 43 #[.val (.int i0), .val (.int i1), .val (.int i2), .val (.int i3), .val (.int i4), .val (.int (1 : Int32)), .val (.int (own_v0_17_2 i0 i1 i2 i3 i4)), .val (.ref b12), .unset] [])) st14 ?_
    refine ownE.go (T' := T14) (f' := (mkF m 49 #[.val (.int i0), .val (.int i1), .val (.int i2), .val (.int i3), .val (.int i4), .val (.int (1 : Int32)), .val (.int (own_v0_17_2 i0 i1 i2 i3 i4)), .val (.ref b12), .unset] [(.int (i0.toInt8.toInt32)), (.int (1 : Int32)), (.ref b12)])) (fun t kt => ?_) ?_
    · show Steps p.tables e below (T14.setTop (mkF m 43 #[.val (.int i0), .val (.int i1), .val (.int i2), .val (.int i3), .val (.int i4), .val (.int (1 : Int32)), .val (.int (own_v0_17_2 i0 i1 i2 i3 i4)), .val (.ref b12), .unset] [])) _
      refine XS.aload X14.here hx rfl (hb hby at_43) rfl rfl ?_
      show Steps p.tables e below (T14.setTop (mkF m 45 #[.val (.int i0), .val (.int i1), .val (.int i2), .val (.int i3), .val (.int i4), .val (.int (1 : Int32)), .val (.int (own_v0_17_2 i0 i1 i2 i3 i4)), .val (.ref b12), .unset] [(.ref b12)])) _
      refine XS.iload X14.here hx rfl (hb hby at_45) rfl ?_
      show Steps p.tables e below (T14.setTop (mkF m 47 #[.val (.int i0), .val (.int i1), .val (.int i2), .val (.int i3), .val (.int i4), .val (.int (1 : Int32)), .val (.int (own_v0_17_2 i0 i1 i2 i3 i4)), .val (.ref b12), .unset] [(.int (1 : Int32)), (.ref b12)])) _
      refine XS.iloadN X14.here hx rfl (hb hby at_47) rfl ?_
      show Steps p.tables e below (T14.setTop (mkF m 48 #[.val (.int i0), .val (.int i1), .val (.int i2), .val (.int i3), .val (.int i4), .val (.int (1 : Int32)), .val (.int (own_v0_17_2 i0 i1 i2 i3 i4)), .val (.ref b12), .unset] [(.int i0), (.int (1 : Int32)), (.ref b12)])) _
      refine XS.i2b X14.here hx rfl (hb hby at_48) rfl ?_
      exact kt
    obtain ⟨cl15, Ar15, q15, S15, Nn15, Hh15, G15⟩ := id V14
    have hin15 : ¬ ((1 : Int32) < 0 ∨ cl15.slots.size ≤ ((1 : Int32)).toNatClampNeg) := inb_of S15 ⟨by decide, by decide⟩
    obtain ⟨T15, h15, X15, e15, W15, st15⟩ := stB X14 hx hZ e14 Ar15 (j := (1 : Int32)) hin15 (g := (mkF m 49 #[.val (.int i0), .val (.int i1), .val (.int i2), .val (.int i3), .val (.int i4), .val (.int (1 : Int32)), .val (.int (own_v0_17_2 i0 i1 i2 i3 i4)), .val (.ref b12), .unset] [(.int (i0.toInt8.toInt32)), (.int (1 : Int32)), (.ref b12)])) rfl rfl (hb hby at_49)
    have V15 : Arv Z h15 b12 k12 .byte (5 : Int32) [(.int ((((i4.toUInt32 >>> ((3 : Int32) &&& 31).toUInt32).toInt32).toInt8.toInt32).toInt8.toInt32)), (.int ((i0.toInt8.toInt32).toInt8.toInt32)), (.int (0 : Int32)), (.int (0 : Int32)), (.int ((((i4.toUInt32 >>> ((11 : Int32) &&& 31).toUInt32).toInt32).toInt8.toInt32).toInt8.toInt32))] (.int (0 : Int32)) := Arv.set Ar15 q15 S15 Nn15 Hh15 G15 (fits_nar_byte _) W15 1 rfl (Nat.le_of_ble_eq_true rfl)
    have K15 : Keep h0 h15 [] := K14.wr W15 (Or.inr sz_b12)
    have N15 := Fr.snoc X15 N14 ge_b12
    refine ownE.go (T' := T15) (f' := (mkF m 50 #[.val (.int i0), .val (.int i1), .val (.int i2), .val (.int i3), .val (.int i4), .val (.int (1 : Int32)), .val (.int (own_v0_17_2 i0 i1 i2 i3 i4)), .val (.ref b12), .unset] [])) st15 ?_
    refine ownE.go (T' := T15) (f' := (mkF m 58 #[.val (.int i0), .val (.int i1), .val (.int i2), .val (.int i3), .val (.int i4), .val (.int (1 : Int32)), .val (.int (own_v0_17_2 i0 i1 i2 i3 i4)), .val (.ref b12), .unset] [(.int (i1.toInt8.toInt32)), (.int (2 : Int32)), (.ref b12)])) (fun t kt => ?_) ?_
    · show Steps p.tables e below (T15.setTop (mkF m 50 #[.val (.int i0), .val (.int i1), .val (.int i2), .val (.int i3), .val (.int i4), .val (.int (1 : Int32)), .val (.int (own_v0_17_2 i0 i1 i2 i3 i4)), .val (.ref b12), .unset] [])) _
      refine XS.aload X15.here hx rfl (hb hby at_50) rfl rfl ?_
      show Steps p.tables e below (T15.setTop (mkF m 52 #[.val (.int i0), .val (.int i1), .val (.int i2), .val (.int i3), .val (.int i4), .val (.int (1 : Int32)), .val (.int (own_v0_17_2 i0 i1 i2 i3 i4)), .val (.ref b12), .unset] [(.ref b12)])) _
      refine XS.iload X15.here hx rfl (hb hby at_52) rfl ?_
      show Steps p.tables e below (T15.setTop (mkF m 54 #[.val (.int i0), .val (.int i1), .val (.int i2), .val (.int i3), .val (.int i4), .val (.int (1 : Int32)), .val (.int (own_v0_17_2 i0 i1 i2 i3 i4)), .val (.ref b12), .unset] [(.int (1 : Int32)), (.ref b12)])) _
      refine XS.iconst X15.here hx rfl (hb hby at_54) ?_
      show Steps p.tables e below (T15.setTop (mkF m 55 #[.val (.int i0), .val (.int i1), .val (.int i2), .val (.int i3), .val (.int i4), .val (.int (1 : Int32)), .val (.int (own_v0_17_2 i0 i1 i2 i3 i4)), .val (.ref b12), .unset] [(.int (1 : Int32)), (.int (1 : Int32)), (.ref b12)])) _
      refine XS.iadd X15.here hx rfl (hb hby at_55) rfl ?_
      show Steps p.tables e below (T15.setTop (mkF m 56 #[.val (.int i0), .val (.int i1), .val (.int i2), .val (.int i3), .val (.int i4), .val (.int (1 : Int32)), .val (.int (own_v0_17_2 i0 i1 i2 i3 i4)), .val (.ref b12), .unset] [(.int (2 : Int32)), (.ref b12)])) _
      refine XS.iloadN X15.here hx rfl (hb hby at_56) rfl ?_
      show Steps p.tables e below (T15.setTop (mkF m 57 #[.val (.int i0), .val (.int i1), .val (.int i2), .val (.int i3), .val (.int i4), .val (.int (1 : Int32)), .val (.int (own_v0_17_2 i0 i1 i2 i3 i4)), .val (.ref b12), .unset] [(.int i1), (.int (2 : Int32)), (.ref b12)])) _
      refine XS.i2b X15.here hx rfl (hb hby at_57) rfl ?_
      exact kt
    obtain ⟨cl16, Ar16, q16, S16, Nn16, Hh16, G16⟩ := id V15
    have hin16 : ¬ ((2 : Int32) < 0 ∨ cl16.slots.size ≤ ((2 : Int32)).toNatClampNeg) := inb_of S16 ⟨by decide, by decide⟩
    obtain ⟨T16, h16, X16, e16, W16, st16⟩ := stB X15 hx hZ e15 Ar16 (j := (2 : Int32)) hin16 (g := (mkF m 58 #[.val (.int i0), .val (.int i1), .val (.int i2), .val (.int i3), .val (.int i4), .val (.int (1 : Int32)), .val (.int (own_v0_17_2 i0 i1 i2 i3 i4)), .val (.ref b12), .unset] [(.int (i1.toInt8.toInt32)), (.int (2 : Int32)), (.ref b12)])) rfl rfl (hb hby at_58)
    have V16 : Arv Z h16 b12 k12 .byte (5 : Int32) [(.int ((((i4.toUInt32 >>> ((3 : Int32) &&& 31).toUInt32).toInt32).toInt8.toInt32).toInt8.toInt32)), (.int ((i0.toInt8.toInt32).toInt8.toInt32)), (.int ((i1.toInt8.toInt32).toInt8.toInt32)), (.int (0 : Int32)), (.int ((((i4.toUInt32 >>> ((11 : Int32) &&& 31).toUInt32).toInt32).toInt8.toInt32).toInt8.toInt32))] (.int (0 : Int32)) := Arv.set Ar16 q16 S16 Nn16 Hh16 G16 (fits_nar_byte _) W16 2 rfl (Nat.le_of_ble_eq_true rfl)
    have K16 : Keep h0 h16 [] := K15.wr W16 (Or.inr sz_b12)
    have N16 := Fr.snoc X16 N15 ge_b12
    refine ownE.go (T' := T16) (f' := (mkF m 59 #[.val (.int i0), .val (.int i1), .val (.int i2), .val (.int i3), .val (.int i4), .val (.int (1 : Int32)), .val (.int (own_v0_17_2 i0 i1 i2 i3 i4)), .val (.ref b12), .unset] [])) st16 ?_
    refine ownE.go (T' := T16) (f' := (mkF m 67 #[.val (.int i0), .val (.int i1), .val (.int i2), .val (.int i3), .val (.int i4), .val (.int (1 : Int32)), .val (.int (own_v0_17_2 i0 i1 i2 i3 i4)), .val (.ref b12), .unset] [(.int (i2.toInt8.toInt32)), (.int (3 : Int32)), (.ref b12)])) (fun t kt => ?_) ?_
    · show Steps p.tables e below (T16.setTop (mkF m 59 #[.val (.int i0), .val (.int i1), .val (.int i2), .val (.int i3), .val (.int i4), .val (.int (1 : Int32)), .val (.int (own_v0_17_2 i0 i1 i2 i3 i4)), .val (.ref b12), .unset] [])) _
      refine XS.aload X16.here hx rfl (hb hby at_59) rfl rfl ?_
      show Steps p.tables e below (T16.setTop (mkF m 61 #[.val (.int i0), .val (.int i1), .val (.int i2), .val (.int i3), .val (.int i4), .val (.int (1 : Int32)), .val (.int (own_v0_17_2 i0 i1 i2 i3 i4)), .val (.ref b12), .unset] [(.ref b12)])) _
      refine XS.iload X16.here hx rfl (hb hby at_61) rfl ?_
      show Steps p.tables e below (T16.setTop (mkF m 63 #[.val (.int i0), .val (.int i1), .val (.int i2), .val (.int i3), .val (.int i4), .val (.int (1 : Int32)), .val (.int (own_v0_17_2 i0 i1 i2 i3 i4)), .val (.ref b12), .unset] [(.int (1 : Int32)), (.ref b12)])) _
      refine XS.iconst X16.here hx rfl (hb hby at_63) ?_
      show Steps p.tables e below (T16.setTop (mkF m 64 #[.val (.int i0), .val (.int i1), .val (.int i2), .val (.int i3), .val (.int i4), .val (.int (1 : Int32)), .val (.int (own_v0_17_2 i0 i1 i2 i3 i4)), .val (.ref b12), .unset] [(.int (2 : Int32)), (.int (1 : Int32)), (.ref b12)])) _
      refine XS.iadd X16.here hx rfl (hb hby at_64) rfl ?_
      show Steps p.tables e below (T16.setTop (mkF m 65 #[.val (.int i0), .val (.int i1), .val (.int i2), .val (.int i3), .val (.int i4), .val (.int (1 : Int32)), .val (.int (own_v0_17_2 i0 i1 i2 i3 i4)), .val (.ref b12), .unset] [(.int (3 : Int32)), (.ref b12)])) _
      refine XS.iloadN X16.here hx rfl (hb hby at_65) rfl ?_
      show Steps p.tables e below (T16.setTop (mkF m 66 #[.val (.int i0), .val (.int i1), .val (.int i2), .val (.int i3), .val (.int i4), .val (.int (1 : Int32)), .val (.int (own_v0_17_2 i0 i1 i2 i3 i4)), .val (.ref b12), .unset] [(.int i2), (.int (3 : Int32)), (.ref b12)])) _
      refine XS.i2b X16.here hx rfl (hb hby at_66) rfl ?_
      exact kt
    obtain ⟨cl17, Ar17, q17, S17, Nn17, Hh17, G17⟩ := id V16
    have hin17 : ¬ ((3 : Int32) < 0 ∨ cl17.slots.size ≤ ((3 : Int32)).toNatClampNeg) := inb_of S17 ⟨by decide, by decide⟩
    obtain ⟨T17, h17, X17, e17, W17, st17⟩ := stB X16 hx hZ e16 Ar17 (j := (3 : Int32)) hin17 (g := (mkF m 67 #[.val (.int i0), .val (.int i1), .val (.int i2), .val (.int i3), .val (.int i4), .val (.int (1 : Int32)), .val (.int (own_v0_17_2 i0 i1 i2 i3 i4)), .val (.ref b12), .unset] [(.int (i2.toInt8.toInt32)), (.int (3 : Int32)), (.ref b12)])) rfl rfl (hb hby at_67)
    have V17 : Arv Z h17 b12 k12 .byte (5 : Int32) [(.int ((((i4.toUInt32 >>> ((3 : Int32) &&& 31).toUInt32).toInt32).toInt8.toInt32).toInt8.toInt32)), (.int ((i0.toInt8.toInt32).toInt8.toInt32)), (.int ((i1.toInt8.toInt32).toInt8.toInt32)), (.int ((i2.toInt8.toInt32).toInt8.toInt32)), (.int ((((i4.toUInt32 >>> ((11 : Int32) &&& 31).toUInt32).toInt32).toInt8.toInt32).toInt8.toInt32))] (.int (0 : Int32)) := Arv.set Ar17 q17 S17 Nn17 Hh17 G17 (fits_nar_byte _) W17 3 rfl (Nat.le_of_ble_eq_true rfl)
    have K17 : Keep h0 h17 [] := K16.wr W17 (Or.inr sz_b12)
    have N17 := Fr.snoc X17 N16 ge_b12
    refine ownE.go (T' := T17) (f' := (mkF m 68 #[.val (.int i0), .val (.int i1), .val (.int i2), .val (.int i3), .val (.int i4), .val (.int (1 : Int32)), .val (.int (own_v0_17_2 i0 i1 i2 i3 i4)), .val (.ref b12), .unset] [])) st17 ?_
    refine ownE.go (T' := T17) (f' := (mkF m 76 #[.val (.int i0), .val (.int i1), .val (.int i2), .val (.int i3), .val (.int i4), .val (.int (1 : Int32)), .val (.int (own_v0_17_2 i0 i1 i2 i3 i4)), .val (.ref b12), .unset] [(.int (i3.toInt8.toInt32)), (.int (4 : Int32)), (.ref b12)])) (fun t kt => ?_) ?_
    · show Steps p.tables e below (T17.setTop (mkF m 68 #[.val (.int i0), .val (.int i1), .val (.int i2), .val (.int i3), .val (.int i4), .val (.int (1 : Int32)), .val (.int (own_v0_17_2 i0 i1 i2 i3 i4)), .val (.ref b12), .unset] [])) _
      refine XS.aload X17.here hx rfl (hb hby at_68) rfl rfl ?_
      show Steps p.tables e below (T17.setTop (mkF m 70 #[.val (.int i0), .val (.int i1), .val (.int i2), .val (.int i3), .val (.int i4), .val (.int (1 : Int32)), .val (.int (own_v0_17_2 i0 i1 i2 i3 i4)), .val (.ref b12), .unset] [(.ref b12)])) _
      refine XS.iload X17.here hx rfl (hb hby at_70) rfl ?_
      show Steps p.tables e below (T17.setTop (mkF m 72 #[.val (.int i0), .val (.int i1), .val (.int i2), .val (.int i3), .val (.int i4), .val (.int (1 : Int32)), .val (.int (own_v0_17_2 i0 i1 i2 i3 i4)), .val (.ref b12), .unset] [(.int (1 : Int32)), (.ref b12)])) _
      refine XS.iconst X17.here hx rfl (hb hby at_72) ?_
      show Steps p.tables e below (T17.setTop (mkF m 73 #[.val (.int i0), .val (.int i1), .val (.int i2), .val (.int i3), .val (.int i4), .val (.int (1 : Int32)), .val (.int (own_v0_17_2 i0 i1 i2 i3 i4)), .val (.ref b12), .unset] [(.int (3 : Int32)), (.int (1 : Int32)), (.ref b12)])) _
      refine XS.iadd X17.here hx rfl (hb hby at_73) rfl ?_
      show Steps p.tables e below (T17.setTop (mkF m 74 #[.val (.int i0), .val (.int i1), .val (.int i2), .val (.int i3), .val (.int i4), .val (.int (1 : Int32)), .val (.int (own_v0_17_2 i0 i1 i2 i3 i4)), .val (.ref b12), .unset] [(.int (4 : Int32)), (.ref b12)])) _
      refine XS.iloadN X17.here hx rfl (hb hby at_74) rfl ?_
      show Steps p.tables e below (T17.setTop (mkF m 75 #[.val (.int i0), .val (.int i1), .val (.int i2), .val (.int i3), .val (.int i4), .val (.int (1 : Int32)), .val (.int (own_v0_17_2 i0 i1 i2 i3 i4)), .val (.ref b12), .unset] [(.int i3), (.int (4 : Int32)), (.ref b12)])) _
      refine XS.i2b X17.here hx rfl (hb hby at_75) rfl ?_
      exact kt
    obtain ⟨cl18, Ar18, q18, S18, Nn18, Hh18, G18⟩ := id V17
    have hin18 : ¬ ((4 : Int32) < 0 ∨ cl18.slots.size ≤ ((4 : Int32)).toNatClampNeg) := inb_of S18 ⟨by decide, by decide⟩
    obtain ⟨T18, h18, X18, e18, W18, st18⟩ := stB X17 hx hZ e17 Ar18 (j := (4 : Int32)) hin18 (g := (mkF m 76 #[.val (.int i0), .val (.int i1), .val (.int i2), .val (.int i3), .val (.int i4), .val (.int (1 : Int32)), .val (.int (own_v0_17_2 i0 i1 i2 i3 i4)), .val (.ref b12), .unset] [(.int (i3.toInt8.toInt32)), (.int (4 : Int32)), (.ref b12)])) rfl rfl (hb hby at_76)
    have V18 : Arv Z h18 b12 k12 .byte (5 : Int32) [(.int ((((i4.toUInt32 >>> ((3 : Int32) &&& 31).toUInt32).toInt32).toInt8.toInt32).toInt8.toInt32)), (.int ((i0.toInt8.toInt32).toInt8.toInt32)), (.int ((i1.toInt8.toInt32).toInt8.toInt32)), (.int ((i2.toInt8.toInt32).toInt8.toInt32)), (.int ((i3.toInt8.toInt32).toInt8.toInt32))] (.int (0 : Int32)) := Arv.set Ar18 q18 S18 Nn18 Hh18 G18 (fits_nar_byte _) W18 4 rfl (Nat.le_of_ble_eq_true rfl)
    have K18 : Keep h0 h18 [] := K17.wr W18 (Or.inr sz_b12)
    have N18 := Fr.snoc X18 N17 ge_b12
    refine ownE.go (T' := T18) (f' := (mkF m 77 #[.val (.int i0), .val (.int i1), .val (.int i2), .val (.int i3), .val (.int i4), .val (.int (1 : Int32)), .val (.int (own_v0_17_2 i0 i1 i2 i3 i4)), .val (.ref b12), .unset] [])) st18 ?_
    refine ownE.go (T' := T18) (f' := (mkF m 83 #[.val (.int i0), .val (.int i1), .val (.int i2), .val (.int i3), .val (.int i4), .val (.int (1 : Int32)), .val (.int (own_v0_17_2 i0 i1 i2 i3 i4)), .val (.ref b12), .unset] [(.int (own_v0_17_2 i0 i1 i2 i3 i4)), (.int (1 : Int32)), (.ref b12)])) (fun t kt => ?_) ?_
    · show Steps p.tables e below (T18.setTop (mkF m 77 #[.val (.int i0), .val (.int i1), .val (.int i2), .val (.int i3), .val (.int i4), .val (.int (1 : Int32)), .val (.int (own_v0_17_2 i0 i1 i2 i3 i4)), .val (.ref b12), .unset] [])) _
      refine XS.aload X18.here hx rfl (hb hby at_77) rfl rfl ?_
      show Steps p.tables e below (T18.setTop (mkF m 79 #[.val (.int i0), .val (.int i1), .val (.int i2), .val (.int i3), .val (.int i4), .val (.int (1 : Int32)), .val (.int (own_v0_17_2 i0 i1 i2 i3 i4)), .val (.ref b12), .unset] [(.ref b12)])) _
      refine XS.iload X18.here hx rfl (hb hby at_79) rfl ?_
      show Steps p.tables e below (T18.setTop (mkF m 81 #[.val (.int i0), .val (.int i1), .val (.int i2), .val (.int i3), .val (.int i4), .val (.int (1 : Int32)), .val (.int (own_v0_17_2 i0 i1 i2 i3 i4)), .val (.ref b12), .unset] [(.int (1 : Int32)), (.ref b12)])) _
      refine XS.iload X18.here hx rfl (hb hby at_81) rfl ?_
      exact kt
    obtain ⟨_, _, ⟨T19, L19, k19, n19⟩, -, X19, ⟨Lc19, hQ19, l19, y19, z19⟩, st19⟩ := Jvm.LawKit.callS X18 hx (y := (⟨"traceward/schema/Utf8", "codePoint", "([BII)I"⟩ : MethodName)) hown (mvT hZ (hw _ (List.mem_of_getElem? (i := 1) rfl))) (mvT hZ (hw _ (List.mem_of_getElem? (i := 2) rfl))) (mvT hZ (hw _ (List.mem_of_getElem? (i := 3) rfl))) (mvT hZ (hw _ (List.mem_of_getElem? (i := 4) rfl))) (by decide) (backOf (W := 0) (own_rm1a1 l Z a0 hw [] b12 (own_v0_17_2 i0 i1 i2 i3 i4) k12 ((((i4.toUInt32 >>> ((3 : Int32) &&& 31).toUInt32).toInt32).toInt8.toInt32).toInt8.toInt32) ((i0.toInt8.toInt32).toInt8.toInt32) ((i1.toInt8.toInt32).toInt8.toInt32) ((i2.toInt8.toInt32).toInt8.toInt32) ((i3.toInt8.toInt32).toInt8.toInt32) h18 n0 (Nat.le_trans Z0 K18.1) V18) hZ (hw _ (List.mem_of_getElem? (i := 4) rfl)) (hw _ (List.mem_of_getElem? (i := 3) rfl)) (by decide) (by decide)) (g := (mkF m 83 #[.val (.int i0), .val (.int i1), .val (.int i2), .val (.int i3), .val (.int i4), .val (.int (1 : Int32)), .val (.int (own_v0_17_2 i0 i1 i2 i3 i4)), .val (.ref b12), .unset] [(.int (own_v0_17_2 i0 i1 i2 i3 i4)), (.int (1 : Int32)), (.ref b12)])) rfl (by rw [hml]; rfl) (argsL := [(.ref b12), (.int (1 : Int32)), (.int (own_v0_17_2 i0 i1 i2 i3 i4))]) (rest := []) (lenOf own_pd3 rfl) rfl (by show 2 * 0 + _ ≤ _; exact Nat.le_of_eq rfl) (hb hby at_83) (fun _ _ => ⟨rfl, e18, (by decide : 1 + 0 ≤ _), (by decide : 5 + 0 ≤ _)⟩)
    dsimp only [Pt.U, Pt.locs, Pt.cells, Pt.slots] at X19 l19 y19 z19 st19 hQ19
    subst l19 y19 z19
    obtain ⟨rfl, N19q, e19⟩ := hQ19
    have N19 := Fr.app N18 N19q
    refine ownE.go (T' := T19) (f' := (mkF m 86 #[.val (.int i0), .val (.int i1), .val (.int i2), .val (.int i3), .val (.int i4), .val (.int (1 : Int32)), .val (.int (own_v0_17_2 i0 i1 i2 i3 i4)), .val (.ref b12), .unset] [(.int (own_cp1 (own_v0_17_2 i0 i1 i2 i3 i4) ((((i4.toUInt32 >>> ((3 : Int32) &&& 31).toUInt32).toInt32).toInt8.toInt32).toInt8.toInt32) ((i0.toInt8.toInt32).toInt8.toInt32) ((i1.toInt8.toInt32).toInt8.toInt32) ((i2.toInt8.toInt32).toInt8.toInt32) ((i3.toInt8.toInt32).toInt8.toInt32)))])) st19 ?_
    refine ownE.go (T' := T19) (f' := (mkF m 115 #[.val (.int i0), .val (.int i1), .val (.int i2), .val (.int i3), .val (.int i4), .val (.int (1 : Int32)), .val (.int (own_v0_17_2 i0 i1 i2 i3 i4)), .val (.ref b12), .val (.int (own_cp1 (own_v0_17_2 i0 i1 i2 i3 i4) ((((i4.toUInt32 >>> ((3 : Int32) &&& 31).toUInt32).toInt32).toInt8.toInt32).toInt8.toInt32) ((i0.toInt8.toInt32).toInt8.toInt32) ((i1.toInt8.toInt32).toInt8.toInt32) ((i2.toInt8.toInt32).toInt8.toInt32) ((i3.toInt8.toInt32).toInt8.toInt32)))] [(.int ((own_v0_17_2 i0 i1 i2 i3 i4) - (1 : Int32))), (.int (i3 &&& (255 : Int32))), (.int (i2 &&& (255 : Int32))), (.int (i1 &&& (255 : Int32))), (.int (i0 &&& (255 : Int32))), (.int (own_cp1 (own_v0_17_2 i0 i1 i2 i3 i4) ((((i4.toUInt32 >>> ((3 : Int32) &&& 31).toUInt32).toInt32).toInt8.toInt32).toInt8.toInt32) ((i0.toInt8.toInt32).toInt8.toInt32) ((i1.toInt8.toInt32).toInt8.toInt32) ((i2.toInt8.toInt32).toInt8.toInt32) ((i3.toInt8.toInt32).toInt8.toInt32)))])) (fun t kt => ?_) ?_
    · show Steps p.tables e below (T19.setTop (mkF m 86 #[.val (.int i0), .val (.int i1), .val (.int i2), .val (.int i3), .val (.int i4), .val (.int (1 : Int32)), .val (.int (own_v0_17_2 i0 i1 i2 i3 i4)), .val (.ref b12), .unset] [(.int (own_cp1 (own_v0_17_2 i0 i1 i2 i3 i4) ((((i4.toUInt32 >>> ((3 : Int32) &&& 31).toUInt32).toInt32).toInt8.toInt32).toInt8.toInt32) ((i0.toInt8.toInt32).toInt8.toInt32) ((i1.toInt8.toInt32).toInt8.toInt32) ((i2.toInt8.toInt32).toInt8.toInt32) ((i3.toInt8.toInt32).toInt8.toInt32)))])) _
      refine XS.istore X19.here hx rfl (hb hby at_86) rfl (l' := #[.val (.int i0), .val (.int i1), .val (.int i2), .val (.int i3), .val (.int i4), .val (.int (1 : Int32)), .val (.int (own_v0_17_2 i0 i1 i2 i3 i4)), .val (.ref b12), .val (.int (own_cp1 (own_v0_17_2 i0 i1 i2 i3 i4) ((((i4.toUInt32 >>> ((3 : Int32) &&& 31).toUInt32).toInt32).toInt8.toInt32).toInt8.toInt32) ((i0.toInt8.toInt32).toInt8.toInt32) ((i1.toInt8.toInt32).toInt8.toInt32) ((i2.toInt8.toInt32).toInt8.toInt32) ((i3.toInt8.toInt32).toInt8.toInt32)))]) rfl ?_
      show Steps p.tables e below (T19.setTop (mkF m 88 #[.val (.int i0), .val (.int i1), .val (.int i2), .val (.int i3), .val (.int i4), .val (.int (1 : Int32)), .val (.int (own_v0_17_2 i0 i1 i2 i3 i4)), .val (.ref b12), .val (.int (own_cp1 (own_v0_17_2 i0 i1 i2 i3 i4) ((((i4.toUInt32 >>> ((3 : Int32) &&& 31).toUInt32).toInt32).toInt8.toInt32).toInt8.toInt32) ((i0.toInt8.toInt32).toInt8.toInt32) ((i1.toInt8.toInt32).toInt8.toInt32) ((i2.toInt8.toInt32).toInt8.toInt32) ((i3.toInt8.toInt32).toInt8.toInt32)))] [])) _
      refine XS.iload X19.here hx rfl (hb hby at_88) rfl ?_
      show Steps p.tables e below (T19.setTop (mkF m 90 #[.val (.int i0), .val (.int i1), .val (.int i2), .val (.int i3), .val (.int i4), .val (.int (1 : Int32)), .val (.int (own_v0_17_2 i0 i1 i2 i3 i4)), .val (.ref b12), .val (.int (own_cp1 (own_v0_17_2 i0 i1 i2 i3 i4) ((((i4.toUInt32 >>> ((3 : Int32) &&& 31).toUInt32).toInt32).toInt8.toInt32).toInt8.toInt32) ((i0.toInt8.toInt32).toInt8.toInt32) ((i1.toInt8.toInt32).toInt8.toInt32) ((i2.toInt8.toInt32).toInt8.toInt32) ((i3.toInt8.toInt32).toInt8.toInt32)))] [(.int (own_cp1 (own_v0_17_2 i0 i1 i2 i3 i4) ((((i4.toUInt32 >>> ((3 : Int32) &&& 31).toUInt32).toInt32).toInt8.toInt32).toInt8.toInt32) ((i0.toInt8.toInt32).toInt8.toInt32) ((i1.toInt8.toInt32).toInt8.toInt32) ((i2.toInt8.toInt32).toInt8.toInt32) ((i3.toInt8.toInt32).toInt8.toInt32)))])) _
      refine XS.iloadN X19.here hx rfl (hb hby at_90) rfl ?_
      show Steps p.tables e below (T19.setTop (mkF m 91 #[.val (.int i0), .val (.int i1), .val (.int i2), .val (.int i3), .val (.int i4), .val (.int (1 : Int32)), .val (.int (own_v0_17_2 i0 i1 i2 i3 i4)), .val (.ref b12), .val (.int (own_cp1 (own_v0_17_2 i0 i1 i2 i3 i4) ((((i4.toUInt32 >>> ((3 : Int32) &&& 31).toUInt32).toInt32).toInt8.toInt32).toInt8.toInt32) ((i0.toInt8.toInt32).toInt8.toInt32) ((i1.toInt8.toInt32).toInt8.toInt32) ((i2.toInt8.toInt32).toInt8.toInt32) ((i3.toInt8.toInt32).toInt8.toInt32)))] [(.int i0), (.int (own_cp1 (own_v0_17_2 i0 i1 i2 i3 i4) ((((i4.toUInt32 >>> ((3 : Int32) &&& 31).toUInt32).toInt32).toInt8.toInt32).toInt8.toInt32) ((i0.toInt8.toInt32).toInt8.toInt32) ((i1.toInt8.toInt32).toInt8.toInt32) ((i2.toInt8.toInt32).toInt8.toInt32) ((i3.toInt8.toInt32).toInt8.toInt32)))])) _
      refine XS.sipush X19.here hx rfl (hb hby at_91) ?_
      show Steps p.tables e below (T19.setTop (mkF m 94 #[.val (.int i0), .val (.int i1), .val (.int i2), .val (.int i3), .val (.int i4), .val (.int (1 : Int32)), .val (.int (own_v0_17_2 i0 i1 i2 i3 i4)), .val (.ref b12), .val (.int (own_cp1 (own_v0_17_2 i0 i1 i2 i3 i4) ((((i4.toUInt32 >>> ((3 : Int32) &&& 31).toUInt32).toInt32).toInt8.toInt32).toInt8.toInt32) ((i0.toInt8.toInt32).toInt8.toInt32) ((i1.toInt8.toInt32).toInt8.toInt32) ((i2.toInt8.toInt32).toInt8.toInt32) ((i3.toInt8.toInt32).toInt8.toInt32)))] [(.int (255 : Int32)), (.int i0), (.int (own_cp1 (own_v0_17_2 i0 i1 i2 i3 i4) ((((i4.toUInt32 >>> ((3 : Int32) &&& 31).toUInt32).toInt32).toInt8.toInt32).toInt8.toInt32) ((i0.toInt8.toInt32).toInt8.toInt32) ((i1.toInt8.toInt32).toInt8.toInt32) ((i2.toInt8.toInt32).toInt8.toInt32) ((i3.toInt8.toInt32).toInt8.toInt32)))])) _
      refine XS.iand X19.here hx rfl (hb hby at_94) rfl ?_
      show Steps p.tables e below (T19.setTop (mkF m 95 #[.val (.int i0), .val (.int i1), .val (.int i2), .val (.int i3), .val (.int i4), .val (.int (1 : Int32)), .val (.int (own_v0_17_2 i0 i1 i2 i3 i4)), .val (.ref b12), .val (.int (own_cp1 (own_v0_17_2 i0 i1 i2 i3 i4) ((((i4.toUInt32 >>> ((3 : Int32) &&& 31).toUInt32).toInt32).toInt8.toInt32).toInt8.toInt32) ((i0.toInt8.toInt32).toInt8.toInt32) ((i1.toInt8.toInt32).toInt8.toInt32) ((i2.toInt8.toInt32).toInt8.toInt32) ((i3.toInt8.toInt32).toInt8.toInt32)))] [(.int (i0 &&& (255 : Int32))), (.int (own_cp1 (own_v0_17_2 i0 i1 i2 i3 i4) ((((i4.toUInt32 >>> ((3 : Int32) &&& 31).toUInt32).toInt32).toInt8.toInt32).toInt8.toInt32) ((i0.toInt8.toInt32).toInt8.toInt32) ((i1.toInt8.toInt32).toInt8.toInt32) ((i2.toInt8.toInt32).toInt8.toInt32) ((i3.toInt8.toInt32).toInt8.toInt32)))])) _
      refine XS.iloadN X19.here hx rfl (hb hby at_95) rfl ?_
      show Steps p.tables e below (T19.setTop (mkF m 96 #[.val (.int i0), .val (.int i1), .val (.int i2), .val (.int i3), .val (.int i4), .val (.int (1 : Int32)), .val (.int (own_v0_17_2 i0 i1 i2 i3 i4)), .val (.ref b12), .val (.int (own_cp1 (own_v0_17_2 i0 i1 i2 i3 i4) ((((i4.toUInt32 >>> ((3 : Int32) &&& 31).toUInt32).toInt32).toInt8.toInt32).toInt8.toInt32) ((i0.toInt8.toInt32).toInt8.toInt32) ((i1.toInt8.toInt32).toInt8.toInt32) ((i2.toInt8.toInt32).toInt8.toInt32) ((i3.toInt8.toInt32).toInt8.toInt32)))] [(.int i1), (.int (i0 &&& (255 : Int32))), (.int (own_cp1 (own_v0_17_2 i0 i1 i2 i3 i4) ((((i4.toUInt32 >>> ((3 : Int32) &&& 31).toUInt32).toInt32).toInt8.toInt32).toInt8.toInt32) ((i0.toInt8.toInt32).toInt8.toInt32) ((i1.toInt8.toInt32).toInt8.toInt32) ((i2.toInt8.toInt32).toInt8.toInt32) ((i3.toInt8.toInt32).toInt8.toInt32)))])) _
      refine XS.sipush X19.here hx rfl (hb hby at_96) ?_
      show Steps p.tables e below (T19.setTop (mkF m 99 #[.val (.int i0), .val (.int i1), .val (.int i2), .val (.int i3), .val (.int i4), .val (.int (1 : Int32)), .val (.int (own_v0_17_2 i0 i1 i2 i3 i4)), .val (.ref b12), .val (.int (own_cp1 (own_v0_17_2 i0 i1 i2 i3 i4) ((((i4.toUInt32 >>> ((3 : Int32) &&& 31).toUInt32).toInt32).toInt8.toInt32).toInt8.toInt32) ((i0.toInt8.toInt32).toInt8.toInt32) ((i1.toInt8.toInt32).toInt8.toInt32) ((i2.toInt8.toInt32).toInt8.toInt32) ((i3.toInt8.toInt32).toInt8.toInt32)))] [(.int (255 : Int32)), (.int i1), (.int (i0 &&& (255 : Int32))), (.int (own_cp1 (own_v0_17_2 i0 i1 i2 i3 i4) ((((i4.toUInt32 >>> ((3 : Int32) &&& 31).toUInt32).toInt32).toInt8.toInt32).toInt8.toInt32) ((i0.toInt8.toInt32).toInt8.toInt32) ((i1.toInt8.toInt32).toInt8.toInt32) ((i2.toInt8.toInt32).toInt8.toInt32) ((i3.toInt8.toInt32).toInt8.toInt32)))])) _
      refine XS.iand X19.here hx rfl (hb hby at_99) rfl ?_
      show Steps p.tables e below (T19.setTop (mkF m 100 #[.val (.int i0), .val (.int i1), .val (.int i2), .val (.int i3), .val (.int i4), .val (.int (1 : Int32)), .val (.int (own_v0_17_2 i0 i1 i2 i3 i4)), .val (.ref b12), .val (.int (own_cp1 (own_v0_17_2 i0 i1 i2 i3 i4) ((((i4.toUInt32 >>> ((3 : Int32) &&& 31).toUInt32).toInt32).toInt8.toInt32).toInt8.toInt32) ((i0.toInt8.toInt32).toInt8.toInt32) ((i1.toInt8.toInt32).toInt8.toInt32) ((i2.toInt8.toInt32).toInt8.toInt32) ((i3.toInt8.toInt32).toInt8.toInt32)))] [(.int (i1 &&& (255 : Int32))), (.int (i0 &&& (255 : Int32))), (.int (own_cp1 (own_v0_17_2 i0 i1 i2 i3 i4) ((((i4.toUInt32 >>> ((3 : Int32) &&& 31).toUInt32).toInt32).toInt8.toInt32).toInt8.toInt32) ((i0.toInt8.toInt32).toInt8.toInt32) ((i1.toInt8.toInt32).toInt8.toInt32) ((i2.toInt8.toInt32).toInt8.toInt32) ((i3.toInt8.toInt32).toInt8.toInt32)))])) _
      refine XS.iloadN X19.here hx rfl (hb hby at_100) rfl ?_
      show Steps p.tables e below (T19.setTop (mkF m 101 #[.val (.int i0), .val (.int i1), .val (.int i2), .val (.int i3), .val (.int i4), .val (.int (1 : Int32)), .val (.int (own_v0_17_2 i0 i1 i2 i3 i4)), .val (.ref b12), .val (.int (own_cp1 (own_v0_17_2 i0 i1 i2 i3 i4) ((((i4.toUInt32 >>> ((3 : Int32) &&& 31).toUInt32).toInt32).toInt8.toInt32).toInt8.toInt32) ((i0.toInt8.toInt32).toInt8.toInt32) ((i1.toInt8.toInt32).toInt8.toInt32) ((i2.toInt8.toInt32).toInt8.toInt32) ((i3.toInt8.toInt32).toInt8.toInt32)))] [(.int i2), (.int (i1 &&& (255 : Int32))), (.int (i0 &&& (255 : Int32))), (.int (own_cp1 (own_v0_17_2 i0 i1 i2 i3 i4) ((((i4.toUInt32 >>> ((3 : Int32) &&& 31).toUInt32).toInt32).toInt8.toInt32).toInt8.toInt32) ((i0.toInt8.toInt32).toInt8.toInt32) ((i1.toInt8.toInt32).toInt8.toInt32) ((i2.toInt8.toInt32).toInt8.toInt32) ((i3.toInt8.toInt32).toInt8.toInt32)))])) _
      refine XS.sipush X19.here hx rfl (hb hby at_101) ?_
      show Steps p.tables e below (T19.setTop (mkF m 104 #[.val (.int i0), .val (.int i1), .val (.int i2), .val (.int i3), .val (.int i4), .val (.int (1 : Int32)), .val (.int (own_v0_17_2 i0 i1 i2 i3 i4)), .val (.ref b12), .val (.int (own_cp1 (own_v0_17_2 i0 i1 i2 i3 i4) ((((i4.toUInt32 >>> ((3 : Int32) &&& 31).toUInt32).toInt32).toInt8.toInt32).toInt8.toInt32) ((i0.toInt8.toInt32).toInt8.toInt32) ((i1.toInt8.toInt32).toInt8.toInt32) ((i2.toInt8.toInt32).toInt8.toInt32) ((i3.toInt8.toInt32).toInt8.toInt32)))] [(.int (255 : Int32)), (.int i2), (.int (i1 &&& (255 : Int32))), (.int (i0 &&& (255 : Int32))), (.int (own_cp1 (own_v0_17_2 i0 i1 i2 i3 i4) ((((i4.toUInt32 >>> ((3 : Int32) &&& 31).toUInt32).toInt32).toInt8.toInt32).toInt8.toInt32) ((i0.toInt8.toInt32).toInt8.toInt32) ((i1.toInt8.toInt32).toInt8.toInt32) ((i2.toInt8.toInt32).toInt8.toInt32) ((i3.toInt8.toInt32).toInt8.toInt32)))])) _
      refine XS.iand X19.here hx rfl (hb hby at_104) rfl ?_
      show Steps p.tables e below (T19.setTop (mkF m 105 #[.val (.int i0), .val (.int i1), .val (.int i2), .val (.int i3), .val (.int i4), .val (.int (1 : Int32)), .val (.int (own_v0_17_2 i0 i1 i2 i3 i4)), .val (.ref b12), .val (.int (own_cp1 (own_v0_17_2 i0 i1 i2 i3 i4) ((((i4.toUInt32 >>> ((3 : Int32) &&& 31).toUInt32).toInt32).toInt8.toInt32).toInt8.toInt32) ((i0.toInt8.toInt32).toInt8.toInt32) ((i1.toInt8.toInt32).toInt8.toInt32) ((i2.toInt8.toInt32).toInt8.toInt32) ((i3.toInt8.toInt32).toInt8.toInt32)))] [(.int (i2 &&& (255 : Int32))), (.int (i1 &&& (255 : Int32))), (.int (i0 &&& (255 : Int32))), (.int (own_cp1 (own_v0_17_2 i0 i1 i2 i3 i4) ((((i4.toUInt32 >>> ((3 : Int32) &&& 31).toUInt32).toInt32).toInt8.toInt32).toInt8.toInt32) ((i0.toInt8.toInt32).toInt8.toInt32) ((i1.toInt8.toInt32).toInt8.toInt32) ((i2.toInt8.toInt32).toInt8.toInt32) ((i3.toInt8.toInt32).toInt8.toInt32)))])) _
      refine XS.iloadN X19.here hx rfl (hb hby at_105) rfl ?_
      show Steps p.tables e below (T19.setTop (mkF m 106 #[.val (.int i0), .val (.int i1), .val (.int i2), .val (.int i3), .val (.int i4), .val (.int (1 : Int32)), .val (.int (own_v0_17_2 i0 i1 i2 i3 i4)), .val (.ref b12), .val (.int (own_cp1 (own_v0_17_2 i0 i1 i2 i3 i4) ((((i4.toUInt32 >>> ((3 : Int32) &&& 31).toUInt32).toInt32).toInt8.toInt32).toInt8.toInt32) ((i0.toInt8.toInt32).toInt8.toInt32) ((i1.toInt8.toInt32).toInt8.toInt32) ((i2.toInt8.toInt32).toInt8.toInt32) ((i3.toInt8.toInt32).toInt8.toInt32)))] [(.int i3), (.int (i2 &&& (255 : Int32))), (.int (i1 &&& (255 : Int32))), (.int (i0 &&& (255 : Int32))), (.int (own_cp1 (own_v0_17_2 i0 i1 i2 i3 i4) ((((i4.toUInt32 >>> ((3 : Int32) &&& 31).toUInt32).toInt32).toInt8.toInt32).toInt8.toInt32) ((i0.toInt8.toInt32).toInt8.toInt32) ((i1.toInt8.toInt32).toInt8.toInt32) ((i2.toInt8.toInt32).toInt8.toInt32) ((i3.toInt8.toInt32).toInt8.toInt32)))])) _
      refine XS.sipush X19.here hx rfl (hb hby at_106) ?_
      show Steps p.tables e below (T19.setTop (mkF m 109 #[.val (.int i0), .val (.int i1), .val (.int i2), .val (.int i3), .val (.int i4), .val (.int (1 : Int32)), .val (.int (own_v0_17_2 i0 i1 i2 i3 i4)), .val (.ref b12), .val (.int (own_cp1 (own_v0_17_2 i0 i1 i2 i3 i4) ((((i4.toUInt32 >>> ((3 : Int32) &&& 31).toUInt32).toInt32).toInt8.toInt32).toInt8.toInt32) ((i0.toInt8.toInt32).toInt8.toInt32) ((i1.toInt8.toInt32).toInt8.toInt32) ((i2.toInt8.toInt32).toInt8.toInt32) ((i3.toInt8.toInt32).toInt8.toInt32)))] [(.int (255 : Int32)), (.int i3), (.int (i2 &&& (255 : Int32))), (.int (i1 &&& (255 : Int32))), (.int (i0 &&& (255 : Int32))), (.int (own_cp1 (own_v0_17_2 i0 i1 i2 i3 i4) ((((i4.toUInt32 >>> ((3 : Int32) &&& 31).toUInt32).toInt32).toInt8.toInt32).toInt8.toInt32) ((i0.toInt8.toInt32).toInt8.toInt32) ((i1.toInt8.toInt32).toInt8.toInt32) ((i2.toInt8.toInt32).toInt8.toInt32) ((i3.toInt8.toInt32).toInt8.toInt32)))])) _
      refine XS.iand X19.here hx rfl (hb hby at_109) rfl ?_
      show Steps p.tables e below (T19.setTop (mkF m 110 #[.val (.int i0), .val (.int i1), .val (.int i2), .val (.int i3), .val (.int i4), .val (.int (1 : Int32)), .val (.int (own_v0_17_2 i0 i1 i2 i3 i4)), .val (.ref b12), .val (.int (own_cp1 (own_v0_17_2 i0 i1 i2 i3 i4) ((((i4.toUInt32 >>> ((3 : Int32) &&& 31).toUInt32).toInt32).toInt8.toInt32).toInt8.toInt32) ((i0.toInt8.toInt32).toInt8.toInt32) ((i1.toInt8.toInt32).toInt8.toInt32) ((i2.toInt8.toInt32).toInt8.toInt32) ((i3.toInt8.toInt32).toInt8.toInt32)))] [(.int (i3 &&& (255 : Int32))), (.int (i2 &&& (255 : Int32))), (.int (i1 &&& (255 : Int32))), (.int (i0 &&& (255 : Int32))), (.int (own_cp1 (own_v0_17_2 i0 i1 i2 i3 i4) ((((i4.toUInt32 >>> ((3 : Int32) &&& 31).toUInt32).toInt32).toInt8.toInt32).toInt8.toInt32) ((i0.toInt8.toInt32).toInt8.toInt32) ((i1.toInt8.toInt32).toInt8.toInt32) ((i2.toInt8.toInt32).toInt8.toInt32) ((i3.toInt8.toInt32).toInt8.toInt32)))])) _
      refine XS.iload X19.here hx rfl (hb hby at_110) rfl ?_
      show Steps p.tables e below (T19.setTop (mkF m 112 #[.val (.int i0), .val (.int i1), .val (.int i2), .val (.int i3), .val (.int i4), .val (.int (1 : Int32)), .val (.int (own_v0_17_2 i0 i1 i2 i3 i4)), .val (.ref b12), .val (.int (own_cp1 (own_v0_17_2 i0 i1 i2 i3 i4) ((((i4.toUInt32 >>> ((3 : Int32) &&& 31).toUInt32).toInt32).toInt8.toInt32).toInt8.toInt32) ((i0.toInt8.toInt32).toInt8.toInt32) ((i1.toInt8.toInt32).toInt8.toInt32) ((i2.toInt8.toInt32).toInt8.toInt32) ((i3.toInt8.toInt32).toInt8.toInt32)))] [(.int (own_v0_17_2 i0 i1 i2 i3 i4)), (.int (i3 &&& (255 : Int32))), (.int (i2 &&& (255 : Int32))), (.int (i1 &&& (255 : Int32))), (.int (i0 &&& (255 : Int32))), (.int (own_cp1 (own_v0_17_2 i0 i1 i2 i3 i4) ((((i4.toUInt32 >>> ((3 : Int32) &&& 31).toUInt32).toInt32).toInt8.toInt32).toInt8.toInt32) ((i0.toInt8.toInt32).toInt8.toInt32) ((i1.toInt8.toInt32).toInt8.toInt32) ((i2.toInt8.toInt32).toInt8.toInt32) ((i3.toInt8.toInt32).toInt8.toInt32)))])) _
      refine XS.iload X19.here hx rfl (hb hby at_112) rfl ?_
      show Steps p.tables e below (T19.setTop (mkF m 114 #[.val (.int i0), .val (.int i1), .val (.int i2), .val (.int i3), .val (.int i4), .val (.int (1 : Int32)), .val (.int (own_v0_17_2 i0 i1 i2 i3 i4)), .val (.ref b12), .val (.int (own_cp1 (own_v0_17_2 i0 i1 i2 i3 i4) ((((i4.toUInt32 >>> ((3 : Int32) &&& 31).toUInt32).toInt32).toInt8.toInt32).toInt8.toInt32) ((i0.toInt8.toInt32).toInt8.toInt32) ((i1.toInt8.toInt32).toInt8.toInt32) ((i2.toInt8.toInt32).toInt8.toInt32) ((i3.toInt8.toInt32).toInt8.toInt32)))] [(.int (1 : Int32)), (.int (own_v0_17_2 i0 i1 i2 i3 i4)), (.int (i3 &&& (255 : Int32))), (.int (i2 &&& (255 : Int32))), (.int (i1 &&& (255 : Int32))), (.int (i0 &&& (255 : Int32))), (.int (own_cp1 (own_v0_17_2 i0 i1 i2 i3 i4) ((((i4.toUInt32 >>> ((3 : Int32) &&& 31).toUInt32).toInt32).toInt8.toInt32).toInt8.toInt32) ((i0.toInt8.toInt32).toInt8.toInt32) ((i1.toInt8.toInt32).toInt8.toInt32) ((i2.toInt8.toInt32).toInt8.toInt32) ((i3.toInt8.toInt32).toInt8.toInt32)))])) _
      refine XS.isub X19.here hx rfl (hb hby at_114) rfl ?_
      exact kt
    obtain ⟨_, _, ⟨T20, L20, k20, n20⟩, -, X20, ⟨Lc20, hQ20, l20, y20, z20⟩, st20⟩ := Jvm.LawKit.callS X19 hx (y := (⟨"traceward/schema/Utf8CodePointPinLaw", "expected", "(IIIII)I"⟩ : MethodName)) hown (mvT hZ (hw _ (List.mem_of_getElem? (i := 5) rfl))) (mvT hZ (hw _ (List.mem_of_getElem? (i := 6) rfl))) (mvT hZ (hw _ (List.mem_of_getElem? (i := 7) rfl))) (mvT hZ (hw _ (List.mem_of_getElem? (i := 8) rfl))) (by decide) (backOf (W := 1) (own_rm2 l Z a0 hw [] (i0 &&& (255 : Int32)) (i1 &&& (255 : Int32)) (i2 &&& (255 : Int32)) (i3 &&& (255 : Int32)) ((own_v0_17_2 i0 i1 i2 i3 i4) - (1 : Int32)) h18 n0 (Nat.le_trans Z0 K18.1) ) hZ (hw _ (List.mem_of_getElem? (i := 8) rfl)) (hw _ (List.mem_of_getElem? (i := 7) rfl)) (by decide) (by decide)) (g := (mkF m 115 #[.val (.int i0), .val (.int i1), .val (.int i2), .val (.int i3), .val (.int i4), .val (.int (1 : Int32)), .val (.int (own_v0_17_2 i0 i1 i2 i3 i4)), .val (.ref b12), .val (.int (own_cp1 (own_v0_17_2 i0 i1 i2 i3 i4) ((((i4.toUInt32 >>> ((3 : Int32) &&& 31).toUInt32).toInt32).toInt8.toInt32).toInt8.toInt32) ((i0.toInt8.toInt32).toInt8.toInt32) ((i1.toInt8.toInt32).toInt8.toInt32) ((i2.toInt8.toInt32).toInt8.toInt32) ((i3.toInt8.toInt32).toInt8.toInt32)))] [(.int ((own_v0_17_2 i0 i1 i2 i3 i4) - (1 : Int32))), (.int (i3 &&& (255 : Int32))), (.int (i2 &&& (255 : Int32))), (.int (i1 &&& (255 : Int32))), (.int (i0 &&& (255 : Int32))), (.int (own_cp1 (own_v0_17_2 i0 i1 i2 i3 i4) ((((i4.toUInt32 >>> ((3 : Int32) &&& 31).toUInt32).toInt32).toInt8.toInt32).toInt8.toInt32) ((i0.toInt8.toInt32).toInt8.toInt32) ((i1.toInt8.toInt32).toInt8.toInt32) ((i2.toInt8.toInt32).toInt8.toInt32) ((i3.toInt8.toInt32).toInt8.toInt32)))])) rfl (by rw [hml]; rfl) (argsL := [(.int (i0 &&& (255 : Int32))), (.int (i1 &&& (255 : Int32))), (.int (i2 &&& (255 : Int32))), (.int (i3 &&& (255 : Int32))), (.int ((own_v0_17_2 i0 i1 i2 i3 i4) - (1 : Int32)))]) (rest := [(.int (own_cp1 (own_v0_17_2 i0 i1 i2 i3 i4) ((((i4.toUInt32 >>> ((3 : Int32) &&& 31).toUInt32).toInt32).toInt8.toInt32).toInt8.toInt32) ((i0.toInt8.toInt32).toInt8.toInt32) ((i1.toInt8.toInt32).toInt8.toInt32) ((i2.toInt8.toInt32).toInt8.toInt32) ((i3.toInt8.toInt32).toInt8.toInt32)))]) (lenOf own_pd4 rfl) rfl (by show 2 * 0 + _ ≤ _; exact Nat.le_of_eq rfl) (hb hby at_115) (fun _ _ => ⟨rfl, e19, (by decide : 1 + 0 ≤ _), (by decide : 5 + 0 ≤ _)⟩)
    dsimp only [Pt.U, Pt.locs, Pt.cells, Pt.slots] at X20 l20 y20 z20 st20 hQ20
    subst l20 y20 z20
    obtain ⟨rfl, N20q, e20⟩ := hQ20
    have N20 := Fr.app N19 N20q
    refine ownE.go (T' := T20) (f' := (mkF m 118 #[.val (.int i0), .val (.int i1), .val (.int i2), .val (.int i3), .val (.int i4), .val (.int (1 : Int32)), .val (.int (own_v0_17_2 i0 i1 i2 i3 i4)), .val (.ref b12), .val (.int (own_cp1 (own_v0_17_2 i0 i1 i2 i3 i4) ((((i4.toUInt32 >>> ((3 : Int32) &&& 31).toUInt32).toInt32).toInt8.toInt32).toInt8.toInt32) ((i0.toInt8.toInt32).toInt8.toInt32) ((i1.toInt8.toInt32).toInt8.toInt32) ((i2.toInt8.toInt32).toInt8.toInt32) ((i3.toInt8.toInt32).toInt8.toInt32)))] [(.int (own_exp (i0 &&& (255 : Int32)) (i1 &&& (255 : Int32)) (i2 &&& (255 : Int32)) (i3 &&& (255 : Int32)) ((own_v0_17_2 i0 i1 i2 i3 i4) - (1 : Int32)))), (.int (own_cp1 (own_v0_17_2 i0 i1 i2 i3 i4) ((((i4.toUInt32 >>> ((3 : Int32) &&& 31).toUInt32).toInt32).toInt8.toInt32).toInt8.toInt32) ((i0.toInt8.toInt32).toInt8.toInt32) ((i1.toInt8.toInt32).toInt8.toInt32) ((i2.toInt8.toInt32).toInt8.toInt32) ((i3.toInt8.toInt32).toInt8.toInt32)))])) st20 ?_
    by_cases hc21 : (own_cp1 (own_v0_17_2 i0 i1 i2 i3 i4) ((((i4.toUInt32 >>> ((3 : Int32) &&& 31).toUInt32).toInt32).toInt8.toInt32).toInt8.toInt32) ((i0.toInt8.toInt32).toInt8.toInt32) ((i1.toInt8.toInt32).toInt8.toInt32) ((i2.toInt8.toInt32).toInt8.toInt32) ((i3.toInt8.toInt32).toInt8.toInt32)) = (own_exp (i0 &&& (255 : Int32)) (i1 &&& (255 : Int32)) (i2 &&& (255 : Int32)) (i3 &&& (255 : Int32)) ((own_v0_17_2 i0 i1 i2 i3 i4) - (1 : Int32)))
    · -- pc 118
      refine ownE.go (T' := T20) (f' := (mkF m 121 #[.val (.int i0), .val (.int i1), .val (.int i2), .val (.int i3), .val (.int i4), .val (.int (1 : Int32)), .val (.int (own_v0_17_2 i0 i1 i2 i3 i4)), .val (.ref b12), .val (.int (own_cp1 (own_v0_17_2 i0 i1 i2 i3 i4) ((((i4.toUInt32 >>> ((3 : Int32) &&& 31).toUInt32).toInt32).toInt8.toInt32).toInt8.toInt32) ((i0.toInt8.toInt32).toInt8.toInt32) ((i1.toInt8.toInt32).toInt8.toInt32) ((i2.toInt8.toInt32).toInt8.toInt32) ((i3.toInt8.toInt32).toInt8.toInt32)))] [])) (fun t kt => XS.icmpNo (g := (mkF m 118 #[.val (.int i0), .val (.int i1), .val (.int i2), .val (.int i3), .val (.int i4), .val (.int (1 : Int32)), .val (.int (own_v0_17_2 i0 i1 i2 i3 i4)), .val (.ref b12), .val (.int (own_cp1 (own_v0_17_2 i0 i1 i2 i3 i4) ((((i4.toUInt32 >>> ((3 : Int32) &&& 31).toUInt32).toInt32).toInt8.toInt32).toInt8.toInt32) ((i0.toInt8.toInt32).toInt8.toInt32) ((i1.toInt8.toInt32).toInt8.toInt32) ((i2.toInt8.toInt32).toInt8.toInt32) ((i3.toInt8.toInt32).toInt8.toInt32)))] [(.int (own_exp (i0 &&& (255 : Int32)) (i1 &&& (255 : Int32)) (i2 &&& (255 : Int32)) (i3 &&& (255 : Int32)) ((own_v0_17_2 i0 i1 i2 i3 i4) - (1 : Int32)))), (.int (own_cp1 (own_v0_17_2 i0 i1 i2 i3 i4) ((((i4.toUInt32 >>> ((3 : Int32) &&& 31).toUInt32).toInt32).toInt8.toInt32).toInt8.toInt32) ((i0.toInt8.toInt32).toInt8.toInt32) ((i1.toInt8.toInt32).toInt8.toInt32) ((i2.toInt8.toInt32).toInt8.toInt32) ((i3.toInt8.toInt32).toInt8.toInt32)))])) X20.here hx rfl (hb hby at_118) rfl (Jvm.Free.XT.ii_ne_f hc21) kt) ?_
      refine ownE.go (T' := T20) (f' := (mkF m 126 #[.val (.int i0), .val (.int i1), .val (.int i2), .val (.int i3), .val (.int i4), .val (.int (1 : Int32)), .val (.int (own_v0_17_2 i0 i1 i2 i3 i4)), .val (.ref b12), .val (.int (own_cp1 (own_v0_17_2 i0 i1 i2 i3 i4) ((((i4.toUInt32 >>> ((3 : Int32) &&& 31).toUInt32).toInt32).toInt8.toInt32).toInt8.toInt32) ((i0.toInt8.toInt32).toInt8.toInt32) ((i1.toInt8.toInt32).toInt8.toInt32) ((i2.toInt8.toInt32).toInt8.toInt32) ((i3.toInt8.toInt32).toInt8.toInt32)))] [(.int (1 : Int32))])) (fun t kt => ?_) ?_
      · show Steps p.tables e below (T20.setTop (mkF m 121 #[.val (.int i0), .val (.int i1), .val (.int i2), .val (.int i3), .val (.int i4), .val (.int (1 : Int32)), .val (.int (own_v0_17_2 i0 i1 i2 i3 i4)), .val (.ref b12), .val (.int (own_cp1 (own_v0_17_2 i0 i1 i2 i3 i4) ((((i4.toUInt32 >>> ((3 : Int32) &&& 31).toUInt32).toInt32).toInt8.toInt32).toInt8.toInt32) ((i0.toInt8.toInt32).toInt8.toInt32) ((i1.toInt8.toInt32).toInt8.toInt32) ((i2.toInt8.toInt32).toInt8.toInt32) ((i3.toInt8.toInt32).toInt8.toInt32)))] [])) _
        refine XS.iconst X20.here hx rfl (hb hby at_121) ?_
        show Steps p.tables e below (T20.setTop (mkF m 122 #[.val (.int i0), .val (.int i1), .val (.int i2), .val (.int i3), .val (.int i4), .val (.int (1 : Int32)), .val (.int (own_v0_17_2 i0 i1 i2 i3 i4)), .val (.ref b12), .val (.int (own_cp1 (own_v0_17_2 i0 i1 i2 i3 i4) ((((i4.toUInt32 >>> ((3 : Int32) &&& 31).toUInt32).toInt32).toInt8.toInt32).toInt8.toInt32) ((i0.toInt8.toInt32).toInt8.toInt32) ((i1.toInt8.toInt32).toInt8.toInt32) ((i2.toInt8.toInt32).toInt8.toInt32) ((i3.toInt8.toInt32).toInt8.toInt32)))] [(.int (1 : Int32))])) _
        refine XS.goto X20.here hx rfl (pc0 := 122) (pc' := 126) rfl (hb hby at_122) (by decide) (by decide) ?_
        exact kt
      refine ownE.retN X20 hx hlk (t := .boolean) hret (by simp) (hb hby at_126) ?_ (by decide) (by decide)
      show own_Q0 Z i0 i1 i2 i3 i4 h0 n0 _ T20.heap _
      rw [e20]
      exact ⟨(by rw [own_f0, if_neg hk1_0, if_pos hc21] <;> first | rfl | decide), N20, K18⟩
    · -- pc 118
      refine ownE.go (T' := T20) (f' := (mkF m 125 #[.val (.int i0), .val (.int i1), .val (.int i2), .val (.int i3), .val (.int i4), .val (.int (1 : Int32)), .val (.int (own_v0_17_2 i0 i1 i2 i3 i4)), .val (.ref b12), .val (.int (own_cp1 (own_v0_17_2 i0 i1 i2 i3 i4) ((((i4.toUInt32 >>> ((3 : Int32) &&& 31).toUInt32).toInt32).toInt8.toInt32).toInt8.toInt32) ((i0.toInt8.toInt32).toInt8.toInt32) ((i1.toInt8.toInt32).toInt8.toInt32) ((i2.toInt8.toInt32).toInt8.toInt32) ((i3.toInt8.toInt32).toInt8.toInt32)))] [])) (fun t kt => XS.icmpYes (g := (mkF m 118 #[.val (.int i0), .val (.int i1), .val (.int i2), .val (.int i3), .val (.int i4), .val (.int (1 : Int32)), .val (.int (own_v0_17_2 i0 i1 i2 i3 i4)), .val (.ref b12), .val (.int (own_cp1 (own_v0_17_2 i0 i1 i2 i3 i4) ((((i4.toUInt32 >>> ((3 : Int32) &&& 31).toUInt32).toInt32).toInt8.toInt32).toInt8.toInt32) ((i0.toInt8.toInt32).toInt8.toInt32) ((i1.toInt8.toInt32).toInt8.toInt32) ((i2.toInt8.toInt32).toInt8.toInt32) ((i3.toInt8.toInt32).toInt8.toInt32)))] [(.int (own_exp (i0 &&& (255 : Int32)) (i1 &&& (255 : Int32)) (i2 &&& (255 : Int32)) (i3 &&& (255 : Int32)) ((own_v0_17_2 i0 i1 i2 i3 i4) - (1 : Int32)))), (.int (own_cp1 (own_v0_17_2 i0 i1 i2 i3 i4) ((((i4.toUInt32 >>> ((3 : Int32) &&& 31).toUInt32).toInt32).toInt8.toInt32).toInt8.toInt32) ((i0.toInt8.toInt32).toInt8.toInt32) ((i1.toInt8.toInt32).toInt8.toInt32) ((i2.toInt8.toInt32).toInt8.toInt32) ((i3.toInt8.toInt32).toInt8.toInt32)))])) X20.here hx rfl (pc0 := 118) (pc' := 125) rfl (hb hby at_118) rfl (Jvm.Free.XT.ii_ne_t hc21) (by decide) (by decide) kt) ?_
      refine ownE.go (T' := T20) (f' := (mkF m 126 #[.val (.int i0), .val (.int i1), .val (.int i2), .val (.int i3), .val (.int i4), .val (.int (1 : Int32)), .val (.int (own_v0_17_2 i0 i1 i2 i3 i4)), .val (.ref b12), .val (.int (own_cp1 (own_v0_17_2 i0 i1 i2 i3 i4) ((((i4.toUInt32 >>> ((3 : Int32) &&& 31).toUInt32).toInt32).toInt8.toInt32).toInt8.toInt32) ((i0.toInt8.toInt32).toInt8.toInt32) ((i1.toInt8.toInt32).toInt8.toInt32) ((i2.toInt8.toInt32).toInt8.toInt32) ((i3.toInt8.toInt32).toInt8.toInt32)))] [(.int (0 : Int32))])) (fun t kt => ?_) ?_
      · show Steps p.tables e below (T20.setTop (mkF m 125 #[.val (.int i0), .val (.int i1), .val (.int i2), .val (.int i3), .val (.int i4), .val (.int (1 : Int32)), .val (.int (own_v0_17_2 i0 i1 i2 i3 i4)), .val (.ref b12), .val (.int (own_cp1 (own_v0_17_2 i0 i1 i2 i3 i4) ((((i4.toUInt32 >>> ((3 : Int32) &&& 31).toUInt32).toInt32).toInt8.toInt32).toInt8.toInt32) ((i0.toInt8.toInt32).toInt8.toInt32) ((i1.toInt8.toInt32).toInt8.toInt32) ((i2.toInt8.toInt32).toInt8.toInt32) ((i3.toInt8.toInt32).toInt8.toInt32)))] [])) _
        refine XS.iconst X20.here hx rfl (hb hby at_125) ?_
        exact kt
      refine ownE.retN X20 hx hlk (t := .boolean) hret (by simp) (hb hby at_126) ?_ (by decide) (by decide)
      show own_Q0 Z i0 i1 i2 i3 i4 h0 n0 _ T20.heap _
      rw [e20]
      exact ⟨(by rw [own_f0, if_neg hk1_0, if_neg hc21] <;> first | rfl | decide), N20, K18⟩

def own_sp (c0 c1 c2 c3 a : Int) : Int :=
  if c0 < 128 then c0 else if c0 < 194 then -1
  else if c0 < 224 then (if 1 < a ∧ 128 ≤ c1 ∧ c1 ≤ 191 then (c0 % 32) * 64 + c1 % 64 else -1)
  else if c0 < 240 then (if 2 < a ∧ 128 ≤ c1 ∧ c1 ≤ 191 ∧ (c0 = 224 → 160 ≤ c1) ∧ (c0 = 237 → c1 ≤ 159) ∧ 128 ≤ c2 ∧ c2 ≤ 191 then ((c0 % 16) * 64 + c1 % 64) * 64 + c2 % 64 else -1)
  else if c0 < 245 then (if 3 < a ∧ 128 ≤ c1 ∧ c1 ≤ 191 ∧ (c0 = 240 → 144 ≤ c1) ∧ (c0 = 244 → c1 ≤ 143) ∧ 128 ≤ c2 ∧ c2 ≤ 191 ∧ 128 ≤ c3 ∧ c3 ≤ 191 then (((c0 % 8) * 64 + c1 % 64) * 64 + c2 % 64) * 64 + c3 % 64 else -1)
  else -1
theorem own_inj (x y : Int32) : x = y ↔ x.toInt = y.toInt := Int32.toInt_inj.symm
theorem own_rng (x : Int32) : -2147483648 ≤ x.toInt ∧ x.toInt < 2147483648 := ⟨Int32.le_toInt x, Int32.toInt_lt x⟩
theorem own_shl (x q : Int32) (k : Nat) (hk : q.toBitVec.toNat % 32 = k) (P : Int) (hP : P = (2 ^ k : Nat)) (h : 0 ≤ x.toInt * P ∧ x.toInt * P < 2147483648) : (x <<< (q &&& 31)).toInt = x.toInt * P := by
  have sl := c_ishl x q k hk
  rw [← hP] at sl
  have r := own_rng (x <<< (q &&& 31))
  generalize x.toInt * P = w at *
  omega
theorem own_m63 (c : Int32) : (c &&& (63 : Int32)).toInt = c.toInt % 64 := c_mask c 63 6 (by decide) (by decide)
theorem own_m31 (c : Int32) : (c &&& (31 : Int32)).toInt = c.toInt % 32 := c_mask c 31 5 (by decide) (by decide)
theorem own_m15 (c : Int32) : (c &&& (15 : Int32)).toInt = c.toInt % 16 := c_mask c 15 4 (by decide) (by decide)
theorem own_m7 (c : Int32) : (c &&& (7 : Int32)).toInt = c.toInt % 8 := c_mask c 7 3 (by decide) (by decide)
theorem own_m255 (c : Int32) : (c &&& (255 : Int32)).toInt = c.toInt % 256 := c_mask c 255 8 (by decide) (by decide)
theorem own_oro (a b : Int32) (k : Nat) (hk : k ≤ 31) (P : Int) (hP : P = (2 ^ k : Nat)) (h1 : a.toInt % P = 0) (h2 : 0 ≤ b.toInt) (h3 : b.toInt < P) (h4 : 0 ≤ a.toInt) (h5 : a.toInt + b.toInt < 2147483648) : (a ||| b).toInt = a.toInt + b.toInt := by
  have o := c_or a b k hk P hP h1 h2 h3
  have r := own_rng (a ||| b)
  omega
theorem own_st (v c : Int32) (h : 0 ≤ v.toInt ∧ v.toInt < 1048576) : ((v <<< ((6 : Int32) &&& 31)) ||| (c &&& (63 : Int32))).toInt = v.toInt * 64 + c.toInt % 64 := by
  have sl := own_shl v 6 6 (by decide) 64 (by decide) (by omega)
  have m := own_m63 c
  rw [own_oro _ _ 6 (by decide) 64 (by decide) (by rw [sl]; omega) (by omega) (by omega) (by omega) (by omega), sl, m]
theorem own_st3 (c0 c1 c2 : Int32) : ((((c0 &&& (15 : Int32)) <<< ((12 : Int32) &&& 31)) ||| ((c1 &&& (63 : Int32)) <<< ((6 : Int32) &&& 31))) ||| (c2 &&& (63 : Int32))).toInt = ((c0.toInt % 16) * 64 + c1.toInt % 64) * 64 + c2.toInt % 64 := by
  have m0 := own_m15 c0
  have m1 := own_m63 c1
  have m2 := own_m63 c2
  have s0 := own_shl (c0 &&& (15 : Int32)) 12 12 (by decide) 4096 (by decide) (by omega)
  have s1 := own_shl (c1 &&& (63 : Int32)) 6 6 (by decide) 64 (by decide) (by omega)
  have o1 := own_oro ((c0 &&& (15 : Int32)) <<< ((12 : Int32) &&& 31)) ((c1 &&& (63 : Int32)) <<< ((6 : Int32) &&& 31)) 12 (by decide) 4096 (by decide) (by omega) (by omega) (by omega) (by omega) (by omega)
  rw [own_oro _ _ 6 (by decide) 64 (by decide) (by omega) (by omega) (by omega) (by omega) (by omega), o1]
  omega
theorem own_st4 (c0 c1 c2 c3 : Int32) : (((((c0 &&& (7 : Int32)) <<< ((18 : Int32) &&& 31)) ||| ((c1 &&& (63 : Int32)) <<< ((12 : Int32) &&& 31))) ||| ((c2 &&& (63 : Int32)) <<< ((6 : Int32) &&& 31))) ||| (c3 &&& (63 : Int32))).toInt = (((c0.toInt % 8) * 64 + c1.toInt % 64) * 64 + c2.toInt % 64) * 64 + c3.toInt % 64 := by
  have m0 := own_m7 c0
  have m1 := own_m63 c1
  have m2 := own_m63 c2
  have m3 := own_m63 c3
  have s0 := own_shl (c0 &&& (7 : Int32)) 18 18 (by decide) 262144 (by decide) (by omega)
  have s1 := own_shl (c1 &&& (63 : Int32)) 12 12 (by decide) 4096 (by decide) (by omega)
  have s2 := own_shl (c2 &&& (63 : Int32)) 6 6 (by decide) 64 (by decide) (by omega)
  have o1 := own_oro ((c0 &&& (7 : Int32)) <<< ((18 : Int32) &&& 31)) ((c1 &&& (63 : Int32)) <<< ((12 : Int32) &&& 31)) 18 (by decide) 262144 (by decide) (by omega) (by omega) (by omega) (by omega) (by omega)
  have o2 := own_oro (((c0 &&& (7 : Int32)) <<< ((18 : Int32) &&& 31)) ||| ((c1 &&& (63 : Int32)) <<< ((12 : Int32) &&& 31))) ((c2 &&& (63 : Int32)) <<< ((6 : Int32) &&& 31)) 12 (by decide) 4096 (by decide) (by omega) (by omega) (by omega) (by omega) (by omega)
  rw [own_oro _ _ 6 (by decide) 64 (by decide) (by omega) (by omega) (by omega) (by omega) (by omega), o2, o1]
  omega
theorem own_byte {P : Int32 → Prop} (H : ∀ n : Fin 256, P (Int32.ofInt (n.val : Int))) (c : Int32) (h0 : 0 ≤ c.toInt) (h1 : c.toInt ≤ 255) : P c := by
  have h := H ⟨c.toInt.toNat, by omega⟩
  have e : ((c.toInt.toNat : Nat) : Int) = c.toInt := Int.toNat_of_nonneg h0
  rw [e, Int32.ofInt_toInt] at h
  exact h
theorem own_k224 (c : Int32) (h0 : 0 ≤ c.toInt) (h1 : c.toInt ≤ 255) : (c &&& (224 : Int32) = (192 : Int32)) ↔ (192 ≤ c.toInt ∧ c.toInt < 224) := own_byte (P := fun c => (c &&& (224 : Int32) = (192 : Int32)) ↔ (192 ≤ c.toInt ∧ c.toInt < 224)) (by decide +kernel) c h0 h1
theorem own_k240 (c : Int32) (h0 : 0 ≤ c.toInt) (h1 : c.toInt ≤ 255) : (c &&& (240 : Int32) = (224 : Int32)) ↔ (224 ≤ c.toInt ∧ c.toInt < 240) := own_byte (P := fun c => (c &&& (240 : Int32) = (224 : Int32)) ↔ (224 ≤ c.toInt ∧ c.toInt < 240)) (by decide +kernel) c h0 h1
theorem own_k248 (c : Int32) (h0 : 0 ≤ c.toInt) (h1 : c.toInt ≤ 255) : (c &&& (248 : Int32) = (240 : Int32)) ↔ (240 ≤ c.toInt ∧ c.toInt < 248) := own_byte (P := fun c => (c &&& (248 : Int32) = (240 : Int32)) ↔ (240 ≤ c.toInt ∧ c.toInt < 248)) (by decide +kernel) c h0 h1
theorem own_k192 (c : Int32) (h0 : 0 ≤ c.toInt) (h1 : c.toInt ≤ 255) : (c &&& (192 : Int32) = (128 : Int32)) ↔ (128 ≤ c.toInt ∧ c.toInt ≤ 191) := own_byte (P := fun c => (c &&& (192 : Int32) = (128 : Int32)) ↔ (128 ≤ c.toInt ∧ c.toInt ≤ 191)) (by decide +kernel) c h0 h1
theorem own_cz (c : Int32) (h0 : 0 ≤ c.toInt) (h1 : c.toInt ≤ 255) : own_cont c = 0 ↔ ¬ (128 ≤ c.toInt ∧ c.toInt ≤ 191) := by
  have k := own_k192 c h0 h1
  unfold own_cont
  by_cases h : c &&& (192 : Int32) = (128 : Int32)
  · rw [if_pos h]
    have := k.mp h
    constructor
    · intro q; exact absurd q (by decide)
    · intro q; exact absurd this q
  · rw [if_neg h]
    have : ¬ (128 ≤ c.toInt ∧ c.toInt ≤ 191) := fun q => h (k.mpr q)
    exact ⟨fun _ => this, fun _ => rfl⟩
theorem own_zn1 : (-1 : Int32).toInt = -1 := by decide
theorem own_zs : (2 : Int32).toInt = 2 ∧ (3 : Int32).toInt = 3 ∧ (4 : Int32).toInt = 4 ∧ (1 : Int32).toInt = 1 ∧ (128 : Int32).toInt = 128 ∧ (2048 : Int32).toInt = 2048 ∧ (65536 : Int32).toInt = 65536 ∧ (1114111 : Int32).toInt = 1114111 ∧ (55296 : Int32).toInt = 55296 ∧ (57343 : Int32).toInt = 57343 := by decide
theorem own_zt : (194 : Int32).toInt = 194 ∧ (223 : Int32).toInt = 223 ∧ (239 : Int32).toInt = 239 ∧ (244 : Int32).toInt = 244 ∧ (240 : Int32).toInt = 240 ∧ (224 : Int32).toInt = 224 ∧ (237 : Int32).toInt = 237 ∧ (191 : Int32).toInt = 191 ∧ (143 : Int32).toInt = 143 ∧ (144 : Int32).toInt = 144 ∧ (159 : Int32).toInt = 159 ∧ (160 : Int32).toInt = 160 := by decide
set_option maxHeartbeats 4000000 in
theorem own_exp_sp (c0 c1 c2 c3 a : Int32) (h0 : 0 ≤ c0.toInt ∧ c0.toInt ≤ 255) (h1 : 0 ≤ c1.toInt ∧ c1.toInt ≤ 255) (h2 : 0 ≤ c2.toInt ∧ c2.toInt ≤ 255) (h3 : 0 ≤ c3.toInt ∧ c3.toInt ≤ 255) : (own_exp c0 c1 c2 c3 a).toInt = own_sp c0.toInt c1.toInt c2.toInt c3.toInt a.toInt := by
  have k1 := own_k224 c0 h0.1 h0.2
  have k2 := own_k240 c0 h0.1 h0.2
  have k3 := own_k248 c0 h0.1 h0.2
  have n1 := own_cz c1 h1.1 h1.2
  have n2 := own_cz c2 h2.1 h2.2
  have n3 := own_cz c3 h3.1 h3.2
  have v2 : (own_v2_40 c0 c1 c2 c3 a).toInt = (c0.toInt % 32) * 64 + c1.toInt % 64 := by
    have m0 := own_m31 c0
    unfold own_v2_40
    rw [own_st _ _ (by omega), m0]
  have v3 : (own_v2_84 c0 c1 c2 c3 a).toInt = ((c0.toInt % 16) * 64 + c1.toInt % 64) * 64 + c2.toInt % 64 := own_st3 c0 c1 c2
  have v4 : (own_v2_135 c0 c1 c2 c3 a).toInt = (((c0.toInt % 8) * 64 + c1.toInt % 64) * 64 + c2.toInt % 64) * 64 + c3.toInt % 64 := own_st4 c0 c1 c2 c3
  obtain ⟨z2, z3, z4, z1, z128, z2048, z65536, z10, zd8, zdf⟩ := own_zs
  have q1' : ¬ c0.toInt < 128 → ¬ c0 < (128 : Int32) := fun q y => q (by rw [Int32.lt_iff_toInt_lt, z128] at y; exact y)
  by_cases q1 : c0.toInt < 128
  · unfold own_exp own_sp
    rw [if_pos (by rw [Int32.lt_iff_toInt_lt, z128]; exact q1), if_pos q1]
  have q1' := q1' q1
  by_cases q2 : 192 ≤ c0.toInt ∧ c0.toInt < 224
  · have l5 : own_j2_142_L5 c0 c1 c2 c3 a = 2 := by unfold own_j2_142_L5; rw [if_pos (k1.mpr q2)]
    have l6 : own_j2_142_L6 c0 c1 c2 c3 a = own_v2_40 c0 c1 c2 c3 a := by unfold own_j2_142_L6; rw [if_pos (k1.mpr q2)]
    have l7 : own_j2_142_L7 c0 c1 c2 c3 a = 128 := by unfold own_j2_142_L7; rw [if_pos (k1.mpr q2)]
    have ex : own_exp c0 c1 c2 c3 a = own_r2_142 c0 c1 c2 c3 a := by unfold own_exp; rw [if_neg q1', if_pos (k1.mpr q2)]
    rw [ex]
    unfold own_r2_142 own_r2_175 own_r2_190
    rw [l5, l6, l7]
    simp only [if_pos (show (2 : Int32) < 3 by decide), if_neg (show ¬ (2 : Int32) = 4 by decide)]
    simp only [Int32.lt_iff_toInt_lt, n1, n2, n3, z2, z3, z4, z128, z2048, z65536, z10, zd8, zdf]
    generalize own_v2_40 c0 c1 c2 c3 a = w at *
    clear l5 l6 l7 ex k1 k2 k3 n1 n2 n3
    by_cases q5 : c0.toInt < 194
    · have sp : own_sp c0.toInt c1.toInt c2.toInt c3.toInt a.toInt = -1 := by unfold own_sp; rw [if_neg q1, if_pos q5]
      rw [sp]
      repeat' split
      all_goals first | omega | (rw [own_zn1] <;> omega)
    · unfold own_sp
      rw [if_neg q1, if_neg q5, if_pos q2.2]
      repeat' split
      all_goals first | omega | (rw [own_zn1] <;> omega)
  by_cases q3 : 224 ≤ c0.toInt ∧ c0.toInt < 240
  · have l5 : own_j2_142_L5 c0 c1 c2 c3 a = 3 := by unfold own_j2_142_L5; rw [if_neg (fun y => q2 (k1.mp y)), if_pos (k2.mpr q3)]
    have l6 : own_j2_142_L6 c0 c1 c2 c3 a = own_v2_84 c0 c1 c2 c3 a := by unfold own_j2_142_L6; rw [if_neg (fun y => q2 (k1.mp y)), if_pos (k2.mpr q3)]
    have l7 : own_j2_142_L7 c0 c1 c2 c3 a = 2048 := by unfold own_j2_142_L7; rw [if_neg (fun y => q2 (k1.mp y)), if_pos (k2.mpr q3)]
    have ex : own_exp c0 c1 c2 c3 a = own_r2_142 c0 c1 c2 c3 a := by unfold own_exp; rw [if_neg q1', if_neg (fun y => q2 (k1.mp y)), if_pos (k2.mpr q3)]
    rw [ex]
    unfold own_r2_142 own_r2_175 own_r2_190
    rw [l5, l6, l7]
    simp only [if_neg (show ¬ (3 : Int32) < 3 by decide), if_neg (show ¬ (3 : Int32) = 4 by decide)]
    simp only [Int32.lt_iff_toInt_lt, n1, n2, n3, z2, z3, z4, z128, z2048, z65536, z10, zd8, zdf]
    generalize own_v2_84 c0 c1 c2 c3 a = w at *
    clear l5 l6 l7 ex k1 k2 k3 n1 n2 n3
    unfold own_sp
    rw [if_neg q1, if_neg (show ¬ c0.toInt < 194 by omega), if_neg (show ¬ c0.toInt < 224 by omega), if_pos q3.2]
    repeat' split
    all_goals first | omega | (rw [own_zn1] <;> omega)
  by_cases q4 : 240 ≤ c0.toInt ∧ c0.toInt < 248
  · have l5 : own_j2_142_L5 c0 c1 c2 c3 a = 4 := by unfold own_j2_142_L5; rw [if_neg (fun y => q2 (k1.mp y)), if_neg (fun y => q3 (k2.mp y)), if_pos (k3.mpr q4)]
    have l6 : own_j2_142_L6 c0 c1 c2 c3 a = own_v2_135 c0 c1 c2 c3 a := by unfold own_j2_142_L6; rw [if_neg (fun y => q2 (k1.mp y)), if_neg (fun y => q3 (k2.mp y)), if_pos (k3.mpr q4)]
    have l7 : own_j2_142_L7 c0 c1 c2 c3 a = 65536 := by unfold own_j2_142_L7; rw [if_neg (fun y => q2 (k1.mp y)), if_neg (fun y => q3 (k2.mp y)), if_pos (k3.mpr q4)]
    have ex : own_exp c0 c1 c2 c3 a = own_r2_142 c0 c1 c2 c3 a := by unfold own_exp; rw [if_neg q1', if_neg (fun y => q2 (k1.mp y)), if_neg (fun y => q3 (k2.mp y)), if_pos (k3.mpr q4)]
    rw [ex]
    unfold own_r2_142 own_r2_175 own_r2_190
    rw [l5, l6, l7]
    simp only [if_neg (show ¬ (4 : Int32) < 3 by decide), if_true]
    simp only [Int32.lt_iff_toInt_lt, n1, n2, n3, z2, z3, z4, z128, z2048, z65536, z10, zd8, zdf]
    generalize own_v2_135 c0 c1 c2 c3 a = w at *
    clear l5 l6 l7 ex k1 k2 k3 n1 n2 n3
    by_cases q5 : c0.toInt < 245
    · unfold own_sp
      rw [if_neg q1, if_neg (show ¬ c0.toInt < 194 by omega), if_neg (show ¬ c0.toInt < 224 by omega), if_neg (show ¬ c0.toInt < 240 by omega), if_pos q5]
      repeat' split
      all_goals first | omega | (rw [own_zn1] <;> omega)
    · unfold own_sp
      rw [if_neg q1, if_neg (show ¬ c0.toInt < 194 by omega), if_neg (show ¬ c0.toInt < 224 by omega), if_neg (show ¬ c0.toInt < 240 by omega), if_neg q5]
      repeat' split
      all_goals first | omega | (rw [own_zn1] <;> omega)
  · unfold own_exp own_sp
    rw [if_neg q1', if_neg (fun y => q2 (k1.mp y)), if_neg (fun y => q3 (k2.mp y)), if_neg (fun y => q4 (k3.mp y)), own_zn1]
    repeat' split
    all_goals omega

set_option maxHeartbeats 4000000 in
theorem own_cp0_sp (i2 b0 b1 b2 b3 b4 a : Int32) (ha : i2 - (0 : Int32) = a) : (own_cp0 i2 b0 b1 b2 b3 b4).toInt = own_sp (b0 &&& 255).toInt (b1 &&& 255).toInt (b2 &&& 255).toInt (b3 &&& 255).toInt a.toInt := by
  have m0 := own_m255 b0
  have m1 := own_m255 b1
  have m2 := own_m255 b2
  have m3 := own_m255 b3
  have t7 := own_m7 (b0 &&& 255)
  have t15 := own_m15 (b0 &&& 255)
  have t31 := own_m31 (b0 &&& 255)
  have v2 := own_st ((b0 &&& 255) &&& 31) (b1 &&& 255) (by omega)
  have v3 := own_st ((b0 &&& 255) &&& 15) (b1 &&& 255) (by omega)
  have v3' := own_st ((((b0 &&& 255) &&& 15) <<< ((6 : Int32) &&& 31)) ||| ((b1 &&& 255) &&& 63)) (b2 &&& 255) (by omega)
  have v4 := own_st ((b0 &&& 255) &&& 7) (b1 &&& 255) (by omega)
  have v4' := own_st ((((b0 &&& 255) &&& 7) <<< ((6 : Int32) &&& 31)) ||| ((b1 &&& 255) &&& 63)) (b2 &&& 255) (by omega)
  have v4'' := own_st ((((((b0 &&& 255) &&& 7) <<< ((6 : Int32) &&& 31)) ||| ((b1 &&& 255) &&& 63)) <<< ((6 : Int32) &&& 31)) ||| ((b2 &&& 255) &&& 63)) (b3 &&& 255) (by omega)
  rw [v3, t15] at v3'
  rw [v4', v4, t7] at v4''
  rw [t31] at v2
  obtain ⟨z2, z3, z4, z1, z128, z2048, z65536, z10, zd8, zdf⟩ := own_zs
  obtain ⟨z194, z223, z239, z244, z240, z224, z237, z191, z143, z144, z159, z160⟩ := own_zt
  have lt : ∀ (k : Int32), (own_v1a0_7 i2 b0 b1 b2 b3 b4 < k) ↔ (b0 &&& 255).toInt < k.toInt := fun k => Int32.lt_iff_toInt_lt
  have gt : ∀ (k : Int32), (k < own_v1a0_7 i2 b0 b1 b2 b3 b4) ↔ k.toInt < (b0 &&& 255).toInt := fun k => Int32.lt_iff_toInt_lt
  have eq : ∀ (k : Int32), (own_v1a0_7 i2 b0 b1 b2 b3 b4 = k) ↔ (b0 &&& 255).toInt = k.toInt := fun k => own_inj _ k
  have f7 : own_v1a0_7 i2 b0 b1 b2 b3 b4 = b0 &&& 255 := rfl
  by_cases q1 : (b0 &&& 255).toInt < 128
  · unfold own_cp0 own_sp
    rw [if_pos ((lt 128).mpr (by rw [z128]; exact q1)), if_pos q1, f7]
  have n128 : ¬ own_v1a0_7 i2 b0 b1 b2 b3 b4 < (128 : Int32) := fun y => q1 (by have := (lt 128).mp y; rw [z128] at this; exact this)
  by_cases q2 : (b0 &&& 255).toInt < 194
  · unfold own_cp0 own_sp
    rw [if_neg n128, if_pos ((lt 194).mpr (by rw [z194]; exact q2)), if_neg q1, if_pos q2, own_zn1]
  have n194 : ¬ own_v1a0_7 i2 b0 b1 b2 b3 b4 < (194 : Int32) := fun y => q2 (by have := (lt 194).mp y; rw [z194] at this; exact this)
  by_cases q3 : (b0 &&& 255).toInt < 224
  · have n223 : ¬ (223 : Int32) < own_v1a0_7 i2 b0 b1 b2 b3 b4 := fun y => by have := (gt 223).mp y; rw [z223] at this; omega
    have eL4 : own_j1a0_161_L4 i2 b0 b1 b2 b3 b4 = 1 := by unfold own_j1a0_161_L4; rw [if_neg n194, if_neg n223]
    have eL5 : own_j1a0_161_L5 i2 b0 b1 b2 b3 b4 = own_v1a0_48 i2 b0 b1 b2 b3 b4 := by unfold own_j1a0_161_L5; rw [if_neg n194, if_neg n223]
    have eL6 : own_j1a0_161_L6 i2 b0 b1 b2 b3 b4 = 128 := by unfold own_j1a0_161_L6; rw [if_neg n194, if_neg n223]
    have eL7 : own_j1a0_161_L7 i2 b0 b1 b2 b3 b4 = 191 := by unfold own_j1a0_161_L7; rw [if_neg n194, if_neg n223]
    have ex : own_cp0 i2 b0 b1 b2 b3 b4 = own_r1a0_161 i2 b0 b1 b2 b3 b4 := by unfold own_cp0; rw [if_neg n128, if_neg n194, if_neg n223]
    have vv : (own_v1a0_220 i2 b0 b1 b2 b3 b4).toInt = (b0 &&& 255).toInt % 32 * 64 + (b1 &&& 255).toInt % 64 := (by unfold own_v1a0_220; rw [eL5]; exact v2)
    rw [ex]
    unfold own_r1a0_161
    rw [ha, eL4, eL6, eL7, if_pos (show (1 : Int32) = 1 from rfl)]
    have g1 : own_v1a0_191 i2 b0 b1 b2 b3 b4 = (b1 &&& 255) := rfl
    rw [g1]
    generalize own_v1a0_220 i2 b0 b1 b2 b3 b4 = w at *
    simp only [Int32.lt_iff_toInt_lt, z1, z2, z3, z128, z191, z143, z144, z159, z160]
    unfold own_sp
    rw [if_neg q1, if_neg q2, if_pos q3]
    clear eL4 eL5 eL6 eL7 ex g1 v2 v3 v3' v4 v4' v4'' t7 t15 t31 m0
    repeat' split
    all_goals first | omega | (rw [own_zn1] <;> omega)
  have n223 : (223 : Int32) < own_v1a0_7 i2 b0 b1 b2 b3 b4 := (gt 223).mpr (by rw [z223]; omega)
  by_cases q4 : (b0 &&& 255).toInt < 240
  · have n239 : ¬ (239 : Int32) < own_v1a0_7 i2 b0 b1 b2 b3 b4 := fun y => by have := (gt 239).mp y; rw [z239] at this; omega
    by_cases q5 : (b0 &&& 255).toInt = 224
    · have n224 : own_v1a0_7 i2 b0 b1 b2 b3 b4 = (224 : Int32) := (eq 224).mpr (by rw [z224]; exact q5)
      have eL4 : own_j1a0_161_L4 i2 b0 b1 b2 b3 b4 = 2 := by unfold own_j1a0_161_L4; rw [if_neg n194, if_pos n223, if_neg n239, if_pos n224]
      have eL5 : own_j1a0_161_L5 i2 b0 b1 b2 b3 b4 = own_v1a0_74 i2 b0 b1 b2 b3 b4 := by unfold own_j1a0_161_L5; rw [if_neg n194, if_pos n223, if_neg n239, if_pos n224]
      have eL6 : own_j1a0_161_L6 i2 b0 b1 b2 b3 b4 = 160 := by unfold own_j1a0_161_L6; rw [if_neg n194, if_pos n223, if_neg n239, if_pos n224]
      have eL7 : own_j1a0_161_L7 i2 b0 b1 b2 b3 b4 = 191 := by unfold own_j1a0_161_L7; rw [if_neg n194, if_pos n223, if_neg n239, if_pos n224]
      have ex : own_cp0 i2 b0 b1 b2 b3 b4 = own_r1a0_161 i2 b0 b1 b2 b3 b4 := by unfold own_cp0; rw [if_neg n128, if_neg n194, if_pos n223, if_neg n239, if_pos n224]
      have vv : (own_v1a0_220_3 i2 b0 b1 b2 b3 b4).toInt = ((b0 &&& 255).toInt % 16 * 64 + (b1 &&& 255).toInt % 64) * 64 + (b2 &&& 255).toInt % 64 := (by unfold own_v1a0_220_3 own_v1a0_220_2; rw [eL5]; exact v3')
      rw [ex]
      unfold own_r1a0_161
      rw [ha, eL4, eL6, eL7, if_neg (show ¬ (2 : Int32) = 1 by decide), if_pos (show (2 : Int32) = 2 from rfl)]
      have g1 : own_v1a0_191_2 i2 b0 b1 b2 b3 b4 = (b1 &&& 255) := rfl
      have g2 : own_v1a0_191_3 i2 b0 b1 b2 b3 b4 = (b2 &&& 255) := rfl
      rw [g1, g2]
      generalize own_v1a0_220_3 i2 b0 b1 b2 b3 b4 = w at *
      simp only [Int32.lt_iff_toInt_lt, z1, z2, z3, z128, z191, z143, z144, z159, z160]
      unfold own_sp
      rw [if_neg q1, if_neg q2, if_neg q3, if_pos q4]
      clear eL4 eL5 eL6 eL7 ex g1 g2 v2 v3 v3' v4 v4' v4'' t7 t15 t31 m0
      repeat' split
      all_goals first | omega | (rw [own_zn1] <;> omega)
    have n224 : ¬ own_v1a0_7 i2 b0 b1 b2 b3 b4 = (224 : Int32) := fun y => q5 (by have := (eq 224).mp y; rw [z224] at this; exact this)
    by_cases q6 : (b0 &&& 255).toInt = 237
    · have n237 : own_v1a0_7 i2 b0 b1 b2 b3 b4 = (237 : Int32) := (eq 237).mpr (by rw [z237]; exact q6)
      have eL4 : own_j1a0_161_L4 i2 b0 b1 b2 b3 b4 = 2 := by unfold own_j1a0_161_L4; rw [if_neg n194, if_pos n223, if_neg n239, if_neg n224, if_pos n237]
      have eL5 : own_j1a0_161_L5 i2 b0 b1 b2 b3 b4 = own_v1a0_74 i2 b0 b1 b2 b3 b4 := by unfold own_j1a0_161_L5; rw [if_neg n194, if_pos n223, if_neg n239, if_neg n224, if_pos n237]
      have eL6 : own_j1a0_161_L6 i2 b0 b1 b2 b3 b4 = 128 := by unfold own_j1a0_161_L6; rw [if_neg n194, if_pos n223, if_neg n239, if_neg n224, if_pos n237]
      have eL7 : own_j1a0_161_L7 i2 b0 b1 b2 b3 b4 = 159 := by unfold own_j1a0_161_L7; rw [if_neg n194, if_pos n223, if_neg n239, if_neg n224, if_pos n237]
      have ex : own_cp0 i2 b0 b1 b2 b3 b4 = own_r1a0_161 i2 b0 b1 b2 b3 b4 := by unfold own_cp0; rw [if_neg n128, if_neg n194, if_pos n223, if_neg n239, if_neg n224, if_pos n237]
      have vv : (own_v1a0_220_3 i2 b0 b1 b2 b3 b4).toInt = ((b0 &&& 255).toInt % 16 * 64 + (b1 &&& 255).toInt % 64) * 64 + (b2 &&& 255).toInt % 64 := (by unfold own_v1a0_220_3 own_v1a0_220_2; rw [eL5]; exact v3')
      rw [ex]
      unfold own_r1a0_161
      rw [ha, eL4, eL6, eL7, if_neg (show ¬ (2 : Int32) = 1 by decide), if_pos (show (2 : Int32) = 2 from rfl)]
      have g1 : own_v1a0_191_2 i2 b0 b1 b2 b3 b4 = (b1 &&& 255) := rfl
      have g2 : own_v1a0_191_3 i2 b0 b1 b2 b3 b4 = (b2 &&& 255) := rfl
      rw [g1, g2]
      generalize own_v1a0_220_3 i2 b0 b1 b2 b3 b4 = w at *
      simp only [Int32.lt_iff_toInt_lt, z1, z2, z3, z128, z191, z143, z144, z159, z160]
      unfold own_sp
      rw [if_neg q1, if_neg q2, if_neg q3, if_pos q4]
      clear eL4 eL5 eL6 eL7 ex g1 g2 v2 v3 v3' v4 v4' v4'' t7 t15 t31 m0
      repeat' split
      all_goals first | omega | (rw [own_zn1] <;> omega)
    · have n237 : ¬ own_v1a0_7 i2 b0 b1 b2 b3 b4 = (237 : Int32) := fun y => q6 (by have := (eq 237).mp y; rw [z237] at this; exact this)
      have eL4 : own_j1a0_161_L4 i2 b0 b1 b2 b3 b4 = 2 := by unfold own_j1a0_161_L4; rw [if_neg n194, if_pos n223, if_neg n239, if_neg n224, if_neg n237]
      have eL5 : own_j1a0_161_L5 i2 b0 b1 b2 b3 b4 = own_v1a0_74 i2 b0 b1 b2 b3 b4 := by unfold own_j1a0_161_L5; rw [if_neg n194, if_pos n223, if_neg n239, if_neg n224, if_neg n237]
      have eL6 : own_j1a0_161_L6 i2 b0 b1 b2 b3 b4 = 128 := by unfold own_j1a0_161_L6; rw [if_neg n194, if_pos n223, if_neg n239, if_neg n224, if_neg n237]
      have eL7 : own_j1a0_161_L7 i2 b0 b1 b2 b3 b4 = 191 := by unfold own_j1a0_161_L7; rw [if_neg n194, if_pos n223, if_neg n239, if_neg n224, if_neg n237]
      have ex : own_cp0 i2 b0 b1 b2 b3 b4 = own_r1a0_161 i2 b0 b1 b2 b3 b4 := by unfold own_cp0; rw [if_neg n128, if_neg n194, if_pos n223, if_neg n239, if_neg n224, if_neg n237]
      have vv : (own_v1a0_220_3 i2 b0 b1 b2 b3 b4).toInt = ((b0 &&& 255).toInt % 16 * 64 + (b1 &&& 255).toInt % 64) * 64 + (b2 &&& 255).toInt % 64 := (by unfold own_v1a0_220_3 own_v1a0_220_2; rw [eL5]; exact v3')
      rw [ex]
      unfold own_r1a0_161
      rw [ha, eL4, eL6, eL7, if_neg (show ¬ (2 : Int32) = 1 by decide), if_pos (show (2 : Int32) = 2 from rfl)]
      have g1 : own_v1a0_191_2 i2 b0 b1 b2 b3 b4 = (b1 &&& 255) := rfl
      have g2 : own_v1a0_191_3 i2 b0 b1 b2 b3 b4 = (b2 &&& 255) := rfl
      rw [g1, g2]
      generalize own_v1a0_220_3 i2 b0 b1 b2 b3 b4 = w at *
      simp only [Int32.lt_iff_toInt_lt, z1, z2, z3, z128, z191, z143, z144, z159, z160]
      unfold own_sp
      rw [if_neg q1, if_neg q2, if_neg q3, if_pos q4]
      clear eL4 eL5 eL6 eL7 ex g1 g2 v2 v3 v3' v4 v4' v4'' t7 t15 t31 m0
      repeat' split
      all_goals first | omega | (rw [own_zn1] <;> omega)
  have n239 : (239 : Int32) < own_v1a0_7 i2 b0 b1 b2 b3 b4 := (gt 239).mpr (by rw [z239]; omega)
  by_cases q5 : (b0 &&& 255).toInt < 245
  · have n244 : ¬ (244 : Int32) < own_v1a0_7 i2 b0 b1 b2 b3 b4 := fun y => by have := (gt 244).mp y; rw [z244] at this; omega
    by_cases q6 : (b0 &&& 255).toInt = 240
    · have n240 : own_v1a0_7 i2 b0 b1 b2 b3 b4 = (240 : Int32) := (eq 240).mpr (by rw [z240]; exact q6)
      have eL4 : own_j1a0_161_L4 i2 b0 b1 b2 b3 b4 = 3 := by unfold own_j1a0_161_L4; rw [if_neg n194, if_pos n223, if_pos n239, if_neg n244, if_pos n240]
      have eL5 : own_j1a0_161_L5 i2 b0 b1 b2 b3 b4 = own_v1a0_127 i2 b0 b1 b2 b3 b4 := by unfold own_j1a0_161_L5; rw [if_neg n194, if_pos n223, if_pos n239, if_neg n244, if_pos n240]
      have eL6 : own_j1a0_161_L6 i2 b0 b1 b2 b3 b4 = 144 := by unfold own_j1a0_161_L6; rw [if_neg n194, if_pos n223, if_pos n239, if_neg n244, if_pos n240]
      have eL7 : own_j1a0_161_L7 i2 b0 b1 b2 b3 b4 = 191 := by unfold own_j1a0_161_L7; rw [if_neg n194, if_pos n223, if_pos n239, if_neg n244, if_pos n240]
      have ex : own_cp0 i2 b0 b1 b2 b3 b4 = own_r1a0_161 i2 b0 b1 b2 b3 b4 := by unfold own_cp0; rw [if_neg n128, if_neg n194, if_pos n223, if_pos n239, if_neg n244, if_pos n240]
      have vv : (own_v1a0_220_6 i2 b0 b1 b2 b3 b4).toInt = (((b0 &&& 255).toInt % 8 * 64 + (b1 &&& 255).toInt % 64) * 64 + (b2 &&& 255).toInt % 64) * 64 + (b3 &&& 255).toInt % 64 := (by unfold own_v1a0_220_6 own_v1a0_220_5 own_v1a0_220_4; rw [eL5]; exact v4'')
      rw [ex]
      unfold own_r1a0_161
      rw [ha, eL4, eL6, eL7, if_neg (show ¬ (3 : Int32) = 1 by decide), if_neg (show ¬ (3 : Int32) = 2 by decide)]
      have g1 : own_v1a0_191_4 i2 b0 b1 b2 b3 b4 = (b1 &&& 255) := rfl
      have g2 : own_v1a0_191_5 i2 b0 b1 b2 b3 b4 = (b2 &&& 255) := rfl
      have g3 : own_v1a0_191_6 i2 b0 b1 b2 b3 b4 = (b3 &&& 255) := rfl
      rw [g1, g2, g3]
      generalize own_v1a0_220_6 i2 b0 b1 b2 b3 b4 = w at *
      simp only [Int32.lt_iff_toInt_lt, z1, z2, z3, z128, z191, z143, z144, z159, z160]
      unfold own_sp
      rw [if_neg q1, if_neg q2, if_neg q3, if_neg q4, if_pos q5]
      clear eL4 eL5 eL6 eL7 ex g1 g2 g3 v2 v3 v3' v4 v4' v4'' t7 t15 t31 m0
      repeat' split
      all_goals first | omega | (rw [own_zn1] <;> omega)
    have n240 : ¬ own_v1a0_7 i2 b0 b1 b2 b3 b4 = (240 : Int32) := fun y => q6 (by have := (eq 240).mp y; rw [z240] at this; exact this)
    by_cases q7 : (b0 &&& 255).toInt = 244
    · have n244' : own_v1a0_7 i2 b0 b1 b2 b3 b4 = (244 : Int32) := (eq 244).mpr (by rw [z244]; exact q7)
      have eL4 : own_j1a0_161_L4 i2 b0 b1 b2 b3 b4 = 3 := by unfold own_j1a0_161_L4; rw [if_neg n194, if_pos n223, if_pos n239, if_neg n244, if_neg n240, if_pos n244']
      have eL5 : own_j1a0_161_L5 i2 b0 b1 b2 b3 b4 = own_v1a0_127 i2 b0 b1 b2 b3 b4 := by unfold own_j1a0_161_L5; rw [if_neg n194, if_pos n223, if_pos n239, if_neg n244, if_neg n240, if_pos n244']
      have eL6 : own_j1a0_161_L6 i2 b0 b1 b2 b3 b4 = 128 := by unfold own_j1a0_161_L6; rw [if_neg n194, if_pos n223, if_pos n239, if_neg n244, if_neg n240, if_pos n244']
      have eL7 : own_j1a0_161_L7 i2 b0 b1 b2 b3 b4 = 143 := by unfold own_j1a0_161_L7; rw [if_neg n194, if_pos n223, if_pos n239, if_neg n244, if_neg n240, if_pos n244']
      have ex : own_cp0 i2 b0 b1 b2 b3 b4 = own_r1a0_161 i2 b0 b1 b2 b3 b4 := by unfold own_cp0; rw [if_neg n128, if_neg n194, if_pos n223, if_pos n239, if_neg n244, if_neg n240, if_pos n244']
      have vv : (own_v1a0_220_6 i2 b0 b1 b2 b3 b4).toInt = (((b0 &&& 255).toInt % 8 * 64 + (b1 &&& 255).toInt % 64) * 64 + (b2 &&& 255).toInt % 64) * 64 + (b3 &&& 255).toInt % 64 := (by unfold own_v1a0_220_6 own_v1a0_220_5 own_v1a0_220_4; rw [eL5]; exact v4'')
      rw [ex]
      unfold own_r1a0_161
      rw [ha, eL4, eL6, eL7, if_neg (show ¬ (3 : Int32) = 1 by decide), if_neg (show ¬ (3 : Int32) = 2 by decide)]
      have g1 : own_v1a0_191_4 i2 b0 b1 b2 b3 b4 = (b1 &&& 255) := rfl
      have g2 : own_v1a0_191_5 i2 b0 b1 b2 b3 b4 = (b2 &&& 255) := rfl
      have g3 : own_v1a0_191_6 i2 b0 b1 b2 b3 b4 = (b3 &&& 255) := rfl
      rw [g1, g2, g3]
      generalize own_v1a0_220_6 i2 b0 b1 b2 b3 b4 = w at *
      simp only [Int32.lt_iff_toInt_lt, z1, z2, z3, z128, z191, z143, z144, z159, z160]
      unfold own_sp
      rw [if_neg q1, if_neg q2, if_neg q3, if_neg q4, if_pos q5]
      clear eL4 eL5 eL6 eL7 ex g1 g2 g3 v2 v3 v3' v4 v4' v4'' t7 t15 t31 m0
      repeat' split
      all_goals first | omega | (rw [own_zn1] <;> omega)
    · have n244' : ¬ own_v1a0_7 i2 b0 b1 b2 b3 b4 = (244 : Int32) := fun y => q7 (by have := (eq 244).mp y; rw [z244] at this; exact this)
      have eL4 : own_j1a0_161_L4 i2 b0 b1 b2 b3 b4 = 3 := by unfold own_j1a0_161_L4; rw [if_neg n194, if_pos n223, if_pos n239, if_neg n244, if_neg n240, if_neg n244']
      have eL5 : own_j1a0_161_L5 i2 b0 b1 b2 b3 b4 = own_v1a0_127 i2 b0 b1 b2 b3 b4 := by unfold own_j1a0_161_L5; rw [if_neg n194, if_pos n223, if_pos n239, if_neg n244, if_neg n240, if_neg n244']
      have eL6 : own_j1a0_161_L6 i2 b0 b1 b2 b3 b4 = 128 := by unfold own_j1a0_161_L6; rw [if_neg n194, if_pos n223, if_pos n239, if_neg n244, if_neg n240, if_neg n244']
      have eL7 : own_j1a0_161_L7 i2 b0 b1 b2 b3 b4 = 191 := by unfold own_j1a0_161_L7; rw [if_neg n194, if_pos n223, if_pos n239, if_neg n244, if_neg n240, if_neg n244']
      have ex : own_cp0 i2 b0 b1 b2 b3 b4 = own_r1a0_161 i2 b0 b1 b2 b3 b4 := by unfold own_cp0; rw [if_neg n128, if_neg n194, if_pos n223, if_pos n239, if_neg n244, if_neg n240, if_neg n244']
      have vv : (own_v1a0_220_6 i2 b0 b1 b2 b3 b4).toInt = (((b0 &&& 255).toInt % 8 * 64 + (b1 &&& 255).toInt % 64) * 64 + (b2 &&& 255).toInt % 64) * 64 + (b3 &&& 255).toInt % 64 := (by unfold own_v1a0_220_6 own_v1a0_220_5 own_v1a0_220_4; rw [eL5]; exact v4'')
      rw [ex]
      unfold own_r1a0_161
      rw [ha, eL4, eL6, eL7, if_neg (show ¬ (3 : Int32) = 1 by decide), if_neg (show ¬ (3 : Int32) = 2 by decide)]
      have g1 : own_v1a0_191_4 i2 b0 b1 b2 b3 b4 = (b1 &&& 255) := rfl
      have g2 : own_v1a0_191_5 i2 b0 b1 b2 b3 b4 = (b2 &&& 255) := rfl
      have g3 : own_v1a0_191_6 i2 b0 b1 b2 b3 b4 = (b3 &&& 255) := rfl
      rw [g1, g2, g3]
      generalize own_v1a0_220_6 i2 b0 b1 b2 b3 b4 = w at *
      simp only [Int32.lt_iff_toInt_lt, z1, z2, z3, z128, z191, z143, z144, z159, z160]
      unfold own_sp
      rw [if_neg q1, if_neg q2, if_neg q3, if_neg q4, if_pos q5]
      clear eL4 eL5 eL6 eL7 ex g1 g2 g3 v2 v3 v3' v4 v4' v4'' t7 t15 t31 m0
      repeat' split
      all_goals first | omega | (rw [own_zn1] <;> omega)
  · have n244 : (244 : Int32) < own_v1a0_7 i2 b0 b1 b2 b3 b4 := (gt 244).mpr (by rw [z244]; omega)
    unfold own_cp0 own_sp
    rw [if_neg n128, if_neg n194, if_pos n223, if_pos n239, if_pos n244, if_neg q1, if_neg q2, if_neg q3, if_neg q4, if_neg q5, own_zn1]

set_option maxHeartbeats 4000000 in
theorem own_cp1_sp (i2 b0 b1 b2 b3 b4 a : Int32) (ha : i2 - (1 : Int32) = a) : (own_cp1 i2 b0 b1 b2 b3 b4).toInt = own_sp (b1 &&& 255).toInt (b2 &&& 255).toInt (b3 &&& 255).toInt (b4 &&& 255).toInt a.toInt := by
  have m0 := own_m255 b1
  have m1 := own_m255 b2
  have m2 := own_m255 b3
  have m3 := own_m255 b4
  have t7 := own_m7 (b1 &&& 255)
  have t15 := own_m15 (b1 &&& 255)
  have t31 := own_m31 (b1 &&& 255)
  have v2 := own_st ((b1 &&& 255) &&& 31) (b2 &&& 255) (by omega)
  have v3 := own_st ((b1 &&& 255) &&& 15) (b2 &&& 255) (by omega)
  have v3' := own_st ((((b1 &&& 255) &&& 15) <<< ((6 : Int32) &&& 31)) ||| ((b2 &&& 255) &&& 63)) (b3 &&& 255) (by omega)
  have v4 := own_st ((b1 &&& 255) &&& 7) (b2 &&& 255) (by omega)
  have v4' := own_st ((((b1 &&& 255) &&& 7) <<< ((6 : Int32) &&& 31)) ||| ((b2 &&& 255) &&& 63)) (b3 &&& 255) (by omega)
  have v4'' := own_st ((((((b1 &&& 255) &&& 7) <<< ((6 : Int32) &&& 31)) ||| ((b2 &&& 255) &&& 63)) <<< ((6 : Int32) &&& 31)) ||| ((b3 &&& 255) &&& 63)) (b4 &&& 255) (by omega)
  rw [v3, t15] at v3'
  rw [v4', v4, t7] at v4''
  rw [t31] at v2
  obtain ⟨z2, z3, z4, z1, z128, z2048, z65536, z10, zd8, zdf⟩ := own_zs
  obtain ⟨z194, z223, z239, z244, z240, z224, z237, z191, z143, z144, z159, z160⟩ := own_zt
  have lt : ∀ (k : Int32), (own_v1a1_7 i2 b0 b1 b2 b3 b4 < k) ↔ (b1 &&& 255).toInt < k.toInt := fun k => Int32.lt_iff_toInt_lt
  have gt : ∀ (k : Int32), (k < own_v1a1_7 i2 b0 b1 b2 b3 b4) ↔ k.toInt < (b1 &&& 255).toInt := fun k => Int32.lt_iff_toInt_lt
  have eq : ∀ (k : Int32), (own_v1a1_7 i2 b0 b1 b2 b3 b4 = k) ↔ (b1 &&& 255).toInt = k.toInt := fun k => own_inj _ k
  have f7 : own_v1a1_7 i2 b0 b1 b2 b3 b4 = b1 &&& 255 := rfl
  by_cases q1 : (b1 &&& 255).toInt < 128
  · unfold own_cp1 own_sp
    rw [if_pos ((lt 128).mpr (by rw [z128]; exact q1)), if_pos q1, f7]
  have n128 : ¬ own_v1a1_7 i2 b0 b1 b2 b3 b4 < (128 : Int32) := fun y => q1 (by have := (lt 128).mp y; rw [z128] at this; exact this)
  by_cases q2 : (b1 &&& 255).toInt < 194
  · unfold own_cp1 own_sp
    rw [if_neg n128, if_pos ((lt 194).mpr (by rw [z194]; exact q2)), if_neg q1, if_pos q2, own_zn1]
  have n194 : ¬ own_v1a1_7 i2 b0 b1 b2 b3 b4 < (194 : Int32) := fun y => q2 (by have := (lt 194).mp y; rw [z194] at this; exact this)
  by_cases q3 : (b1 &&& 255).toInt < 224
  · have n223 : ¬ (223 : Int32) < own_v1a1_7 i2 b0 b1 b2 b3 b4 := fun y => by have := (gt 223).mp y; rw [z223] at this; omega
    have eL4 : own_j1a1_161_L4 i2 b0 b1 b2 b3 b4 = 1 := by unfold own_j1a1_161_L4; rw [if_neg n194, if_neg n223]
    have eL5 : own_j1a1_161_L5 i2 b0 b1 b2 b3 b4 = own_v1a1_48 i2 b0 b1 b2 b3 b4 := by unfold own_j1a1_161_L5; rw [if_neg n194, if_neg n223]
    have eL6 : own_j1a1_161_L6 i2 b0 b1 b2 b3 b4 = 128 := by unfold own_j1a1_161_L6; rw [if_neg n194, if_neg n223]
    have eL7 : own_j1a1_161_L7 i2 b0 b1 b2 b3 b4 = 191 := by unfold own_j1a1_161_L7; rw [if_neg n194, if_neg n223]
    have ex : own_cp1 i2 b0 b1 b2 b3 b4 = own_r1a1_161 i2 b0 b1 b2 b3 b4 := by unfold own_cp1; rw [if_neg n128, if_neg n194, if_neg n223]
    have vv : (own_v1a1_220 i2 b0 b1 b2 b3 b4).toInt = (b1 &&& 255).toInt % 32 * 64 + (b2 &&& 255).toInt % 64 := (by unfold own_v1a1_220; rw [eL5]; exact v2)
    rw [ex]
    unfold own_r1a1_161
    rw [ha, eL4, eL6, eL7, if_pos (show (1 : Int32) = 1 from rfl)]
    have g1 : own_v1a1_191 i2 b0 b1 b2 b3 b4 = (b2 &&& 255) := rfl
    rw [g1]
    generalize own_v1a1_220 i2 b0 b1 b2 b3 b4 = w at *
    simp only [Int32.lt_iff_toInt_lt, z1, z2, z3, z128, z191, z143, z144, z159, z160]
    unfold own_sp
    rw [if_neg q1, if_neg q2, if_pos q3]
    clear eL4 eL5 eL6 eL7 ex g1 v2 v3 v3' v4 v4' v4'' t7 t15 t31 m0
    repeat' split
    all_goals first | omega | (rw [own_zn1] <;> omega)
  have n223 : (223 : Int32) < own_v1a1_7 i2 b0 b1 b2 b3 b4 := (gt 223).mpr (by rw [z223]; omega)
  by_cases q4 : (b1 &&& 255).toInt < 240
  · have n239 : ¬ (239 : Int32) < own_v1a1_7 i2 b0 b1 b2 b3 b4 := fun y => by have := (gt 239).mp y; rw [z239] at this; omega
    by_cases q5 : (b1 &&& 255).toInt = 224
    · have n224 : own_v1a1_7 i2 b0 b1 b2 b3 b4 = (224 : Int32) := (eq 224).mpr (by rw [z224]; exact q5)
      have eL4 : own_j1a1_161_L4 i2 b0 b1 b2 b3 b4 = 2 := by unfold own_j1a1_161_L4; rw [if_neg n194, if_pos n223, if_neg n239, if_pos n224]
      have eL5 : own_j1a1_161_L5 i2 b0 b1 b2 b3 b4 = own_v1a1_74 i2 b0 b1 b2 b3 b4 := by unfold own_j1a1_161_L5; rw [if_neg n194, if_pos n223, if_neg n239, if_pos n224]
      have eL6 : own_j1a1_161_L6 i2 b0 b1 b2 b3 b4 = 160 := by unfold own_j1a1_161_L6; rw [if_neg n194, if_pos n223, if_neg n239, if_pos n224]
      have eL7 : own_j1a1_161_L7 i2 b0 b1 b2 b3 b4 = 191 := by unfold own_j1a1_161_L7; rw [if_neg n194, if_pos n223, if_neg n239, if_pos n224]
      have ex : own_cp1 i2 b0 b1 b2 b3 b4 = own_r1a1_161 i2 b0 b1 b2 b3 b4 := by unfold own_cp1; rw [if_neg n128, if_neg n194, if_pos n223, if_neg n239, if_pos n224]
      have vv : (own_v1a1_220_3 i2 b0 b1 b2 b3 b4).toInt = ((b1 &&& 255).toInt % 16 * 64 + (b2 &&& 255).toInt % 64) * 64 + (b3 &&& 255).toInt % 64 := (by unfold own_v1a1_220_3 own_v1a1_220_2; rw [eL5]; exact v3')
      rw [ex]
      unfold own_r1a1_161
      rw [ha, eL4, eL6, eL7, if_neg (show ¬ (2 : Int32) = 1 by decide), if_pos (show (2 : Int32) = 2 from rfl)]
      have g1 : own_v1a1_191_2 i2 b0 b1 b2 b3 b4 = (b2 &&& 255) := rfl
      have g2 : own_v1a1_191_3 i2 b0 b1 b2 b3 b4 = (b3 &&& 255) := rfl
      rw [g1, g2]
      generalize own_v1a1_220_3 i2 b0 b1 b2 b3 b4 = w at *
      simp only [Int32.lt_iff_toInt_lt, z1, z2, z3, z128, z191, z143, z144, z159, z160]
      unfold own_sp
      rw [if_neg q1, if_neg q2, if_neg q3, if_pos q4]
      clear eL4 eL5 eL6 eL7 ex g1 g2 v2 v3 v3' v4 v4' v4'' t7 t15 t31 m0
      repeat' split
      all_goals first | omega | (rw [own_zn1] <;> omega)
    have n224 : ¬ own_v1a1_7 i2 b0 b1 b2 b3 b4 = (224 : Int32) := fun y => q5 (by have := (eq 224).mp y; rw [z224] at this; exact this)
    by_cases q6 : (b1 &&& 255).toInt = 237
    · have n237 : own_v1a1_7 i2 b0 b1 b2 b3 b4 = (237 : Int32) := (eq 237).mpr (by rw [z237]; exact q6)
      have eL4 : own_j1a1_161_L4 i2 b0 b1 b2 b3 b4 = 2 := by unfold own_j1a1_161_L4; rw [if_neg n194, if_pos n223, if_neg n239, if_neg n224, if_pos n237]
      have eL5 : own_j1a1_161_L5 i2 b0 b1 b2 b3 b4 = own_v1a1_74 i2 b0 b1 b2 b3 b4 := by unfold own_j1a1_161_L5; rw [if_neg n194, if_pos n223, if_neg n239, if_neg n224, if_pos n237]
      have eL6 : own_j1a1_161_L6 i2 b0 b1 b2 b3 b4 = 128 := by unfold own_j1a1_161_L6; rw [if_neg n194, if_pos n223, if_neg n239, if_neg n224, if_pos n237]
      have eL7 : own_j1a1_161_L7 i2 b0 b1 b2 b3 b4 = 159 := by unfold own_j1a1_161_L7; rw [if_neg n194, if_pos n223, if_neg n239, if_neg n224, if_pos n237]
      have ex : own_cp1 i2 b0 b1 b2 b3 b4 = own_r1a1_161 i2 b0 b1 b2 b3 b4 := by unfold own_cp1; rw [if_neg n128, if_neg n194, if_pos n223, if_neg n239, if_neg n224, if_pos n237]
      have vv : (own_v1a1_220_3 i2 b0 b1 b2 b3 b4).toInt = ((b1 &&& 255).toInt % 16 * 64 + (b2 &&& 255).toInt % 64) * 64 + (b3 &&& 255).toInt % 64 := (by unfold own_v1a1_220_3 own_v1a1_220_2; rw [eL5]; exact v3')
      rw [ex]
      unfold own_r1a1_161
      rw [ha, eL4, eL6, eL7, if_neg (show ¬ (2 : Int32) = 1 by decide), if_pos (show (2 : Int32) = 2 from rfl)]
      have g1 : own_v1a1_191_2 i2 b0 b1 b2 b3 b4 = (b2 &&& 255) := rfl
      have g2 : own_v1a1_191_3 i2 b0 b1 b2 b3 b4 = (b3 &&& 255) := rfl
      rw [g1, g2]
      generalize own_v1a1_220_3 i2 b0 b1 b2 b3 b4 = w at *
      simp only [Int32.lt_iff_toInt_lt, z1, z2, z3, z128, z191, z143, z144, z159, z160]
      unfold own_sp
      rw [if_neg q1, if_neg q2, if_neg q3, if_pos q4]
      clear eL4 eL5 eL6 eL7 ex g1 g2 v2 v3 v3' v4 v4' v4'' t7 t15 t31 m0
      repeat' split
      all_goals first | omega | (rw [own_zn1] <;> omega)
    · have n237 : ¬ own_v1a1_7 i2 b0 b1 b2 b3 b4 = (237 : Int32) := fun y => q6 (by have := (eq 237).mp y; rw [z237] at this; exact this)
      have eL4 : own_j1a1_161_L4 i2 b0 b1 b2 b3 b4 = 2 := by unfold own_j1a1_161_L4; rw [if_neg n194, if_pos n223, if_neg n239, if_neg n224, if_neg n237]
      have eL5 : own_j1a1_161_L5 i2 b0 b1 b2 b3 b4 = own_v1a1_74 i2 b0 b1 b2 b3 b4 := by unfold own_j1a1_161_L5; rw [if_neg n194, if_pos n223, if_neg n239, if_neg n224, if_neg n237]
      have eL6 : own_j1a1_161_L6 i2 b0 b1 b2 b3 b4 = 128 := by unfold own_j1a1_161_L6; rw [if_neg n194, if_pos n223, if_neg n239, if_neg n224, if_neg n237]
      have eL7 : own_j1a1_161_L7 i2 b0 b1 b2 b3 b4 = 191 := by unfold own_j1a1_161_L7; rw [if_neg n194, if_pos n223, if_neg n239, if_neg n224, if_neg n237]
      have ex : own_cp1 i2 b0 b1 b2 b3 b4 = own_r1a1_161 i2 b0 b1 b2 b3 b4 := by unfold own_cp1; rw [if_neg n128, if_neg n194, if_pos n223, if_neg n239, if_neg n224, if_neg n237]
      have vv : (own_v1a1_220_3 i2 b0 b1 b2 b3 b4).toInt = ((b1 &&& 255).toInt % 16 * 64 + (b2 &&& 255).toInt % 64) * 64 + (b3 &&& 255).toInt % 64 := (by unfold own_v1a1_220_3 own_v1a1_220_2; rw [eL5]; exact v3')
      rw [ex]
      unfold own_r1a1_161
      rw [ha, eL4, eL6, eL7, if_neg (show ¬ (2 : Int32) = 1 by decide), if_pos (show (2 : Int32) = 2 from rfl)]
      have g1 : own_v1a1_191_2 i2 b0 b1 b2 b3 b4 = (b2 &&& 255) := rfl
      have g2 : own_v1a1_191_3 i2 b0 b1 b2 b3 b4 = (b3 &&& 255) := rfl
      rw [g1, g2]
      generalize own_v1a1_220_3 i2 b0 b1 b2 b3 b4 = w at *
      simp only [Int32.lt_iff_toInt_lt, z1, z2, z3, z128, z191, z143, z144, z159, z160]
      unfold own_sp
      rw [if_neg q1, if_neg q2, if_neg q3, if_pos q4]
      clear eL4 eL5 eL6 eL7 ex g1 g2 v2 v3 v3' v4 v4' v4'' t7 t15 t31 m0
      repeat' split
      all_goals first | omega | (rw [own_zn1] <;> omega)
  have n239 : (239 : Int32) < own_v1a1_7 i2 b0 b1 b2 b3 b4 := (gt 239).mpr (by rw [z239]; omega)
  by_cases q5 : (b1 &&& 255).toInt < 245
  · have n244 : ¬ (244 : Int32) < own_v1a1_7 i2 b0 b1 b2 b3 b4 := fun y => by have := (gt 244).mp y; rw [z244] at this; omega
    by_cases q6 : (b1 &&& 255).toInt = 240
    · have n240 : own_v1a1_7 i2 b0 b1 b2 b3 b4 = (240 : Int32) := (eq 240).mpr (by rw [z240]; exact q6)
      have eL4 : own_j1a1_161_L4 i2 b0 b1 b2 b3 b4 = 3 := by unfold own_j1a1_161_L4; rw [if_neg n194, if_pos n223, if_pos n239, if_neg n244, if_pos n240]
      have eL5 : own_j1a1_161_L5 i2 b0 b1 b2 b3 b4 = own_v1a1_127 i2 b0 b1 b2 b3 b4 := by unfold own_j1a1_161_L5; rw [if_neg n194, if_pos n223, if_pos n239, if_neg n244, if_pos n240]
      have eL6 : own_j1a1_161_L6 i2 b0 b1 b2 b3 b4 = 144 := by unfold own_j1a1_161_L6; rw [if_neg n194, if_pos n223, if_pos n239, if_neg n244, if_pos n240]
      have eL7 : own_j1a1_161_L7 i2 b0 b1 b2 b3 b4 = 191 := by unfold own_j1a1_161_L7; rw [if_neg n194, if_pos n223, if_pos n239, if_neg n244, if_pos n240]
      have ex : own_cp1 i2 b0 b1 b2 b3 b4 = own_r1a1_161 i2 b0 b1 b2 b3 b4 := by unfold own_cp1; rw [if_neg n128, if_neg n194, if_pos n223, if_pos n239, if_neg n244, if_pos n240]
      have vv : (own_v1a1_220_6 i2 b0 b1 b2 b3 b4).toInt = (((b1 &&& 255).toInt % 8 * 64 + (b2 &&& 255).toInt % 64) * 64 + (b3 &&& 255).toInt % 64) * 64 + (b4 &&& 255).toInt % 64 := (by unfold own_v1a1_220_6 own_v1a1_220_5 own_v1a1_220_4; rw [eL5]; exact v4'')
      rw [ex]
      unfold own_r1a1_161
      rw [ha, eL4, eL6, eL7, if_neg (show ¬ (3 : Int32) = 1 by decide), if_neg (show ¬ (3 : Int32) = 2 by decide)]
      have g1 : own_v1a1_191_4 i2 b0 b1 b2 b3 b4 = (b2 &&& 255) := rfl
      have g2 : own_v1a1_191_5 i2 b0 b1 b2 b3 b4 = (b3 &&& 255) := rfl
      have g3 : own_v1a1_191_6 i2 b0 b1 b2 b3 b4 = (b4 &&& 255) := rfl
      rw [g1, g2, g3]
      generalize own_v1a1_220_6 i2 b0 b1 b2 b3 b4 = w at *
      simp only [Int32.lt_iff_toInt_lt, z1, z2, z3, z128, z191, z143, z144, z159, z160]
      unfold own_sp
      rw [if_neg q1, if_neg q2, if_neg q3, if_neg q4, if_pos q5]
      clear eL4 eL5 eL6 eL7 ex g1 g2 g3 v2 v3 v3' v4 v4' v4'' t7 t15 t31 m0
      repeat' split
      all_goals first | omega | (rw [own_zn1] <;> omega)
    have n240 : ¬ own_v1a1_7 i2 b0 b1 b2 b3 b4 = (240 : Int32) := fun y => q6 (by have := (eq 240).mp y; rw [z240] at this; exact this)
    by_cases q7 : (b1 &&& 255).toInt = 244
    · have n244' : own_v1a1_7 i2 b0 b1 b2 b3 b4 = (244 : Int32) := (eq 244).mpr (by rw [z244]; exact q7)
      have eL4 : own_j1a1_161_L4 i2 b0 b1 b2 b3 b4 = 3 := by unfold own_j1a1_161_L4; rw [if_neg n194, if_pos n223, if_pos n239, if_neg n244, if_neg n240, if_pos n244']
      have eL5 : own_j1a1_161_L5 i2 b0 b1 b2 b3 b4 = own_v1a1_127 i2 b0 b1 b2 b3 b4 := by unfold own_j1a1_161_L5; rw [if_neg n194, if_pos n223, if_pos n239, if_neg n244, if_neg n240, if_pos n244']
      have eL6 : own_j1a1_161_L6 i2 b0 b1 b2 b3 b4 = 128 := by unfold own_j1a1_161_L6; rw [if_neg n194, if_pos n223, if_pos n239, if_neg n244, if_neg n240, if_pos n244']
      have eL7 : own_j1a1_161_L7 i2 b0 b1 b2 b3 b4 = 143 := by unfold own_j1a1_161_L7; rw [if_neg n194, if_pos n223, if_pos n239, if_neg n244, if_neg n240, if_pos n244']
      have ex : own_cp1 i2 b0 b1 b2 b3 b4 = own_r1a1_161 i2 b0 b1 b2 b3 b4 := by unfold own_cp1; rw [if_neg n128, if_neg n194, if_pos n223, if_pos n239, if_neg n244, if_neg n240, if_pos n244']
      have vv : (own_v1a1_220_6 i2 b0 b1 b2 b3 b4).toInt = (((b1 &&& 255).toInt % 8 * 64 + (b2 &&& 255).toInt % 64) * 64 + (b3 &&& 255).toInt % 64) * 64 + (b4 &&& 255).toInt % 64 := (by unfold own_v1a1_220_6 own_v1a1_220_5 own_v1a1_220_4; rw [eL5]; exact v4'')
      rw [ex]
      unfold own_r1a1_161
      rw [ha, eL4, eL6, eL7, if_neg (show ¬ (3 : Int32) = 1 by decide), if_neg (show ¬ (3 : Int32) = 2 by decide)]
      have g1 : own_v1a1_191_4 i2 b0 b1 b2 b3 b4 = (b2 &&& 255) := rfl
      have g2 : own_v1a1_191_5 i2 b0 b1 b2 b3 b4 = (b3 &&& 255) := rfl
      have g3 : own_v1a1_191_6 i2 b0 b1 b2 b3 b4 = (b4 &&& 255) := rfl
      rw [g1, g2, g3]
      generalize own_v1a1_220_6 i2 b0 b1 b2 b3 b4 = w at *
      simp only [Int32.lt_iff_toInt_lt, z1, z2, z3, z128, z191, z143, z144, z159, z160]
      unfold own_sp
      rw [if_neg q1, if_neg q2, if_neg q3, if_neg q4, if_pos q5]
      clear eL4 eL5 eL6 eL7 ex g1 g2 g3 v2 v3 v3' v4 v4' v4'' t7 t15 t31 m0
      repeat' split
      all_goals first | omega | (rw [own_zn1] <;> omega)
    · have n244' : ¬ own_v1a1_7 i2 b0 b1 b2 b3 b4 = (244 : Int32) := fun y => q7 (by have := (eq 244).mp y; rw [z244] at this; exact this)
      have eL4 : own_j1a1_161_L4 i2 b0 b1 b2 b3 b4 = 3 := by unfold own_j1a1_161_L4; rw [if_neg n194, if_pos n223, if_pos n239, if_neg n244, if_neg n240, if_neg n244']
      have eL5 : own_j1a1_161_L5 i2 b0 b1 b2 b3 b4 = own_v1a1_127 i2 b0 b1 b2 b3 b4 := by unfold own_j1a1_161_L5; rw [if_neg n194, if_pos n223, if_pos n239, if_neg n244, if_neg n240, if_neg n244']
      have eL6 : own_j1a1_161_L6 i2 b0 b1 b2 b3 b4 = 128 := by unfold own_j1a1_161_L6; rw [if_neg n194, if_pos n223, if_pos n239, if_neg n244, if_neg n240, if_neg n244']
      have eL7 : own_j1a1_161_L7 i2 b0 b1 b2 b3 b4 = 191 := by unfold own_j1a1_161_L7; rw [if_neg n194, if_pos n223, if_pos n239, if_neg n244, if_neg n240, if_neg n244']
      have ex : own_cp1 i2 b0 b1 b2 b3 b4 = own_r1a1_161 i2 b0 b1 b2 b3 b4 := by unfold own_cp1; rw [if_neg n128, if_neg n194, if_pos n223, if_pos n239, if_neg n244, if_neg n240, if_neg n244']
      have vv : (own_v1a1_220_6 i2 b0 b1 b2 b3 b4).toInt = (((b1 &&& 255).toInt % 8 * 64 + (b2 &&& 255).toInt % 64) * 64 + (b3 &&& 255).toInt % 64) * 64 + (b4 &&& 255).toInt % 64 := (by unfold own_v1a1_220_6 own_v1a1_220_5 own_v1a1_220_4; rw [eL5]; exact v4'')
      rw [ex]
      unfold own_r1a1_161
      rw [ha, eL4, eL6, eL7, if_neg (show ¬ (3 : Int32) = 1 by decide), if_neg (show ¬ (3 : Int32) = 2 by decide)]
      have g1 : own_v1a1_191_4 i2 b0 b1 b2 b3 b4 = (b2 &&& 255) := rfl
      have g2 : own_v1a1_191_5 i2 b0 b1 b2 b3 b4 = (b3 &&& 255) := rfl
      have g3 : own_v1a1_191_6 i2 b0 b1 b2 b3 b4 = (b4 &&& 255) := rfl
      rw [g1, g2, g3]
      generalize own_v1a1_220_6 i2 b0 b1 b2 b3 b4 = w at *
      simp only [Int32.lt_iff_toInt_lt, z1, z2, z3, z128, z191, z143, z144, z159, z160]
      unfold own_sp
      rw [if_neg q1, if_neg q2, if_neg q3, if_neg q4, if_pos q5]
      clear eL4 eL5 eL6 eL7 ex g1 g2 g3 v2 v3 v3' v4 v4' v4'' t7 t15 t31 m0
      repeat' split
      all_goals first | omega | (rw [own_zn1] <;> omega)
  · have n244 : (244 : Int32) < own_v1a1_7 i2 b0 b1 b2 b3 b4 := (gt 244).mpr (by rw [z244]; omega)
    unfold own_cp1 own_sp
    rw [if_neg n128, if_neg n194, if_pos n223, if_pos n239, if_pos n244, if_neg q1, if_neg q2, if_neg q3, if_neg q4, if_neg q5, own_zn1]

theorem own_bb (x : Int32) : (((x.toInt8.toInt32).toInt8.toInt32) &&& (255 : Int32)) = x &&& (255 : Int32) := by
  apply Int32.toInt_inj.mp
  have a := c_i2b x
  have b := c_i2b x.toInt8.toInt32
  rw [own_m255, own_m255]
  omega
theorem own_r255 (x : Int32) : 0 ≤ (x &&& (255 : Int32)).toInt ∧ (x &&& (255 : Int32)).toInt ≤ 255 := by
  have := own_m255 x
  omega
theorem own_law (i0 i1 i2 i3 i4 : Int32) : own_f0 i0 i1 i2 i3 i4 = 1 := by
  unfold own_f0
  by_cases h : (i4 &&& (1 : Int32)) = (0 : Int32)
  · rw [if_pos h, if_pos]
    apply Int32.toInt_inj.mp
    rw [own_cp0_sp _ _ _ _ _ _ _ rfl, own_exp_sp _ _ _ _ _ (own_r255 _) (own_r255 _) (own_r255 _) (own_r255 _), own_bb, own_bb, own_bb, own_bb]
  · rw [if_neg h, if_pos]
    apply Int32.toInt_inj.mp
    rw [own_cp1_sp _ _ _ _ _ _ _ rfl, own_exp_sp _ _ _ _ _ (own_r255 _) (own_r255 _) (own_r255 _) (own_r255 _), own_bb, own_bb, own_bb, own_bb]

set_option maxRecDepth 65536 in
set_option maxHeartbeats 40000000 in
theorem comes_1 {Post : Tables → Env → Array Value → State → Outcome → State → Prop} (hpost : ∀ tb e args s v u, (limb_1_1.after args s (.returned v) u = true ∧ limb_1_2.after args s (.returned v) u = true ∧ True) → FrameEnd s (.returned v) u (Jvm.fieldLocs frame_1_writes args s ++ Jvm.arrayLocs frame_1_arrays args s ++ Jvm.staticLocs frame_1_statics s) 16 128 → Post tb e args s (.returned v) u) :
    ArmFor flags0 classFile x code maxLocals ret World_1 tables_1 room_1 Calls_1 rest_1 Pre_1 Post := by
  intro l hfl _ _ p e ha hc hk s m args below hf hA hF happ hP
  obtain ⟨hcalls, hrest, hpre⟩ := hP
  obtain ⟨-, -, -, hnamed, -, -, -, hat⟩ := (Spec.applies_iff hf).mp happ
  obtain ⟨hg, hn⟩ := and_e (Cond.before_iff.mp (show (Jvm.Cond.and given_1 narrow_1).before args s = true from hpre))
  obtain ⟨g1, g2⟩ := and_e hg
  obtain ⟨g3, g4⟩ := and_e g2
  obtain ⟨g5, g6⟩ := and_e g4
  obtain ⟨g7, g8⟩ := and_e g6
  obtain ⟨g9, g10⟩ := and_e g8
  obtain ⟨w0, w1, w2, w3, w4, rfl⟩ : ∃ w0 w1 w2 w3 w4 : Value, args = #[w0, w1, w2, w3, w4] := by
    have hs : args.size = 5 := by simpa [Cond.value, given_1] using g1
    obtain ⟨L⟩ := args
    match L, hs with
    | [w0, w1, w2, w3, w4], _ => exact ⟨w0, w1, w2, w3, w4, rfl⟩
  have hw := fun d (hd : d ∈ tables_1) => atoms_spec (ws := Jvm.Cond.code x code maxLocals ret :: tables_1) hat d (List.mem_cons_of_mem _ hd)
  have hfit : Fit s := fun {y c} hc i hi => by
    obtain ⟨ha, rfl⟩ := Array.getElem?_eq_some_iff.mp hc
    have q := List.all_eq_true.mp ((Array.all_eq_true_iff_forall_mem.mp hF) _ (Array.getElem_mem ha)) i (List.mem_range.mpr hi)
    simpa [Array.getElem?_eq_getElem hi] using q
  obtain ⟨i0, ei0⟩ := is_v g3
  obtain rfl : w0 = (.int i0) := Option.some.inj ei0
  obtain ⟨i1, ei1⟩ := is_v g5
  obtain rfl : w1 = (.int i1) := Option.some.inj ei1
  obtain ⟨i2, ei2⟩ := is_v g7
  obtain rfl : w2 = (.int i2) := Option.some.inj ei2
  obtain ⟨i3, ei3⟩ := is_v g9
  obtain rfl : w3 = (.int i3) := Option.some.inj ei3
  obtain ⟨i4, ei4⟩ := is_v g10
  obtain rfl : w4 = (.int i4) := Option.some.inj ei4
  obtain ⟨n, o, h1, h2, h3, _, L, rfl, ⟨rfl, N, -⟩, hq⟩ := own_rm0 l s _ hw tables_1 i0 i1 i2 i3 i4  s.heap s.heap.size (Nat.le_refl _)  p e ha hc hk s m _ below hf ((Spec.applies_iff_loose hf).mp happ).1 ⟨rfl, State.Warmed39.refl s, rfl⟩ trivial
  refine ⟨n, _, h1, h2, h3, hpost _ _ _ _ _ _ ⟨Cond.after_iff.mpr rfl, Cond.after_iff.mpr (eq_i res_at (Term.int_eval (1)) (congrArg Value.int (own_law i0 i1 i2 i3 i4))), trivial⟩ ⟨hq.1, hq.2.1, (hq.2.2.sift fun y hy => Or.inr (N y hy)).mono (by decide) (by decide)⟩⟩
theorem main_1_1 : Claimed_1_1 := comes_1 fun _ _ _ _ _ _ h hF => ⟨h.1, hF⟩
theorem main_1_2 : Claimed_1_2 := comes_1 fun _ _ _ _ _ _ h hF => ⟨h.2.1, hF⟩
end Jvm.Pilot.@@N@@
namespace Jvm.Pilot.@@N@@
open Jvm Jvm.ClassFile Sem Op Lib Jvm.Free Jvm.Stand Jvm.Pilot.@@N@@.Jvm.D
/-! MADE BY PROGRAM (witnessworld.py) out of the Statement's table words and the real class files: 9 classes; the members and pool entries that the words name. The judged class is class 1, her method 1. -/
namespace start1
open Jvm.ClassFile
def u (s : String) : CpInfo := .utf8 (stringToUtf16 s)
/-- a pool by its gaps: so many unusable entries, then the entry; so many at the end -/
def gap : Nat → List CpInfo → List CpInfo
  | 0, r => r
  | n + 1, r => .unusable :: gap n r
def poolList (es : List (Nat × CpInfo)) (last : Nat) : List CpInfo := es.foldr (fun e r => gap e.1 (e.2 :: r)) (gap last [])
def pool (es : List (Nat × CpInfo)) (last : Nat) : Array CpInfo := ⟨poolList es last⟩
def fileOf (pool : Array CpInfo) (this : Nat) (attrs : Array Attribute := #[]) (ms : Array MethodInfo := #[]) (fl : Nat := 33) (sup : Nat := 0) (ifs : Array Nat := #[]) (fds : Array FieldInfo := #[]) : ClassFile where
  minorVersion := 0
  majorVersion := 65
  constantPool := pool
  accessFlags := fl
  thisClass := this
  superClass := sup
  interfaces := ifs
  fields := fds
  methods := ms
  attributes := attrs
def plain (name : String) (sup : Option ClassId) : Class where
  name := name
  kind := .ordinary
  loader := none
  accessFlags := 33
  super := sup
  interfaces := #[]
  cf := none
  fields := #[]
  methods := #[]
  instanceTypes := #[]
  staticTypes := #[]
  resolved := #[]
  callSites := []
  init := .initialized
  statics := none
  mirror := none

def pool0 : Array CpInfo := pool [(5, u "<init>"), (0, u "()V"), (1, .class_ 10), (1, u "java/lang/Object")] 113

def k0m0 : Method := { name := "<init>", desc := "()V", sig := { parameters := [], returnType := none }, accessFlags := 1, code := none }
/-- java/lang/Object -/
def k0 : Class := { plain "java/lang/Object" none with
  accessFlags := 33
  interfaces := #[]
  cf := some (fileOf pool0 8 #[] #[{ accessFlags := 1, nameIndex := 5, descriptorIndex := 6, attributes := #[] }] 33 0 #[] #[])
  fields := #[]
  methods := #[k0m0]
  instanceTypes := #[]
  staticTypes := #[]
  resolved := Array.replicate 124 none
  statics := none }

def pool1 : Array CpInfo := pool [(2, .class_ 4), (1, u "java/lang/Object"), (0, u "<init>"), (0, u "()V"), (0, .methodref 8 9), (0, .class_ 10), (0, .nameAndType 11 12), (0, u "traceward/schema/Utf8"), (0, u "codePoint"), (0, u "([BII)I"), (0, .methodref 14 15), (0, .class_ 16), (0, .nameAndType 17 18), (0, u "traceward/schema/Utf8CodePointPinLaw"), (0, u "expected"), (0, u "(IIIII)I"), (0, .integer 65536), (0, .methodref 14 21), (0, .nameAndType 22 23), (0, u "cont"), (0, u "(I)Z"), (0, .integer 1114111), (0, .integer 55296), (0, .integer 57343), (2, u "law"), (0, u "(IIIII)Z")] 5

def k1m0 : Method := { name := "<init>", desc := "()V", sig := { parameters := [], returnType := none }, accessFlags := 2, code := none }
def k1c1 : Code := { maxStack := 7, maxLocals := 9, code := code, exceptionTable := #[], attributes := #[] }
def k1m1 : Method := { name := "law", desc := "(IIIII)Z", sig := { parameters := [.int, .int, .int, .int, .int], returnType := some .boolean }, accessFlags := 9, code := some k1c1 }
def k1c2 : Code := { maxStack := 2, maxLocals := 1, code := method_3_code, exceptionTable := #[], attributes := #[] }
def k1m2 : Method := { name := "cont", desc := "(I)Z", sig := { parameters := [.int], returnType := some .boolean }, accessFlags := 10, code := some k1c2 }
def k1c3 : Code := { maxStack := 3, maxLocals := 8, code := method_4_code, exceptionTable := #[], attributes := #[] }
def k1m3 : Method := { name := "expected", desc := "(IIIII)I", sig := { parameters := [.int, .int, .int, .int, .int], returnType := some .int }, accessFlags := 10, code := some k1c3 }
/-- traceward/schema/Utf8CodePointPinLaw -/
def k1 : Class := { plain "traceward/schema/Utf8CodePointPinLaw" (some 0) with
  accessFlags := 49
  interfaces := #[]
  cf := some (fileOf pool1 14 #[] #[{ accessFlags := 2, nameIndex := 5, descriptorIndex := 6, attributes := #[] }, { accessFlags := 9, nameIndex := 29, descriptorIndex := 30, attributes := #[] }, { accessFlags := 10, nameIndex := 22, descriptorIndex := 23, attributes := #[] }, { accessFlags := 10, nameIndex := 17, descriptorIndex := 18, attributes := #[] }] 49 2 #[] #[])
  fields := #[]
  methods := #[k1m0, k1m1, k1m2, k1m3]
  instanceTypes := #[]
  staticTypes := #[]
  resolved := Array.replicate 36 none
  statics := none }

def pool2 : Array CpInfo := pool [(2, .class_ 4), (1, u "java/lang/Object"), (0, u "<init>"), (0, u "()V"), (1, .class_ 10), (1, u "traceward/schema/Utf8"), (5, u "codePoint"), (0, u "([BII)I")] 7

def k2m0 : Method := { name := "<init>", desc := "()V", sig := { parameters := [], returnType := none }, accessFlags := 2, code := none }
def k2c1 : Code := { maxStack := 3, maxLocals := 10, code := prog_153_method_2_code, exceptionTable := #[], attributes := #[] }
def k2m1 : Method := { name := "codePoint", desc := "([BII)I", sig := { parameters := [(.array .byte), .int, .int], returnType := some .int }, accessFlags := 8, code := some k2c1 }
/-- traceward/schema/Utf8 -/
def k2 : Class := { plain "traceward/schema/Utf8" (some 0) with
  accessFlags := 48
  interfaces := #[]
  cf := some (fileOf pool2 8 #[] #[{ accessFlags := 2, nameIndex := 5, descriptorIndex := 6, attributes := #[] }, { accessFlags := 8, nameIndex := 16, descriptorIndex := 17, attributes := #[] }] 48 2 #[] #[])
  fields := #[]
  methods := #[k2m0, k2m1]
  instanceTypes := #[]
  staticTypes := #[]
  resolved := Array.replicate 25 none
  statics := none }

def pool3 : Array CpInfo := pool [(1, u "java/lang/Cloneable"), (0, .class_ 1), (0, u "java/lang/Object"), (0, .class_ 3)] 3

/-- java/lang/Cloneable -/
def k3 : Class := { plain "java/lang/Cloneable" (some 0) with
  accessFlags := 1537
  interfaces := #[]
  cf := some (fileOf pool3 2 #[] #[] 1537 4 #[] #[])
  fields := #[]
  methods := #[]
  instanceTypes := #[]
  staticTypes := #[]
  resolved := Array.replicate 8 none
  statics := none }

def pool4 : Array CpInfo := pool [(1, u "java/io/Serializable"), (0, .class_ 1), (0, u "java/lang/Object"), (0, .class_ 3)] 3

/-- java/io/Serializable -/
def k4 : Class := { plain "java/io/Serializable" (some 0) with
  accessFlags := 1537
  interfaces := #[]
  cf := some (fileOf pool4 2 #[] #[] 1537 4 #[] #[])
  fields := #[]
  methods := #[]
  instanceTypes := #[]
  staticTypes := #[]
  resolved := Array.replicate 8 none
  statics := none }

/-- the primitive byte -/
def k5 : Class := { plain "byte" none with kind := .primitive 'B', accessFlags := 0x411 }
/-- [B -/
def k6 : Class := { plain "[B" (some 0) with kind := .array 5 .byte, interfaces := #[3, 4], accessFlags := 1041 }

/-- the primitive int -/
def k7 : Class := { plain "int" none with kind := .primitive 'I', accessFlags := 0x411 }
/-- [I -/
def k8 : Class := { plain "[I" (some 0) with kind := .array 7 .int, interfaces := #[3, 4], accessFlags := 1041 }

def heap : Heap := #[]
def classes : Array Class := #[k0, k1, k2, k3, k4, k5, k6, k7, k8]
def interned : List (Array UInt16 × Addr) := []
def slotsUsed : Nat := 0
def theMethod : MethodId := ⟨1, 1⟩
def args0 : Array Value := #[.int 5, .int 5, .int 5, .int 5, .int 5]
def aboutOver (below : List Frame) : State where
  vm := { classes := classes, interned := interned.toArray }
  heap := heap
  slotsUsed := slotsUsed
  threads := #[{ frames := .invoking theMethod args0 :: below }]
def below0 : List Frame := [.native { method := ⟨0, 0⟩, args := #[] }]
def about1 : State := aboutOver below0
def p0 : Program := .bare "" "" ""
def e0 : Env := launch0.env 0 0 0
theorem w_frames : about1.frames = Frame.invoking theMethod args0 :: below0 := rfl
set_option maxRecDepth 65536 in
theorem w_args : argsFit about1.vm theMethod args0 = true := by decide +kernel
set_option maxRecDepth 65536 in
theorem w_heap : heapFits about1 = true := by decide +kernel
set_option maxRecDepth 65536 in
theorem w_runnable : about1.curStatus? = some .runnable := by decide +kernel
set_option maxRecDepth 65536 in
theorem w_alone : about1.alone = true := by decide +kernel
set_option maxRecDepth 65536 in
theorem w_named : about1.methodNamed? x = some theMethod := by decide +kernel
set_option maxRecDepth 65536 in
theorem w_hears : about1.hears theMethod below0 = true := by decide +kernel
set_option maxRecDepth 65536 in
theorem w_ripe : about1.ripe theMethod args0 below0 = true := by decide +kernel
theorem w_running : about1.status = .running := rfl
set_option maxRecDepth 65536 in
theorem w_room : about1.hasRoom e0.platform room_1 = true :=
  launch0.hasRoom_least _ room_1 (by decide +kernel) (by decide +kernel) (by decide +kernel) (by decide +kernel) (by decide +kernel) (by decide +kernel)
theorem allAtoms_all (ts : List Jvm.Cond) (a : Array Jvm.Value) (st : Jvm.State) : (allAtoms ts).before a st = ts.all (fun c => c.before a st) := by
  induction ts with
  | nil => rfl
  | cons c t ih =>
    show (Jvm.Cond.and c (allAtoms t)).before a st = _
    rw [Jvm.Cond.before_and, ih, List.all_cons]
def words1 : List Jvm.Cond := Jvm.Cond.code x code maxLocals ret :: tables_1
/-- a 'code' word, met by the world's own term for the bytes: nothing is compared byte by byte -/
theorem code_word {y : MethodName} {bytes : ByteArray} {mx : Nat} {rt : Option FieldType} {a : Array Value} {s : State} {m : MethodId} {meth : Method} {c : Code} (h1 : s.methodNamed? y = some m) (h2 : s.vm.method? m = some meth) (h3 : meth.code = some c) (h4 : c.code = bytes)
    (h5 : (c.maxLocals == mx && c.exceptionTable.isEmpty && decide (c.maxStack ≤ mostOperands) && decide (meth.sig.returnType = rt) && !meth.locks && decide (parseMethodDescriptor y.desc = some meth.sig)) = true) : (Jvm.Cond.code y bytes mx rt).before a s = true := by
  simp only [Bool.and_eq_true, beq_iff_eq, Bool.not_eq_true', decide_eq_true_eq] at h5
  obtain ⟨⟨⟨⟨⟨g1, g2⟩, g3⟩, g4⟩, g5⟩, g6⟩ := h5
  simp [Cond.before, Cond.holds, Cond.value, h1, h2, h3, h4, g1, g2, g3, g4, g5, g6]
def isCode : Jvm.Cond → Bool
  | .code _ _ _ _ => true
  | _ => false
theorem all_split {L : List Jvm.Cond} {P : Jvm.Cond → Bool} (h1 : L.all (fun c => isCode c || P c) = true) (h2 : ∀ c ∈ L.filter isCode, P c = true) : L.all P = true := by
  refine List.all_eq_true.mpr fun c hc => ?_
  have h := List.all_eq_true.mp h1 c hc
  rcases Bool.eq_false_or_eq_true (isCode c) with hi | hi
  · exact h2 c (List.mem_filter.mpr ⟨hc, hi⟩)
  · simpa [hi] using h
set_option maxRecDepth 65536 in
theorem w_c0 : (Jvm.Cond.code x code maxLocals ret).before args0 about1 = true := code_word (m := ⟨1, 1⟩) (meth := k1m1) (c := k1c1) (by decide +kernel) rfl rfl rfl (by decide +kernel)
set_option maxRecDepth 65536 in
theorem w_c1 : (Jvm.Cond.code ({ cls := "traceward/schema/Utf8", name := "codePoint", desc := "([BII)I" } : Jvm.MethodName) prog_153_method_2_code (10 : Nat) (Option.some Jvm.ClassFile.FieldType.int)).before args0 about1 = true := code_word (m := ⟨2, 1⟩) (meth := k2m1) (c := k2c1) (by decide +kernel) rfl rfl rfl (by decide +kernel)
set_option maxRecDepth 65536 in
theorem w_c2 : (Jvm.Cond.code ({ cls := "traceward/schema/Utf8CodePointPinLaw", name := "expected", desc := "(IIIII)I" } : Jvm.MethodName) method_4_code (8 : Nat) (Option.some Jvm.ClassFile.FieldType.int)).before args0 about1 = true := code_word (m := ⟨1, 3⟩) (meth := k1m3) (c := k1c3) (by decide +kernel) rfl rfl rfl (by decide +kernel)
set_option maxRecDepth 65536 in
theorem w_c3 : (Jvm.Cond.code ({ cls := "traceward/schema/Utf8CodePointPinLaw", name := "cont", desc := "(I)Z" } : Jvm.MethodName) method_3_code (1 : Nat) (Option.some Jvm.ClassFile.FieldType.boolean)).before args0 about1 = true := code_word (m := ⟨1, 2⟩) (meth := k1m2) (c := k1c2) (by decide +kernel) rfl rfl rfl (by decide +kernel)
def codes1 : List Jvm.Cond := [Jvm.Cond.code x code maxLocals ret, Jvm.Cond.code ({ cls := "traceward/schema/Utf8", name := "codePoint", desc := "([BII)I" } : Jvm.MethodName) prog_153_method_2_code (10 : Nat) (Option.some Jvm.ClassFile.FieldType.int), Jvm.Cond.code ({ cls := "traceward/schema/Utf8CodePointPinLaw", name := "expected", desc := "(IIIII)I" } : Jvm.MethodName) method_4_code (8 : Nat) (Option.some Jvm.ClassFile.FieldType.int), Jvm.Cond.code ({ cls := "traceward/schema/Utf8CodePointPinLaw", name := "cont", desc := "(I)Z" } : Jvm.MethodName) method_3_code (1 : Nat) (Option.some Jvm.ClassFile.FieldType.boolean)]
set_option maxRecDepth 65536 in
theorem codes_eq : words1.filter isCode = codes1 := rfl
theorem w_codes : ∀ c ∈ words1.filter isCode, c.before args0 about1 = true := by
  rw [codes_eq]
  intro c hc
  simp only [codes1, List.mem_cons, List.not_mem_nil, or_false] at hc
  rcases hc with rfl | rfl | rfl | rfl
  · exact w_c0
  · exact w_c1
  · exact w_c2
  · exact w_c3
set_option maxRecDepth 65536 in
theorem w_t1 : words1.all (fun c => isCode c || c.before args0 about1) = true := by decide +kernel
theorem w_tables : (allAtoms (Jvm.Cond.code x code maxLocals ret :: tables_1)).before args0 about1 = true := by
  rw [allAtoms_all]
  show words1.all (fun c => c.before args0 about1) = true
  refine all_split ?_ w_codes
  rw [w_t1]
set_option maxRecDepth 65536 in
theorem w_case : (Jvm.Cond.and given_1 narrow_1).before args0 about1 = true := by decide +kernel
theorem w_applies : (headSpec (Jvm.Cond.code x code maxLocals ret :: tables_1) room_1).applies x e0.platform about1 = true :=
  (Spec.applies_iff w_frames).mpr ⟨w_running, w_runnable, w_alone, w_named, w_hears, w_ripe, w_room, w_tables⟩
theorem atStart : AtStart classFile x code maxLocals ret World_1 tables_1 room_1 Calls_1 rest_1 Pre_1 launch0 p0 e0 about1 theMethod args0 below0 :=
  ⟨lists_1, trivial, launch0.admits_env _ _ _, launch0.least_env, fairChoices_fair.cas, fairChoices_fair.clock, w_frames, w_args, w_heap, w_applies, trivial, trivial, w_case⟩
end start1
theorem witness_1 : WitnessClaimed_1 := ⟨start1.p0, start1.e0, start1.about1, start1.theMethod, start1.args0, start1.below0, start1.atStart⟩
end Jvm.Pilot.@@N@@
