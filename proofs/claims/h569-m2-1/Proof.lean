import JvmDerived
import JvmDerived.Pilot.@@N@@Statement
import JvmDerived.Pilot.@@N@@Code
set_option linter.unusedVariables false
set_option linter.unusedSimpArgs false
namespace Jvm.RoadKit
open Sem ClassFile Op Lib Jvm.Stand Jvm.Free Jvm.LawKit
section New
variable {p : Program} {l : Launch} {e : Env} {R : Room} {s : State} {m : MethodId} {args : Array Value} {below : List Frame} {meth : Method} {c : Code} {T : State} {locs : List Loc} {cells slots : Nat}
theorem retI (X : Stand p l e R s m args below meth c T locs cells slots) (hx : p.tables.exec = Jvm.exec) {pc : Nat} {Ls : Array Slot} {z : Int32} {rest : List Value} (hret : meth.sig.returnType = some .int) (hd : decode c.code pc = .ok (.ireturn, 1)) {fs : List Frame}
    (hl : ∀ (f : JFrame) (acts : List Action), f.method = m → f.locked = none → f.entered = [] → (doReturn e (T.setTop f) acts (some (.int z))).1 = T.setFrames fs) : Steps p.tables e below (T.setTop (mkF m pc Ls (.int z :: rest))) (T.setFrames fs) := by
  have hm' : T.vm.method? m = some meth := X.method'
  have hn : narrow .int (.int z) = .int z := rfl
  show Steps p.tables e below (T.setTop { method := m, pc := pc, locals := Ls, stack := _ :: rest, locked := none }) _
  jvm_step X.here [X.here.top, hx, hd, hm', hret, hn]
  first | (intro acts; rw [hl _ acts rfl rfl rfl]) | rw [hl _ _ rfl rfl rfl]
  exact Steps.refl _
end New
/-! the walk in continuation form: from the state T at the frame f the run ends by a return, as Q says -/
section Own
variable {p : Program} {l : Launch} {e : Env} {R : Room} {s : State} {m : MethodId} {args : Array Value} {below : List Frame} {meth : Method} {c : Code} {T T' : State} {locs : List Loc} {cells slots k n : Nat} {Q : Option Value → Heap → List Loc → Prop} {f f' : JFrame}
def ownE (p : Program) (e : Env) (below : List Frame) (s : State) (Q : Option Value → Heap → List Loc → Prop) (k n : Nat) (T : State) (f : JFrame) : Prop :=
  ∃ s₂ o, Steps p.tables e below (T.setTop f) s₂ ∧ s₂.status = .running ∧ Ended s₂ below o ∧ ∃ v L, o = .returned v ∧ Q v s₂.heap L ∧ FrameEnd s o s₂ L k n
theorem ownE.go (g : ∀ t, Steps p.tables e below (T'.setTop f') t → Steps p.tables e below (T.setTop f) t) (h : ownE p e below s Q k n T' f') : ownE p e below s Q k n T f := by
  obtain ⟨s₂, o, h1, r⟩ := h
  exact ⟨s₂, o, g _ h1, r⟩
theorem ownE.goS (g : Steps p.tables e below (T.setTop f) (T'.setTop f')) (h : ownE p e below s Q k n T' f') : ownE p e below s Q k n T f := by
  obtain ⟨s₂, o, h1, r⟩ := h
  exact ⟨s₂, o, g.trans h1, r⟩
theorem ownE.ret (X : Stand p l e R s m args below meth c T locs cells slots) {v : Option Value} (hlk : meth.locks = false) (hv : meth.sig.returnType = none → v = none)
    (st : ∀ fs, (∀ (f : JFrame) (acts : List Action), f.method = m → f.locked = none → f.entered = [] → (doReturn e (T.setTop f) acts v).1 = T.setFrames fs) → Steps p.tables e below (T.setTop f) (T.setFrames fs))
    (hQ : Q v T.heap locs) (hk : cells ≤ k) (hn : slots ≤ n) : ownE p e below s Q k n T f := by
  obtain ⟨fs, hr, hrun, hended, hW, hsame⟩ := X.leave (v := v) hv hlk
  exact ⟨_, _, st fs hr, hrun, hended, _, _, rfl, hQ, ⟨_, rfl⟩, hW, hsame.mono hk hn⟩
theorem ownE.retI (X : Stand p l e R s m args below meth c T locs cells slots) (hx : p.tables.exec = Jvm.exec) (hlk : meth.locks = false) {pc : Nat} {Ls : Array Slot} {z : Int32} {rest : List Value} (hret : meth.sig.returnType = some .int) (hd : decode c.code pc = .ok (.ireturn, 1))
    (hQ : Q (some (.int z)) T.heap locs) (hk : cells ≤ k) (hn : slots ≤ n) : ownE p e below s Q k n T (mkF m pc Ls (.int z :: rest)) :=
  ownE.ret X hlk (fun h => by rw [hret] at h; cases h) (fun fs hr => Jvm.RoadKit.retI X hx hret hd hr) hQ hk hn
theorem ownE.retN (X : Stand p l e R s m args below meth c T locs cells slots) (hx : p.tables.exec = Jvm.exec) (hlk : meth.locks = false) {pc : Nat} {Ls : Array Slot} {z : Int32} {rest : List Value} {t : FieldType} (hret : meth.sig.returnType = some t) (ht : t = .boolean ∨ t = .byte ∨ t = .char ∨ t = .short) (hd : decode c.code pc = .ok (.ireturn, 1))
    (hQ : Q (some (.int (nar t z))) T.heap locs) (hk : cells ≤ k) (hn : slots ≤ n) : ownE p e below s Q k n T (mkF m pc Ls (.int z :: rest)) :=
  ownE.ret X hlk (fun h => by rw [hret] at h; cases h) (fun fs hr => Jvm.RoadKit.retN X hx hret ht hd hr) hQ hk hn
theorem ownE.retL (X : Stand p l e R s m args below meth c T locs cells slots) (hx : p.tables.exec = Jvm.exec) (hlk : meth.locks = false) {pc : Nat} {Ls : Array Slot} {z : Int64} {rest : List Value} (hret : meth.sig.returnType = some .long) (hd : decode c.code pc = .ok (.lreturn, 1))
    (hQ : Q (some (.long z)) T.heap locs) (hk : cells ≤ k) (hn : slots ≤ n) : ownE p e below s Q k n T (mkF m pc Ls (.long z :: rest)) :=
  ownE.ret X hlk (fun h => by rw [hret] at h; cases h) (fun fs hr => Jvm.RoadKit.retOut X hx hret rfl (Or.inr (Or.inl ⟨rfl, rfl, z, rfl⟩)) hd hr) hQ hk hn
theorem ownE.retA (X : Stand p l e R s m args below meth c T locs cells slots) (hx : p.tables.exec = Jvm.exec) (hlk : meth.locks = false) {pc : Nat} {Ls : Array Slot} {z : Value} {rest : List Value} {t : FieldType} (hret : meth.sig.returnType = some t) (ht : t.isReference = true) (hz : z.isRef = true) (hn' : narrow t z = z) (hd : decode c.code pc = .ok (.areturn, 1))
    (hQ : Q (some z) T.heap locs) (hk : cells ≤ k) (hn : slots ≤ n) : ownE p e below s Q k n T (mkF m pc Ls (z :: rest)) :=
  ownE.ret X hlk (fun h => by rw [hret] at h; cases h) (fun fs hr => Jvm.RoadKit.retOut X hx hret hn' (Or.inr (Or.inr (Or.inr (Or.inr ⟨rfl, ht, hz⟩)))) hd hr) hQ hk hn
theorem ownE.retV (X : Stand p l e R s m args below meth c T locs cells slots) (hx : p.tables.exec = Jvm.exec) (hlk : meth.locks = false) {pc : Nat} {Ls : Array Slot} (hret : meth.sig.returnType = none) (hd : decode c.code pc = .ok (.return_, 1))
    (hQ : Q none T.heap locs) (hk : cells ≤ k) (hn : slots ≤ n) : ownE p e below s Q k n T (mkF m pc Ls []) :=
  ownE.ret X hlk (fun _ => rfl) (fun fs hr => X.returnOut hx hret hd hr) hQ hk hn
end Own
theorem own_selP {s : State} {args : Array Value} {y : MethodName} {n : Nat} (wi : (Cond.instantiable y.cls n).before args s = true) (hi : (Cond.instanceMethod y).before args s = true) (hp : s.PrivateAt y) (hy : y.cls ≠ "java/lang/invoke/MethodHandle" ∧ y.cls ≠ "java/lang/invoke/VarHandle") : (Cond.selects y.cls y y).before args s = true := by
  obtain ⟨c, k, h1, h2, -, h4, -⟩ := Cond.instantiable_spec wi
  exact selects_self_of_private h1 h2 (by simp at h4; exact h4.1) hp hi hy
end Jvm.RoadKit
namespace Jvm.Pilot.@@N@@
open Jvm Jvm.ClassFile Sem Op Lib Jvm.Free Jvm.Stand Jvm.LawKit Jvm.RoadKit Bundle Jvm.Pilot.@@N@@.Jvm.D
theorem own_d3_0 : decode jdk_35_method_44_code 0 = .ok (.lload_n 2, 1) := by decide +kernel
theorem own_d3_1 : decode jdk_35_method_44_code 1 = .ok (.lconst 0, 1) := by decide +kernel
theorem own_d3_2 : decode jdk_35_method_44_code 2 = .ok (.lcmp, 1) := by decide +kernel
theorem own_d3_3 : decode jdk_35_method_44_code 3 = .ok (.ifCond .lt 38, 3) := by decide +kernel
theorem own_d3_6 : decode jdk_35_method_44_code 6 = .ok (.lload_n 0, 1) := by decide +kernel
theorem own_d3_7 : decode jdk_35_method_44_code 7 = .ok (.iconst 1, 1) := by decide +kernel
theorem own_d3_8 : decode jdk_35_method_44_code 8 = .ok (.lushr, 1) := by decide +kernel
theorem own_d3_9 : decode jdk_35_method_44_code 9 = .ok (.lload_n 2, 1) := by decide +kernel
theorem own_d3_10 : decode jdk_35_method_44_code 10 = .ok (.ldiv, 1) := by decide +kernel
theorem own_d3_11 : decode jdk_35_method_44_code 11 = .ok (.iconst 1, 1) := by decide +kernel
theorem own_d3_12 : decode jdk_35_method_44_code 12 = .ok (.lshl, 1) := by decide +kernel
theorem own_d3_13 : decode jdk_35_method_44_code 13 = .ok (.lstore 4, 2) := by decide +kernel
theorem own_d3_15 : decode jdk_35_method_44_code 15 = .ok (.lload_n 0, 1) := by decide +kernel
theorem own_d3_16 : decode jdk_35_method_44_code 16 = .ok (.lload 4, 2) := by decide +kernel
theorem own_d3_18 : decode jdk_35_method_44_code 18 = .ok (.lload_n 2, 1) := by decide +kernel
theorem own_d3_19 : decode jdk_35_method_44_code 19 = .ok (.lmul, 1) := by decide +kernel
theorem own_d3_20 : decode jdk_35_method_44_code 20 = .ok (.lsub, 1) := by decide +kernel
theorem own_d3_21 : decode jdk_35_method_44_code 21 = .ok (.lstore 6, 2) := by decide +kernel
theorem own_d3_23 : decode jdk_35_method_44_code 23 = .ok (.lload 4, 2) := by decide +kernel
theorem own_d3_25 : decode jdk_35_method_44_code 25 = .ok (.lload 6, 2) := by decide +kernel
theorem own_d3_27 : decode jdk_35_method_44_code 27 = .ok (.lload 6, 2) := by decide +kernel
theorem own_d3_29 : decode jdk_35_method_44_code 29 = .ok (.lload_n 2, 1) := by decide +kernel
theorem own_d3_30 : decode jdk_35_method_44_code 30 = .ok (.lsub, 1) := by decide +kernel
theorem own_d3_31 : decode jdk_35_method_44_code 31 = .ok (.ldc2_w 306, 3) := by decide +kernel
theorem own_d3_34 : decode jdk_35_method_44_code 34 = .ok (.lxor, 1) := by decide +kernel
theorem own_d3_35 : decode jdk_35_method_44_code 35 = .ok (.lor, 1) := by decide +kernel
theorem own_d3_36 : decode jdk_35_method_44_code 36 = .ok (.bipush 63, 2) := by decide +kernel
theorem own_d3_38 : decode jdk_35_method_44_code 38 = .ok (.lushr, 1) := by decide +kernel
theorem own_d3_39 : decode jdk_35_method_44_code 39 = .ok (.ladd, 1) := by decide +kernel
theorem own_d3_40 : decode jdk_35_method_44_code 40 = .ok (.lreturn, 1) := by decide +kernel
theorem own_d3_41 : decode jdk_35_method_44_code 41 = .ok (.lload_n 0, 1) := by decide +kernel
theorem own_d3_42 : decode jdk_35_method_44_code 42 = .ok (.lload_n 0, 1) := by decide +kernel
theorem own_d3_43 : decode jdk_35_method_44_code 43 = .ok (.lload_n 2, 1) := by decide +kernel
theorem own_d3_44 : decode jdk_35_method_44_code 44 = .ok (.lsub, 1) := by decide +kernel
theorem own_d3_45 : decode jdk_35_method_44_code 45 = .ok (.ldc2_w 306, 3) := by decide +kernel
theorem own_d3_48 : decode jdk_35_method_44_code 48 = .ok (.lxor, 1) := by decide +kernel
theorem own_d3_49 : decode jdk_35_method_44_code 49 = .ok (.land, 1) := by decide +kernel
theorem own_d3_50 : decode jdk_35_method_44_code 50 = .ok (.bipush 63, 2) := by decide +kernel
theorem own_d3_52 : decode jdk_35_method_44_code 52 = .ok (.lushr, 1) := by decide +kernel
theorem own_d3_53 : decode jdk_35_method_44_code 53 = .ok (.lreturn, 1) := by decide +kernel
theorem own_pn0 : plainName "java/lang/Long" = true := by first | (simp [plainName, overriddenIn]; done) | decide +kernel
theorem own_ef3 (m : MethodId) (x0 : Int64) (x1 : Int64) : entryFrame m #[(.long x0), (.long x1)] 8 = mkF m 0 #[.val (.long x0), .second, .val (.long x1), .second, .unset, .unset, .unset, .unset] [] := by first | (simp [entryFrame, mkF, argsToLocals, Value.category]; done) | rfl
def own_du (j0 : Int64) (j1 : Int64) : Int64 :=
  if j1 < (0 : Int64) then
    (((j0 &&& ((j0 - j1) ^^^ (-1 : Int64))).toUInt64 >>> ((63 : Int32) &&& 0x3f).toInt64.toUInt64).toInt64)
  else
    (((((j0.toUInt64 >>> ((1 : Int32) &&& 0x3f).toInt64.toUInt64).toInt64) / j1) <<< ((1 : Int32) &&& 0x3f).toInt64) + ((((j0 - (((((j0.toUInt64 >>> ((1 : Int32) &&& 0x3f).toInt64.toUInt64).toInt64) / j1) <<< ((1 : Int32) &&& 0x3f).toInt64) * j1)) ||| (((j0 - (((((j0.toUInt64 >>> ((1 : Int32) &&& 0x3f).toInt64.toUInt64).toInt64) / j1) <<< ((1 : Int32) &&& 0x3f).toInt64) * j1)) - j1) ^^^ (-1 : Int64))).toUInt64 >>> ((63 : Int32) &&& 0x3f).toInt64.toUInt64).toInt64))
def own_Q3 (Z : State) (j0 : Int64) (j1 : Int64) (h0 : Heap) (n0 : Nat) (v : Option Value) (h : Heap) (L : List Loc) : Prop := v = some (.long (own_du j0 j1)) ∧ Fr n0 L ∧ h = h0
set_option maxRecDepth 65536 in
set_option maxHeartbeats 40000000 in
theorem own_rm3 (l : Launch) (Z : State) (a0 : Array Value) (hw : ∀ d ∈ tables_1, d.before a0 Z = true) (ws : List Jvm.Cond) (j0 : Int64) (j1 : Int64) (h0 : Heap) (n0 : Nat) (Z0 : n0 ≤ h0.size) (P0 : ¬ j1 = (0 : Int64)) :
    MetFree l (⟨"java/lang/Long", "divideUnsigned", "(JJ)J"⟩ : MethodName) (head1 (Jvm.Cond.code (⟨"java/lang/Long", "divideUnsigned", "(JJ)J"⟩ : MethodName) jdk_35_method_44_code 8 (some .long) :: ws) ({ frames := 0, cells := 0, slots := 0, locals := 0 } : Room)) (fun a U => a = #[(.long j0), (.long j1)] ∧ Z.Warmed39 U.vm ∧ U.heap = h0) (fun _ _ _ _ _ => True) (fun _ U o U' => ∃ v L, o = .returned v ∧ own_Q3 Z j0 j1 h0 n0 v U'.heap L ∧ FrameEnd U o U' L ({ frames := 0, cells := 0, slots := 0, locals := 0 } : Room).cells ({ frames := 0, cells := 0, slots := 0, locals := 0 } : Room).slots) := by
  refine MetFree.of_bodySF (plainFor_of_name own_pn0) hisR ?_
  intro p e s m args below meth c s₁ Bd hml0 hP hK
  obtain ⟨rfl, hZ, hh⟩ := hP
  have hx := Bd.exec
  have hby := Bd.bytes
  have hret := Bd.returns
  have hlk := BodyLoose.notSynchronized Bd
  have hml : c.maxLocals = 8 := hml0
  have hown : s.vm.findClass "java/lang/Long" = some m.cls := findClass_of_methodNamed Bd.named
  have hnm := (name_of_methodNamed Bd.named Bd.method).1
  have X0 : Stand p l e ({ frames := 0, cells := 0, slots := 0, locals := 0 } : Room) s m #[(.long j0), (.long j1)] below meth c s₁ [] 0 0 := Stand.of_body Bd
  have e0 : s₁.heap = h0 := by rw [← hh, Bd.state]; rfl
  have N0 := Fr.nil n0
  have K0 : Keep h0 h0 [] := Keep.refl h0 _
  show ownE p e below s (own_Q3 Z j0 j1 h0 n0) ({ frames := 0, cells := 0, slots := 0, locals := 0 } : Room).cells ({ frames := 0, cells := 0, slots := 0, locals := 0 } : Room).slots s₁ (entryFrame m #[(.long j0), (.long j1)] 8)
  rw [own_ef3]
  refine ownE.go (T' := s₁) (f' := (mkF m 3 #[.val (.long j0), .second, .val (.long j1), .second, .unset, .unset, .unset, .unset] [(.int (Jvm.Free.XT.cmpL j1 (0 : Int64)))])) (fun t kt => ?_) ?_
  · show Steps p.tables e below (s₁.setTop (mkF m 0 #[.val (.long j0), .second, .val (.long j1), .second, .unset, .unset, .unset, .unset] [])) _
    refine XS.lloadN X0.here hx rfl (hb hby own_d3_0) rfl ?_
    show Steps p.tables e below (s₁.setTop (mkF m 1 #[.val (.long j0), .second, .val (.long j1), .second, .unset, .unset, .unset, .unset] [(.long j1)])) _
    refine XS.lconst X0.here hx rfl (hb hby own_d3_1) ?_
    show Steps p.tables e below (s₁.setTop (mkF m 2 #[.val (.long j0), .second, .val (.long j1), .second, .unset, .unset, .unset, .unset] [(.long (0 : Int64)), (.long j1)])) _
    refine XS.lcmp X0.here hx rfl (hb hby own_d3_2) rfl ?_
    exact kt
  by_cases hc1 : j1 < (0 : Int64)
  · -- pc 3
    refine ownE.go (T' := s₁) (f' := (mkF m 41 #[.val (.long j0), .second, .val (.long j1), .second, .unset, .unset, .unset, .unset] [])) (fun t kt => XS.ifYes (g := (mkF m 3 #[.val (.long j0), .second, .val (.long j1), .second, .unset, .unset, .unset, .unset] [(.int (Jvm.Free.XT.cmpL j1 (0 : Int64)))])) X0.here hx rfl (pc0 := 3) (pc' := 41) rfl (hb hby own_d3_3) rfl (Jvm.Free.XT.ll_lt_t hc1) (by decide) (by decide) kt) ?_
    refine ownE.go (T' := s₁) (f' := (mkF m 53 #[.val (.long j0), .second, .val (.long j1), .second, .unset, .unset, .unset, .unset] [(.long (((j0 &&& ((j0 - j1) ^^^ (-1 : Int64))).toUInt64 >>> ((63 : Int32) &&& 0x3f).toInt64.toUInt64).toInt64))])) (fun t kt => ?_) ?_
    · show Steps p.tables e below (s₁.setTop (mkF m 41 #[.val (.long j0), .second, .val (.long j1), .second, .unset, .unset, .unset, .unset] [])) _
      refine XS.lloadN X0.here hx rfl (hb hby own_d3_41) rfl ?_
      show Steps p.tables e below (s₁.setTop (mkF m 42 #[.val (.long j0), .second, .val (.long j1), .second, .unset, .unset, .unset, .unset] [(.long j0)])) _
      refine XS.lloadN X0.here hx rfl (hb hby own_d3_42) rfl ?_
      show Steps p.tables e below (s₁.setTop (mkF m 43 #[.val (.long j0), .second, .val (.long j1), .second, .unset, .unset, .unset, .unset] [(.long j0), (.long j0)])) _
      refine XS.lloadN X0.here hx rfl (hb hby own_d3_43) rfl ?_
      show Steps p.tables e below (s₁.setTop (mkF m 44 #[.val (.long j0), .second, .val (.long j1), .second, .unset, .unset, .unset, .unset] [(.long j1), (.long j0), (.long j0)])) _
      refine XS.lsub X0.here hx rfl (hb hby own_d3_44) rfl ?_
      show Steps p.tables e below (s₁.setTop (mkF m 45 #[.val (.long j0), .second, .val (.long j1), .second, .unset, .unset, .unset, .unset] [(.long (j0 - j1)), (.long j0)])) _
      refine X0.ldc2Long hx hown (mvT hZ (hw _ (List.mem_of_getElem? (i := 19) rfl))) (g := (mkF m 45 #[.val (.long j0), .second, .val (.long j1), .second, .unset, .unset, .unset, .unset] [(.long (j0 - j1)), (.long j0)])) rfl (hb hby own_d3_45) _ ?_
      show Steps p.tables e below (s₁.setTop (mkF m 48 #[.val (.long j0), .second, .val (.long j1), .second, .unset, .unset, .unset, .unset] [(.long (-1 : Int64)), (.long (j0 - j1)), (.long j0)])) _
      refine XS.lxor X0.here hx rfl (hb hby own_d3_48) rfl ?_
      show Steps p.tables e below (s₁.setTop (mkF m 49 #[.val (.long j0), .second, .val (.long j1), .second, .unset, .unset, .unset, .unset] [(.long ((j0 - j1) ^^^ (-1 : Int64))), (.long j0)])) _
      refine XS.land X0.here hx rfl (hb hby own_d3_49) rfl ?_
      show Steps p.tables e below (s₁.setTop (mkF m 50 #[.val (.long j0), .second, .val (.long j1), .second, .unset, .unset, .unset, .unset] [(.long (j0 &&& ((j0 - j1) ^^^ (-1 : Int64))))])) _
      refine XS.bipush X0.here hx rfl (hb hby own_d3_50) ?_
      show Steps p.tables e below (s₁.setTop (mkF m 52 #[.val (.long j0), .second, .val (.long j1), .second, .unset, .unset, .unset, .unset] [(.int (63 : Int32)), (.long (j0 &&& ((j0 - j1) ^^^ (-1 : Int64))))])) _
      refine XS.lushr X0.here hx rfl (hb hby own_d3_52) rfl ?_
      exact kt
    refine ownE.retL X0 hx hlk hret (hb hby own_d3_53) ?_ (by decide) (by decide)
    show own_Q3 Z j0 j1 h0 n0 _ s₁.heap _
    rw [e0]
    exact ⟨(by rw [own_du, if_pos hc1] <;> first | rfl | decide), N0, rfl⟩
  · -- pc 3
    refine ownE.go (T' := s₁) (f' := (mkF m 6 #[.val (.long j0), .second, .val (.long j1), .second, .unset, .unset, .unset, .unset] [])) (fun t kt => XS.ifNo (g := (mkF m 3 #[.val (.long j0), .second, .val (.long j1), .second, .unset, .unset, .unset, .unset] [(.int (Jvm.Free.XT.cmpL j1 (0 : Int64)))])) X0.here hx rfl (hb hby own_d3_3) rfl (Jvm.Free.XT.ll_lt_f hc1) kt) ?_
    refine ownE.go (T' := s₁) (f' := (mkF m 40 #[.val (.long j0), .second, .val (.long j1), .second, .val (.long ((((j0.toUInt64 >>> ((1 : Int32) &&& 0x3f).toInt64.toUInt64).toInt64) / j1) <<< ((1 : Int32) &&& 0x3f).toInt64)), .second, .val (.long (j0 - (((((j0.toUInt64 >>> ((1 : Int32) &&& 0x3f).toInt64.toUInt64).toInt64) / j1) <<< ((1 : Int32) &&& 0x3f).toInt64) * j1))), .second] [(.long (((((j0.toUInt64 >>> ((1 : Int32) &&& 0x3f).toInt64.toUInt64).toInt64) / j1) <<< ((1 : Int32) &&& 0x3f).toInt64) + ((((j0 - (((((j0.toUInt64 >>> ((1 : Int32) &&& 0x3f).toInt64.toUInt64).toInt64) / j1) <<< ((1 : Int32) &&& 0x3f).toInt64) * j1)) ||| (((j0 - (((((j0.toUInt64 >>> ((1 : Int32) &&& 0x3f).toInt64.toUInt64).toInt64) / j1) <<< ((1 : Int32) &&& 0x3f).toInt64) * j1)) - j1) ^^^ (-1 : Int64))).toUInt64 >>> ((63 : Int32) &&& 0x3f).toInt64.toUInt64).toInt64)))])) (fun t kt => ?_) ?_
    · show Steps p.tables e below (s₁.setTop (mkF m 6 #[.val (.long j0), .second, .val (.long j1), .second, .unset, .unset, .unset, .unset] [])) _
      refine XS.lloadN X0.here hx rfl (hb hby own_d3_6) rfl ?_
      show Steps p.tables e below (s₁.setTop (mkF m 7 #[.val (.long j0), .second, .val (.long j1), .second, .unset, .unset, .unset, .unset] [(.long j0)])) _
      refine XS.iconst X0.here hx rfl (hb hby own_d3_7) ?_
      show Steps p.tables e below (s₁.setTop (mkF m 8 #[.val (.long j0), .second, .val (.long j1), .second, .unset, .unset, .unset, .unset] [(.int (1 : Int32)), (.long j0)])) _
      refine XS.lushr X0.here hx rfl (hb hby own_d3_8) rfl ?_
      show Steps p.tables e below (s₁.setTop (mkF m 9 #[.val (.long j0), .second, .val (.long j1), .second, .unset, .unset, .unset, .unset] [(.long ((j0.toUInt64 >>> ((1 : Int32) &&& 0x3f).toInt64.toUInt64).toInt64))])) _
      refine XS.lloadN X0.here hx rfl (hb hby own_d3_9) rfl ?_
      show Steps p.tables e below (s₁.setTop (mkF m 10 #[.val (.long j0), .second, .val (.long j1), .second, .unset, .unset, .unset, .unset] [(.long j1), (.long ((j0.toUInt64 >>> ((1 : Int32) &&& 0x3f).toInt64.toUInt64).toInt64))])) _
      refine XS.ldiv X0.here hx rfl (hb hby own_d3_10) rfl P0 ?_
      show Steps p.tables e below (s₁.setTop (mkF m 11 #[.val (.long j0), .second, .val (.long j1), .second, .unset, .unset, .unset, .unset] [(.long (((j0.toUInt64 >>> ((1 : Int32) &&& 0x3f).toInt64.toUInt64).toInt64) / j1))])) _
      refine XS.iconst X0.here hx rfl (hb hby own_d3_11) ?_
      show Steps p.tables e below (s₁.setTop (mkF m 12 #[.val (.long j0), .second, .val (.long j1), .second, .unset, .unset, .unset, .unset] [(.int (1 : Int32)), (.long (((j0.toUInt64 >>> ((1 : Int32) &&& 0x3f).toInt64.toUInt64).toInt64) / j1))])) _
      refine XS.lshl X0.here hx rfl (hb hby own_d3_12) rfl ?_
      show Steps p.tables e below (s₁.setTop (mkF m 13 #[.val (.long j0), .second, .val (.long j1), .second, .unset, .unset, .unset, .unset] [(.long ((((j0.toUInt64 >>> ((1 : Int32) &&& 0x3f).toInt64.toUInt64).toInt64) / j1) <<< ((1 : Int32) &&& 0x3f).toInt64))])) _
      refine XS.lstore X0.here hx rfl (hb hby own_d3_13) rfl (l' := #[.val (.long j0), .second, .val (.long j1), .second, .val (.long ((((j0.toUInt64 >>> ((1 : Int32) &&& 0x3f).toInt64.toUInt64).toInt64) / j1) <<< ((1 : Int32) &&& 0x3f).toInt64)), .second, .unset, .unset]) rfl ?_
      show Steps p.tables e below (s₁.setTop (mkF m 15 #[.val (.long j0), .second, .val (.long j1), .second, .val (.long ((((j0.toUInt64 >>> ((1 : Int32) &&& 0x3f).toInt64.toUInt64).toInt64) / j1) <<< ((1 : Int32) &&& 0x3f).toInt64)), .second, .unset, .unset] [])) _
      refine XS.lloadN X0.here hx rfl (hb hby own_d3_15) rfl ?_
      show Steps p.tables e below (s₁.setTop (mkF m 16 #[.val (.long j0), .second, .val (.long j1), .second, .val (.long ((((j0.toUInt64 >>> ((1 : Int32) &&& 0x3f).toInt64.toUInt64).toInt64) / j1) <<< ((1 : Int32) &&& 0x3f).toInt64)), .second, .unset, .unset] [(.long j0)])) _
      refine XS.lload X0.here hx rfl (hb hby own_d3_16) rfl ?_
      show Steps p.tables e below (s₁.setTop (mkF m 18 #[.val (.long j0), .second, .val (.long j1), .second, .val (.long ((((j0.toUInt64 >>> ((1 : Int32) &&& 0x3f).toInt64.toUInt64).toInt64) / j1) <<< ((1 : Int32) &&& 0x3f).toInt64)), .second, .unset, .unset] [(.long ((((j0.toUInt64 >>> ((1 : Int32) &&& 0x3f).toInt64.toUInt64).toInt64) / j1) <<< ((1 : Int32) &&& 0x3f).toInt64)), (.long j0)])) _
      refine XS.lloadN X0.here hx rfl (hb hby own_d3_18) rfl ?_
      show Steps p.tables e below (s₁.setTop (mkF m 19 #[.val (.long j0), .second, .val (.long j1), .second, .val (.long ((((j0.toUInt64 >>> ((1 : Int32) &&& 0x3f).toInt64.toUInt64).toInt64) / j1) <<< ((1 : Int32) &&& 0x3f).toInt64)), .second, .unset, .unset] [(.long j1), (.long ((((j0.toUInt64 >>> ((1 : Int32) &&& 0x3f).toInt64.toUInt64).toInt64) / j1) <<< ((1 : Int32) &&& 0x3f).toInt64)), (.long j0)])) _
      refine XS.lmul X0.here hx rfl (hb hby own_d3_19) rfl ?_
      show Steps p.tables e below (s₁.setTop (mkF m 20 #[.val (.long j0), .second, .val (.long j1), .second, .val (.long ((((j0.toUInt64 >>> ((1 : Int32) &&& 0x3f).toInt64.toUInt64).toInt64) / j1) <<< ((1 : Int32) &&& 0x3f).toInt64)), .second, .unset, .unset] [(.long (((((j0.toUInt64 >>> ((1 : Int32) &&& 0x3f).toInt64.toUInt64).toInt64) / j1) <<< ((1 : Int32) &&& 0x3f).toInt64) * j1)), (.long j0)])) _
      refine XS.lsub X0.here hx rfl (hb hby own_d3_20) rfl ?_
      show Steps p.tables e below (s₁.setTop (mkF m 21 #[.val (.long j0), .second, .val (.long j1), .second, .val (.long ((((j0.toUInt64 >>> ((1 : Int32) &&& 0x3f).toInt64.toUInt64).toInt64) / j1) <<< ((1 : Int32) &&& 0x3f).toInt64)), .second, .unset, .unset] [(.long (j0 - (((((j0.toUInt64 >>> ((1 : Int32) &&& 0x3f).toInt64.toUInt64).toInt64) / j1) <<< ((1 : Int32) &&& 0x3f).toInt64) * j1)))])) _
      refine XS.lstore X0.here hx rfl (hb hby own_d3_21) rfl (l' := #[.val (.long j0), .second, .val (.long j1), .second, .val (.long ((((j0.toUInt64 >>> ((1 : Int32) &&& 0x3f).toInt64.toUInt64).toInt64) / j1) <<< ((1 : Int32) &&& 0x3f).toInt64)), .second, .val (.long (j0 - (((((j0.toUInt64 >>> ((1 : Int32) &&& 0x3f).toInt64.toUInt64).toInt64) / j1) <<< ((1 : Int32) &&& 0x3f).toInt64) * j1))), .second]) rfl ?_
      show Steps p.tables e below (s₁.setTop (mkF m 23 #[.val (.long j0), .second, .val (.long j1), .second, .val (.long ((((j0.toUInt64 >>> ((1 : Int32) &&& 0x3f).toInt64.toUInt64).toInt64) / j1) <<< ((1 : Int32) &&& 0x3f).toInt64)), .second, .val (.long (j0 - (((((j0.toUInt64 >>> ((1 : Int32) &&& 0x3f).toInt64.toUInt64).toInt64) / j1) <<< ((1 : Int32) &&& 0x3f).toInt64) * j1))), .second] [])) _
      refine XS.lload X0.here hx rfl (hb hby own_d3_23) rfl ?_
      show Steps p.tables e below (s₁.setTop (mkF m 25 #[.val (.long j0), .second, .val (.long j1), .second, .val (.long ((((j0.toUInt64 >>> ((1 : Int32) &&& 0x3f).toInt64.toUInt64).toInt64) / j1) <<< ((1 : Int32) &&& 0x3f).toInt64)), .second, .val (.long (j0 - (((((j0.toUInt64 >>> ((1 : Int32) &&& 0x3f).toInt64.toUInt64).toInt64) / j1) <<< ((1 : Int32) &&& 0x3f).toInt64) * j1))), .second] [(.long ((((j0.toUInt64 >>> ((1 : Int32) &&& 0x3f).toInt64.toUInt64).toInt64) / j1) <<< ((1 : Int32) &&& 0x3f).toInt64))])) _
      refine XS.lload X0.here hx rfl (hb hby own_d3_25) rfl ?_
      show Steps p.tables e below (s₁.setTop (mkF m 27 #[.val (.long j0), .second, .val (.long j1), .second, .val (.long ((((j0.toUInt64 >>> ((1 : Int32) &&& 0x3f).toInt64.toUInt64).toInt64) / j1) <<< ((1 : Int32) &&& 0x3f).toInt64)), .second, .val (.long (j0 - (((((j0.toUInt64 >>> ((1 : Int32) &&& 0x3f).toInt64.toUInt64).toInt64) / j1) <<< ((1 : Int32) &&& 0x3f).toInt64) * j1))), .second] [(.long (j0 - (((((j0.toUInt64 >>> ((1 : Int32) &&& 0x3f).toInt64.toUInt64).toInt64) / j1) <<< ((1 : Int32) &&& 0x3f).toInt64) * j1))), (.long ((((j0.toUInt64 >>> ((1 : Int32) &&& 0x3f).toInt64.toUInt64).toInt64) / j1) <<< ((1 : Int32) &&& 0x3f).toInt64))])) _
      refine XS.lload X0.here hx rfl (hb hby own_d3_27) rfl ?_
      show Steps p.tables e below (s₁.setTop (mkF m 29 #[.val (.long j0), .second, .val (.long j1), .second, .val (.long ((((j0.toUInt64 >>> ((1 : Int32) &&& 0x3f).toInt64.toUInt64).toInt64) / j1) <<< ((1 : Int32) &&& 0x3f).toInt64)), .second, .val (.long (j0 - (((((j0.toUInt64 >>> ((1 : Int32) &&& 0x3f).toInt64.toUInt64).toInt64) / j1) <<< ((1 : Int32) &&& 0x3f).toInt64) * j1))), .second] [(.long (j0 - (((((j0.toUInt64 >>> ((1 : Int32) &&& 0x3f).toInt64.toUInt64).toInt64) / j1) <<< ((1 : Int32) &&& 0x3f).toInt64) * j1))), (.long (j0 - (((((j0.toUInt64 >>> ((1 : Int32) &&& 0x3f).toInt64.toUInt64).toInt64) / j1) <<< ((1 : Int32) &&& 0x3f).toInt64) * j1))), (.long ((((j0.toUInt64 >>> ((1 : Int32) &&& 0x3f).toInt64.toUInt64).toInt64) / j1) <<< ((1 : Int32) &&& 0x3f).toInt64))])) _
      refine XS.lloadN X0.here hx rfl (hb hby own_d3_29) rfl ?_
      show Steps p.tables e below (s₁.setTop (mkF m 30 #[.val (.long j0), .second, .val (.long j1), .second, .val (.long ((((j0.toUInt64 >>> ((1 : Int32) &&& 0x3f).toInt64.toUInt64).toInt64) / j1) <<< ((1 : Int32) &&& 0x3f).toInt64)), .second, .val (.long (j0 - (((((j0.toUInt64 >>> ((1 : Int32) &&& 0x3f).toInt64.toUInt64).toInt64) / j1) <<< ((1 : Int32) &&& 0x3f).toInt64) * j1))), .second] [(.long j1), (.long (j0 - (((((j0.toUInt64 >>> ((1 : Int32) &&& 0x3f).toInt64.toUInt64).toInt64) / j1) <<< ((1 : Int32) &&& 0x3f).toInt64) * j1))), (.long (j0 - (((((j0.toUInt64 >>> ((1 : Int32) &&& 0x3f).toInt64.toUInt64).toInt64) / j1) <<< ((1 : Int32) &&& 0x3f).toInt64) * j1))), (.long ((((j0.toUInt64 >>> ((1 : Int32) &&& 0x3f).toInt64.toUInt64).toInt64) / j1) <<< ((1 : Int32) &&& 0x3f).toInt64))])) _
      refine XS.lsub X0.here hx rfl (hb hby own_d3_30) rfl ?_
      show Steps p.tables e below (s₁.setTop (mkF m 31 #[.val (.long j0), .second, .val (.long j1), .second, .val (.long ((((j0.toUInt64 >>> ((1 : Int32) &&& 0x3f).toInt64.toUInt64).toInt64) / j1) <<< ((1 : Int32) &&& 0x3f).toInt64)), .second, .val (.long (j0 - (((((j0.toUInt64 >>> ((1 : Int32) &&& 0x3f).toInt64.toUInt64).toInt64) / j1) <<< ((1 : Int32) &&& 0x3f).toInt64) * j1))), .second] [(.long ((j0 - (((((j0.toUInt64 >>> ((1 : Int32) &&& 0x3f).toInt64.toUInt64).toInt64) / j1) <<< ((1 : Int32) &&& 0x3f).toInt64) * j1)) - j1)), (.long (j0 - (((((j0.toUInt64 >>> ((1 : Int32) &&& 0x3f).toInt64.toUInt64).toInt64) / j1) <<< ((1 : Int32) &&& 0x3f).toInt64) * j1))), (.long ((((j0.toUInt64 >>> ((1 : Int32) &&& 0x3f).toInt64.toUInt64).toInt64) / j1) <<< ((1 : Int32) &&& 0x3f).toInt64))])) _
      refine X0.ldc2Long hx hown (mvT hZ (hw _ (List.mem_of_getElem? (i := 19) rfl))) (g := (mkF m 31 #[.val (.long j0), .second, .val (.long j1), .second, .val (.long ((((j0.toUInt64 >>> ((1 : Int32) &&& 0x3f).toInt64.toUInt64).toInt64) / j1) <<< ((1 : Int32) &&& 0x3f).toInt64)), .second, .val (.long (j0 - (((((j0.toUInt64 >>> ((1 : Int32) &&& 0x3f).toInt64.toUInt64).toInt64) / j1) <<< ((1 : Int32) &&& 0x3f).toInt64) * j1))), .second] [(.long ((j0 - (((((j0.toUInt64 >>> ((1 : Int32) &&& 0x3f).toInt64.toUInt64).toInt64) / j1) <<< ((1 : Int32) &&& 0x3f).toInt64) * j1)) - j1)), (.long (j0 - (((((j0.toUInt64 >>> ((1 : Int32) &&& 0x3f).toInt64.toUInt64).toInt64) / j1) <<< ((1 : Int32) &&& 0x3f).toInt64) * j1))), (.long ((((j0.toUInt64 >>> ((1 : Int32) &&& 0x3f).toInt64.toUInt64).toInt64) / j1) <<< ((1 : Int32) &&& 0x3f).toInt64))])) rfl (hb hby own_d3_31) _ ?_
      show Steps p.tables e below (s₁.setTop (mkF m 34 #[.val (.long j0), .second, .val (.long j1), .second, .val (.long ((((j0.toUInt64 >>> ((1 : Int32) &&& 0x3f).toInt64.toUInt64).toInt64) / j1) <<< ((1 : Int32) &&& 0x3f).toInt64)), .second, .val (.long (j0 - (((((j0.toUInt64 >>> ((1 : Int32) &&& 0x3f).toInt64.toUInt64).toInt64) / j1) <<< ((1 : Int32) &&& 0x3f).toInt64) * j1))), .second] [(.long (-1 : Int64)), (.long ((j0 - (((((j0.toUInt64 >>> ((1 : Int32) &&& 0x3f).toInt64.toUInt64).toInt64) / j1) <<< ((1 : Int32) &&& 0x3f).toInt64) * j1)) - j1)), (.long (j0 - (((((j0.toUInt64 >>> ((1 : Int32) &&& 0x3f).toInt64.toUInt64).toInt64) / j1) <<< ((1 : Int32) &&& 0x3f).toInt64) * j1))), (.long ((((j0.toUInt64 >>> ((1 : Int32) &&& 0x3f).toInt64.toUInt64).toInt64) / j1) <<< ((1 : Int32) &&& 0x3f).toInt64))])) _
      refine XS.lxor X0.here hx rfl (hb hby own_d3_34) rfl ?_
      show Steps p.tables e below (s₁.setTop (mkF m 35 #[.val (.long j0), .second, .val (.long j1), .second, .val (.long ((((j0.toUInt64 >>> ((1 : Int32) &&& 0x3f).toInt64.toUInt64).toInt64) / j1) <<< ((1 : Int32) &&& 0x3f).toInt64)), .second, .val (.long (j0 - (((((j0.toUInt64 >>> ((1 : Int32) &&& 0x3f).toInt64.toUInt64).toInt64) / j1) <<< ((1 : Int32) &&& 0x3f).toInt64) * j1))), .second] [(.long (((j0 - (((((j0.toUInt64 >>> ((1 : Int32) &&& 0x3f).toInt64.toUInt64).toInt64) / j1) <<< ((1 : Int32) &&& 0x3f).toInt64) * j1)) - j1) ^^^ (-1 : Int64))), (.long (j0 - (((((j0.toUInt64 >>> ((1 : Int32) &&& 0x3f).toInt64.toUInt64).toInt64) / j1) <<< ((1 : Int32) &&& 0x3f).toInt64) * j1))), (.long ((((j0.toUInt64 >>> ((1 : Int32) &&& 0x3f).toInt64.toUInt64).toInt64) / j1) <<< ((1 : Int32) &&& 0x3f).toInt64))])) _
      refine XS.lor X0.here hx rfl (hb hby own_d3_35) rfl ?_
      show Steps p.tables e below (s₁.setTop (mkF m 36 #[.val (.long j0), .second, .val (.long j1), .second, .val (.long ((((j0.toUInt64 >>> ((1 : Int32) &&& 0x3f).toInt64.toUInt64).toInt64) / j1) <<< ((1 : Int32) &&& 0x3f).toInt64)), .second, .val (.long (j0 - (((((j0.toUInt64 >>> ((1 : Int32) &&& 0x3f).toInt64.toUInt64).toInt64) / j1) <<< ((1 : Int32) &&& 0x3f).toInt64) * j1))), .second] [(.long ((j0 - (((((j0.toUInt64 >>> ((1 : Int32) &&& 0x3f).toInt64.toUInt64).toInt64) / j1) <<< ((1 : Int32) &&& 0x3f).toInt64) * j1)) ||| (((j0 - (((((j0.toUInt64 >>> ((1 : Int32) &&& 0x3f).toInt64.toUInt64).toInt64) / j1) <<< ((1 : Int32) &&& 0x3f).toInt64) * j1)) - j1) ^^^ (-1 : Int64)))), (.long ((((j0.toUInt64 >>> ((1 : Int32) &&& 0x3f).toInt64.toUInt64).toInt64) / j1) <<< ((1 : Int32) &&& 0x3f).toInt64))])) _
      refine XS.bipush X0.here hx rfl (hb hby own_d3_36) ?_
      show Steps p.tables e below (s₁.setTop (mkF m 38 #[.val (.long j0), .second, .val (.long j1), .second, .val (.long ((((j0.toUInt64 >>> ((1 : Int32) &&& 0x3f).toInt64.toUInt64).toInt64) / j1) <<< ((1 : Int32) &&& 0x3f).toInt64)), .second, .val (.long (j0 - (((((j0.toUInt64 >>> ((1 : Int32) &&& 0x3f).toInt64.toUInt64).toInt64) / j1) <<< ((1 : Int32) &&& 0x3f).toInt64) * j1))), .second] [(.int (63 : Int32)), (.long ((j0 - (((((j0.toUInt64 >>> ((1 : Int32) &&& 0x3f).toInt64.toUInt64).toInt64) / j1) <<< ((1 : Int32) &&& 0x3f).toInt64) * j1)) ||| (((j0 - (((((j0.toUInt64 >>> ((1 : Int32) &&& 0x3f).toInt64.toUInt64).toInt64) / j1) <<< ((1 : Int32) &&& 0x3f).toInt64) * j1)) - j1) ^^^ (-1 : Int64)))), (.long ((((j0.toUInt64 >>> ((1 : Int32) &&& 0x3f).toInt64.toUInt64).toInt64) / j1) <<< ((1 : Int32) &&& 0x3f).toInt64))])) _
      refine XS.lushr X0.here hx rfl (hb hby own_d3_38) rfl ?_
      show Steps p.tables e below (s₁.setTop (mkF m 39 #[.val (.long j0), .second, .val (.long j1), .second, .val (.long ((((j0.toUInt64 >>> ((1 : Int32) &&& 0x3f).toInt64.toUInt64).toInt64) / j1) <<< ((1 : Int32) &&& 0x3f).toInt64)), .second, .val (.long (j0 - (((((j0.toUInt64 >>> ((1 : Int32) &&& 0x3f).toInt64.toUInt64).toInt64) / j1) <<< ((1 : Int32) &&& 0x3f).toInt64) * j1))), .second] [(.long ((((j0 - (((((j0.toUInt64 >>> ((1 : Int32) &&& 0x3f).toInt64.toUInt64).toInt64) / j1) <<< ((1 : Int32) &&& 0x3f).toInt64) * j1)) ||| (((j0 - (((((j0.toUInt64 >>> ((1 : Int32) &&& 0x3f).toInt64.toUInt64).toInt64) / j1) <<< ((1 : Int32) &&& 0x3f).toInt64) * j1)) - j1) ^^^ (-1 : Int64))).toUInt64 >>> ((63 : Int32) &&& 0x3f).toInt64.toUInt64).toInt64)), (.long ((((j0.toUInt64 >>> ((1 : Int32) &&& 0x3f).toInt64.toUInt64).toInt64) / j1) <<< ((1 : Int32) &&& 0x3f).toInt64))])) _
      refine XS.ladd X0.here hx rfl (hb hby own_d3_39) rfl ?_
      exact kt
    refine ownE.retL X0 hx hlk hret (hb hby own_d3_40) ?_ (by decide) (by decide)
    show own_Q3 Z j0 j1 h0 n0 _ s₁.heap _
    rw [e0]
    exact ⟨(by rw [own_du, if_neg hc1] <;> first | rfl | decide), N0, rfl⟩
def own_cm (i1 : Int32) : Int64 := (((1 : Int64) <<< (i1 &&& 0x3f).toInt64) - (1 : Int64))
def own_lb (i1 : Int32) : Int64 := own_du (-1 : Int64) (own_cm i1)
def own_hb (i1 : Int32) : Int64 := (own_lb i1) <<< ((i1 - (1 : Int32)) &&& 0x3f).toInt64
theorem own_pd1 : parseMethodDescriptor "(JJ)J" = some ⟨[.long, .long], some .long⟩ := by decide +kernel
theorem own_d1_0 : decode prog_5_method_1_code 0 = .ok (.aload_n 0, 1) := by decide +kernel
theorem own_d1_1 : decode prog_5_method_1_code 1 = .ok (.invokespecial 1, 3) := by decide +kernel
theorem own_d1_4 : decode prog_5_method_1_code 4 = .ok (.aload_n 0, 1) := by decide +kernel
theorem own_d1_5 : decode prog_5_method_1_code 5 = .ok (.iload_n 1, 1) := by decide +kernel
theorem own_d1_6 : decode prog_5_method_1_code 6 = .ok (.putfield 7, 3) := by decide +kernel
theorem own_d1_9 : decode prog_5_method_1_code 9 = .ok (.aload_n 0, 1) := by decide +kernel
theorem own_d1_10 : decode prog_5_method_1_code 10 = .ok (.lconst 1, 1) := by decide +kernel
theorem own_d1_11 : decode prog_5_method_1_code 11 = .ok (.iload_n 1, 1) := by decide +kernel
theorem own_d1_12 : decode prog_5_method_1_code 12 = .ok (.lshl, 1) := by decide +kernel
theorem own_d1_13 : decode prog_5_method_1_code 13 = .ok (.lconst 1, 1) := by decide +kernel
theorem own_d1_14 : decode prog_5_method_1_code 14 = .ok (.lsub, 1) := by decide +kernel
theorem own_d1_15 : decode prog_5_method_1_code 15 = .ok (.putfield 13, 3) := by decide +kernel
theorem own_d1_18 : decode prog_5_method_1_code 18 = .ok (.aload_n 0, 1) := by decide +kernel
theorem own_d1_19 : decode prog_5_method_1_code 19 = .ok (.ldc2_w 17, 3) := by decide +kernel
theorem own_d1_22 : decode prog_5_method_1_code 22 = .ok (.aload_n 0, 1) := by decide +kernel
theorem own_d1_23 : decode prog_5_method_1_code 23 = .ok (.getfield 13, 3) := by decide +kernel
theorem own_d1_26 : decode prog_5_method_1_code 26 = .ok (.invokestatic 19, 3) := by decide +kernel
theorem own_d1_29 : decode prog_5_method_1_code 29 = .ok (.putfield 25, 3) := by decide +kernel
theorem own_d1_32 : decode prog_5_method_1_code 32 = .ok (.aload_n 0, 1) := by decide +kernel
theorem own_d1_33 : decode prog_5_method_1_code 33 = .ok (.aload_n 0, 1) := by decide +kernel
theorem own_d1_34 : decode prog_5_method_1_code 34 = .ok (.getfield 25, 3) := by decide +kernel
theorem own_d1_37 : decode prog_5_method_1_code 37 = .ok (.iload_n 1, 1) := by decide +kernel
theorem own_d1_38 : decode prog_5_method_1_code 38 = .ok (.iconst 1, 1) := by decide +kernel
theorem own_d1_39 : decode prog_5_method_1_code 39 = .ok (.isub, 1) := by decide +kernel
theorem own_d1_40 : decode prog_5_method_1_code 40 = .ok (.lshl, 1) := by decide +kernel
theorem own_d1_41 : decode prog_5_method_1_code 41 = .ok (.putfield 28, 3) := by decide +kernel
theorem own_d1_44 : decode prog_5_method_1_code 44 = .ok (.return_, 1) := by decide +kernel
theorem own_pn2 : plainName "com/example/upper_falls/upperfalls/CellWords" = true := by first | (simp [plainName, overriddenIn]; done) | decide +kernel
theorem own_ef1 (m : MethodId) (x0 : Addr) (x1 : Int32) : entryFrame m #[(.ref x0), (.int x1)] 2 = mkF m 0 #[.val (.ref x0), .val (.int x1)] [] := by first | (simp [entryFrame, mkF, argsToLocals, Value.category]; done) | rfl
def own_Q1 (Z : State) (r0 : Addr) (i1 : Int32) (h0 : Heap) (n0 : Nat) (v : Option Value) (h : Heap) (L : List Loc) : Prop := v = none ∧ Fr n0 L ∧ Keep h0 h [r0] ∧ Exa Z h r0 "com/example/upper_falls/upperfalls/CellWords" ∧ Fld Z h r0 "com/example/upper_falls/upperfalls/CellWords" "width" "I" (.int i1) ∧ Fld Z h r0 "com/example/upper_falls/upperfalls/CellWords" "cellMask" "J" (.long (own_cm i1)) ∧ Fld Z h r0 "com/example/upper_falls/upperfalls/CellWords" "lowBits" "J" (.long (own_lb i1)) ∧ Fld Z h r0 "com/example/upper_falls/upperfalls/CellWords" "highBits" "J" (.long (own_hb i1))
set_option maxRecDepth 65536 in
set_option maxHeartbeats 40000000 in
theorem own_rm1 (l : Launch) (Z : State) (a0 : Array Value) (hw : ∀ d ∈ tables_1, d.before a0 Z = true) (ws : List Jvm.Cond) (r0 : Addr) (i1 : Int32) (h0 : Heap) (n0 : Nat) (Z0 : n0 ≤ h0.size) (P0 : Fld Z h0 r0 "com/example/upper_falls/upperfalls/CellWords" "width" "I" (.int (0 : Int32))) (P1 : Fld Z h0 r0 "com/example/upper_falls/upperfalls/CellWords" "cellMask" "J" (.long (0 : Int64))) (P2 : Fld Z h0 r0 "com/example/upper_falls/upperfalls/CellWords" "lowBits" "J" (.long (0 : Int64))) (P3 : Fld Z h0 r0 "com/example/upper_falls/upperfalls/CellWords" "highBits" "J" (.long (0 : Int64))) (P4 : Exa Z h0 r0 "com/example/upper_falls/upperfalls/CellWords") (P5 : n0 ≤ r0) (P6 : ¬ (((1 : Int64) <<< (i1 &&& 0x3f).toInt64) - (1 : Int64)) = (0 : Int64)) :
    MetFree l (⟨"com/example/upper_falls/upperfalls/CellWords", "<init>", "(I)V"⟩ : MethodName) (head1 (Jvm.Cond.code (⟨"com/example/upper_falls/upperfalls/CellWords", "<init>", "(I)V"⟩ : MethodName) prog_5_method_1_code 2 none :: ws) ({ frames := 1, cells := 0, slots := 0, locals := 20 } : Room)) (fun a U => a = #[(.ref r0), (.int i1)] ∧ Z.Warmed39 U.vm ∧ U.heap = h0) (fun _ _ _ _ _ => True) (fun _ U o U' => ∃ v L, o = .returned v ∧ own_Q1 Z r0 i1 h0 n0 v U'.heap L ∧ FrameEnd U o U' L ({ frames := 1, cells := 0, slots := 0, locals := 20 } : Room).cells ({ frames := 1, cells := 0, slots := 0, locals := 20 } : Room).slots) := by
  refine MetFree.of_bodySF (plainFor_of_name own_pn2) hisR ?_
  intro p e s m args below meth c s₁ Bd hml0 hP hK
  obtain ⟨rfl, hZ, hh⟩ := hP
  have hx := Bd.exec
  have hby := Bd.bytes
  have hret := Bd.returns
  have hlk := BodyLoose.notSynchronized Bd
  have hml : c.maxLocals = 2 := hml0
  have hown : s.vm.findClass "com/example/upper_falls/upperfalls/CellWords" = some m.cls := findClass_of_methodNamed Bd.named
  have hnm := (name_of_methodNamed Bd.named Bd.method).1
  have X0 : Stand p l e ({ frames := 1, cells := 0, slots := 0, locals := 20 } : Room) s m #[(.ref r0), (.int i1)] below meth c s₁ [] 0 0 := Stand.of_body Bd
  have e0 : s₁.heap = h0 := by rw [← hh, Bd.state]; rfl
  have N0 := Fr.nil n0
  have K0 : Keep h0 h0 [r0] := Keep.refl h0 _
  show ownE p e below s (own_Q1 Z r0 i1 h0 n0) ({ frames := 1, cells := 0, slots := 0, locals := 20 } : Room).cells ({ frames := 1, cells := 0, slots := 0, locals := 20 } : Room).slots s₁ (entryFrame m #[(.ref r0), (.int i1)] 2)
  rw [own_ef1]
  refine ownE.go (T' := s₁) (f' := (mkF m 1 #[.val (.ref r0), .val (.int i1)] [(.ref r0)])) (fun t kt => ?_) ?_
  · show Steps p.tables e below (s₁.setTop (mkF m 0 #[.val (.ref r0), .val (.int i1)] [])) _
    refine XS.aloadN X0.here hx rfl (hb hby own_d1_0) rfl rfl ?_
    exact kt
  obtain ⟨T1, X1, e1, st1⟩ := initO X0 hx hZ hown (hw _ (List.mem_of_getElem? (i := 7) rfl)) (hw _ (List.mem_of_getElem? (i := 8) rfl)) (hw _ (List.mem_of_getElem? (i := 9) rfl)) e0 (g := (mkF m 1 #[.val (.ref r0), .val (.int i1)] [(.ref r0)])) rfl (by rw [hml]; rfl) rfl (hb hby own_d1_1) (by decide) (W := 0) (by show 2 * 0 + _ ≤ _; exact Nat.le_of_eq rfl) (by decide)
  refine ownE.go (T' := T1) (f' := (mkF m 4 #[.val (.ref r0), .val (.int i1)] [])) st1 ?_
  refine ownE.go (T' := T1) (f' := (mkF m 6 #[.val (.ref r0), .val (.int i1)] [(.int i1), (.ref r0)])) (fun t kt => ?_) ?_
  · show Steps p.tables e below (T1.setTop (mkF m 4 #[.val (.ref r0), .val (.int i1)] [])) _
    refine XS.aloadN X1.here hx rfl (hb hby own_d1_4) rfl rfl ?_
    show Steps p.tables e below (T1.setTop (mkF m 5 #[.val (.ref r0), .val (.int i1)] [(.ref r0)])) _
    refine XS.iloadN X1.here hx rfl (hb hby own_d1_5) rfl ?_
    exact kt
  obtain ⟨T2, h2, X2, e2, W2, st2⟩ := putF X1 hx hZ hown (host := "") (Or.inl (hw _ (List.mem_of_getElem? (i := 10) rfl))) Via.refl e1 P0 P4 (Or.inr ⟨(hw _ (List.mem_of_getElem? (i := 11) rfl)), rfl, hnm⟩) (hw _ (List.mem_of_getElem? (i := 2) rfl)) (ty := .int) (by decide) rfl rfl (g := (mkF m 6 #[.val (.ref r0), .val (.int i1)] [(.int i1), (.ref r0)])) rfl rfl (hb hby own_d1_6)
  have Fw2 : Fld Z h2 r0 "com/example/upper_falls/upperfalls/CellWords" "width" "I" (.int i1) := P0.same W2
  have cFld_r0_cellMask_2 : Fld Z h2 r0 "com/example/upper_falls/upperfalls/CellWords" "cellMask" "J" (.long (0 : Int64)) := P1.other W2 (Or.inr (slot_ne (Or.inr (hw _ (List.mem_of_getElem? (i := 13) rfl))) (Or.inr (hw _ (List.mem_of_getElem? (i := 11) rfl))) (by decide) (t := .long) (t' := .int) (by decide) (by decide)))
  have cFld_r0_lowBits_2 : Fld Z h2 r0 "com/example/upper_falls/upperfalls/CellWords" "lowBits" "J" (.long (0 : Int64)) := P2.other W2 (Or.inr (slot_ne (Or.inr (hw _ (List.mem_of_getElem? (i := 21) rfl))) (Or.inr (hw _ (List.mem_of_getElem? (i := 11) rfl))) (by decide) (t := .long) (t' := .int) (by decide) (by decide)))
  have cFld_r0_highBits_2 : Fld Z h2 r0 "com/example/upper_falls/upperfalls/CellWords" "highBits" "J" (.long (0 : Int64)) := P3.other W2 (Or.inr (slot_ne (Or.inr (hw _ (List.mem_of_getElem? (i := 23) rfl))) (Or.inr (hw _ (List.mem_of_getElem? (i := 11) rfl))) (by decide) (t := .long) (t' := .int) (by decide) (by decide)))
  have cExa_r0_2 : Exa Z h2 r0 "com/example/upper_falls/upperfalls/CellWords" := P4.wr W2
  have K2 : Keep h0 h2 [r0] := K0.wr W2 (Or.inl (List.mem_of_getElem? (i := 0) rfl))
  have N2 := Fr.snoc X2 N0 P5
  refine ownE.go (T' := T2) (f' := (mkF m 9 #[.val (.ref r0), .val (.int i1)] [])) st2 ?_
  refine ownE.go (T' := T2) (f' := (mkF m 15 #[.val (.ref r0), .val (.int i1)] [(.long (((1 : Int64) <<< (i1 &&& 0x3f).toInt64) - (1 : Int64))), (.ref r0)])) (fun t kt => ?_) ?_
  · show Steps p.tables e below (T2.setTop (mkF m 9 #[.val (.ref r0), .val (.int i1)] [])) _
    refine XS.aloadN X2.here hx rfl (hb hby own_d1_9) rfl rfl ?_
    show Steps p.tables e below (T2.setTop (mkF m 10 #[.val (.ref r0), .val (.int i1)] [(.ref r0)])) _
    refine XS.lconst X2.here hx rfl (hb hby own_d1_10) ?_
    show Steps p.tables e below (T2.setTop (mkF m 11 #[.val (.ref r0), .val (.int i1)] [(.long (1 : Int64)), (.ref r0)])) _
    refine XS.iloadN X2.here hx rfl (hb hby own_d1_11) rfl ?_
    show Steps p.tables e below (T2.setTop (mkF m 12 #[.val (.ref r0), .val (.int i1)] [(.int i1), (.long (1 : Int64)), (.ref r0)])) _
    refine XS.lshl X2.here hx rfl (hb hby own_d1_12) rfl ?_
    show Steps p.tables e below (T2.setTop (mkF m 13 #[.val (.ref r0), .val (.int i1)] [(.long ((1 : Int64) <<< (i1 &&& 0x3f).toInt64)), (.ref r0)])) _
    refine XS.lconst X2.here hx rfl (hb hby own_d1_13) ?_
    show Steps p.tables e below (T2.setTop (mkF m 14 #[.val (.ref r0), .val (.int i1)] [(.long (1 : Int64)), (.long ((1 : Int64) <<< (i1 &&& 0x3f).toInt64)), (.ref r0)])) _
    refine XS.lsub X2.here hx rfl (hb hby own_d1_14) rfl ?_
    exact kt
  obtain ⟨T3, h3, X3, e3, W3, st3⟩ := putF X2 hx hZ hown (host := "") (Or.inl (hw _ (List.mem_of_getElem? (i := 12) rfl))) Via.refl e2 cFld_r0_cellMask_2 cExa_r0_2 (Or.inr ⟨(hw _ (List.mem_of_getElem? (i := 13) rfl)), rfl, hnm⟩) (hw _ (List.mem_of_getElem? (i := 2) rfl)) (ty := .long) (by decide) rfl rfl (g := (mkF m 15 #[.val (.ref r0), .val (.int i1)] [(.long (((1 : Int64) <<< (i1 &&& 0x3f).toInt64) - (1 : Int64))), (.ref r0)])) rfl rfl (hb hby own_d1_15)
  have Fw3 : Fld Z h3 r0 "com/example/upper_falls/upperfalls/CellWords" "cellMask" "J" (.long (((1 : Int64) <<< (i1 &&& 0x3f).toInt64) - (1 : Int64))) := cFld_r0_cellMask_2.same W3
  have cFld_r0_width_3 : Fld Z h3 r0 "com/example/upper_falls/upperfalls/CellWords" "width" "I" (.int i1) := Fw2.other W3 (Or.inr (slot_ne (Or.inr (hw _ (List.mem_of_getElem? (i := 11) rfl))) (Or.inr (hw _ (List.mem_of_getElem? (i := 13) rfl))) (by decide) (t := .int) (t' := .long) (by decide) (by decide)))
  have cFld_r0_lowBits_3 : Fld Z h3 r0 "com/example/upper_falls/upperfalls/CellWords" "lowBits" "J" (.long (0 : Int64)) := cFld_r0_lowBits_2.other W3 (Or.inr (slot_ne (Or.inr (hw _ (List.mem_of_getElem? (i := 21) rfl))) (Or.inr (hw _ (List.mem_of_getElem? (i := 13) rfl))) (by decide) (t := .long) (t' := .long) (by decide) (by decide)))
  have cFld_r0_highBits_3 : Fld Z h3 r0 "com/example/upper_falls/upperfalls/CellWords" "highBits" "J" (.long (0 : Int64)) := cFld_r0_highBits_2.other W3 (Or.inr (slot_ne (Or.inr (hw _ (List.mem_of_getElem? (i := 23) rfl))) (Or.inr (hw _ (List.mem_of_getElem? (i := 13) rfl))) (by decide) (t := .long) (t' := .long) (by decide) (by decide)))
  have cExa_r0_3 : Exa Z h3 r0 "com/example/upper_falls/upperfalls/CellWords" := cExa_r0_2.wr W3
  have K3 : Keep h0 h3 [r0] := K2.wr W3 (Or.inl (List.mem_of_getElem? (i := 0) rfl))
  have N3 := Fr.snoc X3 N2 P5
  refine ownE.go (T' := T3) (f' := (mkF m 18 #[.val (.ref r0), .val (.int i1)] [])) st3 ?_
  refine ownE.go (T' := T3) (f' := (mkF m 23 #[.val (.ref r0), .val (.int i1)] [(.ref r0), (.long (-1 : Int64)), (.ref r0)])) (fun t kt => ?_) ?_
  · show Steps p.tables e below (T3.setTop (mkF m 18 #[.val (.ref r0), .val (.int i1)] [])) _
    refine XS.aloadN X3.here hx rfl (hb hby own_d1_18) rfl rfl ?_
    show Steps p.tables e below (T3.setTop (mkF m 19 #[.val (.ref r0), .val (.int i1)] [(.ref r0)])) _
    refine X3.ldc2Long hx hown (mvT hZ (hw _ (List.mem_of_getElem? (i := 14) rfl))) (g := (mkF m 19 #[.val (.ref r0), .val (.int i1)] [(.ref r0)])) rfl (hb hby own_d1_19) _ ?_
    show Steps p.tables e below (T3.setTop (mkF m 22 #[.val (.ref r0), .val (.int i1)] [(.long (-1 : Int64)), (.ref r0)])) _
    refine XS.aloadN X3.here hx rfl (hb hby own_d1_22) rfl rfl ?_
    exact kt
  obtain ⟨T4, X4, e4, st4⟩ := getF X3 hx hZ hown (host := "") (Or.inl (hw _ (List.mem_of_getElem? (i := 12) rfl))) Via.refl e3 Fw3 (g := (mkF m 23 #[.val (.ref r0), .val (.int i1)] [(.ref r0), (.long (-1 : Int64)), (.ref r0)])) rfl rfl (hb hby own_d1_23)
  refine ownE.go (T' := T4) (f' := (mkF m 26 #[.val (.ref r0), .val (.int i1)] [(.long (((1 : Int64) <<< (i1 &&& 0x3f).toInt64) - (1 : Int64))), (.long (-1 : Int64)), (.ref r0)])) st4 ?_
  obtain ⟨_, _, ⟨T5, L5, k5, n5⟩, -, X5, ⟨Lc5, hQ5, l5, y5, z5⟩, st5⟩ := Jvm.LawKit.callS X4 hx (y := (⟨"java/lang/Long", "divideUnsigned", "(JJ)J"⟩ : MethodName)) hown (mvT hZ (hw _ (List.mem_of_getElem? (i := 15) rfl))) (mvT hZ (hw _ (List.mem_of_getElem? (i := 16) rfl))) (mvT hZ (hw _ (List.mem_of_getElem? (i := 17) rfl))) (mvT hZ (hw _ (List.mem_of_getElem? (i := 18) rfl))) (by decide) (backOf (W := 1) (own_rm3 l Z a0 hw [] (-1 : Int64) (((1 : Int64) <<< (i1 &&& 0x3f).toInt64) - (1 : Int64)) h3 n0 (Nat.le_trans Z0 K3.1) P6) hZ (hw _ (List.mem_of_getElem? (i := 18) rfl)) (hw _ (List.mem_of_getElem? (i := 17) rfl)) (by decide) (by decide)) (g := (mkF m 26 #[.val (.ref r0), .val (.int i1)] [(.long (((1 : Int64) <<< (i1 &&& 0x3f).toInt64) - (1 : Int64))), (.long (-1 : Int64)), (.ref r0)])) rfl (by rw [hml]; rfl) (argsL := [(.long (-1 : Int64)), (.long (((1 : Int64) <<< (i1 &&& 0x3f).toInt64) - (1 : Int64)))]) (rest := [(.ref r0)]) (lenOf own_pd1 rfl) rfl (by show 2 * 0 + _ ≤ _; exact Nat.le_of_eq rfl) (hb hby own_d1_26) (fun _ _ => ⟨rfl, e4, (by decide : 0 + 0 ≤ _), (by decide : 0 + 0 ≤ _)⟩)
  dsimp only [Pt.U, Pt.locs, Pt.cells, Pt.slots] at X5 l5 y5 z5 st5 hQ5
  subst l5 y5 z5
  obtain ⟨rfl, N5q, e5⟩ := hQ5
  have N5 := Fr.app N3 N5q
  refine ownE.go (T' := T5) (f' := (mkF m 29 #[.val (.ref r0), .val (.int i1)] [(.long (own_du (-1 : Int64) (((1 : Int64) <<< (i1 &&& 0x3f).toInt64) - (1 : Int64)))), (.ref r0)])) st5 ?_
  obtain ⟨T6, h6, X6, e6, W6, st6⟩ := putF X5 hx hZ hown (host := "") (Or.inl (hw _ (List.mem_of_getElem? (i := 20) rfl))) Via.refl e5 cFld_r0_lowBits_3 cExa_r0_3 (Or.inr ⟨(hw _ (List.mem_of_getElem? (i := 21) rfl)), rfl, hnm⟩) (hw _ (List.mem_of_getElem? (i := 2) rfl)) (ty := .long) (by decide) rfl rfl (g := (mkF m 29 #[.val (.ref r0), .val (.int i1)] [(.long (own_du (-1 : Int64) (((1 : Int64) <<< (i1 &&& 0x3f).toInt64) - (1 : Int64)))), (.ref r0)])) rfl rfl (hb hby own_d1_29)
  have Fw6 : Fld Z h6 r0 "com/example/upper_falls/upperfalls/CellWords" "lowBits" "J" (.long (own_du (-1 : Int64) (((1 : Int64) <<< (i1 &&& 0x3f).toInt64) - (1 : Int64)))) := cFld_r0_lowBits_3.same W6
  have cFld_r0_width_6 : Fld Z h6 r0 "com/example/upper_falls/upperfalls/CellWords" "width" "I" (.int i1) := cFld_r0_width_3.other W6 (Or.inr (slot_ne (Or.inr (hw _ (List.mem_of_getElem? (i := 11) rfl))) (Or.inr (hw _ (List.mem_of_getElem? (i := 21) rfl))) (by decide) (t := .int) (t' := .long) (by decide) (by decide)))
  have cFld_r0_cellMask_6 : Fld Z h6 r0 "com/example/upper_falls/upperfalls/CellWords" "cellMask" "J" (.long (((1 : Int64) <<< (i1 &&& 0x3f).toInt64) - (1 : Int64))) := Fw3.other W6 (Or.inr (slot_ne (Or.inr (hw _ (List.mem_of_getElem? (i := 13) rfl))) (Or.inr (hw _ (List.mem_of_getElem? (i := 21) rfl))) (by decide) (t := .long) (t' := .long) (by decide) (by decide)))
  have cFld_r0_highBits_6 : Fld Z h6 r0 "com/example/upper_falls/upperfalls/CellWords" "highBits" "J" (.long (0 : Int64)) := cFld_r0_highBits_3.other W6 (Or.inr (slot_ne (Or.inr (hw _ (List.mem_of_getElem? (i := 23) rfl))) (Or.inr (hw _ (List.mem_of_getElem? (i := 21) rfl))) (by decide) (t := .long) (t' := .long) (by decide) (by decide)))
  have cExa_r0_6 : Exa Z h6 r0 "com/example/upper_falls/upperfalls/CellWords" := cExa_r0_3.wr W6
  have K6 : Keep h0 h6 [r0] := K3.wr W6 (Or.inl (List.mem_of_getElem? (i := 0) rfl))
  have N6 := Fr.snoc X6 N5 P5
  refine ownE.go (T' := T6) (f' := (mkF m 32 #[.val (.ref r0), .val (.int i1)] [])) st6 ?_
  refine ownE.go (T' := T6) (f' := (mkF m 34 #[.val (.ref r0), .val (.int i1)] [(.ref r0), (.ref r0)])) (fun t kt => ?_) ?_
  · show Steps p.tables e below (T6.setTop (mkF m 32 #[.val (.ref r0), .val (.int i1)] [])) _
    refine XS.aloadN X6.here hx rfl (hb hby own_d1_32) rfl rfl ?_
    show Steps p.tables e below (T6.setTop (mkF m 33 #[.val (.ref r0), .val (.int i1)] [(.ref r0)])) _
    refine XS.aloadN X6.here hx rfl (hb hby own_d1_33) rfl rfl ?_
    exact kt
  obtain ⟨T7, X7, e7, st7⟩ := getF X6 hx hZ hown (host := "") (Or.inl (hw _ (List.mem_of_getElem? (i := 20) rfl))) Via.refl e6 Fw6 (g := (mkF m 34 #[.val (.ref r0), .val (.int i1)] [(.ref r0), (.ref r0)])) rfl rfl (hb hby own_d1_34)
  refine ownE.go (T' := T7) (f' := (mkF m 37 #[.val (.ref r0), .val (.int i1)] [(.long (own_du (-1 : Int64) (((1 : Int64) <<< (i1 &&& 0x3f).toInt64) - (1 : Int64)))), (.ref r0)])) st7 ?_
  refine ownE.go (T' := T7) (f' := (mkF m 41 #[.val (.ref r0), .val (.int i1)] [(.long ((own_du (-1 : Int64) (((1 : Int64) <<< (i1 &&& 0x3f).toInt64) - (1 : Int64))) <<< ((i1 - (1 : Int32)) &&& 0x3f).toInt64)), (.ref r0)])) (fun t kt => ?_) ?_
  · show Steps p.tables e below (T7.setTop (mkF m 37 #[.val (.ref r0), .val (.int i1)] [(.long (own_du (-1 : Int64) (((1 : Int64) <<< (i1 &&& 0x3f).toInt64) - (1 : Int64)))), (.ref r0)])) _
    refine XS.iloadN X7.here hx rfl (hb hby own_d1_37) rfl ?_
    show Steps p.tables e below (T7.setTop (mkF m 38 #[.val (.ref r0), .val (.int i1)] [(.int i1), (.long (own_du (-1 : Int64) (((1 : Int64) <<< (i1 &&& 0x3f).toInt64) - (1 : Int64)))), (.ref r0)])) _
    refine XS.iconst X7.here hx rfl (hb hby own_d1_38) ?_
    show Steps p.tables e below (T7.setTop (mkF m 39 #[.val (.ref r0), .val (.int i1)] [(.int (1 : Int32)), (.int i1), (.long (own_du (-1 : Int64) (((1 : Int64) <<< (i1 &&& 0x3f).toInt64) - (1 : Int64)))), (.ref r0)])) _
    refine XS.isub X7.here hx rfl (hb hby own_d1_39) rfl ?_
    show Steps p.tables e below (T7.setTop (mkF m 40 #[.val (.ref r0), .val (.int i1)] [(.int (i1 - (1 : Int32))), (.long (own_du (-1 : Int64) (((1 : Int64) <<< (i1 &&& 0x3f).toInt64) - (1 : Int64)))), (.ref r0)])) _
    refine XS.lshl X7.here hx rfl (hb hby own_d1_40) rfl ?_
    exact kt
  obtain ⟨T8, h8, X8, e8, W8, st8⟩ := putF X7 hx hZ hown (host := "") (Or.inl (hw _ (List.mem_of_getElem? (i := 22) rfl))) Via.refl e7 cFld_r0_highBits_6 cExa_r0_6 (Or.inr ⟨(hw _ (List.mem_of_getElem? (i := 23) rfl)), rfl, hnm⟩) (hw _ (List.mem_of_getElem? (i := 2) rfl)) (ty := .long) (by decide) rfl rfl (g := (mkF m 41 #[.val (.ref r0), .val (.int i1)] [(.long ((own_du (-1 : Int64) (((1 : Int64) <<< (i1 &&& 0x3f).toInt64) - (1 : Int64))) <<< ((i1 - (1 : Int32)) &&& 0x3f).toInt64)), (.ref r0)])) rfl rfl (hb hby own_d1_41)
  have Fw8 : Fld Z h8 r0 "com/example/upper_falls/upperfalls/CellWords" "highBits" "J" (.long ((own_du (-1 : Int64) (((1 : Int64) <<< (i1 &&& 0x3f).toInt64) - (1 : Int64))) <<< ((i1 - (1 : Int32)) &&& 0x3f).toInt64)) := cFld_r0_highBits_6.same W8
  have cFld_r0_width_8 : Fld Z h8 r0 "com/example/upper_falls/upperfalls/CellWords" "width" "I" (.int i1) := cFld_r0_width_6.other W8 (Or.inr (slot_ne (Or.inr (hw _ (List.mem_of_getElem? (i := 11) rfl))) (Or.inr (hw _ (List.mem_of_getElem? (i := 23) rfl))) (by decide) (t := .int) (t' := .long) (by decide) (by decide)))
  have cFld_r0_cellMask_8 : Fld Z h8 r0 "com/example/upper_falls/upperfalls/CellWords" "cellMask" "J" (.long (((1 : Int64) <<< (i1 &&& 0x3f).toInt64) - (1 : Int64))) := cFld_r0_cellMask_6.other W8 (Or.inr (slot_ne (Or.inr (hw _ (List.mem_of_getElem? (i := 13) rfl))) (Or.inr (hw _ (List.mem_of_getElem? (i := 23) rfl))) (by decide) (t := .long) (t' := .long) (by decide) (by decide)))
  have cFld_r0_lowBits_8 : Fld Z h8 r0 "com/example/upper_falls/upperfalls/CellWords" "lowBits" "J" (.long (own_du (-1 : Int64) (((1 : Int64) <<< (i1 &&& 0x3f).toInt64) - (1 : Int64)))) := Fw6.other W8 (Or.inr (slot_ne (Or.inr (hw _ (List.mem_of_getElem? (i := 21) rfl))) (Or.inr (hw _ (List.mem_of_getElem? (i := 23) rfl))) (by decide) (t := .long) (t' := .long) (by decide) (by decide)))
  have cExa_r0_8 : Exa Z h8 r0 "com/example/upper_falls/upperfalls/CellWords" := cExa_r0_6.wr W8
  have K8 : Keep h0 h8 [r0] := K6.wr W8 (Or.inl (List.mem_of_getElem? (i := 0) rfl))
  have N8 := Fr.snoc X8 N6 P5
  refine ownE.go (T' := T8) (f' := (mkF m 44 #[.val (.ref r0), .val (.int i1)] [])) st8 ?_
  refine ownE.retV X8 hx hlk hret (hb hby own_d1_44) ?_ (by decide) (by decide)
  show own_Q1 Z r0 i1 h0 n0 _ T8.heap _
  rw [e8]
  exact ⟨rfl, N8, K8, cExa_r0_8, cFld_r0_width_8, cFld_r0_cellMask_8, cFld_r0_lowBits_8, Fw8⟩
theorem own_six (x : Int32) : (x &&& (2147483647 : Int32)) % (6 : Int32) = 0 ∨ (x &&& (2147483647 : Int32)) % (6 : Int32) = 1 ∨ (x &&& (2147483647 : Int32)) % (6 : Int32) = 2 ∨ (x &&& (2147483647 : Int32)) % (6 : Int32) = 3 ∨ (x &&& (2147483647 : Int32)) % (6 : Int32) = 4 ∨ (x &&& (2147483647 : Int32)) % (6 : Int32) = 5 := by
  have h := c_mask x 2147483647 31 (by decide) (by decide)
  have p : ((2 ^ 31 : Nat) : Int) = 2147483648 := by decide
  rw [p] at h
  have q := (c_irem (x &&& 2147483647) 6 6 (by decide)).1 (by omega)
  simp only [← Int32.toInt_inj, q]
  have z0 : (0 : Int32).toInt = 0 := by decide
  have z1 : (1 : Int32).toInt = 1 := by decide
  have z2 : (2 : Int32).toInt = 2 := by decide
  have z3 : (3 : Int32).toInt = 3 := by decide
  have z4 : (4 : Int32).toInt = 4 := by decide
  have z5 : (5 : Int32).toInt = 5 := by decide
  rw [z0, z1, z2, z3, z4, z5]
  omega
theorem own_cmnz (x : Int32) : ¬ (((1 : Int64) <<< (((1 : Int32) <<< (((x &&& (2147483647 : Int32)) % (6 : Int32)) &&& 31)) &&& 0x3f).toInt64) - (1 : Int64)) = (0 : Int64) := by
  rcases own_six x with h | h | h | h | h | h <;> rw [h] <;> decide
def own_v4_42 (j1 : Int64) (j2 : Int64) (wd : Int32) (cm : Int64) (lb : Int64) (hbt : Int64) : Int64 := (((j1 &&& (hbt ^^^ (-1 : Int64))) + (j2 &&& (hbt ^^^ (-1 : Int64)))) ^^^ ((j1 ^^^ j2) &&& hbt))
def own_v4_63 (j1 : Int64) (j2 : Int64) (wd : Int32) (cm : Int64) (lb : Int64) (hbt : Int64) : Int64 := (((j1 &&& j2) ||| ((j1 ||| j2) &&& ((own_v4_42 j1 j2 wd cm lb hbt) ^^^ (-1 : Int64)))) &&& hbt)
theorem own_d4_0 : decode prog_5_method_4_code 0 = .ok (.aload_n 0, 1) := by decide +kernel
theorem own_d4_1 : decode prog_5_method_4_code 1 = .ok (.getfield 7, 3) := by decide +kernel
theorem own_d4_4 : decode prog_5_method_4_code 4 = .ok (.iconst 1, 1) := by decide +kernel
theorem own_d4_5 : decode prog_5_method_4_code 5 = .ok (.if_icmp .ne 7, 3) := by decide +kernel
theorem own_d4_8 : decode prog_5_method_4_code 8 = .ok (.lload_n 1, 1) := by decide +kernel
theorem own_d4_9 : decode prog_5_method_4_code 9 = .ok (.lload_n 3, 1) := by decide +kernel
theorem own_d4_10 : decode prog_5_method_4_code 10 = .ok (.lor, 1) := by decide +kernel
theorem own_d4_11 : decode prog_5_method_4_code 11 = .ok (.lreturn, 1) := by decide +kernel
theorem own_d4_12 : decode prog_5_method_4_code 12 = .ok (.lload_n 1, 1) := by decide +kernel
theorem own_d4_13 : decode prog_5_method_4_code 13 = .ok (.aload_n 0, 1) := by decide +kernel
theorem own_d4_14 : decode prog_5_method_4_code 14 = .ok (.getfield 28, 3) := by decide +kernel
theorem own_d4_17 : decode prog_5_method_4_code 17 = .ok (.ldc2_w 17, 3) := by decide +kernel
theorem own_d4_20 : decode prog_5_method_4_code 20 = .ok (.lxor, 1) := by decide +kernel
theorem own_d4_21 : decode prog_5_method_4_code 21 = .ok (.land, 1) := by decide +kernel
theorem own_d4_22 : decode prog_5_method_4_code 22 = .ok (.lload_n 3, 1) := by decide +kernel
theorem own_d4_23 : decode prog_5_method_4_code 23 = .ok (.aload_n 0, 1) := by decide +kernel
theorem own_d4_24 : decode prog_5_method_4_code 24 = .ok (.getfield 28, 3) := by decide +kernel
theorem own_d4_27 : decode prog_5_method_4_code 27 = .ok (.ldc2_w 17, 3) := by decide +kernel
theorem own_d4_30 : decode prog_5_method_4_code 30 = .ok (.lxor, 1) := by decide +kernel
theorem own_d4_31 : decode prog_5_method_4_code 31 = .ok (.land, 1) := by decide +kernel
theorem own_d4_32 : decode prog_5_method_4_code 32 = .ok (.ladd, 1) := by decide +kernel
theorem own_d4_33 : decode prog_5_method_4_code 33 = .ok (.lload_n 1, 1) := by decide +kernel
theorem own_d4_34 : decode prog_5_method_4_code 34 = .ok (.lload_n 3, 1) := by decide +kernel
theorem own_d4_35 : decode prog_5_method_4_code 35 = .ok (.lxor, 1) := by decide +kernel
theorem own_d4_36 : decode prog_5_method_4_code 36 = .ok (.aload_n 0, 1) := by decide +kernel
theorem own_d4_37 : decode prog_5_method_4_code 37 = .ok (.getfield 28, 3) := by decide +kernel
theorem own_d4_40 : decode prog_5_method_4_code 40 = .ok (.land, 1) := by decide +kernel
theorem own_d4_41 : decode prog_5_method_4_code 41 = .ok (.lxor, 1) := by decide +kernel
theorem own_d4_42 : decode prog_5_method_4_code 42 = .ok (.lstore 5, 2) := by decide +kernel
theorem own_d4_44 : decode prog_5_method_4_code 44 = .ok (.lload_n 1, 1) := by decide +kernel
theorem own_d4_45 : decode prog_5_method_4_code 45 = .ok (.lload_n 3, 1) := by decide +kernel
theorem own_d4_46 : decode prog_5_method_4_code 46 = .ok (.land, 1) := by decide +kernel
theorem own_d4_47 : decode prog_5_method_4_code 47 = .ok (.lload_n 1, 1) := by decide +kernel
theorem own_d4_48 : decode prog_5_method_4_code 48 = .ok (.lload_n 3, 1) := by decide +kernel
theorem own_d4_49 : decode prog_5_method_4_code 49 = .ok (.lor, 1) := by decide +kernel
theorem own_d4_50 : decode prog_5_method_4_code 50 = .ok (.lload 5, 2) := by decide +kernel
theorem own_d4_52 : decode prog_5_method_4_code 52 = .ok (.ldc2_w 17, 3) := by decide +kernel
theorem own_d4_55 : decode prog_5_method_4_code 55 = .ok (.lxor, 1) := by decide +kernel
theorem own_d4_56 : decode prog_5_method_4_code 56 = .ok (.land, 1) := by decide +kernel
theorem own_d4_57 : decode prog_5_method_4_code 57 = .ok (.lor, 1) := by decide +kernel
theorem own_d4_58 : decode prog_5_method_4_code 58 = .ok (.aload_n 0, 1) := by decide +kernel
theorem own_d4_59 : decode prog_5_method_4_code 59 = .ok (.getfield 28, 3) := by decide +kernel
theorem own_d4_62 : decode prog_5_method_4_code 62 = .ok (.land, 1) := by decide +kernel
theorem own_d4_63 : decode prog_5_method_4_code 63 = .ok (.lstore 7, 2) := by decide +kernel
theorem own_d4_65 : decode prog_5_method_4_code 65 = .ok (.lload 5, 2) := by decide +kernel
theorem own_d4_67 : decode prog_5_method_4_code 67 = .ok (.lload 7, 2) := by decide +kernel
theorem own_d4_69 : decode prog_5_method_4_code 69 = .ok (.aload_n 0, 1) := by decide +kernel
theorem own_d4_70 : decode prog_5_method_4_code 70 = .ok (.getfield 7, 3) := by decide +kernel
theorem own_d4_73 : decode prog_5_method_4_code 73 = .ok (.iconst 1, 1) := by decide +kernel
theorem own_d4_74 : decode prog_5_method_4_code 74 = .ok (.isub, 1) := by decide +kernel
theorem own_d4_75 : decode prog_5_method_4_code 75 = .ok (.lushr, 1) := by decide +kernel
theorem own_d4_76 : decode prog_5_method_4_code 76 = .ok (.aload_n 0, 1) := by decide +kernel
theorem own_d4_77 : decode prog_5_method_4_code 77 = .ok (.getfield 13, 3) := by decide +kernel
theorem own_d4_80 : decode prog_5_method_4_code 80 = .ok (.lmul, 1) := by decide +kernel
theorem own_d4_81 : decode prog_5_method_4_code 81 = .ok (.lor, 1) := by decide +kernel
theorem own_d4_82 : decode prog_5_method_4_code 82 = .ok (.lreturn, 1) := by decide +kernel
theorem own_ef4 (m : MethodId) (x0 : Addr) (x1 : Int64) (x2 : Int64) : entryFrame m #[(.ref x0), (.long x1), (.long x2)] 9 = mkF m 0 #[.val (.ref x0), .val (.long x1), .second, .val (.long x2), .second, .unset, .unset, .unset, .unset] [] := by first | (simp [entryFrame, mkF, argsToLocals, Value.category]; done) | rfl
def own_sum (j1 : Int64) (j2 : Int64) (wd : Int32) (cm : Int64) (lb : Int64) (hbt : Int64) : Int64 :=
  if wd = (1 : Int32) then
    (j1 ||| j2)
  else
    ((own_v4_42 j1 j2 wd cm lb hbt) ||| ((((own_v4_63 j1 j2 wd cm lb hbt).toUInt64 >>> ((wd - (1 : Int32)) &&& 0x3f).toInt64.toUInt64).toInt64) * cm))
def own_Q4 (Z : State) (r0 : Addr) (j1 : Int64) (j2 : Int64) (wd : Int32) (cm : Int64) (lb : Int64) (hbt : Int64) (h0 : Heap) (n0 : Nat) (v : Option Value) (h : Heap) (L : List Loc) : Prop := v = some (.long (own_sum j1 j2 wd cm lb hbt)) ∧ Fr n0 L ∧ h = h0
set_option maxRecDepth 65536 in
set_option maxHeartbeats 40000000 in
theorem own_rm4 (l : Launch) (Z : State) (a0 : Array Value) (hw : ∀ d ∈ tables_1, d.before a0 Z = true) (ws : List Jvm.Cond) (r0 : Addr) (j1 : Int64) (j2 : Int64) (wd : Int32) (cm : Int64) (lb : Int64) (hbt : Int64) (h0 : Heap) (n0 : Nat) (Z0 : n0 ≤ h0.size) (P0 : Fld Z h0 r0 "com/example/upper_falls/upperfalls/CellWords" "width" "I" (.int wd)) (P1 : Fld Z h0 r0 "com/example/upper_falls/upperfalls/CellWords" "cellMask" "J" (.long cm)) (P2 : Fld Z h0 r0 "com/example/upper_falls/upperfalls/CellWords" "lowBits" "J" (.long lb)) (P3 : Fld Z h0 r0 "com/example/upper_falls/upperfalls/CellWords" "highBits" "J" (.long hbt)) :
    MetFree l (⟨"com/example/upper_falls/upperfalls/CellWords", "saturatingSum", "(JJ)J"⟩ : MethodName) (head1 (Jvm.Cond.code (⟨"com/example/upper_falls/upperfalls/CellWords", "saturatingSum", "(JJ)J"⟩ : MethodName) prog_5_method_4_code 9 (some .long) :: ws) ({ frames := 0, cells := 0, slots := 0, locals := 0 } : Room)) (fun a U => a = #[(.ref r0), (.long j1), (.long j2)] ∧ Z.Warmed39 U.vm ∧ U.heap = h0) (fun _ _ _ _ _ => True) (fun _ U o U' => ∃ v L, o = .returned v ∧ own_Q4 Z r0 j1 j2 wd cm lb hbt h0 n0 v U'.heap L ∧ FrameEnd U o U' L ({ frames := 0, cells := 0, slots := 0, locals := 0 } : Room).cells ({ frames := 0, cells := 0, slots := 0, locals := 0 } : Room).slots) := by
  refine MetFree.of_bodySF (plainFor_of_name own_pn2) hisR ?_
  intro p e s m args below meth c s₁ Bd hml0 hP hK
  obtain ⟨rfl, hZ, hh⟩ := hP
  have hx := Bd.exec
  have hby := Bd.bytes
  have hret := Bd.returns
  have hlk := BodyLoose.notSynchronized Bd
  have hml : c.maxLocals = 9 := hml0
  have hown : s.vm.findClass "com/example/upper_falls/upperfalls/CellWords" = some m.cls := findClass_of_methodNamed Bd.named
  have hnm := (name_of_methodNamed Bd.named Bd.method).1
  have X0 : Stand p l e ({ frames := 0, cells := 0, slots := 0, locals := 0 } : Room) s m #[(.ref r0), (.long j1), (.long j2)] below meth c s₁ [] 0 0 := Stand.of_body Bd
  have e0 : s₁.heap = h0 := by rw [← hh, Bd.state]; rfl
  have N0 := Fr.nil n0
  have K0 : Keep h0 h0 [] := Keep.refl h0 _
  show ownE p e below s (own_Q4 Z r0 j1 j2 wd cm lb hbt h0 n0) ({ frames := 0, cells := 0, slots := 0, locals := 0 } : Room).cells ({ frames := 0, cells := 0, slots := 0, locals := 0 } : Room).slots s₁ (entryFrame m #[(.ref r0), (.long j1), (.long j2)] 9)
  rw [own_ef4]
  refine ownE.go (T' := s₁) (f' := (mkF m 1 #[.val (.ref r0), .val (.long j1), .second, .val (.long j2), .second, .unset, .unset, .unset, .unset] [(.ref r0)])) (fun t kt => ?_) ?_
  · show Steps p.tables e below (s₁.setTop (mkF m 0 #[.val (.ref r0), .val (.long j1), .second, .val (.long j2), .second, .unset, .unset, .unset, .unset] [])) _
    refine XS.aloadN X0.here hx rfl (hb hby own_d4_0) rfl rfl ?_
    exact kt
  obtain ⟨T1, X1, e1, st1⟩ := getF X0 hx hZ hown (host := "") (Or.inl (hw _ (List.mem_of_getElem? (i := 10) rfl))) Via.refl e0 P0 (g := (mkF m 1 #[.val (.ref r0), .val (.long j1), .second, .val (.long j2), .second, .unset, .unset, .unset, .unset] [(.ref r0)])) rfl rfl (hb hby own_d4_1)
  refine ownE.go (T' := T1) (f' := (mkF m 4 #[.val (.ref r0), .val (.long j1), .second, .val (.long j2), .second, .unset, .unset, .unset, .unset] [(.int wd)])) st1 ?_
  refine ownE.go (T' := T1) (f' := (mkF m 5 #[.val (.ref r0), .val (.long j1), .second, .val (.long j2), .second, .unset, .unset, .unset, .unset] [(.int (1 : Int32)), (.int wd)])) (fun t kt => ?_) ?_
  · show Steps p.tables e below (T1.setTop (mkF m 4 #[.val (.ref r0), .val (.long j1), .second, .val (.long j2), .second, .unset, .unset, .unset, .unset] [(.int wd)])) _
    refine XS.iconst X1.here hx rfl (hb hby own_d4_4) ?_
    exact kt
  by_cases hc2 : wd = (1 : Int32)
  · -- pc 5
    refine ownE.go (T' := T1) (f' := (mkF m 8 #[.val (.ref r0), .val (.long j1), .second, .val (.long j2), .second, .unset, .unset, .unset, .unset] [])) (fun t kt => XS.icmpNo (g := (mkF m 5 #[.val (.ref r0), .val (.long j1), .second, .val (.long j2), .second, .unset, .unset, .unset, .unset] [(.int (1 : Int32)), (.int wd)])) X1.here hx rfl (hb hby own_d4_5) rfl (Jvm.Free.XT.ii_ne_f hc2) kt) ?_
    refine ownE.go (T' := T1) (f' := (mkF m 11 #[.val (.ref r0), .val (.long j1), .second, .val (.long j2), .second, .unset, .unset, .unset, .unset] [(.long (j1 ||| j2))])) (fun t kt => ?_) ?_
    · show Steps p.tables e below (T1.setTop (mkF m 8 #[.val (.ref r0), .val (.long j1), .second, .val (.long j2), .second, .unset, .unset, .unset, .unset] [])) _
      refine XS.lloadN X1.here hx rfl (hb hby own_d4_8) rfl ?_
      show Steps p.tables e below (T1.setTop (mkF m 9 #[.val (.ref r0), .val (.long j1), .second, .val (.long j2), .second, .unset, .unset, .unset, .unset] [(.long j1)])) _
      refine XS.lloadN X1.here hx rfl (hb hby own_d4_9) rfl ?_
      show Steps p.tables e below (T1.setTop (mkF m 10 #[.val (.ref r0), .val (.long j1), .second, .val (.long j2), .second, .unset, .unset, .unset, .unset] [(.long j2), (.long j1)])) _
      refine XS.lor X1.here hx rfl (hb hby own_d4_10) rfl ?_
      exact kt
    refine ownE.retL X1 hx hlk hret (hb hby own_d4_11) ?_ (by decide) (by decide)
    show own_Q4 Z r0 j1 j2 wd cm lb hbt h0 n0 _ T1.heap _
    rw [e1]
    exact ⟨(by rw [own_sum, if_pos hc2] <;> first | rfl | decide), N0, rfl⟩
  · -- pc 5
    refine ownE.go (T' := T1) (f' := (mkF m 12 #[.val (.ref r0), .val (.long j1), .second, .val (.long j2), .second, .unset, .unset, .unset, .unset] [])) (fun t kt => XS.icmpYes (g := (mkF m 5 #[.val (.ref r0), .val (.long j1), .second, .val (.long j2), .second, .unset, .unset, .unset, .unset] [(.int (1 : Int32)), (.int wd)])) X1.here hx rfl (pc0 := 5) (pc' := 12) rfl (hb hby own_d4_5) rfl (Jvm.Free.XT.ii_ne_t hc2) (by decide) (by decide) kt) ?_
    refine ownE.go (T' := T1) (f' := (mkF m 14 #[.val (.ref r0), .val (.long j1), .second, .val (.long j2), .second, .unset, .unset, .unset, .unset] [(.ref r0), (.long j1)])) (fun t kt => ?_) ?_
    · show Steps p.tables e below (T1.setTop (mkF m 12 #[.val (.ref r0), .val (.long j1), .second, .val (.long j2), .second, .unset, .unset, .unset, .unset] [])) _
      refine XS.lloadN X1.here hx rfl (hb hby own_d4_12) rfl ?_
      show Steps p.tables e below (T1.setTop (mkF m 13 #[.val (.ref r0), .val (.long j1), .second, .val (.long j2), .second, .unset, .unset, .unset, .unset] [(.long j1)])) _
      refine XS.aloadN X1.here hx rfl (hb hby own_d4_13) rfl rfl ?_
      exact kt
    obtain ⟨T3, X3, e3, st3⟩ := getF X1 hx hZ hown (host := "") (Or.inl (hw _ (List.mem_of_getElem? (i := 22) rfl))) Via.refl e1 P3 (g := (mkF m 14 #[.val (.ref r0), .val (.long j1), .second, .val (.long j2), .second, .unset, .unset, .unset, .unset] [(.ref r0), (.long j1)])) rfl rfl (hb hby own_d4_14)
    refine ownE.go (T' := T3) (f' := (mkF m 17 #[.val (.ref r0), .val (.long j1), .second, .val (.long j2), .second, .unset, .unset, .unset, .unset] [(.long hbt), (.long j1)])) st3 ?_
    refine ownE.go (T' := T3) (f' := (mkF m 24 #[.val (.ref r0), .val (.long j1), .second, .val (.long j2), .second, .unset, .unset, .unset, .unset] [(.ref r0), (.long j2), (.long (j1 &&& (hbt ^^^ (-1 : Int64))))])) (fun t kt => ?_) ?_
    · show Steps p.tables e below (T3.setTop (mkF m 17 #[.val (.ref r0), .val (.long j1), .second, .val (.long j2), .second, .unset, .unset, .unset, .unset] [(.long hbt), (.long j1)])) _
      refine X3.ldc2Long hx hown (mvT hZ (hw _ (List.mem_of_getElem? (i := 14) rfl))) (g := (mkF m 17 #[.val (.ref r0), .val (.long j1), .second, .val (.long j2), .second, .unset, .unset, .unset, .unset] [(.long hbt), (.long j1)])) rfl (hb hby own_d4_17) _ ?_
      show Steps p.tables e below (T3.setTop (mkF m 20 #[.val (.ref r0), .val (.long j1), .second, .val (.long j2), .second, .unset, .unset, .unset, .unset] [(.long (-1 : Int64)), (.long hbt), (.long j1)])) _
      refine XS.lxor X3.here hx rfl (hb hby own_d4_20) rfl ?_
      show Steps p.tables e below (T3.setTop (mkF m 21 #[.val (.ref r0), .val (.long j1), .second, .val (.long j2), .second, .unset, .unset, .unset, .unset] [(.long (hbt ^^^ (-1 : Int64))), (.long j1)])) _
      refine XS.land X3.here hx rfl (hb hby own_d4_21) rfl ?_
      show Steps p.tables e below (T3.setTop (mkF m 22 #[.val (.ref r0), .val (.long j1), .second, .val (.long j2), .second, .unset, .unset, .unset, .unset] [(.long (j1 &&& (hbt ^^^ (-1 : Int64))))])) _
      refine XS.lloadN X3.here hx rfl (hb hby own_d4_22) rfl ?_
      show Steps p.tables e below (T3.setTop (mkF m 23 #[.val (.ref r0), .val (.long j1), .second, .val (.long j2), .second, .unset, .unset, .unset, .unset] [(.long j2), (.long (j1 &&& (hbt ^^^ (-1 : Int64))))])) _
      refine XS.aloadN X3.here hx rfl (hb hby own_d4_23) rfl rfl ?_
      exact kt
    obtain ⟨T4, X4, e4, st4⟩ := getF X3 hx hZ hown (host := "") (Or.inl (hw _ (List.mem_of_getElem? (i := 22) rfl))) Via.refl e3 P3 (g := (mkF m 24 #[.val (.ref r0), .val (.long j1), .second, .val (.long j2), .second, .unset, .unset, .unset, .unset] [(.ref r0), (.long j2), (.long (j1 &&& (hbt ^^^ (-1 : Int64))))])) rfl rfl (hb hby own_d4_24)
    refine ownE.go (T' := T4) (f' := (mkF m 27 #[.val (.ref r0), .val (.long j1), .second, .val (.long j2), .second, .unset, .unset, .unset, .unset] [(.long hbt), (.long j2), (.long (j1 &&& (hbt ^^^ (-1 : Int64))))])) st4 ?_
    refine ownE.go (T' := T4) (f' := (mkF m 37 #[.val (.ref r0), .val (.long j1), .second, .val (.long j2), .second, .unset, .unset, .unset, .unset] [(.ref r0), (.long (j1 ^^^ j2)), (.long ((j1 &&& (hbt ^^^ (-1 : Int64))) + (j2 &&& (hbt ^^^ (-1 : Int64)))))])) (fun t kt => ?_) ?_
    · show Steps p.tables e below (T4.setTop (mkF m 27 #[.val (.ref r0), .val (.long j1), .second, .val (.long j2), .second, .unset, .unset, .unset, .unset] [(.long hbt), (.long j2), (.long (j1 &&& (hbt ^^^ (-1 : Int64))))])) _
      refine X4.ldc2Long hx hown (mvT hZ (hw _ (List.mem_of_getElem? (i := 14) rfl))) (g := (mkF m 27 #[.val (.ref r0), .val (.long j1), .second, .val (.long j2), .second, .unset, .unset, .unset, .unset] [(.long hbt), (.long j2), (.long (j1 &&& (hbt ^^^ (-1 : Int64))))])) rfl (hb hby own_d4_27) _ ?_
      show Steps p.tables e below (T4.setTop (mkF m 30 #[.val (.ref r0), .val (.long j1), .second, .val (.long j2), .second, .unset, .unset, .unset, .unset] [(.long (-1 : Int64)), (.long hbt), (.long j2), (.long (j1 &&& (hbt ^^^ (-1 : Int64))))])) _
      refine XS.lxor X4.here hx rfl (hb hby own_d4_30) rfl ?_
      show Steps p.tables e below (T4.setTop (mkF m 31 #[.val (.ref r0), .val (.long j1), .second, .val (.long j2), .second, .unset, .unset, .unset, .unset] [(.long (hbt ^^^ (-1 : Int64))), (.long j2), (.long (j1 &&& (hbt ^^^ (-1 : Int64))))])) _
      refine XS.land X4.here hx rfl (hb hby own_d4_31) rfl ?_
      show Steps p.tables e below (T4.setTop (mkF m 32 #[.val (.ref r0), .val (.long j1), .second, .val (.long j2), .second, .unset, .unset, .unset, .unset] [(.long (j2 &&& (hbt ^^^ (-1 : Int64)))), (.long (j1 &&& (hbt ^^^ (-1 : Int64))))])) _
      refine XS.ladd X4.here hx rfl (hb hby own_d4_32) rfl ?_
      show Steps p.tables e below (T4.setTop (mkF m 33 #[.val (.ref r0), .val (.long j1), .second, .val (.long j2), .second, .unset, .unset, .unset, .unset] [(.long ((j1 &&& (hbt ^^^ (-1 : Int64))) + (j2 &&& (hbt ^^^ (-1 : Int64)))))])) _
      refine XS.lloadN X4.here hx rfl (hb hby own_d4_33) rfl ?_
      show Steps p.tables e below (T4.setTop (mkF m 34 #[.val (.ref r0), .val (.long j1), .second, .val (.long j2), .second, .unset, .unset, .unset, .unset] [(.long j1), (.long ((j1 &&& (hbt ^^^ (-1 : Int64))) + (j2 &&& (hbt ^^^ (-1 : Int64)))))])) _
      refine XS.lloadN X4.here hx rfl (hb hby own_d4_34) rfl ?_
      show Steps p.tables e below (T4.setTop (mkF m 35 #[.val (.ref r0), .val (.long j1), .second, .val (.long j2), .second, .unset, .unset, .unset, .unset] [(.long j2), (.long j1), (.long ((j1 &&& (hbt ^^^ (-1 : Int64))) + (j2 &&& (hbt ^^^ (-1 : Int64)))))])) _
      refine XS.lxor X4.here hx rfl (hb hby own_d4_35) rfl ?_
      show Steps p.tables e below (T4.setTop (mkF m 36 #[.val (.ref r0), .val (.long j1), .second, .val (.long j2), .second, .unset, .unset, .unset, .unset] [(.long (j1 ^^^ j2)), (.long ((j1 &&& (hbt ^^^ (-1 : Int64))) + (j2 &&& (hbt ^^^ (-1 : Int64)))))])) _
      refine XS.aloadN X4.here hx rfl (hb hby own_d4_36) rfl rfl ?_
      exact kt
    obtain ⟨T5, X5, e5, st5⟩ := getF X4 hx hZ hown (host := "") (Or.inl (hw _ (List.mem_of_getElem? (i := 22) rfl))) Via.refl e4 P3 (g := (mkF m 37 #[.val (.ref r0), .val (.long j1), .second, .val (.long j2), .second, .unset, .unset, .unset, .unset] [(.ref r0), (.long (j1 ^^^ j2)), (.long ((j1 &&& (hbt ^^^ (-1 : Int64))) + (j2 &&& (hbt ^^^ (-1 : Int64)))))])) rfl rfl (hb hby own_d4_37)
    refine ownE.go (T' := T5) (f' := (mkF m 40 #[.val (.ref r0), .val (.long j1), .second, .val (.long j2), .second, .unset, .unset, .unset, .unset] [(.long hbt), (.long (j1 ^^^ j2)), (.long ((j1 &&& (hbt ^^^ (-1 : Int64))) + (j2 &&& (hbt ^^^ (-1 : Int64)))))])) st5 ?_
    refine ownE.go (T' := T5) (f' := (mkF m 59 #[.val (.ref r0), .val (.long j1), .second, .val (.long j2), .second, .val (.long (own_v4_42 j1 j2 wd cm lb hbt)), .second, .unset, .unset] [(.ref r0), (.long ((j1 &&& j2) ||| ((j1 ||| j2) &&& ((own_v4_42 j1 j2 wd cm lb hbt) ^^^ (-1 : Int64)))))])) (fun t kt => ?_) ?_
    · show Steps p.tables e below (T5.setTop (mkF m 40 #[.val (.ref r0), .val (.long j1), .second, .val (.long j2), .second, .unset, .unset, .unset, .unset] [(.long hbt), (.long (j1 ^^^ j2)), (.long ((j1 &&& (hbt ^^^ (-1 : Int64))) + (j2 &&& (hbt ^^^ (-1 : Int64)))))])) _
      refine XS.land X5.here hx rfl (hb hby own_d4_40) rfl ?_
      show Steps p.tables e below (T5.setTop (mkF m 41 #[.val (.ref r0), .val (.long j1), .second, .val (.long j2), .second, .unset, .unset, .unset, .unset] [(.long ((j1 ^^^ j2) &&& hbt)), (.long ((j1 &&& (hbt ^^^ (-1 : Int64))) + (j2 &&& (hbt ^^^ (-1 : Int64)))))])) _
      refine XS.lxor X5.here hx rfl (hb hby own_d4_41) rfl ?_
      show Steps p.tables e below (T5.setTop (mkF m 42 #[.val (.ref r0), .val (.long j1), .second, .val (.long j2), .second, .unset, .unset, .unset, .unset] [(.long (((j1 &&& (hbt ^^^ (-1 : Int64))) + (j2 &&& (hbt ^^^ (-1 : Int64)))) ^^^ ((j1 ^^^ j2) &&& hbt)))])) _
      refine XS.lstore X5.here hx rfl (hb hby own_d4_42) rfl (l' := #[.val (.ref r0), .val (.long j1), .second, .val (.long j2), .second, .val (.long (own_v4_42 j1 j2 wd cm lb hbt)), .second, .unset, .unset]) rfl ?_
      show Steps p.tables e below (T5.setTop (mkF m 44 #[.val (.ref r0), .val (.long j1), .second, .val (.long j2), .second, .val (.long (own_v4_42 j1 j2 wd cm lb hbt)), .second, .unset, .unset] [])) _
      refine XS.lloadN X5.here hx rfl (hb hby own_d4_44) rfl ?_
      show Steps p.tables e below (T5.setTop (mkF m 45 #[.val (.ref r0), .val (.long j1), .second, .val (.long j2), .second, .val (.long (own_v4_42 j1 j2 wd cm lb hbt)), .second, .unset, .unset] [(.long j1)])) _
      refine XS.lloadN X5.here hx rfl (hb hby own_d4_45) rfl ?_
      show Steps p.tables e below (T5.setTop (mkF m 46 #[.val (.ref r0), .val (.long j1), .second, .val (.long j2), .second, .val (.long (own_v4_42 j1 j2 wd cm lb hbt)), .second, .unset, .unset] [(.long j2), (.long j1)])) _
      refine XS.land X5.here hx rfl (hb hby own_d4_46) rfl ?_
      show Steps p.tables e below (T5.setTop (mkF m 47 #[.val (.ref r0), .val (.long j1), .second, .val (.long j2), .second, .val (.long (own_v4_42 j1 j2 wd cm lb hbt)), .second, .unset, .unset] [(.long (j1 &&& j2))])) _
      refine XS.lloadN X5.here hx rfl (hb hby own_d4_47) rfl ?_
      show Steps p.tables e below (T5.setTop (mkF m 48 #[.val (.ref r0), .val (.long j1), .second, .val (.long j2), .second, .val (.long (own_v4_42 j1 j2 wd cm lb hbt)), .second, .unset, .unset] [(.long j1), (.long (j1 &&& j2))])) _
      refine XS.lloadN X5.here hx rfl (hb hby own_d4_48) rfl ?_
      show Steps p.tables e below (T5.setTop (mkF m 49 #[.val (.ref r0), .val (.long j1), .second, .val (.long j2), .second, .val (.long (own_v4_42 j1 j2 wd cm lb hbt)), .second, .unset, .unset] [(.long j2), (.long j1), (.long (j1 &&& j2))])) _
      refine XS.lor X5.here hx rfl (hb hby own_d4_49) rfl ?_
      show Steps p.tables e below (T5.setTop (mkF m 50 #[.val (.ref r0), .val (.long j1), .second, .val (.long j2), .second, .val (.long (own_v4_42 j1 j2 wd cm lb hbt)), .second, .unset, .unset] [(.long (j1 ||| j2)), (.long (j1 &&& j2))])) _
      refine XS.lload X5.here hx rfl (hb hby own_d4_50) rfl ?_
      show Steps p.tables e below (T5.setTop (mkF m 52 #[.val (.ref r0), .val (.long j1), .second, .val (.long j2), .second, .val (.long (own_v4_42 j1 j2 wd cm lb hbt)), .second, .unset, .unset] [(.long (own_v4_42 j1 j2 wd cm lb hbt)), (.long (j1 ||| j2)), (.long (j1 &&& j2))])) _
      refine X5.ldc2Long hx hown (mvT hZ (hw _ (List.mem_of_getElem? (i := 14) rfl))) (g := (mkF m 52 #[.val (.ref r0), .val (.long j1), .second, .val (.long j2), .second, .val (.long (own_v4_42 j1 j2 wd cm lb hbt)), .second, .unset, .unset] [(.long (own_v4_42 j1 j2 wd cm lb hbt)), (.long (j1 ||| j2)), (.long (j1 &&& j2))])) rfl (hb hby own_d4_52) _ ?_
      show Steps p.tables e below (T5.setTop (mkF m 55 #[.val (.ref r0), .val (.long j1), .second, .val (.long j2), .second, .val (.long (own_v4_42 j1 j2 wd cm lb hbt)), .second, .unset, .unset] [(.long (-1 : Int64)), (.long (own_v4_42 j1 j2 wd cm lb hbt)), (.long (j1 ||| j2)), (.long (j1 &&& j2))])) _
      refine XS.lxor X5.here hx rfl (hb hby own_d4_55) rfl ?_
      show Steps p.tables e below (T5.setTop (mkF m 56 #[.val (.ref r0), .val (.long j1), .second, .val (.long j2), .second, .val (.long (own_v4_42 j1 j2 wd cm lb hbt)), .second, .unset, .unset] [(.long ((own_v4_42 j1 j2 wd cm lb hbt) ^^^ (-1 : Int64))), (.long (j1 ||| j2)), (.long (j1 &&& j2))])) _
      refine XS.land X5.here hx rfl (hb hby own_d4_56) rfl ?_
      show Steps p.tables e below (T5.setTop (mkF m 57 #[.val (.ref r0), .val (.long j1), .second, .val (.long j2), .second, .val (.long (own_v4_42 j1 j2 wd cm lb hbt)), .second, .unset, .unset] [(.long ((j1 ||| j2) &&& ((own_v4_42 j1 j2 wd cm lb hbt) ^^^ (-1 : Int64)))), (.long (j1 &&& j2))])) _
      refine XS.lor X5.here hx rfl (hb hby own_d4_57) rfl ?_
      show Steps p.tables e below (T5.setTop (mkF m 58 #[.val (.ref r0), .val (.long j1), .second, .val (.long j2), .second, .val (.long (own_v4_42 j1 j2 wd cm lb hbt)), .second, .unset, .unset] [(.long ((j1 &&& j2) ||| ((j1 ||| j2) &&& ((own_v4_42 j1 j2 wd cm lb hbt) ^^^ (-1 : Int64)))))])) _
      refine XS.aloadN X5.here hx rfl (hb hby own_d4_58) rfl rfl ?_
      exact kt
    obtain ⟨T6, X6, e6, st6⟩ := getF X5 hx hZ hown (host := "") (Or.inl (hw _ (List.mem_of_getElem? (i := 22) rfl))) Via.refl e5 P3 (g := (mkF m 59 #[.val (.ref r0), .val (.long j1), .second, .val (.long j2), .second, .val (.long (own_v4_42 j1 j2 wd cm lb hbt)), .second, .unset, .unset] [(.ref r0), (.long ((j1 &&& j2) ||| ((j1 ||| j2) &&& ((own_v4_42 j1 j2 wd cm lb hbt) ^^^ (-1 : Int64)))))])) rfl rfl (hb hby own_d4_59)
    refine ownE.go (T' := T6) (f' := (mkF m 62 #[.val (.ref r0), .val (.long j1), .second, .val (.long j2), .second, .val (.long (own_v4_42 j1 j2 wd cm lb hbt)), .second, .unset, .unset] [(.long hbt), (.long ((j1 &&& j2) ||| ((j1 ||| j2) &&& ((own_v4_42 j1 j2 wd cm lb hbt) ^^^ (-1 : Int64)))))])) st6 ?_
    refine ownE.go (T' := T6) (f' := (mkF m 70 #[.val (.ref r0), .val (.long j1), .second, .val (.long j2), .second, .val (.long (own_v4_42 j1 j2 wd cm lb hbt)), .second, .val (.long (own_v4_63 j1 j2 wd cm lb hbt)), .second] [(.ref r0), (.long (own_v4_63 j1 j2 wd cm lb hbt)), (.long (own_v4_42 j1 j2 wd cm lb hbt))])) (fun t kt => ?_) ?_
    · show Steps p.tables e below (T6.setTop (mkF m 62 #[.val (.ref r0), .val (.long j1), .second, .val (.long j2), .second, .val (.long (own_v4_42 j1 j2 wd cm lb hbt)), .second, .unset, .unset] [(.long hbt), (.long ((j1 &&& j2) ||| ((j1 ||| j2) &&& ((own_v4_42 j1 j2 wd cm lb hbt) ^^^ (-1 : Int64)))))])) _
      refine XS.land X6.here hx rfl (hb hby own_d4_62) rfl ?_
      show Steps p.tables e below (T6.setTop (mkF m 63 #[.val (.ref r0), .val (.long j1), .second, .val (.long j2), .second, .val (.long (own_v4_42 j1 j2 wd cm lb hbt)), .second, .unset, .unset] [(.long (((j1 &&& j2) ||| ((j1 ||| j2) &&& ((own_v4_42 j1 j2 wd cm lb hbt) ^^^ (-1 : Int64)))) &&& hbt))])) _
      refine XS.lstore X6.here hx rfl (hb hby own_d4_63) rfl (l' := #[.val (.ref r0), .val (.long j1), .second, .val (.long j2), .second, .val (.long (own_v4_42 j1 j2 wd cm lb hbt)), .second, .val (.long (own_v4_63 j1 j2 wd cm lb hbt)), .second]) rfl ?_
      show Steps p.tables e below (T6.setTop (mkF m 65 #[.val (.ref r0), .val (.long j1), .second, .val (.long j2), .second, .val (.long (own_v4_42 j1 j2 wd cm lb hbt)), .second, .val (.long (own_v4_63 j1 j2 wd cm lb hbt)), .second] [])) _
      refine XS.lload X6.here hx rfl (hb hby own_d4_65) rfl ?_
      show Steps p.tables e below (T6.setTop (mkF m 67 #[.val (.ref r0), .val (.long j1), .second, .val (.long j2), .second, .val (.long (own_v4_42 j1 j2 wd cm lb hbt)), .second, .val (.long (own_v4_63 j1 j2 wd cm lb hbt)), .second] [(.long (own_v4_42 j1 j2 wd cm lb hbt))])) _
      refine XS.lload X6.here hx rfl (hb hby own_d4_67) rfl ?_
      show Steps p.tables e below (T6.setTop (mkF m 69 #[.val (.ref r0), .val (.long j1), .second, .val (.long j2), .second, .val (.long (own_v4_42 j1 j2 wd cm lb hbt)), .second, .val (.long (own_v4_63 j1 j2 wd cm lb hbt)), .second] [(.long (own_v4_63 j1 j2 wd cm lb hbt)), (.long (own_v4_42 j1 j2 wd cm lb hbt))])) _
      refine XS.aloadN X6.here hx rfl (hb hby own_d4_69) rfl rfl ?_
      exact kt
    obtain ⟨T7, X7, e7, st7⟩ := getF X6 hx hZ hown (host := "") (Or.inl (hw _ (List.mem_of_getElem? (i := 10) rfl))) Via.refl e6 P0 (g := (mkF m 70 #[.val (.ref r0), .val (.long j1), .second, .val (.long j2), .second, .val (.long (own_v4_42 j1 j2 wd cm lb hbt)), .second, .val (.long (own_v4_63 j1 j2 wd cm lb hbt)), .second] [(.ref r0), (.long (own_v4_63 j1 j2 wd cm lb hbt)), (.long (own_v4_42 j1 j2 wd cm lb hbt))])) rfl rfl (hb hby own_d4_70)
    refine ownE.go (T' := T7) (f' := (mkF m 73 #[.val (.ref r0), .val (.long j1), .second, .val (.long j2), .second, .val (.long (own_v4_42 j1 j2 wd cm lb hbt)), .second, .val (.long (own_v4_63 j1 j2 wd cm lb hbt)), .second] [(.int wd), (.long (own_v4_63 j1 j2 wd cm lb hbt)), (.long (own_v4_42 j1 j2 wd cm lb hbt))])) st7 ?_
    refine ownE.go (T' := T7) (f' := (mkF m 77 #[.val (.ref r0), .val (.long j1), .second, .val (.long j2), .second, .val (.long (own_v4_42 j1 j2 wd cm lb hbt)), .second, .val (.long (own_v4_63 j1 j2 wd cm lb hbt)), .second] [(.ref r0), (.long (((own_v4_63 j1 j2 wd cm lb hbt).toUInt64 >>> ((wd - (1 : Int32)) &&& 0x3f).toInt64.toUInt64).toInt64)), (.long (own_v4_42 j1 j2 wd cm lb hbt))])) (fun t kt => ?_) ?_
    · show Steps p.tables e below (T7.setTop (mkF m 73 #[.val (.ref r0), .val (.long j1), .second, .val (.long j2), .second, .val (.long (own_v4_42 j1 j2 wd cm lb hbt)), .second, .val (.long (own_v4_63 j1 j2 wd cm lb hbt)), .second] [(.int wd), (.long (own_v4_63 j1 j2 wd cm lb hbt)), (.long (own_v4_42 j1 j2 wd cm lb hbt))])) _
      refine XS.iconst X7.here hx rfl (hb hby own_d4_73) ?_
      show Steps p.tables e below (T7.setTop (mkF m 74 #[.val (.ref r0), .val (.long j1), .second, .val (.long j2), .second, .val (.long (own_v4_42 j1 j2 wd cm lb hbt)), .second, .val (.long (own_v4_63 j1 j2 wd cm lb hbt)), .second] [(.int (1 : Int32)), (.int wd), (.long (own_v4_63 j1 j2 wd cm lb hbt)), (.long (own_v4_42 j1 j2 wd cm lb hbt))])) _
      refine XS.isub X7.here hx rfl (hb hby own_d4_74) rfl ?_
      show Steps p.tables e below (T7.setTop (mkF m 75 #[.val (.ref r0), .val (.long j1), .second, .val (.long j2), .second, .val (.long (own_v4_42 j1 j2 wd cm lb hbt)), .second, .val (.long (own_v4_63 j1 j2 wd cm lb hbt)), .second] [(.int (wd - (1 : Int32))), (.long (own_v4_63 j1 j2 wd cm lb hbt)), (.long (own_v4_42 j1 j2 wd cm lb hbt))])) _
      refine XS.lushr X7.here hx rfl (hb hby own_d4_75) rfl ?_
      show Steps p.tables e below (T7.setTop (mkF m 76 #[.val (.ref r0), .val (.long j1), .second, .val (.long j2), .second, .val (.long (own_v4_42 j1 j2 wd cm lb hbt)), .second, .val (.long (own_v4_63 j1 j2 wd cm lb hbt)), .second] [(.long (((own_v4_63 j1 j2 wd cm lb hbt).toUInt64 >>> ((wd - (1 : Int32)) &&& 0x3f).toInt64.toUInt64).toInt64)), (.long (own_v4_42 j1 j2 wd cm lb hbt))])) _
      refine XS.aloadN X7.here hx rfl (hb hby own_d4_76) rfl rfl ?_
      exact kt
    obtain ⟨T8, X8, e8, st8⟩ := getF X7 hx hZ hown (host := "") (Or.inl (hw _ (List.mem_of_getElem? (i := 12) rfl))) Via.refl e7 P1 (g := (mkF m 77 #[.val (.ref r0), .val (.long j1), .second, .val (.long j2), .second, .val (.long (own_v4_42 j1 j2 wd cm lb hbt)), .second, .val (.long (own_v4_63 j1 j2 wd cm lb hbt)), .second] [(.ref r0), (.long (((own_v4_63 j1 j2 wd cm lb hbt).toUInt64 >>> ((wd - (1 : Int32)) &&& 0x3f).toInt64.toUInt64).toInt64)), (.long (own_v4_42 j1 j2 wd cm lb hbt))])) rfl rfl (hb hby own_d4_77)
    refine ownE.go (T' := T8) (f' := (mkF m 80 #[.val (.ref r0), .val (.long j1), .second, .val (.long j2), .second, .val (.long (own_v4_42 j1 j2 wd cm lb hbt)), .second, .val (.long (own_v4_63 j1 j2 wd cm lb hbt)), .second] [(.long cm), (.long (((own_v4_63 j1 j2 wd cm lb hbt).toUInt64 >>> ((wd - (1 : Int32)) &&& 0x3f).toInt64.toUInt64).toInt64)), (.long (own_v4_42 j1 j2 wd cm lb hbt))])) st8 ?_
    refine ownE.go (T' := T8) (f' := (mkF m 82 #[.val (.ref r0), .val (.long j1), .second, .val (.long j2), .second, .val (.long (own_v4_42 j1 j2 wd cm lb hbt)), .second, .val (.long (own_v4_63 j1 j2 wd cm lb hbt)), .second] [(.long ((own_v4_42 j1 j2 wd cm lb hbt) ||| ((((own_v4_63 j1 j2 wd cm lb hbt).toUInt64 >>> ((wd - (1 : Int32)) &&& 0x3f).toInt64.toUInt64).toInt64) * cm)))])) (fun t kt => ?_) ?_
    · show Steps p.tables e below (T8.setTop (mkF m 80 #[.val (.ref r0), .val (.long j1), .second, .val (.long j2), .second, .val (.long (own_v4_42 j1 j2 wd cm lb hbt)), .second, .val (.long (own_v4_63 j1 j2 wd cm lb hbt)), .second] [(.long cm), (.long (((own_v4_63 j1 j2 wd cm lb hbt).toUInt64 >>> ((wd - (1 : Int32)) &&& 0x3f).toInt64.toUInt64).toInt64)), (.long (own_v4_42 j1 j2 wd cm lb hbt))])) _
      refine XS.lmul X8.here hx rfl (hb hby own_d4_80) rfl ?_
      show Steps p.tables e below (T8.setTop (mkF m 81 #[.val (.ref r0), .val (.long j1), .second, .val (.long j2), .second, .val (.long (own_v4_42 j1 j2 wd cm lb hbt)), .second, .val (.long (own_v4_63 j1 j2 wd cm lb hbt)), .second] [(.long ((((own_v4_63 j1 j2 wd cm lb hbt).toUInt64 >>> ((wd - (1 : Int32)) &&& 0x3f).toInt64.toUInt64).toInt64) * cm)), (.long (own_v4_42 j1 j2 wd cm lb hbt))])) _
      refine XS.lor X8.here hx rfl (hb hby own_d4_81) rfl ?_
      exact kt
    refine ownE.retL X8 hx hlk hret (hb hby own_d4_82) ?_ (by decide) (by decide)
    show own_Q4 Z r0 j1 j2 wd cm lb hbt h0 n0 _ T8.heap _
    rw [e8]
    exact ⟨(by rw [own_sum, if_neg hc2] <;> first | rfl | decide), N0, rfl⟩
theorem own_d5_0 : decode jdk_29_method_70_code 0 = .ok (.lload_n 0, 1) := by decide +kernel
theorem own_d5_1 : decode jdk_29_method_70_code 1 = .ok (.lload_n 2, 1) := by decide +kernel
theorem own_d5_2 : decode jdk_29_method_70_code 2 = .ok (.lcmp, 1) := by decide +kernel
theorem own_d5_3 : decode jdk_29_method_70_code 3 = .ok (.ifCond .gt 7, 3) := by decide +kernel
theorem own_d5_6 : decode jdk_29_method_70_code 6 = .ok (.lload_n 0, 1) := by decide +kernel
theorem own_d5_7 : decode jdk_29_method_70_code 7 = .ok (.goto 4, 3) := by decide +kernel
theorem own_d5_10 : decode jdk_29_method_70_code 10 = .ok (.lload_n 2, 1) := by decide +kernel
theorem own_d5_11 : decode jdk_29_method_70_code 11 = .ok (.lreturn, 1) := by decide +kernel
theorem own_ef5 (m : MethodId) (x0 : Int64) (x1 : Int64) : entryFrame m #[(.long x0), (.long x1)] 4 = mkF m 0 #[.val (.long x0), .second, .val (.long x1), .second] [] := by first | (simp [entryFrame, mkF, argsToLocals, Value.category]; done) | rfl
def own_mn (j0 : Int64) (j1 : Int64) : Int64 :=
  if j1 < j0 then
    j1
  else
    j0
def own_Q5 (Z : State) (j0 : Int64) (j1 : Int64) (h0 : Heap) (n0 : Nat) (v : Option Value) (h : Heap) (L : List Loc) : Prop := v = some (.long (own_mn j0 j1)) ∧ Fr n0 L ∧ h = h0
set_option maxRecDepth 65536 in
set_option maxHeartbeats 40000000 in
theorem own_rm5 (l : Launch) (Z : State) (a0 : Array Value) (hw : ∀ d ∈ tables_1, d.before a0 Z = true) (ws : List Jvm.Cond) (j0 : Int64) (j1 : Int64) (h0 : Heap) (n0 : Nat) (Z0 : n0 ≤ h0.size) :
    MetFree l (⟨"java/lang/Math", "min", "(JJ)J"⟩ : MethodName) (head1 (Jvm.Cond.code (⟨"java/lang/Math", "min", "(JJ)J"⟩ : MethodName) jdk_29_method_70_code 4 (some .long) :: ws) ({ frames := 0, cells := 0, slots := 0, locals := 0 } : Room)) (fun a U => a = #[(.long j0), (.long j1)] ∧ Z.Warmed39 U.vm ∧ U.heap = h0) (fun _ _ _ _ _ => True) (fun _ U o U' => ∃ v L, o = .returned v ∧ own_Q5 Z j0 j1 h0 n0 v U'.heap L ∧ FrameEnd U o U' L ({ frames := 0, cells := 0, slots := 0, locals := 0 } : Room).cells ({ frames := 0, cells := 0, slots := 0, locals := 0 } : Room).slots) := by
  refine MetFree.of_bodySF (Jvm.Free.JP.mathPlain rfl (by decide +kernel)) hisR ?_
  intro p e s m args below meth c s₁ Bd hml0 hP hK
  obtain ⟨rfl, hZ, hh⟩ := hP
  have hx := Bd.exec
  have hby := Bd.bytes
  have hret := Bd.returns
  have hlk := BodyLoose.notSynchronized Bd
  have hml : c.maxLocals = 4 := hml0
  have hown : s.vm.findClass "java/lang/Math" = some m.cls := findClass_of_methodNamed Bd.named
  have hnm := (name_of_methodNamed Bd.named Bd.method).1
  have X0 : Stand p l e ({ frames := 0, cells := 0, slots := 0, locals := 0 } : Room) s m #[(.long j0), (.long j1)] below meth c s₁ [] 0 0 := Stand.of_body Bd
  have e0 : s₁.heap = h0 := by rw [← hh, Bd.state]; rfl
  have N0 := Fr.nil n0
  have K0 : Keep h0 h0 [] := Keep.refl h0 _
  show ownE p e below s (own_Q5 Z j0 j1 h0 n0) ({ frames := 0, cells := 0, slots := 0, locals := 0 } : Room).cells ({ frames := 0, cells := 0, slots := 0, locals := 0 } : Room).slots s₁ (entryFrame m #[(.long j0), (.long j1)] 4)
  rw [own_ef5]
  refine ownE.go (T' := s₁) (f' := (mkF m 3 #[.val (.long j0), .second, .val (.long j1), .second] [(.int (Jvm.Free.XT.cmpL j0 j1))])) (fun t kt => ?_) ?_
  · show Steps p.tables e below (s₁.setTop (mkF m 0 #[.val (.long j0), .second, .val (.long j1), .second] [])) _
    refine XS.lloadN X0.here hx rfl (hb hby own_d5_0) rfl ?_
    show Steps p.tables e below (s₁.setTop (mkF m 1 #[.val (.long j0), .second, .val (.long j1), .second] [(.long j0)])) _
    refine XS.lloadN X0.here hx rfl (hb hby own_d5_1) rfl ?_
    show Steps p.tables e below (s₁.setTop (mkF m 2 #[.val (.long j0), .second, .val (.long j1), .second] [(.long j1), (.long j0)])) _
    refine XS.lcmp X0.here hx rfl (hb hby own_d5_2) rfl ?_
    exact kt
  by_cases hc1 : j1 < j0
  · -- pc 3
    refine ownE.go (T' := s₁) (f' := (mkF m 10 #[.val (.long j0), .second, .val (.long j1), .second] [])) (fun t kt => XS.ifYes (g := (mkF m 3 #[.val (.long j0), .second, .val (.long j1), .second] [(.int (Jvm.Free.XT.cmpL j0 j1))])) X0.here hx rfl (pc0 := 3) (pc' := 10) rfl (hb hby own_d5_3) rfl (Jvm.Free.XT.ll_gt_t hc1) (by decide) (by decide) kt) ?_
    refine ownE.go (T' := s₁) (f' := (mkF m 11 #[.val (.long j0), .second, .val (.long j1), .second] [(.long j1)])) (fun t kt => ?_) ?_
    · show Steps p.tables e below (s₁.setTop (mkF m 10 #[.val (.long j0), .second, .val (.long j1), .second] [])) _
      refine XS.lloadN X0.here hx rfl (hb hby own_d5_10) rfl ?_
      exact kt
    refine ownE.retL X0 hx hlk hret (hb hby own_d5_11) ?_ (by decide) (by decide)
    show own_Q5 Z j0 j1 h0 n0 _ s₁.heap _
    rw [e0]
    exact ⟨(by rw [own_mn, if_pos hc1] <;> first | rfl | decide), N0, rfl⟩
  · -- pc 3
    refine ownE.go (T' := s₁) (f' := (mkF m 6 #[.val (.long j0), .second, .val (.long j1), .second] [])) (fun t kt => XS.ifNo (g := (mkF m 3 #[.val (.long j0), .second, .val (.long j1), .second] [(.int (Jvm.Free.XT.cmpL j0 j1))])) X0.here hx rfl (hb hby own_d5_3) rfl (Jvm.Free.XT.ll_gt_f hc1) kt) ?_
    refine ownE.go (T' := s₁) (f' := (mkF m 11 #[.val (.long j0), .second, .val (.long j1), .second] [(.long j0)])) (fun t kt => ?_) ?_
    · show Steps p.tables e below (s₁.setTop (mkF m 6 #[.val (.long j0), .second, .val (.long j1), .second] [])) _
      refine XS.lloadN X0.here hx rfl (hb hby own_d5_6) rfl ?_
      show Steps p.tables e below (s₁.setTop (mkF m 7 #[.val (.long j0), .second, .val (.long j1), .second] [(.long j0)])) _
      refine XS.goto X0.here hx rfl (pc0 := 7) (pc' := 11) rfl (hb hby own_d5_7) (by decide) (by decide) ?_
      exact kt
    refine ownE.retL X0 hx hlk hret (hb hby own_d5_11) ?_ (by decide) (by decide)
    show own_Q5 Z j0 j1 h0 n0 _ s₁.heap _
    rw [e0]
    exact ⟨(by rw [own_mn, if_neg hc1] <;> first | rfl | decide), N0, rfl⟩
theorem own_pd3 : parseMethodDescriptor "(I)V" = some ⟨[.int], none⟩ := by decide +kernel
def own_v0_34 (j0 : Int64) (j1 : Int64) (i2 : Int32) (i3 : Int32) : Int64 := (own_sum j0 j1 ((1 : Int32) <<< (((i2 &&& (2147483647 : Int32)) % (6 : Int32)) &&& 31)) (own_cm ((1 : Int32) <<< (((i2 &&& (2147483647 : Int32)) % (6 : Int32)) &&& 31))) (own_lb ((1 : Int32) <<< (((i2 &&& (2147483647 : Int32)) % (6 : Int32)) &&& 31))) (own_hb ((1 : Int32) <<< (((i2 &&& (2147483647 : Int32)) % (6 : Int32)) &&& 31))))
def own_v0_42 (j0 : Int64) (j1 : Int64) (i2 : Int32) (i3 : Int32) : Int64 := (((1 : Int64) <<< (((1 : Int32) <<< (((i2 &&& (2147483647 : Int32)) % (6 : Int32)) &&& 31)) &&& 0x3f).toInt64) - (1 : Int64))
def own_v0_56 (j0 : Int64) (j1 : Int64) (i2 : Int32) (i3 : Int32) : Int32 := ((i3 &&& (63 : Int32)) &&& ((((1 : Int32) <<< (((i2 &&& (2147483647 : Int32)) % (6 : Int32)) &&& 31)) - (1 : Int32)) ^^^ (-1 : Int32)))
def own_v0_65 (j0 : Int64) (j1 : Int64) (i2 : Int32) (i3 : Int32) : Int64 := (((j0.toUInt64 >>> ((own_v0_56 j0 j1 i2 i3) &&& 0x3f).toInt64.toUInt64).toInt64) &&& (own_v0_42 j0 j1 i2 i3))
def own_v0_74 (j0 : Int64) (j1 : Int64) (i2 : Int32) (i3 : Int32) : Int64 := (((j1.toUInt64 >>> ((own_v0_56 j0 j1 i2 i3) &&& 0x3f).toInt64.toUInt64).toInt64) &&& (own_v0_42 j0 j1 i2 i3))
def own_v0_86 (j0 : Int64) (j1 : Int64) (i2 : Int32) (i3 : Int32) : Int64 := (own_mn ((own_v0_65 j0 j1 i2 i3) + (own_v0_74 j0 j1 i2 i3)) (own_v0_42 j0 j1 i2 i3))
def own_v0_96 (j0 : Int64) (j1 : Int64) (i2 : Int32) (i3 : Int32) : Int64 := ((((own_v0_34 j0 j1 i2 i3).toUInt64 >>> ((own_v0_56 j0 j1 i2 i3) &&& 0x3f).toInt64.toUInt64).toInt64) &&& (own_v0_42 j0 j1 i2 i3))
theorem own_pn4 : plainName "com/example/upper_falls/upperfalls/CellWordsSaturatingSumPinLaw" = true := by first | (simp [plainName, overriddenIn]; done) | decide +kernel
theorem own_ef0 (m : MethodId) (x0 : Int64) (x1 : Int64) (x2 : Int32) (x3 : Int32) : entryFrame m #[(.long x0), (.long x1), (.int x2), (.int x3)] maxLocals = mkF m 0 #[.val (.long x0), .second, .val (.long x1), .second, .val (.int x2), .val (.int x3), .unset, .unset, .unset, .unset, .unset, .unset, .unset, .unset, .unset, .unset, .unset, .unset, .unset, .unset, .unset, .unset] [] := by first | (simp [entryFrame, mkF, argsToLocals, Value.category, maxLocals]; done) | rfl
def own_f0 (j0 : Int64) (j1 : Int64) (i2 : Int32) (i3 : Int32) : Int32 :=
  if (own_v0_96 j0 j1 i2 i3) = (own_v0_86 j0 j1 i2 i3) then
    (1 : Int32)
  else
    (0 : Int32)
def own_Q0 (Z : State) (j0 : Int64) (j1 : Int64) (i2 : Int32) (i3 : Int32) (h0 : Heap) (n0 : Nat) (v : Option Value) (h : Heap) (L : List Loc) : Prop := v = some (.int (own_f0 j0 j1 i2 i3)) ∧ Fr n0 L ∧ Keep h0 h []
set_option maxRecDepth 65536 in
set_option maxHeartbeats 40000000 in
theorem own_rm0 (l : Launch) (Z : State) (a0 : Array Value) (hw : ∀ d ∈ tables_1, d.before a0 Z = true) (ws : List Jvm.Cond) (j0 : Int64) (j1 : Int64) (i2 : Int32) (i3 : Int32) (h0 : Heap) (n0 : Nat) (Z0 : n0 ≤ h0.size) :
    MetFree l x (head1 (Jvm.Cond.code x code maxLocals ret :: ws) room_1) (fun a U => a = #[(.long j0), (.long j1), (.int i2), (.int i3)] ∧ Z.Warmed39 U.vm ∧ U.heap = h0) (fun _ _ _ _ _ => True) (fun _ U o U' => ∃ v L, o = .returned v ∧ own_Q0 Z j0 j1 i2 i3 h0 n0 v U'.heap L ∧ FrameEnd U o U' L 1 4) := by
  refine MetFree.of_bodySF (plainFor_of_name own_pn4) hisR ?_
  intro p e s m args below meth c s₁ Bd hml0 hP hK
  obtain ⟨rfl, hZ, hh⟩ := hP
  have hx := Bd.exec
  have hby := Bd.bytes
  have hret := Bd.returns
  have hlk := BodyLoose.notSynchronized Bd
  have hml : c.maxLocals = 22 := hml0
  have hown : s.vm.findClass "com/example/upper_falls/upperfalls/CellWordsSaturatingSumPinLaw" = some m.cls := findClass_of_methodNamed Bd.named
  have hnm := (name_of_methodNamed Bd.named Bd.method).1
  have X0 : Stand p l e room_1 s m #[(.long j0), (.long j1), (.int i2), (.int i3)] below meth c s₁ [] 0 0 := Stand.of_body Bd
  have e0 : s₁.heap = h0 := by rw [← hh, Bd.state]; rfl
  have N0 := Fr.nil n0
  have K0 : Keep h0 h0 [] := Keep.refl h0 _
  show ownE p e below s (own_Q0 Z j0 j1 i2 i3 h0 n0) 1 4 s₁ (entryFrame m #[(.long j0), (.long j1), (.int i2), (.int i3)] maxLocals)
  rw [own_ef0]
  refine ownE.go (T' := s₁) (f' := (mkF m 16 #[.val (.long j0), .second, .val (.long j1), .second, .val (.int i2), .val (.int i3), .val (.int ((i2 &&& (2147483647 : Int32)) % (6 : Int32))), .val (.int ((1 : Int32) <<< (((i2 &&& (2147483647 : Int32)) % (6 : Int32)) &&& 31))), .unset, .unset, .unset, .unset, .unset, .unset, .unset, .unset, .unset, .unset, .unset, .unset, .unset, .unset] [])) (fun t kt => ?_) ?_
  · show Steps p.tables e below (s₁.setTop (mkF m 0 #[.val (.long j0), .second, .val (.long j1), .second, .val (.int i2), .val (.int i3), .unset, .unset, .unset, .unset, .unset, .unset, .unset, .unset, .unset, .unset, .unset, .unset, .unset, .unset, .unset, .unset] [])) _
    refine XS.iload X0.here hx rfl (hb hby at_0) rfl ?_
    show Steps p.tables e below (s₁.setTop (mkF m 2 #[.val (.long j0), .second, .val (.long j1), .second, .val (.int i2), .val (.int i3), .unset, .unset, .unset, .unset, .unset, .unset, .unset, .unset, .unset, .unset, .unset, .unset, .unset, .unset, .unset, .unset] [(.int i2)])) _
    refine X0.ldcInt hx hown (mvT hZ (hw _ (List.mem_of_getElem? (i := 0) rfl))) (g := (mkF m 2 #[.val (.long j0), .second, .val (.long j1), .second, .val (.int i2), .val (.int i3), .unset, .unset, .unset, .unset, .unset, .unset, .unset, .unset, .unset, .unset, .unset, .unset, .unset, .unset, .unset, .unset] [(.int i2)])) rfl (hb hby at_2) _ ?_
    show Steps p.tables e below (s₁.setTop (mkF m 4 #[.val (.long j0), .second, .val (.long j1), .second, .val (.int i2), .val (.int i3), .unset, .unset, .unset, .unset, .unset, .unset, .unset, .unset, .unset, .unset, .unset, .unset, .unset, .unset, .unset, .unset] [(.int (2147483647 : Int32)), (.int i2)])) _
    refine XS.iand X0.here hx rfl (hb hby at_4) rfl ?_
    show Steps p.tables e below (s₁.setTop (mkF m 5 #[.val (.long j0), .second, .val (.long j1), .second, .val (.int i2), .val (.int i3), .unset, .unset, .unset, .unset, .unset, .unset, .unset, .unset, .unset, .unset, .unset, .unset, .unset, .unset, .unset, .unset] [(.int (i2 &&& (2147483647 : Int32)))])) _
    refine XS.bipush X0.here hx rfl (hb hby at_5) ?_
    show Steps p.tables e below (s₁.setTop (mkF m 7 #[.val (.long j0), .second, .val (.long j1), .second, .val (.int i2), .val (.int i3), .unset, .unset, .unset, .unset, .unset, .unset, .unset, .unset, .unset, .unset, .unset, .unset, .unset, .unset, .unset, .unset] [(.int (6 : Int32)), (.int (i2 &&& (2147483647 : Int32)))])) _
    refine iremM X0 hx rfl (hb hby at_7) rfl (by decide) ?_
    show Steps p.tables e below (s₁.setTop (mkF m 8 #[.val (.long j0), .second, .val (.long j1), .second, .val (.int i2), .val (.int i3), .unset, .unset, .unset, .unset, .unset, .unset, .unset, .unset, .unset, .unset, .unset, .unset, .unset, .unset, .unset, .unset] [(.int ((i2 &&& (2147483647 : Int32)) % (6 : Int32)))])) _
    refine XS.istore X0.here hx rfl (hb hby at_8) rfl (l' := #[.val (.long j0), .second, .val (.long j1), .second, .val (.int i2), .val (.int i3), .val (.int ((i2 &&& (2147483647 : Int32)) % (6 : Int32))), .unset, .unset, .unset, .unset, .unset, .unset, .unset, .unset, .unset, .unset, .unset, .unset, .unset, .unset, .unset]) rfl ?_
    show Steps p.tables e below (s₁.setTop (mkF m 10 #[.val (.long j0), .second, .val (.long j1), .second, .val (.int i2), .val (.int i3), .val (.int ((i2 &&& (2147483647 : Int32)) % (6 : Int32))), .unset, .unset, .unset, .unset, .unset, .unset, .unset, .unset, .unset, .unset, .unset, .unset, .unset, .unset, .unset] [])) _
    refine XS.iconst X0.here hx rfl (hb hby at_10) ?_
    show Steps p.tables e below (s₁.setTop (mkF m 11 #[.val (.long j0), .second, .val (.long j1), .second, .val (.int i2), .val (.int i3), .val (.int ((i2 &&& (2147483647 : Int32)) % (6 : Int32))), .unset, .unset, .unset, .unset, .unset, .unset, .unset, .unset, .unset, .unset, .unset, .unset, .unset, .unset, .unset] [(.int (1 : Int32))])) _
    refine XS.iload X0.here hx rfl (hb hby at_11) rfl ?_
    show Steps p.tables e below (s₁.setTop (mkF m 13 #[.val (.long j0), .second, .val (.long j1), .second, .val (.int i2), .val (.int i3), .val (.int ((i2 &&& (2147483647 : Int32)) % (6 : Int32))), .unset, .unset, .unset, .unset, .unset, .unset, .unset, .unset, .unset, .unset, .unset, .unset, .unset, .unset, .unset] [(.int ((i2 &&& (2147483647 : Int32)) % (6 : Int32))), (.int (1 : Int32))])) _
    refine XS.ishl X0.here hx rfl (hb hby at_13) rfl ?_
    show Steps p.tables e below (s₁.setTop (mkF m 14 #[.val (.long j0), .second, .val (.long j1), .second, .val (.int i2), .val (.int i3), .val (.int ((i2 &&& (2147483647 : Int32)) % (6 : Int32))), .unset, .unset, .unset, .unset, .unset, .unset, .unset, .unset, .unset, .unset, .unset, .unset, .unset, .unset, .unset] [(.int ((1 : Int32) <<< (((i2 &&& (2147483647 : Int32)) % (6 : Int32)) &&& 31)))])) _
    refine XS.istore X0.here hx rfl (hb hby at_14) rfl (l' := #[.val (.long j0), .second, .val (.long j1), .second, .val (.int i2), .val (.int i3), .val (.int ((i2 &&& (2147483647 : Int32)) % (6 : Int32))), .val (.int ((1 : Int32) <<< (((i2 &&& (2147483647 : Int32)) % (6 : Int32)) &&& 31))), .unset, .unset, .unset, .unset, .unset, .unset, .unset, .unset, .unset, .unset, .unset, .unset, .unset, .unset]) rfl ?_
    exact kt
  obtain ⟨T1, h1, X1, e1, E1, A1, D1, -, st1⟩ := newO X0 hx hZ hown (hw _ (List.mem_of_getElem? (i := 1) rfl)) (hw _ (List.mem_of_getElem? (i := 2) rfl)) (hw _ (List.mem_of_getElem? (i := 3) rfl)) e0 (g := (mkF m 16 #[.val (.long j0), .second, .val (.long j1), .second, .val (.int i2), .val (.int i3), .val (.int ((i2 &&& (2147483647 : Int32)) % (6 : Int32))), .val (.int ((1 : Int32) <<< (((i2 &&& (2147483647 : Int32)) % (6 : Int32)) &&& 31))), .unset, .unset, .unset, .unset, .unset, .unset, .unset, .unset, .unset, .unset, .unset, .unset, .unset, .unset] [])) rfl (hb hby at_16) (by decide) (by decide)
  obtain ⟨b1, g1⟩ : ∃ z, z = h0.size := ⟨_, rfl⟩
  rw [← g1] at A1 D1 st1
  have sz_b1 : h0.size ≤ b1 := Nat.le_trans K0.1 (Nat.le_of_eq g1.symm)
  have ge_b1 : n0 ≤ b1 := Nat.le_trans Z0 sz_b1
  have D1_width : Fld Z h1 b1 "com/example/upper_falls/upperfalls/CellWords" "width" "I" (.int (0 : Int32)) := D1 (Or.inr (hw _ (List.mem_of_getElem? (i := 11) rfl))) (ty := .int) (by decide)
  have D1_cellMask : Fld Z h1 b1 "com/example/upper_falls/upperfalls/CellWords" "cellMask" "J" (.long (0 : Int64)) := D1 (Or.inr (hw _ (List.mem_of_getElem? (i := 13) rfl))) (ty := .long) (by decide)
  have D1_lowBits : Fld Z h1 b1 "com/example/upper_falls/upperfalls/CellWords" "lowBits" "J" (.long (0 : Int64)) := D1 (Or.inr (hw _ (List.mem_of_getElem? (i := 21) rfl))) (ty := .long) (by decide)
  have D1_highBits : Fld Z h1 b1 "com/example/upper_falls/upperfalls/CellWords" "highBits" "J" (.long (0 : Int64)) := D1 (Or.inr (hw _ (List.mem_of_getElem? (i := 23) rfl))) (ty := .long) (by decide)
  have K1 : Keep h0 h1 [] := K0.ext E1
  refine ownE.go (T' := T1) (f' := (mkF m 19 #[.val (.long j0), .second, .val (.long j1), .second, .val (.int i2), .val (.int i3), .val (.int ((i2 &&& (2147483647 : Int32)) % (6 : Int32))), .val (.int ((1 : Int32) <<< (((i2 &&& (2147483647 : Int32)) % (6 : Int32)) &&& 31))), .unset, .unset, .unset, .unset, .unset, .unset, .unset, .unset, .unset, .unset, .unset, .unset, .unset, .unset] [(.ref b1)])) st1 ?_
  refine ownE.go (T' := T1) (f' := (mkF m 22 #[.val (.long j0), .second, .val (.long j1), .second, .val (.int i2), .val (.int i3), .val (.int ((i2 &&& (2147483647 : Int32)) % (6 : Int32))), .val (.int ((1 : Int32) <<< (((i2 &&& (2147483647 : Int32)) % (6 : Int32)) &&& 31))), .unset, .unset, .unset, .unset, .unset, .unset, .unset, .unset, .unset, .unset, .unset, .unset, .unset, .unset] [(.int ((1 : Int32) <<< (((i2 &&& (2147483647 : Int32)) % (6 : Int32)) &&& 31))), (.ref b1), (.ref b1)])) (fun t kt => ?_) ?_
  · show Steps p.tables e below (T1.setTop (mkF m 19 #[.val (.long j0), .second, .val (.long j1), .second, .val (.int i2), .val (.int i3), .val (.int ((i2 &&& (2147483647 : Int32)) % (6 : Int32))), .val (.int ((1 : Int32) <<< (((i2 &&& (2147483647 : Int32)) % (6 : Int32)) &&& 31))), .unset, .unset, .unset, .unset, .unset, .unset, .unset, .unset, .unset, .unset, .unset, .unset, .unset, .unset] [(.ref b1)])) _
    refine XS.dup X1.here hx rfl (hb hby at_19) rfl rfl ?_
    show Steps p.tables e below (T1.setTop (mkF m 20 #[.val (.long j0), .second, .val (.long j1), .second, .val (.int i2), .val (.int i3), .val (.int ((i2 &&& (2147483647 : Int32)) % (6 : Int32))), .val (.int ((1 : Int32) <<< (((i2 &&& (2147483647 : Int32)) % (6 : Int32)) &&& 31))), .unset, .unset, .unset, .unset, .unset, .unset, .unset, .unset, .unset, .unset, .unset, .unset, .unset, .unset] [(.ref b1), (.ref b1)])) _
    refine XS.iload X1.here hx rfl (hb hby at_20) rfl ?_
    exact kt
  obtain ⟨_, _, ⟨T2, L2, k2, n2⟩, -, X2, ⟨Lc2, hQ2, l2, y2, z2⟩, st2⟩ := X1.specialBack hx (y := (⟨"com/example/upper_falls/upperfalls/CellWords", "<init>", "(I)V"⟩ : MethodName)) rfl hown (mvT hZ (hw _ (List.mem_of_getElem? (i := 4) rfl))) (mvT hZ (hw _ (List.mem_of_getElem? (i := 5) rfl))) (mvT hZ (hw _ (List.mem_of_getElem? (i := 6) rfl))) (by decide) (backOf (W := 1) (own_rm1 l Z a0 hw [] b1 ((1 : Int32) <<< (((i2 &&& (2147483647 : Int32)) % (6 : Int32)) &&& 31)) h1 n0 (Nat.le_trans Z0 K1.1) D1_width D1_cellMask D1_lowBits D1_highBits A1 ge_b1 (own_cmnz i2)) hZ (hw _ (List.mem_of_getElem? (i := 6) rfl)) (hw _ (List.mem_of_getElem? (i := 3) rfl)) (by decide) (by decide)) (g := (mkF m 22 #[.val (.long j0), .second, .val (.long j1), .second, .val (.int i2), .val (.int i3), .val (.int ((i2 &&& (2147483647 : Int32)) % (6 : Int32))), .val (.int ((1 : Int32) <<< (((i2 &&& (2147483647 : Int32)) % (6 : Int32)) &&& 31))), .unset, .unset, .unset, .unset, .unset, .unset, .unset, .unset, .unset, .unset, .unset, .unset, .unset, .unset] [(.int ((1 : Int32) <<< (((i2 &&& (2147483647 : Int32)) % (6 : Int32)) &&& 31))), (.ref b1), (.ref b1)])) rfl (by rw [hml]; rfl) (Steps.refl _) (a := b1) (argsL := [(.int ((1 : Int32) <<< (((i2 &&& (2147483647 : Int32)) % (6 : Int32)) &&& 31)))]) (rest := [(.ref b1)]) (lenOf own_pd3 rfl) rfl (by show 2 * 0 + _ ≤ _; exact Nat.le_of_eq rfl) (hb hby at_22) (fun _ _ => ⟨rfl, e1, (by decide : 1 + 0 ≤ _), (by decide : 4 + 0 ≤ _)⟩)
  dsimp only [Pt.U, Pt.locs, Pt.cells, Pt.slots] at X2 l2 y2 z2 st2 hQ2
  subst l2 y2 z2
  obtain ⟨rfl, N2q, K2q, f2_0, f2_1, f2_2, f2_3, f2_4⟩ := hQ2
  have cExa_b1_2 : Exa Z T2.heap b1 "com/example/upper_falls/upperfalls/CellWords" := A1.keep K2q
  have K2 : Keep h0 T2.heap [] := K1.trans K2q (allS (Or.inr sz_b1) all0)
  have N2 := Fr.app N0 N2q
  refine ownE.goS (T' := T2) (f' := (mkF m 25 #[.val (.long j0), .second, .val (.long j1), .second, .val (.int i2), .val (.int i3), .val (.int ((i2 &&& (2147483647 : Int32)) % (6 : Int32))), .val (.int ((1 : Int32) <<< (((i2 &&& (2147483647 : Int32)) % (6 : Int32)) &&& 31))), .unset, .unset, .unset, .unset, .unset, .unset, .unset, .unset, .unset, .unset, .unset, .unset, .unset, .unset] [(.ref b1)])) st2 ?_
  refine ownE.go (T' := T2) (f' := (mkF m 31 #[.val (.long j0), .second, .val (.long j1), .second, .val (.int i2), .val (.int i3), .val (.int ((i2 &&& (2147483647 : Int32)) % (6 : Int32))), .val (.int ((1 : Int32) <<< (((i2 &&& (2147483647 : Int32)) % (6 : Int32)) &&& 31))), .val (.ref b1), .unset, .unset, .unset, .unset, .unset, .unset, .unset, .unset, .unset, .unset, .unset, .unset, .unset] [(.long j1), (.long j0), (.ref b1)])) (fun t kt => ?_) ?_
  · show Steps p.tables e below (T2.setTop (mkF m 25 #[.val (.long j0), .second, .val (.long j1), .second, .val (.int i2), .val (.int i3), .val (.int ((i2 &&& (2147483647 : Int32)) % (6 : Int32))), .val (.int ((1 : Int32) <<< (((i2 &&& (2147483647 : Int32)) % (6 : Int32)) &&& 31))), .unset, .unset, .unset, .unset, .unset, .unset, .unset, .unset, .unset, .unset, .unset, .unset, .unset, .unset] [(.ref b1)])) _
    refine XS.astore X2.here hx rfl (hb hby at_25) rfl rfl (l' := #[.val (.long j0), .second, .val (.long j1), .second, .val (.int i2), .val (.int i3), .val (.int ((i2 &&& (2147483647 : Int32)) % (6 : Int32))), .val (.int ((1 : Int32) <<< (((i2 &&& (2147483647 : Int32)) % (6 : Int32)) &&& 31))), .val (.ref b1), .unset, .unset, .unset, .unset, .unset, .unset, .unset, .unset, .unset, .unset, .unset, .unset, .unset]) rfl ?_
    show Steps p.tables e below (T2.setTop (mkF m 27 #[.val (.long j0), .second, .val (.long j1), .second, .val (.int i2), .val (.int i3), .val (.int ((i2 &&& (2147483647 : Int32)) % (6 : Int32))), .val (.int ((1 : Int32) <<< (((i2 &&& (2147483647 : Int32)) % (6 : Int32)) &&& 31))), .val (.ref b1), .unset, .unset, .unset, .unset, .unset, .unset, .unset, .unset, .unset, .unset, .unset, .unset, .unset] [])) _
    refine XS.aload X2.here hx rfl (hb hby at_27) rfl rfl ?_
    show Steps p.tables e below (T2.setTop (mkF m 29 #[.val (.long j0), .second, .val (.long j1), .second, .val (.int i2), .val (.int i3), .val (.int ((i2 &&& (2147483647 : Int32)) % (6 : Int32))), .val (.int ((1 : Int32) <<< (((i2 &&& (2147483647 : Int32)) % (6 : Int32)) &&& 31))), .val (.ref b1), .unset, .unset, .unset, .unset, .unset, .unset, .unset, .unset, .unset, .unset, .unset, .unset, .unset] [(.ref b1)])) _
    refine XS.lloadN X2.here hx rfl (hb hby at_29) rfl ?_
    show Steps p.tables e below (T2.setTop (mkF m 30 #[.val (.long j0), .second, .val (.long j1), .second, .val (.int i2), .val (.int i3), .val (.int ((i2 &&& (2147483647 : Int32)) % (6 : Int32))), .val (.int ((1 : Int32) <<< (((i2 &&& (2147483647 : Int32)) % (6 : Int32)) &&& 31))), .val (.ref b1), .unset, .unset, .unset, .unset, .unset, .unset, .unset, .unset, .unset, .unset, .unset, .unset, .unset] [(.long j0), (.ref b1)])) _
    refine XS.lloadN X2.here hx rfl (hb hby at_30) rfl ?_
    exact kt
  obtain ⟨cq3, kq3, q3a, q3b, q3c⟩ := isOf hZ rfl f2_0
  obtain ⟨_, _, ⟨T3, L3, k3, n3⟩, -, X3, ⟨Lc3, hQ3, l3, y3, z3⟩, st3⟩ := X2.virtualBack hx (y := (⟨"com/example/upper_falls/upperfalls/CellWords", "saturatingSum", "(JJ)J"⟩ : MethodName)) (z := (⟨"com/example/upper_falls/upperfalls/CellWords", "saturatingSum", "(JJ)J"⟩ : MethodName)) hown (mvT hZ (hw _ (List.mem_of_getElem? (i := 24) rfl))) (mvT hZ (hw _ (List.mem_of_getElem? (i := 25) rfl))) (notFace_of_selects (args := #[]) (mvT hZ (hw _ (List.mem_of_getElem? (i := 27) rfl)))) (mvT hZ (hw _ (List.mem_of_getElem? (i := 27) rfl))) (mvT hZ (hw _ (List.mem_of_getElem? (i := 26) rfl))) (by decide) (backOf (W := 0) (own_rm4 l Z a0 hw [] b1 j0 j1 ((1 : Int32) <<< (((i2 &&& (2147483647 : Int32)) % (6 : Int32)) &&& 31)) (own_cm ((1 : Int32) <<< (((i2 &&& (2147483647 : Int32)) % (6 : Int32)) &&& 31))) (own_lb ((1 : Int32) <<< (((i2 &&& (2147483647 : Int32)) % (6 : Int32)) &&& 31))) (own_hb ((1 : Int32) <<< (((i2 &&& (2147483647 : Int32)) % (6 : Int32)) &&& 31))) T2.heap n0 (Nat.le_trans Z0 K2.1) f2_1 f2_2 f2_3 f2_4) hZ (hw _ (List.mem_of_getElem? (i := 28) rfl)) (hw _ (List.mem_of_getElem? (i := 3) rfl)) (by decide) (by decide)) q3a q3c (g := (mkF m 31 #[.val (.long j0), .second, .val (.long j1), .second, .val (.int i2), .val (.int i3), .val (.int ((i2 &&& (2147483647 : Int32)) % (6 : Int32))), .val (.int ((1 : Int32) <<< (((i2 &&& (2147483647 : Int32)) % (6 : Int32)) &&& 31))), .val (.ref b1), .unset, .unset, .unset, .unset, .unset, .unset, .unset, .unset, .unset, .unset, .unset, .unset, .unset] [(.long j1), (.long j0), (.ref b1)])) rfl (by rw [hml]; rfl) (Steps.refl _) (argsL := [(.long j0), (.long j1)]) (rest := []) (lenOf own_pd1 rfl) rfl (by show 2 * 0 + _ ≤ _; exact Nat.le_of_eq rfl) (hb hby at_31) (fun _ _ => ⟨rfl, rfl, (by decide : 1 + 0 ≤ _), (by decide : 4 + 0 ≤ _)⟩)
  dsimp only [Pt.U, Pt.locs, Pt.cells, Pt.slots] at X3 l3 y3 z3 st3 hQ3
  subst l3 y3 z3
  obtain ⟨rfl, N3q, e3⟩ := hQ3
  have N3 := Fr.app N2 N3q
  refine ownE.goS (T' := T3) (f' := (mkF m 34 #[.val (.long j0), .second, .val (.long j1), .second, .val (.int i2), .val (.int i3), .val (.int ((i2 &&& (2147483647 : Int32)) % (6 : Int32))), .val (.int ((1 : Int32) <<< (((i2 &&& (2147483647 : Int32)) % (6 : Int32)) &&& 31))), .val (.ref b1), .unset, .unset, .unset, .unset, .unset, .unset, .unset, .unset, .unset, .unset, .unset, .unset, .unset] [(.long (own_sum j0 j1 ((1 : Int32) <<< (((i2 &&& (2147483647 : Int32)) % (6 : Int32)) &&& 31)) (own_cm ((1 : Int32) <<< (((i2 &&& (2147483647 : Int32)) % (6 : Int32)) &&& 31))) (own_lb ((1 : Int32) <<< (((i2 &&& (2147483647 : Int32)) % (6 : Int32)) &&& 31))) (own_hb ((1 : Int32) <<< (((i2 &&& (2147483647 : Int32)) % (6 : Int32)) &&& 31)))))])) st3 ?_
  refine ownE.go (T' := T3) (f' := (mkF m 83 #[.val (.long j0), .second, .val (.long j1), .second, .val (.int i2), .val (.int i3), .val (.int ((i2 &&& (2147483647 : Int32)) % (6 : Int32))), .val (.int ((1 : Int32) <<< (((i2 &&& (2147483647 : Int32)) % (6 : Int32)) &&& 31))), .val (.ref b1), .val (.long (own_v0_34 j0 j1 i2 i3)), .second, .val (.long (own_v0_42 j0 j1 i2 i3)), .second, .val (.int (own_v0_56 j0 j1 i2 i3)), .val (.long (own_v0_65 j0 j1 i2 i3)), .second, .val (.long (own_v0_74 j0 j1 i2 i3)), .second, .unset, .unset, .unset, .unset] [(.long (own_v0_42 j0 j1 i2 i3)), (.long ((own_v0_65 j0 j1 i2 i3) + (own_v0_74 j0 j1 i2 i3)))])) (fun t kt => ?_) ?_
  · show Steps p.tables e below (T3.setTop (mkF m 34 #[.val (.long j0), .second, .val (.long j1), .second, .val (.int i2), .val (.int i3), .val (.int ((i2 &&& (2147483647 : Int32)) % (6 : Int32))), .val (.int ((1 : Int32) <<< (((i2 &&& (2147483647 : Int32)) % (6 : Int32)) &&& 31))), .val (.ref b1), .unset, .unset, .unset, .unset, .unset, .unset, .unset, .unset, .unset, .unset, .unset, .unset, .unset] [(.long (own_sum j0 j1 ((1 : Int32) <<< (((i2 &&& (2147483647 : Int32)) % (6 : Int32)) &&& 31)) (own_cm ((1 : Int32) <<< (((i2 &&& (2147483647 : Int32)) % (6 : Int32)) &&& 31))) (own_lb ((1 : Int32) <<< (((i2 &&& (2147483647 : Int32)) % (6 : Int32)) &&& 31))) (own_hb ((1 : Int32) <<< (((i2 &&& (2147483647 : Int32)) % (6 : Int32)) &&& 31)))))])) _
    refine XS.lstore X3.here hx rfl (hb hby at_34) rfl (l' := #[.val (.long j0), .second, .val (.long j1), .second, .val (.int i2), .val (.int i3), .val (.int ((i2 &&& (2147483647 : Int32)) % (6 : Int32))), .val (.int ((1 : Int32) <<< (((i2 &&& (2147483647 : Int32)) % (6 : Int32)) &&& 31))), .val (.ref b1), .val (.long (own_v0_34 j0 j1 i2 i3)), .second, .unset, .unset, .unset, .unset, .unset, .unset, .unset, .unset, .unset, .unset, .unset]) rfl ?_
    show Steps p.tables e below (T3.setTop (mkF m 36 #[.val (.long j0), .second, .val (.long j1), .second, .val (.int i2), .val (.int i3), .val (.int ((i2 &&& (2147483647 : Int32)) % (6 : Int32))), .val (.int ((1 : Int32) <<< (((i2 &&& (2147483647 : Int32)) % (6 : Int32)) &&& 31))), .val (.ref b1), .val (.long (own_v0_34 j0 j1 i2 i3)), .second, .unset, .unset, .unset, .unset, .unset, .unset, .unset, .unset, .unset, .unset, .unset] [])) _
    refine XS.lconst X3.here hx rfl (hb hby at_36) ?_
    show Steps p.tables e below (T3.setTop (mkF m 37 #[.val (.long j0), .second, .val (.long j1), .second, .val (.int i2), .val (.int i3), .val (.int ((i2 &&& (2147483647 : Int32)) % (6 : Int32))), .val (.int ((1 : Int32) <<< (((i2 &&& (2147483647 : Int32)) % (6 : Int32)) &&& 31))), .val (.ref b1), .val (.long (own_v0_34 j0 j1 i2 i3)), .second, .unset, .unset, .unset, .unset, .unset, .unset, .unset, .unset, .unset, .unset, .unset] [(.long (1 : Int64))])) _
    refine XS.iload X3.here hx rfl (hb hby at_37) rfl ?_
    show Steps p.tables e below (T3.setTop (mkF m 39 #[.val (.long j0), .second, .val (.long j1), .second, .val (.int i2), .val (.int i3), .val (.int ((i2 &&& (2147483647 : Int32)) % (6 : Int32))), .val (.int ((1 : Int32) <<< (((i2 &&& (2147483647 : Int32)) % (6 : Int32)) &&& 31))), .val (.ref b1), .val (.long (own_v0_34 j0 j1 i2 i3)), .second, .unset, .unset, .unset, .unset, .unset, .unset, .unset, .unset, .unset, .unset, .unset] [(.int ((1 : Int32) <<< (((i2 &&& (2147483647 : Int32)) % (6 : Int32)) &&& 31))), (.long (1 : Int64))])) _
    refine XS.lshl X3.here hx rfl (hb hby at_39) rfl ?_
    show Steps p.tables e below (T3.setTop (mkF m 40 #[.val (.long j0), .second, .val (.long j1), .second, .val (.int i2), .val (.int i3), .val (.int ((i2 &&& (2147483647 : Int32)) % (6 : Int32))), .val (.int ((1 : Int32) <<< (((i2 &&& (2147483647 : Int32)) % (6 : Int32)) &&& 31))), .val (.ref b1), .val (.long (own_v0_34 j0 j1 i2 i3)), .second, .unset, .unset, .unset, .unset, .unset, .unset, .unset, .unset, .unset, .unset, .unset] [(.long ((1 : Int64) <<< (((1 : Int32) <<< (((i2 &&& (2147483647 : Int32)) % (6 : Int32)) &&& 31)) &&& 0x3f).toInt64))])) _
    refine XS.lconst X3.here hx rfl (hb hby at_40) ?_
    show Steps p.tables e below (T3.setTop (mkF m 41 #[.val (.long j0), .second, .val (.long j1), .second, .val (.int i2), .val (.int i3), .val (.int ((i2 &&& (2147483647 : Int32)) % (6 : Int32))), .val (.int ((1 : Int32) <<< (((i2 &&& (2147483647 : Int32)) % (6 : Int32)) &&& 31))), .val (.ref b1), .val (.long (own_v0_34 j0 j1 i2 i3)), .second, .unset, .unset, .unset, .unset, .unset, .unset, .unset, .unset, .unset, .unset, .unset] [(.long (1 : Int64)), (.long ((1 : Int64) <<< (((1 : Int32) <<< (((i2 &&& (2147483647 : Int32)) % (6 : Int32)) &&& 31)) &&& 0x3f).toInt64))])) _
    refine XS.lsub X3.here hx rfl (hb hby at_41) rfl ?_
    show Steps p.tables e below (T3.setTop (mkF m 42 #[.val (.long j0), .second, .val (.long j1), .second, .val (.int i2), .val (.int i3), .val (.int ((i2 &&& (2147483647 : Int32)) % (6 : Int32))), .val (.int ((1 : Int32) <<< (((i2 &&& (2147483647 : Int32)) % (6 : Int32)) &&& 31))), .val (.ref b1), .val (.long (own_v0_34 j0 j1 i2 i3)), .second, .unset, .unset, .unset, .unset, .unset, .unset, .unset, .unset, .unset, .unset, .unset] [(.long (((1 : Int64) <<< (((1 : Int32) <<< (((i2 &&& (2147483647 : Int32)) % (6 : Int32)) &&& 31)) &&& 0x3f).toInt64) - (1 : Int64)))])) _
    refine XS.lstore X3.here hx rfl (hb hby at_42) rfl (l' := #[.val (.long j0), .second, .val (.long j1), .second, .val (.int i2), .val (.int i3), .val (.int ((i2 &&& (2147483647 : Int32)) % (6 : Int32))), .val (.int ((1 : Int32) <<< (((i2 &&& (2147483647 : Int32)) % (6 : Int32)) &&& 31))), .val (.ref b1), .val (.long (own_v0_34 j0 j1 i2 i3)), .second, .val (.long (own_v0_42 j0 j1 i2 i3)), .second, .unset, .unset, .unset, .unset, .unset, .unset, .unset, .unset, .unset]) rfl ?_
    show Steps p.tables e below (T3.setTop (mkF m 44 #[.val (.long j0), .second, .val (.long j1), .second, .val (.int i2), .val (.int i3), .val (.int ((i2 &&& (2147483647 : Int32)) % (6 : Int32))), .val (.int ((1 : Int32) <<< (((i2 &&& (2147483647 : Int32)) % (6 : Int32)) &&& 31))), .val (.ref b1), .val (.long (own_v0_34 j0 j1 i2 i3)), .second, .val (.long (own_v0_42 j0 j1 i2 i3)), .second, .unset, .unset, .unset, .unset, .unset, .unset, .unset, .unset, .unset] [])) _
    refine XS.iload X3.here hx rfl (hb hby at_44) rfl ?_
    show Steps p.tables e below (T3.setTop (mkF m 46 #[.val (.long j0), .second, .val (.long j1), .second, .val (.int i2), .val (.int i3), .val (.int ((i2 &&& (2147483647 : Int32)) % (6 : Int32))), .val (.int ((1 : Int32) <<< (((i2 &&& (2147483647 : Int32)) % (6 : Int32)) &&& 31))), .val (.ref b1), .val (.long (own_v0_34 j0 j1 i2 i3)), .second, .val (.long (own_v0_42 j0 j1 i2 i3)), .second, .unset, .unset, .unset, .unset, .unset, .unset, .unset, .unset, .unset] [(.int i3)])) _
    refine XS.bipush X3.here hx rfl (hb hby at_46) ?_
    show Steps p.tables e below (T3.setTop (mkF m 48 #[.val (.long j0), .second, .val (.long j1), .second, .val (.int i2), .val (.int i3), .val (.int ((i2 &&& (2147483647 : Int32)) % (6 : Int32))), .val (.int ((1 : Int32) <<< (((i2 &&& (2147483647 : Int32)) % (6 : Int32)) &&& 31))), .val (.ref b1), .val (.long (own_v0_34 j0 j1 i2 i3)), .second, .val (.long (own_v0_42 j0 j1 i2 i3)), .second, .unset, .unset, .unset, .unset, .unset, .unset, .unset, .unset, .unset] [(.int (63 : Int32)), (.int i3)])) _
    refine XS.iand X3.here hx rfl (hb hby at_48) rfl ?_
    show Steps p.tables e below (T3.setTop (mkF m 49 #[.val (.long j0), .second, .val (.long j1), .second, .val (.int i2), .val (.int i3), .val (.int ((i2 &&& (2147483647 : Int32)) % (6 : Int32))), .val (.int ((1 : Int32) <<< (((i2 &&& (2147483647 : Int32)) % (6 : Int32)) &&& 31))), .val (.ref b1), .val (.long (own_v0_34 j0 j1 i2 i3)), .second, .val (.long (own_v0_42 j0 j1 i2 i3)), .second, .unset, .unset, .unset, .unset, .unset, .unset, .unset, .unset, .unset] [(.int (i3 &&& (63 : Int32)))])) _
    refine XS.iload X3.here hx rfl (hb hby at_49) rfl ?_
    show Steps p.tables e below (T3.setTop (mkF m 51 #[.val (.long j0), .second, .val (.long j1), .second, .val (.int i2), .val (.int i3), .val (.int ((i2 &&& (2147483647 : Int32)) % (6 : Int32))), .val (.int ((1 : Int32) <<< (((i2 &&& (2147483647 : Int32)) % (6 : Int32)) &&& 31))), .val (.ref b1), .val (.long (own_v0_34 j0 j1 i2 i3)), .second, .val (.long (own_v0_42 j0 j1 i2 i3)), .second, .unset, .unset, .unset, .unset, .unset, .unset, .unset, .unset, .unset] [(.int ((1 : Int32) <<< (((i2 &&& (2147483647 : Int32)) % (6 : Int32)) &&& 31))), (.int (i3 &&& (63 : Int32)))])) _
    refine XS.iconst X3.here hx rfl (hb hby at_51) ?_
    show Steps p.tables e below (T3.setTop (mkF m 52 #[.val (.long j0), .second, .val (.long j1), .second, .val (.int i2), .val (.int i3), .val (.int ((i2 &&& (2147483647 : Int32)) % (6 : Int32))), .val (.int ((1 : Int32) <<< (((i2 &&& (2147483647 : Int32)) % (6 : Int32)) &&& 31))), .val (.ref b1), .val (.long (own_v0_34 j0 j1 i2 i3)), .second, .val (.long (own_v0_42 j0 j1 i2 i3)), .second, .unset, .unset, .unset, .unset, .unset, .unset, .unset, .unset, .unset] [(.int (1 : Int32)), (.int ((1 : Int32) <<< (((i2 &&& (2147483647 : Int32)) % (6 : Int32)) &&& 31))), (.int (i3 &&& (63 : Int32)))])) _
    refine XS.isub X3.here hx rfl (hb hby at_52) rfl ?_
    show Steps p.tables e below (T3.setTop (mkF m 53 #[.val (.long j0), .second, .val (.long j1), .second, .val (.int i2), .val (.int i3), .val (.int ((i2 &&& (2147483647 : Int32)) % (6 : Int32))), .val (.int ((1 : Int32) <<< (((i2 &&& (2147483647 : Int32)) % (6 : Int32)) &&& 31))), .val (.ref b1), .val (.long (own_v0_34 j0 j1 i2 i3)), .second, .val (.long (own_v0_42 j0 j1 i2 i3)), .second, .unset, .unset, .unset, .unset, .unset, .unset, .unset, .unset, .unset] [(.int (((1 : Int32) <<< (((i2 &&& (2147483647 : Int32)) % (6 : Int32)) &&& 31)) - (1 : Int32))), (.int (i3 &&& (63 : Int32)))])) _
    refine XS.iconst X3.here hx rfl (hb hby at_53) ?_
    show Steps p.tables e below (T3.setTop (mkF m 54 #[.val (.long j0), .second, .val (.long j1), .second, .val (.int i2), .val (.int i3), .val (.int ((i2 &&& (2147483647 : Int32)) % (6 : Int32))), .val (.int ((1 : Int32) <<< (((i2 &&& (2147483647 : Int32)) % (6 : Int32)) &&& 31))), .val (.ref b1), .val (.long (own_v0_34 j0 j1 i2 i3)), .second, .val (.long (own_v0_42 j0 j1 i2 i3)), .second, .unset, .unset, .unset, .unset, .unset, .unset, .unset, .unset, .unset] [(.int (-1 : Int32)), (.int (((1 : Int32) <<< (((i2 &&& (2147483647 : Int32)) % (6 : Int32)) &&& 31)) - (1 : Int32))), (.int (i3 &&& (63 : Int32)))])) _
    refine XS.ixor X3.here hx rfl (hb hby at_54) rfl ?_
    show Steps p.tables e below (T3.setTop (mkF m 55 #[.val (.long j0), .second, .val (.long j1), .second, .val (.int i2), .val (.int i3), .val (.int ((i2 &&& (2147483647 : Int32)) % (6 : Int32))), .val (.int ((1 : Int32) <<< (((i2 &&& (2147483647 : Int32)) % (6 : Int32)) &&& 31))), .val (.ref b1), .val (.long (own_v0_34 j0 j1 i2 i3)), .second, .val (.long (own_v0_42 j0 j1 i2 i3)), .second, .unset, .unset, .unset, .unset, .unset, .unset, .unset, .unset, .unset] [(.int ((((1 : Int32) <<< (((i2 &&& (2147483647 : Int32)) % (6 : Int32)) &&& 31)) - (1 : Int32)) ^^^ (-1 : Int32))), (.int (i3 &&& (63 : Int32)))])) _
    refine XS.iand X3.here hx rfl (hb hby at_55) rfl ?_
    show Steps p.tables e below (T3.setTop (mkF m 56 #[.val (.long j0), .second, .val (.long j1), .second, .val (.int i2), .val (.int i3), .val (.int ((i2 &&& (2147483647 : Int32)) % (6 : Int32))), .val (.int ((1 : Int32) <<< (((i2 &&& (2147483647 : Int32)) % (6 : Int32)) &&& 31))), .val (.ref b1), .val (.long (own_v0_34 j0 j1 i2 i3)), .second, .val (.long (own_v0_42 j0 j1 i2 i3)), .second, .unset, .unset, .unset, .unset, .unset, .unset, .unset, .unset, .unset] [(.int ((i3 &&& (63 : Int32)) &&& ((((1 : Int32) <<< (((i2 &&& (2147483647 : Int32)) % (6 : Int32)) &&& 31)) - (1 : Int32)) ^^^ (-1 : Int32))))])) _
    refine XS.istore X3.here hx rfl (hb hby at_56) rfl (l' := #[.val (.long j0), .second, .val (.long j1), .second, .val (.int i2), .val (.int i3), .val (.int ((i2 &&& (2147483647 : Int32)) % (6 : Int32))), .val (.int ((1 : Int32) <<< (((i2 &&& (2147483647 : Int32)) % (6 : Int32)) &&& 31))), .val (.ref b1), .val (.long (own_v0_34 j0 j1 i2 i3)), .second, .val (.long (own_v0_42 j0 j1 i2 i3)), .second, .val (.int (own_v0_56 j0 j1 i2 i3)), .unset, .unset, .unset, .unset, .unset, .unset, .unset, .unset]) rfl ?_
    show Steps p.tables e below (T3.setTop (mkF m 58 #[.val (.long j0), .second, .val (.long j1), .second, .val (.int i2), .val (.int i3), .val (.int ((i2 &&& (2147483647 : Int32)) % (6 : Int32))), .val (.int ((1 : Int32) <<< (((i2 &&& (2147483647 : Int32)) % (6 : Int32)) &&& 31))), .val (.ref b1), .val (.long (own_v0_34 j0 j1 i2 i3)), .second, .val (.long (own_v0_42 j0 j1 i2 i3)), .second, .val (.int (own_v0_56 j0 j1 i2 i3)), .unset, .unset, .unset, .unset, .unset, .unset, .unset, .unset] [])) _
    refine XS.lloadN X3.here hx rfl (hb hby at_58) rfl ?_
    show Steps p.tables e below (T3.setTop (mkF m 59 #[.val (.long j0), .second, .val (.long j1), .second, .val (.int i2), .val (.int i3), .val (.int ((i2 &&& (2147483647 : Int32)) % (6 : Int32))), .val (.int ((1 : Int32) <<< (((i2 &&& (2147483647 : Int32)) % (6 : Int32)) &&& 31))), .val (.ref b1), .val (.long (own_v0_34 j0 j1 i2 i3)), .second, .val (.long (own_v0_42 j0 j1 i2 i3)), .second, .val (.int (own_v0_56 j0 j1 i2 i3)), .unset, .unset, .unset, .unset, .unset, .unset, .unset, .unset] [(.long j0)])) _
    refine XS.iload X3.here hx rfl (hb hby at_59) rfl ?_
    show Steps p.tables e below (T3.setTop (mkF m 61 #[.val (.long j0), .second, .val (.long j1), .second, .val (.int i2), .val (.int i3), .val (.int ((i2 &&& (2147483647 : Int32)) % (6 : Int32))), .val (.int ((1 : Int32) <<< (((i2 &&& (2147483647 : Int32)) % (6 : Int32)) &&& 31))), .val (.ref b1), .val (.long (own_v0_34 j0 j1 i2 i3)), .second, .val (.long (own_v0_42 j0 j1 i2 i3)), .second, .val (.int (own_v0_56 j0 j1 i2 i3)), .unset, .unset, .unset, .unset, .unset, .unset, .unset, .unset] [(.int (own_v0_56 j0 j1 i2 i3)), (.long j0)])) _
    refine XS.lushr X3.here hx rfl (hb hby at_61) rfl ?_
    show Steps p.tables e below (T3.setTop (mkF m 62 #[.val (.long j0), .second, .val (.long j1), .second, .val (.int i2), .val (.int i3), .val (.int ((i2 &&& (2147483647 : Int32)) % (6 : Int32))), .val (.int ((1 : Int32) <<< (((i2 &&& (2147483647 : Int32)) % (6 : Int32)) &&& 31))), .val (.ref b1), .val (.long (own_v0_34 j0 j1 i2 i3)), .second, .val (.long (own_v0_42 j0 j1 i2 i3)), .second, .val (.int (own_v0_56 j0 j1 i2 i3)), .unset, .unset, .unset, .unset, .unset, .unset, .unset, .unset] [(.long ((j0.toUInt64 >>> ((own_v0_56 j0 j1 i2 i3) &&& 0x3f).toInt64.toUInt64).toInt64))])) _
    refine XS.lload X3.here hx rfl (hb hby at_62) rfl ?_
    show Steps p.tables e below (T3.setTop (mkF m 64 #[.val (.long j0), .second, .val (.long j1), .second, .val (.int i2), .val (.int i3), .val (.int ((i2 &&& (2147483647 : Int32)) % (6 : Int32))), .val (.int ((1 : Int32) <<< (((i2 &&& (2147483647 : Int32)) % (6 : Int32)) &&& 31))), .val (.ref b1), .val (.long (own_v0_34 j0 j1 i2 i3)), .second, .val (.long (own_v0_42 j0 j1 i2 i3)), .second, .val (.int (own_v0_56 j0 j1 i2 i3)), .unset, .unset, .unset, .unset, .unset, .unset, .unset, .unset] [(.long (own_v0_42 j0 j1 i2 i3)), (.long ((j0.toUInt64 >>> ((own_v0_56 j0 j1 i2 i3) &&& 0x3f).toInt64.toUInt64).toInt64))])) _
    refine XS.land X3.here hx rfl (hb hby at_64) rfl ?_
    show Steps p.tables e below (T3.setTop (mkF m 65 #[.val (.long j0), .second, .val (.long j1), .second, .val (.int i2), .val (.int i3), .val (.int ((i2 &&& (2147483647 : Int32)) % (6 : Int32))), .val (.int ((1 : Int32) <<< (((i2 &&& (2147483647 : Int32)) % (6 : Int32)) &&& 31))), .val (.ref b1), .val (.long (own_v0_34 j0 j1 i2 i3)), .second, .val (.long (own_v0_42 j0 j1 i2 i3)), .second, .val (.int (own_v0_56 j0 j1 i2 i3)), .unset, .unset, .unset, .unset, .unset, .unset, .unset, .unset] [(.long (((j0.toUInt64 >>> ((own_v0_56 j0 j1 i2 i3) &&& 0x3f).toInt64.toUInt64).toInt64) &&& (own_v0_42 j0 j1 i2 i3)))])) _
    refine XS.lstore X3.here hx rfl (hb hby at_65) rfl (l' := #[.val (.long j0), .second, .val (.long j1), .second, .val (.int i2), .val (.int i3), .val (.int ((i2 &&& (2147483647 : Int32)) % (6 : Int32))), .val (.int ((1 : Int32) <<< (((i2 &&& (2147483647 : Int32)) % (6 : Int32)) &&& 31))), .val (.ref b1), .val (.long (own_v0_34 j0 j1 i2 i3)), .second, .val (.long (own_v0_42 j0 j1 i2 i3)), .second, .val (.int (own_v0_56 j0 j1 i2 i3)), .val (.long (own_v0_65 j0 j1 i2 i3)), .second, .unset, .unset, .unset, .unset, .unset, .unset]) rfl ?_
    show Steps p.tables e below (T3.setTop (mkF m 67 #[.val (.long j0), .second, .val (.long j1), .second, .val (.int i2), .val (.int i3), .val (.int ((i2 &&& (2147483647 : Int32)) % (6 : Int32))), .val (.int ((1 : Int32) <<< (((i2 &&& (2147483647 : Int32)) % (6 : Int32)) &&& 31))), .val (.ref b1), .val (.long (own_v0_34 j0 j1 i2 i3)), .second, .val (.long (own_v0_42 j0 j1 i2 i3)), .second, .val (.int (own_v0_56 j0 j1 i2 i3)), .val (.long (own_v0_65 j0 j1 i2 i3)), .second, .unset, .unset, .unset, .unset, .unset, .unset] [])) _
    refine XS.lloadN X3.here hx rfl (hb hby at_67) rfl ?_
    show Steps p.tables e below (T3.setTop (mkF m 68 #[.val (.long j0), .second, .val (.long j1), .second, .val (.int i2), .val (.int i3), .val (.int ((i2 &&& (2147483647 : Int32)) % (6 : Int32))), .val (.int ((1 : Int32) <<< (((i2 &&& (2147483647 : Int32)) % (6 : Int32)) &&& 31))), .val (.ref b1), .val (.long (own_v0_34 j0 j1 i2 i3)), .second, .val (.long (own_v0_42 j0 j1 i2 i3)), .second, .val (.int (own_v0_56 j0 j1 i2 i3)), .val (.long (own_v0_65 j0 j1 i2 i3)), .second, .unset, .unset, .unset, .unset, .unset, .unset] [(.long j1)])) _
    refine XS.iload X3.here hx rfl (hb hby at_68) rfl ?_
    show Steps p.tables e below (T3.setTop (mkF m 70 #[.val (.long j0), .second, .val (.long j1), .second, .val (.int i2), .val (.int i3), .val (.int ((i2 &&& (2147483647 : Int32)) % (6 : Int32))), .val (.int ((1 : Int32) <<< (((i2 &&& (2147483647 : Int32)) % (6 : Int32)) &&& 31))), .val (.ref b1), .val (.long (own_v0_34 j0 j1 i2 i3)), .second, .val (.long (own_v0_42 j0 j1 i2 i3)), .second, .val (.int (own_v0_56 j0 j1 i2 i3)), .val (.long (own_v0_65 j0 j1 i2 i3)), .second, .unset, .unset, .unset, .unset, .unset, .unset] [(.int (own_v0_56 j0 j1 i2 i3)), (.long j1)])) _
    refine XS.lushr X3.here hx rfl (hb hby at_70) rfl ?_
    show Steps p.tables e below (T3.setTop (mkF m 71 #[.val (.long j0), .second, .val (.long j1), .second, .val (.int i2), .val (.int i3), .val (.int ((i2 &&& (2147483647 : Int32)) % (6 : Int32))), .val (.int ((1 : Int32) <<< (((i2 &&& (2147483647 : Int32)) % (6 : Int32)) &&& 31))), .val (.ref b1), .val (.long (own_v0_34 j0 j1 i2 i3)), .second, .val (.long (own_v0_42 j0 j1 i2 i3)), .second, .val (.int (own_v0_56 j0 j1 i2 i3)), .val (.long (own_v0_65 j0 j1 i2 i3)), .second, .unset, .unset, .unset, .unset, .unset, .unset] [(.long ((j1.toUInt64 >>> ((own_v0_56 j0 j1 i2 i3) &&& 0x3f).toInt64.toUInt64).toInt64))])) _
    refine XS.lload X3.here hx rfl (hb hby at_71) rfl ?_
    show Steps p.tables e below (T3.setTop (mkF m 73 #[.val (.long j0), .second, .val (.long j1), .second, .val (.int i2), .val (.int i3), .val (.int ((i2 &&& (2147483647 : Int32)) % (6 : Int32))), .val (.int ((1 : Int32) <<< (((i2 &&& (2147483647 : Int32)) % (6 : Int32)) &&& 31))), .val (.ref b1), .val (.long (own_v0_34 j0 j1 i2 i3)), .second, .val (.long (own_v0_42 j0 j1 i2 i3)), .second, .val (.int (own_v0_56 j0 j1 i2 i3)), .val (.long (own_v0_65 j0 j1 i2 i3)), .second, .unset, .unset, .unset, .unset, .unset, .unset] [(.long (own_v0_42 j0 j1 i2 i3)), (.long ((j1.toUInt64 >>> ((own_v0_56 j0 j1 i2 i3) &&& 0x3f).toInt64.toUInt64).toInt64))])) _
    refine XS.land X3.here hx rfl (hb hby at_73) rfl ?_
    show Steps p.tables e below (T3.setTop (mkF m 74 #[.val (.long j0), .second, .val (.long j1), .second, .val (.int i2), .val (.int i3), .val (.int ((i2 &&& (2147483647 : Int32)) % (6 : Int32))), .val (.int ((1 : Int32) <<< (((i2 &&& (2147483647 : Int32)) % (6 : Int32)) &&& 31))), .val (.ref b1), .val (.long (own_v0_34 j0 j1 i2 i3)), .second, .val (.long (own_v0_42 j0 j1 i2 i3)), .second, .val (.int (own_v0_56 j0 j1 i2 i3)), .val (.long (own_v0_65 j0 j1 i2 i3)), .second, .unset, .unset, .unset, .unset, .unset, .unset] [(.long (((j1.toUInt64 >>> ((own_v0_56 j0 j1 i2 i3) &&& 0x3f).toInt64.toUInt64).toInt64) &&& (own_v0_42 j0 j1 i2 i3)))])) _
    refine XS.lstore X3.here hx rfl (hb hby at_74) rfl (l' := #[.val (.long j0), .second, .val (.long j1), .second, .val (.int i2), .val (.int i3), .val (.int ((i2 &&& (2147483647 : Int32)) % (6 : Int32))), .val (.int ((1 : Int32) <<< (((i2 &&& (2147483647 : Int32)) % (6 : Int32)) &&& 31))), .val (.ref b1), .val (.long (own_v0_34 j0 j1 i2 i3)), .second, .val (.long (own_v0_42 j0 j1 i2 i3)), .second, .val (.int (own_v0_56 j0 j1 i2 i3)), .val (.long (own_v0_65 j0 j1 i2 i3)), .second, .val (.long (own_v0_74 j0 j1 i2 i3)), .second, .unset, .unset, .unset, .unset]) rfl ?_
    show Steps p.tables e below (T3.setTop (mkF m 76 #[.val (.long j0), .second, .val (.long j1), .second, .val (.int i2), .val (.int i3), .val (.int ((i2 &&& (2147483647 : Int32)) % (6 : Int32))), .val (.int ((1 : Int32) <<< (((i2 &&& (2147483647 : Int32)) % (6 : Int32)) &&& 31))), .val (.ref b1), .val (.long (own_v0_34 j0 j1 i2 i3)), .second, .val (.long (own_v0_42 j0 j1 i2 i3)), .second, .val (.int (own_v0_56 j0 j1 i2 i3)), .val (.long (own_v0_65 j0 j1 i2 i3)), .second, .val (.long (own_v0_74 j0 j1 i2 i3)), .second, .unset, .unset, .unset, .unset] [])) _
    refine XS.lload X3.here hx rfl (hb hby at_76) rfl ?_
    show Steps p.tables e below (T3.setTop (mkF m 78 #[.val (.long j0), .second, .val (.long j1), .second, .val (.int i2), .val (.int i3), .val (.int ((i2 &&& (2147483647 : Int32)) % (6 : Int32))), .val (.int ((1 : Int32) <<< (((i2 &&& (2147483647 : Int32)) % (6 : Int32)) &&& 31))), .val (.ref b1), .val (.long (own_v0_34 j0 j1 i2 i3)), .second, .val (.long (own_v0_42 j0 j1 i2 i3)), .second, .val (.int (own_v0_56 j0 j1 i2 i3)), .val (.long (own_v0_65 j0 j1 i2 i3)), .second, .val (.long (own_v0_74 j0 j1 i2 i3)), .second, .unset, .unset, .unset, .unset] [(.long (own_v0_65 j0 j1 i2 i3))])) _
    refine XS.lload X3.here hx rfl (hb hby at_78) rfl ?_
    show Steps p.tables e below (T3.setTop (mkF m 80 #[.val (.long j0), .second, .val (.long j1), .second, .val (.int i2), .val (.int i3), .val (.int ((i2 &&& (2147483647 : Int32)) % (6 : Int32))), .val (.int ((1 : Int32) <<< (((i2 &&& (2147483647 : Int32)) % (6 : Int32)) &&& 31))), .val (.ref b1), .val (.long (own_v0_34 j0 j1 i2 i3)), .second, .val (.long (own_v0_42 j0 j1 i2 i3)), .second, .val (.int (own_v0_56 j0 j1 i2 i3)), .val (.long (own_v0_65 j0 j1 i2 i3)), .second, .val (.long (own_v0_74 j0 j1 i2 i3)), .second, .unset, .unset, .unset, .unset] [(.long (own_v0_74 j0 j1 i2 i3)), (.long (own_v0_65 j0 j1 i2 i3))])) _
    refine XS.ladd X3.here hx rfl (hb hby at_80) rfl ?_
    show Steps p.tables e below (T3.setTop (mkF m 81 #[.val (.long j0), .second, .val (.long j1), .second, .val (.int i2), .val (.int i3), .val (.int ((i2 &&& (2147483647 : Int32)) % (6 : Int32))), .val (.int ((1 : Int32) <<< (((i2 &&& (2147483647 : Int32)) % (6 : Int32)) &&& 31))), .val (.ref b1), .val (.long (own_v0_34 j0 j1 i2 i3)), .second, .val (.long (own_v0_42 j0 j1 i2 i3)), .second, .val (.int (own_v0_56 j0 j1 i2 i3)), .val (.long (own_v0_65 j0 j1 i2 i3)), .second, .val (.long (own_v0_74 j0 j1 i2 i3)), .second, .unset, .unset, .unset, .unset] [(.long ((own_v0_65 j0 j1 i2 i3) + (own_v0_74 j0 j1 i2 i3)))])) _
    refine XS.lload X3.here hx rfl (hb hby at_81) rfl ?_
    exact kt
  obtain ⟨_, _, ⟨T4, L4, k4, n4⟩, -, X4, ⟨Lc4, hQ4, l4, y4, z4⟩, st4⟩ := Jvm.LawKit.callS X3 hx (y := (⟨"java/lang/Math", "min", "(JJ)J"⟩ : MethodName)) hown (mvT hZ (hw _ (List.mem_of_getElem? (i := 29) rfl))) (mvT hZ (hw _ (List.mem_of_getElem? (i := 30) rfl))) (mvT hZ (hw _ (List.mem_of_getElem? (i := 31) rfl))) (mvT hZ (hw _ (List.mem_of_getElem? (i := 32) rfl))) (by decide) (backOf (W := 0) (own_rm5 l Z a0 hw [] ((own_v0_65 j0 j1 i2 i3) + (own_v0_74 j0 j1 i2 i3)) (own_v0_42 j0 j1 i2 i3) T2.heap n0 (Nat.le_trans Z0 K2.1) ) hZ (hw _ (List.mem_of_getElem? (i := 32) rfl)) (hw _ (List.mem_of_getElem? (i := 31) rfl)) (by decide) (by decide)) (g := (mkF m 83 #[.val (.long j0), .second, .val (.long j1), .second, .val (.int i2), .val (.int i3), .val (.int ((i2 &&& (2147483647 : Int32)) % (6 : Int32))), .val (.int ((1 : Int32) <<< (((i2 &&& (2147483647 : Int32)) % (6 : Int32)) &&& 31))), .val (.ref b1), .val (.long (own_v0_34 j0 j1 i2 i3)), .second, .val (.long (own_v0_42 j0 j1 i2 i3)), .second, .val (.int (own_v0_56 j0 j1 i2 i3)), .val (.long (own_v0_65 j0 j1 i2 i3)), .second, .val (.long (own_v0_74 j0 j1 i2 i3)), .second, .unset, .unset, .unset, .unset] [(.long (own_v0_42 j0 j1 i2 i3)), (.long ((own_v0_65 j0 j1 i2 i3) + (own_v0_74 j0 j1 i2 i3)))])) rfl (by rw [hml]; rfl) (argsL := [(.long ((own_v0_65 j0 j1 i2 i3) + (own_v0_74 j0 j1 i2 i3))), (.long (own_v0_42 j0 j1 i2 i3))]) (rest := []) (lenOf own_pd1 rfl) rfl (by show 2 * 0 + _ ≤ _; exact Nat.le_of_eq rfl) (hb hby at_83) (fun _ _ => ⟨rfl, e3, (by decide : 1 + 0 ≤ _), (by decide : 4 + 0 ≤ _)⟩)
  dsimp only [Pt.U, Pt.locs, Pt.cells, Pt.slots] at X4 l4 y4 z4 st4 hQ4
  subst l4 y4 z4
  obtain ⟨rfl, N4q, e4⟩ := hQ4
  have N4 := Fr.app N3 N4q
  refine ownE.go (T' := T4) (f' := (mkF m 86 #[.val (.long j0), .second, .val (.long j1), .second, .val (.int i2), .val (.int i3), .val (.int ((i2 &&& (2147483647 : Int32)) % (6 : Int32))), .val (.int ((1 : Int32) <<< (((i2 &&& (2147483647 : Int32)) % (6 : Int32)) &&& 31))), .val (.ref b1), .val (.long (own_v0_34 j0 j1 i2 i3)), .second, .val (.long (own_v0_42 j0 j1 i2 i3)), .second, .val (.int (own_v0_56 j0 j1 i2 i3)), .val (.long (own_v0_65 j0 j1 i2 i3)), .second, .val (.long (own_v0_74 j0 j1 i2 i3)), .second, .unset, .unset, .unset, .unset] [(.long (own_mn ((own_v0_65 j0 j1 i2 i3) + (own_v0_74 j0 j1 i2 i3)) (own_v0_42 j0 j1 i2 i3)))])) st4 ?_
  refine ownE.go (T' := T4) (f' := (mkF m 103 #[.val (.long j0), .second, .val (.long j1), .second, .val (.int i2), .val (.int i3), .val (.int ((i2 &&& (2147483647 : Int32)) % (6 : Int32))), .val (.int ((1 : Int32) <<< (((i2 &&& (2147483647 : Int32)) % (6 : Int32)) &&& 31))), .val (.ref b1), .val (.long (own_v0_34 j0 j1 i2 i3)), .second, .val (.long (own_v0_42 j0 j1 i2 i3)), .second, .val (.int (own_v0_56 j0 j1 i2 i3)), .val (.long (own_v0_65 j0 j1 i2 i3)), .second, .val (.long (own_v0_74 j0 j1 i2 i3)), .second, .val (.long (own_v0_86 j0 j1 i2 i3)), .second, .val (.long (own_v0_96 j0 j1 i2 i3)), .second] [(.int (Jvm.Free.XT.cmpL (own_v0_96 j0 j1 i2 i3) (own_v0_86 j0 j1 i2 i3)))])) (fun t kt => ?_) ?_
  · show Steps p.tables e below (T4.setTop (mkF m 86 #[.val (.long j0), .second, .val (.long j1), .second, .val (.int i2), .val (.int i3), .val (.int ((i2 &&& (2147483647 : Int32)) % (6 : Int32))), .val (.int ((1 : Int32) <<< (((i2 &&& (2147483647 : Int32)) % (6 : Int32)) &&& 31))), .val (.ref b1), .val (.long (own_v0_34 j0 j1 i2 i3)), .second, .val (.long (own_v0_42 j0 j1 i2 i3)), .second, .val (.int (own_v0_56 j0 j1 i2 i3)), .val (.long (own_v0_65 j0 j1 i2 i3)), .second, .val (.long (own_v0_74 j0 j1 i2 i3)), .second, .unset, .unset, .unset, .unset] [(.long (own_mn ((own_v0_65 j0 j1 i2 i3) + (own_v0_74 j0 j1 i2 i3)) (own_v0_42 j0 j1 i2 i3)))])) _
    refine XS.lstore X4.here hx rfl (hb hby at_86) rfl (l' := #[.val (.long j0), .second, .val (.long j1), .second, .val (.int i2), .val (.int i3), .val (.int ((i2 &&& (2147483647 : Int32)) % (6 : Int32))), .val (.int ((1 : Int32) <<< (((i2 &&& (2147483647 : Int32)) % (6 : Int32)) &&& 31))), .val (.ref b1), .val (.long (own_v0_34 j0 j1 i2 i3)), .second, .val (.long (own_v0_42 j0 j1 i2 i3)), .second, .val (.int (own_v0_56 j0 j1 i2 i3)), .val (.long (own_v0_65 j0 j1 i2 i3)), .second, .val (.long (own_v0_74 j0 j1 i2 i3)), .second, .val (.long (own_v0_86 j0 j1 i2 i3)), .second, .unset, .unset]) rfl ?_
    show Steps p.tables e below (T4.setTop (mkF m 88 #[.val (.long j0), .second, .val (.long j1), .second, .val (.int i2), .val (.int i3), .val (.int ((i2 &&& (2147483647 : Int32)) % (6 : Int32))), .val (.int ((1 : Int32) <<< (((i2 &&& (2147483647 : Int32)) % (6 : Int32)) &&& 31))), .val (.ref b1), .val (.long (own_v0_34 j0 j1 i2 i3)), .second, .val (.long (own_v0_42 j0 j1 i2 i3)), .second, .val (.int (own_v0_56 j0 j1 i2 i3)), .val (.long (own_v0_65 j0 j1 i2 i3)), .second, .val (.long (own_v0_74 j0 j1 i2 i3)), .second, .val (.long (own_v0_86 j0 j1 i2 i3)), .second, .unset, .unset] [])) _
    refine XS.lload X4.here hx rfl (hb hby at_88) rfl ?_
    show Steps p.tables e below (T4.setTop (mkF m 90 #[.val (.long j0), .second, .val (.long j1), .second, .val (.int i2), .val (.int i3), .val (.int ((i2 &&& (2147483647 : Int32)) % (6 : Int32))), .val (.int ((1 : Int32) <<< (((i2 &&& (2147483647 : Int32)) % (6 : Int32)) &&& 31))), .val (.ref b1), .val (.long (own_v0_34 j0 j1 i2 i3)), .second, .val (.long (own_v0_42 j0 j1 i2 i3)), .second, .val (.int (own_v0_56 j0 j1 i2 i3)), .val (.long (own_v0_65 j0 j1 i2 i3)), .second, .val (.long (own_v0_74 j0 j1 i2 i3)), .second, .val (.long (own_v0_86 j0 j1 i2 i3)), .second, .unset, .unset] [(.long (own_v0_34 j0 j1 i2 i3))])) _
    refine XS.iload X4.here hx rfl (hb hby at_90) rfl ?_
    show Steps p.tables e below (T4.setTop (mkF m 92 #[.val (.long j0), .second, .val (.long j1), .second, .val (.int i2), .val (.int i3), .val (.int ((i2 &&& (2147483647 : Int32)) % (6 : Int32))), .val (.int ((1 : Int32) <<< (((i2 &&& (2147483647 : Int32)) % (6 : Int32)) &&& 31))), .val (.ref b1), .val (.long (own_v0_34 j0 j1 i2 i3)), .second, .val (.long (own_v0_42 j0 j1 i2 i3)), .second, .val (.int (own_v0_56 j0 j1 i2 i3)), .val (.long (own_v0_65 j0 j1 i2 i3)), .second, .val (.long (own_v0_74 j0 j1 i2 i3)), .second, .val (.long (own_v0_86 j0 j1 i2 i3)), .second, .unset, .unset] [(.int (own_v0_56 j0 j1 i2 i3)), (.long (own_v0_34 j0 j1 i2 i3))])) _
    refine XS.lushr X4.here hx rfl (hb hby at_92) rfl ?_
    show Steps p.tables e below (T4.setTop (mkF m 93 #[.val (.long j0), .second, .val (.long j1), .second, .val (.int i2), .val (.int i3), .val (.int ((i2 &&& (2147483647 : Int32)) % (6 : Int32))), .val (.int ((1 : Int32) <<< (((i2 &&& (2147483647 : Int32)) % (6 : Int32)) &&& 31))), .val (.ref b1), .val (.long (own_v0_34 j0 j1 i2 i3)), .second, .val (.long (own_v0_42 j0 j1 i2 i3)), .second, .val (.int (own_v0_56 j0 j1 i2 i3)), .val (.long (own_v0_65 j0 j1 i2 i3)), .second, .val (.long (own_v0_74 j0 j1 i2 i3)), .second, .val (.long (own_v0_86 j0 j1 i2 i3)), .second, .unset, .unset] [(.long (((own_v0_34 j0 j1 i2 i3).toUInt64 >>> ((own_v0_56 j0 j1 i2 i3) &&& 0x3f).toInt64.toUInt64).toInt64))])) _
    refine XS.lload X4.here hx rfl (hb hby at_93) rfl ?_
    show Steps p.tables e below (T4.setTop (mkF m 95 #[.val (.long j0), .second, .val (.long j1), .second, .val (.int i2), .val (.int i3), .val (.int ((i2 &&& (2147483647 : Int32)) % (6 : Int32))), .val (.int ((1 : Int32) <<< (((i2 &&& (2147483647 : Int32)) % (6 : Int32)) &&& 31))), .val (.ref b1), .val (.long (own_v0_34 j0 j1 i2 i3)), .second, .val (.long (own_v0_42 j0 j1 i2 i3)), .second, .val (.int (own_v0_56 j0 j1 i2 i3)), .val (.long (own_v0_65 j0 j1 i2 i3)), .second, .val (.long (own_v0_74 j0 j1 i2 i3)), .second, .val (.long (own_v0_86 j0 j1 i2 i3)), .second, .unset, .unset] [(.long (own_v0_42 j0 j1 i2 i3)), (.long (((own_v0_34 j0 j1 i2 i3).toUInt64 >>> ((own_v0_56 j0 j1 i2 i3) &&& 0x3f).toInt64.toUInt64).toInt64))])) _
    refine XS.land X4.here hx rfl (hb hby at_95) rfl ?_
    show Steps p.tables e below (T4.setTop (mkF m 96 #[.val (.long j0), .second, .val (.long j1), .second, .val (.int i2), .val (.int i3), .val (.int ((i2 &&& (2147483647 : Int32)) % (6 : Int32))), .val (.int ((1 : Int32) <<< (((i2 &&& (2147483647 : Int32)) % (6 : Int32)) &&& 31))), .val (.ref b1), .val (.long (own_v0_34 j0 j1 i2 i3)), .second, .val (.long (own_v0_42 j0 j1 i2 i3)), .second, .val (.int (own_v0_56 j0 j1 i2 i3)), .val (.long (own_v0_65 j0 j1 i2 i3)), .second, .val (.long (own_v0_74 j0 j1 i2 i3)), .second, .val (.long (own_v0_86 j0 j1 i2 i3)), .second, .unset, .unset] [(.long ((((own_v0_34 j0 j1 i2 i3).toUInt64 >>> ((own_v0_56 j0 j1 i2 i3) &&& 0x3f).toInt64.toUInt64).toInt64) &&& (own_v0_42 j0 j1 i2 i3)))])) _
    refine XS.lstore X4.here hx rfl (hb hby at_96) rfl (l' := #[.val (.long j0), .second, .val (.long j1), .second, .val (.int i2), .val (.int i3), .val (.int ((i2 &&& (2147483647 : Int32)) % (6 : Int32))), .val (.int ((1 : Int32) <<< (((i2 &&& (2147483647 : Int32)) % (6 : Int32)) &&& 31))), .val (.ref b1), .val (.long (own_v0_34 j0 j1 i2 i3)), .second, .val (.long (own_v0_42 j0 j1 i2 i3)), .second, .val (.int (own_v0_56 j0 j1 i2 i3)), .val (.long (own_v0_65 j0 j1 i2 i3)), .second, .val (.long (own_v0_74 j0 j1 i2 i3)), .second, .val (.long (own_v0_86 j0 j1 i2 i3)), .second, .val (.long (own_v0_96 j0 j1 i2 i3)), .second]) rfl ?_
    show Steps p.tables e below (T4.setTop (mkF m 98 #[.val (.long j0), .second, .val (.long j1), .second, .val (.int i2), .val (.int i3), .val (.int ((i2 &&& (2147483647 : Int32)) % (6 : Int32))), .val (.int ((1 : Int32) <<< (((i2 &&& (2147483647 : Int32)) % (6 : Int32)) &&& 31))), .val (.ref b1), .val (.long (own_v0_34 j0 j1 i2 i3)), .second, .val (.long (own_v0_42 j0 j1 i2 i3)), .second, .val (.int (own_v0_56 j0 j1 i2 i3)), .val (.long (own_v0_65 j0 j1 i2 i3)), .second, .val (.long (own_v0_74 j0 j1 i2 i3)), .second, .val (.long (own_v0_86 j0 j1 i2 i3)), .second, .val (.long (own_v0_96 j0 j1 i2 i3)), .second] [])) _
    refine XS.lload X4.here hx rfl (hb hby at_98) rfl ?_
    show Steps p.tables e below (T4.setTop (mkF m 100 #[.val (.long j0), .second, .val (.long j1), .second, .val (.int i2), .val (.int i3), .val (.int ((i2 &&& (2147483647 : Int32)) % (6 : Int32))), .val (.int ((1 : Int32) <<< (((i2 &&& (2147483647 : Int32)) % (6 : Int32)) &&& 31))), .val (.ref b1), .val (.long (own_v0_34 j0 j1 i2 i3)), .second, .val (.long (own_v0_42 j0 j1 i2 i3)), .second, .val (.int (own_v0_56 j0 j1 i2 i3)), .val (.long (own_v0_65 j0 j1 i2 i3)), .second, .val (.long (own_v0_74 j0 j1 i2 i3)), .second, .val (.long (own_v0_86 j0 j1 i2 i3)), .second, .val (.long (own_v0_96 j0 j1 i2 i3)), .second] [(.long (own_v0_96 j0 j1 i2 i3))])) _
    refine XS.lload X4.here hx rfl (hb hby at_100) rfl ?_
    show Steps p.tables e below (T4.setTop (mkF m 102 #[.val (.long j0), .second, .val (.long j1), .second, .val (.int i2), .val (.int i3), .val (.int ((i2 &&& (2147483647 : Int32)) % (6 : Int32))), .val (.int ((1 : Int32) <<< (((i2 &&& (2147483647 : Int32)) % (6 : Int32)) &&& 31))), .val (.ref b1), .val (.long (own_v0_34 j0 j1 i2 i3)), .second, .val (.long (own_v0_42 j0 j1 i2 i3)), .second, .val (.int (own_v0_56 j0 j1 i2 i3)), .val (.long (own_v0_65 j0 j1 i2 i3)), .second, .val (.long (own_v0_74 j0 j1 i2 i3)), .second, .val (.long (own_v0_86 j0 j1 i2 i3)), .second, .val (.long (own_v0_96 j0 j1 i2 i3)), .second] [(.long (own_v0_86 j0 j1 i2 i3)), (.long (own_v0_96 j0 j1 i2 i3))])) _
    refine XS.lcmp X4.here hx rfl (hb hby at_102) rfl ?_
    exact kt
  by_cases hc5 : (own_v0_96 j0 j1 i2 i3) = (own_v0_86 j0 j1 i2 i3)
  · -- pc 103
    refine ownE.go (T' := T4) (f' := (mkF m 106 #[.val (.long j0), .second, .val (.long j1), .second, .val (.int i2), .val (.int i3), .val (.int ((i2 &&& (2147483647 : Int32)) % (6 : Int32))), .val (.int ((1 : Int32) <<< (((i2 &&& (2147483647 : Int32)) % (6 : Int32)) &&& 31))), .val (.ref b1), .val (.long (own_v0_34 j0 j1 i2 i3)), .second, .val (.long (own_v0_42 j0 j1 i2 i3)), .second, .val (.int (own_v0_56 j0 j1 i2 i3)), .val (.long (own_v0_65 j0 j1 i2 i3)), .second, .val (.long (own_v0_74 j0 j1 i2 i3)), .second, .val (.long (own_v0_86 j0 j1 i2 i3)), .second, .val (.long (own_v0_96 j0 j1 i2 i3)), .second] [])) (fun t kt => XS.ifNo (g := (mkF m 103 #[.val (.long j0), .second, .val (.long j1), .second, .val (.int i2), .val (.int i3), .val (.int ((i2 &&& (2147483647 : Int32)) % (6 : Int32))), .val (.int ((1 : Int32) <<< (((i2 &&& (2147483647 : Int32)) % (6 : Int32)) &&& 31))), .val (.ref b1), .val (.long (own_v0_34 j0 j1 i2 i3)), .second, .val (.long (own_v0_42 j0 j1 i2 i3)), .second, .val (.int (own_v0_56 j0 j1 i2 i3)), .val (.long (own_v0_65 j0 j1 i2 i3)), .second, .val (.long (own_v0_74 j0 j1 i2 i3)), .second, .val (.long (own_v0_86 j0 j1 i2 i3)), .second, .val (.long (own_v0_96 j0 j1 i2 i3)), .second] [(.int (Jvm.Free.XT.cmpL (own_v0_96 j0 j1 i2 i3) (own_v0_86 j0 j1 i2 i3)))])) X4.here hx rfl (hb hby at_103) rfl (Jvm.Free.XT.ll_ne_f hc5) kt) ?_
    refine ownE.go (T' := T4) (f' := (mkF m 111 #[.val (.long j0), .second, .val (.long j1), .second, .val (.int i2), .val (.int i3), .val (.int ((i2 &&& (2147483647 : Int32)) % (6 : Int32))), .val (.int ((1 : Int32) <<< (((i2 &&& (2147483647 : Int32)) % (6 : Int32)) &&& 31))), .val (.ref b1), .val (.long (own_v0_34 j0 j1 i2 i3)), .second, .val (.long (own_v0_42 j0 j1 i2 i3)), .second, .val (.int (own_v0_56 j0 j1 i2 i3)), .val (.long (own_v0_65 j0 j1 i2 i3)), .second, .val (.long (own_v0_74 j0 j1 i2 i3)), .second, .val (.long (own_v0_86 j0 j1 i2 i3)), .second, .val (.long (own_v0_96 j0 j1 i2 i3)), .second] [(.int (1 : Int32))])) (fun t kt => ?_) ?_
    · show Steps p.tables e below (T4.setTop (mkF m 106 #[.val (.long j0), .second, .val (.long j1), .second, .val (.int i2), .val (.int i3), .val (.int ((i2 &&& (2147483647 : Int32)) % (6 : Int32))), .val (.int ((1 : Int32) <<< (((i2 &&& (2147483647 : Int32)) % (6 : Int32)) &&& 31))), .val (.ref b1), .val (.long (own_v0_34 j0 j1 i2 i3)), .second, .val (.long (own_v0_42 j0 j1 i2 i3)), .second, .val (.int (own_v0_56 j0 j1 i2 i3)), .val (.long (own_v0_65 j0 j1 i2 i3)), .second, .val (.long (own_v0_74 j0 j1 i2 i3)), .second, .val (.long (own_v0_86 j0 j1 i2 i3)), .second, .val (.long (own_v0_96 j0 j1 i2 i3)), .second] [])) _
      refine XS.iconst X4.here hx rfl (hb hby at_106) ?_
      show Steps p.tables e below (T4.setTop (mkF m 107 #[.val (.long j0), .second, .val (.long j1), .second, .val (.int i2), .val (.int i3), .val (.int ((i2 &&& (2147483647 : Int32)) % (6 : Int32))), .val (.int ((1 : Int32) <<< (((i2 &&& (2147483647 : Int32)) % (6 : Int32)) &&& 31))), .val (.ref b1), .val (.long (own_v0_34 j0 j1 i2 i3)), .second, .val (.long (own_v0_42 j0 j1 i2 i3)), .second, .val (.int (own_v0_56 j0 j1 i2 i3)), .val (.long (own_v0_65 j0 j1 i2 i3)), .second, .val (.long (own_v0_74 j0 j1 i2 i3)), .second, .val (.long (own_v0_86 j0 j1 i2 i3)), .second, .val (.long (own_v0_96 j0 j1 i2 i3)), .second] [(.int (1 : Int32))])) _
      refine XS.goto X4.here hx rfl (pc0 := 107) (pc' := 111) rfl (hb hby at_107) (by decide) (by decide) ?_
      exact kt
    refine ownE.retN X4 hx hlk (t := .boolean) hret (by simp) (hb hby at_111) ?_ (by decide) (by decide)
    show own_Q0 Z j0 j1 i2 i3 h0 n0 _ T4.heap _
    rw [e4]
    exact ⟨(by rw [own_f0, if_pos hc5] <;> first | rfl | decide), N4, K2⟩
  · -- pc 103
    refine ownE.go (T' := T4) (f' := (mkF m 110 #[.val (.long j0), .second, .val (.long j1), .second, .val (.int i2), .val (.int i3), .val (.int ((i2 &&& (2147483647 : Int32)) % (6 : Int32))), .val (.int ((1 : Int32) <<< (((i2 &&& (2147483647 : Int32)) % (6 : Int32)) &&& 31))), .val (.ref b1), .val (.long (own_v0_34 j0 j1 i2 i3)), .second, .val (.long (own_v0_42 j0 j1 i2 i3)), .second, .val (.int (own_v0_56 j0 j1 i2 i3)), .val (.long (own_v0_65 j0 j1 i2 i3)), .second, .val (.long (own_v0_74 j0 j1 i2 i3)), .second, .val (.long (own_v0_86 j0 j1 i2 i3)), .second, .val (.long (own_v0_96 j0 j1 i2 i3)), .second] [])) (fun t kt => XS.ifYes (g := (mkF m 103 #[.val (.long j0), .second, .val (.long j1), .second, .val (.int i2), .val (.int i3), .val (.int ((i2 &&& (2147483647 : Int32)) % (6 : Int32))), .val (.int ((1 : Int32) <<< (((i2 &&& (2147483647 : Int32)) % (6 : Int32)) &&& 31))), .val (.ref b1), .val (.long (own_v0_34 j0 j1 i2 i3)), .second, .val (.long (own_v0_42 j0 j1 i2 i3)), .second, .val (.int (own_v0_56 j0 j1 i2 i3)), .val (.long (own_v0_65 j0 j1 i2 i3)), .second, .val (.long (own_v0_74 j0 j1 i2 i3)), .second, .val (.long (own_v0_86 j0 j1 i2 i3)), .second, .val (.long (own_v0_96 j0 j1 i2 i3)), .second] [(.int (Jvm.Free.XT.cmpL (own_v0_96 j0 j1 i2 i3) (own_v0_86 j0 j1 i2 i3)))])) X4.here hx rfl (pc0 := 103) (pc' := 110) rfl (hb hby at_103) rfl (Jvm.Free.XT.ll_ne_t hc5) (by decide) (by decide) kt) ?_
    refine ownE.go (T' := T4) (f' := (mkF m 111 #[.val (.long j0), .second, .val (.long j1), .second, .val (.int i2), .val (.int i3), .val (.int ((i2 &&& (2147483647 : Int32)) % (6 : Int32))), .val (.int ((1 : Int32) <<< (((i2 &&& (2147483647 : Int32)) % (6 : Int32)) &&& 31))), .val (.ref b1), .val (.long (own_v0_34 j0 j1 i2 i3)), .second, .val (.long (own_v0_42 j0 j1 i2 i3)), .second, .val (.int (own_v0_56 j0 j1 i2 i3)), .val (.long (own_v0_65 j0 j1 i2 i3)), .second, .val (.long (own_v0_74 j0 j1 i2 i3)), .second, .val (.long (own_v0_86 j0 j1 i2 i3)), .second, .val (.long (own_v0_96 j0 j1 i2 i3)), .second] [(.int (0 : Int32))])) (fun t kt => ?_) ?_
    · show Steps p.tables e below (T4.setTop (mkF m 110 #[.val (.long j0), .second, .val (.long j1), .second, .val (.int i2), .val (.int i3), .val (.int ((i2 &&& (2147483647 : Int32)) % (6 : Int32))), .val (.int ((1 : Int32) <<< (((i2 &&& (2147483647 : Int32)) % (6 : Int32)) &&& 31))), .val (.ref b1), .val (.long (own_v0_34 j0 j1 i2 i3)), .second, .val (.long (own_v0_42 j0 j1 i2 i3)), .second, .val (.int (own_v0_56 j0 j1 i2 i3)), .val (.long (own_v0_65 j0 j1 i2 i3)), .second, .val (.long (own_v0_74 j0 j1 i2 i3)), .second, .val (.long (own_v0_86 j0 j1 i2 i3)), .second, .val (.long (own_v0_96 j0 j1 i2 i3)), .second] [])) _
      refine XS.iconst X4.here hx rfl (hb hby at_110) ?_
      exact kt
    refine ownE.retN X4 hx hlk (t := .boolean) hret (by simp) (hb hby at_111) ?_ (by decide) (by decide)
    show own_Q0 Z j0 j1 i2 i3 h0 n0 _ T4.heap _
    rw [e4]
    exact ⟨(by rw [own_f0, if_neg hc5] <;> first | rfl | decide), N4, K2⟩
/-! cells of a word: x / P % M, with P = 2 ^ s, M = 2 ^ w -/
theorem own_c_and (x y s w : Nat) : (x &&& y) / 2 ^ s % 2 ^ w = (x / 2 ^ s % 2 ^ w) &&& (y / 2 ^ s % 2 ^ w) := by
  rw [← Nat.shiftRight_eq_div_pow, ← Nat.shiftRight_eq_div_pow, ← Nat.shiftRight_eq_div_pow, Nat.shiftRight_and_distrib, Nat.and_mod_two_pow]
theorem own_c_or (x y s w : Nat) : (x ||| y) / 2 ^ s % 2 ^ w = (x / 2 ^ s % 2 ^ w) ||| (y / 2 ^ s % 2 ^ w) := by
  rw [← Nat.shiftRight_eq_div_pow, ← Nat.shiftRight_eq_div_pow, ← Nat.shiftRight_eq_div_pow, Nat.shiftRight_or_distrib, Nat.or_mod_two_pow]
theorem own_c_xor (x y s w : Nat) : (x ^^^ y) / 2 ^ s % 2 ^ w = (x / 2 ^ s % 2 ^ w) ^^^ (y / 2 ^ s % 2 ^ w) := by
  rw [← Nat.shiftRight_eq_div_pow, ← Nat.shiftRight_eq_div_pow, ← Nat.shiftRight_eq_div_pow, Nat.shiftRight_xor_distrib, Nat.xor_mod_two_pow]
theorem own_le_or (x y : Nat) : y ≤ x ||| y := Nat.right_le_or
theorem own_m_and (x y s : Nat) : (x &&& y) % 2 ^ s ≤ y % 2 ^ s := by
  rw [Nat.and_mod_two_pow]; exact Nat.and_le_right
theorem own_m_or (x y s : Nat) : y % 2 ^ s ≤ (x ||| y) % 2 ^ s := by
  rw [Nat.or_mod_two_pow]; exact Nat.right_le_or
/-- division with remainder -/
theorem own_dm (q P r : Nat) (h : r < P) : (q * P + r) / P = q ∧ (q * P + r) % P = r := by
  have hP : 0 < P := by omega
  constructor
  · rw [Nat.add_comm, Nat.add_mul_div_right _ _ hP, Nat.div_eq_of_lt h, Nat.zero_add]
  · rw [Nat.add_comm, Nat.add_mul_mod_self_right]; exact Nat.mod_eq_of_lt h
theorem own_sd (X Y P N : Nat) (hP : 0 < P) (h : Y % P ≤ X % P) (hN : Y ≤ N * P) : (N * P + X - Y) / P = N + X / P - Y / P ∧ (N * P + X - Y) % P = X % P - Y % P := by
  have hy : Y / P ≤ N := by
    have := Nat.div_le_div_right (c := P) hN
    rwa [Nat.mul_div_cancel _ hP] at this
  have eX := Nat.div_add_mod X P
  have eY := Nat.div_add_mod Y P
  have lX := Nat.mod_lt X hP
  generalize X / P = x at *
  generalize Y / P = y at *
  generalize X % P = xl at *
  generalize Y % P = yl at *
  have e : N * P + X - Y = (N + x - y) * P + (xl - yl) := by
    rw [← eX, ← eY, Nat.sub_mul, Nat.add_mul, Nat.mul_comm P x, Nat.mul_comm P y]
    have : y * P ≤ N * P := Nat.mul_le_mul_right _ hy
    omega
  rw [e]
  exact own_dm _ _ _ (by omega)
theorem own_sa (X Y P : Nat) (hP : 0 < P) (h : X % P + Y % P < P) : (X + Y) / P = X / P + Y / P ∧ (X + Y) % P = X % P + Y % P := by
  have eX := Nat.div_add_mod X P
  have eY := Nat.div_add_mod Y P
  generalize X / P = x at *
  generalize Y / P = y at *
  generalize X % P = xl at *
  generalize Y % P = yl at *
  have e : X + Y = (x + y) * P + (xl + yl) := by
    rw [← eX, ← eY, Nat.add_mul, Nat.mul_comm P x, Nat.mul_comm P y]
    omega
  rw [e]
  exact own_dm _ _ _ h
/-- the cell of a word taken modulo a multiple of P * M -/
theorem own_cmod (X P M Q : Nat) : (X % (P * M * Q)) / P % M = X / P % M := by
  rw [Nat.mul_assoc, Nat.mod_mul_right_div_self, Nat.mod_mul_right_mod]
theorem own_mm (X P Q : Nat) : X % (P * Q) % P = X % P := Nat.mod_mul_right_mod X P Q
/-- the difference of two words, cell by cell -/
theorem own_c_sub (X Y P M Q : Nat) (hP : 0 < P) (hM : 0 < M) (hY : Y ≤ P * M * Q) (h1 : Y % P ≤ X % P) (h2 : Y / P % M ≤ X / P % M) : ((P * M * Q + X - Y) % (P * M * Q)) / P % M = X / P % M - Y / P % M := by
  rw [own_cmod]
  have a : P * M * Q = (Q * M) * P := by rw [Nat.mul_assoc, Nat.mul_comm, Nat.mul_comm M Q]
  rw [a] at hY ⊢
  rw [(own_sd X Y P (Q * M) hP h1 hY).1]
  have hy : Y / P ≤ Q * M := by
    have := Nat.div_le_div_right (c := P) hY
    rwa [Nat.mul_div_cancel _ hP] at this
  exact (own_sd (X / P) (Y / P) M Q hM h2 hy).2
theorem own_c_add (X Y P M Q : Nat) (hP : 0 < P) (hM : 0 < M) (h1 : X % P + Y % P < P) (h2 : X / P % M + Y / P % M < M) : ((X + Y) % (P * M * Q)) / P % M = X / P % M + Y / P % M := by
  rw [own_cmod, (own_sa X Y P hP h1).1]
  exact (own_sa (X / P) (Y / P) M hM h2).2
/-- each cell's lowest bit made the whole cell -/
theorem own_c_fill (t P M Q : Nat) (hP : 0 < P) (hM : 1 < M) (h1 : t % P * (M - 1) < P) (h2 : t / P % M ≤ 1) : ((t * (M - 1)) % (P * M * Q)) / P % M = (t / P % M) * (M - 1) := by
  rw [own_cmod]
  have eT := Nat.div_add_mod t P
  have lt := Nat.mod_lt t hP
  have eC := Nat.div_add_mod (t / P) M
  generalize t % P = tl at *
  generalize t / P = q at *
  generalize q % M = tc at *
  generalize q / M = th at *
  have e1 : t * (M - 1) = (q * (M - 1)) * P + tl * (M - 1) := by
    rw [← eT, Nat.add_mul, Nat.mul_comm P q, Nat.mul_assoc, Nat.mul_comm P (M - 1), ← Nat.mul_assoc]
  rw [e1, (own_dm _ _ _ h1).1]
  have e2 : q * (M - 1) = (th * (M - 1)) * M + tc * (M - 1) := by
    rw [← eC, Nat.add_mul, Nat.mul_comm M th, Nat.mul_assoc, Nat.mul_comm M (M - 1), ← Nat.mul_assoc]
  rw [e2]
  refine (own_dm _ _ _ ?_).2
  have : tc * (M - 1) ≤ 1 * (M - 1) := Nat.mul_le_mul_right _ h2
  omega
/-- the highest bits of the cells, brought to their lowest places -/
theorem own_c_top (z HB s v : Nat) (h2 : HB / 2 ^ (s + (v + 1)) % 2 ^ v = 0) : ((z &&& HB) / 2 ^ v) / 2 ^ s % 2 ^ (v + 1) = ((z &&& HB) / 2 ^ s % 2 ^ (v + 1)) / 2 ^ v := by
  have q0 : (z &&& HB) / 2 ^ (s + (v + 1)) % 2 ^ v = 0 := by
    rw [own_c_and, h2, Nat.and_zero]
  generalize z &&& HB = x at *
  rw [Nat.div_div_eq_div_mul, Nat.mul_comm, ← Nat.div_div_eq_div_mul]
  rw [Nat.pow_add, ← Nat.div_div_eq_div_mul] at q0
  generalize x / 2 ^ s = u at *
  have e := Nat.div_add_mod u (2 ^ (v + 1))
  generalize hr : u % 2 ^ (v + 1) = r at *
  have hr' : r < 2 ^ (v + 1) := by rw [← hr]; exact Nat.mod_lt _ (Nat.two_pow_pos _)
  generalize u / 2 ^ (v + 1) = g at *
  have eg := Nat.div_add_mod g (2 ^ v)
  rw [q0, Nat.add_zero] at eg
  generalize g / 2 ^ v = g' at *
  have hv : 0 < 2 ^ v := Nat.two_pow_pos v
  have e2 : u = (g' * 2 ^ (v + 1)) * 2 ^ v + r := by
    rw [← e, ← eg]
    rw [Nat.mul_comm (2 ^ (v + 1)) _, Nat.mul_assoc, Nat.mul_assoc, Nat.mul_comm (2 ^ v), Nat.mul_assoc]
  rw [e2, Nat.add_comm, Nat.add_mul_div_right _ _ hv, Nat.add_comm, Nat.mul_comm, Nat.mul_add_mod]
  refine Nat.mod_eq_of_lt (Nat.lt_of_le_of_lt (Nat.div_le_self _ _) hr')
theorem own_m_top (z HB s v : Nat) : ((z &&& HB) / 2 ^ v) % 2 ^ s ≤ (HB / 2 ^ v) % 2 ^ s := by
  rw [← Nat.shiftRight_eq_div_pow, Nat.shiftRight_and_distrib, ← Nat.shiftRight_eq_div_pow]
  exact own_m_and _ _ _
/-! one cell: v + 1 bits -/
theorem own_tb (x v : Nat) (h : x < 2 ^ (v + 1)) : x.testBit v = decide (2 ^ v ≤ x) := by
  rw [Nat.testBit_eq_decide_div_mod_eq]
  have p : 0 < 2 ^ v := Nat.two_pow_pos v
  rw [Nat.pow_succ] at h
  have l : x / 2 ^ v < 2 := Nat.div_lt_of_lt_mul h
  have q : 2 ^ v ≤ x ↔ 1 ≤ x / 2 ^ v := by rw [Nat.le_div_iff_mul_le p, Nat.one_mul]
  rw [decide_eq_decide, q]
  clear q
  generalize x / 2 ^ v = d at *
  omega
theorem own_lo (x p : Nat) (hp : 0 < p) (h : x < p + p) : x % p = if p ≤ x then x - p else x := by
  split
  · rename_i q
    rw [Nat.mod_eq_sub_mod q]
    exact Nat.mod_eq_of_lt (by omega)
  · exact Nat.mod_eq_of_lt (by omega)
theorem own_dbl (v : Nat) : 2 ^ (v + 1) = 2 ^ v + 2 ^ v := by rw [Nat.pow_succ]; omega

theorem own_top01 (x v : Nat) (h : x < 2 ^ (v + 1)) : x / 2 ^ v = if 2 ^ v ≤ x then 1 else 0 := by
  have p : 0 < 2 ^ v := Nat.two_pow_pos v
  have d := own_dbl v
  split
  · rename_i q
    have : x = 1 * 2 ^ v + (x - 2 ^ v) := by omega
    rw [this]
    exact (own_dm 1 (2 ^ v) (x - 2 ^ v) (by omega)).1
  · exact Nat.div_eq_of_lt (by omega)
theorem own_or_top (x v : Nat) (h : x < 2 ^ (v + 1)) : x ||| 2 ^ v = x % 2 ^ v + 2 ^ v := by
  have p : 0 < 2 ^ v := Nat.two_pow_pos v
  have e := Nat.div_add_mod (x ||| 2 ^ v) (2 ^ v)
  have m : (x ||| 2 ^ v) % 2 ^ v = x % 2 ^ v := by rw [Nat.or_mod_two_pow, Nat.mod_self, Nat.or_zero]
  have d : (x ||| 2 ^ v) / 2 ^ v = 1 := by
    rw [← Nat.shiftRight_eq_div_pow, Nat.shiftRight_or_distrib, Nat.shiftRight_eq_div_pow, Nat.shiftRight_eq_div_pow, Nat.div_self p, own_top01 x v h]
    split <;> rfl
  rw [m, d] at e
  omega
theorem own_xor_top (x v : Nat) (h : x < 2 ^ (v + 1)) : x ^^^ 2 ^ v = if 2 ^ v ≤ x then x - 2 ^ v else x + 2 ^ v := by
  have p : 0 < 2 ^ v := Nat.two_pow_pos v
  have e := Nat.div_add_mod (x ^^^ 2 ^ v) (2 ^ v)
  have e' := Nat.div_add_mod x (2 ^ v)
  have m : (x ^^^ 2 ^ v) % 2 ^ v = x % 2 ^ v := by rw [Nat.xor_mod_two_pow, Nat.mod_self, Nat.xor_zero]
  have d : (x ^^^ 2 ^ v) / 2 ^ v = if 2 ^ v ≤ x then 0 else 1 := by
    rw [← Nat.shiftRight_eq_div_pow, Nat.shiftRight_xor_distrib, Nat.shiftRight_eq_div_pow, Nat.shiftRight_eq_div_pow, Nat.div_self p, own_top01 x v h]
    split <;> rfl
  have t := own_top01 x v h
  rw [m, d] at e
  rw [t] at e'
  split <;> simp_all <;> omega
theorem own_and_low (x v : Nat) : x &&& (2 ^ v ^^^ (2 ^ (v + 1) - 1)) = x % 2 ^ v := by
  have d := own_dbl v
  have p : 0 < 2 ^ v := Nat.two_pow_pos v
  have e : 2 ^ v ^^^ (2 ^ (v + 1) - 1) = 2 ^ v - 1 := by
    rw [Nat.xor_comm, own_xor_top _ _ (by omega), if_pos (by omega)]
    omega
  rw [e, Nat.and_two_pow_sub_one_eq_mod]
theorem own_m_bit (v : Nat) : (2 ^ (v + 1) - 1).testBit v = true := by
  rw [Nat.testBit_two_pow_sub_one]; simp
theorem own_at_top (x v : Nat) : x &&& 2 ^ v = if x.testBit v then 2 ^ v else 0 := by
  apply Nat.eq_of_testBit_eq
  intro i
  rw [Nat.testBit_and, Nat.testBit_two_pow]
  by_cases h : v = i
  · subst h
    cases x.testBit v <;> simp [Nat.testBit_two_pow]
  · cases x.testBit v <;> simp [h, Nat.testBit_two_pow]
/-- which of two cells is the greater, read off the top bit -/
theorem own_min_bit (a b v : Nat) (ha : a < 2 ^ (v + 1)) (hb : b < 2 ^ (v + 1)) :
    ((a &&& (b ^^^ (2 ^ (v + 1) - 1))) ||| (((a ^^^ b) ^^^ (2 ^ (v + 1) - 1)) &&& (a % 2 ^ v + 2 ^ v - b % 2 ^ v))) &&& 2 ^ v = if b ≤ a then 2 ^ v else 0 := by
  have p : 0 < 2 ^ v := Nat.two_pow_pos v
  have dd := own_dbl v
  have hal := Nat.mod_lt a p
  have hbl := Nat.mod_lt b p
  have hd : a % 2 ^ v + 2 ^ v - b % 2 ^ v < 2 ^ (v + 1) := by omega
  rw [own_at_top, Nat.testBit_or, Nat.testBit_and, Nat.testBit_and, Nat.testBit_xor, Nat.testBit_xor, Nat.testBit_xor, own_m_bit, own_tb a v ha, own_tb b v hb, own_tb _ v hd]
  have la := own_lo a _ p (by omega)
  have lb := own_lo b _ p (by omega)
  rw [la, lb]
  clear la lb hal hbl hd
  generalize 2 ^ (v + 1) = M at *
  generalize 2 ^ v = P at *
  by_cases h1 : P ≤ a <;> by_cases h2 : P ≤ b <;> by_cases h3 : b ≤ a <;> simp [h1, h2, h3] <;> omega
theorem own_sum_bit (a b v : Nat) (ha : a < 2 ^ (v + 1)) (hb : b < 2 ^ (v + 1)) :
    (a % 2 ^ v + b % 2 ^ v) ^^^ ((a ^^^ b) &&& 2 ^ v) = if 2 ^ (v + 1) ≤ a + b then a + b - 2 ^ (v + 1) else a + b := by
  have p : 0 < 2 ^ v := Nat.two_pow_pos v
  have dd := own_dbl v
  have hal := Nat.mod_lt a p
  have hbl := Nat.mod_lt b p
  rw [own_at_top, Nat.testBit_xor, own_tb a v ha, own_tb b v hb]
  have la := own_lo a _ p (by omega)
  have lb := own_lo b _ p (by omega)
  have x := own_xor_top (a % 2 ^ v + b % 2 ^ v) v (by omega)
  rw [la, lb] at x ⊢
  generalize 2 ^ (v + 1) = M at *
  generalize 2 ^ v = P at *
  by_cases h1 : P ≤ a <;> by_cases h2 : P ≤ b <;> simp [h1, h2] at x ⊢
  · split <;> omega
  · rw [x]; split <;> split <;> omega
  · rw [x]; split <;> split <;> omega
  · intro q; omega
theorem own_car_bit (a b v S : Nat) (ha : a < 2 ^ (v + 1)) (hb : b < 2 ^ (v + 1)) (hS : S = if 2 ^ (v + 1) ≤ a + b then a + b - 2 ^ (v + 1) else a + b) :
    ((a &&& b) ||| ((a ||| b) &&& (S ^^^ (2 ^ (v + 1) - 1)))) &&& 2 ^ v = if 2 ^ (v + 1) ≤ a + b then 2 ^ v else 0 := by
  have p : 0 < 2 ^ v := Nat.two_pow_pos v
  have dd := own_dbl v
  have hs : S < 2 ^ (v + 1) := by rw [hS]; split <;> omega
  rw [own_at_top, Nat.testBit_or, Nat.testBit_and, Nat.testBit_and, Nat.testBit_or, Nat.testBit_xor, own_m_bit, own_tb a v ha, own_tb b v hb, own_tb S v hs]
  generalize 2 ^ (v + 1) = M at *
  generalize 2 ^ v = P at *
  by_cases h1 : P ≤ a <;> by_cases h2 : P ≤ b <;> by_cases h3 : P ≤ S <;> simp [h1, h2, h3] <;> (split at hS <;> omega)
/-! words as numbers -/
def own_N (x : Int64) : Nat := x.toBitVec.toNat
theorem own_n_and (a b : Int64) : own_N (a &&& b) = own_N a &&& own_N b := by unfold own_N; rw [Int64.toBitVec_and, BitVec.toNat_and]
theorem own_n_or (a b : Int64) : own_N (a ||| b) = own_N a ||| own_N b := by unfold own_N; rw [Int64.toBitVec_or, BitVec.toNat_or]
theorem own_n_xor (a b : Int64) : own_N (a ^^^ b) = own_N a ^^^ own_N b := by unfold own_N; rw [Int64.toBitVec_xor, BitVec.toNat_xor]
theorem own_n_m1 : own_N (-1 : Int64) = 2 ^ 64 - 1 := by decide +kernel
theorem own_n_lt (a : Int64) : own_N a < 2 ^ 64 := a.toBitVec.isLt
theorem own_n_sub (a b : Int64) : own_N (a - b) = (2 ^ 64 + own_N a - own_N b) % 2 ^ 64 := by
  have := own_n_lt b
  unfold own_N at *
  rw [Int64.toBitVec_sub, BitVec.toNat_sub]
  congr 1
  omega
theorem own_n_add (a b : Int64) : own_N (a + b) = (own_N a + own_N b) % 2 ^ 64 := by unfold own_N; rw [Int64.toBitVec_add, BitVec.toNat_add]
theorem own_n_mul (a b : Int64) : own_N (a * b) = (own_N a * own_N b) % 2 ^ 64 := by unfold own_N; rw [Int64.toBitVec_mul, BitVec.toNat_mul]
theorem own_n_inj {a b : Int64} (h : own_N a = own_N b) : a = b := Int64.toBitVec_inj.mp (BitVec.eq_of_toNat_eq h)
theorem own_n_ushr (x : Int64) (q : Int32) (k : Nat) (hk : q.toBitVec.toNat % 64 = k) : own_N ((x.toUInt64 >>> (q &&& 0x3f).toInt64.toUInt64).toInt64) = own_N x / 2 ^ k := by
  obtain ⟨e, l⟩ := sm64 q k hk
  show (x.toUInt64 >>> (q &&& 0x3f).toInt64.toUInt64).toBitVec.toNat = _
  rw [UInt64.toBitVec_shiftRight]
  have e' : (q &&& 0x3f).toInt64.toUInt64.toBitVec = BitVec.ofNat 64 k := e
  rw [e', BitVec.ushiftRight_eq', BitVec.toNat_ushiftRight, BitVec.toNat_umod, BitVec.toNat_ofNat]
  have z : (64 : BitVec 64).toNat = 64 := by decide
  rw [z, Nat.mod_eq_of_lt (show k < 2 ^ 64 by omega), Nat.mod_eq_of_lt l, Nat.shiftRight_eq_div_pow]
  rfl
theorem own_n_toInt (x : Int64) (h : own_N x < 2 ^ 63) : x.toInt = (own_N x : Int) := by
  unfold own_N at *
  show x.toBitVec.toInt = _
  rw [BitVec.toInt_eq_toNat_of_lt (by omega)]
theorem own_mask (n w : Nat) : n &&& (2 ^ w - 1) = n % 2 ^ w := Nat.and_two_pow_sub_one_eq_mod n w
/-- what is asked of the constants -/
def own_ok (HB v s : Nat) : Bool :=
  decide (s + (v + 1) ≤ 64) && (decide ((2 ^ 64 - 1) / 2 ^ s % 2 ^ (v + 1) = 2 ^ (v + 1) - 1) && (decide ((HB ^^^ (2 ^ 64 - 1)) % 2 ^ s ≤ HB % 2 ^ s) && (decide (HB / 2 ^ s % 2 ^ (v + 1) = 2 ^ v) && (decide (HB / 2 ^ (s + (v + 1)) % 2 ^ v = 0) && (decide ((HB / 2 ^ v % 2 ^ s) * (2 ^ (v + 1) - 1) < 2 ^ s) && decide (2 * ((HB ^^^ (2 ^ 64 - 1)) % 2 ^ s) < 2 ^ s))))))
theorem own_okE {HB v s : Nat} (h : own_ok HB v s = true) : s + (v + 1) ≤ 64 ∧ (2 ^ 64 - 1) / 2 ^ s % 2 ^ (v + 1) = 2 ^ (v + 1) - 1 ∧ (HB ^^^ (2 ^ 64 - 1)) % 2 ^ s ≤ HB % 2 ^ s ∧ HB / 2 ^ s % 2 ^ (v + 1) = 2 ^ v ∧ HB / 2 ^ (s + (v + 1)) % 2 ^ v = 0 ∧ (HB / 2 ^ v % 2 ^ s) * (2 ^ (v + 1) - 1) < 2 ^ s ∧ 2 * ((HB ^^^ (2 ^ 64 - 1)) % 2 ^ s) < 2 ^ s := by
  unfold own_ok at h
  simp only [Bool.and_eq_true, decide_eq_true_eq] at h
  exact h
theorem own_64 (s w : Nat) (h : s + w ≤ 64) : (2 : Nat) ^ 64 = 2 ^ s * 2 ^ w * 2 ^ (64 - s - w) := by
  rw [← Nat.pow_add, ← Nat.pow_add]; congr 1; omega
/-- the top bits of the cells, spread over the cells -/
theorem own_fillc (z HB v s : Nat) (cm y : Int64) (ok : own_ok HB v s = true) (hv : 1 ≤ v) (hcm : own_N cm = 2 ^ (v + 1) - 1) (hy : own_N y = (z &&& HB) / 2 ^ v) (t : Bool) (hz : (z / 2 ^ s % 2 ^ (v + 1)) &&& 2 ^ v = if t then 2 ^ v else 0) :
    own_N (y * cm) / 2 ^ s % 2 ^ (v + 1) = if t then 2 ^ (v + 1) - 1 else 0 := by
  obtain ⟨o1, o2, o3, o4, o5, o6, o7⟩ := own_okE ok
  have pP : 0 < 2 ^ s := Nat.two_pow_pos s
  have pv : 0 < 2 ^ v := Nat.two_pow_pos v
  have pM : 1 < 2 ^ (v + 1) := by rw [own_dbl]; omega
  rw [own_n_mul, hcm, hy, own_64 s (v + 1) o1]
  have c1 : (z &&& HB) / 2 ^ v / 2 ^ s % 2 ^ (v + 1) = if t then 1 else 0 := by
    rw [own_c_top z HB s v o5, own_c_and, o4, hz]
    cases t
    · simp
    · simp [Nat.div_self pv]
  have c2 : (z &&& HB) / 2 ^ v % 2 ^ s * (2 ^ (v + 1) - 1) < 2 ^ s := Nat.lt_of_le_of_lt (Nat.mul_le_mul_right _ (own_m_top z HB s v)) o6
  rw [own_c_fill _ _ _ _ pP pM c2 (by rw [c1]; split <;> omega), c1]
  cases t <;> simp

theorem own_core (A B : Int64) (wI : Int32) (v s : Nat) (cm lb hbt : Int64) (hw : ¬ wI = 1) (hv : 1 ≤ v) (hk : (wI - (1 : Int32)).toBitVec.toNat % 64 = v) (hcm : own_N cm = 2 ^ (v + 1) - 1) (ok : own_ok (own_N hbt) v s = true) :
    own_N (own_sum A B wI cm lb hbt) / 2 ^ s % 2 ^ (v + 1) = if 2 ^ (v + 1) - 1 < own_N A / 2 ^ s % 2 ^ (v + 1) + own_N B / 2 ^ s % 2 ^ (v + 1) then 2 ^ (v + 1) - 1 else own_N A / 2 ^ s % 2 ^ (v + 1) + own_N B / 2 ^ s % 2 ^ (v + 1) := by
  obtain ⟨o1, o2, o3, o4, o5, o6, o7⟩ := own_okE ok
  have pP : 0 < 2 ^ s := Nat.two_pow_pos s
  have pM : 0 < 2 ^ (v + 1) := Nat.two_pow_pos _
  have ha : own_N A / 2 ^ s % 2 ^ (v + 1) < 2 ^ (v + 1) := Nat.mod_lt _ pM
  have hb : own_N B / 2 ^ s % 2 ^ (v + 1) < 2 ^ (v + 1) := Nat.mod_lt _ pM
  have D : own_N (own_v4_42 A B wI cm lb hbt) / 2 ^ s % 2 ^ (v + 1) = if 2 ^ (v + 1) ≤ own_N A / 2 ^ s % 2 ^ (v + 1) + own_N B / 2 ^ s % 2 ^ (v + 1) then own_N A / 2 ^ s % 2 ^ (v + 1) + own_N B / 2 ^ s % 2 ^ (v + 1) - 2 ^ (v + 1) else own_N A / 2 ^ s % 2 ^ (v + 1) + own_N B / 2 ^ s % 2 ^ (v + 1) := by
    unfold own_v4_42
    have dd := own_dbl v
    have pv : 0 < 2 ^ v := Nat.two_pow_pos v
    have la := Nat.mod_lt (own_N A / 2 ^ s % 2 ^ (v + 1)) pv
    have lb2 := Nat.mod_lt (own_N B / 2 ^ s % 2 ^ (v + 1)) pv
    have c : ∀ U : Nat, (U &&& (own_N hbt ^^^ (2 ^ 64 - 1))) / 2 ^ s % 2 ^ (v + 1) = U / 2 ^ s % 2 ^ (v + 1) % 2 ^ v := fun U => by rw [own_c_and, own_c_xor, o4, o2, own_and_low]
    have a1 := own_m_and (own_N A) (own_N hbt ^^^ (2 ^ 64 - 1)) s
    have a2 := own_m_and (own_N B) (own_N hbt ^^^ (2 ^ 64 - 1)) s
    rw [own_n_xor, own_n_add, own_n_and, own_n_and, own_n_and, own_n_xor, own_n_xor, own_n_m1, own_c_xor, own_c_and, own_c_xor, o4]
    have cA := c (own_N A)
    have cB := c (own_N B)
    have e64 := own_64 s (v + 1) o1
    have S : ((own_N A &&& (own_N hbt ^^^ (2 ^ 64 - 1))) + (own_N B &&& (own_N hbt ^^^ (2 ^ 64 - 1)))) % 2 ^ 64 / 2 ^ s % 2 ^ (v + 1) = own_N A / 2 ^ s % 2 ^ (v + 1) % 2 ^ v + own_N B / 2 ^ s % 2 ^ (v + 1) % 2 ^ v := by
      generalize own_N A &&& (own_N hbt ^^^ (2 ^ 64 - 1)) = X at *
      generalize own_N B &&& (own_N hbt ^^^ (2 ^ 64 - 1)) = Y at *
      rw [e64, own_c_add X Y _ _ _ pP pM (by omega) (by rw [cA, cB]; omega), cA, cB]
    rw [S]
    exact own_sum_bit _ _ v ha hb
  have F : own_N ((((own_v4_63 A B wI cm lb hbt).toUInt64 >>> ((wI - (1 : Int32)) &&& 0x3f).toInt64.toUInt64).toInt64) * cm) / 2 ^ s % 2 ^ (v + 1) = if decide (2 ^ (v + 1) ≤ own_N A / 2 ^ s % 2 ^ (v + 1) + own_N B / 2 ^ s % 2 ^ (v + 1)) then 2 ^ (v + 1) - 1 else 0 := by
    refine own_fillc ((own_N A &&& own_N B) ||| ((own_N A ||| own_N B) &&& (own_N (own_v4_42 A B wI cm lb hbt) ^^^ (2 ^ 64 - 1)))) (own_N hbt) v s cm _ ok hv hcm ?_ _ ?_
    · rw [own_n_ushr _ _ v hk]
      unfold own_v4_63
      rw [own_n_and, own_n_or, own_n_and, own_n_and, own_n_or, own_n_xor, own_n_m1]
    · rw [own_c_or, own_c_and, own_c_and, own_c_or, own_c_xor, o2, own_car_bit _ _ v _ ha hb D]
      simp
  unfold own_sum
  rw [if_neg hw, own_n_or, own_c_or, F, D]
  generalize own_N A / 2 ^ s % 2 ^ (v + 1) = a at *
  generalize own_N B / 2 ^ s % 2 ^ (v + 1) = b at *
  by_cases h : 2 ^ (v + 1) ≤ a + b
  · simp only [h, decide_true, if_true]
    have h' : 2 ^ (v + 1) - 1 < a + b := by omega
    rw [if_pos h']
    have l : a + b - 2 ^ (v + 1) < 2 ^ (v + 1) := by omega
    apply Nat.eq_of_testBit_eq
    intro i
    rw [Nat.testBit_or, Nat.testBit_two_pow_sub_one]
    by_cases hi : i < v + 1
    · simp [hi]
    · have : (a + b - 2 ^ (v + 1)).testBit i = false := Nat.testBit_lt_two_pow (Nat.lt_of_lt_of_le l (Nat.pow_le_pow_right (by decide) (by omega)))
      simp [hi, this]
  · simp only [h, decide_false, Bool.false_eq_true, if_false]
    have h' : ¬ 2 ^ (v + 1) - 1 < a + b := by omega
    rw [if_neg h', Nat.or_zero]
theorem own_mnN (x y : Int64) (hx : own_N x < 2 ^ 63) (hy : own_N y < 2 ^ 63) : own_N (own_mn x y) = if own_N y < own_N x then own_N y else own_N x := by
  unfold own_mn
  have e : (y < x) ↔ own_N y < own_N x := by
    rw [Int64.lt_iff_toInt_lt, own_n_toInt x hx, own_n_toInt y hy]
    omega
  by_cases h : y < x
  · rw [if_pos h, if_pos (e.mp h)]
  · rw [if_neg h, if_neg (fun q => h (e.mpr q))]
theorem own_fin (R A B mask : Int64) (q : Int32) (s w : Nat) (hs : q.toBitVec.toNat % 64 = s) (hw : w ≤ 32) (hm : own_N mask = 2 ^ w - 1) (H : own_N R / 2 ^ s % 2 ^ w = if 2 ^ w - 1 < own_N A / 2 ^ s % 2 ^ w + own_N B / 2 ^ s % 2 ^ w then 2 ^ w - 1 else own_N A / 2 ^ s % 2 ^ w + own_N B / 2 ^ s % 2 ^ w) :
    ((R.toUInt64 >>> (q &&& 0x3f).toInt64.toUInt64).toInt64) &&& mask = own_mn ((((A.toUInt64 >>> (q &&& 0x3f).toInt64.toUInt64).toInt64) &&& mask) + (((B.toUInt64 >>> (q &&& 0x3f).toInt64.toUInt64).toInt64) &&& mask)) mask := by
  have c : ∀ X : Int64, own_N (((X.toUInt64 >>> (q &&& 0x3f).toInt64.toUInt64).toInt64) &&& mask) = own_N X / 2 ^ s % 2 ^ w := fun X => by rw [own_n_and, own_n_ushr X q s hs, hm, own_mask]
  have pw : 2 ^ w ≤ 2 ^ 32 := Nat.pow_le_pow_right (by decide) hw
  have l : ∀ X : Int64, own_N X / 2 ^ s % 2 ^ w < 2 ^ 32 := fun X => by
    have := Nat.mod_lt (own_N X / 2 ^ s) (Nat.two_pow_pos w)
    omega
  have lA := l A
  have lB := l B
  have ad : own_N ((((A.toUInt64 >>> (q &&& 0x3f).toInt64.toUInt64).toInt64) &&& mask) + (((B.toUInt64 >>> (q &&& 0x3f).toInt64.toUInt64).toInt64) &&& mask)) = own_N A / 2 ^ s % 2 ^ w + own_N B / 2 ^ s % 2 ^ w := by
    rw [own_n_add, c, c]
    exact Nat.mod_eq_of_lt (by omega)
  apply own_n_inj
  rw [own_mnN _ _ (by rw [ad]; omega) (by rw [hm]; omega), c, ad, hm, H]
theorem own_nth (x m : Int32) (k : Nat) (hk : k ≤ 31) (hm : m.toBitVec.toNat = 2 ^ k - 1) : ∃ n : Fin (2 ^ k), x &&& m = Int32.ofInt (n.val : Int) := by
  have h := c_mask x m k hk hm
  have p : 0 < 2 ^ k := Nat.two_pow_pos k
  have l := Int.emod_lt_of_pos x.toInt (show (0 : Int) < ((2 ^ k : Nat) : Int) by omega)
  have g := Int.emod_nonneg x.toInt (show ((2 ^ k : Nat) : Int) ≠ 0 by omega)
  refine ⟨⟨(x.toInt % ((2 ^ k : Nat) : Int)).toNat, by omega⟩, ?_⟩
  show _ = Int32.ofInt ((x.toInt % ((2 ^ k : Nat) : Int)).toNat : Int)
  rw [Int.toNat_of_nonneg g, ← h, Int32.ofInt_toInt]
theorem own_hb1 : own_N (own_hb (2 : Int32)) = 12297829382473034410 := by decide +kernel
theorem own_ok1 : ∀ n : Fin (2 ^ 6), own_ok 12297829382473034410 1 ((Int32.ofInt (n.val : Int) &&& ((1 : Int32) ^^^ (-1 : Int32))).toBitVec.toNat % 64) = true := by decide +kernel
theorem own_hb2 : own_N (own_hb (4 : Int32)) = 9838263505978427528 := by decide +kernel
theorem own_ok2 : ∀ n : Fin (2 ^ 6), own_ok 9838263505978427528 3 ((Int32.ofInt (n.val : Int) &&& ((3 : Int32) ^^^ (-1 : Int32))).toBitVec.toNat % 64) = true := by decide +kernel
theorem own_hb3 : own_N (own_hb (8 : Int32)) = 9259542123273814144 := by decide +kernel
theorem own_ok3 : ∀ n : Fin (2 ^ 6), own_ok 9259542123273814144 7 ((Int32.ofInt (n.val : Int) &&& ((7 : Int32) ^^^ (-1 : Int32))).toBitVec.toNat % 64) = true := by decide +kernel
theorem own_hb4 : own_N (own_hb (16 : Int32)) = 9223512776490647552 := by decide +kernel
theorem own_ok4 : ∀ n : Fin (2 ^ 6), own_ok 9223512776490647552 15 ((Int32.ofInt (n.val : Int) &&& ((15 : Int32) ^^^ (-1 : Int32))).toBitVec.toNat % 64) = true := by decide +kernel
theorem own_hb5 : own_N (own_hb (32 : Int32)) = 9223372039002259456 := by decide +kernel
theorem own_ok5 : ∀ n : Fin (2 ^ 6), own_ok 9223372039002259456 31 ((Int32.ofInt (n.val : Int) &&& ((31 : Int32) ^^^ (-1 : Int32))).toBitVec.toNat % 64) = true := by decide +kernel

theorem own_bit2 (a b : Nat) (ha : a < 2) (hb : b < 2) : a ||| b = if 1 < a + b then 1 else a + b := by
  have h : ∀ x y : Fin 2, x.val ||| y.val = if 1 < x.val + y.val then 1 else x.val + y.val := by decide
  exact h ⟨a, ha⟩ ⟨b, hb⟩
theorem own_law (j0 j1 : Int64) (i2 i3 : Int32) : own_f0 j0 j1 i2 i3 = 1 := by
  unfold own_f0
  rw [if_pos]
  unfold own_v0_96 own_v0_86 own_v0_65 own_v0_74
  rcases own_six i2 with h | h | h | h | h | h
  · have e1 : own_v0_56 j0 j1 i2 i3 = (i3 &&& (63 : Int32)) &&& ((0 : Int32) ^^^ (-1 : Int32)) := by
      unfold own_v0_56; rw [h]; rfl
    have e2 : own_v0_42 j0 j1 i2 i3 = own_cm (1 : Int32) := by
      unfold own_v0_42; rw [h]; rfl
    have e3 : own_v0_34 j0 j1 i2 i3 = own_sum j0 j1 (1 : Int32) (own_cm (1 : Int32)) (own_lb (1 : Int32)) (own_hb (1 : Int32)) := by
      unfold own_v0_34; rw [h]; rfl
    rw [e1, e2, e3]
    refine own_fin _ _ _ _ _ _ 1 rfl (by decide) (by decide +kernel) ?_
    unfold own_sum
    rw [if_pos rfl, own_n_or, own_c_or]
    exact own_bit2 _ _ (Nat.mod_lt _ (by decide)) (Nat.mod_lt _ (by decide))
  · have e1 : own_v0_56 j0 j1 i2 i3 = (i3 &&& (63 : Int32)) &&& ((1 : Int32) ^^^ (-1 : Int32)) := by
      unfold own_v0_56; rw [h]; rfl
    have e2 : own_v0_42 j0 j1 i2 i3 = own_cm (2 : Int32) := by
      unfold own_v0_42; rw [h]; rfl
    have e3 : own_v0_34 j0 j1 i2 i3 = own_sum j0 j1 (2 : Int32) (own_cm (2 : Int32)) (own_lb (2 : Int32)) (own_hb (2 : Int32)) := by
      unfold own_v0_34; rw [h]; rfl
    rw [e1, e2, e3]
    obtain ⟨n, hn⟩ := own_nth i3 (63 : Int32) 6 (by decide) (by decide)
    rw [hn]
    exact own_fin _ _ _ _ _ _ 2 rfl (by decide) (by decide +kernel) (own_core _ _ _ 1 _ _ _ _ (by decide) (by decide) (by decide) (by decide +kernel) (by rw [own_hb1]; exact own_ok1 n))
  · have e1 : own_v0_56 j0 j1 i2 i3 = (i3 &&& (63 : Int32)) &&& ((3 : Int32) ^^^ (-1 : Int32)) := by
      unfold own_v0_56; rw [h]; rfl
    have e2 : own_v0_42 j0 j1 i2 i3 = own_cm (4 : Int32) := by
      unfold own_v0_42; rw [h]; rfl
    have e3 : own_v0_34 j0 j1 i2 i3 = own_sum j0 j1 (4 : Int32) (own_cm (4 : Int32)) (own_lb (4 : Int32)) (own_hb (4 : Int32)) := by
      unfold own_v0_34; rw [h]; rfl
    rw [e1, e2, e3]
    obtain ⟨n, hn⟩ := own_nth i3 (63 : Int32) 6 (by decide) (by decide)
    rw [hn]
    exact own_fin _ _ _ _ _ _ 4 rfl (by decide) (by decide +kernel) (own_core _ _ _ 3 _ _ _ _ (by decide) (by decide) (by decide) (by decide +kernel) (by rw [own_hb2]; exact own_ok2 n))
  · have e1 : own_v0_56 j0 j1 i2 i3 = (i3 &&& (63 : Int32)) &&& ((7 : Int32) ^^^ (-1 : Int32)) := by
      unfold own_v0_56; rw [h]; rfl
    have e2 : own_v0_42 j0 j1 i2 i3 = own_cm (8 : Int32) := by
      unfold own_v0_42; rw [h]; rfl
    have e3 : own_v0_34 j0 j1 i2 i3 = own_sum j0 j1 (8 : Int32) (own_cm (8 : Int32)) (own_lb (8 : Int32)) (own_hb (8 : Int32)) := by
      unfold own_v0_34; rw [h]; rfl
    rw [e1, e2, e3]
    obtain ⟨n, hn⟩ := own_nth i3 (63 : Int32) 6 (by decide) (by decide)
    rw [hn]
    exact own_fin _ _ _ _ _ _ 8 rfl (by decide) (by decide +kernel) (own_core _ _ _ 7 _ _ _ _ (by decide) (by decide) (by decide) (by decide +kernel) (by rw [own_hb3]; exact own_ok3 n))
  · have e1 : own_v0_56 j0 j1 i2 i3 = (i3 &&& (63 : Int32)) &&& ((15 : Int32) ^^^ (-1 : Int32)) := by
      unfold own_v0_56; rw [h]; rfl
    have e2 : own_v0_42 j0 j1 i2 i3 = own_cm (16 : Int32) := by
      unfold own_v0_42; rw [h]; rfl
    have e3 : own_v0_34 j0 j1 i2 i3 = own_sum j0 j1 (16 : Int32) (own_cm (16 : Int32)) (own_lb (16 : Int32)) (own_hb (16 : Int32)) := by
      unfold own_v0_34; rw [h]; rfl
    rw [e1, e2, e3]
    obtain ⟨n, hn⟩ := own_nth i3 (63 : Int32) 6 (by decide) (by decide)
    rw [hn]
    exact own_fin _ _ _ _ _ _ 16 rfl (by decide) (by decide +kernel) (own_core _ _ _ 15 _ _ _ _ (by decide) (by decide) (by decide) (by decide +kernel) (by rw [own_hb4]; exact own_ok4 n))
  · have e1 : own_v0_56 j0 j1 i2 i3 = (i3 &&& (63 : Int32)) &&& ((31 : Int32) ^^^ (-1 : Int32)) := by
      unfold own_v0_56; rw [h]; rfl
    have e2 : own_v0_42 j0 j1 i2 i3 = own_cm (32 : Int32) := by
      unfold own_v0_42; rw [h]; rfl
    have e3 : own_v0_34 j0 j1 i2 i3 = own_sum j0 j1 (32 : Int32) (own_cm (32 : Int32)) (own_lb (32 : Int32)) (own_hb (32 : Int32)) := by
      unfold own_v0_34; rw [h]; rfl
    rw [e1, e2, e3]
    obtain ⟨n, hn⟩ := own_nth i3 (63 : Int32) 6 (by decide) (by decide)
    rw [hn]
    exact own_fin _ _ _ _ _ _ 32 rfl (by decide) (by decide +kernel) (own_core _ _ _ 31 _ _ _ _ (by decide) (by decide) (by decide) (by decide +kernel) (by rw [own_hb5]; exact own_ok5 n))

set_option maxRecDepth 65536 in
set_option maxHeartbeats 40000000 in
theorem comes_1 {Post : Tables → Env → Array Value → State → Outcome → State → Prop} (hpost : ∀ tb e args s v u, (limb_1_1.after args s (.returned v) u = true ∧ limb_1_2.after args s (.returned v) u = true ∧ True) → FrameEnd s (.returned v) u (Jvm.fieldLocs frame_1_writes args s ++ Jvm.arrayLocs frame_1_arrays args s ++ Jvm.staticLocs frame_1_statics s) 16 128 → Post tb e args s (.returned v) u) :
    ArmFor flags0 classFile x code maxLocals ret World_1 tables_1 room_1 Calls_1 rest_1 Pre_1 Post := by
  intro l hfl _ _ p e ha hc hk s m args below hf hA hF happ hP
  obtain ⟨hcalls, hrest, hpre⟩ := hP
  obtain ⟨-, -, -, hnamed, -, -, -, hat⟩ := (Spec.applies_iff hf).mp happ
  obtain ⟨hg, hn⟩ := and_e (Cond.before_iff.mp (show (Jvm.Cond.and given_1 narrow_1).before args s = true from hpre))
  obtain ⟨g1, g2⟩ := and_e hg
  obtain ⟨g3, g4⟩ := and_e g2
  obtain ⟨g5, g6⟩ := and_e g4
  obtain ⟨g7, g8⟩ := and_e g6
  obtain ⟨w0, w1, w2, w3, rfl⟩ : ∃ w0 w1 w2 w3 : Value, args = #[w0, w1, w2, w3] := by
    have hs : args.size = 4 := by simpa [Cond.value, given_1] using g1
    obtain ⟨L⟩ := args
    match L, hs with
    | [w0, w1, w2, w3], _ => exact ⟨w0, w1, w2, w3, rfl⟩
  have hw := fun d (hd : d ∈ tables_1) => atoms_spec (ws := Jvm.Cond.code x code maxLocals ret :: tables_1) hat d (List.mem_cons_of_mem _ hd)
  have hfit : Fit s := fun {y c} hc i hi => by
    obtain ⟨ha, rfl⟩ := Array.getElem?_eq_some_iff.mp hc
    have q := List.all_eq_true.mp ((Array.all_eq_true_iff_forall_mem.mp hF) _ (Array.getElem_mem ha)) i (List.mem_range.mpr hi)
    simpa [Array.getElem?_eq_getElem hi] using q
  obtain ⟨i0, ei0⟩ := isL_v g3
  obtain rfl : w0 = (.long i0) := Option.some.inj ei0
  obtain ⟨i1, ei1⟩ := isL_v g5
  obtain rfl : w1 = (.long i1) := Option.some.inj ei1
  obtain ⟨i2, ei2⟩ := is_v g7
  obtain rfl : w2 = (.int i2) := Option.some.inj ei2
  obtain ⟨i3, ei3⟩ := is_v g8
  obtain rfl : w3 = (.int i3) := Option.some.inj ei3
  obtain ⟨n, o, h1, h2, h3, _, L, rfl, ⟨rfl, N, -⟩, hq⟩ := own_rm0 l s _ hw tables_1 i0 i1 i2 i3  s.heap s.heap.size (Nat.le_refl _)  p e ha hc hk s m _ below hf ((Spec.applies_iff_loose hf).mp happ).1 ⟨rfl, State.Warmed39.refl s, rfl⟩ trivial
  refine ⟨n, _, h1, h2, h3, hpost _ _ _ _ _ _ ⟨Cond.after_iff.mpr rfl, Cond.after_iff.mpr (eq_i res_at (Term.int_eval (1)) (congrArg Value.int (own_law i0 i1 i2 i3))), trivial⟩ ⟨hq.1, hq.2.1, (hq.2.2.sift fun y hy => Or.inr (N y hy)).mono (by decide) (by decide)⟩⟩
theorem main_1_1 : Claimed_1_1 := comes_1 fun _ _ _ _ _ _ h hF => ⟨h.1, hF⟩
theorem main_1_2 : Claimed_1_2 := comes_1 fun _ _ _ _ _ _ h hF => ⟨h.2.1, hF⟩
end Jvm.Pilot.@@N@@
namespace Jvm.Pilot.@@N@@
open Jvm Jvm.ClassFile Sem Op Lib Jvm.Free Jvm.Stand Jvm.Pilot.@@N@@.Jvm.D
/-! MADE BY PROGRAM (witnessworld.py) out of the Statement's table words and the real class files: 15 classes; the members and pool entries that the words name. The judged class is class 1, her method 1. -/
namespace start1
open Jvm.ClassFile
def u (s : String) : CpInfo := .utf8 (stringToUtf16 s)
/-- a pool by its gaps: so many unusable entries, then the entry; so many at the end -/
def gap : Nat → List CpInfo → List CpInfo
  | 0, r => r
  | n + 1, r => .unusable :: gap n r
def poolList (es : List (Nat × CpInfo)) (last : Nat) : List CpInfo := es.foldr (fun e r => gap e.1 (e.2 :: r)) (gap last [])
def pool (es : List (Nat × CpInfo)) (last : Nat) : Array CpInfo := ⟨poolList es last⟩
def fileOf (pool : Array CpInfo) (this : Nat) (attrs : Array Attribute := #[]) (ms : Array MethodInfo := #[]) (fl : Nat := 33) (sup : Nat := 0) (ifs : Array Nat := #[]) (fds : Array FieldInfo := #[]) : ClassFile where
  minorVersion := 0
  majorVersion := 65
  constantPool := pool
  accessFlags := fl
  thisClass := this
  superClass := sup
  interfaces := ifs
  fields := fds
  methods := ms
  attributes := attrs
def plain (name : String) (sup : Option ClassId) : Class where
  name := name
  kind := .ordinary
  loader := none
  accessFlags := 33
  super := sup
  interfaces := #[]
  cf := none
  fields := #[]
  methods := #[]
  instanceTypes := #[]
  staticTypes := #[]
  resolved := #[]
  callSites := []
  init := .initialized
  statics := none
  mirror := none

def pool0 : Array CpInfo := pool [(5, u "<init>"), (0, u "()V"), (1, .class_ 10), (1, u "java/lang/Object")] 113

def k0c0 : Code := { maxStack := 0, maxLocals := 1, code := object_method_1_code, exceptionTable := #[], attributes := #[] }
def k0m0 : Method := { name := "<init>", desc := "()V", sig := { parameters := [], returnType := none }, accessFlags := 1, code := some k0c0 }
/-- java/lang/Object -/
def k0 : Class := { plain "java/lang/Object" none with
  accessFlags := 33
  interfaces := #[]
  cf := some (fileOf pool0 8 #[] #[{ accessFlags := 1, nameIndex := 5, descriptorIndex := 6, attributes := #[] }] 33 0 #[] #[])
  fields := #[]
  methods := #[k0m0]
  instanceTypes := #[]
  staticTypes := #[]
  resolved := Array.replicate 124 none
  statics := none }

def pool1 : Array CpInfo := pool [(2, .class_ 4), (1, u "java/lang/Object"), (0, u "<init>"), (0, u "()V"), (0, .integer 2147483647), (0, .class_ 9), (0, u "com/example/upper_falls/upperfalls/CellWords"), (0, .methodref 8 11), (0, .nameAndType 5 12), (0, u "(I)V"), (0, .methodref 8 14), (0, .nameAndType 15 16), (0, u "saturatingSum"), (0, u "(JJ)J"), (0, .methodref 18 19), (0, .class_ 20), (0, .nameAndType 21 16), (0, u "java/lang/Math"), (0, u "min"), (0, .class_ 23), (0, u "com/example/upper_falls/upperfalls/CellWordsSaturatingSumPinLaw"), (2, u "law"), (0, u "(JJII)Z")] 3

def k1m0 : Method := { name := "<init>", desc := "()V", sig := { parameters := [], returnType := none }, accessFlags := 1, code := none }
def k1c1 : Code := { maxStack := 5, maxLocals := 22, code := code, exceptionTable := #[], attributes := #[] }
def k1m1 : Method := { name := "law", desc := "(JJII)Z", sig := { parameters := [.long, .long, .int, .int], returnType := some .boolean }, accessFlags := 9, code := some k1c1 }
/-- com/example/upper_falls/upperfalls/CellWordsSaturatingSumPinLaw -/
def k1 : Class := { plain "com/example/upper_falls/upperfalls/CellWordsSaturatingSumPinLaw" (some 0) with
  accessFlags := 49
  interfaces := #[]
  cf := some (fileOf pool1 22 #[] #[{ accessFlags := 1, nameIndex := 5, descriptorIndex := 6, attributes := #[] }, { accessFlags := 9, nameIndex := 26, descriptorIndex := 27, attributes := #[] }] 49 2 #[] #[])
  fields := #[]
  methods := #[k1m0, k1m1]
  instanceTypes := #[]
  staticTypes := #[]
  resolved := Array.replicate 31 none
  statics := none }

def pool2 : Array CpInfo := pool [(1, .methodref 2 3), (0, .class_ 4), (0, .nameAndType 5 6), (0, u "java/lang/Object"), (0, u "<init>"), (0, u "()V"), (0, .fieldref 8 9), (0, .class_ 10), (0, .nameAndType 11 12), (0, u "com/example/upper_falls/upperfalls/CellWords"), (0, u "width"), (0, u "I"), (0, .fieldref 8 14), (0, .nameAndType 15 16), (0, u "cellMask"), (0, u "J"), (0, .long 18446744073709551615), (1, .methodref 20 21), (0, .class_ 22), (0, .nameAndType 23 24), (0, u "java/lang/Long"), (0, u "divideUnsigned"), (0, u "(JJ)J"), (0, .fieldref 8 26), (0, .nameAndType 27 16), (0, u "lowBits"), (0, .fieldref 8 29), (0, .nameAndType 30 16), (0, u "highBits"), (4, u "(I)V"), (5, u "saturatingSum")] 3

def k2c0 : Code := { maxStack := 5, maxLocals := 2, code := prog_5_method_1_code, exceptionTable := #[], attributes := #[] }
def k2m0 : Method := { name := "<init>", desc := "(I)V", sig := { parameters := [.int], returnType := none }, accessFlags := 0, code := some k2c0 }
def k2c1 : Code := { maxStack := 8, maxLocals := 9, code := prog_5_method_4_code, exceptionTable := #[], attributes := #[] }
def k2m1 : Method := { name := "saturatingSum", desc := "(JJ)J", sig := { parameters := [.long, .long], returnType := some .long }, accessFlags := 0, code := some k2c1 }
/-- com/example/upper_falls/upperfalls/CellWords -/
def k2 : Class := { plain "com/example/upper_falls/upperfalls/CellWords" (some 0) with
  accessFlags := 48
  interfaces := #[]
  cf := some (fileOf pool2 8 #[] #[{ accessFlags := 0, nameIndex := 5, descriptorIndex := 35, attributes := #[] }, { accessFlags := 0, nameIndex := 41, descriptorIndex := 24, attributes := #[] }] 48 2 #[] #[{ accessFlags := 18, nameIndex := 11, descriptorIndex := 12, attributes := #[] }, { accessFlags := 18, nameIndex := 15, descriptorIndex := 16, attributes := #[] }, { accessFlags := 18, nameIndex := 27, descriptorIndex := 16, attributes := #[] }, { accessFlags := 18, nameIndex := 30, descriptorIndex := 16, attributes := #[] }])
  fields := #[{ name := "width", type := .int, accessFlags := 18, slot := 0, constantValue := 0 }, { name := "cellMask", type := .long, accessFlags := 18, slot := 1, constantValue := 0 }, { name := "lowBits", type := .long, accessFlags := 18, slot := 2, constantValue := 0 }, { name := "highBits", type := .long, accessFlags := 18, slot := 3, constantValue := 0 }]
  methods := #[k2m0, k2m1]
  instanceTypes := #[.int, .long, .long, .long]
  staticTypes := #[]
  resolved := Array.replicate 45 none
  statics := none }

def pool3 : Array CpInfo := pool [(1, .class_ 2), (0, u "java/io/Serializable"), (0, .class_ 4), (0, u "java/lang/Object")] 2

/-- java/io/Serializable -/
def k3 : Class := { plain "java/io/Serializable" (some 0) with
  accessFlags := 1537
  interfaces := #[]
  cf := some (fileOf pool3 1 #[] #[] 1537 3 #[] #[])
  fields := #[]
  methods := #[]
  instanceTypes := #[]
  staticTypes := #[]
  resolved := Array.replicate 7 none
  statics := none }

def pool4 : Array CpInfo := pool [(2, .class_ 4), (1, u "java/lang/Object"), (0, u "<init>"), (0, u "()V"), (1, .class_ 10), (1, u "java/lang/Number"), (2, .class_ 14), (0, u "java/io/Serializable"), (0, u "serialVersionUID"), (0, u "J")] 20

def k4m0 : Method := { name := "<init>", desc := "()V", sig := { parameters := [], returnType := none }, accessFlags := 1, code := none }
/-- java/lang/Number -/
def k4 : Class := { plain "java/lang/Number" (some 0) with
  accessFlags := 1057
  interfaces := #[3]
  cf := some (fileOf pool4 8 #[] #[{ accessFlags := 1, nameIndex := 5, descriptorIndex := 6, attributes := #[] }] 1057 2 #[13] #[{ accessFlags := 26, nameIndex := 15, descriptorIndex := 16, attributes := #[] }])
  fields := #[{ name := "serialVersionUID", type := .long, accessFlags := 26, slot := 0, constantValue := 0 }]
  methods := #[k4m0]
  instanceTypes := #[]
  staticTypes := #[.long]
  resolved := Array.replicate 37 none
  statics := none }

def pool5 : Array CpInfo := pool [(1, .class_ 2), (0, u "java/lang/Comparable"), (0, .class_ 4), (0, u "java/lang/Object")] 7

/-- java/lang/Comparable -/
def k5 : Class := { plain "java/lang/Comparable" (some 0) with
  accessFlags := 1537
  interfaces := #[]
  cf := some (fileOf pool5 1 #[] #[] 1537 3 #[] #[])
  fields := #[]
  methods := #[]
  instanceTypes := #[]
  staticTypes := #[]
  resolved := Array.replicate 12 none
  statics := none }

def pool6 : Array CpInfo := pool [(1, .class_ 2), (0, u "java/lang/constant/Constable"), (0, .class_ 4), (0, u "java/lang/Object")] 6

/-- java/lang/constant/Constable -/
def k6 : Class := { plain "java/lang/constant/Constable" (some 0) with
  accessFlags := 1537
  interfaces := #[]
  cf := some (fileOf pool6 1 #[] #[] 1537 3 #[] #[])
  fields := #[]
  methods := #[]
  instanceTypes := #[]
  staticTypes := #[]
  resolved := Array.replicate 11 none
  statics := none }

def pool7 : Array CpInfo := pool [(1, .class_ 2), (0, u "java/lang/constant/ConstantDesc"), (0, .class_ 4), (0, u "java/lang/Object")] 32

/-- java/lang/constant/ConstantDesc -/
def k7 : Class := { plain "java/lang/constant/ConstantDesc" (some 0) with
  accessFlags := 1537
  interfaces := #[]
  cf := some (fileOf pool7 1 #[] #[] 1537 3 #[] #[])
  fields := #[]
  methods := #[]
  instanceTypes := #[]
  staticTypes := #[]
  resolved := Array.replicate 37 none
  statics := none }

def pool8 : Array CpInfo := pool [(1, .class_ 2), (0, u "java/lang/Long"), (232, .class_ 237), (1, u "java/lang/Long$LongCache"), (33, .class_ 272), (0, u "java/lang/Number"), (2, u "value"), (0, u "J"), (29, .long 18446744073709551615), (26, u "(JJ)J"), (27, u "TYPE"), (0, u "Ljava/lang/Class;"), (0, .class_ 364), (0, u "java/lang/Comparable"), (0, .class_ 366), (0, u "java/lang/constant/Constable"), (0, .class_ 368), (0, u "java/lang/constant/ConstantDesc"), (0, u "MIN_VALUE"), (1, u "MAX_VALUE"), (4, u "SIZE"), (0, u "I"), (1, u "BYTES"), (1, u "serialVersionUID"), (88, u "divideUnsigned")] 53

def k8c0 : Code := { maxStack := 8, maxLocals := 8, code := jdk_35_method_44_code, exceptionTable := #[], attributes := #[] }
def k8m0 : Method := { name := "divideUnsigned", desc := "(JJ)J", sig := { parameters := [.long, .long], returnType := some .long }, accessFlags := 9, code := some k8c0 }
/-- java/lang/Long -/
def k8 : Class := { plain "java/lang/Long" (some 4) with
  accessFlags := 49
  interfaces := #[5, 6, 7]
  cf := some (fileOf pool8 1 #[.nestMembers #[235]] #[{ accessFlags := 9, nameIndex := 470, descriptorIndex := 333, attributes := #[] }] 49 271 #[363, 365, 367] #[{ accessFlags := 25, nameIndex := 369, descriptorIndex := 276, attributes := #[] }, { accessFlags := 25, nameIndex := 371, descriptorIndex := 276, attributes := #[] }, { accessFlags := 25, nameIndex := 361, descriptorIndex := 362, attributes := #[] }, { accessFlags := 18, nameIndex := 275, descriptorIndex := 276, attributes := #[] }, { accessFlags := 25, nameIndex := 376, descriptorIndex := 377, attributes := #[] }, { accessFlags := 25, nameIndex := 379, descriptorIndex := 377, attributes := #[] }, { accessFlags := 26, nameIndex := 381, descriptorIndex := 276, attributes := #[] }])
  fields := #[{ name := "MIN_VALUE", type := .long, accessFlags := 25, slot := 0, constantValue := 0 }, { name := "MAX_VALUE", type := .long, accessFlags := 25, slot := 1, constantValue := 0 }, { name := "TYPE", type := (.object "java/lang/Class"), accessFlags := 25, slot := 2, constantValue := 0 }, { name := "value", type := .long, accessFlags := 18, slot := 0, constantValue := 0 }, { name := "SIZE", type := .int, accessFlags := 25, slot := 3, constantValue := 0 }, { name := "BYTES", type := .int, accessFlags := 25, slot := 4, constantValue := 0 }, { name := "serialVersionUID", type := .long, accessFlags := 26, slot := 5, constantValue := 0 }]
  methods := #[k8m0]
  instanceTypes := #[.long]
  staticTypes := #[.long, .long, (.object "java/lang/Class"), .int, .int, .long]
  resolved := Array.replicate 524 none
  statics := none }

def pool9 : Array CpInfo := pool [(1, .class_ 2), (0, u "java/lang/Math"), (1, .class_ 6), (1, u "java/lang/Object"), (0, u "<init>"), (0, u "()V"), (89, .class_ 100), (1, u "java/lang/Math$RandomNumberGeneratorHolder"), (20, u "(JJ)J"), (50, u "negativeZeroFloatBits"), (0, u "J"), (2, u "negativeZeroDoubleBits"), (24, u "min"), (43, u "$assertionsDisabled"), (0, u "Z"), (91, u "twoToTheDoubleScaleDown"), (0, u "D"), (4, u "twoToTheDoubleScaleUp"), (9, u "E"), (3, u "PI"), (2, u "TAU"), (2, u "DEGREES_TO_RADIANS"), (0, u "RADIANS_TO_DEGREES")] 94

def k9m0 : Method := { name := "<init>", desc := "()V", sig := { parameters := [], returnType := none }, accessFlags := 2, code := none }
def k9c1 : Code := { maxStack := 4, maxLocals := 4, code := jdk_29_method_70_code, exceptionTable := #[], attributes := #[] }
def k9m1 : Method := { name := "min", desc := "(JJ)J", sig := { parameters := [.long, .long], returnType := some .long }, accessFlags := 9, code := some k9c1 }
/-- java/lang/Math -/
def k9 : Class := { plain "java/lang/Math" (some 0) with
  accessFlags := 49
  interfaces := #[]
  cf := some (fileOf pool9 1 #[.nestMembers #[98]] #[{ accessFlags := 2, nameIndex := 7, descriptorIndex := 8, attributes := #[] }, { accessFlags := 9, nameIndex := 201, descriptorIndex := 121, attributes := #[] }] 49 4 #[] #[{ accessFlags := 25, nameIndex := 354, descriptorIndex := 339, attributes := #[] }, { accessFlags := 25, nameIndex := 358, descriptorIndex := 339, attributes := #[] }, { accessFlags := 25, nameIndex := 361, descriptorIndex := 339, attributes := #[] }, { accessFlags := 26, nameIndex := 364, descriptorIndex := 339, attributes := #[] }, { accessFlags := 26, nameIndex := 365, descriptorIndex := 339, attributes := #[] }, { accessFlags := 26, nameIndex := 172, descriptorIndex := 173, attributes := #[] }, { accessFlags := 26, nameIndex := 176, descriptorIndex := 173, attributes := #[] }, { accessFlags := 8, nameIndex := 344, descriptorIndex := 339, attributes := #[] }, { accessFlags := 8, nameIndex := 338, descriptorIndex := 339, attributes := #[] }, { accessFlags := 4120, nameIndex := 245, descriptorIndex := 246, attributes := #[] }])
  fields := #[{ name := "E", type := .double, accessFlags := 25, slot := 0, constantValue := 0 }, { name := "PI", type := .double, accessFlags := 25, slot := 1, constantValue := 0 }, { name := "TAU", type := .double, accessFlags := 25, slot := 2, constantValue := 0 }, { name := "DEGREES_TO_RADIANS", type := .double, accessFlags := 26, slot := 3, constantValue := 0 }, { name := "RADIANS_TO_DEGREES", type := .double, accessFlags := 26, slot := 4, constantValue := 0 }, { name := "negativeZeroFloatBits", type := .long, accessFlags := 26, slot := 5, constantValue := 0 }, { name := "negativeZeroDoubleBits", type := .long, accessFlags := 26, slot := 6, constantValue := 0 }, { name := "twoToTheDoubleScaleUp", type := .double, accessFlags := 8, slot := 7, constantValue := 0 }, { name := "twoToTheDoubleScaleDown", type := .double, accessFlags := 8, slot := 8, constantValue := 0 }, { name := "$assertionsDisabled", type := .boolean, accessFlags := 4120, slot := 9, constantValue := 0 }]
  methods := #[k9m0, k9m1]
  instanceTypes := #[]
  staticTypes := #[.double, .double, .double, .double, .double, .long, .long, .double, .double, .boolean]
  resolved := Array.replicate 460 none
  statics := none }

def pool10 : Array CpInfo := pool [(1, u "java/lang/Cloneable"), (0, .class_ 1), (0, u "java/lang/Object"), (0, .class_ 3)] 3

/-- java/lang/Cloneable -/
def k10 : Class := { plain "java/lang/Cloneable" (some 0) with
  accessFlags := 1537
  interfaces := #[]
  cf := some (fileOf pool10 2 #[] #[] 1537 4 #[] #[])
  fields := #[]
  methods := #[]
  instanceTypes := #[]
  staticTypes := #[]
  resolved := Array.replicate 8 none
  statics := none }

/-- the primitive byte -/
def k11 : Class := { plain "byte" none with kind := .primitive 'B', accessFlags := 0x411 }
/-- [B -/
def k12 : Class := { plain "[B" (some 0) with kind := .array 11 .byte, interfaces := #[10, 3], accessFlags := 1041 }

/-- the primitive int -/
def k13 : Class := { plain "int" none with kind := .primitive 'I', accessFlags := 0x411 }
/-- [I -/
def k14 : Class := { plain "[I" (some 0) with kind := .array 13 .int, interfaces := #[10, 3], accessFlags := 1041 }

def heap : Heap := #[]
def classes : Array Class := #[k0, k1, k2, k3, k4, k5, k6, k7, k8, k9, k10, k11, k12, k13, k14]
def interned : List (Array UInt16 × Addr) := []
def slotsUsed : Nat := 0
def theMethod : MethodId := ⟨1, 1⟩
def args0 : Array Value := #[.long 5, .long 5, .int 5, .int 5]
def aboutOver (below : List Frame) : State where
  vm := { classes := classes, interned := interned.toArray }
  heap := heap
  slotsUsed := slotsUsed
  threads := #[{ frames := .invoking theMethod args0 :: below }]
def below0 : List Frame := [.native { method := ⟨0, 0⟩, args := #[] }]
def about1 : State := aboutOver below0
def p0 : Program := .bare "" "" ""
def e0 : Env := launch0.env 0 0 0
theorem w_frames : about1.frames = Frame.invoking theMethod args0 :: below0 := rfl
set_option maxRecDepth 65536 in
theorem w_args : argsFit about1.vm theMethod args0 = true := by decide +kernel
set_option maxRecDepth 65536 in
theorem w_heap : heapFits about1 = true := by decide +kernel
set_option maxRecDepth 65536 in
theorem w_runnable : about1.curStatus? = some .runnable := by decide +kernel
set_option maxRecDepth 65536 in
theorem w_alone : about1.alone = true := by decide +kernel
set_option maxRecDepth 65536 in
theorem w_named : about1.methodNamed? x = some theMethod := by decide +kernel
set_option maxRecDepth 65536 in
theorem w_hears : about1.hears theMethod below0 = true := by decide +kernel
set_option maxRecDepth 65536 in
theorem w_ripe : about1.ripe theMethod args0 below0 = true := by decide +kernel
theorem w_running : about1.status = .running := rfl
set_option maxRecDepth 65536 in
theorem w_room : about1.hasRoom e0.platform room_1 = true :=
  launch0.hasRoom_least _ room_1 (by decide +kernel) (by decide +kernel) (by decide +kernel) (by decide +kernel) (by decide +kernel) (by decide +kernel)
theorem allAtoms_all (ts : List Jvm.Cond) (a : Array Jvm.Value) (st : Jvm.State) : (allAtoms ts).before a st = ts.all (fun c => c.before a st) := by
  induction ts with
  | nil => rfl
  | cons c t ih =>
    show (Jvm.Cond.and c (allAtoms t)).before a st = _
    rw [Jvm.Cond.before_and, ih, List.all_cons]
def words1 : List Jvm.Cond := Jvm.Cond.code x code maxLocals ret :: tables_1
/-- a 'code' word, met by the world's own term for the bytes: nothing is compared byte by byte -/
theorem code_word {y : MethodName} {bytes : ByteArray} {mx : Nat} {rt : Option FieldType} {a : Array Value} {s : State} {m : MethodId} {meth : Method} {c : Code} (h1 : s.methodNamed? y = some m) (h2 : s.vm.method? m = some meth) (h3 : meth.code = some c) (h4 : c.code = bytes)
    (h5 : (c.maxLocals == mx && c.exceptionTable.isEmpty && decide (c.maxStack ≤ mostOperands) && decide (meth.sig.returnType = rt) && !meth.locks && decide (parseMethodDescriptor y.desc = some meth.sig)) = true) : (Jvm.Cond.code y bytes mx rt).before a s = true := by
  simp only [Bool.and_eq_true, beq_iff_eq, Bool.not_eq_true', decide_eq_true_eq] at h5
  obtain ⟨⟨⟨⟨⟨g1, g2⟩, g3⟩, g4⟩, g5⟩, g6⟩ := h5
  simp [Cond.before, Cond.holds, Cond.value, h1, h2, h3, h4, g1, g2, g3, g4, g5, g6]
def isCode : Jvm.Cond → Bool
  | .code _ _ _ _ => true
  | _ => false
theorem all_split {L : List Jvm.Cond} {P : Jvm.Cond → Bool} (h1 : L.all (fun c => isCode c || P c) = true) (h2 : ∀ c ∈ L.filter isCode, P c = true) : L.all P = true := by
  refine List.all_eq_true.mpr fun c hc => ?_
  have h := List.all_eq_true.mp h1 c hc
  rcases Bool.eq_false_or_eq_true (isCode c) with hi | hi
  · exact h2 c (List.mem_filter.mpr ⟨hc, hi⟩)
  · simpa [hi] using h
set_option maxRecDepth 65536 in
theorem w_c0 : (Jvm.Cond.code x code maxLocals ret).before args0 about1 = true := code_word (m := ⟨1, 1⟩) (meth := k1m1) (c := k1c1) (by decide +kernel) rfl rfl rfl (by decide +kernel)
set_option maxRecDepth 65536 in
theorem w_c1 : (Jvm.Cond.code ({ cls := "com/example/upper_falls/upperfalls/CellWords", name := "<init>", desc := "(I)V" } : Jvm.MethodName) prog_5_method_1_code (2 : Nat) (Option.none : Option Jvm.ClassFile.FieldType)).before args0 about1 = true := code_word (m := ⟨2, 0⟩) (meth := k2m0) (c := k2c0) (by decide +kernel) rfl rfl rfl (by decide +kernel)
set_option maxRecDepth 65536 in
theorem w_c2 : (Jvm.Cond.code ({ cls := "java/lang/Object", name := "<init>", desc := "()V" } : Jvm.MethodName) object_method_1_code (1 : Nat) (Option.none : Option Jvm.ClassFile.FieldType)).before args0 about1 = true := code_word (m := ⟨0, 0⟩) (meth := k0m0) (c := k0c0) (by decide +kernel) rfl rfl rfl (by decide +kernel)
set_option maxRecDepth 65536 in
theorem w_c3 : (Jvm.Cond.code ({ cls := "java/lang/Long", name := "divideUnsigned", desc := "(JJ)J" } : Jvm.MethodName) jdk_35_method_44_code (8 : Nat) (Option.some Jvm.ClassFile.FieldType.long)).before args0 about1 = true := code_word (m := ⟨8, 0⟩) (meth := k8m0) (c := k8c0) (by decide +kernel) rfl rfl rfl (by decide +kernel)
set_option maxRecDepth 65536 in
theorem w_c4 : (Jvm.Cond.code ({ cls := "com/example/upper_falls/upperfalls/CellWords", name := "saturatingSum", desc := "(JJ)J" } : Jvm.MethodName) prog_5_method_4_code (9 : Nat) (Option.some Jvm.ClassFile.FieldType.long)).before args0 about1 = true := code_word (m := ⟨2, 1⟩) (meth := k2m1) (c := k2c1) (by decide +kernel) rfl rfl rfl (by decide +kernel)
set_option maxRecDepth 65536 in
theorem w_c5 : (Jvm.Cond.code ({ cls := "java/lang/Math", name := "min", desc := "(JJ)J" } : Jvm.MethodName) jdk_29_method_70_code (4 : Nat) (Option.some Jvm.ClassFile.FieldType.long)).before args0 about1 = true := code_word (m := ⟨9, 1⟩) (meth := k9m1) (c := k9c1) (by decide +kernel) rfl rfl rfl (by decide +kernel)
def codes1 : List Jvm.Cond := [Jvm.Cond.code x code maxLocals ret, Jvm.Cond.code ({ cls := "com/example/upper_falls/upperfalls/CellWords", name := "<init>", desc := "(I)V" } : Jvm.MethodName) prog_5_method_1_code (2 : Nat) (Option.none : Option Jvm.ClassFile.FieldType), Jvm.Cond.code ({ cls := "java/lang/Object", name := "<init>", desc := "()V" } : Jvm.MethodName) object_method_1_code (1 : Nat) (Option.none : Option Jvm.ClassFile.FieldType), Jvm.Cond.code ({ cls := "java/lang/Long", name := "divideUnsigned", desc := "(JJ)J" } : Jvm.MethodName) jdk_35_method_44_code (8 : Nat) (Option.some Jvm.ClassFile.FieldType.long), Jvm.Cond.code ({ cls := "com/example/upper_falls/upperfalls/CellWords", name := "saturatingSum", desc := "(JJ)J" } : Jvm.MethodName) prog_5_method_4_code (9 : Nat) (Option.some Jvm.ClassFile.FieldType.long), Jvm.Cond.code ({ cls := "java/lang/Math", name := "min", desc := "(JJ)J" } : Jvm.MethodName) jdk_29_method_70_code (4 : Nat) (Option.some Jvm.ClassFile.FieldType.long)]
set_option maxRecDepth 65536 in
theorem codes_eq : words1.filter isCode = codes1 := rfl
theorem w_codes : ∀ c ∈ words1.filter isCode, c.before args0 about1 = true := by
  rw [codes_eq]
  intro c hc
  simp only [codes1, List.mem_cons, List.not_mem_nil, or_false] at hc
  rcases hc with rfl | rfl | rfl | rfl | rfl | rfl
  · exact w_c0
  · exact w_c1
  · exact w_c2
  · exact w_c3
  · exact w_c4
  · exact w_c5
set_option maxRecDepth 65536 in
theorem w_t1 : (words1.take 24).all (fun c => isCode c || c.before args0 about1) = true := by decide +kernel
set_option maxRecDepth 65536 in
theorem w_t2 : (words1.drop 24).all (fun c => isCode c || c.before args0 about1) = true := by decide +kernel
theorem w_tables : (allAtoms (Jvm.Cond.code x code maxLocals ret :: tables_1)).before args0 about1 = true := by
  rw [allAtoms_all]
  show words1.all (fun c => c.before args0 about1) = true
  refine all_split ?_ w_codes
  rw [← List.take_append_drop 24 words1, List.all_append, w_t1, w_t2]
  rfl
set_option maxRecDepth 65536 in
theorem w_case : (Jvm.Cond.and given_1 narrow_1).before args0 about1 = true := by decide +kernel
theorem w_applies : (headSpec (Jvm.Cond.code x code maxLocals ret :: tables_1) room_1).applies x e0.platform about1 = true :=
  (Spec.applies_iff w_frames).mpr ⟨w_running, w_runnable, w_alone, w_named, w_hears, w_ripe, w_room, w_tables⟩
theorem atStart : AtStart classFile x code maxLocals ret World_1 tables_1 room_1 Calls_1 rest_1 Pre_1 launch0 p0 e0 about1 theMethod args0 below0 :=
  ⟨lists_1, trivial, launch0.admits_env _ _ _, launch0.least_env, fairChoices_fair.cas, fairChoices_fair.clock, w_frames, w_args, w_heap, w_applies, trivial, trivial, w_case⟩
end start1
theorem witness_1 : WitnessClaimed_1 := ⟨start1.p0, start1.e0, start1.about1, start1.theMethod, start1.args0, start1.below0, start1.atStart⟩
end Jvm.Pilot.@@N@@
