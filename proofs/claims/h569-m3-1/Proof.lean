import JvmDerived
import JvmDerived.Pilot.@@N@@Statement
import JvmDerived.Pilot.@@N@@Code
set_option linter.unusedVariables false
set_option linter.unusedSimpArgs false
namespace Jvm.RoadKit
open Sem ClassFile Op Lib Jvm.Stand Jvm.Free Jvm.LawKit
section New
variable {p : Program} {l : Launch} {e : Env} {R : Room} {s : State} {m : MethodId} {args : Array Value} {below : List Frame} {meth : Method} {c : Code} {T : State} {locs : List Loc} {cells slots : Nat}
theorem retI (X : Stand p l e R s m args below meth c T locs cells slots) (hx : p.tables.exec = Jvm.exec) {pc : Nat} {Ls : Array Slot} {z : Int32} {rest : List Value} (hret : meth.sig.returnType = some .int) (hd : decode c.code pc = .ok (.ireturn, 1)) {fs : List Frame}
    (hl : ∀ (f : JFrame) (acts : List Action), f.method = m → f.locked = none → f.entered = [] → (doReturn e (T.setTop f) acts (some (.int z))).1 = T.setFrames fs) : Steps p.tables e below (T.setTop (mkF m pc Ls (.int z :: rest))) (T.setFrames fs) := by
  have hm' : T.vm.method? m = some meth := X.method'
  have hn : narrow .int (.int z) = .int z := rfl
  show Steps p.tables e below (T.setTop { method := m, pc := pc, locals := Ls, stack := _ :: rest, locked := none }) _
  jvm_step X.here [X.here.top, hx, hd, hm', hret, hn]
  first | (intro acts; rw [hl _ acts rfl rfl rfl]) | rw [hl _ _ rfl rfl rfl]
  exact Steps.refl _
end New
/-! the walk in continuation form: from the state T at the frame f the run ends by a return, as Q says -/
section Own
variable {p : Program} {l : Launch} {e : Env} {R : Room} {s : State} {m : MethodId} {args : Array Value} {below : List Frame} {meth : Method} {c : Code} {T T' : State} {locs : List Loc} {cells slots k n : Nat} {Q : Option Value → Heap → List Loc → Prop} {f f' : JFrame}
def ownE (p : Program) (e : Env) (below : List Frame) (s : State) (Q : Option Value → Heap → List Loc → Prop) (k n : Nat) (T : State) (f : JFrame) : Prop :=
  ∃ s₂ o, Steps p.tables e below (T.setTop f) s₂ ∧ s₂.status = .running ∧ Ended s₂ below o ∧ ∃ v L, o = .returned v ∧ Q v s₂.heap L ∧ FrameEnd s o s₂ L k n
theorem ownE.go (g : ∀ t, Steps p.tables e below (T'.setTop f') t → Steps p.tables e below (T.setTop f) t) (h : ownE p e below s Q k n T' f') : ownE p e below s Q k n T f := by
  obtain ⟨s₂, o, h1, r⟩ := h
  exact ⟨s₂, o, g _ h1, r⟩
theorem ownE.goS (g : Steps p.tables e below (T.setTop f) (T'.setTop f')) (h : ownE p e below s Q k n T' f') : ownE p e below s Q k n T f := by
  obtain ⟨s₂, o, h1, r⟩ := h
  exact ⟨s₂, o, g.trans h1, r⟩
theorem ownE.ret (X : Stand p l e R s m args below meth c T locs cells slots) {v : Option Value} (hlk : meth.locks = false) (hv : meth.sig.returnType = none → v = none)
    (st : ∀ fs, (∀ (f : JFrame) (acts : List Action), f.method = m → f.locked = none → f.entered = [] → (doReturn e (T.setTop f) acts v).1 = T.setFrames fs) → Steps p.tables e below (T.setTop f) (T.setFrames fs))
    (hQ : Q v T.heap locs) (hk : cells ≤ k) (hn : slots ≤ n) : ownE p e below s Q k n T f := by
  obtain ⟨fs, hr, hrun, hended, hW, hsame⟩ := X.leave (v := v) hv hlk
  exact ⟨_, _, st fs hr, hrun, hended, _, _, rfl, hQ, ⟨_, rfl⟩, hW, hsame.mono hk hn⟩
theorem ownE.retI (X : Stand p l e R s m args below meth c T locs cells slots) (hx : p.tables.exec = Jvm.exec) (hlk : meth.locks = false) {pc : Nat} {Ls : Array Slot} {z : Int32} {rest : List Value} (hret : meth.sig.returnType = some .int) (hd : decode c.code pc = .ok (.ireturn, 1))
    (hQ : Q (some (.int z)) T.heap locs) (hk : cells ≤ k) (hn : slots ≤ n) : ownE p e below s Q k n T (mkF m pc Ls (.int z :: rest)) :=
  ownE.ret X hlk (fun h => by rw [hret] at h; cases h) (fun fs hr => Jvm.RoadKit.retI X hx hret hd hr) hQ hk hn
theorem ownE.retN (X : Stand p l e R s m args below meth c T locs cells slots) (hx : p.tables.exec = Jvm.exec) (hlk : meth.locks = false) {pc : Nat} {Ls : Array Slot} {z : Int32} {rest : List Value} {t : FieldType} (hret : meth.sig.returnType = some t) (ht : t = .boolean ∨ t = .byte ∨ t = .char ∨ t = .short) (hd : decode c.code pc = .ok (.ireturn, 1))
    (hQ : Q (some (.int (nar t z))) T.heap locs) (hk : cells ≤ k) (hn : slots ≤ n) : ownE p e below s Q k n T (mkF m pc Ls (.int z :: rest)) :=
  ownE.ret X hlk (fun h => by rw [hret] at h; cases h) (fun fs hr => Jvm.RoadKit.retN X hx hret ht hd hr) hQ hk hn
theorem ownE.retL (X : Stand p l e R s m args below meth c T locs cells slots) (hx : p.tables.exec = Jvm.exec) (hlk : meth.locks = false) {pc : Nat} {Ls : Array Slot} {z : Int64} {rest : List Value} (hret : meth.sig.returnType = some .long) (hd : decode c.code pc = .ok (.lreturn, 1))
    (hQ : Q (some (.long z)) T.heap locs) (hk : cells ≤ k) (hn : slots ≤ n) : ownE p e below s Q k n T (mkF m pc Ls (.long z :: rest)) :=
  ownE.ret X hlk (fun h => by rw [hret] at h; cases h) (fun fs hr => Jvm.RoadKit.retOut X hx hret rfl (Or.inr (Or.inl ⟨rfl, rfl, z, rfl⟩)) hd hr) hQ hk hn
theorem ownE.retA (X : Stand p l e R s m args below meth c T locs cells slots) (hx : p.tables.exec = Jvm.exec) (hlk : meth.locks = false) {pc : Nat} {Ls : Array Slot} {z : Value} {rest : List Value} {t : FieldType} (hret : meth.sig.returnType = some t) (ht : t.isReference = true) (hz : z.isRef = true) (hn' : narrow t z = z) (hd : decode c.code pc = .ok (.areturn, 1))
    (hQ : Q (some z) T.heap locs) (hk : cells ≤ k) (hn : slots ≤ n) : ownE p e below s Q k n T (mkF m pc Ls (z :: rest)) :=
  ownE.ret X hlk (fun h => by rw [hret] at h; cases h) (fun fs hr => Jvm.RoadKit.retOut X hx hret hn' (Or.inr (Or.inr (Or.inr (Or.inr ⟨rfl, ht, hz⟩)))) hd hr) hQ hk hn
theorem ownE.retV (X : Stand p l e R s m args below meth c T locs cells slots) (hx : p.tables.exec = Jvm.exec) (hlk : meth.locks = false) {pc : Nat} {Ls : Array Slot} (hret : meth.sig.returnType = none) (hd : decode c.code pc = .ok (.return_, 1))
    (hQ : Q none T.heap locs) (hk : cells ≤ k) (hn : slots ≤ n) : ownE p e below s Q k n T (mkF m pc Ls []) :=
  ownE.ret X hlk (fun _ => rfl) (fun fs hr => X.returnOut hx hret hd hr) hQ hk hn
end Own
theorem own_selP {s : State} {args : Array Value} {y : MethodName} {n : Nat} (wi : (Cond.instantiable y.cls n).before args s = true) (hi : (Cond.instanceMethod y).before args s = true) (hp : s.PrivateAt y) (hy : y.cls ≠ "java/lang/invoke/MethodHandle" ∧ y.cls ≠ "java/lang/invoke/VarHandle") : (Cond.selects y.cls y y).before args s = true := by
  obtain ⟨c, k, h1, h2, -, h4, -⟩ := Cond.instantiable_spec wi
  exact selects_self_of_private h1 h2 (by simp at h4; exact h4.1) hp hi hy
end Jvm.RoadKit
namespace Jvm.Pilot.@@N@@
open Jvm Jvm.ClassFile Sem Op Lib Jvm.Free Jvm.Stand Jvm.LawKit Jvm.RoadKit Bundle Jvm.Pilot.@@N@@.Jvm.D
theorem own_d4_0 : decode jdk_35_method_44_code 0 = .ok (.lload_n 2, 1) := by decide +kernel
theorem own_d4_1 : decode jdk_35_method_44_code 1 = .ok (.lconst 0, 1) := by decide +kernel
theorem own_d4_2 : decode jdk_35_method_44_code 2 = .ok (.lcmp, 1) := by decide +kernel
theorem own_d4_3 : decode jdk_35_method_44_code 3 = .ok (.ifCond .lt 38, 3) := by decide +kernel
theorem own_d4_6 : decode jdk_35_method_44_code 6 = .ok (.lload_n 0, 1) := by decide +kernel
theorem own_d4_7 : decode jdk_35_method_44_code 7 = .ok (.iconst 1, 1) := by decide +kernel
theorem own_d4_8 : decode jdk_35_method_44_code 8 = .ok (.lushr, 1) := by decide +kernel
theorem own_d4_9 : decode jdk_35_method_44_code 9 = .ok (.lload_n 2, 1) := by decide +kernel
theorem own_d4_10 : decode jdk_35_method_44_code 10 = .ok (.ldiv, 1) := by decide +kernel
theorem own_d4_11 : decode jdk_35_method_44_code 11 = .ok (.iconst 1, 1) := by decide +kernel
theorem own_d4_12 : decode jdk_35_method_44_code 12 = .ok (.lshl, 1) := by decide +kernel
theorem own_d4_13 : decode jdk_35_method_44_code 13 = .ok (.lstore 4, 2) := by decide +kernel
theorem own_d4_15 : decode jdk_35_method_44_code 15 = .ok (.lload_n 0, 1) := by decide +kernel
theorem own_d4_16 : decode jdk_35_method_44_code 16 = .ok (.lload 4, 2) := by decide +kernel
theorem own_d4_18 : decode jdk_35_method_44_code 18 = .ok (.lload_n 2, 1) := by decide +kernel
theorem own_d4_19 : decode jdk_35_method_44_code 19 = .ok (.lmul, 1) := by decide +kernel
theorem own_d4_20 : decode jdk_35_method_44_code 20 = .ok (.lsub, 1) := by decide +kernel
theorem own_d4_21 : decode jdk_35_method_44_code 21 = .ok (.lstore 6, 2) := by decide +kernel
theorem own_d4_23 : decode jdk_35_method_44_code 23 = .ok (.lload 4, 2) := by decide +kernel
theorem own_d4_25 : decode jdk_35_method_44_code 25 = .ok (.lload 6, 2) := by decide +kernel
theorem own_d4_27 : decode jdk_35_method_44_code 27 = .ok (.lload 6, 2) := by decide +kernel
theorem own_d4_29 : decode jdk_35_method_44_code 29 = .ok (.lload_n 2, 1) := by decide +kernel
theorem own_d4_30 : decode jdk_35_method_44_code 30 = .ok (.lsub, 1) := by decide +kernel
theorem own_d4_31 : decode jdk_35_method_44_code 31 = .ok (.ldc2_w 306, 3) := by decide +kernel
theorem own_d4_34 : decode jdk_35_method_44_code 34 = .ok (.lxor, 1) := by decide +kernel
theorem own_d4_35 : decode jdk_35_method_44_code 35 = .ok (.lor, 1) := by decide +kernel
theorem own_d4_36 : decode jdk_35_method_44_code 36 = .ok (.bipush 63, 2) := by decide +kernel
theorem own_d4_38 : decode jdk_35_method_44_code 38 = .ok (.lushr, 1) := by decide +kernel
theorem own_d4_39 : decode jdk_35_method_44_code 39 = .ok (.ladd, 1) := by decide +kernel
theorem own_d4_40 : decode jdk_35_method_44_code 40 = .ok (.lreturn, 1) := by decide +kernel
theorem own_d4_41 : decode jdk_35_method_44_code 41 = .ok (.lload_n 0, 1) := by decide +kernel
theorem own_d4_42 : decode jdk_35_method_44_code 42 = .ok (.lload_n 0, 1) := by decide +kernel
theorem own_d4_43 : decode jdk_35_method_44_code 43 = .ok (.lload_n 2, 1) := by decide +kernel
theorem own_d4_44 : decode jdk_35_method_44_code 44 = .ok (.lsub, 1) := by decide +kernel
theorem own_d4_45 : decode jdk_35_method_44_code 45 = .ok (.ldc2_w 306, 3) := by decide +kernel
theorem own_d4_48 : decode jdk_35_method_44_code 48 = .ok (.lxor, 1) := by decide +kernel
theorem own_d4_49 : decode jdk_35_method_44_code 49 = .ok (.land, 1) := by decide +kernel
theorem own_d4_50 : decode jdk_35_method_44_code 50 = .ok (.bipush 63, 2) := by decide +kernel
theorem own_d4_52 : decode jdk_35_method_44_code 52 = .ok (.lushr, 1) := by decide +kernel
theorem own_d4_53 : decode jdk_35_method_44_code 53 = .ok (.lreturn, 1) := by decide +kernel
theorem own_pn0 : plainName "java/lang/Long" = true := by first | (simp [plainName, overriddenIn]; done) | decide +kernel
theorem own_ef4 (m : MethodId) (x0 : Int64) (x1 : Int64) : entryFrame m #[(.long x0), (.long x1)] 8 = mkF m 0 #[.val (.long x0), .second, .val (.long x1), .second, .unset, .unset, .unset, .unset] [] := by first | (simp [entryFrame, mkF, argsToLocals, Value.category]; done) | rfl
def own_du (j0 : Int64) (j1 : Int64) : Int64 :=
  if j1 < (0 : Int64) then
    (((j0 &&& ((j0 - j1) ^^^ (-1 : Int64))).toUInt64 >>> ((63 : Int32) &&& 0x3f).toInt64.toUInt64).toInt64)
  else
    (((((j0.toUInt64 >>> ((1 : Int32) &&& 0x3f).toInt64.toUInt64).toInt64) / j1) <<< ((1 : Int32) &&& 0x3f).toInt64) + ((((j0 - (((((j0.toUInt64 >>> ((1 : Int32) &&& 0x3f).toInt64.toUInt64).toInt64) / j1) <<< ((1 : Int32) &&& 0x3f).toInt64) * j1)) ||| (((j0 - (((((j0.toUInt64 >>> ((1 : Int32) &&& 0x3f).toInt64.toUInt64).toInt64) / j1) <<< ((1 : Int32) &&& 0x3f).toInt64) * j1)) - j1) ^^^ (-1 : Int64))).toUInt64 >>> ((63 : Int32) &&& 0x3f).toInt64.toUInt64).toInt64))
def own_Q4 (Z : State) (j0 : Int64) (j1 : Int64) (h0 : Heap) (n0 : Nat) (v : Option Value) (h : Heap) (L : List Loc) : Prop := v = some (.long (own_du j0 j1)) ∧ Fr n0 L ∧ h = h0
set_option maxRecDepth 65536 in
set_option maxHeartbeats 40000000 in
theorem own_rm4 (l : Launch) (Z : State) (a0 : Array Value) (hw : ∀ d ∈ tables_1, d.before a0 Z = true) (ws : List Jvm.Cond) (j0 : Int64) (j1 : Int64) (h0 : Heap) (n0 : Nat) (Z0 : n0 ≤ h0.size) (P0 : ¬ j1 = (0 : Int64)) :
    MetFree l (⟨"java/lang/Long", "divideUnsigned", "(JJ)J"⟩ : MethodName) (head1 (Jvm.Cond.code (⟨"java/lang/Long", "divideUnsigned", "(JJ)J"⟩ : MethodName) jdk_35_method_44_code 8 (some .long) :: ws) ({ frames := 0, cells := 0, slots := 0, locals := 0 } : Room)) (fun a U => a = #[(.long j0), (.long j1)] ∧ Z.Warmed39 U.vm ∧ U.heap = h0) (fun _ _ _ _ _ => True) (fun _ U o U' => ∃ v L, o = .returned v ∧ own_Q4 Z j0 j1 h0 n0 v U'.heap L ∧ FrameEnd U o U' L ({ frames := 0, cells := 0, slots := 0, locals := 0 } : Room).cells ({ frames := 0, cells := 0, slots := 0, locals := 0 } : Room).slots) := by
  refine MetFree.of_bodySF (plainFor_of_name own_pn0) hisR ?_
  intro p e s m args below meth c s₁ Bd hml0 hP hK
  obtain ⟨rfl, hZ, hh⟩ := hP
  have hx := Bd.exec
  have hby := Bd.bytes
  have hret := Bd.returns
  have hlk := BodyLoose.notSynchronized Bd
  have hml : c.maxLocals = 8 := hml0
  have hown : s.vm.findClass "java/lang/Long" = some m.cls := findClass_of_methodNamed Bd.named
  have hnm := (name_of_methodNamed Bd.named Bd.method).1
  have X0 : Stand p l e ({ frames := 0, cells := 0, slots := 0, locals := 0 } : Room) s m #[(.long j0), (.long j1)] below meth c s₁ [] 0 0 := Stand.of_body Bd
  have e0 : s₁.heap = h0 := by rw [← hh, Bd.state]; rfl
  have N0 := Fr.nil n0
  have K0 : Keep h0 h0 [] := Keep.refl h0 _
  show ownE p e below s (own_Q4 Z j0 j1 h0 n0) ({ frames := 0, cells := 0, slots := 0, locals := 0 } : Room).cells ({ frames := 0, cells := 0, slots := 0, locals := 0 } : Room).slots s₁ (entryFrame m #[(.long j0), (.long j1)] 8)
  rw [own_ef4]
  refine ownE.go (T' := s₁) (f' := (mkF m 3 #[.val (.long j0), .second, .val (.long j1), .second, .unset, .unset, .unset, .unset] [(.int (Jvm.Free.XT.cmpL j1 (0 : Int64)))])) (fun t kt => ?_) ?_
  · show Steps p.tables e below (s₁.setTop (mkF m 0 #[.val (.long j0), .second, .val (.long j1), .second, .unset, .unset, .unset, .unset] [])) _
    refine XS.lloadN X0.here hx rfl (hb hby own_d4_0) rfl ?_
    show Steps p.tables e below (s₁.setTop (mkF m 1 #[.val (.long j0), .second, .val (.long j1), .second, .unset, .unset, .unset, .unset] [(.long j1)])) _
    refine XS.lconst X0.here hx rfl (hb hby own_d4_1) ?_
    show Steps p.tables e below (s₁.setTop (mkF m 2 #[.val (.long j0), .second, .val (.long j1), .second, .unset, .unset, .unset, .unset] [(.long (0 : Int64)), (.long j1)])) _
    refine XS.lcmp X0.here hx rfl (hb hby own_d4_2) rfl ?_
    exact kt
  by_cases hc1 : j1 < (0 : Int64)
  · -- pc 3
    refine ownE.go (T' := s₁) (f' := (mkF m 41 #[.val (.long j0), .second, .val (.long j1), .second, .unset, .unset, .unset, .unset] [])) (fun t kt => XS.ifYes (g := (mkF m 3 #[.val (.long j0), .second, .val (.long j1), .second, .unset, .unset, .unset, .unset] [(.int (Jvm.Free.XT.cmpL j1 (0 : Int64)))])) X0.here hx rfl (pc0 := 3) (pc' := 41) rfl (hb hby own_d4_3) rfl (Jvm.Free.XT.ll_lt_t hc1) (by decide) (by decide) kt) ?_
    refine ownE.go (T' := s₁) (f' := (mkF m 53 #[.val (.long j0), .second, .val (.long j1), .second, .unset, .unset, .unset, .unset] [(.long (((j0 &&& ((j0 - j1) ^^^ (-1 : Int64))).toUInt64 >>> ((63 : Int32) &&& 0x3f).toInt64.toUInt64).toInt64))])) (fun t kt => ?_) ?_
    · show Steps p.tables e below (s₁.setTop (mkF m 41 #[.val (.long j0), .second, .val (.long j1), .second, .unset, .unset, .unset, .unset] [])) _
      refine XS.lloadN X0.here hx rfl (hb hby own_d4_41) rfl ?_
      show Steps p.tables e below (s₁.setTop (mkF m 42 #[.val (.long j0), .second, .val (.long j1), .second, .unset, .unset, .unset, .unset] [(.long j0)])) _
      refine XS.lloadN X0.here hx rfl (hb hby own_d4_42) rfl ?_
      show Steps p.tables e below (s₁.setTop (mkF m 43 #[.val (.long j0), .second, .val (.long j1), .second, .unset, .unset, .unset, .unset] [(.long j0), (.long j0)])) _
      refine XS.lloadN X0.here hx rfl (hb hby own_d4_43) rfl ?_
      show Steps p.tables e below (s₁.setTop (mkF m 44 #[.val (.long j0), .second, .val (.long j1), .second, .unset, .unset, .unset, .unset] [(.long j1), (.long j0), (.long j0)])) _
      refine XS.lsub X0.here hx rfl (hb hby own_d4_44) rfl ?_
      show Steps p.tables e below (s₁.setTop (mkF m 45 #[.val (.long j0), .second, .val (.long j1), .second, .unset, .unset, .unset, .unset] [(.long (j0 - j1)), (.long j0)])) _
      refine X0.ldc2Long hx hown (mvT hZ (hw _ (List.mem_of_getElem? (i := 24) rfl))) (g := (mkF m 45 #[.val (.long j0), .second, .val (.long j1), .second, .unset, .unset, .unset, .unset] [(.long (j0 - j1)), (.long j0)])) rfl (hb hby own_d4_45) _ ?_
      show Steps p.tables e below (s₁.setTop (mkF m 48 #[.val (.long j0), .second, .val (.long j1), .second, .unset, .unset, .unset, .unset] [(.long (-1 : Int64)), (.long (j0 - j1)), (.long j0)])) _
      refine XS.lxor X0.here hx rfl (hb hby own_d4_48) rfl ?_
      show Steps p.tables e below (s₁.setTop (mkF m 49 #[.val (.long j0), .second, .val (.long j1), .second, .unset, .unset, .unset, .unset] [(.long ((j0 - j1) ^^^ (-1 : Int64))), (.long j0)])) _
      refine XS.land X0.here hx rfl (hb hby own_d4_49) rfl ?_
      show Steps p.tables e below (s₁.setTop (mkF m 50 #[.val (.long j0), .second, .val (.long j1), .second, .unset, .unset, .unset, .unset] [(.long (j0 &&& ((j0 - j1) ^^^ (-1 : Int64))))])) _
      refine XS.bipush X0.here hx rfl (hb hby own_d4_50) ?_
      show Steps p.tables e below (s₁.setTop (mkF m 52 #[.val (.long j0), .second, .val (.long j1), .second, .unset, .unset, .unset, .unset] [(.int (63 : Int32)), (.long (j0 &&& ((j0 - j1) ^^^ (-1 : Int64))))])) _
      refine XS.lushr X0.here hx rfl (hb hby own_d4_52) rfl ?_
      exact kt
    refine ownE.retL X0 hx hlk hret (hb hby own_d4_53) ?_ (by decide) (by decide)
    show own_Q4 Z j0 j1 h0 n0 _ s₁.heap _
    rw [e0]
    exact ⟨(by rw [own_du, if_pos hc1] <;> first | rfl | decide), N0, rfl⟩
  · -- pc 3
    refine ownE.go (T' := s₁) (f' := (mkF m 6 #[.val (.long j0), .second, .val (.long j1), .second, .unset, .unset, .unset, .unset] [])) (fun t kt => XS.ifNo (g := (mkF m 3 #[.val (.long j0), .second, .val (.long j1), .second, .unset, .unset, .unset, .unset] [(.int (Jvm.Free.XT.cmpL j1 (0 : Int64)))])) X0.here hx rfl (hb hby own_d4_3) rfl (Jvm.Free.XT.ll_lt_f hc1) kt) ?_
    refine ownE.go (T' := s₁) (f' := (mkF m 40 #[.val (.long j0), .second, .val (.long j1), .second, .val (.long ((((j0.toUInt64 >>> ((1 : Int32) &&& 0x3f).toInt64.toUInt64).toInt64) / j1) <<< ((1 : Int32) &&& 0x3f).toInt64)), .second, .val (.long (j0 - (((((j0.toUInt64 >>> ((1 : Int32) &&& 0x3f).toInt64.toUInt64).toInt64) / j1) <<< ((1 : Int32) &&& 0x3f).toInt64) * j1))), .second] [(.long (((((j0.toUInt64 >>> ((1 : Int32) &&& 0x3f).toInt64.toUInt64).toInt64) / j1) <<< ((1 : Int32) &&& 0x3f).toInt64) + ((((j0 - (((((j0.toUInt64 >>> ((1 : Int32) &&& 0x3f).toInt64.toUInt64).toInt64) / j1) <<< ((1 : Int32) &&& 0x3f).toInt64) * j1)) ||| (((j0 - (((((j0.toUInt64 >>> ((1 : Int32) &&& 0x3f).toInt64.toUInt64).toInt64) / j1) <<< ((1 : Int32) &&& 0x3f).toInt64) * j1)) - j1) ^^^ (-1 : Int64))).toUInt64 >>> ((63 : Int32) &&& 0x3f).toInt64.toUInt64).toInt64)))])) (fun t kt => ?_) ?_
    · show Steps p.tables e below (s₁.setTop (mkF m 6 #[.val (.long j0), .second, .val (.long j1), .second, .unset, .unset, .unset, .unset] [])) _
      refine XS.lloadN X0.here hx rfl (hb hby own_d4_6) rfl ?_
      show Steps p.tables e below (s₁.setTop (mkF m 7 #[.val (.long j0), .second, .val (.long j1), .second, .unset, .unset, .unset, .unset] [(.long j0)])) _
      refine XS.iconst X0.here hx rfl (hb hby own_d4_7) ?_
      show Steps p.tables e below (s₁.setTop (mkF m 8 #[.val (.long j0), .second, .val (.long j1), .second, .unset, .unset, .unset, .unset] [(.int (1 : Int32)), (.long j0)])) _
      refine XS.lushr X0.here hx rfl (hb hby own_d4_8) rfl ?_
      show Steps p.tables e below (s₁.setTop (mkF m 9 #[.val (.long j0), .second, .val (.long j1), .second, .unset, .unset, .unset, .unset] [(.long ((j0.toUInt64 >>> ((1 : Int32) &&& 0x3f).toInt64.toUInt64).toInt64))])) _
      refine XS.lloadN X0.here hx rfl (hb hby own_d4_9) rfl ?_
      show Steps p.tables e below (s₁.setTop (mkF m 10 #[.val (.long j0), .second, .val (.long j1), .second, .unset, .unset, .unset, .unset] [(.long j1), (.long ((j0.toUInt64 >>> ((1 : Int32) &&& 0x3f).toInt64.toUInt64).toInt64))])) _
      refine XS.ldiv X0.here hx rfl (hb hby own_d4_10) rfl P0 ?_
      show Steps p.tables e below (s₁.setTop (mkF m 11 #[.val (.long j0), .second, .val (.long j1), .second, .unset, .unset, .unset, .unset] [(.long (((j0.toUInt64 >>> ((1 : Int32) &&& 0x3f).toInt64.toUInt64).toInt64) / j1))])) _
      refine XS.iconst X0.here hx rfl (hb hby own_d4_11) ?_
      show Steps p.tables e below (s₁.setTop (mkF m 12 #[.val (.long j0), .second, .val (.long j1), .second, .unset, .unset, .unset, .unset] [(.int (1 : Int32)), (.long (((j0.toUInt64 >>> ((1 : Int32) &&& 0x3f).toInt64.toUInt64).toInt64) / j1))])) _
      refine XS.lshl X0.here hx rfl (hb hby own_d4_12) rfl ?_
      show Steps p.tables e below (s₁.setTop (mkF m 13 #[.val (.long j0), .second, .val (.long j1), .second, .unset, .unset, .unset, .unset] [(.long ((((j0.toUInt64 >>> ((1 : Int32) &&& 0x3f).toInt64.toUInt64).toInt64) / j1) <<< ((1 : Int32) &&& 0x3f).toInt64))])) _
      refine XS.lstore X0.here hx rfl (hb hby own_d4_13) rfl (l' := #[.val (.long j0), .second, .val (.long j1), .second, .val (.long ((((j0.toUInt64 >>> ((1 : Int32) &&& 0x3f).toInt64.toUInt64).toInt64) / j1) <<< ((1 : Int32) &&& 0x3f).toInt64)), .second, .unset, .unset]) rfl ?_
      show Steps p.tables e below (s₁.setTop (mkF m 15 #[.val (.long j0), .second, .val (.long j1), .second, .val (.long ((((j0.toUInt64 >>> ((1 : Int32) &&& 0x3f).toInt64.toUInt64).toInt64) / j1) <<< ((1 : Int32) &&& 0x3f).toInt64)), .second, .unset, .unset] [])) _
      refine XS.lloadN X0.here hx rfl (hb hby own_d4_15) rfl ?_
      show Steps p.tables e below (s₁.setTop (mkF m 16 #[.val (.long j0), .second, .val (.long j1), .second, .val (.long ((((j0.toUInt64 >>> ((1 : Int32) &&& 0x3f).toInt64.toUInt64).toInt64) / j1) <<< ((1 : Int32) &&& 0x3f).toInt64)), .second, .unset, .unset] [(.long j0)])) _
      refine XS.lload X0.here hx rfl (hb hby own_d4_16) rfl ?_
      show Steps p.tables e below (s₁.setTop (mkF m 18 #[.val (.long j0), .second, .val (.long j1), .second, .val (.long ((((j0.toUInt64 >>> ((1 : Int32) &&& 0x3f).toInt64.toUInt64).toInt64) / j1) <<< ((1 : Int32) &&& 0x3f).toInt64)), .second, .unset, .unset] [(.long ((((j0.toUInt64 >>> ((1 : Int32) &&& 0x3f).toInt64.toUInt64).toInt64) / j1) <<< ((1 : Int32) &&& 0x3f).toInt64)), (.long j0)])) _
      refine XS.lloadN X0.here hx rfl (hb hby own_d4_18) rfl ?_
      show Steps p.tables e below (s₁.setTop (mkF m 19 #[.val (.long j0), .second, .val (.long j1), .second, .val (.long ((((j0.toUInt64 >>> ((1 : Int32) &&& 0x3f).toInt64.toUInt64).toInt64) / j1) <<< ((1 : Int32) &&& 0x3f).toInt64)), .second, .unset, .unset] [(.long j1), (.long ((((j0.toUInt64 >>> ((1 : Int32) &&& 0x3f).toInt64.toUInt64).toInt64) / j1) <<< ((1 : Int32) &&& 0x3f).toInt64)), (.long j0)])) _
      refine XS.lmul X0.here hx rfl (hb hby own_d4_19) rfl ?_
      show Steps p.tables e below (s₁.setTop (mkF m 20 #[.val (.long j0), .second, .val (.long j1), .second, .val (.long ((((j0.toUInt64 >>> ((1 : Int32) &&& 0x3f).toInt64.toUInt64).toInt64) / j1) <<< ((1 : Int32) &&& 0x3f).toInt64)), .second, .unset, .unset] [(.long (((((j0.toUInt64 >>> ((1 : Int32) &&& 0x3f).toInt64.toUInt64).toInt64) / j1) <<< ((1 : Int32) &&& 0x3f).toInt64) * j1)), (.long j0)])) _
      refine XS.lsub X0.here hx rfl (hb hby own_d4_20) rfl ?_
      show Steps p.tables e below (s₁.setTop (mkF m 21 #[.val (.long j0), .second, .val (.long j1), .second, .val (.long ((((j0.toUInt64 >>> ((1 : Int32) &&& 0x3f).toInt64.toUInt64).toInt64) / j1) <<< ((1 : Int32) &&& 0x3f).toInt64)), .second, .unset, .unset] [(.long (j0 - (((((j0.toUInt64 >>> ((1 : Int32) &&& 0x3f).toInt64.toUInt64).toInt64) / j1) <<< ((1 : Int32) &&& 0x3f).toInt64) * j1)))])) _
      refine XS.lstore X0.here hx rfl (hb hby own_d4_21) rfl (l' := #[.val (.long j0), .second, .val (.long j1), .second, .val (.long ((((j0.toUInt64 >>> ((1 : Int32) &&& 0x3f).toInt64.toUInt64).toInt64) / j1) <<< ((1 : Int32) &&& 0x3f).toInt64)), .second, .val (.long (j0 - (((((j0.toUInt64 >>> ((1 : Int32) &&& 0x3f).toInt64.toUInt64).toInt64) / j1) <<< ((1 : Int32) &&& 0x3f).toInt64) * j1))), .second]) rfl ?_
      show Steps p.tables e below (s₁.setTop (mkF m 23 #[.val (.long j0), .second, .val (.long j1), .second, .val (.long ((((j0.toUInt64 >>> ((1 : Int32) &&& 0x3f).toInt64.toUInt64).toInt64) / j1) <<< ((1 : Int32) &&& 0x3f).toInt64)), .second, .val (.long (j0 - (((((j0.toUInt64 >>> ((1 : Int32) &&& 0x3f).toInt64.toUInt64).toInt64) / j1) <<< ((1 : Int32) &&& 0x3f).toInt64) * j1))), .second] [])) _
      refine XS.lload X0.here hx rfl (hb hby own_d4_23) rfl ?_
      show Steps p.tables e below (s₁.setTop (mkF m 25 #[.val (.long j0), .second, .val (.long j1), .second, .val (.long ((((j0.toUInt64 >>> ((1 : Int32) &&& 0x3f).toInt64.toUInt64).toInt64) / j1) <<< ((1 : Int32) &&& 0x3f).toInt64)), .second, .val (.long (j0 - (((((j0.toUInt64 >>> ((1 : Int32) &&& 0x3f).toInt64.toUInt64).toInt64) / j1) <<< ((1 : Int32) &&& 0x3f).toInt64) * j1))), .second] [(.long ((((j0.toUInt64 >>> ((1 : Int32) &&& 0x3f).toInt64.toUInt64).toInt64) / j1) <<< ((1 : Int32) &&& 0x3f).toInt64))])) _
      refine XS.lload X0.here hx rfl (hb hby own_d4_25) rfl ?_
      show Steps p.tables e below (s₁.setTop (mkF m 27 #[.val (.long j0), .second, .val (.long j1), .second, .val (.long ((((j0.toUInt64 >>> ((1 : Int32) &&& 0x3f).toInt64.toUInt64).toInt64) / j1) <<< ((1 : Int32) &&& 0x3f).toInt64)), .second, .val (.long (j0 - (((((j0.toUInt64 >>> ((1 : Int32) &&& 0x3f).toInt64.toUInt64).toInt64) / j1) <<< ((1 : Int32) &&& 0x3f).toInt64) * j1))), .second] [(.long (j0 - (((((j0.toUInt64 >>> ((1 : Int32) &&& 0x3f).toInt64.toUInt64).toInt64) / j1) <<< ((1 : Int32) &&& 0x3f).toInt64) * j1))), (.long ((((j0.toUInt64 >>> ((1 : Int32) &&& 0x3f).toInt64.toUInt64).toInt64) / j1) <<< ((1 : Int32) &&& 0x3f).toInt64))])) _
      refine XS.lload X0.here hx rfl (hb hby own_d4_27) rfl ?_
      show Steps p.tables e below (s₁.setTop (mkF m 29 #[.val (.long j0), .second, .val (.long j1), .second, .val (.long ((((j0.toUInt64 >>> ((1 : Int32) &&& 0x3f).toInt64.toUInt64).toInt64) / j1) <<< ((1 : Int32) &&& 0x3f).toInt64)), .second, .val (.long (j0 - (((((j0.toUInt64 >>> ((1 : Int32) &&& 0x3f).toInt64.toUInt64).toInt64) / j1) <<< ((1 : Int32) &&& 0x3f).toInt64) * j1))), .second] [(.long (j0 - (((((j0.toUInt64 >>> ((1 : Int32) &&& 0x3f).toInt64.toUInt64).toInt64) / j1) <<< ((1 : Int32) &&& 0x3f).toInt64) * j1))), (.long (j0 - (((((j0.toUInt64 >>> ((1 : Int32) &&& 0x3f).toInt64.toUInt64).toInt64) / j1) <<< ((1 : Int32) &&& 0x3f).toInt64) * j1))), (.long ((((j0.toUInt64 >>> ((1 : Int32) &&& 0x3f).toInt64.toUInt64).toInt64) / j1) <<< ((1 : Int32) &&& 0x3f).toInt64))])) _
      refine XS.lloadN X0.here hx rfl (hb hby own_d4_29) rfl ?_
      show Steps p.tables e below (s₁.setTop (mkF m 30 #[.val (.long j0), .second, .val (.long j1), .second, .val (.long ((((j0.toUInt64 >>> ((1 : Int32) &&& 0x3f).toInt64.toUInt64).toInt64) / j1) <<< ((1 : Int32) &&& 0x3f).toInt64)), .second, .val (.long (j0 - (((((j0.toUInt64 >>> ((1 : Int32) &&& 0x3f).toInt64.toUInt64).toInt64) / j1) <<< ((1 : Int32) &&& 0x3f).toInt64) * j1))), .second] [(.long j1), (.long (j0 - (((((j0.toUInt64 >>> ((1 : Int32) &&& 0x3f).toInt64.toUInt64).toInt64) / j1) <<< ((1 : Int32) &&& 0x3f).toInt64) * j1))), (.long (j0 - (((((j0.toUInt64 >>> ((1 : Int32) &&& 0x3f).toInt64.toUInt64).toInt64) / j1) <<< ((1 : Int32) &&& 0x3f).toInt64) * j1))), (.long ((((j0.toUInt64 >>> ((1 : Int32) &&& 0x3f).toInt64.toUInt64).toInt64) / j1) <<< ((1 : Int32) &&& 0x3f).toInt64))])) _
      refine XS.lsub X0.here hx rfl (hb hby own_d4_30) rfl ?_
      show Steps p.tables e below (s₁.setTop (mkF m 31 #[.val (.long j0), .second, .val (.long j1), .second, .val (.long ((((j0.toUInt64 >>> ((1 : Int32) &&& 0x3f).toInt64.toUInt64).toInt64) / j1) <<< ((1 : Int32) &&& 0x3f).toInt64)), .second, .val (.long (j0 - (((((j0.toUInt64 >>> ((1 : Int32) &&& 0x3f).toInt64.toUInt64).toInt64) / j1) <<< ((1 : Int32) &&& 0x3f).toInt64) * j1))), .second] [(.long ((j0 - (((((j0.toUInt64 >>> ((1 : Int32) &&& 0x3f).toInt64.toUInt64).toInt64) / j1) <<< ((1 : Int32) &&& 0x3f).toInt64) * j1)) - j1)), (.long (j0 - (((((j0.toUInt64 >>> ((1 : Int32) &&& 0x3f).toInt64.toUInt64).toInt64) / j1) <<< ((1 : Int32) &&& 0x3f).toInt64) * j1))), (.long ((((j0.toUInt64 >>> ((1 : Int32) &&& 0x3f).toInt64.toUInt64).toInt64) / j1) <<< ((1 : Int32) &&& 0x3f).toInt64))])) _
      refine X0.ldc2Long hx hown (mvT hZ (hw _ (List.mem_of_getElem? (i := 24) rfl))) (g := (mkF m 31 #[.val (.long j0), .second, .val (.long j1), .second, .val (.long ((((j0.toUInt64 >>> ((1 : Int32) &&& 0x3f).toInt64.toUInt64).toInt64) / j1) <<< ((1 : Int32) &&& 0x3f).toInt64)), .second, .val (.long (j0 - (((((j0.toUInt64 >>> ((1 : Int32) &&& 0x3f).toInt64.toUInt64).toInt64) / j1) <<< ((1 : Int32) &&& 0x3f).toInt64) * j1))), .second] [(.long ((j0 - (((((j0.toUInt64 >>> ((1 : Int32) &&& 0x3f).toInt64.toUInt64).toInt64) / j1) <<< ((1 : Int32) &&& 0x3f).toInt64) * j1)) - j1)), (.long (j0 - (((((j0.toUInt64 >>> ((1 : Int32) &&& 0x3f).toInt64.toUInt64).toInt64) / j1) <<< ((1 : Int32) &&& 0x3f).toInt64) * j1))), (.long ((((j0.toUInt64 >>> ((1 : Int32) &&& 0x3f).toInt64.toUInt64).toInt64) / j1) <<< ((1 : Int32) &&& 0x3f).toInt64))])) rfl (hb hby own_d4_31) _ ?_
      show Steps p.tables e below (s₁.setTop (mkF m 34 #[.val (.long j0), .second, .val (.long j1), .second, .val (.long ((((j0.toUInt64 >>> ((1 : Int32) &&& 0x3f).toInt64.toUInt64).toInt64) / j1) <<< ((1 : Int32) &&& 0x3f).toInt64)), .second, .val (.long (j0 - (((((j0.toUInt64 >>> ((1 : Int32) &&& 0x3f).toInt64.toUInt64).toInt64) / j1) <<< ((1 : Int32) &&& 0x3f).toInt64) * j1))), .second] [(.long (-1 : Int64)), (.long ((j0 - (((((j0.toUInt64 >>> ((1 : Int32) &&& 0x3f).toInt64.toUInt64).toInt64) / j1) <<< ((1 : Int32) &&& 0x3f).toInt64) * j1)) - j1)), (.long (j0 - (((((j0.toUInt64 >>> ((1 : Int32) &&& 0x3f).toInt64.toUInt64).toInt64) / j1) <<< ((1 : Int32) &&& 0x3f).toInt64) * j1))), (.long ((((j0.toUInt64 >>> ((1 : Int32) &&& 0x3f).toInt64.toUInt64).toInt64) / j1) <<< ((1 : Int32) &&& 0x3f).toInt64))])) _
      refine XS.lxor X0.here hx rfl (hb hby own_d4_34) rfl ?_
      show Steps p.tables e below (s₁.setTop (mkF m 35 #[.val (.long j0), .second, .val (.long j1), .second, .val (.long ((((j0.toUInt64 >>> ((1 : Int32) &&& 0x3f).toInt64.toUInt64).toInt64) / j1) <<< ((1 : Int32) &&& 0x3f).toInt64)), .second, .val (.long (j0 - (((((j0.toUInt64 >>> ((1 : Int32) &&& 0x3f).toInt64.toUInt64).toInt64) / j1) <<< ((1 : Int32) &&& 0x3f).toInt64) * j1))), .second] [(.long (((j0 - (((((j0.toUInt64 >>> ((1 : Int32) &&& 0x3f).toInt64.toUInt64).toInt64) / j1) <<< ((1 : Int32) &&& 0x3f).toInt64) * j1)) - j1) ^^^ (-1 : Int64))), (.long (j0 - (((((j0.toUInt64 >>> ((1 : Int32) &&& 0x3f).toInt64.toUInt64).toInt64) / j1) <<< ((1 : Int32) &&& 0x3f).toInt64) * j1))), (.long ((((j0.toUInt64 >>> ((1 : Int32) &&& 0x3f).toInt64.toUInt64).toInt64) / j1) <<< ((1 : Int32) &&& 0x3f).toInt64))])) _
      refine XS.lor X0.here hx rfl (hb hby own_d4_35) rfl ?_
      show Steps p.tables e below (s₁.setTop (mkF m 36 #[.val (.long j0), .second, .val (.long j1), .second, .val (.long ((((j0.toUInt64 >>> ((1 : Int32) &&& 0x3f).toInt64.toUInt64).toInt64) / j1) <<< ((1 : Int32) &&& 0x3f).toInt64)), .second, .val (.long (j0 - (((((j0.toUInt64 >>> ((1 : Int32) &&& 0x3f).toInt64.toUInt64).toInt64) / j1) <<< ((1 : Int32) &&& 0x3f).toInt64) * j1))), .second] [(.long ((j0 - (((((j0.toUInt64 >>> ((1 : Int32) &&& 0x3f).toInt64.toUInt64).toInt64) / j1) <<< ((1 : Int32) &&& 0x3f).toInt64) * j1)) ||| (((j0 - (((((j0.toUInt64 >>> ((1 : Int32) &&& 0x3f).toInt64.toUInt64).toInt64) / j1) <<< ((1 : Int32) &&& 0x3f).toInt64) * j1)) - j1) ^^^ (-1 : Int64)))), (.long ((((j0.toUInt64 >>> ((1 : Int32) &&& 0x3f).toInt64.toUInt64).toInt64) / j1) <<< ((1 : Int32) &&& 0x3f).toInt64))])) _
      refine XS.bipush X0.here hx rfl (hb hby own_d4_36) ?_
      show Steps p.tables e below (s₁.setTop (mkF m 38 #[.val (.long j0), .second, .val (.long j1), .second, .val (.long ((((j0.toUInt64 >>> ((1 : Int32) &&& 0x3f).toInt64.toUInt64).toInt64) / j1) <<< ((1 : Int32) &&& 0x3f).toInt64)), .second, .val (.long (j0 - (((((j0.toUInt64 >>> ((1 : Int32) &&& 0x3f).toInt64.toUInt64).toInt64) / j1) <<< ((1 : Int32) &&& 0x3f).toInt64) * j1))), .second] [(.int (63 : Int32)), (.long ((j0 - (((((j0.toUInt64 >>> ((1 : Int32) &&& 0x3f).toInt64.toUInt64).toInt64) / j1) <<< ((1 : Int32) &&& 0x3f).toInt64) * j1)) ||| (((j0 - (((((j0.toUInt64 >>> ((1 : Int32) &&& 0x3f).toInt64.toUInt64).toInt64) / j1) <<< ((1 : Int32) &&& 0x3f).toInt64) * j1)) - j1) ^^^ (-1 : Int64)))), (.long ((((j0.toUInt64 >>> ((1 : Int32) &&& 0x3f).toInt64.toUInt64).toInt64) / j1) <<< ((1 : Int32) &&& 0x3f).toInt64))])) _
      refine XS.lushr X0.here hx rfl (hb hby own_d4_38) rfl ?_
      show Steps p.tables e below (s₁.setTop (mkF m 39 #[.val (.long j0), .second, .val (.long j1), .second, .val (.long ((((j0.toUInt64 >>> ((1 : Int32) &&& 0x3f).toInt64.toUInt64).toInt64) / j1) <<< ((1 : Int32) &&& 0x3f).toInt64)), .second, .val (.long (j0 - (((((j0.toUInt64 >>> ((1 : Int32) &&& 0x3f).toInt64.toUInt64).toInt64) / j1) <<< ((1 : Int32) &&& 0x3f).toInt64) * j1))), .second] [(.long ((((j0 - (((((j0.toUInt64 >>> ((1 : Int32) &&& 0x3f).toInt64.toUInt64).toInt64) / j1) <<< ((1 : Int32) &&& 0x3f).toInt64) * j1)) ||| (((j0 - (((((j0.toUInt64 >>> ((1 : Int32) &&& 0x3f).toInt64.toUInt64).toInt64) / j1) <<< ((1 : Int32) &&& 0x3f).toInt64) * j1)) - j1) ^^^ (-1 : Int64))).toUInt64 >>> ((63 : Int32) &&& 0x3f).toInt64.toUInt64).toInt64)), (.long ((((j0.toUInt64 >>> ((1 : Int32) &&& 0x3f).toInt64.toUInt64).toInt64) / j1) <<< ((1 : Int32) &&& 0x3f).toInt64))])) _
      refine XS.ladd X0.here hx rfl (hb hby own_d4_39) rfl ?_
      exact kt
    refine ownE.retL X0 hx hlk hret (hb hby own_d4_40) ?_ (by decide) (by decide)
    show own_Q4 Z j0 j1 h0 n0 _ s₁.heap _
    rw [e0]
    exact ⟨(by rw [own_du, if_neg hc1] <;> first | rfl | decide), N0, rfl⟩
def own_cm (i1 : Int32) : Int64 := (((1 : Int64) <<< (i1 &&& 0x3f).toInt64) - (1 : Int64))
def own_lb (i1 : Int32) : Int64 := own_du (-1 : Int64) (own_cm i1)
def own_hb (i1 : Int32) : Int64 := (own_lb i1) <<< ((i1 - (1 : Int32)) &&& 0x3f).toInt64
theorem own_pd1 : parseMethodDescriptor "(JJ)J" = some ⟨[.long, .long], some .long⟩ := by decide +kernel
theorem own_d2_0 : decode prog_5_method_1_code 0 = .ok (.aload_n 0, 1) := by decide +kernel
theorem own_d2_1 : decode prog_5_method_1_code 1 = .ok (.invokespecial 1, 3) := by decide +kernel
theorem own_d2_4 : decode prog_5_method_1_code 4 = .ok (.aload_n 0, 1) := by decide +kernel
theorem own_d2_5 : decode prog_5_method_1_code 5 = .ok (.iload_n 1, 1) := by decide +kernel
theorem own_d2_6 : decode prog_5_method_1_code 6 = .ok (.putfield 7, 3) := by decide +kernel
theorem own_d2_9 : decode prog_5_method_1_code 9 = .ok (.aload_n 0, 1) := by decide +kernel
theorem own_d2_10 : decode prog_5_method_1_code 10 = .ok (.lconst 1, 1) := by decide +kernel
theorem own_d2_11 : decode prog_5_method_1_code 11 = .ok (.iload_n 1, 1) := by decide +kernel
theorem own_d2_12 : decode prog_5_method_1_code 12 = .ok (.lshl, 1) := by decide +kernel
theorem own_d2_13 : decode prog_5_method_1_code 13 = .ok (.lconst 1, 1) := by decide +kernel
theorem own_d2_14 : decode prog_5_method_1_code 14 = .ok (.lsub, 1) := by decide +kernel
theorem own_d2_15 : decode prog_5_method_1_code 15 = .ok (.putfield 13, 3) := by decide +kernel
theorem own_d2_18 : decode prog_5_method_1_code 18 = .ok (.aload_n 0, 1) := by decide +kernel
theorem own_d2_19 : decode prog_5_method_1_code 19 = .ok (.ldc2_w 17, 3) := by decide +kernel
theorem own_d2_22 : decode prog_5_method_1_code 22 = .ok (.aload_n 0, 1) := by decide +kernel
theorem own_d2_23 : decode prog_5_method_1_code 23 = .ok (.getfield 13, 3) := by decide +kernel
theorem own_d2_26 : decode prog_5_method_1_code 26 = .ok (.invokestatic 19, 3) := by decide +kernel
theorem own_d2_29 : decode prog_5_method_1_code 29 = .ok (.putfield 25, 3) := by decide +kernel
theorem own_d2_32 : decode prog_5_method_1_code 32 = .ok (.aload_n 0, 1) := by decide +kernel
theorem own_d2_33 : decode prog_5_method_1_code 33 = .ok (.aload_n 0, 1) := by decide +kernel
theorem own_d2_34 : decode prog_5_method_1_code 34 = .ok (.getfield 25, 3) := by decide +kernel
theorem own_d2_37 : decode prog_5_method_1_code 37 = .ok (.iload_n 1, 1) := by decide +kernel
theorem own_d2_38 : decode prog_5_method_1_code 38 = .ok (.iconst 1, 1) := by decide +kernel
theorem own_d2_39 : decode prog_5_method_1_code 39 = .ok (.isub, 1) := by decide +kernel
theorem own_d2_40 : decode prog_5_method_1_code 40 = .ok (.lshl, 1) := by decide +kernel
theorem own_d2_41 : decode prog_5_method_1_code 41 = .ok (.putfield 28, 3) := by decide +kernel
theorem own_d2_44 : decode prog_5_method_1_code 44 = .ok (.return_, 1) := by decide +kernel
theorem own_pn2 : plainName "com/example/upper_falls/upperfalls/CellWords" = true := by first | (simp [plainName, overriddenIn]; done) | decide +kernel
theorem own_ef2 (m : MethodId) (x0 : Addr) (x1 : Int32) : entryFrame m #[(.ref x0), (.int x1)] 2 = mkF m 0 #[.val (.ref x0), .val (.int x1)] [] := by first | (simp [entryFrame, mkF, argsToLocals, Value.category]; done) | rfl
def own_Q2 (Z : State) (r0 : Addr) (i1 : Int32) (h0 : Heap) (n0 : Nat) (v : Option Value) (h : Heap) (L : List Loc) : Prop := v = none ∧ Fr n0 L ∧ Keep h0 h [r0] ∧ Exa Z h r0 "com/example/upper_falls/upperfalls/CellWords" ∧ Fld Z h r0 "com/example/upper_falls/upperfalls/CellWords" "width" "I" (.int i1) ∧ Fld Z h r0 "com/example/upper_falls/upperfalls/CellWords" "cellMask" "J" (.long (own_cm i1)) ∧ Fld Z h r0 "com/example/upper_falls/upperfalls/CellWords" "lowBits" "J" (.long (own_lb i1)) ∧ Fld Z h r0 "com/example/upper_falls/upperfalls/CellWords" "highBits" "J" (.long (own_hb i1))
set_option maxRecDepth 65536 in
set_option maxHeartbeats 40000000 in
theorem own_rm2 (l : Launch) (Z : State) (a0 : Array Value) (hw : ∀ d ∈ tables_1, d.before a0 Z = true) (ws : List Jvm.Cond) (r0 : Addr) (i1 : Int32) (h0 : Heap) (n0 : Nat) (Z0 : n0 ≤ h0.size) (P0 : Fld Z h0 r0 "com/example/upper_falls/upperfalls/CellWords" "width" "I" (.int (0 : Int32))) (P1 : Fld Z h0 r0 "com/example/upper_falls/upperfalls/CellWords" "cellMask" "J" (.long (0 : Int64))) (P2 : Fld Z h0 r0 "com/example/upper_falls/upperfalls/CellWords" "lowBits" "J" (.long (0 : Int64))) (P3 : Fld Z h0 r0 "com/example/upper_falls/upperfalls/CellWords" "highBits" "J" (.long (0 : Int64))) (P4 : Exa Z h0 r0 "com/example/upper_falls/upperfalls/CellWords") (P5 : n0 ≤ r0) (P6 : ¬ (((1 : Int64) <<< (i1 &&& 0x3f).toInt64) - (1 : Int64)) = (0 : Int64)) :
    MetFree l (⟨"com/example/upper_falls/upperfalls/CellWords", "<init>", "(I)V"⟩ : MethodName) (head1 (Jvm.Cond.code (⟨"com/example/upper_falls/upperfalls/CellWords", "<init>", "(I)V"⟩ : MethodName) prog_5_method_1_code 2 none :: ws) ({ frames := 1, cells := 0, slots := 0, locals := 20 } : Room)) (fun a U => a = #[(.ref r0), (.int i1)] ∧ Z.Warmed39 U.vm ∧ U.heap = h0) (fun _ _ _ _ _ => True) (fun _ U o U' => ∃ v L, o = .returned v ∧ own_Q2 Z r0 i1 h0 n0 v U'.heap L ∧ FrameEnd U o U' L ({ frames := 1, cells := 0, slots := 0, locals := 20 } : Room).cells ({ frames := 1, cells := 0, slots := 0, locals := 20 } : Room).slots) := by
  refine MetFree.of_bodySF (plainFor_of_name own_pn2) hisR ?_
  intro p e s m args below meth c s₁ Bd hml0 hP hK
  obtain ⟨rfl, hZ, hh⟩ := hP
  have hx := Bd.exec
  have hby := Bd.bytes
  have hret := Bd.returns
  have hlk := BodyLoose.notSynchronized Bd
  have hml : c.maxLocals = 2 := hml0
  have hown : s.vm.findClass "com/example/upper_falls/upperfalls/CellWords" = some m.cls := findClass_of_methodNamed Bd.named
  have hnm := (name_of_methodNamed Bd.named Bd.method).1
  have X0 : Stand p l e ({ frames := 1, cells := 0, slots := 0, locals := 20 } : Room) s m #[(.ref r0), (.int i1)] below meth c s₁ [] 0 0 := Stand.of_body Bd
  have e0 : s₁.heap = h0 := by rw [← hh, Bd.state]; rfl
  have N0 := Fr.nil n0
  have K0 : Keep h0 h0 [r0] := Keep.refl h0 _
  show ownE p e below s (own_Q2 Z r0 i1 h0 n0) ({ frames := 1, cells := 0, slots := 0, locals := 20 } : Room).cells ({ frames := 1, cells := 0, slots := 0, locals := 20 } : Room).slots s₁ (entryFrame m #[(.ref r0), (.int i1)] 2)
  rw [own_ef2]
  refine ownE.go (T' := s₁) (f' := (mkF m 1 #[.val (.ref r0), .val (.int i1)] [(.ref r0)])) (fun t kt => ?_) ?_
  · show Steps p.tables e below (s₁.setTop (mkF m 0 #[.val (.ref r0), .val (.int i1)] [])) _
    refine XS.aloadN X0.here hx rfl (hb hby own_d2_0) rfl rfl ?_
    exact kt
  obtain ⟨T1, X1, e1, st1⟩ := initO X0 hx hZ hown (hw _ (List.mem_of_getElem? (i := 12) rfl)) (hw _ (List.mem_of_getElem? (i := 13) rfl)) (hw _ (List.mem_of_getElem? (i := 14) rfl)) e0 (g := (mkF m 1 #[.val (.ref r0), .val (.int i1)] [(.ref r0)])) rfl (by rw [hml]; rfl) rfl (hb hby own_d2_1) (by decide) (W := 0) (by show 2 * 0 + _ ≤ _; exact Nat.le_of_eq rfl) (by decide)
  refine ownE.go (T' := T1) (f' := (mkF m 4 #[.val (.ref r0), .val (.int i1)] [])) st1 ?_
  refine ownE.go (T' := T1) (f' := (mkF m 6 #[.val (.ref r0), .val (.int i1)] [(.int i1), (.ref r0)])) (fun t kt => ?_) ?_
  · show Steps p.tables e below (T1.setTop (mkF m 4 #[.val (.ref r0), .val (.int i1)] [])) _
    refine XS.aloadN X1.here hx rfl (hb hby own_d2_4) rfl rfl ?_
    show Steps p.tables e below (T1.setTop (mkF m 5 #[.val (.ref r0), .val (.int i1)] [(.ref r0)])) _
    refine XS.iloadN X1.here hx rfl (hb hby own_d2_5) rfl ?_
    exact kt
  obtain ⟨T2, h2, X2, e2, W2, st2⟩ := putF X1 hx hZ hown (host := "") (Or.inl (hw _ (List.mem_of_getElem? (i := 15) rfl))) Via.refl e1 P0 P4 (Or.inr ⟨(hw _ (List.mem_of_getElem? (i := 16) rfl)), rfl, hnm⟩) (hw _ (List.mem_of_getElem? (i := 7) rfl)) (ty := .int) (by decide) rfl rfl (g := (mkF m 6 #[.val (.ref r0), .val (.int i1)] [(.int i1), (.ref r0)])) rfl rfl (hb hby own_d2_6)
  have Fw2 : Fld Z h2 r0 "com/example/upper_falls/upperfalls/CellWords" "width" "I" (.int i1) := P0.same W2
  have cFld_r0_cellMask_2 : Fld Z h2 r0 "com/example/upper_falls/upperfalls/CellWords" "cellMask" "J" (.long (0 : Int64)) := P1.other W2 (Or.inr (slot_ne (Or.inr (hw _ (List.mem_of_getElem? (i := 18) rfl))) (Or.inr (hw _ (List.mem_of_getElem? (i := 16) rfl))) (by decide) (t := .long) (t' := .int) (by decide) (by decide)))
  have cFld_r0_lowBits_2 : Fld Z h2 r0 "com/example/upper_falls/upperfalls/CellWords" "lowBits" "J" (.long (0 : Int64)) := P2.other W2 (Or.inr (slot_ne (Or.inr (hw _ (List.mem_of_getElem? (i := 26) rfl))) (Or.inr (hw _ (List.mem_of_getElem? (i := 16) rfl))) (by decide) (t := .long) (t' := .int) (by decide) (by decide)))
  have cFld_r0_highBits_2 : Fld Z h2 r0 "com/example/upper_falls/upperfalls/CellWords" "highBits" "J" (.long (0 : Int64)) := P3.other W2 (Or.inr (slot_ne (Or.inr (hw _ (List.mem_of_getElem? (i := 28) rfl))) (Or.inr (hw _ (List.mem_of_getElem? (i := 16) rfl))) (by decide) (t := .long) (t' := .int) (by decide) (by decide)))
  have cExa_r0_2 : Exa Z h2 r0 "com/example/upper_falls/upperfalls/CellWords" := P4.wr W2
  have K2 : Keep h0 h2 [r0] := K0.wr W2 (Or.inl (List.mem_of_getElem? (i := 0) rfl))
  have N2 := Fr.snoc X2 N0 P5
  refine ownE.go (T' := T2) (f' := (mkF m 9 #[.val (.ref r0), .val (.int i1)] [])) st2 ?_
  refine ownE.go (T' := T2) (f' := (mkF m 15 #[.val (.ref r0), .val (.int i1)] [(.long (((1 : Int64) <<< (i1 &&& 0x3f).toInt64) - (1 : Int64))), (.ref r0)])) (fun t kt => ?_) ?_
  · show Steps p.tables e below (T2.setTop (mkF m 9 #[.val (.ref r0), .val (.int i1)] [])) _
    refine XS.aloadN X2.here hx rfl (hb hby own_d2_9) rfl rfl ?_
    show Steps p.tables e below (T2.setTop (mkF m 10 #[.val (.ref r0), .val (.int i1)] [(.ref r0)])) _
    refine XS.lconst X2.here hx rfl (hb hby own_d2_10) ?_
    show Steps p.tables e below (T2.setTop (mkF m 11 #[.val (.ref r0), .val (.int i1)] [(.long (1 : Int64)), (.ref r0)])) _
    refine XS.iloadN X2.here hx rfl (hb hby own_d2_11) rfl ?_
    show Steps p.tables e below (T2.setTop (mkF m 12 #[.val (.ref r0), .val (.int i1)] [(.int i1), (.long (1 : Int64)), (.ref r0)])) _
    refine XS.lshl X2.here hx rfl (hb hby own_d2_12) rfl ?_
    show Steps p.tables e below (T2.setTop (mkF m 13 #[.val (.ref r0), .val (.int i1)] [(.long ((1 : Int64) <<< (i1 &&& 0x3f).toInt64)), (.ref r0)])) _
    refine XS.lconst X2.here hx rfl (hb hby own_d2_13) ?_
    show Steps p.tables e below (T2.setTop (mkF m 14 #[.val (.ref r0), .val (.int i1)] [(.long (1 : Int64)), (.long ((1 : Int64) <<< (i1 &&& 0x3f).toInt64)), (.ref r0)])) _
    refine XS.lsub X2.here hx rfl (hb hby own_d2_14) rfl ?_
    exact kt
  obtain ⟨T3, h3, X3, e3, W3, st3⟩ := putF X2 hx hZ hown (host := "") (Or.inl (hw _ (List.mem_of_getElem? (i := 17) rfl))) Via.refl e2 cFld_r0_cellMask_2 cExa_r0_2 (Or.inr ⟨(hw _ (List.mem_of_getElem? (i := 18) rfl)), rfl, hnm⟩) (hw _ (List.mem_of_getElem? (i := 7) rfl)) (ty := .long) (by decide) rfl rfl (g := (mkF m 15 #[.val (.ref r0), .val (.int i1)] [(.long (((1 : Int64) <<< (i1 &&& 0x3f).toInt64) - (1 : Int64))), (.ref r0)])) rfl rfl (hb hby own_d2_15)
  have Fw3 : Fld Z h3 r0 "com/example/upper_falls/upperfalls/CellWords" "cellMask" "J" (.long (((1 : Int64) <<< (i1 &&& 0x3f).toInt64) - (1 : Int64))) := cFld_r0_cellMask_2.same W3
  have cFld_r0_width_3 : Fld Z h3 r0 "com/example/upper_falls/upperfalls/CellWords" "width" "I" (.int i1) := Fw2.other W3 (Or.inr (slot_ne (Or.inr (hw _ (List.mem_of_getElem? (i := 16) rfl))) (Or.inr (hw _ (List.mem_of_getElem? (i := 18) rfl))) (by decide) (t := .int) (t' := .long) (by decide) (by decide)))
  have cFld_r0_lowBits_3 : Fld Z h3 r0 "com/example/upper_falls/upperfalls/CellWords" "lowBits" "J" (.long (0 : Int64)) := cFld_r0_lowBits_2.other W3 (Or.inr (slot_ne (Or.inr (hw _ (List.mem_of_getElem? (i := 26) rfl))) (Or.inr (hw _ (List.mem_of_getElem? (i := 18) rfl))) (by decide) (t := .long) (t' := .long) (by decide) (by decide)))
  have cFld_r0_highBits_3 : Fld Z h3 r0 "com/example/upper_falls/upperfalls/CellWords" "highBits" "J" (.long (0 : Int64)) := cFld_r0_highBits_2.other W3 (Or.inr (slot_ne (Or.inr (hw _ (List.mem_of_getElem? (i := 28) rfl))) (Or.inr (hw _ (List.mem_of_getElem? (i := 18) rfl))) (by decide) (t := .long) (t' := .long) (by decide) (by decide)))
  have cExa_r0_3 : Exa Z h3 r0 "com/example/upper_falls/upperfalls/CellWords" := cExa_r0_2.wr W3
  have K3 : Keep h0 h3 [r0] := K2.wr W3 (Or.inl (List.mem_of_getElem? (i := 0) rfl))
  have N3 := Fr.snoc X3 N2 P5
  refine ownE.go (T' := T3) (f' := (mkF m 18 #[.val (.ref r0), .val (.int i1)] [])) st3 ?_
  refine ownE.go (T' := T3) (f' := (mkF m 23 #[.val (.ref r0), .val (.int i1)] [(.ref r0), (.long (-1 : Int64)), (.ref r0)])) (fun t kt => ?_) ?_
  · show Steps p.tables e below (T3.setTop (mkF m 18 #[.val (.ref r0), .val (.int i1)] [])) _
    refine XS.aloadN X3.here hx rfl (hb hby own_d2_18) rfl rfl ?_
    show Steps p.tables e below (T3.setTop (mkF m 19 #[.val (.ref r0), .val (.int i1)] [(.ref r0)])) _
    refine X3.ldc2Long hx hown (mvT hZ (hw _ (List.mem_of_getElem? (i := 19) rfl))) (g := (mkF m 19 #[.val (.ref r0), .val (.int i1)] [(.ref r0)])) rfl (hb hby own_d2_19) _ ?_
    show Steps p.tables e below (T3.setTop (mkF m 22 #[.val (.ref r0), .val (.int i1)] [(.long (-1 : Int64)), (.ref r0)])) _
    refine XS.aloadN X3.here hx rfl (hb hby own_d2_22) rfl rfl ?_
    exact kt
  obtain ⟨T4, X4, e4, st4⟩ := getF X3 hx hZ hown (host := "") (Or.inl (hw _ (List.mem_of_getElem? (i := 17) rfl))) Via.refl e3 Fw3 (g := (mkF m 23 #[.val (.ref r0), .val (.int i1)] [(.ref r0), (.long (-1 : Int64)), (.ref r0)])) rfl rfl (hb hby own_d2_23)
  refine ownE.go (T' := T4) (f' := (mkF m 26 #[.val (.ref r0), .val (.int i1)] [(.long (((1 : Int64) <<< (i1 &&& 0x3f).toInt64) - (1 : Int64))), (.long (-1 : Int64)), (.ref r0)])) st4 ?_
  obtain ⟨_, _, ⟨T5, L5, k5, n5⟩, -, X5, ⟨Lc5, hQ5, l5, y5, z5⟩, st5⟩ := Jvm.LawKit.callS X4 hx (y := (⟨"java/lang/Long", "divideUnsigned", "(JJ)J"⟩ : MethodName)) hown (mvT hZ (hw _ (List.mem_of_getElem? (i := 20) rfl))) (mvT hZ (hw _ (List.mem_of_getElem? (i := 21) rfl))) (mvT hZ (hw _ (List.mem_of_getElem? (i := 22) rfl))) (mvT hZ (hw _ (List.mem_of_getElem? (i := 23) rfl))) (by decide) (backOf (W := 1) (own_rm4 l Z a0 hw [] (-1 : Int64) (((1 : Int64) <<< (i1 &&& 0x3f).toInt64) - (1 : Int64)) h3 n0 (Nat.le_trans Z0 K3.1) P6) hZ (hw _ (List.mem_of_getElem? (i := 23) rfl)) (hw _ (List.mem_of_getElem? (i := 22) rfl)) (by decide) (by decide)) (g := (mkF m 26 #[.val (.ref r0), .val (.int i1)] [(.long (((1 : Int64) <<< (i1 &&& 0x3f).toInt64) - (1 : Int64))), (.long (-1 : Int64)), (.ref r0)])) rfl (by rw [hml]; rfl) (argsL := [(.long (-1 : Int64)), (.long (((1 : Int64) <<< (i1 &&& 0x3f).toInt64) - (1 : Int64)))]) (rest := [(.ref r0)]) (lenOf own_pd1 rfl) rfl (by show 2 * 0 + _ ≤ _; exact Nat.le_of_eq rfl) (hb hby own_d2_26) (fun _ _ => ⟨rfl, e4, (by decide : 0 + 0 ≤ _), (by decide : 0 + 0 ≤ _)⟩)
  dsimp only [Pt.U, Pt.locs, Pt.cells, Pt.slots] at X5 l5 y5 z5 st5 hQ5
  subst l5 y5 z5
  obtain ⟨rfl, N5q, e5⟩ := hQ5
  have N5 := Fr.app N3 N5q
  refine ownE.go (T' := T5) (f' := (mkF m 29 #[.val (.ref r0), .val (.int i1)] [(.long (own_du (-1 : Int64) (((1 : Int64) <<< (i1 &&& 0x3f).toInt64) - (1 : Int64)))), (.ref r0)])) st5 ?_
  obtain ⟨T6, h6, X6, e6, W6, st6⟩ := putF X5 hx hZ hown (host := "") (Or.inl (hw _ (List.mem_of_getElem? (i := 25) rfl))) Via.refl e5 cFld_r0_lowBits_3 cExa_r0_3 (Or.inr ⟨(hw _ (List.mem_of_getElem? (i := 26) rfl)), rfl, hnm⟩) (hw _ (List.mem_of_getElem? (i := 7) rfl)) (ty := .long) (by decide) rfl rfl (g := (mkF m 29 #[.val (.ref r0), .val (.int i1)] [(.long (own_du (-1 : Int64) (((1 : Int64) <<< (i1 &&& 0x3f).toInt64) - (1 : Int64)))), (.ref r0)])) rfl rfl (hb hby own_d2_29)
  have Fw6 : Fld Z h6 r0 "com/example/upper_falls/upperfalls/CellWords" "lowBits" "J" (.long (own_du (-1 : Int64) (((1 : Int64) <<< (i1 &&& 0x3f).toInt64) - (1 : Int64)))) := cFld_r0_lowBits_3.same W6
  have cFld_r0_width_6 : Fld Z h6 r0 "com/example/upper_falls/upperfalls/CellWords" "width" "I" (.int i1) := cFld_r0_width_3.other W6 (Or.inr (slot_ne (Or.inr (hw _ (List.mem_of_getElem? (i := 16) rfl))) (Or.inr (hw _ (List.mem_of_getElem? (i := 26) rfl))) (by decide) (t := .int) (t' := .long) (by decide) (by decide)))
  have cFld_r0_cellMask_6 : Fld Z h6 r0 "com/example/upper_falls/upperfalls/CellWords" "cellMask" "J" (.long (((1 : Int64) <<< (i1 &&& 0x3f).toInt64) - (1 : Int64))) := Fw3.other W6 (Or.inr (slot_ne (Or.inr (hw _ (List.mem_of_getElem? (i := 18) rfl))) (Or.inr (hw _ (List.mem_of_getElem? (i := 26) rfl))) (by decide) (t := .long) (t' := .long) (by decide) (by decide)))
  have cFld_r0_highBits_6 : Fld Z h6 r0 "com/example/upper_falls/upperfalls/CellWords" "highBits" "J" (.long (0 : Int64)) := cFld_r0_highBits_3.other W6 (Or.inr (slot_ne (Or.inr (hw _ (List.mem_of_getElem? (i := 28) rfl))) (Or.inr (hw _ (List.mem_of_getElem? (i := 26) rfl))) (by decide) (t := .long) (t' := .long) (by decide) (by decide)))
  have cExa_r0_6 : Exa Z h6 r0 "com/example/upper_falls/upperfalls/CellWords" := cExa_r0_3.wr W6
  have K6 : Keep h0 h6 [r0] := K3.wr W6 (Or.inl (List.mem_of_getElem? (i := 0) rfl))
  have N6 := Fr.snoc X6 N5 P5
  refine ownE.go (T' := T6) (f' := (mkF m 32 #[.val (.ref r0), .val (.int i1)] [])) st6 ?_
  refine ownE.go (T' := T6) (f' := (mkF m 34 #[.val (.ref r0), .val (.int i1)] [(.ref r0), (.ref r0)])) (fun t kt => ?_) ?_
  · show Steps p.tables e below (T6.setTop (mkF m 32 #[.val (.ref r0), .val (.int i1)] [])) _
    refine XS.aloadN X6.here hx rfl (hb hby own_d2_32) rfl rfl ?_
    show Steps p.tables e below (T6.setTop (mkF m 33 #[.val (.ref r0), .val (.int i1)] [(.ref r0)])) _
    refine XS.aloadN X6.here hx rfl (hb hby own_d2_33) rfl rfl ?_
    exact kt
  obtain ⟨T7, X7, e7, st7⟩ := getF X6 hx hZ hown (host := "") (Or.inl (hw _ (List.mem_of_getElem? (i := 25) rfl))) Via.refl e6 Fw6 (g := (mkF m 34 #[.val (.ref r0), .val (.int i1)] [(.ref r0), (.ref r0)])) rfl rfl (hb hby own_d2_34)
  refine ownE.go (T' := T7) (f' := (mkF m 37 #[.val (.ref r0), .val (.int i1)] [(.long (own_du (-1 : Int64) (((1 : Int64) <<< (i1 &&& 0x3f).toInt64) - (1 : Int64)))), (.ref r0)])) st7 ?_
  refine ownE.go (T' := T7) (f' := (mkF m 41 #[.val (.ref r0), .val (.int i1)] [(.long ((own_du (-1 : Int64) (((1 : Int64) <<< (i1 &&& 0x3f).toInt64) - (1 : Int64))) <<< ((i1 - (1 : Int32)) &&& 0x3f).toInt64)), (.ref r0)])) (fun t kt => ?_) ?_
  · show Steps p.tables e below (T7.setTop (mkF m 37 #[.val (.ref r0), .val (.int i1)] [(.long (own_du (-1 : Int64) (((1 : Int64) <<< (i1 &&& 0x3f).toInt64) - (1 : Int64)))), (.ref r0)])) _
    refine XS.iloadN X7.here hx rfl (hb hby own_d2_37) rfl ?_
    show Steps p.tables e below (T7.setTop (mkF m 38 #[.val (.ref r0), .val (.int i1)] [(.int i1), (.long (own_du (-1 : Int64) (((1 : Int64) <<< (i1 &&& 0x3f).toInt64) - (1 : Int64)))), (.ref r0)])) _
    refine XS.iconst X7.here hx rfl (hb hby own_d2_38) ?_
    show Steps p.tables e below (T7.setTop (mkF m 39 #[.val (.ref r0), .val (.int i1)] [(.int (1 : Int32)), (.int i1), (.long (own_du (-1 : Int64) (((1 : Int64) <<< (i1 &&& 0x3f).toInt64) - (1 : Int64)))), (.ref r0)])) _
    refine XS.isub X7.here hx rfl (hb hby own_d2_39) rfl ?_
    show Steps p.tables e below (T7.setTop (mkF m 40 #[.val (.ref r0), .val (.int i1)] [(.int (i1 - (1 : Int32))), (.long (own_du (-1 : Int64) (((1 : Int64) <<< (i1 &&& 0x3f).toInt64) - (1 : Int64)))), (.ref r0)])) _
    refine XS.lshl X7.here hx rfl (hb hby own_d2_40) rfl ?_
    exact kt
  obtain ⟨T8, h8, X8, e8, W8, st8⟩ := putF X7 hx hZ hown (host := "") (Or.inl (hw _ (List.mem_of_getElem? (i := 27) rfl))) Via.refl e7 cFld_r0_highBits_6 cExa_r0_6 (Or.inr ⟨(hw _ (List.mem_of_getElem? (i := 28) rfl)), rfl, hnm⟩) (hw _ (List.mem_of_getElem? (i := 7) rfl)) (ty := .long) (by decide) rfl rfl (g := (mkF m 41 #[.val (.ref r0), .val (.int i1)] [(.long ((own_du (-1 : Int64) (((1 : Int64) <<< (i1 &&& 0x3f).toInt64) - (1 : Int64))) <<< ((i1 - (1 : Int32)) &&& 0x3f).toInt64)), (.ref r0)])) rfl rfl (hb hby own_d2_41)
  have Fw8 : Fld Z h8 r0 "com/example/upper_falls/upperfalls/CellWords" "highBits" "J" (.long ((own_du (-1 : Int64) (((1 : Int64) <<< (i1 &&& 0x3f).toInt64) - (1 : Int64))) <<< ((i1 - (1 : Int32)) &&& 0x3f).toInt64)) := cFld_r0_highBits_6.same W8
  have cFld_r0_width_8 : Fld Z h8 r0 "com/example/upper_falls/upperfalls/CellWords" "width" "I" (.int i1) := cFld_r0_width_6.other W8 (Or.inr (slot_ne (Or.inr (hw _ (List.mem_of_getElem? (i := 16) rfl))) (Or.inr (hw _ (List.mem_of_getElem? (i := 28) rfl))) (by decide) (t := .int) (t' := .long) (by decide) (by decide)))
  have cFld_r0_cellMask_8 : Fld Z h8 r0 "com/example/upper_falls/upperfalls/CellWords" "cellMask" "J" (.long (((1 : Int64) <<< (i1 &&& 0x3f).toInt64) - (1 : Int64))) := cFld_r0_cellMask_6.other W8 (Or.inr (slot_ne (Or.inr (hw _ (List.mem_of_getElem? (i := 18) rfl))) (Or.inr (hw _ (List.mem_of_getElem? (i := 28) rfl))) (by decide) (t := .long) (t' := .long) (by decide) (by decide)))
  have cFld_r0_lowBits_8 : Fld Z h8 r0 "com/example/upper_falls/upperfalls/CellWords" "lowBits" "J" (.long (own_du (-1 : Int64) (((1 : Int64) <<< (i1 &&& 0x3f).toInt64) - (1 : Int64)))) := Fw6.other W8 (Or.inr (slot_ne (Or.inr (hw _ (List.mem_of_getElem? (i := 26) rfl))) (Or.inr (hw _ (List.mem_of_getElem? (i := 28) rfl))) (by decide) (t := .long) (t' := .long) (by decide) (by decide)))
  have cExa_r0_8 : Exa Z h8 r0 "com/example/upper_falls/upperfalls/CellWords" := cExa_r0_6.wr W8
  have K8 : Keep h0 h8 [r0] := K6.wr W8 (Or.inl (List.mem_of_getElem? (i := 0) rfl))
  have N8 := Fr.snoc X8 N6 P5
  refine ownE.go (T' := T8) (f' := (mkF m 44 #[.val (.ref r0), .val (.int i1)] [])) st8 ?_
  refine ownE.retV X8 hx hlk hret (hb hby own_d2_44) ?_ (by decide) (by decide)
  show own_Q2 Z r0 i1 h0 n0 _ T8.heap _
  rw [e8]
  exact ⟨rfl, N8, K8, cExa_r0_8, cFld_r0_width_8, cFld_r0_cellMask_8, cFld_r0_lowBits_8, Fw8⟩
theorem own_six (x : Int32) : (x &&& (2147483647 : Int32)) % (6 : Int32) = 0 ∨ (x &&& (2147483647 : Int32)) % (6 : Int32) = 1 ∨ (x &&& (2147483647 : Int32)) % (6 : Int32) = 2 ∨ (x &&& (2147483647 : Int32)) % (6 : Int32) = 3 ∨ (x &&& (2147483647 : Int32)) % (6 : Int32) = 4 ∨ (x &&& (2147483647 : Int32)) % (6 : Int32) = 5 := by
  have h := c_mask x 2147483647 31 (by decide) (by decide)
  have p : ((2 ^ 31 : Nat) : Int) = 2147483648 := by decide
  rw [p] at h
  have q := (c_irem (x &&& 2147483647) 6 6 (by decide)).1 (by omega)
  simp only [← Int32.toInt_inj, q]
  have z0 : (0 : Int32).toInt = 0 := by decide
  have z1 : (1 : Int32).toInt = 1 := by decide
  have z2 : (2 : Int32).toInt = 2 := by decide
  have z3 : (3 : Int32).toInt = 3 := by decide
  have z4 : (4 : Int32).toInt = 4 := by decide
  have z5 : (5 : Int32).toInt = 5 := by decide
  rw [z0, z1, z2, z3, z4, z5]
  omega
theorem own_cmnz (x : Int32) : ¬ (((1 : Int64) <<< (((1 : Int32) <<< (((x &&& (2147483647 : Int32)) % (6 : Int32)) &&& 31)) &&& 0x3f).toInt64) - (1 : Int64)) = (0 : Int64) := by
  rcases own_six x with h | h | h | h | h | h <;> rw [h] <;> decide
theorem own_d1_0 : decode method_3_code 0 = .ok (.iload_n 0, 1) := by decide +kernel
theorem own_d1_1 : decode method_3_code 1 = .ok (.ifCond .ne 7, 3) := by decide +kernel
theorem own_d1_4 : decode method_3_code 4 = .ok (.ldc2_w 23, 3) := by decide +kernel
theorem own_d1_7 : decode method_3_code 7 = .ok (.lreturn, 1) := by decide +kernel
theorem own_d1_8 : decode method_3_code 8 = .ok (.iload_n 0, 1) := by decide +kernel
theorem own_d1_9 : decode method_3_code 9 = .ok (.iconst 1, 1) := by decide +kernel
theorem own_d1_10 : decode method_3_code 10 = .ok (.if_icmp .ne 7, 3) := by decide +kernel
theorem own_d1_13 : decode method_3_code 13 = .ok (.ldc2_w 25, 3) := by decide +kernel
theorem own_d1_16 : decode method_3_code 16 = .ok (.lreturn, 1) := by decide +kernel
theorem own_d1_17 : decode method_3_code 17 = .ok (.iload_n 0, 1) := by decide +kernel
theorem own_d1_18 : decode method_3_code 18 = .ok (.iconst 2, 1) := by decide +kernel
theorem own_d1_19 : decode method_3_code 19 = .ok (.if_icmp .ne 7, 3) := by decide +kernel
theorem own_d1_22 : decode method_3_code 22 = .ok (.ldc2_w 27, 3) := by decide +kernel
theorem own_d1_25 : decode method_3_code 25 = .ok (.lreturn, 1) := by decide +kernel
theorem own_d1_26 : decode method_3_code 26 = .ok (.iload_n 0, 1) := by decide +kernel
theorem own_d1_27 : decode method_3_code 27 = .ok (.iconst 3, 1) := by decide +kernel
theorem own_d1_28 : decode method_3_code 28 = .ok (.if_icmp .ne 7, 3) := by decide +kernel
theorem own_d1_31 : decode method_3_code 31 = .ok (.ldc2_w 29, 3) := by decide +kernel
theorem own_d1_34 : decode method_3_code 34 = .ok (.lreturn, 1) := by decide +kernel
theorem own_d1_35 : decode method_3_code 35 = .ok (.iload_n 0, 1) := by decide +kernel
theorem own_d1_36 : decode method_3_code 36 = .ok (.iconst 4, 1) := by decide +kernel
theorem own_d1_37 : decode method_3_code 37 = .ok (.if_icmp .ne 7, 3) := by decide +kernel
theorem own_d1_40 : decode method_3_code 40 = .ok (.ldc2_w 31, 3) := by decide +kernel
theorem own_d1_43 : decode method_3_code 43 = .ok (.lreturn, 1) := by decide +kernel
theorem own_d1_44 : decode method_3_code 44 = .ok (.ldc2_w 33, 3) := by decide +kernel
theorem own_d1_47 : decode method_3_code 47 = .ok (.lreturn, 1) := by decide +kernel
theorem own_pn3 : plainName "com/example/upper_falls/upperfalls/CellWordsFoldPinLaw" = true := by first | (simp [plainName, overriddenIn]; done) | decide +kernel
theorem own_ef1 (m : MethodId) (x0 : Int32) : entryFrame m #[(.int x0)] 1 = mkF m 0 #[.val (.int x0)] [] := by first | (simp [entryFrame, mkF, argsToLocals, Value.category]; done) | rfl
def own_lbo (i0 : Int32) : Int64 :=
  if i0 = (0 : Int32) then
    (-1 : Int64)
  else
    if i0 = (1 : Int32) then
      (6148914691236517205 : Int64)
    else
      if i0 = (2 : Int32) then
        (1229782938247303441 : Int64)
      else
        if i0 = (3 : Int32) then
          (72340172838076673 : Int64)
        else
          if i0 = (4 : Int32) then
            (281479271743489 : Int64)
          else
            (4294967297 : Int64)
def own_Q1 (Z : State) (i0 : Int32) (h0 : Heap) (n0 : Nat) (v : Option Value) (h : Heap) (L : List Loc) : Prop := v = some (.long (own_lbo i0)) ∧ Fr n0 L ∧ h = h0
set_option maxRecDepth 65536 in
set_option maxHeartbeats 40000000 in
theorem own_rm1 (l : Launch) (Z : State) (a0 : Array Value) (hw : ∀ d ∈ tables_1, d.before a0 Z = true) (ws : List Jvm.Cond) (i0 : Int32) (h0 : Heap) (n0 : Nat) (Z0 : n0 ≤ h0.size) :
    MetFree l (⟨"com/example/upper_falls/upperfalls/CellWordsFoldPinLaw", "lowBitsOf", "(I)J"⟩ : MethodName) (head1 (Jvm.Cond.code (⟨"com/example/upper_falls/upperfalls/CellWordsFoldPinLaw", "lowBitsOf", "(I)J"⟩ : MethodName) method_3_code 1 (some .long) :: ws) ({ frames := 0, cells := 0, slots := 0, locals := 0 } : Room)) (fun a U => a = #[(.int i0)] ∧ Z.Warmed39 U.vm ∧ U.heap = h0) (fun _ _ _ _ _ => True) (fun _ U o U' => ∃ v L, o = .returned v ∧ own_Q1 Z i0 h0 n0 v U'.heap L ∧ FrameEnd U o U' L ({ frames := 0, cells := 0, slots := 0, locals := 0 } : Room).cells ({ frames := 0, cells := 0, slots := 0, locals := 0 } : Room).slots) := by
  refine MetFree.of_bodySF (plainFor_of_name own_pn3) hisR ?_
  intro p e s m args below meth c s₁ Bd hml0 hP hK
  obtain ⟨rfl, hZ, hh⟩ := hP
  have hx := Bd.exec
  have hby := Bd.bytes
  have hret := Bd.returns
  have hlk := BodyLoose.notSynchronized Bd
  have hml : c.maxLocals = 1 := hml0
  have hown : s.vm.findClass "com/example/upper_falls/upperfalls/CellWordsFoldPinLaw" = some m.cls := findClass_of_methodNamed Bd.named
  have hnm := (name_of_methodNamed Bd.named Bd.method).1
  have X0 : Stand p l e ({ frames := 0, cells := 0, slots := 0, locals := 0 } : Room) s m #[(.int i0)] below meth c s₁ [] 0 0 := Stand.of_body Bd
  have e0 : s₁.heap = h0 := by rw [← hh, Bd.state]; rfl
  have N0 := Fr.nil n0
  have K0 : Keep h0 h0 [] := Keep.refl h0 _
  show ownE p e below s (own_Q1 Z i0 h0 n0) ({ frames := 0, cells := 0, slots := 0, locals := 0 } : Room).cells ({ frames := 0, cells := 0, slots := 0, locals := 0 } : Room).slots s₁ (entryFrame m #[(.int i0)] 1)
  rw [own_ef1]
  refine ownE.go (T' := s₁) (f' := (mkF m 1 #[.val (.int i0)] [(.int i0)])) (fun t kt => ?_) ?_
  · show Steps p.tables e below (s₁.setTop (mkF m 0 #[.val (.int i0)] [])) _
    refine XS.iloadN X0.here hx rfl (hb hby own_d1_0) rfl ?_
    exact kt
  by_cases hc1 : i0 = (0 : Int32)
  · -- pc 1
    refine ownE.go (T' := s₁) (f' := (mkF m 4 #[.val (.int i0)] [])) (fun t kt => XS.ifNo (g := (mkF m 1 #[.val (.int i0)] [(.int i0)])) X0.here hx rfl (hb hby own_d1_1) rfl (Jvm.Free.XT.i0_ne_f hc1) kt) ?_
    refine ownE.go (T' := s₁) (f' := (mkF m 7 #[.val (.int i0)] [(.long (-1 : Int64))])) (fun t kt => ?_) ?_
    · show Steps p.tables e below (s₁.setTop (mkF m 4 #[.val (.int i0)] [])) _
      refine X0.ldc2Long hx hown (mvT hZ (hw _ (List.mem_of_getElem? (i := 34) rfl))) (g := (mkF m 4 #[.val (.int i0)] [])) rfl (hb hby own_d1_4) _ ?_
      exact kt
    refine ownE.retL X0 hx hlk hret (hb hby own_d1_7) ?_ (by decide) (by decide)
    show own_Q1 Z i0 h0 n0 _ s₁.heap _
    rw [e0]
    exact ⟨(by rw [own_lbo, if_pos hc1] <;> first | rfl | decide), N0, rfl⟩
  · -- pc 1
    refine ownE.go (T' := s₁) (f' := (mkF m 8 #[.val (.int i0)] [])) (fun t kt => XS.ifYes (g := (mkF m 1 #[.val (.int i0)] [(.int i0)])) X0.here hx rfl (pc0 := 1) (pc' := 8) rfl (hb hby own_d1_1) rfl (Jvm.Free.XT.i0_ne_t hc1) (by decide) (by decide) kt) ?_
    refine ownE.go (T' := s₁) (f' := (mkF m 10 #[.val (.int i0)] [(.int (1 : Int32)), (.int i0)])) (fun t kt => ?_) ?_
    · show Steps p.tables e below (s₁.setTop (mkF m 8 #[.val (.int i0)] [])) _
      refine XS.iloadN X0.here hx rfl (hb hby own_d1_8) rfl ?_
      show Steps p.tables e below (s₁.setTop (mkF m 9 #[.val (.int i0)] [(.int i0)])) _
      refine XS.iconst X0.here hx rfl (hb hby own_d1_9) ?_
      exact kt
    by_cases hc2 : i0 = (1 : Int32)
    · -- pc 10
      refine ownE.go (T' := s₁) (f' := (mkF m 13 #[.val (.int i0)] [])) (fun t kt => XS.icmpNo (g := (mkF m 10 #[.val (.int i0)] [(.int (1 : Int32)), (.int i0)])) X0.here hx rfl (hb hby own_d1_10) rfl (Jvm.Free.XT.ii_ne_f hc2) kt) ?_
      refine ownE.go (T' := s₁) (f' := (mkF m 16 #[.val (.int i0)] [(.long (6148914691236517205 : Int64))])) (fun t kt => ?_) ?_
      · show Steps p.tables e below (s₁.setTop (mkF m 13 #[.val (.int i0)] [])) _
        refine X0.ldc2Long hx hown (mvT hZ (hw _ (List.mem_of_getElem? (i := 5) rfl))) (g := (mkF m 13 #[.val (.int i0)] [])) rfl (hb hby own_d1_13) _ ?_
        exact kt
      refine ownE.retL X0 hx hlk hret (hb hby own_d1_16) ?_ (by decide) (by decide)
      show own_Q1 Z i0 h0 n0 _ s₁.heap _
      rw [e0]
      exact ⟨(by rw [own_lbo, if_neg hc1, if_pos hc2] <;> first | rfl | decide), N0, rfl⟩
    · -- pc 10
      refine ownE.go (T' := s₁) (f' := (mkF m 17 #[.val (.int i0)] [])) (fun t kt => XS.icmpYes (g := (mkF m 10 #[.val (.int i0)] [(.int (1 : Int32)), (.int i0)])) X0.here hx rfl (pc0 := 10) (pc' := 17) rfl (hb hby own_d1_10) rfl (Jvm.Free.XT.ii_ne_t hc2) (by decide) (by decide) kt) ?_
      refine ownE.go (T' := s₁) (f' := (mkF m 19 #[.val (.int i0)] [(.int (2 : Int32)), (.int i0)])) (fun t kt => ?_) ?_
      · show Steps p.tables e below (s₁.setTop (mkF m 17 #[.val (.int i0)] [])) _
        refine XS.iloadN X0.here hx rfl (hb hby own_d1_17) rfl ?_
        show Steps p.tables e below (s₁.setTop (mkF m 18 #[.val (.int i0)] [(.int i0)])) _
        refine XS.iconst X0.here hx rfl (hb hby own_d1_18) ?_
        exact kt
      by_cases hc3 : i0 = (2 : Int32)
      · -- pc 19
        refine ownE.go (T' := s₁) (f' := (mkF m 22 #[.val (.int i0)] [])) (fun t kt => XS.icmpNo (g := (mkF m 19 #[.val (.int i0)] [(.int (2 : Int32)), (.int i0)])) X0.here hx rfl (hb hby own_d1_19) rfl (Jvm.Free.XT.ii_ne_f hc3) kt) ?_
        refine ownE.go (T' := s₁) (f' := (mkF m 25 #[.val (.int i0)] [(.long (1229782938247303441 : Int64))])) (fun t kt => ?_) ?_
        · show Steps p.tables e below (s₁.setTop (mkF m 22 #[.val (.int i0)] [])) _
          refine X0.ldc2Long hx hown (mvT hZ (hw _ (List.mem_of_getElem? (i := 37) rfl))) (g := (mkF m 22 #[.val (.int i0)] [])) rfl (hb hby own_d1_22) _ ?_
          exact kt
        refine ownE.retL X0 hx hlk hret (hb hby own_d1_25) ?_ (by decide) (by decide)
        show own_Q1 Z i0 h0 n0 _ s₁.heap _
        rw [e0]
        exact ⟨(by rw [own_lbo, if_neg hc1, if_neg hc2, if_pos hc3] <;> first | rfl | decide), N0, rfl⟩
      · -- pc 19
        refine ownE.go (T' := s₁) (f' := (mkF m 26 #[.val (.int i0)] [])) (fun t kt => XS.icmpYes (g := (mkF m 19 #[.val (.int i0)] [(.int (2 : Int32)), (.int i0)])) X0.here hx rfl (pc0 := 19) (pc' := 26) rfl (hb hby own_d1_19) rfl (Jvm.Free.XT.ii_ne_t hc3) (by decide) (by decide) kt) ?_
        refine ownE.go (T' := s₁) (f' := (mkF m 28 #[.val (.int i0)] [(.int (3 : Int32)), (.int i0)])) (fun t kt => ?_) ?_
        · show Steps p.tables e below (s₁.setTop (mkF m 26 #[.val (.int i0)] [])) _
          refine XS.iloadN X0.here hx rfl (hb hby own_d1_26) rfl ?_
          show Steps p.tables e below (s₁.setTop (mkF m 27 #[.val (.int i0)] [(.int i0)])) _
          refine XS.iconst X0.here hx rfl (hb hby own_d1_27) ?_
          exact kt
        by_cases hc4 : i0 = (3 : Int32)
        · -- pc 28
          refine ownE.go (T' := s₁) (f' := (mkF m 31 #[.val (.int i0)] [])) (fun t kt => XS.icmpNo (g := (mkF m 28 #[.val (.int i0)] [(.int (3 : Int32)), (.int i0)])) X0.here hx rfl (hb hby own_d1_28) rfl (Jvm.Free.XT.ii_ne_f hc4) kt) ?_
          refine ownE.go (T' := s₁) (f' := (mkF m 34 #[.val (.int i0)] [(.long (72340172838076673 : Int64))])) (fun t kt => ?_) ?_
          · show Steps p.tables e below (s₁.setTop (mkF m 31 #[.val (.int i0)] [])) _
            refine X0.ldc2Long hx hown (mvT hZ (hw _ (List.mem_of_getElem? (i := 35) rfl))) (g := (mkF m 31 #[.val (.int i0)] [])) rfl (hb hby own_d1_31) _ ?_
            exact kt
          refine ownE.retL X0 hx hlk hret (hb hby own_d1_34) ?_ (by decide) (by decide)
          show own_Q1 Z i0 h0 n0 _ s₁.heap _
          rw [e0]
          exact ⟨(by rw [own_lbo, if_neg hc1, if_neg hc2, if_neg hc3, if_pos hc4] <;> first | rfl | decide), N0, rfl⟩
        · -- pc 28
          refine ownE.go (T' := s₁) (f' := (mkF m 35 #[.val (.int i0)] [])) (fun t kt => XS.icmpYes (g := (mkF m 28 #[.val (.int i0)] [(.int (3 : Int32)), (.int i0)])) X0.here hx rfl (pc0 := 28) (pc' := 35) rfl (hb hby own_d1_28) rfl (Jvm.Free.XT.ii_ne_t hc4) (by decide) (by decide) kt) ?_
          refine ownE.go (T' := s₁) (f' := (mkF m 37 #[.val (.int i0)] [(.int (4 : Int32)), (.int i0)])) (fun t kt => ?_) ?_
          · show Steps p.tables e below (s₁.setTop (mkF m 35 #[.val (.int i0)] [])) _
            refine XS.iloadN X0.here hx rfl (hb hby own_d1_35) rfl ?_
            show Steps p.tables e below (s₁.setTop (mkF m 36 #[.val (.int i0)] [(.int i0)])) _
            refine XS.iconst X0.here hx rfl (hb hby own_d1_36) ?_
            exact kt
          by_cases hc5 : i0 = (4 : Int32)
          · -- pc 37
            refine ownE.go (T' := s₁) (f' := (mkF m 40 #[.val (.int i0)] [])) (fun t kt => XS.icmpNo (g := (mkF m 37 #[.val (.int i0)] [(.int (4 : Int32)), (.int i0)])) X0.here hx rfl (hb hby own_d1_37) rfl (Jvm.Free.XT.ii_ne_f hc5) kt) ?_
            refine ownE.go (T' := s₁) (f' := (mkF m 43 #[.val (.int i0)] [(.long (281479271743489 : Int64))])) (fun t kt => ?_) ?_
            · show Steps p.tables e below (s₁.setTop (mkF m 40 #[.val (.int i0)] [])) _
              refine X0.ldc2Long hx hown (mvT hZ (hw _ (List.mem_of_getElem? (i := 38) rfl))) (g := (mkF m 40 #[.val (.int i0)] [])) rfl (hb hby own_d1_40) _ ?_
              exact kt
            refine ownE.retL X0 hx hlk hret (hb hby own_d1_43) ?_ (by decide) (by decide)
            show own_Q1 Z i0 h0 n0 _ s₁.heap _
            rw [e0]
            exact ⟨(by rw [own_lbo, if_neg hc1, if_neg hc2, if_neg hc3, if_neg hc4, if_pos hc5] <;> first | rfl | decide), N0, rfl⟩
          · -- pc 37
            refine ownE.go (T' := s₁) (f' := (mkF m 44 #[.val (.int i0)] [])) (fun t kt => XS.icmpYes (g := (mkF m 37 #[.val (.int i0)] [(.int (4 : Int32)), (.int i0)])) X0.here hx rfl (pc0 := 37) (pc' := 44) rfl (hb hby own_d1_37) rfl (Jvm.Free.XT.ii_ne_t hc5) (by decide) (by decide) kt) ?_
            refine ownE.go (T' := s₁) (f' := (mkF m 47 #[.val (.int i0)] [(.long (4294967297 : Int64))])) (fun t kt => ?_) ?_
            · show Steps p.tables e below (s₁.setTop (mkF m 44 #[.val (.int i0)] [])) _
              refine X0.ldc2Long hx hown (mvT hZ (hw _ (List.mem_of_getElem? (i := 36) rfl))) (g := (mkF m 44 #[.val (.int i0)] [])) rfl (hb hby own_d1_44) _ ?_
              exact kt
            refine ownE.retL X0 hx hlk hret (hb hby own_d1_47) ?_ (by decide) (by decide)
            show own_Q1 Z i0 h0 n0 _ s₁.heap _
            rw [e0]
            exact ⟨(by rw [own_lbo, if_neg hc1, if_neg hc2, if_neg hc3, if_neg hc4, if_neg hc5] <;> first | rfl | decide), N0, rfl⟩
def own_v5_38 (j1 : Int64) (i2 : Int32) (wd : Int32) (lb : Int64) : Int64 := (j1 ||| ((j1.toUInt64 >>> ((1 : Int32) &&& 0x3f).toInt64.toUInt64).toInt64))
def own_v5_38_2 (j1 : Int64) (i2 : Int32) (wd : Int32) (lb : Int64) : Int64 := (j1 &&& ((j1.toUInt64 >>> ((1 : Int32) &&& 0x3f).toInt64.toUInt64).toInt64))
def own_v5_38_3 (j1 : Int64) (i2 : Int32) (wd : Int32) (lb : Int64) : Int64 := (j1 ||| ((j1.toUInt64 >>> ((1 : Int32) &&& 0x3f).toInt64.toUInt64).toInt64))
def own_v5_38_4 (j1 : Int64) (i2 : Int32) (wd : Int32) (lb : Int64) : Int64 := ((own_v5_38_3 j1 i2 wd lb) ||| (((own_v5_38_3 j1 i2 wd lb).toUInt64 >>> ((2 : Int32) &&& 0x3f).toInt64.toUInt64).toInt64))
def own_v5_38_5 (j1 : Int64) (i2 : Int32) (wd : Int32) (lb : Int64) : Int64 := (j1 &&& ((j1.toUInt64 >>> ((1 : Int32) &&& 0x3f).toInt64.toUInt64).toInt64))
def own_v5_38_6 (j1 : Int64) (i2 : Int32) (wd : Int32) (lb : Int64) : Int64 := ((own_v5_38_5 j1 i2 wd lb) &&& (((own_v5_38_5 j1 i2 wd lb).toUInt64 >>> ((2 : Int32) &&& 0x3f).toInt64.toUInt64).toInt64))
def own_v5_38_7 (j1 : Int64) (i2 : Int32) (wd : Int32) (lb : Int64) : Int64 := (j1 ||| ((j1.toUInt64 >>> ((1 : Int32) &&& 0x3f).toInt64.toUInt64).toInt64))
def own_v5_38_8 (j1 : Int64) (i2 : Int32) (wd : Int32) (lb : Int64) : Int64 := ((own_v5_38_7 j1 i2 wd lb) ||| (((own_v5_38_7 j1 i2 wd lb).toUInt64 >>> ((2 : Int32) &&& 0x3f).toInt64.toUInt64).toInt64))
def own_v5_38_9 (j1 : Int64) (i2 : Int32) (wd : Int32) (lb : Int64) : Int64 := ((own_v5_38_8 j1 i2 wd lb) ||| (((own_v5_38_8 j1 i2 wd lb).toUInt64 >>> ((4 : Int32) &&& 0x3f).toInt64.toUInt64).toInt64))
def own_v5_38_10 (j1 : Int64) (i2 : Int32) (wd : Int32) (lb : Int64) : Int64 := (j1 &&& ((j1.toUInt64 >>> ((1 : Int32) &&& 0x3f).toInt64.toUInt64).toInt64))
def own_v5_38_11 (j1 : Int64) (i2 : Int32) (wd : Int32) (lb : Int64) : Int64 := ((own_v5_38_10 j1 i2 wd lb) &&& (((own_v5_38_10 j1 i2 wd lb).toUInt64 >>> ((2 : Int32) &&& 0x3f).toInt64.toUInt64).toInt64))
def own_v5_38_12 (j1 : Int64) (i2 : Int32) (wd : Int32) (lb : Int64) : Int64 := ((own_v5_38_11 j1 i2 wd lb) &&& (((own_v5_38_11 j1 i2 wd lb).toUInt64 >>> ((4 : Int32) &&& 0x3f).toInt64.toUInt64).toInt64))
def own_v5_38_13 (j1 : Int64) (i2 : Int32) (wd : Int32) (lb : Int64) : Int64 := (j1 ||| ((j1.toUInt64 >>> ((1 : Int32) &&& 0x3f).toInt64.toUInt64).toInt64))
def own_v5_38_14 (j1 : Int64) (i2 : Int32) (wd : Int32) (lb : Int64) : Int64 := ((own_v5_38_13 j1 i2 wd lb) ||| (((own_v5_38_13 j1 i2 wd lb).toUInt64 >>> ((2 : Int32) &&& 0x3f).toInt64.toUInt64).toInt64))
def own_v5_38_15 (j1 : Int64) (i2 : Int32) (wd : Int32) (lb : Int64) : Int64 := ((own_v5_38_14 j1 i2 wd lb) ||| (((own_v5_38_14 j1 i2 wd lb).toUInt64 >>> ((4 : Int32) &&& 0x3f).toInt64.toUInt64).toInt64))
def own_v5_38_16 (j1 : Int64) (i2 : Int32) (wd : Int32) (lb : Int64) : Int64 := ((own_v5_38_15 j1 i2 wd lb) ||| (((own_v5_38_15 j1 i2 wd lb).toUInt64 >>> ((8 : Int32) &&& 0x3f).toInt64.toUInt64).toInt64))
def own_v5_38_17 (j1 : Int64) (i2 : Int32) (wd : Int32) (lb : Int64) : Int64 := (j1 &&& ((j1.toUInt64 >>> ((1 : Int32) &&& 0x3f).toInt64.toUInt64).toInt64))
def own_v5_38_18 (j1 : Int64) (i2 : Int32) (wd : Int32) (lb : Int64) : Int64 := ((own_v5_38_17 j1 i2 wd lb) &&& (((own_v5_38_17 j1 i2 wd lb).toUInt64 >>> ((2 : Int32) &&& 0x3f).toInt64.toUInt64).toInt64))
def own_v5_38_19 (j1 : Int64) (i2 : Int32) (wd : Int32) (lb : Int64) : Int64 := ((own_v5_38_18 j1 i2 wd lb) &&& (((own_v5_38_18 j1 i2 wd lb).toUInt64 >>> ((4 : Int32) &&& 0x3f).toInt64.toUInt64).toInt64))
def own_v5_38_20 (j1 : Int64) (i2 : Int32) (wd : Int32) (lb : Int64) : Int64 := ((own_v5_38_19 j1 i2 wd lb) &&& (((own_v5_38_19 j1 i2 wd lb).toUInt64 >>> ((8 : Int32) &&& 0x3f).toInt64.toUInt64).toInt64))
def own_v5_38_21 (j1 : Int64) (i2 : Int32) (wd : Int32) (lb : Int64) : Int64 := (j1 ||| ((j1.toUInt64 >>> ((1 : Int32) &&& 0x3f).toInt64.toUInt64).toInt64))
def own_v5_38_22 (j1 : Int64) (i2 : Int32) (wd : Int32) (lb : Int64) : Int64 := ((own_v5_38_21 j1 i2 wd lb) ||| (((own_v5_38_21 j1 i2 wd lb).toUInt64 >>> ((2 : Int32) &&& 0x3f).toInt64.toUInt64).toInt64))
def own_v5_38_23 (j1 : Int64) (i2 : Int32) (wd : Int32) (lb : Int64) : Int64 := ((own_v5_38_22 j1 i2 wd lb) ||| (((own_v5_38_22 j1 i2 wd lb).toUInt64 >>> ((4 : Int32) &&& 0x3f).toInt64.toUInt64).toInt64))
def own_v5_38_24 (j1 : Int64) (i2 : Int32) (wd : Int32) (lb : Int64) : Int64 := ((own_v5_38_23 j1 i2 wd lb) ||| (((own_v5_38_23 j1 i2 wd lb).toUInt64 >>> ((8 : Int32) &&& 0x3f).toInt64.toUInt64).toInt64))
def own_v5_38_25 (j1 : Int64) (i2 : Int32) (wd : Int32) (lb : Int64) : Int64 := ((own_v5_38_24 j1 i2 wd lb) ||| (((own_v5_38_24 j1 i2 wd lb).toUInt64 >>> ((16 : Int32) &&& 0x3f).toInt64.toUInt64).toInt64))
def own_v5_38_26 (j1 : Int64) (i2 : Int32) (wd : Int32) (lb : Int64) : Int64 := (j1 &&& ((j1.toUInt64 >>> ((1 : Int32) &&& 0x3f).toInt64.toUInt64).toInt64))
def own_v5_38_27 (j1 : Int64) (i2 : Int32) (wd : Int32) (lb : Int64) : Int64 := ((own_v5_38_26 j1 i2 wd lb) &&& (((own_v5_38_26 j1 i2 wd lb).toUInt64 >>> ((2 : Int32) &&& 0x3f).toInt64.toUInt64).toInt64))
def own_v5_38_28 (j1 : Int64) (i2 : Int32) (wd : Int32) (lb : Int64) : Int64 := ((own_v5_38_27 j1 i2 wd lb) &&& (((own_v5_38_27 j1 i2 wd lb).toUInt64 >>> ((4 : Int32) &&& 0x3f).toInt64.toUInt64).toInt64))
def own_v5_38_29 (j1 : Int64) (i2 : Int32) (wd : Int32) (lb : Int64) : Int64 := ((own_v5_38_28 j1 i2 wd lb) &&& (((own_v5_38_28 j1 i2 wd lb).toUInt64 >>> ((8 : Int32) &&& 0x3f).toInt64.toUInt64).toInt64))
def own_v5_38_30 (j1 : Int64) (i2 : Int32) (wd : Int32) (lb : Int64) : Int64 := ((own_v5_38_29 j1 i2 wd lb) &&& (((own_v5_38_29 j1 i2 wd lb).toUInt64 >>> ((16 : Int32) &&& 0x3f).toInt64.toUInt64).toInt64))
theorem own_d5_0 : decode prog_5_method_2_code 0 = .ok (.lload_n 1, 1) := by decide +kernel
theorem own_d5_1 : decode prog_5_method_2_code 1 = .ok (.lstore 4, 2) := by decide +kernel
theorem own_d5_3 : decode prog_5_method_2_code 3 = .ok (.iconst 1, 1) := by decide +kernel
theorem own_d5_4 : decode prog_5_method_2_code 4 = .ok (.istore 6, 2) := by decide +kernel
theorem own_d5_6 : decode prog_5_method_2_code 6 = .ok (.iload 6, 2) := by decide +kernel
theorem own_d5_8 : decode prog_5_method_2_code 8 = .ok (.aload_n 0, 1) := by decide +kernel
theorem own_d5_9 : decode prog_5_method_2_code 9 = .ok (.getfield 7, 3) := by decide +kernel
theorem own_d5_12 : decode prog_5_method_2_code 12 = .ok (.if_icmp .ge 37, 3) := by decide +kernel
theorem own_d5_15 : decode prog_5_method_2_code 15 = .ok (.iload_n 3, 1) := by decide +kernel
theorem own_d5_16 : decode prog_5_method_2_code 16 = .ok (.ifCond .eq 14, 3) := by decide +kernel
theorem own_d5_19 : decode prog_5_method_2_code 19 = .ok (.lload 4, 2) := by decide +kernel
theorem own_d5_21 : decode prog_5_method_2_code 21 = .ok (.lload 4, 2) := by decide +kernel
theorem own_d5_23 : decode prog_5_method_2_code 23 = .ok (.iload 6, 2) := by decide +kernel
theorem own_d5_25 : decode prog_5_method_2_code 25 = .ok (.lushr, 1) := by decide +kernel
theorem own_d5_26 : decode prog_5_method_2_code 26 = .ok (.land, 1) := by decide +kernel
theorem own_d5_27 : decode prog_5_method_2_code 27 = .ok (.goto 11, 3) := by decide +kernel
theorem own_d5_30 : decode prog_5_method_2_code 30 = .ok (.lload 4, 2) := by decide +kernel
theorem own_d5_32 : decode prog_5_method_2_code 32 = .ok (.lload 4, 2) := by decide +kernel
theorem own_d5_34 : decode prog_5_method_2_code 34 = .ok (.iload 6, 2) := by decide +kernel
theorem own_d5_36 : decode prog_5_method_2_code 36 = .ok (.lushr, 1) := by decide +kernel
theorem own_d5_37 : decode prog_5_method_2_code 37 = .ok (.lor, 1) := by decide +kernel
theorem own_d5_38 : decode prog_5_method_2_code 38 = .ok (.lstore 4, 2) := by decide +kernel
theorem own_d5_40 : decode prog_5_method_2_code 40 = .ok (.iload 6, 2) := by decide +kernel
theorem own_d5_42 : decode prog_5_method_2_code 42 = .ok (.iconst 1, 1) := by decide +kernel
theorem own_d5_43 : decode prog_5_method_2_code 43 = .ok (.ishl, 1) := by decide +kernel
theorem own_d5_44 : decode prog_5_method_2_code 44 = .ok (.istore 6, 2) := by decide +kernel
theorem own_d5_46 : decode prog_5_method_2_code 46 = .ok (.goto (-40), 3) := by decide +kernel
theorem own_d5_49 : decode prog_5_method_2_code 49 = .ok (.lload 4, 2) := by decide +kernel
theorem own_d5_51 : decode prog_5_method_2_code 51 = .ok (.aload_n 0, 1) := by decide +kernel
theorem own_d5_52 : decode prog_5_method_2_code 52 = .ok (.getfield 25, 3) := by decide +kernel
theorem own_d5_55 : decode prog_5_method_2_code 55 = .ok (.land, 1) := by decide +kernel
theorem own_d5_56 : decode prog_5_method_2_code 56 = .ok (.lreturn, 1) := by decide +kernel
theorem own_ef5 (m : MethodId) (x0 : Addr) (x1 : Int64) (x2 : Int32) : entryFrame m #[(.ref x0), (.long x1), (.int x2)] 7 = mkF m 0 #[.val (.ref x0), .val (.long x1), .second, .val (.int x2), .unset, .unset, .unset] [] := by first | (simp [entryFrame, mkF, argsToLocals, Value.category]; done) | rfl
def own_fold (j1 : Int64) (i2 : Int32) (wd : Int32) (lb : Int64) : Int64 :=
  if wd = (1 : Int32) then
    (j1 &&& lb)
  else
    if wd = (2 : Int32) then
      if i2 = (0 : Int32) then
        ((own_v5_38 j1 i2 wd lb) &&& lb)
      else
        ((own_v5_38_2 j1 i2 wd lb) &&& lb)
    else
      if wd = (4 : Int32) then
        if i2 = (0 : Int32) then
          ((own_v5_38_4 j1 i2 wd lb) &&& lb)
        else
          ((own_v5_38_6 j1 i2 wd lb) &&& lb)
      else
        if wd = (8 : Int32) then
          if i2 = (0 : Int32) then
            ((own_v5_38_9 j1 i2 wd lb) &&& lb)
          else
            ((own_v5_38_12 j1 i2 wd lb) &&& lb)
        else
          if wd = (16 : Int32) then
            if i2 = (0 : Int32) then
              ((own_v5_38_16 j1 i2 wd lb) &&& lb)
            else
              ((own_v5_38_20 j1 i2 wd lb) &&& lb)
          else
            if i2 = (0 : Int32) then
              ((own_v5_38_25 j1 i2 wd lb) &&& lb)
            else
              ((own_v5_38_30 j1 i2 wd lb) &&& lb)
def own_Q5 (Z : State) (r0 : Addr) (j1 : Int64) (i2 : Int32) (wd : Int32) (lb : Int64) (h0 : Heap) (n0 : Nat) (v : Option Value) (h : Heap) (L : List Loc) : Prop := v = some (.long (own_fold j1 i2 wd lb)) ∧ Fr n0 L ∧ h = h0
set_option maxRecDepth 65536 in
set_option maxHeartbeats 40000000 in
theorem own_rm5 (l : Launch) (Z : State) (a0 : Array Value) (hw : ∀ d ∈ tables_1, d.before a0 Z = true) (ws : List Jvm.Cond) (r0 : Addr) (j1 : Int64) (i2 : Int32) (wd : Int32) (lb : Int64) (h0 : Heap) (n0 : Nat) (Z0 : n0 ≤ h0.size) (P0 : Fld Z h0 r0 "com/example/upper_falls/upperfalls/CellWords" "width" "I" (.int wd)) (P1 : Fld Z h0 r0 "com/example/upper_falls/upperfalls/CellWords" "lowBits" "J" (.long lb)) (hsix : wd = (1 : Int32) ∨ wd = (2 : Int32) ∨ wd = (4 : Int32) ∨ wd = (8 : Int32) ∨ wd = (16 : Int32) ∨ wd = (32 : Int32)) :
    MetFree l (⟨"com/example/upper_falls/upperfalls/CellWords", "fold", "(JZ)J"⟩ : MethodName) (head1 (Jvm.Cond.code (⟨"com/example/upper_falls/upperfalls/CellWords", "fold", "(JZ)J"⟩ : MethodName) prog_5_method_2_code 7 (some .long) :: ws) ({ frames := 0, cells := 0, slots := 0, locals := 0 } : Room)) (fun a U => a = #[(.ref r0), (.long j1), (.int i2)] ∧ Z.Warmed39 U.vm ∧ U.heap = h0) (fun _ _ _ _ _ => True) (fun _ U o U' => ∃ v L, o = .returned v ∧ own_Q5 Z r0 j1 i2 wd lb h0 n0 v U'.heap L ∧ FrameEnd U o U' L ({ frames := 0, cells := 0, slots := 0, locals := 0 } : Room).cells ({ frames := 0, cells := 0, slots := 0, locals := 0 } : Room).slots) := by
  refine MetFree.of_bodySF (plainFor_of_name own_pn2) hisR ?_
  intro p e s m args below meth c s₁ Bd hml0 hP hK
  obtain ⟨rfl, hZ, hh⟩ := hP
  have hx := Bd.exec
  have hby := Bd.bytes
  have hret := Bd.returns
  have hlk := BodyLoose.notSynchronized Bd
  have hml : c.maxLocals = 7 := hml0
  have hown : s.vm.findClass "com/example/upper_falls/upperfalls/CellWords" = some m.cls := findClass_of_methodNamed Bd.named
  have hnm := (name_of_methodNamed Bd.named Bd.method).1
  have X0 : Stand p l e ({ frames := 0, cells := 0, slots := 0, locals := 0 } : Room) s m #[(.ref r0), (.long j1), (.int i2)] below meth c s₁ [] 0 0 := Stand.of_body Bd
  have e0 : s₁.heap = h0 := by rw [← hh, Bd.state]; rfl
  have N0 := Fr.nil n0
  have K0 : Keep h0 h0 [] := Keep.refl h0 _
  show ownE p e below s (own_Q5 Z r0 j1 i2 wd lb h0 n0) ({ frames := 0, cells := 0, slots := 0, locals := 0 } : Room).cells ({ frames := 0, cells := 0, slots := 0, locals := 0 } : Room).slots s₁ (entryFrame m #[(.ref r0), (.long j1), (.int i2)] 7)
  rw [own_ef5]
  rcases hsix with hk1 | hk1 | hk1 | hk1 | hk1 | hk1
  · -- wd = 1
    have P0_k1 : Fld Z h0 r0 "com/example/upper_falls/upperfalls/CellWords" "width" "I" (.int (1 : Int32)) := by
      have q := P0
      rw [hk1] at q
      exact q
    refine ownE.go (T' := s₁) (f' := (mkF m 9 #[.val (.ref r0), .val (.long j1), .second, .val (.int i2), .val (.long j1), .second, .val (.int (1 : Int32))] [(.ref r0), (.int (1 : Int32))])) (fun t kt => ?_) ?_
    · show Steps p.tables e below (s₁.setTop (mkF m 0 #[.val (.ref r0), .val (.long j1), .second, .val (.int i2), .unset, .unset, .unset] [])) _
      refine XS.lloadN X0.here hx rfl (hb hby own_d5_0) rfl ?_
      show Steps p.tables e below (s₁.setTop (mkF m 1 #[.val (.ref r0), .val (.long j1), .second, .val (.int i2), .unset, .unset, .unset] [(.long j1)])) _
      refine XS.lstore X0.here hx rfl (hb hby own_d5_1) rfl (l' := #[.val (.ref r0), .val (.long j1), .second, .val (.int i2), .val (.long j1), .second, .unset]) rfl ?_
      show Steps p.tables e below (s₁.setTop (mkF m 3 #[.val (.ref r0), .val (.long j1), .second, .val (.int i2), .val (.long j1), .second, .unset] [])) _
      refine XS.iconst X0.here hx rfl (hb hby own_d5_3) ?_
      show Steps p.tables e below (s₁.setTop (mkF m 4 #[.val (.ref r0), .val (.long j1), .second, .val (.int i2), .val (.long j1), .second, .unset] [(.int (1 : Int32))])) _
      refine XS.istore X0.here hx rfl (hb hby own_d5_4) rfl (l' := #[.val (.ref r0), .val (.long j1), .second, .val (.int i2), .val (.long j1), .second, .val (.int (1 : Int32))]) rfl ?_
      show Steps p.tables e below (s₁.setTop (mkF m 6 #[.val (.ref r0), .val (.long j1), .second, .val (.int i2), .val (.long j1), .second, .val (.int (1 : Int32))] [])) _
      refine XS.iload X0.here hx rfl (hb hby own_d5_6) rfl ?_
      show Steps p.tables e below (s₁.setTop (mkF m 8 #[.val (.ref r0), .val (.long j1), .second, .val (.int i2), .val (.long j1), .second, .val (.int (1 : Int32))] [(.int (1 : Int32))])) _
      refine XS.aloadN X0.here hx rfl (hb hby own_d5_8) rfl rfl ?_
      exact kt
    obtain ⟨T2, X2, e2, st2⟩ := getF X0 hx hZ hown (host := "") (Or.inl (hw _ (List.mem_of_getElem? (i := 15) rfl))) Via.refl e0 P0_k1 (g := (mkF m 9 #[.val (.ref r0), .val (.long j1), .second, .val (.int i2), .val (.long j1), .second, .val (.int (1 : Int32))] [(.ref r0), (.int (1 : Int32))])) rfl rfl (hb hby own_d5_9)
    refine ownE.go (T' := T2) (f' := (mkF m 12 #[.val (.ref r0), .val (.long j1), .second, .val (.int i2), .val (.long j1), .second, .val (.int (1 : Int32))] [(.int (1 : Int32)), (.int (1 : Int32))])) st2 ?_
    refine ownE.go (T' := T2) (f' := (mkF m 49 #[.val (.ref r0), .val (.long j1), .second, .val (.int i2), .val (.long j1), .second, .val (.int (1 : Int32))] [])) (fun t kt => XS.icmpYes (g := (mkF m 12 #[.val (.ref r0), .val (.long j1), .second, .val (.int i2), .val (.long j1), .second, .val (.int (1 : Int32))] [(.int (1 : Int32)), (.int (1 : Int32))])) X2.here hx rfl (pc0 := 12) (pc' := 49) rfl (hb hby own_d5_12) rfl (Jvm.Free.XT.ii_ge_t (by decide)) (by decide) (by decide) kt) ?_
    refine ownE.go (T' := T2) (f' := (mkF m 52 #[.val (.ref r0), .val (.long j1), .second, .val (.int i2), .val (.long j1), .second, .val (.int (1 : Int32))] [(.ref r0), (.long j1)])) (fun t kt => ?_) ?_
    · show Steps p.tables e below (T2.setTop (mkF m 49 #[.val (.ref r0), .val (.long j1), .second, .val (.int i2), .val (.long j1), .second, .val (.int (1 : Int32))] [])) _
      refine XS.lload X2.here hx rfl (hb hby own_d5_49) rfl ?_
      show Steps p.tables e below (T2.setTop (mkF m 51 #[.val (.ref r0), .val (.long j1), .second, .val (.int i2), .val (.long j1), .second, .val (.int (1 : Int32))] [(.long j1)])) _
      refine XS.aloadN X2.here hx rfl (hb hby own_d5_51) rfl rfl ?_
      exact kt
    obtain ⟨T3, X3, e3, st3⟩ := getF X2 hx hZ hown (host := "") (Or.inl (hw _ (List.mem_of_getElem? (i := 25) rfl))) Via.refl e2 P1 (g := (mkF m 52 #[.val (.ref r0), .val (.long j1), .second, .val (.int i2), .val (.long j1), .second, .val (.int (1 : Int32))] [(.ref r0), (.long j1)])) rfl rfl (hb hby own_d5_52)
    refine ownE.go (T' := T3) (f' := (mkF m 55 #[.val (.ref r0), .val (.long j1), .second, .val (.int i2), .val (.long j1), .second, .val (.int (1 : Int32))] [(.long lb), (.long j1)])) st3 ?_
    refine ownE.go (T' := T3) (f' := (mkF m 56 #[.val (.ref r0), .val (.long j1), .second, .val (.int i2), .val (.long j1), .second, .val (.int (1 : Int32))] [(.long (j1 &&& lb))])) (fun t kt => ?_) ?_
    · show Steps p.tables e below (T3.setTop (mkF m 55 #[.val (.ref r0), .val (.long j1), .second, .val (.int i2), .val (.long j1), .second, .val (.int (1 : Int32))] [(.long lb), (.long j1)])) _
      refine XS.land X3.here hx rfl (hb hby own_d5_55) rfl ?_
      exact kt
    refine ownE.retL X3 hx hlk hret (hb hby own_d5_56) ?_ (by decide) (by decide)
    show own_Q5 Z r0 j1 i2 wd lb h0 n0 _ T3.heap _
    rw [e3]
    exact ⟨(by rw [own_fold, if_pos hk1] <;> first | rfl | decide), N0, rfl⟩
  · -- wd = 2
    have P0_k1 : Fld Z h0 r0 "com/example/upper_falls/upperfalls/CellWords" "width" "I" (.int (2 : Int32)) := by
      have q := P0
      rw [hk1] at q
      exact q
    have hk1_0 : ¬ wd = (1 : Int32) := by rw [hk1]; decide
    refine ownE.go (T' := s₁) (f' := (mkF m 9 #[.val (.ref r0), .val (.long j1), .second, .val (.int i2), .val (.long j1), .second, .val (.int (1 : Int32))] [(.ref r0), (.int (1 : Int32))])) (fun t kt => ?_) ?_
    · show Steps p.tables e below (s₁.setTop (mkF m 0 #[.val (.ref r0), .val (.long j1), .second, .val (.int i2), .unset, .unset, .unset] [])) _
      refine XS.lloadN X0.here hx rfl (hb hby own_d5_0) rfl ?_
      show Steps p.tables e below (s₁.setTop (mkF m 1 #[.val (.ref r0), .val (.long j1), .second, .val (.int i2), .unset, .unset, .unset] [(.long j1)])) _
      refine XS.lstore X0.here hx rfl (hb hby own_d5_1) rfl (l' := #[.val (.ref r0), .val (.long j1), .second, .val (.int i2), .val (.long j1), .second, .unset]) rfl ?_
      show Steps p.tables e below (s₁.setTop (mkF m 3 #[.val (.ref r0), .val (.long j1), .second, .val (.int i2), .val (.long j1), .second, .unset] [])) _
      refine XS.iconst X0.here hx rfl (hb hby own_d5_3) ?_
      show Steps p.tables e below (s₁.setTop (mkF m 4 #[.val (.ref r0), .val (.long j1), .second, .val (.int i2), .val (.long j1), .second, .unset] [(.int (1 : Int32))])) _
      refine XS.istore X0.here hx rfl (hb hby own_d5_4) rfl (l' := #[.val (.ref r0), .val (.long j1), .second, .val (.int i2), .val (.long j1), .second, .val (.int (1 : Int32))]) rfl ?_
      show Steps p.tables e below (s₁.setTop (mkF m 6 #[.val (.ref r0), .val (.long j1), .second, .val (.int i2), .val (.long j1), .second, .val (.int (1 : Int32))] [])) _
      refine XS.iload X0.here hx rfl (hb hby own_d5_6) rfl ?_
      show Steps p.tables e below (s₁.setTop (mkF m 8 #[.val (.ref r0), .val (.long j1), .second, .val (.int i2), .val (.long j1), .second, .val (.int (1 : Int32))] [(.int (1 : Int32))])) _
      refine XS.aloadN X0.here hx rfl (hb hby own_d5_8) rfl rfl ?_
      exact kt
    obtain ⟨T4, X4, e4, st4⟩ := getF X0 hx hZ hown (host := "") (Or.inl (hw _ (List.mem_of_getElem? (i := 15) rfl))) Via.refl e0 P0_k1 (g := (mkF m 9 #[.val (.ref r0), .val (.long j1), .second, .val (.int i2), .val (.long j1), .second, .val (.int (1 : Int32))] [(.ref r0), (.int (1 : Int32))])) rfl rfl (hb hby own_d5_9)
    refine ownE.go (T' := T4) (f' := (mkF m 12 #[.val (.ref r0), .val (.long j1), .second, .val (.int i2), .val (.long j1), .second, .val (.int (1 : Int32))] [(.int (2 : Int32)), (.int (1 : Int32))])) st4 ?_
    refine ownE.go (T' := T4) (f' := (mkF m 15 #[.val (.ref r0), .val (.long j1), .second, .val (.int i2), .val (.long j1), .second, .val (.int (1 : Int32))] [])) (fun t kt => XS.icmpNo (g := (mkF m 12 #[.val (.ref r0), .val (.long j1), .second, .val (.int i2), .val (.long j1), .second, .val (.int (1 : Int32))] [(.int (2 : Int32)), (.int (1 : Int32))])) X4.here hx rfl (hb hby own_d5_12) rfl (Jvm.Free.XT.ii_ge_f (by decide)) kt) ?_
    refine ownE.go (T' := T4) (f' := (mkF m 16 #[.val (.ref r0), .val (.long j1), .second, .val (.int i2), .val (.long j1), .second, .val (.int (1 : Int32))] [(.int i2)])) (fun t kt => ?_) ?_
    · show Steps p.tables e below (T4.setTop (mkF m 15 #[.val (.ref r0), .val (.long j1), .second, .val (.int i2), .val (.long j1), .second, .val (.int (1 : Int32))] [])) _
      refine XS.iloadN X4.here hx rfl (hb hby own_d5_15) rfl ?_
      exact kt
    by_cases hc5 : i2 = (0 : Int32)
    · -- pc 16
      refine ownE.go (T' := T4) (f' := (mkF m 30 #[.val (.ref r0), .val (.long j1), .second, .val (.int i2), .val (.long j1), .second, .val (.int (1 : Int32))] [])) (fun t kt => XS.ifYes (g := (mkF m 16 #[.val (.ref r0), .val (.long j1), .second, .val (.int i2), .val (.long j1), .second, .val (.int (1 : Int32))] [(.int i2)])) X4.here hx rfl (pc0 := 16) (pc' := 30) rfl (hb hby own_d5_16) rfl (Jvm.Free.XT.i0_eq_t hc5) (by decide) (by decide) kt) ?_
      refine ownE.go (T' := T4) (f' := (mkF m 9 #[.val (.ref r0), .val (.long j1), .second, .val (.int i2), .val (.long (own_v5_38 j1 i2 wd lb)), .second, .val (.int (2 : Int32))] [(.ref r0), (.int (2 : Int32))])) (fun t kt => ?_) ?_
      · show Steps p.tables e below (T4.setTop (mkF m 30 #[.val (.ref r0), .val (.long j1), .second, .val (.int i2), .val (.long j1), .second, .val (.int (1 : Int32))] [])) _
        refine XS.lload X4.here hx rfl (hb hby own_d5_30) rfl ?_
        show Steps p.tables e below (T4.setTop (mkF m 32 #[.val (.ref r0), .val (.long j1), .second, .val (.int i2), .val (.long j1), .second, .val (.int (1 : Int32))] [(.long j1)])) _
        refine XS.lload X4.here hx rfl (hb hby own_d5_32) rfl ?_
        show Steps p.tables e below (T4.setTop (mkF m 34 #[.val (.ref r0), .val (.long j1), .second, .val (.int i2), .val (.long j1), .second, .val (.int (1 : Int32))] [(.long j1), (.long j1)])) _
        refine XS.iload X4.here hx rfl (hb hby own_d5_34) rfl ?_
        show Steps p.tables e below (T4.setTop (mkF m 36 #[.val (.ref r0), .val (.long j1), .second, .val (.int i2), .val (.long j1), .second, .val (.int (1 : Int32))] [(.int (1 : Int32)), (.long j1), (.long j1)])) _
        refine XS.lushr X4.here hx rfl (hb hby own_d5_36) rfl ?_
        show Steps p.tables e below (T4.setTop (mkF m 37 #[.val (.ref r0), .val (.long j1), .second, .val (.int i2), .val (.long j1), .second, .val (.int (1 : Int32))] [(.long ((j1.toUInt64 >>> ((1 : Int32) &&& 0x3f).toInt64.toUInt64).toInt64)), (.long j1)])) _
        refine XS.lor X4.here hx rfl (hb hby own_d5_37) rfl ?_
        show Steps p.tables e below (T4.setTop (mkF m 38 #[.val (.ref r0), .val (.long j1), .second, .val (.int i2), .val (.long j1), .second, .val (.int (1 : Int32))] [(.long (j1 ||| ((j1.toUInt64 >>> ((1 : Int32) &&& 0x3f).toInt64.toUInt64).toInt64)))])) _
        refine XS.lstore X4.here hx rfl (hb hby own_d5_38) rfl (l' := #[.val (.ref r0), .val (.long j1), .second, .val (.int i2), .val (.long (own_v5_38 j1 i2 wd lb)), .second, .val (.int (1 : Int32))]) rfl ?_
        show Steps p.tables e below (T4.setTop (mkF m 40 #[.val (.ref r0), .val (.long j1), .second, .val (.int i2), .val (.long (own_v5_38 j1 i2 wd lb)), .second, .val (.int (1 : Int32))] [])) _
        refine XS.iload X4.here hx rfl (hb hby own_d5_40) rfl ?_
        show Steps p.tables e below (T4.setTop (mkF m 42 #[.val (.ref r0), .val (.long j1), .second, .val (.int i2), .val (.long (own_v5_38 j1 i2 wd lb)), .second, .val (.int (1 : Int32))] [(.int (1 : Int32))])) _
        refine XS.iconst X4.here hx rfl (hb hby own_d5_42) ?_
        show Steps p.tables e below (T4.setTop (mkF m 43 #[.val (.ref r0), .val (.long j1), .second, .val (.int i2), .val (.long (own_v5_38 j1 i2 wd lb)), .second, .val (.int (1 : Int32))] [(.int (1 : Int32)), (.int (1 : Int32))])) _
        refine XS.ishl X4.here hx rfl (hb hby own_d5_43) rfl ?_
        show Steps p.tables e below (T4.setTop (mkF m 44 #[.val (.ref r0), .val (.long j1), .second, .val (.int i2), .val (.long (own_v5_38 j1 i2 wd lb)), .second, .val (.int (1 : Int32))] [(.int (2 : Int32))])) _
        refine XS.istore X4.here hx rfl (hb hby own_d5_44) rfl (l' := #[.val (.ref r0), .val (.long j1), .second, .val (.int i2), .val (.long (own_v5_38 j1 i2 wd lb)), .second, .val (.int (2 : Int32))]) rfl ?_
        show Steps p.tables e below (T4.setTop (mkF m 46 #[.val (.ref r0), .val (.long j1), .second, .val (.int i2), .val (.long (own_v5_38 j1 i2 wd lb)), .second, .val (.int (2 : Int32))] [])) _
        refine XS.goto X4.here hx rfl (pc0 := 46) (pc' := 6) rfl (hb hby own_d5_46) (by decide) (by decide) ?_
        show Steps p.tables e below (T4.setTop (mkF m 6 #[.val (.ref r0), .val (.long j1), .second, .val (.int i2), .val (.long (own_v5_38 j1 i2 wd lb)), .second, .val (.int (2 : Int32))] [])) _
        refine XS.iload X4.here hx rfl (hb hby own_d5_6) rfl ?_
        show Steps p.tables e below (T4.setTop (mkF m 8 #[.val (.ref r0), .val (.long j1), .second, .val (.int i2), .val (.long (own_v5_38 j1 i2 wd lb)), .second, .val (.int (2 : Int32))] [(.int (2 : Int32))])) _
        refine XS.aloadN X4.here hx rfl (hb hby own_d5_8) rfl rfl ?_
        exact kt
      obtain ⟨T6, X6, e6, st6⟩ := getF X4 hx hZ hown (host := "") (Or.inl (hw _ (List.mem_of_getElem? (i := 15) rfl))) Via.refl e4 P0_k1 (g := (mkF m 9 #[.val (.ref r0), .val (.long j1), .second, .val (.int i2), .val (.long (own_v5_38 j1 i2 wd lb)), .second, .val (.int (2 : Int32))] [(.ref r0), (.int (2 : Int32))])) rfl rfl (hb hby own_d5_9)
      refine ownE.go (T' := T6) (f' := (mkF m 12 #[.val (.ref r0), .val (.long j1), .second, .val (.int i2), .val (.long (own_v5_38 j1 i2 wd lb)), .second, .val (.int (2 : Int32))] [(.int (2 : Int32)), (.int (2 : Int32))])) st6 ?_
      refine ownE.go (T' := T6) (f' := (mkF m 49 #[.val (.ref r0), .val (.long j1), .second, .val (.int i2), .val (.long (own_v5_38 j1 i2 wd lb)), .second, .val (.int (2 : Int32))] [])) (fun t kt => XS.icmpYes (g := (mkF m 12 #[.val (.ref r0), .val (.long j1), .second, .val (.int i2), .val (.long (own_v5_38 j1 i2 wd lb)), .second, .val (.int (2 : Int32))] [(.int (2 : Int32)), (.int (2 : Int32))])) X6.here hx rfl (pc0 := 12) (pc' := 49) rfl (hb hby own_d5_12) rfl (Jvm.Free.XT.ii_ge_t (by decide)) (by decide) (by decide) kt) ?_
      refine ownE.go (T' := T6) (f' := (mkF m 52 #[.val (.ref r0), .val (.long j1), .second, .val (.int i2), .val (.long (own_v5_38 j1 i2 wd lb)), .second, .val (.int (2 : Int32))] [(.ref r0), (.long (own_v5_38 j1 i2 wd lb))])) (fun t kt => ?_) ?_
      · show Steps p.tables e below (T6.setTop (mkF m 49 #[.val (.ref r0), .val (.long j1), .second, .val (.int i2), .val (.long (own_v5_38 j1 i2 wd lb)), .second, .val (.int (2 : Int32))] [])) _
        refine XS.lload X6.here hx rfl (hb hby own_d5_49) rfl ?_
        show Steps p.tables e below (T6.setTop (mkF m 51 #[.val (.ref r0), .val (.long j1), .second, .val (.int i2), .val (.long (own_v5_38 j1 i2 wd lb)), .second, .val (.int (2 : Int32))] [(.long (own_v5_38 j1 i2 wd lb))])) _
        refine XS.aloadN X6.here hx rfl (hb hby own_d5_51) rfl rfl ?_
        exact kt
      obtain ⟨T7, X7, e7, st7⟩ := getF X6 hx hZ hown (host := "") (Or.inl (hw _ (List.mem_of_getElem? (i := 25) rfl))) Via.refl e6 P1 (g := (mkF m 52 #[.val (.ref r0), .val (.long j1), .second, .val (.int i2), .val (.long (own_v5_38 j1 i2 wd lb)), .second, .val (.int (2 : Int32))] [(.ref r0), (.long (own_v5_38 j1 i2 wd lb))])) rfl rfl (hb hby own_d5_52)
      refine ownE.go (T' := T7) (f' := (mkF m 55 #[.val (.ref r0), .val (.long j1), .second, .val (.int i2), .val (.long (own_v5_38 j1 i2 wd lb)), .second, .val (.int (2 : Int32))] [(.long lb), (.long (own_v5_38 j1 i2 wd lb))])) st7 ?_
      refine ownE.go (T' := T7) (f' := (mkF m 56 #[.val (.ref r0), .val (.long j1), .second, .val (.int i2), .val (.long (own_v5_38 j1 i2 wd lb)), .second, .val (.int (2 : Int32))] [(.long ((own_v5_38 j1 i2 wd lb) &&& lb))])) (fun t kt => ?_) ?_
      · show Steps p.tables e below (T7.setTop (mkF m 55 #[.val (.ref r0), .val (.long j1), .second, .val (.int i2), .val (.long (own_v5_38 j1 i2 wd lb)), .second, .val (.int (2 : Int32))] [(.long lb), (.long (own_v5_38 j1 i2 wd lb))])) _
        refine XS.land X7.here hx rfl (hb hby own_d5_55) rfl ?_
        exact kt
      refine ownE.retL X7 hx hlk hret (hb hby own_d5_56) ?_ (by decide) (by decide)
      show own_Q5 Z r0 j1 i2 wd lb h0 n0 _ T7.heap _
      rw [e7]
      exact ⟨(by rw [own_fold, if_neg hk1_0, if_pos hk1, if_pos hc5] <;> first | rfl | decide), N0, rfl⟩
    · -- pc 16
      refine ownE.go (T' := T4) (f' := (mkF m 19 #[.val (.ref r0), .val (.long j1), .second, .val (.int i2), .val (.long j1), .second, .val (.int (1 : Int32))] [])) (fun t kt => XS.ifNo (g := (mkF m 16 #[.val (.ref r0), .val (.long j1), .second, .val (.int i2), .val (.long j1), .second, .val (.int (1 : Int32))] [(.int i2)])) X4.here hx rfl (hb hby own_d5_16) rfl (Jvm.Free.XT.i0_eq_f hc5) kt) ?_
      refine ownE.go (T' := T4) (f' := (mkF m 9 #[.val (.ref r0), .val (.long j1), .second, .val (.int i2), .val (.long (own_v5_38_2 j1 i2 wd lb)), .second, .val (.int (2 : Int32))] [(.ref r0), (.int (2 : Int32))])) (fun t kt => ?_) ?_
      · show Steps p.tables e below (T4.setTop (mkF m 19 #[.val (.ref r0), .val (.long j1), .second, .val (.int i2), .val (.long j1), .second, .val (.int (1 : Int32))] [])) _
        refine XS.lload X4.here hx rfl (hb hby own_d5_19) rfl ?_
        show Steps p.tables e below (T4.setTop (mkF m 21 #[.val (.ref r0), .val (.long j1), .second, .val (.int i2), .val (.long j1), .second, .val (.int (1 : Int32))] [(.long j1)])) _
        refine XS.lload X4.here hx rfl (hb hby own_d5_21) rfl ?_
        show Steps p.tables e below (T4.setTop (mkF m 23 #[.val (.ref r0), .val (.long j1), .second, .val (.int i2), .val (.long j1), .second, .val (.int (1 : Int32))] [(.long j1), (.long j1)])) _
        refine XS.iload X4.here hx rfl (hb hby own_d5_23) rfl ?_
        show Steps p.tables e below (T4.setTop (mkF m 25 #[.val (.ref r0), .val (.long j1), .second, .val (.int i2), .val (.long j1), .second, .val (.int (1 : Int32))] [(.int (1 : Int32)), (.long j1), (.long j1)])) _
        refine XS.lushr X4.here hx rfl (hb hby own_d5_25) rfl ?_
        show Steps p.tables e below (T4.setTop (mkF m 26 #[.val (.ref r0), .val (.long j1), .second, .val (.int i2), .val (.long j1), .second, .val (.int (1 : Int32))] [(.long ((j1.toUInt64 >>> ((1 : Int32) &&& 0x3f).toInt64.toUInt64).toInt64)), (.long j1)])) _
        refine XS.land X4.here hx rfl (hb hby own_d5_26) rfl ?_
        show Steps p.tables e below (T4.setTop (mkF m 27 #[.val (.ref r0), .val (.long j1), .second, .val (.int i2), .val (.long j1), .second, .val (.int (1 : Int32))] [(.long (j1 &&& ((j1.toUInt64 >>> ((1 : Int32) &&& 0x3f).toInt64.toUInt64).toInt64)))])) _
        refine XS.goto X4.here hx rfl (pc0 := 27) (pc' := 38) rfl (hb hby own_d5_27) (by decide) (by decide) ?_
        show Steps p.tables e below (T4.setTop (mkF m 38 #[.val (.ref r0), .val (.long j1), .second, .val (.int i2), .val (.long j1), .second, .val (.int (1 : Int32))] [(.long (j1 &&& ((j1.toUInt64 >>> ((1 : Int32) &&& 0x3f).toInt64.toUInt64).toInt64)))])) _
        refine XS.lstore X4.here hx rfl (hb hby own_d5_38) rfl (l' := #[.val (.ref r0), .val (.long j1), .second, .val (.int i2), .val (.long (own_v5_38_2 j1 i2 wd lb)), .second, .val (.int (1 : Int32))]) rfl ?_
        show Steps p.tables e below (T4.setTop (mkF m 40 #[.val (.ref r0), .val (.long j1), .second, .val (.int i2), .val (.long (own_v5_38_2 j1 i2 wd lb)), .second, .val (.int (1 : Int32))] [])) _
        refine XS.iload X4.here hx rfl (hb hby own_d5_40) rfl ?_
        show Steps p.tables e below (T4.setTop (mkF m 42 #[.val (.ref r0), .val (.long j1), .second, .val (.int i2), .val (.long (own_v5_38_2 j1 i2 wd lb)), .second, .val (.int (1 : Int32))] [(.int (1 : Int32))])) _
        refine XS.iconst X4.here hx rfl (hb hby own_d5_42) ?_
        show Steps p.tables e below (T4.setTop (mkF m 43 #[.val (.ref r0), .val (.long j1), .second, .val (.int i2), .val (.long (own_v5_38_2 j1 i2 wd lb)), .second, .val (.int (1 : Int32))] [(.int (1 : Int32)), (.int (1 : Int32))])) _
        refine XS.ishl X4.here hx rfl (hb hby own_d5_43) rfl ?_
        show Steps p.tables e below (T4.setTop (mkF m 44 #[.val (.ref r0), .val (.long j1), .second, .val (.int i2), .val (.long (own_v5_38_2 j1 i2 wd lb)), .second, .val (.int (1 : Int32))] [(.int (2 : Int32))])) _
        refine XS.istore X4.here hx rfl (hb hby own_d5_44) rfl (l' := #[.val (.ref r0), .val (.long j1), .second, .val (.int i2), .val (.long (own_v5_38_2 j1 i2 wd lb)), .second, .val (.int (2 : Int32))]) rfl ?_
        show Steps p.tables e below (T4.setTop (mkF m 46 #[.val (.ref r0), .val (.long j1), .second, .val (.int i2), .val (.long (own_v5_38_2 j1 i2 wd lb)), .second, .val (.int (2 : Int32))] [])) _
        refine XS.goto X4.here hx rfl (pc0 := 46) (pc' := 6) rfl (hb hby own_d5_46) (by decide) (by decide) ?_
        show Steps p.tables e below (T4.setTop (mkF m 6 #[.val (.ref r0), .val (.long j1), .second, .val (.int i2), .val (.long (own_v5_38_2 j1 i2 wd lb)), .second, .val (.int (2 : Int32))] [])) _
        refine XS.iload X4.here hx rfl (hb hby own_d5_6) rfl ?_
        show Steps p.tables e below (T4.setTop (mkF m 8 #[.val (.ref r0), .val (.long j1), .second, .val (.int i2), .val (.long (own_v5_38_2 j1 i2 wd lb)), .second, .val (.int (2 : Int32))] [(.int (2 : Int32))])) _
        refine XS.aloadN X4.here hx rfl (hb hby own_d5_8) rfl rfl ?_
        exact kt
      obtain ⟨T8, X8, e8, st8⟩ := getF X4 hx hZ hown (host := "") (Or.inl (hw _ (List.mem_of_getElem? (i := 15) rfl))) Via.refl e4 P0_k1 (g := (mkF m 9 #[.val (.ref r0), .val (.long j1), .second, .val (.int i2), .val (.long (own_v5_38_2 j1 i2 wd lb)), .second, .val (.int (2 : Int32))] [(.ref r0), (.int (2 : Int32))])) rfl rfl (hb hby own_d5_9)
      refine ownE.go (T' := T8) (f' := (mkF m 12 #[.val (.ref r0), .val (.long j1), .second, .val (.int i2), .val (.long (own_v5_38_2 j1 i2 wd lb)), .second, .val (.int (2 : Int32))] [(.int (2 : Int32)), (.int (2 : Int32))])) st8 ?_
      refine ownE.go (T' := T8) (f' := (mkF m 49 #[.val (.ref r0), .val (.long j1), .second, .val (.int i2), .val (.long (own_v5_38_2 j1 i2 wd lb)), .second, .val (.int (2 : Int32))] [])) (fun t kt => XS.icmpYes (g := (mkF m 12 #[.val (.ref r0), .val (.long j1), .second, .val (.int i2), .val (.long (own_v5_38_2 j1 i2 wd lb)), .second, .val (.int (2 : Int32))] [(.int (2 : Int32)), (.int (2 : Int32))])) X8.here hx rfl (pc0 := 12) (pc' := 49) rfl (hb hby own_d5_12) rfl (Jvm.Free.XT.ii_ge_t (by decide)) (by decide) (by decide) kt) ?_
      refine ownE.go (T' := T8) (f' := (mkF m 52 #[.val (.ref r0), .val (.long j1), .second, .val (.int i2), .val (.long (own_v5_38_2 j1 i2 wd lb)), .second, .val (.int (2 : Int32))] [(.ref r0), (.long (own_v5_38_2 j1 i2 wd lb))])) (fun t kt => ?_) ?_
      · show Steps p.tables e below (T8.setTop (mkF m 49 #[.val (.ref r0), .val (.long j1), .second, .val (.int i2), .val (.long (own_v5_38_2 j1 i2 wd lb)), .second, .val (.int (2 : Int32))] [])) _
        refine XS.lload X8.here hx rfl (hb hby own_d5_49) rfl ?_
        show Steps p.tables e below (T8.setTop (mkF m 51 #[.val (.ref r0), .val (.long j1), .second, .val (.int i2), .val (.long (own_v5_38_2 j1 i2 wd lb)), .second, .val (.int (2 : Int32))] [(.long (own_v5_38_2 j1 i2 wd lb))])) _
        refine XS.aloadN X8.here hx rfl (hb hby own_d5_51) rfl rfl ?_
        exact kt
      obtain ⟨T9, X9, e9, st9⟩ := getF X8 hx hZ hown (host := "") (Or.inl (hw _ (List.mem_of_getElem? (i := 25) rfl))) Via.refl e8 P1 (g := (mkF m 52 #[.val (.ref r0), .val (.long j1), .second, .val (.int i2), .val (.long (own_v5_38_2 j1 i2 wd lb)), .second, .val (.int (2 : Int32))] [(.ref r0), (.long (own_v5_38_2 j1 i2 wd lb))])) rfl rfl (hb hby own_d5_52)
      refine ownE.go (T' := T9) (f' := (mkF m 55 #[.val (.ref r0), .val (.long j1), .second, .val (.int i2), .val (.long (own_v5_38_2 j1 i2 wd lb)), .second, .val (.int (2 : Int32))] [(.long lb), (.long (own_v5_38_2 j1 i2 wd lb))])) st9 ?_
      refine ownE.go (T' := T9) (f' := (mkF m 56 #[.val (.ref r0), .val (.long j1), .second, .val (.int i2), .val (.long (own_v5_38_2 j1 i2 wd lb)), .second, .val (.int (2 : Int32))] [(.long ((own_v5_38_2 j1 i2 wd lb) &&& lb))])) (fun t kt => ?_) ?_
      · show Steps p.tables e below (T9.setTop (mkF m 55 #[.val (.ref r0), .val (.long j1), .second, .val (.int i2), .val (.long (own_v5_38_2 j1 i2 wd lb)), .second, .val (.int (2 : Int32))] [(.long lb), (.long (own_v5_38_2 j1 i2 wd lb))])) _
        refine XS.land X9.here hx rfl (hb hby own_d5_55) rfl ?_
        exact kt
      refine ownE.retL X9 hx hlk hret (hb hby own_d5_56) ?_ (by decide) (by decide)
      show own_Q5 Z r0 j1 i2 wd lb h0 n0 _ T9.heap _
      rw [e9]
      exact ⟨(by rw [own_fold, if_neg hk1_0, if_pos hk1, if_neg hc5] <;> first | rfl | decide), N0, rfl⟩
  · -- wd = 4
    have P0_k1 : Fld Z h0 r0 "com/example/upper_falls/upperfalls/CellWords" "width" "I" (.int (4 : Int32)) := by
      have q := P0
      rw [hk1] at q
      exact q
    have hk1_0 : ¬ wd = (1 : Int32) := by rw [hk1]; decide
    have hk1_1 : ¬ wd = (2 : Int32) := by rw [hk1]; decide
    refine ownE.go (T' := s₁) (f' := (mkF m 9 #[.val (.ref r0), .val (.long j1), .second, .val (.int i2), .val (.long j1), .second, .val (.int (1 : Int32))] [(.ref r0), (.int (1 : Int32))])) (fun t kt => ?_) ?_
    · show Steps p.tables e below (s₁.setTop (mkF m 0 #[.val (.ref r0), .val (.long j1), .second, .val (.int i2), .unset, .unset, .unset] [])) _
      refine XS.lloadN X0.here hx rfl (hb hby own_d5_0) rfl ?_
      show Steps p.tables e below (s₁.setTop (mkF m 1 #[.val (.ref r0), .val (.long j1), .second, .val (.int i2), .unset, .unset, .unset] [(.long j1)])) _
      refine XS.lstore X0.here hx rfl (hb hby own_d5_1) rfl (l' := #[.val (.ref r0), .val (.long j1), .second, .val (.int i2), .val (.long j1), .second, .unset]) rfl ?_
      show Steps p.tables e below (s₁.setTop (mkF m 3 #[.val (.ref r0), .val (.long j1), .second, .val (.int i2), .val (.long j1), .second, .unset] [])) _
      refine XS.iconst X0.here hx rfl (hb hby own_d5_3) ?_
      show Steps p.tables e below (s₁.setTop (mkF m 4 #[.val (.ref r0), .val (.long j1), .second, .val (.int i2), .val (.long j1), .second, .unset] [(.int (1 : Int32))])) _
      refine XS.istore X0.here hx rfl (hb hby own_d5_4) rfl (l' := #[.val (.ref r0), .val (.long j1), .second, .val (.int i2), .val (.long j1), .second, .val (.int (1 : Int32))]) rfl ?_
      show Steps p.tables e below (s₁.setTop (mkF m 6 #[.val (.ref r0), .val (.long j1), .second, .val (.int i2), .val (.long j1), .second, .val (.int (1 : Int32))] [])) _
      refine XS.iload X0.here hx rfl (hb hby own_d5_6) rfl ?_
      show Steps p.tables e below (s₁.setTop (mkF m 8 #[.val (.ref r0), .val (.long j1), .second, .val (.int i2), .val (.long j1), .second, .val (.int (1 : Int32))] [(.int (1 : Int32))])) _
      refine XS.aloadN X0.here hx rfl (hb hby own_d5_8) rfl rfl ?_
      exact kt
    obtain ⟨T10, X10, e10, st10⟩ := getF X0 hx hZ hown (host := "") (Or.inl (hw _ (List.mem_of_getElem? (i := 15) rfl))) Via.refl e0 P0_k1 (g := (mkF m 9 #[.val (.ref r0), .val (.long j1), .second, .val (.int i2), .val (.long j1), .second, .val (.int (1 : Int32))] [(.ref r0), (.int (1 : Int32))])) rfl rfl (hb hby own_d5_9)
    refine ownE.go (T' := T10) (f' := (mkF m 12 #[.val (.ref r0), .val (.long j1), .second, .val (.int i2), .val (.long j1), .second, .val (.int (1 : Int32))] [(.int (4 : Int32)), (.int (1 : Int32))])) st10 ?_
    refine ownE.go (T' := T10) (f' := (mkF m 15 #[.val (.ref r0), .val (.long j1), .second, .val (.int i2), .val (.long j1), .second, .val (.int (1 : Int32))] [])) (fun t kt => XS.icmpNo (g := (mkF m 12 #[.val (.ref r0), .val (.long j1), .second, .val (.int i2), .val (.long j1), .second, .val (.int (1 : Int32))] [(.int (4 : Int32)), (.int (1 : Int32))])) X10.here hx rfl (hb hby own_d5_12) rfl (Jvm.Free.XT.ii_ge_f (by decide)) kt) ?_
    refine ownE.go (T' := T10) (f' := (mkF m 16 #[.val (.ref r0), .val (.long j1), .second, .val (.int i2), .val (.long j1), .second, .val (.int (1 : Int32))] [(.int i2)])) (fun t kt => ?_) ?_
    · show Steps p.tables e below (T10.setTop (mkF m 15 #[.val (.ref r0), .val (.long j1), .second, .val (.int i2), .val (.long j1), .second, .val (.int (1 : Int32))] [])) _
      refine XS.iloadN X10.here hx rfl (hb hby own_d5_15) rfl ?_
      exact kt
    by_cases hc11 : i2 = (0 : Int32)
    · -- pc 16
      refine ownE.go (T' := T10) (f' := (mkF m 30 #[.val (.ref r0), .val (.long j1), .second, .val (.int i2), .val (.long j1), .second, .val (.int (1 : Int32))] [])) (fun t kt => XS.ifYes (g := (mkF m 16 #[.val (.ref r0), .val (.long j1), .second, .val (.int i2), .val (.long j1), .second, .val (.int (1 : Int32))] [(.int i2)])) X10.here hx rfl (pc0 := 16) (pc' := 30) rfl (hb hby own_d5_16) rfl (Jvm.Free.XT.i0_eq_t hc11) (by decide) (by decide) kt) ?_
      refine ownE.go (T' := T10) (f' := (mkF m 9 #[.val (.ref r0), .val (.long j1), .second, .val (.int i2), .val (.long (own_v5_38_3 j1 i2 wd lb)), .second, .val (.int (2 : Int32))] [(.ref r0), (.int (2 : Int32))])) (fun t kt => ?_) ?_
      · show Steps p.tables e below (T10.setTop (mkF m 30 #[.val (.ref r0), .val (.long j1), .second, .val (.int i2), .val (.long j1), .second, .val (.int (1 : Int32))] [])) _
        refine XS.lload X10.here hx rfl (hb hby own_d5_30) rfl ?_
        show Steps p.tables e below (T10.setTop (mkF m 32 #[.val (.ref r0), .val (.long j1), .second, .val (.int i2), .val (.long j1), .second, .val (.int (1 : Int32))] [(.long j1)])) _
        refine XS.lload X10.here hx rfl (hb hby own_d5_32) rfl ?_
        show Steps p.tables e below (T10.setTop (mkF m 34 #[.val (.ref r0), .val (.long j1), .second, .val (.int i2), .val (.long j1), .second, .val (.int (1 : Int32))] [(.long j1), (.long j1)])) _
        refine XS.iload X10.here hx rfl (hb hby own_d5_34) rfl ?_
        show Steps p.tables e below (T10.setTop (mkF m 36 #[.val (.ref r0), .val (.long j1), .second, .val (.int i2), .val (.long j1), .second, .val (.int (1 : Int32))] [(.int (1 : Int32)), (.long j1), (.long j1)])) _
        refine XS.lushr X10.here hx rfl (hb hby own_d5_36) rfl ?_
        show Steps p.tables e below (T10.setTop (mkF m 37 #[.val (.ref r0), .val (.long j1), .second, .val (.int i2), .val (.long j1), .second, .val (.int (1 : Int32))] [(.long ((j1.toUInt64 >>> ((1 : Int32) &&& 0x3f).toInt64.toUInt64).toInt64)), (.long j1)])) _
        refine XS.lor X10.here hx rfl (hb hby own_d5_37) rfl ?_
        show Steps p.tables e below (T10.setTop (mkF m 38 #[.val (.ref r0), .val (.long j1), .second, .val (.int i2), .val (.long j1), .second, .val (.int (1 : Int32))] [(.long (j1 ||| ((j1.toUInt64 >>> ((1 : Int32) &&& 0x3f).toInt64.toUInt64).toInt64)))])) _
        refine XS.lstore X10.here hx rfl (hb hby own_d5_38) rfl (l' := #[.val (.ref r0), .val (.long j1), .second, .val (.int i2), .val (.long (own_v5_38_3 j1 i2 wd lb)), .second, .val (.int (1 : Int32))]) rfl ?_
        show Steps p.tables e below (T10.setTop (mkF m 40 #[.val (.ref r0), .val (.long j1), .second, .val (.int i2), .val (.long (own_v5_38_3 j1 i2 wd lb)), .second, .val (.int (1 : Int32))] [])) _
        refine XS.iload X10.here hx rfl (hb hby own_d5_40) rfl ?_
        show Steps p.tables e below (T10.setTop (mkF m 42 #[.val (.ref r0), .val (.long j1), .second, .val (.int i2), .val (.long (own_v5_38_3 j1 i2 wd lb)), .second, .val (.int (1 : Int32))] [(.int (1 : Int32))])) _
        refine XS.iconst X10.here hx rfl (hb hby own_d5_42) ?_
        show Steps p.tables e below (T10.setTop (mkF m 43 #[.val (.ref r0), .val (.long j1), .second, .val (.int i2), .val (.long (own_v5_38_3 j1 i2 wd lb)), .second, .val (.int (1 : Int32))] [(.int (1 : Int32)), (.int (1 : Int32))])) _
        refine XS.ishl X10.here hx rfl (hb hby own_d5_43) rfl ?_
        show Steps p.tables e below (T10.setTop (mkF m 44 #[.val (.ref r0), .val (.long j1), .second, .val (.int i2), .val (.long (own_v5_38_3 j1 i2 wd lb)), .second, .val (.int (1 : Int32))] [(.int (2 : Int32))])) _
        refine XS.istore X10.here hx rfl (hb hby own_d5_44) rfl (l' := #[.val (.ref r0), .val (.long j1), .second, .val (.int i2), .val (.long (own_v5_38_3 j1 i2 wd lb)), .second, .val (.int (2 : Int32))]) rfl ?_
        show Steps p.tables e below (T10.setTop (mkF m 46 #[.val (.ref r0), .val (.long j1), .second, .val (.int i2), .val (.long (own_v5_38_3 j1 i2 wd lb)), .second, .val (.int (2 : Int32))] [])) _
        refine XS.goto X10.here hx rfl (pc0 := 46) (pc' := 6) rfl (hb hby own_d5_46) (by decide) (by decide) ?_
        show Steps p.tables e below (T10.setTop (mkF m 6 #[.val (.ref r0), .val (.long j1), .second, .val (.int i2), .val (.long (own_v5_38_3 j1 i2 wd lb)), .second, .val (.int (2 : Int32))] [])) _
        refine XS.iload X10.here hx rfl (hb hby own_d5_6) rfl ?_
        show Steps p.tables e below (T10.setTop (mkF m 8 #[.val (.ref r0), .val (.long j1), .second, .val (.int i2), .val (.long (own_v5_38_3 j1 i2 wd lb)), .second, .val (.int (2 : Int32))] [(.int (2 : Int32))])) _
        refine XS.aloadN X10.here hx rfl (hb hby own_d5_8) rfl rfl ?_
        exact kt
      obtain ⟨T12, X12, e12, st12⟩ := getF X10 hx hZ hown (host := "") (Or.inl (hw _ (List.mem_of_getElem? (i := 15) rfl))) Via.refl e10 P0_k1 (g := (mkF m 9 #[.val (.ref r0), .val (.long j1), .second, .val (.int i2), .val (.long (own_v5_38_3 j1 i2 wd lb)), .second, .val (.int (2 : Int32))] [(.ref r0), (.int (2 : Int32))])) rfl rfl (hb hby own_d5_9)
      refine ownE.go (T' := T12) (f' := (mkF m 12 #[.val (.ref r0), .val (.long j1), .second, .val (.int i2), .val (.long (own_v5_38_3 j1 i2 wd lb)), .second, .val (.int (2 : Int32))] [(.int (4 : Int32)), (.int (2 : Int32))])) st12 ?_
      refine ownE.go (T' := T12) (f' := (mkF m 15 #[.val (.ref r0), .val (.long j1), .second, .val (.int i2), .val (.long (own_v5_38_3 j1 i2 wd lb)), .second, .val (.int (2 : Int32))] [])) (fun t kt => XS.icmpNo (g := (mkF m 12 #[.val (.ref r0), .val (.long j1), .second, .val (.int i2), .val (.long (own_v5_38_3 j1 i2 wd lb)), .second, .val (.int (2 : Int32))] [(.int (4 : Int32)), (.int (2 : Int32))])) X12.here hx rfl (hb hby own_d5_12) rfl (Jvm.Free.XT.ii_ge_f (by decide)) kt) ?_
      refine ownE.go (T' := T12) (f' := (mkF m 16 #[.val (.ref r0), .val (.long j1), .second, .val (.int i2), .val (.long (own_v5_38_3 j1 i2 wd lb)), .second, .val (.int (2 : Int32))] [(.int i2)])) (fun t kt => ?_) ?_
      · show Steps p.tables e below (T12.setTop (mkF m 15 #[.val (.ref r0), .val (.long j1), .second, .val (.int i2), .val (.long (own_v5_38_3 j1 i2 wd lb)), .second, .val (.int (2 : Int32))] [])) _
        refine XS.iloadN X12.here hx rfl (hb hby own_d5_15) rfl ?_
        exact kt
      refine ownE.go (T' := T12) (f' := (mkF m 30 #[.val (.ref r0), .val (.long j1), .second, .val (.int i2), .val (.long (own_v5_38_3 j1 i2 wd lb)), .second, .val (.int (2 : Int32))] [])) (fun t kt => XS.ifYes (g := (mkF m 16 #[.val (.ref r0), .val (.long j1), .second, .val (.int i2), .val (.long (own_v5_38_3 j1 i2 wd lb)), .second, .val (.int (2 : Int32))] [(.int i2)])) X12.here hx rfl (pc0 := 16) (pc' := 30) rfl (hb hby own_d5_16) rfl (Jvm.Free.XT.i0_eq_t hc11) (by decide) (by decide) kt) ?_
      refine ownE.go (T' := T12) (f' := (mkF m 9 #[.val (.ref r0), .val (.long j1), .second, .val (.int i2), .val (.long (own_v5_38_4 j1 i2 wd lb)), .second, .val (.int (4 : Int32))] [(.ref r0), (.int (4 : Int32))])) (fun t kt => ?_) ?_
      · show Steps p.tables e below (T12.setTop (mkF m 30 #[.val (.ref r0), .val (.long j1), .second, .val (.int i2), .val (.long (own_v5_38_3 j1 i2 wd lb)), .second, .val (.int (2 : Int32))] [])) _
        refine XS.lload X12.here hx rfl (hb hby own_d5_30) rfl ?_
        show Steps p.tables e below (T12.setTop (mkF m 32 #[.val (.ref r0), .val (.long j1), .second, .val (.int i2), .val (.long (own_v5_38_3 j1 i2 wd lb)), .second, .val (.int (2 : Int32))] [(.long (own_v5_38_3 j1 i2 wd lb))])) _
        refine XS.lload X12.here hx rfl (hb hby own_d5_32) rfl ?_
        show Steps p.tables e below (T12.setTop (mkF m 34 #[.val (.ref r0), .val (.long j1), .second, .val (.int i2), .val (.long (own_v5_38_3 j1 i2 wd lb)), .second, .val (.int (2 : Int32))] [(.long (own_v5_38_3 j1 i2 wd lb)), (.long (own_v5_38_3 j1 i2 wd lb))])) _
        refine XS.iload X12.here hx rfl (hb hby own_d5_34) rfl ?_
        show Steps p.tables e below (T12.setTop (mkF m 36 #[.val (.ref r0), .val (.long j1), .second, .val (.int i2), .val (.long (own_v5_38_3 j1 i2 wd lb)), .second, .val (.int (2 : Int32))] [(.int (2 : Int32)), (.long (own_v5_38_3 j1 i2 wd lb)), (.long (own_v5_38_3 j1 i2 wd lb))])) _
        refine XS.lushr X12.here hx rfl (hb hby own_d5_36) rfl ?_
        show Steps p.tables e below (T12.setTop (mkF m 37 #[.val (.ref r0), .val (.long j1), .second, .val (.int i2), .val (.long (own_v5_38_3 j1 i2 wd lb)), .second, .val (.int (2 : Int32))] [(.long (((own_v5_38_3 j1 i2 wd lb).toUInt64 >>> ((2 : Int32) &&& 0x3f).toInt64.toUInt64).toInt64)), (.long (own_v5_38_3 j1 i2 wd lb))])) _
        refine XS.lor X12.here hx rfl (hb hby own_d5_37) rfl ?_
        show Steps p.tables e below (T12.setTop (mkF m 38 #[.val (.ref r0), .val (.long j1), .second, .val (.int i2), .val (.long (own_v5_38_3 j1 i2 wd lb)), .second, .val (.int (2 : Int32))] [(.long ((own_v5_38_3 j1 i2 wd lb) ||| (((own_v5_38_3 j1 i2 wd lb).toUInt64 >>> ((2 : Int32) &&& 0x3f).toInt64.toUInt64).toInt64)))])) _
        refine XS.lstore X12.here hx rfl (hb hby own_d5_38) rfl (l' := #[.val (.ref r0), .val (.long j1), .second, .val (.int i2), .val (.long (own_v5_38_4 j1 i2 wd lb)), .second, .val (.int (2 : Int32))]) rfl ?_
        show Steps p.tables e below (T12.setTop (mkF m 40 #[.val (.ref r0), .val (.long j1), .second, .val (.int i2), .val (.long (own_v5_38_4 j1 i2 wd lb)), .second, .val (.int (2 : Int32))] [])) _
        refine XS.iload X12.here hx rfl (hb hby own_d5_40) rfl ?_
        show Steps p.tables e below (T12.setTop (mkF m 42 #[.val (.ref r0), .val (.long j1), .second, .val (.int i2), .val (.long (own_v5_38_4 j1 i2 wd lb)), .second, .val (.int (2 : Int32))] [(.int (2 : Int32))])) _
        refine XS.iconst X12.here hx rfl (hb hby own_d5_42) ?_
        show Steps p.tables e below (T12.setTop (mkF m 43 #[.val (.ref r0), .val (.long j1), .second, .val (.int i2), .val (.long (own_v5_38_4 j1 i2 wd lb)), .second, .val (.int (2 : Int32))] [(.int (1 : Int32)), (.int (2 : Int32))])) _
        refine XS.ishl X12.here hx rfl (hb hby own_d5_43) rfl ?_
        show Steps p.tables e below (T12.setTop (mkF m 44 #[.val (.ref r0), .val (.long j1), .second, .val (.int i2), .val (.long (own_v5_38_4 j1 i2 wd lb)), .second, .val (.int (2 : Int32))] [(.int (4 : Int32))])) _
        refine XS.istore X12.here hx rfl (hb hby own_d5_44) rfl (l' := #[.val (.ref r0), .val (.long j1), .second, .val (.int i2), .val (.long (own_v5_38_4 j1 i2 wd lb)), .second, .val (.int (4 : Int32))]) rfl ?_
        show Steps p.tables e below (T12.setTop (mkF m 46 #[.val (.ref r0), .val (.long j1), .second, .val (.int i2), .val (.long (own_v5_38_4 j1 i2 wd lb)), .second, .val (.int (4 : Int32))] [])) _
        refine XS.goto X12.here hx rfl (pc0 := 46) (pc' := 6) rfl (hb hby own_d5_46) (by decide) (by decide) ?_
        show Steps p.tables e below (T12.setTop (mkF m 6 #[.val (.ref r0), .val (.long j1), .second, .val (.int i2), .val (.long (own_v5_38_4 j1 i2 wd lb)), .second, .val (.int (4 : Int32))] [])) _
        refine XS.iload X12.here hx rfl (hb hby own_d5_6) rfl ?_
        show Steps p.tables e below (T12.setTop (mkF m 8 #[.val (.ref r0), .val (.long j1), .second, .val (.int i2), .val (.long (own_v5_38_4 j1 i2 wd lb)), .second, .val (.int (4 : Int32))] [(.int (4 : Int32))])) _
        refine XS.aloadN X12.here hx rfl (hb hby own_d5_8) rfl rfl ?_
        exact kt
      obtain ⟨T13, X13, e13, st13⟩ := getF X12 hx hZ hown (host := "") (Or.inl (hw _ (List.mem_of_getElem? (i := 15) rfl))) Via.refl e12 P0_k1 (g := (mkF m 9 #[.val (.ref r0), .val (.long j1), .second, .val (.int i2), .val (.long (own_v5_38_4 j1 i2 wd lb)), .second, .val (.int (4 : Int32))] [(.ref r0), (.int (4 : Int32))])) rfl rfl (hb hby own_d5_9)
      refine ownE.go (T' := T13) (f' := (mkF m 12 #[.val (.ref r0), .val (.long j1), .second, .val (.int i2), .val (.long (own_v5_38_4 j1 i2 wd lb)), .second, .val (.int (4 : Int32))] [(.int (4 : Int32)), (.int (4 : Int32))])) st13 ?_
      refine ownE.go (T' := T13) (f' := (mkF m 49 #[.val (.ref r0), .val (.long j1), .second, .val (.int i2), .val (.long (own_v5_38_4 j1 i2 wd lb)), .second, .val (.int (4 : Int32))] [])) (fun t kt => XS.icmpYes (g := (mkF m 12 #[.val (.ref r0), .val (.long j1), .second, .val (.int i2), .val (.long (own_v5_38_4 j1 i2 wd lb)), .second, .val (.int (4 : Int32))] [(.int (4 : Int32)), (.int (4 : Int32))])) X13.here hx rfl (pc0 := 12) (pc' := 49) rfl (hb hby own_d5_12) rfl (Jvm.Free.XT.ii_ge_t (by decide)) (by decide) (by decide) kt) ?_
      refine ownE.go (T' := T13) (f' := (mkF m 52 #[.val (.ref r0), .val (.long j1), .second, .val (.int i2), .val (.long (own_v5_38_4 j1 i2 wd lb)), .second, .val (.int (4 : Int32))] [(.ref r0), (.long (own_v5_38_4 j1 i2 wd lb))])) (fun t kt => ?_) ?_
      · show Steps p.tables e below (T13.setTop (mkF m 49 #[.val (.ref r0), .val (.long j1), .second, .val (.int i2), .val (.long (own_v5_38_4 j1 i2 wd lb)), .second, .val (.int (4 : Int32))] [])) _
        refine XS.lload X13.here hx rfl (hb hby own_d5_49) rfl ?_
        show Steps p.tables e below (T13.setTop (mkF m 51 #[.val (.ref r0), .val (.long j1), .second, .val (.int i2), .val (.long (own_v5_38_4 j1 i2 wd lb)), .second, .val (.int (4 : Int32))] [(.long (own_v5_38_4 j1 i2 wd lb))])) _
        refine XS.aloadN X13.here hx rfl (hb hby own_d5_51) rfl rfl ?_
        exact kt
      obtain ⟨T14, X14, e14, st14⟩ := getF X13 hx hZ hown (host := "") (Or.inl (hw _ (List.mem_of_getElem? (i := 25) rfl))) Via.refl e13 P1 (g := (mkF m 52 #[.val (.ref r0), .val (.long j1), .second, .val (.int i2), .val (.long (own_v5_38_4 j1 i2 wd lb)), .second, .val (.int (4 : Int32))] [(.ref r0), (.long (own_v5_38_4 j1 i2 wd lb))])) rfl rfl (hb hby own_d5_52)
      refine ownE.go (T' := T14) (f' := (mkF m 55 #[.val (.ref r0), .val (.long j1), .second, .val (.int i2), .val (.long (own_v5_38_4 j1 i2 wd lb)), .second, .val (.int (4 : Int32))] [(.long lb), (.long (own_v5_38_4 j1 i2 wd lb))])) st14 ?_
      refine ownE.go (T' := T14) (f' := (mkF m 56 #[.val (.ref r0), .val (.long j1), .second, .val (.int i2), .val (.long (own_v5_38_4 j1 i2 wd lb)), .second, .val (.int (4 : Int32))] [(.long ((own_v5_38_4 j1 i2 wd lb) &&& lb))])) (fun t kt => ?_) ?_
      · show Steps p.tables e below (T14.setTop (mkF m 55 #[.val (.ref r0), .val (.long j1), .second, .val (.int i2), .val (.long (own_v5_38_4 j1 i2 wd lb)), .second, .val (.int (4 : Int32))] [(.long lb), (.long (own_v5_38_4 j1 i2 wd lb))])) _
        refine XS.land X14.here hx rfl (hb hby own_d5_55) rfl ?_
        exact kt
      refine ownE.retL X14 hx hlk hret (hb hby own_d5_56) ?_ (by decide) (by decide)
      show own_Q5 Z r0 j1 i2 wd lb h0 n0 _ T14.heap _
      rw [e14]
      exact ⟨(by rw [own_fold, if_neg hk1_0, if_neg hk1_1, if_pos hk1, if_pos hc11] <;> first | rfl | decide), N0, rfl⟩
    · -- pc 16
      refine ownE.go (T' := T10) (f' := (mkF m 19 #[.val (.ref r0), .val (.long j1), .second, .val (.int i2), .val (.long j1), .second, .val (.int (1 : Int32))] [])) (fun t kt => XS.ifNo (g := (mkF m 16 #[.val (.ref r0), .val (.long j1), .second, .val (.int i2), .val (.long j1), .second, .val (.int (1 : Int32))] [(.int i2)])) X10.here hx rfl (hb hby own_d5_16) rfl (Jvm.Free.XT.i0_eq_f hc11) kt) ?_
      refine ownE.go (T' := T10) (f' := (mkF m 9 #[.val (.ref r0), .val (.long j1), .second, .val (.int i2), .val (.long (own_v5_38_5 j1 i2 wd lb)), .second, .val (.int (2 : Int32))] [(.ref r0), (.int (2 : Int32))])) (fun t kt => ?_) ?_
      · show Steps p.tables e below (T10.setTop (mkF m 19 #[.val (.ref r0), .val (.long j1), .second, .val (.int i2), .val (.long j1), .second, .val (.int (1 : Int32))] [])) _
        refine XS.lload X10.here hx rfl (hb hby own_d5_19) rfl ?_
        show Steps p.tables e below (T10.setTop (mkF m 21 #[.val (.ref r0), .val (.long j1), .second, .val (.int i2), .val (.long j1), .second, .val (.int (1 : Int32))] [(.long j1)])) _
        refine XS.lload X10.here hx rfl (hb hby own_d5_21) rfl ?_
        show Steps p.tables e below (T10.setTop (mkF m 23 #[.val (.ref r0), .val (.long j1), .second, .val (.int i2), .val (.long j1), .second, .val (.int (1 : Int32))] [(.long j1), (.long j1)])) _
        refine XS.iload X10.here hx rfl (hb hby own_d5_23) rfl ?_
        show Steps p.tables e below (T10.setTop (mkF m 25 #[.val (.ref r0), .val (.long j1), .second, .val (.int i2), .val (.long j1), .second, .val (.int (1 : Int32))] [(.int (1 : Int32)), (.long j1), (.long j1)])) _
        refine XS.lushr X10.here hx rfl (hb hby own_d5_25) rfl ?_
        show Steps p.tables e below (T10.setTop (mkF m 26 #[.val (.ref r0), .val (.long j1), .second, .val (.int i2), .val (.long j1), .second, .val (.int (1 : Int32))] [(.long ((j1.toUInt64 >>> ((1 : Int32) &&& 0x3f).toInt64.toUInt64).toInt64)), (.long j1)])) _
        refine XS.land X10.here hx rfl (hb hby own_d5_26) rfl ?_
        show Steps p.tables e below (T10.setTop (mkF m 27 #[.val (.ref r0), .val (.long j1), .second, .val (.int i2), .val (.long j1), .second, .val (.int (1 : Int32))] [(.long (j1 &&& ((j1.toUInt64 >>> ((1 : Int32) &&& 0x3f).toInt64.toUInt64).toInt64)))])) _
        refine XS.goto X10.here hx rfl (pc0 := 27) (pc' := 38) rfl (hb hby own_d5_27) (by decide) (by decide) ?_
        show Steps p.tables e below (T10.setTop (mkF m 38 #[.val (.ref r0), .val (.long j1), .second, .val (.int i2), .val (.long j1), .second, .val (.int (1 : Int32))] [(.long (j1 &&& ((j1.toUInt64 >>> ((1 : Int32) &&& 0x3f).toInt64.toUInt64).toInt64)))])) _
        refine XS.lstore X10.here hx rfl (hb hby own_d5_38) rfl (l' := #[.val (.ref r0), .val (.long j1), .second, .val (.int i2), .val (.long (own_v5_38_5 j1 i2 wd lb)), .second, .val (.int (1 : Int32))]) rfl ?_
        show Steps p.tables e below (T10.setTop (mkF m 40 #[.val (.ref r0), .val (.long j1), .second, .val (.int i2), .val (.long (own_v5_38_5 j1 i2 wd lb)), .second, .val (.int (1 : Int32))] [])) _
        refine XS.iload X10.here hx rfl (hb hby own_d5_40) rfl ?_
        show Steps p.tables e below (T10.setTop (mkF m 42 #[.val (.ref r0), .val (.long j1), .second, .val (.int i2), .val (.long (own_v5_38_5 j1 i2 wd lb)), .second, .val (.int (1 : Int32))] [(.int (1 : Int32))])) _
        refine XS.iconst X10.here hx rfl (hb hby own_d5_42) ?_
        show Steps p.tables e below (T10.setTop (mkF m 43 #[.val (.ref r0), .val (.long j1), .second, .val (.int i2), .val (.long (own_v5_38_5 j1 i2 wd lb)), .second, .val (.int (1 : Int32))] [(.int (1 : Int32)), (.int (1 : Int32))])) _
        refine XS.ishl X10.here hx rfl (hb hby own_d5_43) rfl ?_
        show Steps p.tables e below (T10.setTop (mkF m 44 #[.val (.ref r0), .val (.long j1), .second, .val (.int i2), .val (.long (own_v5_38_5 j1 i2 wd lb)), .second, .val (.int (1 : Int32))] [(.int (2 : Int32))])) _
        refine XS.istore X10.here hx rfl (hb hby own_d5_44) rfl (l' := #[.val (.ref r0), .val (.long j1), .second, .val (.int i2), .val (.long (own_v5_38_5 j1 i2 wd lb)), .second, .val (.int (2 : Int32))]) rfl ?_
        show Steps p.tables e below (T10.setTop (mkF m 46 #[.val (.ref r0), .val (.long j1), .second, .val (.int i2), .val (.long (own_v5_38_5 j1 i2 wd lb)), .second, .val (.int (2 : Int32))] [])) _
        refine XS.goto X10.here hx rfl (pc0 := 46) (pc' := 6) rfl (hb hby own_d5_46) (by decide) (by decide) ?_
        show Steps p.tables e below (T10.setTop (mkF m 6 #[.val (.ref r0), .val (.long j1), .second, .val (.int i2), .val (.long (own_v5_38_5 j1 i2 wd lb)), .second, .val (.int (2 : Int32))] [])) _
        refine XS.iload X10.here hx rfl (hb hby own_d5_6) rfl ?_
        show Steps p.tables e below (T10.setTop (mkF m 8 #[.val (.ref r0), .val (.long j1), .second, .val (.int i2), .val (.long (own_v5_38_5 j1 i2 wd lb)), .second, .val (.int (2 : Int32))] [(.int (2 : Int32))])) _
        refine XS.aloadN X10.here hx rfl (hb hby own_d5_8) rfl rfl ?_
        exact kt
      obtain ⟨T15, X15, e15, st15⟩ := getF X10 hx hZ hown (host := "") (Or.inl (hw _ (List.mem_of_getElem? (i := 15) rfl))) Via.refl e10 P0_k1 (g := (mkF m 9 #[.val (.ref r0), .val (.long j1), .second, .val (.int i2), .val (.long (own_v5_38_5 j1 i2 wd lb)), .second, .val (.int (2 : Int32))] [(.ref r0), (.int (2 : Int32))])) rfl rfl (hb hby own_d5_9)
      refine ownE.go (T' := T15) (f' := (mkF m 12 #[.val (.ref r0), .val (.long j1), .second, .val (.int i2), .val (.long (own_v5_38_5 j1 i2 wd lb)), .second, .val (.int (2 : Int32))] [(.int (4 : Int32)), (.int (2 : Int32))])) st15 ?_
      refine ownE.go (T' := T15) (f' := (mkF m 15 #[.val (.ref r0), .val (.long j1), .second, .val (.int i2), .val (.long (own_v5_38_5 j1 i2 wd lb)), .second, .val (.int (2 : Int32))] [])) (fun t kt => XS.icmpNo (g := (mkF m 12 #[.val (.ref r0), .val (.long j1), .second, .val (.int i2), .val (.long (own_v5_38_5 j1 i2 wd lb)), .second, .val (.int (2 : Int32))] [(.int (4 : Int32)), (.int (2 : Int32))])) X15.here hx rfl (hb hby own_d5_12) rfl (Jvm.Free.XT.ii_ge_f (by decide)) kt) ?_
      refine ownE.go (T' := T15) (f' := (mkF m 16 #[.val (.ref r0), .val (.long j1), .second, .val (.int i2), .val (.long (own_v5_38_5 j1 i2 wd lb)), .second, .val (.int (2 : Int32))] [(.int i2)])) (fun t kt => ?_) ?_
      · show Steps p.tables e below (T15.setTop (mkF m 15 #[.val (.ref r0), .val (.long j1), .second, .val (.int i2), .val (.long (own_v5_38_5 j1 i2 wd lb)), .second, .val (.int (2 : Int32))] [])) _
        refine XS.iloadN X15.here hx rfl (hb hby own_d5_15) rfl ?_
        exact kt
      refine ownE.go (T' := T15) (f' := (mkF m 19 #[.val (.ref r0), .val (.long j1), .second, .val (.int i2), .val (.long (own_v5_38_5 j1 i2 wd lb)), .second, .val (.int (2 : Int32))] [])) (fun t kt => XS.ifNo (g := (mkF m 16 #[.val (.ref r0), .val (.long j1), .second, .val (.int i2), .val (.long (own_v5_38_5 j1 i2 wd lb)), .second, .val (.int (2 : Int32))] [(.int i2)])) X15.here hx rfl (hb hby own_d5_16) rfl (Jvm.Free.XT.i0_eq_f hc11) kt) ?_
      refine ownE.go (T' := T15) (f' := (mkF m 9 #[.val (.ref r0), .val (.long j1), .second, .val (.int i2), .val (.long (own_v5_38_6 j1 i2 wd lb)), .second, .val (.int (4 : Int32))] [(.ref r0), (.int (4 : Int32))])) (fun t kt => ?_) ?_
      · show Steps p.tables e below (T15.setTop (mkF m 19 #[.val (.ref r0), .val (.long j1), .second, .val (.int i2), .val (.long (own_v5_38_5 j1 i2 wd lb)), .second, .val (.int (2 : Int32))] [])) _
        refine XS.lload X15.here hx rfl (hb hby own_d5_19) rfl ?_
        show Steps p.tables e below (T15.setTop (mkF m 21 #[.val (.ref r0), .val (.long j1), .second, .val (.int i2), .val (.long (own_v5_38_5 j1 i2 wd lb)), .second, .val (.int (2 : Int32))] [(.long (own_v5_38_5 j1 i2 wd lb))])) _
        refine XS.lload X15.here hx rfl (hb hby own_d5_21) rfl ?_
        show Steps p.tables e below (T15.setTop (mkF m 23 #[.val (.ref r0), .val (.long j1), .second, .val (.int i2), .val (.long (own_v5_38_5 j1 i2 wd lb)), .second, .val (.int (2 : Int32))] [(.long (own_v5_38_5 j1 i2 wd lb)), (.long (own_v5_38_5 j1 i2 wd lb))])) _
        refine XS.iload X15.here hx rfl (hb hby own_d5_23) rfl ?_
        show Steps p.tables e below (T15.setTop (mkF m 25 #[.val (.ref r0), .val (.long j1), .second, .val (.int i2), .val (.long (own_v5_38_5 j1 i2 wd lb)), .second, .val (.int (2 : Int32))] [(.int (2 : Int32)), (.long (own_v5_38_5 j1 i2 wd lb)), (.long (own_v5_38_5 j1 i2 wd lb))])) _
        refine XS.lushr X15.here hx rfl (hb hby own_d5_25) rfl ?_
        show Steps p.tables e below (T15.setTop (mkF m 26 #[.val (.ref r0), .val (.long j1), .second, .val (.int i2), .val (.long (own_v5_38_5 j1 i2 wd lb)), .second, .val (.int (2 : Int32))] [(.long (((own_v5_38_5 j1 i2 wd lb).toUInt64 >>> ((2 : Int32) &&& 0x3f).toInt64.toUInt64).toInt64)), (.long (own_v5_38_5 j1 i2 wd lb))])) _
        refine XS.land X15.here hx rfl (hb hby own_d5_26) rfl ?_
        show Steps p.tables e below (T15.setTop (mkF m 27 #[.val (.ref r0), .val (.long j1), .second, .val (.int i2), .val (.long (own_v5_38_5 j1 i2 wd lb)), .second, .val (.int (2 : Int32))] [(.long ((own_v5_38_5 j1 i2 wd lb) &&& (((own_v5_38_5 j1 i2 wd lb).toUInt64 >>> ((2 : Int32) &&& 0x3f).toInt64.toUInt64).toInt64)))])) _
        refine XS.goto X15.here hx rfl (pc0 := 27) (pc' := 38) rfl (hb hby own_d5_27) (by decide) (by decide) ?_
        show Steps p.tables e below (T15.setTop (mkF m 38 #[.val (.ref r0), .val (.long j1), .second, .val (.int i2), .val (.long (own_v5_38_5 j1 i2 wd lb)), .second, .val (.int (2 : Int32))] [(.long ((own_v5_38_5 j1 i2 wd lb) &&& (((own_v5_38_5 j1 i2 wd lb).toUInt64 >>> ((2 : Int32) &&& 0x3f).toInt64.toUInt64).toInt64)))])) _
        refine XS.lstore X15.here hx rfl (hb hby own_d5_38) rfl (l' := #[.val (.ref r0), .val (.long j1), .second, .val (.int i2), .val (.long (own_v5_38_6 j1 i2 wd lb)), .second, .val (.int (2 : Int32))]) rfl ?_
        show Steps p.tables e below (T15.setTop (mkF m 40 #[.val (.ref r0), .val (.long j1), .second, .val (.int i2), .val (.long (own_v5_38_6 j1 i2 wd lb)), .second, .val (.int (2 : Int32))] [])) _
        refine XS.iload X15.here hx rfl (hb hby own_d5_40) rfl ?_
        show Steps p.tables e below (T15.setTop (mkF m 42 #[.val (.ref r0), .val (.long j1), .second, .val (.int i2), .val (.long (own_v5_38_6 j1 i2 wd lb)), .second, .val (.int (2 : Int32))] [(.int (2 : Int32))])) _
        refine XS.iconst X15.here hx rfl (hb hby own_d5_42) ?_
        show Steps p.tables e below (T15.setTop (mkF m 43 #[.val (.ref r0), .val (.long j1), .second, .val (.int i2), .val (.long (own_v5_38_6 j1 i2 wd lb)), .second, .val (.int (2 : Int32))] [(.int (1 : Int32)), (.int (2 : Int32))])) _
        refine XS.ishl X15.here hx rfl (hb hby own_d5_43) rfl ?_
        show Steps p.tables e below (T15.setTop (mkF m 44 #[.val (.ref r0), .val (.long j1), .second, .val (.int i2), .val (.long (own_v5_38_6 j1 i2 wd lb)), .second, .val (.int (2 : Int32))] [(.int (4 : Int32))])) _
        refine XS.istore X15.here hx rfl (hb hby own_d5_44) rfl (l' := #[.val (.ref r0), .val (.long j1), .second, .val (.int i2), .val (.long (own_v5_38_6 j1 i2 wd lb)), .second, .val (.int (4 : Int32))]) rfl ?_
        show Steps p.tables e below (T15.setTop (mkF m 46 #[.val (.ref r0), .val (.long j1), .second, .val (.int i2), .val (.long (own_v5_38_6 j1 i2 wd lb)), .second, .val (.int (4 : Int32))] [])) _
        refine XS.goto X15.here hx rfl (pc0 := 46) (pc' := 6) rfl (hb hby own_d5_46) (by decide) (by decide) ?_
        show Steps p.tables e below (T15.setTop (mkF m 6 #[.val (.ref r0), .val (.long j1), .second, .val (.int i2), .val (.long (own_v5_38_6 j1 i2 wd lb)), .second, .val (.int (4 : Int32))] [])) _
        refine XS.iload X15.here hx rfl (hb hby own_d5_6) rfl ?_
        show Steps p.tables e below (T15.setTop (mkF m 8 #[.val (.ref r0), .val (.long j1), .second, .val (.int i2), .val (.long (own_v5_38_6 j1 i2 wd lb)), .second, .val (.int (4 : Int32))] [(.int (4 : Int32))])) _
        refine XS.aloadN X15.here hx rfl (hb hby own_d5_8) rfl rfl ?_
        exact kt
      obtain ⟨T16, X16, e16, st16⟩ := getF X15 hx hZ hown (host := "") (Or.inl (hw _ (List.mem_of_getElem? (i := 15) rfl))) Via.refl e15 P0_k1 (g := (mkF m 9 #[.val (.ref r0), .val (.long j1), .second, .val (.int i2), .val (.long (own_v5_38_6 j1 i2 wd lb)), .second, .val (.int (4 : Int32))] [(.ref r0), (.int (4 : Int32))])) rfl rfl (hb hby own_d5_9)
      refine ownE.go (T' := T16) (f' := (mkF m 12 #[.val (.ref r0), .val (.long j1), .second, .val (.int i2), .val (.long (own_v5_38_6 j1 i2 wd lb)), .second, .val (.int (4 : Int32))] [(.int (4 : Int32)), (.int (4 : Int32))])) st16 ?_
      refine ownE.go (T' := T16) (f' := (mkF m 49 #[.val (.ref r0), .val (.long j1), .second, .val (.int i2), .val (.long (own_v5_38_6 j1 i2 wd lb)), .second, .val (.int (4 : Int32))] [])) (fun t kt => XS.icmpYes (g := (mkF m 12 #[.val (.ref r0), .val (.long j1), .second, .val (.int i2), .val (.long (own_v5_38_6 j1 i2 wd lb)), .second, .val (.int (4 : Int32))] [(.int (4 : Int32)), (.int (4 : Int32))])) X16.here hx rfl (pc0 := 12) (pc' := 49) rfl (hb hby own_d5_12) rfl (Jvm.Free.XT.ii_ge_t (by decide)) (by decide) (by decide) kt) ?_
      refine ownE.go (T' := T16) (f' := (mkF m 52 #[.val (.ref r0), .val (.long j1), .second, .val (.int i2), .val (.long (own_v5_38_6 j1 i2 wd lb)), .second, .val (.int (4 : Int32))] [(.ref r0), (.long (own_v5_38_6 j1 i2 wd lb))])) (fun t kt => ?_) ?_
      · show Steps p.tables e below (T16.setTop (mkF m 49 #[.val (.ref r0), .val (.long j1), .second, .val (.int i2), .val (.long (own_v5_38_6 j1 i2 wd lb)), .second, .val (.int (4 : Int32))] [])) _
        refine XS.lload X16.here hx rfl (hb hby own_d5_49) rfl ?_
        show Steps p.tables e below (T16.setTop (mkF m 51 #[.val (.ref r0), .val (.long j1), .second, .val (.int i2), .val (.long (own_v5_38_6 j1 i2 wd lb)), .second, .val (.int (4 : Int32))] [(.long (own_v5_38_6 j1 i2 wd lb))])) _
        refine XS.aloadN X16.here hx rfl (hb hby own_d5_51) rfl rfl ?_
        exact kt
      obtain ⟨T17, X17, e17, st17⟩ := getF X16 hx hZ hown (host := "") (Or.inl (hw _ (List.mem_of_getElem? (i := 25) rfl))) Via.refl e16 P1 (g := (mkF m 52 #[.val (.ref r0), .val (.long j1), .second, .val (.int i2), .val (.long (own_v5_38_6 j1 i2 wd lb)), .second, .val (.int (4 : Int32))] [(.ref r0), (.long (own_v5_38_6 j1 i2 wd lb))])) rfl rfl (hb hby own_d5_52)
      refine ownE.go (T' := T17) (f' := (mkF m 55 #[.val (.ref r0), .val (.long j1), .second, .val (.int i2), .val (.long (own_v5_38_6 j1 i2 wd lb)), .second, .val (.int (4 : Int32))] [(.long lb), (.long (own_v5_38_6 j1 i2 wd lb))])) st17 ?_
      refine ownE.go (T' := T17) (f' := (mkF m 56 #[.val (.ref r0), .val (.long j1), .second, .val (.int i2), .val (.long (own_v5_38_6 j1 i2 wd lb)), .second, .val (.int (4 : Int32))] [(.long ((own_v5_38_6 j1 i2 wd lb) &&& lb))])) (fun t kt => ?_) ?_
      · show Steps p.tables e below (T17.setTop (mkF m 55 #[.val (.ref r0), .val (.long j1), .second, .val (.int i2), .val (.long (own_v5_38_6 j1 i2 wd lb)), .second, .val (.int (4 : Int32))] [(.long lb), (.long (own_v5_38_6 j1 i2 wd lb))])) _
        refine XS.land X17.here hx rfl (hb hby own_d5_55) rfl ?_
        exact kt
      refine ownE.retL X17 hx hlk hret (hb hby own_d5_56) ?_ (by decide) (by decide)
      show own_Q5 Z r0 j1 i2 wd lb h0 n0 _ T17.heap _
      rw [e17]
      exact ⟨(by rw [own_fold, if_neg hk1_0, if_neg hk1_1, if_pos hk1, if_neg hc11] <;> first | rfl | decide), N0, rfl⟩
  · -- wd = 8
    have P0_k1 : Fld Z h0 r0 "com/example/upper_falls/upperfalls/CellWords" "width" "I" (.int (8 : Int32)) := by
      have q := P0
      rw [hk1] at q
      exact q
    have hk1_0 : ¬ wd = (1 : Int32) := by rw [hk1]; decide
    have hk1_1 : ¬ wd = (2 : Int32) := by rw [hk1]; decide
    have hk1_2 : ¬ wd = (4 : Int32) := by rw [hk1]; decide
    refine ownE.go (T' := s₁) (f' := (mkF m 9 #[.val (.ref r0), .val (.long j1), .second, .val (.int i2), .val (.long j1), .second, .val (.int (1 : Int32))] [(.ref r0), (.int (1 : Int32))])) (fun t kt => ?_) ?_
    · show Steps p.tables e below (s₁.setTop (mkF m 0 #[.val (.ref r0), .val (.long j1), .second, .val (.int i2), .unset, .unset, .unset] [])) _
      refine XS.lloadN X0.here hx rfl (hb hby own_d5_0) rfl ?_
      show Steps p.tables e below (s₁.setTop (mkF m 1 #[.val (.ref r0), .val (.long j1), .second, .val (.int i2), .unset, .unset, .unset] [(.long j1)])) _
      refine XS.lstore X0.here hx rfl (hb hby own_d5_1) rfl (l' := #[.val (.ref r0), .val (.long j1), .second, .val (.int i2), .val (.long j1), .second, .unset]) rfl ?_
      show Steps p.tables e below (s₁.setTop (mkF m 3 #[.val (.ref r0), .val (.long j1), .second, .val (.int i2), .val (.long j1), .second, .unset] [])) _
      refine XS.iconst X0.here hx rfl (hb hby own_d5_3) ?_
      show Steps p.tables e below (s₁.setTop (mkF m 4 #[.val (.ref r0), .val (.long j1), .second, .val (.int i2), .val (.long j1), .second, .unset] [(.int (1 : Int32))])) _
      refine XS.istore X0.here hx rfl (hb hby own_d5_4) rfl (l' := #[.val (.ref r0), .val (.long j1), .second, .val (.int i2), .val (.long j1), .second, .val (.int (1 : Int32))]) rfl ?_
      show Steps p.tables e below (s₁.setTop (mkF m 6 #[.val (.ref r0), .val (.long j1), .second, .val (.int i2), .val (.long j1), .second, .val (.int (1 : Int32))] [])) _
      refine XS.iload X0.here hx rfl (hb hby own_d5_6) rfl ?_
      show Steps p.tables e below (s₁.setTop (mkF m 8 #[.val (.ref r0), .val (.long j1), .second, .val (.int i2), .val (.long j1), .second, .val (.int (1 : Int32))] [(.int (1 : Int32))])) _
      refine XS.aloadN X0.here hx rfl (hb hby own_d5_8) rfl rfl ?_
      exact kt
    obtain ⟨T18, X18, e18, st18⟩ := getF X0 hx hZ hown (host := "") (Or.inl (hw _ (List.mem_of_getElem? (i := 15) rfl))) Via.refl e0 P0_k1 (g := (mkF m 9 #[.val (.ref r0), .val (.long j1), .second, .val (.int i2), .val (.long j1), .second, .val (.int (1 : Int32))] [(.ref r0), (.int (1 : Int32))])) rfl rfl (hb hby own_d5_9)
    refine ownE.go (T' := T18) (f' := (mkF m 12 #[.val (.ref r0), .val (.long j1), .second, .val (.int i2), .val (.long j1), .second, .val (.int (1 : Int32))] [(.int (8 : Int32)), (.int (1 : Int32))])) st18 ?_
    refine ownE.go (T' := T18) (f' := (mkF m 15 #[.val (.ref r0), .val (.long j1), .second, .val (.int i2), .val (.long j1), .second, .val (.int (1 : Int32))] [])) (fun t kt => XS.icmpNo (g := (mkF m 12 #[.val (.ref r0), .val (.long j1), .second, .val (.int i2), .val (.long j1), .second, .val (.int (1 : Int32))] [(.int (8 : Int32)), (.int (1 : Int32))])) X18.here hx rfl (hb hby own_d5_12) rfl (Jvm.Free.XT.ii_ge_f (by decide)) kt) ?_
    refine ownE.go (T' := T18) (f' := (mkF m 16 #[.val (.ref r0), .val (.long j1), .second, .val (.int i2), .val (.long j1), .second, .val (.int (1 : Int32))] [(.int i2)])) (fun t kt => ?_) ?_
    · show Steps p.tables e below (T18.setTop (mkF m 15 #[.val (.ref r0), .val (.long j1), .second, .val (.int i2), .val (.long j1), .second, .val (.int (1 : Int32))] [])) _
      refine XS.iloadN X18.here hx rfl (hb hby own_d5_15) rfl ?_
      exact kt
    by_cases hc19 : i2 = (0 : Int32)
    · -- pc 16
      refine ownE.go (T' := T18) (f' := (mkF m 30 #[.val (.ref r0), .val (.long j1), .second, .val (.int i2), .val (.long j1), .second, .val (.int (1 : Int32))] [])) (fun t kt => XS.ifYes (g := (mkF m 16 #[.val (.ref r0), .val (.long j1), .second, .val (.int i2), .val (.long j1), .second, .val (.int (1 : Int32))] [(.int i2)])) X18.here hx rfl (pc0 := 16) (pc' := 30) rfl (hb hby own_d5_16) rfl (Jvm.Free.XT.i0_eq_t hc19) (by decide) (by decide) kt) ?_
      refine ownE.go (T' := T18) (f' := (mkF m 9 #[.val (.ref r0), .val (.long j1), .second, .val (.int i2), .val (.long (own_v5_38_7 j1 i2 wd lb)), .second, .val (.int (2 : Int32))] [(.ref r0), (.int (2 : Int32))])) (fun t kt => ?_) ?_
      · show Steps p.tables e below (T18.setTop (mkF m 30 #[.val (.ref r0), .val (.long j1), .second, .val (.int i2), .val (.long j1), .second, .val (.int (1 : Int32))] [])) _
        refine XS.lload X18.here hx rfl (hb hby own_d5_30) rfl ?_
        show Steps p.tables e below (T18.setTop (mkF m 32 #[.val (.ref r0), .val (.long j1), .second, .val (.int i2), .val (.long j1), .second, .val (.int (1 : Int32))] [(.long j1)])) _
        refine XS.lload X18.here hx rfl (hb hby own_d5_32) rfl ?_
        show Steps p.tables e below (T18.setTop (mkF m 34 #[.val (.ref r0), .val (.long j1), .second, .val (.int i2), .val (.long j1), .second, .val (.int (1 : Int32))] [(.long j1), (.long j1)])) _
        refine XS.iload X18.here hx rfl (hb hby own_d5_34) rfl ?_
        show Steps p.tables e below (T18.setTop (mkF m 36 #[.val (.ref r0), .val (.long j1), .second, .val (.int i2), .val (.long j1), .second, .val (.int (1 : Int32))] [(.int (1 : Int32)), (.long j1), (.long j1)])) _
        refine XS.lushr X18.here hx rfl (hb hby own_d5_36) rfl ?_
        show Steps p.tables e below (T18.setTop (mkF m 37 #[.val (.ref r0), .val (.long j1), .second, .val (.int i2), .val (.long j1), .second, .val (.int (1 : Int32))] [(.long ((j1.toUInt64 >>> ((1 : Int32) &&& 0x3f).toInt64.toUInt64).toInt64)), (.long j1)])) _
        refine XS.lor X18.here hx rfl (hb hby own_d5_37) rfl ?_
        show Steps p.tables e below (T18.setTop (mkF m 38 #[.val (.ref r0), .val (.long j1), .second, .val (.int i2), .val (.long j1), .second, .val (.int (1 : Int32))] [(.long (j1 ||| ((j1.toUInt64 >>> ((1 : Int32) &&& 0x3f).toInt64.toUInt64).toInt64)))])) _
        refine XS.lstore X18.here hx rfl (hb hby own_d5_38) rfl (l' := #[.val (.ref r0), .val (.long j1), .second, .val (.int i2), .val (.long (own_v5_38_7 j1 i2 wd lb)), .second, .val (.int (1 : Int32))]) rfl ?_
        show Steps p.tables e below (T18.setTop (mkF m 40 #[.val (.ref r0), .val (.long j1), .second, .val (.int i2), .val (.long (own_v5_38_7 j1 i2 wd lb)), .second, .val (.int (1 : Int32))] [])) _
        refine XS.iload X18.here hx rfl (hb hby own_d5_40) rfl ?_
        show Steps p.tables e below (T18.setTop (mkF m 42 #[.val (.ref r0), .val (.long j1), .second, .val (.int i2), .val (.long (own_v5_38_7 j1 i2 wd lb)), .second, .val (.int (1 : Int32))] [(.int (1 : Int32))])) _
        refine XS.iconst X18.here hx rfl (hb hby own_d5_42) ?_
        show Steps p.tables e below (T18.setTop (mkF m 43 #[.val (.ref r0), .val (.long j1), .second, .val (.int i2), .val (.long (own_v5_38_7 j1 i2 wd lb)), .second, .val (.int (1 : Int32))] [(.int (1 : Int32)), (.int (1 : Int32))])) _
        refine XS.ishl X18.here hx rfl (hb hby own_d5_43) rfl ?_
        show Steps p.tables e below (T18.setTop (mkF m 44 #[.val (.ref r0), .val (.long j1), .second, .val (.int i2), .val (.long (own_v5_38_7 j1 i2 wd lb)), .second, .val (.int (1 : Int32))] [(.int (2 : Int32))])) _
        refine XS.istore X18.here hx rfl (hb hby own_d5_44) rfl (l' := #[.val (.ref r0), .val (.long j1), .second, .val (.int i2), .val (.long (own_v5_38_7 j1 i2 wd lb)), .second, .val (.int (2 : Int32))]) rfl ?_
        show Steps p.tables e below (T18.setTop (mkF m 46 #[.val (.ref r0), .val (.long j1), .second, .val (.int i2), .val (.long (own_v5_38_7 j1 i2 wd lb)), .second, .val (.int (2 : Int32))] [])) _
        refine XS.goto X18.here hx rfl (pc0 := 46) (pc' := 6) rfl (hb hby own_d5_46) (by decide) (by decide) ?_
        show Steps p.tables e below (T18.setTop (mkF m 6 #[.val (.ref r0), .val (.long j1), .second, .val (.int i2), .val (.long (own_v5_38_7 j1 i2 wd lb)), .second, .val (.int (2 : Int32))] [])) _
        refine XS.iload X18.here hx rfl (hb hby own_d5_6) rfl ?_
        show Steps p.tables e below (T18.setTop (mkF m 8 #[.val (.ref r0), .val (.long j1), .second, .val (.int i2), .val (.long (own_v5_38_7 j1 i2 wd lb)), .second, .val (.int (2 : Int32))] [(.int (2 : Int32))])) _
        refine XS.aloadN X18.here hx rfl (hb hby own_d5_8) rfl rfl ?_
        exact kt
      obtain ⟨T20, X20, e20, st20⟩ := getF X18 hx hZ hown (host := "") (Or.inl (hw _ (List.mem_of_getElem? (i := 15) rfl))) Via.refl e18 P0_k1 (g := (mkF m 9 #[.val (.ref r0), .val (.long j1), .second, .val (.int i2), .val (.long (own_v5_38_7 j1 i2 wd lb)), .second, .val (.int (2 : Int32))] [(.ref r0), (.int (2 : Int32))])) rfl rfl (hb hby own_d5_9)
      refine ownE.go (T' := T20) (f' := (mkF m 12 #[.val (.ref r0), .val (.long j1), .second, .val (.int i2), .val (.long (own_v5_38_7 j1 i2 wd lb)), .second, .val (.int (2 : Int32))] [(.int (8 : Int32)), (.int (2 : Int32))])) st20 ?_
      refine ownE.go (T' := T20) (f' := (mkF m 15 #[.val (.ref r0), .val (.long j1), .second, .val (.int i2), .val (.long (own_v5_38_7 j1 i2 wd lb)), .second, .val (.int (2 : Int32))] [])) (fun t kt => XS.icmpNo (g := (mkF m 12 #[.val (.ref r0), .val (.long j1), .second, .val (.int i2), .val (.long (own_v5_38_7 j1 i2 wd lb)), .second, .val (.int (2 : Int32))] [(.int (8 : Int32)), (.int (2 : Int32))])) X20.here hx rfl (hb hby own_d5_12) rfl (Jvm.Free.XT.ii_ge_f (by decide)) kt) ?_
      refine ownE.go (T' := T20) (f' := (mkF m 16 #[.val (.ref r0), .val (.long j1), .second, .val (.int i2), .val (.long (own_v5_38_7 j1 i2 wd lb)), .second, .val (.int (2 : Int32))] [(.int i2)])) (fun t kt => ?_) ?_
      · show Steps p.tables e below (T20.setTop (mkF m 15 #[.val (.ref r0), .val (.long j1), .second, .val (.int i2), .val (.long (own_v5_38_7 j1 i2 wd lb)), .second, .val (.int (2 : Int32))] [])) _
        refine XS.iloadN X20.here hx rfl (hb hby own_d5_15) rfl ?_
        exact kt
      refine ownE.go (T' := T20) (f' := (mkF m 30 #[.val (.ref r0), .val (.long j1), .second, .val (.int i2), .val (.long (own_v5_38_7 j1 i2 wd lb)), .second, .val (.int (2 : Int32))] [])) (fun t kt => XS.ifYes (g := (mkF m 16 #[.val (.ref r0), .val (.long j1), .second, .val (.int i2), .val (.long (own_v5_38_7 j1 i2 wd lb)), .second, .val (.int (2 : Int32))] [(.int i2)])) X20.here hx rfl (pc0 := 16) (pc' := 30) rfl (hb hby own_d5_16) rfl (Jvm.Free.XT.i0_eq_t hc19) (by decide) (by decide) kt) ?_
      refine ownE.go (T' := T20) (f' := (mkF m 9 #[.val (.ref r0), .val (.long j1), .second, .val (.int i2), .val (.long (own_v5_38_8 j1 i2 wd lb)), .second, .val (.int (4 : Int32))] [(.ref r0), (.int (4 : Int32))])) (fun t kt => ?_) ?_
      · show Steps p.tables e below (T20.setTop (mkF m 30 #[.val (.ref r0), .val (.long j1), .second, .val (.int i2), .val (.long (own_v5_38_7 j1 i2 wd lb)), .second, .val (.int (2 : Int32))] [])) _
        refine XS.lload X20.here hx rfl (hb hby own_d5_30) rfl ?_
        show Steps p.tables e below (T20.setTop (mkF m 32 #[.val (.ref r0), .val (.long j1), .second, .val (.int i2), .val (.long (own_v5_38_7 j1 i2 wd lb)), .second, .val (.int (2 : Int32))] [(.long (own_v5_38_7 j1 i2 wd lb))])) _
        refine XS.lload X20.here hx rfl (hb hby own_d5_32) rfl ?_
        show Steps p.tables e below (T20.setTop (mkF m 34 #[.val (.ref r0), .val (.long j1), .second, .val (.int i2), .val (.long (own_v5_38_7 j1 i2 wd lb)), .second, .val (.int (2 : Int32))] [(.long (own_v5_38_7 j1 i2 wd lb)), (.long (own_v5_38_7 j1 i2 wd lb))])) _
        refine XS.iload X20.here hx rfl (hb hby own_d5_34) rfl ?_
        show Steps p.tables e below (T20.setTop (mkF m 36 #[.val (.ref r0), .val (.long j1), .second, .val (.int i2), .val (.long (own_v5_38_7 j1 i2 wd lb)), .second, .val (.int (2 : Int32))] [(.int (2 : Int32)), (.long (own_v5_38_7 j1 i2 wd lb)), (.long (own_v5_38_7 j1 i2 wd lb))])) _
        refine XS.lushr X20.here hx rfl (hb hby own_d5_36) rfl ?_
        show Steps p.tables e below (T20.setTop (mkF m 37 #[.val (.ref r0), .val (.long j1), .second, .val (.int i2), .val (.long (own_v5_38_7 j1 i2 wd lb)), .second, .val (.int (2 : Int32))] [(.long (((own_v5_38_7 j1 i2 wd lb).toUInt64 >>> ((2 : Int32) &&& 0x3f).toInt64.toUInt64).toInt64)), (.long (own_v5_38_7 j1 i2 wd lb))])) _
        refine XS.lor X20.here hx rfl (hb hby own_d5_37) rfl ?_
        show Steps p.tables e below (T20.setTop (mkF m 38 #[.val (.ref r0), .val (.long j1), .second, .val (.int i2), .val (.long (own_v5_38_7 j1 i2 wd lb)), .second, .val (.int (2 : Int32))] [(.long ((own_v5_38_7 j1 i2 wd lb) ||| (((own_v5_38_7 j1 i2 wd lb).toUInt64 >>> ((2 : Int32) &&& 0x3f).toInt64.toUInt64).toInt64)))])) _
        refine XS.lstore X20.here hx rfl (hb hby own_d5_38) rfl (l' := #[.val (.ref r0), .val (.long j1), .second, .val (.int i2), .val (.long (own_v5_38_8 j1 i2 wd lb)), .second, .val (.int (2 : Int32))]) rfl ?_
        show Steps p.tables e below (T20.setTop (mkF m 40 #[.val (.ref r0), .val (.long j1), .second, .val (.int i2), .val (.long (own_v5_38_8 j1 i2 wd lb)), .second, .val (.int (2 : Int32))] [])) _
        refine XS.iload X20.here hx rfl (hb hby own_d5_40) rfl ?_
        show Steps p.tables e below (T20.setTop (mkF m 42 #[.val (.ref r0), .val (.long j1), .second, .val (.int i2), .val (.long (own_v5_38_8 j1 i2 wd lb)), .second, .val (.int (2 : Int32))] [(.int (2 : Int32))])) _
        refine XS.iconst X20.here hx rfl (hb hby own_d5_42) ?_
        show Steps p.tables e below (T20.setTop (mkF m 43 #[.val (.ref r0), .val (.long j1), .second, .val (.int i2), .val (.long (own_v5_38_8 j1 i2 wd lb)), .second, .val (.int (2 : Int32))] [(.int (1 : Int32)), (.int (2 : Int32))])) _
        refine XS.ishl X20.here hx rfl (hb hby own_d5_43) rfl ?_
        show Steps p.tables e below (T20.setTop (mkF m 44 #[.val (.ref r0), .val (.long j1), .second, .val (.int i2), .val (.long (own_v5_38_8 j1 i2 wd lb)), .second, .val (.int (2 : Int32))] [(.int (4 : Int32))])) _
        refine XS.istore X20.here hx rfl (hb hby own_d5_44) rfl (l' := #[.val (.ref r0), .val (.long j1), .second, .val (.int i2), .val (.long (own_v5_38_8 j1 i2 wd lb)), .second, .val (.int (4 : Int32))]) rfl ?_
        show Steps p.tables e below (T20.setTop (mkF m 46 #[.val (.ref r0), .val (.long j1), .second, .val (.int i2), .val (.long (own_v5_38_8 j1 i2 wd lb)), .second, .val (.int (4 : Int32))] [])) _
        refine XS.goto X20.here hx rfl (pc0 := 46) (pc' := 6) rfl (hb hby own_d5_46) (by decide) (by decide) ?_
        show Steps p.tables e below (T20.setTop (mkF m 6 #[.val (.ref r0), .val (.long j1), .second, .val (.int i2), .val (.long (own_v5_38_8 j1 i2 wd lb)), .second, .val (.int (4 : Int32))] [])) _
        refine XS.iload X20.here hx rfl (hb hby own_d5_6) rfl ?_
        show Steps p.tables e below (T20.setTop (mkF m 8 #[.val (.ref r0), .val (.long j1), .second, .val (.int i2), .val (.long (own_v5_38_8 j1 i2 wd lb)), .second, .val (.int (4 : Int32))] [(.int (4 : Int32))])) _
        refine XS.aloadN X20.here hx rfl (hb hby own_d5_8) rfl rfl ?_
        exact kt
      obtain ⟨T21, X21, e21, st21⟩ := getF X20 hx hZ hown (host := "") (Or.inl (hw _ (List.mem_of_getElem? (i := 15) rfl))) Via.refl e20 P0_k1 (g := (mkF m 9 #[.val (.ref r0), .val (.long j1), .second, .val (.int i2), .val (.long (own_v5_38_8 j1 i2 wd lb)), .second, .val (.int (4 : Int32))] [(.ref r0), (.int (4 : Int32))])) rfl rfl (hb hby own_d5_9)
      refine ownE.go (T' := T21) (f' := (mkF m 12 #[.val (.ref r0), .val (.long j1), .second, .val (.int i2), .val (.long (own_v5_38_8 j1 i2 wd lb)), .second, .val (.int (4 : Int32))] [(.int (8 : Int32)), (.int (4 : Int32))])) st21 ?_
      refine ownE.go (T' := T21) (f' := (mkF m 15 #[.val (.ref r0), .val (.long j1), .second, .val (.int i2), .val (.long (own_v5_38_8 j1 i2 wd lb)), .second, .val (.int (4 : Int32))] [])) (fun t kt => XS.icmpNo (g := (mkF m 12 #[.val (.ref r0), .val (.long j1), .second, .val (.int i2), .val (.long (own_v5_38_8 j1 i2 wd lb)), .second, .val (.int (4 : Int32))] [(.int (8 : Int32)), (.int (4 : Int32))])) X21.here hx rfl (hb hby own_d5_12) rfl (Jvm.Free.XT.ii_ge_f (by decide)) kt) ?_
      refine ownE.go (T' := T21) (f' := (mkF m 16 #[.val (.ref r0), .val (.long j1), .second, .val (.int i2), .val (.long (own_v5_38_8 j1 i2 wd lb)), .second, .val (.int (4 : Int32))] [(.int i2)])) (fun t kt => ?_) ?_
      · show Steps p.tables e below (T21.setTop (mkF m 15 #[.val (.ref r0), .val (.long j1), .second, .val (.int i2), .val (.long (own_v5_38_8 j1 i2 wd lb)), .second, .val (.int (4 : Int32))] [])) _
        refine XS.iloadN X21.here hx rfl (hb hby own_d5_15) rfl ?_
        exact kt
      refine ownE.go (T' := T21) (f' := (mkF m 30 #[.val (.ref r0), .val (.long j1), .second, .val (.int i2), .val (.long (own_v5_38_8 j1 i2 wd lb)), .second, .val (.int (4 : Int32))] [])) (fun t kt => XS.ifYes (g := (mkF m 16 #[.val (.ref r0), .val (.long j1), .second, .val (.int i2), .val (.long (own_v5_38_8 j1 i2 wd lb)), .second, .val (.int (4 : Int32))] [(.int i2)])) X21.here hx rfl (pc0 := 16) (pc' := 30) rfl (hb hby own_d5_16) rfl (Jvm.Free.XT.i0_eq_t hc19) (by decide) (by decide) kt) ?_
      refine ownE.go (T' := T21) (f' := (mkF m 9 #[.val (.ref r0), .val (.long j1), .second, .val (.int i2), .val (.long (own_v5_38_9 j1 i2 wd lb)), .second, .val (.int (8 : Int32))] [(.ref r0), (.int (8 : Int32))])) (fun t kt => ?_) ?_
      · show Steps p.tables e below (T21.setTop (mkF m 30 #[.val (.ref r0), .val (.long j1), .second, .val (.int i2), .val (.long (own_v5_38_8 j1 i2 wd lb)), .second, .val (.int (4 : Int32))] [])) _
        refine XS.lload X21.here hx rfl (hb hby own_d5_30) rfl ?_
        show Steps p.tables e below (T21.setTop (mkF m 32 #[.val (.ref r0), .val (.long j1), .second, .val (.int i2), .val (.long (own_v5_38_8 j1 i2 wd lb)), .second, .val (.int (4 : Int32))] [(.long (own_v5_38_8 j1 i2 wd lb))])) _
        refine XS.lload X21.here hx rfl (hb hby own_d5_32) rfl ?_
        show Steps p.tables e below (T21.setTop (mkF m 34 #[.val (.ref r0), .val (.long j1), .second, .val (.int i2), .val (.long (own_v5_38_8 j1 i2 wd lb)), .second, .val (.int (4 : Int32))] [(.long (own_v5_38_8 j1 i2 wd lb)), (.long (own_v5_38_8 j1 i2 wd lb))])) _
        refine XS.iload X21.here hx rfl (hb hby own_d5_34) rfl ?_
        show Steps p.tables e below (T21.setTop (mkF m 36 #[.val (.ref r0), .val (.long j1), .second, .val (.int i2), .val (.long (own_v5_38_8 j1 i2 wd lb)), .second, .val (.int (4 : Int32))] [(.int (4 : Int32)), (.long (own_v5_38_8 j1 i2 wd lb)), (.long (own_v5_38_8 j1 i2 wd lb))])) _
        refine XS.lushr X21.here hx rfl (hb hby own_d5_36) rfl ?_
        show Steps p.tables e below (T21.setTop (mkF m 37 #[.val (.ref r0), .val (.long j1), .second, .val (.int i2), .val (.long (own_v5_38_8 j1 i2 wd lb)), .second, .val (.int (4 : Int32))] [(.long (((own_v5_38_8 j1 i2 wd lb).toUInt64 >>> ((4 : Int32) &&& 0x3f).toInt64.toUInt64).toInt64)), (.long (own_v5_38_8 j1 i2 wd lb))])) _
        refine XS.lor X21.here hx rfl (hb hby own_d5_37) rfl ?_
        show Steps p.tables e below (T21.setTop (mkF m 38 #[.val (.ref r0), .val (.long j1), .second, .val (.int i2), .val (.long (own_v5_38_8 j1 i2 wd lb)), .second, .val (.int (4 : Int32))] [(.long ((own_v5_38_8 j1 i2 wd lb) ||| (((own_v5_38_8 j1 i2 wd lb).toUInt64 >>> ((4 : Int32) &&& 0x3f).toInt64.toUInt64).toInt64)))])) _
        refine XS.lstore X21.here hx rfl (hb hby own_d5_38) rfl (l' := #[.val (.ref r0), .val (.long j1), .second, .val (.int i2), .val (.long (own_v5_38_9 j1 i2 wd lb)), .second, .val (.int (4 : Int32))]) rfl ?_
        show Steps p.tables e below (T21.setTop (mkF m 40 #[.val (.ref r0), .val (.long j1), .second, .val (.int i2), .val (.long (own_v5_38_9 j1 i2 wd lb)), .second, .val (.int (4 : Int32))] [])) _
        refine XS.iload X21.here hx rfl (hb hby own_d5_40) rfl ?_
        show Steps p.tables e below (T21.setTop (mkF m 42 #[.val (.ref r0), .val (.long j1), .second, .val (.int i2), .val (.long (own_v5_38_9 j1 i2 wd lb)), .second, .val (.int (4 : Int32))] [(.int (4 : Int32))])) _
        refine XS.iconst X21.here hx rfl (hb hby own_d5_42) ?_
        show Steps p.tables e below (T21.setTop (mkF m 43 #[.val (.ref r0), .val (.long j1), .second, .val (.int i2), .val (.long (own_v5_38_9 j1 i2 wd lb)), .second, .val (.int (4 : Int32))] [(.int (1 : Int32)), (.int (4 : Int32))])) _
        refine XS.ishl X21.here hx rfl (hb hby own_d5_43) rfl ?_
        show Steps p.tables e below (T21.setTop (mkF m 44 #[.val (.ref r0), .val (.long j1), .second, .val (.int i2), .val (.long (own_v5_38_9 j1 i2 wd lb)), .second, .val (.int (4 : Int32))] [(.int (8 : Int32))])) _
        refine XS.istore X21.here hx rfl (hb hby own_d5_44) rfl (l' := #[.val (.ref r0), .val (.long j1), .second, .val (.int i2), .val (.long (own_v5_38_9 j1 i2 wd lb)), .second, .val (.int (8 : Int32))]) rfl ?_
        show Steps p.tables e below (T21.setTop (mkF m 46 #[.val (.ref r0), .val (.long j1), .second, .val (.int i2), .val (.long (own_v5_38_9 j1 i2 wd lb)), .second, .val (.int (8 : Int32))] [])) _
        refine XS.goto X21.here hx rfl (pc0 := 46) (pc' := 6) rfl (hb hby own_d5_46) (by decide) (by decide) ?_
        show Steps p.tables e below (T21.setTop (mkF m 6 #[.val (.ref r0), .val (.long j1), .second, .val (.int i2), .val (.long (own_v5_38_9 j1 i2 wd lb)), .second, .val (.int (8 : Int32))] [])) _
        refine XS.iload X21.here hx rfl (hb hby own_d5_6) rfl ?_
        show Steps p.tables e below (T21.setTop (mkF m 8 #[.val (.ref r0), .val (.long j1), .second, .val (.int i2), .val (.long (own_v5_38_9 j1 i2 wd lb)), .second, .val (.int (8 : Int32))] [(.int (8 : Int32))])) _
        refine XS.aloadN X21.here hx rfl (hb hby own_d5_8) rfl rfl ?_
        exact kt
      obtain ⟨T22, X22, e22, st22⟩ := getF X21 hx hZ hown (host := "") (Or.inl (hw _ (List.mem_of_getElem? (i := 15) rfl))) Via.refl e21 P0_k1 (g := (mkF m 9 #[.val (.ref r0), .val (.long j1), .second, .val (.int i2), .val (.long (own_v5_38_9 j1 i2 wd lb)), .second, .val (.int (8 : Int32))] [(.ref r0), (.int (8 : Int32))])) rfl rfl (hb hby own_d5_9)
      refine ownE.go (T' := T22) (f' := (mkF m 12 #[.val (.ref r0), .val (.long j1), .second, .val (.int i2), .val (.long (own_v5_38_9 j1 i2 wd lb)), .second, .val (.int (8 : Int32))] [(.int (8 : Int32)), (.int (8 : Int32))])) st22 ?_
      refine ownE.go (T' := T22) (f' := (mkF m 49 #[.val (.ref r0), .val (.long j1), .second, .val (.int i2), .val (.long (own_v5_38_9 j1 i2 wd lb)), .second, .val (.int (8 : Int32))] [])) (fun t kt => XS.icmpYes (g := (mkF m 12 #[.val (.ref r0), .val (.long j1), .second, .val (.int i2), .val (.long (own_v5_38_9 j1 i2 wd lb)), .second, .val (.int (8 : Int32))] [(.int (8 : Int32)), (.int (8 : Int32))])) X22.here hx rfl (pc0 := 12) (pc' := 49) rfl (hb hby own_d5_12) rfl (Jvm.Free.XT.ii_ge_t (by decide)) (by decide) (by decide) kt) ?_
      refine ownE.go (T' := T22) (f' := (mkF m 52 #[.val (.ref r0), .val (.long j1), .second, .val (.int i2), .val (.long (own_v5_38_9 j1 i2 wd lb)), .second, .val (.int (8 : Int32))] [(.ref r0), (.long (own_v5_38_9 j1 i2 wd lb))])) (fun t kt => ?_) ?_
      · show Steps p.tables e below (T22.setTop (mkF m 49 #[.val (.ref r0), .val (.long j1), .second, .val (.int i2), .val (.long (own_v5_38_9 j1 i2 wd lb)), .second, .val (.int (8 : Int32))] [])) _
        refine XS.lload X22.here hx rfl (hb hby own_d5_49) rfl ?_
        show Steps p.tables e below (T22.setTop (mkF m 51 #[.val (.ref r0), .val (.long j1), .second, .val (.int i2), .val (.long (own_v5_38_9 j1 i2 wd lb)), .second, .val (.int (8 : Int32))] [(.long (own_v5_38_9 j1 i2 wd lb))])) _
        refine XS.aloadN X22.here hx rfl (hb hby own_d5_51) rfl rfl ?_
        exact kt
      obtain ⟨T23, X23, e23, st23⟩ := getF X22 hx hZ hown (host := "") (Or.inl (hw _ (List.mem_of_getElem? (i := 25) rfl))) Via.refl e22 P1 (g := (mkF m 52 #[.val (.ref r0), .val (.long j1), .second, .val (.int i2), .val (.long (own_v5_38_9 j1 i2 wd lb)), .second, .val (.int (8 : Int32))] [(.ref r0), (.long (own_v5_38_9 j1 i2 wd lb))])) rfl rfl (hb hby own_d5_52)
      refine ownE.go (T' := T23) (f' := (mkF m 55 #[.val (.ref r0), .val (.long j1), .second, .val (.int i2), .val (.long (own_v5_38_9 j1 i2 wd lb)), .second, .val (.int (8 : Int32))] [(.long lb), (.long (own_v5_38_9 j1 i2 wd lb))])) st23 ?_
      refine ownE.go (T' := T23) (f' := (mkF m 56 #[.val (.ref r0), .val (.long j1), .second, .val (.int i2), .val (.long (own_v5_38_9 j1 i2 wd lb)), .second, .val (.int (8 : Int32))] [(.long ((own_v5_38_9 j1 i2 wd lb) &&& lb))])) (fun t kt => ?_) ?_
      · show Steps p.tables e below (T23.setTop (mkF m 55 #[.val (.ref r0), .val (.long j1), .second, .val (.int i2), .val (.long (own_v5_38_9 j1 i2 wd lb)), .second, .val (.int (8 : Int32))] [(.long lb), (.long (own_v5_38_9 j1 i2 wd lb))])) _
        refine XS.land X23.here hx rfl (hb hby own_d5_55) rfl ?_
        exact kt
      refine ownE.retL X23 hx hlk hret (hb hby own_d5_56) ?_ (by decide) (by decide)
      show own_Q5 Z r0 j1 i2 wd lb h0 n0 _ T23.heap _
      rw [e23]
      exact ⟨(by rw [own_fold, if_neg hk1_0, if_neg hk1_1, if_neg hk1_2, if_pos hk1, if_pos hc19] <;> first | rfl | decide), N0, rfl⟩
    · -- pc 16
      refine ownE.go (T' := T18) (f' := (mkF m 19 #[.val (.ref r0), .val (.long j1), .second, .val (.int i2), .val (.long j1), .second, .val (.int (1 : Int32))] [])) (fun t kt => XS.ifNo (g := (mkF m 16 #[.val (.ref r0), .val (.long j1), .second, .val (.int i2), .val (.long j1), .second, .val (.int (1 : Int32))] [(.int i2)])) X18.here hx rfl (hb hby own_d5_16) rfl (Jvm.Free.XT.i0_eq_f hc19) kt) ?_
      refine ownE.go (T' := T18) (f' := (mkF m 9 #[.val (.ref r0), .val (.long j1), .second, .val (.int i2), .val (.long (own_v5_38_10 j1 i2 wd lb)), .second, .val (.int (2 : Int32))] [(.ref r0), (.int (2 : Int32))])) (fun t kt => ?_) ?_
      · show Steps p.tables e below (T18.setTop (mkF m 19 #[.val (.ref r0), .val (.long j1), .second, .val (.int i2), .val (.long j1), .second, .val (.int (1 : Int32))] [])) _
        refine XS.lload X18.here hx rfl (hb hby own_d5_19) rfl ?_
        show Steps p.tables e below (T18.setTop (mkF m 21 #[.val (.ref r0), .val (.long j1), .second, .val (.int i2), .val (.long j1), .second, .val (.int (1 : Int32))] [(.long j1)])) _
        refine XS.lload X18.here hx rfl (hb hby own_d5_21) rfl ?_
        show Steps p.tables e below (T18.setTop (mkF m 23 #[.val (.ref r0), .val (.long j1), .second, .val (.int i2), .val (.long j1), .second, .val (.int (1 : Int32))] [(.long j1), (.long j1)])) _
        refine XS.iload X18.here hx rfl (hb hby own_d5_23) rfl ?_
        show Steps p.tables e below (T18.setTop (mkF m 25 #[.val (.ref r0), .val (.long j1), .second, .val (.int i2), .val (.long j1), .second, .val (.int (1 : Int32))] [(.int (1 : Int32)), (.long j1), (.long j1)])) _
        refine XS.lushr X18.here hx rfl (hb hby own_d5_25) rfl ?_
        show Steps p.tables e below (T18.setTop (mkF m 26 #[.val (.ref r0), .val (.long j1), .second, .val (.int i2), .val (.long j1), .second, .val (.int (1 : Int32))] [(.long ((j1.toUInt64 >>> ((1 : Int32) &&& 0x3f).toInt64.toUInt64).toInt64)), (.long j1)])) _
        refine XS.land X18.here hx rfl (hb hby own_d5_26) rfl ?_
        show Steps p.tables e below (T18.setTop (mkF m 27 #[.val (.ref r0), .val (.long j1), .second, .val (.int i2), .val (.long j1), .second, .val (.int (1 : Int32))] [(.long (j1 &&& ((j1.toUInt64 >>> ((1 : Int32) &&& 0x3f).toInt64.toUInt64).toInt64)))])) _
        refine XS.goto X18.here hx rfl (pc0 := 27) (pc' := 38) rfl (hb hby own_d5_27) (by decide) (by decide) ?_
        show Steps p.tables e below (T18.setTop (mkF m 38 #[.val (.ref r0), .val (.long j1), .second, .val (.int i2), .val (.long j1), .second, .val (.int (1 : Int32))] [(.long (j1 &&& ((j1.toUInt64 >>> ((1 : Int32) &&& 0x3f).toInt64.toUInt64).toInt64)))])) _
        refine XS.lstore X18.here hx rfl (hb hby own_d5_38) rfl (l' := #[.val (.ref r0), .val (.long j1), .second, .val (.int i2), .val (.long (own_v5_38_10 j1 i2 wd lb)), .second, .val (.int (1 : Int32))]) rfl ?_
        show Steps p.tables e below (T18.setTop (mkF m 40 #[.val (.ref r0), .val (.long j1), .second, .val (.int i2), .val (.long (own_v5_38_10 j1 i2 wd lb)), .second, .val (.int (1 : Int32))] [])) _
        refine XS.iload X18.here hx rfl (hb hby own_d5_40) rfl ?_
        show Steps p.tables e below (T18.setTop (mkF m 42 #[.val (.ref r0), .val (.long j1), .second, .val (.int i2), .val (.long (own_v5_38_10 j1 i2 wd lb)), .second, .val (.int (1 : Int32))] [(.int (1 : Int32))])) _
        refine XS.iconst X18.here hx rfl (hb hby own_d5_42) ?_
        show Steps p.tables e below (T18.setTop (mkF m 43 #[.val (.ref r0), .val (.long j1), .second, .val (.int i2), .val (.long (own_v5_38_10 j1 i2 wd lb)), .second, .val (.int (1 : Int32))] [(.int (1 : Int32)), (.int (1 : Int32))])) _
        refine XS.ishl X18.here hx rfl (hb hby own_d5_43) rfl ?_
        show Steps p.tables e below (T18.setTop (mkF m 44 #[.val (.ref r0), .val (.long j1), .second, .val (.int i2), .val (.long (own_v5_38_10 j1 i2 wd lb)), .second, .val (.int (1 : Int32))] [(.int (2 : Int32))])) _
        refine XS.istore X18.here hx rfl (hb hby own_d5_44) rfl (l' := #[.val (.ref r0), .val (.long j1), .second, .val (.int i2), .val (.long (own_v5_38_10 j1 i2 wd lb)), .second, .val (.int (2 : Int32))]) rfl ?_
        show Steps p.tables e below (T18.setTop (mkF m 46 #[.val (.ref r0), .val (.long j1), .second, .val (.int i2), .val (.long (own_v5_38_10 j1 i2 wd lb)), .second, .val (.int (2 : Int32))] [])) _
        refine XS.goto X18.here hx rfl (pc0 := 46) (pc' := 6) rfl (hb hby own_d5_46) (by decide) (by decide) ?_
        show Steps p.tables e below (T18.setTop (mkF m 6 #[.val (.ref r0), .val (.long j1), .second, .val (.int i2), .val (.long (own_v5_38_10 j1 i2 wd lb)), .second, .val (.int (2 : Int32))] [])) _
        refine XS.iload X18.here hx rfl (hb hby own_d5_6) rfl ?_
        show Steps p.tables e below (T18.setTop (mkF m 8 #[.val (.ref r0), .val (.long j1), .second, .val (.int i2), .val (.long (own_v5_38_10 j1 i2 wd lb)), .second, .val (.int (2 : Int32))] [(.int (2 : Int32))])) _
        refine XS.aloadN X18.here hx rfl (hb hby own_d5_8) rfl rfl ?_
        exact kt
      obtain ⟨T24, X24, e24, st24⟩ := getF X18 hx hZ hown (host := "") (Or.inl (hw _ (List.mem_of_getElem? (i := 15) rfl))) Via.refl e18 P0_k1 (g := (mkF m 9 #[.val (.ref r0), .val (.long j1), .second, .val (.int i2), .val (.long (own_v5_38_10 j1 i2 wd lb)), .second, .val (.int (2 : Int32))] [(.ref r0), (.int (2 : Int32))])) rfl rfl (hb hby own_d5_9)
      refine ownE.go (T' := T24) (f' := (mkF m 12 #[.val (.ref r0), .val (.long j1), .second, .val (.int i2), .val (.long (own_v5_38_10 j1 i2 wd lb)), .second, .val (.int (2 : Int32))] [(.int (8 : Int32)), (.int (2 : Int32))])) st24 ?_
      refine ownE.go (T' := T24) (f' := (mkF m 15 #[.val (.ref r0), .val (.long j1), .second, .val (.int i2), .val (.long (own_v5_38_10 j1 i2 wd lb)), .second, .val (.int (2 : Int32))] [])) (fun t kt => XS.icmpNo (g := (mkF m 12 #[.val (.ref r0), .val (.long j1), .second, .val (.int i2), .val (.long (own_v5_38_10 j1 i2 wd lb)), .second, .val (.int (2 : Int32))] [(.int (8 : Int32)), (.int (2 : Int32))])) X24.here hx rfl (hb hby own_d5_12) rfl (Jvm.Free.XT.ii_ge_f (by decide)) kt) ?_
      refine ownE.go (T' := T24) (f' := (mkF m 16 #[.val (.ref r0), .val (.long j1), .second, .val (.int i2), .val (.long (own_v5_38_10 j1 i2 wd lb)), .second, .val (.int (2 : Int32))] [(.int i2)])) (fun t kt => ?_) ?_
      · show Steps p.tables e below (T24.setTop (mkF m 15 #[.val (.ref r0), .val (.long j1), .second, .val (.int i2), .val (.long (own_v5_38_10 j1 i2 wd lb)), .second, .val (.int (2 : Int32))] [])) _
        refine XS.iloadN X24.here hx rfl (hb hby own_d5_15) rfl ?_
        exact kt
      refine ownE.go (T' := T24) (f' := (mkF m 19 #[.val (.ref r0), .val (.long j1), .second, .val (.int i2), .val (.long (own_v5_38_10 j1 i2 wd lb)), .second, .val (.int (2 : Int32))] [])) (fun t kt => XS.ifNo (g := (mkF m 16 #[.val (.ref r0), .val (.long j1), .second, .val (.int i2), .val (.long (own_v5_38_10 j1 i2 wd lb)), .second, .val (.int (2 : Int32))] [(.int i2)])) X24.here hx rfl (hb hby own_d5_16) rfl (Jvm.Free.XT.i0_eq_f hc19) kt) ?_
      refine ownE.go (T' := T24) (f' := (mkF m 9 #[.val (.ref r0), .val (.long j1), .second, .val (.int i2), .val (.long (own_v5_38_11 j1 i2 wd lb)), .second, .val (.int (4 : Int32))] [(.ref r0), (.int (4 : Int32))])) (fun t kt => ?_) ?_
      · show Steps p.tables e below (T24.setTop (mkF m 19 #[.val (.ref r0), .val (.long j1), .second, .val (.int i2), .val (.long (own_v5_38_10 j1 i2 wd lb)), .second, .val (.int (2 : Int32))] [])) _
        refine XS.lload X24.here hx rfl (hb hby own_d5_19) rfl ?_
        show Steps p.tables e below (T24.setTop (mkF m 21 #[.val (.ref r0), .val (.long j1), .second, .val (.int i2), .val (.long (own_v5_38_10 j1 i2 wd lb)), .second, .val (.int (2 : Int32))] [(.long (own_v5_38_10 j1 i2 wd lb))])) _
        refine XS.lload X24.here hx rfl (hb hby own_d5_21) rfl ?_
        show Steps p.tables e below (T24.setTop (mkF m 23 #[.val (.ref r0), .val (.long j1), .second, .val (.int i2), .val (.long (own_v5_38_10 j1 i2 wd lb)), .second, .val (.int (2 : Int32))] [(.long (own_v5_38_10 j1 i2 wd lb)), (.long (own_v5_38_10 j1 i2 wd lb))])) _
        refine XS.iload X24.here hx rfl (hb hby own_d5_23) rfl ?_
        show Steps p.tables e below (T24.setTop (mkF m 25 #[.val (.ref r0), .val (.long j1), .second, .val (.int i2), .val (.long (own_v5_38_10 j1 i2 wd lb)), .second, .val (.int (2 : Int32))] [(.int (2 : Int32)), (.long (own_v5_38_10 j1 i2 wd lb)), (.long (own_v5_38_10 j1 i2 wd lb))])) _
        refine XS.lushr X24.here hx rfl (hb hby own_d5_25) rfl ?_
        show Steps p.tables e below (T24.setTop (mkF m 26 #[.val (.ref r0), .val (.long j1), .second, .val (.int i2), .val (.long (own_v5_38_10 j1 i2 wd lb)), .second, .val (.int (2 : Int32))] [(.long (((own_v5_38_10 j1 i2 wd lb).toUInt64 >>> ((2 : Int32) &&& 0x3f).toInt64.toUInt64).toInt64)), (.long (own_v5_38_10 j1 i2 wd lb))])) _
        refine XS.land X24.here hx rfl (hb hby own_d5_26) rfl ?_
        show Steps p.tables e below (T24.setTop (mkF m 27 #[.val (.ref r0), .val (.long j1), .second, .val (.int i2), .val (.long (own_v5_38_10 j1 i2 wd lb)), .second, .val (.int (2 : Int32))] [(.long ((own_v5_38_10 j1 i2 wd lb) &&& (((own_v5_38_10 j1 i2 wd lb).toUInt64 >>> ((2 : Int32) &&& 0x3f).toInt64.toUInt64).toInt64)))])) _
        refine XS.goto X24.here hx rfl (pc0 := 27) (pc' := 38) rfl (hb hby own_d5_27) (by decide) (by decide) ?_
        show Steps p.tables e below (T24.setTop (mkF m 38 #[.val (.ref r0), .val (.long j1), .second, .val (.int i2), .val (.long (own_v5_38_10 j1 i2 wd lb)), .second, .val (.int (2 : Int32))] [(.long ((own_v5_38_10 j1 i2 wd lb) &&& (((own_v5_38_10 j1 i2 wd lb).toUInt64 >>> ((2 : Int32) &&& 0x3f).toInt64.toUInt64).toInt64)))])) _
        refine XS.lstore X24.here hx rfl (hb hby own_d5_38) rfl (l' := #[.val (.ref r0), .val (.long j1), .second, .val (.int i2), .val (.long (own_v5_38_11 j1 i2 wd lb)), .second, .val (.int (2 : Int32))]) rfl ?_
        show Steps p.tables e below (T24.setTop (mkF m 40 #[.val (.ref r0), .val (.long j1), .second, .val (.int i2), .val (.long (own_v5_38_11 j1 i2 wd lb)), .second, .val (.int (2 : Int32))] [])) _
        refine XS.iload X24.here hx rfl (hb hby own_d5_40) rfl ?_
        show Steps p.tables e below (T24.setTop (mkF m 42 #[.val (.ref r0), .val (.long j1), .second, .val (.int i2), .val (.long (own_v5_38_11 j1 i2 wd lb)), .second, .val (.int (2 : Int32))] [(.int (2 : Int32))])) _
        refine XS.iconst X24.here hx rfl (hb hby own_d5_42) ?_
        show Steps p.tables e below (T24.setTop (mkF m 43 #[.val (.ref r0), .val (.long j1), .second, .val (.int i2), .val (.long (own_v5_38_11 j1 i2 wd lb)), .second, .val (.int (2 : Int32))] [(.int (1 : Int32)), (.int (2 : Int32))])) _
        refine XS.ishl X24.here hx rfl (hb hby own_d5_43) rfl ?_
        show Steps p.tables e below (T24.setTop (mkF m 44 #[.val (.ref r0), .val (.long j1), .second, .val (.int i2), .val (.long (own_v5_38_11 j1 i2 wd lb)), .second, .val (.int (2 : Int32))] [(.int (4 : Int32))])) _
        refine XS.istore X24.here hx rfl (hb hby own_d5_44) rfl (l' := #[.val (.ref r0), .val (.long j1), .second, .val (.int i2), .val (.long (own_v5_38_11 j1 i2 wd lb)), .second, .val (.int (4 : Int32))]) rfl ?_
        show Steps p.tables e below (T24.setTop (mkF m 46 #[.val (.ref r0), .val (.long j1), .second, .val (.int i2), .val (.long (own_v5_38_11 j1 i2 wd lb)), .second, .val (.int (4 : Int32))] [])) _
        refine XS.goto X24.here hx rfl (pc0 := 46) (pc' := 6) rfl (hb hby own_d5_46) (by decide) (by decide) ?_
        show Steps p.tables e below (T24.setTop (mkF m 6 #[.val (.ref r0), .val (.long j1), .second, .val (.int i2), .val (.long (own_v5_38_11 j1 i2 wd lb)), .second, .val (.int (4 : Int32))] [])) _
        refine XS.iload X24.here hx rfl (hb hby own_d5_6) rfl ?_
        show Steps p.tables e below (T24.setTop (mkF m 8 #[.val (.ref r0), .val (.long j1), .second, .val (.int i2), .val (.long (own_v5_38_11 j1 i2 wd lb)), .second, .val (.int (4 : Int32))] [(.int (4 : Int32))])) _
        refine XS.aloadN X24.here hx rfl (hb hby own_d5_8) rfl rfl ?_
        exact kt
      obtain ⟨T25, X25, e25, st25⟩ := getF X24 hx hZ hown (host := "") (Or.inl (hw _ (List.mem_of_getElem? (i := 15) rfl))) Via.refl e24 P0_k1 (g := (mkF m 9 #[.val (.ref r0), .val (.long j1), .second, .val (.int i2), .val (.long (own_v5_38_11 j1 i2 wd lb)), .second, .val (.int (4 : Int32))] [(.ref r0), (.int (4 : Int32))])) rfl rfl (hb hby own_d5_9)
      refine ownE.go (T' := T25) (f' := (mkF m 12 #[.val (.ref r0), .val (.long j1), .second, .val (.int i2), .val (.long (own_v5_38_11 j1 i2 wd lb)), .second, .val (.int (4 : Int32))] [(.int (8 : Int32)), (.int (4 : Int32))])) st25 ?_
      refine ownE.go (T' := T25) (f' := (mkF m 15 #[.val (.ref r0), .val (.long j1), .second, .val (.int i2), .val (.long (own_v5_38_11 j1 i2 wd lb)), .second, .val (.int (4 : Int32))] [])) (fun t kt => XS.icmpNo (g := (mkF m 12 #[.val (.ref r0), .val (.long j1), .second, .val (.int i2), .val (.long (own_v5_38_11 j1 i2 wd lb)), .second, .val (.int (4 : Int32))] [(.int (8 : Int32)), (.int (4 : Int32))])) X25.here hx rfl (hb hby own_d5_12) rfl (Jvm.Free.XT.ii_ge_f (by decide)) kt) ?_
      refine ownE.go (T' := T25) (f' := (mkF m 16 #[.val (.ref r0), .val (.long j1), .second, .val (.int i2), .val (.long (own_v5_38_11 j1 i2 wd lb)), .second, .val (.int (4 : Int32))] [(.int i2)])) (fun t kt => ?_) ?_
      · show Steps p.tables e below (T25.setTop (mkF m 15 #[.val (.ref r0), .val (.long j1), .second, .val (.int i2), .val (.long (own_v5_38_11 j1 i2 wd lb)), .second, .val (.int (4 : Int32))] [])) _
        refine XS.iloadN X25.here hx rfl (hb hby own_d5_15) rfl ?_
        exact kt
      refine ownE.go (T' := T25) (f' := (mkF m 19 #[.val (.ref r0), .val (.long j1), .second, .val (.int i2), .val (.long (own_v5_38_11 j1 i2 wd lb)), .second, .val (.int (4 : Int32))] [])) (fun t kt => XS.ifNo (g := (mkF m 16 #[.val (.ref r0), .val (.long j1), .second, .val (.int i2), .val (.long (own_v5_38_11 j1 i2 wd lb)), .second, .val (.int (4 : Int32))] [(.int i2)])) X25.here hx rfl (hb hby own_d5_16) rfl (Jvm.Free.XT.i0_eq_f hc19) kt) ?_
      refine ownE.go (T' := T25) (f' := (mkF m 9 #[.val (.ref r0), .val (.long j1), .second, .val (.int i2), .val (.long (own_v5_38_12 j1 i2 wd lb)), .second, .val (.int (8 : Int32))] [(.ref r0), (.int (8 : Int32))])) (fun t kt => ?_) ?_
      · show Steps p.tables e below (T25.setTop (mkF m 19 #[.val (.ref r0), .val (.long j1), .second, .val (.int i2), .val (.long (own_v5_38_11 j1 i2 wd lb)), .second, .val (.int (4 : Int32))] [])) _
        refine XS.lload X25.here hx rfl (hb hby own_d5_19) rfl ?_
        show Steps p.tables e below (T25.setTop (mkF m 21 #[.val (.ref r0), .val (.long j1), .second, .val (.int i2), .val (.long (own_v5_38_11 j1 i2 wd lb)), .second, .val (.int (4 : Int32))] [(.long (own_v5_38_11 j1 i2 wd lb))])) _
        refine XS.lload X25.here hx rfl (hb hby own_d5_21) rfl ?_
        show Steps p.tables e below (T25.setTop (mkF m 23 #[.val (.ref r0), .val (.long j1), .second, .val (.int i2), .val (.long (own_v5_38_11 j1 i2 wd lb)), .second, .val (.int (4 : Int32))] [(.long (own_v5_38_11 j1 i2 wd lb)), (.long (own_v5_38_11 j1 i2 wd lb))])) _
        refine XS.iload X25.here hx rfl (hb hby own_d5_23) rfl ?_
        show Steps p.tables e below (T25.setTop (mkF m 25 #[.val (.ref r0), .val (.long j1), .second, .val (.int i2), .val (.long (own_v5_38_11 j1 i2 wd lb)), .second, .val (.int (4 : Int32))] [(.int (4 : Int32)), (.long (own_v5_38_11 j1 i2 wd lb)), (.long (own_v5_38_11 j1 i2 wd lb))])) _
        refine XS.lushr X25.here hx rfl (hb hby own_d5_25) rfl ?_
        show Steps p.tables e below (T25.setTop (mkF m 26 #[.val (.ref r0), .val (.long j1), .second, .val (.int i2), .val (.long (own_v5_38_11 j1 i2 wd lb)), .second, .val (.int (4 : Int32))] [(.long (((own_v5_38_11 j1 i2 wd lb).toUInt64 >>> ((4 : Int32) &&& 0x3f).toInt64.toUInt64).toInt64)), (.long (own_v5_38_11 j1 i2 wd lb))])) _
        refine XS.land X25.here hx rfl (hb hby own_d5_26) rfl ?_
        show Steps p.tables e below (T25.setTop (mkF m 27 #[.val (.ref r0), .val (.long j1), .second, .val (.int i2), .val (.long (own_v5_38_11 j1 i2 wd lb)), .second, .val (.int (4 : Int32))] [(.long ((own_v5_38_11 j1 i2 wd lb) &&& (((own_v5_38_11 j1 i2 wd lb).toUInt64 >>> ((4 : Int32) &&& 0x3f).toInt64.toUInt64).toInt64)))])) _
        refine XS.goto X25.here hx rfl (pc0 := 27) (pc' := 38) rfl (hb hby own_d5_27) (by decide) (by decide) ?_
        show Steps p.tables e below (T25.setTop (mkF m 38 #[.val (.ref r0), .val (.long j1), .second, .val (.int i2), .val (.long (own_v5_38_11 j1 i2 wd lb)), .second, .val (.int (4 : Int32))] [(.long ((own_v5_38_11 j1 i2 wd lb) &&& (((own_v5_38_11 j1 i2 wd lb).toUInt64 >>> ((4 : Int32) &&& 0x3f).toInt64.toUInt64).toInt64)))])) _
        refine XS.lstore X25.here hx rfl (hb hby own_d5_38) rfl (l' := #[.val (.ref r0), .val (.long j1), .second, .val (.int i2), .val (.long (own_v5_38_12 j1 i2 wd lb)), .second, .val (.int (4 : Int32))]) rfl ?_
        show Steps p.tables e below (T25.setTop (mkF m 40 #[.val (.ref r0), .val (.long j1), .second, .val (.int i2), .val (.long (own_v5_38_12 j1 i2 wd lb)), .second, .val (.int (4 : Int32))] [])) _
        refine XS.iload X25.here hx rfl (hb hby own_d5_40) rfl ?_
        show Steps p.tables e below (T25.setTop (mkF m 42 #[.val (.ref r0), .val (.long j1), .second, .val (.int i2), .val (.long (own_v5_38_12 j1 i2 wd lb)), .second, .val (.int (4 : Int32))] [(.int (4 : Int32))])) _
        refine XS.iconst X25.here hx rfl (hb hby own_d5_42) ?_
        show Steps p.tables e below (T25.setTop (mkF m 43 #[.val (.ref r0), .val (.long j1), .second, .val (.int i2), .val (.long (own_v5_38_12 j1 i2 wd lb)), .second, .val (.int (4 : Int32))] [(.int (1 : Int32)), (.int (4 : Int32))])) _
        refine XS.ishl X25.here hx rfl (hb hby own_d5_43) rfl ?_
        show Steps p.tables e below (T25.setTop (mkF m 44 #[.val (.ref r0), .val (.long j1), .second, .val (.int i2), .val (.long (own_v5_38_12 j1 i2 wd lb)), .second, .val (.int (4 : Int32))] [(.int (8 : Int32))])) _
        refine XS.istore X25.here hx rfl (hb hby own_d5_44) rfl (l' := #[.val (.ref r0), .val (.long j1), .second, .val (.int i2), .val (.long (own_v5_38_12 j1 i2 wd lb)), .second, .val (.int (8 : Int32))]) rfl ?_
        show Steps p.tables e below (T25.setTop (mkF m 46 #[.val (.ref r0), .val (.long j1), .second, .val (.int i2), .val (.long (own_v5_38_12 j1 i2 wd lb)), .second, .val (.int (8 : Int32))] [])) _
        refine XS.goto X25.here hx rfl (pc0 := 46) (pc' := 6) rfl (hb hby own_d5_46) (by decide) (by decide) ?_
        show Steps p.tables e below (T25.setTop (mkF m 6 #[.val (.ref r0), .val (.long j1), .second, .val (.int i2), .val (.long (own_v5_38_12 j1 i2 wd lb)), .second, .val (.int (8 : Int32))] [])) _
        refine XS.iload X25.here hx rfl (hb hby own_d5_6) rfl ?_
        show Steps p.tables e below (T25.setTop (mkF m 8 #[.val (.ref r0), .val (.long j1), .second, .val (.int i2), .val (.long (own_v5_38_12 j1 i2 wd lb)), .second, .val (.int (8 : Int32))] [(.int (8 : Int32))])) _
        refine XS.aloadN X25.here hx rfl (hb hby own_d5_8) rfl rfl ?_
        exact kt
      obtain ⟨T26, X26, e26, st26⟩ := getF X25 hx hZ hown (host := "") (Or.inl (hw _ (List.mem_of_getElem? (i := 15) rfl))) Via.refl e25 P0_k1 (g := (mkF m 9 #[.val (.ref r0), .val (.long j1), .second, .val (.int i2), .val (.long (own_v5_38_12 j1 i2 wd lb)), .second, .val (.int (8 : Int32))] [(.ref r0), (.int (8 : Int32))])) rfl rfl (hb hby own_d5_9)
      refine ownE.go (T' := T26) (f' := (mkF m 12 #[.val (.ref r0), .val (.long j1), .second, .val (.int i2), .val (.long (own_v5_38_12 j1 i2 wd lb)), .second, .val (.int (8 : Int32))] [(.int (8 : Int32)), (.int (8 : Int32))])) st26 ?_
      refine ownE.go (T' := T26) (f' := (mkF m 49 #[.val (.ref r0), .val (.long j1), .second, .val (.int i2), .val (.long (own_v5_38_12 j1 i2 wd lb)), .second, .val (.int (8 : Int32))] [])) (fun t kt => XS.icmpYes (g := (mkF m 12 #[.val (.ref r0), .val (.long j1), .second, .val (.int i2), .val (.long (own_v5_38_12 j1 i2 wd lb)), .second, .val (.int (8 : Int32))] [(.int (8 : Int32)), (.int (8 : Int32))])) X26.here hx rfl (pc0 := 12) (pc' := 49) rfl (hb hby own_d5_12) rfl (Jvm.Free.XT.ii_ge_t (by decide)) (by decide) (by decide) kt) ?_
      refine ownE.go (T' := T26) (f' := (mkF m 52 #[.val (.ref r0), .val (.long j1), .second, .val (.int i2), .val (.long (own_v5_38_12 j1 i2 wd lb)), .second, .val (.int (8 : Int32))] [(.ref r0), (.long (own_v5_38_12 j1 i2 wd lb))])) (fun t kt => ?_) ?_
      · show Steps p.tables e below (T26.setTop (mkF m 49 #[.val (.ref r0), .val (.long j1), .second, .val (.int i2), .val (.long (own_v5_38_12 j1 i2 wd lb)), .second, .val (.int (8 : Int32))] [])) _
        refine XS.lload X26.here hx rfl (hb hby own_d5_49) rfl ?_
        show Steps p.tables e below (T26.setTop (mkF m 51 #[.val (.ref r0), .val (.long j1), .second, .val (.int i2), .val (.long (own_v5_38_12 j1 i2 wd lb)), .second, .val (.int (8 : Int32))] [(.long (own_v5_38_12 j1 i2 wd lb))])) _
        refine XS.aloadN X26.here hx rfl (hb hby own_d5_51) rfl rfl ?_
        exact kt
      obtain ⟨T27, X27, e27, st27⟩ := getF X26 hx hZ hown (host := "") (Or.inl (hw _ (List.mem_of_getElem? (i := 25) rfl))) Via.refl e26 P1 (g := (mkF m 52 #[.val (.ref r0), .val (.long j1), .second, .val (.int i2), .val (.long (own_v5_38_12 j1 i2 wd lb)), .second, .val (.int (8 : Int32))] [(.ref r0), (.long (own_v5_38_12 j1 i2 wd lb))])) rfl rfl (hb hby own_d5_52)
      refine ownE.go (T' := T27) (f' := (mkF m 55 #[.val (.ref r0), .val (.long j1), .second, .val (.int i2), .val (.long (own_v5_38_12 j1 i2 wd lb)), .second, .val (.int (8 : Int32))] [(.long lb), (.long (own_v5_38_12 j1 i2 wd lb))])) st27 ?_
      refine ownE.go (T' := T27) (f' := (mkF m 56 #[.val (.ref r0), .val (.long j1), .second, .val (.int i2), .val (.long (own_v5_38_12 j1 i2 wd lb)), .second, .val (.int (8 : Int32))] [(.long ((own_v5_38_12 j1 i2 wd lb) &&& lb))])) (fun t kt => ?_) ?_
      · show Steps p.tables e below (T27.setTop (mkF m 55 #[.val (.ref r0), .val (.long j1), .second, .val (.int i2), .val (.long (own_v5_38_12 j1 i2 wd lb)), .second, .val (.int (8 : Int32))] [(.long lb), (.long (own_v5_38_12 j1 i2 wd lb))])) _
        refine XS.land X27.here hx rfl (hb hby own_d5_55) rfl ?_
        exact kt
      refine ownE.retL X27 hx hlk hret (hb hby own_d5_56) ?_ (by decide) (by decide)
      show own_Q5 Z r0 j1 i2 wd lb h0 n0 _ T27.heap _
      rw [e27]
      exact ⟨(by rw [own_fold, if_neg hk1_0, if_neg hk1_1, if_neg hk1_2, if_pos hk1, if_neg hc19] <;> first | rfl | decide), N0, rfl⟩
  · -- wd = 16
    have P0_k1 : Fld Z h0 r0 "com/example/upper_falls/upperfalls/CellWords" "width" "I" (.int (16 : Int32)) := by
      have q := P0
      rw [hk1] at q
      exact q
    have hk1_0 : ¬ wd = (1 : Int32) := by rw [hk1]; decide
    have hk1_1 : ¬ wd = (2 : Int32) := by rw [hk1]; decide
    have hk1_2 : ¬ wd = (4 : Int32) := by rw [hk1]; decide
    have hk1_3 : ¬ wd = (8 : Int32) := by rw [hk1]; decide
    refine ownE.go (T' := s₁) (f' := (mkF m 9 #[.val (.ref r0), .val (.long j1), .second, .val (.int i2), .val (.long j1), .second, .val (.int (1 : Int32))] [(.ref r0), (.int (1 : Int32))])) (fun t kt => ?_) ?_
    · show Steps p.tables e below (s₁.setTop (mkF m 0 #[.val (.ref r0), .val (.long j1), .second, .val (.int i2), .unset, .unset, .unset] [])) _
      refine XS.lloadN X0.here hx rfl (hb hby own_d5_0) rfl ?_
      show Steps p.tables e below (s₁.setTop (mkF m 1 #[.val (.ref r0), .val (.long j1), .second, .val (.int i2), .unset, .unset, .unset] [(.long j1)])) _
      refine XS.lstore X0.here hx rfl (hb hby own_d5_1) rfl (l' := #[.val (.ref r0), .val (.long j1), .second, .val (.int i2), .val (.long j1), .second, .unset]) rfl ?_
      show Steps p.tables e below (s₁.setTop (mkF m 3 #[.val (.ref r0), .val (.long j1), .second, .val (.int i2), .val (.long j1), .second, .unset] [])) _
      refine XS.iconst X0.here hx rfl (hb hby own_d5_3) ?_
      show Steps p.tables e below (s₁.setTop (mkF m 4 #[.val (.ref r0), .val (.long j1), .second, .val (.int i2), .val (.long j1), .second, .unset] [(.int (1 : Int32))])) _
      refine XS.istore X0.here hx rfl (hb hby own_d5_4) rfl (l' := #[.val (.ref r0), .val (.long j1), .second, .val (.int i2), .val (.long j1), .second, .val (.int (1 : Int32))]) rfl ?_
      show Steps p.tables e below (s₁.setTop (mkF m 6 #[.val (.ref r0), .val (.long j1), .second, .val (.int i2), .val (.long j1), .second, .val (.int (1 : Int32))] [])) _
      refine XS.iload X0.here hx rfl (hb hby own_d5_6) rfl ?_
      show Steps p.tables e below (s₁.setTop (mkF m 8 #[.val (.ref r0), .val (.long j1), .second, .val (.int i2), .val (.long j1), .second, .val (.int (1 : Int32))] [(.int (1 : Int32))])) _
      refine XS.aloadN X0.here hx rfl (hb hby own_d5_8) rfl rfl ?_
      exact kt
    obtain ⟨T28, X28, e28, st28⟩ := getF X0 hx hZ hown (host := "") (Or.inl (hw _ (List.mem_of_getElem? (i := 15) rfl))) Via.refl e0 P0_k1 (g := (mkF m 9 #[.val (.ref r0), .val (.long j1), .second, .val (.int i2), .val (.long j1), .second, .val (.int (1 : Int32))] [(.ref r0), (.int (1 : Int32))])) rfl rfl (hb hby own_d5_9)
    refine ownE.go (T' := T28) (f' := (mkF m 12 #[.val (.ref r0), .val (.long j1), .second, .val (.int i2), .val (.long j1), .second, .val (.int (1 : Int32))] [(.int (16 : Int32)), (.int (1 : Int32))])) st28 ?_
    refine ownE.go (T' := T28) (f' := (mkF m 15 #[.val (.ref r0), .val (.long j1), .second, .val (.int i2), .val (.long j1), .second, .val (.int (1 : Int32))] [])) (fun t kt => XS.icmpNo (g := (mkF m 12 #[.val (.ref r0), .val (.long j1), .second, .val (.int i2), .val (.long j1), .second, .val (.int (1 : Int32))] [(.int (16 : Int32)), (.int (1 : Int32))])) X28.here hx rfl (hb hby own_d5_12) rfl (Jvm.Free.XT.ii_ge_f (by decide)) kt) ?_
    refine ownE.go (T' := T28) (f' := (mkF m 16 #[.val (.ref r0), .val (.long j1), .second, .val (.int i2), .val (.long j1), .second, .val (.int (1 : Int32))] [(.int i2)])) (fun t kt => ?_) ?_
    · show Steps p.tables e below (T28.setTop (mkF m 15 #[.val (.ref r0), .val (.long j1), .second, .val (.int i2), .val (.long j1), .second, .val (.int (1 : Int32))] [])) _
      refine XS.iloadN X28.here hx rfl (hb hby own_d5_15) rfl ?_
      exact kt
    by_cases hc29 : i2 = (0 : Int32)
    · -- pc 16
      refine ownE.go (T' := T28) (f' := (mkF m 30 #[.val (.ref r0), .val (.long j1), .second, .val (.int i2), .val (.long j1), .second, .val (.int (1 : Int32))] [])) (fun t kt => XS.ifYes (g := (mkF m 16 #[.val (.ref r0), .val (.long j1), .second, .val (.int i2), .val (.long j1), .second, .val (.int (1 : Int32))] [(.int i2)])) X28.here hx rfl (pc0 := 16) (pc' := 30) rfl (hb hby own_d5_16) rfl (Jvm.Free.XT.i0_eq_t hc29) (by decide) (by decide) kt) ?_
      refine ownE.go (T' := T28) (f' := (mkF m 9 #[.val (.ref r0), .val (.long j1), .second, .val (.int i2), .val (.long (own_v5_38_13 j1 i2 wd lb)), .second, .val (.int (2 : Int32))] [(.ref r0), (.int (2 : Int32))])) (fun t kt => ?_) ?_
      · show Steps p.tables e below (T28.setTop (mkF m 30 #[.val (.ref r0), .val (.long j1), .second, .val (.int i2), .val (.long j1), .second, .val (.int (1 : Int32))] [])) _
        refine XS.lload X28.here hx rfl (hb hby own_d5_30) rfl ?_
        show Steps p.tables e below (T28.setTop (mkF m 32 #[.val (.ref r0), .val (.long j1), .second, .val (.int i2), .val (.long j1), .second, .val (.int (1 : Int32))] [(.long j1)])) _
        refine XS.lload X28.here hx rfl (hb hby own_d5_32) rfl ?_
        show Steps p.tables e below (T28.setTop (mkF m 34 #[.val (.ref r0), .val (.long j1), .second, .val (.int i2), .val (.long j1), .second, .val (.int (1 : Int32))] [(.long j1), (.long j1)])) _
        refine XS.iload X28.here hx rfl (hb hby own_d5_34) rfl ?_
        show Steps p.tables e below (T28.setTop (mkF m 36 #[.val (.ref r0), .val (.long j1), .second, .val (.int i2), .val (.long j1), .second, .val (.int (1 : Int32))] [(.int (1 : Int32)), (.long j1), (.long j1)])) _
        refine XS.lushr X28.here hx rfl (hb hby own_d5_36) rfl ?_
        show Steps p.tables e below (T28.setTop (mkF m 37 #[.val (.ref r0), .val (.long j1), .second, .val (.int i2), .val (.long j1), .second, .val (.int (1 : Int32))] [(.long ((j1.toUInt64 >>> ((1 : Int32) &&& 0x3f).toInt64.toUInt64).toInt64)), (.long j1)])) _
        refine XS.lor X28.here hx rfl (hb hby own_d5_37) rfl ?_
        show Steps p.tables e below (T28.setTop (mkF m 38 #[.val (.ref r0), .val (.long j1), .second, .val (.int i2), .val (.long j1), .second, .val (.int (1 : Int32))] [(.long (j1 ||| ((j1.toUInt64 >>> ((1 : Int32) &&& 0x3f).toInt64.toUInt64).toInt64)))])) _
        refine XS.lstore X28.here hx rfl (hb hby own_d5_38) rfl (l' := #[.val (.ref r0), .val (.long j1), .second, .val (.int i2), .val (.long (own_v5_38_13 j1 i2 wd lb)), .second, .val (.int (1 : Int32))]) rfl ?_
        show Steps p.tables e below (T28.setTop (mkF m 40 #[.val (.ref r0), .val (.long j1), .second, .val (.int i2), .val (.long (own_v5_38_13 j1 i2 wd lb)), .second, .val (.int (1 : Int32))] [])) _
        refine XS.iload X28.here hx rfl (hb hby own_d5_40) rfl ?_
        show Steps p.tables e below (T28.setTop (mkF m 42 #[.val (.ref r0), .val (.long j1), .second, .val (.int i2), .val (.long (own_v5_38_13 j1 i2 wd lb)), .second, .val (.int (1 : Int32))] [(.int (1 : Int32))])) _
        refine XS.iconst X28.here hx rfl (hb hby own_d5_42) ?_
        show Steps p.tables e below (T28.setTop (mkF m 43 #[.val (.ref r0), .val (.long j1), .second, .val (.int i2), .val (.long (own_v5_38_13 j1 i2 wd lb)), .second, .val (.int (1 : Int32))] [(.int (1 : Int32)), (.int (1 : Int32))])) _
        refine XS.ishl X28.here hx rfl (hb hby own_d5_43) rfl ?_
        show Steps p.tables e below (T28.setTop (mkF m 44 #[.val (.ref r0), .val (.long j1), .second, .val (.int i2), .val (.long (own_v5_38_13 j1 i2 wd lb)), .second, .val (.int (1 : Int32))] [(.int (2 : Int32))])) _
        refine XS.istore X28.here hx rfl (hb hby own_d5_44) rfl (l' := #[.val (.ref r0), .val (.long j1), .second, .val (.int i2), .val (.long (own_v5_38_13 j1 i2 wd lb)), .second, .val (.int (2 : Int32))]) rfl ?_
        show Steps p.tables e below (T28.setTop (mkF m 46 #[.val (.ref r0), .val (.long j1), .second, .val (.int i2), .val (.long (own_v5_38_13 j1 i2 wd lb)), .second, .val (.int (2 : Int32))] [])) _
        refine XS.goto X28.here hx rfl (pc0 := 46) (pc' := 6) rfl (hb hby own_d5_46) (by decide) (by decide) ?_
        show Steps p.tables e below (T28.setTop (mkF m 6 #[.val (.ref r0), .val (.long j1), .second, .val (.int i2), .val (.long (own_v5_38_13 j1 i2 wd lb)), .second, .val (.int (2 : Int32))] [])) _
        refine XS.iload X28.here hx rfl (hb hby own_d5_6) rfl ?_
        show Steps p.tables e below (T28.setTop (mkF m 8 #[.val (.ref r0), .val (.long j1), .second, .val (.int i2), .val (.long (own_v5_38_13 j1 i2 wd lb)), .second, .val (.int (2 : Int32))] [(.int (2 : Int32))])) _
        refine XS.aloadN X28.here hx rfl (hb hby own_d5_8) rfl rfl ?_
        exact kt
      obtain ⟨T30, X30, e30, st30⟩ := getF X28 hx hZ hown (host := "") (Or.inl (hw _ (List.mem_of_getElem? (i := 15) rfl))) Via.refl e28 P0_k1 (g := (mkF m 9 #[.val (.ref r0), .val (.long j1), .second, .val (.int i2), .val (.long (own_v5_38_13 j1 i2 wd lb)), .second, .val (.int (2 : Int32))] [(.ref r0), (.int (2 : Int32))])) rfl rfl (hb hby own_d5_9)
      refine ownE.go (T' := T30) (f' := (mkF m 12 #[.val (.ref r0), .val (.long j1), .second, .val (.int i2), .val (.long (own_v5_38_13 j1 i2 wd lb)), .second, .val (.int (2 : Int32))] [(.int (16 : Int32)), (.int (2 : Int32))])) st30 ?_
      refine ownE.go (T' := T30) (f' := (mkF m 15 #[.val (.ref r0), .val (.long j1), .second, .val (.int i2), .val (.long (own_v5_38_13 j1 i2 wd lb)), .second, .val (.int (2 : Int32))] [])) (fun t kt => XS.icmpNo (g := (mkF m 12 #[.val (.ref r0), .val (.long j1), .second, .val (.int i2), .val (.long (own_v5_38_13 j1 i2 wd lb)), .second, .val (.int (2 : Int32))] [(.int (16 : Int32)), (.int (2 : Int32))])) X30.here hx rfl (hb hby own_d5_12) rfl (Jvm.Free.XT.ii_ge_f (by decide)) kt) ?_
      refine ownE.go (T' := T30) (f' := (mkF m 16 #[.val (.ref r0), .val (.long j1), .second, .val (.int i2), .val (.long (own_v5_38_13 j1 i2 wd lb)), .second, .val (.int (2 : Int32))] [(.int i2)])) (fun t kt => ?_) ?_
      · show Steps p.tables e below (T30.setTop (mkF m 15 #[.val (.ref r0), .val (.long j1), .second, .val (.int i2), .val (.long (own_v5_38_13 j1 i2 wd lb)), .second, .val (.int (2 : Int32))] [])) _
        refine XS.iloadN X30.here hx rfl (hb hby own_d5_15) rfl ?_
        exact kt
      refine ownE.go (T' := T30) (f' := (mkF m 30 #[.val (.ref r0), .val (.long j1), .second, .val (.int i2), .val (.long (own_v5_38_13 j1 i2 wd lb)), .second, .val (.int (2 : Int32))] [])) (fun t kt => XS.ifYes (g := (mkF m 16 #[.val (.ref r0), .val (.long j1), .second, .val (.int i2), .val (.long (own_v5_38_13 j1 i2 wd lb)), .second, .val (.int (2 : Int32))] [(.int i2)])) X30.here hx rfl (pc0 := 16) (pc' := 30) rfl (hb hby own_d5_16) rfl (Jvm.Free.XT.i0_eq_t hc29) (by decide) (by decide) kt) ?_
      refine ownE.go (T' := T30) (f' := (mkF m 9 #[.val (.ref r0), .val (.long j1), .second, .val (.int i2), .val (.long (own_v5_38_14 j1 i2 wd lb)), .second, .val (.int (4 : Int32))] [(.ref r0), (.int (4 : Int32))])) (fun t kt => ?_) ?_
      · show Steps p.tables e below (T30.setTop (mkF m 30 #[.val (.ref r0), .val (.long j1), .second, .val (.int i2), .val (.long (own_v5_38_13 j1 i2 wd lb)), .second, .val (.int (2 : Int32))] [])) _
        refine XS.lload X30.here hx rfl (hb hby own_d5_30) rfl ?_
        show Steps p.tables e below (T30.setTop (mkF m 32 #[.val (.ref r0), .val (.long j1), .second, .val (.int i2), .val (.long (own_v5_38_13 j1 i2 wd lb)), .second, .val (.int (2 : Int32))] [(.long (own_v5_38_13 j1 i2 wd lb))])) _
        refine XS.lload X30.here hx rfl (hb hby own_d5_32) rfl ?_
        show Steps p.tables e below (T30.setTop (mkF m 34 #[.val (.ref r0), .val (.long j1), .second, .val (.int i2), .val (.long (own_v5_38_13 j1 i2 wd lb)), .second, .val (.int (2 : Int32))] [(.long (own_v5_38_13 j1 i2 wd lb)), (.long (own_v5_38_13 j1 i2 wd lb))])) _
        refine XS.iload X30.here hx rfl (hb hby own_d5_34) rfl ?_
        show Steps p.tables e below (T30.setTop (mkF m 36 #[.val (.ref r0), .val (.long j1), .second, .val (.int i2), .val (.long (own_v5_38_13 j1 i2 wd lb)), .second, .val (.int (2 : Int32))] [(.int (2 : Int32)), (.long (own_v5_38_13 j1 i2 wd lb)), (.long (own_v5_38_13 j1 i2 wd lb))])) _
        refine XS.lushr X30.here hx rfl (hb hby own_d5_36) rfl ?_
        show Steps p.tables e below (T30.setTop (mkF m 37 #[.val (.ref r0), .val (.long j1), .second, .val (.int i2), .val (.long (own_v5_38_13 j1 i2 wd lb)), .second, .val (.int (2 : Int32))] [(.long (((own_v5_38_13 j1 i2 wd lb).toUInt64 >>> ((2 : Int32) &&& 0x3f).toInt64.toUInt64).toInt64)), (.long (own_v5_38_13 j1 i2 wd lb))])) _
        refine XS.lor X30.here hx rfl (hb hby own_d5_37) rfl ?_
        show Steps p.tables e below (T30.setTop (mkF m 38 #[.val (.ref r0), .val (.long j1), .second, .val (.int i2), .val (.long (own_v5_38_13 j1 i2 wd lb)), .second, .val (.int (2 : Int32))] [(.long ((own_v5_38_13 j1 i2 wd lb) ||| (((own_v5_38_13 j1 i2 wd lb).toUInt64 >>> ((2 : Int32) &&& 0x3f).toInt64.toUInt64).toInt64)))])) _
        refine XS.lstore X30.here hx rfl (hb hby own_d5_38) rfl (l' := #[.val (.ref r0), .val (.long j1), .second, .val (.int i2), .val (.long (own_v5_38_14 j1 i2 wd lb)), .second, .val (.int (2 : Int32))]) rfl ?_
        show Steps p.tables e below (T30.setTop (mkF m 40 #[.val (.ref r0), .val (.long j1), .second, .val (.int i2), .val (.long (own_v5_38_14 j1 i2 wd lb)), .second, .val (.int (2 : Int32))] [])) _
        refine XS.iload X30.here hx rfl (hb hby own_d5_40) rfl ?_
        show Steps p.tables e below (T30.setTop (mkF m 42 #[.val (.ref r0), .val (.long j1), .second, .val (.int i2), .val (.long (own_v5_38_14 j1 i2 wd lb)), .second, .val (.int (2 : Int32))] [(.int (2 : Int32))])) _
        refine XS.iconst X30.here hx rfl (hb hby own_d5_42) ?_
        show Steps p.tables e below (T30.setTop (mkF m 43 #[.val (.ref r0), .val (.long j1), .second, .val (.int i2), .val (.long (own_v5_38_14 j1 i2 wd lb)), .second, .val (.int (2 : Int32))] [(.int (1 : Int32)), (.int (2 : Int32))])) _
        refine XS.ishl X30.here hx rfl (hb hby own_d5_43) rfl ?_
        show Steps p.tables e below (T30.setTop (mkF m 44 #[.val (.ref r0), .val (.long j1), .second, .val (.int i2), .val (.long (own_v5_38_14 j1 i2 wd lb)), .second, .val (.int (2 : Int32))] [(.int (4 : Int32))])) _
        refine XS.istore X30.here hx rfl (hb hby own_d5_44) rfl (l' := #[.val (.ref r0), .val (.long j1), .second, .val (.int i2), .val (.long (own_v5_38_14 j1 i2 wd lb)), .second, .val (.int (4 : Int32))]) rfl ?_
        show Steps p.tables e below (T30.setTop (mkF m 46 #[.val (.ref r0), .val (.long j1), .second, .val (.int i2), .val (.long (own_v5_38_14 j1 i2 wd lb)), .second, .val (.int (4 : Int32))] [])) _
        refine XS.goto X30.here hx rfl (pc0 := 46) (pc' := 6) rfl (hb hby own_d5_46) (by decide) (by decide) ?_
        show Steps p.tables e below (T30.setTop (mkF m 6 #[.val (.ref r0), .val (.long j1), .second, .val (.int i2), .val (.long (own_v5_38_14 j1 i2 wd lb)), .second, .val (.int (4 : Int32))] [])) _
        refine XS.iload X30.here hx rfl (hb hby own_d5_6) rfl ?_
        show Steps p.tables e below (T30.setTop (mkF m 8 #[.val (.ref r0), .val (.long j1), .second, .val (.int i2), .val (.long (own_v5_38_14 j1 i2 wd lb)), .second, .val (.int (4 : Int32))] [(.int (4 : Int32))])) _
        refine XS.aloadN X30.here hx rfl (hb hby own_d5_8) rfl rfl ?_
        exact kt
      obtain ⟨T31, X31, e31, st31⟩ := getF X30 hx hZ hown (host := "") (Or.inl (hw _ (List.mem_of_getElem? (i := 15) rfl))) Via.refl e30 P0_k1 (g := (mkF m 9 #[.val (.ref r0), .val (.long j1), .second, .val (.int i2), .val (.long (own_v5_38_14 j1 i2 wd lb)), .second, .val (.int (4 : Int32))] [(.ref r0), (.int (4 : Int32))])) rfl rfl (hb hby own_d5_9)
      refine ownE.go (T' := T31) (f' := (mkF m 12 #[.val (.ref r0), .val (.long j1), .second, .val (.int i2), .val (.long (own_v5_38_14 j1 i2 wd lb)), .second, .val (.int (4 : Int32))] [(.int (16 : Int32)), (.int (4 : Int32))])) st31 ?_
      refine ownE.go (T' := T31) (f' := (mkF m 15 #[.val (.ref r0), .val (.long j1), .second, .val (.int i2), .val (.long (own_v5_38_14 j1 i2 wd lb)), .second, .val (.int (4 : Int32))] [])) (fun t kt => XS.icmpNo (g := (mkF m 12 #[.val (.ref r0), .val (.long j1), .second, .val (.int i2), .val (.long (own_v5_38_14 j1 i2 wd lb)), .second, .val (.int (4 : Int32))] [(.int (16 : Int32)), (.int (4 : Int32))])) X31.here hx rfl (hb hby own_d5_12) rfl (Jvm.Free.XT.ii_ge_f (by decide)) kt) ?_
      refine ownE.go (T' := T31) (f' := (mkF m 16 #[.val (.ref r0), .val (.long j1), .second, .val (.int i2), .val (.long (own_v5_38_14 j1 i2 wd lb)), .second, .val (.int (4 : Int32))] [(.int i2)])) (fun t kt => ?_) ?_
      · show Steps p.tables e below (T31.setTop (mkF m 15 #[.val (.ref r0), .val (.long j1), .second, .val (.int i2), .val (.long (own_v5_38_14 j1 i2 wd lb)), .second, .val (.int (4 : Int32))] [])) _
        refine XS.iloadN X31.here hx rfl (hb hby own_d5_15) rfl ?_
        exact kt
      refine ownE.go (T' := T31) (f' := (mkF m 30 #[.val (.ref r0), .val (.long j1), .second, .val (.int i2), .val (.long (own_v5_38_14 j1 i2 wd lb)), .second, .val (.int (4 : Int32))] [])) (fun t kt => XS.ifYes (g := (mkF m 16 #[.val (.ref r0), .val (.long j1), .second, .val (.int i2), .val (.long (own_v5_38_14 j1 i2 wd lb)), .second, .val (.int (4 : Int32))] [(.int i2)])) X31.here hx rfl (pc0 := 16) (pc' := 30) rfl (hb hby own_d5_16) rfl (Jvm.Free.XT.i0_eq_t hc29) (by decide) (by decide) kt) ?_
      refine ownE.go (T' := T31) (f' := (mkF m 9 #[.val (.ref r0), .val (.long j1), .second, .val (.int i2), .val (.long (own_v5_38_15 j1 i2 wd lb)), .second, .val (.int (8 : Int32))] [(.ref r0), (.int (8 : Int32))])) (fun t kt => ?_) ?_
      · show Steps p.tables e below (T31.setTop (mkF m 30 #[.val (.ref r0), .val (.long j1), .second, .val (.int i2), .val (.long (own_v5_38_14 j1 i2 wd lb)), .second, .val (.int (4 : Int32))] [])) _
        refine XS.lload X31.here hx rfl (hb hby own_d5_30) rfl ?_
        show Steps p.tables e below (T31.setTop (mkF m 32 #[.val (.ref r0), .val (.long j1), .second, .val (.int i2), .val (.long (own_v5_38_14 j1 i2 wd lb)), .second, .val (.int (4 : Int32))] [(.long (own_v5_38_14 j1 i2 wd lb))])) _
        refine XS.lload X31.here hx rfl (hb hby own_d5_32) rfl ?_
        show Steps p.tables e below (T31.setTop (mkF m 34 #[.val (.ref r0), .val (.long j1), .second, .val (.int i2), .val (.long (own_v5_38_14 j1 i2 wd lb)), .second, .val (.int (4 : Int32))] [(.long (own_v5_38_14 j1 i2 wd lb)), (.long (own_v5_38_14 j1 i2 wd lb))])) _
        refine XS.iload X31.here hx rfl (hb hby own_d5_34) rfl ?_
        show Steps p.tables e below (T31.setTop (mkF m 36 #[.val (.ref r0), .val (.long j1), .second, .val (.int i2), .val (.long (own_v5_38_14 j1 i2 wd lb)), .second, .val (.int (4 : Int32))] [(.int (4 : Int32)), (.long (own_v5_38_14 j1 i2 wd lb)), (.long (own_v5_38_14 j1 i2 wd lb))])) _
        refine XS.lushr X31.here hx rfl (hb hby own_d5_36) rfl ?_
        show Steps p.tables e below (T31.setTop (mkF m 37 #[.val (.ref r0), .val (.long j1), .second, .val (.int i2), .val (.long (own_v5_38_14 j1 i2 wd lb)), .second, .val (.int (4 : Int32))] [(.long (((own_v5_38_14 j1 i2 wd lb).toUInt64 >>> ((4 : Int32) &&& 0x3f).toInt64.toUInt64).toInt64)), (.long (own_v5_38_14 j1 i2 wd lb))])) _
        refine XS.lor X31.here hx rfl (hb hby own_d5_37) rfl ?_
        show Steps p.tables e below (T31.setTop (mkF m 38 #[.val (.ref r0), .val (.long j1), .second, .val (.int i2), .val (.long (own_v5_38_14 j1 i2 wd lb)), .second, .val (.int (4 : Int32))] [(.long ((own_v5_38_14 j1 i2 wd lb) ||| (((own_v5_38_14 j1 i2 wd lb).toUInt64 >>> ((4 : Int32) &&& 0x3f).toInt64.toUInt64).toInt64)))])) _
        refine XS.lstore X31.here hx rfl (hb hby own_d5_38) rfl (l' := #[.val (.ref r0), .val (.long j1), .second, .val (.int i2), .val (.long (own_v5_38_15 j1 i2 wd lb)), .second, .val (.int (4 : Int32))]) rfl ?_
        show Steps p.tables e below (T31.setTop (mkF m 40 #[.val (.ref r0), .val (.long j1), .second, .val (.int i2), .val (.long (own_v5_38_15 j1 i2 wd lb)), .second, .val (.int (4 : Int32))] [])) _
        refine XS.iload X31.here hx rfl (hb hby own_d5_40) rfl ?_
        show Steps p.tables e below (T31.setTop (mkF m 42 #[.val (.ref r0), .val (.long j1), .second, .val (.int i2), .val (.long (own_v5_38_15 j1 i2 wd lb)), .second, .val (.int (4 : Int32))] [(.int (4 : Int32))])) _
        refine XS.iconst X31.here hx rfl (hb hby own_d5_42) ?_
        show Steps p.tables e below (T31.setTop (mkF m 43 #[.val (.ref r0), .val (.long j1), .second, .val (.int i2), .val (.long (own_v5_38_15 j1 i2 wd lb)), .second, .val (.int (4 : Int32))] [(.int (1 : Int32)), (.int (4 : Int32))])) _
        refine XS.ishl X31.here hx rfl (hb hby own_d5_43) rfl ?_
        show Steps p.tables e below (T31.setTop (mkF m 44 #[.val (.ref r0), .val (.long j1), .second, .val (.int i2), .val (.long (own_v5_38_15 j1 i2 wd lb)), .second, .val (.int (4 : Int32))] [(.int (8 : Int32))])) _
        refine XS.istore X31.here hx rfl (hb hby own_d5_44) rfl (l' := #[.val (.ref r0), .val (.long j1), .second, .val (.int i2), .val (.long (own_v5_38_15 j1 i2 wd lb)), .second, .val (.int (8 : Int32))]) rfl ?_
        show Steps p.tables e below (T31.setTop (mkF m 46 #[.val (.ref r0), .val (.long j1), .second, .val (.int i2), .val (.long (own_v5_38_15 j1 i2 wd lb)), .second, .val (.int (8 : Int32))] [])) _
        refine XS.goto X31.here hx rfl (pc0 := 46) (pc' := 6) rfl (hb hby own_d5_46) (by decide) (by decide) ?_
        show Steps p.tables e below (T31.setTop (mkF m 6 #[.val (.ref r0), .val (.long j1), .second, .val (.int i2), .val (.long (own_v5_38_15 j1 i2 wd lb)), .second, .val (.int (8 : Int32))] [])) _
        refine XS.iload X31.here hx rfl (hb hby own_d5_6) rfl ?_
        show Steps p.tables e below (T31.setTop (mkF m 8 #[.val (.ref r0), .val (.long j1), .second, .val (.int i2), .val (.long (own_v5_38_15 j1 i2 wd lb)), .second, .val (.int (8 : Int32))] [(.int (8 : Int32))])) _
        refine XS.aloadN X31.here hx rfl (hb hby own_d5_8) rfl rfl ?_
        exact kt
      obtain ⟨T32, X32, e32, st32⟩ := getF X31 hx hZ hown (host := "") (Or.inl (hw _ (List.mem_of_getElem? (i := 15) rfl))) Via.refl e31 P0_k1 (g := (mkF m 9 #[.val (.ref r0), .val (.long j1), .second, .val (.int i2), .val (.long (own_v5_38_15 j1 i2 wd lb)), .second, .val (.int (8 : Int32))] [(.ref r0), (.int (8 : Int32))])) rfl rfl (hb hby own_d5_9)
      refine ownE.go (T' := T32) (f' := (mkF m 12 #[.val (.ref r0), .val (.long j1), .second, .val (.int i2), .val (.long (own_v5_38_15 j1 i2 wd lb)), .second, .val (.int (8 : Int32))] [(.int (16 : Int32)), (.int (8 : Int32))])) st32 ?_
      refine ownE.go (T' := T32) (f' := (mkF m 15 #[.val (.ref r0), .val (.long j1), .second, .val (.int i2), .val (.long (own_v5_38_15 j1 i2 wd lb)), .second, .val (.int (8 : Int32))] [])) (fun t kt => XS.icmpNo (g := (mkF m 12 #[.val (.ref r0), .val (.long j1), .second, .val (.int i2), .val (.long (own_v5_38_15 j1 i2 wd lb)), .second, .val (.int (8 : Int32))] [(.int (16 : Int32)), (.int (8 : Int32))])) X32.here hx rfl (hb hby own_d5_12) rfl (Jvm.Free.XT.ii_ge_f (by decide)) kt) ?_
      refine ownE.go (T' := T32) (f' := (mkF m 16 #[.val (.ref r0), .val (.long j1), .second, .val (.int i2), .val (.long (own_v5_38_15 j1 i2 wd lb)), .second, .val (.int (8 : Int32))] [(.int i2)])) (fun t kt => ?_) ?_
      · show Steps p.tables e below (T32.setTop (mkF m 15 #[.val (.ref r0), .val (.long j1), .second, .val (.int i2), .val (.long (own_v5_38_15 j1 i2 wd lb)), .second, .val (.int (8 : Int32))] [])) _
        refine XS.iloadN X32.here hx rfl (hb hby own_d5_15) rfl ?_
        exact kt
      refine ownE.go (T' := T32) (f' := (mkF m 30 #[.val (.ref r0), .val (.long j1), .second, .val (.int i2), .val (.long (own_v5_38_15 j1 i2 wd lb)), .second, .val (.int (8 : Int32))] [])) (fun t kt => XS.ifYes (g := (mkF m 16 #[.val (.ref r0), .val (.long j1), .second, .val (.int i2), .val (.long (own_v5_38_15 j1 i2 wd lb)), .second, .val (.int (8 : Int32))] [(.int i2)])) X32.here hx rfl (pc0 := 16) (pc' := 30) rfl (hb hby own_d5_16) rfl (Jvm.Free.XT.i0_eq_t hc29) (by decide) (by decide) kt) ?_
      refine ownE.go (T' := T32) (f' := (mkF m 9 #[.val (.ref r0), .val (.long j1), .second, .val (.int i2), .val (.long (own_v5_38_16 j1 i2 wd lb)), .second, .val (.int (16 : Int32))] [(.ref r0), (.int (16 : Int32))])) (fun t kt => ?_) ?_
      · show Steps p.tables e below (T32.setTop (mkF m 30 #[.val (.ref r0), .val (.long j1), .second, .val (.int i2), .val (.long (own_v5_38_15 j1 i2 wd lb)), .second, .val (.int (8 : Int32))] [])) _
        refine XS.lload X32.here hx rfl (hb hby own_d5_30) rfl ?_
        show Steps p.tables e below (T32.setTop (mkF m 32 #[.val (.ref r0), .val (.long j1), .second, .val (.int i2), .val (.long (own_v5_38_15 j1 i2 wd lb)), .second, .val (.int (8 : Int32))] [(.long (own_v5_38_15 j1 i2 wd lb))])) _
        refine XS.lload X32.here hx rfl (hb hby own_d5_32) rfl ?_
        show Steps p.tables e below (T32.setTop (mkF m 34 #[.val (.ref r0), .val (.long j1), .second, .val (.int i2), .val (.long (own_v5_38_15 j1 i2 wd lb)), .second, .val (.int (8 : Int32))] [(.long (own_v5_38_15 j1 i2 wd lb)), (.long (own_v5_38_15 j1 i2 wd lb))])) _
        refine XS.iload X32.here hx rfl (hb hby own_d5_34) rfl ?_
        show Steps p.tables e below (T32.setTop (mkF m 36 #[.val (.ref r0), .val (.long j1), .second, .val (.int i2), .val (.long (own_v5_38_15 j1 i2 wd lb)), .second, .val (.int (8 : Int32))] [(.int (8 : Int32)), (.long (own_v5_38_15 j1 i2 wd lb)), (.long (own_v5_38_15 j1 i2 wd lb))])) _
        refine XS.lushr X32.here hx rfl (hb hby own_d5_36) rfl ?_
        show Steps p.tables e below (T32.setTop (mkF m 37 #[.val (.ref r0), .val (.long j1), .second, .val (.int i2), .val (.long (own_v5_38_15 j1 i2 wd lb)), .second, .val (.int (8 : Int32))] [(.long (((own_v5_38_15 j1 i2 wd lb).toUInt64 >>> ((8 : Int32) &&& 0x3f).toInt64.toUInt64).toInt64)), (.long (own_v5_38_15 j1 i2 wd lb))])) _
        refine XS.lor X32.here hx rfl (hb hby own_d5_37) rfl ?_
        show Steps p.tables e below (T32.setTop (mkF m 38 #[.val (.ref r0), .val (.long j1), .second, .val (.int i2), .val (.long (own_v5_38_15 j1 i2 wd lb)), .second, .val (.int (8 : Int32))] [(.long ((own_v5_38_15 j1 i2 wd lb) ||| (((own_v5_38_15 j1 i2 wd lb).toUInt64 >>> ((8 : Int32) &&& 0x3f).toInt64.toUInt64).toInt64)))])) _
        refine XS.lstore X32.here hx rfl (hb hby own_d5_38) rfl (l' := #[.val (.ref r0), .val (.long j1), .second, .val (.int i2), .val (.long (own_v5_38_16 j1 i2 wd lb)), .second, .val (.int (8 : Int32))]) rfl ?_
        show Steps p.tables e below (T32.setTop (mkF m 40 #[.val (.ref r0), .val (.long j1), .second, .val (.int i2), .val (.long (own_v5_38_16 j1 i2 wd lb)), .second, .val (.int (8 : Int32))] [])) _
        refine XS.iload X32.here hx rfl (hb hby own_d5_40) rfl ?_
        show Steps p.tables e below (T32.setTop (mkF m 42 #[.val (.ref r0), .val (.long j1), .second, .val (.int i2), .val (.long (own_v5_38_16 j1 i2 wd lb)), .second, .val (.int (8 : Int32))] [(.int (8 : Int32))])) _
        refine XS.iconst X32.here hx rfl (hb hby own_d5_42) ?_
        show Steps p.tables e below (T32.setTop (mkF m 43 #[.val (.ref r0), .val (.long j1), .second, .val (.int i2), .val (.long (own_v5_38_16 j1 i2 wd lb)), .second, .val (.int (8 : Int32))] [(.int (1 : Int32)), (.int (8 : Int32))])) _
        refine XS.ishl X32.here hx rfl (hb hby own_d5_43) rfl ?_
        show Steps p.tables e below (T32.setTop (mkF m 44 #[.val (.ref r0), .val (.long j1), .second, .val (.int i2), .val (.long (own_v5_38_16 j1 i2 wd lb)), .second, .val (.int (8 : Int32))] [(.int (16 : Int32))])) _
        refine XS.istore X32.here hx rfl (hb hby own_d5_44) rfl (l' := #[.val (.ref r0), .val (.long j1), .second, .val (.int i2), .val (.long (own_v5_38_16 j1 i2 wd lb)), .second, .val (.int (16 : Int32))]) rfl ?_
        show Steps p.tables e below (T32.setTop (mkF m 46 #[.val (.ref r0), .val (.long j1), .second, .val (.int i2), .val (.long (own_v5_38_16 j1 i2 wd lb)), .second, .val (.int (16 : Int32))] [])) _
        refine XS.goto X32.here hx rfl (pc0 := 46) (pc' := 6) rfl (hb hby own_d5_46) (by decide) (by decide) ?_
        show Steps p.tables e below (T32.setTop (mkF m 6 #[.val (.ref r0), .val (.long j1), .second, .val (.int i2), .val (.long (own_v5_38_16 j1 i2 wd lb)), .second, .val (.int (16 : Int32))] [])) _
        refine XS.iload X32.here hx rfl (hb hby own_d5_6) rfl ?_
        show Steps p.tables e below (T32.setTop (mkF m 8 #[.val (.ref r0), .val (.long j1), .second, .val (.int i2), .val (.long (own_v5_38_16 j1 i2 wd lb)), .second, .val (.int (16 : Int32))] [(.int (16 : Int32))])) _
        refine XS.aloadN X32.here hx rfl (hb hby own_d5_8) rfl rfl ?_
        exact kt
      obtain ⟨T33, X33, e33, st33⟩ := getF X32 hx hZ hown (host := "") (Or.inl (hw _ (List.mem_of_getElem? (i := 15) rfl))) Via.refl e32 P0_k1 (g := (mkF m 9 #[.val (.ref r0), .val (.long j1), .second, .val (.int i2), .val (.long (own_v5_38_16 j1 i2 wd lb)), .second, .val (.int (16 : Int32))] [(.ref r0), (.int (16 : Int32))])) rfl rfl (hb hby own_d5_9)
      refine ownE.go (T' := T33) (f' := (mkF m 12 #[.val (.ref r0), .val (.long j1), .second, .val (.int i2), .val (.long (own_v5_38_16 j1 i2 wd lb)), .second, .val (.int (16 : Int32))] [(.int (16 : Int32)), (.int (16 : Int32))])) st33 ?_
      refine ownE.go (T' := T33) (f' := (mkF m 49 #[.val (.ref r0), .val (.long j1), .second, .val (.int i2), .val (.long (own_v5_38_16 j1 i2 wd lb)), .second, .val (.int (16 : Int32))] [])) (fun t kt => XS.icmpYes (g := (mkF m 12 #[.val (.ref r0), .val (.long j1), .second, .val (.int i2), .val (.long (own_v5_38_16 j1 i2 wd lb)), .second, .val (.int (16 : Int32))] [(.int (16 : Int32)), (.int (16 : Int32))])) X33.here hx rfl (pc0 := 12) (pc' := 49) rfl (hb hby own_d5_12) rfl (Jvm.Free.XT.ii_ge_t (by decide)) (by decide) (by decide) kt) ?_
      refine ownE.go (T' := T33) (f' := (mkF m 52 #[.val (.ref r0), .val (.long j1), .second, .val (.int i2), .val (.long (own_v5_38_16 j1 i2 wd lb)), .second, .val (.int (16 : Int32))] [(.ref r0), (.long (own_v5_38_16 j1 i2 wd lb))])) (fun t kt => ?_) ?_
      · show Steps p.tables e below (T33.setTop (mkF m 49 #[.val (.ref r0), .val (.long j1), .second, .val (.int i2), .val (.long (own_v5_38_16 j1 i2 wd lb)), .second, .val (.int (16 : Int32))] [])) _
        refine XS.lload X33.here hx rfl (hb hby own_d5_49) rfl ?_
        show Steps p.tables e below (T33.setTop (mkF m 51 #[.val (.ref r0), .val (.long j1), .second, .val (.int i2), .val (.long (own_v5_38_16 j1 i2 wd lb)), .second, .val (.int (16 : Int32))] [(.long (own_v5_38_16 j1 i2 wd lb))])) _
        refine XS.aloadN X33.here hx rfl (hb hby own_d5_51) rfl rfl ?_
        exact kt
      obtain ⟨T34, X34, e34, st34⟩ := getF X33 hx hZ hown (host := "") (Or.inl (hw _ (List.mem_of_getElem? (i := 25) rfl))) Via.refl e33 P1 (g := (mkF m 52 #[.val (.ref r0), .val (.long j1), .second, .val (.int i2), .val (.long (own_v5_38_16 j1 i2 wd lb)), .second, .val (.int (16 : Int32))] [(.ref r0), (.long (own_v5_38_16 j1 i2 wd lb))])) rfl rfl (hb hby own_d5_52)
      refine ownE.go (T' := T34) (f' := (mkF m 55 #[.val (.ref r0), .val (.long j1), .second, .val (.int i2), .val (.long (own_v5_38_16 j1 i2 wd lb)), .second, .val (.int (16 : Int32))] [(.long lb), (.long (own_v5_38_16 j1 i2 wd lb))])) st34 ?_
      refine ownE.go (T' := T34) (f' := (mkF m 56 #[.val (.ref r0), .val (.long j1), .second, .val (.int i2), .val (.long (own_v5_38_16 j1 i2 wd lb)), .second, .val (.int (16 : Int32))] [(.long ((own_v5_38_16 j1 i2 wd lb) &&& lb))])) (fun t kt => ?_) ?_
      · show Steps p.tables e below (T34.setTop (mkF m 55 #[.val (.ref r0), .val (.long j1), .second, .val (.int i2), .val (.long (own_v5_38_16 j1 i2 wd lb)), .second, .val (.int (16 : Int32))] [(.long lb), (.long (own_v5_38_16 j1 i2 wd lb))])) _
        refine XS.land X34.here hx rfl (hb hby own_d5_55) rfl ?_
        exact kt
      refine ownE.retL X34 hx hlk hret (hb hby own_d5_56) ?_ (by decide) (by decide)
      show own_Q5 Z r0 j1 i2 wd lb h0 n0 _ T34.heap _
      rw [e34]
      exact ⟨(by rw [own_fold, if_neg hk1_0, if_neg hk1_1, if_neg hk1_2, if_neg hk1_3, if_pos hk1, if_pos hc29] <;> first | rfl | decide), N0, rfl⟩
    · -- pc 16
      refine ownE.go (T' := T28) (f' := (mkF m 19 #[.val (.ref r0), .val (.long j1), .second, .val (.int i2), .val (.long j1), .second, .val (.int (1 : Int32))] [])) (fun t kt => XS.ifNo (g := (mkF m 16 #[.val (.ref r0), .val (.long j1), .second, .val (.int i2), .val (.long j1), .second, .val (.int (1 : Int32))] [(.int i2)])) X28.here hx rfl (hb hby own_d5_16) rfl (Jvm.Free.XT.i0_eq_f hc29) kt) ?_
      refine ownE.go (T' := T28) (f' := (mkF m 9 #[.val (.ref r0), .val (.long j1), .second, .val (.int i2), .val (.long (own_v5_38_17 j1 i2 wd lb)), .second, .val (.int (2 : Int32))] [(.ref r0), (.int (2 : Int32))])) (fun t kt => ?_) ?_
      · show Steps p.tables e below (T28.setTop (mkF m 19 #[.val (.ref r0), .val (.long j1), .second, .val (.int i2), .val (.long j1), .second, .val (.int (1 : Int32))] [])) _
        refine XS.lload X28.here hx rfl (hb hby own_d5_19) rfl ?_
        show Steps p.tables e below (T28.setTop (mkF m 21 #[.val (.ref r0), .val (.long j1), .second, .val (.int i2), .val (.long j1), .second, .val (.int (1 : Int32))] [(.long j1)])) _
        refine XS.lload X28.here hx rfl (hb hby own_d5_21) rfl ?_
        show Steps p.tables e below (T28.setTop (mkF m 23 #[.val (.ref r0), .val (.long j1), .second, .val (.int i2), .val (.long j1), .second, .val (.int (1 : Int32))] [(.long j1), (.long j1)])) _
        refine XS.iload X28.here hx rfl (hb hby own_d5_23) rfl ?_
        show Steps p.tables e below (T28.setTop (mkF m 25 #[.val (.ref r0), .val (.long j1), .second, .val (.int i2), .val (.long j1), .second, .val (.int (1 : Int32))] [(.int (1 : Int32)), (.long j1), (.long j1)])) _
        refine XS.lushr X28.here hx rfl (hb hby own_d5_25) rfl ?_
        show Steps p.tables e below (T28.setTop (mkF m 26 #[.val (.ref r0), .val (.long j1), .second, .val (.int i2), .val (.long j1), .second, .val (.int (1 : Int32))] [(.long ((j1.toUInt64 >>> ((1 : Int32) &&& 0x3f).toInt64.toUInt64).toInt64)), (.long j1)])) _
        refine XS.land X28.here hx rfl (hb hby own_d5_26) rfl ?_
        show Steps p.tables e below (T28.setTop (mkF m 27 #[.val (.ref r0), .val (.long j1), .second, .val (.int i2), .val (.long j1), .second, .val (.int (1 : Int32))] [(.long (j1 &&& ((j1.toUInt64 >>> ((1 : Int32) &&& 0x3f).toInt64.toUInt64).toInt64)))])) _
        refine XS.goto X28.here hx rfl (pc0 := 27) (pc' := 38) rfl (hb hby own_d5_27) (by decide) (by decide) ?_
        show Steps p.tables e below (T28.setTop (mkF m 38 #[.val (.ref r0), .val (.long j1), .second, .val (.int i2), .val (.long j1), .second, .val (.int (1 : Int32))] [(.long (j1 &&& ((j1.toUInt64 >>> ((1 : Int32) &&& 0x3f).toInt64.toUInt64).toInt64)))])) _
        refine XS.lstore X28.here hx rfl (hb hby own_d5_38) rfl (l' := #[.val (.ref r0), .val (.long j1), .second, .val (.int i2), .val (.long (own_v5_38_17 j1 i2 wd lb)), .second, .val (.int (1 : Int32))]) rfl ?_
        show Steps p.tables e below (T28.setTop (mkF m 40 #[.val (.ref r0), .val (.long j1), .second, .val (.int i2), .val (.long (own_v5_38_17 j1 i2 wd lb)), .second, .val (.int (1 : Int32))] [])) _
        refine XS.iload X28.here hx rfl (hb hby own_d5_40) rfl ?_
        show Steps p.tables e below (T28.setTop (mkF m 42 #[.val (.ref r0), .val (.long j1), .second, .val (.int i2), .val (.long (own_v5_38_17 j1 i2 wd lb)), .second, .val (.int (1 : Int32))] [(.int (1 : Int32))])) _
        refine XS.iconst X28.here hx rfl (hb hby own_d5_42) ?_
        show Steps p.tables e below (T28.setTop (mkF m 43 #[.val (.ref r0), .val (.long j1), .second, .val (.int i2), .val (.long (own_v5_38_17 j1 i2 wd lb)), .second, .val (.int (1 : Int32))] [(.int (1 : Int32)), (.int (1 : Int32))])) _
        refine XS.ishl X28.here hx rfl (hb hby own_d5_43) rfl ?_
        show Steps p.tables e below (T28.setTop (mkF m 44 #[.val (.ref r0), .val (.long j1), .second, .val (.int i2), .val (.long (own_v5_38_17 j1 i2 wd lb)), .second, .val (.int (1 : Int32))] [(.int (2 : Int32))])) _
        refine XS.istore X28.here hx rfl (hb hby own_d5_44) rfl (l' := #[.val (.ref r0), .val (.long j1), .second, .val (.int i2), .val (.long (own_v5_38_17 j1 i2 wd lb)), .second, .val (.int (2 : Int32))]) rfl ?_
        show Steps p.tables e below (T28.setTop (mkF m 46 #[.val (.ref r0), .val (.long j1), .second, .val (.int i2), .val (.long (own_v5_38_17 j1 i2 wd lb)), .second, .val (.int (2 : Int32))] [])) _
        refine XS.goto X28.here hx rfl (pc0 := 46) (pc' := 6) rfl (hb hby own_d5_46) (by decide) (by decide) ?_
        show Steps p.tables e below (T28.setTop (mkF m 6 #[.val (.ref r0), .val (.long j1), .second, .val (.int i2), .val (.long (own_v5_38_17 j1 i2 wd lb)), .second, .val (.int (2 : Int32))] [])) _
        refine XS.iload X28.here hx rfl (hb hby own_d5_6) rfl ?_
        show Steps p.tables e below (T28.setTop (mkF m 8 #[.val (.ref r0), .val (.long j1), .second, .val (.int i2), .val (.long (own_v5_38_17 j1 i2 wd lb)), .second, .val (.int (2 : Int32))] [(.int (2 : Int32))])) _
        refine XS.aloadN X28.here hx rfl (hb hby own_d5_8) rfl rfl ?_
        exact kt
      obtain ⟨T35, X35, e35, st35⟩ := getF X28 hx hZ hown (host := "") (Or.inl (hw _ (List.mem_of_getElem? (i := 15) rfl))) Via.refl e28 P0_k1 (g := (mkF m 9 #[.val (.ref r0), .val (.long j1), .second, .val (.int i2), .val (.long (own_v5_38_17 j1 i2 wd lb)), .second, .val (.int (2 : Int32))] [(.ref r0), (.int (2 : Int32))])) rfl rfl (hb hby own_d5_9)
      refine ownE.go (T' := T35) (f' := (mkF m 12 #[.val (.ref r0), .val (.long j1), .second, .val (.int i2), .val (.long (own_v5_38_17 j1 i2 wd lb)), .second, .val (.int (2 : Int32))] [(.int (16 : Int32)), (.int (2 : Int32))])) st35 ?_
      refine ownE.go (T' := T35) (f' := (mkF m 15 #[.val (.ref r0), .val (.long j1), .second, .val (.int i2), .val (.long (own_v5_38_17 j1 i2 wd lb)), .second, .val (.int (2 : Int32))] [])) (fun t kt => XS.icmpNo (g := (mkF m 12 #[.val (.ref r0), .val (.long j1), .second, .val (.int i2), .val (.long (own_v5_38_17 j1 i2 wd lb)), .second, .val (.int (2 : Int32))] [(.int (16 : Int32)), (.int (2 : Int32))])) X35.here hx rfl (hb hby own_d5_12) rfl (Jvm.Free.XT.ii_ge_f (by decide)) kt) ?_
      refine ownE.go (T' := T35) (f' := (mkF m 16 #[.val (.ref r0), .val (.long j1), .second, .val (.int i2), .val (.long (own_v5_38_17 j1 i2 wd lb)), .second, .val (.int (2 : Int32))] [(.int i2)])) (fun t kt => ?_) ?_
      · show Steps p.tables e below (T35.setTop (mkF m 15 #[.val (.ref r0), .val (.long j1), .second, .val (.int i2), .val (.long (own_v5_38_17 j1 i2 wd lb)), .second, .val (.int (2 : Int32))] [])) _
        refine XS.iloadN X35.here hx rfl (hb hby own_d5_15) rfl ?_
        exact kt
      refine ownE.go (T' := T35) (f' := (mkF m 19 #[.val (.ref r0), .val (.long j1), .second, .val (.int i2), .val (.long (own_v5_38_17 j1 i2 wd lb)), .second, .val (.int (2 : Int32))] [])) (fun t kt => XS.ifNo (g := (mkF m 16 #[.val (.ref r0), .val (.long j1), .second, .val (.int i2), .val (.long (own_v5_38_17 j1 i2 wd lb)), .second, .val (.int (2 : Int32))] [(.int i2)])) X35.here hx rfl (hb hby own_d5_16) rfl (Jvm.Free.XT.i0_eq_f hc29) kt) ?_
      refine ownE.go (T' := T35) (f' := (mkF m 9 #[.val (.ref r0), .val (.long j1), .second, .val (.int i2), .val (.long (own_v5_38_18 j1 i2 wd lb)), .second, .val (.int (4 : Int32))] [(.ref r0), (.int (4 : Int32))])) (fun t kt => ?_) ?_
      · show Steps p.tables e below (T35.setTop (mkF m 19 #[.val (.ref r0), .val (.long j1), .second, .val (.int i2), .val (.long (own_v5_38_17 j1 i2 wd lb)), .second, .val (.int (2 : Int32))] [])) _
        refine XS.lload X35.here hx rfl (hb hby own_d5_19) rfl ?_
        show Steps p.tables e below (T35.setTop (mkF m 21 #[.val (.ref r0), .val (.long j1), .second, .val (.int i2), .val (.long (own_v5_38_17 j1 i2 wd lb)), .second, .val (.int (2 : Int32))] [(.long (own_v5_38_17 j1 i2 wd lb))])) _
        refine XS.lload X35.here hx rfl (hb hby own_d5_21) rfl ?_
        show Steps p.tables e below (T35.setTop (mkF m 23 #[.val (.ref r0), .val (.long j1), .second, .val (.int i2), .val (.long (own_v5_38_17 j1 i2 wd lb)), .second, .val (.int (2 : Int32))] [(.long (own_v5_38_17 j1 i2 wd lb)), (.long (own_v5_38_17 j1 i2 wd lb))])) _
        refine XS.iload X35.here hx rfl (hb hby own_d5_23) rfl ?_
        show Steps p.tables e below (T35.setTop (mkF m 25 #[.val (.ref r0), .val (.long j1), .second, .val (.int i2), .val (.long (own_v5_38_17 j1 i2 wd lb)), .second, .val (.int (2 : Int32))] [(.int (2 : Int32)), (.long (own_v5_38_17 j1 i2 wd lb)), (.long (own_v5_38_17 j1 i2 wd lb))])) _
        refine XS.lushr X35.here hx rfl (hb hby own_d5_25) rfl ?_
        show Steps p.tables e below (T35.setTop (mkF m 26 #[.val (.ref r0), .val (.long j1), .second, .val (.int i2), .val (.long (own_v5_38_17 j1 i2 wd lb)), .second, .val (.int (2 : Int32))] [(.long (((own_v5_38_17 j1 i2 wd lb).toUInt64 >>> ((2 : Int32) &&& 0x3f).toInt64.toUInt64).toInt64)), (.long (own_v5_38_17 j1 i2 wd lb))])) _
        refine XS.land X35.here hx rfl (hb hby own_d5_26) rfl ?_
        show Steps p.tables e below (T35.setTop (mkF m 27 #[.val (.ref r0), .val (.long j1), .second, .val (.int i2), .val (.long (own_v5_38_17 j1 i2 wd lb)), .second, .val (.int (2 : Int32))] [(.long ((own_v5_38_17 j1 i2 wd lb) &&& (((own_v5_38_17 j1 i2 wd lb).toUInt64 >>> ((2 : Int32) &&& 0x3f).toInt64.toUInt64).toInt64)))])) _
        refine XS.goto X35.here hx rfl (pc0 := 27) (pc' := 38) rfl (hb hby own_d5_27) (by decide) (by decide) ?_
        show Steps p.tables e below (T35.setTop (mkF m 38 #[.val (.ref r0), .val (.long j1), .second, .val (.int i2), .val (.long (own_v5_38_17 j1 i2 wd lb)), .second, .val (.int (2 : Int32))] [(.long ((own_v5_38_17 j1 i2 wd lb) &&& (((own_v5_38_17 j1 i2 wd lb).toUInt64 >>> ((2 : Int32) &&& 0x3f).toInt64.toUInt64).toInt64)))])) _
        refine XS.lstore X35.here hx rfl (hb hby own_d5_38) rfl (l' := #[.val (.ref r0), .val (.long j1), .second, .val (.int i2), .val (.long (own_v5_38_18 j1 i2 wd lb)), .second, .val (.int (2 : Int32))]) rfl ?_
        show Steps p.tables e below (T35.setTop (mkF m 40 #[.val (.ref r0), .val (.long j1), .second, .val (.int i2), .val (.long (own_v5_38_18 j1 i2 wd lb)), .second, .val (.int (2 : Int32))] [])) _
        refine XS.iload X35.here hx rfl (hb hby own_d5_40) rfl ?_
        show Steps p.tables e below (T35.setTop (mkF m 42 #[.val (.ref r0), .val (.long j1), .second, .val (.int i2), .val (.long (own_v5_38_18 j1 i2 wd lb)), .second, .val (.int (2 : Int32))] [(.int (2 : Int32))])) _
        refine XS.iconst X35.here hx rfl (hb hby own_d5_42) ?_
        show Steps p.tables e below (T35.setTop (mkF m 43 #[.val (.ref r0), .val (.long j1), .second, .val (.int i2), .val (.long (own_v5_38_18 j1 i2 wd lb)), .second, .val (.int (2 : Int32))] [(.int (1 : Int32)), (.int (2 : Int32))])) _
        refine XS.ishl X35.here hx rfl (hb hby own_d5_43) rfl ?_
        show Steps p.tables e below (T35.setTop (mkF m 44 #[.val (.ref r0), .val (.long j1), .second, .val (.int i2), .val (.long (own_v5_38_18 j1 i2 wd lb)), .second, .val (.int (2 : Int32))] [(.int (4 : Int32))])) _
        refine XS.istore X35.here hx rfl (hb hby own_d5_44) rfl (l' := #[.val (.ref r0), .val (.long j1), .second, .val (.int i2), .val (.long (own_v5_38_18 j1 i2 wd lb)), .second, .val (.int (4 : Int32))]) rfl ?_
        show Steps p.tables e below (T35.setTop (mkF m 46 #[.val (.ref r0), .val (.long j1), .second, .val (.int i2), .val (.long (own_v5_38_18 j1 i2 wd lb)), .second, .val (.int (4 : Int32))] [])) _
        refine XS.goto X35.here hx rfl (pc0 := 46) (pc' := 6) rfl (hb hby own_d5_46) (by decide) (by decide) ?_
        show Steps p.tables e below (T35.setTop (mkF m 6 #[.val (.ref r0), .val (.long j1), .second, .val (.int i2), .val (.long (own_v5_38_18 j1 i2 wd lb)), .second, .val (.int (4 : Int32))] [])) _
        refine XS.iload X35.here hx rfl (hb hby own_d5_6) rfl ?_
        show Steps p.tables e below (T35.setTop (mkF m 8 #[.val (.ref r0), .val (.long j1), .second, .val (.int i2), .val (.long (own_v5_38_18 j1 i2 wd lb)), .second, .val (.int (4 : Int32))] [(.int (4 : Int32))])) _
        refine XS.aloadN X35.here hx rfl (hb hby own_d5_8) rfl rfl ?_
        exact kt
      obtain ⟨T36, X36, e36, st36⟩ := getF X35 hx hZ hown (host := "") (Or.inl (hw _ (List.mem_of_getElem? (i := 15) rfl))) Via.refl e35 P0_k1 (g := (mkF m 9 #[.val (.ref r0), .val (.long j1), .second, .val (.int i2), .val (.long (own_v5_38_18 j1 i2 wd lb)), .second, .val (.int (4 : Int32))] [(.ref r0), (.int (4 : Int32))])) rfl rfl (hb hby own_d5_9)
      refine ownE.go (T' := T36) (f' := (mkF m 12 #[.val (.ref r0), .val (.long j1), .second, .val (.int i2), .val (.long (own_v5_38_18 j1 i2 wd lb)), .second, .val (.int (4 : Int32))] [(.int (16 : Int32)), (.int (4 : Int32))])) st36 ?_
      refine ownE.go (T' := T36) (f' := (mkF m 15 #[.val (.ref r0), .val (.long j1), .second, .val (.int i2), .val (.long (own_v5_38_18 j1 i2 wd lb)), .second, .val (.int (4 : Int32))] [])) (fun t kt => XS.icmpNo (g := (mkF m 12 #[.val (.ref r0), .val (.long j1), .second, .val (.int i2), .val (.long (own_v5_38_18 j1 i2 wd lb)), .second, .val (.int (4 : Int32))] [(.int (16 : Int32)), (.int (4 : Int32))])) X36.here hx rfl (hb hby own_d5_12) rfl (Jvm.Free.XT.ii_ge_f (by decide)) kt) ?_
      refine ownE.go (T' := T36) (f' := (mkF m 16 #[.val (.ref r0), .val (.long j1), .second, .val (.int i2), .val (.long (own_v5_38_18 j1 i2 wd lb)), .second, .val (.int (4 : Int32))] [(.int i2)])) (fun t kt => ?_) ?_
      · show Steps p.tables e below (T36.setTop (mkF m 15 #[.val (.ref r0), .val (.long j1), .second, .val (.int i2), .val (.long (own_v5_38_18 j1 i2 wd lb)), .second, .val (.int (4 : Int32))] [])) _
        refine XS.iloadN X36.here hx rfl (hb hby own_d5_15) rfl ?_
        exact kt
      refine ownE.go (T' := T36) (f' := (mkF m 19 #[.val (.ref r0), .val (.long j1), .second, .val (.int i2), .val (.long (own_v5_38_18 j1 i2 wd lb)), .second, .val (.int (4 : Int32))] [])) (fun t kt => XS.ifNo (g := (mkF m 16 #[.val (.ref r0), .val (.long j1), .second, .val (.int i2), .val (.long (own_v5_38_18 j1 i2 wd lb)), .second, .val (.int (4 : Int32))] [(.int i2)])) X36.here hx rfl (hb hby own_d5_16) rfl (Jvm.Free.XT.i0_eq_f hc29) kt) ?_
      refine ownE.go (T' := T36) (f' := (mkF m 9 #[.val (.ref r0), .val (.long j1), .second, .val (.int i2), .val (.long (own_v5_38_19 j1 i2 wd lb)), .second, .val (.int (8 : Int32))] [(.ref r0), (.int (8 : Int32))])) (fun t kt => ?_) ?_
      · show Steps p.tables e below (T36.setTop (mkF m 19 #[.val (.ref r0), .val (.long j1), .second, .val (.int i2), .val (.long (own_v5_38_18 j1 i2 wd lb)), .second, .val (.int (4 : Int32))] [])) _
        refine XS.lload X36.here hx rfl (hb hby own_d5_19) rfl ?_
        show Steps p.tables e below (T36.setTop (mkF m 21 #[.val (.ref r0), .val (.long j1), .second, .val (.int i2), .val (.long (own_v5_38_18 j1 i2 wd lb)), .second, .val (.int (4 : Int32))] [(.long (own_v5_38_18 j1 i2 wd lb))])) _
        refine XS.lload X36.here hx rfl (hb hby own_d5_21) rfl ?_
        show Steps p.tables e below (T36.setTop (mkF m 23 #[.val (.ref r0), .val (.long j1), .second, .val (.int i2), .val (.long (own_v5_38_18 j1 i2 wd lb)), .second, .val (.int (4 : Int32))] [(.long (own_v5_38_18 j1 i2 wd lb)), (.long (own_v5_38_18 j1 i2 wd lb))])) _
        refine XS.iload X36.here hx rfl (hb hby own_d5_23) rfl ?_
        show Steps p.tables e below (T36.setTop (mkF m 25 #[.val (.ref r0), .val (.long j1), .second, .val (.int i2), .val (.long (own_v5_38_18 j1 i2 wd lb)), .second, .val (.int (4 : Int32))] [(.int (4 : Int32)), (.long (own_v5_38_18 j1 i2 wd lb)), (.long (own_v5_38_18 j1 i2 wd lb))])) _
        refine XS.lushr X36.here hx rfl (hb hby own_d5_25) rfl ?_
        show Steps p.tables e below (T36.setTop (mkF m 26 #[.val (.ref r0), .val (.long j1), .second, .val (.int i2), .val (.long (own_v5_38_18 j1 i2 wd lb)), .second, .val (.int (4 : Int32))] [(.long (((own_v5_38_18 j1 i2 wd lb).toUInt64 >>> ((4 : Int32) &&& 0x3f).toInt64.toUInt64).toInt64)), (.long (own_v5_38_18 j1 i2 wd lb))])) _
        refine XS.land X36.here hx rfl (hb hby own_d5_26) rfl ?_
        show Steps p.tables e below (T36.setTop (mkF m 27 #[.val (.ref r0), .val (.long j1), .second, .val (.int i2), .val (.long (own_v5_38_18 j1 i2 wd lb)), .second, .val (.int (4 : Int32))] [(.long ((own_v5_38_18 j1 i2 wd lb) &&& (((own_v5_38_18 j1 i2 wd lb).toUInt64 >>> ((4 : Int32) &&& 0x3f).toInt64.toUInt64).toInt64)))])) _
        refine XS.goto X36.here hx rfl (pc0 := 27) (pc' := 38) rfl (hb hby own_d5_27) (by decide) (by decide) ?_
        show Steps p.tables e below (T36.setTop (mkF m 38 #[.val (.ref r0), .val (.long j1), .second, .val (.int i2), .val (.long (own_v5_38_18 j1 i2 wd lb)), .second, .val (.int (4 : Int32))] [(.long ((own_v5_38_18 j1 i2 wd lb) &&& (((own_v5_38_18 j1 i2 wd lb).toUInt64 >>> ((4 : Int32) &&& 0x3f).toInt64.toUInt64).toInt64)))])) _
        refine XS.lstore X36.here hx rfl (hb hby own_d5_38) rfl (l' := #[.val (.ref r0), .val (.long j1), .second, .val (.int i2), .val (.long (own_v5_38_19 j1 i2 wd lb)), .second, .val (.int (4 : Int32))]) rfl ?_
        show Steps p.tables e below (T36.setTop (mkF m 40 #[.val (.ref r0), .val (.long j1), .second, .val (.int i2), .val (.long (own_v5_38_19 j1 i2 wd lb)), .second, .val (.int (4 : Int32))] [])) _
        refine XS.iload X36.here hx rfl (hb hby own_d5_40) rfl ?_
        show Steps p.tables e below (T36.setTop (mkF m 42 #[.val (.ref r0), .val (.long j1), .second, .val (.int i2), .val (.long (own_v5_38_19 j1 i2 wd lb)), .second, .val (.int (4 : Int32))] [(.int (4 : Int32))])) _
        refine XS.iconst X36.here hx rfl (hb hby own_d5_42) ?_
        show Steps p.tables e below (T36.setTop (mkF m 43 #[.val (.ref r0), .val (.long j1), .second, .val (.int i2), .val (.long (own_v5_38_19 j1 i2 wd lb)), .second, .val (.int (4 : Int32))] [(.int (1 : Int32)), (.int (4 : Int32))])) _
        refine XS.ishl X36.here hx rfl (hb hby own_d5_43) rfl ?_
        show Steps p.tables e below (T36.setTop (mkF m 44 #[.val (.ref r0), .val (.long j1), .second, .val (.int i2), .val (.long (own_v5_38_19 j1 i2 wd lb)), .second, .val (.int (4 : Int32))] [(.int (8 : Int32))])) _
        refine XS.istore X36.here hx rfl (hb hby own_d5_44) rfl (l' := #[.val (.ref r0), .val (.long j1), .second, .val (.int i2), .val (.long (own_v5_38_19 j1 i2 wd lb)), .second, .val (.int (8 : Int32))]) rfl ?_
        show Steps p.tables e below (T36.setTop (mkF m 46 #[.val (.ref r0), .val (.long j1), .second, .val (.int i2), .val (.long (own_v5_38_19 j1 i2 wd lb)), .second, .val (.int (8 : Int32))] [])) _
        refine XS.goto X36.here hx rfl (pc0 := 46) (pc' := 6) rfl (hb hby own_d5_46) (by decide) (by decide) ?_
        show Steps p.tables e below (T36.setTop (mkF m 6 #[.val (.ref r0), .val (.long j1), .second, .val (.int i2), .val (.long (own_v5_38_19 j1 i2 wd lb)), .second, .val (.int (8 : Int32))] [])) _
        refine XS.iload X36.here hx rfl (hb hby own_d5_6) rfl ?_
        show Steps p.tables e below (T36.setTop (mkF m 8 #[.val (.ref r0), .val (.long j1), .second, .val (.int i2), .val (.long (own_v5_38_19 j1 i2 wd lb)), .second, .val (.int (8 : Int32))] [(.int (8 : Int32))])) _
        refine XS.aloadN X36.here hx rfl (hb hby own_d5_8) rfl rfl ?_
        exact kt
      obtain ⟨T37, X37, e37, st37⟩ := getF X36 hx hZ hown (host := "") (Or.inl (hw _ (List.mem_of_getElem? (i := 15) rfl))) Via.refl e36 P0_k1 (g := (mkF m 9 #[.val (.ref r0), .val (.long j1), .second, .val (.int i2), .val (.long (own_v5_38_19 j1 i2 wd lb)), .second, .val (.int (8 : Int32))] [(.ref r0), (.int (8 : Int32))])) rfl rfl (hb hby own_d5_9)
      refine ownE.go (T' := T37) (f' := (mkF m 12 #[.val (.ref r0), .val (.long j1), .second, .val (.int i2), .val (.long (own_v5_38_19 j1 i2 wd lb)), .second, .val (.int (8 : Int32))] [(.int (16 : Int32)), (.int (8 : Int32))])) st37 ?_
      refine ownE.go (T' := T37) (f' := (mkF m 15 #[.val (.ref r0), .val (.long j1), .second, .val (.int i2), .val (.long (own_v5_38_19 j1 i2 wd lb)), .second, .val (.int (8 : Int32))] [])) (fun t kt => XS.icmpNo (g := (mkF m 12 #[.val (.ref r0), .val (.long j1), .second, .val (.int i2), .val (.long (own_v5_38_19 j1 i2 wd lb)), .second, .val (.int (8 : Int32))] [(.int (16 : Int32)), (.int (8 : Int32))])) X37.here hx rfl (hb hby own_d5_12) rfl (Jvm.Free.XT.ii_ge_f (by decide)) kt) ?_
      refine ownE.go (T' := T37) (f' := (mkF m 16 #[.val (.ref r0), .val (.long j1), .second, .val (.int i2), .val (.long (own_v5_38_19 j1 i2 wd lb)), .second, .val (.int (8 : Int32))] [(.int i2)])) (fun t kt => ?_) ?_
      · show Steps p.tables e below (T37.setTop (mkF m 15 #[.val (.ref r0), .val (.long j1), .second, .val (.int i2), .val (.long (own_v5_38_19 j1 i2 wd lb)), .second, .val (.int (8 : Int32))] [])) _
        refine XS.iloadN X37.here hx rfl (hb hby own_d5_15) rfl ?_
        exact kt
      refine ownE.go (T' := T37) (f' := (mkF m 19 #[.val (.ref r0), .val (.long j1), .second, .val (.int i2), .val (.long (own_v5_38_19 j1 i2 wd lb)), .second, .val (.int (8 : Int32))] [])) (fun t kt => XS.ifNo (g := (mkF m 16 #[.val (.ref r0), .val (.long j1), .second, .val (.int i2), .val (.long (own_v5_38_19 j1 i2 wd lb)), .second, .val (.int (8 : Int32))] [(.int i2)])) X37.here hx rfl (hb hby own_d5_16) rfl (Jvm.Free.XT.i0_eq_f hc29) kt) ?_
      refine ownE.go (T' := T37) (f' := (mkF m 9 #[.val (.ref r0), .val (.long j1), .second, .val (.int i2), .val (.long (own_v5_38_20 j1 i2 wd lb)), .second, .val (.int (16 : Int32))] [(.ref r0), (.int (16 : Int32))])) (fun t kt => ?_) ?_
      · show Steps p.tables e below (T37.setTop (mkF m 19 #[.val (.ref r0), .val (.long j1), .second, .val (.int i2), .val (.long (own_v5_38_19 j1 i2 wd lb)), .second, .val (.int (8 : Int32))] [])) _
        refine XS.lload X37.here hx rfl (hb hby own_d5_19) rfl ?_
        show Steps p.tables e below (T37.setTop (mkF m 21 #[.val (.ref r0), .val (.long j1), .second, .val (.int i2), .val (.long (own_v5_38_19 j1 i2 wd lb)), .second, .val (.int (8 : Int32))] [(.long (own_v5_38_19 j1 i2 wd lb))])) _
        refine XS.lload X37.here hx rfl (hb hby own_d5_21) rfl ?_
        show Steps p.tables e below (T37.setTop (mkF m 23 #[.val (.ref r0), .val (.long j1), .second, .val (.int i2), .val (.long (own_v5_38_19 j1 i2 wd lb)), .second, .val (.int (8 : Int32))] [(.long (own_v5_38_19 j1 i2 wd lb)), (.long (own_v5_38_19 j1 i2 wd lb))])) _
        refine XS.iload X37.here hx rfl (hb hby own_d5_23) rfl ?_
        show Steps p.tables e below (T37.setTop (mkF m 25 #[.val (.ref r0), .val (.long j1), .second, .val (.int i2), .val (.long (own_v5_38_19 j1 i2 wd lb)), .second, .val (.int (8 : Int32))] [(.int (8 : Int32)), (.long (own_v5_38_19 j1 i2 wd lb)), (.long (own_v5_38_19 j1 i2 wd lb))])) _
        refine XS.lushr X37.here hx rfl (hb hby own_d5_25) rfl ?_
        show Steps p.tables e below (T37.setTop (mkF m 26 #[.val (.ref r0), .val (.long j1), .second, .val (.int i2), .val (.long (own_v5_38_19 j1 i2 wd lb)), .second, .val (.int (8 : Int32))] [(.long (((own_v5_38_19 j1 i2 wd lb).toUInt64 >>> ((8 : Int32) &&& 0x3f).toInt64.toUInt64).toInt64)), (.long (own_v5_38_19 j1 i2 wd lb))])) _
        refine XS.land X37.here hx rfl (hb hby own_d5_26) rfl ?_
        show Steps p.tables e below (T37.setTop (mkF m 27 #[.val (.ref r0), .val (.long j1), .second, .val (.int i2), .val (.long (own_v5_38_19 j1 i2 wd lb)), .second, .val (.int (8 : Int32))] [(.long ((own_v5_38_19 j1 i2 wd lb) &&& (((own_v5_38_19 j1 i2 wd lb).toUInt64 >>> ((8 : Int32) &&& 0x3f).toInt64.toUInt64).toInt64)))])) _
        refine XS.goto X37.here hx rfl (pc0 := 27) (pc' := 38) rfl (hb hby own_d5_27) (by decide) (by decide) ?_
        show Steps p.tables e below (T37.setTop (mkF m 38 #[.val (.ref r0), .val (.long j1), .second, .val (.int i2), .val (.long (own_v5_38_19 j1 i2 wd lb)), .second, .val (.int (8 : Int32))] [(.long ((own_v5_38_19 j1 i2 wd lb) &&& (((own_v5_38_19 j1 i2 wd lb).toUInt64 >>> ((8 : Int32) &&& 0x3f).toInt64.toUInt64).toInt64)))])) _
        refine XS.lstore X37.here hx rfl (hb hby own_d5_38) rfl (l' := #[.val (.ref r0), .val (.long j1), .second, .val (.int i2), .val (.long (own_v5_38_20 j1 i2 wd lb)), .second, .val (.int (8 : Int32))]) rfl ?_
        show Steps p.tables e below (T37.setTop (mkF m 40 #[.val (.ref r0), .val (.long j1), .second, .val (.int i2), .val (.long (own_v5_38_20 j1 i2 wd lb)), .second, .val (.int (8 : Int32))] [])) _
        refine XS.iload X37.here hx rfl (hb hby own_d5_40) rfl ?_
        show Steps p.tables e below (T37.setTop (mkF m 42 #[.val (.ref r0), .val (.long j1), .second, .val (.int i2), .val (.long (own_v5_38_20 j1 i2 wd lb)), .second, .val (.int (8 : Int32))] [(.int (8 : Int32))])) _
        refine XS.iconst X37.here hx rfl (hb hby own_d5_42) ?_
        show Steps p.tables e below (T37.setTop (mkF m 43 #[.val (.ref r0), .val (.long j1), .second, .val (.int i2), .val (.long (own_v5_38_20 j1 i2 wd lb)), .second, .val (.int (8 : Int32))] [(.int (1 : Int32)), (.int (8 : Int32))])) _
        refine XS.ishl X37.here hx rfl (hb hby own_d5_43) rfl ?_
        show Steps p.tables e below (T37.setTop (mkF m 44 #[.val (.ref r0), .val (.long j1), .second, .val (.int i2), .val (.long (own_v5_38_20 j1 i2 wd lb)), .second, .val (.int (8 : Int32))] [(.int (16 : Int32))])) _
        refine XS.istore X37.here hx rfl (hb hby own_d5_44) rfl (l' := #[.val (.ref r0), .val (.long j1), .second, .val (.int i2), .val (.long (own_v5_38_20 j1 i2 wd lb)), .second, .val (.int (16 : Int32))]) rfl ?_
        show Steps p.tables e below (T37.setTop (mkF m 46 #[.val (.ref r0), .val (.long j1), .second, .val (.int i2), .val (.long (own_v5_38_20 j1 i2 wd lb)), .second, .val (.int (16 : Int32))] [])) _
        refine XS.goto X37.here hx rfl (pc0 := 46) (pc' := 6) rfl (hb hby own_d5_46) (by decide) (by decide) ?_
        show Steps p.tables e below (T37.setTop (mkF m 6 #[.val (.ref r0), .val (.long j1), .second, .val (.int i2), .val (.long (own_v5_38_20 j1 i2 wd lb)), .second, .val (.int (16 : Int32))] [])) _
        refine XS.iload X37.here hx rfl (hb hby own_d5_6) rfl ?_
        show Steps p.tables e below (T37.setTop (mkF m 8 #[.val (.ref r0), .val (.long j1), .second, .val (.int i2), .val (.long (own_v5_38_20 j1 i2 wd lb)), .second, .val (.int (16 : Int32))] [(.int (16 : Int32))])) _
        refine XS.aloadN X37.here hx rfl (hb hby own_d5_8) rfl rfl ?_
        exact kt
      obtain ⟨T38, X38, e38, st38⟩ := getF X37 hx hZ hown (host := "") (Or.inl (hw _ (List.mem_of_getElem? (i := 15) rfl))) Via.refl e37 P0_k1 (g := (mkF m 9 #[.val (.ref r0), .val (.long j1), .second, .val (.int i2), .val (.long (own_v5_38_20 j1 i2 wd lb)), .second, .val (.int (16 : Int32))] [(.ref r0), (.int (16 : Int32))])) rfl rfl (hb hby own_d5_9)
      refine ownE.go (T' := T38) (f' := (mkF m 12 #[.val (.ref r0), .val (.long j1), .second, .val (.int i2), .val (.long (own_v5_38_20 j1 i2 wd lb)), .second, .val (.int (16 : Int32))] [(.int (16 : Int32)), (.int (16 : Int32))])) st38 ?_
      refine ownE.go (T' := T38) (f' := (mkF m 49 #[.val (.ref r0), .val (.long j1), .second, .val (.int i2), .val (.long (own_v5_38_20 j1 i2 wd lb)), .second, .val (.int (16 : Int32))] [])) (fun t kt => XS.icmpYes (g := (mkF m 12 #[.val (.ref r0), .val (.long j1), .second, .val (.int i2), .val (.long (own_v5_38_20 j1 i2 wd lb)), .second, .val (.int (16 : Int32))] [(.int (16 : Int32)), (.int (16 : Int32))])) X38.here hx rfl (pc0 := 12) (pc' := 49) rfl (hb hby own_d5_12) rfl (Jvm.Free.XT.ii_ge_t (by decide)) (by decide) (by decide) kt) ?_
      refine ownE.go (T' := T38) (f' := (mkF m 52 #[.val (.ref r0), .val (.long j1), .second, .val (.int i2), .val (.long (own_v5_38_20 j1 i2 wd lb)), .second, .val (.int (16 : Int32))] [(.ref r0), (.long (own_v5_38_20 j1 i2 wd lb))])) (fun t kt => ?_) ?_
      · show Steps p.tables e below (T38.setTop (mkF m 49 #[.val (.ref r0), .val (.long j1), .second, .val (.int i2), .val (.long (own_v5_38_20 j1 i2 wd lb)), .second, .val (.int (16 : Int32))] [])) _
        refine XS.lload X38.here hx rfl (hb hby own_d5_49) rfl ?_
        show Steps p.tables e below (T38.setTop (mkF m 51 #[.val (.ref r0), .val (.long j1), .second, .val (.int i2), .val (.long (own_v5_38_20 j1 i2 wd lb)), .second, .val (.int (16 : Int32))] [(.long (own_v5_38_20 j1 i2 wd lb))])) _
        refine XS.aloadN X38.here hx rfl (hb hby own_d5_51) rfl rfl ?_
        exact kt
      obtain ⟨T39, X39, e39, st39⟩ := getF X38 hx hZ hown (host := "") (Or.inl (hw _ (List.mem_of_getElem? (i := 25) rfl))) Via.refl e38 P1 (g := (mkF m 52 #[.val (.ref r0), .val (.long j1), .second, .val (.int i2), .val (.long (own_v5_38_20 j1 i2 wd lb)), .second, .val (.int (16 : Int32))] [(.ref r0), (.long (own_v5_38_20 j1 i2 wd lb))])) rfl rfl (hb hby own_d5_52)
      refine ownE.go (T' := T39) (f' := (mkF m 55 #[.val (.ref r0), .val (.long j1), .second, .val (.int i2), .val (.long (own_v5_38_20 j1 i2 wd lb)), .second, .val (.int (16 : Int32))] [(.long lb), (.long (own_v5_38_20 j1 i2 wd lb))])) st39 ?_
      refine ownE.go (T' := T39) (f' := (mkF m 56 #[.val (.ref r0), .val (.long j1), .second, .val (.int i2), .val (.long (own_v5_38_20 j1 i2 wd lb)), .second, .val (.int (16 : Int32))] [(.long ((own_v5_38_20 j1 i2 wd lb) &&& lb))])) (fun t kt => ?_) ?_
      · show Steps p.tables e below (T39.setTop (mkF m 55 #[.val (.ref r0), .val (.long j1), .second, .val (.int i2), .val (.long (own_v5_38_20 j1 i2 wd lb)), .second, .val (.int (16 : Int32))] [(.long lb), (.long (own_v5_38_20 j1 i2 wd lb))])) _
        refine XS.land X39.here hx rfl (hb hby own_d5_55) rfl ?_
        exact kt
      refine ownE.retL X39 hx hlk hret (hb hby own_d5_56) ?_ (by decide) (by decide)
      show own_Q5 Z r0 j1 i2 wd lb h0 n0 _ T39.heap _
      rw [e39]
      exact ⟨(by rw [own_fold, if_neg hk1_0, if_neg hk1_1, if_neg hk1_2, if_neg hk1_3, if_pos hk1, if_neg hc29] <;> first | rfl | decide), N0, rfl⟩
  · -- wd = 32
    have P0_k1 : Fld Z h0 r0 "com/example/upper_falls/upperfalls/CellWords" "width" "I" (.int (32 : Int32)) := by
      have q := P0
      rw [hk1] at q
      exact q
    have hk1_0 : ¬ wd = (1 : Int32) := by rw [hk1]; decide
    have hk1_1 : ¬ wd = (2 : Int32) := by rw [hk1]; decide
    have hk1_2 : ¬ wd = (4 : Int32) := by rw [hk1]; decide
    have hk1_3 : ¬ wd = (8 : Int32) := by rw [hk1]; decide
    have hk1_4 : ¬ wd = (16 : Int32) := by rw [hk1]; decide
    refine ownE.go (T' := s₁) (f' := (mkF m 9 #[.val (.ref r0), .val (.long j1), .second, .val (.int i2), .val (.long j1), .second, .val (.int (1 : Int32))] [(.ref r0), (.int (1 : Int32))])) (fun t kt => ?_) ?_
    · show Steps p.tables e below (s₁.setTop (mkF m 0 #[.val (.ref r0), .val (.long j1), .second, .val (.int i2), .unset, .unset, .unset] [])) _
      refine XS.lloadN X0.here hx rfl (hb hby own_d5_0) rfl ?_
      show Steps p.tables e below (s₁.setTop (mkF m 1 #[.val (.ref r0), .val (.long j1), .second, .val (.int i2), .unset, .unset, .unset] [(.long j1)])) _
      refine XS.lstore X0.here hx rfl (hb hby own_d5_1) rfl (l' := #[.val (.ref r0), .val (.long j1), .second, .val (.int i2), .val (.long j1), .second, .unset]) rfl ?_
      show Steps p.tables e below (s₁.setTop (mkF m 3 #[.val (.ref r0), .val (.long j1), .second, .val (.int i2), .val (.long j1), .second, .unset] [])) _
      refine XS.iconst X0.here hx rfl (hb hby own_d5_3) ?_
      show Steps p.tables e below (s₁.setTop (mkF m 4 #[.val (.ref r0), .val (.long j1), .second, .val (.int i2), .val (.long j1), .second, .unset] [(.int (1 : Int32))])) _
      refine XS.istore X0.here hx rfl (hb hby own_d5_4) rfl (l' := #[.val (.ref r0), .val (.long j1), .second, .val (.int i2), .val (.long j1), .second, .val (.int (1 : Int32))]) rfl ?_
      show Steps p.tables e below (s₁.setTop (mkF m 6 #[.val (.ref r0), .val (.long j1), .second, .val (.int i2), .val (.long j1), .second, .val (.int (1 : Int32))] [])) _
      refine XS.iload X0.here hx rfl (hb hby own_d5_6) rfl ?_
      show Steps p.tables e below (s₁.setTop (mkF m 8 #[.val (.ref r0), .val (.long j1), .second, .val (.int i2), .val (.long j1), .second, .val (.int (1 : Int32))] [(.int (1 : Int32))])) _
      refine XS.aloadN X0.here hx rfl (hb hby own_d5_8) rfl rfl ?_
      exact kt
    obtain ⟨T40, X40, e40, st40⟩ := getF X0 hx hZ hown (host := "") (Or.inl (hw _ (List.mem_of_getElem? (i := 15) rfl))) Via.refl e0 P0_k1 (g := (mkF m 9 #[.val (.ref r0), .val (.long j1), .second, .val (.int i2), .val (.long j1), .second, .val (.int (1 : Int32))] [(.ref r0), (.int (1 : Int32))])) rfl rfl (hb hby own_d5_9)
    refine ownE.go (T' := T40) (f' := (mkF m 12 #[.val (.ref r0), .val (.long j1), .second, .val (.int i2), .val (.long j1), .second, .val (.int (1 : Int32))] [(.int (32 : Int32)), (.int (1 : Int32))])) st40 ?_
    refine ownE.go (T' := T40) (f' := (mkF m 15 #[.val (.ref r0), .val (.long j1), .second, .val (.int i2), .val (.long j1), .second, .val (.int (1 : Int32))] [])) (fun t kt => XS.icmpNo (g := (mkF m 12 #[.val (.ref r0), .val (.long j1), .second, .val (.int i2), .val (.long j1), .second, .val (.int (1 : Int32))] [(.int (32 : Int32)), (.int (1 : Int32))])) X40.here hx rfl (hb hby own_d5_12) rfl (Jvm.Free.XT.ii_ge_f (by decide)) kt) ?_
    refine ownE.go (T' := T40) (f' := (mkF m 16 #[.val (.ref r0), .val (.long j1), .second, .val (.int i2), .val (.long j1), .second, .val (.int (1 : Int32))] [(.int i2)])) (fun t kt => ?_) ?_
    · show Steps p.tables e below (T40.setTop (mkF m 15 #[.val (.ref r0), .val (.long j1), .second, .val (.int i2), .val (.long j1), .second, .val (.int (1 : Int32))] [])) _
      refine XS.iloadN X40.here hx rfl (hb hby own_d5_15) rfl ?_
      exact kt
    by_cases hc41 : i2 = (0 : Int32)
    · -- pc 16
      refine ownE.go (T' := T40) (f' := (mkF m 30 #[.val (.ref r0), .val (.long j1), .second, .val (.int i2), .val (.long j1), .second, .val (.int (1 : Int32))] [])) (fun t kt => XS.ifYes (g := (mkF m 16 #[.val (.ref r0), .val (.long j1), .second, .val (.int i2), .val (.long j1), .second, .val (.int (1 : Int32))] [(.int i2)])) X40.here hx rfl (pc0 := 16) (pc' := 30) rfl (hb hby own_d5_16) rfl (Jvm.Free.XT.i0_eq_t hc41) (by decide) (by decide) kt) ?_
      refine ownE.go (T' := T40) (f' := (mkF m 9 #[.val (.ref r0), .val (.long j1), .second, .val (.int i2), .val (.long (own_v5_38_21 j1 i2 wd lb)), .second, .val (.int (2 : Int32))] [(.ref r0), (.int (2 : Int32))])) (fun t kt => ?_) ?_
      · show Steps p.tables e below (T40.setTop (mkF m 30 #[.val (.ref r0), .val (.long j1), .second, .val (.int i2), .val (.long j1), .second, .val (.int (1 : Int32))] [])) _
        refine XS.lload X40.here hx rfl (hb hby own_d5_30) rfl ?_
        show Steps p.tables e below (T40.setTop (mkF m 32 #[.val (.ref r0), .val (.long j1), .second, .val (.int i2), .val (.long j1), .second, .val (.int (1 : Int32))] [(.long j1)])) _
        refine XS.lload X40.here hx rfl (hb hby own_d5_32) rfl ?_
        show Steps p.tables e below (T40.setTop (mkF m 34 #[.val (.ref r0), .val (.long j1), .second, .val (.int i2), .val (.long j1), .second, .val (.int (1 : Int32))] [(.long j1), (.long j1)])) _
        refine XS.iload X40.here hx rfl (hb hby own_d5_34) rfl ?_
        show Steps p.tables e below (T40.setTop (mkF m 36 #[.val (.ref r0), .val (.long j1), .second, .val (.int i2), .val (.long j1), .second, .val (.int (1 : Int32))] [(.int (1 : Int32)), (.long j1), (.long j1)])) _
        refine XS.lushr X40.here hx rfl (hb hby own_d5_36) rfl ?_
        show Steps p.tables e below (T40.setTop (mkF m 37 #[.val (.ref r0), .val (.long j1), .second, .val (.int i2), .val (.long j1), .second, .val (.int (1 : Int32))] [(.long ((j1.toUInt64 >>> ((1 : Int32) &&& 0x3f).toInt64.toUInt64).toInt64)), (.long j1)])) _
        refine XS.lor X40.here hx rfl (hb hby own_d5_37) rfl ?_
        show Steps p.tables e below (T40.setTop (mkF m 38 #[.val (.ref r0), .val (.long j1), .second, .val (.int i2), .val (.long j1), .second, .val (.int (1 : Int32))] [(.long (j1 ||| ((j1.toUInt64 >>> ((1 : Int32) &&& 0x3f).toInt64.toUInt64).toInt64)))])) _
        refine XS.lstore X40.here hx rfl (hb hby own_d5_38) rfl (l' := #[.val (.ref r0), .val (.long j1), .second, .val (.int i2), .val (.long (own_v5_38_21 j1 i2 wd lb)), .second, .val (.int (1 : Int32))]) rfl ?_
        show Steps p.tables e below (T40.setTop (mkF m 40 #[.val (.ref r0), .val (.long j1), .second, .val (.int i2), .val (.long (own_v5_38_21 j1 i2 wd lb)), .second, .val (.int (1 : Int32))] [])) _
        refine XS.iload X40.here hx rfl (hb hby own_d5_40) rfl ?_
        show Steps p.tables e below (T40.setTop (mkF m 42 #[.val (.ref r0), .val (.long j1), .second, .val (.int i2), .val (.long (own_v5_38_21 j1 i2 wd lb)), .second, .val (.int (1 : Int32))] [(.int (1 : Int32))])) _
        refine XS.iconst X40.here hx rfl (hb hby own_d5_42) ?_
        show Steps p.tables e below (T40.setTop (mkF m 43 #[.val (.ref r0), .val (.long j1), .second, .val (.int i2), .val (.long (own_v5_38_21 j1 i2 wd lb)), .second, .val (.int (1 : Int32))] [(.int (1 : Int32)), (.int (1 : Int32))])) _
        refine XS.ishl X40.here hx rfl (hb hby own_d5_43) rfl ?_
        show Steps p.tables e below (T40.setTop (mkF m 44 #[.val (.ref r0), .val (.long j1), .second, .val (.int i2), .val (.long (own_v5_38_21 j1 i2 wd lb)), .second, .val (.int (1 : Int32))] [(.int (2 : Int32))])) _
        refine XS.istore X40.here hx rfl (hb hby own_d5_44) rfl (l' := #[.val (.ref r0), .val (.long j1), .second, .val (.int i2), .val (.long (own_v5_38_21 j1 i2 wd lb)), .second, .val (.int (2 : Int32))]) rfl ?_
        show Steps p.tables e below (T40.setTop (mkF m 46 #[.val (.ref r0), .val (.long j1), .second, .val (.int i2), .val (.long (own_v5_38_21 j1 i2 wd lb)), .second, .val (.int (2 : Int32))] [])) _
        refine XS.goto X40.here hx rfl (pc0 := 46) (pc' := 6) rfl (hb hby own_d5_46) (by decide) (by decide) ?_
        show Steps p.tables e below (T40.setTop (mkF m 6 #[.val (.ref r0), .val (.long j1), .second, .val (.int i2), .val (.long (own_v5_38_21 j1 i2 wd lb)), .second, .val (.int (2 : Int32))] [])) _
        refine XS.iload X40.here hx rfl (hb hby own_d5_6) rfl ?_
        show Steps p.tables e below (T40.setTop (mkF m 8 #[.val (.ref r0), .val (.long j1), .second, .val (.int i2), .val (.long (own_v5_38_21 j1 i2 wd lb)), .second, .val (.int (2 : Int32))] [(.int (2 : Int32))])) _
        refine XS.aloadN X40.here hx rfl (hb hby own_d5_8) rfl rfl ?_
        exact kt
      obtain ⟨T42, X42, e42, st42⟩ := getF X40 hx hZ hown (host := "") (Or.inl (hw _ (List.mem_of_getElem? (i := 15) rfl))) Via.refl e40 P0_k1 (g := (mkF m 9 #[.val (.ref r0), .val (.long j1), .second, .val (.int i2), .val (.long (own_v5_38_21 j1 i2 wd lb)), .second, .val (.int (2 : Int32))] [(.ref r0), (.int (2 : Int32))])) rfl rfl (hb hby own_d5_9)
      refine ownE.go (T' := T42) (f' := (mkF m 12 #[.val (.ref r0), .val (.long j1), .second, .val (.int i2), .val (.long (own_v5_38_21 j1 i2 wd lb)), .second, .val (.int (2 : Int32))] [(.int (32 : Int32)), (.int (2 : Int32))])) st42 ?_
      refine ownE.go (T' := T42) (f' := (mkF m 15 #[.val (.ref r0), .val (.long j1), .second, .val (.int i2), .val (.long (own_v5_38_21 j1 i2 wd lb)), .second, .val (.int (2 : Int32))] [])) (fun t kt => XS.icmpNo (g := (mkF m 12 #[.val (.ref r0), .val (.long j1), .second, .val (.int i2), .val (.long (own_v5_38_21 j1 i2 wd lb)), .second, .val (.int (2 : Int32))] [(.int (32 : Int32)), (.int (2 : Int32))])) X42.here hx rfl (hb hby own_d5_12) rfl (Jvm.Free.XT.ii_ge_f (by decide)) kt) ?_
      refine ownE.go (T' := T42) (f' := (mkF m 16 #[.val (.ref r0), .val (.long j1), .second, .val (.int i2), .val (.long (own_v5_38_21 j1 i2 wd lb)), .second, .val (.int (2 : Int32))] [(.int i2)])) (fun t kt => ?_) ?_
      · show Steps p.tables e below (T42.setTop (mkF m 15 #[.val (.ref r0), .val (.long j1), .second, .val (.int i2), .val (.long (own_v5_38_21 j1 i2 wd lb)), .second, .val (.int (2 : Int32))] [])) _
        refine XS.iloadN X42.here hx rfl (hb hby own_d5_15) rfl ?_
        exact kt
      refine ownE.go (T' := T42) (f' := (mkF m 30 #[.val (.ref r0), .val (.long j1), .second, .val (.int i2), .val (.long (own_v5_38_21 j1 i2 wd lb)), .second, .val (.int (2 : Int32))] [])) (fun t kt => XS.ifYes (g := (mkF m 16 #[.val (.ref r0), .val (.long j1), .second, .val (.int i2), .val (.long (own_v5_38_21 j1 i2 wd lb)), .second, .val (.int (2 : Int32))] [(.int i2)])) X42.here hx rfl (pc0 := 16) (pc' := 30) rfl (hb hby own_d5_16) rfl (Jvm.Free.XT.i0_eq_t hc41) (by decide) (by decide) kt) ?_
      refine ownE.go (T' := T42) (f' := (mkF m 9 #[.val (.ref r0), .val (.long j1), .second, .val (.int i2), .val (.long (own_v5_38_22 j1 i2 wd lb)), .second, .val (.int (4 : Int32))] [(.ref r0), (.int (4 : Int32))])) (fun t kt => ?_) ?_
      · show Steps p.tables e below (T42.setTop (mkF m 30 #[.val (.ref r0), .val (.long j1), .second, .val (.int i2), .val (.long (own_v5_38_21 j1 i2 wd lb)), .second, .val (.int (2 : Int32))] [])) _
        refine XS.lload X42.here hx rfl (hb hby own_d5_30) rfl ?_
        show Steps p.tables e below (T42.setTop (mkF m 32 #[.val (.ref r0), .val (.long j1), .second, .val (.int i2), .val (.long (own_v5_38_21 j1 i2 wd lb)), .second, .val (.int (2 : Int32))] [(.long (own_v5_38_21 j1 i2 wd lb))])) _
        refine XS.lload X42.here hx rfl (hb hby own_d5_32) rfl ?_
        show Steps p.tables e below (T42.setTop (mkF m 34 #[.val (.ref r0), .val (.long j1), .second, .val (.int i2), .val (.long (own_v5_38_21 j1 i2 wd lb)), .second, .val (.int (2 : Int32))] [(.long (own_v5_38_21 j1 i2 wd lb)), (.long (own_v5_38_21 j1 i2 wd lb))])) _
        refine XS.iload X42.here hx rfl (hb hby own_d5_34) rfl ?_
        show Steps p.tables e below (T42.setTop (mkF m 36 #[.val (.ref r0), .val (.long j1), .second, .val (.int i2), .val (.long (own_v5_38_21 j1 i2 wd lb)), .second, .val (.int (2 : Int32))] [(.int (2 : Int32)), (.long (own_v5_38_21 j1 i2 wd lb)), (.long (own_v5_38_21 j1 i2 wd lb))])) _
        refine XS.lushr X42.here hx rfl (hb hby own_d5_36) rfl ?_
        show Steps p.tables e below (T42.setTop (mkF m 37 #[.val (.ref r0), .val (.long j1), .second, .val (.int i2), .val (.long (own_v5_38_21 j1 i2 wd lb)), .second, .val (.int (2 : Int32))] [(.long (((own_v5_38_21 j1 i2 wd lb).toUInt64 >>> ((2 : Int32) &&& 0x3f).toInt64.toUInt64).toInt64)), (.long (own_v5_38_21 j1 i2 wd lb))])) _
        refine XS.lor X42.here hx rfl (hb hby own_d5_37) rfl ?_
        show Steps p.tables e below (T42.setTop (mkF m 38 #[.val (.ref r0), .val (.long j1), .second, .val (.int i2), .val (.long (own_v5_38_21 j1 i2 wd lb)), .second, .val (.int (2 : Int32))] [(.long ((own_v5_38_21 j1 i2 wd lb) ||| (((own_v5_38_21 j1 i2 wd lb).toUInt64 >>> ((2 : Int32) &&& 0x3f).toInt64.toUInt64).toInt64)))])) _
        refine XS.lstore X42.here hx rfl (hb hby own_d5_38) rfl (l' := #[.val (.ref r0), .val (.long j1), .second, .val (.int i2), .val (.long (own_v5_38_22 j1 i2 wd lb)), .second, .val (.int (2 : Int32))]) rfl ?_
        show Steps p.tables e below (T42.setTop (mkF m 40 #[.val (.ref r0), .val (.long j1), .second, .val (.int i2), .val (.long (own_v5_38_22 j1 i2 wd lb)), .second, .val (.int (2 : Int32))] [])) _
        refine XS.iload X42.here hx rfl (hb hby own_d5_40) rfl ?_
        show Steps p.tables e below (T42.setTop (mkF m 42 #[.val (.ref r0), .val (.long j1), .second, .val (.int i2), .val (.long (own_v5_38_22 j1 i2 wd lb)), .second, .val (.int (2 : Int32))] [(.int (2 : Int32))])) _
        refine XS.iconst X42.here hx rfl (hb hby own_d5_42) ?_
        show Steps p.tables e below (T42.setTop (mkF m 43 #[.val (.ref r0), .val (.long j1), .second, .val (.int i2), .val (.long (own_v5_38_22 j1 i2 wd lb)), .second, .val (.int (2 : Int32))] [(.int (1 : Int32)), (.int (2 : Int32))])) _
        refine XS.ishl X42.here hx rfl (hb hby own_d5_43) rfl ?_
        show Steps p.tables e below (T42.setTop (mkF m 44 #[.val (.ref r0), .val (.long j1), .second, .val (.int i2), .val (.long (own_v5_38_22 j1 i2 wd lb)), .second, .val (.int (2 : Int32))] [(.int (4 : Int32))])) _
        refine XS.istore X42.here hx rfl (hb hby own_d5_44) rfl (l' := #[.val (.ref r0), .val (.long j1), .second, .val (.int i2), .val (.long (own_v5_38_22 j1 i2 wd lb)), .second, .val (.int (4 : Int32))]) rfl ?_
        show Steps p.tables e below (T42.setTop (mkF m 46 #[.val (.ref r0), .val (.long j1), .second, .val (.int i2), .val (.long (own_v5_38_22 j1 i2 wd lb)), .second, .val (.int (4 : Int32))] [])) _
        refine XS.goto X42.here hx rfl (pc0 := 46) (pc' := 6) rfl (hb hby own_d5_46) (by decide) (by decide) ?_
        show Steps p.tables e below (T42.setTop (mkF m 6 #[.val (.ref r0), .val (.long j1), .second, .val (.int i2), .val (.long (own_v5_38_22 j1 i2 wd lb)), .second, .val (.int (4 : Int32))] [])) _
        refine XS.iload X42.here hx rfl (hb hby own_d5_6) rfl ?_
        show Steps p.tables e below (T42.setTop (mkF m 8 #[.val (.ref r0), .val (.long j1), .second, .val (.int i2), .val (.long (own_v5_38_22 j1 i2 wd lb)), .second, .val (.int (4 : Int32))] [(.int (4 : Int32))])) _
        refine XS.aloadN X42.here hx rfl (hb hby own_d5_8) rfl rfl ?_
        exact kt
      obtain ⟨T43, X43, e43, st43⟩ := getF X42 hx hZ hown (host := "") (Or.inl (hw _ (List.mem_of_getElem? (i := 15) rfl))) Via.refl e42 P0_k1 (g := (mkF m 9 #[.val (.ref r0), .val (.long j1), .second, .val (.int i2), .val (.long (own_v5_38_22 j1 i2 wd lb)), .second, .val (.int (4 : Int32))] [(.ref r0), (.int (4 : Int32))])) rfl rfl (hb hby own_d5_9)
      refine ownE.go (T' := T43) (f' := (mkF m 12 #[.val (.ref r0), .val (.long j1), .second, .val (.int i2), .val (.long (own_v5_38_22 j1 i2 wd lb)), .second, .val (.int (4 : Int32))] [(.int (32 : Int32)), (.int (4 : Int32))])) st43 ?_
      refine ownE.go (T' := T43) (f' := (mkF m 15 #[.val (.ref r0), .val (.long j1), .second, .val (.int i2), .val (.long (own_v5_38_22 j1 i2 wd lb)), .second, .val (.int (4 : Int32))] [])) (fun t kt => XS.icmpNo (g := (mkF m 12 #[.val (.ref r0), .val (.long j1), .second, .val (.int i2), .val (.long (own_v5_38_22 j1 i2 wd lb)), .second, .val (.int (4 : Int32))] [(.int (32 : Int32)), (.int (4 : Int32))])) X43.here hx rfl (hb hby own_d5_12) rfl (Jvm.Free.XT.ii_ge_f (by decide)) kt) ?_
      refine ownE.go (T' := T43) (f' := (mkF m 16 #[.val (.ref r0), .val (.long j1), .second, .val (.int i2), .val (.long (own_v5_38_22 j1 i2 wd lb)), .second, .val (.int (4 : Int32))] [(.int i2)])) (fun t kt => ?_) ?_
      · show Steps p.tables e below (T43.setTop (mkF m 15 #[.val (.ref r0), .val (.long j1), .second, .val (.int i2), .val (.long (own_v5_38_22 j1 i2 wd lb)), .second, .val (.int (4 : Int32))] [])) _
        refine XS.iloadN X43.here hx rfl (hb hby own_d5_15) rfl ?_
        exact kt
      refine ownE.go (T' := T43) (f' := (mkF m 30 #[.val (.ref r0), .val (.long j1), .second, .val (.int i2), .val (.long (own_v5_38_22 j1 i2 wd lb)), .second, .val (.int (4 : Int32))] [])) (fun t kt => XS.ifYes (g := (mkF m 16 #[.val (.ref r0), .val (.long j1), .second, .val (.int i2), .val (.long (own_v5_38_22 j1 i2 wd lb)), .second, .val (.int (4 : Int32))] [(.int i2)])) X43.here hx rfl (pc0 := 16) (pc' := 30) rfl (hb hby own_d5_16) rfl (Jvm.Free.XT.i0_eq_t hc41) (by decide) (by decide) kt) ?_
      refine ownE.go (T' := T43) (f' := (mkF m 9 #[.val (.ref r0), .val (.long j1), .second, .val (.int i2), .val (.long (own_v5_38_23 j1 i2 wd lb)), .second, .val (.int (8 : Int32))] [(.ref r0), (.int (8 : Int32))])) (fun t kt => ?_) ?_
      · show Steps p.tables e below (T43.setTop (mkF m 30 #[.val (.ref r0), .val (.long j1), .second, .val (.int i2), .val (.long (own_v5_38_22 j1 i2 wd lb)), .second, .val (.int (4 : Int32))] [])) _
        refine XS.lload X43.here hx rfl (hb hby own_d5_30) rfl ?_
        show Steps p.tables e below (T43.setTop (mkF m 32 #[.val (.ref r0), .val (.long j1), .second, .val (.int i2), .val (.long (own_v5_38_22 j1 i2 wd lb)), .second, .val (.int (4 : Int32))] [(.long (own_v5_38_22 j1 i2 wd lb))])) _
        refine XS.lload X43.here hx rfl (hb hby own_d5_32) rfl ?_
        show Steps p.tables e below (T43.setTop (mkF m 34 #[.val (.ref r0), .val (.long j1), .second, .val (.int i2), .val (.long (own_v5_38_22 j1 i2 wd lb)), .second, .val (.int (4 : Int32))] [(.long (own_v5_38_22 j1 i2 wd lb)), (.long (own_v5_38_22 j1 i2 wd lb))])) _
        refine XS.iload X43.here hx rfl (hb hby own_d5_34) rfl ?_
        show Steps p.tables e below (T43.setTop (mkF m 36 #[.val (.ref r0), .val (.long j1), .second, .val (.int i2), .val (.long (own_v5_38_22 j1 i2 wd lb)), .second, .val (.int (4 : Int32))] [(.int (4 : Int32)), (.long (own_v5_38_22 j1 i2 wd lb)), (.long (own_v5_38_22 j1 i2 wd lb))])) _
        refine XS.lushr X43.here hx rfl (hb hby own_d5_36) rfl ?_
        show Steps p.tables e below (T43.setTop (mkF m 37 #[.val (.ref r0), .val (.long j1), .second, .val (.int i2), .val (.long (own_v5_38_22 j1 i2 wd lb)), .second, .val (.int (4 : Int32))] [(.long (((own_v5_38_22 j1 i2 wd lb).toUInt64 >>> ((4 : Int32) &&& 0x3f).toInt64.toUInt64).toInt64)), (.long (own_v5_38_22 j1 i2 wd lb))])) _
        refine XS.lor X43.here hx rfl (hb hby own_d5_37) rfl ?_
        show Steps p.tables e below (T43.setTop (mkF m 38 #[.val (.ref r0), .val (.long j1), .second, .val (.int i2), .val (.long (own_v5_38_22 j1 i2 wd lb)), .second, .val (.int (4 : Int32))] [(.long ((own_v5_38_22 j1 i2 wd lb) ||| (((own_v5_38_22 j1 i2 wd lb).toUInt64 >>> ((4 : Int32) &&& 0x3f).toInt64.toUInt64).toInt64)))])) _
        refine XS.lstore X43.here hx rfl (hb hby own_d5_38) rfl (l' := #[.val (.ref r0), .val (.long j1), .second, .val (.int i2), .val (.long (own_v5_38_23 j1 i2 wd lb)), .second, .val (.int (4 : Int32))]) rfl ?_
        show Steps p.tables e below (T43.setTop (mkF m 40 #[.val (.ref r0), .val (.long j1), .second, .val (.int i2), .val (.long (own_v5_38_23 j1 i2 wd lb)), .second, .val (.int (4 : Int32))] [])) _
        refine XS.iload X43.here hx rfl (hb hby own_d5_40) rfl ?_
        show Steps p.tables e below (T43.setTop (mkF m 42 #[.val (.ref r0), .val (.long j1), .second, .val (.int i2), .val (.long (own_v5_38_23 j1 i2 wd lb)), .second, .val (.int (4 : Int32))] [(.int (4 : Int32))])) _
        refine XS.iconst X43.here hx rfl (hb hby own_d5_42) ?_
        show Steps p.tables e below (T43.setTop (mkF m 43 #[.val (.ref r0), .val (.long j1), .second, .val (.int i2), .val (.long (own_v5_38_23 j1 i2 wd lb)), .second, .val (.int (4 : Int32))] [(.int (1 : Int32)), (.int (4 : Int32))])) _
        refine XS.ishl X43.here hx rfl (hb hby own_d5_43) rfl ?_
        show Steps p.tables e below (T43.setTop (mkF m 44 #[.val (.ref r0), .val (.long j1), .second, .val (.int i2), .val (.long (own_v5_38_23 j1 i2 wd lb)), .second, .val (.int (4 : Int32))] [(.int (8 : Int32))])) _
        refine XS.istore X43.here hx rfl (hb hby own_d5_44) rfl (l' := #[.val (.ref r0), .val (.long j1), .second, .val (.int i2), .val (.long (own_v5_38_23 j1 i2 wd lb)), .second, .val (.int (8 : Int32))]) rfl ?_
        show Steps p.tables e below (T43.setTop (mkF m 46 #[.val (.ref r0), .val (.long j1), .second, .val (.int i2), .val (.long (own_v5_38_23 j1 i2 wd lb)), .second, .val (.int (8 : Int32))] [])) _
        refine XS.goto X43.here hx rfl (pc0 := 46) (pc' := 6) rfl (hb hby own_d5_46) (by decide) (by decide) ?_
        show Steps p.tables e below (T43.setTop (mkF m 6 #[.val (.ref r0), .val (.long j1), .second, .val (.int i2), .val (.long (own_v5_38_23 j1 i2 wd lb)), .second, .val (.int (8 : Int32))] [])) _
        refine XS.iload X43.here hx rfl (hb hby own_d5_6) rfl ?_
        show Steps p.tables e below (T43.setTop (mkF m 8 #[.val (.ref r0), .val (.long j1), .second, .val (.int i2), .val (.long (own_v5_38_23 j1 i2 wd lb)), .second, .val (.int (8 : Int32))] [(.int (8 : Int32))])) _
        refine XS.aloadN X43.here hx rfl (hb hby own_d5_8) rfl rfl ?_
        exact kt
      obtain ⟨T44, X44, e44, st44⟩ := getF X43 hx hZ hown (host := "") (Or.inl (hw _ (List.mem_of_getElem? (i := 15) rfl))) Via.refl e43 P0_k1 (g := (mkF m 9 #[.val (.ref r0), .val (.long j1), .second, .val (.int i2), .val (.long (own_v5_38_23 j1 i2 wd lb)), .second, .val (.int (8 : Int32))] [(.ref r0), (.int (8 : Int32))])) rfl rfl (hb hby own_d5_9)
      refine ownE.go (T' := T44) (f' := (mkF m 12 #[.val (.ref r0), .val (.long j1), .second, .val (.int i2), .val (.long (own_v5_38_23 j1 i2 wd lb)), .second, .val (.int (8 : Int32))] [(.int (32 : Int32)), (.int (8 : Int32))])) st44 ?_
      refine ownE.go (T' := T44) (f' := (mkF m 15 #[.val (.ref r0), .val (.long j1), .second, .val (.int i2), .val (.long (own_v5_38_23 j1 i2 wd lb)), .second, .val (.int (8 : Int32))] [])) (fun t kt => XS.icmpNo (g := (mkF m 12 #[.val (.ref r0), .val (.long j1), .second, .val (.int i2), .val (.long (own_v5_38_23 j1 i2 wd lb)), .second, .val (.int (8 : Int32))] [(.int (32 : Int32)), (.int (8 : Int32))])) X44.here hx rfl (hb hby own_d5_12) rfl (Jvm.Free.XT.ii_ge_f (by decide)) kt) ?_
      refine ownE.go (T' := T44) (f' := (mkF m 16 #[.val (.ref r0), .val (.long j1), .second, .val (.int i2), .val (.long (own_v5_38_23 j1 i2 wd lb)), .second, .val (.int (8 : Int32))] [(.int i2)])) (fun t kt => ?_) ?_
      · show Steps p.tables e below (T44.setTop (mkF m 15 #[.val (.ref r0), .val (.long j1), .second, .val (.int i2), .val (.long (own_v5_38_23 j1 i2 wd lb)), .second, .val (.int (8 : Int32))] [])) _
        refine XS.iloadN X44.here hx rfl (hb hby own_d5_15) rfl ?_
        exact kt
      refine ownE.go (T' := T44) (f' := (mkF m 30 #[.val (.ref r0), .val (.long j1), .second, .val (.int i2), .val (.long (own_v5_38_23 j1 i2 wd lb)), .second, .val (.int (8 : Int32))] [])) (fun t kt => XS.ifYes (g := (mkF m 16 #[.val (.ref r0), .val (.long j1), .second, .val (.int i2), .val (.long (own_v5_38_23 j1 i2 wd lb)), .second, .val (.int (8 : Int32))] [(.int i2)])) X44.here hx rfl (pc0 := 16) (pc' := 30) rfl (hb hby own_d5_16) rfl (Jvm.Free.XT.i0_eq_t hc41) (by decide) (by decide) kt) ?_
      refine ownE.go (T' := T44) (f' := (mkF m 9 #[.val (.ref r0), .val (.long j1), .second, .val (.int i2), .val (.long (own_v5_38_24 j1 i2 wd lb)), .second, .val (.int (16 : Int32))] [(.ref r0), (.int (16 : Int32))])) (fun t kt => ?_) ?_
      · show Steps p.tables e below (T44.setTop (mkF m 30 #[.val (.ref r0), .val (.long j1), .second, .val (.int i2), .val (.long (own_v5_38_23 j1 i2 wd lb)), .second, .val (.int (8 : Int32))] [])) _
        refine XS.lload X44.here hx rfl (hb hby own_d5_30) rfl ?_
        show Steps p.tables e below (T44.setTop (mkF m 32 #[.val (.ref r0), .val (.long j1), .second, .val (.int i2), .val (.long (own_v5_38_23 j1 i2 wd lb)), .second, .val (.int (8 : Int32))] [(.long (own_v5_38_23 j1 i2 wd lb))])) _
        refine XS.lload X44.here hx rfl (hb hby own_d5_32) rfl ?_
        show Steps p.tables e below (T44.setTop (mkF m 34 #[.val (.ref r0), .val (.long j1), .second, .val (.int i2), .val (.long (own_v5_38_23 j1 i2 wd lb)), .second, .val (.int (8 : Int32))] [(.long (own_v5_38_23 j1 i2 wd lb)), (.long (own_v5_38_23 j1 i2 wd lb))])) _
        refine XS.iload X44.here hx rfl (hb hby own_d5_34) rfl ?_
        show Steps p.tables e below (T44.setTop (mkF m 36 #[.val (.ref r0), .val (.long j1), .second, .val (.int i2), .val (.long (own_v5_38_23 j1 i2 wd lb)), .second, .val (.int (8 : Int32))] [(.int (8 : Int32)), (.long (own_v5_38_23 j1 i2 wd lb)), (.long (own_v5_38_23 j1 i2 wd lb))])) _
        refine XS.lushr X44.here hx rfl (hb hby own_d5_36) rfl ?_
        show Steps p.tables e below (T44.setTop (mkF m 37 #[.val (.ref r0), .val (.long j1), .second, .val (.int i2), .val (.long (own_v5_38_23 j1 i2 wd lb)), .second, .val (.int (8 : Int32))] [(.long (((own_v5_38_23 j1 i2 wd lb).toUInt64 >>> ((8 : Int32) &&& 0x3f).toInt64.toUInt64).toInt64)), (.long (own_v5_38_23 j1 i2 wd lb))])) _
        refine XS.lor X44.here hx rfl (hb hby own_d5_37) rfl ?_
        show Steps p.tables e below (T44.setTop (mkF m 38 #[.val (.ref r0), .val (.long j1), .second, .val (.int i2), .val (.long (own_v5_38_23 j1 i2 wd lb)), .second, .val (.int (8 : Int32))] [(.long ((own_v5_38_23 j1 i2 wd lb) ||| (((own_v5_38_23 j1 i2 wd lb).toUInt64 >>> ((8 : Int32) &&& 0x3f).toInt64.toUInt64).toInt64)))])) _
        refine XS.lstore X44.here hx rfl (hb hby own_d5_38) rfl (l' := #[.val (.ref r0), .val (.long j1), .second, .val (.int i2), .val (.long (own_v5_38_24 j1 i2 wd lb)), .second, .val (.int (8 : Int32))]) rfl ?_
        show Steps p.tables e below (T44.setTop (mkF m 40 #[.val (.ref r0), .val (.long j1), .second, .val (.int i2), .val (.long (own_v5_38_24 j1 i2 wd lb)), .second, .val (.int (8 : Int32))] [])) _
        refine XS.iload X44.here hx rfl (hb hby own_d5_40) rfl ?_
        show Steps p.tables e below (T44.setTop (mkF m 42 #[.val (.ref r0), .val (.long j1), .second, .val (.int i2), .val (.long (own_v5_38_24 j1 i2 wd lb)), .second, .val (.int (8 : Int32))] [(.int (8 : Int32))])) _
        refine XS.iconst X44.here hx rfl (hb hby own_d5_42) ?_
        show Steps p.tables e below (T44.setTop (mkF m 43 #[.val (.ref r0), .val (.long j1), .second, .val (.int i2), .val (.long (own_v5_38_24 j1 i2 wd lb)), .second, .val (.int (8 : Int32))] [(.int (1 : Int32)), (.int (8 : Int32))])) _
        refine XS.ishl X44.here hx rfl (hb hby own_d5_43) rfl ?_
        show Steps p.tables e below (T44.setTop (mkF m 44 #[.val (.ref r0), .val (.long j1), .second, .val (.int i2), .val (.long (own_v5_38_24 j1 i2 wd lb)), .second, .val (.int (8 : Int32))] [(.int (16 : Int32))])) _
        refine XS.istore X44.here hx rfl (hb hby own_d5_44) rfl (l' := #[.val (.ref r0), .val (.long j1), .second, .val (.int i2), .val (.long (own_v5_38_24 j1 i2 wd lb)), .second, .val (.int (16 : Int32))]) rfl ?_
        show Steps p.tables e below (T44.setTop (mkF m 46 #[.val (.ref r0), .val (.long j1), .second, .val (.int i2), .val (.long (own_v5_38_24 j1 i2 wd lb)), .second, .val (.int (16 : Int32))] [])) _
        refine XS.goto X44.here hx rfl (pc0 := 46) (pc' := 6) rfl (hb hby own_d5_46) (by decide) (by decide) ?_
        show Steps p.tables e below (T44.setTop (mkF m 6 #[.val (.ref r0), .val (.long j1), .second, .val (.int i2), .val (.long (own_v5_38_24 j1 i2 wd lb)), .second, .val (.int (16 : Int32))] [])) _
        refine XS.iload X44.here hx rfl (hb hby own_d5_6) rfl ?_
        show Steps p.tables e below (T44.setTop (mkF m 8 #[.val (.ref r0), .val (.long j1), .second, .val (.int i2), .val (.long (own_v5_38_24 j1 i2 wd lb)), .second, .val (.int (16 : Int32))] [(.int (16 : Int32))])) _
        refine XS.aloadN X44.here hx rfl (hb hby own_d5_8) rfl rfl ?_
        exact kt
      obtain ⟨T45, X45, e45, st45⟩ := getF X44 hx hZ hown (host := "") (Or.inl (hw _ (List.mem_of_getElem? (i := 15) rfl))) Via.refl e44 P0_k1 (g := (mkF m 9 #[.val (.ref r0), .val (.long j1), .second, .val (.int i2), .val (.long (own_v5_38_24 j1 i2 wd lb)), .second, .val (.int (16 : Int32))] [(.ref r0), (.int (16 : Int32))])) rfl rfl (hb hby own_d5_9)
      refine ownE.go (T' := T45) (f' := (mkF m 12 #[.val (.ref r0), .val (.long j1), .second, .val (.int i2), .val (.long (own_v5_38_24 j1 i2 wd lb)), .second, .val (.int (16 : Int32))] [(.int (32 : Int32)), (.int (16 : Int32))])) st45 ?_
      refine ownE.go (T' := T45) (f' := (mkF m 15 #[.val (.ref r0), .val (.long j1), .second, .val (.int i2), .val (.long (own_v5_38_24 j1 i2 wd lb)), .second, .val (.int (16 : Int32))] [])) (fun t kt => XS.icmpNo (g := (mkF m 12 #[.val (.ref r0), .val (.long j1), .second, .val (.int i2), .val (.long (own_v5_38_24 j1 i2 wd lb)), .second, .val (.int (16 : Int32))] [(.int (32 : Int32)), (.int (16 : Int32))])) X45.here hx rfl (hb hby own_d5_12) rfl (Jvm.Free.XT.ii_ge_f (by decide)) kt) ?_
      refine ownE.go (T' := T45) (f' := (mkF m 16 #[.val (.ref r0), .val (.long j1), .second, .val (.int i2), .val (.long (own_v5_38_24 j1 i2 wd lb)), .second, .val (.int (16 : Int32))] [(.int i2)])) (fun t kt => ?_) ?_
      · show Steps p.tables e below (T45.setTop (mkF m 15 #[.val (.ref r0), .val (.long j1), .second, .val (.int i2), .val (.long (own_v5_38_24 j1 i2 wd lb)), .second, .val (.int (16 : Int32))] [])) _
        refine XS.iloadN X45.here hx rfl (hb hby own_d5_15) rfl ?_
        exact kt
      refine ownE.go (T' := T45) (f' := (mkF m 30 #[.val (.ref r0), .val (.long j1), .second, .val (.int i2), .val (.long (own_v5_38_24 j1 i2 wd lb)), .second, .val (.int (16 : Int32))] [])) (fun t kt => XS.ifYes (g := (mkF m 16 #[.val (.ref r0), .val (.long j1), .second, .val (.int i2), .val (.long (own_v5_38_24 j1 i2 wd lb)), .second, .val (.int (16 : Int32))] [(.int i2)])) X45.here hx rfl (pc0 := 16) (pc' := 30) rfl (hb hby own_d5_16) rfl (Jvm.Free.XT.i0_eq_t hc41) (by decide) (by decide) kt) ?_
      refine ownE.go (T' := T45) (f' := (mkF m 9 #[.val (.ref r0), .val (.long j1), .second, .val (.int i2), .val (.long (own_v5_38_25 j1 i2 wd lb)), .second, .val (.int (32 : Int32))] [(.ref r0), (.int (32 : Int32))])) (fun t kt => ?_) ?_
      · show Steps p.tables e below (T45.setTop (mkF m 30 #[.val (.ref r0), .val (.long j1), .second, .val (.int i2), .val (.long (own_v5_38_24 j1 i2 wd lb)), .second, .val (.int (16 : Int32))] [])) _
        refine XS.lload X45.here hx rfl (hb hby own_d5_30) rfl ?_
        show Steps p.tables e below (T45.setTop (mkF m 32 #[.val (.ref r0), .val (.long j1), .second, .val (.int i2), .val (.long (own_v5_38_24 j1 i2 wd lb)), .second, .val (.int (16 : Int32))] [(.long (own_v5_38_24 j1 i2 wd lb))])) _
        refine XS.lload X45.here hx rfl (hb hby own_d5_32) rfl ?_
        show Steps p.tables e below (T45.setTop (mkF m 34 #[.val (.ref r0), .val (.long j1), .second, .val (.int i2), .val (.long (own_v5_38_24 j1 i2 wd lb)), .second, .val (.int (16 : Int32))] [(.long (own_v5_38_24 j1 i2 wd lb)), (.long (own_v5_38_24 j1 i2 wd lb))])) _
        refine XS.iload X45.here hx rfl (hb hby own_d5_34) rfl ?_
        show Steps p.tables e below (T45.setTop (mkF m 36 #[.val (.ref r0), .val (.long j1), .second, .val (.int i2), .val (.long (own_v5_38_24 j1 i2 wd lb)), .second, .val (.int (16 : Int32))] [(.int (16 : Int32)), (.long (own_v5_38_24 j1 i2 wd lb)), (.long (own_v5_38_24 j1 i2 wd lb))])) _
        refine XS.lushr X45.here hx rfl (hb hby own_d5_36) rfl ?_
        show Steps p.tables e below (T45.setTop (mkF m 37 #[.val (.ref r0), .val (.long j1), .second, .val (.int i2), .val (.long (own_v5_38_24 j1 i2 wd lb)), .second, .val (.int (16 : Int32))] [(.long (((own_v5_38_24 j1 i2 wd lb).toUInt64 >>> ((16 : Int32) &&& 0x3f).toInt64.toUInt64).toInt64)), (.long (own_v5_38_24 j1 i2 wd lb))])) _
        refine XS.lor X45.here hx rfl (hb hby own_d5_37) rfl ?_
        show Steps p.tables e below (T45.setTop (mkF m 38 #[.val (.ref r0), .val (.long j1), .second, .val (.int i2), .val (.long (own_v5_38_24 j1 i2 wd lb)), .second, .val (.int (16 : Int32))] [(.long ((own_v5_38_24 j1 i2 wd lb) ||| (((own_v5_38_24 j1 i2 wd lb).toUInt64 >>> ((16 : Int32) &&& 0x3f).toInt64.toUInt64).toInt64)))])) _
        refine XS.lstore X45.here hx rfl (hb hby own_d5_38) rfl (l' := #[.val (.ref r0), .val (.long j1), .second, .val (.int i2), .val (.long (own_v5_38_25 j1 i2 wd lb)), .second, .val (.int (16 : Int32))]) rfl ?_
        show Steps p.tables e below (T45.setTop (mkF m 40 #[.val (.ref r0), .val (.long j1), .second, .val (.int i2), .val (.long (own_v5_38_25 j1 i2 wd lb)), .second, .val (.int (16 : Int32))] [])) _
        refine XS.iload X45.here hx rfl (hb hby own_d5_40) rfl ?_
        show Steps p.tables e below (T45.setTop (mkF m 42 #[.val (.ref r0), .val (.long j1), .second, .val (.int i2), .val (.long (own_v5_38_25 j1 i2 wd lb)), .second, .val (.int (16 : Int32))] [(.int (16 : Int32))])) _
        refine XS.iconst X45.here hx rfl (hb hby own_d5_42) ?_
        show Steps p.tables e below (T45.setTop (mkF m 43 #[.val (.ref r0), .val (.long j1), .second, .val (.int i2), .val (.long (own_v5_38_25 j1 i2 wd lb)), .second, .val (.int (16 : Int32))] [(.int (1 : Int32)), (.int (16 : Int32))])) _
        refine XS.ishl X45.here hx rfl (hb hby own_d5_43) rfl ?_
        show Steps p.tables e below (T45.setTop (mkF m 44 #[.val (.ref r0), .val (.long j1), .second, .val (.int i2), .val (.long (own_v5_38_25 j1 i2 wd lb)), .second, .val (.int (16 : Int32))] [(.int (32 : Int32))])) _
        refine XS.istore X45.here hx rfl (hb hby own_d5_44) rfl (l' := #[.val (.ref r0), .val (.long j1), .second, .val (.int i2), .val (.long (own_v5_38_25 j1 i2 wd lb)), .second, .val (.int (32 : Int32))]) rfl ?_
        show Steps p.tables e below (T45.setTop (mkF m 46 #[.val (.ref r0), .val (.long j1), .second, .val (.int i2), .val (.long (own_v5_38_25 j1 i2 wd lb)), .second, .val (.int (32 : Int32))] [])) _
        refine XS.goto X45.here hx rfl (pc0 := 46) (pc' := 6) rfl (hb hby own_d5_46) (by decide) (by decide) ?_
        show Steps p.tables e below (T45.setTop (mkF m 6 #[.val (.ref r0), .val (.long j1), .second, .val (.int i2), .val (.long (own_v5_38_25 j1 i2 wd lb)), .second, .val (.int (32 : Int32))] [])) _
        refine XS.iload X45.here hx rfl (hb hby own_d5_6) rfl ?_
        show Steps p.tables e below (T45.setTop (mkF m 8 #[.val (.ref r0), .val (.long j1), .second, .val (.int i2), .val (.long (own_v5_38_25 j1 i2 wd lb)), .second, .val (.int (32 : Int32))] [(.int (32 : Int32))])) _
        refine XS.aloadN X45.here hx rfl (hb hby own_d5_8) rfl rfl ?_
        exact kt
      obtain ⟨T46, X46, e46, st46⟩ := getF X45 hx hZ hown (host := "") (Or.inl (hw _ (List.mem_of_getElem? (i := 15) rfl))) Via.refl e45 P0_k1 (g := (mkF m 9 #[.val (.ref r0), .val (.long j1), .second, .val (.int i2), .val (.long (own_v5_38_25 j1 i2 wd lb)), .second, .val (.int (32 : Int32))] [(.ref r0), (.int (32 : Int32))])) rfl rfl (hb hby own_d5_9)
      refine ownE.go (T' := T46) (f' := (mkF m 12 #[.val (.ref r0), .val (.long j1), .second, .val (.int i2), .val (.long (own_v5_38_25 j1 i2 wd lb)), .second, .val (.int (32 : Int32))] [(.int (32 : Int32)), (.int (32 : Int32))])) st46 ?_
      refine ownE.go (T' := T46) (f' := (mkF m 49 #[.val (.ref r0), .val (.long j1), .second, .val (.int i2), .val (.long (own_v5_38_25 j1 i2 wd lb)), .second, .val (.int (32 : Int32))] [])) (fun t kt => XS.icmpYes (g := (mkF m 12 #[.val (.ref r0), .val (.long j1), .second, .val (.int i2), .val (.long (own_v5_38_25 j1 i2 wd lb)), .second, .val (.int (32 : Int32))] [(.int (32 : Int32)), (.int (32 : Int32))])) X46.here hx rfl (pc0 := 12) (pc' := 49) rfl (hb hby own_d5_12) rfl (Jvm.Free.XT.ii_ge_t (by decide)) (by decide) (by decide) kt) ?_
      refine ownE.go (T' := T46) (f' := (mkF m 52 #[.val (.ref r0), .val (.long j1), .second, .val (.int i2), .val (.long (own_v5_38_25 j1 i2 wd lb)), .second, .val (.int (32 : Int32))] [(.ref r0), (.long (own_v5_38_25 j1 i2 wd lb))])) (fun t kt => ?_) ?_
      · show Steps p.tables e below (T46.setTop (mkF m 49 #[.val (.ref r0), .val (.long j1), .second, .val (.int i2), .val (.long (own_v5_38_25 j1 i2 wd lb)), .second, .val (.int (32 : Int32))] [])) _
        refine XS.lload X46.here hx rfl (hb hby own_d5_49) rfl ?_
        show Steps p.tables e below (T46.setTop (mkF m 51 #[.val (.ref r0), .val (.long j1), .second, .val (.int i2), .val (.long (own_v5_38_25 j1 i2 wd lb)), .second, .val (.int (32 : Int32))] [(.long (own_v5_38_25 j1 i2 wd lb))])) _
        refine XS.aloadN X46.here hx rfl (hb hby own_d5_51) rfl rfl ?_
        exact kt
      obtain ⟨T47, X47, e47, st47⟩ := getF X46 hx hZ hown (host := "") (Or.inl (hw _ (List.mem_of_getElem? (i := 25) rfl))) Via.refl e46 P1 (g := (mkF m 52 #[.val (.ref r0), .val (.long j1), .second, .val (.int i2), .val (.long (own_v5_38_25 j1 i2 wd lb)), .second, .val (.int (32 : Int32))] [(.ref r0), (.long (own_v5_38_25 j1 i2 wd lb))])) rfl rfl (hb hby own_d5_52)
      refine ownE.go (T' := T47) (f' := (mkF m 55 #[.val (.ref r0), .val (.long j1), .second, .val (.int i2), .val (.long (own_v5_38_25 j1 i2 wd lb)), .second, .val (.int (32 : Int32))] [(.long lb), (.long (own_v5_38_25 j1 i2 wd lb))])) st47 ?_
      refine ownE.go (T' := T47) (f' := (mkF m 56 #[.val (.ref r0), .val (.long j1), .second, .val (.int i2), .val (.long (own_v5_38_25 j1 i2 wd lb)), .second, .val (.int (32 : Int32))] [(.long ((own_v5_38_25 j1 i2 wd lb) &&& lb))])) (fun t kt => ?_) ?_
      · show Steps p.tables e below (T47.setTop (mkF m 55 #[.val (.ref r0), .val (.long j1), .second, .val (.int i2), .val (.long (own_v5_38_25 j1 i2 wd lb)), .second, .val (.int (32 : Int32))] [(.long lb), (.long (own_v5_38_25 j1 i2 wd lb))])) _
        refine XS.land X47.here hx rfl (hb hby own_d5_55) rfl ?_
        exact kt
      refine ownE.retL X47 hx hlk hret (hb hby own_d5_56) ?_ (by decide) (by decide)
      show own_Q5 Z r0 j1 i2 wd lb h0 n0 _ T47.heap _
      rw [e47]
      exact ⟨(by rw [own_fold, if_neg hk1_0, if_neg hk1_1, if_neg hk1_2, if_neg hk1_3, if_neg hk1_4, if_pos hc41] <;> first | rfl | decide), N0, rfl⟩
    · -- pc 16
      refine ownE.go (T' := T40) (f' := (mkF m 19 #[.val (.ref r0), .val (.long j1), .second, .val (.int i2), .val (.long j1), .second, .val (.int (1 : Int32))] [])) (fun t kt => XS.ifNo (g := (mkF m 16 #[.val (.ref r0), .val (.long j1), .second, .val (.int i2), .val (.long j1), .second, .val (.int (1 : Int32))] [(.int i2)])) X40.here hx rfl (hb hby own_d5_16) rfl (Jvm.Free.XT.i0_eq_f hc41) kt) ?_
      refine ownE.go (T' := T40) (f' := (mkF m 9 #[.val (.ref r0), .val (.long j1), .second, .val (.int i2), .val (.long (own_v5_38_26 j1 i2 wd lb)), .second, .val (.int (2 : Int32))] [(.ref r0), (.int (2 : Int32))])) (fun t kt => ?_) ?_
      · show Steps p.tables e below (T40.setTop (mkF m 19 #[.val (.ref r0), .val (.long j1), .second, .val (.int i2), .val (.long j1), .second, .val (.int (1 : Int32))] [])) _
        refine XS.lload X40.here hx rfl (hb hby own_d5_19) rfl ?_
        show Steps p.tables e below (T40.setTop (mkF m 21 #[.val (.ref r0), .val (.long j1), .second, .val (.int i2), .val (.long j1), .second, .val (.int (1 : Int32))] [(.long j1)])) _
        refine XS.lload X40.here hx rfl (hb hby own_d5_21) rfl ?_
        show Steps p.tables e below (T40.setTop (mkF m 23 #[.val (.ref r0), .val (.long j1), .second, .val (.int i2), .val (.long j1), .second, .val (.int (1 : Int32))] [(.long j1), (.long j1)])) _
        refine XS.iload X40.here hx rfl (hb hby own_d5_23) rfl ?_
        show Steps p.tables e below (T40.setTop (mkF m 25 #[.val (.ref r0), .val (.long j1), .second, .val (.int i2), .val (.long j1), .second, .val (.int (1 : Int32))] [(.int (1 : Int32)), (.long j1), (.long j1)])) _
        refine XS.lushr X40.here hx rfl (hb hby own_d5_25) rfl ?_
        show Steps p.tables e below (T40.setTop (mkF m 26 #[.val (.ref r0), .val (.long j1), .second, .val (.int i2), .val (.long j1), .second, .val (.int (1 : Int32))] [(.long ((j1.toUInt64 >>> ((1 : Int32) &&& 0x3f).toInt64.toUInt64).toInt64)), (.long j1)])) _
        refine XS.land X40.here hx rfl (hb hby own_d5_26) rfl ?_
        show Steps p.tables e below (T40.setTop (mkF m 27 #[.val (.ref r0), .val (.long j1), .second, .val (.int i2), .val (.long j1), .second, .val (.int (1 : Int32))] [(.long (j1 &&& ((j1.toUInt64 >>> ((1 : Int32) &&& 0x3f).toInt64.toUInt64).toInt64)))])) _
        refine XS.goto X40.here hx rfl (pc0 := 27) (pc' := 38) rfl (hb hby own_d5_27) (by decide) (by decide) ?_
        show Steps p.tables e below (T40.setTop (mkF m 38 #[.val (.ref r0), .val (.long j1), .second, .val (.int i2), .val (.long j1), .second, .val (.int (1 : Int32))] [(.long (j1 &&& ((j1.toUInt64 >>> ((1 : Int32) &&& 0x3f).toInt64.toUInt64).toInt64)))])) _
        refine XS.lstore X40.here hx rfl (hb hby own_d5_38) rfl (l' := #[.val (.ref r0), .val (.long j1), .second, .val (.int i2), .val (.long (own_v5_38_26 j1 i2 wd lb)), .second, .val (.int (1 : Int32))]) rfl ?_
        show Steps p.tables e below (T40.setTop (mkF m 40 #[.val (.ref r0), .val (.long j1), .second, .val (.int i2), .val (.long (own_v5_38_26 j1 i2 wd lb)), .second, .val (.int (1 : Int32))] [])) _
        refine XS.iload X40.here hx rfl (hb hby own_d5_40) rfl ?_
        show Steps p.tables e below (T40.setTop (mkF m 42 #[.val (.ref r0), .val (.long j1), .second, .val (.int i2), .val (.long (own_v5_38_26 j1 i2 wd lb)), .second, .val (.int (1 : Int32))] [(.int (1 : Int32))])) _
        refine XS.iconst X40.here hx rfl (hb hby own_d5_42) ?_
        show Steps p.tables e below (T40.setTop (mkF m 43 #[.val (.ref r0), .val (.long j1), .second, .val (.int i2), .val (.long (own_v5_38_26 j1 i2 wd lb)), .second, .val (.int (1 : Int32))] [(.int (1 : Int32)), (.int (1 : Int32))])) _
        refine XS.ishl X40.here hx rfl (hb hby own_d5_43) rfl ?_
        show Steps p.tables e below (T40.setTop (mkF m 44 #[.val (.ref r0), .val (.long j1), .second, .val (.int i2), .val (.long (own_v5_38_26 j1 i2 wd lb)), .second, .val (.int (1 : Int32))] [(.int (2 : Int32))])) _
        refine XS.istore X40.here hx rfl (hb hby own_d5_44) rfl (l' := #[.val (.ref r0), .val (.long j1), .second, .val (.int i2), .val (.long (own_v5_38_26 j1 i2 wd lb)), .second, .val (.int (2 : Int32))]) rfl ?_
        show Steps p.tables e below (T40.setTop (mkF m 46 #[.val (.ref r0), .val (.long j1), .second, .val (.int i2), .val (.long (own_v5_38_26 j1 i2 wd lb)), .second, .val (.int (2 : Int32))] [])) _
        refine XS.goto X40.here hx rfl (pc0 := 46) (pc' := 6) rfl (hb hby own_d5_46) (by decide) (by decide) ?_
        show Steps p.tables e below (T40.setTop (mkF m 6 #[.val (.ref r0), .val (.long j1), .second, .val (.int i2), .val (.long (own_v5_38_26 j1 i2 wd lb)), .second, .val (.int (2 : Int32))] [])) _
        refine XS.iload X40.here hx rfl (hb hby own_d5_6) rfl ?_
        show Steps p.tables e below (T40.setTop (mkF m 8 #[.val (.ref r0), .val (.long j1), .second, .val (.int i2), .val (.long (own_v5_38_26 j1 i2 wd lb)), .second, .val (.int (2 : Int32))] [(.int (2 : Int32))])) _
        refine XS.aloadN X40.here hx rfl (hb hby own_d5_8) rfl rfl ?_
        exact kt
      obtain ⟨T48, X48, e48, st48⟩ := getF X40 hx hZ hown (host := "") (Or.inl (hw _ (List.mem_of_getElem? (i := 15) rfl))) Via.refl e40 P0_k1 (g := (mkF m 9 #[.val (.ref r0), .val (.long j1), .second, .val (.int i2), .val (.long (own_v5_38_26 j1 i2 wd lb)), .second, .val (.int (2 : Int32))] [(.ref r0), (.int (2 : Int32))])) rfl rfl (hb hby own_d5_9)
      refine ownE.go (T' := T48) (f' := (mkF m 12 #[.val (.ref r0), .val (.long j1), .second, .val (.int i2), .val (.long (own_v5_38_26 j1 i2 wd lb)), .second, .val (.int (2 : Int32))] [(.int (32 : Int32)), (.int (2 : Int32))])) st48 ?_
      refine ownE.go (T' := T48) (f' := (mkF m 15 #[.val (.ref r0), .val (.long j1), .second, .val (.int i2), .val (.long (own_v5_38_26 j1 i2 wd lb)), .second, .val (.int (2 : Int32))] [])) (fun t kt => XS.icmpNo (g := (mkF m 12 #[.val (.ref r0), .val (.long j1), .second, .val (.int i2), .val (.long (own_v5_38_26 j1 i2 wd lb)), .second, .val (.int (2 : Int32))] [(.int (32 : Int32)), (.int (2 : Int32))])) X48.here hx rfl (hb hby own_d5_12) rfl (Jvm.Free.XT.ii_ge_f (by decide)) kt) ?_
      refine ownE.go (T' := T48) (f' := (mkF m 16 #[.val (.ref r0), .val (.long j1), .second, .val (.int i2), .val (.long (own_v5_38_26 j1 i2 wd lb)), .second, .val (.int (2 : Int32))] [(.int i2)])) (fun t kt => ?_) ?_
      · show Steps p.tables e below (T48.setTop (mkF m 15 #[.val (.ref r0), .val (.long j1), .second, .val (.int i2), .val (.long (own_v5_38_26 j1 i2 wd lb)), .second, .val (.int (2 : Int32))] [])) _
        refine XS.iloadN X48.here hx rfl (hb hby own_d5_15) rfl ?_
        exact kt
      refine ownE.go (T' := T48) (f' := (mkF m 19 #[.val (.ref r0), .val (.long j1), .second, .val (.int i2), .val (.long (own_v5_38_26 j1 i2 wd lb)), .second, .val (.int (2 : Int32))] [])) (fun t kt => XS.ifNo (g := (mkF m 16 #[.val (.ref r0), .val (.long j1), .second, .val (.int i2), .val (.long (own_v5_38_26 j1 i2 wd lb)), .second, .val (.int (2 : Int32))] [(.int i2)])) X48.here hx rfl (hb hby own_d5_16) rfl (Jvm.Free.XT.i0_eq_f hc41) kt) ?_
      refine ownE.go (T' := T48) (f' := (mkF m 9 #[.val (.ref r0), .val (.long j1), .second, .val (.int i2), .val (.long (own_v5_38_27 j1 i2 wd lb)), .second, .val (.int (4 : Int32))] [(.ref r0), (.int (4 : Int32))])) (fun t kt => ?_) ?_
      · show Steps p.tables e below (T48.setTop (mkF m 19 #[.val (.ref r0), .val (.long j1), .second, .val (.int i2), .val (.long (own_v5_38_26 j1 i2 wd lb)), .second, .val (.int (2 : Int32))] [])) _
        refine XS.lload X48.here hx rfl (hb hby own_d5_19) rfl ?_
        show Steps p.tables e below (T48.setTop (mkF m 21 #[.val (.ref r0), .val (.long j1), .second, .val (.int i2), .val (.long (own_v5_38_26 j1 i2 wd lb)), .second, .val (.int (2 : Int32))] [(.long (own_v5_38_26 j1 i2 wd lb))])) _
        refine XS.lload X48.here hx rfl (hb hby own_d5_21) rfl ?_
        show Steps p.tables e below (T48.setTop (mkF m 23 #[.val (.ref r0), .val (.long j1), .second, .val (.int i2), .val (.long (own_v5_38_26 j1 i2 wd lb)), .second, .val (.int (2 : Int32))] [(.long (own_v5_38_26 j1 i2 wd lb)), (.long (own_v5_38_26 j1 i2 wd lb))])) _
        refine XS.iload X48.here hx rfl (hb hby own_d5_23) rfl ?_
        show Steps p.tables e below (T48.setTop (mkF m 25 #[.val (.ref r0), .val (.long j1), .second, .val (.int i2), .val (.long (own_v5_38_26 j1 i2 wd lb)), .second, .val (.int (2 : Int32))] [(.int (2 : Int32)), (.long (own_v5_38_26 j1 i2 wd lb)), (.long (own_v5_38_26 j1 i2 wd lb))])) _
        refine XS.lushr X48.here hx rfl (hb hby own_d5_25) rfl ?_
        show Steps p.tables e below (T48.setTop (mkF m 26 #[.val (.ref r0), .val (.long j1), .second, .val (.int i2), .val (.long (own_v5_38_26 j1 i2 wd lb)), .second, .val (.int (2 : Int32))] [(.long (((own_v5_38_26 j1 i2 wd lb).toUInt64 >>> ((2 : Int32) &&& 0x3f).toInt64.toUInt64).toInt64)), (.long (own_v5_38_26 j1 i2 wd lb))])) _
        refine XS.land X48.here hx rfl (hb hby own_d5_26) rfl ?_
        show Steps p.tables e below (T48.setTop (mkF m 27 #[.val (.ref r0), .val (.long j1), .second, .val (.int i2), .val (.long (own_v5_38_26 j1 i2 wd lb)), .second, .val (.int (2 : Int32))] [(.long ((own_v5_38_26 j1 i2 wd lb) &&& (((own_v5_38_26 j1 i2 wd lb).toUInt64 >>> ((2 : Int32) &&& 0x3f).toInt64.toUInt64).toInt64)))])) _
        refine XS.goto X48.here hx rfl (pc0 := 27) (pc' := 38) rfl (hb hby own_d5_27) (by decide) (by decide) ?_
        show Steps p.tables e below (T48.setTop (mkF m 38 #[.val (.ref r0), .val (.long j1), .second, .val (.int i2), .val (.long (own_v5_38_26 j1 i2 wd lb)), .second, .val (.int (2 : Int32))] [(.long ((own_v5_38_26 j1 i2 wd lb) &&& (((own_v5_38_26 j1 i2 wd lb).toUInt64 >>> ((2 : Int32) &&& 0x3f).toInt64.toUInt64).toInt64)))])) _
        refine XS.lstore X48.here hx rfl (hb hby own_d5_38) rfl (l' := #[.val (.ref r0), .val (.long j1), .second, .val (.int i2), .val (.long (own_v5_38_27 j1 i2 wd lb)), .second, .val (.int (2 : Int32))]) rfl ?_
        show Steps p.tables e below (T48.setTop (mkF m 40 #[.val (.ref r0), .val (.long j1), .second, .val (.int i2), .val (.long (own_v5_38_27 j1 i2 wd lb)), .second, .val (.int (2 : Int32))] [])) _
        refine XS.iload X48.here hx rfl (hb hby own_d5_40) rfl ?_
        show Steps p.tables e below (T48.setTop (mkF m 42 #[.val (.ref r0), .val (.long j1), .second, .val (.int i2), .val (.long (own_v5_38_27 j1 i2 wd lb)), .second, .val (.int (2 : Int32))] [(.int (2 : Int32))])) _
        refine XS.iconst X48.here hx rfl (hb hby own_d5_42) ?_
        show Steps p.tables e below (T48.setTop (mkF m 43 #[.val (.ref r0), .val (.long j1), .second, .val (.int i2), .val (.long (own_v5_38_27 j1 i2 wd lb)), .second, .val (.int (2 : Int32))] [(.int (1 : Int32)), (.int (2 : Int32))])) _
        refine XS.ishl X48.here hx rfl (hb hby own_d5_43) rfl ?_
        show Steps p.tables e below (T48.setTop (mkF m 44 #[.val (.ref r0), .val (.long j1), .second, .val (.int i2), .val (.long (own_v5_38_27 j1 i2 wd lb)), .second, .val (.int (2 : Int32))] [(.int (4 : Int32))])) _
        refine XS.istore X48.here hx rfl (hb hby own_d5_44) rfl (l' := #[.val (.ref r0), .val (.long j1), .second, .val (.int i2), .val (.long (own_v5_38_27 j1 i2 wd lb)), .second, .val (.int (4 : Int32))]) rfl ?_
        show Steps p.tables e below (T48.setTop (mkF m 46 #[.val (.ref r0), .val (.long j1), .second, .val (.int i2), .val (.long (own_v5_38_27 j1 i2 wd lb)), .second, .val (.int (4 : Int32))] [])) _
        refine XS.goto X48.here hx rfl (pc0 := 46) (pc' := 6) rfl (hb hby own_d5_46) (by decide) (by decide) ?_
        show Steps p.tables e below (T48.setTop (mkF m 6 #[.val (.ref r0), .val (.long j1), .second, .val (.int i2), .val (.long (own_v5_38_27 j1 i2 wd lb)), .second, .val (.int (4 : Int32))] [])) _
        refine XS.iload X48.here hx rfl (hb hby own_d5_6) rfl ?_
        show Steps p.tables e below (T48.setTop (mkF m 8 #[.val (.ref r0), .val (.long j1), .second, .val (.int i2), .val (.long (own_v5_38_27 j1 i2 wd lb)), .second, .val (.int (4 : Int32))] [(.int (4 : Int32))])) _
        refine XS.aloadN X48.here hx rfl (hb hby own_d5_8) rfl rfl ?_
        exact kt
      obtain ⟨T49, X49, e49, st49⟩ := getF X48 hx hZ hown (host := "") (Or.inl (hw _ (List.mem_of_getElem? (i := 15) rfl))) Via.refl e48 P0_k1 (g := (mkF m 9 #[.val (.ref r0), .val (.long j1), .second, .val (.int i2), .val (.long (own_v5_38_27 j1 i2 wd lb)), .second, .val (.int (4 : Int32))] [(.ref r0), (.int (4 : Int32))])) rfl rfl (hb hby own_d5_9)
      refine ownE.go (T' := T49) (f' := (mkF m 12 #[.val (.ref r0), .val (.long j1), .second, .val (.int i2), .val (.long (own_v5_38_27 j1 i2 wd lb)), .second, .val (.int (4 : Int32))] [(.int (32 : Int32)), (.int (4 : Int32))])) st49 ?_
      refine ownE.go (T' := T49) (f' := (mkF m 15 #[.val (.ref r0), .val (.long j1), .second, .val (.int i2), .val (.long (own_v5_38_27 j1 i2 wd lb)), .second, .val (.int (4 : Int32))] [])) (fun t kt => XS.icmpNo (g := (mkF m 12 #[.val (.ref r0), .val (.long j1), .second, .val (.int i2), .val (.long (own_v5_38_27 j1 i2 wd lb)), .second, .val (.int (4 : Int32))] [(.int (32 : Int32)), (.int (4 : Int32))])) X49.here hx rfl (hb hby own_d5_12) rfl (Jvm.Free.XT.ii_ge_f (by decide)) kt) ?_
      refine ownE.go (T' := T49) (f' := (mkF m 16 #[.val (.ref r0), .val (.long j1), .second, .val (.int i2), .val (.long (own_v5_38_27 j1 i2 wd lb)), .second, .val (.int (4 : Int32))] [(.int i2)])) (fun t kt => ?_) ?_
      · show Steps p.tables e below (T49.setTop (mkF m 15 #[.val (.ref r0), .val (.long j1), .second, .val (.int i2), .val (.long (own_v5_38_27 j1 i2 wd lb)), .second, .val (.int (4 : Int32))] [])) _
        refine XS.iloadN X49.here hx rfl (hb hby own_d5_15) rfl ?_
        exact kt
      refine ownE.go (T' := T49) (f' := (mkF m 19 #[.val (.ref r0), .val (.long j1), .second, .val (.int i2), .val (.long (own_v5_38_27 j1 i2 wd lb)), .second, .val (.int (4 : Int32))] [])) (fun t kt => XS.ifNo (g := (mkF m 16 #[.val (.ref r0), .val (.long j1), .second, .val (.int i2), .val (.long (own_v5_38_27 j1 i2 wd lb)), .second, .val (.int (4 : Int32))] [(.int i2)])) X49.here hx rfl (hb hby own_d5_16) rfl (Jvm.Free.XT.i0_eq_f hc41) kt) ?_
      refine ownE.go (T' := T49) (f' := (mkF m 9 #[.val (.ref r0), .val (.long j1), .second, .val (.int i2), .val (.long (own_v5_38_28 j1 i2 wd lb)), .second, .val (.int (8 : Int32))] [(.ref r0), (.int (8 : Int32))])) (fun t kt => ?_) ?_
      · show Steps p.tables e below (T49.setTop (mkF m 19 #[.val (.ref r0), .val (.long j1), .second, .val (.int i2), .val (.long (own_v5_38_27 j1 i2 wd lb)), .second, .val (.int (4 : Int32))] [])) _
        refine XS.lload X49.here hx rfl (hb hby own_d5_19) rfl ?_
        show Steps p.tables e below (T49.setTop (mkF m 21 #[.val (.ref r0), .val (.long j1), .second, .val (.int i2), .val (.long (own_v5_38_27 j1 i2 wd lb)), .second, .val (.int (4 : Int32))] [(.long (own_v5_38_27 j1 i2 wd lb))])) _
        refine XS.lload X49.here hx rfl (hb hby own_d5_21) rfl ?_
        show Steps p.tables e below (T49.setTop (mkF m 23 #[.val (.ref r0), .val (.long j1), .second, .val (.int i2), .val (.long (own_v5_38_27 j1 i2 wd lb)), .second, .val (.int (4 : Int32))] [(.long (own_v5_38_27 j1 i2 wd lb)), (.long (own_v5_38_27 j1 i2 wd lb))])) _
        refine XS.iload X49.here hx rfl (hb hby own_d5_23) rfl ?_
        show Steps p.tables e below (T49.setTop (mkF m 25 #[.val (.ref r0), .val (.long j1), .second, .val (.int i2), .val (.long (own_v5_38_27 j1 i2 wd lb)), .second, .val (.int (4 : Int32))] [(.int (4 : Int32)), (.long (own_v5_38_27 j1 i2 wd lb)), (.long (own_v5_38_27 j1 i2 wd lb))])) _
        refine XS.lushr X49.here hx rfl (hb hby own_d5_25) rfl ?_
        show Steps p.tables e below (T49.setTop (mkF m 26 #[.val (.ref r0), .val (.long j1), .second, .val (.int i2), .val (.long (own_v5_38_27 j1 i2 wd lb)), .second, .val (.int (4 : Int32))] [(.long (((own_v5_38_27 j1 i2 wd lb).toUInt64 >>> ((4 : Int32) &&& 0x3f).toInt64.toUInt64).toInt64)), (.long (own_v5_38_27 j1 i2 wd lb))])) _
        refine XS.land X49.here hx rfl (hb hby own_d5_26) rfl ?_
        show Steps p.tables e below (T49.setTop (mkF m 27 #[.val (.ref r0), .val (.long j1), .second, .val (.int i2), .val (.long (own_v5_38_27 j1 i2 wd lb)), .second, .val (.int (4 : Int32))] [(.long ((own_v5_38_27 j1 i2 wd lb) &&& (((own_v5_38_27 j1 i2 wd lb).toUInt64 >>> ((4 : Int32) &&& 0x3f).toInt64.toUInt64).toInt64)))])) _
        refine XS.goto X49.here hx rfl (pc0 := 27) (pc' := 38) rfl (hb hby own_d5_27) (by decide) (by decide) ?_
        show Steps p.tables e below (T49.setTop (mkF m 38 #[.val (.ref r0), .val (.long j1), .second, .val (.int i2), .val (.long (own_v5_38_27 j1 i2 wd lb)), .second, .val (.int (4 : Int32))] [(.long ((own_v5_38_27 j1 i2 wd lb) &&& (((own_v5_38_27 j1 i2 wd lb).toUInt64 >>> ((4 : Int32) &&& 0x3f).toInt64.toUInt64).toInt64)))])) _
        refine XS.lstore X49.here hx rfl (hb hby own_d5_38) rfl (l' := #[.val (.ref r0), .val (.long j1), .second, .val (.int i2), .val (.long (own_v5_38_28 j1 i2 wd lb)), .second, .val (.int (4 : Int32))]) rfl ?_
        show Steps p.tables e below (T49.setTop (mkF m 40 #[.val (.ref r0), .val (.long j1), .second, .val (.int i2), .val (.long (own_v5_38_28 j1 i2 wd lb)), .second, .val (.int (4 : Int32))] [])) _
        refine XS.iload X49.here hx rfl (hb hby own_d5_40) rfl ?_
        show Steps p.tables e below (T49.setTop (mkF m 42 #[.val (.ref r0), .val (.long j1), .second, .val (.int i2), .val (.long (own_v5_38_28 j1 i2 wd lb)), .second, .val (.int (4 : Int32))] [(.int (4 : Int32))])) _
        refine XS.iconst X49.here hx rfl (hb hby own_d5_42) ?_
        show Steps p.tables e below (T49.setTop (mkF m 43 #[.val (.ref r0), .val (.long j1), .second, .val (.int i2), .val (.long (own_v5_38_28 j1 i2 wd lb)), .second, .val (.int (4 : Int32))] [(.int (1 : Int32)), (.int (4 : Int32))])) _
        refine XS.ishl X49.here hx rfl (hb hby own_d5_43) rfl ?_
        show Steps p.tables e below (T49.setTop (mkF m 44 #[.val (.ref r0), .val (.long j1), .second, .val (.int i2), .val (.long (own_v5_38_28 j1 i2 wd lb)), .second, .val (.int (4 : Int32))] [(.int (8 : Int32))])) _
        refine XS.istore X49.here hx rfl (hb hby own_d5_44) rfl (l' := #[.val (.ref r0), .val (.long j1), .second, .val (.int i2), .val (.long (own_v5_38_28 j1 i2 wd lb)), .second, .val (.int (8 : Int32))]) rfl ?_
        show Steps p.tables e below (T49.setTop (mkF m 46 #[.val (.ref r0), .val (.long j1), .second, .val (.int i2), .val (.long (own_v5_38_28 j1 i2 wd lb)), .second, .val (.int (8 : Int32))] [])) _
        refine XS.goto X49.here hx rfl (pc0 := 46) (pc' := 6) rfl (hb hby own_d5_46) (by decide) (by decide) ?_
        show Steps p.tables e below (T49.setTop (mkF m 6 #[.val (.ref r0), .val (.long j1), .second, .val (.int i2), .val (.long (own_v5_38_28 j1 i2 wd lb)), .second, .val (.int (8 : Int32))] [])) _
        refine XS.iload X49.here hx rfl (hb hby own_d5_6) rfl ?_
        show Steps p.tables e below (T49.setTop (mkF m 8 #[.val (.ref r0), .val (.long j1), .second, .val (.int i2), .val (.long (own_v5_38_28 j1 i2 wd lb)), .second, .val (.int (8 : Int32))] [(.int (8 : Int32))])) _
        refine XS.aloadN X49.here hx rfl (hb hby own_d5_8) rfl rfl ?_
        exact kt
      obtain ⟨T50, X50, e50, st50⟩ := getF X49 hx hZ hown (host := "") (Or.inl (hw _ (List.mem_of_getElem? (i := 15) rfl))) Via.refl e49 P0_k1 (g := (mkF m 9 #[.val (.ref r0), .val (.long j1), .second, .val (.int i2), .val (.long (own_v5_38_28 j1 i2 wd lb)), .second, .val (.int (8 : Int32))] [(.ref r0), (.int (8 : Int32))])) rfl rfl (hb hby own_d5_9)
      refine ownE.go (T' := T50) (f' := (mkF m 12 #[.val (.ref r0), .val (.long j1), .second, .val (.int i2), .val (.long (own_v5_38_28 j1 i2 wd lb)), .second, .val (.int (8 : Int32))] [(.int (32 : Int32)), (.int (8 : Int32))])) st50 ?_
      refine ownE.go (T' := T50) (f' := (mkF m 15 #[.val (.ref r0), .val (.long j1), .second, .val (.int i2), .val (.long (own_v5_38_28 j1 i2 wd lb)), .second, .val (.int (8 : Int32))] [])) (fun t kt => XS.icmpNo (g := (mkF m 12 #[.val (.ref r0), .val (.long j1), .second, .val (.int i2), .val (.long (own_v5_38_28 j1 i2 wd lb)), .second, .val (.int (8 : Int32))] [(.int (32 : Int32)), (.int (8 : Int32))])) X50.here hx rfl (hb hby own_d5_12) rfl (Jvm.Free.XT.ii_ge_f (by decide)) kt) ?_
      refine ownE.go (T' := T50) (f' := (mkF m 16 #[.val (.ref r0), .val (.long j1), .second, .val (.int i2), .val (.long (own_v5_38_28 j1 i2 wd lb)), .second, .val (.int (8 : Int32))] [(.int i2)])) (fun t kt => ?_) ?_
      · show Steps p.tables e below (T50.setTop (mkF m 15 #[.val (.ref r0), .val (.long j1), .second, .val (.int i2), .val (.long (own_v5_38_28 j1 i2 wd lb)), .second, .val (.int (8 : Int32))] [])) _
        refine XS.iloadN X50.here hx rfl (hb hby own_d5_15) rfl ?_
        exact kt
      refine ownE.go (T' := T50) (f' := (mkF m 19 #[.val (.ref r0), .val (.long j1), .second, .val (.int i2), .val (.long (own_v5_38_28 j1 i2 wd lb)), .second, .val (.int (8 : Int32))] [])) (fun t kt => XS.ifNo (g := (mkF m 16 #[.val (.ref r0), .val (.long j1), .second, .val (.int i2), .val (.long (own_v5_38_28 j1 i2 wd lb)), .second, .val (.int (8 : Int32))] [(.int i2)])) X50.here hx rfl (hb hby own_d5_16) rfl (Jvm.Free.XT.i0_eq_f hc41) kt) ?_
      refine ownE.go (T' := T50) (f' := (mkF m 9 #[.val (.ref r0), .val (.long j1), .second, .val (.int i2), .val (.long (own_v5_38_29 j1 i2 wd lb)), .second, .val (.int (16 : Int32))] [(.ref r0), (.int (16 : Int32))])) (fun t kt => ?_) ?_
      · show Steps p.tables e below (T50.setTop (mkF m 19 #[.val (.ref r0), .val (.long j1), .second, .val (.int i2), .val (.long (own_v5_38_28 j1 i2 wd lb)), .second, .val (.int (8 : Int32))] [])) _
        refine XS.lload X50.here hx rfl (hb hby own_d5_19) rfl ?_
        show Steps p.tables e below (T50.setTop (mkF m 21 #[.val (.ref r0), .val (.long j1), .second, .val (.int i2), .val (.long (own_v5_38_28 j1 i2 wd lb)), .second, .val (.int (8 : Int32))] [(.long (own_v5_38_28 j1 i2 wd lb))])) _
        refine XS.lload X50.here hx rfl (hb hby own_d5_21) rfl ?_
        show Steps p.tables e below (T50.setTop (mkF m 23 #[.val (.ref r0), .val (.long j1), .second, .val (.int i2), .val (.long (own_v5_38_28 j1 i2 wd lb)), .second, .val (.int (8 : Int32))] [(.long (own_v5_38_28 j1 i2 wd lb)), (.long (own_v5_38_28 j1 i2 wd lb))])) _
        refine XS.iload X50.here hx rfl (hb hby own_d5_23) rfl ?_
        show Steps p.tables e below (T50.setTop (mkF m 25 #[.val (.ref r0), .val (.long j1), .second, .val (.int i2), .val (.long (own_v5_38_28 j1 i2 wd lb)), .second, .val (.int (8 : Int32))] [(.int (8 : Int32)), (.long (own_v5_38_28 j1 i2 wd lb)), (.long (own_v5_38_28 j1 i2 wd lb))])) _
        refine XS.lushr X50.here hx rfl (hb hby own_d5_25) rfl ?_
        show Steps p.tables e below (T50.setTop (mkF m 26 #[.val (.ref r0), .val (.long j1), .second, .val (.int i2), .val (.long (own_v5_38_28 j1 i2 wd lb)), .second, .val (.int (8 : Int32))] [(.long (((own_v5_38_28 j1 i2 wd lb).toUInt64 >>> ((8 : Int32) &&& 0x3f).toInt64.toUInt64).toInt64)), (.long (own_v5_38_28 j1 i2 wd lb))])) _
        refine XS.land X50.here hx rfl (hb hby own_d5_26) rfl ?_
        show Steps p.tables e below (T50.setTop (mkF m 27 #[.val (.ref r0), .val (.long j1), .second, .val (.int i2), .val (.long (own_v5_38_28 j1 i2 wd lb)), .second, .val (.int (8 : Int32))] [(.long ((own_v5_38_28 j1 i2 wd lb) &&& (((own_v5_38_28 j1 i2 wd lb).toUInt64 >>> ((8 : Int32) &&& 0x3f).toInt64.toUInt64).toInt64)))])) _
        refine XS.goto X50.here hx rfl (pc0 := 27) (pc' := 38) rfl (hb hby own_d5_27) (by decide) (by decide) ?_
        show Steps p.tables e below (T50.setTop (mkF m 38 #[.val (.ref r0), .val (.long j1), .second, .val (.int i2), .val (.long (own_v5_38_28 j1 i2 wd lb)), .second, .val (.int (8 : Int32))] [(.long ((own_v5_38_28 j1 i2 wd lb) &&& (((own_v5_38_28 j1 i2 wd lb).toUInt64 >>> ((8 : Int32) &&& 0x3f).toInt64.toUInt64).toInt64)))])) _
        refine XS.lstore X50.here hx rfl (hb hby own_d5_38) rfl (l' := #[.val (.ref r0), .val (.long j1), .second, .val (.int i2), .val (.long (own_v5_38_29 j1 i2 wd lb)), .second, .val (.int (8 : Int32))]) rfl ?_
        show Steps p.tables e below (T50.setTop (mkF m 40 #[.val (.ref r0), .val (.long j1), .second, .val (.int i2), .val (.long (own_v5_38_29 j1 i2 wd lb)), .second, .val (.int (8 : Int32))] [])) _
        refine XS.iload X50.here hx rfl (hb hby own_d5_40) rfl ?_
        show Steps p.tables e below (T50.setTop (mkF m 42 #[.val (.ref r0), .val (.long j1), .second, .val (.int i2), .val (.long (own_v5_38_29 j1 i2 wd lb)), .second, .val (.int (8 : Int32))] [(.int (8 : Int32))])) _
        refine XS.iconst X50.here hx rfl (hb hby own_d5_42) ?_
        show Steps p.tables e below (T50.setTop (mkF m 43 #[.val (.ref r0), .val (.long j1), .second, .val (.int i2), .val (.long (own_v5_38_29 j1 i2 wd lb)), .second, .val (.int (8 : Int32))] [(.int (1 : Int32)), (.int (8 : Int32))])) _
        refine XS.ishl X50.here hx rfl (hb hby own_d5_43) rfl ?_
        show Steps p.tables e below (T50.setTop (mkF m 44 #[.val (.ref r0), .val (.long j1), .second, .val (.int i2), .val (.long (own_v5_38_29 j1 i2 wd lb)), .second, .val (.int (8 : Int32))] [(.int (16 : Int32))])) _
        refine XS.istore X50.here hx rfl (hb hby own_d5_44) rfl (l' := #[.val (.ref r0), .val (.long j1), .second, .val (.int i2), .val (.long (own_v5_38_29 j1 i2 wd lb)), .second, .val (.int (16 : Int32))]) rfl ?_
        show Steps p.tables e below (T50.setTop (mkF m 46 #[.val (.ref r0), .val (.long j1), .second, .val (.int i2), .val (.long (own_v5_38_29 j1 i2 wd lb)), .second, .val (.int (16 : Int32))] [])) _
        refine XS.goto X50.here hx rfl (pc0 := 46) (pc' := 6) rfl (hb hby own_d5_46) (by decide) (by decide) ?_
        show Steps p.tables e below (T50.setTop (mkF m 6 #[.val (.ref r0), .val (.long j1), .second, .val (.int i2), .val (.long (own_v5_38_29 j1 i2 wd lb)), .second, .val (.int (16 : Int32))] [])) _
        refine XS.iload X50.here hx rfl (hb hby own_d5_6) rfl ?_
        show Steps p.tables e below (T50.setTop (mkF m 8 #[.val (.ref r0), .val (.long j1), .second, .val (.int i2), .val (.long (own_v5_38_29 j1 i2 wd lb)), .second, .val (.int (16 : Int32))] [(.int (16 : Int32))])) _
        refine XS.aloadN X50.here hx rfl (hb hby own_d5_8) rfl rfl ?_
        exact kt
      obtain ⟨T51, X51, e51, st51⟩ := getF X50 hx hZ hown (host := "") (Or.inl (hw _ (List.mem_of_getElem? (i := 15) rfl))) Via.refl e50 P0_k1 (g := (mkF m 9 #[.val (.ref r0), .val (.long j1), .second, .val (.int i2), .val (.long (own_v5_38_29 j1 i2 wd lb)), .second, .val (.int (16 : Int32))] [(.ref r0), (.int (16 : Int32))])) rfl rfl (hb hby own_d5_9)
      refine ownE.go (T' := T51) (f' := (mkF m 12 #[.val (.ref r0), .val (.long j1), .second, .val (.int i2), .val (.long (own_v5_38_29 j1 i2 wd lb)), .second, .val (.int (16 : Int32))] [(.int (32 : Int32)), (.int (16 : Int32))])) st51 ?_
      refine ownE.go (T' := T51) (f' := (mkF m 15 #[.val (.ref r0), .val (.long j1), .second, .val (.int i2), .val (.long (own_v5_38_29 j1 i2 wd lb)), .second, .val (.int (16 : Int32))] [])) (fun t kt => XS.icmpNo (g := (mkF m 12 #[.val (.ref r0), .val (.long j1), .second, .val (.int i2), .val (.long (own_v5_38_29 j1 i2 wd lb)), .second, .val (.int (16 : Int32))] [(.int (32 : Int32)), (.int (16 : Int32))])) X51.here hx rfl (hb hby own_d5_12) rfl (Jvm.Free.XT.ii_ge_f (by decide)) kt) ?_
      refine ownE.go (T' := T51) (f' := (mkF m 16 #[.val (.ref r0), .val (.long j1), .second, .val (.int i2), .val (.long (own_v5_38_29 j1 i2 wd lb)), .second, .val (.int (16 : Int32))] [(.int i2)])) (fun t kt => ?_) ?_
      · show Steps p.tables e below (T51.setTop (mkF m 15 #[.val (.ref r0), .val (.long j1), .second, .val (.int i2), .val (.long (own_v5_38_29 j1 i2 wd lb)), .second, .val (.int (16 : Int32))] [])) _
        refine XS.iloadN X51.here hx rfl (hb hby own_d5_15) rfl ?_
        exact kt
      refine ownE.go (T' := T51) (f' := (mkF m 19 #[.val (.ref r0), .val (.long j1), .second, .val (.int i2), .val (.long (own_v5_38_29 j1 i2 wd lb)), .second, .val (.int (16 : Int32))] [])) (fun t kt => XS.ifNo (g := (mkF m 16 #[.val (.ref r0), .val (.long j1), .second, .val (.int i2), .val (.long (own_v5_38_29 j1 i2 wd lb)), .second, .val (.int (16 : Int32))] [(.int i2)])) X51.here hx rfl (hb hby own_d5_16) rfl (Jvm.Free.XT.i0_eq_f hc41) kt) ?_
      refine ownE.go (T' := T51) (f' := (mkF m 9 #[.val (.ref r0), .val (.long j1), .second, .val (.int i2), .val (.long (own_v5_38_30 j1 i2 wd lb)), .second, .val (.int (32 : Int32))] [(.ref r0), (.int (32 : Int32))])) (fun t kt => ?_) ?_
      · show Steps p.tables e below (T51.setTop (mkF m 19 #[.val (.ref r0), .val (.long j1), .second, .val (.int i2), .val (.long (own_v5_38_29 j1 i2 wd lb)), .second, .val (.int (16 : Int32))] [])) _
        refine XS.lload X51.here hx rfl (hb hby own_d5_19) rfl ?_
        show Steps p.tables e below (T51.setTop (mkF m 21 #[.val (.ref r0), .val (.long j1), .second, .val (.int i2), .val (.long (own_v5_38_29 j1 i2 wd lb)), .second, .val (.int (16 : Int32))] [(.long (own_v5_38_29 j1 i2 wd lb))])) _
        refine XS.lload X51.here hx rfl (hb hby own_d5_21) rfl ?_
        show Steps p.tables e below (T51.setTop (mkF m 23 #[.val (.ref r0), .val (.long j1), .second, .val (.int i2), .val (.long (own_v5_38_29 j1 i2 wd lb)), .second, .val (.int (16 : Int32))] [(.long (own_v5_38_29 j1 i2 wd lb)), (.long (own_v5_38_29 j1 i2 wd lb))])) _
        refine XS.iload X51.here hx rfl (hb hby own_d5_23) rfl ?_
        show Steps p.tables e below (T51.setTop (mkF m 25 #[.val (.ref r0), .val (.long j1), .second, .val (.int i2), .val (.long (own_v5_38_29 j1 i2 wd lb)), .second, .val (.int (16 : Int32))] [(.int (16 : Int32)), (.long (own_v5_38_29 j1 i2 wd lb)), (.long (own_v5_38_29 j1 i2 wd lb))])) _
        refine XS.lushr X51.here hx rfl (hb hby own_d5_25) rfl ?_
        show Steps p.tables e below (T51.setTop (mkF m 26 #[.val (.ref r0), .val (.long j1), .second, .val (.int i2), .val (.long (own_v5_38_29 j1 i2 wd lb)), .second, .val (.int (16 : Int32))] [(.long (((own_v5_38_29 j1 i2 wd lb).toUInt64 >>> ((16 : Int32) &&& 0x3f).toInt64.toUInt64).toInt64)), (.long (own_v5_38_29 j1 i2 wd lb))])) _
        refine XS.land X51.here hx rfl (hb hby own_d5_26) rfl ?_
        show Steps p.tables e below (T51.setTop (mkF m 27 #[.val (.ref r0), .val (.long j1), .second, .val (.int i2), .val (.long (own_v5_38_29 j1 i2 wd lb)), .second, .val (.int (16 : Int32))] [(.long ((own_v5_38_29 j1 i2 wd lb) &&& (((own_v5_38_29 j1 i2 wd lb).toUInt64 >>> ((16 : Int32) &&& 0x3f).toInt64.toUInt64).toInt64)))])) _
        refine XS.goto X51.here hx rfl (pc0 := 27) (pc' := 38) rfl (hb hby own_d5_27) (by decide) (by decide) ?_
        show Steps p.tables e below (T51.setTop (mkF m 38 #[.val (.ref r0), .val (.long j1), .second, .val (.int i2), .val (.long (own_v5_38_29 j1 i2 wd lb)), .second, .val (.int (16 : Int32))] [(.long ((own_v5_38_29 j1 i2 wd lb) &&& (((own_v5_38_29 j1 i2 wd lb).toUInt64 >>> ((16 : Int32) &&& 0x3f).toInt64.toUInt64).toInt64)))])) _
        refine XS.lstore X51.here hx rfl (hb hby own_d5_38) rfl (l' := #[.val (.ref r0), .val (.long j1), .second, .val (.int i2), .val (.long (own_v5_38_30 j1 i2 wd lb)), .second, .val (.int (16 : Int32))]) rfl ?_
        show Steps p.tables e below (T51.setTop (mkF m 40 #[.val (.ref r0), .val (.long j1), .second, .val (.int i2), .val (.long (own_v5_38_30 j1 i2 wd lb)), .second, .val (.int (16 : Int32))] [])) _
        refine XS.iload X51.here hx rfl (hb hby own_d5_40) rfl ?_
        show Steps p.tables e below (T51.setTop (mkF m 42 #[.val (.ref r0), .val (.long j1), .second, .val (.int i2), .val (.long (own_v5_38_30 j1 i2 wd lb)), .second, .val (.int (16 : Int32))] [(.int (16 : Int32))])) _
        refine XS.iconst X51.here hx rfl (hb hby own_d5_42) ?_
        show Steps p.tables e below (T51.setTop (mkF m 43 #[.val (.ref r0), .val (.long j1), .second, .val (.int i2), .val (.long (own_v5_38_30 j1 i2 wd lb)), .second, .val (.int (16 : Int32))] [(.int (1 : Int32)), (.int (16 : Int32))])) _
        refine XS.ishl X51.here hx rfl (hb hby own_d5_43) rfl ?_
        show Steps p.tables e below (T51.setTop (mkF m 44 #[.val (.ref r0), .val (.long j1), .second, .val (.int i2), .val (.long (own_v5_38_30 j1 i2 wd lb)), .second, .val (.int (16 : Int32))] [(.int (32 : Int32))])) _
        refine XS.istore X51.here hx rfl (hb hby own_d5_44) rfl (l' := #[.val (.ref r0), .val (.long j1), .second, .val (.int i2), .val (.long (own_v5_38_30 j1 i2 wd lb)), .second, .val (.int (32 : Int32))]) rfl ?_
        show Steps p.tables e below (T51.setTop (mkF m 46 #[.val (.ref r0), .val (.long j1), .second, .val (.int i2), .val (.long (own_v5_38_30 j1 i2 wd lb)), .second, .val (.int (32 : Int32))] [])) _
        refine XS.goto X51.here hx rfl (pc0 := 46) (pc' := 6) rfl (hb hby own_d5_46) (by decide) (by decide) ?_
        show Steps p.tables e below (T51.setTop (mkF m 6 #[.val (.ref r0), .val (.long j1), .second, .val (.int i2), .val (.long (own_v5_38_30 j1 i2 wd lb)), .second, .val (.int (32 : Int32))] [])) _
        refine XS.iload X51.here hx rfl (hb hby own_d5_6) rfl ?_
        show Steps p.tables e below (T51.setTop (mkF m 8 #[.val (.ref r0), .val (.long j1), .second, .val (.int i2), .val (.long (own_v5_38_30 j1 i2 wd lb)), .second, .val (.int (32 : Int32))] [(.int (32 : Int32))])) _
        refine XS.aloadN X51.here hx rfl (hb hby own_d5_8) rfl rfl ?_
        exact kt
      obtain ⟨T52, X52, e52, st52⟩ := getF X51 hx hZ hown (host := "") (Or.inl (hw _ (List.mem_of_getElem? (i := 15) rfl))) Via.refl e51 P0_k1 (g := (mkF m 9 #[.val (.ref r0), .val (.long j1), .second, .val (.int i2), .val (.long (own_v5_38_30 j1 i2 wd lb)), .second, .val (.int (32 : Int32))] [(.ref r0), (.int (32 : Int32))])) rfl rfl (hb hby own_d5_9)
      refine ownE.go (T' := T52) (f' := (mkF m 12 #[.val (.ref r0), .val (.long j1), .second, .val (.int i2), .val (.long (own_v5_38_30 j1 i2 wd lb)), .second, .val (.int (32 : Int32))] [(.int (32 : Int32)), (.int (32 : Int32))])) st52 ?_
      refine ownE.go (T' := T52) (f' := (mkF m 49 #[.val (.ref r0), .val (.long j1), .second, .val (.int i2), .val (.long (own_v5_38_30 j1 i2 wd lb)), .second, .val (.int (32 : Int32))] [])) (fun t kt => XS.icmpYes (g := (mkF m 12 #[.val (.ref r0), .val (.long j1), .second, .val (.int i2), .val (.long (own_v5_38_30 j1 i2 wd lb)), .second, .val (.int (32 : Int32))] [(.int (32 : Int32)), (.int (32 : Int32))])) X52.here hx rfl (pc0 := 12) (pc' := 49) rfl (hb hby own_d5_12) rfl (Jvm.Free.XT.ii_ge_t (by decide)) (by decide) (by decide) kt) ?_
      refine ownE.go (T' := T52) (f' := (mkF m 52 #[.val (.ref r0), .val (.long j1), .second, .val (.int i2), .val (.long (own_v5_38_30 j1 i2 wd lb)), .second, .val (.int (32 : Int32))] [(.ref r0), (.long (own_v5_38_30 j1 i2 wd lb))])) (fun t kt => ?_) ?_
      · show Steps p.tables e below (T52.setTop (mkF m 49 #[.val (.ref r0), .val (.long j1), .second, .val (.int i2), .val (.long (own_v5_38_30 j1 i2 wd lb)), .second, .val (.int (32 : Int32))] [])) _
        refine XS.lload X52.here hx rfl (hb hby own_d5_49) rfl ?_
        show Steps p.tables e below (T52.setTop (mkF m 51 #[.val (.ref r0), .val (.long j1), .second, .val (.int i2), .val (.long (own_v5_38_30 j1 i2 wd lb)), .second, .val (.int (32 : Int32))] [(.long (own_v5_38_30 j1 i2 wd lb))])) _
        refine XS.aloadN X52.here hx rfl (hb hby own_d5_51) rfl rfl ?_
        exact kt
      obtain ⟨T53, X53, e53, st53⟩ := getF X52 hx hZ hown (host := "") (Or.inl (hw _ (List.mem_of_getElem? (i := 25) rfl))) Via.refl e52 P1 (g := (mkF m 52 #[.val (.ref r0), .val (.long j1), .second, .val (.int i2), .val (.long (own_v5_38_30 j1 i2 wd lb)), .second, .val (.int (32 : Int32))] [(.ref r0), (.long (own_v5_38_30 j1 i2 wd lb))])) rfl rfl (hb hby own_d5_52)
      refine ownE.go (T' := T53) (f' := (mkF m 55 #[.val (.ref r0), .val (.long j1), .second, .val (.int i2), .val (.long (own_v5_38_30 j1 i2 wd lb)), .second, .val (.int (32 : Int32))] [(.long lb), (.long (own_v5_38_30 j1 i2 wd lb))])) st53 ?_
      refine ownE.go (T' := T53) (f' := (mkF m 56 #[.val (.ref r0), .val (.long j1), .second, .val (.int i2), .val (.long (own_v5_38_30 j1 i2 wd lb)), .second, .val (.int (32 : Int32))] [(.long ((own_v5_38_30 j1 i2 wd lb) &&& lb))])) (fun t kt => ?_) ?_
      · show Steps p.tables e below (T53.setTop (mkF m 55 #[.val (.ref r0), .val (.long j1), .second, .val (.int i2), .val (.long (own_v5_38_30 j1 i2 wd lb)), .second, .val (.int (32 : Int32))] [(.long lb), (.long (own_v5_38_30 j1 i2 wd lb))])) _
        refine XS.land X53.here hx rfl (hb hby own_d5_55) rfl ?_
        exact kt
      refine ownE.retL X53 hx hlk hret (hb hby own_d5_56) ?_ (by decide) (by decide)
      show own_Q5 Z r0 j1 i2 wd lb h0 n0 _ T53.heap _
      rw [e53]
      exact ⟨(by rw [own_fold, if_neg hk1_0, if_neg hk1_1, if_neg hk1_2, if_neg hk1_3, if_neg hk1_4, if_neg hc41] <;> first | rfl | decide), N0, rfl⟩
theorem own_wsix (x : Int32) : ((1 : Int32) <<< (((x &&& (2147483647 : Int32)) % (6 : Int32)) &&& 31)) = (1 : Int32) ∨ ((1 : Int32) <<< (((x &&& (2147483647 : Int32)) % (6 : Int32)) &&& 31)) = (2 : Int32) ∨ ((1 : Int32) <<< (((x &&& (2147483647 : Int32)) % (6 : Int32)) &&& 31)) = (4 : Int32) ∨ ((1 : Int32) <<< (((x &&& (2147483647 : Int32)) % (6 : Int32)) &&& 31)) = (8 : Int32) ∨ ((1 : Int32) <<< (((x &&& (2147483647 : Int32)) % (6 : Int32)) &&& 31)) = (16 : Int32) ∨ ((1 : Int32) <<< (((x &&& (2147483647 : Int32)) % (6 : Int32)) &&& 31)) = (32 : Int32) := by
  rcases own_six x with h | h | h | h | h | h <;> rw [h] <;> decide
def own_v0_13 (j0 : Int64) (i1 : Int32) (i2 : Int32) (i3 : Int32) : Int32 := ((1 : Int32) <<< (((i2 &&& (2147483647 : Int32)) % (6 : Int32)) &&& 31))
def own_v0_29 (j0 : Int64) (i1 : Int32) (i2 : Int32) (i3 : Int32) : Int32 := (i3 &&& (((64 : Int32) >>> (((i2 &&& (2147483647 : Int32)) % (6 : Int32)) &&& 31)) - (1 : Int32)))
def own_j0_42_S0 (j0 : Int64) (i1 : Int32) (i2 : Int32) (i3 : Int32) : Int32 :=
  if (i1 &&& (1 : Int32)) = (0 : Int32) then
    (0 : Int32)
  else
    (1 : Int32)
def own_v0_50 (j0 : Int64) (i1 : Int32) (i2 : Int32) (i3 : Int32) : Int64 := (((1 : Int64) <<< ((own_v0_13 j0 i1 i2 i3) &&& 0x3f).toInt64) - (1 : Int64))
theorem own_pd4 : parseMethodDescriptor "(I)J" = some ⟨[.int], some .long⟩ := by decide +kernel
def own_v0_57 (j0 : Int64) (i1 : Int32) (i2 : Int32) (i3 : Int32) : Int64 := (own_lbo ((i2 &&& (2147483647 : Int32)) % (6 : Int32)))
theorem own_pd5 : parseMethodDescriptor "(I)V" = some ⟨[.int], none⟩ := by decide +kernel
theorem own_pd6 : parseMethodDescriptor "(JZ)J" = some ⟨[.long, .boolean], some .long⟩ := by decide +kernel
def own_v0_78 (j0 : Int64) (i1 : Int32) (i2 : Int32) (i3 : Int32) : Int64 := (own_fold j0 (own_j0_42_S0 j0 i1 i2 i3) (own_v0_13 j0 i1 i2 i3) (own_lb (own_v0_13 j0 i1 i2 i3)))
def own_v0_85 (j0 : Int64) (i1 : Int32) (i2 : Int32) (i3 : Int32) : Int32 := ((own_v0_29 j0 i1 i2 i3) * (own_v0_13 j0 i1 i2 i3))
def own_v0_94 (j0 : Int64) (i1 : Int32) (i2 : Int32) (i3 : Int32) : Int64 := (((j0.toUInt64 >>> ((own_v0_85 j0 i1 i2 i3) &&& 0x3f).toInt64.toUInt64).toInt64) &&& (own_v0_50 j0 i1 i2 i3))
def own_j0_133_L20 (j0 : Int64) (i1 : Int32) (i2 : Int32) (i3 : Int32) : Int32 :=
  if (own_j0_42_S0 j0 i1 i2 i3) = (0 : Int32) then
    if (own_v0_94 j0 i1 i2 i3) = (0 : Int64) then
      (0 : Int32)
    else
      (1 : Int32)
  else
    if (own_v0_94 j0 i1 i2 i3) = (own_v0_50 j0 i1 i2 i3) then
      (1 : Int32)
    else
      (0 : Int32)
def own_j0_143_S0 (j0 : Int64) (i1 : Int32) (i2 : Int32) (i3 : Int32) : Int64 :=
  if (own_j0_133_L20 j0 i1 i2 i3) = (0 : Int32) then
    (0 : Int64)
  else
    (1 : Int64)
def own_j0_164_S0 (j0 : Int64) (i1 : Int32) (i2 : Int32) (i3 : Int32) : Int32 :=
  if ((own_v0_78 j0 i1 i2 i3) &&& ((own_v0_57 j0 i1 i2 i3) ^^^ (-1 : Int64))) = (0 : Int64) then
    (1 : Int32)
  else
    (0 : Int32)
def own_j0_185_S0 (j0 : Int64) (i1 : Int32) (i2 : Int32) (i3 : Int32) : Int32 :=
  if ((((own_v0_78 j0 i1 i2 i3).toUInt64 >>> ((own_v0_85 j0 i1 i2 i3) &&& 0x3f).toInt64.toUInt64).toInt64) &&& (own_v0_50 j0 i1 i2 i3)) = (own_j0_143_S0 j0 i1 i2 i3) then
    (1 : Int32)
  else
    (0 : Int32)
theorem own_ef0 (m : MethodId) (x0 : Int64) (x1 : Int32) (x2 : Int32) (x3 : Int32) : entryFrame m #[(.long x0), (.int x1), (.int x2), (.int x3)] maxLocals = mkF m 0 #[.val (.long x0), .second, .val (.int x1), .val (.int x2), .val (.int x3), .unset, .unset, .unset, .unset, .unset, .unset, .unset, .unset, .unset, .unset, .unset, .unset, .unset, .unset, .unset, .unset, .unset, .unset, .unset, .unset] [] := by first | (simp [entryFrame, mkF, argsToLocals, Value.category, maxLocals]; done) | rfl
def own_f0 (j0 : Int64) (i1 : Int32) (i2 : Int32) (i3 : Int32) : Int32 :=
  if (own_j0_164_S0 j0 i1 i2 i3) = (0 : Int32) then
    (0 : Int32)
  else
    if (own_j0_185_S0 j0 i1 i2 i3) = (0 : Int32) then
      (0 : Int32)
    else
      (1 : Int32)
def own_Q0 (Z : State) (j0 : Int64) (i1 : Int32) (i2 : Int32) (i3 : Int32) (h0 : Heap) (n0 : Nat) (v : Option Value) (h : Heap) (L : List Loc) : Prop := v = some (.int (own_f0 j0 i1 i2 i3)) ∧ Fr n0 L ∧ Keep h0 h []
set_option maxRecDepth 65536 in
set_option maxHeartbeats 40000000 in
theorem own_rm0 (l : Launch) (Z : State) (a0 : Array Value) (hw : ∀ d ∈ tables_1, d.before a0 Z = true) (ws : List Jvm.Cond) (j0 : Int64) (i1 : Int32) (i2 : Int32) (i3 : Int32) (h0 : Heap) (n0 : Nat) (Z0 : n0 ≤ h0.size) :
    MetFree l x (head1 (Jvm.Cond.code x code maxLocals ret :: ws) room_1) (fun a U => a = #[(.long j0), (.int i1), (.int i2), (.int i3)] ∧ Z.Warmed39 U.vm ∧ U.heap = h0) (fun _ _ _ _ _ => True) (fun _ U o U' => ∃ v L, o = .returned v ∧ own_Q0 Z j0 i1 i2 i3 h0 n0 v U'.heap L ∧ FrameEnd U o U' L 1 4) := by
  refine MetFree.of_bodySF (plainFor_of_name own_pn3) hisR ?_
  intro p e s m args below meth c s₁ Bd hml0 hP hK
  obtain ⟨rfl, hZ, hh⟩ := hP
  have hx := Bd.exec
  have hby := Bd.bytes
  have hret := Bd.returns
  have hlk := BodyLoose.notSynchronized Bd
  have hml : c.maxLocals = 25 := hml0
  have hown : s.vm.findClass "com/example/upper_falls/upperfalls/CellWordsFoldPinLaw" = some m.cls := findClass_of_methodNamed Bd.named
  have hnm := (name_of_methodNamed Bd.named Bd.method).1
  have X0 : Stand p l e room_1 s m #[(.long j0), (.int i1), (.int i2), (.int i3)] below meth c s₁ [] 0 0 := Stand.of_body Bd
  have e0 : s₁.heap = h0 := by rw [← hh, Bd.state]; rfl
  have N0 := Fr.nil n0
  have K0 : Keep h0 h0 [] := Keep.refl h0 _
  show ownE p e below s (own_Q0 Z j0 i1 i2 i3 h0 n0) 1 4 s₁ (entryFrame m #[(.long j0), (.int i1), (.int i2), (.int i3)] maxLocals)
  rw [own_ef0]
  refine ownE.go (T' := s₁) (f' := (mkF m 31 #[.val (.long j0), .second, .val (.int i1), .val (.int i2), .val (.int i3), .val (.int ((i2 &&& (2147483647 : Int32)) % (6 : Int32))), .val (.int (own_v0_13 j0 i1 i2 i3)), .val (.int ((64 : Int32) >>> (((i2 &&& (2147483647 : Int32)) % (6 : Int32)) &&& 31))), .val (.int (own_v0_29 j0 i1 i2 i3)), .unset, .unset, .unset, .unset, .unset, .unset, .unset, .unset, .unset, .unset, .unset, .unset, .unset, .unset, .unset, .unset] [])) (fun t kt => ?_) ?_
  · show Steps p.tables e below (s₁.setTop (mkF m 0 #[.val (.long j0), .second, .val (.int i1), .val (.int i2), .val (.int i3), .unset, .unset, .unset, .unset, .unset, .unset, .unset, .unset, .unset, .unset, .unset, .unset, .unset, .unset, .unset, .unset, .unset, .unset, .unset, .unset] [])) _
    refine XS.iloadN X0.here hx rfl (hb hby at_0) rfl ?_
    show Steps p.tables e below (s₁.setTop (mkF m 1 #[.val (.long j0), .second, .val (.int i1), .val (.int i2), .val (.int i3), .unset, .unset, .unset, .unset, .unset, .unset, .unset, .unset, .unset, .unset, .unset, .unset, .unset, .unset, .unset, .unset, .unset, .unset, .unset, .unset] [(.int i2)])) _
    refine X0.ldcInt hx hown (mvT hZ (hw _ (List.mem_of_getElem? (i := 0) rfl))) (g := (mkF m 1 #[.val (.long j0), .second, .val (.int i1), .val (.int i2), .val (.int i3), .unset, .unset, .unset, .unset, .unset, .unset, .unset, .unset, .unset, .unset, .unset, .unset, .unset, .unset, .unset, .unset, .unset, .unset, .unset, .unset] [(.int i2)])) rfl (hb hby at_1) _ ?_
    show Steps p.tables e below (s₁.setTop (mkF m 3 #[.val (.long j0), .second, .val (.int i1), .val (.int i2), .val (.int i3), .unset, .unset, .unset, .unset, .unset, .unset, .unset, .unset, .unset, .unset, .unset, .unset, .unset, .unset, .unset, .unset, .unset, .unset, .unset, .unset] [(.int (2147483647 : Int32)), (.int i2)])) _
    refine XS.iand X0.here hx rfl (hb hby at_3) rfl ?_
    show Steps p.tables e below (s₁.setTop (mkF m 4 #[.val (.long j0), .second, .val (.int i1), .val (.int i2), .val (.int i3), .unset, .unset, .unset, .unset, .unset, .unset, .unset, .unset, .unset, .unset, .unset, .unset, .unset, .unset, .unset, .unset, .unset, .unset, .unset, .unset] [(.int (i2 &&& (2147483647 : Int32)))])) _
    refine XS.bipush X0.here hx rfl (hb hby at_4) ?_
    show Steps p.tables e below (s₁.setTop (mkF m 6 #[.val (.long j0), .second, .val (.int i1), .val (.int i2), .val (.int i3), .unset, .unset, .unset, .unset, .unset, .unset, .unset, .unset, .unset, .unset, .unset, .unset, .unset, .unset, .unset, .unset, .unset, .unset, .unset, .unset] [(.int (6 : Int32)), (.int (i2 &&& (2147483647 : Int32)))])) _
    refine iremM X0 hx rfl (hb hby at_6) rfl (by decide) ?_
    show Steps p.tables e below (s₁.setTop (mkF m 7 #[.val (.long j0), .second, .val (.int i1), .val (.int i2), .val (.int i3), .unset, .unset, .unset, .unset, .unset, .unset, .unset, .unset, .unset, .unset, .unset, .unset, .unset, .unset, .unset, .unset, .unset, .unset, .unset, .unset] [(.int ((i2 &&& (2147483647 : Int32)) % (6 : Int32)))])) _
    refine XS.istore X0.here hx rfl (hb hby at_7) rfl (l' := #[.val (.long j0), .second, .val (.int i1), .val (.int i2), .val (.int i3), .val (.int ((i2 &&& (2147483647 : Int32)) % (6 : Int32))), .unset, .unset, .unset, .unset, .unset, .unset, .unset, .unset, .unset, .unset, .unset, .unset, .unset, .unset, .unset, .unset, .unset, .unset, .unset]) rfl ?_
    show Steps p.tables e below (s₁.setTop (mkF m 9 #[.val (.long j0), .second, .val (.int i1), .val (.int i2), .val (.int i3), .val (.int ((i2 &&& (2147483647 : Int32)) % (6 : Int32))), .unset, .unset, .unset, .unset, .unset, .unset, .unset, .unset, .unset, .unset, .unset, .unset, .unset, .unset, .unset, .unset, .unset, .unset, .unset] [])) _
    refine XS.iconst X0.here hx rfl (hb hby at_9) ?_
    show Steps p.tables e below (s₁.setTop (mkF m 10 #[.val (.long j0), .second, .val (.int i1), .val (.int i2), .val (.int i3), .val (.int ((i2 &&& (2147483647 : Int32)) % (6 : Int32))), .unset, .unset, .unset, .unset, .unset, .unset, .unset, .unset, .unset, .unset, .unset, .unset, .unset, .unset, .unset, .unset, .unset, .unset, .unset] [(.int (1 : Int32))])) _
    refine XS.iload X0.here hx rfl (hb hby at_10) rfl ?_
    show Steps p.tables e below (s₁.setTop (mkF m 12 #[.val (.long j0), .second, .val (.int i1), .val (.int i2), .val (.int i3), .val (.int ((i2 &&& (2147483647 : Int32)) % (6 : Int32))), .unset, .unset, .unset, .unset, .unset, .unset, .unset, .unset, .unset, .unset, .unset, .unset, .unset, .unset, .unset, .unset, .unset, .unset, .unset] [(.int ((i2 &&& (2147483647 : Int32)) % (6 : Int32))), (.int (1 : Int32))])) _
    refine XS.ishl X0.here hx rfl (hb hby at_12) rfl ?_
    show Steps p.tables e below (s₁.setTop (mkF m 13 #[.val (.long j0), .second, .val (.int i1), .val (.int i2), .val (.int i3), .val (.int ((i2 &&& (2147483647 : Int32)) % (6 : Int32))), .unset, .unset, .unset, .unset, .unset, .unset, .unset, .unset, .unset, .unset, .unset, .unset, .unset, .unset, .unset, .unset, .unset, .unset, .unset] [(.int ((1 : Int32) <<< (((i2 &&& (2147483647 : Int32)) % (6 : Int32)) &&& 31)))])) _
    refine XS.istore X0.here hx rfl (hb hby at_13) rfl (l' := #[.val (.long j0), .second, .val (.int i1), .val (.int i2), .val (.int i3), .val (.int ((i2 &&& (2147483647 : Int32)) % (6 : Int32))), .val (.int (own_v0_13 j0 i1 i2 i3)), .unset, .unset, .unset, .unset, .unset, .unset, .unset, .unset, .unset, .unset, .unset, .unset, .unset, .unset, .unset, .unset, .unset, .unset]) rfl ?_
    show Steps p.tables e below (s₁.setTop (mkF m 15 #[.val (.long j0), .second, .val (.int i1), .val (.int i2), .val (.int i3), .val (.int ((i2 &&& (2147483647 : Int32)) % (6 : Int32))), .val (.int (own_v0_13 j0 i1 i2 i3)), .unset, .unset, .unset, .unset, .unset, .unset, .unset, .unset, .unset, .unset, .unset, .unset, .unset, .unset, .unset, .unset, .unset, .unset] [])) _
    refine XS.bipush X0.here hx rfl (hb hby at_15) ?_
    show Steps p.tables e below (s₁.setTop (mkF m 17 #[.val (.long j0), .second, .val (.int i1), .val (.int i2), .val (.int i3), .val (.int ((i2 &&& (2147483647 : Int32)) % (6 : Int32))), .val (.int (own_v0_13 j0 i1 i2 i3)), .unset, .unset, .unset, .unset, .unset, .unset, .unset, .unset, .unset, .unset, .unset, .unset, .unset, .unset, .unset, .unset, .unset, .unset] [(.int (64 : Int32))])) _
    refine XS.iload X0.here hx rfl (hb hby at_17) rfl ?_
    show Steps p.tables e below (s₁.setTop (mkF m 19 #[.val (.long j0), .second, .val (.int i1), .val (.int i2), .val (.int i3), .val (.int ((i2 &&& (2147483647 : Int32)) % (6 : Int32))), .val (.int (own_v0_13 j0 i1 i2 i3)), .unset, .unset, .unset, .unset, .unset, .unset, .unset, .unset, .unset, .unset, .unset, .unset, .unset, .unset, .unset, .unset, .unset, .unset] [(.int ((i2 &&& (2147483647 : Int32)) % (6 : Int32))), (.int (64 : Int32))])) _
    refine XS.ishr X0.here hx rfl (hb hby at_19) rfl ?_
    show Steps p.tables e below (s₁.setTop (mkF m 20 #[.val (.long j0), .second, .val (.int i1), .val (.int i2), .val (.int i3), .val (.int ((i2 &&& (2147483647 : Int32)) % (6 : Int32))), .val (.int (own_v0_13 j0 i1 i2 i3)), .unset, .unset, .unset, .unset, .unset, .unset, .unset, .unset, .unset, .unset, .unset, .unset, .unset, .unset, .unset, .unset, .unset, .unset] [(.int ((64 : Int32) >>> (((i2 &&& (2147483647 : Int32)) % (6 : Int32)) &&& 31)))])) _
    refine XS.istore X0.here hx rfl (hb hby at_20) rfl (l' := #[.val (.long j0), .second, .val (.int i1), .val (.int i2), .val (.int i3), .val (.int ((i2 &&& (2147483647 : Int32)) % (6 : Int32))), .val (.int (own_v0_13 j0 i1 i2 i3)), .val (.int ((64 : Int32) >>> (((i2 &&& (2147483647 : Int32)) % (6 : Int32)) &&& 31))), .unset, .unset, .unset, .unset, .unset, .unset, .unset, .unset, .unset, .unset, .unset, .unset, .unset, .unset, .unset, .unset, .unset]) rfl ?_
    show Steps p.tables e below (s₁.setTop (mkF m 22 #[.val (.long j0), .second, .val (.int i1), .val (.int i2), .val (.int i3), .val (.int ((i2 &&& (2147483647 : Int32)) % (6 : Int32))), .val (.int (own_v0_13 j0 i1 i2 i3)), .val (.int ((64 : Int32) >>> (((i2 &&& (2147483647 : Int32)) % (6 : Int32)) &&& 31))), .unset, .unset, .unset, .unset, .unset, .unset, .unset, .unset, .unset, .unset, .unset, .unset, .unset, .unset, .unset, .unset, .unset] [])) _
    refine XS.iload X0.here hx rfl (hb hby at_22) rfl ?_
    show Steps p.tables e below (s₁.setTop (mkF m 24 #[.val (.long j0), .second, .val (.int i1), .val (.int i2), .val (.int i3), .val (.int ((i2 &&& (2147483647 : Int32)) % (6 : Int32))), .val (.int (own_v0_13 j0 i1 i2 i3)), .val (.int ((64 : Int32) >>> (((i2 &&& (2147483647 : Int32)) % (6 : Int32)) &&& 31))), .unset, .unset, .unset, .unset, .unset, .unset, .unset, .unset, .unset, .unset, .unset, .unset, .unset, .unset, .unset, .unset, .unset] [(.int i3)])) _
    refine XS.iload X0.here hx rfl (hb hby at_24) rfl ?_
    show Steps p.tables e below (s₁.setTop (mkF m 26 #[.val (.long j0), .second, .val (.int i1), .val (.int i2), .val (.int i3), .val (.int ((i2 &&& (2147483647 : Int32)) % (6 : Int32))), .val (.int (own_v0_13 j0 i1 i2 i3)), .val (.int ((64 : Int32) >>> (((i2 &&& (2147483647 : Int32)) % (6 : Int32)) &&& 31))), .unset, .unset, .unset, .unset, .unset, .unset, .unset, .unset, .unset, .unset, .unset, .unset, .unset, .unset, .unset, .unset, .unset] [(.int ((64 : Int32) >>> (((i2 &&& (2147483647 : Int32)) % (6 : Int32)) &&& 31))), (.int i3)])) _
    refine XS.iconst X0.here hx rfl (hb hby at_26) ?_
    show Steps p.tables e below (s₁.setTop (mkF m 27 #[.val (.long j0), .second, .val (.int i1), .val (.int i2), .val (.int i3), .val (.int ((i2 &&& (2147483647 : Int32)) % (6 : Int32))), .val (.int (own_v0_13 j0 i1 i2 i3)), .val (.int ((64 : Int32) >>> (((i2 &&& (2147483647 : Int32)) % (6 : Int32)) &&& 31))), .unset, .unset, .unset, .unset, .unset, .unset, .unset, .unset, .unset, .unset, .unset, .unset, .unset, .unset, .unset, .unset, .unset] [(.int (1 : Int32)), (.int ((64 : Int32) >>> (((i2 &&& (2147483647 : Int32)) % (6 : Int32)) &&& 31))), (.int i3)])) _
    refine XS.isub X0.here hx rfl (hb hby at_27) rfl ?_
    show Steps p.tables e below (s₁.setTop (mkF m 28 #[.val (.long j0), .second, .val (.int i1), .val (.int i2), .val (.int i3), .val (.int ((i2 &&& (2147483647 : Int32)) % (6 : Int32))), .val (.int (own_v0_13 j0 i1 i2 i3)), .val (.int ((64 : Int32) >>> (((i2 &&& (2147483647 : Int32)) % (6 : Int32)) &&& 31))), .unset, .unset, .unset, .unset, .unset, .unset, .unset, .unset, .unset, .unset, .unset, .unset, .unset, .unset, .unset, .unset, .unset] [(.int (((64 : Int32) >>> (((i2 &&& (2147483647 : Int32)) % (6 : Int32)) &&& 31)) - (1 : Int32))), (.int i3)])) _
    refine XS.iand X0.here hx rfl (hb hby at_28) rfl ?_
    show Steps p.tables e below (s₁.setTop (mkF m 29 #[.val (.long j0), .second, .val (.int i1), .val (.int i2), .val (.int i3), .val (.int ((i2 &&& (2147483647 : Int32)) % (6 : Int32))), .val (.int (own_v0_13 j0 i1 i2 i3)), .val (.int ((64 : Int32) >>> (((i2 &&& (2147483647 : Int32)) % (6 : Int32)) &&& 31))), .unset, .unset, .unset, .unset, .unset, .unset, .unset, .unset, .unset, .unset, .unset, .unset, .unset, .unset, .unset, .unset, .unset] [(.int (i3 &&& (((64 : Int32) >>> (((i2 &&& (2147483647 : Int32)) % (6 : Int32)) &&& 31)) - (1 : Int32))))])) _
    refine XS.istore X0.here hx rfl (hb hby at_29) rfl (l' := #[.val (.long j0), .second, .val (.int i1), .val (.int i2), .val (.int i3), .val (.int ((i2 &&& (2147483647 : Int32)) % (6 : Int32))), .val (.int (own_v0_13 j0 i1 i2 i3)), .val (.int ((64 : Int32) >>> (((i2 &&& (2147483647 : Int32)) % (6 : Int32)) &&& 31))), .val (.int (own_v0_29 j0 i1 i2 i3)), .unset, .unset, .unset, .unset, .unset, .unset, .unset, .unset, .unset, .unset, .unset, .unset, .unset, .unset, .unset, .unset]) rfl ?_
    exact kt
  have J3 : ∀ (TJ3 : State) (locsJ3 : List Loc), Stand p l e room_1 s m #[(.long j0), (.int i1), (.int i2), (.int i3)] below meth c TJ3 locsJ3 0 0 → TJ3.heap = h0 → Fr n0 locsJ3 → ownE p e below s (own_Q0 Z j0 i1 i2 i3 h0 n0) 1 4 TJ3 (mkF m 42 #[.val (.long j0), .second, .val (.int i1), .val (.int i2), .val (.int i3), .val (.int ((i2 &&& (2147483647 : Int32)) % (6 : Int32))), .val (.int (own_v0_13 j0 i1 i2 i3)), .val (.int ((64 : Int32) >>> (((i2 &&& (2147483647 : Int32)) % (6 : Int32)) &&& 31))), .val (.int (own_v0_29 j0 i1 i2 i3)), .unset, .unset, .unset, .unset, .unset, .unset, .unset, .unset, .unset, .unset, .unset, .unset, .unset, .unset, .unset, .unset] [(.int (own_j0_42_S0 j0 i1 i2 i3))]) := by
    intro TJ3 locsJ3 XJ3 eJ3 NJ3
    refine ownE.go (T' := TJ3) (f' := (mkF m 54 #[.val (.long j0), .second, .val (.int i1), .val (.int i2), .val (.int i3), .val (.int ((i2 &&& (2147483647 : Int32)) % (6 : Int32))), .val (.int (own_v0_13 j0 i1 i2 i3)), .val (.int ((64 : Int32) >>> (((i2 &&& (2147483647 : Int32)) % (6 : Int32)) &&& 31))), .val (.int (own_v0_29 j0 i1 i2 i3)), .val (.int (own_j0_42_S0 j0 i1 i2 i3)), .val (.long (own_v0_50 j0 i1 i2 i3)), .second, .unset, .unset, .unset, .unset, .unset, .unset, .unset, .unset, .unset, .unset, .unset, .unset, .unset] [(.int ((i2 &&& (2147483647 : Int32)) % (6 : Int32)))])) (fun t kt => ?_) ?_
    · show Steps p.tables e below (TJ3.setTop (mkF m 42 #[.val (.long j0), .second, .val (.int i1), .val (.int i2), .val (.int i3), .val (.int ((i2 &&& (2147483647 : Int32)) % (6 : Int32))), .val (.int (own_v0_13 j0 i1 i2 i3)), .val (.int ((64 : Int32) >>> (((i2 &&& (2147483647 : Int32)) % (6 : Int32)) &&& 31))), .val (.int (own_v0_29 j0 i1 i2 i3)), .unset, .unset, .unset, .unset, .unset, .unset, .unset, .unset, .unset, .unset, .unset, .unset, .unset, .unset, .unset, .unset] [(.int (own_j0_42_S0 j0 i1 i2 i3))])) _
      refine XS.istore XJ3.here hx rfl (hb hby at_42) rfl (l' := #[.val (.long j0), .second, .val (.int i1), .val (.int i2), .val (.int i3), .val (.int ((i2 &&& (2147483647 : Int32)) % (6 : Int32))), .val (.int (own_v0_13 j0 i1 i2 i3)), .val (.int ((64 : Int32) >>> (((i2 &&& (2147483647 : Int32)) % (6 : Int32)) &&& 31))), .val (.int (own_v0_29 j0 i1 i2 i3)), .val (.int (own_j0_42_S0 j0 i1 i2 i3)), .unset, .unset, .unset, .unset, .unset, .unset, .unset, .unset, .unset, .unset, .unset, .unset, .unset, .unset, .unset]) rfl ?_
      show Steps p.tables e below (TJ3.setTop (mkF m 44 #[.val (.long j0), .second, .val (.int i1), .val (.int i2), .val (.int i3), .val (.int ((i2 &&& (2147483647 : Int32)) % (6 : Int32))), .val (.int (own_v0_13 j0 i1 i2 i3)), .val (.int ((64 : Int32) >>> (((i2 &&& (2147483647 : Int32)) % (6 : Int32)) &&& 31))), .val (.int (own_v0_29 j0 i1 i2 i3)), .val (.int (own_j0_42_S0 j0 i1 i2 i3)), .unset, .unset, .unset, .unset, .unset, .unset, .unset, .unset, .unset, .unset, .unset, .unset, .unset, .unset, .unset] [])) _
      refine XS.lconst XJ3.here hx rfl (hb hby at_44) ?_
      show Steps p.tables e below (TJ3.setTop (mkF m 45 #[.val (.long j0), .second, .val (.int i1), .val (.int i2), .val (.int i3), .val (.int ((i2 &&& (2147483647 : Int32)) % (6 : Int32))), .val (.int (own_v0_13 j0 i1 i2 i3)), .val (.int ((64 : Int32) >>> (((i2 &&& (2147483647 : Int32)) % (6 : Int32)) &&& 31))), .val (.int (own_v0_29 j0 i1 i2 i3)), .val (.int (own_j0_42_S0 j0 i1 i2 i3)), .unset, .unset, .unset, .unset, .unset, .unset, .unset, .unset, .unset, .unset, .unset, .unset, .unset, .unset, .unset] [(.long (1 : Int64))])) _
      refine XS.iload XJ3.here hx rfl (hb hby at_45) rfl ?_
      show Steps p.tables e below (TJ3.setTop (mkF m 47 #[.val (.long j0), .second, .val (.int i1), .val (.int i2), .val (.int i3), .val (.int ((i2 &&& (2147483647 : Int32)) % (6 : Int32))), .val (.int (own_v0_13 j0 i1 i2 i3)), .val (.int ((64 : Int32) >>> (((i2 &&& (2147483647 : Int32)) % (6 : Int32)) &&& 31))), .val (.int (own_v0_29 j0 i1 i2 i3)), .val (.int (own_j0_42_S0 j0 i1 i2 i3)), .unset, .unset, .unset, .unset, .unset, .unset, .unset, .unset, .unset, .unset, .unset, .unset, .unset, .unset, .unset] [(.int (own_v0_13 j0 i1 i2 i3)), (.long (1 : Int64))])) _
      refine XS.lshl XJ3.here hx rfl (hb hby at_47) rfl ?_
      show Steps p.tables e below (TJ3.setTop (mkF m 48 #[.val (.long j0), .second, .val (.int i1), .val (.int i2), .val (.int i3), .val (.int ((i2 &&& (2147483647 : Int32)) % (6 : Int32))), .val (.int (own_v0_13 j0 i1 i2 i3)), .val (.int ((64 : Int32) >>> (((i2 &&& (2147483647 : Int32)) % (6 : Int32)) &&& 31))), .val (.int (own_v0_29 j0 i1 i2 i3)), .val (.int (own_j0_42_S0 j0 i1 i2 i3)), .unset, .unset, .unset, .unset, .unset, .unset, .unset, .unset, .unset, .unset, .unset, .unset, .unset, .unset, .unset] [(.long ((1 : Int64) <<< ((own_v0_13 j0 i1 i2 i3) &&& 0x3f).toInt64))])) _
      refine XS.lconst XJ3.here hx rfl (hb hby at_48) ?_
      show Steps p.tables e below (TJ3.setTop (mkF m 49 #[.val (.long j0), .second, .val (.int i1), .val (.int i2), .val (.int i3), .val (.int ((i2 &&& (2147483647 : Int32)) % (6 : Int32))), .val (.int (own_v0_13 j0 i1 i2 i3)), .val (.int ((64 : Int32) >>> (((i2 &&& (2147483647 : Int32)) % (6 : Int32)) &&& 31))), .val (.int (own_v0_29 j0 i1 i2 i3)), .val (.int (own_j0_42_S0 j0 i1 i2 i3)), .unset, .unset, .unset, .unset, .unset, .unset, .unset, .unset, .unset, .unset, .unset, .unset, .unset, .unset, .unset] [(.long (1 : Int64)), (.long ((1 : Int64) <<< ((own_v0_13 j0 i1 i2 i3) &&& 0x3f).toInt64))])) _
      refine XS.lsub XJ3.here hx rfl (hb hby at_49) rfl ?_
      show Steps p.tables e below (TJ3.setTop (mkF m 50 #[.val (.long j0), .second, .val (.int i1), .val (.int i2), .val (.int i3), .val (.int ((i2 &&& (2147483647 : Int32)) % (6 : Int32))), .val (.int (own_v0_13 j0 i1 i2 i3)), .val (.int ((64 : Int32) >>> (((i2 &&& (2147483647 : Int32)) % (6 : Int32)) &&& 31))), .val (.int (own_v0_29 j0 i1 i2 i3)), .val (.int (own_j0_42_S0 j0 i1 i2 i3)), .unset, .unset, .unset, .unset, .unset, .unset, .unset, .unset, .unset, .unset, .unset, .unset, .unset, .unset, .unset] [(.long (((1 : Int64) <<< ((own_v0_13 j0 i1 i2 i3) &&& 0x3f).toInt64) - (1 : Int64)))])) _
      refine XS.lstore XJ3.here hx rfl (hb hby at_50) rfl (l' := #[.val (.long j0), .second, .val (.int i1), .val (.int i2), .val (.int i3), .val (.int ((i2 &&& (2147483647 : Int32)) % (6 : Int32))), .val (.int (own_v0_13 j0 i1 i2 i3)), .val (.int ((64 : Int32) >>> (((i2 &&& (2147483647 : Int32)) % (6 : Int32)) &&& 31))), .val (.int (own_v0_29 j0 i1 i2 i3)), .val (.int (own_j0_42_S0 j0 i1 i2 i3)), .val (.long (own_v0_50 j0 i1 i2 i3)), .second, .unset, .unset, .unset, .unset, .unset, .unset, .unset, .unset, .unset, .unset, .unset, .unset, .unset]) rfl ?_
      show Steps p.tables e below (TJ3.setTop (mkF m 52 #[.val (.long j0), .second, .val (.int i1), .val (.int i2), .val (.int i3), .val (.int ((i2 &&& (2147483647 : Int32)) % (6 : Int32))), .val (.int (own_v0_13 j0 i1 i2 i3)), .val (.int ((64 : Int32) >>> (((i2 &&& (2147483647 : Int32)) % (6 : Int32)) &&& 31))), .val (.int (own_v0_29 j0 i1 i2 i3)), .val (.int (own_j0_42_S0 j0 i1 i2 i3)), .val (.long (own_v0_50 j0 i1 i2 i3)), .second, .unset, .unset, .unset, .unset, .unset, .unset, .unset, .unset, .unset, .unset, .unset, .unset, .unset] [])) _
      refine XS.iload XJ3.here hx rfl (hb hby at_52) rfl ?_
      exact kt
    obtain ⟨_, _, ⟨T4, L4, k4, n4⟩, -, X4, ⟨Lc4, hQ4, l4, y4, z4⟩, st4⟩ := Jvm.LawKit.callS XJ3 hx (y := (⟨"com/example/upper_falls/upperfalls/CellWordsFoldPinLaw", "lowBitsOf", "(I)J"⟩ : MethodName)) hown (mvT hZ (hw _ (List.mem_of_getElem? (i := 1) rfl))) (mvT hZ (hw _ (List.mem_of_getElem? (i := 2) rfl))) (mvT hZ (hw _ (List.mem_of_getElem? (i := 3) rfl))) (mvT hZ (hw _ (List.mem_of_getElem? (i := 4) rfl))) (by decide) (backOf (W := 0) (own_rm1 l Z a0 hw [] ((i2 &&& (2147483647 : Int32)) % (6 : Int32)) h0 n0 (Nat.le_trans Z0 K0.1) ) hZ (hw _ (List.mem_of_getElem? (i := 4) rfl)) (hw _ (List.mem_of_getElem? (i := 3) rfl)) (by decide) (by decide)) (g := (mkF m 54 #[.val (.long j0), .second, .val (.int i1), .val (.int i2), .val (.int i3), .val (.int ((i2 &&& (2147483647 : Int32)) % (6 : Int32))), .val (.int (own_v0_13 j0 i1 i2 i3)), .val (.int ((64 : Int32) >>> (((i2 &&& (2147483647 : Int32)) % (6 : Int32)) &&& 31))), .val (.int (own_v0_29 j0 i1 i2 i3)), .val (.int (own_j0_42_S0 j0 i1 i2 i3)), .val (.long (own_v0_50 j0 i1 i2 i3)), .second, .unset, .unset, .unset, .unset, .unset, .unset, .unset, .unset, .unset, .unset, .unset, .unset, .unset] [(.int ((i2 &&& (2147483647 : Int32)) % (6 : Int32)))])) rfl (by rw [hml]; rfl) (argsL := [(.int ((i2 &&& (2147483647 : Int32)) % (6 : Int32)))]) (rest := []) (lenOf own_pd4 rfl) rfl (by show 2 * 0 + _ ≤ _; exact Nat.le_of_eq rfl) (hb hby at_54) (fun _ _ => ⟨rfl, eJ3, (by decide : 0 + 0 ≤ _), (by decide : 0 + 0 ≤ _)⟩)
    dsimp only [Pt.U, Pt.locs, Pt.cells, Pt.slots] at X4 l4 y4 z4 st4 hQ4
    subst l4 y4 z4
    obtain ⟨rfl, N4q, e4⟩ := hQ4
    have N4 := Fr.app NJ3 N4q
    refine ownE.go (T' := T4) (f' := (mkF m 57 #[.val (.long j0), .second, .val (.int i1), .val (.int i2), .val (.int i3), .val (.int ((i2 &&& (2147483647 : Int32)) % (6 : Int32))), .val (.int (own_v0_13 j0 i1 i2 i3)), .val (.int ((64 : Int32) >>> (((i2 &&& (2147483647 : Int32)) % (6 : Int32)) &&& 31))), .val (.int (own_v0_29 j0 i1 i2 i3)), .val (.int (own_j0_42_S0 j0 i1 i2 i3)), .val (.long (own_v0_50 j0 i1 i2 i3)), .second, .unset, .unset, .unset, .unset, .unset, .unset, .unset, .unset, .unset, .unset, .unset, .unset, .unset] [(.long (own_lbo ((i2 &&& (2147483647 : Int32)) % (6 : Int32))))])) st4 ?_
    refine ownE.go (T' := T4) (f' := (mkF m 59 #[.val (.long j0), .second, .val (.int i1), .val (.int i2), .val (.int i3), .val (.int ((i2 &&& (2147483647 : Int32)) % (6 : Int32))), .val (.int (own_v0_13 j0 i1 i2 i3)), .val (.int ((64 : Int32) >>> (((i2 &&& (2147483647 : Int32)) % (6 : Int32)) &&& 31))), .val (.int (own_v0_29 j0 i1 i2 i3)), .val (.int (own_j0_42_S0 j0 i1 i2 i3)), .val (.long (own_v0_50 j0 i1 i2 i3)), .second, .val (.long (own_v0_57 j0 i1 i2 i3)), .second, .unset, .unset, .unset, .unset, .unset, .unset, .unset, .unset, .unset, .unset, .unset] [])) (fun t kt => ?_) ?_
    · show Steps p.tables e below (T4.setTop (mkF m 57 #[.val (.long j0), .second, .val (.int i1), .val (.int i2), .val (.int i3), .val (.int ((i2 &&& (2147483647 : Int32)) % (6 : Int32))), .val (.int (own_v0_13 j0 i1 i2 i3)), .val (.int ((64 : Int32) >>> (((i2 &&& (2147483647 : Int32)) % (6 : Int32)) &&& 31))), .val (.int (own_v0_29 j0 i1 i2 i3)), .val (.int (own_j0_42_S0 j0 i1 i2 i3)), .val (.long (own_v0_50 j0 i1 i2 i3)), .second, .unset, .unset, .unset, .unset, .unset, .unset, .unset, .unset, .unset, .unset, .unset, .unset, .unset] [(.long (own_lbo ((i2 &&& (2147483647 : Int32)) % (6 : Int32))))])) _
      refine XS.lstore X4.here hx rfl (hb hby at_57) rfl (l' := #[.val (.long j0), .second, .val (.int i1), .val (.int i2), .val (.int i3), .val (.int ((i2 &&& (2147483647 : Int32)) % (6 : Int32))), .val (.int (own_v0_13 j0 i1 i2 i3)), .val (.int ((64 : Int32) >>> (((i2 &&& (2147483647 : Int32)) % (6 : Int32)) &&& 31))), .val (.int (own_v0_29 j0 i1 i2 i3)), .val (.int (own_j0_42_S0 j0 i1 i2 i3)), .val (.long (own_v0_50 j0 i1 i2 i3)), .second, .val (.long (own_v0_57 j0 i1 i2 i3)), .second, .unset, .unset, .unset, .unset, .unset, .unset, .unset, .unset, .unset, .unset, .unset]) rfl ?_
      exact kt
    obtain ⟨T5, h5, X5, e5, E5, A5, D5, -, st5⟩ := newO X4 hx hZ hown (hw _ (List.mem_of_getElem? (i := 6) rfl)) (hw _ (List.mem_of_getElem? (i := 7) rfl)) (hw _ (List.mem_of_getElem? (i := 8) rfl)) e4 (g := (mkF m 59 #[.val (.long j0), .second, .val (.int i1), .val (.int i2), .val (.int i3), .val (.int ((i2 &&& (2147483647 : Int32)) % (6 : Int32))), .val (.int (own_v0_13 j0 i1 i2 i3)), .val (.int ((64 : Int32) >>> (((i2 &&& (2147483647 : Int32)) % (6 : Int32)) &&& 31))), .val (.int (own_v0_29 j0 i1 i2 i3)), .val (.int (own_j0_42_S0 j0 i1 i2 i3)), .val (.long (own_v0_50 j0 i1 i2 i3)), .second, .val (.long (own_v0_57 j0 i1 i2 i3)), .second, .unset, .unset, .unset, .unset, .unset, .unset, .unset, .unset, .unset, .unset, .unset] [])) rfl (hb hby at_59) (by decide) (by decide)
    obtain ⟨b5, g5⟩ : ∃ z, z = h0.size := ⟨_, rfl⟩
    rw [← g5] at A5 D5 st5
    have sz_b5 : h0.size ≤ b5 := Nat.le_trans K0.1 (Nat.le_of_eq g5.symm)
    have ge_b5 : n0 ≤ b5 := Nat.le_trans Z0 sz_b5
    have D5_width : Fld Z h5 b5 "com/example/upper_falls/upperfalls/CellWords" "width" "I" (.int (0 : Int32)) := D5 (Or.inr (hw _ (List.mem_of_getElem? (i := 16) rfl))) (ty := .int) (by decide)
    have D5_cellMask : Fld Z h5 b5 "com/example/upper_falls/upperfalls/CellWords" "cellMask" "J" (.long (0 : Int64)) := D5 (Or.inr (hw _ (List.mem_of_getElem? (i := 18) rfl))) (ty := .long) (by decide)
    have D5_lowBits : Fld Z h5 b5 "com/example/upper_falls/upperfalls/CellWords" "lowBits" "J" (.long (0 : Int64)) := D5 (Or.inr (hw _ (List.mem_of_getElem? (i := 26) rfl))) (ty := .long) (by decide)
    have D5_highBits : Fld Z h5 b5 "com/example/upper_falls/upperfalls/CellWords" "highBits" "J" (.long (0 : Int64)) := D5 (Or.inr (hw _ (List.mem_of_getElem? (i := 28) rfl))) (ty := .long) (by decide)
    have K5 : Keep h0 h5 [] := K0.ext E5
    refine ownE.go (T' := T5) (f' := (mkF m 62 #[.val (.long j0), .second, .val (.int i1), .val (.int i2), .val (.int i3), .val (.int ((i2 &&& (2147483647 : Int32)) % (6 : Int32))), .val (.int (own_v0_13 j0 i1 i2 i3)), .val (.int ((64 : Int32) >>> (((i2 &&& (2147483647 : Int32)) % (6 : Int32)) &&& 31))), .val (.int (own_v0_29 j0 i1 i2 i3)), .val (.int (own_j0_42_S0 j0 i1 i2 i3)), .val (.long (own_v0_50 j0 i1 i2 i3)), .second, .val (.long (own_v0_57 j0 i1 i2 i3)), .second, .unset, .unset, .unset, .unset, .unset, .unset, .unset, .unset, .unset, .unset, .unset] [(.ref b5)])) st5 ?_
    refine ownE.go (T' := T5) (f' := (mkF m 65 #[.val (.long j0), .second, .val (.int i1), .val (.int i2), .val (.int i3), .val (.int ((i2 &&& (2147483647 : Int32)) % (6 : Int32))), .val (.int (own_v0_13 j0 i1 i2 i3)), .val (.int ((64 : Int32) >>> (((i2 &&& (2147483647 : Int32)) % (6 : Int32)) &&& 31))), .val (.int (own_v0_29 j0 i1 i2 i3)), .val (.int (own_j0_42_S0 j0 i1 i2 i3)), .val (.long (own_v0_50 j0 i1 i2 i3)), .second, .val (.long (own_v0_57 j0 i1 i2 i3)), .second, .unset, .unset, .unset, .unset, .unset, .unset, .unset, .unset, .unset, .unset, .unset] [(.int (own_v0_13 j0 i1 i2 i3)), (.ref b5), (.ref b5)])) (fun t kt => ?_) ?_
    · show Steps p.tables e below (T5.setTop (mkF m 62 #[.val (.long j0), .second, .val (.int i1), .val (.int i2), .val (.int i3), .val (.int ((i2 &&& (2147483647 : Int32)) % (6 : Int32))), .val (.int (own_v0_13 j0 i1 i2 i3)), .val (.int ((64 : Int32) >>> (((i2 &&& (2147483647 : Int32)) % (6 : Int32)) &&& 31))), .val (.int (own_v0_29 j0 i1 i2 i3)), .val (.int (own_j0_42_S0 j0 i1 i2 i3)), .val (.long (own_v0_50 j0 i1 i2 i3)), .second, .val (.long (own_v0_57 j0 i1 i2 i3)), .second, .unset, .unset, .unset, .unset, .unset, .unset, .unset, .unset, .unset, .unset, .unset] [(.ref b5)])) _
      refine XS.dup X5.here hx rfl (hb hby at_62) rfl rfl ?_
      show Steps p.tables e below (T5.setTop (mkF m 63 #[.val (.long j0), .second, .val (.int i1), .val (.int i2), .val (.int i3), .val (.int ((i2 &&& (2147483647 : Int32)) % (6 : Int32))), .val (.int (own_v0_13 j0 i1 i2 i3)), .val (.int ((64 : Int32) >>> (((i2 &&& (2147483647 : Int32)) % (6 : Int32)) &&& 31))), .val (.int (own_v0_29 j0 i1 i2 i3)), .val (.int (own_j0_42_S0 j0 i1 i2 i3)), .val (.long (own_v0_50 j0 i1 i2 i3)), .second, .val (.long (own_v0_57 j0 i1 i2 i3)), .second, .unset, .unset, .unset, .unset, .unset, .unset, .unset, .unset, .unset, .unset, .unset] [(.ref b5), (.ref b5)])) _
      refine XS.iload X5.here hx rfl (hb hby at_63) rfl ?_
      exact kt
    obtain ⟨_, _, ⟨T6, L6, k6, n6⟩, -, X6, ⟨Lc6, hQ6, l6, y6, z6⟩, st6⟩ := X5.specialBack hx (y := (⟨"com/example/upper_falls/upperfalls/CellWords", "<init>", "(I)V"⟩ : MethodName)) rfl hown (mvT hZ (hw _ (List.mem_of_getElem? (i := 9) rfl))) (mvT hZ (hw _ (List.mem_of_getElem? (i := 10) rfl))) (mvT hZ (hw _ (List.mem_of_getElem? (i := 11) rfl))) (by decide) (backOf (W := 1) (own_rm2 l Z a0 hw [] b5 (own_v0_13 j0 i1 i2 i3) h5 n0 (Nat.le_trans Z0 K5.1) D5_width D5_cellMask D5_lowBits D5_highBits A5 ge_b5 (own_cmnz i2)) hZ (hw _ (List.mem_of_getElem? (i := 11) rfl)) (hw _ (List.mem_of_getElem? (i := 8) rfl)) (by decide) (by decide)) (g := (mkF m 65 #[.val (.long j0), .second, .val (.int i1), .val (.int i2), .val (.int i3), .val (.int ((i2 &&& (2147483647 : Int32)) % (6 : Int32))), .val (.int (own_v0_13 j0 i1 i2 i3)), .val (.int ((64 : Int32) >>> (((i2 &&& (2147483647 : Int32)) % (6 : Int32)) &&& 31))), .val (.int (own_v0_29 j0 i1 i2 i3)), .val (.int (own_j0_42_S0 j0 i1 i2 i3)), .val (.long (own_v0_50 j0 i1 i2 i3)), .second, .val (.long (own_v0_57 j0 i1 i2 i3)), .second, .unset, .unset, .unset, .unset, .unset, .unset, .unset, .unset, .unset, .unset, .unset] [(.int (own_v0_13 j0 i1 i2 i3)), (.ref b5), (.ref b5)])) rfl (by rw [hml]; rfl) (Steps.refl _) (a := b5) (argsL := [(.int (own_v0_13 j0 i1 i2 i3))]) (rest := [(.ref b5)]) (lenOf own_pd5 rfl) rfl (by show 2 * 0 + _ ≤ _; exact Nat.le_of_eq rfl) (hb hby at_65) (fun _ _ => ⟨rfl, e5, (by decide : 1 + 0 ≤ _), (by decide : 4 + 0 ≤ _)⟩)
    dsimp only [Pt.U, Pt.locs, Pt.cells, Pt.slots] at X6 l6 y6 z6 st6 hQ6
    subst l6 y6 z6
    obtain ⟨rfl, N6q, K6q, f6_0, f6_1, f6_2, f6_3, f6_4⟩ := hQ6
    have cExa_b5_6 : Exa Z T6.heap b5 "com/example/upper_falls/upperfalls/CellWords" := A5.keep K6q
    have K6 : Keep h0 T6.heap [] := K5.trans K6q (allS (Or.inr sz_b5) all0)
    have N6 := Fr.app N4 N6q
    refine ownE.goS (T' := T6) (f' := (mkF m 68 #[.val (.long j0), .second, .val (.int i1), .val (.int i2), .val (.int i3), .val (.int ((i2 &&& (2147483647 : Int32)) % (6 : Int32))), .val (.int (own_v0_13 j0 i1 i2 i3)), .val (.int ((64 : Int32) >>> (((i2 &&& (2147483647 : Int32)) % (6 : Int32)) &&& 31))), .val (.int (own_v0_29 j0 i1 i2 i3)), .val (.int (own_j0_42_S0 j0 i1 i2 i3)), .val (.long (own_v0_50 j0 i1 i2 i3)), .second, .val (.long (own_v0_57 j0 i1 i2 i3)), .second, .unset, .unset, .unset, .unset, .unset, .unset, .unset, .unset, .unset, .unset, .unset] [(.ref b5)])) st6 ?_
    refine ownE.go (T' := T6) (f' := (mkF m 75 #[.val (.long j0), .second, .val (.int i1), .val (.int i2), .val (.int i3), .val (.int ((i2 &&& (2147483647 : Int32)) % (6 : Int32))), .val (.int (own_v0_13 j0 i1 i2 i3)), .val (.int ((64 : Int32) >>> (((i2 &&& (2147483647 : Int32)) % (6 : Int32)) &&& 31))), .val (.int (own_v0_29 j0 i1 i2 i3)), .val (.int (own_j0_42_S0 j0 i1 i2 i3)), .val (.long (own_v0_50 j0 i1 i2 i3)), .second, .val (.long (own_v0_57 j0 i1 i2 i3)), .second, .val (.ref b5), .unset, .unset, .unset, .unset, .unset, .unset, .unset, .unset, .unset, .unset] [(.int (own_j0_42_S0 j0 i1 i2 i3)), (.long j0), (.ref b5)])) (fun t kt => ?_) ?_
    · show Steps p.tables e below (T6.setTop (mkF m 68 #[.val (.long j0), .second, .val (.int i1), .val (.int i2), .val (.int i3), .val (.int ((i2 &&& (2147483647 : Int32)) % (6 : Int32))), .val (.int (own_v0_13 j0 i1 i2 i3)), .val (.int ((64 : Int32) >>> (((i2 &&& (2147483647 : Int32)) % (6 : Int32)) &&& 31))), .val (.int (own_v0_29 j0 i1 i2 i3)), .val (.int (own_j0_42_S0 j0 i1 i2 i3)), .val (.long (own_v0_50 j0 i1 i2 i3)), .second, .val (.long (own_v0_57 j0 i1 i2 i3)), .second, .unset, .unset, .unset, .unset, .unset, .unset, .unset, .unset, .unset, .unset, .unset] [(.ref b5)])) _
      refine XS.astore X6.here hx rfl (hb hby at_68) rfl rfl (l' := #[.val (.long j0), .second, .val (.int i1), .val (.int i2), .val (.int i3), .val (.int ((i2 &&& (2147483647 : Int32)) % (6 : Int32))), .val (.int (own_v0_13 j0 i1 i2 i3)), .val (.int ((64 : Int32) >>> (((i2 &&& (2147483647 : Int32)) % (6 : Int32)) &&& 31))), .val (.int (own_v0_29 j0 i1 i2 i3)), .val (.int (own_j0_42_S0 j0 i1 i2 i3)), .val (.long (own_v0_50 j0 i1 i2 i3)), .second, .val (.long (own_v0_57 j0 i1 i2 i3)), .second, .val (.ref b5), .unset, .unset, .unset, .unset, .unset, .unset, .unset, .unset, .unset, .unset]) rfl ?_
      show Steps p.tables e below (T6.setTop (mkF m 70 #[.val (.long j0), .second, .val (.int i1), .val (.int i2), .val (.int i3), .val (.int ((i2 &&& (2147483647 : Int32)) % (6 : Int32))), .val (.int (own_v0_13 j0 i1 i2 i3)), .val (.int ((64 : Int32) >>> (((i2 &&& (2147483647 : Int32)) % (6 : Int32)) &&& 31))), .val (.int (own_v0_29 j0 i1 i2 i3)), .val (.int (own_j0_42_S0 j0 i1 i2 i3)), .val (.long (own_v0_50 j0 i1 i2 i3)), .second, .val (.long (own_v0_57 j0 i1 i2 i3)), .second, .val (.ref b5), .unset, .unset, .unset, .unset, .unset, .unset, .unset, .unset, .unset, .unset] [])) _
      refine XS.aload X6.here hx rfl (hb hby at_70) rfl rfl ?_
      show Steps p.tables e below (T6.setTop (mkF m 72 #[.val (.long j0), .second, .val (.int i1), .val (.int i2), .val (.int i3), .val (.int ((i2 &&& (2147483647 : Int32)) % (6 : Int32))), .val (.int (own_v0_13 j0 i1 i2 i3)), .val (.int ((64 : Int32) >>> (((i2 &&& (2147483647 : Int32)) % (6 : Int32)) &&& 31))), .val (.int (own_v0_29 j0 i1 i2 i3)), .val (.int (own_j0_42_S0 j0 i1 i2 i3)), .val (.long (own_v0_50 j0 i1 i2 i3)), .second, .val (.long (own_v0_57 j0 i1 i2 i3)), .second, .val (.ref b5), .unset, .unset, .unset, .unset, .unset, .unset, .unset, .unset, .unset, .unset] [(.ref b5)])) _
      refine XS.lloadN X6.here hx rfl (hb hby at_72) rfl ?_
      show Steps p.tables e below (T6.setTop (mkF m 73 #[.val (.long j0), .second, .val (.int i1), .val (.int i2), .val (.int i3), .val (.int ((i2 &&& (2147483647 : Int32)) % (6 : Int32))), .val (.int (own_v0_13 j0 i1 i2 i3)), .val (.int ((64 : Int32) >>> (((i2 &&& (2147483647 : Int32)) % (6 : Int32)) &&& 31))), .val (.int (own_v0_29 j0 i1 i2 i3)), .val (.int (own_j0_42_S0 j0 i1 i2 i3)), .val (.long (own_v0_50 j0 i1 i2 i3)), .second, .val (.long (own_v0_57 j0 i1 i2 i3)), .second, .val (.ref b5), .unset, .unset, .unset, .unset, .unset, .unset, .unset, .unset, .unset, .unset] [(.long j0), (.ref b5)])) _
      refine XS.iload X6.here hx rfl (hb hby at_73) rfl ?_
      exact kt
    obtain ⟨cq7, kq7, q7a, q7b, q7c⟩ := isOf hZ rfl f6_0
    obtain ⟨_, _, ⟨T7, L7, k7, n7⟩, -, X7, ⟨Lc7, hQ7, l7, y7, z7⟩, st7⟩ := X6.virtualBack hx (y := (⟨"com/example/upper_falls/upperfalls/CellWords", "fold", "(JZ)J"⟩ : MethodName)) (z := (⟨"com/example/upper_falls/upperfalls/CellWords", "fold", "(JZ)J"⟩ : MethodName)) hown (mvT hZ (hw _ (List.mem_of_getElem? (i := 29) rfl))) (mvT hZ (hw _ (List.mem_of_getElem? (i := 30) rfl))) (notFace_of_selects (args := #[]) (mvT hZ (hw _ (List.mem_of_getElem? (i := 32) rfl)))) (mvT hZ (hw _ (List.mem_of_getElem? (i := 32) rfl))) (mvT hZ (hw _ (List.mem_of_getElem? (i := 31) rfl))) (by decide) (backOf (W := 0) (own_rm5 l Z a0 hw [] b5 j0 (own_j0_42_S0 j0 i1 i2 i3) (own_v0_13 j0 i1 i2 i3) (own_lb (own_v0_13 j0 i1 i2 i3)) T6.heap n0 (Nat.le_trans Z0 K6.1) f6_1 f6_3 (own_wsix i2)) hZ (hw _ (List.mem_of_getElem? (i := 33) rfl)) (hw _ (List.mem_of_getElem? (i := 8) rfl)) (by decide) (by decide)) q7a q7c (g := (mkF m 75 #[.val (.long j0), .second, .val (.int i1), .val (.int i2), .val (.int i3), .val (.int ((i2 &&& (2147483647 : Int32)) % (6 : Int32))), .val (.int (own_v0_13 j0 i1 i2 i3)), .val (.int ((64 : Int32) >>> (((i2 &&& (2147483647 : Int32)) % (6 : Int32)) &&& 31))), .val (.int (own_v0_29 j0 i1 i2 i3)), .val (.int (own_j0_42_S0 j0 i1 i2 i3)), .val (.long (own_v0_50 j0 i1 i2 i3)), .second, .val (.long (own_v0_57 j0 i1 i2 i3)), .second, .val (.ref b5), .unset, .unset, .unset, .unset, .unset, .unset, .unset, .unset, .unset, .unset] [(.int (own_j0_42_S0 j0 i1 i2 i3)), (.long j0), (.ref b5)])) rfl (by rw [hml]; rfl) (Steps.refl _) (argsL := [(.long j0), (.int (own_j0_42_S0 j0 i1 i2 i3))]) (rest := []) (lenOf own_pd6 rfl) rfl (by show 2 * 0 + _ ≤ _; exact Nat.le_of_eq rfl) (hb hby at_75) (fun _ _ => ⟨rfl, rfl, (by decide : 1 + 0 ≤ _), (by decide : 4 + 0 ≤ _)⟩)
    dsimp only [Pt.U, Pt.locs, Pt.cells, Pt.slots] at X7 l7 y7 z7 st7 hQ7
    subst l7 y7 z7
    obtain ⟨rfl, N7q, e7⟩ := hQ7
    have N7 := Fr.app N6 N7q
    refine ownE.goS (T' := T7) (f' := (mkF m 78 #[.val (.long j0), .second, .val (.int i1), .val (.int i2), .val (.int i3), .val (.int ((i2 &&& (2147483647 : Int32)) % (6 : Int32))), .val (.int (own_v0_13 j0 i1 i2 i3)), .val (.int ((64 : Int32) >>> (((i2 &&& (2147483647 : Int32)) % (6 : Int32)) &&& 31))), .val (.int (own_v0_29 j0 i1 i2 i3)), .val (.int (own_j0_42_S0 j0 i1 i2 i3)), .val (.long (own_v0_50 j0 i1 i2 i3)), .second, .val (.long (own_v0_57 j0 i1 i2 i3)), .second, .val (.ref b5), .unset, .unset, .unset, .unset, .unset, .unset, .unset, .unset, .unset, .unset] [(.long (own_fold j0 (own_j0_42_S0 j0 i1 i2 i3) (own_v0_13 j0 i1 i2 i3) (own_lb (own_v0_13 j0 i1 i2 i3))))])) st7 ?_
    refine ownE.go (T' := T7) (f' := (mkF m 96 #[.val (.long j0), .second, .val (.int i1), .val (.int i2), .val (.int i3), .val (.int ((i2 &&& (2147483647 : Int32)) % (6 : Int32))), .val (.int (own_v0_13 j0 i1 i2 i3)), .val (.int ((64 : Int32) >>> (((i2 &&& (2147483647 : Int32)) % (6 : Int32)) &&& 31))), .val (.int (own_v0_29 j0 i1 i2 i3)), .val (.int (own_j0_42_S0 j0 i1 i2 i3)), .val (.long (own_v0_50 j0 i1 i2 i3)), .second, .val (.long (own_v0_57 j0 i1 i2 i3)), .second, .val (.ref b5), .val (.long (own_v0_78 j0 i1 i2 i3)), .second, .val (.int (own_v0_85 j0 i1 i2 i3)), .val (.long (own_v0_94 j0 i1 i2 i3)), .second, .unset, .unset, .unset, .unset, .unset] [])) (fun t kt => ?_) ?_
    · show Steps p.tables e below (T7.setTop (mkF m 78 #[.val (.long j0), .second, .val (.int i1), .val (.int i2), .val (.int i3), .val (.int ((i2 &&& (2147483647 : Int32)) % (6 : Int32))), .val (.int (own_v0_13 j0 i1 i2 i3)), .val (.int ((64 : Int32) >>> (((i2 &&& (2147483647 : Int32)) % (6 : Int32)) &&& 31))), .val (.int (own_v0_29 j0 i1 i2 i3)), .val (.int (own_j0_42_S0 j0 i1 i2 i3)), .val (.long (own_v0_50 j0 i1 i2 i3)), .second, .val (.long (own_v0_57 j0 i1 i2 i3)), .second, .val (.ref b5), .unset, .unset, .unset, .unset, .unset, .unset, .unset, .unset, .unset, .unset] [(.long (own_fold j0 (own_j0_42_S0 j0 i1 i2 i3) (own_v0_13 j0 i1 i2 i3) (own_lb (own_v0_13 j0 i1 i2 i3))))])) _
      refine XS.lstore X7.here hx rfl (hb hby at_78) rfl (l' := #[.val (.long j0), .second, .val (.int i1), .val (.int i2), .val (.int i3), .val (.int ((i2 &&& (2147483647 : Int32)) % (6 : Int32))), .val (.int (own_v0_13 j0 i1 i2 i3)), .val (.int ((64 : Int32) >>> (((i2 &&& (2147483647 : Int32)) % (6 : Int32)) &&& 31))), .val (.int (own_v0_29 j0 i1 i2 i3)), .val (.int (own_j0_42_S0 j0 i1 i2 i3)), .val (.long (own_v0_50 j0 i1 i2 i3)), .second, .val (.long (own_v0_57 j0 i1 i2 i3)), .second, .val (.ref b5), .val (.long (own_v0_78 j0 i1 i2 i3)), .second, .unset, .unset, .unset, .unset, .unset, .unset, .unset, .unset]) rfl ?_
      show Steps p.tables e below (T7.setTop (mkF m 80 #[.val (.long j0), .second, .val (.int i1), .val (.int i2), .val (.int i3), .val (.int ((i2 &&& (2147483647 : Int32)) % (6 : Int32))), .val (.int (own_v0_13 j0 i1 i2 i3)), .val (.int ((64 : Int32) >>> (((i2 &&& (2147483647 : Int32)) % (6 : Int32)) &&& 31))), .val (.int (own_v0_29 j0 i1 i2 i3)), .val (.int (own_j0_42_S0 j0 i1 i2 i3)), .val (.long (own_v0_50 j0 i1 i2 i3)), .second, .val (.long (own_v0_57 j0 i1 i2 i3)), .second, .val (.ref b5), .val (.long (own_v0_78 j0 i1 i2 i3)), .second, .unset, .unset, .unset, .unset, .unset, .unset, .unset, .unset] [])) _
      refine XS.iload X7.here hx rfl (hb hby at_80) rfl ?_
      show Steps p.tables e below (T7.setTop (mkF m 82 #[.val (.long j0), .second, .val (.int i1), .val (.int i2), .val (.int i3), .val (.int ((i2 &&& (2147483647 : Int32)) % (6 : Int32))), .val (.int (own_v0_13 j0 i1 i2 i3)), .val (.int ((64 : Int32) >>> (((i2 &&& (2147483647 : Int32)) % (6 : Int32)) &&& 31))), .val (.int (own_v0_29 j0 i1 i2 i3)), .val (.int (own_j0_42_S0 j0 i1 i2 i3)), .val (.long (own_v0_50 j0 i1 i2 i3)), .second, .val (.long (own_v0_57 j0 i1 i2 i3)), .second, .val (.ref b5), .val (.long (own_v0_78 j0 i1 i2 i3)), .second, .unset, .unset, .unset, .unset, .unset, .unset, .unset, .unset] [(.int (own_v0_29 j0 i1 i2 i3))])) _
      refine XS.iload X7.here hx rfl (hb hby at_82) rfl ?_
      show Steps p.tables e below (T7.setTop (mkF m 84 #[.val (.long j0), .second, .val (.int i1), .val (.int i2), .val (.int i3), .val (.int ((i2 &&& (2147483647 : Int32)) % (6 : Int32))), .val (.int (own_v0_13 j0 i1 i2 i3)), .val (.int ((64 : Int32) >>> (((i2 &&& (2147483647 : Int32)) % (6 : Int32)) &&& 31))), .val (.int (own_v0_29 j0 i1 i2 i3)), .val (.int (own_j0_42_S0 j0 i1 i2 i3)), .val (.long (own_v0_50 j0 i1 i2 i3)), .second, .val (.long (own_v0_57 j0 i1 i2 i3)), .second, .val (.ref b5), .val (.long (own_v0_78 j0 i1 i2 i3)), .second, .unset, .unset, .unset, .unset, .unset, .unset, .unset, .unset] [(.int (own_v0_13 j0 i1 i2 i3)), (.int (own_v0_29 j0 i1 i2 i3))])) _
      refine XS.imul X7.here hx rfl (hb hby at_84) rfl ?_
      show Steps p.tables e below (T7.setTop (mkF m 85 #[.val (.long j0), .second, .val (.int i1), .val (.int i2), .val (.int i3), .val (.int ((i2 &&& (2147483647 : Int32)) % (6 : Int32))), .val (.int (own_v0_13 j0 i1 i2 i3)), .val (.int ((64 : Int32) >>> (((i2 &&& (2147483647 : Int32)) % (6 : Int32)) &&& 31))), .val (.int (own_v0_29 j0 i1 i2 i3)), .val (.int (own_j0_42_S0 j0 i1 i2 i3)), .val (.long (own_v0_50 j0 i1 i2 i3)), .second, .val (.long (own_v0_57 j0 i1 i2 i3)), .second, .val (.ref b5), .val (.long (own_v0_78 j0 i1 i2 i3)), .second, .unset, .unset, .unset, .unset, .unset, .unset, .unset, .unset] [(.int ((own_v0_29 j0 i1 i2 i3) * (own_v0_13 j0 i1 i2 i3)))])) _
      refine XS.istore X7.here hx rfl (hb hby at_85) rfl (l' := #[.val (.long j0), .second, .val (.int i1), .val (.int i2), .val (.int i3), .val (.int ((i2 &&& (2147483647 : Int32)) % (6 : Int32))), .val (.int (own_v0_13 j0 i1 i2 i3)), .val (.int ((64 : Int32) >>> (((i2 &&& (2147483647 : Int32)) % (6 : Int32)) &&& 31))), .val (.int (own_v0_29 j0 i1 i2 i3)), .val (.int (own_j0_42_S0 j0 i1 i2 i3)), .val (.long (own_v0_50 j0 i1 i2 i3)), .second, .val (.long (own_v0_57 j0 i1 i2 i3)), .second, .val (.ref b5), .val (.long (own_v0_78 j0 i1 i2 i3)), .second, .val (.int (own_v0_85 j0 i1 i2 i3)), .unset, .unset, .unset, .unset, .unset, .unset, .unset]) rfl ?_
      show Steps p.tables e below (T7.setTop (mkF m 87 #[.val (.long j0), .second, .val (.int i1), .val (.int i2), .val (.int i3), .val (.int ((i2 &&& (2147483647 : Int32)) % (6 : Int32))), .val (.int (own_v0_13 j0 i1 i2 i3)), .val (.int ((64 : Int32) >>> (((i2 &&& (2147483647 : Int32)) % (6 : Int32)) &&& 31))), .val (.int (own_v0_29 j0 i1 i2 i3)), .val (.int (own_j0_42_S0 j0 i1 i2 i3)), .val (.long (own_v0_50 j0 i1 i2 i3)), .second, .val (.long (own_v0_57 j0 i1 i2 i3)), .second, .val (.ref b5), .val (.long (own_v0_78 j0 i1 i2 i3)), .second, .val (.int (own_v0_85 j0 i1 i2 i3)), .unset, .unset, .unset, .unset, .unset, .unset, .unset] [])) _
      refine XS.lloadN X7.here hx rfl (hb hby at_87) rfl ?_
      show Steps p.tables e below (T7.setTop (mkF m 88 #[.val (.long j0), .second, .val (.int i1), .val (.int i2), .val (.int i3), .val (.int ((i2 &&& (2147483647 : Int32)) % (6 : Int32))), .val (.int (own_v0_13 j0 i1 i2 i3)), .val (.int ((64 : Int32) >>> (((i2 &&& (2147483647 : Int32)) % (6 : Int32)) &&& 31))), .val (.int (own_v0_29 j0 i1 i2 i3)), .val (.int (own_j0_42_S0 j0 i1 i2 i3)), .val (.long (own_v0_50 j0 i1 i2 i3)), .second, .val (.long (own_v0_57 j0 i1 i2 i3)), .second, .val (.ref b5), .val (.long (own_v0_78 j0 i1 i2 i3)), .second, .val (.int (own_v0_85 j0 i1 i2 i3)), .unset, .unset, .unset, .unset, .unset, .unset, .unset] [(.long j0)])) _
      refine XS.iload X7.here hx rfl (hb hby at_88) rfl ?_
      show Steps p.tables e below (T7.setTop (mkF m 90 #[.val (.long j0), .second, .val (.int i1), .val (.int i2), .val (.int i3), .val (.int ((i2 &&& (2147483647 : Int32)) % (6 : Int32))), .val (.int (own_v0_13 j0 i1 i2 i3)), .val (.int ((64 : Int32) >>> (((i2 &&& (2147483647 : Int32)) % (6 : Int32)) &&& 31))), .val (.int (own_v0_29 j0 i1 i2 i3)), .val (.int (own_j0_42_S0 j0 i1 i2 i3)), .val (.long (own_v0_50 j0 i1 i2 i3)), .second, .val (.long (own_v0_57 j0 i1 i2 i3)), .second, .val (.ref b5), .val (.long (own_v0_78 j0 i1 i2 i3)), .second, .val (.int (own_v0_85 j0 i1 i2 i3)), .unset, .unset, .unset, .unset, .unset, .unset, .unset] [(.int (own_v0_85 j0 i1 i2 i3)), (.long j0)])) _
      refine XS.lushr X7.here hx rfl (hb hby at_90) rfl ?_
      show Steps p.tables e below (T7.setTop (mkF m 91 #[.val (.long j0), .second, .val (.int i1), .val (.int i2), .val (.int i3), .val (.int ((i2 &&& (2147483647 : Int32)) % (6 : Int32))), .val (.int (own_v0_13 j0 i1 i2 i3)), .val (.int ((64 : Int32) >>> (((i2 &&& (2147483647 : Int32)) % (6 : Int32)) &&& 31))), .val (.int (own_v0_29 j0 i1 i2 i3)), .val (.int (own_j0_42_S0 j0 i1 i2 i3)), .val (.long (own_v0_50 j0 i1 i2 i3)), .second, .val (.long (own_v0_57 j0 i1 i2 i3)), .second, .val (.ref b5), .val (.long (own_v0_78 j0 i1 i2 i3)), .second, .val (.int (own_v0_85 j0 i1 i2 i3)), .unset, .unset, .unset, .unset, .unset, .unset, .unset] [(.long ((j0.toUInt64 >>> ((own_v0_85 j0 i1 i2 i3) &&& 0x3f).toInt64.toUInt64).toInt64))])) _
      refine XS.lload X7.here hx rfl (hb hby at_91) rfl ?_
      show Steps p.tables e below (T7.setTop (mkF m 93 #[.val (.long j0), .second, .val (.int i1), .val (.int i2), .val (.int i3), .val (.int ((i2 &&& (2147483647 : Int32)) % (6 : Int32))), .val (.int (own_v0_13 j0 i1 i2 i3)), .val (.int ((64 : Int32) >>> (((i2 &&& (2147483647 : Int32)) % (6 : Int32)) &&& 31))), .val (.int (own_v0_29 j0 i1 i2 i3)), .val (.int (own_j0_42_S0 j0 i1 i2 i3)), .val (.long (own_v0_50 j0 i1 i2 i3)), .second, .val (.long (own_v0_57 j0 i1 i2 i3)), .second, .val (.ref b5), .val (.long (own_v0_78 j0 i1 i2 i3)), .second, .val (.int (own_v0_85 j0 i1 i2 i3)), .unset, .unset, .unset, .unset, .unset, .unset, .unset] [(.long (own_v0_50 j0 i1 i2 i3)), (.long ((j0.toUInt64 >>> ((own_v0_85 j0 i1 i2 i3) &&& 0x3f).toInt64.toUInt64).toInt64))])) _
      refine XS.land X7.here hx rfl (hb hby at_93) rfl ?_
      show Steps p.tables e below (T7.setTop (mkF m 94 #[.val (.long j0), .second, .val (.int i1), .val (.int i2), .val (.int i3), .val (.int ((i2 &&& (2147483647 : Int32)) % (6 : Int32))), .val (.int (own_v0_13 j0 i1 i2 i3)), .val (.int ((64 : Int32) >>> (((i2 &&& (2147483647 : Int32)) % (6 : Int32)) &&& 31))), .val (.int (own_v0_29 j0 i1 i2 i3)), .val (.int (own_j0_42_S0 j0 i1 i2 i3)), .val (.long (own_v0_50 j0 i1 i2 i3)), .second, .val (.long (own_v0_57 j0 i1 i2 i3)), .second, .val (.ref b5), .val (.long (own_v0_78 j0 i1 i2 i3)), .second, .val (.int (own_v0_85 j0 i1 i2 i3)), .unset, .unset, .unset, .unset, .unset, .unset, .unset] [(.long (((j0.toUInt64 >>> ((own_v0_85 j0 i1 i2 i3) &&& 0x3f).toInt64.toUInt64).toInt64) &&& (own_v0_50 j0 i1 i2 i3)))])) _
      refine XS.lstore X7.here hx rfl (hb hby at_94) rfl (l' := #[.val (.long j0), .second, .val (.int i1), .val (.int i2), .val (.int i3), .val (.int ((i2 &&& (2147483647 : Int32)) % (6 : Int32))), .val (.int (own_v0_13 j0 i1 i2 i3)), .val (.int ((64 : Int32) >>> (((i2 &&& (2147483647 : Int32)) % (6 : Int32)) &&& 31))), .val (.int (own_v0_29 j0 i1 i2 i3)), .val (.int (own_j0_42_S0 j0 i1 i2 i3)), .val (.long (own_v0_50 j0 i1 i2 i3)), .second, .val (.long (own_v0_57 j0 i1 i2 i3)), .second, .val (.ref b5), .val (.long (own_v0_78 j0 i1 i2 i3)), .second, .val (.int (own_v0_85 j0 i1 i2 i3)), .val (.long (own_v0_94 j0 i1 i2 i3)), .second, .unset, .unset, .unset, .unset, .unset]) rfl ?_
      exact kt
    have J12 : ∀ (TJ12 : State) (locsJ12 : List Loc), Stand p l e room_1 s m #[(.long j0), (.int i1), (.int i2), (.int i3)] below meth c TJ12 locsJ12 1 4 → TJ12.heap = T6.heap → Fr n0 locsJ12 → ownE p e below s (own_Q0 Z j0 i1 i2 i3 h0 n0) 1 4 TJ12 (mkF m 133 #[.val (.long j0), .second, .val (.int i1), .val (.int i2), .val (.int i3), .val (.int ((i2 &&& (2147483647 : Int32)) % (6 : Int32))), .val (.int (own_v0_13 j0 i1 i2 i3)), .val (.int ((64 : Int32) >>> (((i2 &&& (2147483647 : Int32)) % (6 : Int32)) &&& 31))), .val (.int (own_v0_29 j0 i1 i2 i3)), .val (.int (own_j0_42_S0 j0 i1 i2 i3)), .val (.long (own_v0_50 j0 i1 i2 i3)), .second, .val (.long (own_v0_57 j0 i1 i2 i3)), .second, .val (.ref b5), .val (.long (own_v0_78 j0 i1 i2 i3)), .second, .val (.int (own_v0_85 j0 i1 i2 i3)), .val (.long (own_v0_94 j0 i1 i2 i3)), .second, .val (.int (own_j0_133_L20 j0 i1 i2 i3)), .unset, .unset, .unset, .unset] []) := by
      intro TJ12 locsJ12 XJ12 eJ12 NJ12
      have J15 : ∀ (TJ15 : State) (locsJ15 : List Loc), Stand p l e room_1 s m #[(.long j0), (.int i1), (.int i2), (.int i3)] below meth c TJ15 locsJ15 1 4 → TJ15.heap = T6.heap → Fr n0 locsJ15 → ownE p e below s (own_Q0 Z j0 i1 i2 i3 h0 n0) 1 4 TJ15 (mkF m 143 #[.val (.long j0), .second, .val (.int i1), .val (.int i2), .val (.int i3), .val (.int ((i2 &&& (2147483647 : Int32)) % (6 : Int32))), .val (.int (own_v0_13 j0 i1 i2 i3)), .val (.int ((64 : Int32) >>> (((i2 &&& (2147483647 : Int32)) % (6 : Int32)) &&& 31))), .val (.int (own_v0_29 j0 i1 i2 i3)), .val (.int (own_j0_42_S0 j0 i1 i2 i3)), .val (.long (own_v0_50 j0 i1 i2 i3)), .second, .val (.long (own_v0_57 j0 i1 i2 i3)), .second, .val (.ref b5), .val (.long (own_v0_78 j0 i1 i2 i3)), .second, .val (.int (own_v0_85 j0 i1 i2 i3)), .val (.long (own_v0_94 j0 i1 i2 i3)), .second, .val (.int (own_j0_133_L20 j0 i1 i2 i3)), .unset, .unset, .unset, .unset] [(.long (own_j0_143_S0 j0 i1 i2 i3))]) := by
        intro TJ15 locsJ15 XJ15 eJ15 NJ15
        refine ownE.go (T' := TJ15) (f' := (mkF m 145 #[.val (.long j0), .second, .val (.int i1), .val (.int i2), .val (.int i3), .val (.int ((i2 &&& (2147483647 : Int32)) % (6 : Int32))), .val (.int (own_v0_13 j0 i1 i2 i3)), .val (.int ((64 : Int32) >>> (((i2 &&& (2147483647 : Int32)) % (6 : Int32)) &&& 31))), .val (.int (own_v0_29 j0 i1 i2 i3)), .val (.int (own_j0_42_S0 j0 i1 i2 i3)), .val (.long (own_v0_50 j0 i1 i2 i3)), .second, .val (.long (own_v0_57 j0 i1 i2 i3)), .second, .val (.ref b5), .val (.long (own_v0_78 j0 i1 i2 i3)), .second, .val (.int (own_v0_85 j0 i1 i2 i3)), .val (.long (own_v0_94 j0 i1 i2 i3)), .second, .val (.int (own_j0_133_L20 j0 i1 i2 i3)), .val (.long (own_j0_143_S0 j0 i1 i2 i3)), .second, .unset, .unset] [])) (fun t kt => ?_) ?_
        · show Steps p.tables e below (TJ15.setTop (mkF m 143 #[.val (.long j0), .second, .val (.int i1), .val (.int i2), .val (.int i3), .val (.int ((i2 &&& (2147483647 : Int32)) % (6 : Int32))), .val (.int (own_v0_13 j0 i1 i2 i3)), .val (.int ((64 : Int32) >>> (((i2 &&& (2147483647 : Int32)) % (6 : Int32)) &&& 31))), .val (.int (own_v0_29 j0 i1 i2 i3)), .val (.int (own_j0_42_S0 j0 i1 i2 i3)), .val (.long (own_v0_50 j0 i1 i2 i3)), .second, .val (.long (own_v0_57 j0 i1 i2 i3)), .second, .val (.ref b5), .val (.long (own_v0_78 j0 i1 i2 i3)), .second, .val (.int (own_v0_85 j0 i1 i2 i3)), .val (.long (own_v0_94 j0 i1 i2 i3)), .second, .val (.int (own_j0_133_L20 j0 i1 i2 i3)), .unset, .unset, .unset, .unset] [(.long (own_j0_143_S0 j0 i1 i2 i3))])) _
          refine XS.lstore XJ15.here hx rfl (hb hby at_143) rfl (l' := #[.val (.long j0), .second, .val (.int i1), .val (.int i2), .val (.int i3), .val (.int ((i2 &&& (2147483647 : Int32)) % (6 : Int32))), .val (.int (own_v0_13 j0 i1 i2 i3)), .val (.int ((64 : Int32) >>> (((i2 &&& (2147483647 : Int32)) % (6 : Int32)) &&& 31))), .val (.int (own_v0_29 j0 i1 i2 i3)), .val (.int (own_j0_42_S0 j0 i1 i2 i3)), .val (.long (own_v0_50 j0 i1 i2 i3)), .second, .val (.long (own_v0_57 j0 i1 i2 i3)), .second, .val (.ref b5), .val (.long (own_v0_78 j0 i1 i2 i3)), .second, .val (.int (own_v0_85 j0 i1 i2 i3)), .val (.long (own_v0_94 j0 i1 i2 i3)), .second, .val (.int (own_j0_133_L20 j0 i1 i2 i3)), .val (.long (own_j0_143_S0 j0 i1 i2 i3)), .second, .unset, .unset]) rfl ?_
          exact kt
        have J18 : ∀ (TJ18 : State) (locsJ18 : List Loc), Stand p l e room_1 s m #[(.long j0), (.int i1), (.int i2), (.int i3)] below meth c TJ18 locsJ18 1 4 → TJ18.heap = T6.heap → Fr n0 locsJ18 → ownE p e below s (own_Q0 Z j0 i1 i2 i3 h0 n0) 1 4 TJ18 (mkF m 164 #[.val (.long j0), .second, .val (.int i1), .val (.int i2), .val (.int i3), .val (.int ((i2 &&& (2147483647 : Int32)) % (6 : Int32))), .val (.int (own_v0_13 j0 i1 i2 i3)), .val (.int ((64 : Int32) >>> (((i2 &&& (2147483647 : Int32)) % (6 : Int32)) &&& 31))), .val (.int (own_v0_29 j0 i1 i2 i3)), .val (.int (own_j0_42_S0 j0 i1 i2 i3)), .val (.long (own_v0_50 j0 i1 i2 i3)), .second, .val (.long (own_v0_57 j0 i1 i2 i3)), .second, .val (.ref b5), .val (.long (own_v0_78 j0 i1 i2 i3)), .second, .val (.int (own_v0_85 j0 i1 i2 i3)), .val (.long (own_v0_94 j0 i1 i2 i3)), .second, .val (.int (own_j0_133_L20 j0 i1 i2 i3)), .val (.long (own_j0_143_S0 j0 i1 i2 i3)), .second, .unset, .unset] [(.int (own_j0_164_S0 j0 i1 i2 i3))]) := by
          intro TJ18 locsJ18 XJ18 eJ18 NJ18
          refine ownE.go (T' := TJ18) (f' := (mkF m 166 #[.val (.long j0), .second, .val (.int i1), .val (.int i2), .val (.int i3), .val (.int ((i2 &&& (2147483647 : Int32)) % (6 : Int32))), .val (.int (own_v0_13 j0 i1 i2 i3)), .val (.int ((64 : Int32) >>> (((i2 &&& (2147483647 : Int32)) % (6 : Int32)) &&& 31))), .val (.int (own_v0_29 j0 i1 i2 i3)), .val (.int (own_j0_42_S0 j0 i1 i2 i3)), .val (.long (own_v0_50 j0 i1 i2 i3)), .second, .val (.long (own_v0_57 j0 i1 i2 i3)), .second, .val (.ref b5), .val (.long (own_v0_78 j0 i1 i2 i3)), .second, .val (.int (own_v0_85 j0 i1 i2 i3)), .val (.long (own_v0_94 j0 i1 i2 i3)), .second, .val (.int (own_j0_133_L20 j0 i1 i2 i3)), .val (.long (own_j0_143_S0 j0 i1 i2 i3)), .second, .val (.int (own_j0_164_S0 j0 i1 i2 i3)), .unset] [])) (fun t kt => ?_) ?_
          · show Steps p.tables e below (TJ18.setTop (mkF m 164 #[.val (.long j0), .second, .val (.int i1), .val (.int i2), .val (.int i3), .val (.int ((i2 &&& (2147483647 : Int32)) % (6 : Int32))), .val (.int (own_v0_13 j0 i1 i2 i3)), .val (.int ((64 : Int32) >>> (((i2 &&& (2147483647 : Int32)) % (6 : Int32)) &&& 31))), .val (.int (own_v0_29 j0 i1 i2 i3)), .val (.int (own_j0_42_S0 j0 i1 i2 i3)), .val (.long (own_v0_50 j0 i1 i2 i3)), .second, .val (.long (own_v0_57 j0 i1 i2 i3)), .second, .val (.ref b5), .val (.long (own_v0_78 j0 i1 i2 i3)), .second, .val (.int (own_v0_85 j0 i1 i2 i3)), .val (.long (own_v0_94 j0 i1 i2 i3)), .second, .val (.int (own_j0_133_L20 j0 i1 i2 i3)), .val (.long (own_j0_143_S0 j0 i1 i2 i3)), .second, .unset, .unset] [(.int (own_j0_164_S0 j0 i1 i2 i3))])) _
            refine XS.istore XJ18.here hx rfl (hb hby at_164) rfl (l' := #[.val (.long j0), .second, .val (.int i1), .val (.int i2), .val (.int i3), .val (.int ((i2 &&& (2147483647 : Int32)) % (6 : Int32))), .val (.int (own_v0_13 j0 i1 i2 i3)), .val (.int ((64 : Int32) >>> (((i2 &&& (2147483647 : Int32)) % (6 : Int32)) &&& 31))), .val (.int (own_v0_29 j0 i1 i2 i3)), .val (.int (own_j0_42_S0 j0 i1 i2 i3)), .val (.long (own_v0_50 j0 i1 i2 i3)), .second, .val (.long (own_v0_57 j0 i1 i2 i3)), .second, .val (.ref b5), .val (.long (own_v0_78 j0 i1 i2 i3)), .second, .val (.int (own_v0_85 j0 i1 i2 i3)), .val (.long (own_v0_94 j0 i1 i2 i3)), .second, .val (.int (own_j0_133_L20 j0 i1 i2 i3)), .val (.long (own_j0_143_S0 j0 i1 i2 i3)), .second, .val (.int (own_j0_164_S0 j0 i1 i2 i3)), .unset]) rfl ?_
            exact kt
          have J21 : ∀ (TJ21 : State) (locsJ21 : List Loc), Stand p l e room_1 s m #[(.long j0), (.int i1), (.int i2), (.int i3)] below meth c TJ21 locsJ21 1 4 → TJ21.heap = T6.heap → Fr n0 locsJ21 → ownE p e below s (own_Q0 Z j0 i1 i2 i3 h0 n0) 1 4 TJ21 (mkF m 185 #[.val (.long j0), .second, .val (.int i1), .val (.int i2), .val (.int i3), .val (.int ((i2 &&& (2147483647 : Int32)) % (6 : Int32))), .val (.int (own_v0_13 j0 i1 i2 i3)), .val (.int ((64 : Int32) >>> (((i2 &&& (2147483647 : Int32)) % (6 : Int32)) &&& 31))), .val (.int (own_v0_29 j0 i1 i2 i3)), .val (.int (own_j0_42_S0 j0 i1 i2 i3)), .val (.long (own_v0_50 j0 i1 i2 i3)), .second, .val (.long (own_v0_57 j0 i1 i2 i3)), .second, .val (.ref b5), .val (.long (own_v0_78 j0 i1 i2 i3)), .second, .val (.int (own_v0_85 j0 i1 i2 i3)), .val (.long (own_v0_94 j0 i1 i2 i3)), .second, .val (.int (own_j0_133_L20 j0 i1 i2 i3)), .val (.long (own_j0_143_S0 j0 i1 i2 i3)), .second, .val (.int (own_j0_164_S0 j0 i1 i2 i3)), .unset] [(.int (own_j0_185_S0 j0 i1 i2 i3))]) := by
            intro TJ21 locsJ21 XJ21 eJ21 NJ21
            refine ownE.go (T' := TJ21) (f' := (mkF m 189 #[.val (.long j0), .second, .val (.int i1), .val (.int i2), .val (.int i3), .val (.int ((i2 &&& (2147483647 : Int32)) % (6 : Int32))), .val (.int (own_v0_13 j0 i1 i2 i3)), .val (.int ((64 : Int32) >>> (((i2 &&& (2147483647 : Int32)) % (6 : Int32)) &&& 31))), .val (.int (own_v0_29 j0 i1 i2 i3)), .val (.int (own_j0_42_S0 j0 i1 i2 i3)), .val (.long (own_v0_50 j0 i1 i2 i3)), .second, .val (.long (own_v0_57 j0 i1 i2 i3)), .second, .val (.ref b5), .val (.long (own_v0_78 j0 i1 i2 i3)), .second, .val (.int (own_v0_85 j0 i1 i2 i3)), .val (.long (own_v0_94 j0 i1 i2 i3)), .second, .val (.int (own_j0_133_L20 j0 i1 i2 i3)), .val (.long (own_j0_143_S0 j0 i1 i2 i3)), .second, .val (.int (own_j0_164_S0 j0 i1 i2 i3)), .val (.int (own_j0_185_S0 j0 i1 i2 i3))] [(.int (own_j0_164_S0 j0 i1 i2 i3))])) (fun t kt => ?_) ?_
            · show Steps p.tables e below (TJ21.setTop (mkF m 185 #[.val (.long j0), .second, .val (.int i1), .val (.int i2), .val (.int i3), .val (.int ((i2 &&& (2147483647 : Int32)) % (6 : Int32))), .val (.int (own_v0_13 j0 i1 i2 i3)), .val (.int ((64 : Int32) >>> (((i2 &&& (2147483647 : Int32)) % (6 : Int32)) &&& 31))), .val (.int (own_v0_29 j0 i1 i2 i3)), .val (.int (own_j0_42_S0 j0 i1 i2 i3)), .val (.long (own_v0_50 j0 i1 i2 i3)), .second, .val (.long (own_v0_57 j0 i1 i2 i3)), .second, .val (.ref b5), .val (.long (own_v0_78 j0 i1 i2 i3)), .second, .val (.int (own_v0_85 j0 i1 i2 i3)), .val (.long (own_v0_94 j0 i1 i2 i3)), .second, .val (.int (own_j0_133_L20 j0 i1 i2 i3)), .val (.long (own_j0_143_S0 j0 i1 i2 i3)), .second, .val (.int (own_j0_164_S0 j0 i1 i2 i3)), .unset] [(.int (own_j0_185_S0 j0 i1 i2 i3))])) _
              refine XS.istore XJ21.here hx rfl (hb hby at_185) rfl (l' := #[.val (.long j0), .second, .val (.int i1), .val (.int i2), .val (.int i3), .val (.int ((i2 &&& (2147483647 : Int32)) % (6 : Int32))), .val (.int (own_v0_13 j0 i1 i2 i3)), .val (.int ((64 : Int32) >>> (((i2 &&& (2147483647 : Int32)) % (6 : Int32)) &&& 31))), .val (.int (own_v0_29 j0 i1 i2 i3)), .val (.int (own_j0_42_S0 j0 i1 i2 i3)), .val (.long (own_v0_50 j0 i1 i2 i3)), .second, .val (.long (own_v0_57 j0 i1 i2 i3)), .second, .val (.ref b5), .val (.long (own_v0_78 j0 i1 i2 i3)), .second, .val (.int (own_v0_85 j0 i1 i2 i3)), .val (.long (own_v0_94 j0 i1 i2 i3)), .second, .val (.int (own_j0_133_L20 j0 i1 i2 i3)), .val (.long (own_j0_143_S0 j0 i1 i2 i3)), .second, .val (.int (own_j0_164_S0 j0 i1 i2 i3)), .val (.int (own_j0_185_S0 j0 i1 i2 i3))]) rfl ?_
              show Steps p.tables e below (TJ21.setTop (mkF m 187 #[.val (.long j0), .second, .val (.int i1), .val (.int i2), .val (.int i3), .val (.int ((i2 &&& (2147483647 : Int32)) % (6 : Int32))), .val (.int (own_v0_13 j0 i1 i2 i3)), .val (.int ((64 : Int32) >>> (((i2 &&& (2147483647 : Int32)) % (6 : Int32)) &&& 31))), .val (.int (own_v0_29 j0 i1 i2 i3)), .val (.int (own_j0_42_S0 j0 i1 i2 i3)), .val (.long (own_v0_50 j0 i1 i2 i3)), .second, .val (.long (own_v0_57 j0 i1 i2 i3)), .second, .val (.ref b5), .val (.long (own_v0_78 j0 i1 i2 i3)), .second, .val (.int (own_v0_85 j0 i1 i2 i3)), .val (.long (own_v0_94 j0 i1 i2 i3)), .second, .val (.int (own_j0_133_L20 j0 i1 i2 i3)), .val (.long (own_j0_143_S0 j0 i1 i2 i3)), .second, .val (.int (own_j0_164_S0 j0 i1 i2 i3)), .val (.int (own_j0_185_S0 j0 i1 i2 i3))] [])) _
              refine XS.iload XJ21.here hx rfl (hb hby at_187) rfl ?_
              exact kt
            by_cases hc22 : (own_j0_164_S0 j0 i1 i2 i3) = (0 : Int32)
            · -- pc 189
              refine ownE.go (T' := TJ21) (f' := (mkF m 201 #[.val (.long j0), .second, .val (.int i1), .val (.int i2), .val (.int i3), .val (.int ((i2 &&& (2147483647 : Int32)) % (6 : Int32))), .val (.int (own_v0_13 j0 i1 i2 i3)), .val (.int ((64 : Int32) >>> (((i2 &&& (2147483647 : Int32)) % (6 : Int32)) &&& 31))), .val (.int (own_v0_29 j0 i1 i2 i3)), .val (.int (own_j0_42_S0 j0 i1 i2 i3)), .val (.long (own_v0_50 j0 i1 i2 i3)), .second, .val (.long (own_v0_57 j0 i1 i2 i3)), .second, .val (.ref b5), .val (.long (own_v0_78 j0 i1 i2 i3)), .second, .val (.int (own_v0_85 j0 i1 i2 i3)), .val (.long (own_v0_94 j0 i1 i2 i3)), .second, .val (.int (own_j0_133_L20 j0 i1 i2 i3)), .val (.long (own_j0_143_S0 j0 i1 i2 i3)), .second, .val (.int (own_j0_164_S0 j0 i1 i2 i3)), .val (.int (own_j0_185_S0 j0 i1 i2 i3))] [])) (fun t kt => XS.ifYes (g := (mkF m 189 #[.val (.long j0), .second, .val (.int i1), .val (.int i2), .val (.int i3), .val (.int ((i2 &&& (2147483647 : Int32)) % (6 : Int32))), .val (.int (own_v0_13 j0 i1 i2 i3)), .val (.int ((64 : Int32) >>> (((i2 &&& (2147483647 : Int32)) % (6 : Int32)) &&& 31))), .val (.int (own_v0_29 j0 i1 i2 i3)), .val (.int (own_j0_42_S0 j0 i1 i2 i3)), .val (.long (own_v0_50 j0 i1 i2 i3)), .second, .val (.long (own_v0_57 j0 i1 i2 i3)), .second, .val (.ref b5), .val (.long (own_v0_78 j0 i1 i2 i3)), .second, .val (.int (own_v0_85 j0 i1 i2 i3)), .val (.long (own_v0_94 j0 i1 i2 i3)), .second, .val (.int (own_j0_133_L20 j0 i1 i2 i3)), .val (.long (own_j0_143_S0 j0 i1 i2 i3)), .second, .val (.int (own_j0_164_S0 j0 i1 i2 i3)), .val (.int (own_j0_185_S0 j0 i1 i2 i3))] [(.int (own_j0_164_S0 j0 i1 i2 i3))])) XJ21.here hx rfl (pc0 := 189) (pc' := 201) rfl (hb hby at_189) rfl (Jvm.Free.XT.i0_eq_t hc22) (by decide) (by decide) kt) ?_
              refine ownE.go (T' := TJ21) (f' := (mkF m 202 #[.val (.long j0), .second, .val (.int i1), .val (.int i2), .val (.int i3), .val (.int ((i2 &&& (2147483647 : Int32)) % (6 : Int32))), .val (.int (own_v0_13 j0 i1 i2 i3)), .val (.int ((64 : Int32) >>> (((i2 &&& (2147483647 : Int32)) % (6 : Int32)) &&& 31))), .val (.int (own_v0_29 j0 i1 i2 i3)), .val (.int (own_j0_42_S0 j0 i1 i2 i3)), .val (.long (own_v0_50 j0 i1 i2 i3)), .second, .val (.long (own_v0_57 j0 i1 i2 i3)), .second, .val (.ref b5), .val (.long (own_v0_78 j0 i1 i2 i3)), .second, .val (.int (own_v0_85 j0 i1 i2 i3)), .val (.long (own_v0_94 j0 i1 i2 i3)), .second, .val (.int (own_j0_133_L20 j0 i1 i2 i3)), .val (.long (own_j0_143_S0 j0 i1 i2 i3)), .second, .val (.int (own_j0_164_S0 j0 i1 i2 i3)), .val (.int (own_j0_185_S0 j0 i1 i2 i3))] [(.int (0 : Int32))])) (fun t kt => ?_) ?_
              · show Steps p.tables e below (TJ21.setTop (mkF m 201 #[.val (.long j0), .second, .val (.int i1), .val (.int i2), .val (.int i3), .val (.int ((i2 &&& (2147483647 : Int32)) % (6 : Int32))), .val (.int (own_v0_13 j0 i1 i2 i3)), .val (.int ((64 : Int32) >>> (((i2 &&& (2147483647 : Int32)) % (6 : Int32)) &&& 31))), .val (.int (own_v0_29 j0 i1 i2 i3)), .val (.int (own_j0_42_S0 j0 i1 i2 i3)), .val (.long (own_v0_50 j0 i1 i2 i3)), .second, .val (.long (own_v0_57 j0 i1 i2 i3)), .second, .val (.ref b5), .val (.long (own_v0_78 j0 i1 i2 i3)), .second, .val (.int (own_v0_85 j0 i1 i2 i3)), .val (.long (own_v0_94 j0 i1 i2 i3)), .second, .val (.int (own_j0_133_L20 j0 i1 i2 i3)), .val (.long (own_j0_143_S0 j0 i1 i2 i3)), .second, .val (.int (own_j0_164_S0 j0 i1 i2 i3)), .val (.int (own_j0_185_S0 j0 i1 i2 i3))] [])) _
                refine XS.iconst XJ21.here hx rfl (hb hby at_201) ?_
                exact kt
              refine ownE.retN XJ21 hx hlk (t := .boolean) hret (by simp) (hb hby at_202) ?_ (by decide) (by decide)
              show own_Q0 Z j0 i1 i2 i3 h0 n0 _ TJ21.heap _
              rw [eJ21]
              exact ⟨(by rw [own_f0, if_pos hc22] <;> first | rfl | decide), NJ21, K6⟩
            · -- pc 189
              refine ownE.go (T' := TJ21) (f' := (mkF m 192 #[.val (.long j0), .second, .val (.int i1), .val (.int i2), .val (.int i3), .val (.int ((i2 &&& (2147483647 : Int32)) % (6 : Int32))), .val (.int (own_v0_13 j0 i1 i2 i3)), .val (.int ((64 : Int32) >>> (((i2 &&& (2147483647 : Int32)) % (6 : Int32)) &&& 31))), .val (.int (own_v0_29 j0 i1 i2 i3)), .val (.int (own_j0_42_S0 j0 i1 i2 i3)), .val (.long (own_v0_50 j0 i1 i2 i3)), .second, .val (.long (own_v0_57 j0 i1 i2 i3)), .second, .val (.ref b5), .val (.long (own_v0_78 j0 i1 i2 i3)), .second, .val (.int (own_v0_85 j0 i1 i2 i3)), .val (.long (own_v0_94 j0 i1 i2 i3)), .second, .val (.int (own_j0_133_L20 j0 i1 i2 i3)), .val (.long (own_j0_143_S0 j0 i1 i2 i3)), .second, .val (.int (own_j0_164_S0 j0 i1 i2 i3)), .val (.int (own_j0_185_S0 j0 i1 i2 i3))] [])) (fun t kt => XS.ifNo (g := (mkF m 189 #[.val (.long j0), .second, .val (.int i1), .val (.int i2), .val (.int i3), .val (.int ((i2 &&& (2147483647 : Int32)) % (6 : Int32))), .val (.int (own_v0_13 j0 i1 i2 i3)), .val (.int ((64 : Int32) >>> (((i2 &&& (2147483647 : Int32)) % (6 : Int32)) &&& 31))), .val (.int (own_v0_29 j0 i1 i2 i3)), .val (.int (own_j0_42_S0 j0 i1 i2 i3)), .val (.long (own_v0_50 j0 i1 i2 i3)), .second, .val (.long (own_v0_57 j0 i1 i2 i3)), .second, .val (.ref b5), .val (.long (own_v0_78 j0 i1 i2 i3)), .second, .val (.int (own_v0_85 j0 i1 i2 i3)), .val (.long (own_v0_94 j0 i1 i2 i3)), .second, .val (.int (own_j0_133_L20 j0 i1 i2 i3)), .val (.long (own_j0_143_S0 j0 i1 i2 i3)), .second, .val (.int (own_j0_164_S0 j0 i1 i2 i3)), .val (.int (own_j0_185_S0 j0 i1 i2 i3))] [(.int (own_j0_164_S0 j0 i1 i2 i3))])) XJ21.here hx rfl (hb hby at_189) rfl (Jvm.Free.XT.i0_eq_f hc22) kt) ?_
              refine ownE.go (T' := TJ21) (f' := (mkF m 194 #[.val (.long j0), .second, .val (.int i1), .val (.int i2), .val (.int i3), .val (.int ((i2 &&& (2147483647 : Int32)) % (6 : Int32))), .val (.int (own_v0_13 j0 i1 i2 i3)), .val (.int ((64 : Int32) >>> (((i2 &&& (2147483647 : Int32)) % (6 : Int32)) &&& 31))), .val (.int (own_v0_29 j0 i1 i2 i3)), .val (.int (own_j0_42_S0 j0 i1 i2 i3)), .val (.long (own_v0_50 j0 i1 i2 i3)), .second, .val (.long (own_v0_57 j0 i1 i2 i3)), .second, .val (.ref b5), .val (.long (own_v0_78 j0 i1 i2 i3)), .second, .val (.int (own_v0_85 j0 i1 i2 i3)), .val (.long (own_v0_94 j0 i1 i2 i3)), .second, .val (.int (own_j0_133_L20 j0 i1 i2 i3)), .val (.long (own_j0_143_S0 j0 i1 i2 i3)), .second, .val (.int (own_j0_164_S0 j0 i1 i2 i3)), .val (.int (own_j0_185_S0 j0 i1 i2 i3))] [(.int (own_j0_185_S0 j0 i1 i2 i3))])) (fun t kt => ?_) ?_
              · show Steps p.tables e below (TJ21.setTop (mkF m 192 #[.val (.long j0), .second, .val (.int i1), .val (.int i2), .val (.int i3), .val (.int ((i2 &&& (2147483647 : Int32)) % (6 : Int32))), .val (.int (own_v0_13 j0 i1 i2 i3)), .val (.int ((64 : Int32) >>> (((i2 &&& (2147483647 : Int32)) % (6 : Int32)) &&& 31))), .val (.int (own_v0_29 j0 i1 i2 i3)), .val (.int (own_j0_42_S0 j0 i1 i2 i3)), .val (.long (own_v0_50 j0 i1 i2 i3)), .second, .val (.long (own_v0_57 j0 i1 i2 i3)), .second, .val (.ref b5), .val (.long (own_v0_78 j0 i1 i2 i3)), .second, .val (.int (own_v0_85 j0 i1 i2 i3)), .val (.long (own_v0_94 j0 i1 i2 i3)), .second, .val (.int (own_j0_133_L20 j0 i1 i2 i3)), .val (.long (own_j0_143_S0 j0 i1 i2 i3)), .second, .val (.int (own_j0_164_S0 j0 i1 i2 i3)), .val (.int (own_j0_185_S0 j0 i1 i2 i3))] [])) _
                refine XS.iload XJ21.here hx rfl (hb hby at_192) rfl ?_
                exact kt
              by_cases hc23 : (own_j0_185_S0 j0 i1 i2 i3) = (0 : Int32)
              · -- pc 194
                refine ownE.go (T' := TJ21) (f' := (mkF m 201 #[.val (.long j0), .second, .val (.int i1), .val (.int i2), .val (.int i3), .val (.int ((i2 &&& (2147483647 : Int32)) % (6 : Int32))), .val (.int (own_v0_13 j0 i1 i2 i3)), .val (.int ((64 : Int32) >>> (((i2 &&& (2147483647 : Int32)) % (6 : Int32)) &&& 31))), .val (.int (own_v0_29 j0 i1 i2 i3)), .val (.int (own_j0_42_S0 j0 i1 i2 i3)), .val (.long (own_v0_50 j0 i1 i2 i3)), .second, .val (.long (own_v0_57 j0 i1 i2 i3)), .second, .val (.ref b5), .val (.long (own_v0_78 j0 i1 i2 i3)), .second, .val (.int (own_v0_85 j0 i1 i2 i3)), .val (.long (own_v0_94 j0 i1 i2 i3)), .second, .val (.int (own_j0_133_L20 j0 i1 i2 i3)), .val (.long (own_j0_143_S0 j0 i1 i2 i3)), .second, .val (.int (own_j0_164_S0 j0 i1 i2 i3)), .val (.int (own_j0_185_S0 j0 i1 i2 i3))] [])) (fun t kt => XS.ifYes (g := (mkF m 194 #[.val (.long j0), .second, .val (.int i1), .val (.int i2), .val (.int i3), .val (.int ((i2 &&& (2147483647 : Int32)) % (6 : Int32))), .val (.int (own_v0_13 j0 i1 i2 i3)), .val (.int ((64 : Int32) >>> (((i2 &&& (2147483647 : Int32)) % (6 : Int32)) &&& 31))), .val (.int (own_v0_29 j0 i1 i2 i3)), .val (.int (own_j0_42_S0 j0 i1 i2 i3)), .val (.long (own_v0_50 j0 i1 i2 i3)), .second, .val (.long (own_v0_57 j0 i1 i2 i3)), .second, .val (.ref b5), .val (.long (own_v0_78 j0 i1 i2 i3)), .second, .val (.int (own_v0_85 j0 i1 i2 i3)), .val (.long (own_v0_94 j0 i1 i2 i3)), .second, .val (.int (own_j0_133_L20 j0 i1 i2 i3)), .val (.long (own_j0_143_S0 j0 i1 i2 i3)), .second, .val (.int (own_j0_164_S0 j0 i1 i2 i3)), .val (.int (own_j0_185_S0 j0 i1 i2 i3))] [(.int (own_j0_185_S0 j0 i1 i2 i3))])) XJ21.here hx rfl (pc0 := 194) (pc' := 201) rfl (hb hby at_194) rfl (Jvm.Free.XT.i0_eq_t hc23) (by decide) (by decide) kt) ?_
                refine ownE.go (T' := TJ21) (f' := (mkF m 202 #[.val (.long j0), .second, .val (.int i1), .val (.int i2), .val (.int i3), .val (.int ((i2 &&& (2147483647 : Int32)) % (6 : Int32))), .val (.int (own_v0_13 j0 i1 i2 i3)), .val (.int ((64 : Int32) >>> (((i2 &&& (2147483647 : Int32)) % (6 : Int32)) &&& 31))), .val (.int (own_v0_29 j0 i1 i2 i3)), .val (.int (own_j0_42_S0 j0 i1 i2 i3)), .val (.long (own_v0_50 j0 i1 i2 i3)), .second, .val (.long (own_v0_57 j0 i1 i2 i3)), .second, .val (.ref b5), .val (.long (own_v0_78 j0 i1 i2 i3)), .second, .val (.int (own_v0_85 j0 i1 i2 i3)), .val (.long (own_v0_94 j0 i1 i2 i3)), .second, .val (.int (own_j0_133_L20 j0 i1 i2 i3)), .val (.long (own_j0_143_S0 j0 i1 i2 i3)), .second, .val (.int (own_j0_164_S0 j0 i1 i2 i3)), .val (.int (own_j0_185_S0 j0 i1 i2 i3))] [(.int (0 : Int32))])) (fun t kt => ?_) ?_
                · show Steps p.tables e below (TJ21.setTop (mkF m 201 #[.val (.long j0), .second, .val (.int i1), .val (.int i2), .val (.int i3), .val (.int ((i2 &&& (2147483647 : Int32)) % (6 : Int32))), .val (.int (own_v0_13 j0 i1 i2 i3)), .val (.int ((64 : Int32) >>> (((i2 &&& (2147483647 : Int32)) % (6 : Int32)) &&& 31))), .val (.int (own_v0_29 j0 i1 i2 i3)), .val (.int (own_j0_42_S0 j0 i1 i2 i3)), .val (.long (own_v0_50 j0 i1 i2 i3)), .second, .val (.long (own_v0_57 j0 i1 i2 i3)), .second, .val (.ref b5), .val (.long (own_v0_78 j0 i1 i2 i3)), .second, .val (.int (own_v0_85 j0 i1 i2 i3)), .val (.long (own_v0_94 j0 i1 i2 i3)), .second, .val (.int (own_j0_133_L20 j0 i1 i2 i3)), .val (.long (own_j0_143_S0 j0 i1 i2 i3)), .second, .val (.int (own_j0_164_S0 j0 i1 i2 i3)), .val (.int (own_j0_185_S0 j0 i1 i2 i3))] [])) _
                  refine XS.iconst XJ21.here hx rfl (hb hby at_201) ?_
                  exact kt
                refine ownE.retN XJ21 hx hlk (t := .boolean) hret (by simp) (hb hby at_202) ?_ (by decide) (by decide)
                show own_Q0 Z j0 i1 i2 i3 h0 n0 _ TJ21.heap _
                rw [eJ21]
                exact ⟨(by rw [own_f0, if_neg hc22, if_pos hc23] <;> first | rfl | decide), NJ21, K6⟩
              · -- pc 194
                refine ownE.go (T' := TJ21) (f' := (mkF m 197 #[.val (.long j0), .second, .val (.int i1), .val (.int i2), .val (.int i3), .val (.int ((i2 &&& (2147483647 : Int32)) % (6 : Int32))), .val (.int (own_v0_13 j0 i1 i2 i3)), .val (.int ((64 : Int32) >>> (((i2 &&& (2147483647 : Int32)) % (6 : Int32)) &&& 31))), .val (.int (own_v0_29 j0 i1 i2 i3)), .val (.int (own_j0_42_S0 j0 i1 i2 i3)), .val (.long (own_v0_50 j0 i1 i2 i3)), .second, .val (.long (own_v0_57 j0 i1 i2 i3)), .second, .val (.ref b5), .val (.long (own_v0_78 j0 i1 i2 i3)), .second, .val (.int (own_v0_85 j0 i1 i2 i3)), .val (.long (own_v0_94 j0 i1 i2 i3)), .second, .val (.int (own_j0_133_L20 j0 i1 i2 i3)), .val (.long (own_j0_143_S0 j0 i1 i2 i3)), .second, .val (.int (own_j0_164_S0 j0 i1 i2 i3)), .val (.int (own_j0_185_S0 j0 i1 i2 i3))] [])) (fun t kt => XS.ifNo (g := (mkF m 194 #[.val (.long j0), .second, .val (.int i1), .val (.int i2), .val (.int i3), .val (.int ((i2 &&& (2147483647 : Int32)) % (6 : Int32))), .val (.int (own_v0_13 j0 i1 i2 i3)), .val (.int ((64 : Int32) >>> (((i2 &&& (2147483647 : Int32)) % (6 : Int32)) &&& 31))), .val (.int (own_v0_29 j0 i1 i2 i3)), .val (.int (own_j0_42_S0 j0 i1 i2 i3)), .val (.long (own_v0_50 j0 i1 i2 i3)), .second, .val (.long (own_v0_57 j0 i1 i2 i3)), .second, .val (.ref b5), .val (.long (own_v0_78 j0 i1 i2 i3)), .second, .val (.int (own_v0_85 j0 i1 i2 i3)), .val (.long (own_v0_94 j0 i1 i2 i3)), .second, .val (.int (own_j0_133_L20 j0 i1 i2 i3)), .val (.long (own_j0_143_S0 j0 i1 i2 i3)), .second, .val (.int (own_j0_164_S0 j0 i1 i2 i3)), .val (.int (own_j0_185_S0 j0 i1 i2 i3))] [(.int (own_j0_185_S0 j0 i1 i2 i3))])) XJ21.here hx rfl (hb hby at_194) rfl (Jvm.Free.XT.i0_eq_f hc23) kt) ?_
                refine ownE.go (T' := TJ21) (f' := (mkF m 202 #[.val (.long j0), .second, .val (.int i1), .val (.int i2), .val (.int i3), .val (.int ((i2 &&& (2147483647 : Int32)) % (6 : Int32))), .val (.int (own_v0_13 j0 i1 i2 i3)), .val (.int ((64 : Int32) >>> (((i2 &&& (2147483647 : Int32)) % (6 : Int32)) &&& 31))), .val (.int (own_v0_29 j0 i1 i2 i3)), .val (.int (own_j0_42_S0 j0 i1 i2 i3)), .val (.long (own_v0_50 j0 i1 i2 i3)), .second, .val (.long (own_v0_57 j0 i1 i2 i3)), .second, .val (.ref b5), .val (.long (own_v0_78 j0 i1 i2 i3)), .second, .val (.int (own_v0_85 j0 i1 i2 i3)), .val (.long (own_v0_94 j0 i1 i2 i3)), .second, .val (.int (own_j0_133_L20 j0 i1 i2 i3)), .val (.long (own_j0_143_S0 j0 i1 i2 i3)), .second, .val (.int (own_j0_164_S0 j0 i1 i2 i3)), .val (.int (own_j0_185_S0 j0 i1 i2 i3))] [(.int (1 : Int32))])) (fun t kt => ?_) ?_
                · show Steps p.tables e below (TJ21.setTop (mkF m 197 #[.val (.long j0), .second, .val (.int i1), .val (.int i2), .val (.int i3), .val (.int ((i2 &&& (2147483647 : Int32)) % (6 : Int32))), .val (.int (own_v0_13 j0 i1 i2 i3)), .val (.int ((64 : Int32) >>> (((i2 &&& (2147483647 : Int32)) % (6 : Int32)) &&& 31))), .val (.int (own_v0_29 j0 i1 i2 i3)), .val (.int (own_j0_42_S0 j0 i1 i2 i3)), .val (.long (own_v0_50 j0 i1 i2 i3)), .second, .val (.long (own_v0_57 j0 i1 i2 i3)), .second, .val (.ref b5), .val (.long (own_v0_78 j0 i1 i2 i3)), .second, .val (.int (own_v0_85 j0 i1 i2 i3)), .val (.long (own_v0_94 j0 i1 i2 i3)), .second, .val (.int (own_j0_133_L20 j0 i1 i2 i3)), .val (.long (own_j0_143_S0 j0 i1 i2 i3)), .second, .val (.int (own_j0_164_S0 j0 i1 i2 i3)), .val (.int (own_j0_185_S0 j0 i1 i2 i3))] [])) _
                  refine XS.iconst XJ21.here hx rfl (hb hby at_197) ?_
                  show Steps p.tables e below (TJ21.setTop (mkF m 198 #[.val (.long j0), .second, .val (.int i1), .val (.int i2), .val (.int i3), .val (.int ((i2 &&& (2147483647 : Int32)) % (6 : Int32))), .val (.int (own_v0_13 j0 i1 i2 i3)), .val (.int ((64 : Int32) >>> (((i2 &&& (2147483647 : Int32)) % (6 : Int32)) &&& 31))), .val (.int (own_v0_29 j0 i1 i2 i3)), .val (.int (own_j0_42_S0 j0 i1 i2 i3)), .val (.long (own_v0_50 j0 i1 i2 i3)), .second, .val (.long (own_v0_57 j0 i1 i2 i3)), .second, .val (.ref b5), .val (.long (own_v0_78 j0 i1 i2 i3)), .second, .val (.int (own_v0_85 j0 i1 i2 i3)), .val (.long (own_v0_94 j0 i1 i2 i3)), .second, .val (.int (own_j0_133_L20 j0 i1 i2 i3)), .val (.long (own_j0_143_S0 j0 i1 i2 i3)), .second, .val (.int (own_j0_164_S0 j0 i1 i2 i3)), .val (.int (own_j0_185_S0 j0 i1 i2 i3))] [(.int (1 : Int32))])) _
                  refine XS.goto XJ21.here hx rfl (pc0 := 198) (pc' := 202) rfl (hb hby at_198) (by decide) (by decide) ?_
                  exact kt
                refine ownE.retN XJ21 hx hlk (t := .boolean) hret (by simp) (hb hby at_202) ?_ (by decide) (by decide)
                show own_Q0 Z j0 i1 i2 i3 h0 n0 _ TJ21.heap _
                rw [eJ21]
                exact ⟨(by rw [own_f0, if_neg hc22, if_neg hc23] <;> first | rfl | decide), NJ21, K6⟩
          refine ownE.go (T' := TJ18) (f' := (mkF m 177 #[.val (.long j0), .second, .val (.int i1), .val (.int i2), .val (.int i3), .val (.int ((i2 &&& (2147483647 : Int32)) % (6 : Int32))), .val (.int (own_v0_13 j0 i1 i2 i3)), .val (.int ((64 : Int32) >>> (((i2 &&& (2147483647 : Int32)) % (6 : Int32)) &&& 31))), .val (.int (own_v0_29 j0 i1 i2 i3)), .val (.int (own_j0_42_S0 j0 i1 i2 i3)), .val (.long (own_v0_50 j0 i1 i2 i3)), .second, .val (.long (own_v0_57 j0 i1 i2 i3)), .second, .val (.ref b5), .val (.long (own_v0_78 j0 i1 i2 i3)), .second, .val (.int (own_v0_85 j0 i1 i2 i3)), .val (.long (own_v0_94 j0 i1 i2 i3)), .second, .val (.int (own_j0_133_L20 j0 i1 i2 i3)), .val (.long (own_j0_143_S0 j0 i1 i2 i3)), .second, .val (.int (own_j0_164_S0 j0 i1 i2 i3)), .unset] [(.int (Jvm.Free.XT.cmpL ((((own_v0_78 j0 i1 i2 i3).toUInt64 >>> ((own_v0_85 j0 i1 i2 i3) &&& 0x3f).toInt64.toUInt64).toInt64) &&& (own_v0_50 j0 i1 i2 i3)) (own_j0_143_S0 j0 i1 i2 i3)))])) (fun t kt => ?_) ?_
          · show Steps p.tables e below (TJ18.setTop (mkF m 166 #[.val (.long j0), .second, .val (.int i1), .val (.int i2), .val (.int i3), .val (.int ((i2 &&& (2147483647 : Int32)) % (6 : Int32))), .val (.int (own_v0_13 j0 i1 i2 i3)), .val (.int ((64 : Int32) >>> (((i2 &&& (2147483647 : Int32)) % (6 : Int32)) &&& 31))), .val (.int (own_v0_29 j0 i1 i2 i3)), .val (.int (own_j0_42_S0 j0 i1 i2 i3)), .val (.long (own_v0_50 j0 i1 i2 i3)), .second, .val (.long (own_v0_57 j0 i1 i2 i3)), .second, .val (.ref b5), .val (.long (own_v0_78 j0 i1 i2 i3)), .second, .val (.int (own_v0_85 j0 i1 i2 i3)), .val (.long (own_v0_94 j0 i1 i2 i3)), .second, .val (.int (own_j0_133_L20 j0 i1 i2 i3)), .val (.long (own_j0_143_S0 j0 i1 i2 i3)), .second, .val (.int (own_j0_164_S0 j0 i1 i2 i3)), .unset] [])) _
            refine XS.lload XJ18.here hx rfl (hb hby at_166) rfl ?_
            show Steps p.tables e below (TJ18.setTop (mkF m 168 #[.val (.long j0), .second, .val (.int i1), .val (.int i2), .val (.int i3), .val (.int ((i2 &&& (2147483647 : Int32)) % (6 : Int32))), .val (.int (own_v0_13 j0 i1 i2 i3)), .val (.int ((64 : Int32) >>> (((i2 &&& (2147483647 : Int32)) % (6 : Int32)) &&& 31))), .val (.int (own_v0_29 j0 i1 i2 i3)), .val (.int (own_j0_42_S0 j0 i1 i2 i3)), .val (.long (own_v0_50 j0 i1 i2 i3)), .second, .val (.long (own_v0_57 j0 i1 i2 i3)), .second, .val (.ref b5), .val (.long (own_v0_78 j0 i1 i2 i3)), .second, .val (.int (own_v0_85 j0 i1 i2 i3)), .val (.long (own_v0_94 j0 i1 i2 i3)), .second, .val (.int (own_j0_133_L20 j0 i1 i2 i3)), .val (.long (own_j0_143_S0 j0 i1 i2 i3)), .second, .val (.int (own_j0_164_S0 j0 i1 i2 i3)), .unset] [(.long (own_v0_78 j0 i1 i2 i3))])) _
            refine XS.iload XJ18.here hx rfl (hb hby at_168) rfl ?_
            show Steps p.tables e below (TJ18.setTop (mkF m 170 #[.val (.long j0), .second, .val (.int i1), .val (.int i2), .val (.int i3), .val (.int ((i2 &&& (2147483647 : Int32)) % (6 : Int32))), .val (.int (own_v0_13 j0 i1 i2 i3)), .val (.int ((64 : Int32) >>> (((i2 &&& (2147483647 : Int32)) % (6 : Int32)) &&& 31))), .val (.int (own_v0_29 j0 i1 i2 i3)), .val (.int (own_j0_42_S0 j0 i1 i2 i3)), .val (.long (own_v0_50 j0 i1 i2 i3)), .second, .val (.long (own_v0_57 j0 i1 i2 i3)), .second, .val (.ref b5), .val (.long (own_v0_78 j0 i1 i2 i3)), .second, .val (.int (own_v0_85 j0 i1 i2 i3)), .val (.long (own_v0_94 j0 i1 i2 i3)), .second, .val (.int (own_j0_133_L20 j0 i1 i2 i3)), .val (.long (own_j0_143_S0 j0 i1 i2 i3)), .second, .val (.int (own_j0_164_S0 j0 i1 i2 i3)), .unset] [(.int (own_v0_85 j0 i1 i2 i3)), (.long (own_v0_78 j0 i1 i2 i3))])) _
            refine XS.lushr XJ18.here hx rfl (hb hby at_170) rfl ?_
            show Steps p.tables e below (TJ18.setTop (mkF m 171 #[.val (.long j0), .second, .val (.int i1), .val (.int i2), .val (.int i3), .val (.int ((i2 &&& (2147483647 : Int32)) % (6 : Int32))), .val (.int (own_v0_13 j0 i1 i2 i3)), .val (.int ((64 : Int32) >>> (((i2 &&& (2147483647 : Int32)) % (6 : Int32)) &&& 31))), .val (.int (own_v0_29 j0 i1 i2 i3)), .val (.int (own_j0_42_S0 j0 i1 i2 i3)), .val (.long (own_v0_50 j0 i1 i2 i3)), .second, .val (.long (own_v0_57 j0 i1 i2 i3)), .second, .val (.ref b5), .val (.long (own_v0_78 j0 i1 i2 i3)), .second, .val (.int (own_v0_85 j0 i1 i2 i3)), .val (.long (own_v0_94 j0 i1 i2 i3)), .second, .val (.int (own_j0_133_L20 j0 i1 i2 i3)), .val (.long (own_j0_143_S0 j0 i1 i2 i3)), .second, .val (.int (own_j0_164_S0 j0 i1 i2 i3)), .unset] [(.long (((own_v0_78 j0 i1 i2 i3).toUInt64 >>> ((own_v0_85 j0 i1 i2 i3) &&& 0x3f).toInt64.toUInt64).toInt64))])) _
            refine XS.lload XJ18.here hx rfl (hb hby at_171) rfl ?_
            show Steps p.tables e below (TJ18.setTop (mkF m 173 #[.val (.long j0), .second, .val (.int i1), .val (.int i2), .val (.int i3), .val (.int ((i2 &&& (2147483647 : Int32)) % (6 : Int32))), .val (.int (own_v0_13 j0 i1 i2 i3)), .val (.int ((64 : Int32) >>> (((i2 &&& (2147483647 : Int32)) % (6 : Int32)) &&& 31))), .val (.int (own_v0_29 j0 i1 i2 i3)), .val (.int (own_j0_42_S0 j0 i1 i2 i3)), .val (.long (own_v0_50 j0 i1 i2 i3)), .second, .val (.long (own_v0_57 j0 i1 i2 i3)), .second, .val (.ref b5), .val (.long (own_v0_78 j0 i1 i2 i3)), .second, .val (.int (own_v0_85 j0 i1 i2 i3)), .val (.long (own_v0_94 j0 i1 i2 i3)), .second, .val (.int (own_j0_133_L20 j0 i1 i2 i3)), .val (.long (own_j0_143_S0 j0 i1 i2 i3)), .second, .val (.int (own_j0_164_S0 j0 i1 i2 i3)), .unset] [(.long (own_v0_50 j0 i1 i2 i3)), (.long (((own_v0_78 j0 i1 i2 i3).toUInt64 >>> ((own_v0_85 j0 i1 i2 i3) &&& 0x3f).toInt64.toUInt64).toInt64))])) _
            refine XS.land XJ18.here hx rfl (hb hby at_173) rfl ?_
            show Steps p.tables e below (TJ18.setTop (mkF m 174 #[.val (.long j0), .second, .val (.int i1), .val (.int i2), .val (.int i3), .val (.int ((i2 &&& (2147483647 : Int32)) % (6 : Int32))), .val (.int (own_v0_13 j0 i1 i2 i3)), .val (.int ((64 : Int32) >>> (((i2 &&& (2147483647 : Int32)) % (6 : Int32)) &&& 31))), .val (.int (own_v0_29 j0 i1 i2 i3)), .val (.int (own_j0_42_S0 j0 i1 i2 i3)), .val (.long (own_v0_50 j0 i1 i2 i3)), .second, .val (.long (own_v0_57 j0 i1 i2 i3)), .second, .val (.ref b5), .val (.long (own_v0_78 j0 i1 i2 i3)), .second, .val (.int (own_v0_85 j0 i1 i2 i3)), .val (.long (own_v0_94 j0 i1 i2 i3)), .second, .val (.int (own_j0_133_L20 j0 i1 i2 i3)), .val (.long (own_j0_143_S0 j0 i1 i2 i3)), .second, .val (.int (own_j0_164_S0 j0 i1 i2 i3)), .unset] [(.long ((((own_v0_78 j0 i1 i2 i3).toUInt64 >>> ((own_v0_85 j0 i1 i2 i3) &&& 0x3f).toInt64.toUInt64).toInt64) &&& (own_v0_50 j0 i1 i2 i3)))])) _
            refine XS.lload XJ18.here hx rfl (hb hby at_174) rfl ?_
            show Steps p.tables e below (TJ18.setTop (mkF m 176 #[.val (.long j0), .second, .val (.int i1), .val (.int i2), .val (.int i3), .val (.int ((i2 &&& (2147483647 : Int32)) % (6 : Int32))), .val (.int (own_v0_13 j0 i1 i2 i3)), .val (.int ((64 : Int32) >>> (((i2 &&& (2147483647 : Int32)) % (6 : Int32)) &&& 31))), .val (.int (own_v0_29 j0 i1 i2 i3)), .val (.int (own_j0_42_S0 j0 i1 i2 i3)), .val (.long (own_v0_50 j0 i1 i2 i3)), .second, .val (.long (own_v0_57 j0 i1 i2 i3)), .second, .val (.ref b5), .val (.long (own_v0_78 j0 i1 i2 i3)), .second, .val (.int (own_v0_85 j0 i1 i2 i3)), .val (.long (own_v0_94 j0 i1 i2 i3)), .second, .val (.int (own_j0_133_L20 j0 i1 i2 i3)), .val (.long (own_j0_143_S0 j0 i1 i2 i3)), .second, .val (.int (own_j0_164_S0 j0 i1 i2 i3)), .unset] [(.long (own_j0_143_S0 j0 i1 i2 i3)), (.long ((((own_v0_78 j0 i1 i2 i3).toUInt64 >>> ((own_v0_85 j0 i1 i2 i3) &&& 0x3f).toInt64.toUInt64).toInt64) &&& (own_v0_50 j0 i1 i2 i3)))])) _
            refine XS.lcmp XJ18.here hx rfl (hb hby at_176) rfl ?_
            exact kt
          by_cases hc20 : ((((own_v0_78 j0 i1 i2 i3).toUInt64 >>> ((own_v0_85 j0 i1 i2 i3) &&& 0x3f).toInt64.toUInt64).toInt64) &&& (own_v0_50 j0 i1 i2 i3)) = (own_j0_143_S0 j0 i1 i2 i3)
          · -- pc 177
            refine ownE.go (T' := TJ18) (f' := (mkF m 180 #[.val (.long j0), .second, .val (.int i1), .val (.int i2), .val (.int i3), .val (.int ((i2 &&& (2147483647 : Int32)) % (6 : Int32))), .val (.int (own_v0_13 j0 i1 i2 i3)), .val (.int ((64 : Int32) >>> (((i2 &&& (2147483647 : Int32)) % (6 : Int32)) &&& 31))), .val (.int (own_v0_29 j0 i1 i2 i3)), .val (.int (own_j0_42_S0 j0 i1 i2 i3)), .val (.long (own_v0_50 j0 i1 i2 i3)), .second, .val (.long (own_v0_57 j0 i1 i2 i3)), .second, .val (.ref b5), .val (.long (own_v0_78 j0 i1 i2 i3)), .second, .val (.int (own_v0_85 j0 i1 i2 i3)), .val (.long (own_v0_94 j0 i1 i2 i3)), .second, .val (.int (own_j0_133_L20 j0 i1 i2 i3)), .val (.long (own_j0_143_S0 j0 i1 i2 i3)), .second, .val (.int (own_j0_164_S0 j0 i1 i2 i3)), .unset] [])) (fun t kt => XS.ifNo (g := (mkF m 177 #[.val (.long j0), .second, .val (.int i1), .val (.int i2), .val (.int i3), .val (.int ((i2 &&& (2147483647 : Int32)) % (6 : Int32))), .val (.int (own_v0_13 j0 i1 i2 i3)), .val (.int ((64 : Int32) >>> (((i2 &&& (2147483647 : Int32)) % (6 : Int32)) &&& 31))), .val (.int (own_v0_29 j0 i1 i2 i3)), .val (.int (own_j0_42_S0 j0 i1 i2 i3)), .val (.long (own_v0_50 j0 i1 i2 i3)), .second, .val (.long (own_v0_57 j0 i1 i2 i3)), .second, .val (.ref b5), .val (.long (own_v0_78 j0 i1 i2 i3)), .second, .val (.int (own_v0_85 j0 i1 i2 i3)), .val (.long (own_v0_94 j0 i1 i2 i3)), .second, .val (.int (own_j0_133_L20 j0 i1 i2 i3)), .val (.long (own_j0_143_S0 j0 i1 i2 i3)), .second, .val (.int (own_j0_164_S0 j0 i1 i2 i3)), .unset] [(.int (Jvm.Free.XT.cmpL ((((own_v0_78 j0 i1 i2 i3).toUInt64 >>> ((own_v0_85 j0 i1 i2 i3) &&& 0x3f).toInt64.toUInt64).toInt64) &&& (own_v0_50 j0 i1 i2 i3)) (own_j0_143_S0 j0 i1 i2 i3)))])) XJ18.here hx rfl (hb hby at_177) rfl (Jvm.Free.XT.ll_ne_f hc20) kt) ?_
            refine ownE.go (T' := TJ18) (f' := (mkF m 185 #[.val (.long j0), .second, .val (.int i1), .val (.int i2), .val (.int i3), .val (.int ((i2 &&& (2147483647 : Int32)) % (6 : Int32))), .val (.int (own_v0_13 j0 i1 i2 i3)), .val (.int ((64 : Int32) >>> (((i2 &&& (2147483647 : Int32)) % (6 : Int32)) &&& 31))), .val (.int (own_v0_29 j0 i1 i2 i3)), .val (.int (own_j0_42_S0 j0 i1 i2 i3)), .val (.long (own_v0_50 j0 i1 i2 i3)), .second, .val (.long (own_v0_57 j0 i1 i2 i3)), .second, .val (.ref b5), .val (.long (own_v0_78 j0 i1 i2 i3)), .second, .val (.int (own_v0_85 j0 i1 i2 i3)), .val (.long (own_v0_94 j0 i1 i2 i3)), .second, .val (.int (own_j0_133_L20 j0 i1 i2 i3)), .val (.long (own_j0_143_S0 j0 i1 i2 i3)), .second, .val (.int (own_j0_164_S0 j0 i1 i2 i3)), .unset] [(.int (1 : Int32))])) (fun t kt => ?_) ?_
            · show Steps p.tables e below (TJ18.setTop (mkF m 180 #[.val (.long j0), .second, .val (.int i1), .val (.int i2), .val (.int i3), .val (.int ((i2 &&& (2147483647 : Int32)) % (6 : Int32))), .val (.int (own_v0_13 j0 i1 i2 i3)), .val (.int ((64 : Int32) >>> (((i2 &&& (2147483647 : Int32)) % (6 : Int32)) &&& 31))), .val (.int (own_v0_29 j0 i1 i2 i3)), .val (.int (own_j0_42_S0 j0 i1 i2 i3)), .val (.long (own_v0_50 j0 i1 i2 i3)), .second, .val (.long (own_v0_57 j0 i1 i2 i3)), .second, .val (.ref b5), .val (.long (own_v0_78 j0 i1 i2 i3)), .second, .val (.int (own_v0_85 j0 i1 i2 i3)), .val (.long (own_v0_94 j0 i1 i2 i3)), .second, .val (.int (own_j0_133_L20 j0 i1 i2 i3)), .val (.long (own_j0_143_S0 j0 i1 i2 i3)), .second, .val (.int (own_j0_164_S0 j0 i1 i2 i3)), .unset] [])) _
              refine XS.iconst XJ18.here hx rfl (hb hby at_180) ?_
              show Steps p.tables e below (TJ18.setTop (mkF m 181 #[.val (.long j0), .second, .val (.int i1), .val (.int i2), .val (.int i3), .val (.int ((i2 &&& (2147483647 : Int32)) % (6 : Int32))), .val (.int (own_v0_13 j0 i1 i2 i3)), .val (.int ((64 : Int32) >>> (((i2 &&& (2147483647 : Int32)) % (6 : Int32)) &&& 31))), .val (.int (own_v0_29 j0 i1 i2 i3)), .val (.int (own_j0_42_S0 j0 i1 i2 i3)), .val (.long (own_v0_50 j0 i1 i2 i3)), .second, .val (.long (own_v0_57 j0 i1 i2 i3)), .second, .val (.ref b5), .val (.long (own_v0_78 j0 i1 i2 i3)), .second, .val (.int (own_v0_85 j0 i1 i2 i3)), .val (.long (own_v0_94 j0 i1 i2 i3)), .second, .val (.int (own_j0_133_L20 j0 i1 i2 i3)), .val (.long (own_j0_143_S0 j0 i1 i2 i3)), .second, .val (.int (own_j0_164_S0 j0 i1 i2 i3)), .unset] [(.int (1 : Int32))])) _
              refine XS.goto XJ18.here hx rfl (pc0 := 181) (pc' := 185) rfl (hb hby at_181) (by decide) (by decide) ?_
              exact kt
            have jj := J21 _ _ XJ18 eJ18 NJ18
            rw [show (own_j0_185_S0 j0 i1 i2 i3) = (1 : Int32) from by rw [own_j0_185_S0, if_pos hc20]] at jj
            exact jj
          · -- pc 177
            refine ownE.go (T' := TJ18) (f' := (mkF m 184 #[.val (.long j0), .second, .val (.int i1), .val (.int i2), .val (.int i3), .val (.int ((i2 &&& (2147483647 : Int32)) % (6 : Int32))), .val (.int (own_v0_13 j0 i1 i2 i3)), .val (.int ((64 : Int32) >>> (((i2 &&& (2147483647 : Int32)) % (6 : Int32)) &&& 31))), .val (.int (own_v0_29 j0 i1 i2 i3)), .val (.int (own_j0_42_S0 j0 i1 i2 i3)), .val (.long (own_v0_50 j0 i1 i2 i3)), .second, .val (.long (own_v0_57 j0 i1 i2 i3)), .second, .val (.ref b5), .val (.long (own_v0_78 j0 i1 i2 i3)), .second, .val (.int (own_v0_85 j0 i1 i2 i3)), .val (.long (own_v0_94 j0 i1 i2 i3)), .second, .val (.int (own_j0_133_L20 j0 i1 i2 i3)), .val (.long (own_j0_143_S0 j0 i1 i2 i3)), .second, .val (.int (own_j0_164_S0 j0 i1 i2 i3)), .unset] [])) (fun t kt => XS.ifYes (g := (mkF m 177 #[.val (.long j0), .second, .val (.int i1), .val (.int i2), .val (.int i3), .val (.int ((i2 &&& (2147483647 : Int32)) % (6 : Int32))), .val (.int (own_v0_13 j0 i1 i2 i3)), .val (.int ((64 : Int32) >>> (((i2 &&& (2147483647 : Int32)) % (6 : Int32)) &&& 31))), .val (.int (own_v0_29 j0 i1 i2 i3)), .val (.int (own_j0_42_S0 j0 i1 i2 i3)), .val (.long (own_v0_50 j0 i1 i2 i3)), .second, .val (.long (own_v0_57 j0 i1 i2 i3)), .second, .val (.ref b5), .val (.long (own_v0_78 j0 i1 i2 i3)), .second, .val (.int (own_v0_85 j0 i1 i2 i3)), .val (.long (own_v0_94 j0 i1 i2 i3)), .second, .val (.int (own_j0_133_L20 j0 i1 i2 i3)), .val (.long (own_j0_143_S0 j0 i1 i2 i3)), .second, .val (.int (own_j0_164_S0 j0 i1 i2 i3)), .unset] [(.int (Jvm.Free.XT.cmpL ((((own_v0_78 j0 i1 i2 i3).toUInt64 >>> ((own_v0_85 j0 i1 i2 i3) &&& 0x3f).toInt64.toUInt64).toInt64) &&& (own_v0_50 j0 i1 i2 i3)) (own_j0_143_S0 j0 i1 i2 i3)))])) XJ18.here hx rfl (pc0 := 177) (pc' := 184) rfl (hb hby at_177) rfl (Jvm.Free.XT.ll_ne_t hc20) (by decide) (by decide) kt) ?_
            refine ownE.go (T' := TJ18) (f' := (mkF m 185 #[.val (.long j0), .second, .val (.int i1), .val (.int i2), .val (.int i3), .val (.int ((i2 &&& (2147483647 : Int32)) % (6 : Int32))), .val (.int (own_v0_13 j0 i1 i2 i3)), .val (.int ((64 : Int32) >>> (((i2 &&& (2147483647 : Int32)) % (6 : Int32)) &&& 31))), .val (.int (own_v0_29 j0 i1 i2 i3)), .val (.int (own_j0_42_S0 j0 i1 i2 i3)), .val (.long (own_v0_50 j0 i1 i2 i3)), .second, .val (.long (own_v0_57 j0 i1 i2 i3)), .second, .val (.ref b5), .val (.long (own_v0_78 j0 i1 i2 i3)), .second, .val (.int (own_v0_85 j0 i1 i2 i3)), .val (.long (own_v0_94 j0 i1 i2 i3)), .second, .val (.int (own_j0_133_L20 j0 i1 i2 i3)), .val (.long (own_j0_143_S0 j0 i1 i2 i3)), .second, .val (.int (own_j0_164_S0 j0 i1 i2 i3)), .unset] [(.int (0 : Int32))])) (fun t kt => ?_) ?_
            · show Steps p.tables e below (TJ18.setTop (mkF m 184 #[.val (.long j0), .second, .val (.int i1), .val (.int i2), .val (.int i3), .val (.int ((i2 &&& (2147483647 : Int32)) % (6 : Int32))), .val (.int (own_v0_13 j0 i1 i2 i3)), .val (.int ((64 : Int32) >>> (((i2 &&& (2147483647 : Int32)) % (6 : Int32)) &&& 31))), .val (.int (own_v0_29 j0 i1 i2 i3)), .val (.int (own_j0_42_S0 j0 i1 i2 i3)), .val (.long (own_v0_50 j0 i1 i2 i3)), .second, .val (.long (own_v0_57 j0 i1 i2 i3)), .second, .val (.ref b5), .val (.long (own_v0_78 j0 i1 i2 i3)), .second, .val (.int (own_v0_85 j0 i1 i2 i3)), .val (.long (own_v0_94 j0 i1 i2 i3)), .second, .val (.int (own_j0_133_L20 j0 i1 i2 i3)), .val (.long (own_j0_143_S0 j0 i1 i2 i3)), .second, .val (.int (own_j0_164_S0 j0 i1 i2 i3)), .unset] [])) _
              refine XS.iconst XJ18.here hx rfl (hb hby at_184) ?_
              exact kt
            have jj := J21 _ _ XJ18 eJ18 NJ18
            rw [show (own_j0_185_S0 j0 i1 i2 i3) = (0 : Int32) from by rw [own_j0_185_S0, if_neg hc20]] at jj
            exact jj
        refine ownE.go (T' := TJ15) (f' := (mkF m 156 #[.val (.long j0), .second, .val (.int i1), .val (.int i2), .val (.int i3), .val (.int ((i2 &&& (2147483647 : Int32)) % (6 : Int32))), .val (.int (own_v0_13 j0 i1 i2 i3)), .val (.int ((64 : Int32) >>> (((i2 &&& (2147483647 : Int32)) % (6 : Int32)) &&& 31))), .val (.int (own_v0_29 j0 i1 i2 i3)), .val (.int (own_j0_42_S0 j0 i1 i2 i3)), .val (.long (own_v0_50 j0 i1 i2 i3)), .second, .val (.long (own_v0_57 j0 i1 i2 i3)), .second, .val (.ref b5), .val (.long (own_v0_78 j0 i1 i2 i3)), .second, .val (.int (own_v0_85 j0 i1 i2 i3)), .val (.long (own_v0_94 j0 i1 i2 i3)), .second, .val (.int (own_j0_133_L20 j0 i1 i2 i3)), .val (.long (own_j0_143_S0 j0 i1 i2 i3)), .second, .unset, .unset] [(.int (Jvm.Free.XT.cmpL ((own_v0_78 j0 i1 i2 i3) &&& ((own_v0_57 j0 i1 i2 i3) ^^^ (-1 : Int64))) (0 : Int64)))])) (fun t kt => ?_) ?_
        · show Steps p.tables e below (TJ15.setTop (mkF m 145 #[.val (.long j0), .second, .val (.int i1), .val (.int i2), .val (.int i3), .val (.int ((i2 &&& (2147483647 : Int32)) % (6 : Int32))), .val (.int (own_v0_13 j0 i1 i2 i3)), .val (.int ((64 : Int32) >>> (((i2 &&& (2147483647 : Int32)) % (6 : Int32)) &&& 31))), .val (.int (own_v0_29 j0 i1 i2 i3)), .val (.int (own_j0_42_S0 j0 i1 i2 i3)), .val (.long (own_v0_50 j0 i1 i2 i3)), .second, .val (.long (own_v0_57 j0 i1 i2 i3)), .second, .val (.ref b5), .val (.long (own_v0_78 j0 i1 i2 i3)), .second, .val (.int (own_v0_85 j0 i1 i2 i3)), .val (.long (own_v0_94 j0 i1 i2 i3)), .second, .val (.int (own_j0_133_L20 j0 i1 i2 i3)), .val (.long (own_j0_143_S0 j0 i1 i2 i3)), .second, .unset, .unset] [])) _
          refine XS.lload XJ15.here hx rfl (hb hby at_145) rfl ?_
          show Steps p.tables e below (TJ15.setTop (mkF m 147 #[.val (.long j0), .second, .val (.int i1), .val (.int i2), .val (.int i3), .val (.int ((i2 &&& (2147483647 : Int32)) % (6 : Int32))), .val (.int (own_v0_13 j0 i1 i2 i3)), .val (.int ((64 : Int32) >>> (((i2 &&& (2147483647 : Int32)) % (6 : Int32)) &&& 31))), .val (.int (own_v0_29 j0 i1 i2 i3)), .val (.int (own_j0_42_S0 j0 i1 i2 i3)), .val (.long (own_v0_50 j0 i1 i2 i3)), .second, .val (.long (own_v0_57 j0 i1 i2 i3)), .second, .val (.ref b5), .val (.long (own_v0_78 j0 i1 i2 i3)), .second, .val (.int (own_v0_85 j0 i1 i2 i3)), .val (.long (own_v0_94 j0 i1 i2 i3)), .second, .val (.int (own_j0_133_L20 j0 i1 i2 i3)), .val (.long (own_j0_143_S0 j0 i1 i2 i3)), .second, .unset, .unset] [(.long (own_v0_78 j0 i1 i2 i3))])) _
          refine XS.lload XJ15.here hx rfl (hb hby at_147) rfl ?_
          show Steps p.tables e below (TJ15.setTop (mkF m 149 #[.val (.long j0), .second, .val (.int i1), .val (.int i2), .val (.int i3), .val (.int ((i2 &&& (2147483647 : Int32)) % (6 : Int32))), .val (.int (own_v0_13 j0 i1 i2 i3)), .val (.int ((64 : Int32) >>> (((i2 &&& (2147483647 : Int32)) % (6 : Int32)) &&& 31))), .val (.int (own_v0_29 j0 i1 i2 i3)), .val (.int (own_j0_42_S0 j0 i1 i2 i3)), .val (.long (own_v0_50 j0 i1 i2 i3)), .second, .val (.long (own_v0_57 j0 i1 i2 i3)), .second, .val (.ref b5), .val (.long (own_v0_78 j0 i1 i2 i3)), .second, .val (.int (own_v0_85 j0 i1 i2 i3)), .val (.long (own_v0_94 j0 i1 i2 i3)), .second, .val (.int (own_j0_133_L20 j0 i1 i2 i3)), .val (.long (own_j0_143_S0 j0 i1 i2 i3)), .second, .unset, .unset] [(.long (own_v0_57 j0 i1 i2 i3)), (.long (own_v0_78 j0 i1 i2 i3))])) _
          refine XJ15.ldc2Long hx hown (mvT hZ (hw _ (List.mem_of_getElem? (i := 34) rfl))) (g := (mkF m 149 #[.val (.long j0), .second, .val (.int i1), .val (.int i2), .val (.int i3), .val (.int ((i2 &&& (2147483647 : Int32)) % (6 : Int32))), .val (.int (own_v0_13 j0 i1 i2 i3)), .val (.int ((64 : Int32) >>> (((i2 &&& (2147483647 : Int32)) % (6 : Int32)) &&& 31))), .val (.int (own_v0_29 j0 i1 i2 i3)), .val (.int (own_j0_42_S0 j0 i1 i2 i3)), .val (.long (own_v0_50 j0 i1 i2 i3)), .second, .val (.long (own_v0_57 j0 i1 i2 i3)), .second, .val (.ref b5), .val (.long (own_v0_78 j0 i1 i2 i3)), .second, .val (.int (own_v0_85 j0 i1 i2 i3)), .val (.long (own_v0_94 j0 i1 i2 i3)), .second, .val (.int (own_j0_133_L20 j0 i1 i2 i3)), .val (.long (own_j0_143_S0 j0 i1 i2 i3)), .second, .unset, .unset] [(.long (own_v0_57 j0 i1 i2 i3)), (.long (own_v0_78 j0 i1 i2 i3))])) rfl (hb hby at_149) _ ?_
          show Steps p.tables e below (TJ15.setTop (mkF m 152 #[.val (.long j0), .second, .val (.int i1), .val (.int i2), .val (.int i3), .val (.int ((i2 &&& (2147483647 : Int32)) % (6 : Int32))), .val (.int (own_v0_13 j0 i1 i2 i3)), .val (.int ((64 : Int32) >>> (((i2 &&& (2147483647 : Int32)) % (6 : Int32)) &&& 31))), .val (.int (own_v0_29 j0 i1 i2 i3)), .val (.int (own_j0_42_S0 j0 i1 i2 i3)), .val (.long (own_v0_50 j0 i1 i2 i3)), .second, .val (.long (own_v0_57 j0 i1 i2 i3)), .second, .val (.ref b5), .val (.long (own_v0_78 j0 i1 i2 i3)), .second, .val (.int (own_v0_85 j0 i1 i2 i3)), .val (.long (own_v0_94 j0 i1 i2 i3)), .second, .val (.int (own_j0_133_L20 j0 i1 i2 i3)), .val (.long (own_j0_143_S0 j0 i1 i2 i3)), .second, .unset, .unset] [(.long (-1 : Int64)), (.long (own_v0_57 j0 i1 i2 i3)), (.long (own_v0_78 j0 i1 i2 i3))])) _
          refine XS.lxor XJ15.here hx rfl (hb hby at_152) rfl ?_
          show Steps p.tables e below (TJ15.setTop (mkF m 153 #[.val (.long j0), .second, .val (.int i1), .val (.int i2), .val (.int i3), .val (.int ((i2 &&& (2147483647 : Int32)) % (6 : Int32))), .val (.int (own_v0_13 j0 i1 i2 i3)), .val (.int ((64 : Int32) >>> (((i2 &&& (2147483647 : Int32)) % (6 : Int32)) &&& 31))), .val (.int (own_v0_29 j0 i1 i2 i3)), .val (.int (own_j0_42_S0 j0 i1 i2 i3)), .val (.long (own_v0_50 j0 i1 i2 i3)), .second, .val (.long (own_v0_57 j0 i1 i2 i3)), .second, .val (.ref b5), .val (.long (own_v0_78 j0 i1 i2 i3)), .second, .val (.int (own_v0_85 j0 i1 i2 i3)), .val (.long (own_v0_94 j0 i1 i2 i3)), .second, .val (.int (own_j0_133_L20 j0 i1 i2 i3)), .val (.long (own_j0_143_S0 j0 i1 i2 i3)), .second, .unset, .unset] [(.long ((own_v0_57 j0 i1 i2 i3) ^^^ (-1 : Int64))), (.long (own_v0_78 j0 i1 i2 i3))])) _
          refine XS.land XJ15.here hx rfl (hb hby at_153) rfl ?_
          show Steps p.tables e below (TJ15.setTop (mkF m 154 #[.val (.long j0), .second, .val (.int i1), .val (.int i2), .val (.int i3), .val (.int ((i2 &&& (2147483647 : Int32)) % (6 : Int32))), .val (.int (own_v0_13 j0 i1 i2 i3)), .val (.int ((64 : Int32) >>> (((i2 &&& (2147483647 : Int32)) % (6 : Int32)) &&& 31))), .val (.int (own_v0_29 j0 i1 i2 i3)), .val (.int (own_j0_42_S0 j0 i1 i2 i3)), .val (.long (own_v0_50 j0 i1 i2 i3)), .second, .val (.long (own_v0_57 j0 i1 i2 i3)), .second, .val (.ref b5), .val (.long (own_v0_78 j0 i1 i2 i3)), .second, .val (.int (own_v0_85 j0 i1 i2 i3)), .val (.long (own_v0_94 j0 i1 i2 i3)), .second, .val (.int (own_j0_133_L20 j0 i1 i2 i3)), .val (.long (own_j0_143_S0 j0 i1 i2 i3)), .second, .unset, .unset] [(.long ((own_v0_78 j0 i1 i2 i3) &&& ((own_v0_57 j0 i1 i2 i3) ^^^ (-1 : Int64))))])) _
          refine XS.lconst XJ15.here hx rfl (hb hby at_154) ?_
          show Steps p.tables e below (TJ15.setTop (mkF m 155 #[.val (.long j0), .second, .val (.int i1), .val (.int i2), .val (.int i3), .val (.int ((i2 &&& (2147483647 : Int32)) % (6 : Int32))), .val (.int (own_v0_13 j0 i1 i2 i3)), .val (.int ((64 : Int32) >>> (((i2 &&& (2147483647 : Int32)) % (6 : Int32)) &&& 31))), .val (.int (own_v0_29 j0 i1 i2 i3)), .val (.int (own_j0_42_S0 j0 i1 i2 i3)), .val (.long (own_v0_50 j0 i1 i2 i3)), .second, .val (.long (own_v0_57 j0 i1 i2 i3)), .second, .val (.ref b5), .val (.long (own_v0_78 j0 i1 i2 i3)), .second, .val (.int (own_v0_85 j0 i1 i2 i3)), .val (.long (own_v0_94 j0 i1 i2 i3)), .second, .val (.int (own_j0_133_L20 j0 i1 i2 i3)), .val (.long (own_j0_143_S0 j0 i1 i2 i3)), .second, .unset, .unset] [(.long (0 : Int64)), (.long ((own_v0_78 j0 i1 i2 i3) &&& ((own_v0_57 j0 i1 i2 i3) ^^^ (-1 : Int64))))])) _
          refine XS.lcmp XJ15.here hx rfl (hb hby at_155) rfl ?_
          exact kt
        by_cases hc17 : ((own_v0_78 j0 i1 i2 i3) &&& ((own_v0_57 j0 i1 i2 i3) ^^^ (-1 : Int64))) = (0 : Int64)
        · -- pc 156
          refine ownE.go (T' := TJ15) (f' := (mkF m 159 #[.val (.long j0), .second, .val (.int i1), .val (.int i2), .val (.int i3), .val (.int ((i2 &&& (2147483647 : Int32)) % (6 : Int32))), .val (.int (own_v0_13 j0 i1 i2 i3)), .val (.int ((64 : Int32) >>> (((i2 &&& (2147483647 : Int32)) % (6 : Int32)) &&& 31))), .val (.int (own_v0_29 j0 i1 i2 i3)), .val (.int (own_j0_42_S0 j0 i1 i2 i3)), .val (.long (own_v0_50 j0 i1 i2 i3)), .second, .val (.long (own_v0_57 j0 i1 i2 i3)), .second, .val (.ref b5), .val (.long (own_v0_78 j0 i1 i2 i3)), .second, .val (.int (own_v0_85 j0 i1 i2 i3)), .val (.long (own_v0_94 j0 i1 i2 i3)), .second, .val (.int (own_j0_133_L20 j0 i1 i2 i3)), .val (.long (own_j0_143_S0 j0 i1 i2 i3)), .second, .unset, .unset] [])) (fun t kt => XS.ifNo (g := (mkF m 156 #[.val (.long j0), .second, .val (.int i1), .val (.int i2), .val (.int i3), .val (.int ((i2 &&& (2147483647 : Int32)) % (6 : Int32))), .val (.int (own_v0_13 j0 i1 i2 i3)), .val (.int ((64 : Int32) >>> (((i2 &&& (2147483647 : Int32)) % (6 : Int32)) &&& 31))), .val (.int (own_v0_29 j0 i1 i2 i3)), .val (.int (own_j0_42_S0 j0 i1 i2 i3)), .val (.long (own_v0_50 j0 i1 i2 i3)), .second, .val (.long (own_v0_57 j0 i1 i2 i3)), .second, .val (.ref b5), .val (.long (own_v0_78 j0 i1 i2 i3)), .second, .val (.int (own_v0_85 j0 i1 i2 i3)), .val (.long (own_v0_94 j0 i1 i2 i3)), .second, .val (.int (own_j0_133_L20 j0 i1 i2 i3)), .val (.long (own_j0_143_S0 j0 i1 i2 i3)), .second, .unset, .unset] [(.int (Jvm.Free.XT.cmpL ((own_v0_78 j0 i1 i2 i3) &&& ((own_v0_57 j0 i1 i2 i3) ^^^ (-1 : Int64))) (0 : Int64)))])) XJ15.here hx rfl (hb hby at_156) rfl (Jvm.Free.XT.ll_ne_f hc17) kt) ?_
          refine ownE.go (T' := TJ15) (f' := (mkF m 164 #[.val (.long j0), .second, .val (.int i1), .val (.int i2), .val (.int i3), .val (.int ((i2 &&& (2147483647 : Int32)) % (6 : Int32))), .val (.int (own_v0_13 j0 i1 i2 i3)), .val (.int ((64 : Int32) >>> (((i2 &&& (2147483647 : Int32)) % (6 : Int32)) &&& 31))), .val (.int (own_v0_29 j0 i1 i2 i3)), .val (.int (own_j0_42_S0 j0 i1 i2 i3)), .val (.long (own_v0_50 j0 i1 i2 i3)), .second, .val (.long (own_v0_57 j0 i1 i2 i3)), .second, .val (.ref b5), .val (.long (own_v0_78 j0 i1 i2 i3)), .second, .val (.int (own_v0_85 j0 i1 i2 i3)), .val (.long (own_v0_94 j0 i1 i2 i3)), .second, .val (.int (own_j0_133_L20 j0 i1 i2 i3)), .val (.long (own_j0_143_S0 j0 i1 i2 i3)), .second, .unset, .unset] [(.int (1 : Int32))])) (fun t kt => ?_) ?_
          · show Steps p.tables e below (TJ15.setTop (mkF m 159 #[.val (.long j0), .second, .val (.int i1), .val (.int i2), .val (.int i3), .val (.int ((i2 &&& (2147483647 : Int32)) % (6 : Int32))), .val (.int (own_v0_13 j0 i1 i2 i3)), .val (.int ((64 : Int32) >>> (((i2 &&& (2147483647 : Int32)) % (6 : Int32)) &&& 31))), .val (.int (own_v0_29 j0 i1 i2 i3)), .val (.int (own_j0_42_S0 j0 i1 i2 i3)), .val (.long (own_v0_50 j0 i1 i2 i3)), .second, .val (.long (own_v0_57 j0 i1 i2 i3)), .second, .val (.ref b5), .val (.long (own_v0_78 j0 i1 i2 i3)), .second, .val (.int (own_v0_85 j0 i1 i2 i3)), .val (.long (own_v0_94 j0 i1 i2 i3)), .second, .val (.int (own_j0_133_L20 j0 i1 i2 i3)), .val (.long (own_j0_143_S0 j0 i1 i2 i3)), .second, .unset, .unset] [])) _
            refine XS.iconst XJ15.here hx rfl (hb hby at_159) ?_
            show Steps p.tables e below (TJ15.setTop (mkF m 160 #[.val (.long j0), .second, .val (.int i1), .val (.int i2), .val (.int i3), .val (.int ((i2 &&& (2147483647 : Int32)) % (6 : Int32))), .val (.int (own_v0_13 j0 i1 i2 i3)), .val (.int ((64 : Int32) >>> (((i2 &&& (2147483647 : Int32)) % (6 : Int32)) &&& 31))), .val (.int (own_v0_29 j0 i1 i2 i3)), .val (.int (own_j0_42_S0 j0 i1 i2 i3)), .val (.long (own_v0_50 j0 i1 i2 i3)), .second, .val (.long (own_v0_57 j0 i1 i2 i3)), .second, .val (.ref b5), .val (.long (own_v0_78 j0 i1 i2 i3)), .second, .val (.int (own_v0_85 j0 i1 i2 i3)), .val (.long (own_v0_94 j0 i1 i2 i3)), .second, .val (.int (own_j0_133_L20 j0 i1 i2 i3)), .val (.long (own_j0_143_S0 j0 i1 i2 i3)), .second, .unset, .unset] [(.int (1 : Int32))])) _
            refine XS.goto XJ15.here hx rfl (pc0 := 160) (pc' := 164) rfl (hb hby at_160) (by decide) (by decide) ?_
            exact kt
          have jj := J18 _ _ XJ15 eJ15 NJ15
          rw [show (own_j0_164_S0 j0 i1 i2 i3) = (1 : Int32) from by rw [own_j0_164_S0, if_pos hc17]] at jj
          exact jj
        · -- pc 156
          refine ownE.go (T' := TJ15) (f' := (mkF m 163 #[.val (.long j0), .second, .val (.int i1), .val (.int i2), .val (.int i3), .val (.int ((i2 &&& (2147483647 : Int32)) % (6 : Int32))), .val (.int (own_v0_13 j0 i1 i2 i3)), .val (.int ((64 : Int32) >>> (((i2 &&& (2147483647 : Int32)) % (6 : Int32)) &&& 31))), .val (.int (own_v0_29 j0 i1 i2 i3)), .val (.int (own_j0_42_S0 j0 i1 i2 i3)), .val (.long (own_v0_50 j0 i1 i2 i3)), .second, .val (.long (own_v0_57 j0 i1 i2 i3)), .second, .val (.ref b5), .val (.long (own_v0_78 j0 i1 i2 i3)), .second, .val (.int (own_v0_85 j0 i1 i2 i3)), .val (.long (own_v0_94 j0 i1 i2 i3)), .second, .val (.int (own_j0_133_L20 j0 i1 i2 i3)), .val (.long (own_j0_143_S0 j0 i1 i2 i3)), .second, .unset, .unset] [])) (fun t kt => XS.ifYes (g := (mkF m 156 #[.val (.long j0), .second, .val (.int i1), .val (.int i2), .val (.int i3), .val (.int ((i2 &&& (2147483647 : Int32)) % (6 : Int32))), .val (.int (own_v0_13 j0 i1 i2 i3)), .val (.int ((64 : Int32) >>> (((i2 &&& (2147483647 : Int32)) % (6 : Int32)) &&& 31))), .val (.int (own_v0_29 j0 i1 i2 i3)), .val (.int (own_j0_42_S0 j0 i1 i2 i3)), .val (.long (own_v0_50 j0 i1 i2 i3)), .second, .val (.long (own_v0_57 j0 i1 i2 i3)), .second, .val (.ref b5), .val (.long (own_v0_78 j0 i1 i2 i3)), .second, .val (.int (own_v0_85 j0 i1 i2 i3)), .val (.long (own_v0_94 j0 i1 i2 i3)), .second, .val (.int (own_j0_133_L20 j0 i1 i2 i3)), .val (.long (own_j0_143_S0 j0 i1 i2 i3)), .second, .unset, .unset] [(.int (Jvm.Free.XT.cmpL ((own_v0_78 j0 i1 i2 i3) &&& ((own_v0_57 j0 i1 i2 i3) ^^^ (-1 : Int64))) (0 : Int64)))])) XJ15.here hx rfl (pc0 := 156) (pc' := 163) rfl (hb hby at_156) rfl (Jvm.Free.XT.ll_ne_t hc17) (by decide) (by decide) kt) ?_
          refine ownE.go (T' := TJ15) (f' := (mkF m 164 #[.val (.long j0), .second, .val (.int i1), .val (.int i2), .val (.int i3), .val (.int ((i2 &&& (2147483647 : Int32)) % (6 : Int32))), .val (.int (own_v0_13 j0 i1 i2 i3)), .val (.int ((64 : Int32) >>> (((i2 &&& (2147483647 : Int32)) % (6 : Int32)) &&& 31))), .val (.int (own_v0_29 j0 i1 i2 i3)), .val (.int (own_j0_42_S0 j0 i1 i2 i3)), .val (.long (own_v0_50 j0 i1 i2 i3)), .second, .val (.long (own_v0_57 j0 i1 i2 i3)), .second, .val (.ref b5), .val (.long (own_v0_78 j0 i1 i2 i3)), .second, .val (.int (own_v0_85 j0 i1 i2 i3)), .val (.long (own_v0_94 j0 i1 i2 i3)), .second, .val (.int (own_j0_133_L20 j0 i1 i2 i3)), .val (.long (own_j0_143_S0 j0 i1 i2 i3)), .second, .unset, .unset] [(.int (0 : Int32))])) (fun t kt => ?_) ?_
          · show Steps p.tables e below (TJ15.setTop (mkF m 163 #[.val (.long j0), .second, .val (.int i1), .val (.int i2), .val (.int i3), .val (.int ((i2 &&& (2147483647 : Int32)) % (6 : Int32))), .val (.int (own_v0_13 j0 i1 i2 i3)), .val (.int ((64 : Int32) >>> (((i2 &&& (2147483647 : Int32)) % (6 : Int32)) &&& 31))), .val (.int (own_v0_29 j0 i1 i2 i3)), .val (.int (own_j0_42_S0 j0 i1 i2 i3)), .val (.long (own_v0_50 j0 i1 i2 i3)), .second, .val (.long (own_v0_57 j0 i1 i2 i3)), .second, .val (.ref b5), .val (.long (own_v0_78 j0 i1 i2 i3)), .second, .val (.int (own_v0_85 j0 i1 i2 i3)), .val (.long (own_v0_94 j0 i1 i2 i3)), .second, .val (.int (own_j0_133_L20 j0 i1 i2 i3)), .val (.long (own_j0_143_S0 j0 i1 i2 i3)), .second, .unset, .unset] [])) _
            refine XS.iconst XJ15.here hx rfl (hb hby at_163) ?_
            exact kt
          have jj := J18 _ _ XJ15 eJ15 NJ15
          rw [show (own_j0_164_S0 j0 i1 i2 i3) = (0 : Int32) from by rw [own_j0_164_S0, if_neg hc17]] at jj
          exact jj
      refine ownE.go (T' := TJ12) (f' := (mkF m 135 #[.val (.long j0), .second, .val (.int i1), .val (.int i2), .val (.int i3), .val (.int ((i2 &&& (2147483647 : Int32)) % (6 : Int32))), .val (.int (own_v0_13 j0 i1 i2 i3)), .val (.int ((64 : Int32) >>> (((i2 &&& (2147483647 : Int32)) % (6 : Int32)) &&& 31))), .val (.int (own_v0_29 j0 i1 i2 i3)), .val (.int (own_j0_42_S0 j0 i1 i2 i3)), .val (.long (own_v0_50 j0 i1 i2 i3)), .second, .val (.long (own_v0_57 j0 i1 i2 i3)), .second, .val (.ref b5), .val (.long (own_v0_78 j0 i1 i2 i3)), .second, .val (.int (own_v0_85 j0 i1 i2 i3)), .val (.long (own_v0_94 j0 i1 i2 i3)), .second, .val (.int (own_j0_133_L20 j0 i1 i2 i3)), .unset, .unset, .unset, .unset] [(.int (own_j0_133_L20 j0 i1 i2 i3))])) (fun t kt => ?_) ?_
      · show Steps p.tables e below (TJ12.setTop (mkF m 133 #[.val (.long j0), .second, .val (.int i1), .val (.int i2), .val (.int i3), .val (.int ((i2 &&& (2147483647 : Int32)) % (6 : Int32))), .val (.int (own_v0_13 j0 i1 i2 i3)), .val (.int ((64 : Int32) >>> (((i2 &&& (2147483647 : Int32)) % (6 : Int32)) &&& 31))), .val (.int (own_v0_29 j0 i1 i2 i3)), .val (.int (own_j0_42_S0 j0 i1 i2 i3)), .val (.long (own_v0_50 j0 i1 i2 i3)), .second, .val (.long (own_v0_57 j0 i1 i2 i3)), .second, .val (.ref b5), .val (.long (own_v0_78 j0 i1 i2 i3)), .second, .val (.int (own_v0_85 j0 i1 i2 i3)), .val (.long (own_v0_94 j0 i1 i2 i3)), .second, .val (.int (own_j0_133_L20 j0 i1 i2 i3)), .unset, .unset, .unset, .unset] [])) _
        refine XS.iload XJ12.here hx rfl (hb hby at_133) rfl ?_
        exact kt
      by_cases hc14 : (own_j0_133_L20 j0 i1 i2 i3) = (0 : Int32)
      · -- pc 135
        refine ownE.go (T' := TJ12) (f' := (mkF m 142 #[.val (.long j0), .second, .val (.int i1), .val (.int i2), .val (.int i3), .val (.int ((i2 &&& (2147483647 : Int32)) % (6 : Int32))), .val (.int (own_v0_13 j0 i1 i2 i3)), .val (.int ((64 : Int32) >>> (((i2 &&& (2147483647 : Int32)) % (6 : Int32)) &&& 31))), .val (.int (own_v0_29 j0 i1 i2 i3)), .val (.int (own_j0_42_S0 j0 i1 i2 i3)), .val (.long (own_v0_50 j0 i1 i2 i3)), .second, .val (.long (own_v0_57 j0 i1 i2 i3)), .second, .val (.ref b5), .val (.long (own_v0_78 j0 i1 i2 i3)), .second, .val (.int (own_v0_85 j0 i1 i2 i3)), .val (.long (own_v0_94 j0 i1 i2 i3)), .second, .val (.int (own_j0_133_L20 j0 i1 i2 i3)), .unset, .unset, .unset, .unset] [])) (fun t kt => XS.ifYes (g := (mkF m 135 #[.val (.long j0), .second, .val (.int i1), .val (.int i2), .val (.int i3), .val (.int ((i2 &&& (2147483647 : Int32)) % (6 : Int32))), .val (.int (own_v0_13 j0 i1 i2 i3)), .val (.int ((64 : Int32) >>> (((i2 &&& (2147483647 : Int32)) % (6 : Int32)) &&& 31))), .val (.int (own_v0_29 j0 i1 i2 i3)), .val (.int (own_j0_42_S0 j0 i1 i2 i3)), .val (.long (own_v0_50 j0 i1 i2 i3)), .second, .val (.long (own_v0_57 j0 i1 i2 i3)), .second, .val (.ref b5), .val (.long (own_v0_78 j0 i1 i2 i3)), .second, .val (.int (own_v0_85 j0 i1 i2 i3)), .val (.long (own_v0_94 j0 i1 i2 i3)), .second, .val (.int (own_j0_133_L20 j0 i1 i2 i3)), .unset, .unset, .unset, .unset] [(.int (own_j0_133_L20 j0 i1 i2 i3))])) XJ12.here hx rfl (pc0 := 135) (pc' := 142) rfl (hb hby at_135) rfl (Jvm.Free.XT.i0_eq_t hc14) (by decide) (by decide) kt) ?_
        refine ownE.go (T' := TJ12) (f' := (mkF m 143 #[.val (.long j0), .second, .val (.int i1), .val (.int i2), .val (.int i3), .val (.int ((i2 &&& (2147483647 : Int32)) % (6 : Int32))), .val (.int (own_v0_13 j0 i1 i2 i3)), .val (.int ((64 : Int32) >>> (((i2 &&& (2147483647 : Int32)) % (6 : Int32)) &&& 31))), .val (.int (own_v0_29 j0 i1 i2 i3)), .val (.int (own_j0_42_S0 j0 i1 i2 i3)), .val (.long (own_v0_50 j0 i1 i2 i3)), .second, .val (.long (own_v0_57 j0 i1 i2 i3)), .second, .val (.ref b5), .val (.long (own_v0_78 j0 i1 i2 i3)), .second, .val (.int (own_v0_85 j0 i1 i2 i3)), .val (.long (own_v0_94 j0 i1 i2 i3)), .second, .val (.int (own_j0_133_L20 j0 i1 i2 i3)), .unset, .unset, .unset, .unset] [(.long (0 : Int64))])) (fun t kt => ?_) ?_
        · show Steps p.tables e below (TJ12.setTop (mkF m 142 #[.val (.long j0), .second, .val (.int i1), .val (.int i2), .val (.int i3), .val (.int ((i2 &&& (2147483647 : Int32)) % (6 : Int32))), .val (.int (own_v0_13 j0 i1 i2 i3)), .val (.int ((64 : Int32) >>> (((i2 &&& (2147483647 : Int32)) % (6 : Int32)) &&& 31))), .val (.int (own_v0_29 j0 i1 i2 i3)), .val (.int (own_j0_42_S0 j0 i1 i2 i3)), .val (.long (own_v0_50 j0 i1 i2 i3)), .second, .val (.long (own_v0_57 j0 i1 i2 i3)), .second, .val (.ref b5), .val (.long (own_v0_78 j0 i1 i2 i3)), .second, .val (.int (own_v0_85 j0 i1 i2 i3)), .val (.long (own_v0_94 j0 i1 i2 i3)), .second, .val (.int (own_j0_133_L20 j0 i1 i2 i3)), .unset, .unset, .unset, .unset] [])) _
          refine XS.lconst XJ12.here hx rfl (hb hby at_142) ?_
          exact kt
        have jj := J15 _ _ XJ12 eJ12 NJ12
        rw [show (own_j0_143_S0 j0 i1 i2 i3) = (0 : Int64) from by rw [own_j0_143_S0, if_pos hc14]] at jj
        exact jj
      · -- pc 135
        refine ownE.go (T' := TJ12) (f' := (mkF m 138 #[.val (.long j0), .second, .val (.int i1), .val (.int i2), .val (.int i3), .val (.int ((i2 &&& (2147483647 : Int32)) % (6 : Int32))), .val (.int (own_v0_13 j0 i1 i2 i3)), .val (.int ((64 : Int32) >>> (((i2 &&& (2147483647 : Int32)) % (6 : Int32)) &&& 31))), .val (.int (own_v0_29 j0 i1 i2 i3)), .val (.int (own_j0_42_S0 j0 i1 i2 i3)), .val (.long (own_v0_50 j0 i1 i2 i3)), .second, .val (.long (own_v0_57 j0 i1 i2 i3)), .second, .val (.ref b5), .val (.long (own_v0_78 j0 i1 i2 i3)), .second, .val (.int (own_v0_85 j0 i1 i2 i3)), .val (.long (own_v0_94 j0 i1 i2 i3)), .second, .val (.int (own_j0_133_L20 j0 i1 i2 i3)), .unset, .unset, .unset, .unset] [])) (fun t kt => XS.ifNo (g := (mkF m 135 #[.val (.long j0), .second, .val (.int i1), .val (.int i2), .val (.int i3), .val (.int ((i2 &&& (2147483647 : Int32)) % (6 : Int32))), .val (.int (own_v0_13 j0 i1 i2 i3)), .val (.int ((64 : Int32) >>> (((i2 &&& (2147483647 : Int32)) % (6 : Int32)) &&& 31))), .val (.int (own_v0_29 j0 i1 i2 i3)), .val (.int (own_j0_42_S0 j0 i1 i2 i3)), .val (.long (own_v0_50 j0 i1 i2 i3)), .second, .val (.long (own_v0_57 j0 i1 i2 i3)), .second, .val (.ref b5), .val (.long (own_v0_78 j0 i1 i2 i3)), .second, .val (.int (own_v0_85 j0 i1 i2 i3)), .val (.long (own_v0_94 j0 i1 i2 i3)), .second, .val (.int (own_j0_133_L20 j0 i1 i2 i3)), .unset, .unset, .unset, .unset] [(.int (own_j0_133_L20 j0 i1 i2 i3))])) XJ12.here hx rfl (hb hby at_135) rfl (Jvm.Free.XT.i0_eq_f hc14) kt) ?_
        refine ownE.go (T' := TJ12) (f' := (mkF m 143 #[.val (.long j0), .second, .val (.int i1), .val (.int i2), .val (.int i3), .val (.int ((i2 &&& (2147483647 : Int32)) % (6 : Int32))), .val (.int (own_v0_13 j0 i1 i2 i3)), .val (.int ((64 : Int32) >>> (((i2 &&& (2147483647 : Int32)) % (6 : Int32)) &&& 31))), .val (.int (own_v0_29 j0 i1 i2 i3)), .val (.int (own_j0_42_S0 j0 i1 i2 i3)), .val (.long (own_v0_50 j0 i1 i2 i3)), .second, .val (.long (own_v0_57 j0 i1 i2 i3)), .second, .val (.ref b5), .val (.long (own_v0_78 j0 i1 i2 i3)), .second, .val (.int (own_v0_85 j0 i1 i2 i3)), .val (.long (own_v0_94 j0 i1 i2 i3)), .second, .val (.int (own_j0_133_L20 j0 i1 i2 i3)), .unset, .unset, .unset, .unset] [(.long (1 : Int64))])) (fun t kt => ?_) ?_
        · show Steps p.tables e below (TJ12.setTop (mkF m 138 #[.val (.long j0), .second, .val (.int i1), .val (.int i2), .val (.int i3), .val (.int ((i2 &&& (2147483647 : Int32)) % (6 : Int32))), .val (.int (own_v0_13 j0 i1 i2 i3)), .val (.int ((64 : Int32) >>> (((i2 &&& (2147483647 : Int32)) % (6 : Int32)) &&& 31))), .val (.int (own_v0_29 j0 i1 i2 i3)), .val (.int (own_j0_42_S0 j0 i1 i2 i3)), .val (.long (own_v0_50 j0 i1 i2 i3)), .second, .val (.long (own_v0_57 j0 i1 i2 i3)), .second, .val (.ref b5), .val (.long (own_v0_78 j0 i1 i2 i3)), .second, .val (.int (own_v0_85 j0 i1 i2 i3)), .val (.long (own_v0_94 j0 i1 i2 i3)), .second, .val (.int (own_j0_133_L20 j0 i1 i2 i3)), .unset, .unset, .unset, .unset] [])) _
          refine XS.lconst XJ12.here hx rfl (hb hby at_138) ?_
          show Steps p.tables e below (TJ12.setTop (mkF m 139 #[.val (.long j0), .second, .val (.int i1), .val (.int i2), .val (.int i3), .val (.int ((i2 &&& (2147483647 : Int32)) % (6 : Int32))), .val (.int (own_v0_13 j0 i1 i2 i3)), .val (.int ((64 : Int32) >>> (((i2 &&& (2147483647 : Int32)) % (6 : Int32)) &&& 31))), .val (.int (own_v0_29 j0 i1 i2 i3)), .val (.int (own_j0_42_S0 j0 i1 i2 i3)), .val (.long (own_v0_50 j0 i1 i2 i3)), .second, .val (.long (own_v0_57 j0 i1 i2 i3)), .second, .val (.ref b5), .val (.long (own_v0_78 j0 i1 i2 i3)), .second, .val (.int (own_v0_85 j0 i1 i2 i3)), .val (.long (own_v0_94 j0 i1 i2 i3)), .second, .val (.int (own_j0_133_L20 j0 i1 i2 i3)), .unset, .unset, .unset, .unset] [(.long (1 : Int64))])) _
          refine XS.goto XJ12.here hx rfl (pc0 := 139) (pc' := 143) rfl (hb hby at_139) (by decide) (by decide) ?_
          exact kt
        have jj := J15 _ _ XJ12 eJ12 NJ12
        rw [show (own_j0_143_S0 j0 i1 i2 i3) = (1 : Int64) from by rw [own_j0_143_S0, if_neg hc14]] at jj
        exact jj
    refine ownE.go (T' := T7) (f' := (mkF m 98 #[.val (.long j0), .second, .val (.int i1), .val (.int i2), .val (.int i3), .val (.int ((i2 &&& (2147483647 : Int32)) % (6 : Int32))), .val (.int (own_v0_13 j0 i1 i2 i3)), .val (.int ((64 : Int32) >>> (((i2 &&& (2147483647 : Int32)) % (6 : Int32)) &&& 31))), .val (.int (own_v0_29 j0 i1 i2 i3)), .val (.int (own_j0_42_S0 j0 i1 i2 i3)), .val (.long (own_v0_50 j0 i1 i2 i3)), .second, .val (.long (own_v0_57 j0 i1 i2 i3)), .second, .val (.ref b5), .val (.long (own_v0_78 j0 i1 i2 i3)), .second, .val (.int (own_v0_85 j0 i1 i2 i3)), .val (.long (own_v0_94 j0 i1 i2 i3)), .second, .unset, .unset, .unset, .unset, .unset] [(.int (own_j0_42_S0 j0 i1 i2 i3))])) (fun t kt => ?_) ?_
    · show Steps p.tables e below (T7.setTop (mkF m 96 #[.val (.long j0), .second, .val (.int i1), .val (.int i2), .val (.int i3), .val (.int ((i2 &&& (2147483647 : Int32)) % (6 : Int32))), .val (.int (own_v0_13 j0 i1 i2 i3)), .val (.int ((64 : Int32) >>> (((i2 &&& (2147483647 : Int32)) % (6 : Int32)) &&& 31))), .val (.int (own_v0_29 j0 i1 i2 i3)), .val (.int (own_j0_42_S0 j0 i1 i2 i3)), .val (.long (own_v0_50 j0 i1 i2 i3)), .second, .val (.long (own_v0_57 j0 i1 i2 i3)), .second, .val (.ref b5), .val (.long (own_v0_78 j0 i1 i2 i3)), .second, .val (.int (own_v0_85 j0 i1 i2 i3)), .val (.long (own_v0_94 j0 i1 i2 i3)), .second, .unset, .unset, .unset, .unset, .unset] [])) _
      refine XS.iload X7.here hx rfl (hb hby at_96) rfl ?_
      exact kt
    by_cases hc9 : (own_j0_42_S0 j0 i1 i2 i3) = (0 : Int32)
    · -- pc 98
      refine ownE.go (T' := T7) (f' := (mkF m 119 #[.val (.long j0), .second, .val (.int i1), .val (.int i2), .val (.int i3), .val (.int ((i2 &&& (2147483647 : Int32)) % (6 : Int32))), .val (.int (own_v0_13 j0 i1 i2 i3)), .val (.int ((64 : Int32) >>> (((i2 &&& (2147483647 : Int32)) % (6 : Int32)) &&& 31))), .val (.int (own_v0_29 j0 i1 i2 i3)), .val (.int (own_j0_42_S0 j0 i1 i2 i3)), .val (.long (own_v0_50 j0 i1 i2 i3)), .second, .val (.long (own_v0_57 j0 i1 i2 i3)), .second, .val (.ref b5), .val (.long (own_v0_78 j0 i1 i2 i3)), .second, .val (.int (own_v0_85 j0 i1 i2 i3)), .val (.long (own_v0_94 j0 i1 i2 i3)), .second, .unset, .unset, .unset, .unset, .unset] [])) (fun t kt => XS.ifYes (g := (mkF m 98 #[.val (.long j0), .second, .val (.int i1), .val (.int i2), .val (.int i3), .val (.int ((i2 &&& (2147483647 : Int32)) % (6 : Int32))), .val (.int (own_v0_13 j0 i1 i2 i3)), .val (.int ((64 : Int32) >>> (((i2 &&& (2147483647 : Int32)) % (6 : Int32)) &&& 31))), .val (.int (own_v0_29 j0 i1 i2 i3)), .val (.int (own_j0_42_S0 j0 i1 i2 i3)), .val (.long (own_v0_50 j0 i1 i2 i3)), .second, .val (.long (own_v0_57 j0 i1 i2 i3)), .second, .val (.ref b5), .val (.long (own_v0_78 j0 i1 i2 i3)), .second, .val (.int (own_v0_85 j0 i1 i2 i3)), .val (.long (own_v0_94 j0 i1 i2 i3)), .second, .unset, .unset, .unset, .unset, .unset] [(.int (own_j0_42_S0 j0 i1 i2 i3))])) X7.here hx rfl (pc0 := 98) (pc' := 119) rfl (hb hby at_98) rfl (Jvm.Free.XT.i0_eq_t hc9) (by decide) (by decide) kt) ?_
      refine ownE.go (T' := T7) (f' := (mkF m 123 #[.val (.long j0), .second, .val (.int i1), .val (.int i2), .val (.int i3), .val (.int ((i2 &&& (2147483647 : Int32)) % (6 : Int32))), .val (.int (own_v0_13 j0 i1 i2 i3)), .val (.int ((64 : Int32) >>> (((i2 &&& (2147483647 : Int32)) % (6 : Int32)) &&& 31))), .val (.int (own_v0_29 j0 i1 i2 i3)), .val (.int (own_j0_42_S0 j0 i1 i2 i3)), .val (.long (own_v0_50 j0 i1 i2 i3)), .second, .val (.long (own_v0_57 j0 i1 i2 i3)), .second, .val (.ref b5), .val (.long (own_v0_78 j0 i1 i2 i3)), .second, .val (.int (own_v0_85 j0 i1 i2 i3)), .val (.long (own_v0_94 j0 i1 i2 i3)), .second, .unset, .unset, .unset, .unset, .unset] [(.int (Jvm.Free.XT.cmpL (own_v0_94 j0 i1 i2 i3) (0 : Int64)))])) (fun t kt => ?_) ?_
      · show Steps p.tables e below (T7.setTop (mkF m 119 #[.val (.long j0), .second, .val (.int i1), .val (.int i2), .val (.int i3), .val (.int ((i2 &&& (2147483647 : Int32)) % (6 : Int32))), .val (.int (own_v0_13 j0 i1 i2 i3)), .val (.int ((64 : Int32) >>> (((i2 &&& (2147483647 : Int32)) % (6 : Int32)) &&& 31))), .val (.int (own_v0_29 j0 i1 i2 i3)), .val (.int (own_j0_42_S0 j0 i1 i2 i3)), .val (.long (own_v0_50 j0 i1 i2 i3)), .second, .val (.long (own_v0_57 j0 i1 i2 i3)), .second, .val (.ref b5), .val (.long (own_v0_78 j0 i1 i2 i3)), .second, .val (.int (own_v0_85 j0 i1 i2 i3)), .val (.long (own_v0_94 j0 i1 i2 i3)), .second, .unset, .unset, .unset, .unset, .unset] [])) _
        refine XS.lload X7.here hx rfl (hb hby at_119) rfl ?_
        show Steps p.tables e below (T7.setTop (mkF m 121 #[.val (.long j0), .second, .val (.int i1), .val (.int i2), .val (.int i3), .val (.int ((i2 &&& (2147483647 : Int32)) % (6 : Int32))), .val (.int (own_v0_13 j0 i1 i2 i3)), .val (.int ((64 : Int32) >>> (((i2 &&& (2147483647 : Int32)) % (6 : Int32)) &&& 31))), .val (.int (own_v0_29 j0 i1 i2 i3)), .val (.int (own_j0_42_S0 j0 i1 i2 i3)), .val (.long (own_v0_50 j0 i1 i2 i3)), .second, .val (.long (own_v0_57 j0 i1 i2 i3)), .second, .val (.ref b5), .val (.long (own_v0_78 j0 i1 i2 i3)), .second, .val (.int (own_v0_85 j0 i1 i2 i3)), .val (.long (own_v0_94 j0 i1 i2 i3)), .second, .unset, .unset, .unset, .unset, .unset] [(.long (own_v0_94 j0 i1 i2 i3))])) _
        refine XS.lconst X7.here hx rfl (hb hby at_121) ?_
        show Steps p.tables e below (T7.setTop (mkF m 122 #[.val (.long j0), .second, .val (.int i1), .val (.int i2), .val (.int i3), .val (.int ((i2 &&& (2147483647 : Int32)) % (6 : Int32))), .val (.int (own_v0_13 j0 i1 i2 i3)), .val (.int ((64 : Int32) >>> (((i2 &&& (2147483647 : Int32)) % (6 : Int32)) &&& 31))), .val (.int (own_v0_29 j0 i1 i2 i3)), .val (.int (own_j0_42_S0 j0 i1 i2 i3)), .val (.long (own_v0_50 j0 i1 i2 i3)), .second, .val (.long (own_v0_57 j0 i1 i2 i3)), .second, .val (.ref b5), .val (.long (own_v0_78 j0 i1 i2 i3)), .second, .val (.int (own_v0_85 j0 i1 i2 i3)), .val (.long (own_v0_94 j0 i1 i2 i3)), .second, .unset, .unset, .unset, .unset, .unset] [(.long (0 : Int64)), (.long (own_v0_94 j0 i1 i2 i3))])) _
        refine XS.lcmp X7.here hx rfl (hb hby at_122) rfl ?_
        exact kt
      by_cases hc10 : (own_v0_94 j0 i1 i2 i3) = (0 : Int64)
      · -- pc 123
        refine ownE.go (T' := T7) (f' := (mkF m 130 #[.val (.long j0), .second, .val (.int i1), .val (.int i2), .val (.int i3), .val (.int ((i2 &&& (2147483647 : Int32)) % (6 : Int32))), .val (.int (own_v0_13 j0 i1 i2 i3)), .val (.int ((64 : Int32) >>> (((i2 &&& (2147483647 : Int32)) % (6 : Int32)) &&& 31))), .val (.int (own_v0_29 j0 i1 i2 i3)), .val (.int (own_j0_42_S0 j0 i1 i2 i3)), .val (.long (own_v0_50 j0 i1 i2 i3)), .second, .val (.long (own_v0_57 j0 i1 i2 i3)), .second, .val (.ref b5), .val (.long (own_v0_78 j0 i1 i2 i3)), .second, .val (.int (own_v0_85 j0 i1 i2 i3)), .val (.long (own_v0_94 j0 i1 i2 i3)), .second, .unset, .unset, .unset, .unset, .unset] [])) (fun t kt => XS.ifYes (g := (mkF m 123 #[.val (.long j0), .second, .val (.int i1), .val (.int i2), .val (.int i3), .val (.int ((i2 &&& (2147483647 : Int32)) % (6 : Int32))), .val (.int (own_v0_13 j0 i1 i2 i3)), .val (.int ((64 : Int32) >>> (((i2 &&& (2147483647 : Int32)) % (6 : Int32)) &&& 31))), .val (.int (own_v0_29 j0 i1 i2 i3)), .val (.int (own_j0_42_S0 j0 i1 i2 i3)), .val (.long (own_v0_50 j0 i1 i2 i3)), .second, .val (.long (own_v0_57 j0 i1 i2 i3)), .second, .val (.ref b5), .val (.long (own_v0_78 j0 i1 i2 i3)), .second, .val (.int (own_v0_85 j0 i1 i2 i3)), .val (.long (own_v0_94 j0 i1 i2 i3)), .second, .unset, .unset, .unset, .unset, .unset] [(.int (Jvm.Free.XT.cmpL (own_v0_94 j0 i1 i2 i3) (0 : Int64)))])) X7.here hx rfl (pc0 := 123) (pc' := 130) rfl (hb hby at_123) rfl (Jvm.Free.XT.ll_eq_t hc10) (by decide) (by decide) kt) ?_
        refine ownE.go (T' := T7) (f' := (mkF m 133 #[.val (.long j0), .second, .val (.int i1), .val (.int i2), .val (.int i3), .val (.int ((i2 &&& (2147483647 : Int32)) % (6 : Int32))), .val (.int (own_v0_13 j0 i1 i2 i3)), .val (.int ((64 : Int32) >>> (((i2 &&& (2147483647 : Int32)) % (6 : Int32)) &&& 31))), .val (.int (own_v0_29 j0 i1 i2 i3)), .val (.int (own_j0_42_S0 j0 i1 i2 i3)), .val (.long (own_v0_50 j0 i1 i2 i3)), .second, .val (.long (own_v0_57 j0 i1 i2 i3)), .second, .val (.ref b5), .val (.long (own_v0_78 j0 i1 i2 i3)), .second, .val (.int (own_v0_85 j0 i1 i2 i3)), .val (.long (own_v0_94 j0 i1 i2 i3)), .second, .val (.int (0 : Int32)), .unset, .unset, .unset, .unset] [])) (fun t kt => ?_) ?_
        · show Steps p.tables e below (T7.setTop (mkF m 130 #[.val (.long j0), .second, .val (.int i1), .val (.int i2), .val (.int i3), .val (.int ((i2 &&& (2147483647 : Int32)) % (6 : Int32))), .val (.int (own_v0_13 j0 i1 i2 i3)), .val (.int ((64 : Int32) >>> (((i2 &&& (2147483647 : Int32)) % (6 : Int32)) &&& 31))), .val (.int (own_v0_29 j0 i1 i2 i3)), .val (.int (own_j0_42_S0 j0 i1 i2 i3)), .val (.long (own_v0_50 j0 i1 i2 i3)), .second, .val (.long (own_v0_57 j0 i1 i2 i3)), .second, .val (.ref b5), .val (.long (own_v0_78 j0 i1 i2 i3)), .second, .val (.int (own_v0_85 j0 i1 i2 i3)), .val (.long (own_v0_94 j0 i1 i2 i3)), .second, .unset, .unset, .unset, .unset, .unset] [])) _
          refine XS.iconst X7.here hx rfl (hb hby at_130) ?_
          show Steps p.tables e below (T7.setTop (mkF m 131 #[.val (.long j0), .second, .val (.int i1), .val (.int i2), .val (.int i3), .val (.int ((i2 &&& (2147483647 : Int32)) % (6 : Int32))), .val (.int (own_v0_13 j0 i1 i2 i3)), .val (.int ((64 : Int32) >>> (((i2 &&& (2147483647 : Int32)) % (6 : Int32)) &&& 31))), .val (.int (own_v0_29 j0 i1 i2 i3)), .val (.int (own_j0_42_S0 j0 i1 i2 i3)), .val (.long (own_v0_50 j0 i1 i2 i3)), .second, .val (.long (own_v0_57 j0 i1 i2 i3)), .second, .val (.ref b5), .val (.long (own_v0_78 j0 i1 i2 i3)), .second, .val (.int (own_v0_85 j0 i1 i2 i3)), .val (.long (own_v0_94 j0 i1 i2 i3)), .second, .unset, .unset, .unset, .unset, .unset] [(.int (0 : Int32))])) _
          refine XS.istore X7.here hx rfl (hb hby at_131) rfl (l' := #[.val (.long j0), .second, .val (.int i1), .val (.int i2), .val (.int i3), .val (.int ((i2 &&& (2147483647 : Int32)) % (6 : Int32))), .val (.int (own_v0_13 j0 i1 i2 i3)), .val (.int ((64 : Int32) >>> (((i2 &&& (2147483647 : Int32)) % (6 : Int32)) &&& 31))), .val (.int (own_v0_29 j0 i1 i2 i3)), .val (.int (own_j0_42_S0 j0 i1 i2 i3)), .val (.long (own_v0_50 j0 i1 i2 i3)), .second, .val (.long (own_v0_57 j0 i1 i2 i3)), .second, .val (.ref b5), .val (.long (own_v0_78 j0 i1 i2 i3)), .second, .val (.int (own_v0_85 j0 i1 i2 i3)), .val (.long (own_v0_94 j0 i1 i2 i3)), .second, .val (.int (0 : Int32)), .unset, .unset, .unset, .unset]) rfl ?_
          exact kt
        have jj := J12 _ _ X7 e7 N7
        rw [show (own_j0_133_L20 j0 i1 i2 i3) = (0 : Int32) from by rw [own_j0_133_L20, if_pos hc9, if_pos hc10]] at jj
        exact jj
      · -- pc 123
        refine ownE.go (T' := T7) (f' := (mkF m 126 #[.val (.long j0), .second, .val (.int i1), .val (.int i2), .val (.int i3), .val (.int ((i2 &&& (2147483647 : Int32)) % (6 : Int32))), .val (.int (own_v0_13 j0 i1 i2 i3)), .val (.int ((64 : Int32) >>> (((i2 &&& (2147483647 : Int32)) % (6 : Int32)) &&& 31))), .val (.int (own_v0_29 j0 i1 i2 i3)), .val (.int (own_j0_42_S0 j0 i1 i2 i3)), .val (.long (own_v0_50 j0 i1 i2 i3)), .second, .val (.long (own_v0_57 j0 i1 i2 i3)), .second, .val (.ref b5), .val (.long (own_v0_78 j0 i1 i2 i3)), .second, .val (.int (own_v0_85 j0 i1 i2 i3)), .val (.long (own_v0_94 j0 i1 i2 i3)), .second, .unset, .unset, .unset, .unset, .unset] [])) (fun t kt => XS.ifNo (g := (mkF m 123 #[.val (.long j0), .second, .val (.int i1), .val (.int i2), .val (.int i3), .val (.int ((i2 &&& (2147483647 : Int32)) % (6 : Int32))), .val (.int (own_v0_13 j0 i1 i2 i3)), .val (.int ((64 : Int32) >>> (((i2 &&& (2147483647 : Int32)) % (6 : Int32)) &&& 31))), .val (.int (own_v0_29 j0 i1 i2 i3)), .val (.int (own_j0_42_S0 j0 i1 i2 i3)), .val (.long (own_v0_50 j0 i1 i2 i3)), .second, .val (.long (own_v0_57 j0 i1 i2 i3)), .second, .val (.ref b5), .val (.long (own_v0_78 j0 i1 i2 i3)), .second, .val (.int (own_v0_85 j0 i1 i2 i3)), .val (.long (own_v0_94 j0 i1 i2 i3)), .second, .unset, .unset, .unset, .unset, .unset] [(.int (Jvm.Free.XT.cmpL (own_v0_94 j0 i1 i2 i3) (0 : Int64)))])) X7.here hx rfl (hb hby at_123) rfl (Jvm.Free.XT.ll_eq_f hc10) kt) ?_
        refine ownE.go (T' := T7) (f' := (mkF m 133 #[.val (.long j0), .second, .val (.int i1), .val (.int i2), .val (.int i3), .val (.int ((i2 &&& (2147483647 : Int32)) % (6 : Int32))), .val (.int (own_v0_13 j0 i1 i2 i3)), .val (.int ((64 : Int32) >>> (((i2 &&& (2147483647 : Int32)) % (6 : Int32)) &&& 31))), .val (.int (own_v0_29 j0 i1 i2 i3)), .val (.int (own_j0_42_S0 j0 i1 i2 i3)), .val (.long (own_v0_50 j0 i1 i2 i3)), .second, .val (.long (own_v0_57 j0 i1 i2 i3)), .second, .val (.ref b5), .val (.long (own_v0_78 j0 i1 i2 i3)), .second, .val (.int (own_v0_85 j0 i1 i2 i3)), .val (.long (own_v0_94 j0 i1 i2 i3)), .second, .val (.int (1 : Int32)), .unset, .unset, .unset, .unset] [])) (fun t kt => ?_) ?_
        · show Steps p.tables e below (T7.setTop (mkF m 126 #[.val (.long j0), .second, .val (.int i1), .val (.int i2), .val (.int i3), .val (.int ((i2 &&& (2147483647 : Int32)) % (6 : Int32))), .val (.int (own_v0_13 j0 i1 i2 i3)), .val (.int ((64 : Int32) >>> (((i2 &&& (2147483647 : Int32)) % (6 : Int32)) &&& 31))), .val (.int (own_v0_29 j0 i1 i2 i3)), .val (.int (own_j0_42_S0 j0 i1 i2 i3)), .val (.long (own_v0_50 j0 i1 i2 i3)), .second, .val (.long (own_v0_57 j0 i1 i2 i3)), .second, .val (.ref b5), .val (.long (own_v0_78 j0 i1 i2 i3)), .second, .val (.int (own_v0_85 j0 i1 i2 i3)), .val (.long (own_v0_94 j0 i1 i2 i3)), .second, .unset, .unset, .unset, .unset, .unset] [])) _
          refine XS.iconst X7.here hx rfl (hb hby at_126) ?_
          show Steps p.tables e below (T7.setTop (mkF m 127 #[.val (.long j0), .second, .val (.int i1), .val (.int i2), .val (.int i3), .val (.int ((i2 &&& (2147483647 : Int32)) % (6 : Int32))), .val (.int (own_v0_13 j0 i1 i2 i3)), .val (.int ((64 : Int32) >>> (((i2 &&& (2147483647 : Int32)) % (6 : Int32)) &&& 31))), .val (.int (own_v0_29 j0 i1 i2 i3)), .val (.int (own_j0_42_S0 j0 i1 i2 i3)), .val (.long (own_v0_50 j0 i1 i2 i3)), .second, .val (.long (own_v0_57 j0 i1 i2 i3)), .second, .val (.ref b5), .val (.long (own_v0_78 j0 i1 i2 i3)), .second, .val (.int (own_v0_85 j0 i1 i2 i3)), .val (.long (own_v0_94 j0 i1 i2 i3)), .second, .unset, .unset, .unset, .unset, .unset] [(.int (1 : Int32))])) _
          refine XS.goto X7.here hx rfl (pc0 := 127) (pc' := 131) rfl (hb hby at_127) (by decide) (by decide) ?_
          show Steps p.tables e below (T7.setTop (mkF m 131 #[.val (.long j0), .second, .val (.int i1), .val (.int i2), .val (.int i3), .val (.int ((i2 &&& (2147483647 : Int32)) % (6 : Int32))), .val (.int (own_v0_13 j0 i1 i2 i3)), .val (.int ((64 : Int32) >>> (((i2 &&& (2147483647 : Int32)) % (6 : Int32)) &&& 31))), .val (.int (own_v0_29 j0 i1 i2 i3)), .val (.int (own_j0_42_S0 j0 i1 i2 i3)), .val (.long (own_v0_50 j0 i1 i2 i3)), .second, .val (.long (own_v0_57 j0 i1 i2 i3)), .second, .val (.ref b5), .val (.long (own_v0_78 j0 i1 i2 i3)), .second, .val (.int (own_v0_85 j0 i1 i2 i3)), .val (.long (own_v0_94 j0 i1 i2 i3)), .second, .unset, .unset, .unset, .unset, .unset] [(.int (1 : Int32))])) _
          refine XS.istore X7.here hx rfl (hb hby at_131) rfl (l' := #[.val (.long j0), .second, .val (.int i1), .val (.int i2), .val (.int i3), .val (.int ((i2 &&& (2147483647 : Int32)) % (6 : Int32))), .val (.int (own_v0_13 j0 i1 i2 i3)), .val (.int ((64 : Int32) >>> (((i2 &&& (2147483647 : Int32)) % (6 : Int32)) &&& 31))), .val (.int (own_v0_29 j0 i1 i2 i3)), .val (.int (own_j0_42_S0 j0 i1 i2 i3)), .val (.long (own_v0_50 j0 i1 i2 i3)), .second, .val (.long (own_v0_57 j0 i1 i2 i3)), .second, .val (.ref b5), .val (.long (own_v0_78 j0 i1 i2 i3)), .second, .val (.int (own_v0_85 j0 i1 i2 i3)), .val (.long (own_v0_94 j0 i1 i2 i3)), .second, .val (.int (1 : Int32)), .unset, .unset, .unset, .unset]) rfl ?_
          exact kt
        have jj := J12 _ _ X7 e7 N7
        rw [show (own_j0_133_L20 j0 i1 i2 i3) = (1 : Int32) from by rw [own_j0_133_L20, if_pos hc9, if_neg hc10]] at jj
        exact jj
    · -- pc 98
      refine ownE.go (T' := T7) (f' := (mkF m 101 #[.val (.long j0), .second, .val (.int i1), .val (.int i2), .val (.int i3), .val (.int ((i2 &&& (2147483647 : Int32)) % (6 : Int32))), .val (.int (own_v0_13 j0 i1 i2 i3)), .val (.int ((64 : Int32) >>> (((i2 &&& (2147483647 : Int32)) % (6 : Int32)) &&& 31))), .val (.int (own_v0_29 j0 i1 i2 i3)), .val (.int (own_j0_42_S0 j0 i1 i2 i3)), .val (.long (own_v0_50 j0 i1 i2 i3)), .second, .val (.long (own_v0_57 j0 i1 i2 i3)), .second, .val (.ref b5), .val (.long (own_v0_78 j0 i1 i2 i3)), .second, .val (.int (own_v0_85 j0 i1 i2 i3)), .val (.long (own_v0_94 j0 i1 i2 i3)), .second, .unset, .unset, .unset, .unset, .unset] [])) (fun t kt => XS.ifNo (g := (mkF m 98 #[.val (.long j0), .second, .val (.int i1), .val (.int i2), .val (.int i3), .val (.int ((i2 &&& (2147483647 : Int32)) % (6 : Int32))), .val (.int (own_v0_13 j0 i1 i2 i3)), .val (.int ((64 : Int32) >>> (((i2 &&& (2147483647 : Int32)) % (6 : Int32)) &&& 31))), .val (.int (own_v0_29 j0 i1 i2 i3)), .val (.int (own_j0_42_S0 j0 i1 i2 i3)), .val (.long (own_v0_50 j0 i1 i2 i3)), .second, .val (.long (own_v0_57 j0 i1 i2 i3)), .second, .val (.ref b5), .val (.long (own_v0_78 j0 i1 i2 i3)), .second, .val (.int (own_v0_85 j0 i1 i2 i3)), .val (.long (own_v0_94 j0 i1 i2 i3)), .second, .unset, .unset, .unset, .unset, .unset] [(.int (own_j0_42_S0 j0 i1 i2 i3))])) X7.here hx rfl (hb hby at_98) rfl (Jvm.Free.XT.i0_eq_f hc9) kt) ?_
      refine ownE.go (T' := T7) (f' := (mkF m 106 #[.val (.long j0), .second, .val (.int i1), .val (.int i2), .val (.int i3), .val (.int ((i2 &&& (2147483647 : Int32)) % (6 : Int32))), .val (.int (own_v0_13 j0 i1 i2 i3)), .val (.int ((64 : Int32) >>> (((i2 &&& (2147483647 : Int32)) % (6 : Int32)) &&& 31))), .val (.int (own_v0_29 j0 i1 i2 i3)), .val (.int (own_j0_42_S0 j0 i1 i2 i3)), .val (.long (own_v0_50 j0 i1 i2 i3)), .second, .val (.long (own_v0_57 j0 i1 i2 i3)), .second, .val (.ref b5), .val (.long (own_v0_78 j0 i1 i2 i3)), .second, .val (.int (own_v0_85 j0 i1 i2 i3)), .val (.long (own_v0_94 j0 i1 i2 i3)), .second, .unset, .unset, .unset, .unset, .unset] [(.int (Jvm.Free.XT.cmpL (own_v0_94 j0 i1 i2 i3) (own_v0_50 j0 i1 i2 i3)))])) (fun t kt => ?_) ?_
      · show Steps p.tables e below (T7.setTop (mkF m 101 #[.val (.long j0), .second, .val (.int i1), .val (.int i2), .val (.int i3), .val (.int ((i2 &&& (2147483647 : Int32)) % (6 : Int32))), .val (.int (own_v0_13 j0 i1 i2 i3)), .val (.int ((64 : Int32) >>> (((i2 &&& (2147483647 : Int32)) % (6 : Int32)) &&& 31))), .val (.int (own_v0_29 j0 i1 i2 i3)), .val (.int (own_j0_42_S0 j0 i1 i2 i3)), .val (.long (own_v0_50 j0 i1 i2 i3)), .second, .val (.long (own_v0_57 j0 i1 i2 i3)), .second, .val (.ref b5), .val (.long (own_v0_78 j0 i1 i2 i3)), .second, .val (.int (own_v0_85 j0 i1 i2 i3)), .val (.long (own_v0_94 j0 i1 i2 i3)), .second, .unset, .unset, .unset, .unset, .unset] [])) _
        refine XS.lload X7.here hx rfl (hb hby at_101) rfl ?_
        show Steps p.tables e below (T7.setTop (mkF m 103 #[.val (.long j0), .second, .val (.int i1), .val (.int i2), .val (.int i3), .val (.int ((i2 &&& (2147483647 : Int32)) % (6 : Int32))), .val (.int (own_v0_13 j0 i1 i2 i3)), .val (.int ((64 : Int32) >>> (((i2 &&& (2147483647 : Int32)) % (6 : Int32)) &&& 31))), .val (.int (own_v0_29 j0 i1 i2 i3)), .val (.int (own_j0_42_S0 j0 i1 i2 i3)), .val (.long (own_v0_50 j0 i1 i2 i3)), .second, .val (.long (own_v0_57 j0 i1 i2 i3)), .second, .val (.ref b5), .val (.long (own_v0_78 j0 i1 i2 i3)), .second, .val (.int (own_v0_85 j0 i1 i2 i3)), .val (.long (own_v0_94 j0 i1 i2 i3)), .second, .unset, .unset, .unset, .unset, .unset] [(.long (own_v0_94 j0 i1 i2 i3))])) _
        refine XS.lload X7.here hx rfl (hb hby at_103) rfl ?_
        show Steps p.tables e below (T7.setTop (mkF m 105 #[.val (.long j0), .second, .val (.int i1), .val (.int i2), .val (.int i3), .val (.int ((i2 &&& (2147483647 : Int32)) % (6 : Int32))), .val (.int (own_v0_13 j0 i1 i2 i3)), .val (.int ((64 : Int32) >>> (((i2 &&& (2147483647 : Int32)) % (6 : Int32)) &&& 31))), .val (.int (own_v0_29 j0 i1 i2 i3)), .val (.int (own_j0_42_S0 j0 i1 i2 i3)), .val (.long (own_v0_50 j0 i1 i2 i3)), .second, .val (.long (own_v0_57 j0 i1 i2 i3)), .second, .val (.ref b5), .val (.long (own_v0_78 j0 i1 i2 i3)), .second, .val (.int (own_v0_85 j0 i1 i2 i3)), .val (.long (own_v0_94 j0 i1 i2 i3)), .second, .unset, .unset, .unset, .unset, .unset] [(.long (own_v0_50 j0 i1 i2 i3)), (.long (own_v0_94 j0 i1 i2 i3))])) _
        refine XS.lcmp X7.here hx rfl (hb hby at_105) rfl ?_
        exact kt
      by_cases hc11 : (own_v0_94 j0 i1 i2 i3) = (own_v0_50 j0 i1 i2 i3)
      · -- pc 106
        refine ownE.go (T' := T7) (f' := (mkF m 109 #[.val (.long j0), .second, .val (.int i1), .val (.int i2), .val (.int i3), .val (.int ((i2 &&& (2147483647 : Int32)) % (6 : Int32))), .val (.int (own_v0_13 j0 i1 i2 i3)), .val (.int ((64 : Int32) >>> (((i2 &&& (2147483647 : Int32)) % (6 : Int32)) &&& 31))), .val (.int (own_v0_29 j0 i1 i2 i3)), .val (.int (own_j0_42_S0 j0 i1 i2 i3)), .val (.long (own_v0_50 j0 i1 i2 i3)), .second, .val (.long (own_v0_57 j0 i1 i2 i3)), .second, .val (.ref b5), .val (.long (own_v0_78 j0 i1 i2 i3)), .second, .val (.int (own_v0_85 j0 i1 i2 i3)), .val (.long (own_v0_94 j0 i1 i2 i3)), .second, .unset, .unset, .unset, .unset, .unset] [])) (fun t kt => XS.ifNo (g := (mkF m 106 #[.val (.long j0), .second, .val (.int i1), .val (.int i2), .val (.int i3), .val (.int ((i2 &&& (2147483647 : Int32)) % (6 : Int32))), .val (.int (own_v0_13 j0 i1 i2 i3)), .val (.int ((64 : Int32) >>> (((i2 &&& (2147483647 : Int32)) % (6 : Int32)) &&& 31))), .val (.int (own_v0_29 j0 i1 i2 i3)), .val (.int (own_j0_42_S0 j0 i1 i2 i3)), .val (.long (own_v0_50 j0 i1 i2 i3)), .second, .val (.long (own_v0_57 j0 i1 i2 i3)), .second, .val (.ref b5), .val (.long (own_v0_78 j0 i1 i2 i3)), .second, .val (.int (own_v0_85 j0 i1 i2 i3)), .val (.long (own_v0_94 j0 i1 i2 i3)), .second, .unset, .unset, .unset, .unset, .unset] [(.int (Jvm.Free.XT.cmpL (own_v0_94 j0 i1 i2 i3) (own_v0_50 j0 i1 i2 i3)))])) X7.here hx rfl (hb hby at_106) rfl (Jvm.Free.XT.ll_ne_f hc11) kt) ?_
        refine ownE.go (T' := T7) (f' := (mkF m 133 #[.val (.long j0), .second, .val (.int i1), .val (.int i2), .val (.int i3), .val (.int ((i2 &&& (2147483647 : Int32)) % (6 : Int32))), .val (.int (own_v0_13 j0 i1 i2 i3)), .val (.int ((64 : Int32) >>> (((i2 &&& (2147483647 : Int32)) % (6 : Int32)) &&& 31))), .val (.int (own_v0_29 j0 i1 i2 i3)), .val (.int (own_j0_42_S0 j0 i1 i2 i3)), .val (.long (own_v0_50 j0 i1 i2 i3)), .second, .val (.long (own_v0_57 j0 i1 i2 i3)), .second, .val (.ref b5), .val (.long (own_v0_78 j0 i1 i2 i3)), .second, .val (.int (own_v0_85 j0 i1 i2 i3)), .val (.long (own_v0_94 j0 i1 i2 i3)), .second, .val (.int (1 : Int32)), .unset, .unset, .unset, .unset] [])) (fun t kt => ?_) ?_
        · show Steps p.tables e below (T7.setTop (mkF m 109 #[.val (.long j0), .second, .val (.int i1), .val (.int i2), .val (.int i3), .val (.int ((i2 &&& (2147483647 : Int32)) % (6 : Int32))), .val (.int (own_v0_13 j0 i1 i2 i3)), .val (.int ((64 : Int32) >>> (((i2 &&& (2147483647 : Int32)) % (6 : Int32)) &&& 31))), .val (.int (own_v0_29 j0 i1 i2 i3)), .val (.int (own_j0_42_S0 j0 i1 i2 i3)), .val (.long (own_v0_50 j0 i1 i2 i3)), .second, .val (.long (own_v0_57 j0 i1 i2 i3)), .second, .val (.ref b5), .val (.long (own_v0_78 j0 i1 i2 i3)), .second, .val (.int (own_v0_85 j0 i1 i2 i3)), .val (.long (own_v0_94 j0 i1 i2 i3)), .second, .unset, .unset, .unset, .unset, .unset] [])) _
          refine XS.iconst X7.here hx rfl (hb hby at_109) ?_
          show Steps p.tables e below (T7.setTop (mkF m 110 #[.val (.long j0), .second, .val (.int i1), .val (.int i2), .val (.int i3), .val (.int ((i2 &&& (2147483647 : Int32)) % (6 : Int32))), .val (.int (own_v0_13 j0 i1 i2 i3)), .val (.int ((64 : Int32) >>> (((i2 &&& (2147483647 : Int32)) % (6 : Int32)) &&& 31))), .val (.int (own_v0_29 j0 i1 i2 i3)), .val (.int (own_j0_42_S0 j0 i1 i2 i3)), .val (.long (own_v0_50 j0 i1 i2 i3)), .second, .val (.long (own_v0_57 j0 i1 i2 i3)), .second, .val (.ref b5), .val (.long (own_v0_78 j0 i1 i2 i3)), .second, .val (.int (own_v0_85 j0 i1 i2 i3)), .val (.long (own_v0_94 j0 i1 i2 i3)), .second, .unset, .unset, .unset, .unset, .unset] [(.int (1 : Int32))])) _
          refine XS.goto X7.here hx rfl (pc0 := 110) (pc' := 114) rfl (hb hby at_110) (by decide) (by decide) ?_
          show Steps p.tables e below (T7.setTop (mkF m 114 #[.val (.long j0), .second, .val (.int i1), .val (.int i2), .val (.int i3), .val (.int ((i2 &&& (2147483647 : Int32)) % (6 : Int32))), .val (.int (own_v0_13 j0 i1 i2 i3)), .val (.int ((64 : Int32) >>> (((i2 &&& (2147483647 : Int32)) % (6 : Int32)) &&& 31))), .val (.int (own_v0_29 j0 i1 i2 i3)), .val (.int (own_j0_42_S0 j0 i1 i2 i3)), .val (.long (own_v0_50 j0 i1 i2 i3)), .second, .val (.long (own_v0_57 j0 i1 i2 i3)), .second, .val (.ref b5), .val (.long (own_v0_78 j0 i1 i2 i3)), .second, .val (.int (own_v0_85 j0 i1 i2 i3)), .val (.long (own_v0_94 j0 i1 i2 i3)), .second, .unset, .unset, .unset, .unset, .unset] [(.int (1 : Int32))])) _
          refine XS.istore X7.here hx rfl (hb hby at_114) rfl (l' := #[.val (.long j0), .second, .val (.int i1), .val (.int i2), .val (.int i3), .val (.int ((i2 &&& (2147483647 : Int32)) % (6 : Int32))), .val (.int (own_v0_13 j0 i1 i2 i3)), .val (.int ((64 : Int32) >>> (((i2 &&& (2147483647 : Int32)) % (6 : Int32)) &&& 31))), .val (.int (own_v0_29 j0 i1 i2 i3)), .val (.int (own_j0_42_S0 j0 i1 i2 i3)), .val (.long (own_v0_50 j0 i1 i2 i3)), .second, .val (.long (own_v0_57 j0 i1 i2 i3)), .second, .val (.ref b5), .val (.long (own_v0_78 j0 i1 i2 i3)), .second, .val (.int (own_v0_85 j0 i1 i2 i3)), .val (.long (own_v0_94 j0 i1 i2 i3)), .second, .val (.int (1 : Int32)), .unset, .unset, .unset, .unset]) rfl ?_
          show Steps p.tables e below (T7.setTop (mkF m 116 #[.val (.long j0), .second, .val (.int i1), .val (.int i2), .val (.int i3), .val (.int ((i2 &&& (2147483647 : Int32)) % (6 : Int32))), .val (.int (own_v0_13 j0 i1 i2 i3)), .val (.int ((64 : Int32) >>> (((i2 &&& (2147483647 : Int32)) % (6 : Int32)) &&& 31))), .val (.int (own_v0_29 j0 i1 i2 i3)), .val (.int (own_j0_42_S0 j0 i1 i2 i3)), .val (.long (own_v0_50 j0 i1 i2 i3)), .second, .val (.long (own_v0_57 j0 i1 i2 i3)), .second, .val (.ref b5), .val (.long (own_v0_78 j0 i1 i2 i3)), .second, .val (.int (own_v0_85 j0 i1 i2 i3)), .val (.long (own_v0_94 j0 i1 i2 i3)), .second, .val (.int (1 : Int32)), .unset, .unset, .unset, .unset] [])) _
          refine XS.goto X7.here hx rfl (pc0 := 116) (pc' := 133) rfl (hb hby at_116) (by decide) (by decide) ?_
          exact kt
        have jj := J12 _ _ X7 e7 N7
        rw [show (own_j0_133_L20 j0 i1 i2 i3) = (1 : Int32) from by rw [own_j0_133_L20, if_neg hc9, if_pos hc11]] at jj
        exact jj
      · -- pc 106
        refine ownE.go (T' := T7) (f' := (mkF m 113 #[.val (.long j0), .second, .val (.int i1), .val (.int i2), .val (.int i3), .val (.int ((i2 &&& (2147483647 : Int32)) % (6 : Int32))), .val (.int (own_v0_13 j0 i1 i2 i3)), .val (.int ((64 : Int32) >>> (((i2 &&& (2147483647 : Int32)) % (6 : Int32)) &&& 31))), .val (.int (own_v0_29 j0 i1 i2 i3)), .val (.int (own_j0_42_S0 j0 i1 i2 i3)), .val (.long (own_v0_50 j0 i1 i2 i3)), .second, .val (.long (own_v0_57 j0 i1 i2 i3)), .second, .val (.ref b5), .val (.long (own_v0_78 j0 i1 i2 i3)), .second, .val (.int (own_v0_85 j0 i1 i2 i3)), .val (.long (own_v0_94 j0 i1 i2 i3)), .second, .unset, .unset, .unset, .unset, .unset] [])) (fun t kt => XS.ifYes (g := (mkF m 106 #[.val (.long j0), .second, .val (.int i1), .val (.int i2), .val (.int i3), .val (.int ((i2 &&& (2147483647 : Int32)) % (6 : Int32))), .val (.int (own_v0_13 j0 i1 i2 i3)), .val (.int ((64 : Int32) >>> (((i2 &&& (2147483647 : Int32)) % (6 : Int32)) &&& 31))), .val (.int (own_v0_29 j0 i1 i2 i3)), .val (.int (own_j0_42_S0 j0 i1 i2 i3)), .val (.long (own_v0_50 j0 i1 i2 i3)), .second, .val (.long (own_v0_57 j0 i1 i2 i3)), .second, .val (.ref b5), .val (.long (own_v0_78 j0 i1 i2 i3)), .second, .val (.int (own_v0_85 j0 i1 i2 i3)), .val (.long (own_v0_94 j0 i1 i2 i3)), .second, .unset, .unset, .unset, .unset, .unset] [(.int (Jvm.Free.XT.cmpL (own_v0_94 j0 i1 i2 i3) (own_v0_50 j0 i1 i2 i3)))])) X7.here hx rfl (pc0 := 106) (pc' := 113) rfl (hb hby at_106) rfl (Jvm.Free.XT.ll_ne_t hc11) (by decide) (by decide) kt) ?_
        refine ownE.go (T' := T7) (f' := (mkF m 133 #[.val (.long j0), .second, .val (.int i1), .val (.int i2), .val (.int i3), .val (.int ((i2 &&& (2147483647 : Int32)) % (6 : Int32))), .val (.int (own_v0_13 j0 i1 i2 i3)), .val (.int ((64 : Int32) >>> (((i2 &&& (2147483647 : Int32)) % (6 : Int32)) &&& 31))), .val (.int (own_v0_29 j0 i1 i2 i3)), .val (.int (own_j0_42_S0 j0 i1 i2 i3)), .val (.long (own_v0_50 j0 i1 i2 i3)), .second, .val (.long (own_v0_57 j0 i1 i2 i3)), .second, .val (.ref b5), .val (.long (own_v0_78 j0 i1 i2 i3)), .second, .val (.int (own_v0_85 j0 i1 i2 i3)), .val (.long (own_v0_94 j0 i1 i2 i3)), .second, .val (.int (0 : Int32)), .unset, .unset, .unset, .unset] [])) (fun t kt => ?_) ?_
        · show Steps p.tables e below (T7.setTop (mkF m 113 #[.val (.long j0), .second, .val (.int i1), .val (.int i2), .val (.int i3), .val (.int ((i2 &&& (2147483647 : Int32)) % (6 : Int32))), .val (.int (own_v0_13 j0 i1 i2 i3)), .val (.int ((64 : Int32) >>> (((i2 &&& (2147483647 : Int32)) % (6 : Int32)) &&& 31))), .val (.int (own_v0_29 j0 i1 i2 i3)), .val (.int (own_j0_42_S0 j0 i1 i2 i3)), .val (.long (own_v0_50 j0 i1 i2 i3)), .second, .val (.long (own_v0_57 j0 i1 i2 i3)), .second, .val (.ref b5), .val (.long (own_v0_78 j0 i1 i2 i3)), .second, .val (.int (own_v0_85 j0 i1 i2 i3)), .val (.long (own_v0_94 j0 i1 i2 i3)), .second, .unset, .unset, .unset, .unset, .unset] [])) _
          refine XS.iconst X7.here hx rfl (hb hby at_113) ?_
          show Steps p.tables e below (T7.setTop (mkF m 114 #[.val (.long j0), .second, .val (.int i1), .val (.int i2), .val (.int i3), .val (.int ((i2 &&& (2147483647 : Int32)) % (6 : Int32))), .val (.int (own_v0_13 j0 i1 i2 i3)), .val (.int ((64 : Int32) >>> (((i2 &&& (2147483647 : Int32)) % (6 : Int32)) &&& 31))), .val (.int (own_v0_29 j0 i1 i2 i3)), .val (.int (own_j0_42_S0 j0 i1 i2 i3)), .val (.long (own_v0_50 j0 i1 i2 i3)), .second, .val (.long (own_v0_57 j0 i1 i2 i3)), .second, .val (.ref b5), .val (.long (own_v0_78 j0 i1 i2 i3)), .second, .val (.int (own_v0_85 j0 i1 i2 i3)), .val (.long (own_v0_94 j0 i1 i2 i3)), .second, .unset, .unset, .unset, .unset, .unset] [(.int (0 : Int32))])) _
          refine XS.istore X7.here hx rfl (hb hby at_114) rfl (l' := #[.val (.long j0), .second, .val (.int i1), .val (.int i2), .val (.int i3), .val (.int ((i2 &&& (2147483647 : Int32)) % (6 : Int32))), .val (.int (own_v0_13 j0 i1 i2 i3)), .val (.int ((64 : Int32) >>> (((i2 &&& (2147483647 : Int32)) % (6 : Int32)) &&& 31))), .val (.int (own_v0_29 j0 i1 i2 i3)), .val (.int (own_j0_42_S0 j0 i1 i2 i3)), .val (.long (own_v0_50 j0 i1 i2 i3)), .second, .val (.long (own_v0_57 j0 i1 i2 i3)), .second, .val (.ref b5), .val (.long (own_v0_78 j0 i1 i2 i3)), .second, .val (.int (own_v0_85 j0 i1 i2 i3)), .val (.long (own_v0_94 j0 i1 i2 i3)), .second, .val (.int (0 : Int32)), .unset, .unset, .unset, .unset]) rfl ?_
          show Steps p.tables e below (T7.setTop (mkF m 116 #[.val (.long j0), .second, .val (.int i1), .val (.int i2), .val (.int i3), .val (.int ((i2 &&& (2147483647 : Int32)) % (6 : Int32))), .val (.int (own_v0_13 j0 i1 i2 i3)), .val (.int ((64 : Int32) >>> (((i2 &&& (2147483647 : Int32)) % (6 : Int32)) &&& 31))), .val (.int (own_v0_29 j0 i1 i2 i3)), .val (.int (own_j0_42_S0 j0 i1 i2 i3)), .val (.long (own_v0_50 j0 i1 i2 i3)), .second, .val (.long (own_v0_57 j0 i1 i2 i3)), .second, .val (.ref b5), .val (.long (own_v0_78 j0 i1 i2 i3)), .second, .val (.int (own_v0_85 j0 i1 i2 i3)), .val (.long (own_v0_94 j0 i1 i2 i3)), .second, .val (.int (0 : Int32)), .unset, .unset, .unset, .unset] [])) _
          refine XS.goto X7.here hx rfl (pc0 := 116) (pc' := 133) rfl (hb hby at_116) (by decide) (by decide) ?_
          exact kt
        have jj := J12 _ _ X7 e7 N7
        rw [show (own_j0_133_L20 j0 i1 i2 i3) = (0 : Int32) from by rw [own_j0_133_L20, if_neg hc9, if_neg hc11]] at jj
        exact jj
  refine ownE.go (T' := s₁) (f' := (mkF m 34 #[.val (.long j0), .second, .val (.int i1), .val (.int i2), .val (.int i3), .val (.int ((i2 &&& (2147483647 : Int32)) % (6 : Int32))), .val (.int (own_v0_13 j0 i1 i2 i3)), .val (.int ((64 : Int32) >>> (((i2 &&& (2147483647 : Int32)) % (6 : Int32)) &&& 31))), .val (.int (own_v0_29 j0 i1 i2 i3)), .unset, .unset, .unset, .unset, .unset, .unset, .unset, .unset, .unset, .unset, .unset, .unset, .unset, .unset, .unset, .unset] [(.int (i1 &&& (1 : Int32)))])) (fun t kt => ?_) ?_
  · show Steps p.tables e below (s₁.setTop (mkF m 31 #[.val (.long j0), .second, .val (.int i1), .val (.int i2), .val (.int i3), .val (.int ((i2 &&& (2147483647 : Int32)) % (6 : Int32))), .val (.int (own_v0_13 j0 i1 i2 i3)), .val (.int ((64 : Int32) >>> (((i2 &&& (2147483647 : Int32)) % (6 : Int32)) &&& 31))), .val (.int (own_v0_29 j0 i1 i2 i3)), .unset, .unset, .unset, .unset, .unset, .unset, .unset, .unset, .unset, .unset, .unset, .unset, .unset, .unset, .unset, .unset] [])) _
    refine XS.iloadN X0.here hx rfl (hb hby at_31) rfl ?_
    show Steps p.tables e below (s₁.setTop (mkF m 32 #[.val (.long j0), .second, .val (.int i1), .val (.int i2), .val (.int i3), .val (.int ((i2 &&& (2147483647 : Int32)) % (6 : Int32))), .val (.int (own_v0_13 j0 i1 i2 i3)), .val (.int ((64 : Int32) >>> (((i2 &&& (2147483647 : Int32)) % (6 : Int32)) &&& 31))), .val (.int (own_v0_29 j0 i1 i2 i3)), .unset, .unset, .unset, .unset, .unset, .unset, .unset, .unset, .unset, .unset, .unset, .unset, .unset, .unset, .unset, .unset] [(.int i1)])) _
    refine XS.iconst X0.here hx rfl (hb hby at_32) ?_
    show Steps p.tables e below (s₁.setTop (mkF m 33 #[.val (.long j0), .second, .val (.int i1), .val (.int i2), .val (.int i3), .val (.int ((i2 &&& (2147483647 : Int32)) % (6 : Int32))), .val (.int (own_v0_13 j0 i1 i2 i3)), .val (.int ((64 : Int32) >>> (((i2 &&& (2147483647 : Int32)) % (6 : Int32)) &&& 31))), .val (.int (own_v0_29 j0 i1 i2 i3)), .unset, .unset, .unset, .unset, .unset, .unset, .unset, .unset, .unset, .unset, .unset, .unset, .unset, .unset, .unset, .unset] [(.int (1 : Int32)), (.int i1)])) _
    refine XS.iand X0.here hx rfl (hb hby at_33) rfl ?_
    exact kt
  by_cases hc2 : (i1 &&& (1 : Int32)) = (0 : Int32)
  · -- pc 34
    refine ownE.go (T' := s₁) (f' := (mkF m 41 #[.val (.long j0), .second, .val (.int i1), .val (.int i2), .val (.int i3), .val (.int ((i2 &&& (2147483647 : Int32)) % (6 : Int32))), .val (.int (own_v0_13 j0 i1 i2 i3)), .val (.int ((64 : Int32) >>> (((i2 &&& (2147483647 : Int32)) % (6 : Int32)) &&& 31))), .val (.int (own_v0_29 j0 i1 i2 i3)), .unset, .unset, .unset, .unset, .unset, .unset, .unset, .unset, .unset, .unset, .unset, .unset, .unset, .unset, .unset, .unset] [])) (fun t kt => XS.ifYes (g := (mkF m 34 #[.val (.long j0), .second, .val (.int i1), .val (.int i2), .val (.int i3), .val (.int ((i2 &&& (2147483647 : Int32)) % (6 : Int32))), .val (.int (own_v0_13 j0 i1 i2 i3)), .val (.int ((64 : Int32) >>> (((i2 &&& (2147483647 : Int32)) % (6 : Int32)) &&& 31))), .val (.int (own_v0_29 j0 i1 i2 i3)), .unset, .unset, .unset, .unset, .unset, .unset, .unset, .unset, .unset, .unset, .unset, .unset, .unset, .unset, .unset, .unset] [(.int (i1 &&& (1 : Int32)))])) X0.here hx rfl (pc0 := 34) (pc' := 41) rfl (hb hby at_34) rfl (Jvm.Free.XT.i0_eq_t hc2) (by decide) (by decide) kt) ?_
    refine ownE.go (T' := s₁) (f' := (mkF m 42 #[.val (.long j0), .second, .val (.int i1), .val (.int i2), .val (.int i3), .val (.int ((i2 &&& (2147483647 : Int32)) % (6 : Int32))), .val (.int (own_v0_13 j0 i1 i2 i3)), .val (.int ((64 : Int32) >>> (((i2 &&& (2147483647 : Int32)) % (6 : Int32)) &&& 31))), .val (.int (own_v0_29 j0 i1 i2 i3)), .unset, .unset, .unset, .unset, .unset, .unset, .unset, .unset, .unset, .unset, .unset, .unset, .unset, .unset, .unset, .unset] [(.int (0 : Int32))])) (fun t kt => ?_) ?_
    · show Steps p.tables e below (s₁.setTop (mkF m 41 #[.val (.long j0), .second, .val (.int i1), .val (.int i2), .val (.int i3), .val (.int ((i2 &&& (2147483647 : Int32)) % (6 : Int32))), .val (.int (own_v0_13 j0 i1 i2 i3)), .val (.int ((64 : Int32) >>> (((i2 &&& (2147483647 : Int32)) % (6 : Int32)) &&& 31))), .val (.int (own_v0_29 j0 i1 i2 i3)), .unset, .unset, .unset, .unset, .unset, .unset, .unset, .unset, .unset, .unset, .unset, .unset, .unset, .unset, .unset, .unset] [])) _
      refine XS.iconst X0.here hx rfl (hb hby at_41) ?_
      exact kt
    have jj := J3 _ _ X0 e0 N0
    rw [show (own_j0_42_S0 j0 i1 i2 i3) = (0 : Int32) from by rw [own_j0_42_S0, if_pos hc2]] at jj
    exact jj
  · -- pc 34
    refine ownE.go (T' := s₁) (f' := (mkF m 37 #[.val (.long j0), .second, .val (.int i1), .val (.int i2), .val (.int i3), .val (.int ((i2 &&& (2147483647 : Int32)) % (6 : Int32))), .val (.int (own_v0_13 j0 i1 i2 i3)), .val (.int ((64 : Int32) >>> (((i2 &&& (2147483647 : Int32)) % (6 : Int32)) &&& 31))), .val (.int (own_v0_29 j0 i1 i2 i3)), .unset, .unset, .unset, .unset, .unset, .unset, .unset, .unset, .unset, .unset, .unset, .unset, .unset, .unset, .unset, .unset] [])) (fun t kt => XS.ifNo (g := (mkF m 34 #[.val (.long j0), .second, .val (.int i1), .val (.int i2), .val (.int i3), .val (.int ((i2 &&& (2147483647 : Int32)) % (6 : Int32))), .val (.int (own_v0_13 j0 i1 i2 i3)), .val (.int ((64 : Int32) >>> (((i2 &&& (2147483647 : Int32)) % (6 : Int32)) &&& 31))), .val (.int (own_v0_29 j0 i1 i2 i3)), .unset, .unset, .unset, .unset, .unset, .unset, .unset, .unset, .unset, .unset, .unset, .unset, .unset, .unset, .unset, .unset] [(.int (i1 &&& (1 : Int32)))])) X0.here hx rfl (hb hby at_34) rfl (Jvm.Free.XT.i0_eq_f hc2) kt) ?_
    refine ownE.go (T' := s₁) (f' := (mkF m 42 #[.val (.long j0), .second, .val (.int i1), .val (.int i2), .val (.int i3), .val (.int ((i2 &&& (2147483647 : Int32)) % (6 : Int32))), .val (.int (own_v0_13 j0 i1 i2 i3)), .val (.int ((64 : Int32) >>> (((i2 &&& (2147483647 : Int32)) % (6 : Int32)) &&& 31))), .val (.int (own_v0_29 j0 i1 i2 i3)), .unset, .unset, .unset, .unset, .unset, .unset, .unset, .unset, .unset, .unset, .unset, .unset, .unset, .unset, .unset, .unset] [(.int (1 : Int32))])) (fun t kt => ?_) ?_
    · show Steps p.tables e below (s₁.setTop (mkF m 37 #[.val (.long j0), .second, .val (.int i1), .val (.int i2), .val (.int i3), .val (.int ((i2 &&& (2147483647 : Int32)) % (6 : Int32))), .val (.int (own_v0_13 j0 i1 i2 i3)), .val (.int ((64 : Int32) >>> (((i2 &&& (2147483647 : Int32)) % (6 : Int32)) &&& 31))), .val (.int (own_v0_29 j0 i1 i2 i3)), .unset, .unset, .unset, .unset, .unset, .unset, .unset, .unset, .unset, .unset, .unset, .unset, .unset, .unset, .unset, .unset] [])) _
      refine XS.iconst X0.here hx rfl (hb hby at_37) ?_
      show Steps p.tables e below (s₁.setTop (mkF m 38 #[.val (.long j0), .second, .val (.int i1), .val (.int i2), .val (.int i3), .val (.int ((i2 &&& (2147483647 : Int32)) % (6 : Int32))), .val (.int (own_v0_13 j0 i1 i2 i3)), .val (.int ((64 : Int32) >>> (((i2 &&& (2147483647 : Int32)) % (6 : Int32)) &&& 31))), .val (.int (own_v0_29 j0 i1 i2 i3)), .unset, .unset, .unset, .unset, .unset, .unset, .unset, .unset, .unset, .unset, .unset, .unset, .unset, .unset, .unset, .unset] [(.int (1 : Int32))])) _
      refine XS.goto X0.here hx rfl (pc0 := 38) (pc' := 42) rfl (hb hby at_38) (by decide) (by decide) ?_
      exact kt
    have jj := J3 _ _ X0 e0 N0
    rw [show (own_j0_42_S0 j0 i1 i2 i3) = (1 : Int32) from by rw [own_j0_42_S0, if_neg hc2]] at jj
    exact jj
/-! cells of a word: x / P % M, with P = 2 ^ s, M = 2 ^ w -/
theorem own_c_and (x y s w : Nat) : (x &&& y) / 2 ^ s % 2 ^ w = (x / 2 ^ s % 2 ^ w) &&& (y / 2 ^ s % 2 ^ w) := by
  rw [← Nat.shiftRight_eq_div_pow, ← Nat.shiftRight_eq_div_pow, ← Nat.shiftRight_eq_div_pow, Nat.shiftRight_and_distrib, Nat.and_mod_two_pow]
theorem own_c_or (x y s w : Nat) : (x ||| y) / 2 ^ s % 2 ^ w = (x / 2 ^ s % 2 ^ w) ||| (y / 2 ^ s % 2 ^ w) := by
  rw [← Nat.shiftRight_eq_div_pow, ← Nat.shiftRight_eq_div_pow, ← Nat.shiftRight_eq_div_pow, Nat.shiftRight_or_distrib, Nat.or_mod_two_pow]
theorem own_c_xor (x y s w : Nat) : (x ^^^ y) / 2 ^ s % 2 ^ w = (x / 2 ^ s % 2 ^ w) ^^^ (y / 2 ^ s % 2 ^ w) := by
  rw [← Nat.shiftRight_eq_div_pow, ← Nat.shiftRight_eq_div_pow, ← Nat.shiftRight_eq_div_pow, Nat.shiftRight_xor_distrib, Nat.xor_mod_two_pow]
/-! words as numbers -/
def own_N (x : Int64) : Nat := x.toBitVec.toNat
theorem own_n_and (a b : Int64) : own_N (a &&& b) = own_N a &&& own_N b := by unfold own_N; rw [Int64.toBitVec_and, BitVec.toNat_and]
theorem own_n_or (a b : Int64) : own_N (a ||| b) = own_N a ||| own_N b := by unfold own_N; rw [Int64.toBitVec_or, BitVec.toNat_or]
theorem own_n_xor (a b : Int64) : own_N (a ^^^ b) = own_N a ^^^ own_N b := by unfold own_N; rw [Int64.toBitVec_xor, BitVec.toNat_xor]
theorem own_n_m1 : own_N (-1 : Int64) = 2 ^ 64 - 1 := by decide +kernel
theorem own_n_lt (a : Int64) : own_N a < 2 ^ 64 := a.toBitVec.isLt
theorem own_n_sub (a b : Int64) : own_N (a - b) = (2 ^ 64 + own_N a - own_N b) % 2 ^ 64 := by
  have := own_n_lt b
  unfold own_N at *
  rw [Int64.toBitVec_sub, BitVec.toNat_sub]
  congr 1
  omega
theorem own_n_add (a b : Int64) : own_N (a + b) = (own_N a + own_N b) % 2 ^ 64 := by unfold own_N; rw [Int64.toBitVec_add, BitVec.toNat_add]
theorem own_n_mul (a b : Int64) : own_N (a * b) = (own_N a * own_N b) % 2 ^ 64 := by unfold own_N; rw [Int64.toBitVec_mul, BitVec.toNat_mul]
theorem own_n_inj {a b : Int64} (h : own_N a = own_N b) : a = b := Int64.toBitVec_inj.mp (BitVec.eq_of_toNat_eq h)
theorem own_n_ushr (x : Int64) (q : Int32) (k : Nat) (hk : q.toBitVec.toNat % 64 = k) : own_N ((x.toUInt64 >>> (q &&& 0x3f).toInt64.toUInt64).toInt64) = own_N x / 2 ^ k := by
  obtain ⟨e, l⟩ := sm64 q k hk
  show (x.toUInt64 >>> (q &&& 0x3f).toInt64.toUInt64).toBitVec.toNat = _
  rw [UInt64.toBitVec_shiftRight]
  have e' : (q &&& 0x3f).toInt64.toUInt64.toBitVec = BitVec.ofNat 64 k := e
  rw [e', BitVec.ushiftRight_eq', BitVec.toNat_ushiftRight, BitVec.toNat_umod, BitVec.toNat_ofNat]
  have z : (64 : BitVec 64).toNat = 64 := by decide
  rw [z, Nat.mod_eq_of_lt (show k < 2 ^ 64 by omega), Nat.mod_eq_of_lt l, Nat.shiftRight_eq_div_pow]
  rfl
theorem own_n_toInt (x : Int64) (h : own_N x < 2 ^ 63) : x.toInt = (own_N x : Int) := by
  unfold own_N at *
  show x.toBitVec.toInt = _
  rw [BitVec.toInt_eq_toNat_of_lt (by omega)]
theorem own_mask (n w : Nat) : n &&& (2 ^ w - 1) = n % 2 ^ w := Nat.and_two_pow_sub_one_eq_mod n w

theorem own_nth (x m : Int32) (k : Nat) (hk : k ≤ 31) (hm : m.toBitVec.toNat = 2 ^ k - 1) : ∃ n : Fin (2 ^ k), x &&& m = Int32.ofInt (n.val : Int) := by
  have h := c_mask x m k hk hm
  have p : 0 < 2 ^ k := Nat.two_pow_pos k
  have l := Int.emod_lt_of_pos x.toInt (show (0 : Int) < ((2 ^ k : Nat) : Int) by omega)
  have g := Int.emod_nonneg x.toInt (show ((2 ^ k : Nat) : Int) ≠ 0 by omega)
  refine ⟨⟨(x.toInt % ((2 ^ k : Nat) : Int)).toNat, by omega⟩, ?_⟩
  show _ = Int32.ofInt ((x.toInt % ((2 ^ k : Nat) : Int)).toNat : Int)
  rw [Int.toNat_of_nonneg g, ← h, Int32.ofInt_toInt]
def own_A (X : Nat) : Nat → Nat
  | 0 => X
  | k + 1 => own_A X k &&& (own_A X k / 2 ^ (2 ^ k))
def own_O (X : Nat) : Nat → Nat
  | 0 => X
  | k + 1 => own_O X k ||| (own_O X k / 2 ^ (2 ^ k))
theorem own_A_bit (X k : Nat) : ∀ i, (own_A X k).testBit i = true ↔ ∀ j, j < 2 ^ k → X.testBit (i + j) = true := by
  induction k with
  | zero =>
    intro i
    show X.testBit i = true ↔ _
    constructor
    · intro h j hj
      have : j = 0 := by simpa using hj
      rw [this]; exact h
    · intro h; exact h 0 (by decide)
  | succ k ih =>
    intro i
    show (own_A X k &&& (own_A X k / 2 ^ (2 ^ k))).testBit i = true ↔ _
    rw [Nat.testBit_and, Bool.and_eq_true, Nat.testBit_div_two_pow, ih, ih]
    have d := Nat.pow_succ 2 k
    have p := Nat.two_pow_pos k
    constructor
    · intro h j hj
      by_cases q : j < 2 ^ k
      · exact h.1 j q
      · have := h.2 (j - 2 ^ k) (by omega)
        have e : i + 2 ^ k + (j - 2 ^ k) = i + j := by omega
        rw [e] at this; exact this
    · intro h
      refine ⟨fun j hj => h j (by omega), fun j hj => ?_⟩
      have := h (2 ^ k + j) (by omega)
      have e : i + (2 ^ k + j) = i + 2 ^ k + j := by omega
      rw [e] at this; exact this
theorem own_O_bit (X k : Nat) : ∀ i, (own_O X k).testBit i = true ↔ ∃ j, j < 2 ^ k ∧ X.testBit (i + j) = true := by
  induction k with
  | zero =>
    intro i
    show X.testBit i = true ↔ _
    constructor
    · intro h; exact ⟨0, by decide, h⟩
    · intro ⟨j, hj, h⟩
      have : j = 0 := by simpa using hj
      rw [this] at h; exact h
  | succ k ih =>
    intro i
    show (own_O X k ||| (own_O X k / 2 ^ (2 ^ k))).testBit i = true ↔ _
    rw [Nat.testBit_or, Bool.or_eq_true, Nat.testBit_div_two_pow, ih, ih]
    have d := Nat.pow_succ 2 k
    have p := Nat.two_pow_pos k
    constructor
    · intro h
      rcases h with ⟨j, hj, h⟩ | ⟨j, hj, h⟩
      · exact ⟨j, by omega, h⟩
      · refine ⟨2 ^ k + j, by omega, ?_⟩
        have e : i + (2 ^ k + j) = i + 2 ^ k + j := by omega
        rw [e]; exact h
    · intro ⟨j, hj, h⟩
      by_cases q : j < 2 ^ k
      · exact Or.inl ⟨j, q, h⟩
      · refine Or.inr ⟨j - 2 ^ k, by omega, ?_⟩
        have e : i + 2 ^ k + (j - 2 ^ k) = i + j := by omega
        rw [e]; exact h
theorem own_cell_bit (X s w j : Nat) : (X / 2 ^ s % 2 ^ w).testBit j = (decide (j < w) && X.testBit (s + j)) := by
  rw [Nat.testBit_mod_two_pow, Nat.testBit_div_two_pow, Nat.add_comm j s]
theorem own_all (X s w : Nat) : X / 2 ^ s % 2 ^ w = 2 ^ w - 1 ↔ ∀ j, j < w → X.testBit (s + j) = true := by
  constructor
  · intro h j hj
    have := own_cell_bit X s w j
    rw [h, Nat.testBit_two_pow_sub_one] at this
    simpa [hj] using this.symm
  · intro h
    apply Nat.eq_of_testBit_eq
    intro j
    rw [own_cell_bit, Nat.testBit_two_pow_sub_one]
    by_cases hj : j < w
    · simp [hj, h j hj]
    · simp [hj]
theorem own_some (X s w : Nat) : ¬ X / 2 ^ s % 2 ^ w = 0 ↔ ∃ j, j < w ∧ X.testBit (s + j) = true := by
  constructor
  · intro h
    by_cases q : ∃ j, j < w ∧ X.testBit (s + j) = true
    · exact q
    · refine absurd ?_ h
      apply Nat.eq_of_testBit_eq
      intro j
      rw [own_cell_bit, Nat.zero_testBit]
      by_cases hj : j < w
      · have : ¬ X.testBit (s + j) = true := fun y => q ⟨j, hj, y⟩
        simp [hj, this]
      · simp [hj]
  · intro ⟨j, hj, h⟩ z
    have := own_cell_bit X s w j
    rw [z, Nat.zero_testBit] at this
    simp [hj, h] at this
theorem own_low (Y LB s w : Nat) (hw : 1 ≤ w) (h : LB / 2 ^ s % 2 ^ w = 1) : (Y &&& LB) / 2 ^ s % 2 ^ w = if Y.testBit s = true then 1 else 0 := by
  rw [own_c_and, h, Nat.and_one_is_mod, Nat.mod_mod_of_dvd _ (Nat.pow_dvd_pow 2 hw |> fun d => by simpa using d), Nat.testBit_eq_decide_div_mod_eq]
  have := Nat.mod_two_eq_zero_or_one (Y / 2 ^ s)
  rcases this with q | q <;> simp [q]
theorem own_noHigh (Y LB : Nat) (h : LB < 2 ^ 64) : (Y &&& LB) &&& (LB ^^^ (2 ^ 64 - 1)) = 0 := by
  apply Nat.eq_of_testBit_eq
  intro i
  rw [Nat.testBit_and, Nat.testBit_and, Nat.testBit_xor, Nat.testBit_two_pow_sub_one, Nat.zero_testBit]
  by_cases hi : i < 64
  · simp [hi]
  · have : LB.testBit i = false := Nat.testBit_lt_two_pow (Nat.lt_of_lt_of_le h (Nat.pow_le_pow_right (by decide) (by omega)))
    simp [this]
/-- the two judgements, of any width -/
theorem own_judge (R W lb mask : Int64) (fl q : Int32) (s k : Nat) (hs : q.toBitVec.toNat % 64 = s) (hm : own_N mask = 2 ^ (2 ^ k) - 1) (hl : own_N lb / 2 ^ s % 2 ^ (2 ^ k) = 1) (hk : 2 ^ k ≤ 32)
    (hR : own_N R = (if fl = (0 : Int32) then own_O (own_N W) k else own_A (own_N W) k) &&& own_N lb) (E : Int64) (hE : E = if (if fl = (0 : Int32) then (if ((W.toUInt64 >>> (q &&& 0x3f).toInt64.toUInt64).toInt64) &&& mask = (0 : Int64) then (0 : Int32) else (1 : Int32)) else (if ((W.toUInt64 >>> (q &&& 0x3f).toInt64.toUInt64).toInt64) &&& mask = mask then (1 : Int32) else (0 : Int32))) = (0 : Int32) then (0 : Int64) else (1 : Int64)) :
    R &&& (lb ^^^ (-1 : Int64)) = (0 : Int64) ∧ ((R.toUInt64 >>> (q &&& 0x3f).toInt64.toUInt64).toInt64) &&& mask = E := by
  have c : ∀ X : Int64, own_N (((X.toUInt64 >>> (q &&& 0x3f).toInt64.toUInt64).toInt64) &&& mask) = own_N X / 2 ^ s % 2 ^ (2 ^ k) := fun X => by rw [own_n_and, own_n_ushr X q s hs, hm, own_mask]
  have z0 : own_N (0 : Int64) = 0 := by decide
  have z1 : own_N (1 : Int64) = 1 := by decide
  constructor
  · apply own_n_inj
    rw [own_n_and, own_n_xor, own_n_m1, hR, own_noHigh _ _ (own_n_lt lb), z0]
  · apply own_n_inj
    rw [c, hR, own_low _ _ _ _ (Nat.one_le_two_pow) hl, hE]
    have iz : (((W.toUInt64 >>> (q &&& 0x3f).toInt64.toUInt64).toInt64) &&& mask = (0 : Int64)) ↔ own_N W / 2 ^ s % 2 ^ (2 ^ k) = 0 := by
      rw [← c W]
      exact ⟨fun h => by rw [h, z0], fun h => own_n_inj (by rw [h, z0])⟩
    have im : (((W.toUInt64 >>> (q &&& 0x3f).toInt64.toUInt64).toInt64) &&& mask = mask) ↔ own_N W / 2 ^ s % 2 ^ (2 ^ k) = 2 ^ (2 ^ k) - 1 := by
      rw [← c W, ← hm]
      exact ⟨fun h => by rw [h], fun h => own_n_inj h⟩
    have n10 : ¬ (1 : Int32) = 0 := by decide
    by_cases hf : fl = (0 : Int32)
    · simp only [if_pos hf]
      by_cases h : ((W.toUInt64 >>> (q &&& 0x3f).toInt64.toUInt64).toInt64) &&& mask = (0 : Int64)
      · have n : ¬ (own_O (own_N W) k).testBit s = true := fun y => (own_some _ _ _).mpr ((own_O_bit _ _ _).mp y) (iz.mp h)
        rw [if_neg n, if_pos h, if_pos rfl, z0]
      · have y : (own_O (own_N W) k).testBit s = true := (own_O_bit _ _ _).mpr ((own_some _ _ _).mp fun u => h (iz.mpr u))
        rw [if_pos y, if_neg h, if_neg n10, z1]
    · simp only [if_neg hf]
      by_cases h : ((W.toUInt64 >>> (q &&& 0x3f).toInt64.toUInt64).toInt64) &&& mask = mask
      · have y : (own_A (own_N W) k).testBit s = true := (own_A_bit _ _ _).mpr ((own_all _ _ _).mp (im.mp h))
        rw [if_pos y, if_pos h, if_neg n10, z1]
      · have n : ¬ (own_A (own_N W) k).testBit s = true := fun y => h (im.mpr ((own_all _ _ _).mpr ((own_A_bit _ _ _).mp y)))
        rw [if_neg n, if_neg h, if_pos rfl, z0]
theorem own_fold0 (W : Int64) (fl : Int32) (lb : Int64) : own_N (own_fold W fl (1 : Int32) lb) = (if fl = (0 : Int32) then own_O (own_N W) 0 else own_A (own_N W) 0) &&& own_N lb := by
  unfold own_fold
  rw [if_pos (show (1 : Int32) = (1 : Int32) from rfl)]
  rw [own_n_and]
  split <;> rfl
theorem own_fold1 (W : Int64) (fl : Int32) (lb : Int64) : own_N (own_fold W fl (2 : Int32) lb) = (if fl = (0 : Int32) then own_O (own_N W) 1 else own_A (own_N W) 1) &&& own_N lb := by
  unfold own_fold
  rw [if_neg (show ¬ (2 : Int32) = (1 : Int32) by decide)]
  rw [if_pos (show (2 : Int32) = (2 : Int32) from rfl)]
  by_cases h : fl = (0 : Int32)
  · rw [if_pos h, if_pos h, own_n_and]
    have f0 : own_N (own_v5_38 W fl (2 : Int32) lb) = own_O (own_N W) 1 := by
      unfold own_v5_38
      rw [own_n_or, own_n_ushr _ _ 1 (by decide)]
      rfl
    rw [f0]
  · rw [if_neg h, if_neg h, own_n_and]
    have f0 : own_N (own_v5_38_2 W fl (2 : Int32) lb) = own_A (own_N W) 1 := by
      unfold own_v5_38_2
      rw [own_n_and, own_n_ushr _ _ 1 (by decide)]
      rfl
    rw [f0]
theorem own_fold2 (W : Int64) (fl : Int32) (lb : Int64) : own_N (own_fold W fl (4 : Int32) lb) = (if fl = (0 : Int32) then own_O (own_N W) 2 else own_A (own_N W) 2) &&& own_N lb := by
  unfold own_fold
  rw [if_neg (show ¬ (4 : Int32) = (1 : Int32) by decide)]
  rw [if_neg (show ¬ (4 : Int32) = (2 : Int32) by decide)]
  rw [if_pos (show (4 : Int32) = (4 : Int32) from rfl)]
  by_cases h : fl = (0 : Int32)
  · rw [if_pos h, if_pos h, own_n_and]
    have f0 : own_N (own_v5_38_3 W fl (4 : Int32) lb) = own_O (own_N W) 1 := by
      unfold own_v5_38_3
      rw [own_n_or, own_n_ushr _ _ 1 (by decide)]
      rfl
    have f1 : own_N (own_v5_38_4 W fl (4 : Int32) lb) = own_O (own_N W) 2 := by
      unfold own_v5_38_4
      rw [own_n_or, own_n_ushr _ _ 2 (by decide), f0]
      rfl
    rw [f1]
  · rw [if_neg h, if_neg h, own_n_and]
    have f0 : own_N (own_v5_38_5 W fl (4 : Int32) lb) = own_A (own_N W) 1 := by
      unfold own_v5_38_5
      rw [own_n_and, own_n_ushr _ _ 1 (by decide)]
      rfl
    have f1 : own_N (own_v5_38_6 W fl (4 : Int32) lb) = own_A (own_N W) 2 := by
      unfold own_v5_38_6
      rw [own_n_and, own_n_ushr _ _ 2 (by decide), f0]
      rfl
    rw [f1]
theorem own_fold3 (W : Int64) (fl : Int32) (lb : Int64) : own_N (own_fold W fl (8 : Int32) lb) = (if fl = (0 : Int32) then own_O (own_N W) 3 else own_A (own_N W) 3) &&& own_N lb := by
  unfold own_fold
  rw [if_neg (show ¬ (8 : Int32) = (1 : Int32) by decide)]
  rw [if_neg (show ¬ (8 : Int32) = (2 : Int32) by decide)]
  rw [if_neg (show ¬ (8 : Int32) = (4 : Int32) by decide)]
  rw [if_pos (show (8 : Int32) = (8 : Int32) from rfl)]
  by_cases h : fl = (0 : Int32)
  · rw [if_pos h, if_pos h, own_n_and]
    have f0 : own_N (own_v5_38_7 W fl (8 : Int32) lb) = own_O (own_N W) 1 := by
      unfold own_v5_38_7
      rw [own_n_or, own_n_ushr _ _ 1 (by decide)]
      rfl
    have f1 : own_N (own_v5_38_8 W fl (8 : Int32) lb) = own_O (own_N W) 2 := by
      unfold own_v5_38_8
      rw [own_n_or, own_n_ushr _ _ 2 (by decide), f0]
      rfl
    have f2 : own_N (own_v5_38_9 W fl (8 : Int32) lb) = own_O (own_N W) 3 := by
      unfold own_v5_38_9
      rw [own_n_or, own_n_ushr _ _ 4 (by decide), f1]
      rfl
    rw [f2]
  · rw [if_neg h, if_neg h, own_n_and]
    have f0 : own_N (own_v5_38_10 W fl (8 : Int32) lb) = own_A (own_N W) 1 := by
      unfold own_v5_38_10
      rw [own_n_and, own_n_ushr _ _ 1 (by decide)]
      rfl
    have f1 : own_N (own_v5_38_11 W fl (8 : Int32) lb) = own_A (own_N W) 2 := by
      unfold own_v5_38_11
      rw [own_n_and, own_n_ushr _ _ 2 (by decide), f0]
      rfl
    have f2 : own_N (own_v5_38_12 W fl (8 : Int32) lb) = own_A (own_N W) 3 := by
      unfold own_v5_38_12
      rw [own_n_and, own_n_ushr _ _ 4 (by decide), f1]
      rfl
    rw [f2]
theorem own_fold4 (W : Int64) (fl : Int32) (lb : Int64) : own_N (own_fold W fl (16 : Int32) lb) = (if fl = (0 : Int32) then own_O (own_N W) 4 else own_A (own_N W) 4) &&& own_N lb := by
  unfold own_fold
  rw [if_neg (show ¬ (16 : Int32) = (1 : Int32) by decide)]
  rw [if_neg (show ¬ (16 : Int32) = (2 : Int32) by decide)]
  rw [if_neg (show ¬ (16 : Int32) = (4 : Int32) by decide)]
  rw [if_neg (show ¬ (16 : Int32) = (8 : Int32) by decide)]
  rw [if_pos (show (16 : Int32) = (16 : Int32) from rfl)]
  by_cases h : fl = (0 : Int32)
  · rw [if_pos h, if_pos h, own_n_and]
    have f0 : own_N (own_v5_38_13 W fl (16 : Int32) lb) = own_O (own_N W) 1 := by
      unfold own_v5_38_13
      rw [own_n_or, own_n_ushr _ _ 1 (by decide)]
      rfl
    have f1 : own_N (own_v5_38_14 W fl (16 : Int32) lb) = own_O (own_N W) 2 := by
      unfold own_v5_38_14
      rw [own_n_or, own_n_ushr _ _ 2 (by decide), f0]
      rfl
    have f2 : own_N (own_v5_38_15 W fl (16 : Int32) lb) = own_O (own_N W) 3 := by
      unfold own_v5_38_15
      rw [own_n_or, own_n_ushr _ _ 4 (by decide), f1]
      rfl
    have f3 : own_N (own_v5_38_16 W fl (16 : Int32) lb) = own_O (own_N W) 4 := by
      unfold own_v5_38_16
      rw [own_n_or, own_n_ushr _ _ 8 (by decide), f2]
      rfl
    rw [f3]
  · rw [if_neg h, if_neg h, own_n_and]
    have f0 : own_N (own_v5_38_17 W fl (16 : Int32) lb) = own_A (own_N W) 1 := by
      unfold own_v5_38_17
      rw [own_n_and, own_n_ushr _ _ 1 (by decide)]
      rfl
    have f1 : own_N (own_v5_38_18 W fl (16 : Int32) lb) = own_A (own_N W) 2 := by
      unfold own_v5_38_18
      rw [own_n_and, own_n_ushr _ _ 2 (by decide), f0]
      rfl
    have f2 : own_N (own_v5_38_19 W fl (16 : Int32) lb) = own_A (own_N W) 3 := by
      unfold own_v5_38_19
      rw [own_n_and, own_n_ushr _ _ 4 (by decide), f1]
      rfl
    have f3 : own_N (own_v5_38_20 W fl (16 : Int32) lb) = own_A (own_N W) 4 := by
      unfold own_v5_38_20
      rw [own_n_and, own_n_ushr _ _ 8 (by decide), f2]
      rfl
    rw [f3]
theorem own_fold5 (W : Int64) (fl : Int32) (lb : Int64) : own_N (own_fold W fl (32 : Int32) lb) = (if fl = (0 : Int32) then own_O (own_N W) 5 else own_A (own_N W) 5) &&& own_N lb := by
  unfold own_fold
  rw [if_neg (show ¬ (32 : Int32) = (1 : Int32) by decide)]
  rw [if_neg (show ¬ (32 : Int32) = (2 : Int32) by decide)]
  rw [if_neg (show ¬ (32 : Int32) = (4 : Int32) by decide)]
  rw [if_neg (show ¬ (32 : Int32) = (8 : Int32) by decide)]
  rw [if_neg (show ¬ (32 : Int32) = (16 : Int32) by decide)]
  by_cases h : fl = (0 : Int32)
  · rw [if_pos h, if_pos h, own_n_and]
    have f0 : own_N (own_v5_38_21 W fl (32 : Int32) lb) = own_O (own_N W) 1 := by
      unfold own_v5_38_21
      rw [own_n_or, own_n_ushr _ _ 1 (by decide)]
      rfl
    have f1 : own_N (own_v5_38_22 W fl (32 : Int32) lb) = own_O (own_N W) 2 := by
      unfold own_v5_38_22
      rw [own_n_or, own_n_ushr _ _ 2 (by decide), f0]
      rfl
    have f2 : own_N (own_v5_38_23 W fl (32 : Int32) lb) = own_O (own_N W) 3 := by
      unfold own_v5_38_23
      rw [own_n_or, own_n_ushr _ _ 4 (by decide), f1]
      rfl
    have f3 : own_N (own_v5_38_24 W fl (32 : Int32) lb) = own_O (own_N W) 4 := by
      unfold own_v5_38_24
      rw [own_n_or, own_n_ushr _ _ 8 (by decide), f2]
      rfl
    have f4 : own_N (own_v5_38_25 W fl (32 : Int32) lb) = own_O (own_N W) 5 := by
      unfold own_v5_38_25
      rw [own_n_or, own_n_ushr _ _ 16 (by decide), f3]
      rfl
    rw [f4]
  · rw [if_neg h, if_neg h, own_n_and]
    have f0 : own_N (own_v5_38_26 W fl (32 : Int32) lb) = own_A (own_N W) 1 := by
      unfold own_v5_38_26
      rw [own_n_and, own_n_ushr _ _ 1 (by decide)]
      rfl
    have f1 : own_N (own_v5_38_27 W fl (32 : Int32) lb) = own_A (own_N W) 2 := by
      unfold own_v5_38_27
      rw [own_n_and, own_n_ushr _ _ 2 (by decide), f0]
      rfl
    have f2 : own_N (own_v5_38_28 W fl (32 : Int32) lb) = own_A (own_N W) 3 := by
      unfold own_v5_38_28
      rw [own_n_and, own_n_ushr _ _ 4 (by decide), f1]
      rfl
    have f3 : own_N (own_v5_38_29 W fl (32 : Int32) lb) = own_A (own_N W) 4 := by
      unfold own_v5_38_29
      rw [own_n_and, own_n_ushr _ _ 8 (by decide), f2]
      rfl
    have f4 : own_N (own_v5_38_30 W fl (32 : Int32) lb) = own_A (own_N W) 5 := by
      unfold own_v5_38_30
      rw [own_n_and, own_n_ushr _ _ 16 (by decide), f3]
      rfl
    rw [f4]
theorem own_lbN0 : own_N (own_lb (1 : Int32)) = 18446744073709551615 := by decide +kernel
theorem own_lbE0 : own_lbo (0 : Int32) = own_lb (1 : Int32) := by decide +kernel
theorem own_ok0 : ∀ n : Fin (2 ^ 6), 18446744073709551615 / 2 ^ ((Int32.ofInt (n.val : Int) * (1 : Int32)).toBitVec.toNat % 64) % 2 ^ (2 ^ 0) = 1 := by decide +kernel
theorem own_lbN1 : own_N (own_lb (2 : Int32)) = 6148914691236517205 := by decide +kernel
theorem own_lbE1 : own_lbo (1 : Int32) = own_lb (2 : Int32) := by decide +kernel
theorem own_ok1 : ∀ n : Fin (2 ^ 5), 6148914691236517205 / 2 ^ ((Int32.ofInt (n.val : Int) * (2 : Int32)).toBitVec.toNat % 64) % 2 ^ (2 ^ 1) = 1 := by decide +kernel
theorem own_lbN2 : own_N (own_lb (4 : Int32)) = 1229782938247303441 := by decide +kernel
theorem own_lbE2 : own_lbo (2 : Int32) = own_lb (4 : Int32) := by decide +kernel
theorem own_ok2 : ∀ n : Fin (2 ^ 4), 1229782938247303441 / 2 ^ ((Int32.ofInt (n.val : Int) * (4 : Int32)).toBitVec.toNat % 64) % 2 ^ (2 ^ 2) = 1 := by decide +kernel
theorem own_lbN3 : own_N (own_lb (8 : Int32)) = 72340172838076673 := by decide +kernel
theorem own_lbE3 : own_lbo (3 : Int32) = own_lb (8 : Int32) := by decide +kernel
theorem own_ok3 : ∀ n : Fin (2 ^ 3), 72340172838076673 / 2 ^ ((Int32.ofInt (n.val : Int) * (8 : Int32)).toBitVec.toNat % 64) % 2 ^ (2 ^ 3) = 1 := by decide +kernel
theorem own_lbN4 : own_N (own_lb (16 : Int32)) = 281479271743489 := by decide +kernel
theorem own_lbE4 : own_lbo (4 : Int32) = own_lb (16 : Int32) := by decide +kernel
theorem own_ok4 : ∀ n : Fin (2 ^ 2), 281479271743489 / 2 ^ ((Int32.ofInt (n.val : Int) * (16 : Int32)).toBitVec.toNat % 64) % 2 ^ (2 ^ 4) = 1 := by decide +kernel
theorem own_lbN5 : own_N (own_lb (32 : Int32)) = 4294967297 := by decide +kernel
theorem own_lbE5 : own_lbo (5 : Int32) = own_lb (32 : Int32) := by decide +kernel
theorem own_ok5 : ∀ n : Fin (2 ^ 1), 4294967297 / 2 ^ ((Int32.ofInt (n.val : Int) * (32 : Int32)).toBitVec.toNat % 64) % 2 ^ (2 ^ 5) = 1 := by decide +kernel

theorem own_law (j0 : Int64) (i1 i2 i3 : Int32) : own_f0 j0 i1 i2 i3 = 1 := by
  have H : (own_v0_78 j0 i1 i2 i3) &&& ((own_v0_57 j0 i1 i2 i3) ^^^ (-1 : Int64)) = (0 : Int64) ∧ (((own_v0_78 j0 i1 i2 i3).toUInt64 >>> ((own_v0_85 j0 i1 i2 i3) &&& 0x3f).toInt64.toUInt64).toInt64) &&& (own_v0_50 j0 i1 i2 i3) = own_j0_143_S0 j0 i1 i2 i3 := by
    rcases own_six i2 with h | h | h | h | h | h
    · have e13 : own_v0_13 j0 i1 i2 i3 = (1 : Int32) := by unfold own_v0_13; rw [h]; rfl
      have e29 : own_v0_29 j0 i1 i2 i3 = i3 &&& (63 : Int32) := by unfold own_v0_29; rw [h]; rfl
      have e50 : own_v0_50 j0 i1 i2 i3 = own_cm (1 : Int32) := by unfold own_v0_50; rw [e13]; rfl
      have e57 : own_v0_57 j0 i1 i2 i3 = own_lb (1 : Int32) := by unfold own_v0_57; rw [h]; exact own_lbE0
      obtain ⟨n, hn⟩ := own_nth i3 (63 : Int32) 6 (by decide) (by decide)
      have e85 : own_v0_85 j0 i1 i2 i3 = Int32.ofInt (n.val : Int) * (1 : Int32) := by unfold own_v0_85; rw [e13, e29, hn]
      have e78 : own_v0_78 j0 i1 i2 i3 = own_fold j0 (own_j0_42_S0 j0 i1 i2 i3) (1 : Int32) (own_lb (1 : Int32)) := by unfold own_v0_78; rw [e13]
      rw [e57, e50, e85, e78]
      refine own_judge _ j0 (own_lb (1 : Int32)) (own_cm (1 : Int32)) (own_j0_42_S0 j0 i1 i2 i3) _ _ 0 rfl (by decide +kernel) (by rw [own_lbN0]; exact own_ok0 n) (by decide) (own_fold0 _ _ _) _ ?_
      unfold own_j0_143_S0 own_j0_133_L20 own_v0_94
      rw [e50, e85]
    · have e13 : own_v0_13 j0 i1 i2 i3 = (2 : Int32) := by unfold own_v0_13; rw [h]; rfl
      have e29 : own_v0_29 j0 i1 i2 i3 = i3 &&& (31 : Int32) := by unfold own_v0_29; rw [h]; rfl
      have e50 : own_v0_50 j0 i1 i2 i3 = own_cm (2 : Int32) := by unfold own_v0_50; rw [e13]; rfl
      have e57 : own_v0_57 j0 i1 i2 i3 = own_lb (2 : Int32) := by unfold own_v0_57; rw [h]; exact own_lbE1
      obtain ⟨n, hn⟩ := own_nth i3 (31 : Int32) 5 (by decide) (by decide)
      have e85 : own_v0_85 j0 i1 i2 i3 = Int32.ofInt (n.val : Int) * (2 : Int32) := by unfold own_v0_85; rw [e13, e29, hn]
      have e78 : own_v0_78 j0 i1 i2 i3 = own_fold j0 (own_j0_42_S0 j0 i1 i2 i3) (2 : Int32) (own_lb (2 : Int32)) := by unfold own_v0_78; rw [e13]
      rw [e57, e50, e85, e78]
      refine own_judge _ j0 (own_lb (2 : Int32)) (own_cm (2 : Int32)) (own_j0_42_S0 j0 i1 i2 i3) _ _ 1 rfl (by decide +kernel) (by rw [own_lbN1]; exact own_ok1 n) (by decide) (own_fold1 _ _ _) _ ?_
      unfold own_j0_143_S0 own_j0_133_L20 own_v0_94
      rw [e50, e85]
    · have e13 : own_v0_13 j0 i1 i2 i3 = (4 : Int32) := by unfold own_v0_13; rw [h]; rfl
      have e29 : own_v0_29 j0 i1 i2 i3 = i3 &&& (15 : Int32) := by unfold own_v0_29; rw [h]; rfl
      have e50 : own_v0_50 j0 i1 i2 i3 = own_cm (4 : Int32) := by unfold own_v0_50; rw [e13]; rfl
      have e57 : own_v0_57 j0 i1 i2 i3 = own_lb (4 : Int32) := by unfold own_v0_57; rw [h]; exact own_lbE2
      obtain ⟨n, hn⟩ := own_nth i3 (15 : Int32) 4 (by decide) (by decide)
      have e85 : own_v0_85 j0 i1 i2 i3 = Int32.ofInt (n.val : Int) * (4 : Int32) := by unfold own_v0_85; rw [e13, e29, hn]
      have e78 : own_v0_78 j0 i1 i2 i3 = own_fold j0 (own_j0_42_S0 j0 i1 i2 i3) (4 : Int32) (own_lb (4 : Int32)) := by unfold own_v0_78; rw [e13]
      rw [e57, e50, e85, e78]
      refine own_judge _ j0 (own_lb (4 : Int32)) (own_cm (4 : Int32)) (own_j0_42_S0 j0 i1 i2 i3) _ _ 2 rfl (by decide +kernel) (by rw [own_lbN2]; exact own_ok2 n) (by decide) (own_fold2 _ _ _) _ ?_
      unfold own_j0_143_S0 own_j0_133_L20 own_v0_94
      rw [e50, e85]
    · have e13 : own_v0_13 j0 i1 i2 i3 = (8 : Int32) := by unfold own_v0_13; rw [h]; rfl
      have e29 : own_v0_29 j0 i1 i2 i3 = i3 &&& (7 : Int32) := by unfold own_v0_29; rw [h]; rfl
      have e50 : own_v0_50 j0 i1 i2 i3 = own_cm (8 : Int32) := by unfold own_v0_50; rw [e13]; rfl
      have e57 : own_v0_57 j0 i1 i2 i3 = own_lb (8 : Int32) := by unfold own_v0_57; rw [h]; exact own_lbE3
      obtain ⟨n, hn⟩ := own_nth i3 (7 : Int32) 3 (by decide) (by decide)
      have e85 : own_v0_85 j0 i1 i2 i3 = Int32.ofInt (n.val : Int) * (8 : Int32) := by unfold own_v0_85; rw [e13, e29, hn]
      have e78 : own_v0_78 j0 i1 i2 i3 = own_fold j0 (own_j0_42_S0 j0 i1 i2 i3) (8 : Int32) (own_lb (8 : Int32)) := by unfold own_v0_78; rw [e13]
      rw [e57, e50, e85, e78]
      refine own_judge _ j0 (own_lb (8 : Int32)) (own_cm (8 : Int32)) (own_j0_42_S0 j0 i1 i2 i3) _ _ 3 rfl (by decide +kernel) (by rw [own_lbN3]; exact own_ok3 n) (by decide) (own_fold3 _ _ _) _ ?_
      unfold own_j0_143_S0 own_j0_133_L20 own_v0_94
      rw [e50, e85]
    · have e13 : own_v0_13 j0 i1 i2 i3 = (16 : Int32) := by unfold own_v0_13; rw [h]; rfl
      have e29 : own_v0_29 j0 i1 i2 i3 = i3 &&& (3 : Int32) := by unfold own_v0_29; rw [h]; rfl
      have e50 : own_v0_50 j0 i1 i2 i3 = own_cm (16 : Int32) := by unfold own_v0_50; rw [e13]; rfl
      have e57 : own_v0_57 j0 i1 i2 i3 = own_lb (16 : Int32) := by unfold own_v0_57; rw [h]; exact own_lbE4
      obtain ⟨n, hn⟩ := own_nth i3 (3 : Int32) 2 (by decide) (by decide)
      have e85 : own_v0_85 j0 i1 i2 i3 = Int32.ofInt (n.val : Int) * (16 : Int32) := by unfold own_v0_85; rw [e13, e29, hn]
      have e78 : own_v0_78 j0 i1 i2 i3 = own_fold j0 (own_j0_42_S0 j0 i1 i2 i3) (16 : Int32) (own_lb (16 : Int32)) := by unfold own_v0_78; rw [e13]
      rw [e57, e50, e85, e78]
      refine own_judge _ j0 (own_lb (16 : Int32)) (own_cm (16 : Int32)) (own_j0_42_S0 j0 i1 i2 i3) _ _ 4 rfl (by decide +kernel) (by rw [own_lbN4]; exact own_ok4 n) (by decide) (own_fold4 _ _ _) _ ?_
      unfold own_j0_143_S0 own_j0_133_L20 own_v0_94
      rw [e50, e85]
    · have e13 : own_v0_13 j0 i1 i2 i3 = (32 : Int32) := by unfold own_v0_13; rw [h]; rfl
      have e29 : own_v0_29 j0 i1 i2 i3 = i3 &&& (1 : Int32) := by unfold own_v0_29; rw [h]; rfl
      have e50 : own_v0_50 j0 i1 i2 i3 = own_cm (32 : Int32) := by unfold own_v0_50; rw [e13]; rfl
      have e57 : own_v0_57 j0 i1 i2 i3 = own_lb (32 : Int32) := by unfold own_v0_57; rw [h]; exact own_lbE5
      obtain ⟨n, hn⟩ := own_nth i3 (1 : Int32) 1 (by decide) (by decide)
      have e85 : own_v0_85 j0 i1 i2 i3 = Int32.ofInt (n.val : Int) * (32 : Int32) := by unfold own_v0_85; rw [e13, e29, hn]
      have e78 : own_v0_78 j0 i1 i2 i3 = own_fold j0 (own_j0_42_S0 j0 i1 i2 i3) (32 : Int32) (own_lb (32 : Int32)) := by unfold own_v0_78; rw [e13]
      rw [e57, e50, e85, e78]
      refine own_judge _ j0 (own_lb (32 : Int32)) (own_cm (32 : Int32)) (own_j0_42_S0 j0 i1 i2 i3) _ _ 5 rfl (by decide +kernel) (by rw [own_lbN5]; exact own_ok5 n) (by decide) (own_fold5 _ _ _) _ ?_
      unfold own_j0_143_S0 own_j0_133_L20 own_v0_94
      rw [e50, e85]
  unfold own_f0 own_j0_164_S0 own_j0_185_S0
  rw [if_pos H.1, if_pos H.2]
  rfl

set_option maxRecDepth 65536 in
set_option maxHeartbeats 40000000 in
theorem comes_1 {Post : Tables → Env → Array Value → State → Outcome → State → Prop} (hpost : ∀ tb e args s v u, (limb_1_1.after args s (.returned v) u = true ∧ limb_1_2.after args s (.returned v) u = true ∧ True) → FrameEnd s (.returned v) u (Jvm.fieldLocs frame_1_writes args s ++ Jvm.arrayLocs frame_1_arrays args s ++ Jvm.staticLocs frame_1_statics s) 16 128 → Post tb e args s (.returned v) u) :
    ArmFor flags0 classFile x code maxLocals ret World_1 tables_1 room_1 Calls_1 rest_1 Pre_1 Post := by
  intro l hfl _ _ p e ha hc hk s m args below hf hA hF happ hP
  obtain ⟨hcalls, hrest, hpre⟩ := hP
  obtain ⟨-, -, -, hnamed, -, -, -, hat⟩ := (Spec.applies_iff hf).mp happ
  obtain ⟨hg, hn⟩ := and_e (Cond.before_iff.mp (show (Jvm.Cond.and given_1 narrow_1).before args s = true from hpre))
  obtain ⟨g1, g2⟩ := and_e hg
  obtain ⟨g3, g4⟩ := and_e g2
  obtain ⟨g5, g6⟩ := and_e g4
  obtain ⟨g7, g8⟩ := and_e g6
  obtain ⟨w0, w1, w2, w3, rfl⟩ : ∃ w0 w1 w2 w3 : Value, args = #[w0, w1, w2, w3] := by
    have hs : args.size = 4 := by simpa [Cond.value, given_1] using g1
    obtain ⟨L⟩ := args
    match L, hs with
    | [w0, w1, w2, w3], _ => exact ⟨w0, w1, w2, w3, rfl⟩
  have hw := fun d (hd : d ∈ tables_1) => atoms_spec (ws := Jvm.Cond.code x code maxLocals ret :: tables_1) hat d (List.mem_cons_of_mem _ hd)
  have hfit : Fit s := fun {y c} hc i hi => by
    obtain ⟨ha, rfl⟩ := Array.getElem?_eq_some_iff.mp hc
    have q := List.all_eq_true.mp ((Array.all_eq_true_iff_forall_mem.mp hF) _ (Array.getElem_mem ha)) i (List.mem_range.mpr hi)
    simpa [Array.getElem?_eq_getElem hi] using q
  obtain ⟨i0, ei0⟩ := isL_v g3
  obtain rfl : w0 = (.long i0) := Option.some.inj ei0
  obtain ⟨i1, ei1⟩ := is_v g5
  obtain rfl : w1 = (.int i1) := Option.some.inj ei1
  obtain ⟨i2, ei2⟩ := is_v g7
  obtain rfl : w2 = (.int i2) := Option.some.inj ei2
  obtain ⟨i3, ei3⟩ := is_v g8
  obtain rfl : w3 = (.int i3) := Option.some.inj ei3
  obtain ⟨n, o, h1, h2, h3, _, L, rfl, ⟨rfl, N, -⟩, hq⟩ := own_rm0 l s _ hw tables_1 i0 i1 i2 i3  s.heap s.heap.size (Nat.le_refl _)  p e ha hc hk s m _ below hf ((Spec.applies_iff_loose hf).mp happ).1 ⟨rfl, State.Warmed39.refl s, rfl⟩ trivial
  refine ⟨n, _, h1, h2, h3, hpost _ _ _ _ _ _ ⟨Cond.after_iff.mpr rfl, Cond.after_iff.mpr (eq_i res_at (Term.int_eval (1)) (congrArg Value.int (own_law i0 i1 i2 i3))), trivial⟩ ⟨hq.1, hq.2.1, (hq.2.2.sift fun y hy => Or.inr (N y hy)).mono (by decide) (by decide)⟩⟩
theorem main_1_1 : Claimed_1_1 := comes_1 fun _ _ _ _ _ _ h hF => ⟨h.1, hF⟩
theorem main_1_2 : Claimed_1_2 := comes_1 fun _ _ _ _ _ _ h hF => ⟨h.2.1, hF⟩
end Jvm.Pilot.@@N@@
namespace Jvm.Pilot.@@N@@
open Jvm Jvm.ClassFile Sem Op Lib Jvm.Free Jvm.Stand Jvm.Pilot.@@N@@.Jvm.D
/-! MADE BY PROGRAM (witnessworld.py) out of the Statement's table words and the real class files: 14 classes; the members and pool entries that the words name. The judged class is class 1, her method 1. -/
namespace start1
open Jvm.ClassFile
def u (s : String) : CpInfo := .utf8 (stringToUtf16 s)
/-- a pool by its gaps: so many unusable entries, then the entry; so many at the end -/
def gap : Nat → List CpInfo → List CpInfo
  | 0, r => r
  | n + 1, r => .unusable :: gap n r
def poolList (es : List (Nat × CpInfo)) (last : Nat) : List CpInfo := es.foldr (fun e r => gap e.1 (e.2 :: r)) (gap last [])
def pool (es : List (Nat × CpInfo)) (last : Nat) : Array CpInfo := ⟨poolList es last⟩
def fileOf (pool : Array CpInfo) (this : Nat) (attrs : Array Attribute := #[]) (ms : Array MethodInfo := #[]) (fl : Nat := 33) (sup : Nat := 0) (ifs : Array Nat := #[]) (fds : Array FieldInfo := #[]) : ClassFile where
  minorVersion := 0
  majorVersion := 65
  constantPool := pool
  accessFlags := fl
  thisClass := this
  superClass := sup
  interfaces := ifs
  fields := fds
  methods := ms
  attributes := attrs
def plain (name : String) (sup : Option ClassId) : Class where
  name := name
  kind := .ordinary
  loader := none
  accessFlags := 33
  super := sup
  interfaces := #[]
  cf := none
  fields := #[]
  methods := #[]
  instanceTypes := #[]
  staticTypes := #[]
  resolved := #[]
  callSites := []
  init := .initialized
  statics := none
  mirror := none

def pool0 : Array CpInfo := pool [(5, u "<init>"), (0, u "()V"), (1, .class_ 10), (1, u "java/lang/Object")] 113

def k0c0 : Code := { maxStack := 0, maxLocals := 1, code := object_method_1_code, exceptionTable := #[], attributes := #[] }
def k0m0 : Method := { name := "<init>", desc := "()V", sig := { parameters := [], returnType := none }, accessFlags := 1, code := some k0c0 }
/-- java/lang/Object -/
def k0 : Class := { plain "java/lang/Object" none with
  accessFlags := 33
  interfaces := #[]
  cf := some (fileOf pool0 8 #[] #[{ accessFlags := 1, nameIndex := 5, descriptorIndex := 6, attributes := #[] }] 33 0 #[] #[])
  fields := #[]
  methods := #[k0m0]
  instanceTypes := #[]
  staticTypes := #[]
  resolved := Array.replicate 124 none
  statics := none }

def pool1 : Array CpInfo := pool [(2, .class_ 4), (1, u "java/lang/Object"), (0, u "<init>"), (0, u "()V"), (0, .integer 2147483647), (0, .methodref 9 10), (0, .class_ 11), (0, .nameAndType 12 13), (0, u "com/example/upper_falls/upperfalls/CellWordsFoldPinLaw"), (0, u "lowBitsOf"), (0, u "(I)J"), (0, .class_ 15), (0, u "com/example/upper_falls/upperfalls/CellWords"), (0, .methodref 14 17), (0, .nameAndType 5 18), (0, u "(I)V"), (0, .methodref 14 20), (0, .nameAndType 21 22), (0, u "fold"), (0, u "(JZ)J"), (0, .long 18446744073709551615), (1, .long 6148914691236517205), (1, .long 1229782938247303441), (1, .long 72340172838076673), (1, .long 281479271743489), (1, .long 4294967297), (3, u "law"), (0, u "(JIII)Z")] 3

def k1m0 : Method := { name := "<init>", desc := "()V", sig := { parameters := [], returnType := none }, accessFlags := 1, code := none }
def k1c1 : Code := { maxStack := 6, maxLocals := 25, code := code, exceptionTable := #[], attributes := #[] }
def k1m1 : Method := { name := "law", desc := "(JIII)Z", sig := { parameters := [.long, .int, .int, .int], returnType := some .boolean }, accessFlags := 9, code := some k1c1 }
def k1c2 : Code := { maxStack := 2, maxLocals := 1, code := method_3_code, exceptionTable := #[], attributes := #[] }
def k1m2 : Method := { name := "lowBitsOf", desc := "(I)J", sig := { parameters := [.int], returnType := some .long }, accessFlags := 10, code := some k1c2 }
/-- com/example/upper_falls/upperfalls/CellWordsFoldPinLaw -/
def k1 : Class := { plain "com/example/upper_falls/upperfalls/CellWordsFoldPinLaw" (some 0) with
  accessFlags := 49
  interfaces := #[]
  cf := some (fileOf pool1 9 #[] #[{ accessFlags := 1, nameIndex := 5, descriptorIndex := 6, attributes := #[] }, { accessFlags := 9, nameIndex := 37, descriptorIndex := 38, attributes := #[] }, { accessFlags := 10, nameIndex := 12, descriptorIndex := 13, attributes := #[] }] 49 2 #[] #[])
  fields := #[]
  methods := #[k1m0, k1m1, k1m2]
  instanceTypes := #[]
  staticTypes := #[]
  resolved := Array.replicate 42 none
  statics := none }

def pool2 : Array CpInfo := pool [(1, .methodref 2 3), (0, .class_ 4), (0, .nameAndType 5 6), (0, u "java/lang/Object"), (0, u "<init>"), (0, u "()V"), (0, .fieldref 8 9), (0, .class_ 10), (0, .nameAndType 11 12), (0, u "com/example/upper_falls/upperfalls/CellWords"), (0, u "width"), (0, u "I"), (0, .fieldref 8 14), (0, .nameAndType 15 16), (0, u "cellMask"), (0, u "J"), (0, .long 18446744073709551615), (1, .methodref 20 21), (0, .class_ 22), (0, .nameAndType 23 24), (0, u "java/lang/Long"), (0, u "divideUnsigned"), (0, u "(JJ)J"), (0, .fieldref 8 26), (0, .nameAndType 27 16), (0, u "lowBits"), (0, .fieldref 8 29), (0, .nameAndType 30 16), (0, u "highBits"), (2, u "fold"), (0, u "(JZ)J"), (0, u "(I)V")] 9

def k2c0 : Code := { maxStack := 5, maxLocals := 2, code := prog_5_method_1_code, exceptionTable := #[], attributes := #[] }
def k2m0 : Method := { name := "<init>", desc := "(I)V", sig := { parameters := [.int], returnType := none }, accessFlags := 0, code := some k2c0 }
def k2c1 : Code := { maxStack := 5, maxLocals := 7, code := prog_5_method_2_code, exceptionTable := #[], attributes := #[] }
def k2m1 : Method := { name := "fold", desc := "(JZ)J", sig := { parameters := [.long, .boolean], returnType := some .long }, accessFlags := 0, code := some k2c1 }
/-- com/example/upper_falls/upperfalls/CellWords -/
def k2 : Class := { plain "com/example/upper_falls/upperfalls/CellWords" (some 0) with
  accessFlags := 48
  interfaces := #[]
  cf := some (fileOf pool2 8 #[] #[{ accessFlags := 0, nameIndex := 5, descriptorIndex := 35, attributes := #[] }, { accessFlags := 0, nameIndex := 33, descriptorIndex := 34, attributes := #[] }] 48 2 #[] #[{ accessFlags := 18, nameIndex := 11, descriptorIndex := 12, attributes := #[] }, { accessFlags := 18, nameIndex := 15, descriptorIndex := 16, attributes := #[] }, { accessFlags := 18, nameIndex := 27, descriptorIndex := 16, attributes := #[] }, { accessFlags := 18, nameIndex := 30, descriptorIndex := 16, attributes := #[] }])
  fields := #[{ name := "width", type := .int, accessFlags := 18, slot := 0, constantValue := 0 }, { name := "cellMask", type := .long, accessFlags := 18, slot := 1, constantValue := 0 }, { name := "lowBits", type := .long, accessFlags := 18, slot := 2, constantValue := 0 }, { name := "highBits", type := .long, accessFlags := 18, slot := 3, constantValue := 0 }]
  methods := #[k2m0, k2m1]
  instanceTypes := #[.int, .long, .long, .long]
  staticTypes := #[]
  resolved := Array.replicate 45 none
  statics := none }

def pool3 : Array CpInfo := pool [(1, .class_ 2), (0, u "java/io/Serializable"), (0, .class_ 4), (0, u "java/lang/Object")] 2

/-- java/io/Serializable -/
def k3 : Class := { plain "java/io/Serializable" (some 0) with
  accessFlags := 1537
  interfaces := #[]
  cf := some (fileOf pool3 1 #[] #[] 1537 3 #[] #[])
  fields := #[]
  methods := #[]
  instanceTypes := #[]
  staticTypes := #[]
  resolved := Array.replicate 7 none
  statics := none }

def pool4 : Array CpInfo := pool [(2, .class_ 4), (1, u "java/lang/Object"), (0, u "<init>"), (0, u "()V"), (1, .class_ 10), (1, u "java/lang/Number"), (2, .class_ 14), (0, u "java/io/Serializable"), (0, u "serialVersionUID"), (0, u "J")] 20

def k4m0 : Method := { name := "<init>", desc := "()V", sig := { parameters := [], returnType := none }, accessFlags := 1, code := none }
/-- java/lang/Number -/
def k4 : Class := { plain "java/lang/Number" (some 0) with
  accessFlags := 1057
  interfaces := #[3]
  cf := some (fileOf pool4 8 #[] #[{ accessFlags := 1, nameIndex := 5, descriptorIndex := 6, attributes := #[] }] 1057 2 #[13] #[{ accessFlags := 26, nameIndex := 15, descriptorIndex := 16, attributes := #[] }])
  fields := #[{ name := "serialVersionUID", type := .long, accessFlags := 26, slot := 0, constantValue := 0 }]
  methods := #[k4m0]
  instanceTypes := #[]
  staticTypes := #[.long]
  resolved := Array.replicate 37 none
  statics := none }

def pool5 : Array CpInfo := pool [(1, .class_ 2), (0, u "java/lang/Comparable"), (0, .class_ 4), (0, u "java/lang/Object")] 7

/-- java/lang/Comparable -/
def k5 : Class := { plain "java/lang/Comparable" (some 0) with
  accessFlags := 1537
  interfaces := #[]
  cf := some (fileOf pool5 1 #[] #[] 1537 3 #[] #[])
  fields := #[]
  methods := #[]
  instanceTypes := #[]
  staticTypes := #[]
  resolved := Array.replicate 12 none
  statics := none }

def pool6 : Array CpInfo := pool [(1, .class_ 2), (0, u "java/lang/constant/Constable"), (0, .class_ 4), (0, u "java/lang/Object")] 6

/-- java/lang/constant/Constable -/
def k6 : Class := { plain "java/lang/constant/Constable" (some 0) with
  accessFlags := 1537
  interfaces := #[]
  cf := some (fileOf pool6 1 #[] #[] 1537 3 #[] #[])
  fields := #[]
  methods := #[]
  instanceTypes := #[]
  staticTypes := #[]
  resolved := Array.replicate 11 none
  statics := none }

def pool7 : Array CpInfo := pool [(1, .class_ 2), (0, u "java/lang/constant/ConstantDesc"), (0, .class_ 4), (0, u "java/lang/Object")] 32

/-- java/lang/constant/ConstantDesc -/
def k7 : Class := { plain "java/lang/constant/ConstantDesc" (some 0) with
  accessFlags := 1537
  interfaces := #[]
  cf := some (fileOf pool7 1 #[] #[] 1537 3 #[] #[])
  fields := #[]
  methods := #[]
  instanceTypes := #[]
  staticTypes := #[]
  resolved := Array.replicate 37 none
  statics := none }

def pool8 : Array CpInfo := pool [(1, .class_ 2), (0, u "java/lang/Long"), (232, .class_ 237), (1, u "java/lang/Long$LongCache"), (33, .class_ 272), (0, u "java/lang/Number"), (2, u "value"), (0, u "J"), (29, .long 18446744073709551615), (26, u "(JJ)J"), (27, u "TYPE"), (0, u "Ljava/lang/Class;"), (0, .class_ 364), (0, u "java/lang/Comparable"), (0, .class_ 366), (0, u "java/lang/constant/Constable"), (0, .class_ 368), (0, u "java/lang/constant/ConstantDesc"), (0, u "MIN_VALUE"), (1, u "MAX_VALUE"), (4, u "SIZE"), (0, u "I"), (1, u "BYTES"), (1, u "serialVersionUID"), (88, u "divideUnsigned")] 53

def k8c0 : Code := { maxStack := 8, maxLocals := 8, code := jdk_35_method_44_code, exceptionTable := #[], attributes := #[] }
def k8m0 : Method := { name := "divideUnsigned", desc := "(JJ)J", sig := { parameters := [.long, .long], returnType := some .long }, accessFlags := 9, code := some k8c0 }
/-- java/lang/Long -/
def k8 : Class := { plain "java/lang/Long" (some 4) with
  accessFlags := 49
  interfaces := #[5, 6, 7]
  cf := some (fileOf pool8 1 #[.nestMembers #[235]] #[{ accessFlags := 9, nameIndex := 470, descriptorIndex := 333, attributes := #[] }] 49 271 #[363, 365, 367] #[{ accessFlags := 25, nameIndex := 369, descriptorIndex := 276, attributes := #[] }, { accessFlags := 25, nameIndex := 371, descriptorIndex := 276, attributes := #[] }, { accessFlags := 25, nameIndex := 361, descriptorIndex := 362, attributes := #[] }, { accessFlags := 18, nameIndex := 275, descriptorIndex := 276, attributes := #[] }, { accessFlags := 25, nameIndex := 376, descriptorIndex := 377, attributes := #[] }, { accessFlags := 25, nameIndex := 379, descriptorIndex := 377, attributes := #[] }, { accessFlags := 26, nameIndex := 381, descriptorIndex := 276, attributes := #[] }])
  fields := #[{ name := "MIN_VALUE", type := .long, accessFlags := 25, slot := 0, constantValue := 0 }, { name := "MAX_VALUE", type := .long, accessFlags := 25, slot := 1, constantValue := 0 }, { name := "TYPE", type := (.object "java/lang/Class"), accessFlags := 25, slot := 2, constantValue := 0 }, { name := "value", type := .long, accessFlags := 18, slot := 0, constantValue := 0 }, { name := "SIZE", type := .int, accessFlags := 25, slot := 3, constantValue := 0 }, { name := "BYTES", type := .int, accessFlags := 25, slot := 4, constantValue := 0 }, { name := "serialVersionUID", type := .long, accessFlags := 26, slot := 5, constantValue := 0 }]
  methods := #[k8m0]
  instanceTypes := #[.long]
  staticTypes := #[.long, .long, (.object "java/lang/Class"), .int, .int, .long]
  resolved := Array.replicate 524 none
  statics := none }

def pool9 : Array CpInfo := pool [(1, u "java/lang/Cloneable"), (0, .class_ 1), (0, u "java/lang/Object"), (0, .class_ 3)] 3

/-- java/lang/Cloneable -/
def k9 : Class := { plain "java/lang/Cloneable" (some 0) with
  accessFlags := 1537
  interfaces := #[]
  cf := some (fileOf pool9 2 #[] #[] 1537 4 #[] #[])
  fields := #[]
  methods := #[]
  instanceTypes := #[]
  staticTypes := #[]
  resolved := Array.replicate 8 none
  statics := none }

/-- the primitive byte -/
def k10 : Class := { plain "byte" none with kind := .primitive 'B', accessFlags := 0x411 }
/-- [B -/
def k11 : Class := { plain "[B" (some 0) with kind := .array 10 .byte, interfaces := #[9, 3], accessFlags := 1041 }

/-- the primitive int -/
def k12 : Class := { plain "int" none with kind := .primitive 'I', accessFlags := 0x411 }
/-- [I -/
def k13 : Class := { plain "[I" (some 0) with kind := .array 12 .int, interfaces := #[9, 3], accessFlags := 1041 }

def heap : Heap := #[]
def classes : Array Class := #[k0, k1, k2, k3, k4, k5, k6, k7, k8, k9, k10, k11, k12, k13]
def interned : List (Array UInt16 × Addr) := []
def slotsUsed : Nat := 0
def theMethod : MethodId := ⟨1, 1⟩
def args0 : Array Value := #[.long 5, .int 5, .int 5, .int 5]
def aboutOver (below : List Frame) : State where
  vm := { classes := classes, interned := interned.toArray }
  heap := heap
  slotsUsed := slotsUsed
  threads := #[{ frames := .invoking theMethod args0 :: below }]
def below0 : List Frame := [.native { method := ⟨0, 0⟩, args := #[] }]
def about1 : State := aboutOver below0
def p0 : Program := .bare "" "" ""
def e0 : Env := launch0.env 0 0 0
theorem w_frames : about1.frames = Frame.invoking theMethod args0 :: below0 := rfl
set_option maxRecDepth 65536 in
theorem w_args : argsFit about1.vm theMethod args0 = true := by decide +kernel
set_option maxRecDepth 65536 in
theorem w_heap : heapFits about1 = true := by decide +kernel
set_option maxRecDepth 65536 in
theorem w_runnable : about1.curStatus? = some .runnable := by decide +kernel
set_option maxRecDepth 65536 in
theorem w_alone : about1.alone = true := by decide +kernel
set_option maxRecDepth 65536 in
theorem w_named : about1.methodNamed? x = some theMethod := by decide +kernel
set_option maxRecDepth 65536 in
theorem w_hears : about1.hears theMethod below0 = true := by decide +kernel
set_option maxRecDepth 65536 in
theorem w_ripe : about1.ripe theMethod args0 below0 = true := by decide +kernel
theorem w_running : about1.status = .running := rfl
set_option maxRecDepth 65536 in
theorem w_room : about1.hasRoom e0.platform room_1 = true :=
  launch0.hasRoom_least _ room_1 (by decide +kernel) (by decide +kernel) (by decide +kernel) (by decide +kernel) (by decide +kernel) (by decide +kernel)
theorem allAtoms_all (ts : List Jvm.Cond) (a : Array Jvm.Value) (st : Jvm.State) : (allAtoms ts).before a st = ts.all (fun c => c.before a st) := by
  induction ts with
  | nil => rfl
  | cons c t ih =>
    show (Jvm.Cond.and c (allAtoms t)).before a st = _
    rw [Jvm.Cond.before_and, ih, List.all_cons]
def words1 : List Jvm.Cond := Jvm.Cond.code x code maxLocals ret :: tables_1
/-- a 'code' word, met by the world's own term for the bytes: nothing is compared byte by byte -/
theorem code_word {y : MethodName} {bytes : ByteArray} {mx : Nat} {rt : Option FieldType} {a : Array Value} {s : State} {m : MethodId} {meth : Method} {c : Code} (h1 : s.methodNamed? y = some m) (h2 : s.vm.method? m = some meth) (h3 : meth.code = some c) (h4 : c.code = bytes)
    (h5 : (c.maxLocals == mx && c.exceptionTable.isEmpty && decide (c.maxStack ≤ mostOperands) && decide (meth.sig.returnType = rt) && !meth.locks && decide (parseMethodDescriptor y.desc = some meth.sig)) = true) : (Jvm.Cond.code y bytes mx rt).before a s = true := by
  simp only [Bool.and_eq_true, beq_iff_eq, Bool.not_eq_true', decide_eq_true_eq] at h5
  obtain ⟨⟨⟨⟨⟨g1, g2⟩, g3⟩, g4⟩, g5⟩, g6⟩ := h5
  simp [Cond.before, Cond.holds, Cond.value, h1, h2, h3, h4, g1, g2, g3, g4, g5, g6]
def isCode : Jvm.Cond → Bool
  | .code _ _ _ _ => true
  | _ => false
theorem all_split {L : List Jvm.Cond} {P : Jvm.Cond → Bool} (h1 : L.all (fun c => isCode c || P c) = true) (h2 : ∀ c ∈ L.filter isCode, P c = true) : L.all P = true := by
  refine List.all_eq_true.mpr fun c hc => ?_
  have h := List.all_eq_true.mp h1 c hc
  rcases Bool.eq_false_or_eq_true (isCode c) with hi | hi
  · exact h2 c (List.mem_filter.mpr ⟨hc, hi⟩)
  · simpa [hi] using h
set_option maxRecDepth 65536 in
theorem w_c0 : (Jvm.Cond.code x code maxLocals ret).before args0 about1 = true := code_word (m := ⟨1, 1⟩) (meth := k1m1) (c := k1c1) (by decide +kernel) rfl rfl rfl (by decide +kernel)
set_option maxRecDepth 65536 in
theorem w_c1 : (Jvm.Cond.code ({ cls := "com/example/upper_falls/upperfalls/CellWordsFoldPinLaw", name := "lowBitsOf", desc := "(I)J" } : Jvm.MethodName) method_3_code (1 : Nat) (Option.some Jvm.ClassFile.FieldType.long)).before args0 about1 = true := code_word (m := ⟨1, 2⟩) (meth := k1m2) (c := k1c2) (by decide +kernel) rfl rfl rfl (by decide +kernel)
set_option maxRecDepth 65536 in
theorem w_c2 : (Jvm.Cond.code ({ cls := "com/example/upper_falls/upperfalls/CellWords", name := "<init>", desc := "(I)V" } : Jvm.MethodName) prog_5_method_1_code (2 : Nat) (Option.none : Option Jvm.ClassFile.FieldType)).before args0 about1 = true := code_word (m := ⟨2, 0⟩) (meth := k2m0) (c := k2c0) (by decide +kernel) rfl rfl rfl (by decide +kernel)
set_option maxRecDepth 65536 in
theorem w_c3 : (Jvm.Cond.code ({ cls := "java/lang/Object", name := "<init>", desc := "()V" } : Jvm.MethodName) object_method_1_code (1 : Nat) (Option.none : Option Jvm.ClassFile.FieldType)).before args0 about1 = true := code_word (m := ⟨0, 0⟩) (meth := k0m0) (c := k0c0) (by decide +kernel) rfl rfl rfl (by decide +kernel)
set_option maxRecDepth 65536 in
theorem w_c4 : (Jvm.Cond.code ({ cls := "java/lang/Long", name := "divideUnsigned", desc := "(JJ)J" } : Jvm.MethodName) jdk_35_method_44_code (8 : Nat) (Option.some Jvm.ClassFile.FieldType.long)).before args0 about1 = true := code_word (m := ⟨8, 0⟩) (meth := k8m0) (c := k8c0) (by decide +kernel) rfl rfl rfl (by decide +kernel)
set_option maxRecDepth 65536 in
theorem w_c5 : (Jvm.Cond.code ({ cls := "com/example/upper_falls/upperfalls/CellWords", name := "fold", desc := "(JZ)J" } : Jvm.MethodName) prog_5_method_2_code (7 : Nat) (Option.some Jvm.ClassFile.FieldType.long)).before args0 about1 = true := code_word (m := ⟨2, 1⟩) (meth := k2m1) (c := k2c1) (by decide +kernel) rfl rfl rfl (by decide +kernel)
def codes1 : List Jvm.Cond := [Jvm.Cond.code x code maxLocals ret, Jvm.Cond.code ({ cls := "com/example/upper_falls/upperfalls/CellWordsFoldPinLaw", name := "lowBitsOf", desc := "(I)J" } : Jvm.MethodName) method_3_code (1 : Nat) (Option.some Jvm.ClassFile.FieldType.long), Jvm.Cond.code ({ cls := "com/example/upper_falls/upperfalls/CellWords", name := "<init>", desc := "(I)V" } : Jvm.MethodName) prog_5_method_1_code (2 : Nat) (Option.none : Option Jvm.ClassFile.FieldType), Jvm.Cond.code ({ cls := "java/lang/Object", name := "<init>", desc := "()V" } : Jvm.MethodName) object_method_1_code (1 : Nat) (Option.none : Option Jvm.ClassFile.FieldType), Jvm.Cond.code ({ cls := "java/lang/Long", name := "divideUnsigned", desc := "(JJ)J" } : Jvm.MethodName) jdk_35_method_44_code (8 : Nat) (Option.some Jvm.ClassFile.FieldType.long), Jvm.Cond.code ({ cls := "com/example/upper_falls/upperfalls/CellWords", name := "fold", desc := "(JZ)J" } : Jvm.MethodName) prog_5_method_2_code (7 : Nat) (Option.some Jvm.ClassFile.FieldType.long)]
set_option maxRecDepth 65536 in
theorem codes_eq : words1.filter isCode = codes1 := rfl
theorem w_codes : ∀ c ∈ words1.filter isCode, c.before args0 about1 = true := by
  rw [codes_eq]
  intro c hc
  simp only [codes1, List.mem_cons, List.not_mem_nil, or_false] at hc
  rcases hc with rfl | rfl | rfl | rfl | rfl | rfl
  · exact w_c0
  · exact w_c1
  · exact w_c2
  · exact w_c3
  · exact w_c4
  · exact w_c5
set_option maxRecDepth 65536 in
theorem w_t1 : (words1.take 24).all (fun c => isCode c || c.before args0 about1) = true := by decide +kernel
set_option maxRecDepth 65536 in
theorem w_t2 : (words1.drop 24).all (fun c => isCode c || c.before args0 about1) = true := by decide +kernel
theorem w_tables : (allAtoms (Jvm.Cond.code x code maxLocals ret :: tables_1)).before args0 about1 = true := by
  rw [allAtoms_all]
  show words1.all (fun c => c.before args0 about1) = true
  refine all_split ?_ w_codes
  rw [← List.take_append_drop 24 words1, List.all_append, w_t1, w_t2]
  rfl
set_option maxRecDepth 65536 in
theorem w_case : (Jvm.Cond.and given_1 narrow_1).before args0 about1 = true := by decide +kernel
theorem w_applies : (headSpec (Jvm.Cond.code x code maxLocals ret :: tables_1) room_1).applies x e0.platform about1 = true :=
  (Spec.applies_iff w_frames).mpr ⟨w_running, w_runnable, w_alone, w_named, w_hears, w_ripe, w_room, w_tables⟩
theorem atStart : AtStart classFile x code maxLocals ret World_1 tables_1 room_1 Calls_1 rest_1 Pre_1 launch0 p0 e0 about1 theMethod args0 below0 :=
  ⟨lists_1, trivial, launch0.admits_env _ _ _, launch0.least_env, fairChoices_fair.cas, fairChoices_fair.clock, w_frames, w_args, w_heap, w_applies, trivial, trivial, w_case⟩
end start1
theorem witness_1 : WitnessClaimed_1 := ⟨start1.p0, start1.e0, start1.about1, start1.theMethod, start1.args0, start1.below0, start1.atStart⟩
end Jvm.Pilot.@@N@@
