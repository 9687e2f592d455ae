import JvmDerived
import JvmDerived.Pilot.@@N@@Statement
import JvmDerived.Pilot.@@N@@Code
set_option linter.unusedVariables false
set_option linter.unusedSimpArgs false
namespace Jvm.RoadKit
open Sem ClassFile Op Lib Jvm.Stand Jvm.Free Jvm.LawKit
section New
variable {p : Program} {l : Launch} {e : Env} {R : Room} {s : State} {m : MethodId} {args : Array Value} {below : List Frame} {meth : Method} {c : Code} {T : State} {locs : List Loc} {cells slots : Nat}
theorem retI (X : Stand p l e R s m args below meth c T locs cells slots) (hx : p.tables.exec = Jvm.exec) {pc : Nat} {Ls : Array Slot} {z : Int32} {rest : List Value} (hret : meth.sig.returnType = some .int) (hd : decode c.code pc = .ok (.ireturn, 1)) {fs : List Frame}
    (hl : ∀ (f : JFrame) (acts : List Action), f.method = m → f.locked = none → f.entered = [] → (doReturn e (T.setTop f) acts (some (.int z))).1 = T.setFrames fs) : Steps p.tables e below (T.setTop (mkF m pc Ls (.int z :: rest))) (T.setFrames fs) := by
  have hm' : T.vm.method? m = some meth := X.method'
  have hn : narrow .int (.int z) = .int z := rfl
  show Steps p.tables e below (T.setTop { method := m, pc := pc, locals := Ls, stack := _ :: rest, locked := none }) _
  jvm_step X.here [X.here.top, hx, hd, hm', hret, hn]
  first | (intro acts; rw [hl _ acts rfl rfl rfl]) | rw [hl _ _ rfl rfl rfl]
  exact Steps.refl _
end New
/-! the walk in continuation form: from the state T at the frame f the run ends by a return, as Q says -/
section Own
variable {p : Program} {l : Launch} {e : Env} {R : Room} {s : State} {m : MethodId} {args : Array Value} {below : List Frame} {meth : Method} {c : Code} {T T' : State} {locs : List Loc} {cells slots k n : Nat} {Q : Option Value → Heap → List Loc → Prop} {f f' : JFrame}
def ownE (p : Program) (e : Env) (below : List Frame) (s : State) (Q : Option Value → Heap → List Loc → Prop) (k n : Nat) (T : State) (f : JFrame) : Prop :=
  ∃ s₂ o, Steps p.tables e below (T.setTop f) s₂ ∧ s₂.status = .running ∧ Ended s₂ below o ∧ ∃ v L, o = .returned v ∧ Q v s₂.heap L ∧ FrameEnd s o s₂ L k n
theorem ownE.go (g : ∀ t, Steps p.tables e below (T'.setTop f') t → Steps p.tables e below (T.setTop f) t) (h : ownE p e below s Q k n T' f') : ownE p e below s Q k n T f := by
  obtain ⟨s₂, o, h1, r⟩ := h
  exact ⟨s₂, o, g _ h1, r⟩
theorem ownE.goS (g : Steps p.tables e below (T.setTop f) (T'.setTop f')) (h : ownE p e below s Q k n T' f') : ownE p e below s Q k n T f := by
  obtain ⟨s₂, o, h1, r⟩ := h
  exact ⟨s₂, o, g.trans h1, r⟩
theorem ownE.ret (X : Stand p l e R s m args below meth c T locs cells slots) {v : Option Value} (hlk : meth.locks = false) (hv : meth.sig.returnType = none → v = none)
    (st : ∀ fs, (∀ (f : JFrame) (acts : List Action), f.method = m → f.locked = none → f.entered = [] → (doReturn e (T.setTop f) acts v).1 = T.setFrames fs) → Steps p.tables e below (T.setTop f) (T.setFrames fs))
    (hQ : Q v T.heap locs) (hk : cells ≤ k) (hn : slots ≤ n) : ownE p e below s Q k n T f := by
  obtain ⟨fs, hr, hrun, hended, hW, hsame⟩ := X.leave (v := v) hv hlk
  exact ⟨_, _, st fs hr, hrun, hended, _, _, rfl, hQ, ⟨_, rfl⟩, hW, hsame.mono hk hn⟩
theorem ownE.retI (X : Stand p l e R s m args below meth c T locs cells slots) (hx : p.tables.exec = Jvm.exec) (hlk : meth.locks = false) {pc : Nat} {Ls : Array Slot} {z : Int32} {rest : List Value} (hret : meth.sig.returnType = some .int) (hd : decode c.code pc = .ok (.ireturn, 1))
    (hQ : Q (some (.int z)) T.heap locs) (hk : cells ≤ k) (hn : slots ≤ n) : ownE p e below s Q k n T (mkF m pc Ls (.int z :: rest)) :=
  ownE.ret X hlk (fun h => by rw [hret] at h; cases h) (fun fs hr => Jvm.RoadKit.retI X hx hret hd hr) hQ hk hn
theorem ownE.retN (X : Stand p l e R s m args below meth c T locs cells slots) (hx : p.tables.exec = Jvm.exec) (hlk : meth.locks = false) {pc : Nat} {Ls : Array Slot} {z : Int32} {rest : List Value} {t : FieldType} (hret : meth.sig.returnType = some t) (ht : t = .boolean ∨ t = .byte ∨ t = .char ∨ t = .short) (hd : decode c.code pc = .ok (.ireturn, 1))
    (hQ : Q (some (.int (nar t z))) T.heap locs) (hk : cells ≤ k) (hn : slots ≤ n) : ownE p e below s Q k n T (mkF m pc Ls (.int z :: rest)) :=
  ownE.ret X hlk (fun h => by rw [hret] at h; cases h) (fun fs hr => Jvm.RoadKit.retN X hx hret ht hd hr) hQ hk hn
theorem ownE.retL (X : Stand p l e R s m args below meth c T locs cells slots) (hx : p.tables.exec = Jvm.exec) (hlk : meth.locks = false) {pc : Nat} {Ls : Array Slot} {z : Int64} {rest : List Value} (hret : meth.sig.returnType = some .long) (hd : decode c.code pc = .ok (.lreturn, 1))
    (hQ : Q (some (.long z)) T.heap locs) (hk : cells ≤ k) (hn : slots ≤ n) : ownE p e below s Q k n T (mkF m pc Ls (.long z :: rest)) :=
  ownE.ret X hlk (fun h => by rw [hret] at h; cases h) (fun fs hr => Jvm.RoadKit.retOut X hx hret rfl (Or.inr (Or.inl ⟨rfl, rfl, z, rfl⟩)) hd hr) hQ hk hn
theorem ownE.retA (X : Stand p l e R s m args below meth c T locs cells slots) (hx : p.tables.exec = Jvm.exec) (hlk : meth.locks = false) {pc : Nat} {Ls : Array Slot} {z : Value} {rest : List Value} {t : FieldType} (hret : meth.sig.returnType = some t) (ht : t.isReference = true) (hz : z.isRef = true) (hn' : narrow t z = z) (hd : decode c.code pc = .ok (.areturn, 1))
    (hQ : Q (some z) T.heap locs) (hk : cells ≤ k) (hn : slots ≤ n) : ownE p e below s Q k n T (mkF m pc Ls (z :: rest)) :=
  ownE.ret X hlk (fun h => by rw [hret] at h; cases h) (fun fs hr => Jvm.RoadKit.retOut X hx hret hn' (Or.inr (Or.inr (Or.inr (Or.inr ⟨rfl, ht, hz⟩)))) hd hr) hQ hk hn
theorem ownE.retV (X : Stand p l e R s m args below meth c T locs cells slots) (hx : p.tables.exec = Jvm.exec) (hlk : meth.locks = false) {pc : Nat} {Ls : Array Slot} (hret : meth.sig.returnType = none) (hd : decode c.code pc = .ok (.return_, 1))
    (hQ : Q none T.heap locs) (hk : cells ≤ k) (hn : slots ≤ n) : ownE p e below s Q k n T (mkF m pc Ls []) :=
  ownE.ret X hlk (fun _ => rfl) (fun fs hr => X.returnOut hx hret hd hr) hQ hk hn
end Own
theorem own_eqV {u : Term} {args : Array Value} {Z : State} {x k : Int32} (e : u.eval args Z none [] Z = some (.int x)) : (Jvm.Cond.eq u (.int k)).value args Z none Z [] = some (decide (x = k)) := by
  have ek : (Term.int k).eval args Z none [] Z = some (.int k) := Term.int_eval k
  simp only [Cond.value]
  rw [e, ek]
theorem own_selP {s : State} {args : Array Value} {y : MethodName} {n : Nat} (wi : (Cond.instantiable y.cls n).before args s = true) (hi : (Cond.instanceMethod y).before args s = true) (hp : s.PrivateAt y) (hy : y.cls ≠ "java/lang/invoke/MethodHandle" ∧ y.cls ≠ "java/lang/invoke/VarHandle") : (Cond.selects y.cls y y).before args s = true := by
  obtain ⟨c, k, h1, h2, -, h4, -⟩ := Cond.instantiable_spec wi
  exact selects_self_of_private h1 h2 (by simp at h4; exact h4.1) hp hi hy
end Jvm.RoadKit
namespace Jvm.RoadKit
open Sem ClassFile Op Lib Jvm.Stand Jvm.Free Jvm.LawKit
/-! the same where a String constant may be interned on the way: the frame's end is the wide one -/
section OwnW
variable {p : Program} {l : Launch} {e : Env} {R : Room} {s : State} {vm₁ : Vm} {m : MethodId} {args : Array Value} {below : List Frame} {meth : Method} {c : Code} {T T' : State} {locs : List Loc} {cells slots k n n₀ : Nat} {Q : Option Value → Heap → List Loc → Prop} {f f' : JFrame}
def ownW (p : Program) (e : Env) (below : List Frame) (s : State) (Q : Option Value → Heap → List Loc → Prop) (k n : Nat) (T : State) (f : JFrame) : Prop :=
  ∃ s₂ o, Steps p.tables e below (T.setTop f) s₂ ∧ s₂.status = .running ∧ Ended s₂ below o ∧ ∃ v L, o = .returned v ∧ Q v s₂.heap L ∧ ReturnedEndW s o s₂ L k n
theorem ownW.go (g : ∀ t, Steps p.tables e below (T'.setTop f') t → Steps p.tables e below (T.setTop f) t) (h : ownW p e below s Q k n T' f') : ownW p e below s Q k n T f := by
  obtain ⟨s₂, o, h1, r⟩ := h
  exact ⟨s₂, o, g _ h1, r⟩
theorem ownW.goS (g : Steps p.tables e below (T.setTop f) (T'.setTop f')) (h : ownW p e below s Q k n T' f') : ownW p e below s Q k n T f := by
  obtain ⟨s₂, o, h1, r⟩ := h
  exact ⟨s₂, o, g.trans h1, r⟩
theorem ownW.retN (X : Stand p l e R (s.setVm vm₁) m args below meth c T locs cells slots) (hx : p.tables.exec = Jvm.exec) (hlk : meth.locks = false) {pc : Nat} {Ls : Array Slot} {z : Int32} {rest : List Value} {t : FieldType} (hret : meth.sig.returnType = some t) (ht : t = .boolean ∨ t = .byte ∨ t = .char ∨ t = .short) (hd : decode c.code pc = .ok (.ireturn, 1))
    (hS : s.Since vm₁ n₀) (hn₀ : n₀ ≤ T.heap.size) (hQ : Q (some (.int (nar t z))) T.heap locs) (hk : cells ≤ k) (hn : slots ≤ n) : ownW p e below s Q k n T (mkF m pc Ls (.int z :: rest)) := by
  obtain ⟨fs, hr, hrun, hended, hEnd⟩ := X.leaveW hS hn₀ (v := some (.int (nar t z))) (fun h => by rw [hret] at h; cases h) hlk
  exact ⟨_, _, Jvm.RoadKit.retN X hx hret ht hd hr, hrun, hended, _, _, rfl, hQ, hEnd.1, hEnd.2.1, hEnd.2.2.1, hEnd.2.2.2.mono hk hn⟩
end OwnW
end Jvm.RoadKit
namespace Jvm.Pilot.@@N@@
open Jvm Jvm.ClassFile Sem Op Lib Jvm.Free Jvm.Stand Jvm.LawKit Jvm.RoadKit Bundle Jvm.Pilot.@@N@@.Jvm.D
theorem own_d2_0 : decode jdk_30_method_1_code 0 = .ok (.aload_n 0, 1) := by decide +kernel
theorem own_d2_1 : decode jdk_30_method_1_code 1 = .ok (.invokespecial 1, 3) := by decide +kernel
theorem own_d2_4 : decode jdk_30_method_1_code 4 = .ok (.return_, 1) := by decide +kernel
theorem own_pn0 : plainName "java/lang/Record" = true := by first | (simp [plainName, overriddenIn]; done) | decide +kernel
theorem own_ef2 (m : MethodId) (x0 : Addr) : entryFrame m #[(.ref x0)] 1 = mkF m 0 #[.val (.ref x0)] [] := by first | (simp [entryFrame, mkF, argsToLocals, Value.category]; done) | rfl
def own_Q2 (Z : State) (r0 : Addr) (h0 : Heap) (n0 : Nat) (v : Option Value) (h : Heap) (L : List Loc) : Prop := v = none ∧ Fr n0 L ∧ h = h0
set_option maxRecDepth 65536 in
set_option maxHeartbeats 40000000 in
theorem own_rm2 (l : Launch) (Z : State) (a0 : Array Value) (hw : ∀ d ∈ tables_1, d.before a0 Z = true) (ws : List Jvm.Cond) (r0 : Addr) (h0 : Heap) (n0 : Nat) (Z0 : n0 ≤ h0.size) :
    MetFree l (⟨"java/lang/Record", "<init>", "()V"⟩ : MethodName) (head1 (Jvm.Cond.code (⟨"java/lang/Record", "<init>", "()V"⟩ : MethodName) jdk_30_method_1_code 1 none :: ws) ({ frames := 1, cells := 0, slots := 0, locals := 12 } : Room)) (fun a U => a = #[(.ref r0)] ∧ Z.Warmed39 U.vm ∧ U.heap = h0) (fun _ _ _ _ _ => True) (fun _ U o U' => ∃ v L, o = .returned v ∧ own_Q2 Z r0 h0 n0 v U'.heap L ∧ FrameEnd U o U' L ({ frames := 1, cells := 0, slots := 0, locals := 12 } : Room).cells ({ frames := 1, cells := 0, slots := 0, locals := 12 } : Room).slots) := by
  refine MetFree.of_bodySF (plainFor_of_name own_pn0) hisR ?_
  intro p e s m args below meth c s₁ Bd hml0 hP hK
  obtain ⟨rfl, hZ, hh⟩ := hP
  have hx := Bd.exec
  have hby := Bd.bytes
  have hret := Bd.returns
  have hlk := BodyLoose.notSynchronized Bd
  have hml : c.maxLocals = 1 := hml0
  have hown : s.vm.findClass "java/lang/Record" = some m.cls := findClass_of_methodNamed Bd.named
  have hnm := (name_of_methodNamed Bd.named Bd.method).1
  have X0 : Stand p l e ({ frames := 1, cells := 0, slots := 0, locals := 12 } : Room) s m #[(.ref r0)] below meth c s₁ [] 0 0 := Stand.of_body Bd
  have e0 : s₁.heap = h0 := by rw [← hh, Bd.state]; rfl
  have N0 := Fr.nil n0
  have K0 : Keep h0 h0 [] := Keep.refl h0 _
  show ownE p e below s (own_Q2 Z r0 h0 n0) ({ frames := 1, cells := 0, slots := 0, locals := 12 } : Room).cells ({ frames := 1, cells := 0, slots := 0, locals := 12 } : Room).slots s₁ (entryFrame m #[(.ref r0)] 1)
  rw [own_ef2]
  refine ownE.go (T' := s₁) (f' := (mkF m 1 #[.val (.ref r0)] [(.ref r0)])) (fun t kt => ?_) ?_
  · show Steps p.tables e below (s₁.setTop (mkF m 0 #[.val (.ref r0)] [])) _
    refine XS.aloadN X0.here hx rfl (hb hby own_d2_0) rfl rfl ?_
    exact kt
  obtain ⟨T1, X1, e1, st1⟩ := initO X0 hx hZ hown (hw _ (List.mem_of_getElem? (i := 20) rfl)) (hw _ (List.mem_of_getElem? (i := 21) rfl)) (hw _ (List.mem_of_getElem? (i := 22) rfl)) e0 (g := (mkF m 1 #[.val (.ref r0)] [(.ref r0)])) rfl (by rw [hml]; rfl) rfl (hb hby own_d2_1) (by decide) (W := 0) (by show 2 * 0 + _ ≤ _; exact Nat.le_of_eq rfl) (by decide)
  refine ownE.go (T' := T1) (f' := (mkF m 4 #[.val (.ref r0)] [])) st1 ?_
  refine ownE.retV X1 hx hlk hret (hb hby own_d2_4) ?_ (by decide) (by decide)
  show own_Q2 Z r0 h0 n0 _ T1.heap _
  rw [e1]
  exact ⟨rfl, N0, rfl⟩
theorem own_pd1 : parseMethodDescriptor "()V" = some ⟨[], none⟩ := by decide +kernel
theorem own_d1_0 : decode prog_18_method_1_code 0 = .ok (.aload_n 0, 1) := by decide +kernel
theorem own_d1_1 : decode prog_18_method_1_code 1 = .ok (.invokespecial 3, 3) := by decide +kernel
theorem own_d1_4 : decode prog_18_method_1_code 4 = .ok (.aload_n 0, 1) := by decide +kernel
theorem own_d1_5 : decode prog_18_method_1_code 5 = .ok (.aload_n 1, 1) := by decide +kernel
theorem own_d1_6 : decode prog_18_method_1_code 6 = .ok (.putfield 9, 3) := by decide +kernel
theorem own_d1_9 : decode prog_18_method_1_code 9 = .ok (.aload_n 0, 1) := by decide +kernel
theorem own_d1_10 : decode prog_18_method_1_code 10 = .ok (.iload_n 2, 1) := by decide +kernel
theorem own_d1_11 : decode prog_18_method_1_code 11 = .ok (.putfield 15, 3) := by decide +kernel
theorem own_d1_14 : decode prog_18_method_1_code 14 = .ok (.aload_n 0, 1) := by decide +kernel
theorem own_d1_15 : decode prog_18_method_1_code 15 = .ok (.aload_n 3, 1) := by decide +kernel
theorem own_d1_16 : decode prog_18_method_1_code 16 = .ok (.putfield 19, 3) := by decide +kernel
theorem own_d1_19 : decode prog_18_method_1_code 19 = .ok (.aload_n 0, 1) := by decide +kernel
theorem own_d1_20 : decode prog_18_method_1_code 20 = .ok (.iload 4, 2) := by decide +kernel
theorem own_d1_22 : decode prog_18_method_1_code 22 = .ok (.putfield 23, 3) := by decide +kernel
theorem own_d1_25 : decode prog_18_method_1_code 25 = .ok (.aload_n 0, 1) := by decide +kernel
theorem own_d1_26 : decode prog_18_method_1_code 26 = .ok (.iload 5, 2) := by decide +kernel
theorem own_d1_28 : decode prog_18_method_1_code 28 = .ok (.putfield 27, 3) := by decide +kernel
theorem own_d1_31 : decode prog_18_method_1_code 31 = .ok (.aload_n 0, 1) := by decide +kernel
theorem own_d1_32 : decode prog_18_method_1_code 32 = .ok (.lload 6, 2) := by decide +kernel
theorem own_d1_34 : decode prog_18_method_1_code 34 = .ok (.putfield 30, 3) := by decide +kernel
theorem own_d1_37 : decode prog_18_method_1_code 37 = .ok (.aload_n 0, 1) := by decide +kernel
theorem own_d1_38 : decode prog_18_method_1_code 38 = .ok (.lload 8, 2) := by decide +kernel
theorem own_d1_40 : decode prog_18_method_1_code 40 = .ok (.putfield 34, 3) := by decide +kernel
theorem own_d1_43 : decode prog_18_method_1_code 43 = .ok (.aload_n 0, 1) := by decide +kernel
theorem own_d1_44 : decode prog_18_method_1_code 44 = .ok (.lload 10, 2) := by decide +kernel
theorem own_d1_46 : decode prog_18_method_1_code 46 = .ok (.putfield 37, 3) := by decide +kernel
theorem own_d1_49 : decode prog_18_method_1_code 49 = .ok (.aload_n 0, 1) := by decide +kernel
theorem own_d1_50 : decode prog_18_method_1_code 50 = .ok (.lload 12, 2) := by decide +kernel
theorem own_d1_52 : decode prog_18_method_1_code 52 = .ok (.putfield 40, 3) := by decide +kernel
theorem own_d1_55 : decode prog_18_method_1_code 55 = .ok (.aload_n 0, 1) := by decide +kernel
theorem own_d1_56 : decode prog_18_method_1_code 56 = .ok (.iload 14, 2) := by decide +kernel
theorem own_d1_58 : decode prog_18_method_1_code 58 = .ok (.putfield 43, 3) := by decide +kernel
theorem own_d1_61 : decode prog_18_method_1_code 61 = .ok (.aload_n 0, 1) := by decide +kernel
theorem own_d1_62 : decode prog_18_method_1_code 62 = .ok (.iload 15, 2) := by decide +kernel
theorem own_d1_64 : decode prog_18_method_1_code 64 = .ok (.putfield 46, 3) := by decide +kernel
theorem own_d1_67 : decode prog_18_method_1_code 67 = .ok (.aload_n 0, 1) := by decide +kernel
theorem own_d1_68 : decode prog_18_method_1_code 68 = .ok (.iload 16, 2) := by decide +kernel
theorem own_d1_70 : decode prog_18_method_1_code 70 = .ok (.putfield 49, 3) := by decide +kernel
theorem own_d1_73 : decode prog_18_method_1_code 73 = .ok (.aload_n 0, 1) := by decide +kernel
theorem own_d1_74 : decode prog_18_method_1_code 74 = .ok (.aload 17, 2) := by decide +kernel
theorem own_d1_76 : decode prog_18_method_1_code 76 = .ok (.putfield 52, 3) := by decide +kernel
theorem own_d1_79 : decode prog_18_method_1_code 79 = .ok (.return_, 1) := by decide +kernel
theorem own_pn2 : plainName "com/example/libvalise/libvalise/ZipReader$Entry" = true := by first | (simp [plainName, overriddenIn]; done) | decide +kernel
theorem own_ef1 (m : MethodId) (x0 : Addr) (x1 : Addr) (x10 : Int32) (x11 : Int32) : entryFrame m #[(.ref x0), (.ref x1), (.int (1 : Int32)), .null, (.int (0 : Int32)), (.int (0 : Int32)), (.long (0 : Int64)), (.long (0 : Int64)), (.long (0 : Int64)), (.long (0 : Int64)), (.int x10), (.int x11), (.int (0 : Int32)), .null] 18 = mkF m 0 #[.val (.ref x0), .val (.ref x1), .val (.int (1 : Int32)), .val .null, .val (.int (0 : Int32)), .val (.int (0 : Int32)), .val (.long (0 : Int64)), .second, .val (.long (0 : Int64)), .second, .val (.long (0 : Int64)), .second, .val (.long (0 : Int64)), .second, .val (.int x10), .val (.int x11), .val (.int (0 : Int32)), .val .null] [] := by first | (simp [entryFrame, mkF, argsToLocals, Value.category]; done) | rfl
def own_Q1 (Z : State) (r0 : Addr) (r1 : Addr) (i10 : Int32) (i11 : Int32) (h0 : Heap) (n0 : Nat) (v : Option Value) (h : Heap) (L : List Loc) : Prop := v = none ∧ Fr n0 L ∧ Keep h0 h [r0] ∧ Exa Z h r0 "com/example/libvalise/libvalise/ZipReader$Entry" ∧ Fld Z h r0 "com/example/libvalise/libvalise/ZipReader$Entry" "name" "Ljava/lang/String;" (.ref r1) ∧ Fld Z h r0 "com/example/libvalise/libvalise/ZipReader$Entry" "madeBy" "I" (.int i10) ∧ Fld Z h r0 "com/example/libvalise/libvalise/ZipReader$Entry" "externalAttributes" "I" (.int i11)
set_option maxRecDepth 65536 in
set_option maxHeartbeats 40000000 in
theorem own_rm1 (l : Launch) (Z : State) (a0 : Array Value) (hw : ∀ d ∈ tables_1, d.before a0 Z = true) (ws : List Jvm.Cond) (r0 : Addr) (r1 : Addr) (i10 : Int32) (i11 : Int32) (h0 : Heap) (n0 : Nat) (Z0 : n0 ≤ h0.size) (P0 : Fld Z h0 r0 "com/example/libvalise/libvalise/ZipReader$Entry" "name" "Ljava/lang/String;" .null) (P1 : Fld Z h0 r0 "com/example/libvalise/libvalise/ZipReader$Entry" "utf8Name" "Z" (.int (0 : Int32))) (P2 : Fld Z h0 r0 "com/example/libvalise/libvalise/ZipReader$Entry" "rawName" "[B" .null) (P3 : Fld Z h0 r0 "com/example/libvalise/libvalise/ZipReader$Entry" "method" "I" (.int (0 : Int32))) (P4 : Fld Z h0 r0 "com/example/libvalise/libvalise/ZipReader$Entry" "dosDateTime" "I" (.int (0 : Int32))) (P5 : Fld Z h0 r0 "com/example/libvalise/libvalise/ZipReader$Entry" "crc" "J" (.long (0 : Int64))) (P6 : Fld Z h0 r0 "com/example/libvalise/libvalise/ZipReader$Entry" "compressedSize" "J" (.long (0 : Int64))) (P7 : Fld Z h0 r0 "com/example/libvalise/libvalise/ZipReader$Entry" "size" "J" (.long (0 : Int64))) (P8 : Fld Z h0 r0 "com/example/libvalise/libvalise/ZipReader$Entry" "localHeaderOffset" "J" (.long (0 : Int64))) (P9 : Fld Z h0 r0 "com/example/libvalise/libvalise/ZipReader$Entry" "madeBy" "I" (.int (0 : Int32))) (P10 : Fld Z h0 r0 "com/example/libvalise/libvalise/ZipReader$Entry" "externalAttributes" "I" (.int (0 : Int32))) (P11 : Fld Z h0 r0 "com/example/libvalise/libvalise/ZipReader$Entry" "utf8Flag" "Z" (.int (0 : Int32))) (P12 : Fld Z h0 r0 "com/example/libvalise/libvalise/ZipReader$Entry" "comment" "[B" .null) (P13 : Exa Z h0 r0 "com/example/libvalise/libvalise/ZipReader$Entry") (P14 : n0 ≤ r0) :
    MetFree l (⟨"com/example/libvalise/libvalise/ZipReader$Entry", "<init>", "(Ljava/lang/String;Z[BIIJJJJIIZ[B)V"⟩ : MethodName) (head1 (Jvm.Cond.code (⟨"com/example/libvalise/libvalise/ZipReader$Entry", "<init>", "(Ljava/lang/String;Z[BIIJJJJIIZ[B)V"⟩ : MethodName) prog_18_method_1_code 18 none :: ws) ({ frames := 2, cells := 0, slots := 0, locals := 24 } : Room)) (fun a U => a = #[(.ref r0), (.ref r1), (.int (1 : Int32)), .null, (.int (0 : Int32)), (.int (0 : Int32)), (.long (0 : Int64)), (.long (0 : Int64)), (.long (0 : Int64)), (.long (0 : Int64)), (.int i10), (.int i11), (.int (0 : Int32)), .null] ∧ Z.Warmed39 U.vm ∧ U.heap = h0) (fun _ _ _ _ _ => True) (fun _ U o U' => ∃ v L, o = .returned v ∧ own_Q1 Z r0 r1 i10 i11 h0 n0 v U'.heap L ∧ FrameEnd U o U' L ({ frames := 2, cells := 0, slots := 0, locals := 24 } : Room).cells ({ frames := 2, cells := 0, slots := 0, locals := 24 } : Room).slots) := by
  refine MetFree.of_bodySF (plainFor_of_name own_pn2) hisR ?_
  intro p e s m args below meth c s₁ Bd hml0 hP hK
  obtain ⟨rfl, hZ, hh⟩ := hP
  have hx := Bd.exec
  have hby := Bd.bytes
  have hret := Bd.returns
  have hlk := BodyLoose.notSynchronized Bd
  have hml : c.maxLocals = 18 := hml0
  have hown : s.vm.findClass "com/example/libvalise/libvalise/ZipReader$Entry" = some m.cls := findClass_of_methodNamed Bd.named
  have hnm := (name_of_methodNamed Bd.named Bd.method).1
  have X0 : Stand p l e ({ frames := 2, cells := 0, slots := 0, locals := 24 } : Room) s m #[(.ref r0), (.ref r1), (.int (1 : Int32)), .null, (.int (0 : Int32)), (.int (0 : Int32)), (.long (0 : Int64)), (.long (0 : Int64)), (.long (0 : Int64)), (.long (0 : Int64)), (.int i10), (.int i11), (.int (0 : Int32)), .null] below meth c s₁ [] 0 0 := Stand.of_body Bd
  have e0 : s₁.heap = h0 := by rw [← hh, Bd.state]; rfl
  have N0 := Fr.nil n0
  have K0 : Keep h0 h0 [r0] := Keep.refl h0 _
  show ownE p e below s (own_Q1 Z r0 r1 i10 i11 h0 n0) ({ frames := 2, cells := 0, slots := 0, locals := 24 } : Room).cells ({ frames := 2, cells := 0, slots := 0, locals := 24 } : Room).slots s₁ (entryFrame m #[(.ref r0), (.ref r1), (.int (1 : Int32)), .null, (.int (0 : Int32)), (.int (0 : Int32)), (.long (0 : Int64)), (.long (0 : Int64)), (.long (0 : Int64)), (.long (0 : Int64)), (.int i10), (.int i11), (.int (0 : Int32)), .null] 18)
  rw [own_ef1]
  refine ownE.go (T' := s₁) (f' := (mkF m 1 #[.val (.ref r0), .val (.ref r1), .val (.int (1 : Int32)), .val .null, .val (.int (0 : Int32)), .val (.int (0 : Int32)), .val (.long (0 : Int64)), .second, .val (.long (0 : Int64)), .second, .val (.long (0 : Int64)), .second, .val (.long (0 : Int64)), .second, .val (.int i10), .val (.int i11), .val (.int (0 : Int32)), .val .null] [(.ref r0)])) (fun t kt => ?_) ?_
  · show Steps p.tables e below (s₁.setTop (mkF m 0 #[.val (.ref r0), .val (.ref r1), .val (.int (1 : Int32)), .val .null, .val (.int (0 : Int32)), .val (.int (0 : Int32)), .val (.long (0 : Int64)), .second, .val (.long (0 : Int64)), .second, .val (.long (0 : Int64)), .second, .val (.long (0 : Int64)), .second, .val (.int i10), .val (.int i11), .val (.int (0 : Int32)), .val .null] [])) _
    refine XS.aloadN X0.here hx rfl (hb hby own_d1_0) rfl rfl ?_
    exact kt
  obtain ⟨_, _, ⟨T1, L1, k1, n1⟩, -, X1, ⟨Lc1, hQ1, l1, y1, z1⟩, st1⟩ := X0.specialBack hx (y := (⟨"java/lang/Record", "<init>", "()V"⟩ : MethodName)) rfl hown (mvT hZ (hw _ (List.mem_of_getElem? (i := 15) rfl))) (mvT hZ (hw _ (List.mem_of_getElem? (i := 16) rfl))) (mvT hZ (hw _ (List.mem_of_getElem? (i := 19) rfl))) (by decide) (backOf (W := 0) (own_rm2 l Z a0 hw [] r0 h0 n0 (Nat.le_trans Z0 K0.1) ) hZ (hw _ (List.mem_of_getElem? (i := 19) rfl)) (hw _ (List.mem_of_getElem? (i := 18) rfl)) (by decide) (by decide)) (g := (mkF m 1 #[.val (.ref r0), .val (.ref r1), .val (.int (1 : Int32)), .val .null, .val (.int (0 : Int32)), .val (.int (0 : Int32)), .val (.long (0 : Int64)), .second, .val (.long (0 : Int64)), .second, .val (.long (0 : Int64)), .second, .val (.long (0 : Int64)), .second, .val (.int i10), .val (.int i11), .val (.int (0 : Int32)), .val .null] [(.ref r0)])) rfl (by rw [hml]; rfl) (Steps.refl _) (a := r0) (argsL := []) (rest := []) (lenOf own_pd1 rfl) rfl (by show 2 * 0 + _ ≤ _; exact Nat.le_of_eq rfl) (hb hby own_d1_1) (fun _ _ => ⟨rfl, e0, (by decide : 0 + 0 ≤ _), (by decide : 0 + 0 ≤ _)⟩)
  dsimp only [Pt.U, Pt.locs, Pt.cells, Pt.slots] at X1 l1 y1 z1 st1 hQ1
  subst l1 y1 z1
  obtain ⟨rfl, N1q, e1⟩ := hQ1
  have N1 := Fr.app N0 N1q
  refine ownE.goS (T' := T1) (f' := (mkF m 4 #[.val (.ref r0), .val (.ref r1), .val (.int (1 : Int32)), .val .null, .val (.int (0 : Int32)), .val (.int (0 : Int32)), .val (.long (0 : Int64)), .second, .val (.long (0 : Int64)), .second, .val (.long (0 : Int64)), .second, .val (.long (0 : Int64)), .second, .val (.int i10), .val (.int i11), .val (.int (0 : Int32)), .val .null] [])) st1 ?_
  refine ownE.go (T' := T1) (f' := (mkF m 6 #[.val (.ref r0), .val (.ref r1), .val (.int (1 : Int32)), .val .null, .val (.int (0 : Int32)), .val (.int (0 : Int32)), .val (.long (0 : Int64)), .second, .val (.long (0 : Int64)), .second, .val (.long (0 : Int64)), .second, .val (.long (0 : Int64)), .second, .val (.int i10), .val (.int i11), .val (.int (0 : Int32)), .val .null] [(.ref r1), (.ref r0)])) (fun t kt => ?_) ?_
  · show Steps p.tables e below (T1.setTop (mkF m 4 #[.val (.ref r0), .val (.ref r1), .val (.int (1 : Int32)), .val .null, .val (.int (0 : Int32)), .val (.int (0 : Int32)), .val (.long (0 : Int64)), .second, .val (.long (0 : Int64)), .second, .val (.long (0 : Int64)), .second, .val (.long (0 : Int64)), .second, .val (.int i10), .val (.int i11), .val (.int (0 : Int32)), .val .null] [])) _
    refine XS.aloadN X1.here hx rfl (hb hby own_d1_4) rfl rfl ?_
    show Steps p.tables e below (T1.setTop (mkF m 5 #[.val (.ref r0), .val (.ref r1), .val (.int (1 : Int32)), .val .null, .val (.int (0 : Int32)), .val (.int (0 : Int32)), .val (.long (0 : Int64)), .second, .val (.long (0 : Int64)), .second, .val (.long (0 : Int64)), .second, .val (.long (0 : Int64)), .second, .val (.int i10), .val (.int i11), .val (.int (0 : Int32)), .val .null] [(.ref r0)])) _
    refine XS.aloadN X1.here hx rfl (hb hby own_d1_5) rfl rfl ?_
    exact kt
  obtain ⟨T2, h2, X2, e2, W2, st2⟩ := putF X1 hx hZ hown (host := "") (Or.inl (hw _ (List.mem_of_getElem? (i := 23) rfl))) Via.refl e1 P0 P13 (Or.inr ⟨(hw _ (List.mem_of_getElem? (i := 24) rfl)), rfl, hnm⟩) (hw _ (List.mem_of_getElem? (i := 2) rfl)) (ty := (.object "java/lang/String")) (by decide) rfl rfl (g := (mkF m 6 #[.val (.ref r0), .val (.ref r1), .val (.int (1 : Int32)), .val .null, .val (.int (0 : Int32)), .val (.int (0 : Int32)), .val (.long (0 : Int64)), .second, .val (.long (0 : Int64)), .second, .val (.long (0 : Int64)), .second, .val (.long (0 : Int64)), .second, .val (.int i10), .val (.int i11), .val (.int (0 : Int32)), .val .null] [(.ref r1), (.ref r0)])) rfl rfl (hb hby own_d1_6)
  have Fw2 : Fld Z h2 r0 "com/example/libvalise/libvalise/ZipReader$Entry" "name" "Ljava/lang/String;" (.ref r1) := P0.same W2
  have cFld_r0_utf8Name_2 : Fld Z h2 r0 "com/example/libvalise/libvalise/ZipReader$Entry" "utf8Name" "Z" (.int (0 : Int32)) := P1.other W2 (Or.inr (slot_ne (Or.inr (hw _ (List.mem_of_getElem? (i := 26) rfl))) (Or.inr (hw _ (List.mem_of_getElem? (i := 24) rfl))) (by decide) (t := .boolean) (t' := (.object "java/lang/String")) (by decide) (by decide)))
  have cFld_r0_rawName_2 : Fld Z h2 r0 "com/example/libvalise/libvalise/ZipReader$Entry" "rawName" "[B" .null := P2.other W2 (Or.inr (slot_ne (Or.inr (hw _ (List.mem_of_getElem? (i := 28) rfl))) (Or.inr (hw _ (List.mem_of_getElem? (i := 24) rfl))) (by decide) (t := (.array .byte)) (t' := (.object "java/lang/String")) (by decide) (by decide)))
  have cFld_r0_method_2 : Fld Z h2 r0 "com/example/libvalise/libvalise/ZipReader$Entry" "method" "I" (.int (0 : Int32)) := P3.other W2 (Or.inr (slot_ne (Or.inr (hw _ (List.mem_of_getElem? (i := 30) rfl))) (Or.inr (hw _ (List.mem_of_getElem? (i := 24) rfl))) (by decide) (t := .int) (t' := (.object "java/lang/String")) (by decide) (by decide)))
  have cFld_r0_dosDateTime_2 : Fld Z h2 r0 "com/example/libvalise/libvalise/ZipReader$Entry" "dosDateTime" "I" (.int (0 : Int32)) := P4.other W2 (Or.inr (slot_ne (Or.inr (hw _ (List.mem_of_getElem? (i := 32) rfl))) (Or.inr (hw _ (List.mem_of_getElem? (i := 24) rfl))) (by decide) (t := .int) (t' := (.object "java/lang/String")) (by decide) (by decide)))
  have cFld_r0_crc_2 : Fld Z h2 r0 "com/example/libvalise/libvalise/ZipReader$Entry" "crc" "J" (.long (0 : Int64)) := P5.other W2 (Or.inr (slot_ne (Or.inr (hw _ (List.mem_of_getElem? (i := 34) rfl))) (Or.inr (hw _ (List.mem_of_getElem? (i := 24) rfl))) (by decide) (t := .long) (t' := (.object "java/lang/String")) (by decide) (by decide)))
  have cFld_r0_compressedSize_2 : Fld Z h2 r0 "com/example/libvalise/libvalise/ZipReader$Entry" "compressedSize" "J" (.long (0 : Int64)) := P6.other W2 (Or.inr (slot_ne (Or.inr (hw _ (List.mem_of_getElem? (i := 36) rfl))) (Or.inr (hw _ (List.mem_of_getElem? (i := 24) rfl))) (by decide) (t := .long) (t' := (.object "java/lang/String")) (by decide) (by decide)))
  have cFld_r0_size_2 : Fld Z h2 r0 "com/example/libvalise/libvalise/ZipReader$Entry" "size" "J" (.long (0 : Int64)) := P7.other W2 (Or.inr (slot_ne (Or.inr (hw _ (List.mem_of_getElem? (i := 38) rfl))) (Or.inr (hw _ (List.mem_of_getElem? (i := 24) rfl))) (by decide) (t := .long) (t' := (.object "java/lang/String")) (by decide) (by decide)))
  have cFld_r0_localHeaderOffset_2 : Fld Z h2 r0 "com/example/libvalise/libvalise/ZipReader$Entry" "localHeaderOffset" "J" (.long (0 : Int64)) := P8.other W2 (Or.inr (slot_ne (Or.inr (hw _ (List.mem_of_getElem? (i := 40) rfl))) (Or.inr (hw _ (List.mem_of_getElem? (i := 24) rfl))) (by decide) (t := .long) (t' := (.object "java/lang/String")) (by decide) (by decide)))
  have cFld_r0_madeBy_2 : Fld Z h2 r0 "com/example/libvalise/libvalise/ZipReader$Entry" "madeBy" "I" (.int (0 : Int32)) := P9.other W2 (Or.inr (slot_ne (Or.inr (hw _ (List.mem_of_getElem? (i := 42) rfl))) (Or.inr (hw _ (List.mem_of_getElem? (i := 24) rfl))) (by decide) (t := .int) (t' := (.object "java/lang/String")) (by decide) (by decide)))
  have cFld_r0_externalAttributes_2 : Fld Z h2 r0 "com/example/libvalise/libvalise/ZipReader$Entry" "externalAttributes" "I" (.int (0 : Int32)) := P10.other W2 (Or.inr (slot_ne (Or.inr (hw _ (List.mem_of_getElem? (i := 44) rfl))) (Or.inr (hw _ (List.mem_of_getElem? (i := 24) rfl))) (by decide) (t := .int) (t' := (.object "java/lang/String")) (by decide) (by decide)))
  have cFld_r0_utf8Flag_2 : Fld Z h2 r0 "com/example/libvalise/libvalise/ZipReader$Entry" "utf8Flag" "Z" (.int (0 : Int32)) := P11.other W2 (Or.inr (slot_ne (Or.inr (hw _ (List.mem_of_getElem? (i := 46) rfl))) (Or.inr (hw _ (List.mem_of_getElem? (i := 24) rfl))) (by decide) (t := .boolean) (t' := (.object "java/lang/String")) (by decide) (by decide)))
  have cFld_r0_comment_2 : Fld Z h2 r0 "com/example/libvalise/libvalise/ZipReader$Entry" "comment" "[B" .null := P12.other W2 (Or.inr (slot_ne (Or.inr (hw _ (List.mem_of_getElem? (i := 48) rfl))) (Or.inr (hw _ (List.mem_of_getElem? (i := 24) rfl))) (by decide) (t := (.array .byte)) (t' := (.object "java/lang/String")) (by decide) (by decide)))
  have cExa_r0_2 : Exa Z h2 r0 "com/example/libvalise/libvalise/ZipReader$Entry" := P13.wr W2
  have K2 : Keep h0 h2 [r0] := K0.wr W2 (Or.inl (List.mem_of_getElem? (i := 0) rfl))
  have N2 := Fr.snoc X2 N1 P14
  refine ownE.go (T' := T2) (f' := (mkF m 9 #[.val (.ref r0), .val (.ref r1), .val (.int (1 : Int32)), .val .null, .val (.int (0 : Int32)), .val (.int (0 : Int32)), .val (.long (0 : Int64)), .second, .val (.long (0 : Int64)), .second, .val (.long (0 : Int64)), .second, .val (.long (0 : Int64)), .second, .val (.int i10), .val (.int i11), .val (.int (0 : Int32)), .val .null] [])) st2 ?_
  refine ownE.go (T' := T2) (f' := (mkF m 11 #[.val (.ref r0), .val (.ref r1), .val (.int (1 : Int32)), .val .null, .val (.int (0 : Int32)), .val (.int (0 : Int32)), .val (.long (0 : Int64)), .second, .val (.long (0 : Int64)), .second, .val (.long (0 : Int64)), .second, .val (.long (0 : Int64)), .second, .val (.int i10), .val (.int i11), .val (.int (0 : Int32)), .val .null] [(.int (1 : Int32)), (.ref r0)])) (fun t kt => ?_) ?_
  · show Steps p.tables e below (T2.setTop (mkF m 9 #[.val (.ref r0), .val (.ref r1), .val (.int (1 : Int32)), .val .null, .val (.int (0 : Int32)), .val (.int (0 : Int32)), .val (.long (0 : Int64)), .second, .val (.long (0 : Int64)), .second, .val (.long (0 : Int64)), .second, .val (.long (0 : Int64)), .second, .val (.int i10), .val (.int i11), .val (.int (0 : Int32)), .val .null] [])) _
    refine XS.aloadN X2.here hx rfl (hb hby own_d1_9) rfl rfl ?_
    show Steps p.tables e below (T2.setTop (mkF m 10 #[.val (.ref r0), .val (.ref r1), .val (.int (1 : Int32)), .val .null, .val (.int (0 : Int32)), .val (.int (0 : Int32)), .val (.long (0 : Int64)), .second, .val (.long (0 : Int64)), .second, .val (.long (0 : Int64)), .second, .val (.long (0 : Int64)), .second, .val (.int i10), .val (.int i11), .val (.int (0 : Int32)), .val .null] [(.ref r0)])) _
    refine XS.iloadN X2.here hx rfl (hb hby own_d1_10) rfl ?_
    exact kt
  obtain ⟨T3, h3, X3, e3, W3, st3⟩ := putF X2 hx hZ hown (host := "") (Or.inl (hw _ (List.mem_of_getElem? (i := 25) rfl))) Via.refl e2 cFld_r0_utf8Name_2 cExa_r0_2 (Or.inr ⟨(hw _ (List.mem_of_getElem? (i := 26) rfl)), rfl, hnm⟩) (hw _ (List.mem_of_getElem? (i := 2) rfl)) (ty := .boolean) (by decide) rfl rfl (g := (mkF m 11 #[.val (.ref r0), .val (.ref r1), .val (.int (1 : Int32)), .val .null, .val (.int (0 : Int32)), .val (.int (0 : Int32)), .val (.long (0 : Int64)), .second, .val (.long (0 : Int64)), .second, .val (.long (0 : Int64)), .second, .val (.long (0 : Int64)), .second, .val (.int i10), .val (.int i11), .val (.int (0 : Int32)), .val .null] [(.int (1 : Int32)), (.ref r0)])) rfl rfl (hb hby own_d1_11)
  have Fw3 : Fld Z h3 r0 "com/example/libvalise/libvalise/ZipReader$Entry" "utf8Name" "Z" (.int (1 : Int32)) := cFld_r0_utf8Name_2.same W3
  have cFld_r0_name_3 : Fld Z h3 r0 "com/example/libvalise/libvalise/ZipReader$Entry" "name" "Ljava/lang/String;" (.ref r1) := Fw2.other W3 (Or.inr (slot_ne (Or.inr (hw _ (List.mem_of_getElem? (i := 24) rfl))) (Or.inr (hw _ (List.mem_of_getElem? (i := 26) rfl))) (by decide) (t := (.object "java/lang/String")) (t' := .boolean) (by decide) (by decide)))
  have cFld_r0_rawName_3 : Fld Z h3 r0 "com/example/libvalise/libvalise/ZipReader$Entry" "rawName" "[B" .null := cFld_r0_rawName_2.other W3 (Or.inr (slot_ne (Or.inr (hw _ (List.mem_of_getElem? (i := 28) rfl))) (Or.inr (hw _ (List.mem_of_getElem? (i := 26) rfl))) (by decide) (t := (.array .byte)) (t' := .boolean) (by decide) (by decide)))
  have cFld_r0_method_3 : Fld Z h3 r0 "com/example/libvalise/libvalise/ZipReader$Entry" "method" "I" (.int (0 : Int32)) := cFld_r0_method_2.other W3 (Or.inr (slot_ne (Or.inr (hw _ (List.mem_of_getElem? (i := 30) rfl))) (Or.inr (hw _ (List.mem_of_getElem? (i := 26) rfl))) (by decide) (t := .int) (t' := .boolean) (by decide) (by decide)))
  have cFld_r0_dosDateTime_3 : Fld Z h3 r0 "com/example/libvalise/libvalise/ZipReader$Entry" "dosDateTime" "I" (.int (0 : Int32)) := cFld_r0_dosDateTime_2.other W3 (Or.inr (slot_ne (Or.inr (hw _ (List.mem_of_getElem? (i := 32) rfl))) (Or.inr (hw _ (List.mem_of_getElem? (i := 26) rfl))) (by decide) (t := .int) (t' := .boolean) (by decide) (by decide)))
  have cFld_r0_crc_3 : Fld Z h3 r0 "com/example/libvalise/libvalise/ZipReader$Entry" "crc" "J" (.long (0 : Int64)) := cFld_r0_crc_2.other W3 (Or.inr (slot_ne (Or.inr (hw _ (List.mem_of_getElem? (i := 34) rfl))) (Or.inr (hw _ (List.mem_of_getElem? (i := 26) rfl))) (by decide) (t := .long) (t' := .boolean) (by decide) (by decide)))
  have cFld_r0_compressedSize_3 : Fld Z h3 r0 "com/example/libvalise/libvalise/ZipReader$Entry" "compressedSize" "J" (.long (0 : Int64)) := cFld_r0_compressedSize_2.other W3 (Or.inr (slot_ne (Or.inr (hw _ (List.mem_of_getElem? (i := 36) rfl))) (Or.inr (hw _ (List.mem_of_getElem? (i := 26) rfl))) (by decide) (t := .long) (t' := .boolean) (by decide) (by decide)))
  have cFld_r0_size_3 : Fld Z h3 r0 "com/example/libvalise/libvalise/ZipReader$Entry" "size" "J" (.long (0 : Int64)) := cFld_r0_size_2.other W3 (Or.inr (slot_ne (Or.inr (hw _ (List.mem_of_getElem? (i := 38) rfl))) (Or.inr (hw _ (List.mem_of_getElem? (i := 26) rfl))) (by decide) (t := .long) (t' := .boolean) (by decide) (by decide)))
  have cFld_r0_localHeaderOffset_3 : Fld Z h3 r0 "com/example/libvalise/libvalise/ZipReader$Entry" "localHeaderOffset" "J" (.long (0 : Int64)) := cFld_r0_localHeaderOffset_2.other W3 (Or.inr (slot_ne (Or.inr (hw _ (List.mem_of_getElem? (i := 40) rfl))) (Or.inr (hw _ (List.mem_of_getElem? (i := 26) rfl))) (by decide) (t := .long) (t' := .boolean) (by decide) (by decide)))
  have cFld_r0_madeBy_3 : Fld Z h3 r0 "com/example/libvalise/libvalise/ZipReader$Entry" "madeBy" "I" (.int (0 : Int32)) := cFld_r0_madeBy_2.other W3 (Or.inr (slot_ne (Or.inr (hw _ (List.mem_of_getElem? (i := 42) rfl))) (Or.inr (hw _ (List.mem_of_getElem? (i := 26) rfl))) (by decide) (t := .int) (t' := .boolean) (by decide) (by decide)))
  have cFld_r0_externalAttributes_3 : Fld Z h3 r0 "com/example/libvalise/libvalise/ZipReader$Entry" "externalAttributes" "I" (.int (0 : Int32)) := cFld_r0_externalAttributes_2.other W3 (Or.inr (slot_ne (Or.inr (hw _ (List.mem_of_getElem? (i := 44) rfl))) (Or.inr (hw _ (List.mem_of_getElem? (i := 26) rfl))) (by decide) (t := .int) (t' := .boolean) (by decide) (by decide)))
  have cFld_r0_utf8Flag_3 : Fld Z h3 r0 "com/example/libvalise/libvalise/ZipReader$Entry" "utf8Flag" "Z" (.int (0 : Int32)) := cFld_r0_utf8Flag_2.other W3 (Or.inr (slot_ne (Or.inr (hw _ (List.mem_of_getElem? (i := 46) rfl))) (Or.inr (hw _ (List.mem_of_getElem? (i := 26) rfl))) (by decide) (t := .boolean) (t' := .boolean) (by decide) (by decide)))
  have cFld_r0_comment_3 : Fld Z h3 r0 "com/example/libvalise/libvalise/ZipReader$Entry" "comment" "[B" .null := cFld_r0_comment_2.other W3 (Or.inr (slot_ne (Or.inr (hw _ (List.mem_of_getElem? (i := 48) rfl))) (Or.inr (hw _ (List.mem_of_getElem? (i := 26) rfl))) (by decide) (t := (.array .byte)) (t' := .boolean) (by decide) (by decide)))
  have cExa_r0_3 : Exa Z h3 r0 "com/example/libvalise/libvalise/ZipReader$Entry" := cExa_r0_2.wr W3
  have K3 : Keep h0 h3 [r0] := K2.wr W3 (Or.inl (List.mem_of_getElem? (i := 0) rfl))
  have N3 := Fr.snoc X3 N2 P14
  refine ownE.go (T' := T3) (f' := (mkF m 14 #[.val (.ref r0), .val (.ref r1), .val (.int (1 : Int32)), .val .null, .val (.int (0 : Int32)), .val (.int (0 : Int32)), .val (.long (0 : Int64)), .second, .val (.long (0 : Int64)), .second, .val (.long (0 : Int64)), .second, .val (.long (0 : Int64)), .second, .val (.int i10), .val (.int i11), .val (.int (0 : Int32)), .val .null] [])) st3 ?_
  refine ownE.go (T' := T3) (f' := (mkF m 16 #[.val (.ref r0), .val (.ref r1), .val (.int (1 : Int32)), .val .null, .val (.int (0 : Int32)), .val (.int (0 : Int32)), .val (.long (0 : Int64)), .second, .val (.long (0 : Int64)), .second, .val (.long (0 : Int64)), .second, .val (.long (0 : Int64)), .second, .val (.int i10), .val (.int i11), .val (.int (0 : Int32)), .val .null] [.null, (.ref r0)])) (fun t kt => ?_) ?_
  · show Steps p.tables e below (T3.setTop (mkF m 14 #[.val (.ref r0), .val (.ref r1), .val (.int (1 : Int32)), .val .null, .val (.int (0 : Int32)), .val (.int (0 : Int32)), .val (.long (0 : Int64)), .second, .val (.long (0 : Int64)), .second, .val (.long (0 : Int64)), .second, .val (.long (0 : Int64)), .second, .val (.int i10), .val (.int i11), .val (.int (0 : Int32)), .val .null] [])) _
    refine XS.aloadN X3.here hx rfl (hb hby own_d1_14) rfl rfl ?_
    show Steps p.tables e below (T3.setTop (mkF m 15 #[.val (.ref r0), .val (.ref r1), .val (.int (1 : Int32)), .val .null, .val (.int (0 : Int32)), .val (.int (0 : Int32)), .val (.long (0 : Int64)), .second, .val (.long (0 : Int64)), .second, .val (.long (0 : Int64)), .second, .val (.long (0 : Int64)), .second, .val (.int i10), .val (.int i11), .val (.int (0 : Int32)), .val .null] [(.ref r0)])) _
    refine XS.aloadN X3.here hx rfl (hb hby own_d1_15) rfl rfl ?_
    exact kt
  obtain ⟨T4, h4, X4, e4, W4, st4⟩ := putF X3 hx hZ hown (host := "") (Or.inl (hw _ (List.mem_of_getElem? (i := 27) rfl))) Via.refl e3 cFld_r0_rawName_3 cExa_r0_3 (Or.inr ⟨(hw _ (List.mem_of_getElem? (i := 28) rfl)), rfl, hnm⟩) (hw _ (List.mem_of_getElem? (i := 2) rfl)) (ty := (.array .byte)) (by decide) rfl rfl (g := (mkF m 16 #[.val (.ref r0), .val (.ref r1), .val (.int (1 : Int32)), .val .null, .val (.int (0 : Int32)), .val (.int (0 : Int32)), .val (.long (0 : Int64)), .second, .val (.long (0 : Int64)), .second, .val (.long (0 : Int64)), .second, .val (.long (0 : Int64)), .second, .val (.int i10), .val (.int i11), .val (.int (0 : Int32)), .val .null] [.null, (.ref r0)])) rfl rfl (hb hby own_d1_16)
  have Fw4 : Fld Z h4 r0 "com/example/libvalise/libvalise/ZipReader$Entry" "rawName" "[B" .null := cFld_r0_rawName_3.same W4
  have cFld_r0_name_4 : Fld Z h4 r0 "com/example/libvalise/libvalise/ZipReader$Entry" "name" "Ljava/lang/String;" (.ref r1) := cFld_r0_name_3.other W4 (Or.inr (slot_ne (Or.inr (hw _ (List.mem_of_getElem? (i := 24) rfl))) (Or.inr (hw _ (List.mem_of_getElem? (i := 28) rfl))) (by decide) (t := (.object "java/lang/String")) (t' := (.array .byte)) (by decide) (by decide)))
  have cFld_r0_utf8Name_4 : Fld Z h4 r0 "com/example/libvalise/libvalise/ZipReader$Entry" "utf8Name" "Z" (.int (1 : Int32)) := Fw3.other W4 (Or.inr (slot_ne (Or.inr (hw _ (List.mem_of_getElem? (i := 26) rfl))) (Or.inr (hw _ (List.mem_of_getElem? (i := 28) rfl))) (by decide) (t := .boolean) (t' := (.array .byte)) (by decide) (by decide)))
  have cFld_r0_method_4 : Fld Z h4 r0 "com/example/libvalise/libvalise/ZipReader$Entry" "method" "I" (.int (0 : Int32)) := cFld_r0_method_3.other W4 (Or.inr (slot_ne (Or.inr (hw _ (List.mem_of_getElem? (i := 30) rfl))) (Or.inr (hw _ (List.mem_of_getElem? (i := 28) rfl))) (by decide) (t := .int) (t' := (.array .byte)) (by decide) (by decide)))
  have cFld_r0_dosDateTime_4 : Fld Z h4 r0 "com/example/libvalise/libvalise/ZipReader$Entry" "dosDateTime" "I" (.int (0 : Int32)) := cFld_r0_dosDateTime_3.other W4 (Or.inr (slot_ne (Or.inr (hw _ (List.mem_of_getElem? (i := 32) rfl))) (Or.inr (hw _ (List.mem_of_getElem? (i := 28) rfl))) (by decide) (t := .int) (t' := (.array .byte)) (by decide) (by decide)))
  have cFld_r0_crc_4 : Fld Z h4 r0 "com/example/libvalise/libvalise/ZipReader$Entry" "crc" "J" (.long (0 : Int64)) := cFld_r0_crc_3.other W4 (Or.inr (slot_ne (Or.inr (hw _ (List.mem_of_getElem? (i := 34) rfl))) (Or.inr (hw _ (List.mem_of_getElem? (i := 28) rfl))) (by decide) (t := .long) (t' := (.array .byte)) (by decide) (by decide)))
  have cFld_r0_compressedSize_4 : Fld Z h4 r0 "com/example/libvalise/libvalise/ZipReader$Entry" "compressedSize" "J" (.long (0 : Int64)) := cFld_r0_compressedSize_3.other W4 (Or.inr (slot_ne (Or.inr (hw _ (List.mem_of_getElem? (i := 36) rfl))) (Or.inr (hw _ (List.mem_of_getElem? (i := 28) rfl))) (by decide) (t := .long) (t' := (.array .byte)) (by decide) (by decide)))
  have cFld_r0_size_4 : Fld Z h4 r0 "com/example/libvalise/libvalise/ZipReader$Entry" "size" "J" (.long (0 : Int64)) := cFld_r0_size_3.other W4 (Or.inr (slot_ne (Or.inr (hw _ (List.mem_of_getElem? (i := 38) rfl))) (Or.inr (hw _ (List.mem_of_getElem? (i := 28) rfl))) (by decide) (t := .long) (t' := (.array .byte)) (by decide) (by decide)))
  have cFld_r0_localHeaderOffset_4 : Fld Z h4 r0 "com/example/libvalise/libvalise/ZipReader$Entry" "localHeaderOffset" "J" (.long (0 : Int64)) := cFld_r0_localHeaderOffset_3.other W4 (Or.inr (slot_ne (Or.inr (hw _ (List.mem_of_getElem? (i := 40) rfl))) (Or.inr (hw _ (List.mem_of_getElem? (i := 28) rfl))) (by decide) (t := .long) (t' := (.array .byte)) (by decide) (by decide)))
  have cFld_r0_madeBy_4 : Fld Z h4 r0 "com/example/libvalise/libvalise/ZipReader$Entry" "madeBy" "I" (.int (0 : Int32)) := cFld_r0_madeBy_3.other W4 (Or.inr (slot_ne (Or.inr (hw _ (List.mem_of_getElem? (i := 42) rfl))) (Or.inr (hw _ (List.mem_of_getElem? (i := 28) rfl))) (by decide) (t := .int) (t' := (.array .byte)) (by decide) (by decide)))
  have cFld_r0_externalAttributes_4 : Fld Z h4 r0 "com/example/libvalise/libvalise/ZipReader$Entry" "externalAttributes" "I" (.int (0 : Int32)) := cFld_r0_externalAttributes_3.other W4 (Or.inr (slot_ne (Or.inr (hw _ (List.mem_of_getElem? (i := 44) rfl))) (Or.inr (hw _ (List.mem_of_getElem? (i := 28) rfl))) (by decide) (t := .int) (t' := (.array .byte)) (by decide) (by decide)))
  have cFld_r0_utf8Flag_4 : Fld Z h4 r0 "com/example/libvalise/libvalise/ZipReader$Entry" "utf8Flag" "Z" (.int (0 : Int32)) := cFld_r0_utf8Flag_3.other W4 (Or.inr (slot_ne (Or.inr (hw _ (List.mem_of_getElem? (i := 46) rfl))) (Or.inr (hw _ (List.mem_of_getElem? (i := 28) rfl))) (by decide) (t := .boolean) (t' := (.array .byte)) (by decide) (by decide)))
  have cFld_r0_comment_4 : Fld Z h4 r0 "com/example/libvalise/libvalise/ZipReader$Entry" "comment" "[B" .null := cFld_r0_comment_3.other W4 (Or.inr (slot_ne (Or.inr (hw _ (List.mem_of_getElem? (i := 48) rfl))) (Or.inr (hw _ (List.mem_of_getElem? (i := 28) rfl))) (by decide) (t := (.array .byte)) (t' := (.array .byte)) (by decide) (by decide)))
  have cExa_r0_4 : Exa Z h4 r0 "com/example/libvalise/libvalise/ZipReader$Entry" := cExa_r0_3.wr W4
  have K4 : Keep h0 h4 [r0] := K3.wr W4 (Or.inl (List.mem_of_getElem? (i := 0) rfl))
  have N4 := Fr.snoc X4 N3 P14
  refine ownE.go (T' := T4) (f' := (mkF m 19 #[.val (.ref r0), .val (.ref r1), .val (.int (1 : Int32)), .val .null, .val (.int (0 : Int32)), .val (.int (0 : Int32)), .val (.long (0 : Int64)), .second, .val (.long (0 : Int64)), .second, .val (.long (0 : Int64)), .second, .val (.long (0 : Int64)), .second, .val (.int i10), .val (.int i11), .val (.int (0 : Int32)), .val .null] [])) st4 ?_
  refine ownE.go (T' := T4) (f' := (mkF m 22 #[.val (.ref r0), .val (.ref r1), .val (.int (1 : Int32)), .val .null, .val (.int (0 : Int32)), .val (.int (0 : Int32)), .val (.long (0 : Int64)), .second, .val (.long (0 : Int64)), .second, .val (.long (0 : Int64)), .second, .val (.long (0 : Int64)), .second, .val (.int i10), .val (.int i11), .val (.int (0 : Int32)), .val .null] [(.int (0 : Int32)), (.ref r0)])) (fun t kt => ?_) ?_
  · show Steps p.tables e below (T4.setTop (mkF m 19 #[.val (.ref r0), .val (.ref r1), .val (.int (1 : Int32)), .val .null, .val (.int (0 : Int32)), .val (.int (0 : Int32)), .val (.long (0 : Int64)), .second, .val (.long (0 : Int64)), .second, .val (.long (0 : Int64)), .second, .val (.long (0 : Int64)), .second, .val (.int i10), .val (.int i11), .val (.int (0 : Int32)), .val .null] [])) _
    refine XS.aloadN X4.here hx rfl (hb hby own_d1_19) rfl rfl ?_
    show Steps p.tables e below (T4.setTop (mkF m 20 #[.val (.ref r0), .val (.ref r1), .val (.int (1 : Int32)), .val .null, .val (.int (0 : Int32)), .val (.int (0 : Int32)), .val (.long (0 : Int64)), .second, .val (.long (0 : Int64)), .second, .val (.long (0 : Int64)), .second, .val (.long (0 : Int64)), .second, .val (.int i10), .val (.int i11), .val (.int (0 : Int32)), .val .null] [(.ref r0)])) _
    refine XS.iload X4.here hx rfl (hb hby own_d1_20) rfl ?_
    exact kt
  obtain ⟨T5, h5, X5, e5, W5, st5⟩ := putF X4 hx hZ hown (host := "") (Or.inl (hw _ (List.mem_of_getElem? (i := 29) rfl))) Via.refl e4 cFld_r0_method_4 cExa_r0_4 (Or.inr ⟨(hw _ (List.mem_of_getElem? (i := 30) rfl)), rfl, hnm⟩) (hw _ (List.mem_of_getElem? (i := 2) rfl)) (ty := .int) (by decide) rfl rfl (g := (mkF m 22 #[.val (.ref r0), .val (.ref r1), .val (.int (1 : Int32)), .val .null, .val (.int (0 : Int32)), .val (.int (0 : Int32)), .val (.long (0 : Int64)), .second, .val (.long (0 : Int64)), .second, .val (.long (0 : Int64)), .second, .val (.long (0 : Int64)), .second, .val (.int i10), .val (.int i11), .val (.int (0 : Int32)), .val .null] [(.int (0 : Int32)), (.ref r0)])) rfl rfl (hb hby own_d1_22)
  have Fw5 : Fld Z h5 r0 "com/example/libvalise/libvalise/ZipReader$Entry" "method" "I" (.int (0 : Int32)) := cFld_r0_method_4.same W5
  have cFld_r0_name_5 : Fld Z h5 r0 "com/example/libvalise/libvalise/ZipReader$Entry" "name" "Ljava/lang/String;" (.ref r1) := cFld_r0_name_4.other W5 (Or.inr (slot_ne (Or.inr (hw _ (List.mem_of_getElem? (i := 24) rfl))) (Or.inr (hw _ (List.mem_of_getElem? (i := 30) rfl))) (by decide) (t := (.object "java/lang/String")) (t' := .int) (by decide) (by decide)))
  have cFld_r0_utf8Name_5 : Fld Z h5 r0 "com/example/libvalise/libvalise/ZipReader$Entry" "utf8Name" "Z" (.int (1 : Int32)) := cFld_r0_utf8Name_4.other W5 (Or.inr (slot_ne (Or.inr (hw _ (List.mem_of_getElem? (i := 26) rfl))) (Or.inr (hw _ (List.mem_of_getElem? (i := 30) rfl))) (by decide) (t := .boolean) (t' := .int) (by decide) (by decide)))
  have cFld_r0_rawName_5 : Fld Z h5 r0 "com/example/libvalise/libvalise/ZipReader$Entry" "rawName" "[B" .null := Fw4.other W5 (Or.inr (slot_ne (Or.inr (hw _ (List.mem_of_getElem? (i := 28) rfl))) (Or.inr (hw _ (List.mem_of_getElem? (i := 30) rfl))) (by decide) (t := (.array .byte)) (t' := .int) (by decide) (by decide)))
  have cFld_r0_dosDateTime_5 : Fld Z h5 r0 "com/example/libvalise/libvalise/ZipReader$Entry" "dosDateTime" "I" (.int (0 : Int32)) := cFld_r0_dosDateTime_4.other W5 (Or.inr (slot_ne (Or.inr (hw _ (List.mem_of_getElem? (i := 32) rfl))) (Or.inr (hw _ (List.mem_of_getElem? (i := 30) rfl))) (by decide) (t := .int) (t' := .int) (by decide) (by decide)))
  have cFld_r0_crc_5 : Fld Z h5 r0 "com/example/libvalise/libvalise/ZipReader$Entry" "crc" "J" (.long (0 : Int64)) := cFld_r0_crc_4.other W5 (Or.inr (slot_ne (Or.inr (hw _ (List.mem_of_getElem? (i := 34) rfl))) (Or.inr (hw _ (List.mem_of_getElem? (i := 30) rfl))) (by decide) (t := .long) (t' := .int) (by decide) (by decide)))
  have cFld_r0_compressedSize_5 : Fld Z h5 r0 "com/example/libvalise/libvalise/ZipReader$Entry" "compressedSize" "J" (.long (0 : Int64)) := cFld_r0_compressedSize_4.other W5 (Or.inr (slot_ne (Or.inr (hw _ (List.mem_of_getElem? (i := 36) rfl))) (Or.inr (hw _ (List.mem_of_getElem? (i := 30) rfl))) (by decide) (t := .long) (t' := .int) (by decide) (by decide)))
  have cFld_r0_size_5 : Fld Z h5 r0 "com/example/libvalise/libvalise/ZipReader$Entry" "size" "J" (.long (0 : Int64)) := cFld_r0_size_4.other W5 (Or.inr (slot_ne (Or.inr (hw _ (List.mem_of_getElem? (i := 38) rfl))) (Or.inr (hw _ (List.mem_of_getElem? (i := 30) rfl))) (by decide) (t := .long) (t' := .int) (by decide) (by decide)))
  have cFld_r0_localHeaderOffset_5 : Fld Z h5 r0 "com/example/libvalise/libvalise/ZipReader$Entry" "localHeaderOffset" "J" (.long (0 : Int64)) := cFld_r0_localHeaderOffset_4.other W5 (Or.inr (slot_ne (Or.inr (hw _ (List.mem_of_getElem? (i := 40) rfl))) (Or.inr (hw _ (List.mem_of_getElem? (i := 30) rfl))) (by decide) (t := .long) (t' := .int) (by decide) (by decide)))
  have cFld_r0_madeBy_5 : Fld Z h5 r0 "com/example/libvalise/libvalise/ZipReader$Entry" "madeBy" "I" (.int (0 : Int32)) := cFld_r0_madeBy_4.other W5 (Or.inr (slot_ne (Or.inr (hw _ (List.mem_of_getElem? (i := 42) rfl))) (Or.inr (hw _ (List.mem_of_getElem? (i := 30) rfl))) (by decide) (t := .int) (t' := .int) (by decide) (by decide)))
  have cFld_r0_externalAttributes_5 : Fld Z h5 r0 "com/example/libvalise/libvalise/ZipReader$Entry" "externalAttributes" "I" (.int (0 : Int32)) := cFld_r0_externalAttributes_4.other W5 (Or.inr (slot_ne (Or.inr (hw _ (List.mem_of_getElem? (i := 44) rfl))) (Or.inr (hw _ (List.mem_of_getElem? (i := 30) rfl))) (by decide) (t := .int) (t' := .int) (by decide) (by decide)))
  have cFld_r0_utf8Flag_5 : Fld Z h5 r0 "com/example/libvalise/libvalise/ZipReader$Entry" "utf8Flag" "Z" (.int (0 : Int32)) := cFld_r0_utf8Flag_4.other W5 (Or.inr (slot_ne (Or.inr (hw _ (List.mem_of_getElem? (i := 46) rfl))) (Or.inr (hw _ (List.mem_of_getElem? (i := 30) rfl))) (by decide) (t := .boolean) (t' := .int) (by decide) (by decide)))
  have cFld_r0_comment_5 : Fld Z h5 r0 "com/example/libvalise/libvalise/ZipReader$Entry" "comment" "[B" .null := cFld_r0_comment_4.other W5 (Or.inr (slot_ne (Or.inr (hw _ (List.mem_of_getElem? (i := 48) rfl))) (Or.inr (hw _ (List.mem_of_getElem? (i := 30) rfl))) (by decide) (t := (.array .byte)) (t' := .int) (by decide) (by decide)))
  have cExa_r0_5 : Exa Z h5 r0 "com/example/libvalise/libvalise/ZipReader$Entry" := cExa_r0_4.wr W5
  have K5 : Keep h0 h5 [r0] := K4.wr W5 (Or.inl (List.mem_of_getElem? (i := 0) rfl))
  have N5 := Fr.snoc X5 N4 P14
  refine ownE.go (T' := T5) (f' := (mkF m 25 #[.val (.ref r0), .val (.ref r1), .val (.int (1 : Int32)), .val .null, .val (.int (0 : Int32)), .val (.int (0 : Int32)), .val (.long (0 : Int64)), .second, .val (.long (0 : Int64)), .second, .val (.long (0 : Int64)), .second, .val (.long (0 : Int64)), .second, .val (.int i10), .val (.int i11), .val (.int (0 : Int32)), .val .null] [])) st5 ?_
  refine ownE.go (T' := T5) (f' := (mkF m 28 #[.val (.ref r0), .val (.ref r1), .val (.int (1 : Int32)), .val .null, .val (.int (0 : Int32)), .val (.int (0 : Int32)), .val (.long (0 : Int64)), .second, .val (.long (0 : Int64)), .second, .val (.long (0 : Int64)), .second, .val (.long (0 : Int64)), .second, .val (.int i10), .val (.int i11), .val (.int (0 : Int32)), .val .null] [(.int (0 : Int32)), (.ref r0)])) (fun t kt => ?_) ?_
  · show Steps p.tables e below (T5.setTop (mkF m 25 #[.val (.ref r0), .val (.ref r1), .val (.int (1 : Int32)), .val .null, .val (.int (0 : Int32)), .val (.int (0 : Int32)), .val (.long (0 : Int64)), .second, .val (.long (0 : Int64)), .second, .val (.long (0 : Int64)), .second, .val (.long (0 : Int64)), .second, .val (.int i10), .val (.int i11), .val (.int (0 : Int32)), .val .null] [])) _
    refine XS.aloadN X5.here hx rfl (hb hby own_d1_25) rfl rfl ?_
    show Steps p.tables e below (T5.setTop (mkF m 26 #[.val (.ref r0), .val (.ref r1), .val (.int (1 : Int32)), .val .null, .val (.int (0 : Int32)), .val (.int (0 : Int32)), .val (.long (0 : Int64)), .second, .val (.long (0 : Int64)), .second, .val (.long (0 : Int64)), .second, .val (.long (0 : Int64)), .second, .val (.int i10), .val (.int i11), .val (.int (0 : Int32)), .val .null] [(.ref r0)])) _
    refine XS.iload X5.here hx rfl (hb hby own_d1_26) rfl ?_
    exact kt
  obtain ⟨T6, h6, X6, e6, W6, st6⟩ := putF X5 hx hZ hown (host := "") (Or.inl (hw _ (List.mem_of_getElem? (i := 31) rfl))) Via.refl e5 cFld_r0_dosDateTime_5 cExa_r0_5 (Or.inr ⟨(hw _ (List.mem_of_getElem? (i := 32) rfl)), rfl, hnm⟩) (hw _ (List.mem_of_getElem? (i := 2) rfl)) (ty := .int) (by decide) rfl rfl (g := (mkF m 28 #[.val (.ref r0), .val (.ref r1), .val (.int (1 : Int32)), .val .null, .val (.int (0 : Int32)), .val (.int (0 : Int32)), .val (.long (0 : Int64)), .second, .val (.long (0 : Int64)), .second, .val (.long (0 : Int64)), .second, .val (.long (0 : Int64)), .second, .val (.int i10), .val (.int i11), .val (.int (0 : Int32)), .val .null] [(.int (0 : Int32)), (.ref r0)])) rfl rfl (hb hby own_d1_28)
  have Fw6 : Fld Z h6 r0 "com/example/libvalise/libvalise/ZipReader$Entry" "dosDateTime" "I" (.int (0 : Int32)) := cFld_r0_dosDateTime_5.same W6
  have cFld_r0_name_6 : Fld Z h6 r0 "com/example/libvalise/libvalise/ZipReader$Entry" "name" "Ljava/lang/String;" (.ref r1) := cFld_r0_name_5.other W6 (Or.inr (slot_ne (Or.inr (hw _ (List.mem_of_getElem? (i := 24) rfl))) (Or.inr (hw _ (List.mem_of_getElem? (i := 32) rfl))) (by decide) (t := (.object "java/lang/String")) (t' := .int) (by decide) (by decide)))
  have cFld_r0_utf8Name_6 : Fld Z h6 r0 "com/example/libvalise/libvalise/ZipReader$Entry" "utf8Name" "Z" (.int (1 : Int32)) := cFld_r0_utf8Name_5.other W6 (Or.inr (slot_ne (Or.inr (hw _ (List.mem_of_getElem? (i := 26) rfl))) (Or.inr (hw _ (List.mem_of_getElem? (i := 32) rfl))) (by decide) (t := .boolean) (t' := .int) (by decide) (by decide)))
  have cFld_r0_rawName_6 : Fld Z h6 r0 "com/example/libvalise/libvalise/ZipReader$Entry" "rawName" "[B" .null := cFld_r0_rawName_5.other W6 (Or.inr (slot_ne (Or.inr (hw _ (List.mem_of_getElem? (i := 28) rfl))) (Or.inr (hw _ (List.mem_of_getElem? (i := 32) rfl))) (by decide) (t := (.array .byte)) (t' := .int) (by decide) (by decide)))
  have cFld_r0_method_6 : Fld Z h6 r0 "com/example/libvalise/libvalise/ZipReader$Entry" "method" "I" (.int (0 : Int32)) := Fw5.other W6 (Or.inr (slot_ne (Or.inr (hw _ (List.mem_of_getElem? (i := 30) rfl))) (Or.inr (hw _ (List.mem_of_getElem? (i := 32) rfl))) (by decide) (t := .int) (t' := .int) (by decide) (by decide)))
  have cFld_r0_crc_6 : Fld Z h6 r0 "com/example/libvalise/libvalise/ZipReader$Entry" "crc" "J" (.long (0 : Int64)) := cFld_r0_crc_5.other W6 (Or.inr (slot_ne (Or.inr (hw _ (List.mem_of_getElem? (i := 34) rfl))) (Or.inr (hw _ (List.mem_of_getElem? (i := 32) rfl))) (by decide) (t := .long) (t' := .int) (by decide) (by decide)))
  have cFld_r0_compressedSize_6 : Fld Z h6 r0 "com/example/libvalise/libvalise/ZipReader$Entry" "compressedSize" "J" (.long (0 : Int64)) := cFld_r0_compressedSize_5.other W6 (Or.inr (slot_ne (Or.inr (hw _ (List.mem_of_getElem? (i := 36) rfl))) (Or.inr (hw _ (List.mem_of_getElem? (i := 32) rfl))) (by decide) (t := .long) (t' := .int) (by decide) (by decide)))
  have cFld_r0_size_6 : Fld Z h6 r0 "com/example/libvalise/libvalise/ZipReader$Entry" "size" "J" (.long (0 : Int64)) := cFld_r0_size_5.other W6 (Or.inr (slot_ne (Or.inr (hw _ (List.mem_of_getElem? (i := 38) rfl))) (Or.inr (hw _ (List.mem_of_getElem? (i := 32) rfl))) (by decide) (t := .long) (t' := .int) (by decide) (by decide)))
  have cFld_r0_localHeaderOffset_6 : Fld Z h6 r0 "com/example/libvalise/libvalise/ZipReader$Entry" "localHeaderOffset" "J" (.long (0 : Int64)) := cFld_r0_localHeaderOffset_5.other W6 (Or.inr (slot_ne (Or.inr (hw _ (List.mem_of_getElem? (i := 40) rfl))) (Or.inr (hw _ (List.mem_of_getElem? (i := 32) rfl))) (by decide) (t := .long) (t' := .int) (by decide) (by decide)))
  have cFld_r0_madeBy_6 : Fld Z h6 r0 "com/example/libvalise/libvalise/ZipReader$Entry" "madeBy" "I" (.int (0 : Int32)) := cFld_r0_madeBy_5.other W6 (Or.inr (slot_ne (Or.inr (hw _ (List.mem_of_getElem? (i := 42) rfl))) (Or.inr (hw _ (List.mem_of_getElem? (i := 32) rfl))) (by decide) (t := .int) (t' := .int) (by decide) (by decide)))
  have cFld_r0_externalAttributes_6 : Fld Z h6 r0 "com/example/libvalise/libvalise/ZipReader$Entry" "externalAttributes" "I" (.int (0 : Int32)) := cFld_r0_externalAttributes_5.other W6 (Or.inr (slot_ne (Or.inr (hw _ (List.mem_of_getElem? (i := 44) rfl))) (Or.inr (hw _ (List.mem_of_getElem? (i := 32) rfl))) (by decide) (t := .int) (t' := .int) (by decide) (by decide)))
  have cFld_r0_utf8Flag_6 : Fld Z h6 r0 "com/example/libvalise/libvalise/ZipReader$Entry" "utf8Flag" "Z" (.int (0 : Int32)) := cFld_r0_utf8Flag_5.other W6 (Or.inr (slot_ne (Or.inr (hw _ (List.mem_of_getElem? (i := 46) rfl))) (Or.inr (hw _ (List.mem_of_getElem? (i := 32) rfl))) (by decide) (t := .boolean) (t' := .int) (by decide) (by decide)))
  have cFld_r0_comment_6 : Fld Z h6 r0 "com/example/libvalise/libvalise/ZipReader$Entry" "comment" "[B" .null := cFld_r0_comment_5.other W6 (Or.inr (slot_ne (Or.inr (hw _ (List.mem_of_getElem? (i := 48) rfl))) (Or.inr (hw _ (List.mem_of_getElem? (i := 32) rfl))) (by decide) (t := (.array .byte)) (t' := .int) (by decide) (by decide)))
  have cExa_r0_6 : Exa Z h6 r0 "com/example/libvalise/libvalise/ZipReader$Entry" := cExa_r0_5.wr W6
  have K6 : Keep h0 h6 [r0] := K5.wr W6 (Or.inl (List.mem_of_getElem? (i := 0) rfl))
  have N6 := Fr.snoc X6 N5 P14
  refine ownE.go (T' := T6) (f' := (mkF m 31 #[.val (.ref r0), .val (.ref r1), .val (.int (1 : Int32)), .val .null, .val (.int (0 : Int32)), .val (.int (0 : Int32)), .val (.long (0 : Int64)), .second, .val (.long (0 : Int64)), .second, .val (.long (0 : Int64)), .second, .val (.long (0 : Int64)), .second, .val (.int i10), .val (.int i11), .val (.int (0 : Int32)), .val .null] [])) st6 ?_
  refine ownE.go (T' := T6) (f' := (mkF m 34 #[.val (.ref r0), .val (.ref r1), .val (.int (1 : Int32)), .val .null, .val (.int (0 : Int32)), .val (.int (0 : Int32)), .val (.long (0 : Int64)), .second, .val (.long (0 : Int64)), .second, .val (.long (0 : Int64)), .second, .val (.long (0 : Int64)), .second, .val (.int i10), .val (.int i11), .val (.int (0 : Int32)), .val .null] [(.long (0 : Int64)), (.ref r0)])) (fun t kt => ?_) ?_
  · show Steps p.tables e below (T6.setTop (mkF m 31 #[.val (.ref r0), .val (.ref r1), .val (.int (1 : Int32)), .val .null, .val (.int (0 : Int32)), .val (.int (0 : Int32)), .val (.long (0 : Int64)), .second, .val (.long (0 : Int64)), .second, .val (.long (0 : Int64)), .second, .val (.long (0 : Int64)), .second, .val (.int i10), .val (.int i11), .val (.int (0 : Int32)), .val .null] [])) _
    refine XS.aloadN X6.here hx rfl (hb hby own_d1_31) rfl rfl ?_
    show Steps p.tables e below (T6.setTop (mkF m 32 #[.val (.ref r0), .val (.ref r1), .val (.int (1 : Int32)), .val .null, .val (.int (0 : Int32)), .val (.int (0 : Int32)), .val (.long (0 : Int64)), .second, .val (.long (0 : Int64)), .second, .val (.long (0 : Int64)), .second, .val (.long (0 : Int64)), .second, .val (.int i10), .val (.int i11), .val (.int (0 : Int32)), .val .null] [(.ref r0)])) _
    refine XS.lload X6.here hx rfl (hb hby own_d1_32) rfl ?_
    exact kt
  obtain ⟨T7, h7, X7, e7, W7, st7⟩ := putF X6 hx hZ hown (host := "") (Or.inl (hw _ (List.mem_of_getElem? (i := 33) rfl))) Via.refl e6 cFld_r0_crc_6 cExa_r0_6 (Or.inr ⟨(hw _ (List.mem_of_getElem? (i := 34) rfl)), rfl, hnm⟩) (hw _ (List.mem_of_getElem? (i := 2) rfl)) (ty := .long) (by decide) rfl rfl (g := (mkF m 34 #[.val (.ref r0), .val (.ref r1), .val (.int (1 : Int32)), .val .null, .val (.int (0 : Int32)), .val (.int (0 : Int32)), .val (.long (0 : Int64)), .second, .val (.long (0 : Int64)), .second, .val (.long (0 : Int64)), .second, .val (.long (0 : Int64)), .second, .val (.int i10), .val (.int i11), .val (.int (0 : Int32)), .val .null] [(.long (0 : Int64)), (.ref r0)])) rfl rfl (hb hby own_d1_34)
  have Fw7 : Fld Z h7 r0 "com/example/libvalise/libvalise/ZipReader$Entry" "crc" "J" (.long (0 : Int64)) := cFld_r0_crc_6.same W7
  have cFld_r0_name_7 : Fld Z h7 r0 "com/example/libvalise/libvalise/ZipReader$Entry" "name" "Ljava/lang/String;" (.ref r1) := cFld_r0_name_6.other W7 (Or.inr (slot_ne (Or.inr (hw _ (List.mem_of_getElem? (i := 24) rfl))) (Or.inr (hw _ (List.mem_of_getElem? (i := 34) rfl))) (by decide) (t := (.object "java/lang/String")) (t' := .long) (by decide) (by decide)))
  have cFld_r0_utf8Name_7 : Fld Z h7 r0 "com/example/libvalise/libvalise/ZipReader$Entry" "utf8Name" "Z" (.int (1 : Int32)) := cFld_r0_utf8Name_6.other W7 (Or.inr (slot_ne (Or.inr (hw _ (List.mem_of_getElem? (i := 26) rfl))) (Or.inr (hw _ (List.mem_of_getElem? (i := 34) rfl))) (by decide) (t := .boolean) (t' := .long) (by decide) (by decide)))
  have cFld_r0_rawName_7 : Fld Z h7 r0 "com/example/libvalise/libvalise/ZipReader$Entry" "rawName" "[B" .null := cFld_r0_rawName_6.other W7 (Or.inr (slot_ne (Or.inr (hw _ (List.mem_of_getElem? (i := 28) rfl))) (Or.inr (hw _ (List.mem_of_getElem? (i := 34) rfl))) (by decide) (t := (.array .byte)) (t' := .long) (by decide) (by decide)))
  have cFld_r0_method_7 : Fld Z h7 r0 "com/example/libvalise/libvalise/ZipReader$Entry" "method" "I" (.int (0 : Int32)) := cFld_r0_method_6.other W7 (Or.inr (slot_ne (Or.inr (hw _ (List.mem_of_getElem? (i := 30) rfl))) (Or.inr (hw _ (List.mem_of_getElem? (i := 34) rfl))) (by decide) (t := .int) (t' := .long) (by decide) (by decide)))
  have cFld_r0_dosDateTime_7 : Fld Z h7 r0 "com/example/libvalise/libvalise/ZipReader$Entry" "dosDateTime" "I" (.int (0 : Int32)) := Fw6.other W7 (Or.inr (slot_ne (Or.inr (hw _ (List.mem_of_getElem? (i := 32) rfl))) (Or.inr (hw _ (List.mem_of_getElem? (i := 34) rfl))) (by decide) (t := .int) (t' := .long) (by decide) (by decide)))
  have cFld_r0_compressedSize_7 : Fld Z h7 r0 "com/example/libvalise/libvalise/ZipReader$Entry" "compressedSize" "J" (.long (0 : Int64)) := cFld_r0_compressedSize_6.other W7 (Or.inr (slot_ne (Or.inr (hw _ (List.mem_of_getElem? (i := 36) rfl))) (Or.inr (hw _ (List.mem_of_getElem? (i := 34) rfl))) (by decide) (t := .long) (t' := .long) (by decide) (by decide)))
  have cFld_r0_size_7 : Fld Z h7 r0 "com/example/libvalise/libvalise/ZipReader$Entry" "size" "J" (.long (0 : Int64)) := cFld_r0_size_6.other W7 (Or.inr (slot_ne (Or.inr (hw _ (List.mem_of_getElem? (i := 38) rfl))) (Or.inr (hw _ (List.mem_of_getElem? (i := 34) rfl))) (by decide) (t := .long) (t' := .long) (by decide) (by decide)))
  have cFld_r0_localHeaderOffset_7 : Fld Z h7 r0 "com/example/libvalise/libvalise/ZipReader$Entry" "localHeaderOffset" "J" (.long (0 : Int64)) := cFld_r0_localHeaderOffset_6.other W7 (Or.inr (slot_ne (Or.inr (hw _ (List.mem_of_getElem? (i := 40) rfl))) (Or.inr (hw _ (List.mem_of_getElem? (i := 34) rfl))) (by decide) (t := .long) (t' := .long) (by decide) (by decide)))
  have cFld_r0_madeBy_7 : Fld Z h7 r0 "com/example/libvalise/libvalise/ZipReader$Entry" "madeBy" "I" (.int (0 : Int32)) := cFld_r0_madeBy_6.other W7 (Or.inr (slot_ne (Or.inr (hw _ (List.mem_of_getElem? (i := 42) rfl))) (Or.inr (hw _ (List.mem_of_getElem? (i := 34) rfl))) (by decide) (t := .int) (t' := .long) (by decide) (by decide)))
  have cFld_r0_externalAttributes_7 : Fld Z h7 r0 "com/example/libvalise/libvalise/ZipReader$Entry" "externalAttributes" "I" (.int (0 : Int32)) := cFld_r0_externalAttributes_6.other W7 (Or.inr (slot_ne (Or.inr (hw _ (List.mem_of_getElem? (i := 44) rfl))) (Or.inr (hw _ (List.mem_of_getElem? (i := 34) rfl))) (by decide) (t := .int) (t' := .long) (by decide) (by decide)))
  have cFld_r0_utf8Flag_7 : Fld Z h7 r0 "com/example/libvalise/libvalise/ZipReader$Entry" "utf8Flag" "Z" (.int (0 : Int32)) := cFld_r0_utf8Flag_6.other W7 (Or.inr (slot_ne (Or.inr (hw _ (List.mem_of_getElem? (i := 46) rfl))) (Or.inr (hw _ (List.mem_of_getElem? (i := 34) rfl))) (by decide) (t := .boolean) (t' := .long) (by decide) (by decide)))
  have cFld_r0_comment_7 : Fld Z h7 r0 "com/example/libvalise/libvalise/ZipReader$Entry" "comment" "[B" .null := cFld_r0_comment_6.other W7 (Or.inr (slot_ne (Or.inr (hw _ (List.mem_of_getElem? (i := 48) rfl))) (Or.inr (hw _ (List.mem_of_getElem? (i := 34) rfl))) (by decide) (t := (.array .byte)) (t' := .long) (by decide) (by decide)))
  have cExa_r0_7 : Exa Z h7 r0 "com/example/libvalise/libvalise/ZipReader$Entry" := cExa_r0_6.wr W7
  have K7 : Keep h0 h7 [r0] := K6.wr W7 (Or.inl (List.mem_of_getElem? (i := 0) rfl))
  have N7 := Fr.snoc X7 N6 P14
  refine ownE.go (T' := T7) (f' := (mkF m 37 #[.val (.ref r0), .val (.ref r1), .val (.int (1 : Int32)), .val .null, .val (.int (0 : Int32)), .val (.int (0 : Int32)), .val (.long (0 : Int64)), .second, .val (.long (0 : Int64)), .second, .val (.long (0 : Int64)), .second, .val (.long (0 : Int64)), .second, .val (.int i10), .val (.int i11), .val (.int (0 : Int32)), .val .null] [])) st7 ?_
  refine ownE.go (T' := T7) (f' := (mkF m 40 #[.val (.ref r0), .val (.ref r1), .val (.int (1 : Int32)), .val .null, .val (.int (0 : Int32)), .val (.int (0 : Int32)), .val (.long (0 : Int64)), .second, .val (.long (0 : Int64)), .second, .val (.long (0 : Int64)), .second, .val (.long (0 : Int64)), .second, .val (.int i10), .val (.int i11), .val (.int (0 : Int32)), .val .null] [(.long (0 : Int64)), (.ref r0)])) (fun t kt => ?_) ?_
  · show Steps p.tables e below (T7.setTop (mkF m 37 #[.val (.ref r0), .val (.ref r1), .val (.int (1 : Int32)), .val .null, .val (.int (0 : Int32)), .val (.int (0 : Int32)), .val (.long (0 : Int64)), .second, .val (.long (0 : Int64)), .second, .val (.long (0 : Int64)), .second, .val (.long (0 : Int64)), .second, .val (.int i10), .val (.int i11), .val (.int (0 : Int32)), .val .null] [])) _
    refine XS.aloadN X7.here hx rfl (hb hby own_d1_37) rfl rfl ?_
    show Steps p.tables e below (T7.setTop (mkF m 38 #[.val (.ref r0), .val (.ref r1), .val (.int (1 : Int32)), .val .null, .val (.int (0 : Int32)), .val (.int (0 : Int32)), .val (.long (0 : Int64)), .second, .val (.long (0 : Int64)), .second, .val (.long (0 : Int64)), .second, .val (.long (0 : Int64)), .second, .val (.int i10), .val (.int i11), .val (.int (0 : Int32)), .val .null] [(.ref r0)])) _
    refine XS.lload X7.here hx rfl (hb hby own_d1_38) rfl ?_
    exact kt
  obtain ⟨T8, h8, X8, e8, W8, st8⟩ := putF X7 hx hZ hown (host := "") (Or.inl (hw _ (List.mem_of_getElem? (i := 35) rfl))) Via.refl e7 cFld_r0_compressedSize_7 cExa_r0_7 (Or.inr ⟨(hw _ (List.mem_of_getElem? (i := 36) rfl)), rfl, hnm⟩) (hw _ (List.mem_of_getElem? (i := 2) rfl)) (ty := .long) (by decide) rfl rfl (g := (mkF m 40 #[.val (.ref r0), .val (.ref r1), .val (.int (1 : Int32)), .val .null, .val (.int (0 : Int32)), .val (.int (0 : Int32)), .val (.long (0 : Int64)), .second, .val (.long (0 : Int64)), .second, .val (.long (0 : Int64)), .second, .val (.long (0 : Int64)), .second, .val (.int i10), .val (.int i11), .val (.int (0 : Int32)), .val .null] [(.long (0 : Int64)), (.ref r0)])) rfl rfl (hb hby own_d1_40)
  have Fw8 : Fld Z h8 r0 "com/example/libvalise/libvalise/ZipReader$Entry" "compressedSize" "J" (.long (0 : Int64)) := cFld_r0_compressedSize_7.same W8
  have cFld_r0_name_8 : Fld Z h8 r0 "com/example/libvalise/libvalise/ZipReader$Entry" "name" "Ljava/lang/String;" (.ref r1) := cFld_r0_name_7.other W8 (Or.inr (slot_ne (Or.inr (hw _ (List.mem_of_getElem? (i := 24) rfl))) (Or.inr (hw _ (List.mem_of_getElem? (i := 36) rfl))) (by decide) (t := (.object "java/lang/String")) (t' := .long) (by decide) (by decide)))
  have cFld_r0_utf8Name_8 : Fld Z h8 r0 "com/example/libvalise/libvalise/ZipReader$Entry" "utf8Name" "Z" (.int (1 : Int32)) := cFld_r0_utf8Name_7.other W8 (Or.inr (slot_ne (Or.inr (hw _ (List.mem_of_getElem? (i := 26) rfl))) (Or.inr (hw _ (List.mem_of_getElem? (i := 36) rfl))) (by decide) (t := .boolean) (t' := .long) (by decide) (by decide)))
  have cFld_r0_rawName_8 : Fld Z h8 r0 "com/example/libvalise/libvalise/ZipReader$Entry" "rawName" "[B" .null := cFld_r0_rawName_7.other W8 (Or.inr (slot_ne (Or.inr (hw _ (List.mem_of_getElem? (i := 28) rfl))) (Or.inr (hw _ (List.mem_of_getElem? (i := 36) rfl))) (by decide) (t := (.array .byte)) (t' := .long) (by decide) (by decide)))
  have cFld_r0_method_8 : Fld Z h8 r0 "com/example/libvalise/libvalise/ZipReader$Entry" "method" "I" (.int (0 : Int32)) := cFld_r0_method_7.other W8 (Or.inr (slot_ne (Or.inr (hw _ (List.mem_of_getElem? (i := 30) rfl))) (Or.inr (hw _ (List.mem_of_getElem? (i := 36) rfl))) (by decide) (t := .int) (t' := .long) (by decide) (by decide)))
  have cFld_r0_dosDateTime_8 : Fld Z h8 r0 "com/example/libvalise/libvalise/ZipReader$Entry" "dosDateTime" "I" (.int (0 : Int32)) := cFld_r0_dosDateTime_7.other W8 (Or.inr (slot_ne (Or.inr (hw _ (List.mem_of_getElem? (i := 32) rfl))) (Or.inr (hw _ (List.mem_of_getElem? (i := 36) rfl))) (by decide) (t := .int) (t' := .long) (by decide) (by decide)))
  have cFld_r0_crc_8 : Fld Z h8 r0 "com/example/libvalise/libvalise/ZipReader$Entry" "crc" "J" (.long (0 : Int64)) := Fw7.other W8 (Or.inr (slot_ne (Or.inr (hw _ (List.mem_of_getElem? (i := 34) rfl))) (Or.inr (hw _ (List.mem_of_getElem? (i := 36) rfl))) (by decide) (t := .long) (t' := .long) (by decide) (by decide)))
  have cFld_r0_size_8 : Fld Z h8 r0 "com/example/libvalise/libvalise/ZipReader$Entry" "size" "J" (.long (0 : Int64)) := cFld_r0_size_7.other W8 (Or.inr (slot_ne (Or.inr (hw _ (List.mem_of_getElem? (i := 38) rfl))) (Or.inr (hw _ (List.mem_of_getElem? (i := 36) rfl))) (by decide) (t := .long) (t' := .long) (by decide) (by decide)))
  have cFld_r0_localHeaderOffset_8 : Fld Z h8 r0 "com/example/libvalise/libvalise/ZipReader$Entry" "localHeaderOffset" "J" (.long (0 : Int64)) := cFld_r0_localHeaderOffset_7.other W8 (Or.inr (slot_ne (Or.inr (hw _ (List.mem_of_getElem? (i := 40) rfl))) (Or.inr (hw _ (List.mem_of_getElem? (i := 36) rfl))) (by decide) (t := .long) (t' := .long) (by decide) (by decide)))
  have cFld_r0_madeBy_8 : Fld Z h8 r0 "com/example/libvalise/libvalise/ZipReader$Entry" "madeBy" "I" (.int (0 : Int32)) := cFld_r0_madeBy_7.other W8 (Or.inr (slot_ne (Or.inr (hw _ (List.mem_of_getElem? (i := 42) rfl))) (Or.inr (hw _ (List.mem_of_getElem? (i := 36) rfl))) (by decide) (t := .int) (t' := .long) (by decide) (by decide)))
  have cFld_r0_externalAttributes_8 : Fld Z h8 r0 "com/example/libvalise/libvalise/ZipReader$Entry" "externalAttributes" "I" (.int (0 : Int32)) := cFld_r0_externalAttributes_7.other W8 (Or.inr (slot_ne (Or.inr (hw _ (List.mem_of_getElem? (i := 44) rfl))) (Or.inr (hw _ (List.mem_of_getElem? (i := 36) rfl))) (by decide) (t := .int) (t' := .long) (by decide) (by decide)))
  have cFld_r0_utf8Flag_8 : Fld Z h8 r0 "com/example/libvalise/libvalise/ZipReader$Entry" "utf8Flag" "Z" (.int (0 : Int32)) := cFld_r0_utf8Flag_7.other W8 (Or.inr (slot_ne (Or.inr (hw _ (List.mem_of_getElem? (i := 46) rfl))) (Or.inr (hw _ (List.mem_of_getElem? (i := 36) rfl))) (by decide) (t := .boolean) (t' := .long) (by decide) (by decide)))
  have cFld_r0_comment_8 : Fld Z h8 r0 "com/example/libvalise/libvalise/ZipReader$Entry" "comment" "[B" .null := cFld_r0_comment_7.other W8 (Or.inr (slot_ne (Or.inr (hw _ (List.mem_of_getElem? (i := 48) rfl))) (Or.inr (hw _ (List.mem_of_getElem? (i := 36) rfl))) (by decide) (t := (.array .byte)) (t' := .long) (by decide) (by decide)))
  have cExa_r0_8 : Exa Z h8 r0 "com/example/libvalise/libvalise/ZipReader$Entry" := cExa_r0_7.wr W8
  have K8 : Keep h0 h8 [r0] := K7.wr W8 (Or.inl (List.mem_of_getElem? (i := 0) rfl))
  have N8 := Fr.snoc X8 N7 P14
  refine ownE.go (T' := T8) (f' := (mkF m 43 #[.val (.ref r0), .val (.ref r1), .val (.int (1 : Int32)), .val .null, .val (.int (0 : Int32)), .val (.int (0 : Int32)), .val (.long (0 : Int64)), .second, .val (.long (0 : Int64)), .second, .val (.long (0 : Int64)), .second, .val (.long (0 : Int64)), .second, .val (.int i10), .val (.int i11), .val (.int (0 : Int32)), .val .null] [])) st8 ?_
  refine ownE.go (T' := T8) (f' := (mkF m 46 #[.val (.ref r0), .val (.ref r1), .val (.int (1 : Int32)), .val .null, .val (.int (0 : Int32)), .val (.int (0 : Int32)), .val (.long (0 : Int64)), .second, .val (.long (0 : Int64)), .second, .val (.long (0 : Int64)), .second, .val (.long (0 : Int64)), .second, .val (.int i10), .val (.int i11), .val (.int (0 : Int32)), .val .null] [(.long (0 : Int64)), (.ref r0)])) (fun t kt => ?_) ?_
  · show Steps p.tables e below (T8.setTop (mkF m 43 #[.val (.ref r0), .val (.ref r1), .val (.int (1 : Int32)), .val .null, .val (.int (0 : Int32)), .val (.int (0 : Int32)), .val (.long (0 : Int64)), .second, .val (.long (0 : Int64)), .second, .val (.long (0 : Int64)), .second, .val (.long (0 : Int64)), .second, .val (.int i10), .val (.int i11), .val (.int (0 : Int32)), .val .null] [])) _
    refine XS.aloadN X8.here hx rfl (hb hby own_d1_43) rfl rfl ?_
    show Steps p.tables e below (T8.setTop (mkF m 44 #[.val (.ref r0), .val (.ref r1), .val (.int (1 : Int32)), .val .null, .val (.int (0 : Int32)), .val (.int (0 : Int32)), .val (.long (0 : Int64)), .second, .val (.long (0 : Int64)), .second, .val (.long (0 : Int64)), .second, .val (.long (0 : Int64)), .second, .val (.int i10), .val (.int i11), .val (.int (0 : Int32)), .val .null] [(.ref r0)])) _
    refine XS.lload X8.here hx rfl (hb hby own_d1_44) rfl ?_
    exact kt
  obtain ⟨T9, h9, X9, e9, W9, st9⟩ := putF X8 hx hZ hown (host := "") (Or.inl (hw _ (List.mem_of_getElem? (i := 37) rfl))) Via.refl e8 cFld_r0_size_8 cExa_r0_8 (Or.inr ⟨(hw _ (List.mem_of_getElem? (i := 38) rfl)), rfl, hnm⟩) (hw _ (List.mem_of_getElem? (i := 2) rfl)) (ty := .long) (by decide) rfl rfl (g := (mkF m 46 #[.val (.ref r0), .val (.ref r1), .val (.int (1 : Int32)), .val .null, .val (.int (0 : Int32)), .val (.int (0 : Int32)), .val (.long (0 : Int64)), .second, .val (.long (0 : Int64)), .second, .val (.long (0 : Int64)), .second, .val (.long (0 : Int64)), .second, .val (.int i10), .val (.int i11), .val (.int (0 : Int32)), .val .null] [(.long (0 : Int64)), (.ref r0)])) rfl rfl (hb hby own_d1_46)
  have Fw9 : Fld Z h9 r0 "com/example/libvalise/libvalise/ZipReader$Entry" "size" "J" (.long (0 : Int64)) := cFld_r0_size_8.same W9
  have cFld_r0_name_9 : Fld Z h9 r0 "com/example/libvalise/libvalise/ZipReader$Entry" "name" "Ljava/lang/String;" (.ref r1) := cFld_r0_name_8.other W9 (Or.inr (slot_ne (Or.inr (hw _ (List.mem_of_getElem? (i := 24) rfl))) (Or.inr (hw _ (List.mem_of_getElem? (i := 38) rfl))) (by decide) (t := (.object "java/lang/String")) (t' := .long) (by decide) (by decide)))
  have cFld_r0_utf8Name_9 : Fld Z h9 r0 "com/example/libvalise/libvalise/ZipReader$Entry" "utf8Name" "Z" (.int (1 : Int32)) := cFld_r0_utf8Name_8.other W9 (Or.inr (slot_ne (Or.inr (hw _ (List.mem_of_getElem? (i := 26) rfl))) (Or.inr (hw _ (List.mem_of_getElem? (i := 38) rfl))) (by decide) (t := .boolean) (t' := .long) (by decide) (by decide)))
  have cFld_r0_rawName_9 : Fld Z h9 r0 "com/example/libvalise/libvalise/ZipReader$Entry" "rawName" "[B" .null := cFld_r0_rawName_8.other W9 (Or.inr (slot_ne (Or.inr (hw _ (List.mem_of_getElem? (i := 28) rfl))) (Or.inr (hw _ (List.mem_of_getElem? (i := 38) rfl))) (by decide) (t := (.array .byte)) (t' := .long) (by decide) (by decide)))
  have cFld_r0_method_9 : Fld Z h9 r0 "com/example/libvalise/libvalise/ZipReader$Entry" "method" "I" (.int (0 : Int32)) := cFld_r0_method_8.other W9 (Or.inr (slot_ne (Or.inr (hw _ (List.mem_of_getElem? (i := 30) rfl))) (Or.inr (hw _ (List.mem_of_getElem? (i := 38) rfl))) (by decide) (t := .int) (t' := .long) (by decide) (by decide)))
  have cFld_r0_dosDateTime_9 : Fld Z h9 r0 "com/example/libvalise/libvalise/ZipReader$Entry" "dosDateTime" "I" (.int (0 : Int32)) := cFld_r0_dosDateTime_8.other W9 (Or.inr (slot_ne (Or.inr (hw _ (List.mem_of_getElem? (i := 32) rfl))) (Or.inr (hw _ (List.mem_of_getElem? (i := 38) rfl))) (by decide) (t := .int) (t' := .long) (by decide) (by decide)))
  have cFld_r0_crc_9 : Fld Z h9 r0 "com/example/libvalise/libvalise/ZipReader$Entry" "crc" "J" (.long (0 : Int64)) := cFld_r0_crc_8.other W9 (Or.inr (slot_ne (Or.inr (hw _ (List.mem_of_getElem? (i := 34) rfl))) (Or.inr (hw _ (List.mem_of_getElem? (i := 38) rfl))) (by decide) (t := .long) (t' := .long) (by decide) (by decide)))
  have cFld_r0_compressedSize_9 : Fld Z h9 r0 "com/example/libvalise/libvalise/ZipReader$Entry" "compressedSize" "J" (.long (0 : Int64)) := Fw8.other W9 (Or.inr (slot_ne (Or.inr (hw _ (List.mem_of_getElem? (i := 36) rfl))) (Or.inr (hw _ (List.mem_of_getElem? (i := 38) rfl))) (by decide) (t := .long) (t' := .long) (by decide) (by decide)))
  have cFld_r0_localHeaderOffset_9 : Fld Z h9 r0 "com/example/libvalise/libvalise/ZipReader$Entry" "localHeaderOffset" "J" (.long (0 : Int64)) := cFld_r0_localHeaderOffset_8.other W9 (Or.inr (slot_ne (Or.inr (hw _ (List.mem_of_getElem? (i := 40) rfl))) (Or.inr (hw _ (List.mem_of_getElem? (i := 38) rfl))) (by decide) (t := .long) (t' := .long) (by decide) (by decide)))
  have cFld_r0_madeBy_9 : Fld Z h9 r0 "com/example/libvalise/libvalise/ZipReader$Entry" "madeBy" "I" (.int (0 : Int32)) := cFld_r0_madeBy_8.other W9 (Or.inr (slot_ne (Or.inr (hw _ (List.mem_of_getElem? (i := 42) rfl))) (Or.inr (hw _ (List.mem_of_getElem? (i := 38) rfl))) (by decide) (t := .int) (t' := .long) (by decide) (by decide)))
  have cFld_r0_externalAttributes_9 : Fld Z h9 r0 "com/example/libvalise/libvalise/ZipReader$Entry" "externalAttributes" "I" (.int (0 : Int32)) := cFld_r0_externalAttributes_8.other W9 (Or.inr (slot_ne (Or.inr (hw _ (List.mem_of_getElem? (i := 44) rfl))) (Or.inr (hw _ (List.mem_of_getElem? (i := 38) rfl))) (by decide) (t := .int) (t' := .long) (by decide) (by decide)))
  have cFld_r0_utf8Flag_9 : Fld Z h9 r0 "com/example/libvalise/libvalise/ZipReader$Entry" "utf8Flag" "Z" (.int (0 : Int32)) := cFld_r0_utf8Flag_8.other W9 (Or.inr (slot_ne (Or.inr (hw _ (List.mem_of_getElem? (i := 46) rfl))) (Or.inr (hw _ (List.mem_of_getElem? (i := 38) rfl))) (by decide) (t := .boolean) (t' := .long) (by decide) (by decide)))
  have cFld_r0_comment_9 : Fld Z h9 r0 "com/example/libvalise/libvalise/ZipReader$Entry" "comment" "[B" .null := cFld_r0_comment_8.other W9 (Or.inr (slot_ne (Or.inr (hw _ (List.mem_of_getElem? (i := 48) rfl))) (Or.inr (hw _ (List.mem_of_getElem? (i := 38) rfl))) (by decide) (t := (.array .byte)) (t' := .long) (by decide) (by decide)))
  have cExa_r0_9 : Exa Z h9 r0 "com/example/libvalise/libvalise/ZipReader$Entry" := cExa_r0_8.wr W9
  have K9 : Keep h0 h9 [r0] := K8.wr W9 (Or.inl (List.mem_of_getElem? (i := 0) rfl))
  have N9 := Fr.snoc X9 N8 P14
  refine ownE.go (T' := T9) (f' := (mkF m 49 #[.val (.ref r0), .val (.ref r1), .val (.int (1 : Int32)), .val .null, .val (.int (0 : Int32)), .val (.int (0 : Int32)), .val (.long (0 : Int64)), .second, .val (.long (0 : Int64)), .second, .val (.long (0 : Int64)), .second, .val (.long (0 : Int64)), .second, .val (.int i10), .val (.int i11), .val (.int (0 : Int32)), .val .null] [])) st9 ?_
  refine ownE.go (T' := T9) (f' := (mkF m 52 #[.val (.ref r0), .val (.ref r1), .val (.int (1 : Int32)), .val .null, .val (.int (0 : Int32)), .val (.int (0 : Int32)), .val (.long (0 : Int64)), .second, .val (.long (0 : Int64)), .second, .val (.long (0 : Int64)), .second, .val (.long (0 : Int64)), .second, .val (.int i10), .val (.int i11), .val (.int (0 : Int32)), .val .null] [(.long (0 : Int64)), (.ref r0)])) (fun t kt => ?_) ?_
  · show Steps p.tables e below (T9.setTop (mkF m 49 #[.val (.ref r0), .val (.ref r1), .val (.int (1 : Int32)), .val .null, .val (.int (0 : Int32)), .val (.int (0 : Int32)), .val (.long (0 : Int64)), .second, .val (.long (0 : Int64)), .second, .val (.long (0 : Int64)), .second, .val (.long (0 : Int64)), .second, .val (.int i10), .val (.int i11), .val (.int (0 : Int32)), .val .null] [])) _
    refine XS.aloadN X9.here hx rfl (hb hby own_d1_49) rfl rfl ?_
    show Steps p.tables e below (T9.setTop (mkF m 50 #[.val (.ref r0), .val (.ref r1), .val (.int (1 : Int32)), .val .null, .val (.int (0 : Int32)), .val (.int (0 : Int32)), .val (.long (0 : Int64)), .second, .val (.long (0 : Int64)), .second, .val (.long (0 : Int64)), .second, .val (.long (0 : Int64)), .second, .val (.int i10), .val (.int i11), .val (.int (0 : Int32)), .val .null] [(.ref r0)])) _
    refine XS.lload X9.here hx rfl (hb hby own_d1_50) rfl ?_
    exact kt
  obtain ⟨T10, h10, X10, e10, W10, st10⟩ := putF X9 hx hZ hown (host := "") (Or.inl (hw _ (List.mem_of_getElem? (i := 39) rfl))) Via.refl e9 cFld_r0_localHeaderOffset_9 cExa_r0_9 (Or.inr ⟨(hw _ (List.mem_of_getElem? (i := 40) rfl)), rfl, hnm⟩) (hw _ (List.mem_of_getElem? (i := 2) rfl)) (ty := .long) (by decide) rfl rfl (g := (mkF m 52 #[.val (.ref r0), .val (.ref r1), .val (.int (1 : Int32)), .val .null, .val (.int (0 : Int32)), .val (.int (0 : Int32)), .val (.long (0 : Int64)), .second, .val (.long (0 : Int64)), .second, .val (.long (0 : Int64)), .second, .val (.long (0 : Int64)), .second, .val (.int i10), .val (.int i11), .val (.int (0 : Int32)), .val .null] [(.long (0 : Int64)), (.ref r0)])) rfl rfl (hb hby own_d1_52)
  have Fw10 : Fld Z h10 r0 "com/example/libvalise/libvalise/ZipReader$Entry" "localHeaderOffset" "J" (.long (0 : Int64)) := cFld_r0_localHeaderOffset_9.same W10
  have cFld_r0_name_10 : Fld Z h10 r0 "com/example/libvalise/libvalise/ZipReader$Entry" "name" "Ljava/lang/String;" (.ref r1) := cFld_r0_name_9.other W10 (Or.inr (slot_ne (Or.inr (hw _ (List.mem_of_getElem? (i := 24) rfl))) (Or.inr (hw _ (List.mem_of_getElem? (i := 40) rfl))) (by decide) (t := (.object "java/lang/String")) (t' := .long) (by decide) (by decide)))
  have cFld_r0_utf8Name_10 : Fld Z h10 r0 "com/example/libvalise/libvalise/ZipReader$Entry" "utf8Name" "Z" (.int (1 : Int32)) := cFld_r0_utf8Name_9.other W10 (Or.inr (slot_ne (Or.inr (hw _ (List.mem_of_getElem? (i := 26) rfl))) (Or.inr (hw _ (List.mem_of_getElem? (i := 40) rfl))) (by decide) (t := .boolean) (t' := .long) (by decide) (by decide)))
  have cFld_r0_rawName_10 : Fld Z h10 r0 "com/example/libvalise/libvalise/ZipReader$Entry" "rawName" "[B" .null := cFld_r0_rawName_9.other W10 (Or.inr (slot_ne (Or.inr (hw _ (List.mem_of_getElem? (i := 28) rfl))) (Or.inr (hw _ (List.mem_of_getElem? (i := 40) rfl))) (by decide) (t := (.array .byte)) (t' := .long) (by decide) (by decide)))
  have cFld_r0_method_10 : Fld Z h10 r0 "com/example/libvalise/libvalise/ZipReader$Entry" "method" "I" (.int (0 : Int32)) := cFld_r0_method_9.other W10 (Or.inr (slot_ne (Or.inr (hw _ (List.mem_of_getElem? (i := 30) rfl))) (Or.inr (hw _ (List.mem_of_getElem? (i := 40) rfl))) (by decide) (t := .int) (t' := .long) (by decide) (by decide)))
  have cFld_r0_dosDateTime_10 : Fld Z h10 r0 "com/example/libvalise/libvalise/ZipReader$Entry" "dosDateTime" "I" (.int (0 : Int32)) := cFld_r0_dosDateTime_9.other W10 (Or.inr (slot_ne (Or.inr (hw _ (List.mem_of_getElem? (i := 32) rfl))) (Or.inr (hw _ (List.mem_of_getElem? (i := 40) rfl))) (by decide) (t := .int) (t' := .long) (by decide) (by decide)))
  have cFld_r0_crc_10 : Fld Z h10 r0 "com/example/libvalise/libvalise/ZipReader$Entry" "crc" "J" (.long (0 : Int64)) := cFld_r0_crc_9.other W10 (Or.inr (slot_ne (Or.inr (hw _ (List.mem_of_getElem? (i := 34) rfl))) (Or.inr (hw _ (List.mem_of_getElem? (i := 40) rfl))) (by decide) (t := .long) (t' := .long) (by decide) (by decide)))
  have cFld_r0_compressedSize_10 : Fld Z h10 r0 "com/example/libvalise/libvalise/ZipReader$Entry" "compressedSize" "J" (.long (0 : Int64)) := cFld_r0_compressedSize_9.other W10 (Or.inr (slot_ne (Or.inr (hw _ (List.mem_of_getElem? (i := 36) rfl))) (Or.inr (hw _ (List.mem_of_getElem? (i := 40) rfl))) (by decide) (t := .long) (t' := .long) (by decide) (by decide)))
  have cFld_r0_size_10 : Fld Z h10 r0 "com/example/libvalise/libvalise/ZipReader$Entry" "size" "J" (.long (0 : Int64)) := Fw9.other W10 (Or.inr (slot_ne (Or.inr (hw _ (List.mem_of_getElem? (i := 38) rfl))) (Or.inr (hw _ (List.mem_of_getElem? (i := 40) rfl))) (by decide) (t := .long) (t' := .long) (by decide) (by decide)))
  have cFld_r0_madeBy_10 : Fld Z h10 r0 "com/example/libvalise/libvalise/ZipReader$Entry" "madeBy" "I" (.int (0 : Int32)) := cFld_r0_madeBy_9.other W10 (Or.inr (slot_ne (Or.inr (hw _ (List.mem_of_getElem? (i := 42) rfl))) (Or.inr (hw _ (List.mem_of_getElem? (i := 40) rfl))) (by decide) (t := .int) (t' := .long) (by decide) (by decide)))
  have cFld_r0_externalAttributes_10 : Fld Z h10 r0 "com/example/libvalise/libvalise/ZipReader$Entry" "externalAttributes" "I" (.int (0 : Int32)) := cFld_r0_externalAttributes_9.other W10 (Or.inr (slot_ne (Or.inr (hw _ (List.mem_of_getElem? (i := 44) rfl))) (Or.inr (hw _ (List.mem_of_getElem? (i := 40) rfl))) (by decide) (t := .int) (t' := .long) (by decide) (by decide)))
  have cFld_r0_utf8Flag_10 : Fld Z h10 r0 "com/example/libvalise/libvalise/ZipReader$Entry" "utf8Flag" "Z" (.int (0 : Int32)) := cFld_r0_utf8Flag_9.other W10 (Or.inr (slot_ne (Or.inr (hw _ (List.mem_of_getElem? (i := 46) rfl))) (Or.inr (hw _ (List.mem_of_getElem? (i := 40) rfl))) (by decide) (t := .boolean) (t' := .long) (by decide) (by decide)))
  have cFld_r0_comment_10 : Fld Z h10 r0 "com/example/libvalise/libvalise/ZipReader$Entry" "comment" "[B" .null := cFld_r0_comment_9.other W10 (Or.inr (slot_ne (Or.inr (hw _ (List.mem_of_getElem? (i := 48) rfl))) (Or.inr (hw _ (List.mem_of_getElem? (i := 40) rfl))) (by decide) (t := (.array .byte)) (t' := .long) (by decide) (by decide)))
  have cExa_r0_10 : Exa Z h10 r0 "com/example/libvalise/libvalise/ZipReader$Entry" := cExa_r0_9.wr W10
  have K10 : Keep h0 h10 [r0] := K9.wr W10 (Or.inl (List.mem_of_getElem? (i := 0) rfl))
  have N10 := Fr.snoc X10 N9 P14
  refine ownE.go (T' := T10) (f' := (mkF m 55 #[.val (.ref r0), .val (.ref r1), .val (.int (1 : Int32)), .val .null, .val (.int (0 : Int32)), .val (.int (0 : Int32)), .val (.long (0 : Int64)), .second, .val (.long (0 : Int64)), .second, .val (.long (0 : Int64)), .second, .val (.long (0 : Int64)), .second, .val (.int i10), .val (.int i11), .val (.int (0 : Int32)), .val .null] [])) st10 ?_
  refine ownE.go (T' := T10) (f' := (mkF m 58 #[.val (.ref r0), .val (.ref r1), .val (.int (1 : Int32)), .val .null, .val (.int (0 : Int32)), .val (.int (0 : Int32)), .val (.long (0 : Int64)), .second, .val (.long (0 : Int64)), .second, .val (.long (0 : Int64)), .second, .val (.long (0 : Int64)), .second, .val (.int i10), .val (.int i11), .val (.int (0 : Int32)), .val .null] [(.int i10), (.ref r0)])) (fun t kt => ?_) ?_
  · show Steps p.tables e below (T10.setTop (mkF m 55 #[.val (.ref r0), .val (.ref r1), .val (.int (1 : Int32)), .val .null, .val (.int (0 : Int32)), .val (.int (0 : Int32)), .val (.long (0 : Int64)), .second, .val (.long (0 : Int64)), .second, .val (.long (0 : Int64)), .second, .val (.long (0 : Int64)), .second, .val (.int i10), .val (.int i11), .val (.int (0 : Int32)), .val .null] [])) _
    refine XS.aloadN X10.here hx rfl (hb hby own_d1_55) rfl rfl ?_
    show Steps p.tables e below (T10.setTop (mkF m 56 #[.val (.ref r0), .val (.ref r1), .val (.int (1 : Int32)), .val .null, .val (.int (0 : Int32)), .val (.int (0 : Int32)), .val (.long (0 : Int64)), .second, .val (.long (0 : Int64)), .second, .val (.long (0 : Int64)), .second, .val (.long (0 : Int64)), .second, .val (.int i10), .val (.int i11), .val (.int (0 : Int32)), .val .null] [(.ref r0)])) _
    refine XS.iload X10.here hx rfl (hb hby own_d1_56) rfl ?_
    exact kt
  obtain ⟨T11, h11, X11, e11, W11, st11⟩ := putF X10 hx hZ hown (host := "") (Or.inl (hw _ (List.mem_of_getElem? (i := 41) rfl))) Via.refl e10 cFld_r0_madeBy_10 cExa_r0_10 (Or.inr ⟨(hw _ (List.mem_of_getElem? (i := 42) rfl)), rfl, hnm⟩) (hw _ (List.mem_of_getElem? (i := 2) rfl)) (ty := .int) (by decide) rfl rfl (g := (mkF m 58 #[.val (.ref r0), .val (.ref r1), .val (.int (1 : Int32)), .val .null, .val (.int (0 : Int32)), .val (.int (0 : Int32)), .val (.long (0 : Int64)), .second, .val (.long (0 : Int64)), .second, .val (.long (0 : Int64)), .second, .val (.long (0 : Int64)), .second, .val (.int i10), .val (.int i11), .val (.int (0 : Int32)), .val .null] [(.int i10), (.ref r0)])) rfl rfl (hb hby own_d1_58)
  have Fw11 : Fld Z h11 r0 "com/example/libvalise/libvalise/ZipReader$Entry" "madeBy" "I" (.int i10) := cFld_r0_madeBy_10.same W11
  have cFld_r0_name_11 : Fld Z h11 r0 "com/example/libvalise/libvalise/ZipReader$Entry" "name" "Ljava/lang/String;" (.ref r1) := cFld_r0_name_10.other W11 (Or.inr (slot_ne (Or.inr (hw _ (List.mem_of_getElem? (i := 24) rfl))) (Or.inr (hw _ (List.mem_of_getElem? (i := 42) rfl))) (by decide) (t := (.object "java/lang/String")) (t' := .int) (by decide) (by decide)))
  have cFld_r0_utf8Name_11 : Fld Z h11 r0 "com/example/libvalise/libvalise/ZipReader$Entry" "utf8Name" "Z" (.int (1 : Int32)) := cFld_r0_utf8Name_10.other W11 (Or.inr (slot_ne (Or.inr (hw _ (List.mem_of_getElem? (i := 26) rfl))) (Or.inr (hw _ (List.mem_of_getElem? (i := 42) rfl))) (by decide) (t := .boolean) (t' := .int) (by decide) (by decide)))
  have cFld_r0_rawName_11 : Fld Z h11 r0 "com/example/libvalise/libvalise/ZipReader$Entry" "rawName" "[B" .null := cFld_r0_rawName_10.other W11 (Or.inr (slot_ne (Or.inr (hw _ (List.mem_of_getElem? (i := 28) rfl))) (Or.inr (hw _ (List.mem_of_getElem? (i := 42) rfl))) (by decide) (t := (.array .byte)) (t' := .int) (by decide) (by decide)))
  have cFld_r0_method_11 : Fld Z h11 r0 "com/example/libvalise/libvalise/ZipReader$Entry" "method" "I" (.int (0 : Int32)) := cFld_r0_method_10.other W11 (Or.inr (slot_ne (Or.inr (hw _ (List.mem_of_getElem? (i := 30) rfl))) (Or.inr (hw _ (List.mem_of_getElem? (i := 42) rfl))) (by decide) (t := .int) (t' := .int) (by decide) (by decide)))
  have cFld_r0_dosDateTime_11 : Fld Z h11 r0 "com/example/libvalise/libvalise/ZipReader$Entry" "dosDateTime" "I" (.int (0 : Int32)) := cFld_r0_dosDateTime_10.other W11 (Or.inr (slot_ne (Or.inr (hw _ (List.mem_of_getElem? (i := 32) rfl))) (Or.inr (hw _ (List.mem_of_getElem? (i := 42) rfl))) (by decide) (t := .int) (t' := .int) (by decide) (by decide)))
  have cFld_r0_crc_11 : Fld Z h11 r0 "com/example/libvalise/libvalise/ZipReader$Entry" "crc" "J" (.long (0 : Int64)) := cFld_r0_crc_10.other W11 (Or.inr (slot_ne (Or.inr (hw _ (List.mem_of_getElem? (i := 34) rfl))) (Or.inr (hw _ (List.mem_of_getElem? (i := 42) rfl))) (by decide) (t := .long) (t' := .int) (by decide) (by decide)))
  have cFld_r0_compressedSize_11 : Fld Z h11 r0 "com/example/libvalise/libvalise/ZipReader$Entry" "compressedSize" "J" (.long (0 : Int64)) := cFld_r0_compressedSize_10.other W11 (Or.inr (slot_ne (Or.inr (hw _ (List.mem_of_getElem? (i := 36) rfl))) (Or.inr (hw _ (List.mem_of_getElem? (i := 42) rfl))) (by decide) (t := .long) (t' := .int) (by decide) (by decide)))
  have cFld_r0_size_11 : Fld Z h11 r0 "com/example/libvalise/libvalise/ZipReader$Entry" "size" "J" (.long (0 : Int64)) := cFld_r0_size_10.other W11 (Or.inr (slot_ne (Or.inr (hw _ (List.mem_of_getElem? (i := 38) rfl))) (Or.inr (hw _ (List.mem_of_getElem? (i := 42) rfl))) (by decide) (t := .long) (t' := .int) (by decide) (by decide)))
  have cFld_r0_localHeaderOffset_11 : Fld Z h11 r0 "com/example/libvalise/libvalise/ZipReader$Entry" "localHeaderOffset" "J" (.long (0 : Int64)) := Fw10.other W11 (Or.inr (slot_ne (Or.inr (hw _ (List.mem_of_getElem? (i := 40) rfl))) (Or.inr (hw _ (List.mem_of_getElem? (i := 42) rfl))) (by decide) (t := .long) (t' := .int) (by decide) (by decide)))
  have cFld_r0_externalAttributes_11 : Fld Z h11 r0 "com/example/libvalise/libvalise/ZipReader$Entry" "externalAttributes" "I" (.int (0 : Int32)) := cFld_r0_externalAttributes_10.other W11 (Or.inr (slot_ne (Or.inr (hw _ (List.mem_of_getElem? (i := 44) rfl))) (Or.inr (hw _ (List.mem_of_getElem? (i := 42) rfl))) (by decide) (t := .int) (t' := .int) (by decide) (by decide)))
  have cFld_r0_utf8Flag_11 : Fld Z h11 r0 "com/example/libvalise/libvalise/ZipReader$Entry" "utf8Flag" "Z" (.int (0 : Int32)) := cFld_r0_utf8Flag_10.other W11 (Or.inr (slot_ne (Or.inr (hw _ (List.mem_of_getElem? (i := 46) rfl))) (Or.inr (hw _ (List.mem_of_getElem? (i := 42) rfl))) (by decide) (t := .boolean) (t' := .int) (by decide) (by decide)))
  have cFld_r0_comment_11 : Fld Z h11 r0 "com/example/libvalise/libvalise/ZipReader$Entry" "comment" "[B" .null := cFld_r0_comment_10.other W11 (Or.inr (slot_ne (Or.inr (hw _ (List.mem_of_getElem? (i := 48) rfl))) (Or.inr (hw _ (List.mem_of_getElem? (i := 42) rfl))) (by decide) (t := (.array .byte)) (t' := .int) (by decide) (by decide)))
  have cExa_r0_11 : Exa Z h11 r0 "com/example/libvalise/libvalise/ZipReader$Entry" := cExa_r0_10.wr W11
  have K11 : Keep h0 h11 [r0] := K10.wr W11 (Or.inl (List.mem_of_getElem? (i := 0) rfl))
  have N11 := Fr.snoc X11 N10 P14
  refine ownE.go (T' := T11) (f' := (mkF m 61 #[.val (.ref r0), .val (.ref r1), .val (.int (1 : Int32)), .val .null, .val (.int (0 : Int32)), .val (.int (0 : Int32)), .val (.long (0 : Int64)), .second, .val (.long (0 : Int64)), .second, .val (.long (0 : Int64)), .second, .val (.long (0 : Int64)), .second, .val (.int i10), .val (.int i11), .val (.int (0 : Int32)), .val .null] [])) st11 ?_
  refine ownE.go (T' := T11) (f' := (mkF m 64 #[.val (.ref r0), .val (.ref r1), .val (.int (1 : Int32)), .val .null, .val (.int (0 : Int32)), .val (.int (0 : Int32)), .val (.long (0 : Int64)), .second, .val (.long (0 : Int64)), .second, .val (.long (0 : Int64)), .second, .val (.long (0 : Int64)), .second, .val (.int i10), .val (.int i11), .val (.int (0 : Int32)), .val .null] [(.int i11), (.ref r0)])) (fun t kt => ?_) ?_
  · show Steps p.tables e below (T11.setTop (mkF m 61 #[.val (.ref r0), .val (.ref r1), .val (.int (1 : Int32)), .val .null, .val (.int (0 : Int32)), .val (.int (0 : Int32)), .val (.long (0 : Int64)), .second, .val (.long (0 : Int64)), .second, .val (.long (0 : Int64)), .second, .val (.long (0 : Int64)), .second, .val (.int i10), .val (.int i11), .val (.int (0 : Int32)), .val .null] [])) _
    refine XS.aloadN X11.here hx rfl (hb hby own_d1_61) rfl rfl ?_
    show Steps p.tables e below (T11.setTop (mkF m 62 #[.val (.ref r0), .val (.ref r1), .val (.int (1 : Int32)), .val .null, .val (.int (0 : Int32)), .val (.int (0 : Int32)), .val (.long (0 : Int64)), .second, .val (.long (0 : Int64)), .second, .val (.long (0 : Int64)), .second, .val (.long (0 : Int64)), .second, .val (.int i10), .val (.int i11), .val (.int (0 : Int32)), .val .null] [(.ref r0)])) _
    refine XS.iload X11.here hx rfl (hb hby own_d1_62) rfl ?_
    exact kt
  obtain ⟨T12, h12, X12, e12, W12, st12⟩ := putF X11 hx hZ hown (host := "") (Or.inl (hw _ (List.mem_of_getElem? (i := 43) rfl))) Via.refl e11 cFld_r0_externalAttributes_11 cExa_r0_11 (Or.inr ⟨(hw _ (List.mem_of_getElem? (i := 44) rfl)), rfl, hnm⟩) (hw _ (List.mem_of_getElem? (i := 2) rfl)) (ty := .int) (by decide) rfl rfl (g := (mkF m 64 #[.val (.ref r0), .val (.ref r1), .val (.int (1 : Int32)), .val .null, .val (.int (0 : Int32)), .val (.int (0 : Int32)), .val (.long (0 : Int64)), .second, .val (.long (0 : Int64)), .second, .val (.long (0 : Int64)), .second, .val (.long (0 : Int64)), .second, .val (.int i10), .val (.int i11), .val (.int (0 : Int32)), .val .null] [(.int i11), (.ref r0)])) rfl rfl (hb hby own_d1_64)
  have Fw12 : Fld Z h12 r0 "com/example/libvalise/libvalise/ZipReader$Entry" "externalAttributes" "I" (.int i11) := cFld_r0_externalAttributes_11.same W12
  have cFld_r0_name_12 : Fld Z h12 r0 "com/example/libvalise/libvalise/ZipReader$Entry" "name" "Ljava/lang/String;" (.ref r1) := cFld_r0_name_11.other W12 (Or.inr (slot_ne (Or.inr (hw _ (List.mem_of_getElem? (i := 24) rfl))) (Or.inr (hw _ (List.mem_of_getElem? (i := 44) rfl))) (by decide) (t := (.object "java/lang/String")) (t' := .int) (by decide) (by decide)))
  have cFld_r0_utf8Name_12 : Fld Z h12 r0 "com/example/libvalise/libvalise/ZipReader$Entry" "utf8Name" "Z" (.int (1 : Int32)) := cFld_r0_utf8Name_11.other W12 (Or.inr (slot_ne (Or.inr (hw _ (List.mem_of_getElem? (i := 26) rfl))) (Or.inr (hw _ (List.mem_of_getElem? (i := 44) rfl))) (by decide) (t := .boolean) (t' := .int) (by decide) (by decide)))
  have cFld_r0_rawName_12 : Fld Z h12 r0 "com/example/libvalise/libvalise/ZipReader$Entry" "rawName" "[B" .null := cFld_r0_rawName_11.other W12 (Or.inr (slot_ne (Or.inr (hw _ (List.mem_of_getElem? (i := 28) rfl))) (Or.inr (hw _ (List.mem_of_getElem? (i := 44) rfl))) (by decide) (t := (.array .byte)) (t' := .int) (by decide) (by decide)))
  have cFld_r0_method_12 : Fld Z h12 r0 "com/example/libvalise/libvalise/ZipReader$Entry" "method" "I" (.int (0 : Int32)) := cFld_r0_method_11.other W12 (Or.inr (slot_ne (Or.inr (hw _ (List.mem_of_getElem? (i := 30) rfl))) (Or.inr (hw _ (List.mem_of_getElem? (i := 44) rfl))) (by decide) (t := .int) (t' := .int) (by decide) (by decide)))
  have cFld_r0_dosDateTime_12 : Fld Z h12 r0 "com/example/libvalise/libvalise/ZipReader$Entry" "dosDateTime" "I" (.int (0 : Int32)) := cFld_r0_dosDateTime_11.other W12 (Or.inr (slot_ne (Or.inr (hw _ (List.mem_of_getElem? (i := 32) rfl))) (Or.inr (hw _ (List.mem_of_getElem? (i := 44) rfl))) (by decide) (t := .int) (t' := .int) (by decide) (by decide)))
  have cFld_r0_crc_12 : Fld Z h12 r0 "com/example/libvalise/libvalise/ZipReader$Entry" "crc" "J" (.long (0 : Int64)) := cFld_r0_crc_11.other W12 (Or.inr (slot_ne (Or.inr (hw _ (List.mem_of_getElem? (i := 34) rfl))) (Or.inr (hw _ (List.mem_of_getElem? (i := 44) rfl))) (by decide) (t := .long) (t' := .int) (by decide) (by decide)))
  have cFld_r0_compressedSize_12 : Fld Z h12 r0 "com/example/libvalise/libvalise/ZipReader$Entry" "compressedSize" "J" (.long (0 : Int64)) := cFld_r0_compressedSize_11.other W12 (Or.inr (slot_ne (Or.inr (hw _ (List.mem_of_getElem? (i := 36) rfl))) (Or.inr (hw _ (List.mem_of_getElem? (i := 44) rfl))) (by decide) (t := .long) (t' := .int) (by decide) (by decide)))
  have cFld_r0_size_12 : Fld Z h12 r0 "com/example/libvalise/libvalise/ZipReader$Entry" "size" "J" (.long (0 : Int64)) := cFld_r0_size_11.other W12 (Or.inr (slot_ne (Or.inr (hw _ (List.mem_of_getElem? (i := 38) rfl))) (Or.inr (hw _ (List.mem_of_getElem? (i := 44) rfl))) (by decide) (t := .long) (t' := .int) (by decide) (by decide)))
  have cFld_r0_localHeaderOffset_12 : Fld Z h12 r0 "com/example/libvalise/libvalise/ZipReader$Entry" "localHeaderOffset" "J" (.long (0 : Int64)) := cFld_r0_localHeaderOffset_11.other W12 (Or.inr (slot_ne (Or.inr (hw _ (List.mem_of_getElem? (i := 40) rfl))) (Or.inr (hw _ (List.mem_of_getElem? (i := 44) rfl))) (by decide) (t := .long) (t' := .int) (by decide) (by decide)))
  have cFld_r0_madeBy_12 : Fld Z h12 r0 "com/example/libvalise/libvalise/ZipReader$Entry" "madeBy" "I" (.int i10) := Fw11.other W12 (Or.inr (slot_ne (Or.inr (hw _ (List.mem_of_getElem? (i := 42) rfl))) (Or.inr (hw _ (List.mem_of_getElem? (i := 44) rfl))) (by decide) (t := .int) (t' := .int) (by decide) (by decide)))
  have cFld_r0_utf8Flag_12 : Fld Z h12 r0 "com/example/libvalise/libvalise/ZipReader$Entry" "utf8Flag" "Z" (.int (0 : Int32)) := cFld_r0_utf8Flag_11.other W12 (Or.inr (slot_ne (Or.inr (hw _ (List.mem_of_getElem? (i := 46) rfl))) (Or.inr (hw _ (List.mem_of_getElem? (i := 44) rfl))) (by decide) (t := .boolean) (t' := .int) (by decide) (by decide)))
  have cFld_r0_comment_12 : Fld Z h12 r0 "com/example/libvalise/libvalise/ZipReader$Entry" "comment" "[B" .null := cFld_r0_comment_11.other W12 (Or.inr (slot_ne (Or.inr (hw _ (List.mem_of_getElem? (i := 48) rfl))) (Or.inr (hw _ (List.mem_of_getElem? (i := 44) rfl))) (by decide) (t := (.array .byte)) (t' := .int) (by decide) (by decide)))
  have cExa_r0_12 : Exa Z h12 r0 "com/example/libvalise/libvalise/ZipReader$Entry" := cExa_r0_11.wr W12
  have K12 : Keep h0 h12 [r0] := K11.wr W12 (Or.inl (List.mem_of_getElem? (i := 0) rfl))
  have N12 := Fr.snoc X12 N11 P14
  refine ownE.go (T' := T12) (f' := (mkF m 67 #[.val (.ref r0), .val (.ref r1), .val (.int (1 : Int32)), .val .null, .val (.int (0 : Int32)), .val (.int (0 : Int32)), .val (.long (0 : Int64)), .second, .val (.long (0 : Int64)), .second, .val (.long (0 : Int64)), .second, .val (.long (0 : Int64)), .second, .val (.int i10), .val (.int i11), .val (.int (0 : Int32)), .val .null] [])) st12 ?_
  refine ownE.go (T' := T12) (f' := (mkF m 70 #[.val (.ref r0), .val (.ref r1), .val (.int (1 : Int32)), .val .null, .val (.int (0 : Int32)), .val (.int (0 : Int32)), .val (.long (0 : Int64)), .second, .val (.long (0 : Int64)), .second, .val (.long (0 : Int64)), .second, .val (.long (0 : Int64)), .second, .val (.int i10), .val (.int i11), .val (.int (0 : Int32)), .val .null] [(.int (0 : Int32)), (.ref r0)])) (fun t kt => ?_) ?_
  · show Steps p.tables e below (T12.setTop (mkF m 67 #[.val (.ref r0), .val (.ref r1), .val (.int (1 : Int32)), .val .null, .val (.int (0 : Int32)), .val (.int (0 : Int32)), .val (.long (0 : Int64)), .second, .val (.long (0 : Int64)), .second, .val (.long (0 : Int64)), .second, .val (.long (0 : Int64)), .second, .val (.int i10), .val (.int i11), .val (.int (0 : Int32)), .val .null] [])) _
    refine XS.aloadN X12.here hx rfl (hb hby own_d1_67) rfl rfl ?_
    show Steps p.tables e below (T12.setTop (mkF m 68 #[.val (.ref r0), .val (.ref r1), .val (.int (1 : Int32)), .val .null, .val (.int (0 : Int32)), .val (.int (0 : Int32)), .val (.long (0 : Int64)), .second, .val (.long (0 : Int64)), .second, .val (.long (0 : Int64)), .second, .val (.long (0 : Int64)), .second, .val (.int i10), .val (.int i11), .val (.int (0 : Int32)), .val .null] [(.ref r0)])) _
    refine XS.iload X12.here hx rfl (hb hby own_d1_68) rfl ?_
    exact kt
  obtain ⟨T13, h13, X13, e13, W13, st13⟩ := putF X12 hx hZ hown (host := "") (Or.inl (hw _ (List.mem_of_getElem? (i := 45) rfl))) Via.refl e12 cFld_r0_utf8Flag_12 cExa_r0_12 (Or.inr ⟨(hw _ (List.mem_of_getElem? (i := 46) rfl)), rfl, hnm⟩) (hw _ (List.mem_of_getElem? (i := 2) rfl)) (ty := .boolean) (by decide) rfl rfl (g := (mkF m 70 #[.val (.ref r0), .val (.ref r1), .val (.int (1 : Int32)), .val .null, .val (.int (0 : Int32)), .val (.int (0 : Int32)), .val (.long (0 : Int64)), .second, .val (.long (0 : Int64)), .second, .val (.long (0 : Int64)), .second, .val (.long (0 : Int64)), .second, .val (.int i10), .val (.int i11), .val (.int (0 : Int32)), .val .null] [(.int (0 : Int32)), (.ref r0)])) rfl rfl (hb hby own_d1_70)
  have Fw13 : Fld Z h13 r0 "com/example/libvalise/libvalise/ZipReader$Entry" "utf8Flag" "Z" (.int (0 : Int32)) := cFld_r0_utf8Flag_12.same W13
  have cFld_r0_name_13 : Fld Z h13 r0 "com/example/libvalise/libvalise/ZipReader$Entry" "name" "Ljava/lang/String;" (.ref r1) := cFld_r0_name_12.other W13 (Or.inr (slot_ne (Or.inr (hw _ (List.mem_of_getElem? (i := 24) rfl))) (Or.inr (hw _ (List.mem_of_getElem? (i := 46) rfl))) (by decide) (t := (.object "java/lang/String")) (t' := .boolean) (by decide) (by decide)))
  have cFld_r0_utf8Name_13 : Fld Z h13 r0 "com/example/libvalise/libvalise/ZipReader$Entry" "utf8Name" "Z" (.int (1 : Int32)) := cFld_r0_utf8Name_12.other W13 (Or.inr (slot_ne (Or.inr (hw _ (List.mem_of_getElem? (i := 26) rfl))) (Or.inr (hw _ (List.mem_of_getElem? (i := 46) rfl))) (by decide) (t := .boolean) (t' := .boolean) (by decide) (by decide)))
  have cFld_r0_rawName_13 : Fld Z h13 r0 "com/example/libvalise/libvalise/ZipReader$Entry" "rawName" "[B" .null := cFld_r0_rawName_12.other W13 (Or.inr (slot_ne (Or.inr (hw _ (List.mem_of_getElem? (i := 28) rfl))) (Or.inr (hw _ (List.mem_of_getElem? (i := 46) rfl))) (by decide) (t := (.array .byte)) (t' := .boolean) (by decide) (by decide)))
  have cFld_r0_method_13 : Fld Z h13 r0 "com/example/libvalise/libvalise/ZipReader$Entry" "method" "I" (.int (0 : Int32)) := cFld_r0_method_12.other W13 (Or.inr (slot_ne (Or.inr (hw _ (List.mem_of_getElem? (i := 30) rfl))) (Or.inr (hw _ (List.mem_of_getElem? (i := 46) rfl))) (by decide) (t := .int) (t' := .boolean) (by decide) (by decide)))
  have cFld_r0_dosDateTime_13 : Fld Z h13 r0 "com/example/libvalise/libvalise/ZipReader$Entry" "dosDateTime" "I" (.int (0 : Int32)) := cFld_r0_dosDateTime_12.other W13 (Or.inr (slot_ne (Or.inr (hw _ (List.mem_of_getElem? (i := 32) rfl))) (Or.inr (hw _ (List.mem_of_getElem? (i := 46) rfl))) (by decide) (t := .int) (t' := .boolean) (by decide) (by decide)))
  have cFld_r0_crc_13 : Fld Z h13 r0 "com/example/libvalise/libvalise/ZipReader$Entry" "crc" "J" (.long (0 : Int64)) := cFld_r0_crc_12.other W13 (Or.inr (slot_ne (Or.inr (hw _ (List.mem_of_getElem? (i := 34) rfl))) (Or.inr (hw _ (List.mem_of_getElem? (i := 46) rfl))) (by decide) (t := .long) (t' := .boolean) (by decide) (by decide)))
  have cFld_r0_compressedSize_13 : Fld Z h13 r0 "com/example/libvalise/libvalise/ZipReader$Entry" "compressedSize" "J" (.long (0 : Int64)) := cFld_r0_compressedSize_12.other W13 (Or.inr (slot_ne (Or.inr (hw _ (List.mem_of_getElem? (i := 36) rfl))) (Or.inr (hw _ (List.mem_of_getElem? (i := 46) rfl))) (by decide) (t := .long) (t' := .boolean) (by decide) (by decide)))
  have cFld_r0_size_13 : Fld Z h13 r0 "com/example/libvalise/libvalise/ZipReader$Entry" "size" "J" (.long (0 : Int64)) := cFld_r0_size_12.other W13 (Or.inr (slot_ne (Or.inr (hw _ (List.mem_of_getElem? (i := 38) rfl))) (Or.inr (hw _ (List.mem_of_getElem? (i := 46) rfl))) (by decide) (t := .long) (t' := .boolean) (by decide) (by decide)))
  have cFld_r0_localHeaderOffset_13 : Fld Z h13 r0 "com/example/libvalise/libvalise/ZipReader$Entry" "localHeaderOffset" "J" (.long (0 : Int64)) := cFld_r0_localHeaderOffset_12.other W13 (Or.inr (slot_ne (Or.inr (hw _ (List.mem_of_getElem? (i := 40) rfl))) (Or.inr (hw _ (List.mem_of_getElem? (i := 46) rfl))) (by decide) (t := .long) (t' := .boolean) (by decide) (by decide)))
  have cFld_r0_madeBy_13 : Fld Z h13 r0 "com/example/libvalise/libvalise/ZipReader$Entry" "madeBy" "I" (.int i10) := cFld_r0_madeBy_12.other W13 (Or.inr (slot_ne (Or.inr (hw _ (List.mem_of_getElem? (i := 42) rfl))) (Or.inr (hw _ (List.mem_of_getElem? (i := 46) rfl))) (by decide) (t := .int) (t' := .boolean) (by decide) (by decide)))
  have cFld_r0_externalAttributes_13 : Fld Z h13 r0 "com/example/libvalise/libvalise/ZipReader$Entry" "externalAttributes" "I" (.int i11) := Fw12.other W13 (Or.inr (slot_ne (Or.inr (hw _ (List.mem_of_getElem? (i := 44) rfl))) (Or.inr (hw _ (List.mem_of_getElem? (i := 46) rfl))) (by decide) (t := .int) (t' := .boolean) (by decide) (by decide)))
  have cFld_r0_comment_13 : Fld Z h13 r0 "com/example/libvalise/libvalise/ZipReader$Entry" "comment" "[B" .null := cFld_r0_comment_12.other W13 (Or.inr (slot_ne (Or.inr (hw _ (List.mem_of_getElem? (i := 48) rfl))) (Or.inr (hw _ (List.mem_of_getElem? (i := 46) rfl))) (by decide) (t := (.array .byte)) (t' := .boolean) (by decide) (by decide)))
  have cExa_r0_13 : Exa Z h13 r0 "com/example/libvalise/libvalise/ZipReader$Entry" := cExa_r0_12.wr W13
  have K13 : Keep h0 h13 [r0] := K12.wr W13 (Or.inl (List.mem_of_getElem? (i := 0) rfl))
  have N13 := Fr.snoc X13 N12 P14
  refine ownE.go (T' := T13) (f' := (mkF m 73 #[.val (.ref r0), .val (.ref r1), .val (.int (1 : Int32)), .val .null, .val (.int (0 : Int32)), .val (.int (0 : Int32)), .val (.long (0 : Int64)), .second, .val (.long (0 : Int64)), .second, .val (.long (0 : Int64)), .second, .val (.long (0 : Int64)), .second, .val (.int i10), .val (.int i11), .val (.int (0 : Int32)), .val .null] [])) st13 ?_
  refine ownE.go (T' := T13) (f' := (mkF m 76 #[.val (.ref r0), .val (.ref r1), .val (.int (1 : Int32)), .val .null, .val (.int (0 : Int32)), .val (.int (0 : Int32)), .val (.long (0 : Int64)), .second, .val (.long (0 : Int64)), .second, .val (.long (0 : Int64)), .second, .val (.long (0 : Int64)), .second, .val (.int i10), .val (.int i11), .val (.int (0 : Int32)), .val .null] [.null, (.ref r0)])) (fun t kt => ?_) ?_
  · show Steps p.tables e below (T13.setTop (mkF m 73 #[.val (.ref r0), .val (.ref r1), .val (.int (1 : Int32)), .val .null, .val (.int (0 : Int32)), .val (.int (0 : Int32)), .val (.long (0 : Int64)), .second, .val (.long (0 : Int64)), .second, .val (.long (0 : Int64)), .second, .val (.long (0 : Int64)), .second, .val (.int i10), .val (.int i11), .val (.int (0 : Int32)), .val .null] [])) _
    refine XS.aloadN X13.here hx rfl (hb hby own_d1_73) rfl rfl ?_
    show Steps p.tables e below (T13.setTop (mkF m 74 #[.val (.ref r0), .val (.ref r1), .val (.int (1 : Int32)), .val .null, .val (.int (0 : Int32)), .val (.int (0 : Int32)), .val (.long (0 : Int64)), .second, .val (.long (0 : Int64)), .second, .val (.long (0 : Int64)), .second, .val (.long (0 : Int64)), .second, .val (.int i10), .val (.int i11), .val (.int (0 : Int32)), .val .null] [(.ref r0)])) _
    refine XS.aload X13.here hx rfl (hb hby own_d1_74) rfl rfl ?_
    exact kt
  obtain ⟨T14, h14, X14, e14, W14, st14⟩ := putF X13 hx hZ hown (host := "") (Or.inl (hw _ (List.mem_of_getElem? (i := 47) rfl))) Via.refl e13 cFld_r0_comment_13 cExa_r0_13 (Or.inr ⟨(hw _ (List.mem_of_getElem? (i := 48) rfl)), rfl, hnm⟩) (hw _ (List.mem_of_getElem? (i := 2) rfl)) (ty := (.array .byte)) (by decide) rfl rfl (g := (mkF m 76 #[.val (.ref r0), .val (.ref r1), .val (.int (1 : Int32)), .val .null, .val (.int (0 : Int32)), .val (.int (0 : Int32)), .val (.long (0 : Int64)), .second, .val (.long (0 : Int64)), .second, .val (.long (0 : Int64)), .second, .val (.long (0 : Int64)), .second, .val (.int i10), .val (.int i11), .val (.int (0 : Int32)), .val .null] [.null, (.ref r0)])) rfl rfl (hb hby own_d1_76)
  have Fw14 : Fld Z h14 r0 "com/example/libvalise/libvalise/ZipReader$Entry" "comment" "[B" .null := cFld_r0_comment_13.same W14
  have cFld_r0_name_14 : Fld Z h14 r0 "com/example/libvalise/libvalise/ZipReader$Entry" "name" "Ljava/lang/String;" (.ref r1) := cFld_r0_name_13.other W14 (Or.inr (slot_ne (Or.inr (hw _ (List.mem_of_getElem? (i := 24) rfl))) (Or.inr (hw _ (List.mem_of_getElem? (i := 48) rfl))) (by decide) (t := (.object "java/lang/String")) (t' := (.array .byte)) (by decide) (by decide)))
  have cFld_r0_utf8Name_14 : Fld Z h14 r0 "com/example/libvalise/libvalise/ZipReader$Entry" "utf8Name" "Z" (.int (1 : Int32)) := cFld_r0_utf8Name_13.other W14 (Or.inr (slot_ne (Or.inr (hw _ (List.mem_of_getElem? (i := 26) rfl))) (Or.inr (hw _ (List.mem_of_getElem? (i := 48) rfl))) (by decide) (t := .boolean) (t' := (.array .byte)) (by decide) (by decide)))
  have cFld_r0_rawName_14 : Fld Z h14 r0 "com/example/libvalise/libvalise/ZipReader$Entry" "rawName" "[B" .null := cFld_r0_rawName_13.other W14 (Or.inr (slot_ne (Or.inr (hw _ (List.mem_of_getElem? (i := 28) rfl))) (Or.inr (hw _ (List.mem_of_getElem? (i := 48) rfl))) (by decide) (t := (.array .byte)) (t' := (.array .byte)) (by decide) (by decide)))
  have cFld_r0_method_14 : Fld Z h14 r0 "com/example/libvalise/libvalise/ZipReader$Entry" "method" "I" (.int (0 : Int32)) := cFld_r0_method_13.other W14 (Or.inr (slot_ne (Or.inr (hw _ (List.mem_of_getElem? (i := 30) rfl))) (Or.inr (hw _ (List.mem_of_getElem? (i := 48) rfl))) (by decide) (t := .int) (t' := (.array .byte)) (by decide) (by decide)))
  have cFld_r0_dosDateTime_14 : Fld Z h14 r0 "com/example/libvalise/libvalise/ZipReader$Entry" "dosDateTime" "I" (.int (0 : Int32)) := cFld_r0_dosDateTime_13.other W14 (Or.inr (slot_ne (Or.inr (hw _ (List.mem_of_getElem? (i := 32) rfl))) (Or.inr (hw _ (List.mem_of_getElem? (i := 48) rfl))) (by decide) (t := .int) (t' := (.array .byte)) (by decide) (by decide)))
  have cFld_r0_crc_14 : Fld Z h14 r0 "com/example/libvalise/libvalise/ZipReader$Entry" "crc" "J" (.long (0 : Int64)) := cFld_r0_crc_13.other W14 (Or.inr (slot_ne (Or.inr (hw _ (List.mem_of_getElem? (i := 34) rfl))) (Or.inr (hw _ (List.mem_of_getElem? (i := 48) rfl))) (by decide) (t := .long) (t' := (.array .byte)) (by decide) (by decide)))
  have cFld_r0_compressedSize_14 : Fld Z h14 r0 "com/example/libvalise/libvalise/ZipReader$Entry" "compressedSize" "J" (.long (0 : Int64)) := cFld_r0_compressedSize_13.other W14 (Or.inr (slot_ne (Or.inr (hw _ (List.mem_of_getElem? (i := 36) rfl))) (Or.inr (hw _ (List.mem_of_getElem? (i := 48) rfl))) (by decide) (t := .long) (t' := (.array .byte)) (by decide) (by decide)))
  have cFld_r0_size_14 : Fld Z h14 r0 "com/example/libvalise/libvalise/ZipReader$Entry" "size" "J" (.long (0 : Int64)) := cFld_r0_size_13.other W14 (Or.inr (slot_ne (Or.inr (hw _ (List.mem_of_getElem? (i := 38) rfl))) (Or.inr (hw _ (List.mem_of_getElem? (i := 48) rfl))) (by decide) (t := .long) (t' := (.array .byte)) (by decide) (by decide)))
  have cFld_r0_localHeaderOffset_14 : Fld Z h14 r0 "com/example/libvalise/libvalise/ZipReader$Entry" "localHeaderOffset" "J" (.long (0 : Int64)) := cFld_r0_localHeaderOffset_13.other W14 (Or.inr (slot_ne (Or.inr (hw _ (List.mem_of_getElem? (i := 40) rfl))) (Or.inr (hw _ (List.mem_of_getElem? (i := 48) rfl))) (by decide) (t := .long) (t' := (.array .byte)) (by decide) (by decide)))
  have cFld_r0_madeBy_14 : Fld Z h14 r0 "com/example/libvalise/libvalise/ZipReader$Entry" "madeBy" "I" (.int i10) := cFld_r0_madeBy_13.other W14 (Or.inr (slot_ne (Or.inr (hw _ (List.mem_of_getElem? (i := 42) rfl))) (Or.inr (hw _ (List.mem_of_getElem? (i := 48) rfl))) (by decide) (t := .int) (t' := (.array .byte)) (by decide) (by decide)))
  have cFld_r0_externalAttributes_14 : Fld Z h14 r0 "com/example/libvalise/libvalise/ZipReader$Entry" "externalAttributes" "I" (.int i11) := cFld_r0_externalAttributes_13.other W14 (Or.inr (slot_ne (Or.inr (hw _ (List.mem_of_getElem? (i := 44) rfl))) (Or.inr (hw _ (List.mem_of_getElem? (i := 48) rfl))) (by decide) (t := .int) (t' := (.array .byte)) (by decide) (by decide)))
  have cFld_r0_utf8Flag_14 : Fld Z h14 r0 "com/example/libvalise/libvalise/ZipReader$Entry" "utf8Flag" "Z" (.int (0 : Int32)) := Fw13.other W14 (Or.inr (slot_ne (Or.inr (hw _ (List.mem_of_getElem? (i := 46) rfl))) (Or.inr (hw _ (List.mem_of_getElem? (i := 48) rfl))) (by decide) (t := .boolean) (t' := (.array .byte)) (by decide) (by decide)))
  have cExa_r0_14 : Exa Z h14 r0 "com/example/libvalise/libvalise/ZipReader$Entry" := cExa_r0_13.wr W14
  have K14 : Keep h0 h14 [r0] := K13.wr W14 (Or.inl (List.mem_of_getElem? (i := 0) rfl))
  have N14 := Fr.snoc X14 N13 P14
  refine ownE.go (T' := T14) (f' := (mkF m 79 #[.val (.ref r0), .val (.ref r1), .val (.int (1 : Int32)), .val .null, .val (.int (0 : Int32)), .val (.int (0 : Int32)), .val (.long (0 : Int64)), .second, .val (.long (0 : Int64)), .second, .val (.long (0 : Int64)), .second, .val (.long (0 : Int64)), .second, .val (.int i10), .val (.int i11), .val (.int (0 : Int32)), .val .null] [])) st14 ?_
  refine ownE.retV X14 hx hlk hret (hb hby own_d1_79) ?_ (by decide) (by decide)
  show own_Q1 Z r0 r1 i10 i11 h0 n0 _ T14.heap _
  rw [e14]
  exact ⟨rfl, N14, K14, cExa_r0_14, cFld_r0_name_14, cFld_r0_madeBy_14, cFld_r0_externalAttributes_14⟩
theorem own_d4_0 : decode prog_18_method_6_code 0 = .ok (.aload_n 0, 1) := by decide +kernel
theorem own_d4_1 : decode prog_18_method_6_code 1 = .ok (.getfield 46, 3) := by decide +kernel
theorem own_d4_4 : decode prog_18_method_6_code 4 = .ok (.bipush 16, 2) := by decide +kernel
theorem own_d4_6 : decode prog_18_method_6_code 6 = .ok (.iushr, 1) := by decide +kernel
theorem own_d4_7 : decode prog_18_method_6_code 7 = .ok (.ldc 75, 2) := by decide +kernel
theorem own_d4_9 : decode prog_18_method_6_code 9 = .ok (.iand, 1) := by decide +kernel
theorem own_d4_10 : decode prog_18_method_6_code 10 = .ok (.ldc 76, 2) := by decide +kernel
theorem own_d4_12 : decode prog_18_method_6_code 12 = .ok (.if_icmp .ne 7, 3) := by decide +kernel
theorem own_d4_15 : decode prog_18_method_6_code 15 = .ok (.iconst 1, 1) := by decide +kernel
theorem own_d4_16 : decode prog_18_method_6_code 16 = .ok (.goto 4, 3) := by decide +kernel
theorem own_d4_19 : decode prog_18_method_6_code 19 = .ok (.iconst 0, 1) := by decide +kernel
theorem own_d4_20 : decode prog_18_method_6_code 20 = .ok (.ireturn, 1) := by decide +kernel
theorem own_ef4 (m : MethodId) (x0 : Addr) : entryFrame m #[(.ref x0)] 1 = mkF m 0 #[.val (.ref x0)] [] := by first | (simp [entryFrame, mkF, argsToLocals, Value.category]; done) | rfl
def own_f4 (mb : Int32) (xa : Int32) : Int32 :=
  if (((xa.toUInt32 >>> ((16 : Int32) &&& 31).toUInt32).toInt32) &&& (61440 : Int32)) = (40960 : Int32) then
    (1 : Int32)
  else
    (0 : Int32)
def own_Q4 (Z : State) (r0 : Addr) (mb : Int32) (xa : Int32) (h0 : Heap) (n0 : Nat) (v : Option Value) (h : Heap) (L : List Loc) : Prop := v = some (.int (own_f4 mb xa)) ∧ Fr n0 L ∧ h = h0
set_option maxRecDepth 65536 in
set_option maxHeartbeats 40000000 in
theorem own_rm4 (l : Launch) (Z : State) (a0 : Array Value) (hw : ∀ d ∈ tables_1, d.before a0 Z = true) (ws : List Jvm.Cond) (r0 : Addr) (mb : Int32) (xa : Int32) (h0 : Heap) (n0 : Nat) (Z0 : n0 ≤ h0.size) (P0 : Fld Z h0 r0 "com/example/libvalise/libvalise/ZipReader$Entry" "madeBy" "I" (.int mb)) (P1 : Fld Z h0 r0 "com/example/libvalise/libvalise/ZipReader$Entry" "externalAttributes" "I" (.int xa)) :
    MetFree l (⟨"com/example/libvalise/libvalise/ZipReader$Entry", "isSymbolicLink", "()Z"⟩ : MethodName) (head1 (Jvm.Cond.code (⟨"com/example/libvalise/libvalise/ZipReader$Entry", "isSymbolicLink", "()Z"⟩ : MethodName) prog_18_method_6_code 1 (some .boolean) :: ws) ({ frames := 0, cells := 0, slots := 0, locals := 0 } : Room)) (fun a U => a = #[(.ref r0)] ∧ Z.Warmed39 U.vm ∧ U.heap = h0) (fun _ _ _ _ _ => True) (fun _ U o U' => ∃ v L, o = .returned v ∧ own_Q4 Z r0 mb xa h0 n0 v U'.heap L ∧ FrameEnd U o U' L ({ frames := 0, cells := 0, slots := 0, locals := 0 } : Room).cells ({ frames := 0, cells := 0, slots := 0, locals := 0 } : Room).slots) := by
  refine MetFree.of_bodySF (plainFor_of_name own_pn2) hisR ?_
  intro p e s m args below meth c s₁ Bd hml0 hP hK
  obtain ⟨rfl, hZ, hh⟩ := hP
  have hx := Bd.exec
  have hby := Bd.bytes
  have hret := Bd.returns
  have hlk := BodyLoose.notSynchronized Bd
  have hml : c.maxLocals = 1 := hml0
  have hown : s.vm.findClass "com/example/libvalise/libvalise/ZipReader$Entry" = some m.cls := findClass_of_methodNamed Bd.named
  have hnm := (name_of_methodNamed Bd.named Bd.method).1
  have X0 : Stand p l e ({ frames := 0, cells := 0, slots := 0, locals := 0 } : Room) s m #[(.ref r0)] below meth c s₁ [] 0 0 := Stand.of_body Bd
  have e0 : s₁.heap = h0 := by rw [← hh, Bd.state]; rfl
  have N0 := Fr.nil n0
  have K0 : Keep h0 h0 [] := Keep.refl h0 _
  show ownE p e below s (own_Q4 Z r0 mb xa h0 n0) ({ frames := 0, cells := 0, slots := 0, locals := 0 } : Room).cells ({ frames := 0, cells := 0, slots := 0, locals := 0 } : Room).slots s₁ (entryFrame m #[(.ref r0)] 1)
  rw [own_ef4]
  refine ownE.go (T' := s₁) (f' := (mkF m 1 #[.val (.ref r0)] [(.ref r0)])) (fun t kt => ?_) ?_
  · show Steps p.tables e below (s₁.setTop (mkF m 0 #[.val (.ref r0)] [])) _
    refine XS.aloadN X0.here hx rfl (hb hby own_d4_0) rfl rfl ?_
    exact kt
  obtain ⟨T1, X1, e1, st1⟩ := getF X0 hx hZ hown (host := "") (Or.inl (hw _ (List.mem_of_getElem? (i := 43) rfl))) Via.refl e0 P1 (g := (mkF m 1 #[.val (.ref r0)] [(.ref r0)])) rfl rfl (hb hby own_d4_1)
  refine ownE.go (T' := T1) (f' := (mkF m 4 #[.val (.ref r0)] [(.int xa)])) st1 ?_
  refine ownE.go (T' := T1) (f' := (mkF m 12 #[.val (.ref r0)] [(.int (40960 : Int32)), (.int (((xa.toUInt32 >>> ((16 : Int32) &&& 31).toUInt32).toInt32) &&& (61440 : Int32)))])) (fun t kt => ?_) ?_
  · show Steps p.tables e below (T1.setTop (mkF m 4 #[.val (.ref r0)] [(.int xa)])) _
    refine XS.bipush X1.here hx rfl (hb hby own_d4_4) ?_
    show Steps p.tables e below (T1.setTop (mkF m 6 #[.val (.ref r0)] [(.int (16 : Int32)), (.int xa)])) _
    refine XS.iushr X1.here hx rfl (hb hby own_d4_6) rfl ?_
    show Steps p.tables e below (T1.setTop (mkF m 7 #[.val (.ref r0)] [(.int ((xa.toUInt32 >>> ((16 : Int32) &&& 31).toUInt32).toInt32))])) _
    refine X1.ldcInt hx hown (mvT hZ (hw _ (List.mem_of_getElem? (i := 54) rfl))) (g := (mkF m 7 #[.val (.ref r0)] [(.int ((xa.toUInt32 >>> ((16 : Int32) &&& 31).toUInt32).toInt32))])) rfl (hb hby own_d4_7) _ ?_
    show Steps p.tables e below (T1.setTop (mkF m 9 #[.val (.ref r0)] [(.int (61440 : Int32)), (.int ((xa.toUInt32 >>> ((16 : Int32) &&& 31).toUInt32).toInt32))])) _
    refine XS.iand X1.here hx rfl (hb hby own_d4_9) rfl ?_
    show Steps p.tables e below (T1.setTop (mkF m 10 #[.val (.ref r0)] [(.int (((xa.toUInt32 >>> ((16 : Int32) &&& 31).toUInt32).toInt32) &&& (61440 : Int32)))])) _
    refine X1.ldcInt hx hown (mvT hZ (hw _ (List.mem_of_getElem? (i := 55) rfl))) (g := (mkF m 10 #[.val (.ref r0)] [(.int (((xa.toUInt32 >>> ((16 : Int32) &&& 31).toUInt32).toInt32) &&& (61440 : Int32)))])) rfl (hb hby own_d4_10) _ ?_
    exact kt
  by_cases hc2 : (((xa.toUInt32 >>> ((16 : Int32) &&& 31).toUInt32).toInt32) &&& (61440 : Int32)) = (40960 : Int32)
  · -- pc 12
    refine ownE.go (T' := T1) (f' := (mkF m 15 #[.val (.ref r0)] [])) (fun t kt => XS.icmpNo (g := (mkF m 12 #[.val (.ref r0)] [(.int (40960 : Int32)), (.int (((xa.toUInt32 >>> ((16 : Int32) &&& 31).toUInt32).toInt32) &&& (61440 : Int32)))])) X1.here hx rfl (hb hby own_d4_12) rfl (Jvm.Free.XT.ii_ne_f hc2) kt) ?_
    refine ownE.go (T' := T1) (f' := (mkF m 20 #[.val (.ref r0)] [(.int (1 : Int32))])) (fun t kt => ?_) ?_
    · show Steps p.tables e below (T1.setTop (mkF m 15 #[.val (.ref r0)] [])) _
      refine XS.iconst X1.here hx rfl (hb hby own_d4_15) ?_
      show Steps p.tables e below (T1.setTop (mkF m 16 #[.val (.ref r0)] [(.int (1 : Int32))])) _
      refine XS.goto X1.here hx rfl (pc0 := 16) (pc' := 20) rfl (hb hby own_d4_16) (by decide) (by decide) ?_
      exact kt
    refine ownE.retN X1 hx hlk (t := .boolean) hret (by simp) (hb hby own_d4_20) ?_ (by decide) (by decide)
    show own_Q4 Z r0 mb xa h0 n0 _ T1.heap _
    rw [e1]
    exact ⟨(by rw [own_f4, if_pos hc2] <;> first | rfl | decide), N0, rfl⟩
  · -- pc 12
    refine ownE.go (T' := T1) (f' := (mkF m 19 #[.val (.ref r0)] [])) (fun t kt => XS.icmpYes (g := (mkF m 12 #[.val (.ref r0)] [(.int (40960 : Int32)), (.int (((xa.toUInt32 >>> ((16 : Int32) &&& 31).toUInt32).toInt32) &&& (61440 : Int32)))])) X1.here hx rfl (pc0 := 12) (pc' := 19) rfl (hb hby own_d4_12) rfl (Jvm.Free.XT.ii_ne_t hc2) (by decide) (by decide) kt) ?_
    refine ownE.go (T' := T1) (f' := (mkF m 20 #[.val (.ref r0)] [(.int (0 : Int32))])) (fun t kt => ?_) ?_
    · show Steps p.tables e below (T1.setTop (mkF m 19 #[.val (.ref r0)] [])) _
      refine XS.iconst X1.here hx rfl (hb hby own_d4_19) ?_
      exact kt
    refine ownE.retN X1 hx hlk (t := .boolean) hret (by simp) (hb hby own_d4_20) ?_ (by decide) (by decide)
    show own_Q4 Z r0 mb xa h0 n0 _ T1.heap _
    rw [e1]
    exact ⟨(by rw [own_f4, if_neg hc2] <;> first | rfl | decide), N0, rfl⟩
def own_j0_22_L3 (i0 : Int32) (i1 : Int32) (i2 : Int32) : Int32 :=
  if (i1 &&& (16 : Int32)) = (0 : Int32) then
    (((i1 &&& (15 : Int32)) <<< ((28 : Int32) &&& 31)) ||| (i0 &&& (268435455 : Int32)))
  else
    i0
theorem own_strAtoms {Z : State} {a0 : Array Value} (hw : ∀ d ∈ tables_1, d.before a0 Z = true) : ∀ a ∈ Bundle.stringAtoms, a.before a0 Z = true := by
  intro d hd
  simp only [Bundle.stringAtoms, List.mem_cons, List.not_mem_nil, or_false] at hd
  rcases hd with rfl | rfl | rfl | rfl | rfl | rfl | rfl
  · exact (hw _ (List.mem_of_getElem? (i := 5) rfl))
  · exact (hw _ (List.mem_of_getElem? (i := 6) rfl))
  · exact (hw _ (List.mem_of_getElem? (i := 7) rfl))
  · exact (hw _ (List.mem_of_getElem? (i := 8) rfl))
  · exact (hw _ (List.mem_of_getElem? (i := 9) rfl))
  · exact (hw _ (List.mem_of_getElem? (i := 10) rfl))
  · exact (hw _ (List.mem_of_getElem? (i := 11) rfl))
theorem own_pd3 : parseMethodDescriptor "(Ljava/lang/String;Z[BIIJJJJIIZ[B)V" = some ⟨[(.object "java/lang/String"), .boolean, (.array .byte), .int, .int, .long, .long, .long, .long, .int, .int, .boolean, (.array .byte)], none⟩ := by decide +kernel
def own_j0_59_S0 (i0 : Int32) (i1 : Int32) (i2 : Int32) : Int32 :=
  if (((own_j0_22_L3 i0 i1 i2).toUInt32 >>> ((28 : Int32) &&& 31).toUInt32).toInt32) = (10 : Int32) then
    (1 : Int32)
  else
    (0 : Int32)
theorem own_pd4 : parseMethodDescriptor "()Z" = some ⟨[], some .boolean⟩ := by decide +kernel
theorem own_pn5 : plainName "com/example/libvalise/libvalise/EntryIsSymbolicLinkPinLaw" = true := by first | (simp [plainName, overriddenIn]; done) | decide +kernel
theorem own_ef0 (m : MethodId) (x0 : Int32) (x1 : Int32) (x2 : Int32) : entryFrame m #[(.int x0), (.int x1), (.int x2)] maxLocals = mkF m 0 #[.val (.int x0), .val (.int x1), .val (.int x2), .unset, .unset, .unset] [] := by first | (simp [entryFrame, mkF, argsToLocals, Value.category, maxLocals]; done) | rfl
def own_f0 (i0 : Int32) (i1 : Int32) (i2 : Int32) : Int32 :=
  if (own_f4 i2 (own_j0_22_L3 i0 i1 i2)) = (own_j0_59_S0 i0 i1 i2) then
    (1 : Int32)
  else
    (0 : Int32)
def own_Q0 (Z : State) (i0 : Int32) (i1 : Int32) (i2 : Int32) (h0 : Heap) (n0 : Nat) (v : Option Value) (h : Heap) (L : List Loc) : Prop := v = some (.int (own_f0 i0 i1 i2)) ∧ Fr n0 L ∧ Keep h0 h []
set_option maxRecDepth 65536 in
set_option maxHeartbeats 40000000 in
theorem own_rm0 (l : Launch) (Z : State) (a0 : Array Value) (hw : ∀ d ∈ tables_1, d.before a0 Z = true) (ws : List Jvm.Cond) (i0 : Int32) (i1 : Int32) (i2 : Int32) (h0 : Heap) (n0 : Nat) (Z0 : n0 ≤ h0.size) :
    MetFree l x (head1 (Jvm.Cond.code x code maxLocals ret :: ws) room_1) (fun a U => a = #[(.int i0), (.int i1), (.int i2)] ∧ Z.Warmed39 U.vm ∧ U.heap = h0) (fun _ _ _ _ _ => True) (fun _ U o U' => ∃ v L, o = .returned v ∧ own_Q0 Z i0 i1 i2 h0 n0 v U'.heap L ∧ ReturnedEndW U o U' L 3 21) := by
  refine MetFree.of_bodySF (plainFor_of_name own_pn5) hisR ?_
  intro p e s m args below meth c s₁ Bd hml0 hP hK
  obtain ⟨rfl, hZ, hh⟩ := hP
  have hx := Bd.exec
  have hby := Bd.bytes
  have hret := Bd.returns
  have hlk := BodyLoose.notSynchronized Bd
  have hml : c.maxLocals = 6 := hml0
  have hown : s.vm.findClass "com/example/libvalise/libvalise/EntryIsSymbolicLinkPinLaw" = some m.cls := findClass_of_methodNamed Bd.named
  have hnm := (name_of_methodNamed Bd.named Bd.method).1
  have X0 : Stand p l e room_1 s m #[(.int i0), (.int i1), (.int i2)] below meth c s₁ [] 0 0 := Stand.of_body Bd
  have e0 : s₁.heap = h0 := by rw [← hh, Bd.state]; rfl
  have N0 := Fr.nil n0
  have K0 : Keep h0 h0 [] := Keep.refl h0 _
  show ownW p e below s (own_Q0 Z i0 i1 i2 h0 n0) 3 21 s₁ (entryFrame m #[(.int i0), (.int i1), (.int i2)] maxLocals)
  rw [own_ef0]
  have X0 : Stand p l e room_1 (s.setVm s.vm) m #[(.int i0), (.int i1), (.int i2)] below meth c s₁ [] 0 0 := X0
  have hZ : Z.Warmed39 (s.setVm s.vm).vm := hZ
  have hown : (s.setVm s.vm).vm.findClass "com/example/libvalise/libvalise/EntryIsSymbolicLinkPinLaw" = some m.cls := hown
  have hS0 : s.Since s.vm 0 := State.WarmedH.since (State.WarmedH.refl s) 0
  have hk0 : 0 ≤ h0.size := Nat.zero_le _
  refine ownW.go (T' := s₁) (f' := (mkF m 2 #[.val (.int i0), .val (.int i1), .val (.int i2), .val (.int i0), .unset, .unset] [])) (fun t kt => ?_) ?_
  · show Steps p.tables e below (s₁.setTop (mkF m 0 #[.val (.int i0), .val (.int i1), .val (.int i2), .unset, .unset, .unset] [])) _
    refine XS.iloadN X0.here hx rfl (hb hby at_0) rfl ?_
    show Steps p.tables e below (s₁.setTop (mkF m 1 #[.val (.int i0), .val (.int i1), .val (.int i2), .unset, .unset, .unset] [(.int i0)])) _
    refine XS.istoreN X0.here hx rfl (hb hby at_1) rfl (l' := #[.val (.int i0), .val (.int i1), .val (.int i2), .val (.int i0), .unset, .unset]) rfl ?_
    exact kt
  have J3 : ∀ (TJ3 : State) (locsJ3 : List Loc), Stand p l e room_1 (s.setVm s.vm) m #[(.int i0), (.int i1), (.int i2)] below meth c TJ3 locsJ3 0 0 → TJ3.heap = h0 → Fr n0 locsJ3 → ownW p e below s (own_Q0 Z i0 i1 i2 h0 n0) 3 21 TJ3 (mkF m 22 #[.val (.int i0), .val (.int i1), .val (.int i2), .val (.int (own_j0_22_L3 i0 i1 i2)), .unset, .unset] []) := by
    intro TJ3 locsJ3 XJ3 eJ3 NJ3
    obtain ⟨T4, h4, X4, e4, E4, A4, D4, -, st4⟩ := newO XJ3 hx hZ hown (hw _ (List.mem_of_getElem? (i := 1) rfl)) (hw _ (List.mem_of_getElem? (i := 2) rfl)) (hw _ (List.mem_of_getElem? (i := 3) rfl)) eJ3 (g := (mkF m 22 #[.val (.int i0), .val (.int i1), .val (.int i2), .val (.int (own_j0_22_L3 i0 i1 i2)), .unset, .unset] [])) rfl (hb hby at_22) (by decide) (by decide)
    obtain ⟨b4, g4⟩ : ∃ z, z = h0.size := ⟨_, rfl⟩
    rw [← g4] at A4 D4 st4
    have sz_b4 : h0.size ≤ b4 := Nat.le_trans K0.1 (Nat.le_of_eq g4.symm)
    have ge_b4 : n0 ≤ b4 := Nat.le_trans Z0 sz_b4
    have D4_name : Fld Z h4 b4 "com/example/libvalise/libvalise/ZipReader$Entry" "name" "Ljava/lang/String;" .null := D4 (Or.inr (hw _ (List.mem_of_getElem? (i := 24) rfl))) (ty := (.object "java/lang/String")) (by decide)
    have D4_utf8Name : Fld Z h4 b4 "com/example/libvalise/libvalise/ZipReader$Entry" "utf8Name" "Z" (.int (0 : Int32)) := D4 (Or.inr (hw _ (List.mem_of_getElem? (i := 26) rfl))) (ty := .boolean) (by decide)
    have D4_rawName : Fld Z h4 b4 "com/example/libvalise/libvalise/ZipReader$Entry" "rawName" "[B" .null := D4 (Or.inr (hw _ (List.mem_of_getElem? (i := 28) rfl))) (ty := (.array .byte)) (by decide)
    have D4_method : Fld Z h4 b4 "com/example/libvalise/libvalise/ZipReader$Entry" "method" "I" (.int (0 : Int32)) := D4 (Or.inr (hw _ (List.mem_of_getElem? (i := 30) rfl))) (ty := .int) (by decide)
    have D4_dosDateTime : Fld Z h4 b4 "com/example/libvalise/libvalise/ZipReader$Entry" "dosDateTime" "I" (.int (0 : Int32)) := D4 (Or.inr (hw _ (List.mem_of_getElem? (i := 32) rfl))) (ty := .int) (by decide)
    have D4_crc : Fld Z h4 b4 "com/example/libvalise/libvalise/ZipReader$Entry" "crc" "J" (.long (0 : Int64)) := D4 (Or.inr (hw _ (List.mem_of_getElem? (i := 34) rfl))) (ty := .long) (by decide)
    have D4_compressedSize : Fld Z h4 b4 "com/example/libvalise/libvalise/ZipReader$Entry" "compressedSize" "J" (.long (0 : Int64)) := D4 (Or.inr (hw _ (List.mem_of_getElem? (i := 36) rfl))) (ty := .long) (by decide)
    have D4_size : Fld Z h4 b4 "com/example/libvalise/libvalise/ZipReader$Entry" "size" "J" (.long (0 : Int64)) := D4 (Or.inr (hw _ (List.mem_of_getElem? (i := 38) rfl))) (ty := .long) (by decide)
    have D4_localHeaderOffset : Fld Z h4 b4 "com/example/libvalise/libvalise/ZipReader$Entry" "localHeaderOffset" "J" (.long (0 : Int64)) := D4 (Or.inr (hw _ (List.mem_of_getElem? (i := 40) rfl))) (ty := .long) (by decide)
    have D4_madeBy : Fld Z h4 b4 "com/example/libvalise/libvalise/ZipReader$Entry" "madeBy" "I" (.int (0 : Int32)) := D4 (Or.inr (hw _ (List.mem_of_getElem? (i := 42) rfl))) (ty := .int) (by decide)
    have D4_externalAttributes : Fld Z h4 b4 "com/example/libvalise/libvalise/ZipReader$Entry" "externalAttributes" "I" (.int (0 : Int32)) := D4 (Or.inr (hw _ (List.mem_of_getElem? (i := 44) rfl))) (ty := .int) (by decide)
    have D4_utf8Flag : Fld Z h4 b4 "com/example/libvalise/libvalise/ZipReader$Entry" "utf8Flag" "Z" (.int (0 : Int32)) := D4 (Or.inr (hw _ (List.mem_of_getElem? (i := 46) rfl))) (ty := .boolean) (by decide)
    have D4_comment : Fld Z h4 b4 "com/example/libvalise/libvalise/ZipReader$Entry" "comment" "[B" .null := D4 (Or.inr (hw _ (List.mem_of_getElem? (i := 48) rfl))) (ty := (.array .byte)) (by decide)
    have K4 : Keep h0 h4 [] := K0.ext E4
    have hk4 := Nat.le_trans hk0 E4.1
    refine ownW.go (T' := T4) (f' := (mkF m 25 #[.val (.int i0), .val (.int i1), .val (.int i2), .val (.int (own_j0_22_L3 i0 i1 i2)), .unset, .unset] [(.ref b4)])) st4 ?_
    refine ownW.go (T' := T4) (f' := (mkF m 26 #[.val (.int i0), .val (.int i1), .val (.int i2), .val (.int (own_j0_22_L3 i0 i1 i2)), .unset, .unset] [(.ref b4), (.ref b4)])) (fun t kt => ?_) ?_
    · show Steps p.tables e below (T4.setTop (mkF m 25 #[.val (.int i0), .val (.int i1), .val (.int i2), .val (.int (own_j0_22_L3 i0 i1 i2)), .unset, .unset] [(.ref b4)])) _
      refine XS.dup X4.here hx rfl (hb hby at_25) rfl rfl ?_
      exact kt
    obtain ⟨c5, T5, h5, k5, X5, e5, E5, hS5, hk5, hZ, hown, st5⟩ := ldcS X4 hx hZ hown (hw _ (List.mem_of_getElem? (i := 4) rfl)) (own_strAtoms hw) e4 hS0 hk4 (g := (mkF m 26 #[.val (.int i0), .val (.int i1), .val (.int i2), .val (.int (own_j0_22_L3 i0 i1 i2)), .unset, .unset] [(.ref b4), (.ref b4)])) rfl (hb hby at_26) (n := 4) (by decide) (by decide) (by decide) (by decide)
    have cExa_b4_5 : Exa Z h5 b4 "com/example/libvalise/libvalise/ZipReader$Entry" := A4.ext E5
    have cFld_b4_name_5 : Fld Z h5 b4 "com/example/libvalise/libvalise/ZipReader$Entry" "name" "Ljava/lang/String;" .null := D4_name.ext E5
    have cFld_b4_utf8Name_5 : Fld Z h5 b4 "com/example/libvalise/libvalise/ZipReader$Entry" "utf8Name" "Z" (.int (0 : Int32)) := D4_utf8Name.ext E5
    have cFld_b4_rawName_5 : Fld Z h5 b4 "com/example/libvalise/libvalise/ZipReader$Entry" "rawName" "[B" .null := D4_rawName.ext E5
    have cFld_b4_method_5 : Fld Z h5 b4 "com/example/libvalise/libvalise/ZipReader$Entry" "method" "I" (.int (0 : Int32)) := D4_method.ext E5
    have cFld_b4_dosDateTime_5 : Fld Z h5 b4 "com/example/libvalise/libvalise/ZipReader$Entry" "dosDateTime" "I" (.int (0 : Int32)) := D4_dosDateTime.ext E5
    have cFld_b4_crc_5 : Fld Z h5 b4 "com/example/libvalise/libvalise/ZipReader$Entry" "crc" "J" (.long (0 : Int64)) := D4_crc.ext E5
    have cFld_b4_compressedSize_5 : Fld Z h5 b4 "com/example/libvalise/libvalise/ZipReader$Entry" "compressedSize" "J" (.long (0 : Int64)) := D4_compressedSize.ext E5
    have cFld_b4_size_5 : Fld Z h5 b4 "com/example/libvalise/libvalise/ZipReader$Entry" "size" "J" (.long (0 : Int64)) := D4_size.ext E5
    have cFld_b4_localHeaderOffset_5 : Fld Z h5 b4 "com/example/libvalise/libvalise/ZipReader$Entry" "localHeaderOffset" "J" (.long (0 : Int64)) := D4_localHeaderOffset.ext E5
    have cFld_b4_madeBy_5 : Fld Z h5 b4 "com/example/libvalise/libvalise/ZipReader$Entry" "madeBy" "I" (.int (0 : Int32)) := D4_madeBy.ext E5
    have cFld_b4_externalAttributes_5 : Fld Z h5 b4 "com/example/libvalise/libvalise/ZipReader$Entry" "externalAttributes" "I" (.int (0 : Int32)) := D4_externalAttributes.ext E5
    have cFld_b4_utf8Flag_5 : Fld Z h5 b4 "com/example/libvalise/libvalise/ZipReader$Entry" "utf8Flag" "Z" (.int (0 : Int32)) := D4_utf8Flag.ext E5
    have cFld_b4_comment_5 : Fld Z h5 b4 "com/example/libvalise/libvalise/ZipReader$Entry" "comment" "[B" .null := D4_comment.ext E5
    have K5 : Keep h0 h5 [] := K4.ext E5
    refine ownW.go (T' := T5) (f' := (mkF m 28 #[.val (.int i0), .val (.int i1), .val (.int i2), .val (.int (own_j0_22_L3 i0 i1 i2)), .unset, .unset] [(.ref c5), (.ref b4), (.ref b4)])) st5 ?_
    refine ownW.go (T' := T5) (f' := (mkF m 40 #[.val (.int i0), .val (.int i1), .val (.int i2), .val (.int (own_j0_22_L3 i0 i1 i2)), .unset, .unset] [.null, (.int (0 : Int32)), (.int (own_j0_22_L3 i0 i1 i2)), (.int i2), (.long (0 : Int64)), (.long (0 : Int64)), (.long (0 : Int64)), (.long (0 : Int64)), (.int (0 : Int32)), (.int (0 : Int32)), .null, (.int (1 : Int32)), (.ref c5), (.ref b4), (.ref b4)])) (fun t kt => ?_) ?_
    · show Steps p.tables e below (T5.setTop (mkF m 28 #[.val (.int i0), .val (.int i1), .val (.int i2), .val (.int (own_j0_22_L3 i0 i1 i2)), .unset, .unset] [(.ref c5), (.ref b4), (.ref b4)])) _
      refine XS.iconst X5.here hx rfl (hb hby at_28) ?_
      show Steps p.tables e below (T5.setTop (mkF m 29 #[.val (.int i0), .val (.int i1), .val (.int i2), .val (.int (own_j0_22_L3 i0 i1 i2)), .unset, .unset] [(.int (1 : Int32)), (.ref c5), (.ref b4), (.ref b4)])) _
      refine XS.aconstNull X5.here hx rfl (hb hby at_29) ?_
      show Steps p.tables e below (T5.setTop (mkF m 30 #[.val (.int i0), .val (.int i1), .val (.int i2), .val (.int (own_j0_22_L3 i0 i1 i2)), .unset, .unset] [.null, (.int (1 : Int32)), (.ref c5), (.ref b4), (.ref b4)])) _
      refine XS.iconst X5.here hx rfl (hb hby at_30) ?_
      show Steps p.tables e below (T5.setTop (mkF m 31 #[.val (.int i0), .val (.int i1), .val (.int i2), .val (.int (own_j0_22_L3 i0 i1 i2)), .unset, .unset] [(.int (0 : Int32)), .null, (.int (1 : Int32)), (.ref c5), (.ref b4), (.ref b4)])) _
      refine XS.iconst X5.here hx rfl (hb hby at_31) ?_
      show Steps p.tables e below (T5.setTop (mkF m 32 #[.val (.int i0), .val (.int i1), .val (.int i2), .val (.int (own_j0_22_L3 i0 i1 i2)), .unset, .unset] [(.int (0 : Int32)), (.int (0 : Int32)), .null, (.int (1 : Int32)), (.ref c5), (.ref b4), (.ref b4)])) _
      refine XS.lconst X5.here hx rfl (hb hby at_32) ?_
      show Steps p.tables e below (T5.setTop (mkF m 33 #[.val (.int i0), .val (.int i1), .val (.int i2), .val (.int (own_j0_22_L3 i0 i1 i2)), .unset, .unset] [(.long (0 : Int64)), (.int (0 : Int32)), (.int (0 : Int32)), .null, (.int (1 : Int32)), (.ref c5), (.ref b4), (.ref b4)])) _
      refine XS.lconst X5.here hx rfl (hb hby at_33) ?_
      show Steps p.tables e below (T5.setTop (mkF m 34 #[.val (.int i0), .val (.int i1), .val (.int i2), .val (.int (own_j0_22_L3 i0 i1 i2)), .unset, .unset] [(.long (0 : Int64)), (.long (0 : Int64)), (.int (0 : Int32)), (.int (0 : Int32)), .null, (.int (1 : Int32)), (.ref c5), (.ref b4), (.ref b4)])) _
      refine XS.lconst X5.here hx rfl (hb hby at_34) ?_
      show Steps p.tables e below (T5.setTop (mkF m 35 #[.val (.int i0), .val (.int i1), .val (.int i2), .val (.int (own_j0_22_L3 i0 i1 i2)), .unset, .unset] [(.long (0 : Int64)), (.long (0 : Int64)), (.long (0 : Int64)), (.int (0 : Int32)), (.int (0 : Int32)), .null, (.int (1 : Int32)), (.ref c5), (.ref b4), (.ref b4)])) _
      refine XS.lconst X5.here hx rfl (hb hby at_35) ?_
      show Steps p.tables e below (T5.setTop (mkF m 36 #[.val (.int i0), .val (.int i1), .val (.int i2), .val (.int (own_j0_22_L3 i0 i1 i2)), .unset, .unset] [(.long (0 : Int64)), (.long (0 : Int64)), (.long (0 : Int64)), (.long (0 : Int64)), (.int (0 : Int32)), (.int (0 : Int32)), .null, (.int (1 : Int32)), (.ref c5), (.ref b4), (.ref b4)])) _
      refine XS.iloadN X5.here hx rfl (hb hby at_36) rfl ?_
      show Steps p.tables e below (T5.setTop (mkF m 37 #[.val (.int i0), .val (.int i1), .val (.int i2), .val (.int (own_j0_22_L3 i0 i1 i2)), .unset, .unset] [(.int i2), (.long (0 : Int64)), (.long (0 : Int64)), (.long (0 : Int64)), (.long (0 : Int64)), (.int (0 : Int32)), (.int (0 : Int32)), .null, (.int (1 : Int32)), (.ref c5), (.ref b4), (.ref b4)])) _
      refine XS.iloadN X5.here hx rfl (hb hby at_37) rfl ?_
      show Steps p.tables e below (T5.setTop (mkF m 38 #[.val (.int i0), .val (.int i1), .val (.int i2), .val (.int (own_j0_22_L3 i0 i1 i2)), .unset, .unset] [(.int (own_j0_22_L3 i0 i1 i2)), (.int i2), (.long (0 : Int64)), (.long (0 : Int64)), (.long (0 : Int64)), (.long (0 : Int64)), (.int (0 : Int32)), (.int (0 : Int32)), .null, (.int (1 : Int32)), (.ref c5), (.ref b4), (.ref b4)])) _
      refine XS.iconst X5.here hx rfl (hb hby at_38) ?_
      show Steps p.tables e below (T5.setTop (mkF m 39 #[.val (.int i0), .val (.int i1), .val (.int i2), .val (.int (own_j0_22_L3 i0 i1 i2)), .unset, .unset] [(.int (0 : Int32)), (.int (own_j0_22_L3 i0 i1 i2)), (.int i2), (.long (0 : Int64)), (.long (0 : Int64)), (.long (0 : Int64)), (.long (0 : Int64)), (.int (0 : Int32)), (.int (0 : Int32)), .null, (.int (1 : Int32)), (.ref c5), (.ref b4), (.ref b4)])) _
      refine XS.aconstNull X5.here hx rfl (hb hby at_39) ?_
      exact kt
    obtain ⟨_, _, ⟨T6, L6, k6, n6⟩, -, X6, ⟨Lc6, hQ6, l6, y6, z6⟩, st6⟩ := X5.specialBack hx (y := (⟨"com/example/libvalise/libvalise/ZipReader$Entry", "<init>", "(Ljava/lang/String;Z[BIIJJJJIIZ[B)V"⟩ : MethodName)) rfl hown (mvT hZ (hw _ (List.mem_of_getElem? (i := 12) rfl))) (mvT hZ (hw _ (List.mem_of_getElem? (i := 13) rfl))) (mvT hZ (hw _ (List.mem_of_getElem? (i := 14) rfl))) (by decide) (backOf (W := 1) (own_rm1 l Z a0 hw [] b4 c5 i2 (own_j0_22_L3 i0 i1 i2) h5 n0 (Nat.le_trans Z0 K5.1) cFld_b4_name_5 cFld_b4_utf8Name_5 cFld_b4_rawName_5 cFld_b4_method_5 cFld_b4_dosDateTime_5 cFld_b4_crc_5 cFld_b4_compressedSize_5 cFld_b4_size_5 cFld_b4_localHeaderOffset_5 cFld_b4_madeBy_5 cFld_b4_externalAttributes_5 cFld_b4_utf8Flag_5 cFld_b4_comment_5 cExa_b4_5 ge_b4) hZ (hw _ (List.mem_of_getElem? (i := 14) rfl)) (hw _ (List.mem_of_getElem? (i := 3) rfl)) (by decide) (by decide)) (g := (mkF m 40 #[.val (.int i0), .val (.int i1), .val (.int i2), .val (.int (own_j0_22_L3 i0 i1 i2)), .unset, .unset] [.null, (.int (0 : Int32)), (.int (own_j0_22_L3 i0 i1 i2)), (.int i2), (.long (0 : Int64)), (.long (0 : Int64)), (.long (0 : Int64)), (.long (0 : Int64)), (.int (0 : Int32)), (.int (0 : Int32)), .null, (.int (1 : Int32)), (.ref c5), (.ref b4), (.ref b4)])) rfl (by rw [hml]; rfl) (Steps.refl _) (a := b4) (argsL := [(.ref c5), (.int (1 : Int32)), .null, (.int (0 : Int32)), (.int (0 : Int32)), (.long (0 : Int64)), (.long (0 : Int64)), (.long (0 : Int64)), (.long (0 : Int64)), (.int i2), (.int (own_j0_22_L3 i0 i1 i2)), (.int (0 : Int32)), .null]) (rest := [(.ref b4)]) (lenOf own_pd3 rfl) rfl (by show 2 * 0 + _ ≤ _; exact Nat.le_of_eq rfl) (hb hby at_40) (fun _ _ => ⟨rfl, e5, (by decide : 3 + 0 ≤ _), (by decide : 21 + 0 ≤ _)⟩)
    dsimp only [Pt.U, Pt.locs, Pt.cells, Pt.slots] at X6 l6 y6 z6 st6 hQ6
    subst l6 y6 z6
    obtain ⟨rfl, N6q, K6q, f6_0, f6_1, f6_2, f6_3⟩ := hQ6
    have hk6 := Nat.le_trans hk5 K6q.1
    have cExa_b4_6 : Exa Z T6.heap b4 "com/example/libvalise/libvalise/ZipReader$Entry" := cExa_b4_5.keep K6q
    have K6 : Keep h0 T6.heap [] := K5.trans K6q (allS (Or.inr sz_b4) all0)
    have N6 := Fr.app NJ3 N6q
    refine ownW.goS (T' := T6) (f' := (mkF m 43 #[.val (.int i0), .val (.int i1), .val (.int i2), .val (.int (own_j0_22_L3 i0 i1 i2)), .unset, .unset] [(.ref b4)])) st6 ?_
    refine ownW.go (T' := T6) (f' := (mkF m 45 #[.val (.int i0), .val (.int i1), .val (.int i2), .val (.int (own_j0_22_L3 i0 i1 i2)), .val (.ref b4), .unset] [])) (fun t kt => ?_) ?_
    · show Steps p.tables e below (T6.setTop (mkF m 43 #[.val (.int i0), .val (.int i1), .val (.int i2), .val (.int (own_j0_22_L3 i0 i1 i2)), .unset, .unset] [(.ref b4)])) _
      refine XS.astore X6.here hx rfl (hb hby at_43) rfl rfl (l' := #[.val (.int i0), .val (.int i1), .val (.int i2), .val (.int (own_j0_22_L3 i0 i1 i2)), .val (.ref b4), .unset]) rfl ?_
      exact kt
    have J9 : ∀ (TJ9 : State) (locsJ9 : List Loc), Stand p l e room_1 (s.setVm T5.vm) m #[(.int i0), (.int i1), (.int i2)] below meth c TJ9 locsJ9 3 21 → TJ9.heap = T6.heap → Fr n0 locsJ9 → ownW p e below s (own_Q0 Z i0 i1 i2 h0 n0) 3 21 TJ9 (mkF m 59 #[.val (.int i0), .val (.int i1), .val (.int i2), .val (.int (own_j0_22_L3 i0 i1 i2)), .val (.ref b4), .unset] [(.int (own_j0_59_S0 i0 i1 i2))]) := by
      intro TJ9 locsJ9 XJ9 eJ9 NJ9
      refine ownW.go (T' := TJ9) (f' := (mkF m 63 #[.val (.int i0), .val (.int i1), .val (.int i2), .val (.int (own_j0_22_L3 i0 i1 i2)), .val (.ref b4), .val (.int (own_j0_59_S0 i0 i1 i2))] [(.ref b4)])) (fun t kt => ?_) ?_
      · show Steps p.tables e below (TJ9.setTop (mkF m 59 #[.val (.int i0), .val (.int i1), .val (.int i2), .val (.int (own_j0_22_L3 i0 i1 i2)), .val (.ref b4), .unset] [(.int (own_j0_59_S0 i0 i1 i2))])) _
        refine XS.istore XJ9.here hx rfl (hb hby at_59) rfl (l' := #[.val (.int i0), .val (.int i1), .val (.int i2), .val (.int (own_j0_22_L3 i0 i1 i2)), .val (.ref b4), .val (.int (own_j0_59_S0 i0 i1 i2))]) rfl ?_
        show Steps p.tables e below (TJ9.setTop (mkF m 61 #[.val (.int i0), .val (.int i1), .val (.int i2), .val (.int (own_j0_22_L3 i0 i1 i2)), .val (.ref b4), .val (.int (own_j0_59_S0 i0 i1 i2))] [])) _
        refine XS.aload XJ9.here hx rfl (hb hby at_61) rfl rfl ?_
        exact kt
      obtain ⟨cq10, kq10, q10a, q10b, q10c⟩ := isOf hZ eJ9 f6_0
      obtain ⟨_, _, ⟨T10, L10, k10, n10⟩, -, X10, ⟨Lc10, hQ10, l10, y10, z10⟩, st10⟩ := XJ9.virtualBack hx (y := (⟨"com/example/libvalise/libvalise/ZipReader$Entry", "isSymbolicLink", "()Z"⟩ : MethodName)) (z := (⟨"com/example/libvalise/libvalise/ZipReader$Entry", "isSymbolicLink", "()Z"⟩ : MethodName)) hown (mvT hZ (hw _ (List.mem_of_getElem? (i := 49) rfl))) (mvT hZ (hw _ (List.mem_of_getElem? (i := 50) rfl))) (notFace_of_selects (args := #[]) (mvT hZ (hw _ (List.mem_of_getElem? (i := 52) rfl)))) (mvT hZ (hw _ (List.mem_of_getElem? (i := 52) rfl))) (mvT hZ (hw _ (List.mem_of_getElem? (i := 51) rfl))) (by decide) (backOf (W := 0) (own_rm4 l Z a0 hw [] b4 i2 (own_j0_22_L3 i0 i1 i2) T6.heap n0 (Nat.le_trans Z0 K6.1) f6_2 f6_3) hZ (hw _ (List.mem_of_getElem? (i := 53) rfl)) (hw _ (List.mem_of_getElem? (i := 3) rfl)) (by decide) (by decide)) q10a q10c (g := (mkF m 63 #[.val (.int i0), .val (.int i1), .val (.int i2), .val (.int (own_j0_22_L3 i0 i1 i2)), .val (.ref b4), .val (.int (own_j0_59_S0 i0 i1 i2))] [(.ref b4)])) rfl (by rw [hml]; rfl) (Steps.refl _) (argsL := []) (rest := []) (lenOf own_pd4 rfl) rfl (by show 2 * 0 + _ ≤ _; exact Nat.le_of_eq rfl) (hb hby at_63) (fun _ _ => ⟨rfl, eJ9, (by decide : 3 + 0 ≤ _), (by decide : 21 + 0 ≤ _)⟩)
      dsimp only [Pt.U, Pt.locs, Pt.cells, Pt.slots] at X10 l10 y10 z10 st10 hQ10
      subst l10 y10 z10
      obtain ⟨rfl, N10q, e10⟩ := hQ10
      have N10 := Fr.app NJ9 N10q
      refine ownW.goS (T' := T10) (f' := (mkF m 66 #[.val (.int i0), .val (.int i1), .val (.int i2), .val (.int (own_j0_22_L3 i0 i1 i2)), .val (.ref b4), .val (.int (own_j0_59_S0 i0 i1 i2))] [(.int (own_f4 i2 (own_j0_22_L3 i0 i1 i2)))])) st10 ?_
      refine ownW.go (T' := T10) (f' := (mkF m 68 #[.val (.int i0), .val (.int i1), .val (.int i2), .val (.int (own_j0_22_L3 i0 i1 i2)), .val (.ref b4), .val (.int (own_j0_59_S0 i0 i1 i2))] [(.int (own_j0_59_S0 i0 i1 i2)), (.int (own_f4 i2 (own_j0_22_L3 i0 i1 i2)))])) (fun t kt => ?_) ?_
      · show Steps p.tables e below (T10.setTop (mkF m 66 #[.val (.int i0), .val (.int i1), .val (.int i2), .val (.int (own_j0_22_L3 i0 i1 i2)), .val (.ref b4), .val (.int (own_j0_59_S0 i0 i1 i2))] [(.int (own_f4 i2 (own_j0_22_L3 i0 i1 i2)))])) _
        refine XS.iload X10.here hx rfl (hb hby at_66) rfl ?_
        exact kt
      by_cases hc11 : (own_f4 i2 (own_j0_22_L3 i0 i1 i2)) = (own_j0_59_S0 i0 i1 i2)
      · -- pc 68
        refine ownW.go (T' := T10) (f' := (mkF m 71 #[.val (.int i0), .val (.int i1), .val (.int i2), .val (.int (own_j0_22_L3 i0 i1 i2)), .val (.ref b4), .val (.int (own_j0_59_S0 i0 i1 i2))] [])) (fun t kt => XS.icmpNo (g := (mkF m 68 #[.val (.int i0), .val (.int i1), .val (.int i2), .val (.int (own_j0_22_L3 i0 i1 i2)), .val (.ref b4), .val (.int (own_j0_59_S0 i0 i1 i2))] [(.int (own_j0_59_S0 i0 i1 i2)), (.int (own_f4 i2 (own_j0_22_L3 i0 i1 i2)))])) X10.here hx rfl (hb hby at_68) rfl (Jvm.Free.XT.ii_ne_f hc11) kt) ?_
        refine ownW.go (T' := T10) (f' := (mkF m 76 #[.val (.int i0), .val (.int i1), .val (.int i2), .val (.int (own_j0_22_L3 i0 i1 i2)), .val (.ref b4), .val (.int (own_j0_59_S0 i0 i1 i2))] [(.int (1 : Int32))])) (fun t kt => ?_) ?_
        · show Steps p.tables e below (T10.setTop (mkF m 71 #[.val (.int i0), .val (.int i1), .val (.int i2), .val (.int (own_j0_22_L3 i0 i1 i2)), .val (.ref b4), .val (.int (own_j0_59_S0 i0 i1 i2))] [])) _
          refine XS.iconst X10.here hx rfl (hb hby at_71) ?_
          show Steps p.tables e below (T10.setTop (mkF m 72 #[.val (.int i0), .val (.int i1), .val (.int i2), .val (.int (own_j0_22_L3 i0 i1 i2)), .val (.ref b4), .val (.int (own_j0_59_S0 i0 i1 i2))] [(.int (1 : Int32))])) _
          refine XS.goto X10.here hx rfl (pc0 := 72) (pc' := 76) rfl (hb hby at_72) (by decide) (by decide) ?_
          exact kt
        refine ownW.retN X10 hx hlk (t := .boolean) hret (by simp) (hb hby at_76) hS5 (by rw [show T10.heap = T6.heap from e10]; exact hk6) ?_ (by decide) (by decide)
        show own_Q0 Z i0 i1 i2 h0 n0 _ T10.heap _
        rw [e10]
        exact ⟨(by rw [own_f0, if_pos hc11] <;> first | rfl | decide), N10, K6⟩
      · -- pc 68
        refine ownW.go (T' := T10) (f' := (mkF m 75 #[.val (.int i0), .val (.int i1), .val (.int i2), .val (.int (own_j0_22_L3 i0 i1 i2)), .val (.ref b4), .val (.int (own_j0_59_S0 i0 i1 i2))] [])) (fun t kt => XS.icmpYes (g := (mkF m 68 #[.val (.int i0), .val (.int i1), .val (.int i2), .val (.int (own_j0_22_L3 i0 i1 i2)), .val (.ref b4), .val (.int (own_j0_59_S0 i0 i1 i2))] [(.int (own_j0_59_S0 i0 i1 i2)), (.int (own_f4 i2 (own_j0_22_L3 i0 i1 i2)))])) X10.here hx rfl (pc0 := 68) (pc' := 75) rfl (hb hby at_68) rfl (Jvm.Free.XT.ii_ne_t hc11) (by decide) (by decide) kt) ?_
        refine ownW.go (T' := T10) (f' := (mkF m 76 #[.val (.int i0), .val (.int i1), .val (.int i2), .val (.int (own_j0_22_L3 i0 i1 i2)), .val (.ref b4), .val (.int (own_j0_59_S0 i0 i1 i2))] [(.int (0 : Int32))])) (fun t kt => ?_) ?_
        · show Steps p.tables e below (T10.setTop (mkF m 75 #[.val (.int i0), .val (.int i1), .val (.int i2), .val (.int (own_j0_22_L3 i0 i1 i2)), .val (.ref b4), .val (.int (own_j0_59_S0 i0 i1 i2))] [])) _
          refine XS.iconst X10.here hx rfl (hb hby at_75) ?_
          exact kt
        refine ownW.retN X10 hx hlk (t := .boolean) hret (by simp) (hb hby at_76) hS5 (by rw [show T10.heap = T6.heap from e10]; exact hk6) ?_ (by decide) (by decide)
        show own_Q0 Z i0 i1 i2 h0 n0 _ T10.heap _
        rw [e10]
        exact ⟨(by rw [own_f0, if_neg hc11] <;> first | rfl | decide), N10, K6⟩
    refine ownW.go (T' := T6) (f' := (mkF m 51 #[.val (.int i0), .val (.int i1), .val (.int i2), .val (.int (own_j0_22_L3 i0 i1 i2)), .val (.ref b4), .unset] [(.int (10 : Int32)), (.int (((own_j0_22_L3 i0 i1 i2).toUInt32 >>> ((28 : Int32) &&& 31).toUInt32).toInt32))])) (fun t kt => ?_) ?_
    · show Steps p.tables e below (T6.setTop (mkF m 45 #[.val (.int i0), .val (.int i1), .val (.int i2), .val (.int (own_j0_22_L3 i0 i1 i2)), .val (.ref b4), .unset] [])) _
      refine XS.iloadN X6.here hx rfl (hb hby at_45) rfl ?_
      show Steps p.tables e below (T6.setTop (mkF m 46 #[.val (.int i0), .val (.int i1), .val (.int i2), .val (.int (own_j0_22_L3 i0 i1 i2)), .val (.ref b4), .unset] [(.int (own_j0_22_L3 i0 i1 i2))])) _
      refine XS.bipush X6.here hx rfl (hb hby at_46) ?_
      show Steps p.tables e below (T6.setTop (mkF m 48 #[.val (.int i0), .val (.int i1), .val (.int i2), .val (.int (own_j0_22_L3 i0 i1 i2)), .val (.ref b4), .unset] [(.int (28 : Int32)), (.int (own_j0_22_L3 i0 i1 i2))])) _
      refine XS.iushr X6.here hx rfl (hb hby at_48) rfl ?_
      show Steps p.tables e below (T6.setTop (mkF m 49 #[.val (.int i0), .val (.int i1), .val (.int i2), .val (.int (own_j0_22_L3 i0 i1 i2)), .val (.ref b4), .unset] [(.int (((own_j0_22_L3 i0 i1 i2).toUInt32 >>> ((28 : Int32) &&& 31).toUInt32).toInt32))])) _
      refine XS.bipush X6.here hx rfl (hb hby at_49) ?_
      exact kt
    by_cases hc8 : (((own_j0_22_L3 i0 i1 i2).toUInt32 >>> ((28 : Int32) &&& 31).toUInt32).toInt32) = (10 : Int32)
    · -- pc 51
      refine ownW.go (T' := T6) (f' := (mkF m 54 #[.val (.int i0), .val (.int i1), .val (.int i2), .val (.int (own_j0_22_L3 i0 i1 i2)), .val (.ref b4), .unset] [])) (fun t kt => XS.icmpNo (g := (mkF m 51 #[.val (.int i0), .val (.int i1), .val (.int i2), .val (.int (own_j0_22_L3 i0 i1 i2)), .val (.ref b4), .unset] [(.int (10 : Int32)), (.int (((own_j0_22_L3 i0 i1 i2).toUInt32 >>> ((28 : Int32) &&& 31).toUInt32).toInt32))])) X6.here hx rfl (hb hby at_51) rfl (Jvm.Free.XT.ii_ne_f hc8) kt) ?_
      refine ownW.go (T' := T6) (f' := (mkF m 59 #[.val (.int i0), .val (.int i1), .val (.int i2), .val (.int (own_j0_22_L3 i0 i1 i2)), .val (.ref b4), .unset] [(.int (1 : Int32))])) (fun t kt => ?_) ?_
      · show Steps p.tables e below (T6.setTop (mkF m 54 #[.val (.int i0), .val (.int i1), .val (.int i2), .val (.int (own_j0_22_L3 i0 i1 i2)), .val (.ref b4), .unset] [])) _
        refine XS.iconst X6.here hx rfl (hb hby at_54) ?_
        show Steps p.tables e below (T6.setTop (mkF m 55 #[.val (.int i0), .val (.int i1), .val (.int i2), .val (.int (own_j0_22_L3 i0 i1 i2)), .val (.ref b4), .unset] [(.int (1 : Int32))])) _
        refine XS.goto X6.here hx rfl (pc0 := 55) (pc' := 59) rfl (hb hby at_55) (by decide) (by decide) ?_
        exact kt
      have jj := J9 _ _ X6 rfl N6
      rw [show (own_j0_59_S0 i0 i1 i2) = (1 : Int32) from by rw [own_j0_59_S0, if_pos hc8]] at jj
      exact jj
    · -- pc 51
      refine ownW.go (T' := T6) (f' := (mkF m 58 #[.val (.int i0), .val (.int i1), .val (.int i2), .val (.int (own_j0_22_L3 i0 i1 i2)), .val (.ref b4), .unset] [])) (fun t kt => XS.icmpYes (g := (mkF m 51 #[.val (.int i0), .val (.int i1), .val (.int i2), .val (.int (own_j0_22_L3 i0 i1 i2)), .val (.ref b4), .unset] [(.int (10 : Int32)), (.int (((own_j0_22_L3 i0 i1 i2).toUInt32 >>> ((28 : Int32) &&& 31).toUInt32).toInt32))])) X6.here hx rfl (pc0 := 51) (pc' := 58) rfl (hb hby at_51) rfl (Jvm.Free.XT.ii_ne_t hc8) (by decide) (by decide) kt) ?_
      refine ownW.go (T' := T6) (f' := (mkF m 59 #[.val (.int i0), .val (.int i1), .val (.int i2), .val (.int (own_j0_22_L3 i0 i1 i2)), .val (.ref b4), .unset] [(.int (0 : Int32))])) (fun t kt => ?_) ?_
      · show Steps p.tables e below (T6.setTop (mkF m 58 #[.val (.int i0), .val (.int i1), .val (.int i2), .val (.int (own_j0_22_L3 i0 i1 i2)), .val (.ref b4), .unset] [])) _
        refine XS.iconst X6.here hx rfl (hb hby at_58) ?_
        exact kt
      have jj := J9 _ _ X6 rfl N6
      rw [show (own_j0_59_S0 i0 i1 i2) = (0 : Int32) from by rw [own_j0_59_S0, if_neg hc8]] at jj
      exact jj
  refine ownW.go (T' := s₁) (f' := (mkF m 6 #[.val (.int i0), .val (.int i1), .val (.int i2), .val (.int i0), .unset, .unset] [(.int (i1 &&& (16 : Int32)))])) (fun t kt => ?_) ?_
  · show Steps p.tables e below (s₁.setTop (mkF m 2 #[.val (.int i0), .val (.int i1), .val (.int i2), .val (.int i0), .unset, .unset] [])) _
    refine XS.iloadN X0.here hx rfl (hb hby at_2) rfl ?_
    show Steps p.tables e below (s₁.setTop (mkF m 3 #[.val (.int i0), .val (.int i1), .val (.int i2), .val (.int i0), .unset, .unset] [(.int i1)])) _
    refine XS.bipush X0.here hx rfl (hb hby at_3) ?_
    show Steps p.tables e below (s₁.setTop (mkF m 5 #[.val (.int i0), .val (.int i1), .val (.int i2), .val (.int i0), .unset, .unset] [(.int (16 : Int32)), (.int i1)])) _
    refine XS.iand X0.here hx rfl (hb hby at_5) rfl ?_
    exact kt
  by_cases hc2 : (i1 &&& (16 : Int32)) = (0 : Int32)
  · -- pc 6
    refine ownW.go (T' := s₁) (f' := (mkF m 9 #[.val (.int i0), .val (.int i1), .val (.int i2), .val (.int i0), .unset, .unset] [])) (fun t kt => XS.ifNo (g := (mkF m 6 #[.val (.int i0), .val (.int i1), .val (.int i2), .val (.int i0), .unset, .unset] [(.int (i1 &&& (16 : Int32)))])) X0.here hx rfl (hb hby at_6) rfl (Jvm.Free.XT.i0_ne_f hc2) kt) ?_
    refine ownW.go (T' := s₁) (f' := (mkF m 22 #[.val (.int i0), .val (.int i1), .val (.int i2), .val (.int (((i1 &&& (15 : Int32)) <<< ((28 : Int32) &&& 31)) ||| (i0 &&& (268435455 : Int32)))), .unset, .unset] [])) (fun t kt => ?_) ?_
    · show Steps p.tables e below (s₁.setTop (mkF m 9 #[.val (.int i0), .val (.int i1), .val (.int i2), .val (.int i0), .unset, .unset] [])) _
      refine XS.iloadN X0.here hx rfl (hb hby at_9) rfl ?_
      show Steps p.tables e below (s₁.setTop (mkF m 10 #[.val (.int i0), .val (.int i1), .val (.int i2), .val (.int i0), .unset, .unset] [(.int i1)])) _
      refine XS.bipush X0.here hx rfl (hb hby at_10) ?_
      show Steps p.tables e below (s₁.setTop (mkF m 12 #[.val (.int i0), .val (.int i1), .val (.int i2), .val (.int i0), .unset, .unset] [(.int (15 : Int32)), (.int i1)])) _
      refine XS.iand X0.here hx rfl (hb hby at_12) rfl ?_
      show Steps p.tables e below (s₁.setTop (mkF m 13 #[.val (.int i0), .val (.int i1), .val (.int i2), .val (.int i0), .unset, .unset] [(.int (i1 &&& (15 : Int32)))])) _
      refine XS.bipush X0.here hx rfl (hb hby at_13) ?_
      show Steps p.tables e below (s₁.setTop (mkF m 15 #[.val (.int i0), .val (.int i1), .val (.int i2), .val (.int i0), .unset, .unset] [(.int (28 : Int32)), (.int (i1 &&& (15 : Int32)))])) _
      refine XS.ishl X0.here hx rfl (hb hby at_15) rfl ?_
      show Steps p.tables e below (s₁.setTop (mkF m 16 #[.val (.int i0), .val (.int i1), .val (.int i2), .val (.int i0), .unset, .unset] [(.int ((i1 &&& (15 : Int32)) <<< ((28 : Int32) &&& 31)))])) _
      refine XS.iloadN X0.here hx rfl (hb hby at_16) rfl ?_
      show Steps p.tables e below (s₁.setTop (mkF m 17 #[.val (.int i0), .val (.int i1), .val (.int i2), .val (.int i0), .unset, .unset] [(.int i0), (.int ((i1 &&& (15 : Int32)) <<< ((28 : Int32) &&& 31)))])) _
      refine X0.ldcInt hx hown (mvT hZ (hw _ (List.mem_of_getElem? (i := 0) rfl))) (g := (mkF m 17 #[.val (.int i0), .val (.int i1), .val (.int i2), .val (.int i0), .unset, .unset] [(.int i0), (.int ((i1 &&& (15 : Int32)) <<< ((28 : Int32) &&& 31)))])) rfl (hb hby at_17) _ ?_
      show Steps p.tables e below (s₁.setTop (mkF m 19 #[.val (.int i0), .val (.int i1), .val (.int i2), .val (.int i0), .unset, .unset] [(.int (268435455 : Int32)), (.int i0), (.int ((i1 &&& (15 : Int32)) <<< ((28 : Int32) &&& 31)))])) _
      refine XS.iand X0.here hx rfl (hb hby at_19) rfl ?_
      show Steps p.tables e below (s₁.setTop (mkF m 20 #[.val (.int i0), .val (.int i1), .val (.int i2), .val (.int i0), .unset, .unset] [(.int (i0 &&& (268435455 : Int32))), (.int ((i1 &&& (15 : Int32)) <<< ((28 : Int32) &&& 31)))])) _
      refine XS.ior X0.here hx rfl (hb hby at_20) rfl ?_
      show Steps p.tables e below (s₁.setTop (mkF m 21 #[.val (.int i0), .val (.int i1), .val (.int i2), .val (.int i0), .unset, .unset] [(.int (((i1 &&& (15 : Int32)) <<< ((28 : Int32) &&& 31)) ||| (i0 &&& (268435455 : Int32))))])) _
      refine XS.istoreN X0.here hx rfl (hb hby at_21) rfl (l' := #[.val (.int i0), .val (.int i1), .val (.int i2), .val (.int (((i1 &&& (15 : Int32)) <<< ((28 : Int32) &&& 31)) ||| (i0 &&& (268435455 : Int32)))), .unset, .unset]) rfl ?_
      exact kt
    have jj := J3 _ _ X0 e0 N0
    rw [show (own_j0_22_L3 i0 i1 i2) = (((i1 &&& (15 : Int32)) <<< ((28 : Int32) &&& 31)) ||| (i0 &&& (268435455 : Int32))) from by rw [own_j0_22_L3, if_pos hc2]] at jj
    exact jj
  · -- pc 6
    refine ownW.go (T' := s₁) (f' := (mkF m 22 #[.val (.int i0), .val (.int i1), .val (.int i2), .val (.int i0), .unset, .unset] [])) (fun t kt => XS.ifYes (g := (mkF m 6 #[.val (.int i0), .val (.int i1), .val (.int i2), .val (.int i0), .unset, .unset] [(.int (i1 &&& (16 : Int32)))])) X0.here hx rfl (pc0 := 6) (pc' := 22) rfl (hb hby at_6) rfl (Jvm.Free.XT.i0_ne_t hc2) (by decide) (by decide) kt) ?_
    have jj := J3 _ _ X0 e0 N0
    rw [show (own_j0_22_L3 i0 i1 i2) = i0 from by rw [own_j0_22_L3, if_neg hc2]] at jj
    exact jj
theorem own_and_shl (n m k : Nat) : n &&& (m <<< k) = ((n >>> k) &&& m) <<< k := by
  apply Nat.eq_of_testBit_eq
  intro i
  simp only [Nat.testBit_and, Nat.testBit_shiftLeft, Nat.testBit_shiftRight]
  by_cases h : k ≤ i
  · have e : k + (i - k) = i := by omega
    simp [h, e]
  · simp [h]
theorem own_eq32 (a b : Int32) : a = b ↔ a.toBitVec.toNat = b.toBitVec.toNat := by
  rw [← BitVec.toNat_inj.symm, Int32.toBitVec_inj]
theorem own_and32 (a b : Int32) : (a &&& b).toBitVec.toNat = a.toBitVec.toNat &&& b.toBitVec.toNat := by
  rw [Int32.toBitVec_and, BitVec.toNat_and]
theorem own_ushr16 (h : Int32) : ((h.toUInt32 >>> ((16 : Int32) &&& 31).toUInt32).toInt32).toBitVec.toNat = h.toBitVec.toNat >>> 16 := by
  show (h.toUInt32 >>> ((16 : Int32) &&& 31).toUInt32).toBitVec.toNat = _
  rw [UInt32.toBitVec_shiftRight]
  have e : ((((16 : Int32) &&& 31).toUInt32).toBitVec % 32#32) = 16#32 := by decide
  rw [show (32 : BitVec 32) = 32#32 from rfl, e]
  rfl
theorem own_ushr28 (h : Int32) : ((h.toUInt32 >>> ((28 : Int32) &&& 31).toUInt32).toInt32).toBitVec.toNat = h.toBitVec.toNat >>> 28 := by
  show (h.toUInt32 >>> ((28 : Int32) &&& 31).toUInt32).toBitVec.toNat = _
  rw [UInt32.toBitVec_shiftRight]
  have e : ((((28 : Int32) &&& 31).toUInt32).toBitVec % 32#32) = 28#32 := by decide
  rw [show (32 : BitVec 32) = 32#32 from rfl, e]
  rfl
theorem own_four (h : Int32) : ((((h.toUInt32 >>> ((16 : Int32) &&& 31).toUInt32).toInt32) &&& (61440 : Int32)) = (40960 : Int32)) ↔ (((h.toUInt32 >>> ((28 : Int32) &&& 31).toUInt32).toInt32) = (10 : Int32)) := by
  rw [own_eq32, own_eq32, own_and32, own_ushr16, own_ushr28]
  have e1 : (61440 : Int32).toBitVec.toNat = 15 <<< 12 := by decide
  have e2 : (40960 : Int32).toBitVec.toNat = 10 <<< 12 := by decide
  have e3 : (10 : Int32).toBitVec.toNat = 10 := by decide
  have hl := h.toBitVec.isLt
  rw [e1, e2, e3, own_and_shl]
  generalize h.toBitVec.toNat = n at hl ⊢
  have e4 : (n >>> 16) >>> 12 = n >>> 28 := by rw [← Nat.shiftRight_add]
  rw [e4]
  have e5 : n >>> 28 < 16 := by
    rw [Nat.shiftRight_eq_div_pow]
    omega
  have e6 : (n >>> 28) &&& 15 = n >>> 28 := by
    rw [show (15 : Nat) = 2 ^ 4 - 1 from rfl, Nat.and_two_pow_sub_one_eq_mod]
    exact Nat.mod_eq_of_lt e5
  rw [e6, Nat.shiftLeft_eq, Nat.shiftLeft_eq]
  omega
theorem own_law (a b c : Int32) : own_f0 a b c = 1 := by
  unfold own_f0
  rw [if_pos]
  unfold own_f4 own_j0_59_S0
  generalize own_j0_22_L3 a b c = h
  by_cases e : (((h.toUInt32 >>> ((16 : Int32) &&& 31).toUInt32).toInt32) &&& (61440 : Int32)) = (40960 : Int32)
  · rw [if_pos e, if_pos ((own_four h).mp e)]
  · rw [if_neg e, if_neg (fun q => e ((own_four h).mpr q))]

set_option maxRecDepth 65536 in
set_option maxHeartbeats 40000000 in
theorem comes_1 {Post : Tables → Env → Array Value → State → Outcome → State → Prop} (hpost : ∀ tb e args s v u, (limb_1_1.after args s (.returned v) u = true ∧ limb_1_2.after args s (.returned v) u = true ∧ True) → ReturnedEndW s (.returned v) u (Jvm.fieldLocs frame_1_writes args s ++ Jvm.arrayLocs frame_1_arrays args s ++ Jvm.staticLocs frame_1_statics s) 16 1152 → Post tb e args s (.returned v) u) :
    ArmFor flags0 classFile x code maxLocals ret World_1 tables_1 room_1 Calls_1 rest_1 Pre_1 Post := by
  intro l hfl _ _ p e ha hc hk s m args below hf hA hF happ hP
  obtain ⟨hcalls, hrest, hpre⟩ := hP
  obtain ⟨-, -, -, hnamed, -, -, -, hat⟩ := (Spec.applies_iff hf).mp happ
  obtain ⟨hg, hn⟩ := and_e (Cond.before_iff.mp (show (Jvm.Cond.and given_1 narrow_1).before args s = true from hpre))
  obtain ⟨g1, g2⟩ := and_e hg
  obtain ⟨g3, g4⟩ := and_e g2
  obtain ⟨g5, g6⟩ := and_e g4
  obtain ⟨w0, w1, w2, rfl⟩ : ∃ w0 w1 w2 : Value, args = #[w0, w1, w2] := by
    have hs : args.size = 3 := by simpa [Cond.value, given_1] using g1
    obtain ⟨L⟩ := args
    match L, hs with
    | [w0, w1, w2], _ => exact ⟨w0, w1, w2, rfl⟩
  have hw := fun d (hd : d ∈ tables_1) => atoms_spec (ws := Jvm.Cond.code x code maxLocals ret :: tables_1) hat d (List.mem_cons_of_mem _ hd)
  have hfit : Fit s := fun {y c} hc i hi => by
    obtain ⟨ha, rfl⟩ := Array.getElem?_eq_some_iff.mp hc
    have q := List.all_eq_true.mp ((Array.all_eq_true_iff_forall_mem.mp hF) _ (Array.getElem_mem ha)) i (List.mem_range.mpr hi)
    simpa [Array.getElem?_eq_getElem hi] using q
  obtain ⟨i0, ei0⟩ := is_v g3
  obtain rfl : w0 = (.int i0) := Option.some.inj ei0
  obtain ⟨i1, ei1⟩ := is_v g5
  obtain rfl : w1 = (.int i1) := Option.some.inj ei1
  obtain ⟨i2, ei2⟩ := is_v g6
  obtain rfl : w2 = (.int i2) := Option.some.inj ei2
  obtain ⟨n, o, h1, h2, h3, _, L, rfl, ⟨rfl, N, -⟩, hq⟩ := own_rm0 l s _ hw tables_1 i0 i1 i2  s.heap s.heap.size (Nat.le_refl _)  p e ha hc hk s m _ below hf ((Spec.applies_iff_loose hf).mp happ).1 ⟨rfl, State.Warmed39.refl s, rfl⟩ trivial
  refine ⟨n, _, h1, h2, h3, hpost _ _ _ _ _ _ ⟨Cond.after_iff.mpr rfl, Cond.after_iff.mpr (eq_i res_at (Term.int_eval (1)) (congrArg Value.int (own_law i0 i1 i2))), trivial⟩ ⟨hq.1, hq.2.1, hq.2.2.1, (hq.2.2.2.sift fun y hy => Or.inr (N y hy)).mono (by decide) (by decide)⟩⟩
theorem main_1_1 : Claimed_1_1 := comes_1 fun _ _ _ _ _ _ h hF => ⟨h.1, hF⟩
theorem main_1_2 : Claimed_1_2 := comes_1 fun _ _ _ _ _ _ h hF => ⟨h.2.1, hF⟩
end Jvm.Pilot.@@N@@
namespace Jvm.Pilot.@@N@@
open Jvm Jvm.ClassFile Sem Op Lib Jvm.Free Jvm.Stand Jvm.Pilot.@@N@@.Jvm.D
/-! MADE BY PROGRAM (witnessworld.py) out of the Statement's table words and the real class files: 15 classes; the members and pool entries that the words name. The judged class is class 1, her method 1. -/
namespace start1
open Jvm.ClassFile
def u (s : String) : CpInfo := .utf8 (stringToUtf16 s)
/-- a pool by its gaps: so many unusable entries, then the entry; so many at the end -/
def gap : Nat → List CpInfo → List CpInfo
  | 0, r => r
  | n + 1, r => .unusable :: gap n r
def poolList (es : List (Nat × CpInfo)) (last : Nat) : List CpInfo := es.foldr (fun e r => gap e.1 (e.2 :: r)) (gap last [])
def pool (es : List (Nat × CpInfo)) (last : Nat) : Array CpInfo := ⟨poolList es last⟩
def fileOf (pool : Array CpInfo) (this : Nat) (attrs : Array Attribute := #[]) (ms : Array MethodInfo := #[]) (fl : Nat := 33) (sup : Nat := 0) (ifs : Array Nat := #[]) (fds : Array FieldInfo := #[]) : ClassFile where
  minorVersion := 0
  majorVersion := 65
  constantPool := pool
  accessFlags := fl
  thisClass := this
  superClass := sup
  interfaces := ifs
  fields := fds
  methods := ms
  attributes := attrs
def plain (name : String) (sup : Option ClassId) : Class where
  name := name
  kind := .ordinary
  loader := none
  accessFlags := 33
  super := sup
  interfaces := #[]
  cf := none
  fields := #[]
  methods := #[]
  instanceTypes := #[]
  staticTypes := #[]
  resolved := #[]
  callSites := []
  init := .initialized
  statics := none
  mirror := none

def pool0 : Array CpInfo := pool [(5, u "<init>"), (0, u "()V"), (1, .class_ 10), (1, u "java/lang/Object")] 113

def k0c0 : Code := { maxStack := 0, maxLocals := 1, code := object_method_1_code, exceptionTable := #[], attributes := #[] }
def k0m0 : Method := { name := "<init>", desc := "()V", sig := { parameters := [], returnType := none }, accessFlags := 1, code := some k0c0 }
/-- java/lang/Object -/
def k0 : Class := { plain "java/lang/Object" none with
  accessFlags := 33
  interfaces := #[]
  cf := some (fileOf pool0 8 #[] #[{ accessFlags := 1, nameIndex := 5, descriptorIndex := 6, attributes := #[] }] 33 0 #[] #[])
  fields := #[]
  methods := #[k0m0]
  instanceTypes := #[]
  staticTypes := #[]
  resolved := Array.replicate 124 none
  statics := none }

def pool1 : Array CpInfo := pool [(2, .class_ 4), (1, u "java/lang/Object"), (0, u "<init>"), (0, u "()V"), (0, .integer 268435455), (0, .class_ 9), (0, u "com/example/libvalise/libvalise/ZipReader$Entry"), (0, .string 11), (0, u "a"), (0, .methodref 8 13), (0, .nameAndType 5 14), (0, u "(Ljava/lang/String;Z[BIIJJJJIIZ[B)V"), (0, .methodref 8 16), (0, .nameAndType 17 18), (0, u "isSymbolicLink"), (0, u "()Z"), (0, .class_ 20), (0, u "com/example/libvalise/libvalise/EntryIsSymbolicLinkPinLaw"), (2, u "law"), (0, u "(III)Z")] 7

def k1m0 : Method := { name := "<init>", desc := "()V", sig := { parameters := [], returnType := none }, accessFlags := 1, code := none }
def k1c1 : Code := { maxStack := 19, maxLocals := 6, code := code, exceptionTable := #[], attributes := #[] }
def k1m1 : Method := { name := "law", desc := "(III)Z", sig := { parameters := [.int, .int, .int], returnType := some .boolean }, accessFlags := 9, code := some k1c1 }
/-- com/example/libvalise/libvalise/EntryIsSymbolicLinkPinLaw -/
def k1 : Class := { plain "com/example/libvalise/libvalise/EntryIsSymbolicLinkPinLaw" (some 0) with
  accessFlags := 49
  interfaces := #[]
  cf := some (fileOf pool1 19 #[] #[{ accessFlags := 1, nameIndex := 5, descriptorIndex := 6, attributes := #[] }, { accessFlags := 9, nameIndex := 23, descriptorIndex := 24, attributes := #[] }] 49 2 #[] #[])
  fields := #[]
  methods := #[k1m0, k1m1]
  instanceTypes := #[]
  staticTypes := #[]
  resolved := Array.replicate 32 none
  statics := none }

def pool2 : Array CpInfo := pool [(1, .methodref 2 3), (0, .class_ 4), (0, .nameAndType 5 6), (0, u "java/lang/Object"), (0, u "<init>"), (0, u "()V"), (0, .class_ 8), (0, u "java/lang/Record")] 13

def k2c0 : Code := { maxStack := 1, maxLocals := 1, code := jdk_30_method_1_code, exceptionTable := #[], attributes := #[] }
def k2m0 : Method := { name := "<init>", desc := "()V", sig := { parameters := [], returnType := none }, accessFlags := 4, code := some k2c0 }
/-- java/lang/Record -/
def k2 : Class := { plain "java/lang/Record" (some 0) with
  accessFlags := 1057
  interfaces := #[]
  cf := some (fileOf pool2 7 #[] #[{ accessFlags := 4, nameIndex := 5, descriptorIndex := 6, attributes := #[] }] 1057 2 #[] #[])
  fields := #[]
  methods := #[k2m0]
  instanceTypes := #[]
  staticTypes := #[]
  resolved := Array.replicate 22 none
  statics := none }

def pool3 : Array CpInfo := pool [(3, .methodref 4 5), (0, .class_ 6), (0, .nameAndType 7 8), (0, u "java/lang/Record"), (0, u "<init>"), (0, u "()V"), (0, .fieldref 10 11), (0, .class_ 12), (0, .nameAndType 13 14), (0, u "com/example/libvalise/libvalise/ZipReader$Entry"), (0, u "name"), (0, u "Ljava/lang/String;"), (0, .fieldref 10 16), (0, .nameAndType 17 18), (0, u "utf8Name"), (0, u "Z"), (0, .fieldref 10 20), (0, .nameAndType 21 22), (0, u "rawName"), (0, u "[B"), (0, .fieldref 10 24), (0, .nameAndType 25 26), (0, u "method"), (0, u "I"), (0, .fieldref 10 28), (0, .nameAndType 29 26), (0, u "dosDateTime"), (0, .fieldref 10 31), (0, .nameAndType 32 33), (0, u "crc"), (0, u "J"), (0, .fieldref 10 35), (0, .nameAndType 36 33), (0, u "compressedSize"), (0, .fieldref 10 38), (0, .nameAndType 39 33), (0, u "size"), (0, .fieldref 10 41), (0, .nameAndType 42 33), (0, u "localHeaderOffset"), (0, .fieldref 10 44), (0, .nameAndType 45 26), (0, u "madeBy"), (0, .fieldref 10 47), (0, .nameAndType 48 26), (0, u "externalAttributes"), (0, .fieldref 10 50), (0, .nameAndType 51 18), (0, u "utf8Flag"), (0, .fieldref 10 53), (0, .nameAndType 54 22), (0, u "comment"), (15, u "()Z"), (4, .integer 61440), (0, .integer 40960), (12, u "(Ljava/lang/String;Z[BIIJJJJIIZ[B)V"), (8, u "isSymbolicLink"), (7, .class_ 107), (0, u "com/example/libvalise/libvalise/ZipReader")] 31

def k3c0 : Code := { maxStack := 3, maxLocals := 18, code := prog_18_method_1_code, exceptionTable := #[], attributes := #[] }
def k3m0 : Method := { name := "<init>", desc := "(Ljava/lang/String;Z[BIIJJJJIIZ[B)V", sig := { parameters := [(.object "java/lang/String"), .boolean, (.array .byte), .int, .int, .long, .long, .long, .long, .int, .int, .boolean, (.array .byte)], returnType := none }, accessFlags := 0, code := some k3c0 }
def k3c1 : Code := { maxStack := 2, maxLocals := 1, code := prog_18_method_6_code, exceptionTable := #[], attributes := #[] }
def k3m1 : Method := { name := "isSymbolicLink", desc := "()Z", sig := { parameters := [], returnType := some .boolean }, accessFlags := 0, code := some k3c1 }
/-- com/example/libvalise/libvalise/ZipReader$Entry -/
def k3 : Class := { plain "com/example/libvalise/libvalise/ZipReader$Entry" (some 2) with
  accessFlags := 48
  interfaces := #[]
  cf := some (fileOf pool3 10 #[.nestHost 106] #[{ accessFlags := 0, nameIndex := 7, descriptorIndex := 89, attributes := #[] }, { accessFlags := 0, nameIndex := 98, descriptorIndex := 70, attributes := #[] }] 48 4 #[] #[{ accessFlags := 18, nameIndex := 13, descriptorIndex := 14, attributes := #[] }, { accessFlags := 18, nameIndex := 17, descriptorIndex := 18, attributes := #[] }, { accessFlags := 18, nameIndex := 21, descriptorIndex := 22, attributes := #[] }, { accessFlags := 18, nameIndex := 25, descriptorIndex := 26, attributes := #[] }, { accessFlags := 18, nameIndex := 29, descriptorIndex := 26, attributes := #[] }, { accessFlags := 18, nameIndex := 32, descriptorIndex := 33, attributes := #[] }, { accessFlags := 18, nameIndex := 36, descriptorIndex := 33, attributes := #[] }, { accessFlags := 18, nameIndex := 39, descriptorIndex := 33, attributes := #[] }, { accessFlags := 18, nameIndex := 42, descriptorIndex := 33, attributes := #[] }, { accessFlags := 18, nameIndex := 45, descriptorIndex := 26, attributes := #[] }, { accessFlags := 18, nameIndex := 48, descriptorIndex := 26, attributes := #[] }, { accessFlags := 18, nameIndex := 51, descriptorIndex := 18, attributes := #[] }, { accessFlags := 18, nameIndex := 54, descriptorIndex := 22, attributes := #[] }])
  fields := #[{ name := "name", type := (.object "java/lang/String"), accessFlags := 18, slot := 0, constantValue := 0 }, { name := "utf8Name", type := .boolean, accessFlags := 18, slot := 1, constantValue := 0 }, { name := "rawName", type := (.array .byte), accessFlags := 18, slot := 2, constantValue := 0 }, { name := "method", type := .int, accessFlags := 18, slot := 3, constantValue := 0 }, { name := "dosDateTime", type := .int, accessFlags := 18, slot := 4, constantValue := 0 }, { name := "crc", type := .long, accessFlags := 18, slot := 5, constantValue := 0 }, { name := "compressedSize", type := .long, accessFlags := 18, slot := 6, constantValue := 0 }, { name := "size", type := .long, accessFlags := 18, slot := 7, constantValue := 0 }, { name := "localHeaderOffset", type := .long, accessFlags := 18, slot := 8, constantValue := 0 }, { name := "madeBy", type := .int, accessFlags := 18, slot := 9, constantValue := 0 }, { name := "externalAttributes", type := .int, accessFlags := 18, slot := 10, constantValue := 0 }, { name := "utf8Flag", type := .boolean, accessFlags := 18, slot := 11, constantValue := 0 }, { name := "comment", type := (.array .byte), accessFlags := 18, slot := 12, constantValue := 0 }]
  methods := #[k3m0, k3m1]
  instanceTypes := #[(.object "java/lang/String"), .boolean, (.array .byte), .int, .int, .long, .long, .long, .long, .int, .int, .boolean, (.array .byte)]
  staticTypes := #[]
  resolved := Array.replicate 139 none
  statics := none }

def pool4 : Array CpInfo := pool [(1, .class_ 2), (0, u "java/io/Serializable"), (0, .class_ 4), (0, u "java/lang/Object")] 2

/-- java/io/Serializable -/
def k4 : Class := { plain "java/io/Serializable" (some 0) with
  accessFlags := 1537
  interfaces := #[]
  cf := some (fileOf pool4 1 #[] #[] 1537 3 #[] #[])
  fields := #[]
  methods := #[]
  instanceTypes := #[]
  staticTypes := #[]
  resolved := Array.replicate 7 none
  statics := none }

def pool5 : Array CpInfo := pool [(1, .class_ 2), (0, u "java/lang/Comparable"), (0, .class_ 4), (0, u "java/lang/Object")] 7

/-- java/lang/Comparable -/
def k5 : Class := { plain "java/lang/Comparable" (some 0) with
  accessFlags := 1537
  interfaces := #[]
  cf := some (fileOf pool5 1 #[] #[] 1537 3 #[] #[])
  fields := #[]
  methods := #[]
  instanceTypes := #[]
  staticTypes := #[]
  resolved := Array.replicate 12 none
  statics := none }

def pool6 : Array CpInfo := pool [(2, .class_ 4), (1, u "java/lang/CharSequence"), (42, .class_ 48), (0, u "java/lang/CharSequence$1CodePointIterator"), (10, .class_ 60), (0, u "java/lang/CharSequence$1CharIterator"), (5, .class_ 67), (0, u "java/lang/Object")] 63

/-- java/lang/CharSequence -/
def k6 : Class := { plain "java/lang/CharSequence" (some 0) with
  accessFlags := 1537
  interfaces := #[]
  cf := some (fileOf pool6 2 #[.nestMembers #[47, 59]] #[] 1537 66 #[] #[])
  fields := #[]
  methods := #[]
  instanceTypes := #[]
  staticTypes := #[]
  resolved := Array.replicate 131 none
  statics := none }

def pool7 : Array CpInfo := pool [(1, .class_ 2), (0, u "java/lang/constant/Constable"), (0, .class_ 4), (0, u "java/lang/Object")] 6

/-- java/lang/constant/Constable -/
def k7 : Class := { plain "java/lang/constant/Constable" (some 0) with
  accessFlags := 1537
  interfaces := #[]
  cf := some (fileOf pool7 1 #[] #[] 1537 3 #[] #[])
  fields := #[]
  methods := #[]
  instanceTypes := #[]
  staticTypes := #[]
  resolved := Array.replicate 11 none
  statics := none }

def pool8 : Array CpInfo := pool [(1, .class_ 2), (0, u "java/lang/constant/ConstantDesc"), (0, .class_ 4), (0, u "java/lang/Object")] 32

/-- java/lang/constant/ConstantDesc -/
def k8 : Class := { plain "java/lang/constant/ConstantDesc" (some 0) with
  accessFlags := 1537
  interfaces := #[]
  cf := some (fileOf pool8 1 #[] #[] 1537 3 #[] #[])
  fields := #[]
  methods := #[]
  instanceTypes := #[]
  staticTypes := #[]
  resolved := Array.replicate 37 none
  statics := none }

def pool9 : Array CpInfo := pool [(2, .class_ 4), (1, u "java/lang/Object"), (0, u "<init>"), (0, u "()V"), (3, .class_ 12), (1, u "java/lang/String"), (0, u "value"), (0, u "[B"), (2, u "coder"), (0, u "B"), (2, u "hash"), (0, u "I"), (2, u "hashIsZero"), (0, u "Z"), (13, u "COMPACT_STRINGS"), (534, .class_ 576), (0, u "java/lang/CharSequence"), (22, u "CASE_INSENSITIVE_ORDER"), (0, u "Ljava/util/Comparator;"), (500, u "serialPersistentFields"), (0, u "[Ljava/io/ObjectStreamField;"), (0, .class_ 1104), (0, u "java/lang/String$CaseInsensitiveComparator"), (1, .class_ 1107), (0, u "java/io/Serializable"), (0, .class_ 1109), (0, u "java/lang/Comparable"), (0, .class_ 1111), (0, u "java/lang/constant/Constable"), (0, .class_ 1113), (0, u "java/lang/constant/ConstantDesc"), (2, u "serialVersionUID"), (0, u "J"), (3, u "REPL"), (0, u "C"), (2, u "LATIN1"), (1, u "UTF16")] 323

def k9m0 : Method := { name := "<init>", desc := "()V", sig := { parameters := [], returnType := none }, accessFlags := 1, code := none }
/-- java/lang/String -/
def k9 : Class := { plain "java/lang/String" (some 0) with
  accessFlags := 49
  interfaces := #[4, 5, 6, 7, 8]
  cf := some (fileOf pool9 10 #[.nestMembers #[1103]] #[{ accessFlags := 1, nameIndex := 5, descriptorIndex := 6, attributes := #[] }] 49 2 #[1106, 1108, 575, 1110, 1112] #[{ accessFlags := 18, nameIndex := 13, descriptorIndex := 14, attributes := #[] }, { accessFlags := 18, nameIndex := 17, descriptorIndex := 18, attributes := #[] }, { accessFlags := 2, nameIndex := 21, descriptorIndex := 22, attributes := #[] }, { accessFlags := 2, nameIndex := 25, descriptorIndex := 26, attributes := #[] }, { accessFlags := 26, nameIndex := 1116, descriptorIndex := 1117, attributes := #[] }, { accessFlags := 24, nameIndex := 40, descriptorIndex := 26, attributes := #[] }, { accessFlags := 26, nameIndex := 1101, descriptorIndex := 1102, attributes := #[] }, { accessFlags := 26, nameIndex := 1121, descriptorIndex := 1122, attributes := #[] }, { accessFlags := 25, nameIndex := 599, descriptorIndex := 600, attributes := #[] }, { accessFlags := 24, nameIndex := 1125, descriptorIndex := 18, attributes := #[] }, { accessFlags := 24, nameIndex := 1127, descriptorIndex := 18, attributes := #[] }])
  fields := #[{ name := "value", type := (.array .byte), accessFlags := 18, slot := 0, constantValue := 0 }, { name := "coder", type := .byte, accessFlags := 18, slot := 1, constantValue := 0 }, { name := "hash", type := .int, accessFlags := 2, slot := 2, constantValue := 0 }, { name := "hashIsZero", type := .boolean, accessFlags := 2, slot := 3, constantValue := 0 }, { name := "serialVersionUID", type := .long, accessFlags := 26, slot := 0, constantValue := 0 }, { name := "COMPACT_STRINGS", type := .boolean, accessFlags := 24, slot := 1, constantValue := 0 }, { name := "serialPersistentFields", type := (.array (.object "java/io/ObjectStreamField")), accessFlags := 26, slot := 2, constantValue := 0 }, { name := "REPL", type := .char, accessFlags := 26, slot := 3, constantValue := 0 }, { name := "CASE_INSENSITIVE_ORDER", type := (.object "java/util/Comparator"), accessFlags := 25, slot := 4, constantValue := 0 }, { name := "LATIN1", type := .byte, accessFlags := 24, slot := 5, constantValue := 0 }, { name := "UTF16", type := .byte, accessFlags := 24, slot := 6, constantValue := 0 }]
  methods := #[k9m0]
  instanceTypes := #[(.array .byte), .byte, .int, .boolean]
  staticTypes := #[.long, .boolean, (.array (.object "java/io/ObjectStreamField")), .char, (.object "java/util/Comparator"), .byte, .byte]
  resolved := Array.replicate 1451 none
  statics := none }

def pool10 : Array CpInfo := pool [(1, u "java/lang/Cloneable"), (0, .class_ 1), (0, u "java/lang/Object"), (0, .class_ 3)] 3

/-- java/lang/Cloneable -/
def k10 : Class := { plain "java/lang/Cloneable" (some 0) with
  accessFlags := 1537
  interfaces := #[]
  cf := some (fileOf pool10 2 #[] #[] 1537 4 #[] #[])
  fields := #[]
  methods := #[]
  instanceTypes := #[]
  staticTypes := #[]
  resolved := Array.replicate 8 none
  statics := none }

/-- the primitive byte -/
def k11 : Class := { plain "byte" none with kind := .primitive 'B', accessFlags := 0x411 }
/-- [B -/
def k12 : Class := { plain "[B" (some 0) with kind := .array 11 .byte, interfaces := #[10, 4], accessFlags := 1041 }

/-- the primitive int -/
def k13 : Class := { plain "int" none with kind := .primitive 'I', accessFlags := 0x411 }
/-- [I -/
def k14 : Class := { plain "[I" (some 0) with kind := .array 13 .int, interfaces := #[10, 4], accessFlags := 1041 }

def heap : Heap := #[]
def classes : Array Class := #[k0, k1, k2, k3, k4, k5, k6, k7, k8, k9, k10, k11, k12, k13, k14]
def interned : List (Array UInt16 × Addr) := []
def slotsUsed : Nat := 0
def theMethod : MethodId := ⟨1, 1⟩
def args0 : Array Value := #[.int 5, .int 5, .int 5]
def aboutOver (below : List Frame) : State where
  vm := { classes := classes, interned := interned.toArray }
  heap := heap
  slotsUsed := slotsUsed
  threads := #[{ frames := .invoking theMethod args0 :: below }]
def below0 : List Frame := [.native { method := ⟨0, 0⟩, args := #[] }]
def about1 : State := aboutOver below0
def p0 : Program := .bare "" "" ""
def e0 : Env := launch0.env 0 0 0
theorem w_frames : about1.frames = Frame.invoking theMethod args0 :: below0 := rfl
set_option maxRecDepth 65536 in
theorem w_args : argsFit about1.vm theMethod args0 = true := by decide +kernel
set_option maxRecDepth 65536 in
theorem w_heap : heapFits about1 = true := by decide +kernel
set_option maxRecDepth 65536 in
theorem w_runnable : about1.curStatus? = some .runnable := by decide +kernel
set_option maxRecDepth 65536 in
theorem w_alone : about1.alone = true := by decide +kernel
set_option maxRecDepth 65536 in
theorem w_named : about1.methodNamed? x = some theMethod := by decide +kernel
set_option maxRecDepth 65536 in
theorem w_hears : about1.hears theMethod below0 = true := by decide +kernel
set_option maxRecDepth 65536 in
theorem w_ripe : about1.ripe theMethod args0 below0 = true := by decide +kernel
theorem w_running : about1.status = .running := rfl
set_option maxRecDepth 65536 in
theorem w_room : about1.hasRoom e0.platform room_1 = true :=
  launch0.hasRoom_least _ room_1 (by decide +kernel) (by decide +kernel) (by decide +kernel) (by decide +kernel) (by decide +kernel) (by decide +kernel)
theorem allAtoms_all (ts : List Jvm.Cond) (a : Array Jvm.Value) (st : Jvm.State) : (allAtoms ts).before a st = ts.all (fun c => c.before a st) := by
  induction ts with
  | nil => rfl
  | cons c t ih =>
    show (Jvm.Cond.and c (allAtoms t)).before a st = _
    rw [Jvm.Cond.before_and, ih, List.all_cons]
def words1 : List Jvm.Cond := Jvm.Cond.code x code maxLocals ret :: tables_1
/-- a 'code' word, met by the world's own term for the bytes: nothing is compared byte by byte -/
theorem code_word {y : MethodName} {bytes : ByteArray} {mx : Nat} {rt : Option FieldType} {a : Array Value} {s : State} {m : MethodId} {meth : Method} {c : Code} (h1 : s.methodNamed? y = some m) (h2 : s.vm.method? m = some meth) (h3 : meth.code = some c) (h4 : c.code = bytes)
    (h5 : (c.maxLocals == mx && c.exceptionTable.isEmpty && decide (c.maxStack ≤ mostOperands) && decide (meth.sig.returnType = rt) && !meth.locks && decide (parseMethodDescriptor y.desc = some meth.sig)) = true) : (Jvm.Cond.code y bytes mx rt).before a s = true := by
  simp only [Bool.and_eq_true, beq_iff_eq, Bool.not_eq_true', decide_eq_true_eq] at h5
  obtain ⟨⟨⟨⟨⟨g1, g2⟩, g3⟩, g4⟩, g5⟩, g6⟩ := h5
  simp [Cond.before, Cond.holds, Cond.value, h1, h2, h3, h4, g1, g2, g3, g4, g5, g6]
def isCode : Jvm.Cond → Bool
  | .code _ _ _ _ => true
  | _ => false
theorem all_split {L : List Jvm.Cond} {P : Jvm.Cond → Bool} (h1 : L.all (fun c => isCode c || P c) = true) (h2 : ∀ c ∈ L.filter isCode, P c = true) : L.all P = true := by
  refine List.all_eq_true.mpr fun c hc => ?_
  have h := List.all_eq_true.mp h1 c hc
  rcases Bool.eq_false_or_eq_true (isCode c) with hi | hi
  · exact h2 c (List.mem_filter.mpr ⟨hc, hi⟩)
  · simpa [hi] using h
set_option maxRecDepth 65536 in
theorem w_c0 : (Jvm.Cond.code x code maxLocals ret).before args0 about1 = true := code_word (m := ⟨1, 1⟩) (meth := k1m1) (c := k1c1) (by decide +kernel) rfl rfl rfl (by decide +kernel)
set_option maxRecDepth 65536 in
theorem w_c1 : (Jvm.Cond.code ({ cls := "com/example/libvalise/libvalise/ZipReader$Entry", name := "<init>", desc := "(Ljava/lang/String;Z[BIIJJJJIIZ[B)V" } : Jvm.MethodName) prog_18_method_1_code (18 : Nat) (Option.none : Option Jvm.ClassFile.FieldType)).before args0 about1 = true := code_word (m := ⟨3, 0⟩) (meth := k3m0) (c := k3c0) (by decide +kernel) rfl rfl rfl (by decide +kernel)
set_option maxRecDepth 65536 in
theorem w_c2 : (Jvm.Cond.code ({ cls := "java/lang/Record", name := "<init>", desc := "()V" } : Jvm.MethodName) jdk_30_method_1_code (1 : Nat) (Option.none : Option Jvm.ClassFile.FieldType)).before args0 about1 = true := code_word (m := ⟨2, 0⟩) (meth := k2m0) (c := k2c0) (by decide +kernel) rfl rfl rfl (by decide +kernel)
set_option maxRecDepth 65536 in
theorem w_c3 : (Jvm.Cond.code ({ cls := "java/lang/Object", name := "<init>", desc := "()V" } : Jvm.MethodName) object_method_1_code (1 : Nat) (Option.none : Option Jvm.ClassFile.FieldType)).before args0 about1 = true := code_word (m := ⟨0, 0⟩) (meth := k0m0) (c := k0c0) (by decide +kernel) rfl rfl rfl (by decide +kernel)
set_option maxRecDepth 65536 in
theorem w_c4 : (Jvm.Cond.code ({ cls := "com/example/libvalise/libvalise/ZipReader$Entry", name := "isSymbolicLink", desc := "()Z" } : Jvm.MethodName) prog_18_method_6_code (1 : Nat) (Option.some Jvm.ClassFile.FieldType.boolean)).before args0 about1 = true := code_word (m := ⟨3, 1⟩) (meth := k3m1) (c := k3c1) (by decide +kernel) rfl rfl rfl (by decide +kernel)
def codes1 : List Jvm.Cond := [Jvm.Cond.code x code maxLocals ret, Jvm.Cond.code ({ cls := "com/example/libvalise/libvalise/ZipReader$Entry", name := "<init>", desc := "(Ljava/lang/String;Z[BIIJJJJIIZ[B)V" } : Jvm.MethodName) prog_18_method_1_code (18 : Nat) (Option.none : Option Jvm.ClassFile.FieldType), Jvm.Cond.code ({ cls := "java/lang/Record", name := "<init>", desc := "()V" } : Jvm.MethodName) jdk_30_method_1_code (1 : Nat) (Option.none : Option Jvm.ClassFile.FieldType), Jvm.Cond.code ({ cls := "java/lang/Object", name := "<init>", desc := "()V" } : Jvm.MethodName) object_method_1_code (1 : Nat) (Option.none : Option Jvm.ClassFile.FieldType), Jvm.Cond.code ({ cls := "com/example/libvalise/libvalise/ZipReader$Entry", name := "isSymbolicLink", desc := "()Z" } : Jvm.MethodName) prog_18_method_6_code (1 : Nat) (Option.some Jvm.ClassFile.FieldType.boolean)]
set_option maxRecDepth 65536 in
theorem codes_eq : words1.filter isCode = codes1 := rfl
theorem w_codes : ∀ c ∈ words1.filter isCode, c.before args0 about1 = true := by
  rw [codes_eq]
  intro c hc
  simp only [codes1, List.mem_cons, List.not_mem_nil, or_false] at hc
  rcases hc with rfl | rfl | rfl | rfl | rfl
  · exact w_c0
  · exact w_c1
  · exact w_c2
  · exact w_c3
  · exact w_c4
set_option maxRecDepth 65536 in
theorem w_t1 : (words1.take 24).all (fun c => isCode c || c.before args0 about1) = true := by decide +kernel
set_option maxRecDepth 65536 in
theorem w_t2 : ((words1.drop 24).take 24).all (fun c => isCode c || c.before args0 about1) = true := by decide +kernel
set_option maxRecDepth 65536 in
theorem w_t3 : ((words1.drop 24).drop 24).all (fun c => isCode c || c.before args0 about1) = true := by decide +kernel
theorem w_tables : (allAtoms (Jvm.Cond.code x code maxLocals ret :: tables_1)).before args0 about1 = true := by
  rw [allAtoms_all]
  show words1.all (fun c => c.before args0 about1) = true
  refine all_split ?_ w_codes
  rw [← List.take_append_drop 24 words1, List.all_append, w_t1, ← List.take_append_drop 24 (words1.drop 24), List.all_append, w_t2, w_t3]
  rfl
set_option maxRecDepth 65536 in
theorem w_case : (Jvm.Cond.and given_1 narrow_1).before args0 about1 = true := by decide +kernel
theorem w_applies : (headSpec (Jvm.Cond.code x code maxLocals ret :: tables_1) room_1).applies x e0.platform about1 = true :=
  (Spec.applies_iff w_frames).mpr ⟨w_running, w_runnable, w_alone, w_named, w_hears, w_ripe, w_room, w_tables⟩
theorem atStart : AtStart classFile x code maxLocals ret World_1 tables_1 room_1 Calls_1 rest_1 Pre_1 launch0 p0 e0 about1 theMethod args0 below0 :=
  ⟨lists_1, trivial, launch0.admits_env _ _ _, launch0.least_env, fairChoices_fair.cas, fairChoices_fair.clock, w_frames, w_args, w_heap, w_applies, trivial, trivial, w_case⟩
end start1
theorem witness_1 : WitnessClaimed_1 := ⟨start1.p0, start1.e0, start1.about1, start1.theMethod, start1.args0, start1.below0, start1.atStart⟩
end Jvm.Pilot.@@N@@
