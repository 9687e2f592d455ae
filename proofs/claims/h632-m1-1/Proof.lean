import JvmDerived
import JvmDerived.Pilot.@@N@@Statement
import JvmDerived.Pilot.@@N@@Code
set_option linter.unusedVariables false
set_option linter.unusedSimpArgs false
namespace Jvm.RoadKit
open Sem ClassFile Op Lib Jvm.Stand Jvm.Free Jvm.LawKit
section New
variable {p : Program} {l : Launch} {e : Env} {R : Room} {s : State} {m : MethodId} {args : Array Value} {below : List Frame} {meth : Method} {c : Code} {T : State} {locs : List Loc} {cells slots : Nat}
theorem retI (X : Stand p l e R s m args below meth c T locs cells slots) (hx : p.tables.exec = Jvm.exec) {pc : Nat} {Ls : Array Slot} {z : Int32} {rest : List Value} (hret : meth.sig.returnType = some .int) (hd : decode c.code pc = .ok (.ireturn, 1)) {fs : List Frame}
    (hl : ∀ (f : JFrame) (acts : List Action), f.method = m → f.locked = none → f.entered = [] → (doReturn e (T.setTop f) acts (some (.int z))).1 = T.setFrames fs) : Steps p.tables e below (T.setTop (mkF m pc Ls (.int z :: rest))) (T.setFrames fs) := by
  have hm' : T.vm.method? m = some meth := X.method'
  have hn : narrow .int (.int z) = .int z := rfl
  show Steps p.tables e below (T.setTop { method := m, pc := pc, locals := Ls, stack := _ :: rest, locked := none }) _
  jvm_step X.here [X.here.top, hx, hd, hm', hret, hn]
  first | (intro acts; rw [hl _ acts rfl rfl rfl]) | rw [hl _ _ rfl rfl rfl]
  exact Steps.refl _
end New
/-! the walk in continuation form: from the state T at the frame f the run ends by a return, as Q says -/
section Own
variable {p : Program} {l : Launch} {e : Env} {R : Room} {s : State} {m : MethodId} {args : Array Value} {below : List Frame} {meth : Method} {c : Code} {T T' : State} {locs : List Loc} {cells slots k n : Nat} {Q : Option Value → Heap → List Loc → Prop} {f f' : JFrame}
def ownE (p : Program) (e : Env) (below : List Frame) (s : State) (Q : Option Value → Heap → List Loc → Prop) (k n : Nat) (T : State) (f : JFrame) : Prop :=
  ∃ s₂ o, Steps p.tables e below (T.setTop f) s₂ ∧ s₂.status = .running ∧ Ended s₂ below o ∧ ∃ v L, o = .returned v ∧ Q v s₂.heap L ∧ FrameEnd s o s₂ L k n
theorem ownE.go (g : ∀ t, Steps p.tables e below (T'.setTop f') t → Steps p.tables e below (T.setTop f) t) (h : ownE p e below s Q k n T' f') : ownE p e below s Q k n T f := by
  obtain ⟨s₂, o, h1, r⟩ := h
  exact ⟨s₂, o, g _ h1, r⟩
theorem ownE.goS (g : Steps p.tables e below (T.setTop f) (T'.setTop f')) (h : ownE p e below s Q k n T' f') : ownE p e below s Q k n T f := by
  obtain ⟨s₂, o, h1, r⟩ := h
  exact ⟨s₂, o, g.trans h1, r⟩
theorem ownE.ret (X : Stand p l e R s m args below meth c T locs cells slots) {v : Option Value} (hlk : meth.locks = false) (hv : meth.sig.returnType = none → v = none)
    (st : ∀ fs, (∀ (f : JFrame) (acts : List Action), f.method = m → f.locked = none → f.entered = [] → (doReturn e (T.setTop f) acts v).1 = T.setFrames fs) → Steps p.tables e below (T.setTop f) (T.setFrames fs))
    (hQ : Q v T.heap locs) (hk : cells ≤ k) (hn : slots ≤ n) : ownE p e below s Q k n T f := by
  obtain ⟨fs, hr, hrun, hended, hW, hsame⟩ := X.leave (v := v) hv hlk
  exact ⟨_, _, st fs hr, hrun, hended, _, _, rfl, hQ, ⟨_, rfl⟩, hW, hsame.mono hk hn⟩
theorem ownE.retI (X : Stand p l e R s m args below meth c T locs cells slots) (hx : p.tables.exec = Jvm.exec) (hlk : meth.locks = false) {pc : Nat} {Ls : Array Slot} {z : Int32} {rest : List Value} (hret : meth.sig.returnType = some .int) (hd : decode c.code pc = .ok (.ireturn, 1))
    (hQ : Q (some (.int z)) T.heap locs) (hk : cells ≤ k) (hn : slots ≤ n) : ownE p e below s Q k n T (mkF m pc Ls (.int z :: rest)) :=
  ownE.ret X hlk (fun h => by rw [hret] at h; cases h) (fun fs hr => Jvm.RoadKit.retI X hx hret hd hr) hQ hk hn
theorem ownE.retN (X : Stand p l e R s m args below meth c T locs cells slots) (hx : p.tables.exec = Jvm.exec) (hlk : meth.locks = false) {pc : Nat} {Ls : Array Slot} {z : Int32} {rest : List Value} {t : FieldType} (hret : meth.sig.returnType = some t) (ht : t = .boolean ∨ t = .byte ∨ t = .char ∨ t = .short) (hd : decode c.code pc = .ok (.ireturn, 1))
    (hQ : Q (some (.int (nar t z))) T.heap locs) (hk : cells ≤ k) (hn : slots ≤ n) : ownE p e below s Q k n T (mkF m pc Ls (.int z :: rest)) :=
  ownE.ret X hlk (fun h => by rw [hret] at h; cases h) (fun fs hr => Jvm.RoadKit.retN X hx hret ht hd hr) hQ hk hn
theorem ownE.retL (X : Stand p l e R s m args below meth c T locs cells slots) (hx : p.tables.exec = Jvm.exec) (hlk : meth.locks = false) {pc : Nat} {Ls : Array Slot} {z : Int64} {rest : List Value} (hret : meth.sig.returnType = some .long) (hd : decode c.code pc = .ok (.lreturn, 1))
    (hQ : Q (some (.long z)) T.heap locs) (hk : cells ≤ k) (hn : slots ≤ n) : ownE p e below s Q k n T (mkF m pc Ls (.long z :: rest)) :=
  ownE.ret X hlk (fun h => by rw [hret] at h; cases h) (fun fs hr => Jvm.RoadKit.retOut X hx hret rfl (Or.inr (Or.inl ⟨rfl, rfl, z, rfl⟩)) hd hr) hQ hk hn
theorem ownE.retA (X : Stand p l e R s m args below meth c T locs cells slots) (hx : p.tables.exec = Jvm.exec) (hlk : meth.locks = false) {pc : Nat} {Ls : Array Slot} {z : Value} {rest : List Value} {t : FieldType} (hret : meth.sig.returnType = some t) (ht : t.isReference = true) (hz : z.isRef = true) (hn' : narrow t z = z) (hd : decode c.code pc = .ok (.areturn, 1))
    (hQ : Q (some z) T.heap locs) (hk : cells ≤ k) (hn : slots ≤ n) : ownE p e below s Q k n T (mkF m pc Ls (z :: rest)) :=
  ownE.ret X hlk (fun h => by rw [hret] at h; cases h) (fun fs hr => Jvm.RoadKit.retOut X hx hret hn' (Or.inr (Or.inr (Or.inr (Or.inr ⟨rfl, ht, hz⟩)))) hd hr) hQ hk hn
theorem ownE.retV (X : Stand p l e R s m args below meth c T locs cells slots) (hx : p.tables.exec = Jvm.exec) (hlk : meth.locks = false) {pc : Nat} {Ls : Array Slot} (hret : meth.sig.returnType = none) (hd : decode c.code pc = .ok (.return_, 1))
    (hQ : Q none T.heap locs) (hk : cells ≤ k) (hn : slots ≤ n) : ownE p e below s Q k n T (mkF m pc Ls []) :=
  ownE.ret X hlk (fun _ => rfl) (fun fs hr => X.returnOut hx hret hd hr) hQ hk hn
end Own
theorem own_eqV {u : Term} {args : Array Value} {Z : State} {x k : Int32} (e : u.eval args Z none [] Z = some (.int x)) : (Jvm.Cond.eq u (.int k)).value args Z none Z [] = some (decide (x = k)) := by
  have ek : (Term.int k).eval args Z none [] Z = some (.int k) := Term.int_eval k
  simp only [Cond.value]
  rw [e, ek]
theorem own_selP {s : State} {args : Array Value} {y : MethodName} {n : Nat} (wi : (Cond.instantiable y.cls n).before args s = true) (hi : (Cond.instanceMethod y).before args s = true) (hp : s.PrivateAt y) (hy : y.cls ≠ "java/lang/invoke/MethodHandle" ∧ y.cls ≠ "java/lang/invoke/VarHandle") : (Cond.selects y.cls y y).before args s = true := by
  obtain ⟨c, k, h1, h2, -, h4, -⟩ := Cond.instantiable_spec wi
  exact selects_self_of_private h1 h2 (by simp at h4; exact h4.1) hp hi hy
end Jvm.RoadKit
namespace Jvm.RoadKit
open Sem ClassFile Op Lib Jvm.Stand Jvm.Free Jvm.LawKit
/-! the same where a String constant may be interned on the way: the frame's end is the wide one -/
section OwnW
variable {p : Program} {l : Launch} {e : Env} {R : Room} {s : State} {vm₁ : Vm} {m : MethodId} {args : Array Value} {below : List Frame} {meth : Method} {c : Code} {T T' : State} {locs : List Loc} {cells slots k n n₀ : Nat} {Q : Option Value → Heap → List Loc → Prop} {f f' : JFrame}
def ownW (p : Program) (e : Env) (below : List Frame) (s : State) (Q : Option Value → Heap → List Loc → Prop) (k n : Nat) (T : State) (f : JFrame) : Prop :=
  ∃ s₂ o, Steps p.tables e below (T.setTop f) s₂ ∧ s₂.status = .running ∧ Ended s₂ below o ∧ ∃ v L, o = .returned v ∧ Q v s₂.heap L ∧ ReturnedEndW s o s₂ L k n
theorem ownW.go (g : ∀ t, Steps p.tables e below (T'.setTop f') t → Steps p.tables e below (T.setTop f) t) (h : ownW p e below s Q k n T' f') : ownW p e below s Q k n T f := by
  obtain ⟨s₂, o, h1, r⟩ := h
  exact ⟨s₂, o, g _ h1, r⟩
theorem ownW.goS (g : Steps p.tables e below (T.setTop f) (T'.setTop f')) (h : ownW p e below s Q k n T' f') : ownW p e below s Q k n T f := by
  obtain ⟨s₂, o, h1, r⟩ := h
  exact ⟨s₂, o, g.trans h1, r⟩
theorem ownW.retN (X : Stand p l e R (s.setVm vm₁) m args below meth c T locs cells slots) (hx : p.tables.exec = Jvm.exec) (hlk : meth.locks = false) {pc : Nat} {Ls : Array Slot} {z : Int32} {rest : List Value} {t : FieldType} (hret : meth.sig.returnType = some t) (ht : t = .boolean ∨ t = .byte ∨ t = .char ∨ t = .short) (hd : decode c.code pc = .ok (.ireturn, 1))
    (hS : s.Since vm₁ n₀) (hn₀ : n₀ ≤ T.heap.size) (hQ : Q (some (.int (nar t z))) T.heap locs) (hk : cells ≤ k) (hn : slots ≤ n) : ownW p e below s Q k n T (mkF m pc Ls (.int z :: rest)) := by
  obtain ⟨fs, hr, hrun, hended, hEnd⟩ := X.leaveW hS hn₀ (v := some (.int (nar t z))) (fun h => by rw [hret] at h; cases h) hlk
  exact ⟨_, _, Jvm.RoadKit.retN X hx hret ht hd hr, hrun, hended, _, _, rfl, hQ, hEnd.1, hEnd.2.1, hEnd.2.2.1, hEnd.2.2.2.mono hk hn⟩
end OwnW
end Jvm.RoadKit
namespace Jvm.Pilot.@@N@@
open Jvm Jvm.ClassFile Sem Op Lib Jvm.Free Jvm.Stand Jvm.LawKit Jvm.RoadKit Bundle Jvm.Pilot.@@N@@.Jvm.D

section Start
variable {Z : State} {args : Array Value}
theorem own_eqI {u : Term} {k : Int32} (h : (Jvm.Cond.eq u (.int k)).value args Z none Z [] = some true) : u.eval args Z none [] Z = some (.int k) := by
  have ek : (Term.int k).eval args Z none [] Z = some (.int k) := Term.int_eval k
  simp only [Cond.value] at h
  rw [ek] at h
  generalize u.eval args Z none [] Z = w at h
  cases w with
  | none => simp at h
  | some v =>
    cases v <;> simp at h
    rw [h]
theorem own_fldI {t : Term} {a : Addr} {C n d : String} {k : Int32} (et : t.eval args Z none [] Z = some (.ref a)) (h : (Jvm.Cond.eq (.field t C n d) (.int k)).value args Z none Z [] = some true) : Fld Z Z.heap a C n d (.int k) := Fld.start ((fld_at et).symm.trans (own_eqI h))
theorem own_fldR {t : Term} {a : Addr} {C n d K : String} (et : t.eval args Z none [] Z = some (.ref a)) (h : (Jvm.Cond.exactly (.field t C n d) K).value args Z none Z [] = some true) : ∃ b, (Term.field t C n d).eval args Z none [] Z = some (.ref b) ∧ Fld Z Z.heap a C n d (.ref b) ∧ Exa Z Z.heap b K := by
  obtain ⟨b, e⟩ := exa_v h
  exact ⟨b, e, Fld.start ((fld_at et).symm.trans e), Exa.start e h⟩
theorem own_fldA {t : Term} {a : Addr} {C n d : String} {ty : FieldType} (et : t.eval args Z none [] Z = some (.ref a)) (h : (Jvm.Cond.arrayOf (.field t C n d) ty).value args Z none Z [] = some true) : ∃ b c, (Term.field t C n d).eval args Z none [] Z = some (.ref b) ∧ Fld Z Z.heap a C n d (.ref b) ∧ Arr Z Z.heap b c ty := by
  obtain ⟨b, e⟩ := arr_v h
  obtain ⟨c, A⟩ := Arr.start e h
  exact ⟨b, c, e, Fld.start ((fld_at et).symm.trans e), A⟩
theorem own_len {t : Term} {a : Addr} {c : Cell} {ty : FieldType} {k : Int32} (et : t.eval args Z none [] Z = some (.ref a)) (A : Arr Z Z.heap a c ty) (h : (Jvm.Cond.eq (.length t) (.int k)).value args Z none Z [] = some true) : c.slots.size < 2 ^ 31 ∧ c.slots.size.toInt32 = k := by
  have ha := A.fin (U := Z) (Vm.Alike.refl _)
  have q := own_eqI h
  by_cases hl : c.slots.size < 2 ^ 31
  · have e := (len_f et ha hl).symm.trans q
    exact ⟨hl, by simpa using e⟩
  · have hl' : ¬ c.slots.size < 2147483648 := hl
    simp [Term.eval, et, ha, hl'] at q
theorem own_elem {t : Term} {a : Addr} {c : Cell} {ty : FieldType} {j k : Int32} (et : t.eval args Z none [] Z = some (.ref a)) (A : Arr Z Z.heap a c ty) (h : (Jvm.Cond.eq (.elem t (.int j)) (.int k)).value args Z none Z [] = some true) : c.slots[j.toNatClampNeg]? = some (.int k) :=
  (elem_in (own_eqI h) et (Term.int_eval j) A.1).2
end Start

theorem own_strne {Z : State} {h : Heap} {a b va vb : Addr} {C n d : String} {ka kb : ClassId} {na nb : Int32} {ua ub : List Value} {ty : FieldType} {dv : Value} (Fa : Fld Z h a C n d (.ref va)) (Aa : Arv Z h va ka ty na ua dv) (Fb : Fld Z h b C n d (.ref vb)) (Ab : Arv Z h vb kb ty nb ub dv)
    (hd : na.toNatClampNeg ≠ nb.toNatClampNeg ∨ (0 < na.toNatClampNeg ∧ ua.getD 0 dv ≠ ub.getD 0 dv)) : a ≠ b := by
  by_cases e : va = vb
  · subst e
    exfalso
    obtain ⟨c1, A1, -, s1, -, H1, -⟩ := Aa
    obtain ⟨c2, A2, -, s2, -, H2, -⟩ := Ab
    cases A1.1.symm.trans A2.1
    rcases hd with hd | ⟨h0, hd⟩
    · exact hd (s1.symm.trans s2)
    · have q1 := H1 0 (by omega)
      have q2 := H2 0 (by omega)
      exact hd (Option.some.inj (q1.symm.trans q2))
  · exact Fld.ne Fa Fb (fun q => e (Value.ref.inj q))
theorem own_d1_0 : decode prog_9_method_4_code 0 = .ok (.aload_n 0, 1) := by decide +kernel
theorem own_d1_1 : decode prog_9_method_4_code 1 = .ok (.getfield 41, 3) := by decide +kernel
theorem own_d1_4 : decode prog_9_method_4_code 4 = .ok (.areturn, 1) := by decide +kernel
theorem own_pn0 : plainName "com/example/kolom/kolom/cql/Operator" = true := by first | (simp [plainName, overriddenIn]; done) | decide +kernel
theorem own_ef1 (m : MethodId) (x0 : Addr) : entryFrame m #[(.ref x0)] 1 = mkF m 0 #[.val (.ref x0)] [] := by first | (simp [entryFrame, mkF, argsToLocals, Value.category]; done) | rfl
def own_Q1 (Z : State) (r0 : Addr) (sx : Addr) (h0 : Heap) (n0 : Nat) (v : Option Value) (h : Heap) (L : List Loc) : Prop := v = some (.ref sx) ∧ Fr n0 L ∧ h = h0
set_option maxRecDepth 65536 in
set_option maxHeartbeats 40000000 in
theorem own_rm1 (l : Launch) (Z : State) (a0 : Array Value) (hw : ∀ d ∈ tables_1, d.before a0 Z = true) (ws : List Jvm.Cond) (r0 : Addr) (sx : Addr) (h0 : Heap) (n0 : Nat) (Z0 : n0 ≤ h0.size) (P0 : Fld Z h0 r0 "com/example/kolom/kolom/cql/Operator" "symbol" "Ljava/lang/String;" (.ref sx)) :
    MetFree l (⟨"com/example/kolom/kolom/cql/Operator", "symbol", "()Ljava/lang/String;"⟩ : MethodName) (head1 (Jvm.Cond.code (⟨"com/example/kolom/kolom/cql/Operator", "symbol", "()Ljava/lang/String;"⟩ : MethodName) prog_9_method_4_code 1 (some (.object "java/lang/String")) :: ws) ({ frames := 0, cells := 0, slots := 0, locals := 0 } : Room)) (fun a U => a = #[(.ref r0)] ∧ Z.Warmed39 U.vm ∧ U.heap = h0) (fun _ _ _ _ _ => True) (fun _ U o U' => ∃ v L, o = .returned v ∧ own_Q1 Z r0 sx h0 n0 v U'.heap L ∧ FrameEnd U o U' L ({ frames := 0, cells := 0, slots := 0, locals := 0 } : Room).cells ({ frames := 0, cells := 0, slots := 0, locals := 0 } : Room).slots) := by
  refine MetFree.of_bodySF (plainFor_of_name own_pn0) hisR ?_
  intro p e s m args below meth c s₁ Bd hml0 hP hK
  obtain ⟨rfl, hZ, hh⟩ := hP
  have hx := Bd.exec
  have hby := Bd.bytes
  have hret := Bd.returns
  have hlk := BodyLoose.notSynchronized Bd
  have hml : c.maxLocals = 1 := hml0
  have hown : s.vm.findClass "com/example/kolom/kolom/cql/Operator" = some m.cls := findClass_of_methodNamed Bd.named
  have hnm := (name_of_methodNamed Bd.named Bd.method).1
  have X0 : Stand p l e ({ frames := 0, cells := 0, slots := 0, locals := 0 } : Room) s m #[(.ref r0)] below meth c s₁ [] 0 0 := Stand.of_body Bd
  have e0 : s₁.heap = h0 := by rw [← hh, Bd.state]; rfl
  have N0 := Fr.nil n0
  have K0 : Keep h0 h0 [] := Keep.refl h0 _
  show ownE p e below s (own_Q1 Z r0 sx h0 n0) ({ frames := 0, cells := 0, slots := 0, locals := 0 } : Room).cells ({ frames := 0, cells := 0, slots := 0, locals := 0 } : Room).slots s₁ (entryFrame m #[(.ref r0)] 1)
  rw [own_ef1]
  refine ownE.go (T' := s₁) (f' := (mkF m 1 #[.val (.ref r0)] [(.ref r0)])) (fun t kt => ?_) ?_
  · show Steps p.tables e below (s₁.setTop (mkF m 0 #[.val (.ref r0)] [])) _
    refine XS.aloadN X0.here hx rfl (hb hby own_d1_0) rfl rfl ?_
    exact kt
  obtain ⟨T1, X1, e1, st1⟩ := getF X0 hx hZ hown (host := "") (Or.inl (hw _ (List.mem_of_getElem? (i := 22) rfl))) Via.refl e0 P0 (g := (mkF m 1 #[.val (.ref r0)] [(.ref r0)])) rfl rfl (hb hby own_d1_1)
  refine ownE.go (T' := T1) (f' := (mkF m 4 #[.val (.ref r0)] [(.ref sx)])) st1 ?_
  refine ownE.retA X1 hx hlk hret rfl rfl rfl (hb hby own_d1_4) ?_ (by decide) (by decide)
  show own_Q1 Z r0 sx h0 n0 _ T1.heap _
  rw [e1]
  exact ⟨rfl, N0, rfl⟩
theorem own_d4_0 : decode prog_9_method_8_code 0 = .ok (.aload_n 0, 1) := by decide +kernel
theorem own_d4_1 : decode prog_9_method_8_code 1 = .ok (.getstatic 10, 3) := by decide +kernel
theorem own_d4_4 : decode prog_9_method_8_code 4 = .ok (.if_acmp .eq 10, 3) := by decide +kernel
theorem own_d4_14 : decode prog_9_method_8_code 14 = .ok (.iconst 1, 1) := by decide +kernel
theorem own_d4_15 : decode prog_9_method_8_code 15 = .ok (.goto 4, 3) := by decide +kernel
theorem own_d4_19 : decode prog_9_method_8_code 19 = .ok (.ireturn, 1) := by decide +kernel
theorem own_ef4x (m : MethodId) (x0 : Addr) : entryFrame m #[(.ref x0)] 1 = mkF m 0 #[.val (.ref x0)] [] := by first | (simp [entryFrame, mkF, argsToLocals, Value.category]; done) | rfl
def own_f4x  : Int32 :=
  (1 : Int32)
def own_Q4x (Z : State) (r0 : Addr) (h0 : Heap) (n0 : Nat) (v : Option Value) (h : Heap) (L : List Loc) : Prop := v = some (.int (1 : Int32)) ∧ Fr n0 L ∧ h = h0
set_option maxRecDepth 65536 in
set_option maxHeartbeats 40000000 in
theorem own_rm4x (l : Launch) (Z : State) (a0 : Array Value) (hw : ∀ d ∈ tables_1, d.before a0 Z = true) (ws : List Jvm.Cond) (r0 : Addr) (h0 : Heap) (n0 : Nat) (Z0 : n0 ≤ h0.size) (P0 : Sta Z h0 "com/example/kolom/kolom/cql/Operator" "LTE" "Lcom/example/kolom/kolom/cql/Operator;" (.ref r0)) :
    MetFree l (⟨"com/example/kolom/kolom/cql/Operator", "isInclusive", "()Z"⟩ : MethodName) (head1 (Jvm.Cond.code (⟨"com/example/kolom/kolom/cql/Operator", "isInclusive", "()Z"⟩ : MethodName) prog_9_method_8_code 1 (some .boolean) :: ws) ({ frames := 0, cells := 0, slots := 0, locals := 0 } : Room)) (fun a U => a = #[(.ref r0)] ∧ Z.Warmed39 U.vm ∧ U.heap = h0) (fun _ _ _ _ _ => True) (fun _ U o U' => ∃ v L, o = .returned v ∧ own_Q4x Z r0 h0 n0 v U'.heap L ∧ FrameEnd U o U' L ({ frames := 0, cells := 0, slots := 0, locals := 0 } : Room).cells ({ frames := 0, cells := 0, slots := 0, locals := 0 } : Room).slots) := by
  refine MetFree.of_bodySF (plainFor_of_name own_pn0) hisR ?_
  intro p e s m args below meth c s₁ Bd hml0 hP hK
  obtain ⟨rfl, hZ, hh⟩ := hP
  have hx := Bd.exec
  have hby := Bd.bytes
  have hret := Bd.returns
  have hlk := BodyLoose.notSynchronized Bd
  have hml : c.maxLocals = 1 := hml0
  have hown : s.vm.findClass "com/example/kolom/kolom/cql/Operator" = some m.cls := findClass_of_methodNamed Bd.named
  have hnm := (name_of_methodNamed Bd.named Bd.method).1
  have X0 : Stand p l e ({ frames := 0, cells := 0, slots := 0, locals := 0 } : Room) s m #[(.ref r0)] below meth c s₁ [] 0 0 := Stand.of_body Bd
  have e0 : s₁.heap = h0 := by rw [← hh, Bd.state]; rfl
  have N0 := Fr.nil n0
  have K0 : Keep h0 h0 [] := Keep.refl h0 _
  show ownE p e below s (own_Q4x Z r0 h0 n0) ({ frames := 0, cells := 0, slots := 0, locals := 0 } : Room).cells ({ frames := 0, cells := 0, slots := 0, locals := 0 } : Room).slots s₁ (entryFrame m #[(.ref r0)] 1)
  rw [own_ef4x]
  refine ownE.go (T' := s₁) (f' := (mkF m 1 #[.val (.ref r0)] [(.ref r0)])) (fun t kt => ?_) ?_
  · show Steps p.tables e below (s₁.setTop (mkF m 0 #[.val (.ref r0)] [])) _
    refine XS.aloadN X0.here hx rfl (hb hby own_d4_0) rfl rfl ?_
    exact kt
  obtain ⟨T1, X1, e1, st1⟩ := getS2 X0 hx hZ hown (host := "") (Or.inl (hw _ (List.mem_of_getElem? (i := 52) rfl))) Via.refl e0 P0 (g := (mkF m 1 #[.val (.ref r0)] [(.ref r0)])) rfl (hb hby own_d4_1)
  refine ownE.go (T' := T1) (f' := (mkF m 4 #[.val (.ref r0)] [(.ref r0), (.ref r0)])) st1 ?_
  refine ownE.go (T' := T1) (f' := (mkF m 14 #[.val (.ref r0)] [])) (fun t kt => Jvm.RoadKit.acmp (g := (mkF m 4 #[.val (.ref r0)] [(.ref r0), (.ref r0)])) X1 hx rfl rfl rfl (pc0 := 4) (pc' := 14) (same := true) rfl (hb hby own_d4_4) rfl (decide_eq_true rfl) (by decide) (by decide) kt) ?_
  refine ownE.go (T' := T1) (f' := (mkF m 19 #[.val (.ref r0)] [(.int (1 : Int32))])) (fun t kt => ?_) ?_
  · show Steps p.tables e below (T1.setTop (mkF m 14 #[.val (.ref r0)] [])) _
    refine XS.iconst X1.here hx rfl (hb hby own_d4_14) ?_
    show Steps p.tables e below (T1.setTop (mkF m 15 #[.val (.ref r0)] [(.int (1 : Int32))])) _
    refine XS.goto X1.here hx rfl (pc0 := 15) (pc' := 19) rfl (hb hby own_d4_15) (by decide) (by decide) ?_
    exact kt
  refine ownE.retN X1 hx hlk (t := .boolean) hret (by simp) (hb hby own_d4_19) ?_ (by decide) (by decide)
  show own_Q4x Z r0 h0 n0 _ T1.heap _
  rw [e1]
  exact ⟨(by first | rfl | decide), N0, rfl⟩
theorem own_d4_7 : decode prog_9_method_8_code 7 = .ok (.aload_n 0, 1) := by decide +kernel
theorem own_d4_8 : decode prog_9_method_8_code 8 = .ok (.getstatic 16, 3) := by decide +kernel
theorem own_d4_11 : decode prog_9_method_8_code 11 = .ok (.if_acmp .ne 7, 3) := by decide +kernel
theorem own_ef4y (m : MethodId) (x0 : Addr) : entryFrame m #[(.ref x0)] 1 = mkF m 0 #[.val (.ref x0)] [] := by first | (simp [entryFrame, mkF, argsToLocals, Value.category]; done) | rfl
def own_f4y  : Int32 :=
  (1 : Int32)
def own_Q4y (Z : State) (r0 : Addr) (x1 : Addr) (h0 : Heap) (n0 : Nat) (v : Option Value) (h : Heap) (L : List Loc) : Prop := v = some (.int (1 : Int32)) ∧ Fr n0 L ∧ h = h0
set_option maxRecDepth 65536 in
set_option maxHeartbeats 40000000 in
theorem own_rm4y (l : Launch) (Z : State) (a0 : Array Value) (hw : ∀ d ∈ tables_1, d.before a0 Z = true) (ws : List Jvm.Cond) (r0 : Addr) (x1 : Addr) (h0 : Heap) (n0 : Nat) (Z0 : n0 ≤ h0.size) (P0 : Sta Z h0 "com/example/kolom/kolom/cql/Operator" "LTE" "Lcom/example/kolom/kolom/cql/Operator;" (.ref x1)) (P1 : r0 ≠ x1) (P2 : Sta Z h0 "com/example/kolom/kolom/cql/Operator" "GTE" "Lcom/example/kolom/kolom/cql/Operator;" (.ref r0)) :
    MetFree l (⟨"com/example/kolom/kolom/cql/Operator", "isInclusive", "()Z"⟩ : MethodName) (head1 (Jvm.Cond.code (⟨"com/example/kolom/kolom/cql/Operator", "isInclusive", "()Z"⟩ : MethodName) prog_9_method_8_code 1 (some .boolean) :: ws) ({ frames := 0, cells := 0, slots := 0, locals := 0 } : Room)) (fun a U => a = #[(.ref r0)] ∧ Z.Warmed39 U.vm ∧ U.heap = h0) (fun _ _ _ _ _ => True) (fun _ U o U' => ∃ v L, o = .returned v ∧ own_Q4y Z r0 x1 h0 n0 v U'.heap L ∧ FrameEnd U o U' L ({ frames := 0, cells := 0, slots := 0, locals := 0 } : Room).cells ({ frames := 0, cells := 0, slots := 0, locals := 0 } : Room).slots) := by
  refine MetFree.of_bodySF (plainFor_of_name own_pn0) hisR ?_
  intro p e s m args below meth c s₁ Bd hml0 hP hK
  obtain ⟨rfl, hZ, hh⟩ := hP
  have hx := Bd.exec
  have hby := Bd.bytes
  have hret := Bd.returns
  have hlk := BodyLoose.notSynchronized Bd
  have hml : c.maxLocals = 1 := hml0
  have hown : s.vm.findClass "com/example/kolom/kolom/cql/Operator" = some m.cls := findClass_of_methodNamed Bd.named
  have hnm := (name_of_methodNamed Bd.named Bd.method).1
  have X0 : Stand p l e ({ frames := 0, cells := 0, slots := 0, locals := 0 } : Room) s m #[(.ref r0)] below meth c s₁ [] 0 0 := Stand.of_body Bd
  have e0 : s₁.heap = h0 := by rw [← hh, Bd.state]; rfl
  have N0 := Fr.nil n0
  have K0 : Keep h0 h0 [] := Keep.refl h0 _
  show ownE p e below s (own_Q4y Z r0 x1 h0 n0) ({ frames := 0, cells := 0, slots := 0, locals := 0 } : Room).cells ({ frames := 0, cells := 0, slots := 0, locals := 0 } : Room).slots s₁ (entryFrame m #[(.ref r0)] 1)
  rw [own_ef4y]
  refine ownE.go (T' := s₁) (f' := (mkF m 1 #[.val (.ref r0)] [(.ref r0)])) (fun t kt => ?_) ?_
  · show Steps p.tables e below (s₁.setTop (mkF m 0 #[.val (.ref r0)] [])) _
    refine XS.aloadN X0.here hx rfl (hb hby own_d4_0) rfl rfl ?_
    exact kt
  obtain ⟨T1, X1, e1, st1⟩ := getS2 X0 hx hZ hown (host := "") (Or.inl (hw _ (List.mem_of_getElem? (i := 52) rfl))) Via.refl e0 P0 (g := (mkF m 1 #[.val (.ref r0)] [(.ref r0)])) rfl (hb hby own_d4_1)
  refine ownE.go (T' := T1) (f' := (mkF m 4 #[.val (.ref r0)] [(.ref x1), (.ref r0)])) st1 ?_
  refine ownE.go (T' := T1) (f' := (mkF m 7 #[.val (.ref r0)] [])) (fun t kt => Jvm.RoadKit.acmp (g := (mkF m 4 #[.val (.ref r0)] [(.ref x1), (.ref r0)])) X1 hx rfl rfl rfl (pc0 := 4) (pc' := 7) (same := false) rfl (hb hby own_d4_4) rfl (decide_eq_false fun q => P1 (Value.ref.inj q)) (by decide) (by decide) kt) ?_
  refine ownE.go (T' := T1) (f' := (mkF m 8 #[.val (.ref r0)] [(.ref r0)])) (fun t kt => ?_) ?_
  · show Steps p.tables e below (T1.setTop (mkF m 7 #[.val (.ref r0)] [])) _
    refine XS.aloadN X1.here hx rfl (hb hby own_d4_7) rfl rfl ?_
    exact kt
  obtain ⟨T2, X2, e2, st2⟩ := getS2 X1 hx hZ hown (host := "") (Or.inl (hw _ (List.mem_of_getElem? (i := 53) rfl))) Via.refl e1 P2 (g := (mkF m 8 #[.val (.ref r0)] [(.ref r0)])) rfl (hb hby own_d4_8)
  refine ownE.go (T' := T2) (f' := (mkF m 11 #[.val (.ref r0)] [(.ref r0), (.ref r0)])) st2 ?_
  refine ownE.go (T' := T2) (f' := (mkF m 14 #[.val (.ref r0)] [])) (fun t kt => Jvm.RoadKit.acmp (g := (mkF m 11 #[.val (.ref r0)] [(.ref r0), (.ref r0)])) X2 hx rfl rfl rfl (pc0 := 11) (pc' := 14) (same := true) rfl (hb hby own_d4_11) rfl (decide_eq_true rfl) (by decide) (by decide) kt) ?_
  refine ownE.go (T' := T2) (f' := (mkF m 19 #[.val (.ref r0)] [(.int (1 : Int32))])) (fun t kt => ?_) ?_
  · show Steps p.tables e below (T2.setTop (mkF m 14 #[.val (.ref r0)] [])) _
    refine XS.iconst X2.here hx rfl (hb hby own_d4_14) ?_
    show Steps p.tables e below (T2.setTop (mkF m 15 #[.val (.ref r0)] [(.int (1 : Int32))])) _
    refine XS.goto X2.here hx rfl (pc0 := 15) (pc' := 19) rfl (hb hby own_d4_15) (by decide) (by decide) ?_
    exact kt
  refine ownE.retN X2 hx hlk (t := .boolean) hret (by simp) (hb hby own_d4_19) ?_ (by decide) (by decide)
  show own_Q4y Z r0 x1 h0 n0 _ T2.heap _
  rw [e2]
  exact ⟨(by first | rfl | decide), N0, rfl⟩
theorem own_d4_18 : decode prog_9_method_8_code 18 = .ok (.iconst 0, 1) := by decide +kernel
theorem own_ef4z (m : MethodId) (x0 : Addr) : entryFrame m #[(.ref x0)] 1 = mkF m 0 #[.val (.ref x0)] [] := by first | (simp [entryFrame, mkF, argsToLocals, Value.category]; done) | rfl
def own_f4z  : Int32 :=
  (0 : Int32)
def own_Q4z (Z : State) (r0 : Addr) (x1 : Addr) (x2 : Addr) (h0 : Heap) (n0 : Nat) (v : Option Value) (h : Heap) (L : List Loc) : Prop := v = some (.int (0 : Int32)) ∧ Fr n0 L ∧ h = h0
set_option maxRecDepth 65536 in
set_option maxHeartbeats 40000000 in
theorem own_rm4z (l : Launch) (Z : State) (a0 : Array Value) (hw : ∀ d ∈ tables_1, d.before a0 Z = true) (ws : List Jvm.Cond) (r0 : Addr) (x1 : Addr) (x2 : Addr) (h0 : Heap) (n0 : Nat) (Z0 : n0 ≤ h0.size) (P0 : Sta Z h0 "com/example/kolom/kolom/cql/Operator" "LTE" "Lcom/example/kolom/kolom/cql/Operator;" (.ref x1)) (P1 : r0 ≠ x1) (P2 : Sta Z h0 "com/example/kolom/kolom/cql/Operator" "GTE" "Lcom/example/kolom/kolom/cql/Operator;" (.ref x2)) (P3 : r0 ≠ x2) :
    MetFree l (⟨"com/example/kolom/kolom/cql/Operator", "isInclusive", "()Z"⟩ : MethodName) (head1 (Jvm.Cond.code (⟨"com/example/kolom/kolom/cql/Operator", "isInclusive", "()Z"⟩ : MethodName) prog_9_method_8_code 1 (some .boolean) :: ws) ({ frames := 0, cells := 0, slots := 0, locals := 0 } : Room)) (fun a U => a = #[(.ref r0)] ∧ Z.Warmed39 U.vm ∧ U.heap = h0) (fun _ _ _ _ _ => True) (fun _ U o U' => ∃ v L, o = .returned v ∧ own_Q4z Z r0 x1 x2 h0 n0 v U'.heap L ∧ FrameEnd U o U' L ({ frames := 0, cells := 0, slots := 0, locals := 0 } : Room).cells ({ frames := 0, cells := 0, slots := 0, locals := 0 } : Room).slots) := by
  refine MetFree.of_bodySF (plainFor_of_name own_pn0) hisR ?_
  intro p e s m args below meth c s₁ Bd hml0 hP hK
  obtain ⟨rfl, hZ, hh⟩ := hP
  have hx := Bd.exec
  have hby := Bd.bytes
  have hret := Bd.returns
  have hlk := BodyLoose.notSynchronized Bd
  have hml : c.maxLocals = 1 := hml0
  have hown : s.vm.findClass "com/example/kolom/kolom/cql/Operator" = some m.cls := findClass_of_methodNamed Bd.named
  have hnm := (name_of_methodNamed Bd.named Bd.method).1
  have X0 : Stand p l e ({ frames := 0, cells := 0, slots := 0, locals := 0 } : Room) s m #[(.ref r0)] below meth c s₁ [] 0 0 := Stand.of_body Bd
  have e0 : s₁.heap = h0 := by rw [← hh, Bd.state]; rfl
  have N0 := Fr.nil n0
  have K0 : Keep h0 h0 [] := Keep.refl h0 _
  show ownE p e below s (own_Q4z Z r0 x1 x2 h0 n0) ({ frames := 0, cells := 0, slots := 0, locals := 0 } : Room).cells ({ frames := 0, cells := 0, slots := 0, locals := 0 } : Room).slots s₁ (entryFrame m #[(.ref r0)] 1)
  rw [own_ef4z]
  refine ownE.go (T' := s₁) (f' := (mkF m 1 #[.val (.ref r0)] [(.ref r0)])) (fun t kt => ?_) ?_
  · show Steps p.tables e below (s₁.setTop (mkF m 0 #[.val (.ref r0)] [])) _
    refine XS.aloadN X0.here hx rfl (hb hby own_d4_0) rfl rfl ?_
    exact kt
  obtain ⟨T1, X1, e1, st1⟩ := getS2 X0 hx hZ hown (host := "") (Or.inl (hw _ (List.mem_of_getElem? (i := 52) rfl))) Via.refl e0 P0 (g := (mkF m 1 #[.val (.ref r0)] [(.ref r0)])) rfl (hb hby own_d4_1)
  refine ownE.go (T' := T1) (f' := (mkF m 4 #[.val (.ref r0)] [(.ref x1), (.ref r0)])) st1 ?_
  refine ownE.go (T' := T1) (f' := (mkF m 7 #[.val (.ref r0)] [])) (fun t kt => Jvm.RoadKit.acmp (g := (mkF m 4 #[.val (.ref r0)] [(.ref x1), (.ref r0)])) X1 hx rfl rfl rfl (pc0 := 4) (pc' := 7) (same := false) rfl (hb hby own_d4_4) rfl (decide_eq_false fun q => P1 (Value.ref.inj q)) (by decide) (by decide) kt) ?_
  refine ownE.go (T' := T1) (f' := (mkF m 8 #[.val (.ref r0)] [(.ref r0)])) (fun t kt => ?_) ?_
  · show Steps p.tables e below (T1.setTop (mkF m 7 #[.val (.ref r0)] [])) _
    refine XS.aloadN X1.here hx rfl (hb hby own_d4_7) rfl rfl ?_
    exact kt
  obtain ⟨T2, X2, e2, st2⟩ := getS2 X1 hx hZ hown (host := "") (Or.inl (hw _ (List.mem_of_getElem? (i := 53) rfl))) Via.refl e1 P2 (g := (mkF m 8 #[.val (.ref r0)] [(.ref r0)])) rfl (hb hby own_d4_8)
  refine ownE.go (T' := T2) (f' := (mkF m 11 #[.val (.ref r0)] [(.ref x2), (.ref r0)])) st2 ?_
  refine ownE.go (T' := T2) (f' := (mkF m 18 #[.val (.ref r0)] [])) (fun t kt => Jvm.RoadKit.acmp (g := (mkF m 11 #[.val (.ref r0)] [(.ref x2), (.ref r0)])) X2 hx rfl rfl rfl (pc0 := 11) (pc' := 18) (same := false) rfl (hb hby own_d4_11) rfl (decide_eq_false fun q => P3 (Value.ref.inj q)) (by decide) (by decide) kt) ?_
  refine ownE.go (T' := T2) (f' := (mkF m 19 #[.val (.ref r0)] [(.int (0 : Int32))])) (fun t kt => ?_) ?_
  · show Steps p.tables e below (T2.setTop (mkF m 18 #[.val (.ref r0)] [])) _
    refine XS.iconst X2.here hx rfl (hb hby own_d4_18) ?_
    exact kt
  refine ownE.retN X2 hx hlk (t := .boolean) hret (by simp) (hb hby own_d4_19) ?_ (by decide) (by decide)
  show own_Q4z Z r0 x1 x2 h0 n0 _ T2.heap _
  rw [e2]
  exact ⟨(by first | rfl | decide), N0, rfl⟩
theorem own_six (x : Int32) : (x &&& (2147483647 : Int32)) % (6 : Int32) = 0 ∨ (x &&& (2147483647 : Int32)) % (6 : Int32) = 1 ∨ (x &&& (2147483647 : Int32)) % (6 : Int32) = 2 ∨ (x &&& (2147483647 : Int32)) % (6 : Int32) = 3 ∨ (x &&& (2147483647 : Int32)) % (6 : Int32) = 4 ∨ (x &&& (2147483647 : Int32)) % (6 : Int32) = 5 := by
  have h := c_mask x 2147483647 31 (by decide) (by decide)
  have p : ((2 ^ 31 : Nat) : Int) = 2147483648 := by decide
  rw [p] at h
  have q := (c_irem (x &&& 2147483647) 6 6 (by decide)).1 (by omega)
  simp only [← Int32.toInt_inj, q]
  have z0 : (0 : Int32).toInt = 0 := by decide
  have z1 : (1 : Int32).toInt = 1 := by decide
  have z2 : (2 : Int32).toInt = 2 := by decide
  have z3 : (3 : Int32).toInt = 3 := by decide
  have z4 : (4 : Int32).toInt = 4 := by decide
  have z5 : (5 : Int32).toInt = 5 := by decide
  rw [z0, z1, z2, z3, z4, z5]
  omega
theorem own_d3_0 : decode jdk_43_method_13_code 0 = .ok (.aload_n 0, 1) := by decide +kernel
theorem own_d3_1 : decode jdk_43_method_13_code 1 = .ok (.arraylength, 1) := by decide +kernel
theorem own_d3_2 : decode jdk_43_method_13_code 2 = .ok (.aload_n 1, 1) := by decide +kernel
theorem own_d3_3 : decode jdk_43_method_13_code 3 = .ok (.arraylength, 1) := by decide +kernel
theorem own_d3_4 : decode jdk_43_method_13_code 4 = .ok (.if_icmp .ne 30, 3) := by decide +kernel
theorem own_d3_7 : decode jdk_43_method_13_code 7 = .ok (.iconst 0, 1) := by decide +kernel
theorem own_d3_8 : decode jdk_43_method_13_code 8 = .ok (.istore_n 2, 1) := by decide +kernel
theorem own_d3_9 : decode jdk_43_method_13_code 9 = .ok (.iload_n 2, 1) := by decide +kernel
theorem own_d3_10 : decode jdk_43_method_13_code 10 = .ok (.aload_n 0, 1) := by decide +kernel
theorem own_d3_11 : decode jdk_43_method_13_code 11 = .ok (.arraylength, 1) := by decide +kernel
theorem own_d3_12 : decode jdk_43_method_13_code 12 = .ok (.if_icmp .ge 20, 3) := by decide +kernel
theorem own_d3_15 : decode jdk_43_method_13_code 15 = .ok (.aload_n 0, 1) := by decide +kernel
theorem own_d3_16 : decode jdk_43_method_13_code 16 = .ok (.iload_n 2, 1) := by decide +kernel
theorem own_d3_17 : decode jdk_43_method_13_code 17 = .ok (.baload, 1) := by decide +kernel
theorem own_d3_18 : decode jdk_43_method_13_code 18 = .ok (.aload_n 1, 1) := by decide +kernel
theorem own_d3_19 : decode jdk_43_method_13_code 19 = .ok (.iload_n 2, 1) := by decide +kernel
theorem own_d3_20 : decode jdk_43_method_13_code 20 = .ok (.baload, 1) := by decide +kernel
theorem own_d3_21 : decode jdk_43_method_13_code 21 = .ok (.if_icmp .eq 5, 3) := by decide +kernel
theorem own_d3_26 : decode jdk_43_method_13_code 26 = .ok (.iinc 2 1, 3) := by decide +kernel
theorem own_d3_29 : decode jdk_43_method_13_code 29 = .ok (.goto (-20), 3) := by decide +kernel
theorem own_d3_32 : decode jdk_43_method_13_code 32 = .ok (.iconst 1, 1) := by decide +kernel
theorem own_d3_33 : decode jdk_43_method_13_code 33 = .ok (.ireturn, 1) := by decide +kernel
theorem own_pn1 : plainName "java/lang/StringLatin1" = true := by first | (simp [plainName, overriddenIn]; done) | decide +kernel
theorem own_ef3e (m : MethodId) (x0 : Addr) (x1 : Addr) : entryFrame m #[(.ref x0), (.ref x1)] 3 = mkF m 0 #[.val (.ref x0), .val (.ref x1), .unset] [] := by first | (simp [entryFrame, mkF, argsToLocals, Value.category]; done) | rfl
def own_Q3e (Z : State) (r0 : Addr) (r1 : Addr) (ka : ClassId) (kb : ClassId) (b0 : Int32) (b1 : Int32) (h0 : Heap) (n0 : Nat) (v : Option Value) (h : Heap) (L : List Loc) : Prop := v = some (.int (1 : Int32)) ∧ Fr n0 L ∧ h = h0
set_option maxRecDepth 65536 in
set_option maxHeartbeats 40000000 in
theorem own_rm3e (l : Launch) (Z : State) (a0 : Array Value) (hw : ∀ d ∈ tables_1, d.before a0 Z = true) (ws : List Jvm.Cond) (r0 : Addr) (r1 : Addr) (ka : ClassId) (kb : ClassId) (b0 : Int32) (b1 : Int32) (h0 : Heap) (n0 : Nat) (Z0 : n0 ≤ h0.size) (P0 : Arv Z h0 r0 ka .byte (2 : Int32) [(.int b0), (.int b1)] (.int (0 : Int32))) (P1 : Arv Z h0 r1 kb .byte (2 : Int32) [(.int b0), (.int b1)] (.int (0 : Int32))) :
    MetFree l (⟨"java/lang/StringLatin1", "equals", "([B[B)Z"⟩ : MethodName) (head1 (Jvm.Cond.code (⟨"java/lang/StringLatin1", "equals", "([B[B)Z"⟩ : MethodName) jdk_43_method_13_code 3 (some .boolean) :: ws) ({ frames := 0, cells := 0, slots := 0, locals := 0 } : Room)) (fun a U => a = #[(.ref r0), (.ref r1)] ∧ Z.Warmed39 U.vm ∧ U.heap = h0) (fun _ _ _ _ _ => True) (fun _ U o U' => ∃ v L, o = .returned v ∧ own_Q3e Z r0 r1 ka kb b0 b1 h0 n0 v U'.heap L ∧ FrameEnd U o U' L ({ frames := 0, cells := 0, slots := 0, locals := 0 } : Room).cells ({ frames := 0, cells := 0, slots := 0, locals := 0 } : Room).slots) := by
  refine MetFree.of_bodySF (plainFor_of_name own_pn1) hisR ?_
  intro p e s m args below meth c s₁ Bd hml0 hP hK
  obtain ⟨rfl, hZ, hh⟩ := hP
  have hx := Bd.exec
  have hby := Bd.bytes
  have hret := Bd.returns
  have hlk := BodyLoose.notSynchronized Bd
  have hml : c.maxLocals = 3 := hml0
  have hown : s.vm.findClass "java/lang/StringLatin1" = some m.cls := findClass_of_methodNamed Bd.named
  have hnm := (name_of_methodNamed Bd.named Bd.method).1
  have X0 : Stand p l e ({ frames := 0, cells := 0, slots := 0, locals := 0 } : Room) s m #[(.ref r0), (.ref r1)] below meth c s₁ [] 0 0 := Stand.of_body Bd
  have e0 : s₁.heap = h0 := by rw [← hh, Bd.state]; rfl
  have N0 := Fr.nil n0
  have K0 : Keep h0 h0 [] := Keep.refl h0 _
  show ownE p e below s (own_Q3e Z r0 r1 ka kb b0 b1 h0 n0) ({ frames := 0, cells := 0, slots := 0, locals := 0 } : Room).cells ({ frames := 0, cells := 0, slots := 0, locals := 0 } : Room).slots s₁ (entryFrame m #[(.ref r0), (.ref r1)] 3)
  rw [own_ef3e]
  refine ownE.go (T' := s₁) (f' := (mkF m 1 #[.val (.ref r0), .val (.ref r1), .unset] [(.ref r0)])) (fun t kt => ?_) ?_
  · show Steps p.tables e below (s₁.setTop (mkF m 0 #[.val (.ref r0), .val (.ref r1), .unset] [])) _
    refine XS.aloadN X0.here hx rfl (hb hby own_d3_0) rfl rfl ?_
    exact kt
  obtain ⟨cl1, Ar1, q1, S1, Nn1, Hh1, G1⟩ := id P0
  refine ownE.go (T' := s₁) (f' := (mkF m 2 #[.val (.ref r0), .val (.ref r1), .unset] [(.int (2 : Int32))])) (fun t kt => X0.arraylength hx (by rw [e0]; exact Ar1.1) (State.isArrayOf_alike hZ.alike Ar1.2.1) (g := (mkF m 1 #[.val (.ref r0), .val (.ref r1), .unset] [(.ref r0)])) rfl rfl (hb hby own_d3_1) _ (by rw [len_of S1 Nn1]; exact kt)) ?_
  refine ownE.go (T' := s₁) (f' := (mkF m 3 #[.val (.ref r0), .val (.ref r1), .unset] [(.ref r1), (.int (2 : Int32))])) (fun t kt => ?_) ?_
  · show Steps p.tables e below (s₁.setTop (mkF m 2 #[.val (.ref r0), .val (.ref r1), .unset] [(.int (2 : Int32))])) _
    refine XS.aloadN X0.here hx rfl (hb hby own_d3_2) rfl rfl ?_
    exact kt
  obtain ⟨cl2, Ar2, q2, S2, Nn2, Hh2, G2⟩ := id P1
  refine ownE.go (T' := s₁) (f' := (mkF m 4 #[.val (.ref r0), .val (.ref r1), .unset] [(.int (2 : Int32)), (.int (2 : Int32))])) (fun t kt => X0.arraylength hx (by rw [e0]; exact Ar2.1) (State.isArrayOf_alike hZ.alike Ar2.2.1) (g := (mkF m 3 #[.val (.ref r0), .val (.ref r1), .unset] [(.ref r1), (.int (2 : Int32))])) rfl rfl (hb hby own_d3_3) _ (by rw [len_of S2 Nn2]; exact kt)) ?_
  refine ownE.go (T' := s₁) (f' := (mkF m 7 #[.val (.ref r0), .val (.ref r1), .unset] [])) (fun t kt => XS.icmpNo (g := (mkF m 4 #[.val (.ref r0), .val (.ref r1), .unset] [(.int (2 : Int32)), (.int (2 : Int32))])) X0.here hx rfl (hb hby own_d3_4) rfl (Jvm.Free.XT.ii_ne_f (by decide)) kt) ?_
  refine ownE.go (T' := s₁) (f' := (mkF m 11 #[.val (.ref r0), .val (.ref r1), .val (.int (0 : Int32))] [(.ref r0), (.int (0 : Int32))])) (fun t kt => ?_) ?_
  · show Steps p.tables e below (s₁.setTop (mkF m 7 #[.val (.ref r0), .val (.ref r1), .unset] [])) _
    refine XS.iconst X0.here hx rfl (hb hby own_d3_7) ?_
    show Steps p.tables e below (s₁.setTop (mkF m 8 #[.val (.ref r0), .val (.ref r1), .unset] [(.int (0 : Int32))])) _
    refine XS.istoreN X0.here hx rfl (hb hby own_d3_8) rfl (l' := #[.val (.ref r0), .val (.ref r1), .val (.int (0 : Int32))]) rfl ?_
    show Steps p.tables e below (s₁.setTop (mkF m 9 #[.val (.ref r0), .val (.ref r1), .val (.int (0 : Int32))] [])) _
    refine XS.iloadN X0.here hx rfl (hb hby own_d3_9) rfl ?_
    show Steps p.tables e below (s₁.setTop (mkF m 10 #[.val (.ref r0), .val (.ref r1), .val (.int (0 : Int32))] [(.int (0 : Int32))])) _
    refine XS.aloadN X0.here hx rfl (hb hby own_d3_10) rfl rfl ?_
    exact kt
  obtain ⟨cl3, Ar3, q3, S3, Nn3, Hh3, G3⟩ := id P0
  refine ownE.go (T' := s₁) (f' := (mkF m 12 #[.val (.ref r0), .val (.ref r1), .val (.int (0 : Int32))] [(.int (2 : Int32)), (.int (0 : Int32))])) (fun t kt => X0.arraylength hx (by rw [e0]; exact Ar3.1) (State.isArrayOf_alike hZ.alike Ar3.2.1) (g := (mkF m 11 #[.val (.ref r0), .val (.ref r1), .val (.int (0 : Int32))] [(.ref r0), (.int (0 : Int32))])) rfl rfl (hb hby own_d3_11) _ (by rw [len_of S3 Nn3]; exact kt)) ?_
  refine ownE.go (T' := s₁) (f' := (mkF m 15 #[.val (.ref r0), .val (.ref r1), .val (.int (0 : Int32))] [])) (fun t kt => XS.icmpNo (g := (mkF m 12 #[.val (.ref r0), .val (.ref r1), .val (.int (0 : Int32))] [(.int (2 : Int32)), (.int (0 : Int32))])) X0.here hx rfl (hb hby own_d3_12) rfl (Jvm.Free.XT.ii_ge_f (by decide)) kt) ?_
  refine ownE.go (T' := s₁) (f' := (mkF m 17 #[.val (.ref r0), .val (.ref r1), .val (.int (0 : Int32))] [(.int (0 : Int32)), (.ref r0)])) (fun t kt => ?_) ?_
  · show Steps p.tables e below (s₁.setTop (mkF m 15 #[.val (.ref r0), .val (.ref r1), .val (.int (0 : Int32))] [])) _
    refine XS.aloadN X0.here hx rfl (hb hby own_d3_15) rfl rfl ?_
    show Steps p.tables e below (s₁.setTop (mkF m 16 #[.val (.ref r0), .val (.ref r1), .val (.int (0 : Int32))] [(.ref r0)])) _
    refine XS.iloadN X0.here hx rfl (hb hby own_d3_16) rfl ?_
    exact kt
  obtain ⟨cl4, Ar4, q4, S4, Nn4, Hh4, G4⟩ := id P0
  refine ownE.go (T' := s₁) (f' := (mkF m 18 #[.val (.ref r0), .val (.ref r1), .val (.int (0 : Int32))] [(.int b0)])) (fun t kt => X0.baloadBytes hx (j := (0 : Int32)) (v := (.int b0)) (by rw [e0]; exact Ar4.1) (State.isArrayOf_alike hZ.alike Ar4.2.1) Ar4.2.2 (inb_of S4 ⟨by decide, by decide⟩) (Hh4.at (inb_of S4 ⟨by decide, by decide⟩) rfl) (g := (mkF m 17 #[.val (.ref r0), .val (.ref r1), .val (.int (0 : Int32))] [(.int (0 : Int32)), (.ref r0)])) rfl rfl (hb hby own_d3_17) _ kt) ?_
  refine ownE.go (T' := s₁) (f' := (mkF m 20 #[.val (.ref r0), .val (.ref r1), .val (.int (0 : Int32))] [(.int (0 : Int32)), (.ref r1), (.int b0)])) (fun t kt => ?_) ?_
  · show Steps p.tables e below (s₁.setTop (mkF m 18 #[.val (.ref r0), .val (.ref r1), .val (.int (0 : Int32))] [(.int b0)])) _
    refine XS.aloadN X0.here hx rfl (hb hby own_d3_18) rfl rfl ?_
    show Steps p.tables e below (s₁.setTop (mkF m 19 #[.val (.ref r0), .val (.ref r1), .val (.int (0 : Int32))] [(.ref r1), (.int b0)])) _
    refine XS.iloadN X0.here hx rfl (hb hby own_d3_19) rfl ?_
    exact kt
  obtain ⟨cl5, Ar5, q5, S5, Nn5, Hh5, G5⟩ := id P1
  refine ownE.go (T' := s₁) (f' := (mkF m 21 #[.val (.ref r0), .val (.ref r1), .val (.int (0 : Int32))] [(.int b0), (.int b0)])) (fun t kt => X0.baloadBytes hx (j := (0 : Int32)) (v := (.int b0)) (by rw [e0]; exact Ar5.1) (State.isArrayOf_alike hZ.alike Ar5.2.1) Ar5.2.2 (inb_of S5 ⟨by decide, by decide⟩) (Hh5.at (inb_of S5 ⟨by decide, by decide⟩) rfl) (g := (mkF m 20 #[.val (.ref r0), .val (.ref r1), .val (.int (0 : Int32))] [(.int (0 : Int32)), (.ref r1), (.int b0)])) rfl rfl (hb hby own_d3_20) _ kt) ?_
  refine ownE.go (T' := s₁) (f' := (mkF m 26 #[.val (.ref r0), .val (.ref r1), .val (.int (0 : Int32))] [])) (fun t kt => XS.icmpYes (g := (mkF m 21 #[.val (.ref r0), .val (.ref r1), .val (.int (0 : Int32))] [(.int b0), (.int b0)])) X0.here hx rfl (pc0 := 21) (pc' := 26) rfl (hb hby own_d3_21) rfl (Jvm.Free.XT.ii_eq_t rfl) (by decide) (by decide) kt) ?_
  refine ownE.go (T' := s₁) (f' := (mkF m 11 #[.val (.ref r0), .val (.ref r1), .val (.int (1 : Int32))] [(.ref r0), (.int (1 : Int32))])) (fun t kt => ?_) ?_
  · show Steps p.tables e below (s₁.setTop (mkF m 26 #[.val (.ref r0), .val (.ref r1), .val (.int (0 : Int32))] [])) _
    refine XS.iinc X0.here hx rfl (hb hby own_d3_26) rfl (l' := #[.val (.ref r0), .val (.ref r1), .val (.int (1 : Int32))]) rfl ?_
    show Steps p.tables e below (s₁.setTop (mkF m 29 #[.val (.ref r0), .val (.ref r1), .val (.int (1 : Int32))] [])) _
    refine XS.goto X0.here hx rfl (pc0 := 29) (pc' := 9) rfl (hb hby own_d3_29) (by decide) (by decide) ?_
    show Steps p.tables e below (s₁.setTop (mkF m 9 #[.val (.ref r0), .val (.ref r1), .val (.int (1 : Int32))] [])) _
    refine XS.iloadN X0.here hx rfl (hb hby own_d3_9) rfl ?_
    show Steps p.tables e below (s₁.setTop (mkF m 10 #[.val (.ref r0), .val (.ref r1), .val (.int (1 : Int32))] [(.int (1 : Int32))])) _
    refine XS.aloadN X0.here hx rfl (hb hby own_d3_10) rfl rfl ?_
    exact kt
  obtain ⟨cl6, Ar6, q6, S6, Nn6, Hh6, G6⟩ := id P0
  refine ownE.go (T' := s₁) (f' := (mkF m 12 #[.val (.ref r0), .val (.ref r1), .val (.int (1 : Int32))] [(.int (2 : Int32)), (.int (1 : Int32))])) (fun t kt => X0.arraylength hx (by rw [e0]; exact Ar6.1) (State.isArrayOf_alike hZ.alike Ar6.2.1) (g := (mkF m 11 #[.val (.ref r0), .val (.ref r1), .val (.int (1 : Int32))] [(.ref r0), (.int (1 : Int32))])) rfl rfl (hb hby own_d3_11) _ (by rw [len_of S6 Nn6]; exact kt)) ?_
  refine ownE.go (T' := s₁) (f' := (mkF m 15 #[.val (.ref r0), .val (.ref r1), .val (.int (1 : Int32))] [])) (fun t kt => XS.icmpNo (g := (mkF m 12 #[.val (.ref r0), .val (.ref r1), .val (.int (1 : Int32))] [(.int (2 : Int32)), (.int (1 : Int32))])) X0.here hx rfl (hb hby own_d3_12) rfl (Jvm.Free.XT.ii_ge_f (by decide)) kt) ?_
  refine ownE.go (T' := s₁) (f' := (mkF m 17 #[.val (.ref r0), .val (.ref r1), .val (.int (1 : Int32))] [(.int (1 : Int32)), (.ref r0)])) (fun t kt => ?_) ?_
  · show Steps p.tables e below (s₁.setTop (mkF m 15 #[.val (.ref r0), .val (.ref r1), .val (.int (1 : Int32))] [])) _
    refine XS.aloadN X0.here hx rfl (hb hby own_d3_15) rfl rfl ?_
    show Steps p.tables e below (s₁.setTop (mkF m 16 #[.val (.ref r0), .val (.ref r1), .val (.int (1 : Int32))] [(.ref r0)])) _
    refine XS.iloadN X0.here hx rfl (hb hby own_d3_16) rfl ?_
    exact kt
  obtain ⟨cl7, Ar7, q7, S7, Nn7, Hh7, G7⟩ := id P0
  refine ownE.go (T' := s₁) (f' := (mkF m 18 #[.val (.ref r0), .val (.ref r1), .val (.int (1 : Int32))] [(.int b1)])) (fun t kt => X0.baloadBytes hx (j := (1 : Int32)) (v := (.int b1)) (by rw [e0]; exact Ar7.1) (State.isArrayOf_alike hZ.alike Ar7.2.1) Ar7.2.2 (inb_of S7 ⟨by decide, by decide⟩) (Hh7.at (inb_of S7 ⟨by decide, by decide⟩) rfl) (g := (mkF m 17 #[.val (.ref r0), .val (.ref r1), .val (.int (1 : Int32))] [(.int (1 : Int32)), (.ref r0)])) rfl rfl (hb hby own_d3_17) _ kt) ?_
  refine ownE.go (T' := s₁) (f' := (mkF m 20 #[.val (.ref r0), .val (.ref r1), .val (.int (1 : Int32))] [(.int (1 : Int32)), (.ref r1), (.int b1)])) (fun t kt => ?_) ?_
  · show Steps p.tables e below (s₁.setTop (mkF m 18 #[.val (.ref r0), .val (.ref r1), .val (.int (1 : Int32))] [(.int b1)])) _
    refine XS.aloadN X0.here hx rfl (hb hby own_d3_18) rfl rfl ?_
    show Steps p.tables e below (s₁.setTop (mkF m 19 #[.val (.ref r0), .val (.ref r1), .val (.int (1 : Int32))] [(.ref r1), (.int b1)])) _
    refine XS.iloadN X0.here hx rfl (hb hby own_d3_19) rfl ?_
    exact kt
  obtain ⟨cl8, Ar8, q8, S8, Nn8, Hh8, G8⟩ := id P1
  refine ownE.go (T' := s₁) (f' := (mkF m 21 #[.val (.ref r0), .val (.ref r1), .val (.int (1 : Int32))] [(.int b1), (.int b1)])) (fun t kt => X0.baloadBytes hx (j := (1 : Int32)) (v := (.int b1)) (by rw [e0]; exact Ar8.1) (State.isArrayOf_alike hZ.alike Ar8.2.1) Ar8.2.2 (inb_of S8 ⟨by decide, by decide⟩) (Hh8.at (inb_of S8 ⟨by decide, by decide⟩) rfl) (g := (mkF m 20 #[.val (.ref r0), .val (.ref r1), .val (.int (1 : Int32))] [(.int (1 : Int32)), (.ref r1), (.int b1)])) rfl rfl (hb hby own_d3_20) _ kt) ?_
  refine ownE.go (T' := s₁) (f' := (mkF m 26 #[.val (.ref r0), .val (.ref r1), .val (.int (1 : Int32))] [])) (fun t kt => XS.icmpYes (g := (mkF m 21 #[.val (.ref r0), .val (.ref r1), .val (.int (1 : Int32))] [(.int b1), (.int b1)])) X0.here hx rfl (pc0 := 21) (pc' := 26) rfl (hb hby own_d3_21) rfl (Jvm.Free.XT.ii_eq_t rfl) (by decide) (by decide) kt) ?_
  refine ownE.go (T' := s₁) (f' := (mkF m 11 #[.val (.ref r0), .val (.ref r1), .val (.int (2 : Int32))] [(.ref r0), (.int (2 : Int32))])) (fun t kt => ?_) ?_
  · show Steps p.tables e below (s₁.setTop (mkF m 26 #[.val (.ref r0), .val (.ref r1), .val (.int (1 : Int32))] [])) _
    refine XS.iinc X0.here hx rfl (hb hby own_d3_26) rfl (l' := #[.val (.ref r0), .val (.ref r1), .val (.int (2 : Int32))]) rfl ?_
    show Steps p.tables e below (s₁.setTop (mkF m 29 #[.val (.ref r0), .val (.ref r1), .val (.int (2 : Int32))] [])) _
    refine XS.goto X0.here hx rfl (pc0 := 29) (pc' := 9) rfl (hb hby own_d3_29) (by decide) (by decide) ?_
    show Steps p.tables e below (s₁.setTop (mkF m 9 #[.val (.ref r0), .val (.ref r1), .val (.int (2 : Int32))] [])) _
    refine XS.iloadN X0.here hx rfl (hb hby own_d3_9) rfl ?_
    show Steps p.tables e below (s₁.setTop (mkF m 10 #[.val (.ref r0), .val (.ref r1), .val (.int (2 : Int32))] [(.int (2 : Int32))])) _
    refine XS.aloadN X0.here hx rfl (hb hby own_d3_10) rfl rfl ?_
    exact kt
  obtain ⟨cl9, Ar9, q9, S9, Nn9, Hh9, G9⟩ := id P0
  refine ownE.go (T' := s₁) (f' := (mkF m 12 #[.val (.ref r0), .val (.ref r1), .val (.int (2 : Int32))] [(.int (2 : Int32)), (.int (2 : Int32))])) (fun t kt => X0.arraylength hx (by rw [e0]; exact Ar9.1) (State.isArrayOf_alike hZ.alike Ar9.2.1) (g := (mkF m 11 #[.val (.ref r0), .val (.ref r1), .val (.int (2 : Int32))] [(.ref r0), (.int (2 : Int32))])) rfl rfl (hb hby own_d3_11) _ (by rw [len_of S9 Nn9]; exact kt)) ?_
  refine ownE.go (T' := s₁) (f' := (mkF m 32 #[.val (.ref r0), .val (.ref r1), .val (.int (2 : Int32))] [])) (fun t kt => XS.icmpYes (g := (mkF m 12 #[.val (.ref r0), .val (.ref r1), .val (.int (2 : Int32))] [(.int (2 : Int32)), (.int (2 : Int32))])) X0.here hx rfl (pc0 := 12) (pc' := 32) rfl (hb hby own_d3_12) rfl (Jvm.Free.XT.ii_ge_t (by decide)) (by decide) (by decide) kt) ?_
  refine ownE.go (T' := s₁) (f' := (mkF m 33 #[.val (.ref r0), .val (.ref r1), .val (.int (2 : Int32))] [(.int (1 : Int32))])) (fun t kt => ?_) ?_
  · show Steps p.tables e below (s₁.setTop (mkF m 32 #[.val (.ref r0), .val (.ref r1), .val (.int (2 : Int32))] [])) _
    refine XS.iconst X0.here hx rfl (hb hby own_d3_32) ?_
    exact kt
  refine ownE.retN X0 hx hlk (t := .boolean) hret (by simp) (hb hby own_d3_33) ?_ (by decide) (by decide)
  show own_Q3e Z r0 r1 ka kb b0 b1 h0 n0 _ s₁.heap _
  rw [e0]
  exact ⟨rfl, N0, rfl⟩
theorem own_pd2 : parseMethodDescriptor "([B[B)Z" = some ⟨[(.array .byte), (.array .byte)], some .boolean⟩ := by decide +kernel
theorem own_d2_0 : decode jdk_42_method_66_code 0 = .ok (.aload_n 0, 1) := by decide +kernel
theorem own_d2_1 : decode jdk_42_method_66_code 1 = .ok (.aload_n 1, 1) := by decide +kernel
theorem own_d2_2 : decode jdk_42_method_66_code 2 = .ok (.if_acmp .ne 5, 3) := by decide +kernel
theorem own_d2_5 : decode jdk_42_method_66_code 5 = .ok (.iconst 1, 1) := by decide +kernel
theorem own_d2_6 : decode jdk_42_method_66_code 6 = .ok (.ireturn, 1) := by decide +kernel
theorem own_d2_7 : decode jdk_42_method_66_code 7 = .ok (.aload_n 1, 1) := by decide +kernel
theorem own_d2_8 : decode jdk_42_method_66_code 8 = .ok (.instanceof 10, 3) := by decide +kernel
theorem own_d2_11 : decode jdk_42_method_66_code 11 = .ok (.ifCond .eq 43, 3) := by decide +kernel
theorem own_d2_14 : decode jdk_42_method_66_code 14 = .ok (.aload_n 1, 1) := by decide +kernel
theorem own_d2_15 : decode jdk_42_method_66_code 15 = .ok (.checkcast 10, 3) := by decide +kernel
theorem own_d2_18 : decode jdk_42_method_66_code 18 = .ok (.astore_n 2, 1) := by decide +kernel
theorem own_d2_19 : decode jdk_42_method_66_code 19 = .ok (.getstatic 38, 3) := by decide +kernel
theorem own_d2_22 : decode jdk_42_method_66_code 22 = .ok (.ifCond .eq 14, 3) := by decide +kernel
theorem own_d2_25 : decode jdk_42_method_66_code 25 = .ok (.aload_n 0, 1) := by decide +kernel
theorem own_d2_26 : decode jdk_42_method_66_code 26 = .ok (.getfield 15, 3) := by decide +kernel
theorem own_d2_29 : decode jdk_42_method_66_code 29 = .ok (.aload_n 2, 1) := by decide +kernel
theorem own_d2_30 : decode jdk_42_method_66_code 30 = .ok (.getfield 15, 3) := by decide +kernel
theorem own_d2_33 : decode jdk_42_method_66_code 33 = .ok (.if_icmp .ne 21, 3) := by decide +kernel
theorem own_d2_36 : decode jdk_42_method_66_code 36 = .ok (.aload_n 0, 1) := by decide +kernel
theorem own_d2_37 : decode jdk_42_method_66_code 37 = .ok (.getfield 9, 3) := by decide +kernel
theorem own_d2_40 : decode jdk_42_method_66_code 40 = .ok (.aload_n 2, 1) := by decide +kernel
theorem own_d2_41 : decode jdk_42_method_66_code 41 = .ok (.getfield 9, 3) := by decide +kernel
theorem own_d2_44 : decode jdk_42_method_66_code 44 = .ok (.invokestatic 541, 3) := by decide +kernel
theorem own_d2_47 : decode jdk_42_method_66_code 47 = .ok (.ifCond .eq 7, 3) := by decide +kernel
theorem own_d2_50 : decode jdk_42_method_66_code 50 = .ok (.iconst 1, 1) := by decide +kernel
theorem own_d2_51 : decode jdk_42_method_66_code 51 = .ok (.goto 4, 3) := by decide +kernel
theorem own_d2_55 : decode jdk_42_method_66_code 55 = .ok (.ireturn, 1) := by decide +kernel
theorem own_pn3 : plainName "java/lang/String" = true := by first | (simp [plainName, overriddenIn]; done) | decide +kernel
theorem own_ef2e (m : MethodId) (x0 : Addr) (x1 : Addr) : entryFrame m #[(.ref x0), (.ref x1)] 3 = mkF m 0 #[.val (.ref x0), .val (.ref x1), .unset] [] := by first | (simp [entryFrame, mkF, argsToLocals, Value.category]; done) | rfl
def own_Q2e (Z : State) (r0 : Addr) (r1 : Addr) (va : Addr) (vb : Addr) (ka : ClassId) (kb : ClassId) (b0 : Int32) (b1 : Int32) (cs : Int32) (h0 : Heap) (n0 : Nat) (v : Option Value) (h : Heap) (L : List Loc) : Prop := v = some (.int (1 : Int32)) ∧ Fr n0 L ∧ h = h0
set_option maxRecDepth 65536 in
set_option maxHeartbeats 40000000 in
theorem own_rm2e (l : Launch) (Z : State) (a0 : Array Value) (hw : ∀ d ∈ tables_1, d.before a0 Z = true) (ws : List Jvm.Cond) (r0 : Addr) (r1 : Addr) (va : Addr) (vb : Addr) (ka : ClassId) (kb : ClassId) (b0 : Int32) (b1 : Int32) (cs : Int32) (h0 : Heap) (n0 : Nat) (Z0 : n0 ≤ h0.size) (P0 : Exa Z h0 r0 "java/lang/String") (P1 : Fld Z h0 r0 "java/lang/String" "coder" "B" (.int (0 : Int32))) (P2 : Fld Z h0 r0 "java/lang/String" "value" "[B" (.ref va)) (P3 : Arv Z h0 va ka .byte (2 : Int32) [(.int b0), (.int b1)] (.int (0 : Int32))) (P4 : Exa Z h0 r1 "java/lang/String") (P5 : Fld Z h0 r1 "java/lang/String" "coder" "B" (.int (0 : Int32))) (P6 : Fld Z h0 r1 "java/lang/String" "value" "[B" (.ref vb)) (P7 : Arv Z h0 vb kb .byte (2 : Int32) [(.int b0), (.int b1)] (.int (0 : Int32))) (P8 : Sta Z h0 "java/lang/String" "COMPACT_STRINGS" "Z" (.int cs)) (hcsn : ¬ cs = (0 : Int32)) :
    MetFree l (⟨"java/lang/String", "equals", "(Ljava/lang/Object;)Z"⟩ : MethodName) (head1 (Jvm.Cond.code (⟨"java/lang/String", "equals", "(Ljava/lang/Object;)Z"⟩ : MethodName) jdk_42_method_66_code 3 (some .boolean) :: ws) ({ frames := 1, cells := 0, slots := 0, locals := 14 } : Room)) (fun a U => a = #[(.ref r0), (.ref r1)] ∧ Z.Warmed39 U.vm ∧ U.heap = h0) (fun _ _ _ _ _ => True) (fun _ U o U' => ∃ v L, o = .returned v ∧ own_Q2e Z r0 r1 va vb ka kb b0 b1 cs h0 n0 v U'.heap L ∧ FrameEnd U o U' L ({ frames := 1, cells := 0, slots := 0, locals := 14 } : Room).cells ({ frames := 1, cells := 0, slots := 0, locals := 14 } : Room).slots) := by
  refine MetFree.of_bodySF (plainFor_of_name own_pn3) hisR ?_
  intro p e s m args below meth c s₁ Bd hml0 hP hK
  obtain ⟨rfl, hZ, hh⟩ := hP
  have hx := Bd.exec
  have hby := Bd.bytes
  have hret := Bd.returns
  have hlk := BodyLoose.notSynchronized Bd
  have hml : c.maxLocals = 3 := hml0
  have hown : s.vm.findClass "java/lang/String" = some m.cls := findClass_of_methodNamed Bd.named
  have hnm := (name_of_methodNamed Bd.named Bd.method).1
  have X0 : Stand p l e ({ frames := 1, cells := 0, slots := 0, locals := 14 } : Room) s m #[(.ref r0), (.ref r1)] below meth c s₁ [] 0 0 := Stand.of_body Bd
  have e0 : s₁.heap = h0 := by rw [← hh, Bd.state]; rfl
  have N0 := Fr.nil n0
  have K0 : Keep h0 h0 [] := Keep.refl h0 _
  show ownE p e below s (own_Q2e Z r0 r1 va vb ka kb b0 b1 cs h0 n0) ({ frames := 1, cells := 0, slots := 0, locals := 14 } : Room).cells ({ frames := 1, cells := 0, slots := 0, locals := 14 } : Room).slots s₁ (entryFrame m #[(.ref r0), (.ref r1)] 3)
  rw [own_ef2e]
  refine ownE.go (T' := s₁) (f' := (mkF m 2 #[.val (.ref r0), .val (.ref r1), .unset] [(.ref r1), (.ref r0)])) (fun t kt => ?_) ?_
  · show Steps p.tables e below (s₁.setTop (mkF m 0 #[.val (.ref r0), .val (.ref r1), .unset] [])) _
    refine XS.aloadN X0.here hx rfl (hb hby own_d2_0) rfl rfl ?_
    show Steps p.tables e below (s₁.setTop (mkF m 1 #[.val (.ref r0), .val (.ref r1), .unset] [(.ref r0)])) _
    refine XS.aloadN X0.here hx rfl (hb hby own_d2_1) rfl rfl ?_
    exact kt
  by_cases hc1 : r0 = r1
  · -- pc 2
    refine ownE.go (T' := s₁) (f' := (mkF m 5 #[.val (.ref r0), .val (.ref r1), .unset] [])) (fun t kt => Jvm.RoadKit.acmp (g := (mkF m 2 #[.val (.ref r0), .val (.ref r1), .unset] [(.ref r1), (.ref r0)])) X0 hx rfl rfl rfl (pc0 := 2) (pc' := 5) (same := true) rfl (hb hby own_d2_2) rfl (decide_eq_true (congrArg Value.ref hc1)) (by decide) (by decide) kt) ?_
    refine ownE.go (T' := s₁) (f' := (mkF m 6 #[.val (.ref r0), .val (.ref r1), .unset] [(.int (1 : Int32))])) (fun t kt => ?_) ?_
    · show Steps p.tables e below (s₁.setTop (mkF m 5 #[.val (.ref r0), .val (.ref r1), .unset] [])) _
      refine XS.iconst X0.here hx rfl (hb hby own_d2_5) ?_
      exact kt
    refine ownE.retN X0 hx hlk (t := .boolean) hret (by simp) (hb hby own_d2_6) ?_ (by decide) (by decide)
    show own_Q2e Z r0 r1 va vb ka kb b0 b1 cs h0 n0 _ s₁.heap _
    rw [e0]
    exact ⟨rfl, N0, rfl⟩
  · -- pc 2
    refine ownE.go (T' := s₁) (f' := (mkF m 7 #[.val (.ref r0), .val (.ref r1), .unset] [])) (fun t kt => Jvm.RoadKit.acmp (g := (mkF m 2 #[.val (.ref r0), .val (.ref r1), .unset] [(.ref r1), (.ref r0)])) X0 hx rfl rfl rfl (pc0 := 2) (pc' := 7) (same := false) rfl (hb hby own_d2_2) rfl (decide_eq_false fun q => hc1 (Value.ref.inj q)) (by decide) (by decide) kt) ?_
    refine ownE.go (T' := s₁) (f' := (mkF m 8 #[.val (.ref r0), .val (.ref r1), .unset] [(.ref r1)])) (fun t kt => ?_) ?_
    · show Steps p.tables e below (s₁.setTop (mkF m 7 #[.val (.ref r0), .val (.ref r1), .unset] [])) _
      refine XS.aloadN X0.here hx rfl (hb hby own_d2_7) rfl rfl ?_
      exact kt
    obtain ⟨T2, X2, e2, st2⟩ := instY X0 hx hZ hown (hw _ (List.mem_of_getElem? (i := 37) rfl)) e0 (Ins.self P4) (g := (mkF m 8 #[.val (.ref r0), .val (.ref r1), .unset] [(.ref r1)])) rfl rfl (hb hby own_d2_8)
    refine ownE.go (T' := T2) (f' := (mkF m 11 #[.val (.ref r0), .val (.ref r1), .unset] [(.int (1 : Int32))])) st2 ?_
    refine ownE.go (T' := T2) (f' := (mkF m 14 #[.val (.ref r0), .val (.ref r1), .unset] [])) (fun t kt => XS.ifNo (g := (mkF m 11 #[.val (.ref r0), .val (.ref r1), .unset] [(.int (1 : Int32))])) X2.here hx rfl (hb hby own_d2_11) rfl (Jvm.Free.XT.i0_eq_f (by decide)) kt) ?_
    refine ownE.go (T' := T2) (f' := (mkF m 15 #[.val (.ref r0), .val (.ref r1), .unset] [(.ref r1)])) (fun t kt => ?_) ?_
    · show Steps p.tables e below (T2.setTop (mkF m 14 #[.val (.ref r0), .val (.ref r1), .unset] [])) _
      refine XS.aloadN X2.here hx rfl (hb hby own_d2_14) rfl rfl ?_
      exact kt
    obtain ⟨T3, X3, e3, st3⟩ := castY X2 hx hZ hown (hw _ (List.mem_of_getElem? (i := 37) rfl)) e2 (Ins.self P4) (g := (mkF m 15 #[.val (.ref r0), .val (.ref r1), .unset] [(.ref r1)])) rfl rfl (hb hby own_d2_15)
    refine ownE.go (T' := T3) (f' := (mkF m 18 #[.val (.ref r0), .val (.ref r1), .unset] [(.ref r1)])) st3 ?_
    refine ownE.go (T' := T3) (f' := (mkF m 19 #[.val (.ref r0), .val (.ref r1), .val (.ref r1)] [])) (fun t kt => ?_) ?_
    · show Steps p.tables e below (T3.setTop (mkF m 18 #[.val (.ref r0), .val (.ref r1), .unset] [(.ref r1)])) _
      refine XS.astoreN X3.here hx rfl (hb hby own_d2_18) rfl rfl (l' := #[.val (.ref r0), .val (.ref r1), .val (.ref r1)]) rfl ?_
      exact kt
    obtain ⟨T4, X4, e4, st4⟩ := getS2 X3 hx hZ hown (host := "") (Or.inl (hw _ (List.mem_of_getElem? (i := 39) rfl))) Via.refl e3 P8 (g := (mkF m 19 #[.val (.ref r0), .val (.ref r1), .val (.ref r1)] [])) rfl (hb hby own_d2_19)
    refine ownE.go (T' := T4) (f' := (mkF m 22 #[.val (.ref r0), .val (.ref r1), .val (.ref r1)] [(.int cs)])) st4 ?_
    refine ownE.go (T' := T4) (f' := (mkF m 25 #[.val (.ref r0), .val (.ref r1), .val (.ref r1)] [])) (fun t kt => XS.ifNo (g := (mkF m 22 #[.val (.ref r0), .val (.ref r1), .val (.ref r1)] [(.int cs)])) X4.here hx rfl (hb hby own_d2_22) rfl (Jvm.Free.XT.i0_eq_f hcsn) kt) ?_
    refine ownE.go (T' := T4) (f' := (mkF m 26 #[.val (.ref r0), .val (.ref r1), .val (.ref r1)] [(.ref r0)])) (fun t kt => ?_) ?_
    · show Steps p.tables e below (T4.setTop (mkF m 25 #[.val (.ref r0), .val (.ref r1), .val (.ref r1)] [])) _
      refine XS.aloadN X4.here hx rfl (hb hby own_d2_25) rfl rfl ?_
      exact kt
    obtain ⟨T5, X5, e5, st5⟩ := getF X4 hx hZ hown (host := "") (Or.inl (hw _ (List.mem_of_getElem? (i := 40) rfl))) Via.refl e4 P1 (g := (mkF m 26 #[.val (.ref r0), .val (.ref r1), .val (.ref r1)] [(.ref r0)])) rfl rfl (hb hby own_d2_26)
    refine ownE.go (T' := T5) (f' := (mkF m 29 #[.val (.ref r0), .val (.ref r1), .val (.ref r1)] [(.int (0 : Int32))])) st5 ?_
    refine ownE.go (T' := T5) (f' := (mkF m 30 #[.val (.ref r0), .val (.ref r1), .val (.ref r1)] [(.ref r1), (.int (0 : Int32))])) (fun t kt => ?_) ?_
    · show Steps p.tables e below (T5.setTop (mkF m 29 #[.val (.ref r0), .val (.ref r1), .val (.ref r1)] [(.int (0 : Int32))])) _
      refine XS.aloadN X5.here hx rfl (hb hby own_d2_29) rfl rfl ?_
      exact kt
    obtain ⟨T6, X6, e6, st6⟩ := getF X5 hx hZ hown (host := "") (Or.inl (hw _ (List.mem_of_getElem? (i := 40) rfl))) Via.refl e5 P5 (g := (mkF m 30 #[.val (.ref r0), .val (.ref r1), .val (.ref r1)] [(.ref r1), (.int (0 : Int32))])) rfl rfl (hb hby own_d2_30)
    refine ownE.go (T' := T6) (f' := (mkF m 33 #[.val (.ref r0), .val (.ref r1), .val (.ref r1)] [(.int (0 : Int32)), (.int (0 : Int32))])) st6 ?_
    refine ownE.go (T' := T6) (f' := (mkF m 36 #[.val (.ref r0), .val (.ref r1), .val (.ref r1)] [])) (fun t kt => XS.icmpNo (g := (mkF m 33 #[.val (.ref r0), .val (.ref r1), .val (.ref r1)] [(.int (0 : Int32)), (.int (0 : Int32))])) X6.here hx rfl (hb hby own_d2_33) rfl (Jvm.Free.XT.ii_ne_f (by decide)) kt) ?_
    refine ownE.go (T' := T6) (f' := (mkF m 37 #[.val (.ref r0), .val (.ref r1), .val (.ref r1)] [(.ref r0)])) (fun t kt => ?_) ?_
    · show Steps p.tables e below (T6.setTop (mkF m 36 #[.val (.ref r0), .val (.ref r1), .val (.ref r1)] [])) _
      refine XS.aloadN X6.here hx rfl (hb hby own_d2_36) rfl rfl ?_
      exact kt
    obtain ⟨T7, X7, e7, st7⟩ := getF X6 hx hZ hown (host := "") (Or.inl (hw _ (List.mem_of_getElem? (i := 41) rfl))) Via.refl e6 P2 (g := (mkF m 37 #[.val (.ref r0), .val (.ref r1), .val (.ref r1)] [(.ref r0)])) rfl rfl (hb hby own_d2_37)
    refine ownE.go (T' := T7) (f' := (mkF m 40 #[.val (.ref r0), .val (.ref r1), .val (.ref r1)] [(.ref va)])) st7 ?_
    refine ownE.go (T' := T7) (f' := (mkF m 41 #[.val (.ref r0), .val (.ref r1), .val (.ref r1)] [(.ref r1), (.ref va)])) (fun t kt => ?_) ?_
    · show Steps p.tables e below (T7.setTop (mkF m 40 #[.val (.ref r0), .val (.ref r1), .val (.ref r1)] [(.ref va)])) _
      refine XS.aloadN X7.here hx rfl (hb hby own_d2_40) rfl rfl ?_
      exact kt
    obtain ⟨T8, X8, e8, st8⟩ := getF X7 hx hZ hown (host := "") (Or.inl (hw _ (List.mem_of_getElem? (i := 41) rfl))) Via.refl e7 P6 (g := (mkF m 41 #[.val (.ref r0), .val (.ref r1), .val (.ref r1)] [(.ref r1), (.ref va)])) rfl rfl (hb hby own_d2_41)
    refine ownE.go (T' := T8) (f' := (mkF m 44 #[.val (.ref r0), .val (.ref r1), .val (.ref r1)] [(.ref vb), (.ref va)])) st8 ?_
    obtain ⟨_, _, ⟨T9, L9, k9, n9⟩, -, X9, ⟨Lc9, hQ9, l9, y9, z9⟩, st9⟩ := Jvm.LawKit.callS X8 hx (y := (⟨"java/lang/StringLatin1", "equals", "([B[B)Z"⟩ : MethodName)) hown (mvT hZ (hw _ (List.mem_of_getElem? (i := 42) rfl))) (mvT hZ (hw _ (List.mem_of_getElem? (i := 43) rfl))) (mvT hZ (hw _ (List.mem_of_getElem? (i := 44) rfl))) (mvT hZ (hw _ (List.mem_of_getElem? (i := 45) rfl))) (by decide) (backOf (W := 0) (own_rm3e l Z a0 hw [] va vb ka kb b0 b1 h0 n0 (Nat.le_trans Z0 K0.1) P3 P7) hZ (hw _ (List.mem_of_getElem? (i := 45) rfl)) (hw _ (List.mem_of_getElem? (i := 44) rfl)) (by decide) (by decide)) (g := (mkF m 44 #[.val (.ref r0), .val (.ref r1), .val (.ref r1)] [(.ref vb), (.ref va)])) rfl (by rw [hml]; rfl) (argsL := [(.ref va), (.ref vb)]) (rest := []) (lenOf own_pd2 rfl) rfl (by show 2 * 0 + _ ≤ _; exact Nat.le_of_eq rfl) (hb hby own_d2_44) (fun _ _ => ⟨rfl, e8, (by decide : 0 + 0 ≤ _), (by decide : 0 + 0 ≤ _)⟩)
    dsimp only [Pt.U, Pt.locs, Pt.cells, Pt.slots] at X9 l9 y9 z9 st9 hQ9
    subst l9 y9 z9
    obtain ⟨rfl, N9q, e9⟩ := hQ9
    have N9 := Fr.app N0 N9q
    refine ownE.go (T' := T9) (f' := (mkF m 47 #[.val (.ref r0), .val (.ref r1), .val (.ref r1)] [(.int (1 : Int32))])) st9 ?_
    refine ownE.go (T' := T9) (f' := (mkF m 50 #[.val (.ref r0), .val (.ref r1), .val (.ref r1)] [])) (fun t kt => XS.ifNo (g := (mkF m 47 #[.val (.ref r0), .val (.ref r1), .val (.ref r1)] [(.int (1 : Int32))])) X9.here hx rfl (hb hby own_d2_47) rfl (Jvm.Free.XT.i0_eq_f (by decide)) kt) ?_
    refine ownE.go (T' := T9) (f' := (mkF m 55 #[.val (.ref r0), .val (.ref r1), .val (.ref r1)] [(.int (1 : Int32))])) (fun t kt => ?_) ?_
    · show Steps p.tables e below (T9.setTop (mkF m 50 #[.val (.ref r0), .val (.ref r1), .val (.ref r1)] [])) _
      refine XS.iconst X9.here hx rfl (hb hby own_d2_50) ?_
      show Steps p.tables e below (T9.setTop (mkF m 51 #[.val (.ref r0), .val (.ref r1), .val (.ref r1)] [(.int (1 : Int32))])) _
      refine XS.goto X9.here hx rfl (pc0 := 51) (pc' := 55) rfl (hb hby own_d2_51) (by decide) (by decide) ?_
      exact kt
    refine ownE.retN X9 hx hlk (t := .boolean) hret (by simp) (hb hby own_d2_55) ?_ (by decide) (by decide)
    show own_Q2e Z r0 r1 va vb ka kb b0 b1 cs h0 n0 _ T9.heap _
    rw [e9]
    exact ⟨rfl, N9, rfl⟩
theorem own_d3_34 : decode jdk_43_method_13_code 34 = .ok (.iconst 0, 1) := by decide +kernel
theorem own_d3_35 : decode jdk_43_method_13_code 35 = .ok (.ireturn, 1) := by decide +kernel
theorem own_ef3s (m : MethodId) (x0 : Addr) (x1 : Addr) : entryFrame m #[(.ref x0), (.ref x1)] 3 = mkF m 0 #[.val (.ref x0), .val (.ref x1), .unset] [] := by first | (simp [entryFrame, mkF, argsToLocals, Value.category]; done) | rfl
def own_Q3s (Z : State) (r0 : Addr) (r1 : Addr) (ka : ClassId) (kb : ClassId) (b0 : Int32) (c0 : Int32) (c1 : Int32) (h0 : Heap) (n0 : Nat) (v : Option Value) (h : Heap) (L : List Loc) : Prop := v = some (.int (0 : Int32)) ∧ Fr n0 L ∧ h = h0
set_option maxRecDepth 65536 in
set_option maxHeartbeats 40000000 in
theorem own_rm3s (l : Launch) (Z : State) (a0 : Array Value) (hw : ∀ d ∈ tables_1, d.before a0 Z = true) (ws : List Jvm.Cond) (r0 : Addr) (r1 : Addr) (ka : ClassId) (kb : ClassId) (b0 : Int32) (c0 : Int32) (c1 : Int32) (h0 : Heap) (n0 : Nat) (Z0 : n0 ≤ h0.size) (P0 : Arv Z h0 r0 ka .byte (1 : Int32) [(.int b0)] (.int (0 : Int32))) (P1 : Arv Z h0 r1 kb .byte (2 : Int32) [(.int c0), (.int c1)] (.int (0 : Int32))) :
    MetFree l (⟨"java/lang/StringLatin1", "equals", "([B[B)Z"⟩ : MethodName) (head1 (Jvm.Cond.code (⟨"java/lang/StringLatin1", "equals", "([B[B)Z"⟩ : MethodName) jdk_43_method_13_code 3 (some .boolean) :: ws) ({ frames := 0, cells := 0, slots := 0, locals := 0 } : Room)) (fun a U => a = #[(.ref r0), (.ref r1)] ∧ Z.Warmed39 U.vm ∧ U.heap = h0) (fun _ _ _ _ _ => True) (fun _ U o U' => ∃ v L, o = .returned v ∧ own_Q3s Z r0 r1 ka kb b0 c0 c1 h0 n0 v U'.heap L ∧ FrameEnd U o U' L ({ frames := 0, cells := 0, slots := 0, locals := 0 } : Room).cells ({ frames := 0, cells := 0, slots := 0, locals := 0 } : Room).slots) := by
  refine MetFree.of_bodySF (plainFor_of_name own_pn1) hisR ?_
  intro p e s m args below meth c s₁ Bd hml0 hP hK
  obtain ⟨rfl, hZ, hh⟩ := hP
  have hx := Bd.exec
  have hby := Bd.bytes
  have hret := Bd.returns
  have hlk := BodyLoose.notSynchronized Bd
  have hml : c.maxLocals = 3 := hml0
  have hown : s.vm.findClass "java/lang/StringLatin1" = some m.cls := findClass_of_methodNamed Bd.named
  have hnm := (name_of_methodNamed Bd.named Bd.method).1
  have X0 : Stand p l e ({ frames := 0, cells := 0, slots := 0, locals := 0 } : Room) s m #[(.ref r0), (.ref r1)] below meth c s₁ [] 0 0 := Stand.of_body Bd
  have e0 : s₁.heap = h0 := by rw [← hh, Bd.state]; rfl
  have N0 := Fr.nil n0
  have K0 : Keep h0 h0 [] := Keep.refl h0 _
  show ownE p e below s (own_Q3s Z r0 r1 ka kb b0 c0 c1 h0 n0) ({ frames := 0, cells := 0, slots := 0, locals := 0 } : Room).cells ({ frames := 0, cells := 0, slots := 0, locals := 0 } : Room).slots s₁ (entryFrame m #[(.ref r0), (.ref r1)] 3)
  rw [own_ef3s]
  refine ownE.go (T' := s₁) (f' := (mkF m 1 #[.val (.ref r0), .val (.ref r1), .unset] [(.ref r0)])) (fun t kt => ?_) ?_
  · show Steps p.tables e below (s₁.setTop (mkF m 0 #[.val (.ref r0), .val (.ref r1), .unset] [])) _
    refine XS.aloadN X0.here hx rfl (hb hby own_d3_0) rfl rfl ?_
    exact kt
  obtain ⟨cl1, Ar1, q1, S1, Nn1, Hh1, G1⟩ := id P0
  refine ownE.go (T' := s₁) (f' := (mkF m 2 #[.val (.ref r0), .val (.ref r1), .unset] [(.int (1 : Int32))])) (fun t kt => X0.arraylength hx (by rw [e0]; exact Ar1.1) (State.isArrayOf_alike hZ.alike Ar1.2.1) (g := (mkF m 1 #[.val (.ref r0), .val (.ref r1), .unset] [(.ref r0)])) rfl rfl (hb hby own_d3_1) _ (by rw [len_of S1 Nn1]; exact kt)) ?_
  refine ownE.go (T' := s₁) (f' := (mkF m 3 #[.val (.ref r0), .val (.ref r1), .unset] [(.ref r1), (.int (1 : Int32))])) (fun t kt => ?_) ?_
  · show Steps p.tables e below (s₁.setTop (mkF m 2 #[.val (.ref r0), .val (.ref r1), .unset] [(.int (1 : Int32))])) _
    refine XS.aloadN X0.here hx rfl (hb hby own_d3_2) rfl rfl ?_
    exact kt
  obtain ⟨cl2, Ar2, q2, S2, Nn2, Hh2, G2⟩ := id P1
  refine ownE.go (T' := s₁) (f' := (mkF m 4 #[.val (.ref r0), .val (.ref r1), .unset] [(.int (2 : Int32)), (.int (1 : Int32))])) (fun t kt => X0.arraylength hx (by rw [e0]; exact Ar2.1) (State.isArrayOf_alike hZ.alike Ar2.2.1) (g := (mkF m 3 #[.val (.ref r0), .val (.ref r1), .unset] [(.ref r1), (.int (1 : Int32))])) rfl rfl (hb hby own_d3_3) _ (by rw [len_of S2 Nn2]; exact kt)) ?_
  refine ownE.go (T' := s₁) (f' := (mkF m 34 #[.val (.ref r0), .val (.ref r1), .unset] [])) (fun t kt => XS.icmpYes (g := (mkF m 4 #[.val (.ref r0), .val (.ref r1), .unset] [(.int (2 : Int32)), (.int (1 : Int32))])) X0.here hx rfl (pc0 := 4) (pc' := 34) rfl (hb hby own_d3_4) rfl (Jvm.Free.XT.ii_ne_t (by decide)) (by decide) (by decide) kt) ?_
  refine ownE.go (T' := s₁) (f' := (mkF m 35 #[.val (.ref r0), .val (.ref r1), .unset] [(.int (0 : Int32))])) (fun t kt => ?_) ?_
  · show Steps p.tables e below (s₁.setTop (mkF m 34 #[.val (.ref r0), .val (.ref r1), .unset] [])) _
    refine XS.iconst X0.here hx rfl (hb hby own_d3_34) ?_
    exact kt
  refine ownE.retN X0 hx hlk (t := .boolean) hret (by simp) (hb hby own_d3_35) ?_ (by decide) (by decide)
  show own_Q3s Z r0 r1 ka kb b0 c0 c1 h0 n0 _ s₁.heap _
  rw [e0]
  exact ⟨rfl, N0, rfl⟩
theorem own_d2_54 : decode jdk_42_method_66_code 54 = .ok (.iconst 0, 1) := by decide +kernel
theorem own_ef2s (m : MethodId) (x0 : Addr) (x1 : Addr) : entryFrame m #[(.ref x0), (.ref x1)] 3 = mkF m 0 #[.val (.ref x0), .val (.ref x1), .unset] [] := by first | (simp [entryFrame, mkF, argsToLocals, Value.category]; done) | rfl
def own_Q2s (Z : State) (r0 : Addr) (r1 : Addr) (va : Addr) (vb : Addr) (ka : ClassId) (kb : ClassId) (b0 : Int32) (c0 : Int32) (c1 : Int32) (cs : Int32) (h0 : Heap) (n0 : Nat) (v : Option Value) (h : Heap) (L : List Loc) : Prop := v = some (.int (0 : Int32)) ∧ Fr n0 L ∧ h = h0
set_option maxRecDepth 65536 in
set_option maxHeartbeats 40000000 in
theorem own_rm2s (l : Launch) (Z : State) (a0 : Array Value) (hw : ∀ d ∈ tables_1, d.before a0 Z = true) (ws : List Jvm.Cond) (r0 : Addr) (r1 : Addr) (va : Addr) (vb : Addr) (ka : ClassId) (kb : ClassId) (b0 : Int32) (c0 : Int32) (c1 : Int32) (cs : Int32) (h0 : Heap) (n0 : Nat) (Z0 : n0 ≤ h0.size) (P0 : Exa Z h0 r0 "java/lang/String") (P1 : Fld Z h0 r0 "java/lang/String" "coder" "B" (.int (0 : Int32))) (P2 : Fld Z h0 r0 "java/lang/String" "value" "[B" (.ref va)) (P3 : Arv Z h0 va ka .byte (1 : Int32) [(.int b0)] (.int (0 : Int32))) (P4 : Exa Z h0 r1 "java/lang/String") (P5 : Fld Z h0 r1 "java/lang/String" "coder" "B" (.int (0 : Int32))) (P6 : Fld Z h0 r1 "java/lang/String" "value" "[B" (.ref vb)) (P7 : Arv Z h0 vb kb .byte (2 : Int32) [(.int c0), (.int c1)] (.int (0 : Int32))) (P8 : Sta Z h0 "java/lang/String" "COMPACT_STRINGS" "Z" (.int cs)) (hcsn : ¬ cs = (0 : Int32)) (P10 : r0 ≠ r1) :
    MetFree l (⟨"java/lang/String", "equals", "(Ljava/lang/Object;)Z"⟩ : MethodName) (head1 (Jvm.Cond.code (⟨"java/lang/String", "equals", "(Ljava/lang/Object;)Z"⟩ : MethodName) jdk_42_method_66_code 3 (some .boolean) :: ws) ({ frames := 1, cells := 0, slots := 0, locals := 14 } : Room)) (fun a U => a = #[(.ref r0), (.ref r1)] ∧ Z.Warmed39 U.vm ∧ U.heap = h0) (fun _ _ _ _ _ => True) (fun _ U o U' => ∃ v L, o = .returned v ∧ own_Q2s Z r0 r1 va vb ka kb b0 c0 c1 cs h0 n0 v U'.heap L ∧ FrameEnd U o U' L ({ frames := 1, cells := 0, slots := 0, locals := 14 } : Room).cells ({ frames := 1, cells := 0, slots := 0, locals := 14 } : Room).slots) := by
  refine MetFree.of_bodySF (plainFor_of_name own_pn3) hisR ?_
  intro p e s m args below meth c s₁ Bd hml0 hP hK
  obtain ⟨rfl, hZ, hh⟩ := hP
  have hx := Bd.exec
  have hby := Bd.bytes
  have hret := Bd.returns
  have hlk := BodyLoose.notSynchronized Bd
  have hml : c.maxLocals = 3 := hml0
  have hown : s.vm.findClass "java/lang/String" = some m.cls := findClass_of_methodNamed Bd.named
  have hnm := (name_of_methodNamed Bd.named Bd.method).1
  have X0 : Stand p l e ({ frames := 1, cells := 0, slots := 0, locals := 14 } : Room) s m #[(.ref r0), (.ref r1)] below meth c s₁ [] 0 0 := Stand.of_body Bd
  have e0 : s₁.heap = h0 := by rw [← hh, Bd.state]; rfl
  have N0 := Fr.nil n0
  have K0 : Keep h0 h0 [] := Keep.refl h0 _
  show ownE p e below s (own_Q2s Z r0 r1 va vb ka kb b0 c0 c1 cs h0 n0) ({ frames := 1, cells := 0, slots := 0, locals := 14 } : Room).cells ({ frames := 1, cells := 0, slots := 0, locals := 14 } : Room).slots s₁ (entryFrame m #[(.ref r0), (.ref r1)] 3)
  rw [own_ef2s]
  refine ownE.go (T' := s₁) (f' := (mkF m 2 #[.val (.ref r0), .val (.ref r1), .unset] [(.ref r1), (.ref r0)])) (fun t kt => ?_) ?_
  · show Steps p.tables e below (s₁.setTop (mkF m 0 #[.val (.ref r0), .val (.ref r1), .unset] [])) _
    refine XS.aloadN X0.here hx rfl (hb hby own_d2_0) rfl rfl ?_
    show Steps p.tables e below (s₁.setTop (mkF m 1 #[.val (.ref r0), .val (.ref r1), .unset] [(.ref r0)])) _
    refine XS.aloadN X0.here hx rfl (hb hby own_d2_1) rfl rfl ?_
    exact kt
  refine ownE.go (T' := s₁) (f' := (mkF m 7 #[.val (.ref r0), .val (.ref r1), .unset] [])) (fun t kt => Jvm.RoadKit.acmp (g := (mkF m 2 #[.val (.ref r0), .val (.ref r1), .unset] [(.ref r1), (.ref r0)])) X0 hx rfl rfl rfl (pc0 := 2) (pc' := 7) (same := false) rfl (hb hby own_d2_2) rfl (decide_eq_false fun q => P10 (Value.ref.inj q)) (by decide) (by decide) kt) ?_
  refine ownE.go (T' := s₁) (f' := (mkF m 8 #[.val (.ref r0), .val (.ref r1), .unset] [(.ref r1)])) (fun t kt => ?_) ?_
  · show Steps p.tables e below (s₁.setTop (mkF m 7 #[.val (.ref r0), .val (.ref r1), .unset] [])) _
    refine XS.aloadN X0.here hx rfl (hb hby own_d2_7) rfl rfl ?_
    exact kt
  obtain ⟨T1, X1, e1, st1⟩ := instY X0 hx hZ hown (hw _ (List.mem_of_getElem? (i := 37) rfl)) e0 (Ins.self P4) (g := (mkF m 8 #[.val (.ref r0), .val (.ref r1), .unset] [(.ref r1)])) rfl rfl (hb hby own_d2_8)
  refine ownE.go (T' := T1) (f' := (mkF m 11 #[.val (.ref r0), .val (.ref r1), .unset] [(.int (1 : Int32))])) st1 ?_
  refine ownE.go (T' := T1) (f' := (mkF m 14 #[.val (.ref r0), .val (.ref r1), .unset] [])) (fun t kt => XS.ifNo (g := (mkF m 11 #[.val (.ref r0), .val (.ref r1), .unset] [(.int (1 : Int32))])) X1.here hx rfl (hb hby own_d2_11) rfl (Jvm.Free.XT.i0_eq_f (by decide)) kt) ?_
  refine ownE.go (T' := T1) (f' := (mkF m 15 #[.val (.ref r0), .val (.ref r1), .unset] [(.ref r1)])) (fun t kt => ?_) ?_
  · show Steps p.tables e below (T1.setTop (mkF m 14 #[.val (.ref r0), .val (.ref r1), .unset] [])) _
    refine XS.aloadN X1.here hx rfl (hb hby own_d2_14) rfl rfl ?_
    exact kt
  obtain ⟨T2, X2, e2, st2⟩ := castY X1 hx hZ hown (hw _ (List.mem_of_getElem? (i := 37) rfl)) e1 (Ins.self P4) (g := (mkF m 15 #[.val (.ref r0), .val (.ref r1), .unset] [(.ref r1)])) rfl rfl (hb hby own_d2_15)
  refine ownE.go (T' := T2) (f' := (mkF m 18 #[.val (.ref r0), .val (.ref r1), .unset] [(.ref r1)])) st2 ?_
  refine ownE.go (T' := T2) (f' := (mkF m 19 #[.val (.ref r0), .val (.ref r1), .val (.ref r1)] [])) (fun t kt => ?_) ?_
  · show Steps p.tables e below (T2.setTop (mkF m 18 #[.val (.ref r0), .val (.ref r1), .unset] [(.ref r1)])) _
    refine XS.astoreN X2.here hx rfl (hb hby own_d2_18) rfl rfl (l' := #[.val (.ref r0), .val (.ref r1), .val (.ref r1)]) rfl ?_
    exact kt
  obtain ⟨T3, X3, e3, st3⟩ := getS2 X2 hx hZ hown (host := "") (Or.inl (hw _ (List.mem_of_getElem? (i := 39) rfl))) Via.refl e2 P8 (g := (mkF m 19 #[.val (.ref r0), .val (.ref r1), .val (.ref r1)] [])) rfl (hb hby own_d2_19)
  refine ownE.go (T' := T3) (f' := (mkF m 22 #[.val (.ref r0), .val (.ref r1), .val (.ref r1)] [(.int cs)])) st3 ?_
  refine ownE.go (T' := T3) (f' := (mkF m 25 #[.val (.ref r0), .val (.ref r1), .val (.ref r1)] [])) (fun t kt => XS.ifNo (g := (mkF m 22 #[.val (.ref r0), .val (.ref r1), .val (.ref r1)] [(.int cs)])) X3.here hx rfl (hb hby own_d2_22) rfl (Jvm.Free.XT.i0_eq_f hcsn) kt) ?_
  refine ownE.go (T' := T3) (f' := (mkF m 26 #[.val (.ref r0), .val (.ref r1), .val (.ref r1)] [(.ref r0)])) (fun t kt => ?_) ?_
  · show Steps p.tables e below (T3.setTop (mkF m 25 #[.val (.ref r0), .val (.ref r1), .val (.ref r1)] [])) _
    refine XS.aloadN X3.here hx rfl (hb hby own_d2_25) rfl rfl ?_
    exact kt
  obtain ⟨T4, X4, e4, st4⟩ := getF X3 hx hZ hown (host := "") (Or.inl (hw _ (List.mem_of_getElem? (i := 40) rfl))) Via.refl e3 P1 (g := (mkF m 26 #[.val (.ref r0), .val (.ref r1), .val (.ref r1)] [(.ref r0)])) rfl rfl (hb hby own_d2_26)
  refine ownE.go (T' := T4) (f' := (mkF m 29 #[.val (.ref r0), .val (.ref r1), .val (.ref r1)] [(.int (0 : Int32))])) st4 ?_
  refine ownE.go (T' := T4) (f' := (mkF m 30 #[.val (.ref r0), .val (.ref r1), .val (.ref r1)] [(.ref r1), (.int (0 : Int32))])) (fun t kt => ?_) ?_
  · show Steps p.tables e below (T4.setTop (mkF m 29 #[.val (.ref r0), .val (.ref r1), .val (.ref r1)] [(.int (0 : Int32))])) _
    refine XS.aloadN X4.here hx rfl (hb hby own_d2_29) rfl rfl ?_
    exact kt
  obtain ⟨T5, X5, e5, st5⟩ := getF X4 hx hZ hown (host := "") (Or.inl (hw _ (List.mem_of_getElem? (i := 40) rfl))) Via.refl e4 P5 (g := (mkF m 30 #[.val (.ref r0), .val (.ref r1), .val (.ref r1)] [(.ref r1), (.int (0 : Int32))])) rfl rfl (hb hby own_d2_30)
  refine ownE.go (T' := T5) (f' := (mkF m 33 #[.val (.ref r0), .val (.ref r1), .val (.ref r1)] [(.int (0 : Int32)), (.int (0 : Int32))])) st5 ?_
  refine ownE.go (T' := T5) (f' := (mkF m 36 #[.val (.ref r0), .val (.ref r1), .val (.ref r1)] [])) (fun t kt => XS.icmpNo (g := (mkF m 33 #[.val (.ref r0), .val (.ref r1), .val (.ref r1)] [(.int (0 : Int32)), (.int (0 : Int32))])) X5.here hx rfl (hb hby own_d2_33) rfl (Jvm.Free.XT.ii_ne_f (by decide)) kt) ?_
  refine ownE.go (T' := T5) (f' := (mkF m 37 #[.val (.ref r0), .val (.ref r1), .val (.ref r1)] [(.ref r0)])) (fun t kt => ?_) ?_
  · show Steps p.tables e below (T5.setTop (mkF m 36 #[.val (.ref r0), .val (.ref r1), .val (.ref r1)] [])) _
    refine XS.aloadN X5.here hx rfl (hb hby own_d2_36) rfl rfl ?_
    exact kt
  obtain ⟨T6, X6, e6, st6⟩ := getF X5 hx hZ hown (host := "") (Or.inl (hw _ (List.mem_of_getElem? (i := 41) rfl))) Via.refl e5 P2 (g := (mkF m 37 #[.val (.ref r0), .val (.ref r1), .val (.ref r1)] [(.ref r0)])) rfl rfl (hb hby own_d2_37)
  refine ownE.go (T' := T6) (f' := (mkF m 40 #[.val (.ref r0), .val (.ref r1), .val (.ref r1)] [(.ref va)])) st6 ?_
  refine ownE.go (T' := T6) (f' := (mkF m 41 #[.val (.ref r0), .val (.ref r1), .val (.ref r1)] [(.ref r1), (.ref va)])) (fun t kt => ?_) ?_
  · show Steps p.tables e below (T6.setTop (mkF m 40 #[.val (.ref r0), .val (.ref r1), .val (.ref r1)] [(.ref va)])) _
    refine XS.aloadN X6.here hx rfl (hb hby own_d2_40) rfl rfl ?_
    exact kt
  obtain ⟨T7, X7, e7, st7⟩ := getF X6 hx hZ hown (host := "") (Or.inl (hw _ (List.mem_of_getElem? (i := 41) rfl))) Via.refl e6 P6 (g := (mkF m 41 #[.val (.ref r0), .val (.ref r1), .val (.ref r1)] [(.ref r1), (.ref va)])) rfl rfl (hb hby own_d2_41)
  refine ownE.go (T' := T7) (f' := (mkF m 44 #[.val (.ref r0), .val (.ref r1), .val (.ref r1)] [(.ref vb), (.ref va)])) st7 ?_
  obtain ⟨_, _, ⟨T8, L8, k8, n8⟩, -, X8, ⟨Lc8, hQ8, l8, y8, z8⟩, st8⟩ := Jvm.LawKit.callS X7 hx (y := (⟨"java/lang/StringLatin1", "equals", "([B[B)Z"⟩ : MethodName)) hown (mvT hZ (hw _ (List.mem_of_getElem? (i := 42) rfl))) (mvT hZ (hw _ (List.mem_of_getElem? (i := 43) rfl))) (mvT hZ (hw _ (List.mem_of_getElem? (i := 44) rfl))) (mvT hZ (hw _ (List.mem_of_getElem? (i := 45) rfl))) (by decide) (backOf (W := 0) (own_rm3s l Z a0 hw [] va vb ka kb b0 c0 c1 h0 n0 (Nat.le_trans Z0 K0.1) P3 P7) hZ (hw _ (List.mem_of_getElem? (i := 45) rfl)) (hw _ (List.mem_of_getElem? (i := 44) rfl)) (by decide) (by decide)) (g := (mkF m 44 #[.val (.ref r0), .val (.ref r1), .val (.ref r1)] [(.ref vb), (.ref va)])) rfl (by rw [hml]; rfl) (argsL := [(.ref va), (.ref vb)]) (rest := []) (lenOf own_pd2 rfl) rfl (by show 2 * 0 + _ ≤ _; exact Nat.le_of_eq rfl) (hb hby own_d2_44) (fun _ _ => ⟨rfl, e7, (by decide : 0 + 0 ≤ _), (by decide : 0 + 0 ≤ _)⟩)
  dsimp only [Pt.U, Pt.locs, Pt.cells, Pt.slots] at X8 l8 y8 z8 st8 hQ8
  subst l8 y8 z8
  obtain ⟨rfl, N8q, e8⟩ := hQ8
  have N8 := Fr.app N0 N8q
  refine ownE.go (T' := T8) (f' := (mkF m 47 #[.val (.ref r0), .val (.ref r1), .val (.ref r1)] [(.int (0 : Int32))])) st8 ?_
  refine ownE.go (T' := T8) (f' := (mkF m 54 #[.val (.ref r0), .val (.ref r1), .val (.ref r1)] [])) (fun t kt => XS.ifYes (g := (mkF m 47 #[.val (.ref r0), .val (.ref r1), .val (.ref r1)] [(.int (0 : Int32))])) X8.here hx rfl (pc0 := 47) (pc' := 54) rfl (hb hby own_d2_47) rfl (Jvm.Free.XT.i0_eq_t (by decide)) (by decide) (by decide) kt) ?_
  refine ownE.go (T' := T8) (f' := (mkF m 55 #[.val (.ref r0), .val (.ref r1), .val (.ref r1)] [(.int (0 : Int32))])) (fun t kt => ?_) ?_
  · show Steps p.tables e below (T8.setTop (mkF m 54 #[.val (.ref r0), .val (.ref r1), .val (.ref r1)] [])) _
    refine XS.iconst X8.here hx rfl (hb hby own_d2_54) ?_
    exact kt
  refine ownE.retN X8 hx hlk (t := .boolean) hret (by simp) (hb hby own_d2_55) ?_ (by decide) (by decide)
  show own_Q2s Z r0 r1 va vb ka kb b0 c0 c1 cs h0 n0 _ T8.heap _
  rw [e8]
  exact ⟨rfl, N8, rfl⟩
theorem own_d3_24 : decode jdk_43_method_13_code 24 = .ok (.iconst 0, 1) := by decide +kernel
theorem own_d3_25 : decode jdk_43_method_13_code 25 = .ok (.ireturn, 1) := by decide +kernel
theorem own_ef3d (m : MethodId) (x0 : Addr) (x1 : Addr) : entryFrame m #[(.ref x0), (.ref x1)] 3 = mkF m 0 #[.val (.ref x0), .val (.ref x1), .unset] [] := by first | (simp [entryFrame, mkF, argsToLocals, Value.category]; done) | rfl
def own_Q3d (Z : State) (r0 : Addr) (r1 : Addr) (ka : ClassId) (kb : ClassId) (b0 : Int32) (b1 : Int32) (c0 : Int32) (c1 : Int32) (h0 : Heap) (n0 : Nat) (v : Option Value) (h : Heap) (L : List Loc) : Prop := v = some (.int (0 : Int32)) ∧ Fr n0 L ∧ h = h0
set_option maxRecDepth 65536 in
set_option maxHeartbeats 40000000 in
theorem own_rm3d (l : Launch) (Z : State) (a0 : Array Value) (hw : ∀ d ∈ tables_1, d.before a0 Z = true) (ws : List Jvm.Cond) (r0 : Addr) (r1 : Addr) (ka : ClassId) (kb : ClassId) (b0 : Int32) (b1 : Int32) (c0 : Int32) (c1 : Int32) (h0 : Heap) (n0 : Nat) (Z0 : n0 ≤ h0.size) (P0 : Arv Z h0 r0 ka .byte (2 : Int32) [(.int b0), (.int b1)] (.int (0 : Int32))) (P1 : Arv Z h0 r1 kb .byte (2 : Int32) [(.int c0), (.int c1)] (.int (0 : Int32))) (P2 : ¬ b0 = c0) :
    MetFree l (⟨"java/lang/StringLatin1", "equals", "([B[B)Z"⟩ : MethodName) (head1 (Jvm.Cond.code (⟨"java/lang/StringLatin1", "equals", "([B[B)Z"⟩ : MethodName) jdk_43_method_13_code 3 (some .boolean) :: ws) ({ frames := 0, cells := 0, slots := 0, locals := 0 } : Room)) (fun a U => a = #[(.ref r0), (.ref r1)] ∧ Z.Warmed39 U.vm ∧ U.heap = h0) (fun _ _ _ _ _ => True) (fun _ U o U' => ∃ v L, o = .returned v ∧ own_Q3d Z r0 r1 ka kb b0 b1 c0 c1 h0 n0 v U'.heap L ∧ FrameEnd U o U' L ({ frames := 0, cells := 0, slots := 0, locals := 0 } : Room).cells ({ frames := 0, cells := 0, slots := 0, locals := 0 } : Room).slots) := by
  refine MetFree.of_bodySF (plainFor_of_name own_pn1) hisR ?_
  intro p e s m args below meth c s₁ Bd hml0 hP hK
  obtain ⟨rfl, hZ, hh⟩ := hP
  have hx := Bd.exec
  have hby := Bd.bytes
  have hret := Bd.returns
  have hlk := BodyLoose.notSynchronized Bd
  have hml : c.maxLocals = 3 := hml0
  have hown : s.vm.findClass "java/lang/StringLatin1" = some m.cls := findClass_of_methodNamed Bd.named
  have hnm := (name_of_methodNamed Bd.named Bd.method).1
  have X0 : Stand p l e ({ frames := 0, cells := 0, slots := 0, locals := 0 } : Room) s m #[(.ref r0), (.ref r1)] below meth c s₁ [] 0 0 := Stand.of_body Bd
  have e0 : s₁.heap = h0 := by rw [← hh, Bd.state]; rfl
  have N0 := Fr.nil n0
  have K0 : Keep h0 h0 [] := Keep.refl h0 _
  show ownE p e below s (own_Q3d Z r0 r1 ka kb b0 b1 c0 c1 h0 n0) ({ frames := 0, cells := 0, slots := 0, locals := 0 } : Room).cells ({ frames := 0, cells := 0, slots := 0, locals := 0 } : Room).slots s₁ (entryFrame m #[(.ref r0), (.ref r1)] 3)
  rw [own_ef3d]
  refine ownE.go (T' := s₁) (f' := (mkF m 1 #[.val (.ref r0), .val (.ref r1), .unset] [(.ref r0)])) (fun t kt => ?_) ?_
  · show Steps p.tables e below (s₁.setTop (mkF m 0 #[.val (.ref r0), .val (.ref r1), .unset] [])) _
    refine XS.aloadN X0.here hx rfl (hb hby own_d3_0) rfl rfl ?_
    exact kt
  obtain ⟨cl1, Ar1, q1, S1, Nn1, Hh1, G1⟩ := id P0
  refine ownE.go (T' := s₁) (f' := (mkF m 2 #[.val (.ref r0), .val (.ref r1), .unset] [(.int (2 : Int32))])) (fun t kt => X0.arraylength hx (by rw [e0]; exact Ar1.1) (State.isArrayOf_alike hZ.alike Ar1.2.1) (g := (mkF m 1 #[.val (.ref r0), .val (.ref r1), .unset] [(.ref r0)])) rfl rfl (hb hby own_d3_1) _ (by rw [len_of S1 Nn1]; exact kt)) ?_
  refine ownE.go (T' := s₁) (f' := (mkF m 3 #[.val (.ref r0), .val (.ref r1), .unset] [(.ref r1), (.int (2 : Int32))])) (fun t kt => ?_) ?_
  · show Steps p.tables e below (s₁.setTop (mkF m 2 #[.val (.ref r0), .val (.ref r1), .unset] [(.int (2 : Int32))])) _
    refine XS.aloadN X0.here hx rfl (hb hby own_d3_2) rfl rfl ?_
    exact kt
  obtain ⟨cl2, Ar2, q2, S2, Nn2, Hh2, G2⟩ := id P1
  refine ownE.go (T' := s₁) (f' := (mkF m 4 #[.val (.ref r0), .val (.ref r1), .unset] [(.int (2 : Int32)), (.int (2 : Int32))])) (fun t kt => X0.arraylength hx (by rw [e0]; exact Ar2.1) (State.isArrayOf_alike hZ.alike Ar2.2.1) (g := (mkF m 3 #[.val (.ref r0), .val (.ref r1), .unset] [(.ref r1), (.int (2 : Int32))])) rfl rfl (hb hby own_d3_3) _ (by rw [len_of S2 Nn2]; exact kt)) ?_
  refine ownE.go (T' := s₁) (f' := (mkF m 7 #[.val (.ref r0), .val (.ref r1), .unset] [])) (fun t kt => XS.icmpNo (g := (mkF m 4 #[.val (.ref r0), .val (.ref r1), .unset] [(.int (2 : Int32)), (.int (2 : Int32))])) X0.here hx rfl (hb hby own_d3_4) rfl (Jvm.Free.XT.ii_ne_f (by decide)) kt) ?_
  refine ownE.go (T' := s₁) (f' := (mkF m 11 #[.val (.ref r0), .val (.ref r1), .val (.int (0 : Int32))] [(.ref r0), (.int (0 : Int32))])) (fun t kt => ?_) ?_
  · show Steps p.tables e below (s₁.setTop (mkF m 7 #[.val (.ref r0), .val (.ref r1), .unset] [])) _
    refine XS.iconst X0.here hx rfl (hb hby own_d3_7) ?_
    show Steps p.tables e below (s₁.setTop (mkF m 8 #[.val (.ref r0), .val (.ref r1), .unset] [(.int (0 : Int32))])) _
    refine XS.istoreN X0.here hx rfl (hb hby own_d3_8) rfl (l' := #[.val (.ref r0), .val (.ref r1), .val (.int (0 : Int32))]) rfl ?_
    show Steps p.tables e below (s₁.setTop (mkF m 9 #[.val (.ref r0), .val (.ref r1), .val (.int (0 : Int32))] [])) _
    refine XS.iloadN X0.here hx rfl (hb hby own_d3_9) rfl ?_
    show Steps p.tables e below (s₁.setTop (mkF m 10 #[.val (.ref r0), .val (.ref r1), .val (.int (0 : Int32))] [(.int (0 : Int32))])) _
    refine XS.aloadN X0.here hx rfl (hb hby own_d3_10) rfl rfl ?_
    exact kt
  obtain ⟨cl3, Ar3, q3, S3, Nn3, Hh3, G3⟩ := id P0
  refine ownE.go (T' := s₁) (f' := (mkF m 12 #[.val (.ref r0), .val (.ref r1), .val (.int (0 : Int32))] [(.int (2 : Int32)), (.int (0 : Int32))])) (fun t kt => X0.arraylength hx (by rw [e0]; exact Ar3.1) (State.isArrayOf_alike hZ.alike Ar3.2.1) (g := (mkF m 11 #[.val (.ref r0), .val (.ref r1), .val (.int (0 : Int32))] [(.ref r0), (.int (0 : Int32))])) rfl rfl (hb hby own_d3_11) _ (by rw [len_of S3 Nn3]; exact kt)) ?_
  refine ownE.go (T' := s₁) (f' := (mkF m 15 #[.val (.ref r0), .val (.ref r1), .val (.int (0 : Int32))] [])) (fun t kt => XS.icmpNo (g := (mkF m 12 #[.val (.ref r0), .val (.ref r1), .val (.int (0 : Int32))] [(.int (2 : Int32)), (.int (0 : Int32))])) X0.here hx rfl (hb hby own_d3_12) rfl (Jvm.Free.XT.ii_ge_f (by decide)) kt) ?_
  refine ownE.go (T' := s₁) (f' := (mkF m 17 #[.val (.ref r0), .val (.ref r1), .val (.int (0 : Int32))] [(.int (0 : Int32)), (.ref r0)])) (fun t kt => ?_) ?_
  · show Steps p.tables e below (s₁.setTop (mkF m 15 #[.val (.ref r0), .val (.ref r1), .val (.int (0 : Int32))] [])) _
    refine XS.aloadN X0.here hx rfl (hb hby own_d3_15) rfl rfl ?_
    show Steps p.tables e below (s₁.setTop (mkF m 16 #[.val (.ref r0), .val (.ref r1), .val (.int (0 : Int32))] [(.ref r0)])) _
    refine XS.iloadN X0.here hx rfl (hb hby own_d3_16) rfl ?_
    exact kt
  obtain ⟨cl4, Ar4, q4, S4, Nn4, Hh4, G4⟩ := id P0
  refine ownE.go (T' := s₁) (f' := (mkF m 18 #[.val (.ref r0), .val (.ref r1), .val (.int (0 : Int32))] [(.int b0)])) (fun t kt => X0.baloadBytes hx (j := (0 : Int32)) (v := (.int b0)) (by rw [e0]; exact Ar4.1) (State.isArrayOf_alike hZ.alike Ar4.2.1) Ar4.2.2 (inb_of S4 ⟨by decide, by decide⟩) (Hh4.at (inb_of S4 ⟨by decide, by decide⟩) rfl) (g := (mkF m 17 #[.val (.ref r0), .val (.ref r1), .val (.int (0 : Int32))] [(.int (0 : Int32)), (.ref r0)])) rfl rfl (hb hby own_d3_17) _ kt) ?_
  refine ownE.go (T' := s₁) (f' := (mkF m 20 #[.val (.ref r0), .val (.ref r1), .val (.int (0 : Int32))] [(.int (0 : Int32)), (.ref r1), (.int b0)])) (fun t kt => ?_) ?_
  · show Steps p.tables e below (s₁.setTop (mkF m 18 #[.val (.ref r0), .val (.ref r1), .val (.int (0 : Int32))] [(.int b0)])) _
    refine XS.aloadN X0.here hx rfl (hb hby own_d3_18) rfl rfl ?_
    show Steps p.tables e below (s₁.setTop (mkF m 19 #[.val (.ref r0), .val (.ref r1), .val (.int (0 : Int32))] [(.ref r1), (.int b0)])) _
    refine XS.iloadN X0.here hx rfl (hb hby own_d3_19) rfl ?_
    exact kt
  obtain ⟨cl5, Ar5, q5, S5, Nn5, Hh5, G5⟩ := id P1
  refine ownE.go (T' := s₁) (f' := (mkF m 21 #[.val (.ref r0), .val (.ref r1), .val (.int (0 : Int32))] [(.int c0), (.int b0)])) (fun t kt => X0.baloadBytes hx (j := (0 : Int32)) (v := (.int c0)) (by rw [e0]; exact Ar5.1) (State.isArrayOf_alike hZ.alike Ar5.2.1) Ar5.2.2 (inb_of S5 ⟨by decide, by decide⟩) (Hh5.at (inb_of S5 ⟨by decide, by decide⟩) rfl) (g := (mkF m 20 #[.val (.ref r0), .val (.ref r1), .val (.int (0 : Int32))] [(.int (0 : Int32)), (.ref r1), (.int b0)])) rfl rfl (hb hby own_d3_20) _ kt) ?_
  refine ownE.go (T' := s₁) (f' := (mkF m 24 #[.val (.ref r0), .val (.ref r1), .val (.int (0 : Int32))] [])) (fun t kt => XS.icmpNo (g := (mkF m 21 #[.val (.ref r0), .val (.ref r1), .val (.int (0 : Int32))] [(.int c0), (.int b0)])) X0.here hx rfl (hb hby own_d3_21) rfl (Jvm.Free.XT.ii_eq_f P2) kt) ?_
  refine ownE.go (T' := s₁) (f' := (mkF m 25 #[.val (.ref r0), .val (.ref r1), .val (.int (0 : Int32))] [(.int (0 : Int32))])) (fun t kt => ?_) ?_
  · show Steps p.tables e below (s₁.setTop (mkF m 24 #[.val (.ref r0), .val (.ref r1), .val (.int (0 : Int32))] [])) _
    refine XS.iconst X0.here hx rfl (hb hby own_d3_24) ?_
    exact kt
  refine ownE.retN X0 hx hlk (t := .boolean) hret (by simp) (hb hby own_d3_25) ?_ (by decide) (by decide)
  show own_Q3d Z r0 r1 ka kb b0 b1 c0 c1 h0 n0 _ s₁.heap _
  rw [e0]
  exact ⟨rfl, N0, rfl⟩
theorem own_ef2d (m : MethodId) (x0 : Addr) (x1 : Addr) : entryFrame m #[(.ref x0), (.ref x1)] 3 = mkF m 0 #[.val (.ref x0), .val (.ref x1), .unset] [] := by first | (simp [entryFrame, mkF, argsToLocals, Value.category]; done) | rfl
def own_Q2d (Z : State) (r0 : Addr) (r1 : Addr) (va : Addr) (vb : Addr) (ka : ClassId) (kb : ClassId) (b0 : Int32) (b1 : Int32) (c0 : Int32) (c1 : Int32) (cs : Int32) (h0 : Heap) (n0 : Nat) (v : Option Value) (h : Heap) (L : List Loc) : Prop := v = some (.int (0 : Int32)) ∧ Fr n0 L ∧ h = h0
set_option maxRecDepth 65536 in
set_option maxHeartbeats 40000000 in
theorem own_rm2d (l : Launch) (Z : State) (a0 : Array Value) (hw : ∀ d ∈ tables_1, d.before a0 Z = true) (ws : List Jvm.Cond) (r0 : Addr) (r1 : Addr) (va : Addr) (vb : Addr) (ka : ClassId) (kb : ClassId) (b0 : Int32) (b1 : Int32) (c0 : Int32) (c1 : Int32) (cs : Int32) (h0 : Heap) (n0 : Nat) (Z0 : n0 ≤ h0.size) (P0 : Exa Z h0 r0 "java/lang/String") (P1 : Fld Z h0 r0 "java/lang/String" "coder" "B" (.int (0 : Int32))) (P2 : Fld Z h0 r0 "java/lang/String" "value" "[B" (.ref va)) (P3 : Arv Z h0 va ka .byte (2 : Int32) [(.int b0), (.int b1)] (.int (0 : Int32))) (P4 : Exa Z h0 r1 "java/lang/String") (P5 : Fld Z h0 r1 "java/lang/String" "coder" "B" (.int (0 : Int32))) (P6 : Fld Z h0 r1 "java/lang/String" "value" "[B" (.ref vb)) (P7 : Arv Z h0 vb kb .byte (2 : Int32) [(.int c0), (.int c1)] (.int (0 : Int32))) (P8 : Sta Z h0 "java/lang/String" "COMPACT_STRINGS" "Z" (.int cs)) (hcsn : ¬ cs = (0 : Int32)) (P10 : ¬ b0 = c0) (P11 : r0 ≠ r1) :
    MetFree l (⟨"java/lang/String", "equals", "(Ljava/lang/Object;)Z"⟩ : MethodName) (head1 (Jvm.Cond.code (⟨"java/lang/String", "equals", "(Ljava/lang/Object;)Z"⟩ : MethodName) jdk_42_method_66_code 3 (some .boolean) :: ws) ({ frames := 1, cells := 0, slots := 0, locals := 14 } : Room)) (fun a U => a = #[(.ref r0), (.ref r1)] ∧ Z.Warmed39 U.vm ∧ U.heap = h0) (fun _ _ _ _ _ => True) (fun _ U o U' => ∃ v L, o = .returned v ∧ own_Q2d Z r0 r1 va vb ka kb b0 b1 c0 c1 cs h0 n0 v U'.heap L ∧ FrameEnd U o U' L ({ frames := 1, cells := 0, slots := 0, locals := 14 } : Room).cells ({ frames := 1, cells := 0, slots := 0, locals := 14 } : Room).slots) := by
  refine MetFree.of_bodySF (plainFor_of_name own_pn3) hisR ?_
  intro p e s m args below meth c s₁ Bd hml0 hP hK
  obtain ⟨rfl, hZ, hh⟩ := hP
  have hx := Bd.exec
  have hby := Bd.bytes
  have hret := Bd.returns
  have hlk := BodyLoose.notSynchronized Bd
  have hml : c.maxLocals = 3 := hml0
  have hown : s.vm.findClass "java/lang/String" = some m.cls := findClass_of_methodNamed Bd.named
  have hnm := (name_of_methodNamed Bd.named Bd.method).1
  have X0 : Stand p l e ({ frames := 1, cells := 0, slots := 0, locals := 14 } : Room) s m #[(.ref r0), (.ref r1)] below meth c s₁ [] 0 0 := Stand.of_body Bd
  have e0 : s₁.heap = h0 := by rw [← hh, Bd.state]; rfl
  have N0 := Fr.nil n0
  have K0 : Keep h0 h0 [] := Keep.refl h0 _
  show ownE p e below s (own_Q2d Z r0 r1 va vb ka kb b0 b1 c0 c1 cs h0 n0) ({ frames := 1, cells := 0, slots := 0, locals := 14 } : Room).cells ({ frames := 1, cells := 0, slots := 0, locals := 14 } : Room).slots s₁ (entryFrame m #[(.ref r0), (.ref r1)] 3)
  rw [own_ef2d]
  refine ownE.go (T' := s₁) (f' := (mkF m 2 #[.val (.ref r0), .val (.ref r1), .unset] [(.ref r1), (.ref r0)])) (fun t kt => ?_) ?_
  · show Steps p.tables e below (s₁.setTop (mkF m 0 #[.val (.ref r0), .val (.ref r1), .unset] [])) _
    refine XS.aloadN X0.here hx rfl (hb hby own_d2_0) rfl rfl ?_
    show Steps p.tables e below (s₁.setTop (mkF m 1 #[.val (.ref r0), .val (.ref r1), .unset] [(.ref r0)])) _
    refine XS.aloadN X0.here hx rfl (hb hby own_d2_1) rfl rfl ?_
    exact kt
  refine ownE.go (T' := s₁) (f' := (mkF m 7 #[.val (.ref r0), .val (.ref r1), .unset] [])) (fun t kt => Jvm.RoadKit.acmp (g := (mkF m 2 #[.val (.ref r0), .val (.ref r1), .unset] [(.ref r1), (.ref r0)])) X0 hx rfl rfl rfl (pc0 := 2) (pc' := 7) (same := false) rfl (hb hby own_d2_2) rfl (decide_eq_false fun q => P11 (Value.ref.inj q)) (by decide) (by decide) kt) ?_
  refine ownE.go (T' := s₁) (f' := (mkF m 8 #[.val (.ref r0), .val (.ref r1), .unset] [(.ref r1)])) (fun t kt => ?_) ?_
  · show Steps p.tables e below (s₁.setTop (mkF m 7 #[.val (.ref r0), .val (.ref r1), .unset] [])) _
    refine XS.aloadN X0.here hx rfl (hb hby own_d2_7) rfl rfl ?_
    exact kt
  obtain ⟨T1, X1, e1, st1⟩ := instY X0 hx hZ hown (hw _ (List.mem_of_getElem? (i := 37) rfl)) e0 (Ins.self P4) (g := (mkF m 8 #[.val (.ref r0), .val (.ref r1), .unset] [(.ref r1)])) rfl rfl (hb hby own_d2_8)
  refine ownE.go (T' := T1) (f' := (mkF m 11 #[.val (.ref r0), .val (.ref r1), .unset] [(.int (1 : Int32))])) st1 ?_
  refine ownE.go (T' := T1) (f' := (mkF m 14 #[.val (.ref r0), .val (.ref r1), .unset] [])) (fun t kt => XS.ifNo (g := (mkF m 11 #[.val (.ref r0), .val (.ref r1), .unset] [(.int (1 : Int32))])) X1.here hx rfl (hb hby own_d2_11) rfl (Jvm.Free.XT.i0_eq_f (by decide)) kt) ?_
  refine ownE.go (T' := T1) (f' := (mkF m 15 #[.val (.ref r0), .val (.ref r1), .unset] [(.ref r1)])) (fun t kt => ?_) ?_
  · show Steps p.tables e below (T1.setTop (mkF m 14 #[.val (.ref r0), .val (.ref r1), .unset] [])) _
    refine XS.aloadN X1.here hx rfl (hb hby own_d2_14) rfl rfl ?_
    exact kt
  obtain ⟨T2, X2, e2, st2⟩ := castY X1 hx hZ hown (hw _ (List.mem_of_getElem? (i := 37) rfl)) e1 (Ins.self P4) (g := (mkF m 15 #[.val (.ref r0), .val (.ref r1), .unset] [(.ref r1)])) rfl rfl (hb hby own_d2_15)
  refine ownE.go (T' := T2) (f' := (mkF m 18 #[.val (.ref r0), .val (.ref r1), .unset] [(.ref r1)])) st2 ?_
  refine ownE.go (T' := T2) (f' := (mkF m 19 #[.val (.ref r0), .val (.ref r1), .val (.ref r1)] [])) (fun t kt => ?_) ?_
  · show Steps p.tables e below (T2.setTop (mkF m 18 #[.val (.ref r0), .val (.ref r1), .unset] [(.ref r1)])) _
    refine XS.astoreN X2.here hx rfl (hb hby own_d2_18) rfl rfl (l' := #[.val (.ref r0), .val (.ref r1), .val (.ref r1)]) rfl ?_
    exact kt
  obtain ⟨T3, X3, e3, st3⟩ := getS2 X2 hx hZ hown (host := "") (Or.inl (hw _ (List.mem_of_getElem? (i := 39) rfl))) Via.refl e2 P8 (g := (mkF m 19 #[.val (.ref r0), .val (.ref r1), .val (.ref r1)] [])) rfl (hb hby own_d2_19)
  refine ownE.go (T' := T3) (f' := (mkF m 22 #[.val (.ref r0), .val (.ref r1), .val (.ref r1)] [(.int cs)])) st3 ?_
  refine ownE.go (T' := T3) (f' := (mkF m 25 #[.val (.ref r0), .val (.ref r1), .val (.ref r1)] [])) (fun t kt => XS.ifNo (g := (mkF m 22 #[.val (.ref r0), .val (.ref r1), .val (.ref r1)] [(.int cs)])) X3.here hx rfl (hb hby own_d2_22) rfl (Jvm.Free.XT.i0_eq_f hcsn) kt) ?_
  refine ownE.go (T' := T3) (f' := (mkF m 26 #[.val (.ref r0), .val (.ref r1), .val (.ref r1)] [(.ref r0)])) (fun t kt => ?_) ?_
  · show Steps p.tables e below (T3.setTop (mkF m 25 #[.val (.ref r0), .val (.ref r1), .val (.ref r1)] [])) _
    refine XS.aloadN X3.here hx rfl (hb hby own_d2_25) rfl rfl ?_
    exact kt
  obtain ⟨T4, X4, e4, st4⟩ := getF X3 hx hZ hown (host := "") (Or.inl (hw _ (List.mem_of_getElem? (i := 40) rfl))) Via.refl e3 P1 (g := (mkF m 26 #[.val (.ref r0), .val (.ref r1), .val (.ref r1)] [(.ref r0)])) rfl rfl (hb hby own_d2_26)
  refine ownE.go (T' := T4) (f' := (mkF m 29 #[.val (.ref r0), .val (.ref r1), .val (.ref r1)] [(.int (0 : Int32))])) st4 ?_
  refine ownE.go (T' := T4) (f' := (mkF m 30 #[.val (.ref r0), .val (.ref r1), .val (.ref r1)] [(.ref r1), (.int (0 : Int32))])) (fun t kt => ?_) ?_
  · show Steps p.tables e below (T4.setTop (mkF m 29 #[.val (.ref r0), .val (.ref r1), .val (.ref r1)] [(.int (0 : Int32))])) _
    refine XS.aloadN X4.here hx rfl (hb hby own_d2_29) rfl rfl ?_
    exact kt
  obtain ⟨T5, X5, e5, st5⟩ := getF X4 hx hZ hown (host := "") (Or.inl (hw _ (List.mem_of_getElem? (i := 40) rfl))) Via.refl e4 P5 (g := (mkF m 30 #[.val (.ref r0), .val (.ref r1), .val (.ref r1)] [(.ref r1), (.int (0 : Int32))])) rfl rfl (hb hby own_d2_30)
  refine ownE.go (T' := T5) (f' := (mkF m 33 #[.val (.ref r0), .val (.ref r1), .val (.ref r1)] [(.int (0 : Int32)), (.int (0 : Int32))])) st5 ?_
  refine ownE.go (T' := T5) (f' := (mkF m 36 #[.val (.ref r0), .val (.ref r1), .val (.ref r1)] [])) (fun t kt => XS.icmpNo (g := (mkF m 33 #[.val (.ref r0), .val (.ref r1), .val (.ref r1)] [(.int (0 : Int32)), (.int (0 : Int32))])) X5.here hx rfl (hb hby own_d2_33) rfl (Jvm.Free.XT.ii_ne_f (by decide)) kt) ?_
  refine ownE.go (T' := T5) (f' := (mkF m 37 #[.val (.ref r0), .val (.ref r1), .val (.ref r1)] [(.ref r0)])) (fun t kt => ?_) ?_
  · show Steps p.tables e below (T5.setTop (mkF m 36 #[.val (.ref r0), .val (.ref r1), .val (.ref r1)] [])) _
    refine XS.aloadN X5.here hx rfl (hb hby own_d2_36) rfl rfl ?_
    exact kt
  obtain ⟨T6, X6, e6, st6⟩ := getF X5 hx hZ hown (host := "") (Or.inl (hw _ (List.mem_of_getElem? (i := 41) rfl))) Via.refl e5 P2 (g := (mkF m 37 #[.val (.ref r0), .val (.ref r1), .val (.ref r1)] [(.ref r0)])) rfl rfl (hb hby own_d2_37)
  refine ownE.go (T' := T6) (f' := (mkF m 40 #[.val (.ref r0), .val (.ref r1), .val (.ref r1)] [(.ref va)])) st6 ?_
  refine ownE.go (T' := T6) (f' := (mkF m 41 #[.val (.ref r0), .val (.ref r1), .val (.ref r1)] [(.ref r1), (.ref va)])) (fun t kt => ?_) ?_
  · show Steps p.tables e below (T6.setTop (mkF m 40 #[.val (.ref r0), .val (.ref r1), .val (.ref r1)] [(.ref va)])) _
    refine XS.aloadN X6.here hx rfl (hb hby own_d2_40) rfl rfl ?_
    exact kt
  obtain ⟨T7, X7, e7, st7⟩ := getF X6 hx hZ hown (host := "") (Or.inl (hw _ (List.mem_of_getElem? (i := 41) rfl))) Via.refl e6 P6 (g := (mkF m 41 #[.val (.ref r0), .val (.ref r1), .val (.ref r1)] [(.ref r1), (.ref va)])) rfl rfl (hb hby own_d2_41)
  refine ownE.go (T' := T7) (f' := (mkF m 44 #[.val (.ref r0), .val (.ref r1), .val (.ref r1)] [(.ref vb), (.ref va)])) st7 ?_
  obtain ⟨_, _, ⟨T8, L8, k8, n8⟩, -, X8, ⟨Lc8, hQ8, l8, y8, z8⟩, st8⟩ := Jvm.LawKit.callS X7 hx (y := (⟨"java/lang/StringLatin1", "equals", "([B[B)Z"⟩ : MethodName)) hown (mvT hZ (hw _ (List.mem_of_getElem? (i := 42) rfl))) (mvT hZ (hw _ (List.mem_of_getElem? (i := 43) rfl))) (mvT hZ (hw _ (List.mem_of_getElem? (i := 44) rfl))) (mvT hZ (hw _ (List.mem_of_getElem? (i := 45) rfl))) (by decide) (backOf (W := 0) (own_rm3d l Z a0 hw [] va vb ka kb b0 b1 c0 c1 h0 n0 (Nat.le_trans Z0 K0.1) P3 P7 P10) hZ (hw _ (List.mem_of_getElem? (i := 45) rfl)) (hw _ (List.mem_of_getElem? (i := 44) rfl)) (by decide) (by decide)) (g := (mkF m 44 #[.val (.ref r0), .val (.ref r1), .val (.ref r1)] [(.ref vb), (.ref va)])) rfl (by rw [hml]; rfl) (argsL := [(.ref va), (.ref vb)]) (rest := []) (lenOf own_pd2 rfl) rfl (by show 2 * 0 + _ ≤ _; exact Nat.le_of_eq rfl) (hb hby own_d2_44) (fun _ _ => ⟨rfl, e7, (by decide : 0 + 0 ≤ _), (by decide : 0 + 0 ≤ _)⟩)
  dsimp only [Pt.U, Pt.locs, Pt.cells, Pt.slots] at X8 l8 y8 z8 st8 hQ8
  subst l8 y8 z8
  obtain ⟨rfl, N8q, e8⟩ := hQ8
  have N8 := Fr.app N0 N8q
  refine ownE.go (T' := T8) (f' := (mkF m 47 #[.val (.ref r0), .val (.ref r1), .val (.ref r1)] [(.int (0 : Int32))])) st8 ?_
  refine ownE.go (T' := T8) (f' := (mkF m 54 #[.val (.ref r0), .val (.ref r1), .val (.ref r1)] [])) (fun t kt => XS.ifYes (g := (mkF m 47 #[.val (.ref r0), .val (.ref r1), .val (.ref r1)] [(.int (0 : Int32))])) X8.here hx rfl (pc0 := 47) (pc' := 54) rfl (hb hby own_d2_47) rfl (Jvm.Free.XT.i0_eq_t (by decide)) (by decide) (by decide) kt) ?_
  refine ownE.go (T' := T8) (f' := (mkF m 55 #[.val (.ref r0), .val (.ref r1), .val (.ref r1)] [(.int (0 : Int32))])) (fun t kt => ?_) ?_
  · show Steps p.tables e below (T8.setTop (mkF m 54 #[.val (.ref r0), .val (.ref r1), .val (.ref r1)] [])) _
    refine XS.iconst X8.here hx rfl (hb hby own_d2_54) ?_
    exact kt
  refine ownE.retN X8 hx hlk (t := .boolean) hret (by simp) (hb hby own_d2_55) ?_ (by decide) (by decide)
  show own_Q2d Z r0 r1 va vb ka kb b0 b1 c0 c1 cs h0 n0 _ T8.heap _
  rw [e8]
  exact ⟨rfl, N8, rfl⟩
theorem own_pd4 : parseMethodDescriptor "()Ljava/lang/String;" = some ⟨[], some (.object "java/lang/String")⟩ := by decide +kernel
theorem own_strAtoms {Z : State} {a0 : Array Value} (hw : ∀ d ∈ tables_1, d.before a0 Z = true) : ∀ a ∈ Bundle.stringAtoms, a.before a0 Z = true := by
  intro d hd
  simp only [Bundle.stringAtoms, List.mem_cons, List.not_mem_nil, or_false] at hd
  rcases hd with rfl | rfl | rfl | rfl | rfl | rfl | rfl
  · exact (hw _ (List.mem_of_getElem? (i := 25) rfl))
  · exact (hw _ (List.mem_of_getElem? (i := 26) rfl))
  · exact (hw _ (List.mem_of_getElem? (i := 27) rfl))
  · exact (hw _ (List.mem_of_getElem? (i := 28) rfl))
  · exact (hw _ (List.mem_of_getElem? (i := 29) rfl))
  · exact (hw _ (List.mem_of_getElem? (i := 30) rfl))
  · exact (hw _ (List.mem_of_getElem? (i := 31) rfl))
theorem own_pd5 : parseMethodDescriptor "(Ljava/lang/Object;)Z" = some ⟨[(.object "java/lang/Object")], some .boolean⟩ := by decide +kernel
theorem own_pd6 : parseMethodDescriptor "()Z" = some ⟨[], some .boolean⟩ := by decide +kernel
theorem own_pn7 : plainName "com/example/kolom/kolom/cql/OperatorIsInclusivePinLaw" = true := by first | (simp [plainName, overriddenIn]; done) | decide +kernel
theorem own_ef0 (m : MethodId) (x0 : Int32) : entryFrame m #[(.int x0)] maxLocals = mkF m 0 #[.val (.int x0), .unset, .unset, .unset, .unset] [] := by first | (simp [entryFrame, mkF, argsToLocals, Value.category, maxLocals]; done) | rfl
def own_f0 (i0 : Int32) (cs : Int32) : Int32 :=
  if ((i0 &&& (2147483647 : Int32)) % (6 : Int32)) = (0 : Int32) then
    (1 : Int32)
  else
    if ((i0 &&& (2147483647 : Int32)) % (6 : Int32)) = (1 : Int32) then
      (1 : Int32)
    else
      if ((i0 &&& (2147483647 : Int32)) % (6 : Int32)) = (2 : Int32) then
        (1 : Int32)
      else
        if ((i0 &&& (2147483647 : Int32)) % (6 : Int32)) = (3 : Int32) then
          (1 : Int32)
        else
          if ((i0 &&& (2147483647 : Int32)) % (6 : Int32)) = (4 : Int32) then
            (1 : Int32)
          else
            (1 : Int32)
def own_Q0 (Z : State) (i0 : Int32) (oEQ : Addr) (sEQ : Addr) (vEQ : Addr) (kEQ : ClassId) (oLT : Addr) (sLT : Addr) (vLT : Addr) (kLT : ClassId) (oLTE : Addr) (sLTE : Addr) (vLTE : Addr) (kLTE : ClassId) (oGT : Addr) (sGT : Addr) (vGT : Addr) (kGT : ClassId) (oGTE : Addr) (sGTE : Addr) (vGTE : Addr) (kGTE : ClassId) (oIN : Addr) (sIN : Addr) (vIN : Addr) (kIN : ClassId) (cs : Int32) (h0 : Heap) (n0 : Nat) (v : Option Value) (h : Heap) (L : List Loc) : Prop := v = some (.int (own_f0 i0 cs)) ∧ Fr n0 L ∧ Keep h0 h []
set_option maxRecDepth 65536 in
set_option maxHeartbeats 40000000 in
theorem own_rm0 (l : Launch) (Z : State) (a0 : Array Value) (hw : ∀ d ∈ tables_1, d.before a0 Z = true) (ws : List Jvm.Cond) (i0 : Int32) (oEQ : Addr) (sEQ : Addr) (vEQ : Addr) (kEQ : ClassId) (oLT : Addr) (sLT : Addr) (vLT : Addr) (kLT : ClassId) (oLTE : Addr) (sLTE : Addr) (vLTE : Addr) (kLTE : ClassId) (oGT : Addr) (sGT : Addr) (vGT : Addr) (kGT : ClassId) (oGTE : Addr) (sGTE : Addr) (vGTE : Addr) (kGTE : ClassId) (oIN : Addr) (sIN : Addr) (vIN : Addr) (kIN : ClassId) (cs : Int32) (h0 : Heap) (n0 : Nat) (Z0 : n0 ≤ h0.size) (Od : Old Z n0 h0) (zSEQ : Sta Z Z.heap "com/example/kolom/kolom/cql/Operator" "EQ" "Lcom/example/kolom/kolom/cql/Operator;" (.ref oEQ)) (zEEQ : Exa Z Z.heap oEQ "com/example/kolom/kolom/cql/Operator") (zFEQ : Fld Z Z.heap oEQ "com/example/kolom/kolom/cql/Operator" "symbol" "Ljava/lang/String;" (.ref sEQ)) (zXEQ : Exa Z Z.heap sEQ "java/lang/String") (zCEQ : Fld Z Z.heap sEQ "java/lang/String" "coder" "B" (.int (0 : Int32))) (zVEQ : Fld Z Z.heap sEQ "java/lang/String" "value" "[B" (.ref vEQ)) (zAEQ : Arv Z Z.heap vEQ kEQ .byte (1 : Int32) [(.int (61 : Int32))] (.int (0 : Int32))) (zSLT : Sta Z Z.heap "com/example/kolom/kolom/cql/Operator" "LT" "Lcom/example/kolom/kolom/cql/Operator;" (.ref oLT)) (zELT : Exa Z Z.heap oLT "com/example/kolom/kolom/cql/Operator") (zFLT : Fld Z Z.heap oLT "com/example/kolom/kolom/cql/Operator" "symbol" "Ljava/lang/String;" (.ref sLT)) (zXLT : Exa Z Z.heap sLT "java/lang/String") (zCLT : Fld Z Z.heap sLT "java/lang/String" "coder" "B" (.int (0 : Int32))) (zVLT : Fld Z Z.heap sLT "java/lang/String" "value" "[B" (.ref vLT)) (zALT : Arv Z Z.heap vLT kLT .byte (1 : Int32) [(.int (60 : Int32))] (.int (0 : Int32))) (zSLTE : Sta Z Z.heap "com/example/kolom/kolom/cql/Operator" "LTE" "Lcom/example/kolom/kolom/cql/Operator;" (.ref oLTE)) (zELTE : Exa Z Z.heap oLTE "com/example/kolom/kolom/cql/Operator") (zFLTE : Fld Z Z.heap oLTE "com/example/kolom/kolom/cql/Operator" "symbol" "Ljava/lang/String;" (.ref sLTE)) (zXLTE : Exa Z Z.heap sLTE "java/lang/String") (zCLTE : Fld Z Z.heap sLTE "java/lang/String" "coder" "B" (.int (0 : Int32))) (zVLTE : Fld Z Z.heap sLTE "java/lang/String" "value" "[B" (.ref vLTE)) (zALTE : Arv Z Z.heap vLTE kLTE .byte (2 : Int32) [(.int (60 : Int32)), (.int (61 : Int32))] (.int (0 : Int32))) (zSGT : Sta Z Z.heap "com/example/kolom/kolom/cql/Operator" "GT" "Lcom/example/kolom/kolom/cql/Operator;" (.ref oGT)) (zEGT : Exa Z Z.heap oGT "com/example/kolom/kolom/cql/Operator") (zFGT : Fld Z Z.heap oGT "com/example/kolom/kolom/cql/Operator" "symbol" "Ljava/lang/String;" (.ref sGT)) (zXGT : Exa Z Z.heap sGT "java/lang/String") (zCGT : Fld Z Z.heap sGT "java/lang/String" "coder" "B" (.int (0 : Int32))) (zVGT : Fld Z Z.heap sGT "java/lang/String" "value" "[B" (.ref vGT)) (zAGT : Arv Z Z.heap vGT kGT .byte (1 : Int32) [(.int (62 : Int32))] (.int (0 : Int32))) (zSGTE : Sta Z Z.heap "com/example/kolom/kolom/cql/Operator" "GTE" "Lcom/example/kolom/kolom/cql/Operator;" (.ref oGTE)) (zEGTE : Exa Z Z.heap oGTE "com/example/kolom/kolom/cql/Operator") (zFGTE : Fld Z Z.heap oGTE "com/example/kolom/kolom/cql/Operator" "symbol" "Ljava/lang/String;" (.ref sGTE)) (zXGTE : Exa Z Z.heap sGTE "java/lang/String") (zCGTE : Fld Z Z.heap sGTE "java/lang/String" "coder" "B" (.int (0 : Int32))) (zVGTE : Fld Z Z.heap sGTE "java/lang/String" "value" "[B" (.ref vGTE)) (zAGTE : Arv Z Z.heap vGTE kGTE .byte (2 : Int32) [(.int (62 : Int32)), (.int (61 : Int32))] (.int (0 : Int32))) (zSIN : Sta Z Z.heap "com/example/kolom/kolom/cql/Operator" "IN" "Lcom/example/kolom/kolom/cql/Operator;" (.ref oIN)) (zEIN : Exa Z Z.heap oIN "com/example/kolom/kolom/cql/Operator") (zFIN : Fld Z Z.heap oIN "com/example/kolom/kolom/cql/Operator" "symbol" "Ljava/lang/String;" (.ref sIN)) (zXIN : Exa Z Z.heap sIN "java/lang/String") (zCIN : Fld Z Z.heap sIN "java/lang/String" "coder" "B" (.int (0 : Int32))) (zVIN : Fld Z Z.heap sIN "java/lang/String" "value" "[B" (.ref vIN)) (zAIN : Arv Z Z.heap vIN kIN .byte (2 : Int32) [(.int (73 : Int32)), (.int (78 : Int32))] (.int (0 : Int32))) (zcs : Sta Z Z.heap "java/lang/String" "COMPACT_STRINGS" "Z" (.int cs)) (hcsn : ¬ cs = (0 : Int32)) (neEQ_LTE : oEQ ≠ oLTE) (neEQ_GTE : oEQ ≠ oGTE) (neLT_LTE : oLT ≠ oLTE) (neLT_GTE : oLT ≠ oGTE) (neLTE_GTE : oLTE ≠ oGTE) (neGT_LTE : oGT ≠ oLTE) (neGT_GTE : oGT ≠ oGTE) (neIN_LTE : oIN ≠ oLTE) (neIN_GTE : oIN ≠ oGTE) (hn0 : n0 = h0.size) (hcw : Jvm.Lit.compactW.before a0 Z = true) (hl33 : Jvm.Lit.constHeld Z "com/example/kolom/kolom/cql/OperatorIsInclusivePinLaw" 33) (hl41 : Jvm.Lit.constHeld Z "com/example/kolom/kolom/cql/OperatorIsInclusivePinLaw" 41) :
    MetFree l x (head1 (Jvm.Cond.code x code maxLocals ret :: ws) room_1) (fun a U => a = #[(.int i0)] ∧ Z.Warmed39 U.vm ∧ U.heap = h0 ∧ IB Z U.vm []) (fun _ _ _ _ _ => True) (fun _ U o U' => ∃ v L, o = .returned v ∧ own_Q0 Z i0 oEQ sEQ vEQ kEQ oLT sLT vLT kLT oLTE sLTE vLTE kLTE oGT sGT vGT kGT oGTE sGTE vGTE kGTE oIN sIN vIN kIN cs h0 n0 v U'.heap L ∧ ReturnedEndW U o U' L 5 30) := by
  refine MetFree.of_bodySF (plainFor_of_name own_pn7) hisR ?_
  intro p e s m args below meth c s₁ Bd hml0 hP hK
  obtain ⟨rfl, hZ, hh, hIB⟩ := hP
  have hx := Bd.exec
  have hby := Bd.bytes
  have hret := Bd.returns
  have hlk := BodyLoose.notSynchronized Bd
  have hml : c.maxLocals = 5 := hml0
  have hown : s.vm.findClass "com/example/kolom/kolom/cql/OperatorIsInclusivePinLaw" = some m.cls := findClass_of_methodNamed Bd.named
  have hnm := (name_of_methodNamed Bd.named Bd.method).1
  have X0 : Stand p l e room_1 s m #[(.int i0)] below meth c s₁ [] 0 0 := Stand.of_body Bd
  have e0 : s₁.heap = h0 := by rw [← hh, Bd.state]; rfl
  have N0 := Fr.nil n0
  have K0 : Keep h0 h0 [] := Keep.refl h0 _
  show ownW p e below s (own_Q0 Z i0 oEQ sEQ vEQ kEQ oLT sLT vLT kLT oLTE sLTE vLTE kLTE oGT sGT vGT kGT oGTE sGTE vGTE kGTE oIN sIN vIN kIN cs h0 n0) 5 30 s₁ (entryFrame m #[(.int i0)] maxLocals)
  rw [own_ef0]
  have X0 : Stand p l e room_1 (s.setVm s.vm) m #[(.int i0)] below meth c s₁ [] 0 0 := X0
  have hZ : Z.Warmed39 (s.setVm s.vm).vm := hZ
  have hown : (s.setVm s.vm).vm.findClass "com/example/kolom/kolom/cql/OperatorIsInclusivePinLaw" = some m.cls := hown
  have hS0 : s.Since s.vm 0 := State.WarmedH.since (State.WarmedH.refl s) 0
  have hk0 : 0 ≤ h0.size := Nat.zero_le _
  refine ownW.go (T' := s₁) (f' := (mkF m 2 #[.val (.int i0), .unset, .unset, .unset, .unset] [(.int (6 : Int32))])) (fun t kt => ?_) ?_
  · show Steps p.tables e below (s₁.setTop (mkF m 0 #[.val (.int i0), .unset, .unset, .unset, .unset] [])) _
    refine XS.bipush X0.here hx rfl (hb hby at_0) ?_
    exact kt
  obtain ⟨T1, h1, k1, X1, e1, E1, A1, O1, st1⟩ := newR X0 hx hZ hown (hw _ (List.mem_of_getElem? (i := 0) rfl)) (hw _ (List.mem_of_getElem? (i := 1) rfl)) e0 (g := (mkF m 2 #[.val (.int i0), .unset, .unset, .unset, .unset] [(.int (6 : Int32))])) rfl (hb hby at_2) rfl (by decide) (cap := 6) (by decide) (by decide) (by decide) (by decide)
  obtain ⟨b1, g1⟩ : ∃ z, z = h0.size := ⟨_, rfl⟩
  rw [← g1] at A1 st1
  have sz_b1 : h0.size ≤ b1 := Nat.le_trans K0.1 (Nat.le_of_eq g1.symm)
  have ge_b1 : n0 ≤ b1 := Nat.le_trans Z0 sz_b1
  have cOld_1 : Old Z n0 h1 := Od.ext E1
  have V1 : Arv Z h1 b1 k1 (.object "com/example/kolom/kolom/cql/Operator") (6 : Int32) [.null, .null, .null, .null, .null, .null] .null := (Arv.new A1 (by decide)).pad (pad_rep [] .null 6)
  have K1 : Keep h0 h1 [] := K0.ext E1
  have hk1 := Nat.le_trans hk0 E1.1
  refine ownW.go (T' := T1) (f' := (mkF m 5 #[.val (.int i0), .unset, .unset, .unset, .unset] [(.ref b1)])) st1 ?_
  refine ownW.go (T' := T1) (f' := (mkF m 7 #[.val (.int i0), .unset, .unset, .unset, .unset] [(.int (0 : Int32)), (.ref b1), (.ref b1)])) (fun t kt => ?_) ?_
  · show Steps p.tables e below (T1.setTop (mkF m 5 #[.val (.int i0), .unset, .unset, .unset, .unset] [(.ref b1)])) _
    refine XS.dup X1.here hx rfl (hb hby at_5) rfl rfl ?_
    show Steps p.tables e below (T1.setTop (mkF m 6 #[.val (.int i0), .unset, .unset, .unset, .unset] [(.ref b1), (.ref b1)])) _
    refine XS.iconst X1.here hx rfl (hb hby at_6) ?_
    exact kt
  obtain ⟨T2, X2, e2, st2⟩ := getS2 X1 hx hZ hown (host := "") (Or.inl (hw _ (List.mem_of_getElem? (i := 2) rfl))) Via.refl e1 (zSEQ.ext cOld_1.2) (g := (mkF m 7 #[.val (.int i0), .unset, .unset, .unset, .unset] [(.int (0 : Int32)), (.ref b1), (.ref b1)])) rfl (hb hby at_7)
  refine ownW.go (T' := T2) (f' := (mkF m 10 #[.val (.int i0), .unset, .unset, .unset, .unset] [(.ref oEQ), (.int (0 : Int32)), (.ref b1), (.ref b1)])) st2 ?_
  obtain ⟨cl3, Ar3, q3, S3, Nn3, Hh3, G3⟩ := id V1
  have hin3 : ¬ ((0 : Int32) < 0 ∨ cl3.slots.size ≤ ((0 : Int32)).toNatClampNeg) := inb_of S3 ⟨by decide, by decide⟩
  obtain ⟨T3, h3, X3, e3, W3, st3⟩ := stR X2 hx hZ e2 Ar3 (j := (0 : Int32)) hin3 rfl (Sto.ofV Ar3 q3 O1 (Ins.self (zEEQ.ext cOld_1.2))) (g := (mkF m 10 #[.val (.int i0), .unset, .unset, .unset, .unset] [(.ref oEQ), (.int (0 : Int32)), (.ref b1), (.ref b1)])) rfl rfl (hb hby at_10)
  have V3 : Arv Z h3 b1 k1 (.object "com/example/kolom/kolom/cql/Operator") (6 : Int32) [(.ref oEQ), .null, .null, .null, .null, .null] .null := Arv.set Ar3 q3 S3 Nn3 Hh3 G3 rfl W3 0 rfl (Nat.le_of_ble_eq_true rfl)
  have cOld_3 : Old Z n0 h3 := cOld_1.wr W3 ge_b1
  have K3 : Keep h0 h3 [] := K1.wr W3 (Or.inr sz_b1)
  have hk3 := Nat.le_trans hk1 (Nat.le_of_eq W3.size.symm)
  have N3 := Fr.snoc X3 N0 ge_b1
  refine ownW.go (T' := T3) (f' := (mkF m 11 #[.val (.int i0), .unset, .unset, .unset, .unset] [(.ref b1)])) st3 ?_
  refine ownW.go (T' := T3) (f' := (mkF m 13 #[.val (.int i0), .unset, .unset, .unset, .unset] [(.int (1 : Int32)), (.ref b1), (.ref b1)])) (fun t kt => ?_) ?_
  · show Steps p.tables e below (T3.setTop (mkF m 11 #[.val (.int i0), .unset, .unset, .unset, .unset] [(.ref b1)])) _
    refine XS.dup X3.here hx rfl (hb hby at_11) rfl rfl ?_
    show Steps p.tables e below (T3.setTop (mkF m 12 #[.val (.int i0), .unset, .unset, .unset, .unset] [(.ref b1), (.ref b1)])) _
    refine XS.iconst X3.here hx rfl (hb hby at_12) ?_
    exact kt
  obtain ⟨T4, X4, e4, st4⟩ := getS2 X3 hx hZ hown (host := "") (Or.inl (hw _ (List.mem_of_getElem? (i := 6) rfl))) Via.refl e3 (zSLT.ext cOld_3.2) (g := (mkF m 13 #[.val (.int i0), .unset, .unset, .unset, .unset] [(.int (1 : Int32)), (.ref b1), (.ref b1)])) rfl (hb hby at_13)
  refine ownW.go (T' := T4) (f' := (mkF m 16 #[.val (.int i0), .unset, .unset, .unset, .unset] [(.ref oLT), (.int (1 : Int32)), (.ref b1), (.ref b1)])) st4 ?_
  obtain ⟨cl5, Ar5, q5, S5, Nn5, Hh5, G5⟩ := id V3
  have hin5 : ¬ ((1 : Int32) < 0 ∨ cl5.slots.size ≤ ((1 : Int32)).toNatClampNeg) := inb_of S5 ⟨by decide, by decide⟩
  obtain ⟨T5, h5, X5, e5, W5, st5⟩ := stR X4 hx hZ e4 Ar5 (j := (1 : Int32)) hin5 rfl (Sto.ofV Ar5 q5 O1 (Ins.self (zELT.ext cOld_3.2))) (g := (mkF m 16 #[.val (.int i0), .unset, .unset, .unset, .unset] [(.ref oLT), (.int (1 : Int32)), (.ref b1), (.ref b1)])) rfl rfl (hb hby at_16)
  have V5 : Arv Z h5 b1 k1 (.object "com/example/kolom/kolom/cql/Operator") (6 : Int32) [(.ref oEQ), (.ref oLT), .null, .null, .null, .null] .null := Arv.set Ar5 q5 S5 Nn5 Hh5 G5 rfl W5 1 rfl (Nat.le_of_ble_eq_true rfl)
  have cOld_5 : Old Z n0 h5 := cOld_3.wr W5 ge_b1
  have K5 : Keep h0 h5 [] := K3.wr W5 (Or.inr sz_b1)
  have hk5 := Nat.le_trans hk3 (Nat.le_of_eq W5.size.symm)
  have N5 := Fr.snoc X5 N3 ge_b1
  refine ownW.go (T' := T5) (f' := (mkF m 17 #[.val (.int i0), .unset, .unset, .unset, .unset] [(.ref b1)])) st5 ?_
  refine ownW.go (T' := T5) (f' := (mkF m 19 #[.val (.int i0), .unset, .unset, .unset, .unset] [(.int (2 : Int32)), (.ref b1), (.ref b1)])) (fun t kt => ?_) ?_
  · show Steps p.tables e below (T5.setTop (mkF m 17 #[.val (.int i0), .unset, .unset, .unset, .unset] [(.ref b1)])) _
    refine XS.dup X5.here hx rfl (hb hby at_17) rfl rfl ?_
    show Steps p.tables e below (T5.setTop (mkF m 18 #[.val (.int i0), .unset, .unset, .unset, .unset] [(.ref b1), (.ref b1)])) _
    refine XS.iconst X5.here hx rfl (hb hby at_18) ?_
    exact kt
  obtain ⟨T6, X6, e6, st6⟩ := getS2 X5 hx hZ hown (host := "") (Or.inl (hw _ (List.mem_of_getElem? (i := 8) rfl))) Via.refl e5 (zSLTE.ext cOld_5.2) (g := (mkF m 19 #[.val (.int i0), .unset, .unset, .unset, .unset] [(.int (2 : Int32)), (.ref b1), (.ref b1)])) rfl (hb hby at_19)
  refine ownW.go (T' := T6) (f' := (mkF m 22 #[.val (.int i0), .unset, .unset, .unset, .unset] [(.ref oLTE), (.int (2 : Int32)), (.ref b1), (.ref b1)])) st6 ?_
  obtain ⟨cl7, Ar7, q7, S7, Nn7, Hh7, G7⟩ := id V5
  have hin7 : ¬ ((2 : Int32) < 0 ∨ cl7.slots.size ≤ ((2 : Int32)).toNatClampNeg) := inb_of S7 ⟨by decide, by decide⟩
  obtain ⟨T7, h7, X7, e7, W7, st7⟩ := stR X6 hx hZ e6 Ar7 (j := (2 : Int32)) hin7 rfl (Sto.ofV Ar7 q7 O1 (Ins.self (zELTE.ext cOld_5.2))) (g := (mkF m 22 #[.val (.int i0), .unset, .unset, .unset, .unset] [(.ref oLTE), (.int (2 : Int32)), (.ref b1), (.ref b1)])) rfl rfl (hb hby at_22)
  have V7 : Arv Z h7 b1 k1 (.object "com/example/kolom/kolom/cql/Operator") (6 : Int32) [(.ref oEQ), (.ref oLT), (.ref oLTE), .null, .null, .null] .null := Arv.set Ar7 q7 S7 Nn7 Hh7 G7 rfl W7 2 rfl (Nat.le_of_ble_eq_true rfl)
  have cOld_7 : Old Z n0 h7 := cOld_5.wr W7 ge_b1
  have K7 : Keep h0 h7 [] := K5.wr W7 (Or.inr sz_b1)
  have hk7 := Nat.le_trans hk5 (Nat.le_of_eq W7.size.symm)
  have N7 := Fr.snoc X7 N5 ge_b1
  refine ownW.go (T' := T7) (f' := (mkF m 23 #[.val (.int i0), .unset, .unset, .unset, .unset] [(.ref b1)])) st7 ?_
  refine ownW.go (T' := T7) (f' := (mkF m 25 #[.val (.int i0), .unset, .unset, .unset, .unset] [(.int (3 : Int32)), (.ref b1), (.ref b1)])) (fun t kt => ?_) ?_
  · show Steps p.tables e below (T7.setTop (mkF m 23 #[.val (.int i0), .unset, .unset, .unset, .unset] [(.ref b1)])) _
    refine XS.dup X7.here hx rfl (hb hby at_23) rfl rfl ?_
    show Steps p.tables e below (T7.setTop (mkF m 24 #[.val (.int i0), .unset, .unset, .unset, .unset] [(.ref b1), (.ref b1)])) _
    refine XS.iconst X7.here hx rfl (hb hby at_24) ?_
    exact kt
  obtain ⟨T8, X8, e8, st8⟩ := getS2 X7 hx hZ hown (host := "") (Or.inl (hw _ (List.mem_of_getElem? (i := 10) rfl))) Via.refl e7 (zSGT.ext cOld_7.2) (g := (mkF m 25 #[.val (.int i0), .unset, .unset, .unset, .unset] [(.int (3 : Int32)), (.ref b1), (.ref b1)])) rfl (hb hby at_25)
  refine ownW.go (T' := T8) (f' := (mkF m 28 #[.val (.int i0), .unset, .unset, .unset, .unset] [(.ref oGT), (.int (3 : Int32)), (.ref b1), (.ref b1)])) st8 ?_
  obtain ⟨cl9, Ar9, q9, S9, Nn9, Hh9, G9⟩ := id V7
  have hin9 : ¬ ((3 : Int32) < 0 ∨ cl9.slots.size ≤ ((3 : Int32)).toNatClampNeg) := inb_of S9 ⟨by decide, by decide⟩
  obtain ⟨T9, h9, X9, e9, W9, st9⟩ := stR X8 hx hZ e8 Ar9 (j := (3 : Int32)) hin9 rfl (Sto.ofV Ar9 q9 O1 (Ins.self (zEGT.ext cOld_7.2))) (g := (mkF m 28 #[.val (.int i0), .unset, .unset, .unset, .unset] [(.ref oGT), (.int (3 : Int32)), (.ref b1), (.ref b1)])) rfl rfl (hb hby at_28)
  have V9 : Arv Z h9 b1 k1 (.object "com/example/kolom/kolom/cql/Operator") (6 : Int32) [(.ref oEQ), (.ref oLT), (.ref oLTE), (.ref oGT), .null, .null] .null := Arv.set Ar9 q9 S9 Nn9 Hh9 G9 rfl W9 3 rfl (Nat.le_of_ble_eq_true rfl)
  have cOld_9 : Old Z n0 h9 := cOld_7.wr W9 ge_b1
  have K9 : Keep h0 h9 [] := K7.wr W9 (Or.inr sz_b1)
  have hk9 := Nat.le_trans hk7 (Nat.le_of_eq W9.size.symm)
  have N9 := Fr.snoc X9 N7 ge_b1
  refine ownW.go (T' := T9) (f' := (mkF m 29 #[.val (.int i0), .unset, .unset, .unset, .unset] [(.ref b1)])) st9 ?_
  refine ownW.go (T' := T9) (f' := (mkF m 31 #[.val (.int i0), .unset, .unset, .unset, .unset] [(.int (4 : Int32)), (.ref b1), (.ref b1)])) (fun t kt => ?_) ?_
  · show Steps p.tables e below (T9.setTop (mkF m 29 #[.val (.int i0), .unset, .unset, .unset, .unset] [(.ref b1)])) _
    refine XS.dup X9.here hx rfl (hb hby at_29) rfl rfl ?_
    show Steps p.tables e below (T9.setTop (mkF m 30 #[.val (.int i0), .unset, .unset, .unset, .unset] [(.ref b1), (.ref b1)])) _
    refine XS.iconst X9.here hx rfl (hb hby at_30) ?_
    exact kt
  obtain ⟨T10, X10, e10, st10⟩ := getS2 X9 hx hZ hown (host := "") (Or.inl (hw _ (List.mem_of_getElem? (i := 12) rfl))) Via.refl e9 (zSGTE.ext cOld_9.2) (g := (mkF m 31 #[.val (.int i0), .unset, .unset, .unset, .unset] [(.int (4 : Int32)), (.ref b1), (.ref b1)])) rfl (hb hby at_31)
  refine ownW.go (T' := T10) (f' := (mkF m 34 #[.val (.int i0), .unset, .unset, .unset, .unset] [(.ref oGTE), (.int (4 : Int32)), (.ref b1), (.ref b1)])) st10 ?_
  obtain ⟨cl11, Ar11, q11, S11, Nn11, Hh11, G11⟩ := id V9
  have hin11 : ¬ ((4 : Int32) < 0 ∨ cl11.slots.size ≤ ((4 : Int32)).toNatClampNeg) := inb_of S11 ⟨by decide, by decide⟩
  obtain ⟨T11, h11, X11, e11, W11, st11⟩ := stR X10 hx hZ e10 Ar11 (j := (4 : Int32)) hin11 rfl (Sto.ofV Ar11 q11 O1 (Ins.self (zEGTE.ext cOld_9.2))) (g := (mkF m 34 #[.val (.int i0), .unset, .unset, .unset, .unset] [(.ref oGTE), (.int (4 : Int32)), (.ref b1), (.ref b1)])) rfl rfl (hb hby at_34)
  have V11 : Arv Z h11 b1 k1 (.object "com/example/kolom/kolom/cql/Operator") (6 : Int32) [(.ref oEQ), (.ref oLT), (.ref oLTE), (.ref oGT), (.ref oGTE), .null] .null := Arv.set Ar11 q11 S11 Nn11 Hh11 G11 rfl W11 4 rfl (Nat.le_of_ble_eq_true rfl)
  have cOld_11 : Old Z n0 h11 := cOld_9.wr W11 ge_b1
  have K11 : Keep h0 h11 [] := K9.wr W11 (Or.inr sz_b1)
  have hk11 := Nat.le_trans hk9 (Nat.le_of_eq W11.size.symm)
  have N11 := Fr.snoc X11 N9 ge_b1
  refine ownW.go (T' := T11) (f' := (mkF m 35 #[.val (.int i0), .unset, .unset, .unset, .unset] [(.ref b1)])) st11 ?_
  refine ownW.go (T' := T11) (f' := (mkF m 37 #[.val (.int i0), .unset, .unset, .unset, .unset] [(.int (5 : Int32)), (.ref b1), (.ref b1)])) (fun t kt => ?_) ?_
  · show Steps p.tables e below (T11.setTop (mkF m 35 #[.val (.int i0), .unset, .unset, .unset, .unset] [(.ref b1)])) _
    refine XS.dup X11.here hx rfl (hb hby at_35) rfl rfl ?_
    show Steps p.tables e below (T11.setTop (mkF m 36 #[.val (.int i0), .unset, .unset, .unset, .unset] [(.ref b1), (.ref b1)])) _
    refine XS.iconst X11.here hx rfl (hb hby at_36) ?_
    exact kt
  obtain ⟨T12, X12, e12, st12⟩ := getS2 X11 hx hZ hown (host := "") (Or.inl (hw _ (List.mem_of_getElem? (i := 14) rfl))) Via.refl e11 (zSIN.ext cOld_11.2) (g := (mkF m 37 #[.val (.int i0), .unset, .unset, .unset, .unset] [(.int (5 : Int32)), (.ref b1), (.ref b1)])) rfl (hb hby at_37)
  refine ownW.go (T' := T12) (f' := (mkF m 40 #[.val (.int i0), .unset, .unset, .unset, .unset] [(.ref oIN), (.int (5 : Int32)), (.ref b1), (.ref b1)])) st12 ?_
  obtain ⟨cl13, Ar13, q13, S13, Nn13, Hh13, G13⟩ := id V11
  have hin13 : ¬ ((5 : Int32) < 0 ∨ cl13.slots.size ≤ ((5 : Int32)).toNatClampNeg) := inb_of S13 ⟨by decide, by decide⟩
  obtain ⟨T13, h13, X13, e13, W13, st13⟩ := stR X12 hx hZ e12 Ar13 (j := (5 : Int32)) hin13 rfl (Sto.ofV Ar13 q13 O1 (Ins.self (zEIN.ext cOld_11.2))) (g := (mkF m 40 #[.val (.int i0), .unset, .unset, .unset, .unset] [(.ref oIN), (.int (5 : Int32)), (.ref b1), (.ref b1)])) rfl rfl (hb hby at_40)
  have V13 : Arv Z h13 b1 k1 (.object "com/example/kolom/kolom/cql/Operator") (6 : Int32) [(.ref oEQ), (.ref oLT), (.ref oLTE), (.ref oGT), (.ref oGTE), (.ref oIN)] .null := Arv.set Ar13 q13 S13 Nn13 Hh13 G13 rfl W13 5 rfl (Nat.le_of_ble_eq_true rfl)
  have cOld_13 : Old Z n0 h13 := cOld_11.wr W13 ge_b1
  have K13 : Keep h0 h13 [] := K11.wr W13 (Or.inr sz_b1)
  have hk13 := Nat.le_trans hk11 (Nat.le_of_eq W13.size.symm)
  have N13 := Fr.snoc X13 N11 ge_b1
  refine ownW.go (T' := T13) (f' := (mkF m 41 #[.val (.int i0), .unset, .unset, .unset, .unset] [(.ref b1)])) st13 ?_
  refine ownW.go (T' := T13) (f' := (mkF m 50 #[.val (.int i0), .val (.ref b1), .unset, .unset, .unset] [(.int ((i0 &&& (2147483647 : Int32)) % (6 : Int32))), (.ref b1)])) (fun t kt => ?_) ?_
  · show Steps p.tables e below (T13.setTop (mkF m 41 #[.val (.int i0), .unset, .unset, .unset, .unset] [(.ref b1)])) _
    refine XS.astoreN X13.here hx rfl (hb hby at_41) rfl rfl (l' := #[.val (.int i0), .val (.ref b1), .unset, .unset, .unset]) rfl ?_
    show Steps p.tables e below (T13.setTop (mkF m 42 #[.val (.int i0), .val (.ref b1), .unset, .unset, .unset] [])) _
    refine XS.aloadN X13.here hx rfl (hb hby at_42) rfl rfl ?_
    show Steps p.tables e below (T13.setTop (mkF m 43 #[.val (.int i0), .val (.ref b1), .unset, .unset, .unset] [(.ref b1)])) _
    refine XS.iloadN X13.here hx rfl (hb hby at_43) rfl ?_
    show Steps p.tables e below (T13.setTop (mkF m 44 #[.val (.int i0), .val (.ref b1), .unset, .unset, .unset] [(.int i0), (.ref b1)])) _
    refine X13.ldcInt hx hown (mvT hZ (hw _ (List.mem_of_getElem? (i := 16) rfl))) (g := (mkF m 44 #[.val (.int i0), .val (.ref b1), .unset, .unset, .unset] [(.int i0), (.ref b1)])) rfl (hb hby at_44) _ ?_
    show Steps p.tables e below (T13.setTop (mkF m 46 #[.val (.int i0), .val (.ref b1), .unset, .unset, .unset] [(.int (2147483647 : Int32)), (.int i0), (.ref b1)])) _
    refine XS.iand X13.here hx rfl (hb hby at_46) rfl ?_
    show Steps p.tables e below (T13.setTop (mkF m 47 #[.val (.int i0), .val (.ref b1), .unset, .unset, .unset] [(.int (i0 &&& (2147483647 : Int32))), (.ref b1)])) _
    refine XS.bipush X13.here hx rfl (hb hby at_47) ?_
    show Steps p.tables e below (T13.setTop (mkF m 49 #[.val (.int i0), .val (.ref b1), .unset, .unset, .unset] [(.int (6 : Int32)), (.int (i0 &&& (2147483647 : Int32))), (.ref b1)])) _
    refine iremM X13 hx rfl (hb hby at_49) rfl (by decide) ?_
    exact kt
  rcases own_six i0 with hk14 | hk14 | hk14 | hk14 | hk14 | hk14
  · -- ((i0 &&& (2147483647 : Int32)) % (6 : Int32)) = 0
    have hf14 : (mkF m 50 #[.val (.int i0), .val (.ref b1), .unset, .unset, .unset] [(.int ((i0 &&& (2147483647 : Int32)) % (6 : Int32))), (.ref b1)]) = (mkF m 50 #[.val (.int i0), .val (.ref b1), .unset, .unset, .unset] [(.int (0 : Int32)), (.ref b1)]) := by rw [hk14]
    rw [hf14]
    obtain ⟨cl15, Ar15, q15, S15, Nn15, Hh15, G15⟩ := id V13
    refine ownW.go (T' := T13) (f' := (mkF m 51 #[.val (.int i0), .val (.ref b1), .unset, .unset, .unset] [(.ref oEQ)])) (fun t kt => X13.aaload hx (j := (0 : Int32)) (v := (.ref oEQ)) (by rw [e13]; exact Ar15.1) (State.isArrayOf_alike hZ.alike Ar15.2.1) rfl Ar15.2.2 (inb_of S15 ⟨by decide, by decide⟩) (Hh15.at (inb_of S15 ⟨by decide, by decide⟩) rfl) (g := (mkF m 50 #[.val (.int i0), .val (.ref b1), .unset, .unset, .unset] [(.int (0 : Int32)), (.ref b1)])) rfl rfl (hb hby at_50) _ kt) ?_
    refine ownW.go (T' := T13) (f' := (mkF m 53 #[.val (.int i0), .val (.ref b1), .val (.ref oEQ), .unset, .unset] [(.ref oEQ)])) (fun t kt => ?_) ?_
    · show Steps p.tables e below (T13.setTop (mkF m 51 #[.val (.int i0), .val (.ref b1), .unset, .unset, .unset] [(.ref oEQ)])) _
      refine XS.astoreN X13.here hx rfl (hb hby at_51) rfl rfl (l' := #[.val (.int i0), .val (.ref b1), .val (.ref oEQ), .unset, .unset]) rfl ?_
      show Steps p.tables e below (T13.setTop (mkF m 52 #[.val (.int i0), .val (.ref b1), .val (.ref oEQ), .unset, .unset] [])) _
      refine XS.aloadN X13.here hx rfl (hb hby at_52) rfl rfl ?_
      exact kt
    obtain ⟨cq16, kq16, q16a, q16b, q16c⟩ := isOf hZ e13 (zEEQ.ext cOld_13.2)
    obtain ⟨_, _, ⟨T16, L16, k16, n16⟩, -, X16, ⟨Lc16, hQ16, l16, y16, z16⟩, st16⟩ := X13.virtualBack hx (y := (⟨"com/example/kolom/kolom/cql/Operator", "symbol", "()Ljava/lang/String;"⟩ : MethodName)) (z := (⟨"com/example/kolom/kolom/cql/Operator", "symbol", "()Ljava/lang/String;"⟩ : MethodName)) hown (mvT hZ (hw _ (List.mem_of_getElem? (i := 17) rfl))) (mvT hZ (hw _ (List.mem_of_getElem? (i := 18) rfl))) (notFace_of_selects (args := #[]) (mvT hZ (hw _ (List.mem_of_getElem? (i := 20) rfl)))) (mvT hZ (hw _ (List.mem_of_getElem? (i := 20) rfl))) (mvT hZ (hw _ (List.mem_of_getElem? (i := 19) rfl))) (by decide) (backOf (W := 0) (own_rm1 l Z a0 hw [] oEQ sEQ h13 n0 (Nat.le_trans Z0 K13.1) (zFEQ.ext cOld_13.2)) hZ (hw _ (List.mem_of_getElem? (i := 21) rfl)) (hw _ (List.mem_of_getElem? (i := 3) rfl)) (by decide) (by decide)) q16a q16c (g := (mkF m 53 #[.val (.int i0), .val (.ref b1), .val (.ref oEQ), .unset, .unset] [(.ref oEQ)])) rfl (by rw [hml]; rfl) (Steps.refl _) (argsL := []) (rest := []) (lenOf own_pd4 rfl) rfl (by show 2 * 0 + _ ≤ _; exact Nat.le_of_eq rfl) (hb hby at_53) (fun _ _ => ⟨rfl, e13, (by decide : 1 + 0 ≤ _), (by decide : 6 + 0 ≤ _)⟩)
    dsimp only [Pt.U, Pt.locs, Pt.cells, Pt.slots] at X16 l16 y16 z16 st16 hQ16
    subst l16 y16 z16
    obtain ⟨rfl, N16q, e16⟩ := hQ16
    have N16 := Fr.app N13 N16q
    refine ownW.goS (T' := T16) (f' := (mkF m 56 #[.val (.int i0), .val (.ref b1), .val (.ref oEQ), .unset, .unset] [(.ref sEQ)])) st16 ?_
    refine ownW.go (T' := T16) (f' := (mkF m 58 #[.val (.int i0), .val (.ref b1), .val (.ref oEQ), .val (.ref sEQ), .unset] [(.ref sEQ)])) (fun t kt => ?_) ?_
    · show Steps p.tables e below (T16.setTop (mkF m 56 #[.val (.int i0), .val (.ref b1), .val (.ref oEQ), .unset, .unset] [(.ref sEQ)])) _
      refine XS.astoreN X16.here hx rfl (hb hby at_56) rfl rfl (l' := #[.val (.int i0), .val (.ref b1), .val (.ref oEQ), .val (.ref sEQ), .unset]) rfl ?_
      show Steps p.tables e below (T16.setTop (mkF m 57 #[.val (.int i0), .val (.ref b1), .val (.ref oEQ), .val (.ref sEQ), .unset] [])) _
      refine XS.aloadN X16.here hx rfl (hb hby at_57) rfl rfl ?_
      exact kt
    obtain ⟨c17, T17, h17, k17, cb17, ck17, X17, e17, E17, hS17, hk17, hZ, hown, cE17, cC17, cV17, cA17, -, -, I17, st17⟩ := ldcSV X16 hx hZ hown (hw _ (List.mem_of_getElem? (i := 24) rfl)) (own_strAtoms hw) e16 hS0 hk13 (by rw [hh, ← hn0]; exact N16) (fun b cl q => by rw [hh]; exact Od.2.2 b cl q) hIB (Ts := []) (by decide) hl33 hcw (vs := [(.int (60 : Int32)), (.int (61 : Int32))]) (z := (2 : Int32)) ⟨by decide, by decide⟩ (by decide) (by decide) (g := (mkF m 58 #[.val (.int i0), .val (.ref b1), .val (.ref oEQ), .val (.ref sEQ), .unset] [(.ref sEQ)])) rfl (hb hby at_58) (n := 8) (by decide) (by decide) (by decide) (by decide)
    have cOld_17 : Old Z n0 h17 := cOld_13.ext E17
    have cArv_b1_17 : Arv Z h17 b1 k1 (.object "com/example/kolom/kolom/cql/Operator") (6 : Int32) [(.ref oEQ), (.ref oLT), (.ref oLTE), (.ref oGT), (.ref oGTE), (.ref oIN)] .null := V13.ext E17
    have K17 : Keep h0 h17 [] := K13.ext E17
    refine ownW.go (T' := T17) (f' := (mkF m 60 #[.val (.int i0), .val (.ref b1), .val (.ref oEQ), .val (.ref sEQ), .unset] [(.ref c17), (.ref sEQ)])) st17 ?_
    obtain ⟨cq18, kq18, q18a, q18b, q18c⟩ := isOf hZ e17 (zXEQ.ext cOld_17.2)
    obtain ⟨_, _, ⟨T18, L18, k18, n18⟩, -, X18, ⟨Lc18, hQ18, l18, y18, z18⟩, st18⟩ := X17.virtualBack hx (y := (⟨"java/lang/String", "equals", "(Ljava/lang/Object;)Z"⟩ : MethodName)) (z := (⟨"java/lang/String", "equals", "(Ljava/lang/Object;)Z"⟩ : MethodName)) hown (mvT hZ (hw _ (List.mem_of_getElem? (i := 32) rfl))) (mvT hZ (hw _ (List.mem_of_getElem? (i := 33) rfl))) (notFace_of_selects (args := #[]) (mvT hZ (hw _ (List.mem_of_getElem? (i := 35) rfl)))) (mvT hZ (hw _ (List.mem_of_getElem? (i := 35) rfl))) (mvT hZ (hw _ (List.mem_of_getElem? (i := 34) rfl))) (by decide) (backOf (W := 0) (own_rm2s l Z a0 hw [] sEQ c17 vEQ cb17 kEQ ck17 (61 : Int32) (60 : Int32) (61 : Int32) cs h17 n0 (Nat.le_trans Z0 K17.1) (zXEQ.ext cOld_17.2) (zCEQ.ext cOld_17.2) (zVEQ.ext cOld_17.2) (zAEQ.ext cOld_17.2) cE17 cC17 cV17 cA17 (zcs.ext cOld_17.2) hcsn (own_strne (zVEQ.ext cOld_17.2) (zAEQ.ext cOld_17.2) cV17 cA17 (Or.inl (by decide)))) hZ (hw _ (List.mem_of_getElem? (i := 36) rfl)) (hw _ (List.mem_of_getElem? (i := 25) rfl)) (by decide) (by decide)) q18a q18c (g := (mkF m 60 #[.val (.int i0), .val (.ref b1), .val (.ref oEQ), .val (.ref sEQ), .unset] [(.ref c17), (.ref sEQ)])) rfl (by rw [hml]; rfl) (Steps.refl _) (argsL := [(.ref c17)]) (rest := []) (lenOf own_pd5 rfl) rfl (by show 2 * 0 + _ ≤ _; exact Nat.le_of_eq rfl) (hb hby at_60) (fun _ _ => ⟨rfl, e17, (by decide : 3 + 0 ≤ _), (by decide : 18 + 0 ≤ _)⟩)
    dsimp only [Pt.U, Pt.locs, Pt.cells, Pt.slots] at X18 l18 y18 z18 st18 hQ18
    subst l18 y18 z18
    obtain ⟨rfl, N18q, e18⟩ := hQ18
    have N18 := Fr.app N16 N18q
    refine ownW.goS (T' := T18) (f' := (mkF m 63 #[.val (.int i0), .val (.ref b1), .val (.ref oEQ), .val (.ref sEQ), .unset] [(.int (0 : Int32))])) st18 ?_
    refine ownW.go (T' := T18) (f' := (mkF m 66 #[.val (.int i0), .val (.ref b1), .val (.ref oEQ), .val (.ref sEQ), .unset] [])) (fun t kt => XS.ifNo (g := (mkF m 63 #[.val (.int i0), .val (.ref b1), .val (.ref oEQ), .val (.ref sEQ), .unset] [(.int (0 : Int32))])) X18.here hx rfl (hb hby at_63) rfl (Jvm.Free.XT.i0_ne_f (by decide)) kt) ?_
    refine ownW.go (T' := T18) (f' := (mkF m 67 #[.val (.int i0), .val (.ref b1), .val (.ref oEQ), .val (.ref sEQ), .unset] [(.ref sEQ)])) (fun t kt => ?_) ?_
    · show Steps p.tables e below (T18.setTop (mkF m 66 #[.val (.int i0), .val (.ref b1), .val (.ref oEQ), .val (.ref sEQ), .unset] [])) _
      refine XS.aloadN X18.here hx rfl (hb hby at_66) rfl rfl ?_
      exact kt
    obtain ⟨c19, T19, h19, k19, cb19, ck19, X19, e19, E19, hS19, hk19, hZ, hown, cE19, cC19, cV19, cA19, -, -, I19, st19⟩ := ldcSV X18 hx hZ hown (hw _ (List.mem_of_getElem? (i := 46) rfl)) (own_strAtoms hw) e18 hS17 hk17 (by rw [hh, ← hn0]; exact N18) (fun b cl q => by rw [hh]; exact Od.2.2 b cl q) I17 (Ts := ["<="]) (by decide) hl41 hcw (vs := [(.int (62 : Int32)), (.int (61 : Int32))]) (z := (2 : Int32)) ⟨by decide, by decide⟩ (by decide) (by decide) (g := (mkF m 67 #[.val (.int i0), .val (.ref b1), .val (.ref oEQ), .val (.ref sEQ), .unset] [(.ref sEQ)])) rfl (hb hby at_67) (n := 8) (by decide) (by decide) (by decide) (by decide)
    have cOld_19 : Old Z n0 h19 := cOld_17.ext E19
    have cArv_b1_19 : Arv Z h19 b1 k1 (.object "com/example/kolom/kolom/cql/Operator") (6 : Int32) [(.ref oEQ), (.ref oLT), (.ref oLTE), (.ref oGT), (.ref oGTE), (.ref oIN)] .null := cArv_b1_17.ext E19
    have cExa_c17_19 : Exa Z h19 c17 "java/lang/String" := cE17.ext E19
    have cFld_c17_coder_19 : Fld Z h19 c17 "java/lang/String" "coder" "B" (.int (0 : Int32)) := cC17.ext E19
    have cFld_c17_value_19 : Fld Z h19 c17 "java/lang/String" "value" "[B" (.ref cb17) := cV17.ext E19
    have cArv_cb17_19 : Arv Z h19 cb17 ck17 .byte (2 : Int32) [(.int (60 : Int32)), (.int (61 : Int32))] (.int (0 : Int32)) := cA17.ext E19
    have K19 : Keep h0 h19 [] := K17.ext E19
    refine ownW.go (T' := T19) (f' := (mkF m 69 #[.val (.int i0), .val (.ref b1), .val (.ref oEQ), .val (.ref sEQ), .unset] [(.ref c19), (.ref sEQ)])) st19 ?_
    obtain ⟨cq20, kq20, q20a, q20b, q20c⟩ := isOf hZ e19 (zXEQ.ext cOld_19.2)
    obtain ⟨_, _, ⟨T20, L20, k20, n20⟩, -, X20, ⟨Lc20, hQ20, l20, y20, z20⟩, st20⟩ := X19.virtualBack hx (y := (⟨"java/lang/String", "equals", "(Ljava/lang/Object;)Z"⟩ : MethodName)) (z := (⟨"java/lang/String", "equals", "(Ljava/lang/Object;)Z"⟩ : MethodName)) hown (mvT hZ (hw _ (List.mem_of_getElem? (i := 32) rfl))) (mvT hZ (hw _ (List.mem_of_getElem? (i := 33) rfl))) (notFace_of_selects (args := #[]) (mvT hZ (hw _ (List.mem_of_getElem? (i := 35) rfl)))) (mvT hZ (hw _ (List.mem_of_getElem? (i := 35) rfl))) (mvT hZ (hw _ (List.mem_of_getElem? (i := 34) rfl))) (by decide) (backOf (W := 0) (own_rm2s l Z a0 hw [] sEQ c19 vEQ cb19 kEQ ck19 (61 : Int32) (62 : Int32) (61 : Int32) cs h19 n0 (Nat.le_trans Z0 K19.1) (zXEQ.ext cOld_19.2) (zCEQ.ext cOld_19.2) (zVEQ.ext cOld_19.2) (zAEQ.ext cOld_19.2) cE19 cC19 cV19 cA19 (zcs.ext cOld_19.2) hcsn (own_strne (zVEQ.ext cOld_19.2) (zAEQ.ext cOld_19.2) cV19 cA19 (Or.inl (by decide)))) hZ (hw _ (List.mem_of_getElem? (i := 36) rfl)) (hw _ (List.mem_of_getElem? (i := 25) rfl)) (by decide) (by decide)) q20a q20c (g := (mkF m 69 #[.val (.int i0), .val (.ref b1), .val (.ref oEQ), .val (.ref sEQ), .unset] [(.ref c19), (.ref sEQ)])) rfl (by rw [hml]; rfl) (Steps.refl _) (argsL := [(.ref c19)]) (rest := []) (lenOf own_pd5 rfl) rfl (by show 2 * 0 + _ ≤ _; exact Nat.le_of_eq rfl) (hb hby at_69) (fun _ _ => ⟨rfl, e19, (by decide : 5 + 0 ≤ _), (by decide : 30 + 0 ≤ _)⟩)
    dsimp only [Pt.U, Pt.locs, Pt.cells, Pt.slots] at X20 l20 y20 z20 st20 hQ20
    subst l20 y20 z20
    obtain ⟨rfl, N20q, e20⟩ := hQ20
    have N20 := Fr.app N18 N20q
    refine ownW.goS (T' := T20) (f' := (mkF m 72 #[.val (.int i0), .val (.ref b1), .val (.ref oEQ), .val (.ref sEQ), .unset] [(.int (0 : Int32))])) st20 ?_
    refine ownW.go (T' := T20) (f' := (mkF m 79 #[.val (.int i0), .val (.ref b1), .val (.ref oEQ), .val (.ref sEQ), .unset] [])) (fun t kt => XS.ifYes (g := (mkF m 72 #[.val (.int i0), .val (.ref b1), .val (.ref oEQ), .val (.ref sEQ), .unset] [(.int (0 : Int32))])) X20.here hx rfl (pc0 := 72) (pc' := 79) rfl (hb hby at_72) rfl (Jvm.Free.XT.i0_eq_t (by decide)) (by decide) (by decide) kt) ?_
    refine ownW.go (T' := T20) (f' := (mkF m 83 #[.val (.int i0), .val (.ref b1), .val (.ref oEQ), .val (.ref sEQ), .val (.int (0 : Int32))] [(.ref oEQ)])) (fun t kt => ?_) ?_
    · show Steps p.tables e below (T20.setTop (mkF m 79 #[.val (.int i0), .val (.ref b1), .val (.ref oEQ), .val (.ref sEQ), .unset] [])) _
      refine XS.iconst X20.here hx rfl (hb hby at_79) ?_
      show Steps p.tables e below (T20.setTop (mkF m 80 #[.val (.int i0), .val (.ref b1), .val (.ref oEQ), .val (.ref sEQ), .unset] [(.int (0 : Int32))])) _
      refine XS.istore X20.here hx rfl (hb hby at_80) rfl (l' := #[.val (.int i0), .val (.ref b1), .val (.ref oEQ), .val (.ref sEQ), .val (.int (0 : Int32))]) rfl ?_
      show Steps p.tables e below (T20.setTop (mkF m 82 #[.val (.int i0), .val (.ref b1), .val (.ref oEQ), .val (.ref sEQ), .val (.int (0 : Int32))] [])) _
      refine XS.aloadN X20.here hx rfl (hb hby at_82) rfl rfl ?_
      exact kt
    obtain ⟨cq21, kq21, q21a, q21b, q21c⟩ := isOf hZ e20 (zEEQ.ext cOld_19.2)
    obtain ⟨_, _, ⟨T21, L21, k21, n21⟩, -, X21, ⟨Lc21, hQ21, l21, y21, z21⟩, st21⟩ := X20.virtualBack hx (y := (⟨"com/example/kolom/kolom/cql/Operator", "isInclusive", "()Z"⟩ : MethodName)) (z := (⟨"com/example/kolom/kolom/cql/Operator", "isInclusive", "()Z"⟩ : MethodName)) hown (mvT hZ (hw _ (List.mem_of_getElem? (i := 47) rfl))) (mvT hZ (hw _ (List.mem_of_getElem? (i := 48) rfl))) (notFace_of_selects (args := #[]) (mvT hZ (hw _ (List.mem_of_getElem? (i := 50) rfl)))) (mvT hZ (hw _ (List.mem_of_getElem? (i := 50) rfl))) (mvT hZ (hw _ (List.mem_of_getElem? (i := 49) rfl))) (by decide) (backOf (W := 0) (own_rm4z l Z a0 hw [] oEQ oLTE oGTE h19 n0 (Nat.le_trans Z0 K19.1) (zSLTE.ext cOld_19.2) neEQ_LTE (zSGTE.ext cOld_19.2) neEQ_GTE) hZ (hw _ (List.mem_of_getElem? (i := 51) rfl)) (hw _ (List.mem_of_getElem? (i := 3) rfl)) (by decide) (by decide)) q21a q21c (g := (mkF m 83 #[.val (.int i0), .val (.ref b1), .val (.ref oEQ), .val (.ref sEQ), .val (.int (0 : Int32))] [(.ref oEQ)])) rfl (by rw [hml]; rfl) (Steps.refl _) (argsL := []) (rest := []) (lenOf own_pd6 rfl) rfl (by show 2 * 0 + _ ≤ _; exact Nat.le_of_eq rfl) (hb hby at_83) (fun _ _ => ⟨rfl, e20, (by decide : 5 + 0 ≤ _), (by decide : 30 + 0 ≤ _)⟩)
    dsimp only [Pt.U, Pt.locs, Pt.cells, Pt.slots] at X21 l21 y21 z21 st21 hQ21
    subst l21 y21 z21
    obtain ⟨rfl, N21q, e21⟩ := hQ21
    have N21 := Fr.app N20 N21q
    refine ownW.goS (T' := T21) (f' := (mkF m 86 #[.val (.int i0), .val (.ref b1), .val (.ref oEQ), .val (.ref sEQ), .val (.int (0 : Int32))] [(.int (0 : Int32))])) st21 ?_
    refine ownW.go (T' := T21) (f' := (mkF m 88 #[.val (.int i0), .val (.ref b1), .val (.ref oEQ), .val (.ref sEQ), .val (.int (0 : Int32))] [(.int (0 : Int32)), (.int (0 : Int32))])) (fun t kt => ?_) ?_
    · show Steps p.tables e below (T21.setTop (mkF m 86 #[.val (.int i0), .val (.ref b1), .val (.ref oEQ), .val (.ref sEQ), .val (.int (0 : Int32))] [(.int (0 : Int32))])) _
      refine XS.iload X21.here hx rfl (hb hby at_86) rfl ?_
      exact kt
    refine ownW.go (T' := T21) (f' := (mkF m 91 #[.val (.int i0), .val (.ref b1), .val (.ref oEQ), .val (.ref sEQ), .val (.int (0 : Int32))] [])) (fun t kt => XS.icmpNo (g := (mkF m 88 #[.val (.int i0), .val (.ref b1), .val (.ref oEQ), .val (.ref sEQ), .val (.int (0 : Int32))] [(.int (0 : Int32)), (.int (0 : Int32))])) X21.here hx rfl (hb hby at_88) rfl (Jvm.Free.XT.ii_ne_f (by decide)) kt) ?_
    refine ownW.go (T' := T21) (f' := (mkF m 96 #[.val (.int i0), .val (.ref b1), .val (.ref oEQ), .val (.ref sEQ), .val (.int (0 : Int32))] [(.int (1 : Int32))])) (fun t kt => ?_) ?_
    · show Steps p.tables e below (T21.setTop (mkF m 91 #[.val (.int i0), .val (.ref b1), .val (.ref oEQ), .val (.ref sEQ), .val (.int (0 : Int32))] [])) _
      refine XS.iconst X21.here hx rfl (hb hby at_91) ?_
      show Steps p.tables e below (T21.setTop (mkF m 92 #[.val (.int i0), .val (.ref b1), .val (.ref oEQ), .val (.ref sEQ), .val (.int (0 : Int32))] [(.int (1 : Int32))])) _
      refine XS.goto X21.here hx rfl (pc0 := 92) (pc' := 96) rfl (hb hby at_92) (by decide) (by decide) ?_
      exact kt
    refine ownW.retN X21 hx hlk (t := .boolean) hret (by simp) (hb hby at_96) hS19 (by rw [show T21.heap = h19 from e21]; exact hk19) ?_ (by decide) (by decide)
    show own_Q0 Z i0 oEQ sEQ vEQ kEQ oLT sLT vLT kLT oLTE sLTE vLTE kLTE oGT sGT vGT kGT oGTE sGTE vGTE kGTE oIN sIN vIN kIN cs h0 n0 _ T21.heap _
    rw [e21]
    exact ⟨(by rw [own_f0, if_pos hk14] <;> first | rfl | decide), N21, K19⟩
  · -- ((i0 &&& (2147483647 : Int32)) % (6 : Int32)) = 1
    have hf14 : (mkF m 50 #[.val (.int i0), .val (.ref b1), .unset, .unset, .unset] [(.int ((i0 &&& (2147483647 : Int32)) % (6 : Int32))), (.ref b1)]) = (mkF m 50 #[.val (.int i0), .val (.ref b1), .unset, .unset, .unset] [(.int (1 : Int32)), (.ref b1)]) := by rw [hk14]
    rw [hf14]
    have hk14_0 : ¬ ((i0 &&& (2147483647 : Int32)) % (6 : Int32)) = (0 : Int32) := by rw [hk14]; decide
    obtain ⟨cl22, Ar22, q22, S22, Nn22, Hh22, G22⟩ := id V13
    refine ownW.go (T' := T13) (f' := (mkF m 51 #[.val (.int i0), .val (.ref b1), .unset, .unset, .unset] [(.ref oLT)])) (fun t kt => X13.aaload hx (j := (1 : Int32)) (v := (.ref oLT)) (by rw [e13]; exact Ar22.1) (State.isArrayOf_alike hZ.alike Ar22.2.1) rfl Ar22.2.2 (inb_of S22 ⟨by decide, by decide⟩) (Hh22.at (inb_of S22 ⟨by decide, by decide⟩) rfl) (g := (mkF m 50 #[.val (.int i0), .val (.ref b1), .unset, .unset, .unset] [(.int (1 : Int32)), (.ref b1)])) rfl rfl (hb hby at_50) _ kt) ?_
    refine ownW.go (T' := T13) (f' := (mkF m 53 #[.val (.int i0), .val (.ref b1), .val (.ref oLT), .unset, .unset] [(.ref oLT)])) (fun t kt => ?_) ?_
    · show Steps p.tables e below (T13.setTop (mkF m 51 #[.val (.int i0), .val (.ref b1), .unset, .unset, .unset] [(.ref oLT)])) _
      refine XS.astoreN X13.here hx rfl (hb hby at_51) rfl rfl (l' := #[.val (.int i0), .val (.ref b1), .val (.ref oLT), .unset, .unset]) rfl ?_
      show Steps p.tables e below (T13.setTop (mkF m 52 #[.val (.int i0), .val (.ref b1), .val (.ref oLT), .unset, .unset] [])) _
      refine XS.aloadN X13.here hx rfl (hb hby at_52) rfl rfl ?_
      exact kt
    obtain ⟨cq23, kq23, q23a, q23b, q23c⟩ := isOf hZ e13 (zELT.ext cOld_13.2)
    obtain ⟨_, _, ⟨T23, L23, k23, n23⟩, -, X23, ⟨Lc23, hQ23, l23, y23, z23⟩, st23⟩ := X13.virtualBack hx (y := (⟨"com/example/kolom/kolom/cql/Operator", "symbol", "()Ljava/lang/String;"⟩ : MethodName)) (z := (⟨"com/example/kolom/kolom/cql/Operator", "symbol", "()Ljava/lang/String;"⟩ : MethodName)) hown (mvT hZ (hw _ (List.mem_of_getElem? (i := 17) rfl))) (mvT hZ (hw _ (List.mem_of_getElem? (i := 18) rfl))) (notFace_of_selects (args := #[]) (mvT hZ (hw _ (List.mem_of_getElem? (i := 20) rfl)))) (mvT hZ (hw _ (List.mem_of_getElem? (i := 20) rfl))) (mvT hZ (hw _ (List.mem_of_getElem? (i := 19) rfl))) (by decide) (backOf (W := 0) (own_rm1 l Z a0 hw [] oLT sLT h13 n0 (Nat.le_trans Z0 K13.1) (zFLT.ext cOld_13.2)) hZ (hw _ (List.mem_of_getElem? (i := 21) rfl)) (hw _ (List.mem_of_getElem? (i := 3) rfl)) (by decide) (by decide)) q23a q23c (g := (mkF m 53 #[.val (.int i0), .val (.ref b1), .val (.ref oLT), .unset, .unset] [(.ref oLT)])) rfl (by rw [hml]; rfl) (Steps.refl _) (argsL := []) (rest := []) (lenOf own_pd4 rfl) rfl (by show 2 * 0 + _ ≤ _; exact Nat.le_of_eq rfl) (hb hby at_53) (fun _ _ => ⟨rfl, e13, (by decide : 1 + 0 ≤ _), (by decide : 6 + 0 ≤ _)⟩)
    dsimp only [Pt.U, Pt.locs, Pt.cells, Pt.slots] at X23 l23 y23 z23 st23 hQ23
    subst l23 y23 z23
    obtain ⟨rfl, N23q, e23⟩ := hQ23
    have N23 := Fr.app N13 N23q
    refine ownW.goS (T' := T23) (f' := (mkF m 56 #[.val (.int i0), .val (.ref b1), .val (.ref oLT), .unset, .unset] [(.ref sLT)])) st23 ?_
    refine ownW.go (T' := T23) (f' := (mkF m 58 #[.val (.int i0), .val (.ref b1), .val (.ref oLT), .val (.ref sLT), .unset] [(.ref sLT)])) (fun t kt => ?_) ?_
    · show Steps p.tables e below (T23.setTop (mkF m 56 #[.val (.int i0), .val (.ref b1), .val (.ref oLT), .unset, .unset] [(.ref sLT)])) _
      refine XS.astoreN X23.here hx rfl (hb hby at_56) rfl rfl (l' := #[.val (.int i0), .val (.ref b1), .val (.ref oLT), .val (.ref sLT), .unset]) rfl ?_
      show Steps p.tables e below (T23.setTop (mkF m 57 #[.val (.int i0), .val (.ref b1), .val (.ref oLT), .val (.ref sLT), .unset] [])) _
      refine XS.aloadN X23.here hx rfl (hb hby at_57) rfl rfl ?_
      exact kt
    obtain ⟨c24, T24, h24, k24, cb24, ck24, X24, e24, E24, hS24, hk24, hZ, hown, cE24, cC24, cV24, cA24, -, -, I24, st24⟩ := ldcSV X23 hx hZ hown (hw _ (List.mem_of_getElem? (i := 24) rfl)) (own_strAtoms hw) e23 hS0 hk13 (by rw [hh, ← hn0]; exact N23) (fun b cl q => by rw [hh]; exact Od.2.2 b cl q) hIB (Ts := []) (by decide) hl33 hcw (vs := [(.int (60 : Int32)), (.int (61 : Int32))]) (z := (2 : Int32)) ⟨by decide, by decide⟩ (by decide) (by decide) (g := (mkF m 58 #[.val (.int i0), .val (.ref b1), .val (.ref oLT), .val (.ref sLT), .unset] [(.ref sLT)])) rfl (hb hby at_58) (n := 8) (by decide) (by decide) (by decide) (by decide)
    have cOld_24 : Old Z n0 h24 := cOld_13.ext E24
    have cArv_b1_24 : Arv Z h24 b1 k1 (.object "com/example/kolom/kolom/cql/Operator") (6 : Int32) [(.ref oEQ), (.ref oLT), (.ref oLTE), (.ref oGT), (.ref oGTE), (.ref oIN)] .null := V13.ext E24
    have K24 : Keep h0 h24 [] := K13.ext E24
    refine ownW.go (T' := T24) (f' := (mkF m 60 #[.val (.int i0), .val (.ref b1), .val (.ref oLT), .val (.ref sLT), .unset] [(.ref c24), (.ref sLT)])) st24 ?_
    obtain ⟨cq25, kq25, q25a, q25b, q25c⟩ := isOf hZ e24 (zXLT.ext cOld_24.2)
    obtain ⟨_, _, ⟨T25, L25, k25, n25⟩, -, X25, ⟨Lc25, hQ25, l25, y25, z25⟩, st25⟩ := X24.virtualBack hx (y := (⟨"java/lang/String", "equals", "(Ljava/lang/Object;)Z"⟩ : MethodName)) (z := (⟨"java/lang/String", "equals", "(Ljava/lang/Object;)Z"⟩ : MethodName)) hown (mvT hZ (hw _ (List.mem_of_getElem? (i := 32) rfl))) (mvT hZ (hw _ (List.mem_of_getElem? (i := 33) rfl))) (notFace_of_selects (args := #[]) (mvT hZ (hw _ (List.mem_of_getElem? (i := 35) rfl)))) (mvT hZ (hw _ (List.mem_of_getElem? (i := 35) rfl))) (mvT hZ (hw _ (List.mem_of_getElem? (i := 34) rfl))) (by decide) (backOf (W := 0) (own_rm2s l Z a0 hw [] sLT c24 vLT cb24 kLT ck24 (60 : Int32) (60 : Int32) (61 : Int32) cs h24 n0 (Nat.le_trans Z0 K24.1) (zXLT.ext cOld_24.2) (zCLT.ext cOld_24.2) (zVLT.ext cOld_24.2) (zALT.ext cOld_24.2) cE24 cC24 cV24 cA24 (zcs.ext cOld_24.2) hcsn (own_strne (zVLT.ext cOld_24.2) (zALT.ext cOld_24.2) cV24 cA24 (Or.inl (by decide)))) hZ (hw _ (List.mem_of_getElem? (i := 36) rfl)) (hw _ (List.mem_of_getElem? (i := 25) rfl)) (by decide) (by decide)) q25a q25c (g := (mkF m 60 #[.val (.int i0), .val (.ref b1), .val (.ref oLT), .val (.ref sLT), .unset] [(.ref c24), (.ref sLT)])) rfl (by rw [hml]; rfl) (Steps.refl _) (argsL := [(.ref c24)]) (rest := []) (lenOf own_pd5 rfl) rfl (by show 2 * 0 + _ ≤ _; exact Nat.le_of_eq rfl) (hb hby at_60) (fun _ _ => ⟨rfl, e24, (by decide : 3 + 0 ≤ _), (by decide : 18 + 0 ≤ _)⟩)
    dsimp only [Pt.U, Pt.locs, Pt.cells, Pt.slots] at X25 l25 y25 z25 st25 hQ25
    subst l25 y25 z25
    obtain ⟨rfl, N25q, e25⟩ := hQ25
    have N25 := Fr.app N23 N25q
    refine ownW.goS (T' := T25) (f' := (mkF m 63 #[.val (.int i0), .val (.ref b1), .val (.ref oLT), .val (.ref sLT), .unset] [(.int (0 : Int32))])) st25 ?_
    refine ownW.go (T' := T25) (f' := (mkF m 66 #[.val (.int i0), .val (.ref b1), .val (.ref oLT), .val (.ref sLT), .unset] [])) (fun t kt => XS.ifNo (g := (mkF m 63 #[.val (.int i0), .val (.ref b1), .val (.ref oLT), .val (.ref sLT), .unset] [(.int (0 : Int32))])) X25.here hx rfl (hb hby at_63) rfl (Jvm.Free.XT.i0_ne_f (by decide)) kt) ?_
    refine ownW.go (T' := T25) (f' := (mkF m 67 #[.val (.int i0), .val (.ref b1), .val (.ref oLT), .val (.ref sLT), .unset] [(.ref sLT)])) (fun t kt => ?_) ?_
    · show Steps p.tables e below (T25.setTop (mkF m 66 #[.val (.int i0), .val (.ref b1), .val (.ref oLT), .val (.ref sLT), .unset] [])) _
      refine XS.aloadN X25.here hx rfl (hb hby at_66) rfl rfl ?_
      exact kt
    obtain ⟨c26, T26, h26, k26, cb26, ck26, X26, e26, E26, hS26, hk26, hZ, hown, cE26, cC26, cV26, cA26, -, -, I26, st26⟩ := ldcSV X25 hx hZ hown (hw _ (List.mem_of_getElem? (i := 46) rfl)) (own_strAtoms hw) e25 hS24 hk24 (by rw [hh, ← hn0]; exact N25) (fun b cl q => by rw [hh]; exact Od.2.2 b cl q) I24 (Ts := ["<="]) (by decide) hl41 hcw (vs := [(.int (62 : Int32)), (.int (61 : Int32))]) (z := (2 : Int32)) ⟨by decide, by decide⟩ (by decide) (by decide) (g := (mkF m 67 #[.val (.int i0), .val (.ref b1), .val (.ref oLT), .val (.ref sLT), .unset] [(.ref sLT)])) rfl (hb hby at_67) (n := 8) (by decide) (by decide) (by decide) (by decide)
    have cOld_26 : Old Z n0 h26 := cOld_24.ext E26
    have cArv_b1_26 : Arv Z h26 b1 k1 (.object "com/example/kolom/kolom/cql/Operator") (6 : Int32) [(.ref oEQ), (.ref oLT), (.ref oLTE), (.ref oGT), (.ref oGTE), (.ref oIN)] .null := cArv_b1_24.ext E26
    have cExa_c24_26 : Exa Z h26 c24 "java/lang/String" := cE24.ext E26
    have cFld_c24_coder_26 : Fld Z h26 c24 "java/lang/String" "coder" "B" (.int (0 : Int32)) := cC24.ext E26
    have cFld_c24_value_26 : Fld Z h26 c24 "java/lang/String" "value" "[B" (.ref cb24) := cV24.ext E26
    have cArv_cb24_26 : Arv Z h26 cb24 ck24 .byte (2 : Int32) [(.int (60 : Int32)), (.int (61 : Int32))] (.int (0 : Int32)) := cA24.ext E26
    have K26 : Keep h0 h26 [] := K24.ext E26
    refine ownW.go (T' := T26) (f' := (mkF m 69 #[.val (.int i0), .val (.ref b1), .val (.ref oLT), .val (.ref sLT), .unset] [(.ref c26), (.ref sLT)])) st26 ?_
    obtain ⟨cq27, kq27, q27a, q27b, q27c⟩ := isOf hZ e26 (zXLT.ext cOld_26.2)
    obtain ⟨_, _, ⟨T27, L27, k27, n27⟩, -, X27, ⟨Lc27, hQ27, l27, y27, z27⟩, st27⟩ := X26.virtualBack hx (y := (⟨"java/lang/String", "equals", "(Ljava/lang/Object;)Z"⟩ : MethodName)) (z := (⟨"java/lang/String", "equals", "(Ljava/lang/Object;)Z"⟩ : MethodName)) hown (mvT hZ (hw _ (List.mem_of_getElem? (i := 32) rfl))) (mvT hZ (hw _ (List.mem_of_getElem? (i := 33) rfl))) (notFace_of_selects (args := #[]) (mvT hZ (hw _ (List.mem_of_getElem? (i := 35) rfl)))) (mvT hZ (hw _ (List.mem_of_getElem? (i := 35) rfl))) (mvT hZ (hw _ (List.mem_of_getElem? (i := 34) rfl))) (by decide) (backOf (W := 0) (own_rm2s l Z a0 hw [] sLT c26 vLT cb26 kLT ck26 (60 : Int32) (62 : Int32) (61 : Int32) cs h26 n0 (Nat.le_trans Z0 K26.1) (zXLT.ext cOld_26.2) (zCLT.ext cOld_26.2) (zVLT.ext cOld_26.2) (zALT.ext cOld_26.2) cE26 cC26 cV26 cA26 (zcs.ext cOld_26.2) hcsn (own_strne (zVLT.ext cOld_26.2) (zALT.ext cOld_26.2) cV26 cA26 (Or.inl (by decide)))) hZ (hw _ (List.mem_of_getElem? (i := 36) rfl)) (hw _ (List.mem_of_getElem? (i := 25) rfl)) (by decide) (by decide)) q27a q27c (g := (mkF m 69 #[.val (.int i0), .val (.ref b1), .val (.ref oLT), .val (.ref sLT), .unset] [(.ref c26), (.ref sLT)])) rfl (by rw [hml]; rfl) (Steps.refl _) (argsL := [(.ref c26)]) (rest := []) (lenOf own_pd5 rfl) rfl (by show 2 * 0 + _ ≤ _; exact Nat.le_of_eq rfl) (hb hby at_69) (fun _ _ => ⟨rfl, e26, (by decide : 5 + 0 ≤ _), (by decide : 30 + 0 ≤ _)⟩)
    dsimp only [Pt.U, Pt.locs, Pt.cells, Pt.slots] at X27 l27 y27 z27 st27 hQ27
    subst l27 y27 z27
    obtain ⟨rfl, N27q, e27⟩ := hQ27
    have N27 := Fr.app N25 N27q
    refine ownW.goS (T' := T27) (f' := (mkF m 72 #[.val (.int i0), .val (.ref b1), .val (.ref oLT), .val (.ref sLT), .unset] [(.int (0 : Int32))])) st27 ?_
    refine ownW.go (T' := T27) (f' := (mkF m 79 #[.val (.int i0), .val (.ref b1), .val (.ref oLT), .val (.ref sLT), .unset] [])) (fun t kt => XS.ifYes (g := (mkF m 72 #[.val (.int i0), .val (.ref b1), .val (.ref oLT), .val (.ref sLT), .unset] [(.int (0 : Int32))])) X27.here hx rfl (pc0 := 72) (pc' := 79) rfl (hb hby at_72) rfl (Jvm.Free.XT.i0_eq_t (by decide)) (by decide) (by decide) kt) ?_
    refine ownW.go (T' := T27) (f' := (mkF m 83 #[.val (.int i0), .val (.ref b1), .val (.ref oLT), .val (.ref sLT), .val (.int (0 : Int32))] [(.ref oLT)])) (fun t kt => ?_) ?_
    · show Steps p.tables e below (T27.setTop (mkF m 79 #[.val (.int i0), .val (.ref b1), .val (.ref oLT), .val (.ref sLT), .unset] [])) _
      refine XS.iconst X27.here hx rfl (hb hby at_79) ?_
      show Steps p.tables e below (T27.setTop (mkF m 80 #[.val (.int i0), .val (.ref b1), .val (.ref oLT), .val (.ref sLT), .unset] [(.int (0 : Int32))])) _
      refine XS.istore X27.here hx rfl (hb hby at_80) rfl (l' := #[.val (.int i0), .val (.ref b1), .val (.ref oLT), .val (.ref sLT), .val (.int (0 : Int32))]) rfl ?_
      show Steps p.tables e below (T27.setTop (mkF m 82 #[.val (.int i0), .val (.ref b1), .val (.ref oLT), .val (.ref sLT), .val (.int (0 : Int32))] [])) _
      refine XS.aloadN X27.here hx rfl (hb hby at_82) rfl rfl ?_
      exact kt
    obtain ⟨cq28, kq28, q28a, q28b, q28c⟩ := isOf hZ e27 (zELT.ext cOld_26.2)
    obtain ⟨_, _, ⟨T28, L28, k28, n28⟩, -, X28, ⟨Lc28, hQ28, l28, y28, z28⟩, st28⟩ := X27.virtualBack hx (y := (⟨"com/example/kolom/kolom/cql/Operator", "isInclusive", "()Z"⟩ : MethodName)) (z := (⟨"com/example/kolom/kolom/cql/Operator", "isInclusive", "()Z"⟩ : MethodName)) hown (mvT hZ (hw _ (List.mem_of_getElem? (i := 47) rfl))) (mvT hZ (hw _ (List.mem_of_getElem? (i := 48) rfl))) (notFace_of_selects (args := #[]) (mvT hZ (hw _ (List.mem_of_getElem? (i := 50) rfl)))) (mvT hZ (hw _ (List.mem_of_getElem? (i := 50) rfl))) (mvT hZ (hw _ (List.mem_of_getElem? (i := 49) rfl))) (by decide) (backOf (W := 0) (own_rm4z l Z a0 hw [] oLT oLTE oGTE h26 n0 (Nat.le_trans Z0 K26.1) (zSLTE.ext cOld_26.2) neLT_LTE (zSGTE.ext cOld_26.2) neLT_GTE) hZ (hw _ (List.mem_of_getElem? (i := 51) rfl)) (hw _ (List.mem_of_getElem? (i := 3) rfl)) (by decide) (by decide)) q28a q28c (g := (mkF m 83 #[.val (.int i0), .val (.ref b1), .val (.ref oLT), .val (.ref sLT), .val (.int (0 : Int32))] [(.ref oLT)])) rfl (by rw [hml]; rfl) (Steps.refl _) (argsL := []) (rest := []) (lenOf own_pd6 rfl) rfl (by show 2 * 0 + _ ≤ _; exact Nat.le_of_eq rfl) (hb hby at_83) (fun _ _ => ⟨rfl, e27, (by decide : 5 + 0 ≤ _), (by decide : 30 + 0 ≤ _)⟩)
    dsimp only [Pt.U, Pt.locs, Pt.cells, Pt.slots] at X28 l28 y28 z28 st28 hQ28
    subst l28 y28 z28
    obtain ⟨rfl, N28q, e28⟩ := hQ28
    have N28 := Fr.app N27 N28q
    refine ownW.goS (T' := T28) (f' := (mkF m 86 #[.val (.int i0), .val (.ref b1), .val (.ref oLT), .val (.ref sLT), .val (.int (0 : Int32))] [(.int (0 : Int32))])) st28 ?_
    refine ownW.go (T' := T28) (f' := (mkF m 88 #[.val (.int i0), .val (.ref b1), .val (.ref oLT), .val (.ref sLT), .val (.int (0 : Int32))] [(.int (0 : Int32)), (.int (0 : Int32))])) (fun t kt => ?_) ?_
    · show Steps p.tables e below (T28.setTop (mkF m 86 #[.val (.int i0), .val (.ref b1), .val (.ref oLT), .val (.ref sLT), .val (.int (0 : Int32))] [(.int (0 : Int32))])) _
      refine XS.iload X28.here hx rfl (hb hby at_86) rfl ?_
      exact kt
    refine ownW.go (T' := T28) (f' := (mkF m 91 #[.val (.int i0), .val (.ref b1), .val (.ref oLT), .val (.ref sLT), .val (.int (0 : Int32))] [])) (fun t kt => XS.icmpNo (g := (mkF m 88 #[.val (.int i0), .val (.ref b1), .val (.ref oLT), .val (.ref sLT), .val (.int (0 : Int32))] [(.int (0 : Int32)), (.int (0 : Int32))])) X28.here hx rfl (hb hby at_88) rfl (Jvm.Free.XT.ii_ne_f (by decide)) kt) ?_
    refine ownW.go (T' := T28) (f' := (mkF m 96 #[.val (.int i0), .val (.ref b1), .val (.ref oLT), .val (.ref sLT), .val (.int (0 : Int32))] [(.int (1 : Int32))])) (fun t kt => ?_) ?_
    · show Steps p.tables e below (T28.setTop (mkF m 91 #[.val (.int i0), .val (.ref b1), .val (.ref oLT), .val (.ref sLT), .val (.int (0 : Int32))] [])) _
      refine XS.iconst X28.here hx rfl (hb hby at_91) ?_
      show Steps p.tables e below (T28.setTop (mkF m 92 #[.val (.int i0), .val (.ref b1), .val (.ref oLT), .val (.ref sLT), .val (.int (0 : Int32))] [(.int (1 : Int32))])) _
      refine XS.goto X28.here hx rfl (pc0 := 92) (pc' := 96) rfl (hb hby at_92) (by decide) (by decide) ?_
      exact kt
    refine ownW.retN X28 hx hlk (t := .boolean) hret (by simp) (hb hby at_96) hS26 (by rw [show T28.heap = h26 from e28]; exact hk26) ?_ (by decide) (by decide)
    show own_Q0 Z i0 oEQ sEQ vEQ kEQ oLT sLT vLT kLT oLTE sLTE vLTE kLTE oGT sGT vGT kGT oGTE sGTE vGTE kGTE oIN sIN vIN kIN cs h0 n0 _ T28.heap _
    rw [e28]
    exact ⟨(by rw [own_f0, if_neg hk14_0, if_pos hk14] <;> first | rfl | decide), N28, K26⟩
  · -- ((i0 &&& (2147483647 : Int32)) % (6 : Int32)) = 2
    have hf14 : (mkF m 50 #[.val (.int i0), .val (.ref b1), .unset, .unset, .unset] [(.int ((i0 &&& (2147483647 : Int32)) % (6 : Int32))), (.ref b1)]) = (mkF m 50 #[.val (.int i0), .val (.ref b1), .unset, .unset, .unset] [(.int (2 : Int32)), (.ref b1)]) := by rw [hk14]
    rw [hf14]
    have hk14_0 : ¬ ((i0 &&& (2147483647 : Int32)) % (6 : Int32)) = (0 : Int32) := by rw [hk14]; decide
    have hk14_1 : ¬ ((i0 &&& (2147483647 : Int32)) % (6 : Int32)) = (1 : Int32) := by rw [hk14]; decide
    obtain ⟨cl29, Ar29, q29, S29, Nn29, Hh29, G29⟩ := id V13
    refine ownW.go (T' := T13) (f' := (mkF m 51 #[.val (.int i0), .val (.ref b1), .unset, .unset, .unset] [(.ref oLTE)])) (fun t kt => X13.aaload hx (j := (2 : Int32)) (v := (.ref oLTE)) (by rw [e13]; exact Ar29.1) (State.isArrayOf_alike hZ.alike Ar29.2.1) rfl Ar29.2.2 (inb_of S29 ⟨by decide, by decide⟩) (Hh29.at (inb_of S29 ⟨by decide, by decide⟩) rfl) (g := (mkF m 50 #[.val (.int i0), .val (.ref b1), .unset, .unset, .unset] [(.int (2 : Int32)), (.ref b1)])) rfl rfl (hb hby at_50) _ kt) ?_
    refine ownW.go (T' := T13) (f' := (mkF m 53 #[.val (.int i0), .val (.ref b1), .val (.ref oLTE), .unset, .unset] [(.ref oLTE)])) (fun t kt => ?_) ?_
    · show Steps p.tables e below (T13.setTop (mkF m 51 #[.val (.int i0), .val (.ref b1), .unset, .unset, .unset] [(.ref oLTE)])) _
      refine XS.astoreN X13.here hx rfl (hb hby at_51) rfl rfl (l' := #[.val (.int i0), .val (.ref b1), .val (.ref oLTE), .unset, .unset]) rfl ?_
      show Steps p.tables e below (T13.setTop (mkF m 52 #[.val (.int i0), .val (.ref b1), .val (.ref oLTE), .unset, .unset] [])) _
      refine XS.aloadN X13.here hx rfl (hb hby at_52) rfl rfl ?_
      exact kt
    obtain ⟨cq30, kq30, q30a, q30b, q30c⟩ := isOf hZ e13 (zELTE.ext cOld_13.2)
    obtain ⟨_, _, ⟨T30, L30, k30, n30⟩, -, X30, ⟨Lc30, hQ30, l30, y30, z30⟩, st30⟩ := X13.virtualBack hx (y := (⟨"com/example/kolom/kolom/cql/Operator", "symbol", "()Ljava/lang/String;"⟩ : MethodName)) (z := (⟨"com/example/kolom/kolom/cql/Operator", "symbol", "()Ljava/lang/String;"⟩ : MethodName)) hown (mvT hZ (hw _ (List.mem_of_getElem? (i := 17) rfl))) (mvT hZ (hw _ (List.mem_of_getElem? (i := 18) rfl))) (notFace_of_selects (args := #[]) (mvT hZ (hw _ (List.mem_of_getElem? (i := 20) rfl)))) (mvT hZ (hw _ (List.mem_of_getElem? (i := 20) rfl))) (mvT hZ (hw _ (List.mem_of_getElem? (i := 19) rfl))) (by decide) (backOf (W := 0) (own_rm1 l Z a0 hw [] oLTE sLTE h13 n0 (Nat.le_trans Z0 K13.1) (zFLTE.ext cOld_13.2)) hZ (hw _ (List.mem_of_getElem? (i := 21) rfl)) (hw _ (List.mem_of_getElem? (i := 3) rfl)) (by decide) (by decide)) q30a q30c (g := (mkF m 53 #[.val (.int i0), .val (.ref b1), .val (.ref oLTE), .unset, .unset] [(.ref oLTE)])) rfl (by rw [hml]; rfl) (Steps.refl _) (argsL := []) (rest := []) (lenOf own_pd4 rfl) rfl (by show 2 * 0 + _ ≤ _; exact Nat.le_of_eq rfl) (hb hby at_53) (fun _ _ => ⟨rfl, e13, (by decide : 1 + 0 ≤ _), (by decide : 6 + 0 ≤ _)⟩)
    dsimp only [Pt.U, Pt.locs, Pt.cells, Pt.slots] at X30 l30 y30 z30 st30 hQ30
    subst l30 y30 z30
    obtain ⟨rfl, N30q, e30⟩ := hQ30
    have N30 := Fr.app N13 N30q
    refine ownW.goS (T' := T30) (f' := (mkF m 56 #[.val (.int i0), .val (.ref b1), .val (.ref oLTE), .unset, .unset] [(.ref sLTE)])) st30 ?_
    refine ownW.go (T' := T30) (f' := (mkF m 58 #[.val (.int i0), .val (.ref b1), .val (.ref oLTE), .val (.ref sLTE), .unset] [(.ref sLTE)])) (fun t kt => ?_) ?_
    · show Steps p.tables e below (T30.setTop (mkF m 56 #[.val (.int i0), .val (.ref b1), .val (.ref oLTE), .unset, .unset] [(.ref sLTE)])) _
      refine XS.astoreN X30.here hx rfl (hb hby at_56) rfl rfl (l' := #[.val (.int i0), .val (.ref b1), .val (.ref oLTE), .val (.ref sLTE), .unset]) rfl ?_
      show Steps p.tables e below (T30.setTop (mkF m 57 #[.val (.int i0), .val (.ref b1), .val (.ref oLTE), .val (.ref sLTE), .unset] [])) _
      refine XS.aloadN X30.here hx rfl (hb hby at_57) rfl rfl ?_
      exact kt
    obtain ⟨c31, T31, h31, k31, cb31, ck31, X31, e31, E31, hS31, hk31, hZ, hown, cE31, cC31, cV31, cA31, -, -, I31, st31⟩ := ldcSV X30 hx hZ hown (hw _ (List.mem_of_getElem? (i := 24) rfl)) (own_strAtoms hw) e30 hS0 hk13 (by rw [hh, ← hn0]; exact N30) (fun b cl q => by rw [hh]; exact Od.2.2 b cl q) hIB (Ts := []) (by decide) hl33 hcw (vs := [(.int (60 : Int32)), (.int (61 : Int32))]) (z := (2 : Int32)) ⟨by decide, by decide⟩ (by decide) (by decide) (g := (mkF m 58 #[.val (.int i0), .val (.ref b1), .val (.ref oLTE), .val (.ref sLTE), .unset] [(.ref sLTE)])) rfl (hb hby at_58) (n := 8) (by decide) (by decide) (by decide) (by decide)
    have cOld_31 : Old Z n0 h31 := cOld_13.ext E31
    have cArv_b1_31 : Arv Z h31 b1 k1 (.object "com/example/kolom/kolom/cql/Operator") (6 : Int32) [(.ref oEQ), (.ref oLT), (.ref oLTE), (.ref oGT), (.ref oGTE), (.ref oIN)] .null := V13.ext E31
    have K31 : Keep h0 h31 [] := K13.ext E31
    refine ownW.go (T' := T31) (f' := (mkF m 60 #[.val (.int i0), .val (.ref b1), .val (.ref oLTE), .val (.ref sLTE), .unset] [(.ref c31), (.ref sLTE)])) st31 ?_
    obtain ⟨cq32, kq32, q32a, q32b, q32c⟩ := isOf hZ e31 (zXLTE.ext cOld_31.2)
    obtain ⟨_, _, ⟨T32, L32, k32, n32⟩, -, X32, ⟨Lc32, hQ32, l32, y32, z32⟩, st32⟩ := X31.virtualBack hx (y := (⟨"java/lang/String", "equals", "(Ljava/lang/Object;)Z"⟩ : MethodName)) (z := (⟨"java/lang/String", "equals", "(Ljava/lang/Object;)Z"⟩ : MethodName)) hown (mvT hZ (hw _ (List.mem_of_getElem? (i := 32) rfl))) (mvT hZ (hw _ (List.mem_of_getElem? (i := 33) rfl))) (notFace_of_selects (args := #[]) (mvT hZ (hw _ (List.mem_of_getElem? (i := 35) rfl)))) (mvT hZ (hw _ (List.mem_of_getElem? (i := 35) rfl))) (mvT hZ (hw _ (List.mem_of_getElem? (i := 34) rfl))) (by decide) (backOf (W := 0) (own_rm2e l Z a0 hw [] sLTE c31 vLTE cb31 kLTE ck31 (60 : Int32) (61 : Int32) cs h31 n0 (Nat.le_trans Z0 K31.1) (zXLTE.ext cOld_31.2) (zCLTE.ext cOld_31.2) (zVLTE.ext cOld_31.2) (zALTE.ext cOld_31.2) cE31 cC31 cV31 cA31 (zcs.ext cOld_31.2) hcsn) hZ (hw _ (List.mem_of_getElem? (i := 36) rfl)) (hw _ (List.mem_of_getElem? (i := 25) rfl)) (by decide) (by decide)) q32a q32c (g := (mkF m 60 #[.val (.int i0), .val (.ref b1), .val (.ref oLTE), .val (.ref sLTE), .unset] [(.ref c31), (.ref sLTE)])) rfl (by rw [hml]; rfl) (Steps.refl _) (argsL := [(.ref c31)]) (rest := []) (lenOf own_pd5 rfl) rfl (by show 2 * 0 + _ ≤ _; exact Nat.le_of_eq rfl) (hb hby at_60) (fun _ _ => ⟨rfl, e31, (by decide : 3 + 0 ≤ _), (by decide : 18 + 0 ≤ _)⟩)
    dsimp only [Pt.U, Pt.locs, Pt.cells, Pt.slots] at X32 l32 y32 z32 st32 hQ32
    subst l32 y32 z32
    obtain ⟨rfl, N32q, e32⟩ := hQ32
    have N32 := Fr.app N30 N32q
    refine ownW.goS (T' := T32) (f' := (mkF m 63 #[.val (.int i0), .val (.ref b1), .val (.ref oLTE), .val (.ref sLTE), .unset] [(.int (1 : Int32))])) st32 ?_
    refine ownW.go (T' := T32) (f' := (mkF m 75 #[.val (.int i0), .val (.ref b1), .val (.ref oLTE), .val (.ref sLTE), .unset] [])) (fun t kt => XS.ifYes (g := (mkF m 63 #[.val (.int i0), .val (.ref b1), .val (.ref oLTE), .val (.ref sLTE), .unset] [(.int (1 : Int32))])) X32.here hx rfl (pc0 := 63) (pc' := 75) rfl (hb hby at_63) rfl (Jvm.Free.XT.i0_ne_t (by decide)) (by decide) (by decide) kt) ?_
    refine ownW.go (T' := T32) (f' := (mkF m 83 #[.val (.int i0), .val (.ref b1), .val (.ref oLTE), .val (.ref sLTE), .val (.int (1 : Int32))] [(.ref oLTE)])) (fun t kt => ?_) ?_
    · show Steps p.tables e below (T32.setTop (mkF m 75 #[.val (.int i0), .val (.ref b1), .val (.ref oLTE), .val (.ref sLTE), .unset] [])) _
      refine XS.iconst X32.here hx rfl (hb hby at_75) ?_
      show Steps p.tables e below (T32.setTop (mkF m 76 #[.val (.int i0), .val (.ref b1), .val (.ref oLTE), .val (.ref sLTE), .unset] [(.int (1 : Int32))])) _
      refine XS.goto X32.here hx rfl (pc0 := 76) (pc' := 80) rfl (hb hby at_76) (by decide) (by decide) ?_
      show Steps p.tables e below (T32.setTop (mkF m 80 #[.val (.int i0), .val (.ref b1), .val (.ref oLTE), .val (.ref sLTE), .unset] [(.int (1 : Int32))])) _
      refine XS.istore X32.here hx rfl (hb hby at_80) rfl (l' := #[.val (.int i0), .val (.ref b1), .val (.ref oLTE), .val (.ref sLTE), .val (.int (1 : Int32))]) rfl ?_
      show Steps p.tables e below (T32.setTop (mkF m 82 #[.val (.int i0), .val (.ref b1), .val (.ref oLTE), .val (.ref sLTE), .val (.int (1 : Int32))] [])) _
      refine XS.aloadN X32.here hx rfl (hb hby at_82) rfl rfl ?_
      exact kt
    obtain ⟨cq33, kq33, q33a, q33b, q33c⟩ := isOf hZ e32 (zELTE.ext cOld_31.2)
    obtain ⟨_, _, ⟨T33, L33, k33, n33⟩, -, X33, ⟨Lc33, hQ33, l33, y33, z33⟩, st33⟩ := X32.virtualBack hx (y := (⟨"com/example/kolom/kolom/cql/Operator", "isInclusive", "()Z"⟩ : MethodName)) (z := (⟨"com/example/kolom/kolom/cql/Operator", "isInclusive", "()Z"⟩ : MethodName)) hown (mvT hZ (hw _ (List.mem_of_getElem? (i := 47) rfl))) (mvT hZ (hw _ (List.mem_of_getElem? (i := 48) rfl))) (notFace_of_selects (args := #[]) (mvT hZ (hw _ (List.mem_of_getElem? (i := 50) rfl)))) (mvT hZ (hw _ (List.mem_of_getElem? (i := 50) rfl))) (mvT hZ (hw _ (List.mem_of_getElem? (i := 49) rfl))) (by decide) (backOf (W := 0) (own_rm4x l Z a0 hw [] oLTE h31 n0 (Nat.le_trans Z0 K31.1) (zSLTE.ext cOld_31.2)) hZ (hw _ (List.mem_of_getElem? (i := 51) rfl)) (hw _ (List.mem_of_getElem? (i := 3) rfl)) (by decide) (by decide)) q33a q33c (g := (mkF m 83 #[.val (.int i0), .val (.ref b1), .val (.ref oLTE), .val (.ref sLTE), .val (.int (1 : Int32))] [(.ref oLTE)])) rfl (by rw [hml]; rfl) (Steps.refl _) (argsL := []) (rest := []) (lenOf own_pd6 rfl) rfl (by show 2 * 0 + _ ≤ _; exact Nat.le_of_eq rfl) (hb hby at_83) (fun _ _ => ⟨rfl, e32, (by decide : 3 + 0 ≤ _), (by decide : 18 + 0 ≤ _)⟩)
    dsimp only [Pt.U, Pt.locs, Pt.cells, Pt.slots] at X33 l33 y33 z33 st33 hQ33
    subst l33 y33 z33
    obtain ⟨rfl, N33q, e33⟩ := hQ33
    have N33 := Fr.app N32 N33q
    refine ownW.goS (T' := T33) (f' := (mkF m 86 #[.val (.int i0), .val (.ref b1), .val (.ref oLTE), .val (.ref sLTE), .val (.int (1 : Int32))] [(.int (1 : Int32))])) st33 ?_
    refine ownW.go (T' := T33) (f' := (mkF m 88 #[.val (.int i0), .val (.ref b1), .val (.ref oLTE), .val (.ref sLTE), .val (.int (1 : Int32))] [(.int (1 : Int32)), (.int (1 : Int32))])) (fun t kt => ?_) ?_
    · show Steps p.tables e below (T33.setTop (mkF m 86 #[.val (.int i0), .val (.ref b1), .val (.ref oLTE), .val (.ref sLTE), .val (.int (1 : Int32))] [(.int (1 : Int32))])) _
      refine XS.iload X33.here hx rfl (hb hby at_86) rfl ?_
      exact kt
    refine ownW.go (T' := T33) (f' := (mkF m 91 #[.val (.int i0), .val (.ref b1), .val (.ref oLTE), .val (.ref sLTE), .val (.int (1 : Int32))] [])) (fun t kt => XS.icmpNo (g := (mkF m 88 #[.val (.int i0), .val (.ref b1), .val (.ref oLTE), .val (.ref sLTE), .val (.int (1 : Int32))] [(.int (1 : Int32)), (.int (1 : Int32))])) X33.here hx rfl (hb hby at_88) rfl (Jvm.Free.XT.ii_ne_f (by decide)) kt) ?_
    refine ownW.go (T' := T33) (f' := (mkF m 96 #[.val (.int i0), .val (.ref b1), .val (.ref oLTE), .val (.ref sLTE), .val (.int (1 : Int32))] [(.int (1 : Int32))])) (fun t kt => ?_) ?_
    · show Steps p.tables e below (T33.setTop (mkF m 91 #[.val (.int i0), .val (.ref b1), .val (.ref oLTE), .val (.ref sLTE), .val (.int (1 : Int32))] [])) _
      refine XS.iconst X33.here hx rfl (hb hby at_91) ?_
      show Steps p.tables e below (T33.setTop (mkF m 92 #[.val (.int i0), .val (.ref b1), .val (.ref oLTE), .val (.ref sLTE), .val (.int (1 : Int32))] [(.int (1 : Int32))])) _
      refine XS.goto X33.here hx rfl (pc0 := 92) (pc' := 96) rfl (hb hby at_92) (by decide) (by decide) ?_
      exact kt
    refine ownW.retN X33 hx hlk (t := .boolean) hret (by simp) (hb hby at_96) hS31 (by rw [show T33.heap = h31 from e33]; exact hk31) ?_ (by decide) (by decide)
    show own_Q0 Z i0 oEQ sEQ vEQ kEQ oLT sLT vLT kLT oLTE sLTE vLTE kLTE oGT sGT vGT kGT oGTE sGTE vGTE kGTE oIN sIN vIN kIN cs h0 n0 _ T33.heap _
    rw [e33]
    exact ⟨(by rw [own_f0, if_neg hk14_0, if_neg hk14_1, if_pos hk14] <;> first | rfl | decide), N33, K31⟩
  · -- ((i0 &&& (2147483647 : Int32)) % (6 : Int32)) = 3
    have hf14 : (mkF m 50 #[.val (.int i0), .val (.ref b1), .unset, .unset, .unset] [(.int ((i0 &&& (2147483647 : Int32)) % (6 : Int32))), (.ref b1)]) = (mkF m 50 #[.val (.int i0), .val (.ref b1), .unset, .unset, .unset] [(.int (3 : Int32)), (.ref b1)]) := by rw [hk14]
    rw [hf14]
    have hk14_0 : ¬ ((i0 &&& (2147483647 : Int32)) % (6 : Int32)) = (0 : Int32) := by rw [hk14]; decide
    have hk14_1 : ¬ ((i0 &&& (2147483647 : Int32)) % (6 : Int32)) = (1 : Int32) := by rw [hk14]; decide
    have hk14_2 : ¬ ((i0 &&& (2147483647 : Int32)) % (6 : Int32)) = (2 : Int32) := by rw [hk14]; decide
    obtain ⟨cl34, Ar34, q34, S34, Nn34, Hh34, G34⟩ := id V13
    refine ownW.go (T' := T13) (f' := (mkF m 51 #[.val (.int i0), .val (.ref b1), .unset, .unset, .unset] [(.ref oGT)])) (fun t kt => X13.aaload hx (j := (3 : Int32)) (v := (.ref oGT)) (by rw [e13]; exact Ar34.1) (State.isArrayOf_alike hZ.alike Ar34.2.1) rfl Ar34.2.2 (inb_of S34 ⟨by decide, by decide⟩) (Hh34.at (inb_of S34 ⟨by decide, by decide⟩) rfl) (g := (mkF m 50 #[.val (.int i0), .val (.ref b1), .unset, .unset, .unset] [(.int (3 : Int32)), (.ref b1)])) rfl rfl (hb hby at_50) _ kt) ?_
    refine ownW.go (T' := T13) (f' := (mkF m 53 #[.val (.int i0), .val (.ref b1), .val (.ref oGT), .unset, .unset] [(.ref oGT)])) (fun t kt => ?_) ?_
    · show Steps p.tables e below (T13.setTop (mkF m 51 #[.val (.int i0), .val (.ref b1), .unset, .unset, .unset] [(.ref oGT)])) _
      refine XS.astoreN X13.here hx rfl (hb hby at_51) rfl rfl (l' := #[.val (.int i0), .val (.ref b1), .val (.ref oGT), .unset, .unset]) rfl ?_
      show Steps p.tables e below (T13.setTop (mkF m 52 #[.val (.int i0), .val (.ref b1), .val (.ref oGT), .unset, .unset] [])) _
      refine XS.aloadN X13.here hx rfl (hb hby at_52) rfl rfl ?_
      exact kt
    obtain ⟨cq35, kq35, q35a, q35b, q35c⟩ := isOf hZ e13 (zEGT.ext cOld_13.2)
    obtain ⟨_, _, ⟨T35, L35, k35, n35⟩, -, X35, ⟨Lc35, hQ35, l35, y35, z35⟩, st35⟩ := X13.virtualBack hx (y := (⟨"com/example/kolom/kolom/cql/Operator", "symbol", "()Ljava/lang/String;"⟩ : MethodName)) (z := (⟨"com/example/kolom/kolom/cql/Operator", "symbol", "()Ljava/lang/String;"⟩ : MethodName)) hown (mvT hZ (hw _ (List.mem_of_getElem? (i := 17) rfl))) (mvT hZ (hw _ (List.mem_of_getElem? (i := 18) rfl))) (notFace_of_selects (args := #[]) (mvT hZ (hw _ (List.mem_of_getElem? (i := 20) rfl)))) (mvT hZ (hw _ (List.mem_of_getElem? (i := 20) rfl))) (mvT hZ (hw _ (List.mem_of_getElem? (i := 19) rfl))) (by decide) (backOf (W := 0) (own_rm1 l Z a0 hw [] oGT sGT h13 n0 (Nat.le_trans Z0 K13.1) (zFGT.ext cOld_13.2)) hZ (hw _ (List.mem_of_getElem? (i := 21) rfl)) (hw _ (List.mem_of_getElem? (i := 3) rfl)) (by decide) (by decide)) q35a q35c (g := (mkF m 53 #[.val (.int i0), .val (.ref b1), .val (.ref oGT), .unset, .unset] [(.ref oGT)])) rfl (by rw [hml]; rfl) (Steps.refl _) (argsL := []) (rest := []) (lenOf own_pd4 rfl) rfl (by show 2 * 0 + _ ≤ _; exact Nat.le_of_eq rfl) (hb hby at_53) (fun _ _ => ⟨rfl, e13, (by decide : 1 + 0 ≤ _), (by decide : 6 + 0 ≤ _)⟩)
    dsimp only [Pt.U, Pt.locs, Pt.cells, Pt.slots] at X35 l35 y35 z35 st35 hQ35
    subst l35 y35 z35
    obtain ⟨rfl, N35q, e35⟩ := hQ35
    have N35 := Fr.app N13 N35q
    refine ownW.goS (T' := T35) (f' := (mkF m 56 #[.val (.int i0), .val (.ref b1), .val (.ref oGT), .unset, .unset] [(.ref sGT)])) st35 ?_
    refine ownW.go (T' := T35) (f' := (mkF m 58 #[.val (.int i0), .val (.ref b1), .val (.ref oGT), .val (.ref sGT), .unset] [(.ref sGT)])) (fun t kt => ?_) ?_
    · show Steps p.tables e below (T35.setTop (mkF m 56 #[.val (.int i0), .val (.ref b1), .val (.ref oGT), .unset, .unset] [(.ref sGT)])) _
      refine XS.astoreN X35.here hx rfl (hb hby at_56) rfl rfl (l' := #[.val (.int i0), .val (.ref b1), .val (.ref oGT), .val (.ref sGT), .unset]) rfl ?_
      show Steps p.tables e below (T35.setTop (mkF m 57 #[.val (.int i0), .val (.ref b1), .val (.ref oGT), .val (.ref sGT), .unset] [])) _
      refine XS.aloadN X35.here hx rfl (hb hby at_57) rfl rfl ?_
      exact kt
    obtain ⟨c36, T36, h36, k36, cb36, ck36, X36, e36, E36, hS36, hk36, hZ, hown, cE36, cC36, cV36, cA36, -, -, I36, st36⟩ := ldcSV X35 hx hZ hown (hw _ (List.mem_of_getElem? (i := 24) rfl)) (own_strAtoms hw) e35 hS0 hk13 (by rw [hh, ← hn0]; exact N35) (fun b cl q => by rw [hh]; exact Od.2.2 b cl q) hIB (Ts := []) (by decide) hl33 hcw (vs := [(.int (60 : Int32)), (.int (61 : Int32))]) (z := (2 : Int32)) ⟨by decide, by decide⟩ (by decide) (by decide) (g := (mkF m 58 #[.val (.int i0), .val (.ref b1), .val (.ref oGT), .val (.ref sGT), .unset] [(.ref sGT)])) rfl (hb hby at_58) (n := 8) (by decide) (by decide) (by decide) (by decide)
    have cOld_36 : Old Z n0 h36 := cOld_13.ext E36
    have cArv_b1_36 : Arv Z h36 b1 k1 (.object "com/example/kolom/kolom/cql/Operator") (6 : Int32) [(.ref oEQ), (.ref oLT), (.ref oLTE), (.ref oGT), (.ref oGTE), (.ref oIN)] .null := V13.ext E36
    have K36 : Keep h0 h36 [] := K13.ext E36
    refine ownW.go (T' := T36) (f' := (mkF m 60 #[.val (.int i0), .val (.ref b1), .val (.ref oGT), .val (.ref sGT), .unset] [(.ref c36), (.ref sGT)])) st36 ?_
    obtain ⟨cq37, kq37, q37a, q37b, q37c⟩ := isOf hZ e36 (zXGT.ext cOld_36.2)
    obtain ⟨_, _, ⟨T37, L37, k37, n37⟩, -, X37, ⟨Lc37, hQ37, l37, y37, z37⟩, st37⟩ := X36.virtualBack hx (y := (⟨"java/lang/String", "equals", "(Ljava/lang/Object;)Z"⟩ : MethodName)) (z := (⟨"java/lang/String", "equals", "(Ljava/lang/Object;)Z"⟩ : MethodName)) hown (mvT hZ (hw _ (List.mem_of_getElem? (i := 32) rfl))) (mvT hZ (hw _ (List.mem_of_getElem? (i := 33) rfl))) (notFace_of_selects (args := #[]) (mvT hZ (hw _ (List.mem_of_getElem? (i := 35) rfl)))) (mvT hZ (hw _ (List.mem_of_getElem? (i := 35) rfl))) (mvT hZ (hw _ (List.mem_of_getElem? (i := 34) rfl))) (by decide) (backOf (W := 0) (own_rm2s l Z a0 hw [] sGT c36 vGT cb36 kGT ck36 (62 : Int32) (60 : Int32) (61 : Int32) cs h36 n0 (Nat.le_trans Z0 K36.1) (zXGT.ext cOld_36.2) (zCGT.ext cOld_36.2) (zVGT.ext cOld_36.2) (zAGT.ext cOld_36.2) cE36 cC36 cV36 cA36 (zcs.ext cOld_36.2) hcsn (own_strne (zVGT.ext cOld_36.2) (zAGT.ext cOld_36.2) cV36 cA36 (Or.inl (by decide)))) hZ (hw _ (List.mem_of_getElem? (i := 36) rfl)) (hw _ (List.mem_of_getElem? (i := 25) rfl)) (by decide) (by decide)) q37a q37c (g := (mkF m 60 #[.val (.int i0), .val (.ref b1), .val (.ref oGT), .val (.ref sGT), .unset] [(.ref c36), (.ref sGT)])) rfl (by rw [hml]; rfl) (Steps.refl _) (argsL := [(.ref c36)]) (rest := []) (lenOf own_pd5 rfl) rfl (by show 2 * 0 + _ ≤ _; exact Nat.le_of_eq rfl) (hb hby at_60) (fun _ _ => ⟨rfl, e36, (by decide : 3 + 0 ≤ _), (by decide : 18 + 0 ≤ _)⟩)
    dsimp only [Pt.U, Pt.locs, Pt.cells, Pt.slots] at X37 l37 y37 z37 st37 hQ37
    subst l37 y37 z37
    obtain ⟨rfl, N37q, e37⟩ := hQ37
    have N37 := Fr.app N35 N37q
    refine ownW.goS (T' := T37) (f' := (mkF m 63 #[.val (.int i0), .val (.ref b1), .val (.ref oGT), .val (.ref sGT), .unset] [(.int (0 : Int32))])) st37 ?_
    refine ownW.go (T' := T37) (f' := (mkF m 66 #[.val (.int i0), .val (.ref b1), .val (.ref oGT), .val (.ref sGT), .unset] [])) (fun t kt => XS.ifNo (g := (mkF m 63 #[.val (.int i0), .val (.ref b1), .val (.ref oGT), .val (.ref sGT), .unset] [(.int (0 : Int32))])) X37.here hx rfl (hb hby at_63) rfl (Jvm.Free.XT.i0_ne_f (by decide)) kt) ?_
    refine ownW.go (T' := T37) (f' := (mkF m 67 #[.val (.int i0), .val (.ref b1), .val (.ref oGT), .val (.ref sGT), .unset] [(.ref sGT)])) (fun t kt => ?_) ?_
    · show Steps p.tables e below (T37.setTop (mkF m 66 #[.val (.int i0), .val (.ref b1), .val (.ref oGT), .val (.ref sGT), .unset] [])) _
      refine XS.aloadN X37.here hx rfl (hb hby at_66) rfl rfl ?_
      exact kt
    obtain ⟨c38, T38, h38, k38, cb38, ck38, X38, e38, E38, hS38, hk38, hZ, hown, cE38, cC38, cV38, cA38, -, -, I38, st38⟩ := ldcSV X37 hx hZ hown (hw _ (List.mem_of_getElem? (i := 46) rfl)) (own_strAtoms hw) e37 hS36 hk36 (by rw [hh, ← hn0]; exact N37) (fun b cl q => by rw [hh]; exact Od.2.2 b cl q) I36 (Ts := ["<="]) (by decide) hl41 hcw (vs := [(.int (62 : Int32)), (.int (61 : Int32))]) (z := (2 : Int32)) ⟨by decide, by decide⟩ (by decide) (by decide) (g := (mkF m 67 #[.val (.int i0), .val (.ref b1), .val (.ref oGT), .val (.ref sGT), .unset] [(.ref sGT)])) rfl (hb hby at_67) (n := 8) (by decide) (by decide) (by decide) (by decide)
    have cOld_38 : Old Z n0 h38 := cOld_36.ext E38
    have cArv_b1_38 : Arv Z h38 b1 k1 (.object "com/example/kolom/kolom/cql/Operator") (6 : Int32) [(.ref oEQ), (.ref oLT), (.ref oLTE), (.ref oGT), (.ref oGTE), (.ref oIN)] .null := cArv_b1_36.ext E38
    have cExa_c36_38 : Exa Z h38 c36 "java/lang/String" := cE36.ext E38
    have cFld_c36_coder_38 : Fld Z h38 c36 "java/lang/String" "coder" "B" (.int (0 : Int32)) := cC36.ext E38
    have cFld_c36_value_38 : Fld Z h38 c36 "java/lang/String" "value" "[B" (.ref cb36) := cV36.ext E38
    have cArv_cb36_38 : Arv Z h38 cb36 ck36 .byte (2 : Int32) [(.int (60 : Int32)), (.int (61 : Int32))] (.int (0 : Int32)) := cA36.ext E38
    have K38 : Keep h0 h38 [] := K36.ext E38
    refine ownW.go (T' := T38) (f' := (mkF m 69 #[.val (.int i0), .val (.ref b1), .val (.ref oGT), .val (.ref sGT), .unset] [(.ref c38), (.ref sGT)])) st38 ?_
    obtain ⟨cq39, kq39, q39a, q39b, q39c⟩ := isOf hZ e38 (zXGT.ext cOld_38.2)
    obtain ⟨_, _, ⟨T39, L39, k39, n39⟩, -, X39, ⟨Lc39, hQ39, l39, y39, z39⟩, st39⟩ := X38.virtualBack hx (y := (⟨"java/lang/String", "equals", "(Ljava/lang/Object;)Z"⟩ : MethodName)) (z := (⟨"java/lang/String", "equals", "(Ljava/lang/Object;)Z"⟩ : MethodName)) hown (mvT hZ (hw _ (List.mem_of_getElem? (i := 32) rfl))) (mvT hZ (hw _ (List.mem_of_getElem? (i := 33) rfl))) (notFace_of_selects (args := #[]) (mvT hZ (hw _ (List.mem_of_getElem? (i := 35) rfl)))) (mvT hZ (hw _ (List.mem_of_getElem? (i := 35) rfl))) (mvT hZ (hw _ (List.mem_of_getElem? (i := 34) rfl))) (by decide) (backOf (W := 0) (own_rm2s l Z a0 hw [] sGT c38 vGT cb38 kGT ck38 (62 : Int32) (62 : Int32) (61 : Int32) cs h38 n0 (Nat.le_trans Z0 K38.1) (zXGT.ext cOld_38.2) (zCGT.ext cOld_38.2) (zVGT.ext cOld_38.2) (zAGT.ext cOld_38.2) cE38 cC38 cV38 cA38 (zcs.ext cOld_38.2) hcsn (own_strne (zVGT.ext cOld_38.2) (zAGT.ext cOld_38.2) cV38 cA38 (Or.inl (by decide)))) hZ (hw _ (List.mem_of_getElem? (i := 36) rfl)) (hw _ (List.mem_of_getElem? (i := 25) rfl)) (by decide) (by decide)) q39a q39c (g := (mkF m 69 #[.val (.int i0), .val (.ref b1), .val (.ref oGT), .val (.ref sGT), .unset] [(.ref c38), (.ref sGT)])) rfl (by rw [hml]; rfl) (Steps.refl _) (argsL := [(.ref c38)]) (rest := []) (lenOf own_pd5 rfl) rfl (by show 2 * 0 + _ ≤ _; exact Nat.le_of_eq rfl) (hb hby at_69) (fun _ _ => ⟨rfl, e38, (by decide : 5 + 0 ≤ _), (by decide : 30 + 0 ≤ _)⟩)
    dsimp only [Pt.U, Pt.locs, Pt.cells, Pt.slots] at X39 l39 y39 z39 st39 hQ39
    subst l39 y39 z39
    obtain ⟨rfl, N39q, e39⟩ := hQ39
    have N39 := Fr.app N37 N39q
    refine ownW.goS (T' := T39) (f' := (mkF m 72 #[.val (.int i0), .val (.ref b1), .val (.ref oGT), .val (.ref sGT), .unset] [(.int (0 : Int32))])) st39 ?_
    refine ownW.go (T' := T39) (f' := (mkF m 79 #[.val (.int i0), .val (.ref b1), .val (.ref oGT), .val (.ref sGT), .unset] [])) (fun t kt => XS.ifYes (g := (mkF m 72 #[.val (.int i0), .val (.ref b1), .val (.ref oGT), .val (.ref sGT), .unset] [(.int (0 : Int32))])) X39.here hx rfl (pc0 := 72) (pc' := 79) rfl (hb hby at_72) rfl (Jvm.Free.XT.i0_eq_t (by decide)) (by decide) (by decide) kt) ?_
    refine ownW.go (T' := T39) (f' := (mkF m 83 #[.val (.int i0), .val (.ref b1), .val (.ref oGT), .val (.ref sGT), .val (.int (0 : Int32))] [(.ref oGT)])) (fun t kt => ?_) ?_
    · show Steps p.tables e below (T39.setTop (mkF m 79 #[.val (.int i0), .val (.ref b1), .val (.ref oGT), .val (.ref sGT), .unset] [])) _
      refine XS.iconst X39.here hx rfl (hb hby at_79) ?_
      show Steps p.tables e below (T39.setTop (mkF m 80 #[.val (.int i0), .val (.ref b1), .val (.ref oGT), .val (.ref sGT), .unset] [(.int (0 : Int32))])) _
      refine XS.istore X39.here hx rfl (hb hby at_80) rfl (l' := #[.val (.int i0), .val (.ref b1), .val (.ref oGT), .val (.ref sGT), .val (.int (0 : Int32))]) rfl ?_
      show Steps p.tables e below (T39.setTop (mkF m 82 #[.val (.int i0), .val (.ref b1), .val (.ref oGT), .val (.ref sGT), .val (.int (0 : Int32))] [])) _
      refine XS.aloadN X39.here hx rfl (hb hby at_82) rfl rfl ?_
      exact kt
    obtain ⟨cq40, kq40, q40a, q40b, q40c⟩ := isOf hZ e39 (zEGT.ext cOld_38.2)
    obtain ⟨_, _, ⟨T40, L40, k40, n40⟩, -, X40, ⟨Lc40, hQ40, l40, y40, z40⟩, st40⟩ := X39.virtualBack hx (y := (⟨"com/example/kolom/kolom/cql/Operator", "isInclusive", "()Z"⟩ : MethodName)) (z := (⟨"com/example/kolom/kolom/cql/Operator", "isInclusive", "()Z"⟩ : MethodName)) hown (mvT hZ (hw _ (List.mem_of_getElem? (i := 47) rfl))) (mvT hZ (hw _ (List.mem_of_getElem? (i := 48) rfl))) (notFace_of_selects (args := #[]) (mvT hZ (hw _ (List.mem_of_getElem? (i := 50) rfl)))) (mvT hZ (hw _ (List.mem_of_getElem? (i := 50) rfl))) (mvT hZ (hw _ (List.mem_of_getElem? (i := 49) rfl))) (by decide) (backOf (W := 0) (own_rm4z l Z a0 hw [] oGT oLTE oGTE h38 n0 (Nat.le_trans Z0 K38.1) (zSLTE.ext cOld_38.2) neGT_LTE (zSGTE.ext cOld_38.2) neGT_GTE) hZ (hw _ (List.mem_of_getElem? (i := 51) rfl)) (hw _ (List.mem_of_getElem? (i := 3) rfl)) (by decide) (by decide)) q40a q40c (g := (mkF m 83 #[.val (.int i0), .val (.ref b1), .val (.ref oGT), .val (.ref sGT), .val (.int (0 : Int32))] [(.ref oGT)])) rfl (by rw [hml]; rfl) (Steps.refl _) (argsL := []) (rest := []) (lenOf own_pd6 rfl) rfl (by show 2 * 0 + _ ≤ _; exact Nat.le_of_eq rfl) (hb hby at_83) (fun _ _ => ⟨rfl, e39, (by decide : 5 + 0 ≤ _), (by decide : 30 + 0 ≤ _)⟩)
    dsimp only [Pt.U, Pt.locs, Pt.cells, Pt.slots] at X40 l40 y40 z40 st40 hQ40
    subst l40 y40 z40
    obtain ⟨rfl, N40q, e40⟩ := hQ40
    have N40 := Fr.app N39 N40q
    refine ownW.goS (T' := T40) (f' := (mkF m 86 #[.val (.int i0), .val (.ref b1), .val (.ref oGT), .val (.ref sGT), .val (.int (0 : Int32))] [(.int (0 : Int32))])) st40 ?_
    refine ownW.go (T' := T40) (f' := (mkF m 88 #[.val (.int i0), .val (.ref b1), .val (.ref oGT), .val (.ref sGT), .val (.int (0 : Int32))] [(.int (0 : Int32)), (.int (0 : Int32))])) (fun t kt => ?_) ?_
    · show Steps p.tables e below (T40.setTop (mkF m 86 #[.val (.int i0), .val (.ref b1), .val (.ref oGT), .val (.ref sGT), .val (.int (0 : Int32))] [(.int (0 : Int32))])) _
      refine XS.iload X40.here hx rfl (hb hby at_86) rfl ?_
      exact kt
    refine ownW.go (T' := T40) (f' := (mkF m 91 #[.val (.int i0), .val (.ref b1), .val (.ref oGT), .val (.ref sGT), .val (.int (0 : Int32))] [])) (fun t kt => XS.icmpNo (g := (mkF m 88 #[.val (.int i0), .val (.ref b1), .val (.ref oGT), .val (.ref sGT), .val (.int (0 : Int32))] [(.int (0 : Int32)), (.int (0 : Int32))])) X40.here hx rfl (hb hby at_88) rfl (Jvm.Free.XT.ii_ne_f (by decide)) kt) ?_
    refine ownW.go (T' := T40) (f' := (mkF m 96 #[.val (.int i0), .val (.ref b1), .val (.ref oGT), .val (.ref sGT), .val (.int (0 : Int32))] [(.int (1 : Int32))])) (fun t kt => ?_) ?_
    · show Steps p.tables e below (T40.setTop (mkF m 91 #[.val (.int i0), .val (.ref b1), .val (.ref oGT), .val (.ref sGT), .val (.int (0 : Int32))] [])) _
      refine XS.iconst X40.here hx rfl (hb hby at_91) ?_
      show Steps p.tables e below (T40.setTop (mkF m 92 #[.val (.int i0), .val (.ref b1), .val (.ref oGT), .val (.ref sGT), .val (.int (0 : Int32))] [(.int (1 : Int32))])) _
      refine XS.goto X40.here hx rfl (pc0 := 92) (pc' := 96) rfl (hb hby at_92) (by decide) (by decide) ?_
      exact kt
    refine ownW.retN X40 hx hlk (t := .boolean) hret (by simp) (hb hby at_96) hS38 (by rw [show T40.heap = h38 from e40]; exact hk38) ?_ (by decide) (by decide)
    show own_Q0 Z i0 oEQ sEQ vEQ kEQ oLT sLT vLT kLT oLTE sLTE vLTE kLTE oGT sGT vGT kGT oGTE sGTE vGTE kGTE oIN sIN vIN kIN cs h0 n0 _ T40.heap _
    rw [e40]
    exact ⟨(by rw [own_f0, if_neg hk14_0, if_neg hk14_1, if_neg hk14_2, if_pos hk14] <;> first | rfl | decide), N40, K38⟩
  · -- ((i0 &&& (2147483647 : Int32)) % (6 : Int32)) = 4
    have hf14 : (mkF m 50 #[.val (.int i0), .val (.ref b1), .unset, .unset, .unset] [(.int ((i0 &&& (2147483647 : Int32)) % (6 : Int32))), (.ref b1)]) = (mkF m 50 #[.val (.int i0), .val (.ref b1), .unset, .unset, .unset] [(.int (4 : Int32)), (.ref b1)]) := by rw [hk14]
    rw [hf14]
    have hk14_0 : ¬ ((i0 &&& (2147483647 : Int32)) % (6 : Int32)) = (0 : Int32) := by rw [hk14]; decide
    have hk14_1 : ¬ ((i0 &&& (2147483647 : Int32)) % (6 : Int32)) = (1 : Int32) := by rw [hk14]; decide
    have hk14_2 : ¬ ((i0 &&& (2147483647 : Int32)) % (6 : Int32)) = (2 : Int32) := by rw [hk14]; decide
    have hk14_3 : ¬ ((i0 &&& (2147483647 : Int32)) % (6 : Int32)) = (3 : Int32) := by rw [hk14]; decide
    obtain ⟨cl41, Ar41, q41, S41, Nn41, Hh41, G41⟩ := id V13
    refine ownW.go (T' := T13) (f' := (mkF m 51 #[.val (.int i0), .val (.ref b1), .unset, .unset, .unset] [(.ref oGTE)])) (fun t kt => X13.aaload hx (j := (4 : Int32)) (v := (.ref oGTE)) (by rw [e13]; exact Ar41.1) (State.isArrayOf_alike hZ.alike Ar41.2.1) rfl Ar41.2.2 (inb_of S41 ⟨by decide, by decide⟩) (Hh41.at (inb_of S41 ⟨by decide, by decide⟩) rfl) (g := (mkF m 50 #[.val (.int i0), .val (.ref b1), .unset, .unset, .unset] [(.int (4 : Int32)), (.ref b1)])) rfl rfl (hb hby at_50) _ kt) ?_
    refine ownW.go (T' := T13) (f' := (mkF m 53 #[.val (.int i0), .val (.ref b1), .val (.ref oGTE), .unset, .unset] [(.ref oGTE)])) (fun t kt => ?_) ?_
    · show Steps p.tables e below (T13.setTop (mkF m 51 #[.val (.int i0), .val (.ref b1), .unset, .unset, .unset] [(.ref oGTE)])) _
      refine XS.astoreN X13.here hx rfl (hb hby at_51) rfl rfl (l' := #[.val (.int i0), .val (.ref b1), .val (.ref oGTE), .unset, .unset]) rfl ?_
      show Steps p.tables e below (T13.setTop (mkF m 52 #[.val (.int i0), .val (.ref b1), .val (.ref oGTE), .unset, .unset] [])) _
      refine XS.aloadN X13.here hx rfl (hb hby at_52) rfl rfl ?_
      exact kt
    obtain ⟨cq42, kq42, q42a, q42b, q42c⟩ := isOf hZ e13 (zEGTE.ext cOld_13.2)
    obtain ⟨_, _, ⟨T42, L42, k42, n42⟩, -, X42, ⟨Lc42, hQ42, l42, y42, z42⟩, st42⟩ := X13.virtualBack hx (y := (⟨"com/example/kolom/kolom/cql/Operator", "symbol", "()Ljava/lang/String;"⟩ : MethodName)) (z := (⟨"com/example/kolom/kolom/cql/Operator", "symbol", "()Ljava/lang/String;"⟩ : MethodName)) hown (mvT hZ (hw _ (List.mem_of_getElem? (i := 17) rfl))) (mvT hZ (hw _ (List.mem_of_getElem? (i := 18) rfl))) (notFace_of_selects (args := #[]) (mvT hZ (hw _ (List.mem_of_getElem? (i := 20) rfl)))) (mvT hZ (hw _ (List.mem_of_getElem? (i := 20) rfl))) (mvT hZ (hw _ (List.mem_of_getElem? (i := 19) rfl))) (by decide) (backOf (W := 0) (own_rm1 l Z a0 hw [] oGTE sGTE h13 n0 (Nat.le_trans Z0 K13.1) (zFGTE.ext cOld_13.2)) hZ (hw _ (List.mem_of_getElem? (i := 21) rfl)) (hw _ (List.mem_of_getElem? (i := 3) rfl)) (by decide) (by decide)) q42a q42c (g := (mkF m 53 #[.val (.int i0), .val (.ref b1), .val (.ref oGTE), .unset, .unset] [(.ref oGTE)])) rfl (by rw [hml]; rfl) (Steps.refl _) (argsL := []) (rest := []) (lenOf own_pd4 rfl) rfl (by show 2 * 0 + _ ≤ _; exact Nat.le_of_eq rfl) (hb hby at_53) (fun _ _ => ⟨rfl, e13, (by decide : 1 + 0 ≤ _), (by decide : 6 + 0 ≤ _)⟩)
    dsimp only [Pt.U, Pt.locs, Pt.cells, Pt.slots] at X42 l42 y42 z42 st42 hQ42
    subst l42 y42 z42
    obtain ⟨rfl, N42q, e42⟩ := hQ42
    have N42 := Fr.app N13 N42q
    refine ownW.goS (T' := T42) (f' := (mkF m 56 #[.val (.int i0), .val (.ref b1), .val (.ref oGTE), .unset, .unset] [(.ref sGTE)])) st42 ?_
    refine ownW.go (T' := T42) (f' := (mkF m 58 #[.val (.int i0), .val (.ref b1), .val (.ref oGTE), .val (.ref sGTE), .unset] [(.ref sGTE)])) (fun t kt => ?_) ?_
    · show Steps p.tables e below (T42.setTop (mkF m 56 #[.val (.int i0), .val (.ref b1), .val (.ref oGTE), .unset, .unset] [(.ref sGTE)])) _
      refine XS.astoreN X42.here hx rfl (hb hby at_56) rfl rfl (l' := #[.val (.int i0), .val (.ref b1), .val (.ref oGTE), .val (.ref sGTE), .unset]) rfl ?_
      show Steps p.tables e below (T42.setTop (mkF m 57 #[.val (.int i0), .val (.ref b1), .val (.ref oGTE), .val (.ref sGTE), .unset] [])) _
      refine XS.aloadN X42.here hx rfl (hb hby at_57) rfl rfl ?_
      exact kt
    obtain ⟨c43, T43, h43, k43, cb43, ck43, X43, e43, E43, hS43, hk43, hZ, hown, cE43, cC43, cV43, cA43, -, -, I43, st43⟩ := ldcSV X42 hx hZ hown (hw _ (List.mem_of_getElem? (i := 24) rfl)) (own_strAtoms hw) e42 hS0 hk13 (by rw [hh, ← hn0]; exact N42) (fun b cl q => by rw [hh]; exact Od.2.2 b cl q) hIB (Ts := []) (by decide) hl33 hcw (vs := [(.int (60 : Int32)), (.int (61 : Int32))]) (z := (2 : Int32)) ⟨by decide, by decide⟩ (by decide) (by decide) (g := (mkF m 58 #[.val (.int i0), .val (.ref b1), .val (.ref oGTE), .val (.ref sGTE), .unset] [(.ref sGTE)])) rfl (hb hby at_58) (n := 8) (by decide) (by decide) (by decide) (by decide)
    have cOld_43 : Old Z n0 h43 := cOld_13.ext E43
    have cArv_b1_43 : Arv Z h43 b1 k1 (.object "com/example/kolom/kolom/cql/Operator") (6 : Int32) [(.ref oEQ), (.ref oLT), (.ref oLTE), (.ref oGT), (.ref oGTE), (.ref oIN)] .null := V13.ext E43
    have K43 : Keep h0 h43 [] := K13.ext E43
    refine ownW.go (T' := T43) (f' := (mkF m 60 #[.val (.int i0), .val (.ref b1), .val (.ref oGTE), .val (.ref sGTE), .unset] [(.ref c43), (.ref sGTE)])) st43 ?_
    obtain ⟨cq44, kq44, q44a, q44b, q44c⟩ := isOf hZ e43 (zXGTE.ext cOld_43.2)
    obtain ⟨_, _, ⟨T44, L44, k44, n44⟩, -, X44, ⟨Lc44, hQ44, l44, y44, z44⟩, st44⟩ := X43.virtualBack hx (y := (⟨"java/lang/String", "equals", "(Ljava/lang/Object;)Z"⟩ : MethodName)) (z := (⟨"java/lang/String", "equals", "(Ljava/lang/Object;)Z"⟩ : MethodName)) hown (mvT hZ (hw _ (List.mem_of_getElem? (i := 32) rfl))) (mvT hZ (hw _ (List.mem_of_getElem? (i := 33) rfl))) (notFace_of_selects (args := #[]) (mvT hZ (hw _ (List.mem_of_getElem? (i := 35) rfl)))) (mvT hZ (hw _ (List.mem_of_getElem? (i := 35) rfl))) (mvT hZ (hw _ (List.mem_of_getElem? (i := 34) rfl))) (by decide) (backOf (W := 0) (own_rm2d l Z a0 hw [] sGTE c43 vGTE cb43 kGTE ck43 (62 : Int32) (61 : Int32) (60 : Int32) (61 : Int32) cs h43 n0 (Nat.le_trans Z0 K43.1) (zXGTE.ext cOld_43.2) (zCGTE.ext cOld_43.2) (zVGTE.ext cOld_43.2) (zAGTE.ext cOld_43.2) cE43 cC43 cV43 cA43 (zcs.ext cOld_43.2) hcsn (by decide) (own_strne (zVGTE.ext cOld_43.2) (zAGTE.ext cOld_43.2) cV43 cA43 (Or.inr ⟨by decide, by decide⟩))) hZ (hw _ (List.mem_of_getElem? (i := 36) rfl)) (hw _ (List.mem_of_getElem? (i := 25) rfl)) (by decide) (by decide)) q44a q44c (g := (mkF m 60 #[.val (.int i0), .val (.ref b1), .val (.ref oGTE), .val (.ref sGTE), .unset] [(.ref c43), (.ref sGTE)])) rfl (by rw [hml]; rfl) (Steps.refl _) (argsL := [(.ref c43)]) (rest := []) (lenOf own_pd5 rfl) rfl (by show 2 * 0 + _ ≤ _; exact Nat.le_of_eq rfl) (hb hby at_60) (fun _ _ => ⟨rfl, e43, (by decide : 3 + 0 ≤ _), (by decide : 18 + 0 ≤ _)⟩)
    dsimp only [Pt.U, Pt.locs, Pt.cells, Pt.slots] at X44 l44 y44 z44 st44 hQ44
    subst l44 y44 z44
    obtain ⟨rfl, N44q, e44⟩ := hQ44
    have N44 := Fr.app N42 N44q
    refine ownW.goS (T' := T44) (f' := (mkF m 63 #[.val (.int i0), .val (.ref b1), .val (.ref oGTE), .val (.ref sGTE), .unset] [(.int (0 : Int32))])) st44 ?_
    refine ownW.go (T' := T44) (f' := (mkF m 66 #[.val (.int i0), .val (.ref b1), .val (.ref oGTE), .val (.ref sGTE), .unset] [])) (fun t kt => XS.ifNo (g := (mkF m 63 #[.val (.int i0), .val (.ref b1), .val (.ref oGTE), .val (.ref sGTE), .unset] [(.int (0 : Int32))])) X44.here hx rfl (hb hby at_63) rfl (Jvm.Free.XT.i0_ne_f (by decide)) kt) ?_
    refine ownW.go (T' := T44) (f' := (mkF m 67 #[.val (.int i0), .val (.ref b1), .val (.ref oGTE), .val (.ref sGTE), .unset] [(.ref sGTE)])) (fun t kt => ?_) ?_
    · show Steps p.tables e below (T44.setTop (mkF m 66 #[.val (.int i0), .val (.ref b1), .val (.ref oGTE), .val (.ref sGTE), .unset] [])) _
      refine XS.aloadN X44.here hx rfl (hb hby at_66) rfl rfl ?_
      exact kt
    obtain ⟨c45, T45, h45, k45, cb45, ck45, X45, e45, E45, hS45, hk45, hZ, hown, cE45, cC45, cV45, cA45, -, -, I45, st45⟩ := ldcSV X44 hx hZ hown (hw _ (List.mem_of_getElem? (i := 46) rfl)) (own_strAtoms hw) e44 hS43 hk43 (by rw [hh, ← hn0]; exact N44) (fun b cl q => by rw [hh]; exact Od.2.2 b cl q) I43 (Ts := ["<="]) (by decide) hl41 hcw (vs := [(.int (62 : Int32)), (.int (61 : Int32))]) (z := (2 : Int32)) ⟨by decide, by decide⟩ (by decide) (by decide) (g := (mkF m 67 #[.val (.int i0), .val (.ref b1), .val (.ref oGTE), .val (.ref sGTE), .unset] [(.ref sGTE)])) rfl (hb hby at_67) (n := 8) (by decide) (by decide) (by decide) (by decide)
    have cOld_45 : Old Z n0 h45 := cOld_43.ext E45
    have cArv_b1_45 : Arv Z h45 b1 k1 (.object "com/example/kolom/kolom/cql/Operator") (6 : Int32) [(.ref oEQ), (.ref oLT), (.ref oLTE), (.ref oGT), (.ref oGTE), (.ref oIN)] .null := cArv_b1_43.ext E45
    have cExa_c43_45 : Exa Z h45 c43 "java/lang/String" := cE43.ext E45
    have cFld_c43_coder_45 : Fld Z h45 c43 "java/lang/String" "coder" "B" (.int (0 : Int32)) := cC43.ext E45
    have cFld_c43_value_45 : Fld Z h45 c43 "java/lang/String" "value" "[B" (.ref cb43) := cV43.ext E45
    have cArv_cb43_45 : Arv Z h45 cb43 ck43 .byte (2 : Int32) [(.int (60 : Int32)), (.int (61 : Int32))] (.int (0 : Int32)) := cA43.ext E45
    have K45 : Keep h0 h45 [] := K43.ext E45
    refine ownW.go (T' := T45) (f' := (mkF m 69 #[.val (.int i0), .val (.ref b1), .val (.ref oGTE), .val (.ref sGTE), .unset] [(.ref c45), (.ref sGTE)])) st45 ?_
    obtain ⟨cq46, kq46, q46a, q46b, q46c⟩ := isOf hZ e45 (zXGTE.ext cOld_45.2)
    obtain ⟨_, _, ⟨T46, L46, k46, n46⟩, -, X46, ⟨Lc46, hQ46, l46, y46, z46⟩, st46⟩ := X45.virtualBack hx (y := (⟨"java/lang/String", "equals", "(Ljava/lang/Object;)Z"⟩ : MethodName)) (z := (⟨"java/lang/String", "equals", "(Ljava/lang/Object;)Z"⟩ : MethodName)) hown (mvT hZ (hw _ (List.mem_of_getElem? (i := 32) rfl))) (mvT hZ (hw _ (List.mem_of_getElem? (i := 33) rfl))) (notFace_of_selects (args := #[]) (mvT hZ (hw _ (List.mem_of_getElem? (i := 35) rfl)))) (mvT hZ (hw _ (List.mem_of_getElem? (i := 35) rfl))) (mvT hZ (hw _ (List.mem_of_getElem? (i := 34) rfl))) (by decide) (backOf (W := 0) (own_rm2e l Z a0 hw [] sGTE c45 vGTE cb45 kGTE ck45 (62 : Int32) (61 : Int32) cs h45 n0 (Nat.le_trans Z0 K45.1) (zXGTE.ext cOld_45.2) (zCGTE.ext cOld_45.2) (zVGTE.ext cOld_45.2) (zAGTE.ext cOld_45.2) cE45 cC45 cV45 cA45 (zcs.ext cOld_45.2) hcsn) hZ (hw _ (List.mem_of_getElem? (i := 36) rfl)) (hw _ (List.mem_of_getElem? (i := 25) rfl)) (by decide) (by decide)) q46a q46c (g := (mkF m 69 #[.val (.int i0), .val (.ref b1), .val (.ref oGTE), .val (.ref sGTE), .unset] [(.ref c45), (.ref sGTE)])) rfl (by rw [hml]; rfl) (Steps.refl _) (argsL := [(.ref c45)]) (rest := []) (lenOf own_pd5 rfl) rfl (by show 2 * 0 + _ ≤ _; exact Nat.le_of_eq rfl) (hb hby at_69) (fun _ _ => ⟨rfl, e45, (by decide : 5 + 0 ≤ _), (by decide : 30 + 0 ≤ _)⟩)
    dsimp only [Pt.U, Pt.locs, Pt.cells, Pt.slots] at X46 l46 y46 z46 st46 hQ46
    subst l46 y46 z46
    obtain ⟨rfl, N46q, e46⟩ := hQ46
    have N46 := Fr.app N44 N46q
    refine ownW.goS (T' := T46) (f' := (mkF m 72 #[.val (.int i0), .val (.ref b1), .val (.ref oGTE), .val (.ref sGTE), .unset] [(.int (1 : Int32))])) st46 ?_
    refine ownW.go (T' := T46) (f' := (mkF m 75 #[.val (.int i0), .val (.ref b1), .val (.ref oGTE), .val (.ref sGTE), .unset] [])) (fun t kt => XS.ifNo (g := (mkF m 72 #[.val (.int i0), .val (.ref b1), .val (.ref oGTE), .val (.ref sGTE), .unset] [(.int (1 : Int32))])) X46.here hx rfl (hb hby at_72) rfl (Jvm.Free.XT.i0_eq_f (by decide)) kt) ?_
    refine ownW.go (T' := T46) (f' := (mkF m 83 #[.val (.int i0), .val (.ref b1), .val (.ref oGTE), .val (.ref sGTE), .val (.int (1 : Int32))] [(.ref oGTE)])) (fun t kt => ?_) ?_
    · show Steps p.tables e below (T46.setTop (mkF m 75 #[.val (.int i0), .val (.ref b1), .val (.ref oGTE), .val (.ref sGTE), .unset] [])) _
      refine XS.iconst X46.here hx rfl (hb hby at_75) ?_
      show Steps p.tables e below (T46.setTop (mkF m 76 #[.val (.int i0), .val (.ref b1), .val (.ref oGTE), .val (.ref sGTE), .unset] [(.int (1 : Int32))])) _
      refine XS.goto X46.here hx rfl (pc0 := 76) (pc' := 80) rfl (hb hby at_76) (by decide) (by decide) ?_
      show Steps p.tables e below (T46.setTop (mkF m 80 #[.val (.int i0), .val (.ref b1), .val (.ref oGTE), .val (.ref sGTE), .unset] [(.int (1 : Int32))])) _
      refine XS.istore X46.here hx rfl (hb hby at_80) rfl (l' := #[.val (.int i0), .val (.ref b1), .val (.ref oGTE), .val (.ref sGTE), .val (.int (1 : Int32))]) rfl ?_
      show Steps p.tables e below (T46.setTop (mkF m 82 #[.val (.int i0), .val (.ref b1), .val (.ref oGTE), .val (.ref sGTE), .val (.int (1 : Int32))] [])) _
      refine XS.aloadN X46.here hx rfl (hb hby at_82) rfl rfl ?_
      exact kt
    obtain ⟨cq47, kq47, q47a, q47b, q47c⟩ := isOf hZ e46 (zEGTE.ext cOld_45.2)
    obtain ⟨_, _, ⟨T47, L47, k47, n47⟩, -, X47, ⟨Lc47, hQ47, l47, y47, z47⟩, st47⟩ := X46.virtualBack hx (y := (⟨"com/example/kolom/kolom/cql/Operator", "isInclusive", "()Z"⟩ : MethodName)) (z := (⟨"com/example/kolom/kolom/cql/Operator", "isInclusive", "()Z"⟩ : MethodName)) hown (mvT hZ (hw _ (List.mem_of_getElem? (i := 47) rfl))) (mvT hZ (hw _ (List.mem_of_getElem? (i := 48) rfl))) (notFace_of_selects (args := #[]) (mvT hZ (hw _ (List.mem_of_getElem? (i := 50) rfl)))) (mvT hZ (hw _ (List.mem_of_getElem? (i := 50) rfl))) (mvT hZ (hw _ (List.mem_of_getElem? (i := 49) rfl))) (by decide) (backOf (W := 0) (own_rm4y l Z a0 hw [] oGTE oLTE h45 n0 (Nat.le_trans Z0 K45.1) (zSLTE.ext cOld_45.2) (Ne.symm neLTE_GTE) (zSGTE.ext cOld_45.2)) hZ (hw _ (List.mem_of_getElem? (i := 51) rfl)) (hw _ (List.mem_of_getElem? (i := 3) rfl)) (by decide) (by decide)) q47a q47c (g := (mkF m 83 #[.val (.int i0), .val (.ref b1), .val (.ref oGTE), .val (.ref sGTE), .val (.int (1 : Int32))] [(.ref oGTE)])) rfl (by rw [hml]; rfl) (Steps.refl _) (argsL := []) (rest := []) (lenOf own_pd6 rfl) rfl (by show 2 * 0 + _ ≤ _; exact Nat.le_of_eq rfl) (hb hby at_83) (fun _ _ => ⟨rfl, e46, (by decide : 5 + 0 ≤ _), (by decide : 30 + 0 ≤ _)⟩)
    dsimp only [Pt.U, Pt.locs, Pt.cells, Pt.slots] at X47 l47 y47 z47 st47 hQ47
    subst l47 y47 z47
    obtain ⟨rfl, N47q, e47⟩ := hQ47
    have N47 := Fr.app N46 N47q
    refine ownW.goS (T' := T47) (f' := (mkF m 86 #[.val (.int i0), .val (.ref b1), .val (.ref oGTE), .val (.ref sGTE), .val (.int (1 : Int32))] [(.int (1 : Int32))])) st47 ?_
    refine ownW.go (T' := T47) (f' := (mkF m 88 #[.val (.int i0), .val (.ref b1), .val (.ref oGTE), .val (.ref sGTE), .val (.int (1 : Int32))] [(.int (1 : Int32)), (.int (1 : Int32))])) (fun t kt => ?_) ?_
    · show Steps p.tables e below (T47.setTop (mkF m 86 #[.val (.int i0), .val (.ref b1), .val (.ref oGTE), .val (.ref sGTE), .val (.int (1 : Int32))] [(.int (1 : Int32))])) _
      refine XS.iload X47.here hx rfl (hb hby at_86) rfl ?_
      exact kt
    refine ownW.go (T' := T47) (f' := (mkF m 91 #[.val (.int i0), .val (.ref b1), .val (.ref oGTE), .val (.ref sGTE), .val (.int (1 : Int32))] [])) (fun t kt => XS.icmpNo (g := (mkF m 88 #[.val (.int i0), .val (.ref b1), .val (.ref oGTE), .val (.ref sGTE), .val (.int (1 : Int32))] [(.int (1 : Int32)), (.int (1 : Int32))])) X47.here hx rfl (hb hby at_88) rfl (Jvm.Free.XT.ii_ne_f (by decide)) kt) ?_
    refine ownW.go (T' := T47) (f' := (mkF m 96 #[.val (.int i0), .val (.ref b1), .val (.ref oGTE), .val (.ref sGTE), .val (.int (1 : Int32))] [(.int (1 : Int32))])) (fun t kt => ?_) ?_
    · show Steps p.tables e below (T47.setTop (mkF m 91 #[.val (.int i0), .val (.ref b1), .val (.ref oGTE), .val (.ref sGTE), .val (.int (1 : Int32))] [])) _
      refine XS.iconst X47.here hx rfl (hb hby at_91) ?_
      show Steps p.tables e below (T47.setTop (mkF m 92 #[.val (.int i0), .val (.ref b1), .val (.ref oGTE), .val (.ref sGTE), .val (.int (1 : Int32))] [(.int (1 : Int32))])) _
      refine XS.goto X47.here hx rfl (pc0 := 92) (pc' := 96) rfl (hb hby at_92) (by decide) (by decide) ?_
      exact kt
    refine ownW.retN X47 hx hlk (t := .boolean) hret (by simp) (hb hby at_96) hS45 (by rw [show T47.heap = h45 from e47]; exact hk45) ?_ (by decide) (by decide)
    show own_Q0 Z i0 oEQ sEQ vEQ kEQ oLT sLT vLT kLT oLTE sLTE vLTE kLTE oGT sGT vGT kGT oGTE sGTE vGTE kGTE oIN sIN vIN kIN cs h0 n0 _ T47.heap _
    rw [e47]
    exact ⟨(by rw [own_f0, if_neg hk14_0, if_neg hk14_1, if_neg hk14_2, if_neg hk14_3, if_pos hk14] <;> first | rfl | decide), N47, K45⟩
  · -- ((i0 &&& (2147483647 : Int32)) % (6 : Int32)) = 5
    have hf14 : (mkF m 50 #[.val (.int i0), .val (.ref b1), .unset, .unset, .unset] [(.int ((i0 &&& (2147483647 : Int32)) % (6 : Int32))), (.ref b1)]) = (mkF m 50 #[.val (.int i0), .val (.ref b1), .unset, .unset, .unset] [(.int (5 : Int32)), (.ref b1)]) := by rw [hk14]
    rw [hf14]
    have hk14_0 : ¬ ((i0 &&& (2147483647 : Int32)) % (6 : Int32)) = (0 : Int32) := by rw [hk14]; decide
    have hk14_1 : ¬ ((i0 &&& (2147483647 : Int32)) % (6 : Int32)) = (1 : Int32) := by rw [hk14]; decide
    have hk14_2 : ¬ ((i0 &&& (2147483647 : Int32)) % (6 : Int32)) = (2 : Int32) := by rw [hk14]; decide
    have hk14_3 : ¬ ((i0 &&& (2147483647 : Int32)) % (6 : Int32)) = (3 : Int32) := by rw [hk14]; decide
    have hk14_4 : ¬ ((i0 &&& (2147483647 : Int32)) % (6 : Int32)) = (4 : Int32) := by rw [hk14]; decide
    obtain ⟨cl48, Ar48, q48, S48, Nn48, Hh48, G48⟩ := id V13
    refine ownW.go (T' := T13) (f' := (mkF m 51 #[.val (.int i0), .val (.ref b1), .unset, .unset, .unset] [(.ref oIN)])) (fun t kt => X13.aaload hx (j := (5 : Int32)) (v := (.ref oIN)) (by rw [e13]; exact Ar48.1) (State.isArrayOf_alike hZ.alike Ar48.2.1) rfl Ar48.2.2 (inb_of S48 ⟨by decide, by decide⟩) (Hh48.at (inb_of S48 ⟨by decide, by decide⟩) rfl) (g := (mkF m 50 #[.val (.int i0), .val (.ref b1), .unset, .unset, .unset] [(.int (5 : Int32)), (.ref b1)])) rfl rfl (hb hby at_50) _ kt) ?_
    refine ownW.go (T' := T13) (f' := (mkF m 53 #[.val (.int i0), .val (.ref b1), .val (.ref oIN), .unset, .unset] [(.ref oIN)])) (fun t kt => ?_) ?_
    · show Steps p.tables e below (T13.setTop (mkF m 51 #[.val (.int i0), .val (.ref b1), .unset, .unset, .unset] [(.ref oIN)])) _
      refine XS.astoreN X13.here hx rfl (hb hby at_51) rfl rfl (l' := #[.val (.int i0), .val (.ref b1), .val (.ref oIN), .unset, .unset]) rfl ?_
      show Steps p.tables e below (T13.setTop (mkF m 52 #[.val (.int i0), .val (.ref b1), .val (.ref oIN), .unset, .unset] [])) _
      refine XS.aloadN X13.here hx rfl (hb hby at_52) rfl rfl ?_
      exact kt
    obtain ⟨cq49, kq49, q49a, q49b, q49c⟩ := isOf hZ e13 (zEIN.ext cOld_13.2)
    obtain ⟨_, _, ⟨T49, L49, k49, n49⟩, -, X49, ⟨Lc49, hQ49, l49, y49, z49⟩, st49⟩ := X13.virtualBack hx (y := (⟨"com/example/kolom/kolom/cql/Operator", "symbol", "()Ljava/lang/String;"⟩ : MethodName)) (z := (⟨"com/example/kolom/kolom/cql/Operator", "symbol", "()Ljava/lang/String;"⟩ : MethodName)) hown (mvT hZ (hw _ (List.mem_of_getElem? (i := 17) rfl))) (mvT hZ (hw _ (List.mem_of_getElem? (i := 18) rfl))) (notFace_of_selects (args := #[]) (mvT hZ (hw _ (List.mem_of_getElem? (i := 20) rfl)))) (mvT hZ (hw _ (List.mem_of_getElem? (i := 20) rfl))) (mvT hZ (hw _ (List.mem_of_getElem? (i := 19) rfl))) (by decide) (backOf (W := 0) (own_rm1 l Z a0 hw [] oIN sIN h13 n0 (Nat.le_trans Z0 K13.1) (zFIN.ext cOld_13.2)) hZ (hw _ (List.mem_of_getElem? (i := 21) rfl)) (hw _ (List.mem_of_getElem? (i := 3) rfl)) (by decide) (by decide)) q49a q49c (g := (mkF m 53 #[.val (.int i0), .val (.ref b1), .val (.ref oIN), .unset, .unset] [(.ref oIN)])) rfl (by rw [hml]; rfl) (Steps.refl _) (argsL := []) (rest := []) (lenOf own_pd4 rfl) rfl (by show 2 * 0 + _ ≤ _; exact Nat.le_of_eq rfl) (hb hby at_53) (fun _ _ => ⟨rfl, e13, (by decide : 1 + 0 ≤ _), (by decide : 6 + 0 ≤ _)⟩)
    dsimp only [Pt.U, Pt.locs, Pt.cells, Pt.slots] at X49 l49 y49 z49 st49 hQ49
    subst l49 y49 z49
    obtain ⟨rfl, N49q, e49⟩ := hQ49
    have N49 := Fr.app N13 N49q
    refine ownW.goS (T' := T49) (f' := (mkF m 56 #[.val (.int i0), .val (.ref b1), .val (.ref oIN), .unset, .unset] [(.ref sIN)])) st49 ?_
    refine ownW.go (T' := T49) (f' := (mkF m 58 #[.val (.int i0), .val (.ref b1), .val (.ref oIN), .val (.ref sIN), .unset] [(.ref sIN)])) (fun t kt => ?_) ?_
    · show Steps p.tables e below (T49.setTop (mkF m 56 #[.val (.int i0), .val (.ref b1), .val (.ref oIN), .unset, .unset] [(.ref sIN)])) _
      refine XS.astoreN X49.here hx rfl (hb hby at_56) rfl rfl (l' := #[.val (.int i0), .val (.ref b1), .val (.ref oIN), .val (.ref sIN), .unset]) rfl ?_
      show Steps p.tables e below (T49.setTop (mkF m 57 #[.val (.int i0), .val (.ref b1), .val (.ref oIN), .val (.ref sIN), .unset] [])) _
      refine XS.aloadN X49.here hx rfl (hb hby at_57) rfl rfl ?_
      exact kt
    obtain ⟨c50, T50, h50, k50, cb50, ck50, X50, e50, E50, hS50, hk50, hZ, hown, cE50, cC50, cV50, cA50, -, -, I50, st50⟩ := ldcSV X49 hx hZ hown (hw _ (List.mem_of_getElem? (i := 24) rfl)) (own_strAtoms hw) e49 hS0 hk13 (by rw [hh, ← hn0]; exact N49) (fun b cl q => by rw [hh]; exact Od.2.2 b cl q) hIB (Ts := []) (by decide) hl33 hcw (vs := [(.int (60 : Int32)), (.int (61 : Int32))]) (z := (2 : Int32)) ⟨by decide, by decide⟩ (by decide) (by decide) (g := (mkF m 58 #[.val (.int i0), .val (.ref b1), .val (.ref oIN), .val (.ref sIN), .unset] [(.ref sIN)])) rfl (hb hby at_58) (n := 8) (by decide) (by decide) (by decide) (by decide)
    have cOld_50 : Old Z n0 h50 := cOld_13.ext E50
    have cArv_b1_50 : Arv Z h50 b1 k1 (.object "com/example/kolom/kolom/cql/Operator") (6 : Int32) [(.ref oEQ), (.ref oLT), (.ref oLTE), (.ref oGT), (.ref oGTE), (.ref oIN)] .null := V13.ext E50
    have K50 : Keep h0 h50 [] := K13.ext E50
    refine ownW.go (T' := T50) (f' := (mkF m 60 #[.val (.int i0), .val (.ref b1), .val (.ref oIN), .val (.ref sIN), .unset] [(.ref c50), (.ref sIN)])) st50 ?_
    obtain ⟨cq51, kq51, q51a, q51b, q51c⟩ := isOf hZ e50 (zXIN.ext cOld_50.2)
    obtain ⟨_, _, ⟨T51, L51, k51, n51⟩, -, X51, ⟨Lc51, hQ51, l51, y51, z51⟩, st51⟩ := X50.virtualBack hx (y := (⟨"java/lang/String", "equals", "(Ljava/lang/Object;)Z"⟩ : MethodName)) (z := (⟨"java/lang/String", "equals", "(Ljava/lang/Object;)Z"⟩ : MethodName)) hown (mvT hZ (hw _ (List.mem_of_getElem? (i := 32) rfl))) (mvT hZ (hw _ (List.mem_of_getElem? (i := 33) rfl))) (notFace_of_selects (args := #[]) (mvT hZ (hw _ (List.mem_of_getElem? (i := 35) rfl)))) (mvT hZ (hw _ (List.mem_of_getElem? (i := 35) rfl))) (mvT hZ (hw _ (List.mem_of_getElem? (i := 34) rfl))) (by decide) (backOf (W := 0) (own_rm2d l Z a0 hw [] sIN c50 vIN cb50 kIN ck50 (73 : Int32) (78 : Int32) (60 : Int32) (61 : Int32) cs h50 n0 (Nat.le_trans Z0 K50.1) (zXIN.ext cOld_50.2) (zCIN.ext cOld_50.2) (zVIN.ext cOld_50.2) (zAIN.ext cOld_50.2) cE50 cC50 cV50 cA50 (zcs.ext cOld_50.2) hcsn (by decide) (own_strne (zVIN.ext cOld_50.2) (zAIN.ext cOld_50.2) cV50 cA50 (Or.inr ⟨by decide, by decide⟩))) hZ (hw _ (List.mem_of_getElem? (i := 36) rfl)) (hw _ (List.mem_of_getElem? (i := 25) rfl)) (by decide) (by decide)) q51a q51c (g := (mkF m 60 #[.val (.int i0), .val (.ref b1), .val (.ref oIN), .val (.ref sIN), .unset] [(.ref c50), (.ref sIN)])) rfl (by rw [hml]; rfl) (Steps.refl _) (argsL := [(.ref c50)]) (rest := []) (lenOf own_pd5 rfl) rfl (by show 2 * 0 + _ ≤ _; exact Nat.le_of_eq rfl) (hb hby at_60) (fun _ _ => ⟨rfl, e50, (by decide : 3 + 0 ≤ _), (by decide : 18 + 0 ≤ _)⟩)
    dsimp only [Pt.U, Pt.locs, Pt.cells, Pt.slots] at X51 l51 y51 z51 st51 hQ51
    subst l51 y51 z51
    obtain ⟨rfl, N51q, e51⟩ := hQ51
    have N51 := Fr.app N49 N51q
    refine ownW.goS (T' := T51) (f' := (mkF m 63 #[.val (.int i0), .val (.ref b1), .val (.ref oIN), .val (.ref sIN), .unset] [(.int (0 : Int32))])) st51 ?_
    refine ownW.go (T' := T51) (f' := (mkF m 66 #[.val (.int i0), .val (.ref b1), .val (.ref oIN), .val (.ref sIN), .unset] [])) (fun t kt => XS.ifNo (g := (mkF m 63 #[.val (.int i0), .val (.ref b1), .val (.ref oIN), .val (.ref sIN), .unset] [(.int (0 : Int32))])) X51.here hx rfl (hb hby at_63) rfl (Jvm.Free.XT.i0_ne_f (by decide)) kt) ?_
    refine ownW.go (T' := T51) (f' := (mkF m 67 #[.val (.int i0), .val (.ref b1), .val (.ref oIN), .val (.ref sIN), .unset] [(.ref sIN)])) (fun t kt => ?_) ?_
    · show Steps p.tables e below (T51.setTop (mkF m 66 #[.val (.int i0), .val (.ref b1), .val (.ref oIN), .val (.ref sIN), .unset] [])) _
      refine XS.aloadN X51.here hx rfl (hb hby at_66) rfl rfl ?_
      exact kt
    obtain ⟨c52, T52, h52, k52, cb52, ck52, X52, e52, E52, hS52, hk52, hZ, hown, cE52, cC52, cV52, cA52, -, -, I52, st52⟩ := ldcSV X51 hx hZ hown (hw _ (List.mem_of_getElem? (i := 46) rfl)) (own_strAtoms hw) e51 hS50 hk50 (by rw [hh, ← hn0]; exact N51) (fun b cl q => by rw [hh]; exact Od.2.2 b cl q) I50 (Ts := ["<="]) (by decide) hl41 hcw (vs := [(.int (62 : Int32)), (.int (61 : Int32))]) (z := (2 : Int32)) ⟨by decide, by decide⟩ (by decide) (by decide) (g := (mkF m 67 #[.val (.int i0), .val (.ref b1), .val (.ref oIN), .val (.ref sIN), .unset] [(.ref sIN)])) rfl (hb hby at_67) (n := 8) (by decide) (by decide) (by decide) (by decide)
    have cOld_52 : Old Z n0 h52 := cOld_50.ext E52
    have cArv_b1_52 : Arv Z h52 b1 k1 (.object "com/example/kolom/kolom/cql/Operator") (6 : Int32) [(.ref oEQ), (.ref oLT), (.ref oLTE), (.ref oGT), (.ref oGTE), (.ref oIN)] .null := cArv_b1_50.ext E52
    have cExa_c50_52 : Exa Z h52 c50 "java/lang/String" := cE50.ext E52
    have cFld_c50_coder_52 : Fld Z h52 c50 "java/lang/String" "coder" "B" (.int (0 : Int32)) := cC50.ext E52
    have cFld_c50_value_52 : Fld Z h52 c50 "java/lang/String" "value" "[B" (.ref cb50) := cV50.ext E52
    have cArv_cb50_52 : Arv Z h52 cb50 ck50 .byte (2 : Int32) [(.int (60 : Int32)), (.int (61 : Int32))] (.int (0 : Int32)) := cA50.ext E52
    have K52 : Keep h0 h52 [] := K50.ext E52
    refine ownW.go (T' := T52) (f' := (mkF m 69 #[.val (.int i0), .val (.ref b1), .val (.ref oIN), .val (.ref sIN), .unset] [(.ref c52), (.ref sIN)])) st52 ?_
    obtain ⟨cq53, kq53, q53a, q53b, q53c⟩ := isOf hZ e52 (zXIN.ext cOld_52.2)
    obtain ⟨_, _, ⟨T53, L53, k53, n53⟩, -, X53, ⟨Lc53, hQ53, l53, y53, z53⟩, st53⟩ := X52.virtualBack hx (y := (⟨"java/lang/String", "equals", "(Ljava/lang/Object;)Z"⟩ : MethodName)) (z := (⟨"java/lang/String", "equals", "(Ljava/lang/Object;)Z"⟩ : MethodName)) hown (mvT hZ (hw _ (List.mem_of_getElem? (i := 32) rfl))) (mvT hZ (hw _ (List.mem_of_getElem? (i := 33) rfl))) (notFace_of_selects (args := #[]) (mvT hZ (hw _ (List.mem_of_getElem? (i := 35) rfl)))) (mvT hZ (hw _ (List.mem_of_getElem? (i := 35) rfl))) (mvT hZ (hw _ (List.mem_of_getElem? (i := 34) rfl))) (by decide) (backOf (W := 0) (own_rm2d l Z a0 hw [] sIN c52 vIN cb52 kIN ck52 (73 : Int32) (78 : Int32) (62 : Int32) (61 : Int32) cs h52 n0 (Nat.le_trans Z0 K52.1) (zXIN.ext cOld_52.2) (zCIN.ext cOld_52.2) (zVIN.ext cOld_52.2) (zAIN.ext cOld_52.2) cE52 cC52 cV52 cA52 (zcs.ext cOld_52.2) hcsn (by decide) (own_strne (zVIN.ext cOld_52.2) (zAIN.ext cOld_52.2) cV52 cA52 (Or.inr ⟨by decide, by decide⟩))) hZ (hw _ (List.mem_of_getElem? (i := 36) rfl)) (hw _ (List.mem_of_getElem? (i := 25) rfl)) (by decide) (by decide)) q53a q53c (g := (mkF m 69 #[.val (.int i0), .val (.ref b1), .val (.ref oIN), .val (.ref sIN), .unset] [(.ref c52), (.ref sIN)])) rfl (by rw [hml]; rfl) (Steps.refl _) (argsL := [(.ref c52)]) (rest := []) (lenOf own_pd5 rfl) rfl (by show 2 * 0 + _ ≤ _; exact Nat.le_of_eq rfl) (hb hby at_69) (fun _ _ => ⟨rfl, e52, (by decide : 5 + 0 ≤ _), (by decide : 30 + 0 ≤ _)⟩)
    dsimp only [Pt.U, Pt.locs, Pt.cells, Pt.slots] at X53 l53 y53 z53 st53 hQ53
    subst l53 y53 z53
    obtain ⟨rfl, N53q, e53⟩ := hQ53
    have N53 := Fr.app N51 N53q
    refine ownW.goS (T' := T53) (f' := (mkF m 72 #[.val (.int i0), .val (.ref b1), .val (.ref oIN), .val (.ref sIN), .unset] [(.int (0 : Int32))])) st53 ?_
    refine ownW.go (T' := T53) (f' := (mkF m 79 #[.val (.int i0), .val (.ref b1), .val (.ref oIN), .val (.ref sIN), .unset] [])) (fun t kt => XS.ifYes (g := (mkF m 72 #[.val (.int i0), .val (.ref b1), .val (.ref oIN), .val (.ref sIN), .unset] [(.int (0 : Int32))])) X53.here hx rfl (pc0 := 72) (pc' := 79) rfl (hb hby at_72) rfl (Jvm.Free.XT.i0_eq_t (by decide)) (by decide) (by decide) kt) ?_
    refine ownW.go (T' := T53) (f' := (mkF m 83 #[.val (.int i0), .val (.ref b1), .val (.ref oIN), .val (.ref sIN), .val (.int (0 : Int32))] [(.ref oIN)])) (fun t kt => ?_) ?_
    · show Steps p.tables e below (T53.setTop (mkF m 79 #[.val (.int i0), .val (.ref b1), .val (.ref oIN), .val (.ref sIN), .unset] [])) _
      refine XS.iconst X53.here hx rfl (hb hby at_79) ?_
      show Steps p.tables e below (T53.setTop (mkF m 80 #[.val (.int i0), .val (.ref b1), .val (.ref oIN), .val (.ref sIN), .unset] [(.int (0 : Int32))])) _
      refine XS.istore X53.here hx rfl (hb hby at_80) rfl (l' := #[.val (.int i0), .val (.ref b1), .val (.ref oIN), .val (.ref sIN), .val (.int (0 : Int32))]) rfl ?_
      show Steps p.tables e below (T53.setTop (mkF m 82 #[.val (.int i0), .val (.ref b1), .val (.ref oIN), .val (.ref sIN), .val (.int (0 : Int32))] [])) _
      refine XS.aloadN X53.here hx rfl (hb hby at_82) rfl rfl ?_
      exact kt
    obtain ⟨cq54, kq54, q54a, q54b, q54c⟩ := isOf hZ e53 (zEIN.ext cOld_52.2)
    obtain ⟨_, _, ⟨T54, L54, k54, n54⟩, -, X54, ⟨Lc54, hQ54, l54, y54, z54⟩, st54⟩ := X53.virtualBack hx (y := (⟨"com/example/kolom/kolom/cql/Operator", "isInclusive", "()Z"⟩ : MethodName)) (z := (⟨"com/example/kolom/kolom/cql/Operator", "isInclusive", "()Z"⟩ : MethodName)) hown (mvT hZ (hw _ (List.mem_of_getElem? (i := 47) rfl))) (mvT hZ (hw _ (List.mem_of_getElem? (i := 48) rfl))) (notFace_of_selects (args := #[]) (mvT hZ (hw _ (List.mem_of_getElem? (i := 50) rfl)))) (mvT hZ (hw _ (List.mem_of_getElem? (i := 50) rfl))) (mvT hZ (hw _ (List.mem_of_getElem? (i := 49) rfl))) (by decide) (backOf (W := 0) (own_rm4z l Z a0 hw [] oIN oLTE oGTE h52 n0 (Nat.le_trans Z0 K52.1) (zSLTE.ext cOld_52.2) neIN_LTE (zSGTE.ext cOld_52.2) neIN_GTE) hZ (hw _ (List.mem_of_getElem? (i := 51) rfl)) (hw _ (List.mem_of_getElem? (i := 3) rfl)) (by decide) (by decide)) q54a q54c (g := (mkF m 83 #[.val (.int i0), .val (.ref b1), .val (.ref oIN), .val (.ref sIN), .val (.int (0 : Int32))] [(.ref oIN)])) rfl (by rw [hml]; rfl) (Steps.refl _) (argsL := []) (rest := []) (lenOf own_pd6 rfl) rfl (by show 2 * 0 + _ ≤ _; exact Nat.le_of_eq rfl) (hb hby at_83) (fun _ _ => ⟨rfl, e53, (by decide : 5 + 0 ≤ _), (by decide : 30 + 0 ≤ _)⟩)
    dsimp only [Pt.U, Pt.locs, Pt.cells, Pt.slots] at X54 l54 y54 z54 st54 hQ54
    subst l54 y54 z54
    obtain ⟨rfl, N54q, e54⟩ := hQ54
    have N54 := Fr.app N53 N54q
    refine ownW.goS (T' := T54) (f' := (mkF m 86 #[.val (.int i0), .val (.ref b1), .val (.ref oIN), .val (.ref sIN), .val (.int (0 : Int32))] [(.int (0 : Int32))])) st54 ?_
    refine ownW.go (T' := T54) (f' := (mkF m 88 #[.val (.int i0), .val (.ref b1), .val (.ref oIN), .val (.ref sIN), .val (.int (0 : Int32))] [(.int (0 : Int32)), (.int (0 : Int32))])) (fun t kt => ?_) ?_
    · show Steps p.tables e below (T54.setTop (mkF m 86 #[.val (.int i0), .val (.ref b1), .val (.ref oIN), .val (.ref sIN), .val (.int (0 : Int32))] [(.int (0 : Int32))])) _
      refine XS.iload X54.here hx rfl (hb hby at_86) rfl ?_
      exact kt
    refine ownW.go (T' := T54) (f' := (mkF m 91 #[.val (.int i0), .val (.ref b1), .val (.ref oIN), .val (.ref sIN), .val (.int (0 : Int32))] [])) (fun t kt => XS.icmpNo (g := (mkF m 88 #[.val (.int i0), .val (.ref b1), .val (.ref oIN), .val (.ref sIN), .val (.int (0 : Int32))] [(.int (0 : Int32)), (.int (0 : Int32))])) X54.here hx rfl (hb hby at_88) rfl (Jvm.Free.XT.ii_ne_f (by decide)) kt) ?_
    refine ownW.go (T' := T54) (f' := (mkF m 96 #[.val (.int i0), .val (.ref b1), .val (.ref oIN), .val (.ref sIN), .val (.int (0 : Int32))] [(.int (1 : Int32))])) (fun t kt => ?_) ?_
    · show Steps p.tables e below (T54.setTop (mkF m 91 #[.val (.int i0), .val (.ref b1), .val (.ref oIN), .val (.ref sIN), .val (.int (0 : Int32))] [])) _
      refine XS.iconst X54.here hx rfl (hb hby at_91) ?_
      show Steps p.tables e below (T54.setTop (mkF m 92 #[.val (.int i0), .val (.ref b1), .val (.ref oIN), .val (.ref sIN), .val (.int (0 : Int32))] [(.int (1 : Int32))])) _
      refine XS.goto X54.here hx rfl (pc0 := 92) (pc' := 96) rfl (hb hby at_92) (by decide) (by decide) ?_
      exact kt
    refine ownW.retN X54 hx hlk (t := .boolean) hret (by simp) (hb hby at_96) hS52 (by rw [show T54.heap = h52 from e54]; exact hk52) ?_ (by decide) (by decide)
    show own_Q0 Z i0 oEQ sEQ vEQ kEQ oLT sLT vLT kLT oLTE sLTE vLTE kLTE oGT sGT vGT kGT oGTE sGTE vGTE kGTE oIN sIN vIN kIN cs h0 n0 _ T54.heap _
    rw [e54]
    exact ⟨(by rw [own_f0, if_neg hk14_0, if_neg hk14_1, if_neg hk14_2, if_neg hk14_3, if_neg hk14_4] <;> first | rfl | decide), N54, K52⟩
theorem own_law (x c : Int32) : own_f0 x c = 1 := by
  unfold own_f0
  repeat' split
  all_goals rfl

set_option maxRecDepth 65536 in
set_option maxHeartbeats 40000000 in
theorem comes_1 {Post : Tables → Env → Array Value → State → Outcome → State → Prop} (hpost : ∀ tb e args s v u, (limb_1_1.after args s (.returned v) u = true ∧ limb_1_2.after args s (.returned v) u = true ∧ True) → ReturnedEndW s (.returned v) u (Jvm.fieldLocs frame_1_writes args s ++ Jvm.arrayLocs frame_1_arrays args s ++ Jvm.staticLocs frame_1_statics s) 16 2176 → Post tb e args s (.returned v) u) :
    ArmFor flags0 classFile x code maxLocals ret World_1 tables_1 room_1 Calls_1 rest_1 Pre_1 Post := by
  intro l hfl _ _ p e ha hc hk s m args below hf hA hF happ hP
  obtain ⟨hcalls, hrest, hpre⟩ := hP
  obtain ⟨-, -, -, hnamed, -, -, -, hat⟩ := (Spec.applies_iff hf).mp happ
  obtain ⟨hg, hn⟩ := and_e (Cond.before_iff.mp (show (Jvm.Cond.and given_1 narrow_1).before args s = true from hpre))
  obtain ⟨g1, g2⟩ := and_e hg
  obtain ⟨w0, rfl⟩ : ∃ w0 : Value, args = #[w0] := by
    have hs : args.size = 1 := by simpa [Cond.value, given_1] using g1
    obtain ⟨L⟩ := args
    match L, hs with
    | [w0], _ => exact ⟨w0, rfl⟩
  have hw := fun d (hd : d ∈ tables_1) => atoms_spec (ws := Jvm.Cond.code x code maxLocals ret :: tables_1) hat d (List.mem_cons_of_mem _ hd)
  have hfit : Fit s := fun {y c} hc i hi => by
    obtain ⟨ha, rfl⟩ := Array.getElem?_eq_some_iff.mp hc
    have q := List.all_eq_true.mp ((Array.all_eq_true_iff_forall_mem.mp hF) _ (Array.getElem_mem ha)) i (List.mem_range.mpr hi)
    simpa [Array.getElem?_eq_getElem hi] using q
  obtain ⟨hsets, hown0⟩ := atoms_of _ (rest_1_c_eq ▸ (show rest_1_c.before _ s = true from hrest))
  have hr0 := Cond.before_iff.mp hown0
  obtain ⟨i0, ei0⟩ := is_v g2
  obtain rfl : w0 = (.int i0) := Option.some.inj ei0
  obtain ⟨ics, ecs⟩ := is_v (Cond.before_iff.mp (hsets _ (List.mem_of_getElem? (i := 1) rfl)))
  have hcs := Sta.start ecs (Or.inl (hsets _ (List.mem_of_getElem? (i := 0) rfl)))
  have hcsn : ¬ ics = (0 : Int32) := gotF (own_eqV ecs) (not_v (Cond.before_iff.mp (hsets _ (List.mem_of_getElem? (i := 2) rfl))))
  obtain ⟨fmt, efm, hfm⟩ := isR_v (Cond.before_iff.mp (hsets _ (List.mem_of_getElem? (i := 8) rfl)))
  have hfs := Sta.start efm (Or.inl (hsets _ (List.mem_of_getElem? (i := 7) rfl)))
  obtain ⟨m0, r0⟩ := and_e hn
  obtain ⟨m1, r1⟩ := and_e r0
  obtain ⟨m2, r2⟩ := and_e r1
  obtain ⟨m3, r3⟩ := and_e r2
  obtain ⟨m4, r4⟩ := and_e r3
  obtain ⟨m5, r5⟩ := and_e r4
  obtain ⟨m6, r6⟩ := and_e r5
  obtain ⟨m7, r7⟩ := and_e r6
  obtain ⟨m8, r8⟩ := and_e r7
  obtain ⟨m9, r9⟩ := and_e r8
  obtain ⟨m10, r10⟩ := and_e r9
  obtain ⟨m11, r11⟩ := and_e r10
  obtain ⟨m12, r12⟩ := and_e r11
  obtain ⟨m13, r13⟩ := and_e r12
  obtain ⟨m14, r14⟩ := and_e r13
  obtain ⟨m15, r15⟩ := and_e r14
  obtain ⟨m16, r16⟩ := and_e r15
  obtain ⟨m17, r17⟩ := and_e r16
  obtain ⟨m18, r18⟩ := and_e r17
  obtain ⟨m19, r19⟩ := and_e r18
  obtain ⟨m20, r20⟩ := and_e r19
  obtain ⟨m21, r21⟩ := and_e r20
  obtain ⟨m22, r22⟩ := and_e r21
  obtain ⟨m23, r23⟩ := and_e r22
  obtain ⟨m24, r24⟩ := and_e r23
  obtain ⟨m25, r25⟩ := and_e r24
  obtain ⟨m26, r26⟩ := and_e r25
  obtain ⟨m27, r27⟩ := and_e r26
  obtain ⟨m28, r28⟩ := and_e r27
  obtain ⟨m29, r29⟩ := and_e r28
  obtain ⟨m30, r30⟩ := and_e r29
  obtain ⟨m31, r31⟩ := and_e r30
  obtain ⟨m32, r32⟩ := and_e r31
  obtain ⟨m33, r33⟩ := and_e r32
  obtain ⟨m34, r34⟩ := and_e r33
  obtain ⟨m35, r35⟩ := and_e r34
  obtain ⟨m36, r36⟩ := and_e r35
  obtain ⟨m37, r37⟩ := and_e r36
  obtain ⟨m38, r38⟩ := and_e r37
  obtain ⟨m39, r39⟩ := and_e r38
  obtain ⟨m40, r40⟩ := and_e r39
  obtain ⟨m41, r41⟩ := and_e r40
  obtain ⟨m42, r42⟩ := and_e r41
  obtain ⟨m43, r43⟩ := and_e r42
  obtain ⟨oEQ, eEQ⟩ := exa_v m0
  have zSEQ := Sta.start eEQ (Or.inr ⟨(hw _ (List.mem_of_getElem? (i := 3) rfl)), (hw _ (List.mem_of_getElem? (i := 4) rfl))⟩)
  have zEEQ := Exa.start eEQ m0
  have zOEQ := own_fldI eEQ m10
  obtain ⟨sEQ, esEQ, zFEQ, zXEQ⟩ := own_fldR eEQ m6
  have zCEQ := own_fldI esEQ m7
  obtain ⟨vEQ, cEQ, evEQ, zVEQ, zrEQ⟩ := own_fldA esEQ m8
  have zlEQ := own_len evEQ zrEQ m9
  have zbEQ_0 := own_elem evEQ zrEQ m41
  have zAEQ : Arv s s.heap vEQ cEQ.cls .byte (1 : Int32) [(.int (61 : Int32))] (.int (0 : Int32)) := Arv.start hfit zrEQ zlEQ.1 zlEQ.2 (by decide) (by decide) ⟨zbEQ_0, trivial⟩
  obtain ⟨oLT, eLT⟩ := exa_v m1
  have zSLT := Sta.start eLT (Or.inr ⟨(hw _ (List.mem_of_getElem? (i := 3) rfl)), (hw _ (List.mem_of_getElem? (i := 7) rfl))⟩)
  have zELT := Exa.start eLT m1
  have zOLT := own_fldI eLT m28
  obtain ⟨sLT, esLT, zFLT, zXLT⟩ := own_fldR eLT m24
  have zCLT := own_fldI esLT m25
  obtain ⟨vLT, cLT, evLT, zVLT, zrLT⟩ := own_fldA esLT m26
  have zlLT := own_len evLT zrLT m27
  have zbLT_0 := own_elem evLT zrLT m43
  have zALT : Arv s s.heap vLT cLT.cls .byte (1 : Int32) [(.int (60 : Int32))] (.int (0 : Int32)) := Arv.start hfit zrLT zlLT.1 zlLT.2 (by decide) (by decide) ⟨zbLT_0, trivial⟩
  obtain ⟨oLTE, eLTE⟩ := exa_v m2
  have zSLTE := Sta.start eLTE (Or.inr ⟨(hw _ (List.mem_of_getElem? (i := 3) rfl)), (hw _ (List.mem_of_getElem? (i := 9) rfl))⟩)
  have zELTE := Exa.start eLTE m2
  have zOLTE := own_fldI eLTE m11
  obtain ⟨sLTE, esLTE, zFLTE, zXLTE⟩ := own_fldR eLTE m18
  have zCLTE := own_fldI esLTE m19
  obtain ⟨vLTE, cLTE, evLTE, zVLTE, zrLTE⟩ := own_fldA esLTE m20
  have zlLTE := own_len evLTE zrLTE m21
  have zbLTE_0 := own_elem evLTE zrLTE m22
  have zbLTE_1 := own_elem evLTE zrLTE m23
  have zALTE : Arv s s.heap vLTE cLTE.cls .byte (2 : Int32) [(.int (60 : Int32)), (.int (61 : Int32))] (.int (0 : Int32)) := Arv.start hfit zrLTE zlLTE.1 zlLTE.2 (by decide) (by decide) ⟨zbLTE_0, zbLTE_1, trivial⟩
  obtain ⟨oGT, eGT⟩ := exa_v m3
  have zSGT := Sta.start eGT (Or.inr ⟨(hw _ (List.mem_of_getElem? (i := 3) rfl)), (hw _ (List.mem_of_getElem? (i := 11) rfl))⟩)
  have zEGT := Exa.start eGT m3
  have zOGT := own_fldI eGT m17
  obtain ⟨sGT, esGT, zFGT, zXGT⟩ := own_fldR eGT m13
  have zCGT := own_fldI esGT m14
  obtain ⟨vGT, cGT, evGT, zVGT, zrGT⟩ := own_fldA esGT m15
  have zlGT := own_len evGT zrGT m16
  have zbGT_0 := own_elem evGT zrGT m42
  have zAGT : Arv s s.heap vGT cGT.cls .byte (1 : Int32) [(.int (62 : Int32))] (.int (0 : Int32)) := Arv.start hfit zrGT zlGT.1 zlGT.2 (by decide) (by decide) ⟨zbGT_0, trivial⟩
  obtain ⟨oGTE, eGTE⟩ := exa_v m4
  have zSGTE := Sta.start eGTE (Or.inr ⟨(hw _ (List.mem_of_getElem? (i := 3) rfl)), (hw _ (List.mem_of_getElem? (i := 13) rfl))⟩)
  have zEGTE := Exa.start eGTE m4
  have zOGTE := own_fldI eGTE m12
  obtain ⟨sGTE, esGTE, zFGTE, zXGTE⟩ := own_fldR eGTE m35
  have zCGTE := own_fldI esGTE m36
  obtain ⟨vGTE, cGTE, evGTE, zVGTE, zrGTE⟩ := own_fldA esGTE m37
  have zlGTE := own_len evGTE zrGTE m38
  have zbGTE_0 := own_elem evGTE zrGTE m39
  have zbGTE_1 := own_elem evGTE zrGTE m40
  have zAGTE : Arv s s.heap vGTE cGTE.cls .byte (2 : Int32) [(.int (62 : Int32)), (.int (61 : Int32))] (.int (0 : Int32)) := Arv.start hfit zrGTE zlGTE.1 zlGTE.2 (by decide) (by decide) ⟨zbGTE_0, zbGTE_1, trivial⟩
  obtain ⟨oIN, eIN⟩ := exa_v m5
  have zSIN := Sta.start eIN (Or.inr ⟨(hw _ (List.mem_of_getElem? (i := 3) rfl)), (hw _ (List.mem_of_getElem? (i := 15) rfl))⟩)
  have zEIN := Exa.start eIN m5
  have zOIN := own_fldI eIN m34
  obtain ⟨sIN, esIN, zFIN, zXIN⟩ := own_fldR eIN m29
  have zCIN := own_fldI esIN m30
  obtain ⟨vIN, cIN, evIN, zVIN, zrIN⟩ := own_fldA esIN m31
  have zlIN := own_len evIN zrIN m32
  have zbIN_0 := own_elem evIN zrIN m33
  have zbIN_1 := own_elem evIN zrIN r43
  have zAIN : Arv s s.heap vIN cIN.cls .byte (2 : Int32) [(.int (73 : Int32)), (.int (78 : Int32))] (.int (0 : Int32)) := Arv.start hfit zrIN zlIN.1 zlIN.2 (by decide) (by decide) ⟨zbIN_0, zbIN_1, trivial⟩
  obtain ⟨n, o, h1, h2, h3, _, L, rfl, ⟨rfl, N, -⟩, hq⟩ := own_rm0 l s _ hw tables_1 i0 oEQ sEQ vEQ cEQ.cls oLT sLT vLT cLT.cls oLTE sLTE vLTE cLTE.cls oGT sGT vGT cGT.cls oGTE sGTE vGTE cGTE.cls oIN sIN vIN cIN.cls ics s.heap s.heap.size (Nat.le_refl _) (Old.start s) zSEQ zEEQ zFEQ zXEQ zCEQ zVEQ zAEQ zSLT zELT zFLT zXLT zCLT zVLT zALT zSLTE zELTE zFLTE zXLTE zCLTE zVLTE zALTE zSGT zEGT zFGT zXGT zCGT zVGT zAGT zSGTE zEGTE zFGTE zXGTE zCGTE zVGTE zAGTE zSIN zEIN zFIN zXIN zCIN zVIN zAIN hcs hcsn (Fld.ne zOEQ zOLTE (by decide)) (Fld.ne zOEQ zOGTE (by decide)) (Fld.ne zOLT zOLTE (by decide)) (Fld.ne zOLT zOGTE (by decide)) (Fld.ne zOLTE zOGTE (by decide)) (Fld.ne zOGT zOLTE (by decide)) (Fld.ne zOGT zOGTE (by decide)) (Fld.ne zOIN zOLTE (by decide)) (Fld.ne zOIN zOGTE (by decide)) rfl (hsets _ (List.mem_of_getElem? (i := 2) rfl)) (hcalls.1 ("com/example/kolom/kolom/cql/OperatorIsInclusivePinLaw", 33) (by simp [consts_1])) (hcalls.1 ("com/example/kolom/kolom/cql/OperatorIsInclusivePinLaw", 41) (by simp [consts_1])) p e ha hc hk s m _ below hf ((Spec.applies_iff_loose hf).mp happ).1 ⟨rfl, State.Warmed39.refl s, rfl, IB.start⟩ trivial
  refine ⟨n, _, h1, h2, h3, hpost _ _ _ _ _ _ ⟨Cond.after_iff.mpr rfl, Cond.after_iff.mpr (eq_i res_at (Term.int_eval (1)) (congrArg Value.int (own_law i0 ics))), trivial⟩ ⟨hq.1, hq.2.1, hq.2.2.1, (hq.2.2.2.sift fun y hy => Or.inr (N y hy)).mono (by decide) (by decide)⟩⟩
theorem main_1_1 : Claimed_1_1 := comes_1 fun _ _ _ _ _ _ h hF => ⟨h.1, hF⟩
theorem main_1_2 : Claimed_1_2 := comes_1 fun _ _ _ _ _ _ h hF => ⟨h.2.1, hF⟩
end Jvm.Pilot.@@N@@
namespace Jvm.Pilot.@@N@@
open Jvm Jvm.ClassFile Sem Op Lib Jvm.Free Jvm.Stand Jvm.Pilot.@@N@@.Jvm.D
/-! MADE BY PROGRAM (witnessworld.py) out of the Statement's table words and the real class files: 19 classes; the members and pool entries that the words name. The judged class is class 1, her method 1. -/
namespace start1
open Jvm.ClassFile
def u (s : String) : CpInfo := .utf8 (stringToUtf16 s)
/-- a pool by its gaps: so many unusable entries, then the entry; so many at the end -/
def gap : Nat → List CpInfo → List CpInfo
  | 0, r => r
  | n + 1, r => .unusable :: gap n r
def poolList (es : List (Nat × CpInfo)) (last : Nat) : List CpInfo := es.foldr (fun e r => gap e.1 (e.2 :: r)) (gap last [])
def pool (es : List (Nat × CpInfo)) (last : Nat) : Array CpInfo := ⟨poolList es last⟩
def fileOf (pool : Array CpInfo) (this : Nat) (attrs : Array Attribute := #[]) (ms : Array MethodInfo := #[]) (fl : Nat := 33) (sup : Nat := 0) (ifs : Array Nat := #[]) (fds : Array FieldInfo := #[]) : ClassFile where
  minorVersion := 0
  majorVersion := 65
  constantPool := pool
  accessFlags := fl
  thisClass := this
  superClass := sup
  interfaces := ifs
  fields := fds
  methods := ms
  attributes := attrs
def plain (name : String) (sup : Option ClassId) : Class where
  name := name
  kind := .ordinary
  loader := none
  accessFlags := 33
  super := sup
  interfaces := #[]
  cf := none
  fields := #[]
  methods := #[]
  instanceTypes := #[]
  staticTypes := #[]
  resolved := #[]
  callSites := []
  init := .initialized
  statics := none
  mirror := none

def pool0 : Array CpInfo := pool [(5, u "<init>"), (0, u "()V"), (1, .class_ 10), (1, u "java/lang/Object")] 113

def k0m0 : Method := { name := "<init>", desc := "()V", sig := { parameters := [], returnType := none }, accessFlags := 1, code := none }
/-- java/lang/Object -/
def k0 : Class := { plain "java/lang/Object" none with
  accessFlags := 33
  interfaces := #[]
  cf := some (fileOf pool0 8 #[] #[{ accessFlags := 1, nameIndex := 5, descriptorIndex := 6, attributes := #[] }] 33 0 #[] #[])
  fields := #[]
  methods := #[k0m0]
  instanceTypes := #[]
  staticTypes := #[]
  resolved := Array.replicate 124 none
  statics := none }

def pool1 : Array CpInfo := pool [(2, .class_ 4), (1, u "java/lang/Object"), (0, u "<init>"), (0, u "()V"), (0, .class_ 8), (0, u "com/example/kolom/kolom/cql/Operator"), (0, .fieldref 7 10), (0, .nameAndType 11 12), (0, u "EQ"), (0, u "Lcom/example/kolom/kolom/cql/Operator;"), (0, .fieldref 7 14), (0, .nameAndType 15 12), (0, u "LT"), (0, .fieldref 7 17), (0, .nameAndType 18 12), (0, u "LTE"), (0, .fieldref 7 20), (0, .nameAndType 21 12), (0, u "GT"), (0, .fieldref 7 23), (0, .nameAndType 24 12), (0, u "GTE"), (0, .fieldref 7 26), (0, .nameAndType 27 12), (0, u "IN"), (0, .integer 2147483647), (0, .methodref 7 30), (0, .nameAndType 31 32), (0, u "symbol"), (0, u "()Ljava/lang/String;"), (0, .string 34), (0, u "<="), (0, .methodref 36 37), (0, .class_ 38), (0, .nameAndType 39 40), (0, u "java/lang/String"), (0, u "equals"), (0, u "(Ljava/lang/Object;)Z"), (0, .string 42), (0, u ">="), (0, .methodref 7 44), (0, .nameAndType 45 46), (0, u "isInclusive"), (0, u "()Z"), (0, .class_ 48), (0, u "com/example/kolom/kolom/cql/OperatorIsInclusivePinLaw"), (2, u "law"), (0, u "(I)Z")] 5

def k1m0 : Method := { name := "<init>", desc := "()V", sig := { parameters := [], returnType := none }, accessFlags := 2, code := none }
def k1c1 : Code := { maxStack := 4, maxLocals := 5, code := code, exceptionTable := #[], attributes := #[] }
def k1m1 : Method := { name := "law", desc := "(I)Z", sig := { parameters := [.int], returnType := some .boolean }, accessFlags := 9, code := some k1c1 }
/-- com/example/kolom/kolom/cql/OperatorIsInclusivePinLaw -/
def k1 : Class := { plain "com/example/kolom/kolom/cql/OperatorIsInclusivePinLaw" (some 0) with
  accessFlags := 49
  interfaces := #[]
  cf := some (fileOf pool1 47 #[] #[{ accessFlags := 2, nameIndex := 5, descriptorIndex := 6, attributes := #[] }, { accessFlags := 9, nameIndex := 51, descriptorIndex := 52, attributes := #[] }] 49 2 #[] #[])
  fields := #[]
  methods := #[k1m0, k1m1]
  instanceTypes := #[]
  staticTypes := #[]
  resolved := Array.replicate 58 none
  statics := none }

def pool2 : Array CpInfo := pool [(1, .class_ 2), (0, u "java/lang/constant/Constable"), (0, .class_ 4), (0, u "java/lang/Object")] 6

/-- java/lang/constant/Constable -/
def k2 : Class := { plain "java/lang/constant/Constable" (some 0) with
  accessFlags := 1537
  interfaces := #[]
  cf := some (fileOf pool2 1 #[] #[] 1537 3 #[] #[])
  fields := #[]
  methods := #[]
  instanceTypes := #[]
  staticTypes := #[]
  resolved := Array.replicate 11 none
  statics := none }

def pool3 : Array CpInfo := pool [(1, .class_ 2), (0, u "java/lang/Comparable"), (0, .class_ 4), (0, u "java/lang/Object")] 7

/-- java/lang/Comparable -/
def k3 : Class := { plain "java/lang/Comparable" (some 0) with
  accessFlags := 1537
  interfaces := #[]
  cf := some (fileOf pool3 1 #[] #[] 1537 3 #[] #[])
  fields := #[]
  methods := #[]
  instanceTypes := #[]
  staticTypes := #[]
  resolved := Array.replicate 12 none
  statics := none }

def pool4 : Array CpInfo := pool [(1, .class_ 2), (0, u "java/io/Serializable"), (0, .class_ 4), (0, u "java/lang/Object")] 2

/-- java/io/Serializable -/
def k4 : Class := { plain "java/io/Serializable" (some 0) with
  accessFlags := 1537
  interfaces := #[]
  cf := some (fileOf pool4 1 #[] #[] 1537 3 #[] #[])
  fields := #[]
  methods := #[]
  instanceTypes := #[]
  staticTypes := #[]
  resolved := Array.replicate 7 none
  statics := none }

def pool5 : Array CpInfo := pool [(2, .class_ 4), (1, u "java/lang/Enum"), (0, u "name"), (0, u "Ljava/lang/String;"), (2, u "ordinal"), (0, u "I"), (1, .class_ 14), (1, u "java/lang/Object"), (4, u "hash"), (86, .class_ 108), (1, u "java/lang/Enum$EnumDesc"), (2, .class_ 112), (0, u "java/lang/constant/Constable"), (0, .class_ 114), (0, u "java/lang/Comparable"), (0, .class_ 116), (0, u "java/io/Serializable")] 87

/-- java/lang/Enum -/
def k5 : Class := { plain "java/lang/Enum" (some 0) with
  accessFlags := 1057
  interfaces := #[2, 3, 4]
  cf := some (fileOf pool5 2 #[.nestMembers #[106]] #[] 1057 12 #[111, 113, 115] #[{ accessFlags := 18, nameIndex := 5, descriptorIndex := 6, attributes := #[] }, { accessFlags := 18, nameIndex := 9, descriptorIndex := 10, attributes := #[] }, { accessFlags := 2, nameIndex := 19, descriptorIndex := 10, attributes := #[] }])
  fields := #[{ name := "name", type := (.object "java/lang/String"), accessFlags := 18, slot := 0, constantValue := 0 }, { name := "ordinal", type := .int, accessFlags := 18, slot := 1, constantValue := 0 }, { name := "hash", type := .int, accessFlags := 2, slot := 2, constantValue := 0 }]
  methods := #[]
  instanceTypes := #[(.object "java/lang/String"), .int, .int]
  staticTypes := #[]
  resolved := Array.replicate 204 none
  statics := none }

def pool6 : Array CpInfo := pool [(1, .class_ 2), (0, u "com/example/kolom/kolom/cql/Operator"), (2, u "EQ"), (0, u "Lcom/example/kolom/kolom/cql/Operator;"), (2, u "LT"), (0, .fieldref 1 11), (0, .nameAndType 12 6), (0, u "LTE"), (2, u "GT"), (0, .fieldref 1 17), (0, .nameAndType 18 6), (0, u "GTE"), (2, u "IN"), (2, u "$VALUES"), (0, u "[Lcom/example/kolom/kolom/cql/Operator;"), (6, .class_ 34), (1, u "java/lang/Enum"), (6, .fieldref 1 42), (0, .nameAndType 43 44), (0, u "symbol"), (0, u "Ljava/lang/String;"), (59, u "()Ljava/lang/String;"), (3, u "()Z"), (1, u "isInclusive")] 8

def k6c0 : Code := { maxStack := 1, maxLocals := 1, code := prog_9_method_4_code, exceptionTable := #[], attributes := #[] }
def k6m0 : Method := { name := "symbol", desc := "()Ljava/lang/String;", sig := { parameters := [], returnType := some (.object "java/lang/String") }, accessFlags := 0, code := some k6c0 }
def k6c1 : Code := { maxStack := 2, maxLocals := 1, code := prog_9_method_8_code, exceptionTable := #[], attributes := #[] }
def k6m1 : Method := { name := "isInclusive", desc := "()Z", sig := { parameters := [], returnType := some .boolean }, accessFlags := 0, code := some k6c1 }
/-- com/example/kolom/kolom/cql/Operator -/
def k6 : Class := { plain "com/example/kolom/kolom/cql/Operator" (some 5) with
  accessFlags := 16432
  interfaces := #[]
  cf := some (fileOf pool6 1 #[] #[{ accessFlags := 0, nameIndex := 43, descriptorIndex := 104, attributes := #[] }, { accessFlags := 0, nameIndex := 110, descriptorIndex := 108, attributes := #[] }] 16432 32 #[] #[{ accessFlags := 16409, nameIndex := 5, descriptorIndex := 6, attributes := #[] }, { accessFlags := 16409, nameIndex := 9, descriptorIndex := 6, attributes := #[] }, { accessFlags := 16409, nameIndex := 12, descriptorIndex := 6, attributes := #[] }, { accessFlags := 16409, nameIndex := 15, descriptorIndex := 6, attributes := #[] }, { accessFlags := 16409, nameIndex := 18, descriptorIndex := 6, attributes := #[] }, { accessFlags := 16409, nameIndex := 21, descriptorIndex := 6, attributes := #[] }, { accessFlags := 18, nameIndex := 43, descriptorIndex := 44, attributes := #[] }, { accessFlags := 4122, nameIndex := 24, descriptorIndex := 25, attributes := #[] }])
  fields := #[{ name := "EQ", type := (.object "com/example/kolom/kolom/cql/Operator"), accessFlags := 16409, slot := 0, constantValue := 0 }, { name := "LT", type := (.object "com/example/kolom/kolom/cql/Operator"), accessFlags := 16409, slot := 1, constantValue := 0 }, { name := "LTE", type := (.object "com/example/kolom/kolom/cql/Operator"), accessFlags := 16409, slot := 2, constantValue := 0 }, { name := "GT", type := (.object "com/example/kolom/kolom/cql/Operator"), accessFlags := 16409, slot := 3, constantValue := 0 }, { name := "GTE", type := (.object "com/example/kolom/kolom/cql/Operator"), accessFlags := 16409, slot := 4, constantValue := 0 }, { name := "IN", type := (.object "com/example/kolom/kolom/cql/Operator"), accessFlags := 16409, slot := 5, constantValue := 0 }, { name := "symbol", type := (.object "java/lang/String"), accessFlags := 18, slot := 3, constantValue := 0 }, { name := "$VALUES", type := (.array (.object "com/example/kolom/kolom/cql/Operator")), accessFlags := 4122, slot := 6, constantValue := 0 }]
  methods := #[k6m0, k6m1]
  instanceTypes := #[(.object "java/lang/String"), .int, .int, (.object "java/lang/String")]
  staticTypes := #[(.object "com/example/kolom/kolom/cql/Operator"), (.object "com/example/kolom/kolom/cql/Operator"), (.object "com/example/kolom/kolom/cql/Operator"), (.object "com/example/kolom/kolom/cql/Operator"), (.object "com/example/kolom/kolom/cql/Operator"), (.object "com/example/kolom/kolom/cql/Operator"), (.array (.object "com/example/kolom/kolom/cql/Operator"))]
  resolved := Array.replicate 119 none
  statics := some 0 }

def pool7 : Array CpInfo := pool [(2, .class_ 4), (1, u "java/lang/CharSequence"), (42, .class_ 48), (0, u "java/lang/CharSequence$1CodePointIterator"), (10, .class_ 60), (0, u "java/lang/CharSequence$1CharIterator"), (5, .class_ 67), (0, u "java/lang/Object")] 63

/-- java/lang/CharSequence -/
def k7 : Class := { plain "java/lang/CharSequence" (some 0) with
  accessFlags := 1537
  interfaces := #[]
  cf := some (fileOf pool7 2 #[.nestMembers #[47, 59]] #[] 1537 66 #[] #[])
  fields := #[]
  methods := #[]
  instanceTypes := #[]
  staticTypes := #[]
  resolved := Array.replicate 131 none
  statics := none }

def pool8 : Array CpInfo := pool [(1, .class_ 2), (0, u "java/lang/constant/ConstantDesc"), (0, .class_ 4), (0, u "java/lang/Object")] 32

/-- java/lang/constant/ConstantDesc -/
def k8 : Class := { plain "java/lang/constant/ConstantDesc" (some 0) with
  accessFlags := 1537
  interfaces := #[]
  cf := some (fileOf pool8 1 #[] #[] 1537 3 #[] #[])
  fields := #[]
  methods := #[]
  instanceTypes := #[]
  staticTypes := #[]
  resolved := Array.replicate 37 none
  statics := none }

def pool9 : Array CpInfo := pool [(2, .class_ 4), (1, u "java/lang/Object"), (0, u "<init>"), (0, u "()V"), (2, .fieldref 10 11), (0, .class_ 12), (0, .nameAndType 13 14), (0, u "java/lang/String"), (0, u "value"), (0, u "[B"), (0, .fieldref 10 16), (0, .nameAndType 17 18), (0, u "coder"), (0, u "B"), (2, u "hash"), (0, u "I"), (2, u "hashIsZero"), (0, u "Z"), (11, .fieldref 10 39), (0, .nameAndType 40 26), (0, u "COMPACT_STRINGS"), (66, .class_ 109), (1, u "java/lang/StringLatin1"), (431, .methodref 107 542), (0, .nameAndType 543 544), (0, u "equals"), (0, u "([B[B)Z"), (28, u "(Ljava/lang/Object;)Z"), (1, .class_ 576), (0, u "java/lang/CharSequence"), (22, u "CASE_INSENSITIVE_ORDER"), (0, u "Ljava/util/Comparator;"), (500, u "serialPersistentFields"), (0, u "[Ljava/io/ObjectStreamField;"), (0, .class_ 1104), (0, u "java/lang/String$CaseInsensitiveComparator"), (1, .class_ 1107), (0, u "java/io/Serializable"), (0, .class_ 1109), (0, u "java/lang/Comparable"), (0, .class_ 1111), (0, u "java/lang/constant/Constable"), (0, .class_ 1113), (0, u "java/lang/constant/ConstantDesc"), (2, u "serialVersionUID"), (0, u "J"), (3, u "REPL"), (0, u "C"), (2, u "LATIN1"), (1, u "UTF16")] 323

def k9m0 : Method := { name := "<init>", desc := "()V", sig := { parameters := [], returnType := none }, accessFlags := 1, code := none }
def k9c1 : Code := { maxStack := 2, maxLocals := 3, code := jdk_42_method_66_code, exceptionTable := #[], attributes := #[] }
def k9m1 : Method := { name := "equals", desc := "(Ljava/lang/Object;)Z", sig := { parameters := [(.object "java/lang/Object")], returnType := some .boolean }, accessFlags := 1, code := some k9c1 }
/-- java/lang/String -/
def k9 : Class := { plain "java/lang/String" (some 0) with
  accessFlags := 49
  interfaces := #[4, 3, 7, 2, 8]
  cf := some (fileOf pool9 10 #[.nestMembers #[1103]] #[{ accessFlags := 1, nameIndex := 5, descriptorIndex := 6, attributes := #[] }, { accessFlags := 1, nameIndex := 543, descriptorIndex := 573, attributes := #[] }] 49 2 #[1106, 1108, 575, 1110, 1112] #[{ accessFlags := 18, nameIndex := 13, descriptorIndex := 14, attributes := #[] }, { accessFlags := 18, nameIndex := 17, descriptorIndex := 18, attributes := #[] }, { accessFlags := 2, nameIndex := 21, descriptorIndex := 22, attributes := #[] }, { accessFlags := 2, nameIndex := 25, descriptorIndex := 26, attributes := #[] }, { accessFlags := 26, nameIndex := 1116, descriptorIndex := 1117, attributes := #[] }, { accessFlags := 24, nameIndex := 40, descriptorIndex := 26, attributes := #[] }, { accessFlags := 26, nameIndex := 1101, descriptorIndex := 1102, attributes := #[] }, { accessFlags := 26, nameIndex := 1121, descriptorIndex := 1122, attributes := #[] }, { accessFlags := 25, nameIndex := 599, descriptorIndex := 600, attributes := #[] }, { accessFlags := 24, nameIndex := 1125, descriptorIndex := 18, attributes := #[] }, { accessFlags := 24, nameIndex := 1127, descriptorIndex := 18, attributes := #[] }])
  fields := #[{ name := "value", type := (.array .byte), accessFlags := 18, slot := 0, constantValue := 0 }, { name := "coder", type := .byte, accessFlags := 18, slot := 1, constantValue := 0 }, { name := "hash", type := .int, accessFlags := 2, slot := 2, constantValue := 0 }, { name := "hashIsZero", type := .boolean, accessFlags := 2, slot := 3, constantValue := 0 }, { name := "serialVersionUID", type := .long, accessFlags := 26, slot := 0, constantValue := 0 }, { name := "COMPACT_STRINGS", type := .boolean, accessFlags := 24, slot := 1, constantValue := 0 }, { name := "serialPersistentFields", type := (.array (.object "java/io/ObjectStreamField")), accessFlags := 26, slot := 2, constantValue := 0 }, { name := "REPL", type := .char, accessFlags := 26, slot := 3, constantValue := 0 }, { name := "CASE_INSENSITIVE_ORDER", type := (.object "java/util/Comparator"), accessFlags := 25, slot := 4, constantValue := 0 }, { name := "LATIN1", type := .byte, accessFlags := 24, slot := 5, constantValue := 0 }, { name := "UTF16", type := .byte, accessFlags := 24, slot := 6, constantValue := 0 }]
  methods := #[k9m0, k9m1]
  instanceTypes := #[(.array .byte), .byte, .int, .boolean]
  staticTypes := #[.long, .boolean, (.array (.object "java/io/ObjectStreamField")), .char, (.object "java/util/Comparator"), .byte, .byte]
  resolved := Array.replicate 1451 none
  statics := some 1 }

def pool10 : Array CpInfo := pool [(4, .class_ 6), (1, u "java/lang/Object"), (0, u "<init>"), (0, u "()V"), (5, .class_ 16), (1, u "java/lang/StringLatin1"), (104, u "$assertionsDisabled"), (0, u "Z"), (98, .class_ 223), (1, u "java/lang/StringLatin1$LinesSpliterator"), (57, u "equals"), (0, u "([B[B)Z"), (107, .class_ 391), (0, u "java/lang/StringLatin1$CharsSpliterator")] 3

def k10m0 : Method := { name := "<init>", desc := "()V", sig := { parameters := [], returnType := none }, accessFlags := 0, code := none }
def k10c1 : Code := { maxStack := 3, maxLocals := 3, code := jdk_43_method_13_code, exceptionTable := #[], attributes := #[] }
def k10m1 : Method := { name := "equals", desc := "([B[B)Z", sig := { parameters := [(.array .byte), (.array .byte)], returnType := some .boolean }, accessFlags := 9, code := some k10c1 }
/-- java/lang/StringLatin1 -/
def k10 : Class := { plain "java/lang/StringLatin1" (some 0) with
  accessFlags := 48
  interfaces := #[]
  cf := some (fileOf pool10 14 #[.nestMembers #[390, 221]] #[{ accessFlags := 0, nameIndex := 7, descriptorIndex := 8, attributes := #[] }, { accessFlags := 9, nameIndex := 281, descriptorIndex := 282, attributes := #[] }] 48 4 #[] #[{ accessFlags := 4120, nameIndex := 121, descriptorIndex := 122, attributes := #[] }])
  fields := #[{ name := "$assertionsDisabled", type := .boolean, accessFlags := 4120, slot := 0, constantValue := 0 }]
  methods := #[k10m0, k10m1]
  instanceTypes := #[]
  staticTypes := #[.boolean]
  resolved := Array.replicate 395 none
  statics := none }

def pool11 : Array CpInfo := pool [(2, .class_ 4), (1, u "java/lang/Object"), (0, u "<init>"), (0, u "()V"), (17, .class_ 26), (1, u "jdk/internal/util/Preconditions"), (28, .class_ 56), (0, u "jdk/internal/util/Preconditions$4"), (57, .class_ 115), (0, u "jdk/internal/util/Preconditions$1"), (7, u "SIOOBE_FORMATTER"), (0, u "Ljava/util/function/BiFunction;"), (0, .class_ 126), (0, u "jdk/internal/util/Preconditions$2"), (3, u "AIOOBE_FORMATTER"), (0, .class_ 132), (0, u "jdk/internal/util/Preconditions$3"), (3, u "IOOBE_FORMATTER")] 57

def k11m0 : Method := { name := "<init>", desc := "()V", sig := { parameters := [], returnType := none }, accessFlags := 1, code := none }
/-- jdk/internal/util/Preconditions -/
def k11 : Class := { plain "jdk/internal/util/Preconditions" (some 0) with
  accessFlags := 33
  interfaces := #[]
  cf := some (fileOf pool11 24 #[.nestMembers #[55, 131, 125, 114]] #[{ accessFlags := 1, nameIndex := 5, descriptorIndex := 6, attributes := #[] }] 33 2 #[] #[{ accessFlags := 25, nameIndex := 123, descriptorIndex := 124, attributes := #[] }, { accessFlags := 25, nameIndex := 130, descriptorIndex := 124, attributes := #[] }, { accessFlags := 25, nameIndex := 136, descriptorIndex := 124, attributes := #[] }])
  fields := #[{ name := "SIOOBE_FORMATTER", type := (.object "java/util/function/BiFunction"), accessFlags := 25, slot := 0, constantValue := 0 }, { name := "AIOOBE_FORMATTER", type := (.object "java/util/function/BiFunction"), accessFlags := 25, slot := 1, constantValue := 0 }, { name := "IOOBE_FORMATTER", type := (.object "java/util/function/BiFunction"), accessFlags := 25, slot := 2, constantValue := 0 }]
  methods := #[k11m0]
  instanceTypes := #[]
  staticTypes := #[(.object "java/util/function/BiFunction"), (.object "java/util/function/BiFunction"), (.object "java/util/function/BiFunction")]
  resolved := Array.replicate 194 none
  statics := some 2 }

def pool12 : Array CpInfo := pool [(9, u "<init>"), (6, .class_ 18), (1, u "java/lang/Object"), (0, u "()V"), (1, .class_ 23), (1, u "jdk/internal/util/ArraysSupport"), (0, u "LOG2_ARRAY_LONG_INDEX_SCALE"), (0, u "I"), (2, u "U"), (0, u "Ljdk/internal/misc/Unsafe;"), (8, u "BIG_ENDIAN"), (0, u "Z"), (8, u "LOG2_BYTE_BIT_SIZE"), (4, u "LOG2_ARRAY_INT_INDEX_SCALE"), (54, u "JLA"), (0, u "Ljdk/internal/access/JavaLangAccess;"), (11, u "LOG2_ARRAY_BOOLEAN_INDEX_SCALE"), (9, u "LOG2_ARRAY_BYTE_INDEX_SCALE"), (5, u "LOG2_ARRAY_CHAR_INDEX_SCALE"), (5, u "LOG2_ARRAY_SHORT_INDEX_SCALE"), (18, u "LOG2_ARRAY_FLOAT_INDEX_SCALE"), (24, u "LOG2_ARRAY_DOUBLE_INDEX_SCALE"), (89, u "T_BOOLEAN"), (2, u "T_CHAR"), (1, u "T_FLOAT"), (1, u "T_DOUBLE"), (1, u "T_BYTE"), (1, u "T_SHORT"), (1, u "T_INT"), (1, u "T_LONG"), (1, u "SOFT_MAX_ARRAY_LENGTH")] 83

def k12m0 : Method := { name := "<init>", desc := "()V", sig := { parameters := [], returnType := none }, accessFlags := 2, code := none }
/-- jdk/internal/util/ArraysSupport -/
def k12 : Class := { plain "jdk/internal/util/ArraysSupport" (some 0) with
  accessFlags := 33
  interfaces := #[]
  cf := some (fileOf pool12 21 #[] #[{ accessFlags := 2, nameIndex := 9, descriptorIndex := 19, attributes := #[] }] 33 16 #[] #[{ accessFlags := 24, nameIndex := 28, descriptorIndex := 29, attributes := #[] }, { accessFlags := 26, nameIndex := 38, descriptorIndex := 39, attributes := #[] }, { accessFlags := 25, nameIndex := 121, descriptorIndex := 25, attributes := #[] }, { accessFlags := 25, nameIndex := 131, descriptorIndex := 25, attributes := #[] }, { accessFlags := 25, nameIndex := 137, descriptorIndex := 25, attributes := #[] }, { accessFlags := 25, nameIndex := 143, descriptorIndex := 25, attributes := #[] }, { accessFlags := 25, nameIndex := 53, descriptorIndex := 25, attributes := #[] }, { accessFlags := 25, nameIndex := 24, descriptorIndex := 25, attributes := #[] }, { accessFlags := 25, nameIndex := 162, descriptorIndex := 25, attributes := #[] }, { accessFlags := 25, nameIndex := 187, descriptorIndex := 25, attributes := #[] }, { accessFlags := 26, nameIndex := 48, descriptorIndex := 25, attributes := #[] }, { accessFlags := 25, nameIndex := 277, descriptorIndex := 25, attributes := #[] }, { accessFlags := 25, nameIndex := 280, descriptorIndex := 25, attributes := #[] }, { accessFlags := 25, nameIndex := 282, descriptorIndex := 25, attributes := #[] }, { accessFlags := 25, nameIndex := 284, descriptorIndex := 25, attributes := #[] }, { accessFlags := 25, nameIndex := 286, descriptorIndex := 25, attributes := #[] }, { accessFlags := 25, nameIndex := 288, descriptorIndex := 25, attributes := #[] }, { accessFlags := 25, nameIndex := 290, descriptorIndex := 25, attributes := #[] }, { accessFlags := 25, nameIndex := 292, descriptorIndex := 25, attributes := #[] }, { accessFlags := 26, nameIndex := 108, descriptorIndex := 109, attributes := #[] }, { accessFlags := 25, nameIndex := 294, descriptorIndex := 25, attributes := #[] }])
  fields := #[{ name := "U", type := (.object "jdk/internal/misc/Unsafe"), accessFlags := 24, slot := 0, constantValue := 0 }, { name := "BIG_ENDIAN", type := .boolean, accessFlags := 26, slot := 1, constantValue := 0 }, { name := "LOG2_ARRAY_BOOLEAN_INDEX_SCALE", type := .int, accessFlags := 25, slot := 2, constantValue := 0 }, { name := "LOG2_ARRAY_BYTE_INDEX_SCALE", type := .int, accessFlags := 25, slot := 3, constantValue := 0 }, { name := "LOG2_ARRAY_CHAR_INDEX_SCALE", type := .int, accessFlags := 25, slot := 4, constantValue := 0 }, { name := "LOG2_ARRAY_SHORT_INDEX_SCALE", type := .int, accessFlags := 25, slot := 5, constantValue := 0 }, { name := "LOG2_ARRAY_INT_INDEX_SCALE", type := .int, accessFlags := 25, slot := 6, constantValue := 0 }, { name := "LOG2_ARRAY_LONG_INDEX_SCALE", type := .int, accessFlags := 25, slot := 7, constantValue := 0 }, { name := "LOG2_ARRAY_FLOAT_INDEX_SCALE", type := .int, accessFlags := 25, slot := 8, constantValue := 0 }, { name := "LOG2_ARRAY_DOUBLE_INDEX_SCALE", type := .int, accessFlags := 25, slot := 9, constantValue := 0 }, { name := "LOG2_BYTE_BIT_SIZE", type := .int, accessFlags := 26, slot := 10, constantValue := 0 }, { name := "T_BOOLEAN", type := .int, accessFlags := 25, slot := 11, constantValue := 0 }, { name := "T_CHAR", type := .int, accessFlags := 25, slot := 12, constantValue := 0 }, { name := "T_FLOAT", type := .int, accessFlags := 25, slot := 13, constantValue := 0 }, { name := "T_DOUBLE", type := .int, accessFlags := 25, slot := 14, constantValue := 0 }, { name := "T_BYTE", type := .int, accessFlags := 25, slot := 15, constantValue := 0 }, { name := "T_SHORT", type := .int, accessFlags := 25, slot := 16, constantValue := 0 }, { name := "T_INT", type := .int, accessFlags := 25, slot := 17, constantValue := 0 }, { name := "T_LONG", type := .int, accessFlags := 25, slot := 18, constantValue := 0 }, { name := "JLA", type := (.object "jdk/internal/access/JavaLangAccess"), accessFlags := 26, slot := 19, constantValue := 0 }, { name := "SOFT_MAX_ARRAY_LENGTH", type := .int, accessFlags := 25, slot := 20, constantValue := 0 }]
  methods := #[k12m0]
  instanceTypes := #[]
  staticTypes := #[(.object "jdk/internal/misc/Unsafe"), .boolean, .int, .int, .int, .int, .int, .int, .int, .int, .int, .int, .int, .int, .int, .int, .int, .int, .int, (.object "jdk/internal/access/JavaLangAccess"), .int]
  resolved := Array.replicate 378 none
  statics := none }

def pool13 : Array CpInfo := pool [(1, u "java/lang/Cloneable"), (0, .class_ 1), (0, u "java/lang/Object"), (0, .class_ 3)] 3

/-- java/lang/Cloneable -/
def k13 : Class := { plain "java/lang/Cloneable" (some 0) with
  accessFlags := 1537
  interfaces := #[]
  cf := some (fileOf pool13 2 #[] #[] 1537 4 #[] #[])
  fields := #[]
  methods := #[]
  instanceTypes := #[]
  staticTypes := #[]
  resolved := Array.replicate 8 none
  statics := none }

/-- the primitive byte -/
def k14 : Class := { plain "byte" none with kind := .primitive 'B', accessFlags := 0x411 }
/-- [B -/
def k15 : Class := { plain "[B" (some 0) with kind := .array 14 .byte, interfaces := #[13, 4], accessFlags := 1041 }

/-- the primitive int -/
def k16 : Class := { plain "int" none with kind := .primitive 'I', accessFlags := 0x411 }
/-- [I -/
def k17 : Class := { plain "[I" (some 0) with kind := .array 16 .int, interfaces := #[13, 4], accessFlags := 1041 }

/-- [Lcom/example/kolom/kolom/cql/Operator; -/
def k18 : Class := { plain "[Lcom/example/kolom/kolom/cql/Operator;" (some 0) with kind := .array 6 (.object "com/example/kolom/kolom/cql/Operator"), interfaces := #[13, 4], accessFlags := 1041 }

def heap : Heap := #[{ cls := 6, slots := #[.ref 5, .ref 8, .ref 11, .ref 14, .ref 17, .ref 20, .null], vm := .statics 6 },
  { cls := 9, slots := #[.long 0, .int 1, .null, .int 0, .null, .int 0, .int 0], vm := .statics 9 },
  { cls := 11, slots := #[.null, .null, .null], vm := .statics 11 },
  { cls := 15, slots := #[.int 61], vm := .none },
  { cls := 9, slots := #[.ref 3, .int 0, .int 0, .int 0], vm := .none },
  { cls := 6, slots := #[.null, .int 0, .int 0, .ref 4], vm := .none },
  { cls := 15, slots := #[.int 60], vm := .none },
  { cls := 9, slots := #[.ref 6, .int 0, .int 0, .int 0], vm := .none },
  { cls := 6, slots := #[.null, .int 1, .int 0, .ref 7], vm := .none },
  { cls := 15, slots := #[.int 60, .int 61], vm := .none },
  { cls := 9, slots := #[.ref 9, .int 0, .int 0, .int 0], vm := .none },
  { cls := 6, slots := #[.null, .int 2, .int 0, .ref 10], vm := .none },
  { cls := 15, slots := #[.int 62], vm := .none },
  { cls := 9, slots := #[.ref 12, .int 0, .int 0, .int 0], vm := .none },
  { cls := 6, slots := #[.null, .int 3, .int 0, .ref 13], vm := .none },
  { cls := 15, slots := #[.int 62, .int 61], vm := .none },
  { cls := 9, slots := #[.ref 15, .int 0, .int 0, .int 0], vm := .none },
  { cls := 6, slots := #[.null, .int 4, .int 0, .ref 16], vm := .none },
  { cls := 15, slots := #[.int 73, .int 78], vm := .none },
  { cls := 9, slots := #[.ref 18, .int 0, .int 0, .int 0], vm := .none },
  { cls := 6, slots := #[.null, .int 5, .int 0, .ref 19], vm := .none }]
def classes : Array Class := #[k0, k1, k2, k3, k4, k5, k6, k7, k8, k9, k10, k11, k12, k13, k14, k15, k16, k17, k18]
def interned : List (Array UInt16 × Addr) := []
def slotsUsed : Nat := 74
def theMethod : MethodId := ⟨1, 1⟩
def args0 : Array Value := #[.int 5]
def aboutOver (below : List Frame) : State where
  vm := { classes := classes, interned := interned.toArray }
  heap := heap
  slotsUsed := slotsUsed
  threads := #[{ frames := .invoking theMethod args0 :: below }]
def below0 : List Frame := [.native { method := ⟨0, 0⟩, args := #[] }]
def about1 : State := aboutOver below0
def p0 : Program := .bare "" "" ""
def e0 : Env := launch0.env 0 0 0
theorem w_frames : about1.frames = Frame.invoking theMethod args0 :: below0 := rfl
set_option maxRecDepth 65536 in
theorem w_args : argsFit about1.vm theMethod args0 = true := by decide +kernel
set_option maxRecDepth 65536 in
theorem w_heap : heapFits about1 = true := by decide +kernel
set_option maxRecDepth 65536 in
theorem w_runnable : about1.curStatus? = some .runnable := by decide +kernel
set_option maxRecDepth 65536 in
theorem w_alone : about1.alone = true := by decide +kernel
set_option maxRecDepth 65536 in
theorem w_named : about1.methodNamed? x = some theMethod := by decide +kernel
set_option maxRecDepth 65536 in
theorem w_hears : about1.hears theMethod below0 = true := by decide +kernel
set_option maxRecDepth 65536 in
theorem w_ripe : about1.ripe theMethod args0 below0 = true := by decide +kernel
theorem w_running : about1.status = .running := rfl
set_option maxRecDepth 65536 in
theorem w_room : about1.hasRoom e0.platform room_1 = true :=
  launch0.hasRoom_least _ room_1 (by decide +kernel) (by decide +kernel) (by decide +kernel) (by decide +kernel) (by decide +kernel) (by decide +kernel)
theorem allAtoms_all (ts : List Jvm.Cond) (a : Array Jvm.Value) (st : Jvm.State) : (allAtoms ts).before a st = ts.all (fun c => c.before a st) := by
  induction ts with
  | nil => rfl
  | cons c t ih =>
    show (Jvm.Cond.and c (allAtoms t)).before a st = _
    rw [Jvm.Cond.before_and, ih, List.all_cons]
def words1 : List Jvm.Cond := Jvm.Cond.code x code maxLocals ret :: tables_1
/-- a 'code' word, met by the world's own term for the bytes: nothing is compared byte by byte -/
theorem code_word {y : MethodName} {bytes : ByteArray} {mx : Nat} {rt : Option FieldType} {a : Array Value} {s : State} {m : MethodId} {meth : Method} {c : Code} (h1 : s.methodNamed? y = some m) (h2 : s.vm.method? m = some meth) (h3 : meth.code = some c) (h4 : c.code = bytes)
    (h5 : (c.maxLocals == mx && c.exceptionTable.isEmpty && decide (c.maxStack ≤ mostOperands) && decide (meth.sig.returnType = rt) && !meth.locks && decide (parseMethodDescriptor y.desc = some meth.sig)) = true) : (Jvm.Cond.code y bytes mx rt).before a s = true := by
  simp only [Bool.and_eq_true, beq_iff_eq, Bool.not_eq_true', decide_eq_true_eq] at h5
  obtain ⟨⟨⟨⟨⟨g1, g2⟩, g3⟩, g4⟩, g5⟩, g6⟩ := h5
  simp [Cond.before, Cond.holds, Cond.value, h1, h2, h3, h4, g1, g2, g3, g4, g5, g6]
def isCode : Jvm.Cond → Bool
  | .code _ _ _ _ => true
  | _ => false
theorem all_split {L : List Jvm.Cond} {P : Jvm.Cond → Bool} (h1 : L.all (fun c => isCode c || P c) = true) (h2 : ∀ c ∈ L.filter isCode, P c = true) : L.all P = true := by
  refine List.all_eq_true.mpr fun c hc => ?_
  have h := List.all_eq_true.mp h1 c hc
  rcases Bool.eq_false_or_eq_true (isCode c) with hi | hi
  · exact h2 c (List.mem_filter.mpr ⟨hc, hi⟩)
  · simpa [hi] using h
set_option maxRecDepth 65536 in
theorem w_c0 : (Jvm.Cond.code x code maxLocals ret).before args0 about1 = true := code_word (m := ⟨1, 1⟩) (meth := k1m1) (c := k1c1) (by decide +kernel) rfl rfl rfl (by decide +kernel)
set_option maxRecDepth 65536 in
theorem w_c1 : (Jvm.Cond.code ({ cls := "com/example/kolom/kolom/cql/Operator", name := "symbol", desc := "()Ljava/lang/String;" } : Jvm.MethodName) prog_9_method_4_code (1 : Nat) (Option.some (Jvm.ClassFile.FieldType.object "java/lang/String"))).before args0 about1 = true := code_word (m := ⟨6, 0⟩) (meth := k6m0) (c := k6c0) (by decide +kernel) rfl rfl rfl (by decide +kernel)
set_option maxRecDepth 65536 in
theorem w_c2 : (Jvm.Cond.code ({ cls := "java/lang/String", name := "equals", desc := "(Ljava/lang/Object;)Z" } : Jvm.MethodName) jdk_42_method_66_code (3 : Nat) (Option.some Jvm.ClassFile.FieldType.boolean)).before args0 about1 = true := code_word (m := ⟨9, 1⟩) (meth := k9m1) (c := k9c1) (by decide +kernel) rfl rfl rfl (by decide +kernel)
set_option maxRecDepth 65536 in
theorem w_c3 : (Jvm.Cond.code ({ cls := "java/lang/StringLatin1", name := "equals", desc := "([B[B)Z" } : Jvm.MethodName) jdk_43_method_13_code (3 : Nat) (Option.some Jvm.ClassFile.FieldType.boolean)).before args0 about1 = true := code_word (m := ⟨10, 1⟩) (meth := k10m1) (c := k10c1) (by decide +kernel) rfl rfl rfl (by decide +kernel)
set_option maxRecDepth 65536 in
theorem w_c4 : (Jvm.Cond.code ({ cls := "com/example/kolom/kolom/cql/Operator", name := "isInclusive", desc := "()Z" } : Jvm.MethodName) prog_9_method_8_code (1 : Nat) (Option.some Jvm.ClassFile.FieldType.boolean)).before args0 about1 = true := code_word (m := ⟨6, 1⟩) (meth := k6m1) (c := k6c1) (by decide +kernel) rfl rfl rfl (by decide +kernel)
def codes1 : List Jvm.Cond := [Jvm.Cond.code x code maxLocals ret, Jvm.Cond.code ({ cls := "com/example/kolom/kolom/cql/Operator", name := "symbol", desc := "()Ljava/lang/String;" } : Jvm.MethodName) prog_9_method_4_code (1 : Nat) (Option.some (Jvm.ClassFile.FieldType.object "java/lang/String")), Jvm.Cond.code ({ cls := "java/lang/String", name := "equals", desc := "(Ljava/lang/Object;)Z" } : Jvm.MethodName) jdk_42_method_66_code (3 : Nat) (Option.some Jvm.ClassFile.FieldType.boolean), Jvm.Cond.code ({ cls := "java/lang/StringLatin1", name := "equals", desc := "([B[B)Z" } : Jvm.MethodName) jdk_43_method_13_code (3 : Nat) (Option.some Jvm.ClassFile.FieldType.boolean), Jvm.Cond.code ({ cls := "com/example/kolom/kolom/cql/Operator", name := "isInclusive", desc := "()Z" } : Jvm.MethodName) prog_9_method_8_code (1 : Nat) (Option.some Jvm.ClassFile.FieldType.boolean)]
set_option maxRecDepth 65536 in
theorem codes_eq : words1.filter isCode = codes1 := rfl
theorem w_codes : ∀ c ∈ words1.filter isCode, c.before args0 about1 = true := by
  rw [codes_eq]
  intro c hc
  simp only [codes1, List.mem_cons, List.not_mem_nil, or_false] at hc
  rcases hc with rfl | rfl | rfl | rfl | rfl
  · exact w_c0
  · exact w_c1
  · exact w_c2
  · exact w_c3
  · exact w_c4
set_option maxRecDepth 65536 in
theorem w_t1 : (words1.take 24).all (fun c => isCode c || c.before args0 about1) = true := by decide +kernel
set_option maxRecDepth 65536 in
theorem w_t2 : ((words1.drop 24).take 24).all (fun c => isCode c || c.before args0 about1) = true := by decide +kernel
set_option maxRecDepth 65536 in
theorem w_t3 : ((words1.drop 24).drop 24).all (fun c => isCode c || c.before args0 about1) = true := by decide +kernel
theorem w_tables : (allAtoms (Jvm.Cond.code x code maxLocals ret :: tables_1)).before args0 about1 = true := by
  rw [allAtoms_all]
  show words1.all (fun c => c.before args0 about1) = true
  refine all_split ?_ w_codes
  rw [← List.take_append_drop 24 words1, List.all_append, w_t1, ← List.take_append_drop 24 (words1.drop 24), List.all_append, w_t2, w_t3]
  rfl
set_option maxRecDepth 65536 in
theorem w_rest : rest_1_c.before args0 about1 = true := by decide +kernel
set_option maxRecDepth 65536 in
theorem w_case : (Jvm.Cond.and given_1 narrow_1).before args0 about1 = true := by decide +kernel
set_option maxRecDepth 65536 in
theorem w_consts : constsHeld consts_1 about1 := Jvm.Lit.constsHeldB_iff.mp (by decide +kernel)
theorem w_applies : (headSpec (Jvm.Cond.code x code maxLocals ret :: tables_1) room_1).applies x e0.platform about1 = true :=
  (Spec.applies_iff w_frames).mpr ⟨w_running, w_runnable, w_alone, w_named, w_hears, w_ripe, w_room, w_tables⟩
theorem atStart : AtStart classFile x code maxLocals ret World_1 tables_1 room_1 Calls_1 rest_1 Pre_1 launch0 p0 e0 about1 theMethod args0 below0 :=
  ⟨lists_1, trivial, launch0.admits_env _ _ _, launch0.least_env, fairChoices_fair.cas, fairChoices_fair.clock, w_frames, w_args, w_heap, w_applies, ⟨w_consts, trivial⟩, w_rest, w_case⟩
end start1
theorem witness_1 : WitnessClaimed_1 := ⟨start1.p0, start1.e0, start1.about1, start1.theMethod, start1.args0, start1.below0, start1.atStart⟩
end Jvm.Pilot.@@N@@
