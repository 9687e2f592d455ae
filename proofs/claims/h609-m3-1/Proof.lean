import JvmDerived
import JvmDerived.Pilot.@@N@@Statement
import JvmDerived.Pilot.@@N@@Code
set_option linter.unusedVariables false
set_option linter.unusedSimpArgs false
namespace Jvm.RoadKit
open Sem ClassFile Op Lib Jvm.Stand Jvm.Free Jvm.LawKit
section New
variable {p : Program} {l : Launch} {e : Env} {R : Room} {s : State} {m : MethodId} {args : Array Value} {below : List Frame} {meth : Method} {c : Code} {T : State} {locs : List Loc} {cells slots : Nat}
theorem retI (X : Stand p l e R s m args below meth c T locs cells slots) (hx : p.tables.exec = Jvm.exec) {pc : Nat} {Ls : Array Slot} {z : Int32} {rest : List Value} (hret : meth.sig.returnType = some .int) (hd : decode c.code pc = .ok (.ireturn, 1)) {fs : List Frame}
    (hl : ∀ (f : JFrame) (acts : List Action), f.method = m → f.locked = none → f.entered = [] → (doReturn e (T.setTop f) acts (some (.int z))).1 = T.setFrames fs) : Steps p.tables e below (T.setTop (mkF m pc Ls (.int z :: rest))) (T.setFrames fs) := by
  have hm' : T.vm.method? m = some meth := X.method'
  have hn : narrow .int (.int z) = .int z := rfl
  show Steps p.tables e below (T.setTop { method := m, pc := pc, locals := Ls, stack := _ :: rest, locked := none }) _
  jvm_step X.here [X.here.top, hx, hd, hm', hret, hn]
  first | (intro acts; rw [hl _ acts rfl rfl rfl]) | rw [hl _ _ rfl rfl rfl]
  exact Steps.refl _
end New
/-! the walk in continuation form: from the state T at the frame f the run ends by a return, as Q says -/
section Own
variable {p : Program} {l : Launch} {e : Env} {R : Room} {s : State} {m : MethodId} {args : Array Value} {below : List Frame} {meth : Method} {c : Code} {T T' : State} {locs : List Loc} {cells slots k n : Nat} {Q : Option Value → Heap → List Loc → Prop} {f f' : JFrame}
def ownE (p : Program) (e : Env) (below : List Frame) (s : State) (Q : Option Value → Heap → List Loc → Prop) (k n : Nat) (T : State) (f : JFrame) : Prop :=
  ∃ s₂ o, Steps p.tables e below (T.setTop f) s₂ ∧ s₂.status = .running ∧ Ended s₂ below o ∧ ∃ v L, o = .returned v ∧ Q v s₂.heap L ∧ FrameEnd s o s₂ L k n
theorem ownE.go (g : ∀ t, Steps p.tables e below (T'.setTop f') t → Steps p.tables e below (T.setTop f) t) (h : ownE p e below s Q k n T' f') : ownE p e below s Q k n T f := by
  obtain ⟨s₂, o, h1, r⟩ := h
  exact ⟨s₂, o, g _ h1, r⟩
theorem ownE.goS (g : Steps p.tables e below (T.setTop f) (T'.setTop f')) (h : ownE p e below s Q k n T' f') : ownE p e below s Q k n T f := by
  obtain ⟨s₂, o, h1, r⟩ := h
  exact ⟨s₂, o, g.trans h1, r⟩
theorem ownE.ret (X : Stand p l e R s m args below meth c T locs cells slots) {v : Option Value} (hlk : meth.locks = false) (hv : meth.sig.returnType = none → v = none)
    (st : ∀ fs, (∀ (f : JFrame) (acts : List Action), f.method = m → f.locked = none → f.entered = [] → (doReturn e (T.setTop f) acts v).1 = T.setFrames fs) → Steps p.tables e below (T.setTop f) (T.setFrames fs))
    (hQ : Q v T.heap locs) (hk : cells ≤ k) (hn : slots ≤ n) : ownE p e below s Q k n T f := by
  obtain ⟨fs, hr, hrun, hended, hW, hsame⟩ := X.leave (v := v) hv hlk
  exact ⟨_, _, st fs hr, hrun, hended, _, _, rfl, hQ, ⟨_, rfl⟩, hW, hsame.mono hk hn⟩
theorem ownE.retI (X : Stand p l e R s m args below meth c T locs cells slots) (hx : p.tables.exec = Jvm.exec) (hlk : meth.locks = false) {pc : Nat} {Ls : Array Slot} {z : Int32} {rest : List Value} (hret : meth.sig.returnType = some .int) (hd : decode c.code pc = .ok (.ireturn, 1))
    (hQ : Q (some (.int z)) T.heap locs) (hk : cells ≤ k) (hn : slots ≤ n) : ownE p e below s Q k n T (mkF m pc Ls (.int z :: rest)) :=
  ownE.ret X hlk (fun h => by rw [hret] at h; cases h) (fun fs hr => Jvm.RoadKit.retI X hx hret hd hr) hQ hk hn
theorem ownE.retN (X : Stand p l e R s m args below meth c T locs cells slots) (hx : p.tables.exec = Jvm.exec) (hlk : meth.locks = false) {pc : Nat} {Ls : Array Slot} {z : Int32} {rest : List Value} {t : FieldType} (hret : meth.sig.returnType = some t) (ht : t = .boolean ∨ t = .byte ∨ t = .char ∨ t = .short) (hd : decode c.code pc = .ok (.ireturn, 1))
    (hQ : Q (some (.int (nar t z))) T.heap locs) (hk : cells ≤ k) (hn : slots ≤ n) : ownE p e below s Q k n T (mkF m pc Ls (.int z :: rest)) :=
  ownE.ret X hlk (fun h => by rw [hret] at h; cases h) (fun fs hr => Jvm.RoadKit.retN X hx hret ht hd hr) hQ hk hn
theorem ownE.retL (X : Stand p l e R s m args below meth c T locs cells slots) (hx : p.tables.exec = Jvm.exec) (hlk : meth.locks = false) {pc : Nat} {Ls : Array Slot} {z : Int64} {rest : List Value} (hret : meth.sig.returnType = some .long) (hd : decode c.code pc = .ok (.lreturn, 1))
    (hQ : Q (some (.long z)) T.heap locs) (hk : cells ≤ k) (hn : slots ≤ n) : ownE p e below s Q k n T (mkF m pc Ls (.long z :: rest)) :=
  ownE.ret X hlk (fun h => by rw [hret] at h; cases h) (fun fs hr => Jvm.RoadKit.retOut X hx hret rfl (Or.inr (Or.inl ⟨rfl, rfl, z, rfl⟩)) hd hr) hQ hk hn
theorem ownE.retA (X : Stand p l e R s m args below meth c T locs cells slots) (hx : p.tables.exec = Jvm.exec) (hlk : meth.locks = false) {pc : Nat} {Ls : Array Slot} {z : Value} {rest : List Value} {t : FieldType} (hret : meth.sig.returnType = some t) (ht : t.isReference = true) (hz : z.isRef = true) (hn' : narrow t z = z) (hd : decode c.code pc = .ok (.areturn, 1))
    (hQ : Q (some z) T.heap locs) (hk : cells ≤ k) (hn : slots ≤ n) : ownE p e below s Q k n T (mkF m pc Ls (z :: rest)) :=
  ownE.ret X hlk (fun h => by rw [hret] at h; cases h) (fun fs hr => Jvm.RoadKit.retOut X hx hret hn' (Or.inr (Or.inr (Or.inr (Or.inr ⟨rfl, ht, hz⟩)))) hd hr) hQ hk hn
theorem ownE.retV (X : Stand p l e R s m args below meth c T locs cells slots) (hx : p.tables.exec = Jvm.exec) (hlk : meth.locks = false) {pc : Nat} {Ls : Array Slot} (hret : meth.sig.returnType = none) (hd : decode c.code pc = .ok (.return_, 1))
    (hQ : Q none T.heap locs) (hk : cells ≤ k) (hn : slots ≤ n) : ownE p e below s Q k n T (mkF m pc Ls []) :=
  ownE.ret X hlk (fun _ => rfl) (fun fs hr => X.returnOut hx hret hd hr) hQ hk hn
end Own
theorem own_eqV {u : Term} {args : Array Value} {Z : State} {x k : Int32} (e : u.eval args Z none [] Z = some (.int x)) : (Jvm.Cond.eq u (.int k)).value args Z none Z [] = some (decide (x = k)) := by
  have ek : (Term.int k).eval args Z none [] Z = some (.int k) := Term.int_eval k
  simp only [Cond.value]
  rw [e, ek]
theorem own_selP {s : State} {args : Array Value} {y : MethodName} {n : Nat} (wi : (Cond.instantiable y.cls n).before args s = true) (hi : (Cond.instanceMethod y).before args s = true) (hp : s.PrivateAt y) (hy : y.cls ≠ "java/lang/invoke/MethodHandle" ∧ y.cls ≠ "java/lang/invoke/VarHandle") : (Cond.selects y.cls y y).before args s = true := by
  obtain ⟨c, k, h1, h2, -, h4, -⟩ := Cond.instantiable_spec wi
  exact selects_self_of_private h1 h2 (by simp at h4; exact h4.1) hp hi hy
end Jvm.RoadKit
namespace Jvm.Pilot.@@N@@
open Jvm Jvm.ClassFile Sem Op Lib Jvm.Free Jvm.Stand Jvm.LawKit Jvm.RoadKit Bundle Jvm.Pilot.@@N@@.Jvm.D
abbrev own_s0 : String := "com/example/quayside/quayside/core/Entries$Link"
abbrev own_s1 : String := "Lcom/example/quayside/quayside/core/Entries$Link;"
abbrev own_s2 : String := "java/lang/String"
abbrev own_s3 : String := "com/example/quayside/quayside/core/Entries"
abbrev own_s4 : String := "com/example/quayside/quayside/core/Entry"
abbrev own_s5 : String := "Lcom/example/quayside/quayside/core/Entry;"
abbrev own_s6 : String := "com/example/quayside/quayside/core/FileEntry"
abbrev own_s7 : String := "Ljava/lang/String;"
abbrev own_s8 : String := "jdk/internal/util/Preconditions"
abbrev own_s9 : String := "Ljava/util/function/BiFunction;"
abbrev own_R0 : Room := ({ frames := 0, cells := 0, slots := 0, locals := 0 } : Room)
abbrev own_R1 : Room := ({ frames := 4, cells := 0, slots := 0, locals := 58 } : Room)
abbrev own_R2 : Room := ({ frames := 1, cells := 0, slots := 0, locals := 12 } : Room)
abbrev own_R3 : Room := ({ frames := 3, cells := 0, slots := 0, locals := 41 } : Room)
theorem own_w {P : Jvm.Cond → Prop} (hw : ∀ d ∈ tables_1, P d) (i : Nat) {d : Jvm.Cond} (h : tables_1[i]? = some d) : P d := hw d (List.mem_of_getElem? h)
abbrev own_MF (l : Launch) (Z : State) (y : MethodName) (bytes : ByteArray) (maxL : Nat) (ret : Option FieldType) (ws : List Jvm.Cond) (R : Room) (A : Array Value) (h0 : Heap) (Q : Option Value → Heap → List Loc → Prop) : Prop :=
  MetFree l y (head1 (Jvm.Cond.code y bytes maxL ret :: ws) R) (fun a U => a = A ∧ Z.Warmed39 U.vm ∧ U.heap = h0) (fun _ _ _ _ _ => True) (fun _ U o U' => ∃ v L, o = .returned v ∧ Q v U'.heap L ∧ FrameEnd U o U' L R.cells R.slots)
/-- the opening rows of every body -/
theorem own_start {l : Launch} {Z : State} {y : MethodName} {bytes : ByteArray} {maxL : Nat} {ret : Option FieldType} {ws : List Jvm.Cond} {R : Room} {A : Array Value} {h0 : Heap} {Q : Option Value → Heap → List Loc → Prop} (hp : plainFor y = true)
    (H : ∀ (p : Program) (e : Env) (s : State) (m : MethodId) (below : List Frame) (meth : Method) (c : Code) (s₁ : State), p.tables.exec = Jvm.exec → c.code = bytes → meth.sig.returnType = ret → meth.locks = false → c.maxLocals = maxL → Z.Warmed39 s.vm → s.vm.findClass y.cls = some m.cls → meth.name = y.name → Stand p l e R s m A below meth c s₁ [] 0 0 → s₁.heap = h0 → ownE p e below s Q R.cells R.slots s₁ (entryFrame m A maxL)) :
    own_MF l Z y bytes maxL ret ws R A h0 Q := by
  refine MetFree.of_bodySF hp hisR ?_
  intro p e s m args below meth c s₁ Bd hml0 hP hK
  obtain ⟨rfl, hZ, hh⟩ := hP
  exact H p e s m below meth c s₁ Bd.exec Bd.bytes Bd.returns (BodyLoose.notSynchronized Bd) hml0 hZ (findClass_of_methodNamed Bd.named) (name_of_methodNamed Bd.named Bd.method).1 (Stand.of_body Bd) (by rw [← hh, Bd.state]; rfl)
/-! an entry that is resolved already (the words fieldRef and methodRef) -/
theorem own_readyF {Z T : State} {a0 : Array Value} {own O n d : String} {index : Nat} {cur : ClassId} (hZT : Z.Warmed39 T.vm) (hcur : T.vm.findClass own = some cur) (w : (Cond.fieldRef own index O n d).before a0 Z = true) {cf i : Nat} {k : Class} {f : Field} (h2 : Z.fieldFound? O n d = some (cf, k, i, f)) : T.vm.fieldReady cur index cf f := by
  have wT : (Cond.fieldRef own index O n d).before a0 (Z.setVm T.vm) = true := Cond.fieldRef_warmed39 hZT w
  obtain ⟨c, k', i', f', hff, hr⟩ := Cond.fieldRef_spec (s := Z.setVm T.vm) hcur wT
  obtain ⟨k'', h2', -⟩ := State.fieldFound?_setVm (s := Z) hZT.alike h2
  cases hff.symm.trans h2'
  exact hr
theorem own_getR {p : Program} {l : Launch} {e : Env} {R : Room} {s : State} {m : MethodId} {args : Array Value} {below : List Frame} {meth : Method} {c : Code} {T : State} {locs : List Loc} {cells slots : Nat} {Z : State} {h : Heap} (X : Stand p l e R s m args below meth c T locs cells slots) (hx : p.tables.exec = Jvm.exec) (hZ : Z.Warmed39 s.vm) {a0 : Array Value} {own O n d : String} {index : Nat} (hown : s.vm.findClass own = some m.cls) (w : (Cond.fieldRef own index O n d).before a0 Z = true) (eT : T.heap = h) {a : Addr} {v : Value} (F : Fld Z h a O n d v) {g : JFrame} (hg : g.method = m) {rest : List Value} (hs : g.stack = .ref a :: rest) (hd : decode c.code g.pc = .ok (.getfield index, 3)) : ∃ T', Stand p l e R s m args below meth c T' locs cells slots ∧ T'.heap = h ∧ ∀ target, Steps p.tables e below (T'.setTop { g with pc := g.pc + 3, stack := v :: rest }) target → Steps p.tables e below (T.setTop g) target := by
  obtain ⟨cell, cf, k, i, f, h1, h2, h3, h4, -, -, h7⟩ := F
  have hr : T.vm.fieldReady m.cls index cf f := own_readyF (wtrans hZ X.warmed) (by rw [X.warmed.alike.findClass]; exact hown) w h2
  refine ⟨T, X, eT, fun target hrest => ?_⟩
  subst hg
  jvm_step X.here [hx, hd, Op.getfield.wp_ready (e := e) (s := T) (f := g) X.here.top hr h3 hs (by rw [eT]; exact h1) h4 h7]
  exact hrest
theorem own_putR {p : Program} {l : Launch} {e : Env} {R : Room} {s : State} {m : MethodId} {args : Array Value} {below : List Frame} {meth : Method} {c : Code} {T : State} {locs : List Loc} {cells slots : Nat} {Z : State} {h : Heap} (X : Stand p l e R s m args below meth c T locs cells slots) (hx : p.tables.exec = Jvm.exec) (hZ : Z.Warmed39 s.vm) {a0 : Array Value} {own O n d C : String} {index kk : Nat} {ty : FieldType} (hown : s.vm.findClass own = some m.cls) (w : (Cond.fieldRef own index O n d).before a0 Z = true)
    (eT : T.heap = h) {a : Addr} {v old : Value} (F : Fld Z h a O n d old) (E : Exa Z h a C) (L : (Cond.lays C O n d).before a0 Z = true) (wi : (Cond.instantiable C kk).before a0 Z = true)
    (hty : parseFieldDescriptor d = some ty) (hn : narrow ty v = v) (hf : fits ty v = true) {g : JFrame} (hg : g.method = m) {rest : List Value} (hs : g.stack = v :: .ref a :: rest) (hd : decode c.code g.pc = .ok (.putfield index, 3)) :
    ∃ T' h', Stand p l e R s m args below meth c T' (locs ++ [⟨a, Jvm.RoadKit.slotOf Z O n d⟩]) cells slots ∧ T'.heap = h' ∧ Wr h h' a (Jvm.RoadKit.slotOf Z O n d) v ∧ ∀ target, Steps p.tables e below (T'.setTop { g with pc := g.pc + 3, stack := rest }) target → Steps p.tables e below (T.setTop g) target := by
  obtain ⟨cell, cf, k, i, f, h1, h2, h3, h4, h5, -, h7⟩ := F
  have hZT := wtrans hZ X.warmed
  have hr : T.vm.fieldReady m.cls index cf f := own_readyF hZT (by rw [X.warmed.alike.findClass]; exact hown) w h2
  obtain ⟨cell', kc, e1, e2, e3, -⟩ := E
  cases h1.symm.trans e1
  obtain ⟨c1, k1, cf1, kf1, i1, f1, a1, a2, a3, -, a5, a6⟩ := Cond.lays_spec L
  cases h2.symm.trans a3
  cases e2.symm.trans a1
  obtain ⟨c2, k2, i1, i2, i3, -⟩ := Cond.instantiable_spec wi
  cases e2.symm.trans i1
  cases a2.symm.trans i2
  have ht := (State.fieldFound?_type h2 hty).2
  have hfit : Z.fitsSlot cell.cls cell.vm f.slot v = true := by
    have q : Z.slotType? cell.cls cell.vm f.slot = some ty := by
      simp only [State.slotType?, a2, Option.bind_eq_bind, Option.bind_some, i3]
      cases hq : cell.vm <;> first | (rw [hq] at h5; exact Bool.noConfusion h5) | (rw [a6.2.1, ht])
    simp [State.fitsSlot, q, hf]
  have hfit' : T.fitsSlot cell.cls cell.vm f.slot v = true := by rw [← State.fitsSlot_setVm hZT.alike] at hfit; exact hfit
  have hlt := (Array.getElem?_eq_some_iff.mp h7).1
  have es : Jvm.RoadKit.slotOf Z O n d = f.slot := by simp [Jvm.RoadKit.slotOf, h2]
  rw [es]
  obtain ⟨X', st⟩ := X.putfieldReady hx hr h3 (Or.inl a5) (by rw [eT]; exact h1) h4 hlt (by rw [ht]; exact hn) hfit' hg hs hd
  exact ⟨_, _, X', rfl, ⟨cell, h1, h5, hlt, by rw [← eT]; rfl⟩, st⟩
theorem own_specialR {p : Program} {l : Launch} {e : Env} {R : Room} {s : State} {m : MethodId} {args : Array Value} {below : List Frame} {meth : Method} {c : Code} {T : State} {locs : List Loc} {cells slots : Nat} {Z : State} (X : Stand p l e R s m args below meth c T locs cells slots) (hexec : p.tables.exec = Jvm.exec) (hZ : Z.Warmed39 s.vm) {a0 : Array Value} {own : String} {index : Nat} {y : MethodName} (hy1 : y.name = "<init>")
    (hown : s.vm.findClass own = some m.cls) (hlink : (Cond.methodRef own index y).before a0 Z = true) (hinst : (Cond.instanceMethod y).before args s = true)
    {bytes : ByteArray} {maxL : Nat} (hcode : (Cond.code y bytes maxL none).before args s = true)
    (hy : y.cls ≠ "java/lang/invoke/MethodHandle" ∧ y.cls ≠ "java/lang/invoke/VarHandle")
    {W : Nat} {Pre : Pt → Array Value → Prop} {Post : Pt → Array Value → Option Value → Pt → Prop} (hK : Back l R p e below s args y 3 W Pre Post)
    {g : JFrame} (hg : g.method = m) (hsize : g.locals.size = c.maxLocals) {s₀ : State} (hcome : Steps p.tables e below s₀ (T.setTop g)) {a : Addr} {argsL rest : List Value}
    (hlen : ∀ sig, parseMethodDescriptor y.desc = some sig → argsL.length = sig.parameters.length) (hstack : g.stack = argsL.reverse ++ .ref a :: rest) (hW : 2 * g.monitorRoom + (rest.map fun v => v.category).sum ≤ W)
    (hdg : decode c.code g.pc = .ok (.invokespecial index, 3)) (hpre : ∀ vm₁, s.WarmedH vm₁ → Pre ⟨T.setVm vm₁, locs, cells, slots⟩ (.ref a :: argsL).toArray) :
    ∃ (v : Option Value) (vm₁ : Vm) (B : Pt), s.WarmedH vm₁ ∧ Stand p l e R s m args below meth c B.U B.locs B.cells B.slots ∧ Post ⟨T.setVm vm₁, locs, cells, slots⟩ (.ref a :: argsL).toArray v B ∧
      Steps p.tables e below s₀ (B.U.setTop { g with pc := g.pc + 3, stack := v.toList ++ rest }) := by
  have hZT := wtrans hZ X.warmed
  obtain ⟨obj, methO, hnO, hmO, hstO, habO⟩ := Cond.instanceMethod_spec hinst
  obtain ⟨methO', cO, hmO', hcO, hbO, hlO, -, hlockO, -, hsigO⟩ := Cond.code_spec hnO hcode
  cases hmO.symm.trans hmO'
  obtain ⟨kO, hkO, hnameO⟩ := className_of_methodNamed hnO
  obtain ⟨hnameMO, hdescO⟩ := name_of_methodNamed hnO hmO
  have hnZ : Z.methodNamed? y = some obj := by
    have q : (Z.setVm s.vm).methodNamed? y = some obj := hnO
    rw [State.methodNamed?_setVm hZ.alike] at q
    exact q
  have hcur : (Z.setVm T.vm).vm.findClass own = some m.cls := by
    show T.vm.findClass own = some m.cls
    rw [X.warmed.alike.findClass]; exact hown
  obtain ⟨m', c', hf, hready, hfind, hnam⟩ := Cond.methodRef_named e hcur (Cond.methodRef_warmed39 hZT hnZ hy hlink)
  have hnT : (Z.setVm T.vm).methodNamed? y = some obj := by rw [State.methodNamed?_setVm hZT.alike]; exact hnZ
  cases hf.symm.trans (State.methodFound?_of_named hnT hy)
  cases hfind.symm.trans (findClass_of_methodNamed hnT)
  have al := X.warmed.alike
  obtain ⟨kT, hkT, -⟩ := al.2.2 _ _ hkO
  have hmT : T.vm.method? obj = some methO := by rw [al.method?]; exact hmO
  have hfound : lookupSpecial T.vm obj.cls "<init>" methO.desc = .method obj := by
    rw [al.lookupSpecial, hdescO, ← hy1]; exact lookupSpecial_of_named hnO hmO hstO
  have st : ∀ target, (∀ acts, Steps p.tables e below (doInvoke e (T.setTop { g with stack := rest }) acts obj (.ref a :: argsL).toArray).1 target) → Steps p.tables e below (T.setTop g) target := by
    intro target hrest
    subst hg
    jvm_step X.here [hexec, hdg, Op.invokespecial.wp_init (e := e) (s := T) (k := kT) (meth := methO) (m := obj) (a := a) (args := argsL) (rest := rest) (f := g) X.here.top hnam hready hkT hmT (by rw [hnameMO]; exact hy1) hstO habO hfound (hlen _ hsigO) hstack]
    exact hrest
  have X₁ := X.noted X.warmed
  obtain ⟨v, B, X', hpost, hsteps⟩ := hK m meth c ⟨T.setVm T.vm, locs, cells, slots⟩ { g with stack := rest } (.invokespecial index) obj (.ref a :: argsL).toArray X₁ hg hsize hdg hW (X₁.named hnO) (hpre T.vm X.warmed)
  exact ⟨v, T.vm, B, X.warmed, X', hpost, (hcome.trans (st _ fun acts => by rw [doInvoke_state]; exact Steps.refl _)).trans hsteps⟩

theorem own_d2_0 : decode jdk_43_method_3_code 0 = .ok (.iload_n 0, 1) := by decide +kernel
theorem own_d2_1 : decode jdk_43_method_3_code 1 = .ok (.sipush 255, 3) := by decide +kernel
theorem own_d2_4 : decode jdk_43_method_3_code 4 = .ok (.if_icmp .gt 7, 3) := by decide +kernel
theorem own_d2_7 : decode jdk_43_method_3_code 7 = .ok (.iconst 1, 1) := by decide +kernel
theorem own_d2_8 : decode jdk_43_method_3_code 8 = .ok (.goto 4, 3) := by decide +kernel
theorem own_d2_11 : decode jdk_43_method_3_code 11 = .ok (.iconst 0, 1) := by decide +kernel
theorem own_d2_12 : decode jdk_43_method_3_code 12 = .ok (.ireturn, 1) := by decide +kernel
theorem own_pn0 : plainName "java/lang/StringLatin1" = true := by first | (simp [plainName, overriddenIn]; done) | decide +kernel
theorem own_ef2 (m : MethodId) (x0 : Int32) : entryFrame m #[(.int x0)] 1 = mkF m 0 #[.val (.int x0)] [] := by first | (simp [entryFrame, mkF, argsToLocals, Value.category]; done) | rfl
def own_ce (i0 : Int32) : Int32 :=
  if (255 : Int32) < i0 then
    (0 : Int32)
  else
    (1 : Int32)
def own_Q2 (Z : State) (i0 : Int32) (h0 : Heap) (n0 : Nat) (v : Option Value) (h : Heap) (L : List Loc) : Prop := v = some (.int (own_ce i0)) ∧ Fr n0 L ∧ h = h0
abbrev own_y0 : MethodName := (⟨"java/lang/StringLatin1", "canEncode", "(C)Z"⟩ : MethodName)
set_option maxRecDepth 65536 in
set_option maxHeartbeats 40000000 in
theorem own_rm2 (l : Launch) (Z : State) (a0 : Array Value) (hw : ∀ d ∈ tables_1, d.before a0 Z = true) (ws : List Jvm.Cond) (i0 : Int32) (h0 : Heap) (n0 : Nat) (Z0 : n0 ≤ h0.size) :
    own_MF l Z own_y0 jdk_43_method_3_code 1 (some .boolean) ws own_R0 #[(.int i0)] h0 (own_Q2 Z i0 h0 n0) := by
 refine own_start (plainFor_of_name own_pn0) fun p e s m below meth c s₁ hx hby hret hlk hml hZ hown hnm X0 e0 => ?_
 have N0 := Fr.nil n0
 have K0 : Keep h0 h0 [] := Keep.refl h0 _
 rw [own_ef2]
 refine ownE.go (f' := (mkF m 4 #[.val (.int i0)] [(.int (255 : Int32)), (.int i0)])) (fun t kt => XS.iloadN X0.here hx rfl (hb hby own_d2_0) rfl (XS.sipush X0.here hx rfl (hb hby own_d2_1) kt)) ?_
 by_cases hc1 : (255 : Int32) < i0
 · -- pc 4
  refine ownE.go (T' := s₁) (f' := (mkF m 11 #[.val (.int i0)] [])) (fun t kt => XS.icmpYes (g := (mkF m 4 #[.val (.int i0)] [(.int (255 : Int32)), (.int i0)])) X0.here hx rfl (pc0 := 4) (pc' := 11) rfl (hb hby own_d2_4) rfl (Jvm.Free.XT.ii_gt_t hc1) (by decide) (by decide) kt) ?_
  refine ownE.go (f' := (mkF m 12 #[.val (.int i0)] [(.int (0 : Int32))])) (fun t kt => XS.iconst X0.here hx rfl (hb hby own_d2_11) kt) ?_
  refine ownE.retN X0 hx hlk (t := .boolean) hret (by simp) (hb hby own_d2_12) ?_ (by decide) (by decide)
  show own_Q2 Z i0 h0 n0 _ s₁.heap _
  rw [e0]
  exact ⟨(by rw [own_ce, if_pos hc1] <;> first | rfl | decide), N0, rfl⟩
 · -- pc 4
  refine ownE.go (T' := s₁) (f' := (mkF m 7 #[.val (.int i0)] [])) (fun t kt => XS.icmpNo (g := (mkF m 4 #[.val (.int i0)] [(.int (255 : Int32)), (.int i0)])) X0.here hx rfl (hb hby own_d2_4) rfl (Jvm.Free.XT.ii_gt_f hc1) kt) ?_
  refine ownE.go (f' := (mkF m 12 #[.val (.int i0)] [(.int (1 : Int32))])) (fun t kt => XS.iconst X0.here hx rfl (hb hby own_d2_7) (XS.goto X0.here hx rfl (pc0 := 8) (pc' := 12) rfl (hb hby own_d2_8) (by decide) (by decide) kt)) ?_
  refine ownE.retN X0 hx hlk (t := .boolean) hret (by simp) (hb hby own_d2_12) ?_ (by decide) (by decide)
  show own_Q2 Z i0 h0 n0 _ s₁.heap _
  rw [e0]
  exact ⟨(by rw [own_ce, if_neg hc1] <;> first | rfl | decide), N0, rfl⟩
theorem own_ce_nz {x : Int32} (h : ¬ (255 : Int32) < x) : ¬ (own_ce x) = (0 : Int32) := by rw [own_ce, if_neg h]; decide
theorem own_d3_0 : decode jdk_43_method_46_code 0 = .ok (.iconst 1, 1) := by decide +kernel
theorem own_d3_1 : decode jdk_43_method_46_code 1 = .ok (.newarray .byte, 2) := by decide +kernel
theorem own_d3_3 : decode jdk_43_method_46_code 3 = .ok (.dup, 1) := by decide +kernel
theorem own_d3_4 : decode jdk_43_method_46_code 4 = .ok (.iconst 0, 1) := by decide +kernel
theorem own_d3_5 : decode jdk_43_method_46_code 5 = .ok (.iload_n 0, 1) := by decide +kernel
theorem own_d3_6 : decode jdk_43_method_46_code 6 = .ok (.i2b, 1) := by decide +kernel
theorem own_d3_7 : decode jdk_43_method_46_code 7 = .ok (.bastore, 1) := by decide +kernel
theorem own_d3_8 : decode jdk_43_method_46_code 8 = .ok (.areturn, 1) := by decide +kernel
theorem own_ef3 (m : MethodId) (x0 : Int32) : entryFrame m #[(.int x0)] 1 = mkF m 0 #[.val (.int x0)] [] := by first | (simp [entryFrame, mkF, argsToLocals, Value.category]; done) | rfl
def own_Q3 (Z : State) (i0 : Int32) (h0 : Heap) (n0 : Nat) (v : Option Value) (h : Heap) (L : List Loc) : Prop := ∃ ab : Addr, ∃ kb : ClassId, v = some (.ref ab) ∧ Fr n0 L ∧ Keep h0 h [] ∧ h0.size ≤ ab ∧ Arv Z h ab kb .byte (1 : Int32) [(.int ((i0.toInt8.toInt32).toInt8.toInt32))] (.int (0 : Int32))
abbrev own_y1 : MethodName := (⟨"java/lang/StringLatin1", "toBytes", "(C)[B"⟩ : MethodName)
set_option maxRecDepth 65536 in
set_option maxHeartbeats 40000000 in
theorem own_rm3 (l : Launch) (Z : State) (a0 : Array Value) (hw : ∀ d ∈ tables_1, d.before a0 Z = true) (ws : List Jvm.Cond) (i0 : Int32) (h0 : Heap) (n0 : Nat) (Z0 : n0 ≤ h0.size) :
    own_MF l Z own_y1 jdk_43_method_46_code 1 (some (.array .byte)) ws ({ frames := 0, cells := 1, slots := 1, locals := 0 } : Room) #[(.int i0)] h0 (own_Q3 Z i0 h0 n0) := by
 refine own_start (plainFor_of_name own_pn0) fun p e s m below meth c s₁ hx hby hret hlk hml hZ hown hnm X0 e0 => ?_
 have N0 := Fr.nil n0
 have K0 : Keep h0 h0 [] := Keep.refl h0 _
 rw [own_ef3]
 refine ownE.go (f' := (mkF m 1 #[.val (.int i0)] [(.int (1 : Int32))])) (fun t kt => XS.iconst X0.here hx rfl (hb hby own_d3_0) kt) ?_
 obtain ⟨T1, h1, k1, X1, e1, E1, A1, st1⟩ := newP X0 hx hZ (own_w hw 14 rfl) e0 (g := (mkF m 1 #[.val (.int i0)] [(.int (1 : Int32))])) rfl (hb hby own_d3_1) rfl (by decide) (cap := 1) (by decide) (by decide) (by decide) (by decide)
 obtain ⟨b1, g1⟩ : ∃ z, z = h0.size := ⟨_, rfl⟩
 rw [← g1] at A1 st1
 have sz_b1 : h0.size ≤ b1 := Nat.le_trans K0.1 (Nat.le_of_eq g1.symm)
 have ge_b1 : n0 ≤ b1 := Nat.le_trans Z0 sz_b1
 have V1 : Arv Z h1 b1 k1 .byte (1 : Int32) [(.int (0 : Int32))] (.int (0 : Int32)) := (Arv.new A1 (by decide)).pad (pad_rep [] (.int (0 : Int32)) 1)
 have K1 : Keep h0 h1 [] := K0.ext E1
 refine ownE.go st1 ?_
 refine ownE.go (f' := (mkF m 7 #[.val (.int i0)] [(.int (i0.toInt8.toInt32)), (.int (0 : Int32)), (.ref b1), (.ref b1)])) (fun t kt => XS.dup X1.here hx rfl (hb hby own_d3_3) rfl rfl (XS.iconst X1.here hx rfl (hb hby own_d3_4) (XS.iloadN X1.here hx rfl (hb hby own_d3_5) rfl (XS.i2b X1.here hx rfl (hb hby own_d3_6) rfl kt)))) ?_
 obtain ⟨cl2, Ar2, q2, S2, Nn2, Hh2, G2⟩ := id V1
 have hin2 : ¬ ((0 : Int32) < 0 ∨ cl2.slots.size ≤ ((0 : Int32)).toNatClampNeg) := inb_of S2 ⟨by decide, by decide⟩
 obtain ⟨T2, h2, X2, e2, W2, st2⟩ := stB X1 hx hZ e1 Ar2 (j := (0 : Int32)) hin2 (g := (mkF m 7 #[.val (.int i0)] [(.int (i0.toInt8.toInt32)), (.int (0 : Int32)), (.ref b1), (.ref b1)])) rfl rfl (hb hby own_d3_7)
 have V2 : Arv Z h2 b1 k1 .byte (1 : Int32) [(.int ((i0.toInt8.toInt32).toInt8.toInt32))] (.int (0 : Int32)) := Arv.set Ar2 q2 S2 Nn2 Hh2 G2 (fits_nar_byte _) W2 0 rfl (Nat.le_of_ble_eq_true rfl)
 have K2 : Keep h0 h2 [] := K1.wr W2 (Or.inr sz_b1)
 have N2 := Fr.snoc X2 N0 ge_b1
 refine ownE.go st2 ?_
 refine ownE.retA X2 hx hlk hret rfl rfl rfl (hb hby own_d3_8) ?_ (by decide) (by decide)
 show own_Q3 Z i0 h0 n0 _ T2.heap _
 rw [e2]
 exact ⟨b1, k1, rfl, N2, K2, sz_b1, V2⟩
theorem own_d4_0 : decode jdk_42_method_151_code 0 = .ok (.aload_n 0, 1) := by decide +kernel
theorem own_d4_1 : decode jdk_42_method_151_code 1 = .ok (.invokespecial 1, 3) := by decide +kernel
theorem own_d4_4 : decode jdk_42_method_151_code 4 = .ok (.aload_n 0, 1) := by decide +kernel
theorem own_d4_5 : decode jdk_42_method_151_code 5 = .ok (.aload_n 1, 1) := by decide +kernel
theorem own_d4_6 : decode jdk_42_method_151_code 6 = .ok (.putfield 9, 3) := by decide +kernel
theorem own_d4_9 : decode jdk_42_method_151_code 9 = .ok (.aload_n 0, 1) := by decide +kernel
theorem own_d4_10 : decode jdk_42_method_151_code 10 = .ok (.iload_n 2, 1) := by decide +kernel
theorem own_d4_11 : decode jdk_42_method_151_code 11 = .ok (.putfield 15, 3) := by decide +kernel
theorem own_d4_14 : decode jdk_42_method_151_code 14 = .ok (.return_, 1) := by decide +kernel
theorem own_pn1 : plainName "java/lang/String" = true := by first | (simp [plainName, overriddenIn]; done) | decide +kernel
theorem own_ef4 (m : MethodId) (x0 : Addr) (x1 : Addr) : entryFrame m #[(.ref x0), (.ref x1), (.int (0 : Int32))] 3 = mkF m 0 #[.val (.ref x0), .val (.ref x1), .val (.int (0 : Int32))] [] := by first | (simp [entryFrame, mkF, argsToLocals, Value.category]; done) | rfl
def own_Q4 (Z : State) (r0 : Addr) (r1 : Addr) (h0 : Heap) (n0 : Nat) (v : Option Value) (h : Heap) (L : List Loc) : Prop := v = none ∧ Fr n0 L ∧ Keep h0 h [r0] ∧ Exa Z h r0 own_s2 ∧ Fld Z h r0 own_s2 "value" "[B" (.ref r1) ∧ Fld Z h r0 own_s2 "coder" "B" (.int (0 : Int32))
abbrev own_y2 : MethodName := (⟨"java/lang/String", "<init>", "([BB)V"⟩ : MethodName)
set_option maxRecDepth 65536 in
set_option maxHeartbeats 40000000 in
theorem own_rm4 (l : Launch) (Z : State) (a0 : Array Value) (hw : ∀ d ∈ tables_1, d.before a0 Z = true) (ws : List Jvm.Cond) (r0 : Addr) (r1 : Addr) (h0 : Heap) (n0 : Nat) (Z0 : n0 ≤ h0.size) (P0 : Fld Z h0 r0 own_s2 "value" "[B" .null) (P1 : Fld Z h0 r0 own_s2 "coder" "B" (.int (0 : Int32))) (P2 : Exa Z h0 r0 own_s2) (P3 : n0 ≤ r0) :
    own_MF l Z own_y2 jdk_42_method_151_code 3 none ws own_R2 #[(.ref r0), (.ref r1), (.int (0 : Int32))] h0 (own_Q4 Z r0 r1 h0 n0) := by
 refine own_start (plainFor_of_name own_pn1) fun p e s m below meth c s₁ hx hby hret hlk hml hZ hown hnm X0 e0 => ?_
 have N0 := Fr.nil n0
 have K0 : Keep h0 h0 [r0] := Keep.refl h0 _
 rw [own_ef4]
 refine ownE.go (f' := (mkF m 1 #[.val (.ref r0), .val (.ref r1), .val (.int (0 : Int32))] [(.ref r0)])) (fun t kt => XS.aloadN X0.here hx rfl (hb hby own_d4_0) rfl rfl kt) ?_
 obtain ⟨T1, X1, e1, st1⟩ := initO X0 hx hZ hown (own_w hw 19 rfl) (own_w hw 20 rfl) (own_w hw 21 rfl) e0 (g := (mkF m 1 #[.val (.ref r0), .val (.ref r1), .val (.int (0 : Int32))] [(.ref r0)])) rfl (by rw [hml]; rfl) rfl (hb hby own_d4_1) (by decide) (W := 0) (by show 2 * 0 + _ ≤ _; exact Nat.le_of_eq rfl) (by decide)
 refine ownE.go st1 ?_
 refine ownE.go (f' := (mkF m 6 #[.val (.ref r0), .val (.ref r1), .val (.int (0 : Int32))] [(.ref r1), (.ref r0)])) (fun t kt => XS.aloadN X1.here hx rfl (hb hby own_d4_4) rfl rfl (XS.aloadN X1.here hx rfl (hb hby own_d4_5) rfl rfl kt)) ?_
 obtain ⟨T2, h2, X2, e2, W2, st2⟩ := putF X1 hx hZ hown (host := "") (Or.inl (own_w hw 22 rfl)) Via.refl e1 P0 P2 (Or.inr ⟨(own_w hw 23 rfl), rfl, hnm⟩) (own_w hw 10 rfl) (ty := (.array .byte)) (by decide) rfl rfl (g := (mkF m 6 #[.val (.ref r0), .val (.ref r1), .val (.int (0 : Int32))] [(.ref r1), (.ref r0)])) rfl rfl (hb hby own_d4_6)
 have Fw2 : Fld Z h2 r0 own_s2 "value" "[B" (.ref r1) := P0.same W2
 have q1 := P1.other W2 (Or.inr (slot_ne (Or.inr (own_w hw 25 rfl)) (Or.inr (own_w hw 23 rfl)) (by decide) (t := .byte) (t' := (.array .byte)) (by decide) (by decide)))
 have q2 := P2.wr W2
 have K2 : Keep h0 h2 [r0] := K0.wr W2 (Or.inl (List.mem_of_getElem? (i := 0) rfl))
 have N2 := Fr.snoc X2 N0 P3
 refine ownE.go st2 ?_
 refine ownE.go (f' := (mkF m 11 #[.val (.ref r0), .val (.ref r1), .val (.int (0 : Int32))] [(.int (0 : Int32)), (.ref r0)])) (fun t kt => XS.aloadN X2.here hx rfl (hb hby own_d4_9) rfl rfl (XS.iloadN X2.here hx rfl (hb hby own_d4_10) rfl kt)) ?_
 obtain ⟨T3, h3, X3, e3, W3, st3⟩ := putF X2 hx hZ hown (host := "") (Or.inl (own_w hw 24 rfl)) Via.refl e2 q1 q2 (Or.inr ⟨(own_w hw 25 rfl), rfl, hnm⟩) (own_w hw 10 rfl) (ty := .byte) (by decide) rfl rfl (g := (mkF m 11 #[.val (.ref r0), .val (.ref r1), .val (.int (0 : Int32))] [(.int (0 : Int32)), (.ref r0)])) rfl rfl (hb hby own_d4_11)
 have Fw3 : Fld Z h3 r0 own_s2 "coder" "B" (.int (0 : Int32)) := q1.same W3
 have q3 := Fw2.other W3 (Or.inr (slot_ne (Or.inr (own_w hw 23 rfl)) (Or.inr (own_w hw 25 rfl)) (by decide) (t := (.array .byte)) (t' := .byte) (by decide) (by decide)))
 have q4 := q2.wr W3
 have K3 : Keep h0 h3 [r0] := K2.wr W3 (Or.inl (List.mem_of_getElem? (i := 0) rfl))
 have N3 := Fr.snoc X3 N2 P3
 refine ownE.go st3 ?_
 refine ownE.retV X3 hx hlk hret (hb hby own_d4_14) ?_ (by decide) (by decide)
 show own_Q4 Z r0 r1 h0 n0 _ T3.heap _
 rw [e3]
 exact ⟨rfl, N3, K3, q4, q3, Fw3⟩
theorem own_pd2 : parseMethodDescriptor "(C)Z" = some ⟨[.char], some .boolean⟩ := by decide +kernel
theorem own_pd3 : parseMethodDescriptor "(C)[B" = some ⟨[.char], some (.array .byte)⟩ := by decide +kernel
theorem own_pd4 : parseMethodDescriptor "([BB)V" = some ⟨[(.array .byte), .byte], none⟩ := by decide +kernel
theorem own_d1_0 : decode jdk_42_method_139_code 0 = .ok (.getstatic 38, 3) := by decide +kernel
theorem own_d1_3 : decode jdk_42_method_139_code 3 = .ok (.ifCond .eq 23, 3) := by decide +kernel
theorem own_d1_6 : decode jdk_42_method_139_code 6 = .ok (.iload_n 0, 1) := by decide +kernel
theorem own_d1_7 : decode jdk_42_method_139_code 7 = .ok (.invokestatic 1015, 3) := by decide +kernel
theorem own_d1_10 : decode jdk_42_method_139_code 10 = .ok (.ifCond .eq 16, 3) := by decide +kernel
theorem own_d1_13 : decode jdk_42_method_139_code 13 = .ok (.new 10, 3) := by decide +kernel
theorem own_d1_16 : decode jdk_42_method_139_code 16 = .ok (.dup, 1) := by decide +kernel
theorem own_d1_17 : decode jdk_42_method_139_code 17 = .ok (.iload_n 0, 1) := by decide +kernel
theorem own_d1_18 : decode jdk_42_method_139_code 18 = .ok (.invokestatic 1018, 3) := by decide +kernel
theorem own_d1_21 : decode jdk_42_method_139_code 21 = .ok (.iconst 0, 1) := by decide +kernel
theorem own_d1_22 : decode jdk_42_method_139_code 22 = .ok (.invokespecial 209, 3) := by decide +kernel
theorem own_d1_25 : decode jdk_42_method_139_code 25 = .ok (.areturn, 1) := by decide +kernel
theorem own_ef1 (m : MethodId) (x0 : Int32) : entryFrame m #[(.int x0)] 1 = mkF m 0 #[.val (.int x0)] [] := by first | (simp [entryFrame, mkF, argsToLocals, Value.category]; done) | rfl
def own_Q1 (Z : State) (i0 : Int32) (cs : Int32) (h0 : Heap) (n0 : Nat) (v : Option Value) (h : Heap) (L : List Loc) : Prop := ∃ sb : Addr, ∃ vb : Addr, ∃ kb : ClassId, v = some (.ref sb) ∧ Fr n0 L ∧ Keep h0 h [] ∧ h0.size ≤ sb ∧ h0.size ≤ vb ∧ Exa Z h sb own_s2 ∧ Fld Z h sb own_s2 "value" "[B" (.ref vb) ∧ Fld Z h sb own_s2 "coder" "B" (.int (0 : Int32)) ∧ Arv Z h vb kb .byte (1 : Int32) [(.int ((i0.toInt8.toInt32).toInt8.toInt32))] (.int (0 : Int32)) ∧ sb ≠ vb
abbrev own_y3 : MethodName := (⟨"java/lang/String", "valueOf", "(C)Ljava/lang/String;"⟩ : MethodName)
set_option maxRecDepth 65536 in
set_option maxHeartbeats 40000000 in
theorem own_rm1 (l : Launch) (Z : State) (a0 : Array Value) (hw : ∀ d ∈ tables_1, d.before a0 Z = true) (ws : List Jvm.Cond) (i0 : Int32) (cs : Int32) (h0 : Heap) (n0 : Nat) (Z0 : n0 ≤ h0.size) (Od : Old Z n0 h0) (hcs : Sta Z Z.heap own_s2 "COMPACT_STRINGS" "Z" (.int cs)) (hcsn : ¬ cs = (0 : Int32)) (hle : ¬ (255 : Int32) < i0) :
    own_MF l Z own_y3 jdk_42_method_139_code 1 (some (.object own_s2)) ws ({ frames := 2, cells := 2, slots := 5, locals := 27 } : Room) #[(.int i0)] h0 (own_Q1 Z i0 cs h0 n0) := by
 refine own_start (plainFor_of_name own_pn1) fun p e s m below meth c s₁ hx hby hret hlk hml hZ hown hnm X0 e0 => ?_
 have N0 := Fr.nil n0
 have K0 : Keep h0 h0 [] := Keep.refl h0 _
 rw [own_ef1]
 obtain ⟨T1, X1, e1, st1⟩ := getS2 X0 hx hZ hown (host := "") (Or.inl (own_w hw 4 rfl)) Via.refl e0 (hcs.ext Od.2) (g := (mkF m 0 #[.val (.int i0)] [])) rfl (hb hby own_d1_0)
 refine ownE.go st1 ?_
 refine ownE.go (f' := (mkF m 7 #[.val (.int i0)] [(.int i0)])) (fun t kt => XS.ifNo X1.here hx rfl (hb hby own_d1_3) rfl (Jvm.Free.XT.i0_eq_f hcsn) (XS.iloadN X1.here hx rfl (hb hby own_d1_6) rfl kt)) ?_
 obtain ⟨_, _, ⟨T2, L2, k2, n2⟩, -, X2, ⟨Lc2, hQ2, l2, y2, z2⟩, st2⟩ := Jvm.LawKit.callS X1 hx (y := own_y0) hown (mvT hZ (own_w hw 5 rfl)) (mvT hZ (own_w hw 6 rfl)) (mvT hZ (own_w hw 7 rfl)) (mvT hZ (own_w hw 8 rfl)) (by decide) (backOf (W := 0) (own_rm2 l Z a0 hw [] i0 h0 n0 (Nat.le_trans Z0 K0.1) ) hZ (own_w hw 8 rfl) (own_w hw 7 rfl) (by decide) (by decide)) (g := (mkF m 7 #[.val (.int i0)] [(.int i0)])) rfl (by rw [hml]; rfl) (argsL := [(.int i0)]) (rest := []) (lenOf own_pd2 rfl) rfl (Nat.le_of_eq rfl) (hb hby own_d1_7) (fun _ _ => ⟨rfl, e1, (by decide : 0 + 0 ≤ _), (by decide : 0 + 0 ≤ _)⟩)
 dsimp only [Pt.U, Pt.locs, Pt.cells, Pt.slots] at X2 l2 y2 z2 st2 hQ2
 subst l2 y2 z2
 obtain ⟨rfl, N2q, e2⟩ := hQ2
 have N2 := Fr.app N0 N2q
 refine ownE.go st2 ?_
 refine ownE.go (f' := (mkF m 13 #[.val (.int i0)] [])) (fun t kt => XS.ifNo X2.here hx rfl (hb hby own_d1_10) rfl (Jvm.Free.XT.i0_eq_f (own_ce_nz hle)) kt) ?_
 obtain ⟨T3, h3, X3, e3, E3, A3, D3, -, st3⟩ := newO X2 hx hZ hown (own_w hw 9 rfl) (own_w hw 10 rfl) (own_w hw 2 rfl) e2 (g := (mkF m 13 #[.val (.int i0)] [])) rfl (hb hby own_d1_13) (by decide) (by decide)
 obtain ⟨b3, g3⟩ : ∃ z, z = h0.size := ⟨_, rfl⟩
 rw [← g3] at A3 D3 st3
 have sz_b3 : h0.size ≤ b3 := Nat.le_trans K0.1 (Nat.le_of_eq g3.symm)
 have ge_b3 : n0 ≤ b3 := Nat.le_trans Z0 sz_b3
 have q5 := Od.ext E3
 have D3_value : Fld Z h3 b3 own_s2 "value" "[B" .null := D3 (Or.inr (own_w hw 23 rfl)) (ty := (.array .byte)) (by decide)
 have D3_coder : Fld Z h3 b3 own_s2 "coder" "B" (.int (0 : Int32)) := D3 (Or.inr (own_w hw 25 rfl)) (ty := .byte) (by decide)
 have K3 : Keep h0 h3 [] := K0.ext E3
 refine ownE.go st3 ?_
 refine ownE.go (f' := (mkF m 18 #[.val (.int i0)] [(.int i0), (.ref b3), (.ref b3)])) (fun t kt => XS.dup X3.here hx rfl (hb hby own_d1_16) rfl rfl (XS.iloadN X3.here hx rfl (hb hby own_d1_17) rfl kt)) ?_
 obtain ⟨_, _, ⟨T4, L4, k4, n4⟩, -, X4, ⟨Lc4, hQ4, l4, y4, z4⟩, st4⟩ := Jvm.LawKit.callS X3 hx (y := own_y1) hown (mvT hZ (own_w hw 11 rfl)) (mvT hZ (own_w hw 12 rfl)) (mvT hZ (own_w hw 7 rfl)) (mvT hZ (own_w hw 13 rfl)) (by decide) (backOf (W := 2) (own_rm3 l Z a0 hw [] i0 h3 n0 (Nat.le_trans Z0 K3.1) ) hZ (own_w hw 13 rfl) (own_w hw 7 rfl) (by decide) (by decide)) (g := (mkF m 18 #[.val (.int i0)] [(.int i0), (.ref b3), (.ref b3)])) rfl (by rw [hml]; rfl) (argsL := [(.int i0)]) (rest := [(.ref b3), (.ref b3)]) (lenOf own_pd3 rfl) rfl (Nat.le_of_eq rfl) (hb hby own_d1_18) (fun _ _ => ⟨rfl, e3, (by decide : 1 + 1 ≤ _), (by decide : 4 + 1 ≤ _)⟩)
 dsimp only [Pt.U, Pt.locs, Pt.cells, Pt.slots] at X4 l4 y4 z4 st4 hQ4
 subst l4 y4 z4
 obtain ⟨ab_4, kb_4, rfl, N4q, K4q, f4_0, f4_1⟩ := hQ4
 have ne_b3_ab_4 : b3 ≠ ab_4 := Nat.ne_of_lt (Nat.lt_of_lt_of_le A3.lt f4_0)
 have q6 := q5.keep K4q all0
 have q7 := A3.keep K4q
 have q8 := D3_value.keep K4q nin0
 have q9 := D3_coder.keep K4q nin0
 have K4 : Keep h0 T4.heap [] := K3.trans K4q all0
 have sz_ab_4 : h0.size ≤ ab_4 := Nat.le_trans K3.1 f4_0
 have ge_ab_4 : n0 ≤ ab_4 := Nat.le_trans Z0 sz_ab_4
 have N4 := Fr.app N2 N4q
 refine ownE.go st4 ?_
 refine ownE.go (f' := (mkF m 22 #[.val (.int i0)] [(.int (0 : Int32)), (.ref ab_4), (.ref b3), (.ref b3)])) (fun t kt => XS.iconst X4.here hx rfl (hb hby own_d1_21) kt) ?_
 obtain ⟨_, _, ⟨T5, L5, k5, n5⟩, -, X5, ⟨Lc5, hQ5, l5, y5, z5⟩, st5⟩ := X4.specialBack hx (y := own_y2) rfl hown (mvT hZ (own_w hw 15 rfl)) (mvT hZ (own_w hw 16 rfl)) (mvT hZ (own_w hw 18 rfl)) (by decide) (backOf (W := 1) (own_rm4 l Z a0 hw [] b3 ab_4 T4.heap n0 (Nat.le_trans Z0 K4.1) q8 q9 q7 ge_b3) hZ (own_w hw 18 rfl) (own_w hw 2 rfl) (by decide) (by decide)) (g := (mkF m 22 #[.val (.int i0)] [(.int (0 : Int32)), (.ref ab_4), (.ref b3), (.ref b3)])) rfl (by rw [hml]; rfl) (Steps.refl _) (a := b3) (argsL := [(.ref ab_4), (.int (0 : Int32))]) (rest := [(.ref b3)]) (lenOf own_pd4 rfl) rfl (Nat.le_of_eq rfl) (hb hby own_d1_22) (fun _ _ => ⟨rfl, rfl, (by decide : 2 + 0 ≤ _), (by decide : 5 + 0 ≤ _)⟩)
 dsimp only [Pt.U, Pt.locs, Pt.cells, Pt.slots] at X5 l5 y5 z5 st5 hQ5
 subst l5 y5 z5
 obtain ⟨rfl, N5q, K5q, f5_0, f5_1, f5_2⟩ := hQ5
 have q10 := q6.keep K5q (allS ge_b3 all0)
 have q11 := q7.keep K5q
 have q12 := f4_1.keep K5q (ninS (Ne.symm ne_b3_ab_4) nin0)
 have K5 : Keep h0 T5.heap [] := K4.trans K5q (allS (Or.inr sz_b3) all0)
 have N5 := Fr.app N4 N5q
 refine ownE.goS st5 ?_
 refine ownE.retA X5 hx hlk hret rfl rfl rfl (hb hby own_d1_25) ?_ (by decide) (by decide)
 show own_Q1 Z i0 cs h0 n0 _ T5.heap _
 exact ⟨b3, ab_4, kb_4, rfl, N5, K5, sz_b3, sz_ab_4, f5_0, f5_1, f5_2, q12, ne_b3_ab_4⟩
theorem own_d6_0 : decode prog_24_method_1_code 0 = .ok (.aload_n 0, 1) := by decide +kernel
theorem own_d6_1 : decode prog_24_method_1_code 1 = .ok (.invokespecial 1, 3) := by decide +kernel
theorem own_d6_4 : decode prog_24_method_1_code 4 = .ok (.return_, 1) := by decide +kernel
theorem own_pn5 : plainName "com/example/quayside/quayside/core/Entries" = true := by first | (simp [plainName, overriddenIn]; done) | decide +kernel
theorem own_ef6 (m : MethodId) (x0 : Addr) : entryFrame m #[(.ref x0)] 1 = mkF m 0 #[.val (.ref x0)] [] := by first | (simp [entryFrame, mkF, argsToLocals, Value.category]; done) | rfl
def own_Q6 (Z : State) (r0 : Addr) (h0 : Heap) (n0 : Nat) (v : Option Value) (h : Heap) (L : List Loc) : Prop := v = none ∧ Fr n0 L ∧ h = h0
abbrev own_y4 : MethodName := (⟨"com/example/quayside/quayside/core/Entries", "<init>", "()V"⟩ : MethodName)
set_option maxRecDepth 65536 in
set_option maxHeartbeats 40000000 in
theorem own_rm6 (l : Launch) (Z : State) (a0 : Array Value) (hw : ∀ d ∈ tables_1, d.before a0 Z = true) (ws : List Jvm.Cond) (r0 : Addr) (h0 : Heap) (n0 : Nat) (Z0 : n0 ≤ h0.size) :
    own_MF l Z own_y4 prog_24_method_1_code 1 none ws own_R2 #[(.ref r0)] h0 (own_Q6 Z r0 h0 n0) := by
 refine own_start (plainFor_of_name own_pn5) fun p e s m below meth c s₁ hx hby hret hlk hml hZ hown hnm X0 e0 => ?_
 have N0 := Fr.nil n0
 have K0 : Keep h0 h0 [] := Keep.refl h0 _
 rw [own_ef6]
 refine ownE.go (f' := (mkF m 1 #[.val (.ref r0)] [(.ref r0)])) (fun t kt => XS.aloadN X0.here hx rfl (hb hby own_d6_0) rfl rfl kt) ?_
 obtain ⟨T1, X1, e1, st1⟩ := initO X0 hx hZ hown (own_w hw 32 rfl) (own_w hw 20 rfl) (own_w hw 21 rfl) e0 (g := (mkF m 1 #[.val (.ref r0)] [(.ref r0)])) rfl (by rw [hml]; rfl) rfl (hb hby own_d6_1) (by decide) (W := 0) (by show 2 * 0 + _ ≤ _; exact Nat.le_of_eq rfl) (by decide)
 refine ownE.go st1 ?_
 refine ownE.retV X1 hx hlk hret (hb hby own_d6_4) ?_ (by decide) (by decide)
 show own_Q6 Z r0 h0 n0 _ T1.heap _
 rw [e1]
 exact ⟨rfl, N0, rfl⟩
abbrev own_l0 (j1 : Int64) (i4 : Int32) (j5 : Int64) (j6 : Int64) (r0 : Addr) : Array Slot := #[.val (.ref r0), .val (.long j1), .second, .val .null, .val .null, .val (.int i4), .val (.long j5), .second, .val (.long j6), .second]
theorem own_d8_0 : decode prog_28_method_1_code 0 = .ok (.aload_n 0, 1) := by decide +kernel
theorem own_d8_1 : decode prog_28_method_1_code 1 = .ok (.invokespecial 1, 3) := by decide +kernel
theorem own_d8_4 : decode prog_28_method_1_code 4 = .ok (.aload_n 0, 1) := by decide +kernel
theorem own_d8_5 : decode prog_28_method_1_code 5 = .ok (.lload_n 1, 1) := by decide +kernel
theorem own_d8_6 : decode prog_28_method_1_code 6 = .ok (.putfield 7, 3) := by decide +kernel
theorem own_d8_9 : decode prog_28_method_1_code 9 = .ok (.aload_n 0, 1) := by decide +kernel
theorem own_d8_10 : decode prog_28_method_1_code 10 = .ok (.aload_n 3, 1) := by decide +kernel
theorem own_d8_11 : decode prog_28_method_1_code 11 = .ok (.putfield 13, 3) := by decide +kernel
theorem own_d8_14 : decode prog_28_method_1_code 14 = .ok (.aload_n 0, 1) := by decide +kernel
theorem own_d8_15 : decode prog_28_method_1_code 15 = .ok (.aload 4, 2) := by decide +kernel
theorem own_d8_17 : decode prog_28_method_1_code 17 = .ok (.putfield 17, 3) := by decide +kernel
theorem own_d8_20 : decode prog_28_method_1_code 20 = .ok (.aload_n 0, 1) := by decide +kernel
theorem own_d8_21 : decode prog_28_method_1_code 21 = .ok (.iload 5, 2) := by decide +kernel
theorem own_d8_23 : decode prog_28_method_1_code 23 = .ok (.putfield 20, 3) := by decide +kernel
theorem own_d8_26 : decode prog_28_method_1_code 26 = .ok (.aload_n 0, 1) := by decide +kernel
theorem own_d8_27 : decode prog_28_method_1_code 27 = .ok (.lload 6, 2) := by decide +kernel
theorem own_d8_29 : decode prog_28_method_1_code 29 = .ok (.putfield 24, 3) := by decide +kernel
theorem own_d8_32 : decode prog_28_method_1_code 32 = .ok (.aload_n 0, 1) := by decide +kernel
theorem own_d8_33 : decode prog_28_method_1_code 33 = .ok (.lload 8, 2) := by decide +kernel
theorem own_d8_35 : decode prog_28_method_1_code 35 = .ok (.putfield 27, 3) := by decide +kernel
theorem own_d8_38 : decode prog_28_method_1_code 38 = .ok (.return_, 1) := by decide +kernel
theorem own_pn6 : plainName "com/example/quayside/quayside/core/Entry" = true := by first | (simp [plainName, overriddenIn]; done) | decide +kernel
theorem own_ef8 (m : MethodId) (x0 : Addr) (x1 : Int64) (x4 : Int32) (x5 : Int64) (x6 : Int64) : entryFrame m #[(.ref x0), (.long x1), .null, .null, (.int x4), (.long x5), (.long x6)] 10 = mkF m 0 #[.val (.ref x0), .val (.long x1), .second, .val .null, .val .null, .val (.int x4), .val (.long x5), .second, .val (.long x6), .second] [] := by first | (simp [entryFrame, mkF, argsToLocals, Value.category]; done) | rfl
def own_Q8 (Z : State) (r0 : Addr) (j1 : Int64) (i4 : Int32) (j5 : Int64) (j6 : Int64) (h0 : Heap) (n0 : Nat) (v : Option Value) (h : Heap) (L : List Loc) : Prop := v = none ∧ Fr n0 L ∧ Keep h0 h [r0] ∧ Exa Z h r0 own_s6 ∧ Fld Z h r0 own_s6 "length" "J" (.long (0 : Int64)) ∧ Fld Z h r0 own_s6 "blockSize" "J" (.long (0 : Int64)) ∧ Fld Z h r0 own_s6 "replication" "I" (.int (0 : Int32)) ∧ Fld Z h r0 own_s6 "blob" "J" (.long (0 : Int64))
abbrev own_y5 : MethodName := (⟨"com/example/quayside/quayside/core/Entry", "<init>", "(JLjava/lang/String;Ljava/lang/String;IJJ)V"⟩ : MethodName)
set_option maxRecDepth 65536 in
set_option maxHeartbeats 40000000 in
theorem own_rm8 (l : Launch) (Z : State) (a0 : Array Value) (hw : ∀ d ∈ tables_1, d.before a0 Z = true) (ws : List Jvm.Cond) (r0 : Addr) (j1 : Int64) (i4 : Int32) (j5 : Int64) (j6 : Int64) (h0 : Heap) (n0 : Nat) (Z0 : n0 ≤ h0.size) (P0 : Fld Z h0 r0 own_s4 "id" "J" (.long (0 : Int64))) (P1 : Fld Z h0 r0 own_s4 "owner" own_s7 .null) (P2 : Fld Z h0 r0 own_s4 "group" own_s7 .null) (P3 : Fld Z h0 r0 own_s4 "permission" "I" (.int (0 : Int32))) (P4 : Fld Z h0 r0 own_s4 "modificationTime" "J" (.long (0 : Int64))) (P5 : Fld Z h0 r0 own_s4 "accessTime" "J" (.long (0 : Int64))) (P6 : Fld Z h0 r0 own_s6 "length" "J" (.long (0 : Int64))) (P7 : Fld Z h0 r0 own_s6 "blockSize" "J" (.long (0 : Int64))) (P8 : Fld Z h0 r0 own_s6 "replication" "I" (.int (0 : Int32))) (P9 : Fld Z h0 r0 own_s6 "blob" "J" (.long (0 : Int64))) (P10 : Exa Z h0 r0 own_s6) (P11 : n0 ≤ r0) :
    own_MF l Z own_y5 prog_28_method_1_code 10 none ws own_R2 #[(.ref r0), (.long j1), .null, .null, (.int i4), (.long j5), (.long j6)] h0 (own_Q8 Z r0 j1 i4 j5 j6 h0 n0) := by
 refine own_start (plainFor_of_name own_pn6) fun p e s m below meth c s₁ hx hby hret hlk hml hZ hown hnm X0 e0 => ?_
 have N0 := Fr.nil n0
 have K0 : Keep h0 h0 [r0] := Keep.refl h0 _
 rw [own_ef8]
 refine ownE.go (f' := (mkF m 1 (own_l0 j1 i4 j5 j6 r0) [(.ref r0)])) (fun t kt => XS.aloadN X0.here hx rfl (hb hby own_d8_0) rfl rfl kt) ?_
 obtain ⟨T1, X1, e1, st1⟩ := initO X0 hx hZ hown (own_w hw 44 rfl) (own_w hw 20 rfl) (own_w hw 21 rfl) e0 (g := (mkF m 1 (own_l0 j1 i4 j5 j6 r0) [(.ref r0)])) rfl (by rw [hml]; rfl) rfl (hb hby own_d8_1) (by decide) (W := 0) (by show 2 * 0 + _ ≤ _; exact Nat.le_of_eq rfl) (by decide)
 refine ownE.go st1 ?_
 refine ownE.go (f' := (mkF m 6 (own_l0 j1 i4 j5 j6 r0) [(.long j1), (.ref r0)])) (fun t kt => XS.aloadN X1.here hx rfl (hb hby own_d8_4) rfl rfl (XS.lloadN X1.here hx rfl (hb hby own_d8_5) rfl kt)) ?_
 obtain ⟨T2, h2, X2, e2, W2, st2⟩ := putF X1 hx hZ hown (host := "") (Or.inl (own_w hw 45 rfl)) Via.refl e1 P0 P10 (Or.inr ⟨(own_w hw 46 rfl), rfl, hnm⟩) (own_w hw 34 rfl) (ty := .long) (by decide) rfl rfl (g := (mkF m 6 (own_l0 j1 i4 j5 j6 r0) [(.long j1), (.ref r0)])) rfl rfl (hb hby own_d8_6)
 have Fw2 : Fld Z h2 r0 own_s4 "id" "J" (.long j1) := P0.same W2
 have q13 := P1.other W2 (Or.inr (slot_ne (Or.inl (own_w hw 48 rfl)) (Or.inr (own_w hw 46 rfl)) (by decide) (t := (.object own_s2)) (t' := .long) (by decide) (by decide)))
 have q14 := P2.other W2 (Or.inr (slot_ne (Or.inl (own_w hw 50 rfl)) (Or.inr (own_w hw 46 rfl)) (by decide) (t := (.object own_s2)) (t' := .long) (by decide) (by decide)))
 have q15 := P3.other W2 (Or.inr (slot_ne (Or.inl (own_w hw 52 rfl)) (Or.inr (own_w hw 46 rfl)) (by decide) (t := .int) (t' := .long) (by decide) (by decide)))
 have q16 := P4.other W2 (Or.inr (slot_ne (Or.inl (own_w hw 54 rfl)) (Or.inr (own_w hw 46 rfl)) (by decide) (t := .long) (t' := .long) (by decide) (by decide)))
 have q17 := P5.other W2 (Or.inr (slot_ne (Or.inl (own_w hw 56 rfl)) (Or.inr (own_w hw 46 rfl)) (by decide) (t := .long) (t' := .long) (by decide) (by decide)))
 have q18 := P6.other W2 (Or.inr (slot_ne (Or.inl (own_w hw 58 rfl)) (Or.inr (own_w hw 46 rfl)) (by decide) (t := .long) (t' := .long) (by decide) (by decide)))
 have q19 := P7.other W2 (Or.inr (slot_ne (Or.inr (own_w hw 60 rfl)) (Or.inr (own_w hw 46 rfl)) (by decide) (t := .long) (t' := .long) (by decide) (by decide)))
 have q20 := P8.other W2 (Or.inr (slot_ne (Or.inl (own_w hw 62 rfl)) (Or.inr (own_w hw 46 rfl)) (by decide) (t := .int) (t' := .long) (by decide) (by decide)))
 have q21 := P9.other W2 (Or.inr (slot_ne (Or.inr (own_w hw 64 rfl)) (Or.inr (own_w hw 46 rfl)) (by decide) (t := .long) (t' := .long) (by decide) (by decide)))
 have q22 := P10.wr W2
 have K2 : Keep h0 h2 [r0] := K0.wr W2 (Or.inl (List.mem_of_getElem? (i := 0) rfl))
 have N2 := Fr.snoc X2 N0 P11
 refine ownE.go st2 ?_
 refine ownE.go (f' := (mkF m 11 (own_l0 j1 i4 j5 j6 r0) [.null, (.ref r0)])) (fun t kt => XS.aloadN X2.here hx rfl (hb hby own_d8_9) rfl rfl (XS.aloadN X2.here hx rfl (hb hby own_d8_10) rfl rfl kt)) ?_
 obtain ⟨T3, h3, X3, e3, W3, st3⟩ := putF X2 hx hZ hown (host := "") (Or.inl (own_w hw 47 rfl)) Via.refl e2 q13 q22 (Or.inl (own_w hw 48 rfl)) (own_w hw 34 rfl) (ty := (.object own_s2)) (by decide) rfl rfl (g := (mkF m 11 (own_l0 j1 i4 j5 j6 r0) [.null, (.ref r0)])) rfl rfl (hb hby own_d8_11)
 have Fw3 : Fld Z h3 r0 own_s4 "owner" own_s7 .null := q13.same W3
 have q23 := Fw2.other W3 (Or.inr (slot_ne (Or.inr (own_w hw 46 rfl)) (Or.inl (own_w hw 48 rfl)) (by decide) (t := .long) (t' := (.object own_s2)) (by decide) (by decide)))
 have q24 := q14.other W3 (Or.inr (slot_ne (Or.inl (own_w hw 50 rfl)) (Or.inl (own_w hw 48 rfl)) (by decide) (t := (.object own_s2)) (t' := (.object own_s2)) (by decide) (by decide)))
 have q25 := q15.other W3 (Or.inr (slot_ne (Or.inl (own_w hw 52 rfl)) (Or.inl (own_w hw 48 rfl)) (by decide) (t := .int) (t' := (.object own_s2)) (by decide) (by decide)))
 have q26 := q16.other W3 (Or.inr (slot_ne (Or.inl (own_w hw 54 rfl)) (Or.inl (own_w hw 48 rfl)) (by decide) (t := .long) (t' := (.object own_s2)) (by decide) (by decide)))
 have q27 := q17.other W3 (Or.inr (slot_ne (Or.inl (own_w hw 56 rfl)) (Or.inl (own_w hw 48 rfl)) (by decide) (t := .long) (t' := (.object own_s2)) (by decide) (by decide)))
 have q28 := q18.other W3 (Or.inr (slot_ne (Or.inl (own_w hw 58 rfl)) (Or.inl (own_w hw 48 rfl)) (by decide) (t := .long) (t' := (.object own_s2)) (by decide) (by decide)))
 have q29 := q19.other W3 (Or.inr (slot_ne (Or.inr (own_w hw 60 rfl)) (Or.inl (own_w hw 48 rfl)) (by decide) (t := .long) (t' := (.object own_s2)) (by decide) (by decide)))
 have q30 := q20.other W3 (Or.inr (slot_ne (Or.inl (own_w hw 62 rfl)) (Or.inl (own_w hw 48 rfl)) (by decide) (t := .int) (t' := (.object own_s2)) (by decide) (by decide)))
 have q31 := q21.other W3 (Or.inr (slot_ne (Or.inr (own_w hw 64 rfl)) (Or.inl (own_w hw 48 rfl)) (by decide) (t := .long) (t' := (.object own_s2)) (by decide) (by decide)))
 have q32 := q22.wr W3
 have K3 : Keep h0 h3 [r0] := K2.wr W3 (Or.inl (List.mem_of_getElem? (i := 0) rfl))
 have N3 := Fr.snoc X3 N2 P11
 refine ownE.go st3 ?_
 refine ownE.go (f' := (mkF m 17 (own_l0 j1 i4 j5 j6 r0) [.null, (.ref r0)])) (fun t kt => XS.aloadN X3.here hx rfl (hb hby own_d8_14) rfl rfl (XS.aload X3.here hx rfl (hb hby own_d8_15) rfl rfl kt)) ?_
 obtain ⟨T4, h4, X4, e4, W4, st4⟩ := putF X3 hx hZ hown (host := "") (Or.inl (own_w hw 49 rfl)) Via.refl e3 q24 q32 (Or.inl (own_w hw 50 rfl)) (own_w hw 34 rfl) (ty := (.object own_s2)) (by decide) rfl rfl (g := (mkF m 17 (own_l0 j1 i4 j5 j6 r0) [.null, (.ref r0)])) rfl rfl (hb hby own_d8_17)
 have Fw4 : Fld Z h4 r0 own_s4 "group" own_s7 .null := q24.same W4
 have q33 := q23.other W4 (Or.inr (slot_ne (Or.inr (own_w hw 46 rfl)) (Or.inl (own_w hw 50 rfl)) (by decide) (t := .long) (t' := (.object own_s2)) (by decide) (by decide)))
 have q34 := Fw3.other W4 (Or.inr (slot_ne (Or.inl (own_w hw 48 rfl)) (Or.inl (own_w hw 50 rfl)) (by decide) (t := (.object own_s2)) (t' := (.object own_s2)) (by decide) (by decide)))
 have q35 := q25.other W4 (Or.inr (slot_ne (Or.inl (own_w hw 52 rfl)) (Or.inl (own_w hw 50 rfl)) (by decide) (t := .int) (t' := (.object own_s2)) (by decide) (by decide)))
 have q36 := q26.other W4 (Or.inr (slot_ne (Or.inl (own_w hw 54 rfl)) (Or.inl (own_w hw 50 rfl)) (by decide) (t := .long) (t' := (.object own_s2)) (by decide) (by decide)))
 have q37 := q27.other W4 (Or.inr (slot_ne (Or.inl (own_w hw 56 rfl)) (Or.inl (own_w hw 50 rfl)) (by decide) (t := .long) (t' := (.object own_s2)) (by decide) (by decide)))
 have q38 := q28.other W4 (Or.inr (slot_ne (Or.inl (own_w hw 58 rfl)) (Or.inl (own_w hw 50 rfl)) (by decide) (t := .long) (t' := (.object own_s2)) (by decide) (by decide)))
 have q39 := q29.other W4 (Or.inr (slot_ne (Or.inr (own_w hw 60 rfl)) (Or.inl (own_w hw 50 rfl)) (by decide) (t := .long) (t' := (.object own_s2)) (by decide) (by decide)))
 have q40 := q30.other W4 (Or.inr (slot_ne (Or.inl (own_w hw 62 rfl)) (Or.inl (own_w hw 50 rfl)) (by decide) (t := .int) (t' := (.object own_s2)) (by decide) (by decide)))
 have q41 := q31.other W4 (Or.inr (slot_ne (Or.inr (own_w hw 64 rfl)) (Or.inl (own_w hw 50 rfl)) (by decide) (t := .long) (t' := (.object own_s2)) (by decide) (by decide)))
 have q42 := q32.wr W4
 have K4 : Keep h0 h4 [r0] := K3.wr W4 (Or.inl (List.mem_of_getElem? (i := 0) rfl))
 have N4 := Fr.snoc X4 N3 P11
 refine ownE.go st4 ?_
 refine ownE.go (f' := (mkF m 23 (own_l0 j1 i4 j5 j6 r0) [(.int i4), (.ref r0)])) (fun t kt => XS.aloadN X4.here hx rfl (hb hby own_d8_20) rfl rfl (XS.iload X4.here hx rfl (hb hby own_d8_21) rfl kt)) ?_
 obtain ⟨T5, h5, X5, e5, W5, st5⟩ := putF X4 hx hZ hown (host := "") (Or.inl (own_w hw 51 rfl)) Via.refl e4 q35 q42 (Or.inl (own_w hw 52 rfl)) (own_w hw 34 rfl) (ty := .int) (by decide) rfl rfl (g := (mkF m 23 (own_l0 j1 i4 j5 j6 r0) [(.int i4), (.ref r0)])) rfl rfl (hb hby own_d8_23)
 have Fw5 : Fld Z h5 r0 own_s4 "permission" "I" (.int i4) := q35.same W5
 have q43 := q33.other W5 (Or.inr (slot_ne (Or.inr (own_w hw 46 rfl)) (Or.inl (own_w hw 52 rfl)) (by decide) (t := .long) (t' := .int) (by decide) (by decide)))
 have q44 := q34.other W5 (Or.inr (slot_ne (Or.inl (own_w hw 48 rfl)) (Or.inl (own_w hw 52 rfl)) (by decide) (t := (.object own_s2)) (t' := .int) (by decide) (by decide)))
 have q45 := Fw4.other W5 (Or.inr (slot_ne (Or.inl (own_w hw 50 rfl)) (Or.inl (own_w hw 52 rfl)) (by decide) (t := (.object own_s2)) (t' := .int) (by decide) (by decide)))
 have q46 := q36.other W5 (Or.inr (slot_ne (Or.inl (own_w hw 54 rfl)) (Or.inl (own_w hw 52 rfl)) (by decide) (t := .long) (t' := .int) (by decide) (by decide)))
 have q47 := q37.other W5 (Or.inr (slot_ne (Or.inl (own_w hw 56 rfl)) (Or.inl (own_w hw 52 rfl)) (by decide) (t := .long) (t' := .int) (by decide) (by decide)))
 have q48 := q38.other W5 (Or.inr (slot_ne (Or.inl (own_w hw 58 rfl)) (Or.inl (own_w hw 52 rfl)) (by decide) (t := .long) (t' := .int) (by decide) (by decide)))
 have q49 := q39.other W5 (Or.inr (slot_ne (Or.inr (own_w hw 60 rfl)) (Or.inl (own_w hw 52 rfl)) (by decide) (t := .long) (t' := .int) (by decide) (by decide)))
 have q50 := q40.other W5 (Or.inr (slot_ne (Or.inl (own_w hw 62 rfl)) (Or.inl (own_w hw 52 rfl)) (by decide) (t := .int) (t' := .int) (by decide) (by decide)))
 have q51 := q41.other W5 (Or.inr (slot_ne (Or.inr (own_w hw 64 rfl)) (Or.inl (own_w hw 52 rfl)) (by decide) (t := .long) (t' := .int) (by decide) (by decide)))
 have q52 := q42.wr W5
 have K5 : Keep h0 h5 [r0] := K4.wr W5 (Or.inl (List.mem_of_getElem? (i := 0) rfl))
 have N5 := Fr.snoc X5 N4 P11
 refine ownE.go st5 ?_
 refine ownE.go (f' := (mkF m 29 (own_l0 j1 i4 j5 j6 r0) [(.long j5), (.ref r0)])) (fun t kt => XS.aloadN X5.here hx rfl (hb hby own_d8_26) rfl rfl (XS.lload X5.here hx rfl (hb hby own_d8_27) rfl kt)) ?_
 obtain ⟨T6, h6, X6, e6, W6, st6⟩ := putF X5 hx hZ hown (host := "") (Or.inl (own_w hw 53 rfl)) Via.refl e5 q46 q52 (Or.inl (own_w hw 54 rfl)) (own_w hw 34 rfl) (ty := .long) (by decide) rfl rfl (g := (mkF m 29 (own_l0 j1 i4 j5 j6 r0) [(.long j5), (.ref r0)])) rfl rfl (hb hby own_d8_29)
 have Fw6 : Fld Z h6 r0 own_s4 "modificationTime" "J" (.long j5) := q46.same W6
 have q53 := q43.other W6 (Or.inr (slot_ne (Or.inr (own_w hw 46 rfl)) (Or.inl (own_w hw 54 rfl)) (by decide) (t := .long) (t' := .long) (by decide) (by decide)))
 have q54 := q44.other W6 (Or.inr (slot_ne (Or.inl (own_w hw 48 rfl)) (Or.inl (own_w hw 54 rfl)) (by decide) (t := (.object own_s2)) (t' := .long) (by decide) (by decide)))
 have q55 := q45.other W6 (Or.inr (slot_ne (Or.inl (own_w hw 50 rfl)) (Or.inl (own_w hw 54 rfl)) (by decide) (t := (.object own_s2)) (t' := .long) (by decide) (by decide)))
 have q56 := Fw5.other W6 (Or.inr (slot_ne (Or.inl (own_w hw 52 rfl)) (Or.inl (own_w hw 54 rfl)) (by decide) (t := .int) (t' := .long) (by decide) (by decide)))
 have q57 := q47.other W6 (Or.inr (slot_ne (Or.inl (own_w hw 56 rfl)) (Or.inl (own_w hw 54 rfl)) (by decide) (t := .long) (t' := .long) (by decide) (by decide)))
 have q58 := q48.other W6 (Or.inr (slot_ne (Or.inl (own_w hw 58 rfl)) (Or.inl (own_w hw 54 rfl)) (by decide) (t := .long) (t' := .long) (by decide) (by decide)))
 have q59 := q49.other W6 (Or.inr (slot_ne (Or.inr (own_w hw 60 rfl)) (Or.inl (own_w hw 54 rfl)) (by decide) (t := .long) (t' := .long) (by decide) (by decide)))
 have q60 := q50.other W6 (Or.inr (slot_ne (Or.inl (own_w hw 62 rfl)) (Or.inl (own_w hw 54 rfl)) (by decide) (t := .int) (t' := .long) (by decide) (by decide)))
 have q61 := q51.other W6 (Or.inr (slot_ne (Or.inr (own_w hw 64 rfl)) (Or.inl (own_w hw 54 rfl)) (by decide) (t := .long) (t' := .long) (by decide) (by decide)))
 have q62 := q52.wr W6
 have K6 : Keep h0 h6 [r0] := K5.wr W6 (Or.inl (List.mem_of_getElem? (i := 0) rfl))
 have N6 := Fr.snoc X6 N5 P11
 refine ownE.go st6 ?_
 refine ownE.go (f' := (mkF m 35 (own_l0 j1 i4 j5 j6 r0) [(.long j6), (.ref r0)])) (fun t kt => XS.aloadN X6.here hx rfl (hb hby own_d8_32) rfl rfl (XS.lload X6.here hx rfl (hb hby own_d8_33) rfl kt)) ?_
 obtain ⟨T7, h7, X7, e7, W7, st7⟩ := putF X6 hx hZ hown (host := "") (Or.inl (own_w hw 55 rfl)) Via.refl e6 q57 q62 (Or.inl (own_w hw 56 rfl)) (own_w hw 34 rfl) (ty := .long) (by decide) rfl rfl (g := (mkF m 35 (own_l0 j1 i4 j5 j6 r0) [(.long j6), (.ref r0)])) rfl rfl (hb hby own_d8_35)
 have Fw7 : Fld Z h7 r0 own_s4 "accessTime" "J" (.long j6) := q57.same W7
 have q63 := q53.other W7 (Or.inr (slot_ne (Or.inr (own_w hw 46 rfl)) (Or.inl (own_w hw 56 rfl)) (by decide) (t := .long) (t' := .long) (by decide) (by decide)))
 have q64 := q54.other W7 (Or.inr (slot_ne (Or.inl (own_w hw 48 rfl)) (Or.inl (own_w hw 56 rfl)) (by decide) (t := (.object own_s2)) (t' := .long) (by decide) (by decide)))
 have q65 := q55.other W7 (Or.inr (slot_ne (Or.inl (own_w hw 50 rfl)) (Or.inl (own_w hw 56 rfl)) (by decide) (t := (.object own_s2)) (t' := .long) (by decide) (by decide)))
 have q66 := q56.other W7 (Or.inr (slot_ne (Or.inl (own_w hw 52 rfl)) (Or.inl (own_w hw 56 rfl)) (by decide) (t := .int) (t' := .long) (by decide) (by decide)))
 have q67 := Fw6.other W7 (Or.inr (slot_ne (Or.inl (own_w hw 54 rfl)) (Or.inl (own_w hw 56 rfl)) (by decide) (t := .long) (t' := .long) (by decide) (by decide)))
 have q68 := q58.other W7 (Or.inr (slot_ne (Or.inl (own_w hw 58 rfl)) (Or.inl (own_w hw 56 rfl)) (by decide) (t := .long) (t' := .long) (by decide) (by decide)))
 have q69 := q59.other W7 (Or.inr (slot_ne (Or.inr (own_w hw 60 rfl)) (Or.inl (own_w hw 56 rfl)) (by decide) (t := .long) (t' := .long) (by decide) (by decide)))
 have q70 := q60.other W7 (Or.inr (slot_ne (Or.inl (own_w hw 62 rfl)) (Or.inl (own_w hw 56 rfl)) (by decide) (t := .int) (t' := .long) (by decide) (by decide)))
 have q71 := q61.other W7 (Or.inr (slot_ne (Or.inr (own_w hw 64 rfl)) (Or.inl (own_w hw 56 rfl)) (by decide) (t := .long) (t' := .long) (by decide) (by decide)))
 have q72 := q62.wr W7
 have K7 : Keep h0 h7 [r0] := K6.wr W7 (Or.inl (List.mem_of_getElem? (i := 0) rfl))
 have N7 := Fr.snoc X7 N6 P11
 refine ownE.go st7 ?_
 refine ownE.retV X7 hx hlk hret (hb hby own_d8_38) ?_ (by decide) (by decide)
 show own_Q8 Z r0 j1 i4 j5 j6 h0 n0 _ T7.heap _
 rw [e7]
 exact ⟨rfl, N7, K7, q72, q68, q69, q70, q71⟩
abbrev own_l1 (j1 : Int64) (i4 : Int32) (j5 : Int64) (j6 : Int64) (j7 : Int64) (i8 : Int32) (j9 : Int64) (r0 : Addr) : Array Slot := #[.val (.ref r0), .val (.long j1), .second, .val .null, .val .null, .val (.int i4), .val (.long j5), .second, .val (.long j6), .second, .val (.long j7), .second, .val (.int i8), .val (.long j9), .second]
theorem own_pd7 : parseMethodDescriptor "(JLjava/lang/String;Ljava/lang/String;IJJ)V" = some ⟨[.long, (.object "java/lang/String"), (.object "java/lang/String"), .int, .long, .long], none⟩ := by decide +kernel
theorem own_d7_0 : decode prog_32_method_1_code 0 = .ok (.aload_n 0, 1) := by decide +kernel
theorem own_d7_1 : decode prog_32_method_1_code 1 = .ok (.lload_n 1, 1) := by decide +kernel
theorem own_d7_2 : decode prog_32_method_1_code 2 = .ok (.aload_n 3, 1) := by decide +kernel
theorem own_d7_3 : decode prog_32_method_1_code 3 = .ok (.aload 4, 2) := by decide +kernel
theorem own_d7_5 : decode prog_32_method_1_code 5 = .ok (.iload 5, 2) := by decide +kernel
theorem own_d7_7 : decode prog_32_method_1_code 7 = .ok (.lload 6, 2) := by decide +kernel
theorem own_d7_9 : decode prog_32_method_1_code 9 = .ok (.lload 6, 2) := by decide +kernel
theorem own_d7_11 : decode prog_32_method_1_code 11 = .ok (.invokespecial 1, 3) := by decide +kernel
theorem own_d7_14 : decode prog_32_method_1_code 14 = .ok (.aload_n 0, 1) := by decide +kernel
theorem own_d7_15 : decode prog_32_method_1_code 15 = .ok (.lload 8, 2) := by decide +kernel
theorem own_d7_17 : decode prog_32_method_1_code 17 = .ok (.putfield 7, 3) := by decide +kernel
theorem own_d7_20 : decode prog_32_method_1_code 20 = .ok (.aload_n 0, 1) := by decide +kernel
theorem own_d7_21 : decode prog_32_method_1_code 21 = .ok (.lload 10, 2) := by decide +kernel
theorem own_d7_23 : decode prog_32_method_1_code 23 = .ok (.putfield 13, 3) := by decide +kernel
theorem own_d7_26 : decode prog_32_method_1_code 26 = .ok (.aload_n 0, 1) := by decide +kernel
theorem own_d7_27 : decode prog_32_method_1_code 27 = .ok (.iload 12, 2) := by decide +kernel
theorem own_d7_29 : decode prog_32_method_1_code 29 = .ok (.putfield 16, 3) := by decide +kernel
theorem own_d7_32 : decode prog_32_method_1_code 32 = .ok (.aload_n 0, 1) := by decide +kernel
theorem own_d7_33 : decode prog_32_method_1_code 33 = .ok (.lload 13, 2) := by decide +kernel
theorem own_d7_35 : decode prog_32_method_1_code 35 = .ok (.putfield 20, 3) := by decide +kernel
theorem own_d7_38 : decode prog_32_method_1_code 38 = .ok (.return_, 1) := by decide +kernel
theorem own_pn8 : plainName "com/example/quayside/quayside/core/FileEntry" = true := by first | (simp [plainName, overriddenIn]; done) | decide +kernel
theorem own_ef7 (m : MethodId) (x0 : Addr) (x1 : Int64) (x4 : Int32) (x5 : Int64) (x6 : Int64) (x7 : Int64) (x8 : Int32) (x9 : Int64) : entryFrame m #[(.ref x0), (.long x1), .null, .null, (.int x4), (.long x5), (.long x6), (.long x7), (.int x8), (.long x9)] 15 = mkF m 0 #[.val (.ref x0), .val (.long x1), .second, .val .null, .val .null, .val (.int x4), .val (.long x5), .second, .val (.long x6), .second, .val (.long x7), .second, .val (.int x8), .val (.long x9), .second] [] := by first | (simp [entryFrame, mkF, argsToLocals, Value.category]; done) | rfl
def own_Q7 (Z : State) (r0 : Addr) (j1 : Int64) (i4 : Int32) (j5 : Int64) (j6 : Int64) (j7 : Int64) (i8 : Int32) (j9 : Int64) (h0 : Heap) (n0 : Nat) (v : Option Value) (h : Heap) (L : List Loc) : Prop := v = none ∧ Fr n0 L ∧ Keep h0 h [r0] ∧ Exa Z h r0 own_s6
abbrev own_y6 : MethodName := (⟨"com/example/quayside/quayside/core/FileEntry", "<init>", "(JLjava/lang/String;Ljava/lang/String;IJJJIJ)V"⟩ : MethodName)
set_option maxRecDepth 65536 in
set_option maxHeartbeats 40000000 in
theorem own_rm7 (l : Launch) (Z : State) (a0 : Array Value) (hw : ∀ d ∈ tables_1, d.before a0 Z = true) (ws : List Jvm.Cond) (r0 : Addr) (j1 : Int64) (i4 : Int32) (j5 : Int64) (j6 : Int64) (j7 : Int64) (i8 : Int32) (j9 : Int64) (h0 : Heap) (n0 : Nat) (Z0 : n0 ≤ h0.size) (P0 : Fld Z h0 r0 own_s4 "id" "J" (.long (0 : Int64))) (P1 : Fld Z h0 r0 own_s4 "owner" own_s7 .null) (P2 : Fld Z h0 r0 own_s4 "group" own_s7 .null) (P3 : Fld Z h0 r0 own_s4 "permission" "I" (.int (0 : Int32))) (P4 : Fld Z h0 r0 own_s4 "modificationTime" "J" (.long (0 : Int64))) (P5 : Fld Z h0 r0 own_s4 "accessTime" "J" (.long (0 : Int64))) (P6 : Fld Z h0 r0 own_s6 "length" "J" (.long (0 : Int64))) (P7 : Fld Z h0 r0 own_s6 "blockSize" "J" (.long (0 : Int64))) (P8 : Fld Z h0 r0 own_s6 "replication" "I" (.int (0 : Int32))) (P9 : Fld Z h0 r0 own_s6 "blob" "J" (.long (0 : Int64))) (P10 : Exa Z h0 r0 own_s6) (P11 : n0 ≤ r0) :
    own_MF l Z own_y6 prog_32_method_1_code 15 none ws ({ frames := 2, cells := 0, slots := 0, locals := 33 } : Room) #[(.ref r0), (.long j1), .null, .null, (.int i4), (.long j5), (.long j6), (.long j7), (.int i8), (.long j9)] h0 (own_Q7 Z r0 j1 i4 j5 j6 j7 i8 j9 h0 n0) := by
 refine own_start (plainFor_of_name own_pn8) fun p e s m below meth c s₁ hx hby hret hlk hml hZ hown hnm X0 e0 => ?_
 have N0 := Fr.nil n0
 have K0 : Keep h0 h0 [r0] := Keep.refl h0 _
 rw [own_ef7]
 refine ownE.go (f' := (mkF m 11 (own_l1 j1 i4 j5 j6 j7 i8 j9 r0) [(.long j5), (.long j5), (.int i4), .null, .null, (.long j1), (.ref r0)])) (fun t kt => XS.aloadN X0.here hx rfl (hb hby own_d7_0) rfl rfl (XS.lloadN X0.here hx rfl (hb hby own_d7_1) rfl (XS.aloadN X0.here hx rfl (hb hby own_d7_2) rfl rfl (XS.aload X0.here hx rfl (hb hby own_d7_3) rfl rfl (XS.iload X0.here hx rfl (hb hby own_d7_5) rfl (XS.lload X0.here hx rfl (hb hby own_d7_7) rfl (XS.lload X0.here hx rfl (hb hby own_d7_9) rfl kt))))))) ?_
 obtain ⟨_, _, ⟨T1, L1, k1, n1⟩, -, X1, ⟨Lc1, hQ1, l1, y1, z1⟩, st1⟩ := X0.specialBack hx (y := own_y5) rfl hown (mvT hZ (own_w hw 39 rfl)) (mvT hZ (own_w hw 40 rfl)) (mvT hZ (own_w hw 43 rfl)) (by decide) (backOf (W := 0) (own_rm8 l Z a0 hw [] r0 j1 i4 j5 j5 h0 n0 (Nat.le_trans Z0 K0.1) P0 P1 P2 P3 P4 P5 P6 P7 P8 P9 P10 P11) hZ (own_w hw 43 rfl) (own_w hw 42 rfl) (by decide) (by decide)) (g := (mkF m 11 (own_l1 j1 i4 j5 j6 j7 i8 j9 r0) [(.long j5), (.long j5), (.int i4), .null, .null, (.long j1), (.ref r0)])) rfl (by rw [hml]; rfl) (Steps.refl _) (a := r0) (argsL := [(.long j1), .null, .null, (.int i4), (.long j5), (.long j5)]) (rest := []) (lenOf own_pd7 rfl) rfl (Nat.le_of_eq rfl) (hb hby own_d7_11) (fun _ _ => ⟨rfl, e0, (by decide : 0 + 0 ≤ _), (by decide : 0 + 0 ≤ _)⟩)
 dsimp only [Pt.U, Pt.locs, Pt.cells, Pt.slots] at X1 l1 y1 z1 st1 hQ1
 subst l1 y1 z1
 obtain ⟨rfl, N1q, K1q, f1_0, f1_1, f1_2, f1_3, f1_4⟩ := hQ1
 have q73 := P10.keep K1q
 have K1 : Keep h0 T1.heap [r0] := K0.trans K1q (allS (Or.inl (List.mem_of_getElem? (i := 0) rfl)) all0)
 have N1 := Fr.app N0 N1q
 refine ownE.goS st1 ?_
 refine ownE.go (f' := (mkF m 17 (own_l1 j1 i4 j5 j6 j7 i8 j9 r0) [(.long j6), (.ref r0)])) (fun t kt => XS.aloadN X1.here hx rfl (hb hby own_d7_14) rfl rfl (XS.lload X1.here hx rfl (hb hby own_d7_15) rfl kt)) ?_
 obtain ⟨T2, h2, X2, e2, W2, st2⟩ := putF X1 hx hZ hown (host := "") (Or.inl (own_w hw 57 rfl)) Via.refl rfl f1_1 f1_0 (Or.inl (own_w hw 58 rfl)) (own_w hw 34 rfl) (ty := .long) (by decide) rfl rfl (g := (mkF m 17 (own_l1 j1 i4 j5 j6 j7 i8 j9 r0) [(.long j6), (.ref r0)])) rfl rfl (hb hby own_d7_17)
 have Fw2 : Fld Z h2 r0 own_s6 "length" "J" (.long j6) := f1_1.same W2
 have q74 := f1_0.wr W2
 have q75 := f1_2.other W2 (Or.inr (slot_ne (Or.inr (own_w hw 60 rfl)) (Or.inl (own_w hw 58 rfl)) (by decide) (t := .long) (t' := .long) (by decide) (by decide)))
 have q76 := f1_3.other W2 (Or.inr (slot_ne (Or.inl (own_w hw 62 rfl)) (Or.inl (own_w hw 58 rfl)) (by decide) (t := .int) (t' := .long) (by decide) (by decide)))
 have q77 := f1_4.other W2 (Or.inr (slot_ne (Or.inr (own_w hw 64 rfl)) (Or.inl (own_w hw 58 rfl)) (by decide) (t := .long) (t' := .long) (by decide) (by decide)))
 have K2 : Keep h0 h2 [r0] := K1.wr W2 (Or.inl (List.mem_of_getElem? (i := 0) rfl))
 have N2 := Fr.snoc X2 N1 P11
 refine ownE.go st2 ?_
 refine ownE.go (f' := (mkF m 23 (own_l1 j1 i4 j5 j6 j7 i8 j9 r0) [(.long j7), (.ref r0)])) (fun t kt => XS.aloadN X2.here hx rfl (hb hby own_d7_20) rfl rfl (XS.lload X2.here hx rfl (hb hby own_d7_21) rfl kt)) ?_
 obtain ⟨T3, h3, X3, e3, W3, st3⟩ := putF X2 hx hZ hown (host := "") (Or.inl (own_w hw 59 rfl)) Via.refl e2 q75 q74 (Or.inr ⟨(own_w hw 60 rfl), rfl, hnm⟩) (own_w hw 34 rfl) (ty := .long) (by decide) rfl rfl (g := (mkF m 23 (own_l1 j1 i4 j5 j6 j7 i8 j9 r0) [(.long j7), (.ref r0)])) rfl rfl (hb hby own_d7_23)
 have Fw3 : Fld Z h3 r0 own_s6 "blockSize" "J" (.long j7) := q75.same W3
 have q78 := q74.wr W3
 have q79 := Fw2.other W3 (Or.inr (slot_ne (Or.inl (own_w hw 58 rfl)) (Or.inr (own_w hw 60 rfl)) (by decide) (t := .long) (t' := .long) (by decide) (by decide)))
 have q80 := q76.other W3 (Or.inr (slot_ne (Or.inl (own_w hw 62 rfl)) (Or.inr (own_w hw 60 rfl)) (by decide) (t := .int) (t' := .long) (by decide) (by decide)))
 have q81 := q77.other W3 (Or.inr (slot_ne (Or.inr (own_w hw 64 rfl)) (Or.inr (own_w hw 60 rfl)) (by decide) (t := .long) (t' := .long) (by decide) (by decide)))
 have K3 : Keep h0 h3 [r0] := K2.wr W3 (Or.inl (List.mem_of_getElem? (i := 0) rfl))
 have N3 := Fr.snoc X3 N2 P11
 refine ownE.go st3 ?_
 refine ownE.go (f' := (mkF m 29 (own_l1 j1 i4 j5 j6 j7 i8 j9 r0) [(.int i8), (.ref r0)])) (fun t kt => XS.aloadN X3.here hx rfl (hb hby own_d7_26) rfl rfl (XS.iload X3.here hx rfl (hb hby own_d7_27) rfl kt)) ?_
 obtain ⟨T4, h4, X4, e4, W4, st4⟩ := putF X3 hx hZ hown (host := "") (Or.inl (own_w hw 61 rfl)) Via.refl e3 q80 q78 (Or.inl (own_w hw 62 rfl)) (own_w hw 34 rfl) (ty := .int) (by decide) rfl rfl (g := (mkF m 29 (own_l1 j1 i4 j5 j6 j7 i8 j9 r0) [(.int i8), (.ref r0)])) rfl rfl (hb hby own_d7_29)
 have Fw4 : Fld Z h4 r0 own_s6 "replication" "I" (.int i8) := q80.same W4
 have q82 := q78.wr W4
 have q83 := q79.other W4 (Or.inr (slot_ne (Or.inl (own_w hw 58 rfl)) (Or.inl (own_w hw 62 rfl)) (by decide) (t := .long) (t' := .int) (by decide) (by decide)))
 have q84 := Fw3.other W4 (Or.inr (slot_ne (Or.inr (own_w hw 60 rfl)) (Or.inl (own_w hw 62 rfl)) (by decide) (t := .long) (t' := .int) (by decide) (by decide)))
 have q85 := q81.other W4 (Or.inr (slot_ne (Or.inr (own_w hw 64 rfl)) (Or.inl (own_w hw 62 rfl)) (by decide) (t := .long) (t' := .int) (by decide) (by decide)))
 have K4 : Keep h0 h4 [r0] := K3.wr W4 (Or.inl (List.mem_of_getElem? (i := 0) rfl))
 have N4 := Fr.snoc X4 N3 P11
 refine ownE.go st4 ?_
 refine ownE.go (f' := (mkF m 35 (own_l1 j1 i4 j5 j6 j7 i8 j9 r0) [(.long j9), (.ref r0)])) (fun t kt => XS.aloadN X4.here hx rfl (hb hby own_d7_32) rfl rfl (XS.lload X4.here hx rfl (hb hby own_d7_33) rfl kt)) ?_
 obtain ⟨T5, h5, X5, e5, W5, st5⟩ := putF X4 hx hZ hown (host := "") (Or.inl (own_w hw 63 rfl)) Via.refl e4 q85 q82 (Or.inr ⟨(own_w hw 64 rfl), rfl, hnm⟩) (own_w hw 34 rfl) (ty := .long) (by decide) rfl rfl (g := (mkF m 35 (own_l1 j1 i4 j5 j6 j7 i8 j9 r0) [(.long j9), (.ref r0)])) rfl rfl (hb hby own_d7_35)
 have Fw5 : Fld Z h5 r0 own_s6 "blob" "J" (.long j9) := q85.same W5
 have q86 := q82.wr W5
 have q87 := q83.other W5 (Or.inr (slot_ne (Or.inl (own_w hw 58 rfl)) (Or.inr (own_w hw 64 rfl)) (by decide) (t := .long) (t' := .long) (by decide) (by decide)))
 have q88 := q84.other W5 (Or.inr (slot_ne (Or.inr (own_w hw 60 rfl)) (Or.inr (own_w hw 64 rfl)) (by decide) (t := .long) (t' := .long) (by decide) (by decide)))
 have q89 := Fw4.other W5 (Or.inr (slot_ne (Or.inl (own_w hw 62 rfl)) (Or.inr (own_w hw 64 rfl)) (by decide) (t := .int) (t' := .long) (by decide) (by decide)))
 have K5 : Keep h0 h5 [r0] := K4.wr W5 (Or.inl (List.mem_of_getElem? (i := 0) rfl))
 have N5 := Fr.snoc X5 N4 P11
 refine ownE.go st5 ?_
 refine ownE.retV X5 hx hlk hret (hb hby own_d7_38) ?_ (by decide) (by decide)
 show own_Q7 Z r0 j1 i4 j5 j6 j7 i8 j9 h0 n0 _ T5.heap _
 rw [e5]
 exact ⟨rfl, N5, K5, q86⟩
theorem own_d13_0 : decode prog_25_method_1_code 0 = .ok (.aload_n 0, 1) := by decide +kernel
theorem own_d13_1 : decode prog_25_method_1_code 1 = .ok (.invokespecial 1, 3) := by decide +kernel
theorem own_d13_4 : decode prog_25_method_1_code 4 = .ok (.aload_n 0, 1) := by decide +kernel
theorem own_d13_5 : decode prog_25_method_1_code 5 = .ok (.iconst 1, 1) := by decide +kernel
theorem own_d13_6 : decode prog_25_method_1_code 6 = .ok (.putfield 7, 3) := by decide +kernel
theorem own_d13_9 : decode prog_25_method_1_code 9 = .ok (.aload_n 0, 1) := by decide +kernel
theorem own_d13_10 : decode prog_25_method_1_code 10 = .ok (.aload_n 1, 1) := by decide +kernel
theorem own_d13_11 : decode prog_25_method_1_code 11 = .ok (.putfield 13, 3) := by decide +kernel
theorem own_d13_14 : decode prog_25_method_1_code 14 = .ok (.aload_n 0, 1) := by decide +kernel
theorem own_d13_15 : decode prog_25_method_1_code 15 = .ok (.aload_n 2, 1) := by decide +kernel
theorem own_d13_16 : decode prog_25_method_1_code 16 = .ok (.putfield 17, 3) := by decide +kernel
theorem own_d13_19 : decode prog_25_method_1_code 19 = .ok (.return_, 1) := by decide +kernel
theorem own_pn9 : plainName "com/example/quayside/quayside/core/Entries$Link" = true := by first | (simp [plainName, overriddenIn]; done) | decide +kernel
theorem own_ef13 (m : MethodId) (x0 : Addr) (x1 : Addr) (x2 : Addr) : entryFrame m #[(.ref x0), (.ref x1), (.ref x2)] 3 = mkF m 0 #[.val (.ref x0), .val (.ref x1), .val (.ref x2)] [] := by first | (simp [entryFrame, mkF, argsToLocals, Value.category]; done) | rfl
def own_Q13 (Z : State) (r0 : Addr) (r1 : Addr) (r2 : Addr) (h0 : Heap) (n0 : Nat) (v : Option Value) (h : Heap) (L : List Loc) : Prop := v = none ∧ Fr n0 L ∧ Keep h0 h [r0] ∧ Exa Z h r0 own_s0 ∧ Fld Z h r0 own_s0 "name" own_s7 (.ref r1) ∧ Fld Z h r0 own_s0 "entry" own_s5 (.ref r2) ∧ Fld Z h r0 own_s0 "left" own_s1 .null ∧ Fld Z h r0 own_s0 "right" own_s1 .null ∧ Fld Z h r0 own_s0 "size" "I" (.int (1 : Int32))
abbrev own_y7 : MethodName := (⟨"com/example/quayside/quayside/core/Entries$Link", "<init>", "(Ljava/lang/String;Lcom/example/quayside/quayside/core/Entry;)V"⟩ : MethodName)
set_option maxRecDepth 65536 in
set_option maxHeartbeats 40000000 in
theorem own_rm13 (l : Launch) (Z : State) (a0 : Array Value) (hw : ∀ d ∈ tables_1, d.before a0 Z = true) (ws : List Jvm.Cond) (r0 : Addr) (r1 : Addr) (r2 : Addr) (h0 : Heap) (n0 : Nat) (Z0 : n0 ≤ h0.size) (P0 : Fld Z h0 r0 own_s0 "name" own_s7 .null) (P1 : Fld Z h0 r0 own_s0 "entry" own_s5 .null) (P2 : Fld Z h0 r0 own_s0 "left" own_s1 .null) (P3 : Fld Z h0 r0 own_s0 "right" own_s1 .null) (P4 : Fld Z h0 r0 own_s0 "size" "I" (.int (0 : Int32))) (P5 : Exa Z h0 r0 own_s0) (P6 : n0 ≤ r0) :
    own_MF l Z own_y7 prog_25_method_1_code 3 none ws own_R2 #[(.ref r0), (.ref r1), (.ref r2)] h0 (own_Q13 Z r0 r1 r2 h0 n0) := by
 refine own_start (plainFor_of_name own_pn9) fun p e s m below meth c s₁ hx hby hret hlk hml hZ hown hnm X0 e0 => ?_
 have N0 := Fr.nil n0
 have K0 : Keep h0 h0 [r0] := Keep.refl h0 _
 rw [own_ef13]
 refine ownE.go (f' := (mkF m 1 #[.val (.ref r0), .val (.ref r1), .val (.ref r2)] [(.ref r0)])) (fun t kt => XS.aloadN X0.here hx rfl (hb hby own_d13_0) rfl rfl kt) ?_
 obtain ⟨T1, X1, e1, st1⟩ := initO X0 hx hZ hown (own_w hw 91 rfl) (own_w hw 20 rfl) (own_w hw 21 rfl) e0 (g := (mkF m 1 #[.val (.ref r0), .val (.ref r1), .val (.ref r2)] [(.ref r0)])) rfl (by rw [hml]; rfl) rfl (hb hby own_d13_1) (by decide) (W := 0) (by show 2 * 0 + _ ≤ _; exact Nat.le_of_eq rfl) (by decide)
 refine ownE.go st1 ?_
 refine ownE.go (f' := (mkF m 6 #[.val (.ref r0), .val (.ref r1), .val (.ref r2)] [(.int (1 : Int32)), (.ref r0)])) (fun t kt => XS.aloadN X1.here hx rfl (hb hby own_d13_4) rfl rfl (XS.iconst X1.here hx rfl (hb hby own_d13_5) kt)) ?_
 obtain ⟨T2, h2, X2, e2, W2, st2⟩ := putF X1 hx hZ hown (host := "") (Or.inl (own_w hw 92 rfl)) Via.refl e1 P4 P5 (Or.inl (own_w hw 93 rfl)) (own_w hw 86 rfl) (ty := .int) (by decide) rfl rfl (g := (mkF m 6 #[.val (.ref r0), .val (.ref r1), .val (.ref r2)] [(.int (1 : Int32)), (.ref r0)])) rfl rfl (hb hby own_d13_6)
 have Fw2 : Fld Z h2 r0 own_s0 "size" "I" (.int (1 : Int32)) := P4.same W2
 have q90 := P0.other W2 (Or.inr (slot_ne (Or.inr (own_w hw 95 rfl)) (Or.inl (own_w hw 93 rfl)) (by decide) (t := (.object own_s2)) (t' := .int) (by decide) (by decide)))
 have q91 := P1.other W2 (Or.inr (slot_ne (Or.inr (own_w hw 97 rfl)) (Or.inl (own_w hw 93 rfl)) (by decide) (t := (.object own_s4)) (t' := .int) (by decide) (by decide)))
 have q92 := P2.other W2 (Or.inr (slot_ne (Or.inl (own_w hw 144 rfl)) (Or.inl (own_w hw 93 rfl)) (by decide) (t := (.object own_s0)) (t' := .int) (by decide) (by decide)))
 have q93 := P3.other W2 (Or.inr (slot_ne (Or.inl (own_w hw 139 rfl)) (Or.inl (own_w hw 93 rfl)) (by decide) (t := (.object own_s0)) (t' := .int) (by decide) (by decide)))
 have q94 := P5.wr W2
 have K2 : Keep h0 h2 [r0] := K0.wr W2 (Or.inl (List.mem_of_getElem? (i := 0) rfl))
 have N2 := Fr.snoc X2 N0 P6
 refine ownE.go st2 ?_
 refine ownE.go (f' := (mkF m 11 #[.val (.ref r0), .val (.ref r1), .val (.ref r2)] [(.ref r1), (.ref r0)])) (fun t kt => XS.aloadN X2.here hx rfl (hb hby own_d13_9) rfl rfl (XS.aloadN X2.here hx rfl (hb hby own_d13_10) rfl rfl kt)) ?_
 obtain ⟨T3, h3, X3, e3, W3, st3⟩ := putF X2 hx hZ hown (host := "") (Or.inl (own_w hw 94 rfl)) Via.refl e2 q90 q94 (Or.inr ⟨(own_w hw 95 rfl), rfl, hnm⟩) (own_w hw 86 rfl) (ty := (.object own_s2)) (by decide) rfl rfl (g := (mkF m 11 #[.val (.ref r0), .val (.ref r1), .val (.ref r2)] [(.ref r1), (.ref r0)])) rfl rfl (hb hby own_d13_11)
 have Fw3 : Fld Z h3 r0 own_s0 "name" own_s7 (.ref r1) := q90.same W3
 have q95 := q91.other W3 (Or.inr (slot_ne (Or.inr (own_w hw 97 rfl)) (Or.inr (own_w hw 95 rfl)) (by decide) (t := (.object own_s4)) (t' := (.object own_s2)) (by decide) (by decide)))
 have q96 := q92.other W3 (Or.inr (slot_ne (Or.inl (own_w hw 144 rfl)) (Or.inr (own_w hw 95 rfl)) (by decide) (t := (.object own_s0)) (t' := (.object own_s2)) (by decide) (by decide)))
 have q97 := q93.other W3 (Or.inr (slot_ne (Or.inl (own_w hw 139 rfl)) (Or.inr (own_w hw 95 rfl)) (by decide) (t := (.object own_s0)) (t' := (.object own_s2)) (by decide) (by decide)))
 have q98 := Fw2.other W3 (Or.inr (slot_ne (Or.inl (own_w hw 93 rfl)) (Or.inr (own_w hw 95 rfl)) (by decide) (t := .int) (t' := (.object own_s2)) (by decide) (by decide)))
 have q99 := q94.wr W3
 have K3 : Keep h0 h3 [r0] := K2.wr W3 (Or.inl (List.mem_of_getElem? (i := 0) rfl))
 have N3 := Fr.snoc X3 N2 P6
 refine ownE.go st3 ?_
 refine ownE.go (f' := (mkF m 16 #[.val (.ref r0), .val (.ref r1), .val (.ref r2)] [(.ref r2), (.ref r0)])) (fun t kt => XS.aloadN X3.here hx rfl (hb hby own_d13_14) rfl rfl (XS.aloadN X3.here hx rfl (hb hby own_d13_15) rfl rfl kt)) ?_
 obtain ⟨T4, h4, X4, e4, W4, st4⟩ := putF X3 hx hZ hown (host := "") (Or.inl (own_w hw 96 rfl)) Via.refl e3 q95 q99 (Or.inr ⟨(own_w hw 97 rfl), rfl, hnm⟩) (own_w hw 86 rfl) (ty := (.object own_s4)) (by decide) rfl rfl (g := (mkF m 16 #[.val (.ref r0), .val (.ref r1), .val (.ref r2)] [(.ref r2), (.ref r0)])) rfl rfl (hb hby own_d13_16)
 have Fw4 : Fld Z h4 r0 own_s0 "entry" own_s5 (.ref r2) := q95.same W4
 have q100 := Fw3.other W4 (Or.inr (slot_ne (Or.inr (own_w hw 95 rfl)) (Or.inr (own_w hw 97 rfl)) (by decide) (t := (.object own_s2)) (t' := (.object own_s4)) (by decide) (by decide)))
 have q101 := q96.other W4 (Or.inr (slot_ne (Or.inl (own_w hw 144 rfl)) (Or.inr (own_w hw 97 rfl)) (by decide) (t := (.object own_s0)) (t' := (.object own_s4)) (by decide) (by decide)))
 have q102 := q97.other W4 (Or.inr (slot_ne (Or.inl (own_w hw 139 rfl)) (Or.inr (own_w hw 97 rfl)) (by decide) (t := (.object own_s0)) (t' := (.object own_s4)) (by decide) (by decide)))
 have q103 := q98.other W4 (Or.inr (slot_ne (Or.inl (own_w hw 93 rfl)) (Or.inr (own_w hw 97 rfl)) (by decide) (t := .int) (t' := (.object own_s4)) (by decide) (by decide)))
 have q104 := q99.wr W4
 have K4 : Keep h0 h4 [r0] := K3.wr W4 (Or.inl (List.mem_of_getElem? (i := 0) rfl))
 have N4 := Fr.snoc X4 N3 P6
 refine ownE.go st4 ?_
 refine ownE.retV X4 hx hlk hret (hb hby own_d13_19) ?_ (by decide) (by decide)
 show own_Q13 Z r0 r1 r2 h0 n0 _ T4.heap _
 rw [e4]
 exact ⟨rfl, N4, K4, q104, q100, Fw4, q101, q102, q103⟩
theorem own_d12_0 : decode prog_24_method_22_code 0 = .ok (.aload_n 0, 1) := by decide +kernel
theorem own_d12_1 : decode prog_24_method_22_code 1 = .ok (.ifnonnull 7, 3) := by decide +kernel
theorem own_d12_4 : decode prog_24_method_22_code 4 = .ok (.iconst 0, 1) := by decide +kernel
theorem own_d12_5 : decode prog_24_method_22_code 5 = .ok (.goto 7, 3) := by decide +kernel
theorem own_d12_12 : decode prog_24_method_22_code 12 = .ok (.ireturn, 1) := by decide +kernel
theorem own_ef12n (m : MethodId)  : entryFrame m #[.null] 1 = mkF m 0 #[.val .null] [] := by first | (simp [entryFrame, mkF, argsToLocals, Value.category]; done) | rfl
def own_Q12n (Z : State)  (h0 : Heap) (n0 : Nat) (v : Option Value) (h : Heap) (L : List Loc) : Prop := v = some (.int (0 : Int32)) ∧ Fr n0 L ∧ h = h0
abbrev own_y8 : MethodName := (⟨"com/example/quayside/quayside/core/Entries", "size", "(Lcom/example/quayside/quayside/core/Entries$Link;)I"⟩ : MethodName)
set_option maxRecDepth 65536 in
set_option maxHeartbeats 40000000 in
theorem own_rm12n (l : Launch) (Z : State) (a0 : Array Value) (hw : ∀ d ∈ tables_1, d.before a0 Z = true) (ws : List Jvm.Cond)  (h0 : Heap) (n0 : Nat) (Z0 : n0 ≤ h0.size) :
    own_MF l Z own_y8 prog_24_method_22_code 1 (some .int) ws own_R0 #[.null] h0 (own_Q12n Z  h0 n0) := by
 refine own_start (plainFor_of_name own_pn5) fun p e s m below meth c s₁ hx hby hret hlk hml hZ hown hnm X0 e0 => ?_
 have N0 := Fr.nil n0
 have K0 : Keep h0 h0 [] := Keep.refl h0 _
 rw [own_ef12n]
 refine ownE.go (f' := (mkF m 12 #[.val .null] [(.int (0 : Int32))])) (fun t kt => XS.aloadN X0.here hx rfl (hb hby own_d12_0) rfl rfl (XS.ifnonnullNo X0.here hx rfl (hb hby own_d12_1) rfl (XS.iconst X0.here hx rfl (hb hby own_d12_4) (XS.goto X0.here hx rfl (pc0 := 5) (pc' := 12) rfl (hb hby own_d12_5) (by decide) (by decide) kt)))) ?_
 refine ownE.retI X0 hx hlk hret (hb hby own_d12_12) ?_ (by decide) (by decide)
 show own_Q12n Z  h0 n0 _ s₁.heap _
 rw [e0]
 exact ⟨rfl, N0, rfl⟩
theorem own_d12_8 : decode prog_24_method_22_code 8 = .ok (.aload_n 0, 1) := by decide +kernel
theorem own_d12_9 : decode prog_24_method_22_code 9 = .ok (.getfield 126, 3) := by decide +kernel
theorem own_ef12r1 (m : MethodId) (x0 : Addr) : entryFrame m #[(.ref x0)] 1 = mkF m 0 #[.val (.ref x0)] [] := by first | (simp [entryFrame, mkF, argsToLocals, Value.category]; done) | rfl
def own_Q12r1 (Z : State) (r0 : Addr) (h0 : Heap) (n0 : Nat) (v : Option Value) (h : Heap) (L : List Loc) : Prop := v = some (.int (1 : Int32)) ∧ Fr n0 L ∧ h = h0
set_option maxRecDepth 65536 in
set_option maxHeartbeats 40000000 in
theorem own_rm12r1 (l : Launch) (Z : State) (a0 : Array Value) (hw : ∀ d ∈ tables_1, d.before a0 Z = true) (ws : List Jvm.Cond) (r0 : Addr) (h0 : Heap) (n0 : Nat) (Z0 : n0 ≤ h0.size) (P0 : Fld Z h0 r0 own_s0 "size" "I" (.int (1 : Int32))) :
    own_MF l Z own_y8 prog_24_method_22_code 1 (some .int) ws own_R0 #[(.ref r0)] h0 (own_Q12r1 Z r0 h0 n0) := by
 refine own_start (plainFor_of_name own_pn5) fun p e s m below meth c s₁ hx hby hret hlk hml hZ hown hnm X0 e0 => ?_
 have N0 := Fr.nil n0
 have K0 : Keep h0 h0 [] := Keep.refl h0 _
 rw [own_ef12r1]
 refine ownE.go (f' := (mkF m 9 #[.val (.ref r0)] [(.ref r0)])) (fun t kt => XS.aloadN X0.here hx rfl (hb hby own_d12_0) rfl rfl (XS.ifnonnullYes X0.here hx rfl (pc0 := 1) (pc' := 8) rfl (hb hby own_d12_1) rfl (by decide) (by decide) (XS.aloadN X0.here hx rfl (hb hby own_d12_8) rfl rfl kt))) ?_
 obtain ⟨T1, X1, e1, st1⟩ := own_getR X0 hx hZ hown (own_w hw 101 rfl) e0 P0 (g := (mkF m 9 #[.val (.ref r0)] [(.ref r0)])) rfl rfl (hb hby own_d12_9)
 refine ownE.go st1 ?_
 refine ownE.retI X1 hx hlk hret (hb hby own_d12_12) ?_ (by decide) (by decide)
 show own_Q12r1 Z r0 h0 n0 _ T1.heap _
 rw [e1]
 exact ⟨rfl, N0, rfl⟩
theorem own_ef12r2 (m : MethodId) (x0 : Addr) : entryFrame m #[(.ref x0)] 1 = mkF m 0 #[.val (.ref x0)] [] := by first | (simp [entryFrame, mkF, argsToLocals, Value.category]; done) | rfl
def own_Q12r2 (Z : State) (r0 : Addr) (h0 : Heap) (n0 : Nat) (v : Option Value) (h : Heap) (L : List Loc) : Prop := v = some (.int (2 : Int32)) ∧ Fr n0 L ∧ h = h0
set_option maxRecDepth 65536 in
set_option maxHeartbeats 40000000 in
theorem own_rm12r2 (l : Launch) (Z : State) (a0 : Array Value) (hw : ∀ d ∈ tables_1, d.before a0 Z = true) (ws : List Jvm.Cond) (r0 : Addr) (h0 : Heap) (n0 : Nat) (Z0 : n0 ≤ h0.size) (P0 : Fld Z h0 r0 own_s0 "size" "I" (.int (2 : Int32))) :
    own_MF l Z own_y8 prog_24_method_22_code 1 (some .int) ws own_R0 #[(.ref r0)] h0 (own_Q12r2 Z r0 h0 n0) := by
 refine own_start (plainFor_of_name own_pn5) fun p e s m below meth c s₁ hx hby hret hlk hml hZ hown hnm X0 e0 => ?_
 have N0 := Fr.nil n0
 have K0 : Keep h0 h0 [] := Keep.refl h0 _
 rw [own_ef12r2]
 refine ownE.go (f' := (mkF m 9 #[.val (.ref r0)] [(.ref r0)])) (fun t kt => XS.aloadN X0.here hx rfl (hb hby own_d12_0) rfl rfl (XS.ifnonnullYes X0.here hx rfl (pc0 := 1) (pc' := 8) rfl (hb hby own_d12_1) rfl (by decide) (by decide) (XS.aloadN X0.here hx rfl (hb hby own_d12_8) rfl rfl kt))) ?_
 obtain ⟨T1, X1, e1, st1⟩ := own_getR X0 hx hZ hown (own_w hw 101 rfl) e0 P0 (g := (mkF m 9 #[.val (.ref r0)] [(.ref r0)])) rfl rfl (hb hby own_d12_9)
 refine ownE.go st1 ?_
 refine ownE.retI X1 hx hlk hret (hb hby own_d12_12) ?_ (by decide) (by decide)
 show own_Q12r2 Z r0 h0 n0 _ T1.heap _
 rw [e1]
 exact ⟨rfl, N0, rfl⟩
theorem own_pd10 : parseMethodDescriptor "(Lcom/example/quayside/quayside/core/Entries$Link;)I" = some ⟨[(.object "com/example/quayside/quayside/core/Entries$Link")], some .int⟩ := by decide +kernel
theorem own_d25_0 : decode prog_24_method_21_code 0 = .ok (.aload_n 0, 1) := by decide +kernel
theorem own_d25_1 : decode prog_24_method_21_code 1 = .ok (.invokestatic 13, 3) := by decide +kernel
theorem own_d25_4 : decode prog_24_method_21_code 4 = .ok (.iconst 1, 1) := by decide +kernel
theorem own_d25_5 : decode prog_24_method_21_code 5 = .ok (.iadd, 1) := by decide +kernel
theorem own_d25_6 : decode prog_24_method_21_code 6 = .ok (.ireturn, 1) := by decide +kernel
theorem own_ef25n (m : MethodId)  : entryFrame m #[.null] 1 = mkF m 0 #[.val .null] [] := by first | (simp [entryFrame, mkF, argsToLocals, Value.category]; done) | rfl
def own_Q25n (Z : State)  (h0 : Heap) (n0 : Nat) (v : Option Value) (h : Heap) (L : List Loc) : Prop := v = some (.int (1 : Int32)) ∧ Fr n0 L ∧ h = h0
abbrev own_y9 : MethodName := (⟨"com/example/quayside/quayside/core/Entries", "weight", "(Lcom/example/quayside/quayside/core/Entries$Link;)I"⟩ : MethodName)
set_option maxRecDepth 65536 in
set_option maxHeartbeats 40000000 in
theorem own_rm25n (l : Launch) (Z : State) (a0 : Array Value) (hw : ∀ d ∈ tables_1, d.before a0 Z = true) (ws : List Jvm.Cond)  (h0 : Heap) (n0 : Nat) (Z0 : n0 ≤ h0.size) :
    own_MF l Z own_y9 prog_24_method_21_code 1 (some .int) ws own_R2 #[.null] h0 (own_Q25n Z  h0 n0) := by
 refine own_start (plainFor_of_name own_pn5) fun p e s m below meth c s₁ hx hby hret hlk hml hZ hown hnm X0 e0 => ?_
 have N0 := Fr.nil n0
 have K0 : Keep h0 h0 [] := Keep.refl h0 _
 rw [own_ef25n]
 refine ownE.go (f' := (mkF m 1 #[.val .null] [.null])) (fun t kt => XS.aloadN X0.here hx rfl (hb hby own_d25_0) rfl rfl kt) ?_
 obtain ⟨_, _, ⟨T1, L1, k1, n1⟩, -, X1, ⟨Lc1, hQ1, l1, y1, z1⟩, st1⟩ := Jvm.LawKit.callS X0 hx (y := own_y8) hown (mvT hZ (own_w hw 82 rfl)) (mvT hZ (own_w hw 83 rfl)) (mvT hZ (own_w hw 28 rfl)) (mvT hZ (own_w hw 84 rfl)) (by decide) (backOf (W := 0) (own_rm12n l Z a0 hw []  h0 n0 (Nat.le_trans Z0 K0.1) ) hZ (own_w hw 84 rfl) (own_w hw 28 rfl) (by decide) (by decide)) (g := (mkF m 1 #[.val .null] [.null])) rfl (by rw [hml]; rfl) (argsL := [.null]) (rest := []) (lenOf own_pd10 rfl) rfl (Nat.le_of_eq rfl) (hb hby own_d25_1) (fun _ _ => ⟨rfl, e0, (by decide : 0 + 0 ≤ _), (by decide : 0 + 0 ≤ _)⟩)
 dsimp only [Pt.U, Pt.locs, Pt.cells, Pt.slots] at X1 l1 y1 z1 st1 hQ1
 subst l1 y1 z1
 obtain ⟨rfl, N1q, e1⟩ := hQ1
 have N1 := Fr.app N0 N1q
 refine ownE.go st1 ?_
 refine ownE.go (f' := (mkF m 6 #[.val .null] [(.int (1 : Int32))])) (fun t kt => XS.iconst X1.here hx rfl (hb hby own_d25_4) (XS.iadd X1.here hx rfl (hb hby own_d25_5) rfl kt)) ?_
 refine ownE.retI X1 hx hlk hret (hb hby own_d25_6) ?_ (by decide) (by decide)
 show own_Q25n Z  h0 n0 _ T1.heap _
 rw [e1]
 exact ⟨rfl, N1, rfl⟩
theorem own_ef25r (m : MethodId) (x0 : Addr) : entryFrame m #[(.ref x0)] 1 = mkF m 0 #[.val (.ref x0)] [] := by first | (simp [entryFrame, mkF, argsToLocals, Value.category]; done) | rfl
def own_Q25r (Z : State) (r0 : Addr) (h0 : Heap) (n0 : Nat) (v : Option Value) (h : Heap) (L : List Loc) : Prop := v = some (.int (2 : Int32)) ∧ Fr n0 L ∧ h = h0
set_option maxRecDepth 65536 in
set_option maxHeartbeats 40000000 in
theorem own_rm25r (l : Launch) (Z : State) (a0 : Array Value) (hw : ∀ d ∈ tables_1, d.before a0 Z = true) (ws : List Jvm.Cond) (r0 : Addr) (h0 : Heap) (n0 : Nat) (Z0 : n0 ≤ h0.size) (P0 : Fld Z h0 r0 own_s0 "size" "I" (.int (1 : Int32))) :
    own_MF l Z own_y9 prog_24_method_21_code 1 (some .int) ws own_R2 #[(.ref r0)] h0 (own_Q25r Z r0 h0 n0) := by
 refine own_start (plainFor_of_name own_pn5) fun p e s m below meth c s₁ hx hby hret hlk hml hZ hown hnm X0 e0 => ?_
 have N0 := Fr.nil n0
 have K0 : Keep h0 h0 [] := Keep.refl h0 _
 rw [own_ef25r]
 refine ownE.go (f' := (mkF m 1 #[.val (.ref r0)] [(.ref r0)])) (fun t kt => XS.aloadN X0.here hx rfl (hb hby own_d25_0) rfl rfl kt) ?_
 obtain ⟨_, _, ⟨T1, L1, k1, n1⟩, -, X1, ⟨Lc1, hQ1, l1, y1, z1⟩, st1⟩ := Jvm.LawKit.callS X0 hx (y := own_y8) hown (mvT hZ (own_w hw 82 rfl)) (mvT hZ (own_w hw 83 rfl)) (mvT hZ (own_w hw 28 rfl)) (mvT hZ (own_w hw 84 rfl)) (by decide) (backOf (W := 0) (own_rm12r1 l Z a0 hw [] r0 h0 n0 (Nat.le_trans Z0 K0.1) P0) hZ (own_w hw 84 rfl) (own_w hw 28 rfl) (by decide) (by decide)) (g := (mkF m 1 #[.val (.ref r0)] [(.ref r0)])) rfl (by rw [hml]; rfl) (argsL := [(.ref r0)]) (rest := []) (lenOf own_pd10 rfl) rfl (Nat.le_of_eq rfl) (hb hby own_d25_1) (fun _ _ => ⟨rfl, e0, (by decide : 0 + 0 ≤ _), (by decide : 0 + 0 ≤ _)⟩)
 dsimp only [Pt.U, Pt.locs, Pt.cells, Pt.slots] at X1 l1 y1 z1 st1 hQ1
 subst l1 y1 z1
 obtain ⟨rfl, N1q, e1⟩ := hQ1
 have N1 := Fr.app N0 N1q
 refine ownE.go st1 ?_
 refine ownE.go (f' := (mkF m 6 #[.val (.ref r0)] [(.int (2 : Int32))])) (fun t kt => XS.iconst X1.here hx rfl (hb hby own_d25_4) (XS.iadd X1.here hx rfl (hb hby own_d25_5) rfl kt)) ?_
 refine ownE.retI X1 hx hlk hret (hb hby own_d25_6) ?_ (by decide) (by decide)
 show own_Q25r Z r0 h0 n0 _ T1.heap _
 rw [e1]
 exact ⟨rfl, N1, rfl⟩
theorem own_d24_0 : decode prog_24_method_20_code 0 = .ok (.aload_n 0, 1) := by decide +kernel
theorem own_d24_1 : decode prog_24_method_20_code 1 = .ok (.invokestatic 100, 3) := by decide +kernel
theorem own_d24_4 : decode prog_24_method_20_code 4 = .ok (.i2l, 1) := by decide +kernel
theorem own_d24_5 : decode prog_24_method_20_code 5 = .ok (.ldc2_w 129, 3) := by decide +kernel
theorem own_d24_8 : decode prog_24_method_20_code 8 = .ok (.aload_n 1, 1) := by decide +kernel
theorem own_d24_9 : decode prog_24_method_20_code 9 = .ok (.invokestatic 100, 3) := by decide +kernel
theorem own_d24_12 : decode prog_24_method_20_code 12 = .ok (.i2l, 1) := by decide +kernel
theorem own_d24_13 : decode prog_24_method_20_code 13 = .ok (.lmul, 1) := by decide +kernel
theorem own_d24_14 : decode prog_24_method_20_code 14 = .ok (.lcmp, 1) := by decide +kernel
theorem own_d24_15 : decode prog_24_method_20_code 15 = .ok (.ifCond .le 7, 3) := by decide +kernel
theorem own_d24_22 : decode prog_24_method_20_code 22 = .ok (.iconst 0, 1) := by decide +kernel
theorem own_d24_23 : decode prog_24_method_20_code 23 = .ok (.ireturn, 1) := by decide +kernel
theorem own_ef24nn (m : MethodId)  : entryFrame m #[.null, .null] 2 = mkF m 0 #[.val .null, .val .null] [] := by first | (simp [entryFrame, mkF, argsToLocals, Value.category]; done) | rfl
def own_Q24nn (Z : State)  (h0 : Heap) (n0 : Nat) (v : Option Value) (h : Heap) (L : List Loc) : Prop := v = some (.int (0 : Int32)) ∧ Fr n0 L ∧ h = h0
abbrev own_y10 : MethodName := (⟨"com/example/quayside/quayside/core/Entries", "outweighs", "(Lcom/example/quayside/quayside/core/Entries$Link;Lcom/example/quayside/quayside/core/Entries$Link;)Z"⟩ : MethodName)
set_option maxRecDepth 65536 in
set_option maxHeartbeats 40000000 in
theorem own_rm24nn (l : Launch) (Z : State) (a0 : Array Value) (hw : ∀ d ∈ tables_1, d.before a0 Z = true) (ws : List Jvm.Cond)  (h0 : Heap) (n0 : Nat) (Z0 : n0 ≤ h0.size) :
    own_MF l Z own_y10 prog_24_method_20_code 2 (some .boolean) ws ({ frames := 2, cells := 0, slots := 0, locals := 28 } : Room) #[.null, .null] h0 (own_Q24nn Z  h0 n0) := by
 refine own_start (plainFor_of_name own_pn5) fun p e s m below meth c s₁ hx hby hret hlk hml hZ hown hnm X0 e0 => ?_
 have N0 := Fr.nil n0
 have K0 : Keep h0 h0 [] := Keep.refl h0 _
 rw [own_ef24nn]
 refine ownE.go (f' := (mkF m 1 #[.val .null, .val .null] [.null])) (fun t kt => XS.aloadN X0.here hx rfl (hb hby own_d24_0) rfl rfl kt) ?_
 obtain ⟨_, _, ⟨T1, L1, k1, n1⟩, -, X1, ⟨Lc1, hQ1, l1, y1, z1⟩, st1⟩ := Jvm.LawKit.callS X0 hx (y := own_y9) hown (mvT hZ (own_w hw 148 rfl)) (mvT hZ (own_w hw 149 rfl)) (mvT hZ (own_w hw 28 rfl)) (mvT hZ (own_w hw 150 rfl)) (by decide) (backOf (W := 0) (own_rm25n l Z a0 hw []  h0 n0 (Nat.le_trans Z0 K0.1) ) hZ (own_w hw 150 rfl) (own_w hw 28 rfl) (by decide) (by decide)) (g := (mkF m 1 #[.val .null, .val .null] [.null])) rfl (by rw [hml]; rfl) (argsL := [.null]) (rest := []) (lenOf own_pd10 rfl) rfl (Nat.le_of_eq rfl) (hb hby own_d24_1) (fun _ _ => ⟨rfl, e0, (by decide : 0 + 0 ≤ _), (by decide : 0 + 0 ≤ _)⟩)
 dsimp only [Pt.U, Pt.locs, Pt.cells, Pt.slots] at X1 l1 y1 z1 st1 hQ1
 subst l1 y1 z1
 obtain ⟨rfl, N1q, e1⟩ := hQ1
 have N1 := Fr.app N0 N1q
 refine ownE.go st1 ?_
 refine ownE.go (f' := (mkF m 9 #[.val .null, .val .null] [.null, (.long (3 : Int64)), (.long (1 : Int64))])) (fun t kt => XS.i2l X1.here hx rfl (hb hby own_d24_4) rfl (X1.ldc2Long hx hown (mvT hZ (own_w hw 151 rfl)) (g := (mkF m 5 #[.val .null, .val .null] [(.long (1 : Int64))])) rfl (hb hby own_d24_5) _ (XS.aloadN X1.here hx rfl (hb hby own_d24_8) rfl rfl kt))) ?_
 obtain ⟨_, _, ⟨T2, L2, k2, n2⟩, -, X2, ⟨Lc2, hQ2, l2, y2, z2⟩, st2⟩ := Jvm.LawKit.callS X1 hx (y := own_y9) hown (mvT hZ (own_w hw 148 rfl)) (mvT hZ (own_w hw 149 rfl)) (mvT hZ (own_w hw 28 rfl)) (mvT hZ (own_w hw 150 rfl)) (by decide) (backOf (W := 4) (own_rm25n l Z a0 hw []  h0 n0 (Nat.le_trans Z0 K0.1) ) hZ (own_w hw 150 rfl) (own_w hw 28 rfl) (by decide) (by decide)) (g := (mkF m 9 #[.val .null, .val .null] [.null, (.long (3 : Int64)), (.long (1 : Int64))])) rfl (by rw [hml]; rfl) (argsL := [.null]) (rest := [(.long (3 : Int64)), (.long (1 : Int64))]) (lenOf own_pd10 rfl) rfl (Nat.le_of_eq rfl) (hb hby own_d24_9) (fun _ _ => ⟨rfl, e1, (by decide : 0 + 0 ≤ _), (by decide : 0 + 0 ≤ _)⟩)
 dsimp only [Pt.U, Pt.locs, Pt.cells, Pt.slots] at X2 l2 y2 z2 st2 hQ2
 subst l2 y2 z2
 obtain ⟨rfl, N2q, e2⟩ := hQ2
 have N2 := Fr.app N1 N2q
 refine ownE.go st2 ?_
 refine ownE.go (f' := (mkF m 23 #[.val .null, .val .null] [(.int (0 : Int32))])) (fun t kt => XS.i2l X2.here hx rfl (hb hby own_d24_12) rfl (XS.lmul X2.here hx rfl (hb hby own_d24_13) rfl (XS.lcmp X2.here hx rfl (hb hby own_d24_14) rfl (XS.ifYes X2.here hx rfl (pc0 := 15) (pc' := 22) rfl (hb hby own_d24_15) rfl (Jvm.Free.XT.i0_le_t (by decide)) (by decide) (by decide) (XS.iconst X2.here hx rfl (hb hby own_d24_22) kt))))) ?_
 refine ownE.retN X2 hx hlk (t := .boolean) hret (by simp) (hb hby own_d24_23) ?_ (by decide) (by decide)
 show own_Q24nn Z  h0 n0 _ T2.heap _
 rw [e2]
 exact ⟨rfl, N2, rfl⟩
theorem own_ef24rn (m : MethodId) (x0 : Addr) : entryFrame m #[(.ref x0), .null] 2 = mkF m 0 #[.val (.ref x0), .val .null] [] := by first | (simp [entryFrame, mkF, argsToLocals, Value.category]; done) | rfl
def own_Q24rn (Z : State) (r0 : Addr) (h0 : Heap) (n0 : Nat) (v : Option Value) (h : Heap) (L : List Loc) : Prop := v = some (.int (0 : Int32)) ∧ Fr n0 L ∧ h = h0
set_option maxRecDepth 65536 in
set_option maxHeartbeats 40000000 in
theorem own_rm24rn (l : Launch) (Z : State) (a0 : Array Value) (hw : ∀ d ∈ tables_1, d.before a0 Z = true) (ws : List Jvm.Cond) (r0 : Addr) (h0 : Heap) (n0 : Nat) (Z0 : n0 ≤ h0.size) (P0 : Fld Z h0 r0 own_s0 "size" "I" (.int (1 : Int32))) :
    own_MF l Z own_y10 prog_24_method_20_code 2 (some .boolean) ws ({ frames := 2, cells := 0, slots := 0, locals := 28 } : Room) #[(.ref r0), .null] h0 (own_Q24rn Z r0 h0 n0) := by
 refine own_start (plainFor_of_name own_pn5) fun p e s m below meth c s₁ hx hby hret hlk hml hZ hown hnm X0 e0 => ?_
 have N0 := Fr.nil n0
 have K0 : Keep h0 h0 [] := Keep.refl h0 _
 rw [own_ef24rn]
 refine ownE.go (f' := (mkF m 1 #[.val (.ref r0), .val .null] [(.ref r0)])) (fun t kt => XS.aloadN X0.here hx rfl (hb hby own_d24_0) rfl rfl kt) ?_
 obtain ⟨_, _, ⟨T1, L1, k1, n1⟩, -, X1, ⟨Lc1, hQ1, l1, y1, z1⟩, st1⟩ := Jvm.LawKit.callS X0 hx (y := own_y9) hown (mvT hZ (own_w hw 148 rfl)) (mvT hZ (own_w hw 149 rfl)) (mvT hZ (own_w hw 28 rfl)) (mvT hZ (own_w hw 150 rfl)) (by decide) (backOf (W := 0) (own_rm25r l Z a0 hw [] r0 h0 n0 (Nat.le_trans Z0 K0.1) P0) hZ (own_w hw 150 rfl) (own_w hw 28 rfl) (by decide) (by decide)) (g := (mkF m 1 #[.val (.ref r0), .val .null] [(.ref r0)])) rfl (by rw [hml]; rfl) (argsL := [(.ref r0)]) (rest := []) (lenOf own_pd10 rfl) rfl (Nat.le_of_eq rfl) (hb hby own_d24_1) (fun _ _ => ⟨rfl, e0, (by decide : 0 + 0 ≤ _), (by decide : 0 + 0 ≤ _)⟩)
 dsimp only [Pt.U, Pt.locs, Pt.cells, Pt.slots] at X1 l1 y1 z1 st1 hQ1
 subst l1 y1 z1
 obtain ⟨rfl, N1q, e1⟩ := hQ1
 have N1 := Fr.app N0 N1q
 refine ownE.go st1 ?_
 refine ownE.go (f' := (mkF m 9 #[.val (.ref r0), .val .null] [.null, (.long (3 : Int64)), (.long (2 : Int64))])) (fun t kt => XS.i2l X1.here hx rfl (hb hby own_d24_4) rfl (X1.ldc2Long hx hown (mvT hZ (own_w hw 151 rfl)) (g := (mkF m 5 #[.val (.ref r0), .val .null] [(.long (2 : Int64))])) rfl (hb hby own_d24_5) _ (XS.aloadN X1.here hx rfl (hb hby own_d24_8) rfl rfl kt))) ?_
 obtain ⟨_, _, ⟨T2, L2, k2, n2⟩, -, X2, ⟨Lc2, hQ2, l2, y2, z2⟩, st2⟩ := Jvm.LawKit.callS X1 hx (y := own_y9) hown (mvT hZ (own_w hw 148 rfl)) (mvT hZ (own_w hw 149 rfl)) (mvT hZ (own_w hw 28 rfl)) (mvT hZ (own_w hw 150 rfl)) (by decide) (backOf (W := 4) (own_rm25n l Z a0 hw []  h0 n0 (Nat.le_trans Z0 K0.1) ) hZ (own_w hw 150 rfl) (own_w hw 28 rfl) (by decide) (by decide)) (g := (mkF m 9 #[.val (.ref r0), .val .null] [.null, (.long (3 : Int64)), (.long (2 : Int64))])) rfl (by rw [hml]; rfl) (argsL := [.null]) (rest := [(.long (3 : Int64)), (.long (2 : Int64))]) (lenOf own_pd10 rfl) rfl (Nat.le_of_eq rfl) (hb hby own_d24_9) (fun _ _ => ⟨rfl, e1, (by decide : 0 + 0 ≤ _), (by decide : 0 + 0 ≤ _)⟩)
 dsimp only [Pt.U, Pt.locs, Pt.cells, Pt.slots] at X2 l2 y2 z2 st2 hQ2
 subst l2 y2 z2
 obtain ⟨rfl, N2q, e2⟩ := hQ2
 have N2 := Fr.app N1 N2q
 refine ownE.go st2 ?_
 refine ownE.go (f' := (mkF m 23 #[.val (.ref r0), .val .null] [(.int (0 : Int32))])) (fun t kt => XS.i2l X2.here hx rfl (hb hby own_d24_12) rfl (XS.lmul X2.here hx rfl (hb hby own_d24_13) rfl (XS.lcmp X2.here hx rfl (hb hby own_d24_14) rfl (XS.ifYes X2.here hx rfl (pc0 := 15) (pc' := 22) rfl (hb hby own_d24_15) rfl (Jvm.Free.XT.i0_le_t (by decide)) (by decide) (by decide) (XS.iconst X2.here hx rfl (hb hby own_d24_22) kt))))) ?_
 refine ownE.retN X2 hx hlk (t := .boolean) hret (by simp) (hb hby own_d24_23) ?_ (by decide) (by decide)
 show own_Q24rn Z r0 h0 n0 _ T2.heap _
 rw [e2]
 exact ⟨rfl, N2, rfl⟩
theorem own_ef24nr (m : MethodId) (x1 : Addr) : entryFrame m #[.null, (.ref x1)] 2 = mkF m 0 #[.val .null, .val (.ref x1)] [] := by first | (simp [entryFrame, mkF, argsToLocals, Value.category]; done) | rfl
def own_Q24nr (Z : State) (r1 : Addr) (h0 : Heap) (n0 : Nat) (v : Option Value) (h : Heap) (L : List Loc) : Prop := v = some (.int (0 : Int32)) ∧ Fr n0 L ∧ h = h0
set_option maxRecDepth 65536 in
set_option maxHeartbeats 40000000 in
theorem own_rm24nr (l : Launch) (Z : State) (a0 : Array Value) (hw : ∀ d ∈ tables_1, d.before a0 Z = true) (ws : List Jvm.Cond) (r1 : Addr) (h0 : Heap) (n0 : Nat) (Z0 : n0 ≤ h0.size) (P0 : Fld Z h0 r1 own_s0 "size" "I" (.int (1 : Int32))) :
    own_MF l Z own_y10 prog_24_method_20_code 2 (some .boolean) ws ({ frames := 2, cells := 0, slots := 0, locals := 28 } : Room) #[.null, (.ref r1)] h0 (own_Q24nr Z r1 h0 n0) := by
 refine own_start (plainFor_of_name own_pn5) fun p e s m below meth c s₁ hx hby hret hlk hml hZ hown hnm X0 e0 => ?_
 have N0 := Fr.nil n0
 have K0 : Keep h0 h0 [] := Keep.refl h0 _
 rw [own_ef24nr]
 refine ownE.go (f' := (mkF m 1 #[.val .null, .val (.ref r1)] [.null])) (fun t kt => XS.aloadN X0.here hx rfl (hb hby own_d24_0) rfl rfl kt) ?_
 obtain ⟨_, _, ⟨T1, L1, k1, n1⟩, -, X1, ⟨Lc1, hQ1, l1, y1, z1⟩, st1⟩ := Jvm.LawKit.callS X0 hx (y := own_y9) hown (mvT hZ (own_w hw 148 rfl)) (mvT hZ (own_w hw 149 rfl)) (mvT hZ (own_w hw 28 rfl)) (mvT hZ (own_w hw 150 rfl)) (by decide) (backOf (W := 0) (own_rm25n l Z a0 hw []  h0 n0 (Nat.le_trans Z0 K0.1) ) hZ (own_w hw 150 rfl) (own_w hw 28 rfl) (by decide) (by decide)) (g := (mkF m 1 #[.val .null, .val (.ref r1)] [.null])) rfl (by rw [hml]; rfl) (argsL := [.null]) (rest := []) (lenOf own_pd10 rfl) rfl (Nat.le_of_eq rfl) (hb hby own_d24_1) (fun _ _ => ⟨rfl, e0, (by decide : 0 + 0 ≤ _), (by decide : 0 + 0 ≤ _)⟩)
 dsimp only [Pt.U, Pt.locs, Pt.cells, Pt.slots] at X1 l1 y1 z1 st1 hQ1
 subst l1 y1 z1
 obtain ⟨rfl, N1q, e1⟩ := hQ1
 have N1 := Fr.app N0 N1q
 refine ownE.go st1 ?_
 refine ownE.go (f' := (mkF m 9 #[.val .null, .val (.ref r1)] [(.ref r1), (.long (3 : Int64)), (.long (1 : Int64))])) (fun t kt => XS.i2l X1.here hx rfl (hb hby own_d24_4) rfl (X1.ldc2Long hx hown (mvT hZ (own_w hw 151 rfl)) (g := (mkF m 5 #[.val .null, .val (.ref r1)] [(.long (1 : Int64))])) rfl (hb hby own_d24_5) _ (XS.aloadN X1.here hx rfl (hb hby own_d24_8) rfl rfl kt))) ?_
 obtain ⟨_, _, ⟨T2, L2, k2, n2⟩, -, X2, ⟨Lc2, hQ2, l2, y2, z2⟩, st2⟩ := Jvm.LawKit.callS X1 hx (y := own_y9) hown (mvT hZ (own_w hw 148 rfl)) (mvT hZ (own_w hw 149 rfl)) (mvT hZ (own_w hw 28 rfl)) (mvT hZ (own_w hw 150 rfl)) (by decide) (backOf (W := 4) (own_rm25r l Z a0 hw [] r1 h0 n0 (Nat.le_trans Z0 K0.1) P0) hZ (own_w hw 150 rfl) (own_w hw 28 rfl) (by decide) (by decide)) (g := (mkF m 9 #[.val .null, .val (.ref r1)] [(.ref r1), (.long (3 : Int64)), (.long (1 : Int64))])) rfl (by rw [hml]; rfl) (argsL := [(.ref r1)]) (rest := [(.long (3 : Int64)), (.long (1 : Int64))]) (lenOf own_pd10 rfl) rfl (Nat.le_of_eq rfl) (hb hby own_d24_9) (fun _ _ => ⟨rfl, e1, (by decide : 0 + 0 ≤ _), (by decide : 0 + 0 ≤ _)⟩)
 dsimp only [Pt.U, Pt.locs, Pt.cells, Pt.slots] at X2 l2 y2 z2 st2 hQ2
 subst l2 y2 z2
 obtain ⟨rfl, N2q, e2⟩ := hQ2
 have N2 := Fr.app N1 N2q
 refine ownE.go st2 ?_
 refine ownE.go (f' := (mkF m 23 #[.val .null, .val (.ref r1)] [(.int (0 : Int32))])) (fun t kt => XS.i2l X2.here hx rfl (hb hby own_d24_12) rfl (XS.lmul X2.here hx rfl (hb hby own_d24_13) rfl (XS.lcmp X2.here hx rfl (hb hby own_d24_14) rfl (XS.ifYes X2.here hx rfl (pc0 := 15) (pc' := 22) rfl (hb hby own_d24_15) rfl (Jvm.Free.XT.i0_le_t (by decide)) (by decide) (by decide) (XS.iconst X2.here hx rfl (hb hby own_d24_22) kt))))) ?_
 refine ownE.retN X2 hx hlk (t := .boolean) hret (by simp) (hb hby own_d24_23) ?_ (by decide) (by decide)
 show own_Q24nr Z r1 h0 n0 _ T2.heap _
 rw [e2]
 exact ⟨rfl, N2, rfl⟩
theorem own_d26_0 : decode prog_24_method_18_code 0 = .ok (.aload_n 0, 1) := by decide +kernel
theorem own_d26_1 : decode prog_24_method_18_code 1 = .ok (.aload_n 0, 1) := by decide +kernel
theorem own_d26_2 : decode prog_24_method_18_code 2 = .ok (.getfield 31, 3) := by decide +kernel
theorem own_d26_5 : decode prog_24_method_18_code 5 = .ok (.invokestatic 13, 3) := by decide +kernel
theorem own_d26_8 : decode prog_24_method_18_code 8 = .ok (.aload_n 0, 1) := by decide +kernel
theorem own_d26_9 : decode prog_24_method_18_code 9 = .ok (.getfield 34, 3) := by decide +kernel
theorem own_d26_12 : decode prog_24_method_18_code 12 = .ok (.invokestatic 13, 3) := by decide +kernel
theorem own_d26_15 : decode prog_24_method_18_code 15 = .ok (.iadd, 1) := by decide +kernel
theorem own_d26_16 : decode prog_24_method_18_code 16 = .ok (.iconst 1, 1) := by decide +kernel
theorem own_d26_17 : decode prog_24_method_18_code 17 = .ok (.iadd, 1) := by decide +kernel
theorem own_d26_18 : decode prog_24_method_18_code 18 = .ok (.putfield 126, 3) := by decide +kernel
theorem own_d26_21 : decode prog_24_method_18_code 21 = .ok (.return_, 1) := by decide +kernel
theorem own_ef26nn (m : MethodId) (x0 : Addr) : entryFrame m #[(.ref x0)] 1 = mkF m 0 #[.val (.ref x0)] [] := by first | (simp [entryFrame, mkF, argsToLocals, Value.category]; done) | rfl
def own_Q26nn (Z : State) (r0 : Addr) (nm : Addr) (en : Addr) (oz : Int32) (h0 : Heap) (n0 : Nat) (v : Option Value) (h : Heap) (L : List Loc) : Prop := v = none ∧ Fr n0 L ∧ Keep h0 h [r0] ∧ Exa Z h r0 own_s0 ∧ Fld Z h r0 own_s0 "name" own_s7 (.ref nm) ∧ Fld Z h r0 own_s0 "entry" own_s5 (.ref en) ∧ Fld Z h r0 own_s0 "left" own_s1 .null ∧ Fld Z h r0 own_s0 "right" own_s1 .null ∧ Fld Z h r0 own_s0 "size" "I" (.int (1 : Int32))
abbrev own_y11 : MethodName := (⟨"com/example/quayside/quayside/core/Entries", "recount", "(Lcom/example/quayside/quayside/core/Entries$Link;)V"⟩ : MethodName)
set_option maxRecDepth 65536 in
set_option maxHeartbeats 40000000 in
theorem own_rm26nn (l : Launch) (Z : State) (a0 : Array Value) (hw : ∀ d ∈ tables_1, d.before a0 Z = true) (ws : List Jvm.Cond) (r0 : Addr) (nm : Addr) (en : Addr) (oz : Int32) (h0 : Heap) (n0 : Nat) (Z0 : n0 ≤ h0.size) (P0 : Exa Z h0 r0 own_s0) (P1 : Fld Z h0 r0 own_s0 "name" own_s7 (.ref nm)) (P2 : Fld Z h0 r0 own_s0 "entry" own_s5 (.ref en)) (P3 : Fld Z h0 r0 own_s0 "left" own_s1 .null) (P4 : Fld Z h0 r0 own_s0 "right" own_s1 .null) (P5 : Fld Z h0 r0 own_s0 "size" "I" (.int oz)) (P6 : n0 ≤ r0) :
    own_MF l Z own_y11 prog_24_method_18_code 1 none ws ({ frames := 1, cells := 0, slots := 0, locals := 14 } : Room) #[(.ref r0)] h0 (own_Q26nn Z r0 nm en oz h0 n0) := by
 refine own_start (plainFor_of_name own_pn5) fun p e s m below meth c s₁ hx hby hret hlk hml hZ hown hnm X0 e0 => ?_
 have N0 := Fr.nil n0
 have K0 : Keep h0 h0 [r0] := Keep.refl h0 _
 rw [own_ef26nn]
 refine ownE.go (f' := (mkF m 2 #[.val (.ref r0)] [(.ref r0), (.ref r0)])) (fun t kt => XS.aloadN X0.here hx rfl (hb hby own_d26_0) rfl rfl (XS.aloadN X0.here hx rfl (hb hby own_d26_1) rfl rfl kt)) ?_
 obtain ⟨T1, X1, e1, st1⟩ := own_getR X0 hx hZ hown (own_w hw 143 rfl) e0 P3 (g := (mkF m 2 #[.val (.ref r0)] [(.ref r0), (.ref r0)])) rfl rfl (hb hby own_d26_2)
 refine ownE.go st1 ?_
 obtain ⟨_, _, ⟨T2, L2, k2, n2⟩, -, X2, ⟨Lc2, hQ2, l2, y2, z2⟩, st2⟩ := Jvm.LawKit.callS X1 hx (y := own_y8) hown (mvT hZ (own_w hw 82 rfl)) (mvT hZ (own_w hw 83 rfl)) (mvT hZ (own_w hw 28 rfl)) (mvT hZ (own_w hw 84 rfl)) (by decide) (backOf (W := 1) (own_rm12n l Z a0 hw []  h0 n0 (Nat.le_trans Z0 K0.1) ) hZ (own_w hw 84 rfl) (own_w hw 28 rfl) (by decide) (by decide)) (g := (mkF m 5 #[.val (.ref r0)] [.null, (.ref r0)])) rfl (by rw [hml]; rfl) (argsL := [.null]) (rest := [(.ref r0)]) (lenOf own_pd10 rfl) rfl (Nat.le_of_eq rfl) (hb hby own_d26_5) (fun _ _ => ⟨rfl, e1, (by decide : 0 + 0 ≤ _), (by decide : 0 + 0 ≤ _)⟩)
 dsimp only [Pt.U, Pt.locs, Pt.cells, Pt.slots] at X2 l2 y2 z2 st2 hQ2
 subst l2 y2 z2
 obtain ⟨rfl, N2q, e2⟩ := hQ2
 have N2 := Fr.app N0 N2q
 refine ownE.go st2 ?_
 refine ownE.go (f' := (mkF m 9 #[.val (.ref r0)] [(.ref r0), (.int (0 : Int32)), (.ref r0)])) (fun t kt => XS.aloadN X2.here hx rfl (hb hby own_d26_8) rfl rfl kt) ?_
 obtain ⟨T3, X3, e3, st3⟩ := own_getR X2 hx hZ hown (own_w hw 138 rfl) e2 P4 (g := (mkF m 9 #[.val (.ref r0)] [(.ref r0), (.int (0 : Int32)), (.ref r0)])) rfl rfl (hb hby own_d26_9)
 refine ownE.go st3 ?_
 obtain ⟨_, _, ⟨T4, L4, k4, n4⟩, -, X4, ⟨Lc4, hQ4, l4, y4, z4⟩, st4⟩ := Jvm.LawKit.callS X3 hx (y := own_y8) hown (mvT hZ (own_w hw 82 rfl)) (mvT hZ (own_w hw 83 rfl)) (mvT hZ (own_w hw 28 rfl)) (mvT hZ (own_w hw 84 rfl)) (by decide) (backOf (W := 2) (own_rm12n l Z a0 hw []  h0 n0 (Nat.le_trans Z0 K0.1) ) hZ (own_w hw 84 rfl) (own_w hw 28 rfl) (by decide) (by decide)) (g := (mkF m 12 #[.val (.ref r0)] [.null, (.int (0 : Int32)), (.ref r0)])) rfl (by rw [hml]; rfl) (argsL := [.null]) (rest := [(.int (0 : Int32)), (.ref r0)]) (lenOf own_pd10 rfl) rfl (Nat.le_of_eq rfl) (hb hby own_d26_12) (fun _ _ => ⟨rfl, e3, (by decide : 0 + 0 ≤ _), (by decide : 0 + 0 ≤ _)⟩)
 dsimp only [Pt.U, Pt.locs, Pt.cells, Pt.slots] at X4 l4 y4 z4 st4 hQ4
 subst l4 y4 z4
 obtain ⟨rfl, N4q, e4⟩ := hQ4
 have N4 := Fr.app N2 N4q
 refine ownE.go st4 ?_
 refine ownE.go (f' := (mkF m 18 #[.val (.ref r0)] [(.int (1 : Int32)), (.ref r0)])) (fun t kt => XS.iadd X4.here hx rfl (hb hby own_d26_15) rfl (XS.iconst X4.here hx rfl (hb hby own_d26_16) (XS.iadd X4.here hx rfl (hb hby own_d26_17) rfl kt))) ?_
 obtain ⟨T5, h5, X5, e5, W5, st5⟩ := own_putR X4 hx hZ hown (own_w hw 101 rfl) e4 P5 P0 (own_w hw 93 rfl) (own_w hw 86 rfl) (ty := .int) (by decide) rfl rfl (g := (mkF m 18 #[.val (.ref r0)] [(.int (1 : Int32)), (.ref r0)])) rfl rfl (hb hby own_d26_18)
 have Fw5 : Fld Z h5 r0 own_s0 "size" "I" (.int (1 : Int32)) := P5.same W5
 have q105 := P0.wr W5
 have q106 := P1.other W5 (Or.inr (slot_ne (Or.inr (own_w hw 95 rfl)) (Or.inl (own_w hw 93 rfl)) (by decide) (t := (.object own_s2)) (t' := .int) (by decide) (by decide)))
 have q107 := P2.other W5 (Or.inr (slot_ne (Or.inr (own_w hw 97 rfl)) (Or.inl (own_w hw 93 rfl)) (by decide) (t := (.object own_s4)) (t' := .int) (by decide) (by decide)))
 have q108 := P3.other W5 (Or.inr (slot_ne (Or.inl (own_w hw 144 rfl)) (Or.inl (own_w hw 93 rfl)) (by decide) (t := (.object own_s0)) (t' := .int) (by decide) (by decide)))
 have q109 := P4.other W5 (Or.inr (slot_ne (Or.inl (own_w hw 139 rfl)) (Or.inl (own_w hw 93 rfl)) (by decide) (t := (.object own_s0)) (t' := .int) (by decide) (by decide)))
 have K5 : Keep h0 h5 [r0] := K0.wr W5 (Or.inl (List.mem_of_getElem? (i := 0) rfl))
 have N5 := Fr.snoc X5 N4 P6
 refine ownE.go st5 ?_
 refine ownE.retV X5 hx hlk hret (hb hby own_d26_21) ?_ (by decide) (by decide)
 show own_Q26nn Z r0 nm en oz h0 n0 _ T5.heap _
 rw [e5]
 exact ⟨rfl, N5, K5, q105, q106, q107, q108, q109, Fw5⟩
theorem own_ef26rn (m : MethodId) (x0 : Addr) : entryFrame m #[(.ref x0)] 1 = mkF m 0 #[.val (.ref x0)] [] := by first | (simp [entryFrame, mkF, argsToLocals, Value.category]; done) | rfl
def own_Q26rn (Z : State) (r0 : Addr) (lc : Addr) (nm : Addr) (en : Addr) (oz : Int32) (h0 : Heap) (n0 : Nat) (v : Option Value) (h : Heap) (L : List Loc) : Prop := v = none ∧ Fr n0 L ∧ Keep h0 h [r0] ∧ Exa Z h r0 own_s0 ∧ Fld Z h r0 own_s0 "name" own_s7 (.ref nm) ∧ Fld Z h r0 own_s0 "entry" own_s5 (.ref en) ∧ Fld Z h r0 own_s0 "left" own_s1 (.ref lc) ∧ Fld Z h r0 own_s0 "right" own_s1 .null ∧ Fld Z h r0 own_s0 "size" "I" (.int (2 : Int32))
set_option maxRecDepth 65536 in
set_option maxHeartbeats 40000000 in
theorem own_rm26rn (l : Launch) (Z : State) (a0 : Array Value) (hw : ∀ d ∈ tables_1, d.before a0 Z = true) (ws : List Jvm.Cond) (r0 : Addr) (lc : Addr) (nm : Addr) (en : Addr) (oz : Int32) (h0 : Heap) (n0 : Nat) (Z0 : n0 ≤ h0.size) (P0 : Exa Z h0 r0 own_s0) (P1 : Fld Z h0 r0 own_s0 "name" own_s7 (.ref nm)) (P2 : Fld Z h0 r0 own_s0 "entry" own_s5 (.ref en)) (P3 : Fld Z h0 r0 own_s0 "left" own_s1 (.ref lc)) (P4 : Fld Z h0 r0 own_s0 "right" own_s1 .null) (P5 : Fld Z h0 r0 own_s0 "size" "I" (.int oz)) (P6 : n0 ≤ r0) (P7 : Fld Z h0 lc own_s0 "size" "I" (.int (1 : Int32))) (P8 : lc ≠ r0) :
    own_MF l Z own_y11 prog_24_method_18_code 1 none ws ({ frames := 1, cells := 0, slots := 0, locals := 14 } : Room) #[(.ref r0)] h0 (own_Q26rn Z r0 lc nm en oz h0 n0) := by
 refine own_start (plainFor_of_name own_pn5) fun p e s m below meth c s₁ hx hby hret hlk hml hZ hown hnm X0 e0 => ?_
 have N0 := Fr.nil n0
 have K0 : Keep h0 h0 [r0] := Keep.refl h0 _
 rw [own_ef26rn]
 refine ownE.go (f' := (mkF m 2 #[.val (.ref r0)] [(.ref r0), (.ref r0)])) (fun t kt => XS.aloadN X0.here hx rfl (hb hby own_d26_0) rfl rfl (XS.aloadN X0.here hx rfl (hb hby own_d26_1) rfl rfl kt)) ?_
 obtain ⟨T1, X1, e1, st1⟩ := own_getR X0 hx hZ hown (own_w hw 143 rfl) e0 P3 (g := (mkF m 2 #[.val (.ref r0)] [(.ref r0), (.ref r0)])) rfl rfl (hb hby own_d26_2)
 refine ownE.go st1 ?_
 obtain ⟨_, _, ⟨T2, L2, k2, n2⟩, -, X2, ⟨Lc2, hQ2, l2, y2, z2⟩, st2⟩ := Jvm.LawKit.callS X1 hx (y := own_y8) hown (mvT hZ (own_w hw 82 rfl)) (mvT hZ (own_w hw 83 rfl)) (mvT hZ (own_w hw 28 rfl)) (mvT hZ (own_w hw 84 rfl)) (by decide) (backOf (W := 1) (own_rm12r1 l Z a0 hw [] lc h0 n0 (Nat.le_trans Z0 K0.1) P7) hZ (own_w hw 84 rfl) (own_w hw 28 rfl) (by decide) (by decide)) (g := (mkF m 5 #[.val (.ref r0)] [(.ref lc), (.ref r0)])) rfl (by rw [hml]; rfl) (argsL := [(.ref lc)]) (rest := [(.ref r0)]) (lenOf own_pd10 rfl) rfl (Nat.le_of_eq rfl) (hb hby own_d26_5) (fun _ _ => ⟨rfl, e1, (by decide : 0 + 0 ≤ _), (by decide : 0 + 0 ≤ _)⟩)
 dsimp only [Pt.U, Pt.locs, Pt.cells, Pt.slots] at X2 l2 y2 z2 st2 hQ2
 subst l2 y2 z2
 obtain ⟨rfl, N2q, e2⟩ := hQ2
 have N2 := Fr.app N0 N2q
 refine ownE.go st2 ?_
 refine ownE.go (f' := (mkF m 9 #[.val (.ref r0)] [(.ref r0), (.int (1 : Int32)), (.ref r0)])) (fun t kt => XS.aloadN X2.here hx rfl (hb hby own_d26_8) rfl rfl kt) ?_
 obtain ⟨T3, X3, e3, st3⟩ := own_getR X2 hx hZ hown (own_w hw 138 rfl) e2 P4 (g := (mkF m 9 #[.val (.ref r0)] [(.ref r0), (.int (1 : Int32)), (.ref r0)])) rfl rfl (hb hby own_d26_9)
 refine ownE.go st3 ?_
 obtain ⟨_, _, ⟨T4, L4, k4, n4⟩, -, X4, ⟨Lc4, hQ4, l4, y4, z4⟩, st4⟩ := Jvm.LawKit.callS X3 hx (y := own_y8) hown (mvT hZ (own_w hw 82 rfl)) (mvT hZ (own_w hw 83 rfl)) (mvT hZ (own_w hw 28 rfl)) (mvT hZ (own_w hw 84 rfl)) (by decide) (backOf (W := 2) (own_rm12n l Z a0 hw []  h0 n0 (Nat.le_trans Z0 K0.1) ) hZ (own_w hw 84 rfl) (own_w hw 28 rfl) (by decide) (by decide)) (g := (mkF m 12 #[.val (.ref r0)] [.null, (.int (1 : Int32)), (.ref r0)])) rfl (by rw [hml]; rfl) (argsL := [.null]) (rest := [(.int (1 : Int32)), (.ref r0)]) (lenOf own_pd10 rfl) rfl (Nat.le_of_eq rfl) (hb hby own_d26_12) (fun _ _ => ⟨rfl, e3, (by decide : 0 + 0 ≤ _), (by decide : 0 + 0 ≤ _)⟩)
 dsimp only [Pt.U, Pt.locs, Pt.cells, Pt.slots] at X4 l4 y4 z4 st4 hQ4
 subst l4 y4 z4
 obtain ⟨rfl, N4q, e4⟩ := hQ4
 have N4 := Fr.app N2 N4q
 refine ownE.go st4 ?_
 refine ownE.go (f' := (mkF m 18 #[.val (.ref r0)] [(.int (2 : Int32)), (.ref r0)])) (fun t kt => XS.iadd X4.here hx rfl (hb hby own_d26_15) rfl (XS.iconst X4.here hx rfl (hb hby own_d26_16) (XS.iadd X4.here hx rfl (hb hby own_d26_17) rfl kt))) ?_
 obtain ⟨T5, h5, X5, e5, W5, st5⟩ := own_putR X4 hx hZ hown (own_w hw 101 rfl) e4 P5 P0 (own_w hw 93 rfl) (own_w hw 86 rfl) (ty := .int) (by decide) rfl rfl (g := (mkF m 18 #[.val (.ref r0)] [(.int (2 : Int32)), (.ref r0)])) rfl rfl (hb hby own_d26_18)
 have Fw5 : Fld Z h5 r0 own_s0 "size" "I" (.int (2 : Int32)) := P5.same W5
 have q110 := P0.wr W5
 have q111 := P1.other W5 (Or.inr (slot_ne (Or.inr (own_w hw 95 rfl)) (Or.inl (own_w hw 93 rfl)) (by decide) (t := (.object own_s2)) (t' := .int) (by decide) (by decide)))
 have q112 := P2.other W5 (Or.inr (slot_ne (Or.inr (own_w hw 97 rfl)) (Or.inl (own_w hw 93 rfl)) (by decide) (t := (.object own_s4)) (t' := .int) (by decide) (by decide)))
 have q113 := P3.other W5 (Or.inr (slot_ne (Or.inl (own_w hw 144 rfl)) (Or.inl (own_w hw 93 rfl)) (by decide) (t := (.object own_s0)) (t' := .int) (by decide) (by decide)))
 have q114 := P4.other W5 (Or.inr (slot_ne (Or.inl (own_w hw 139 rfl)) (Or.inl (own_w hw 93 rfl)) (by decide) (t := (.object own_s0)) (t' := .int) (by decide) (by decide)))
 have q115 := P7.other W5 (Or.inl P8)
 have K5 : Keep h0 h5 [r0] := K0.wr W5 (Or.inl (List.mem_of_getElem? (i := 0) rfl))
 have N5 := Fr.snoc X5 N4 P6
 refine ownE.go st5 ?_
 refine ownE.retV X5 hx hlk hret (hb hby own_d26_21) ?_ (by decide) (by decide)
 show own_Q26rn Z r0 lc nm en oz h0 n0 _ T5.heap _
 rw [e5]
 exact ⟨rfl, N5, K5, q110, q111, q112, q113, q114, Fw5⟩
theorem own_ef26nr (m : MethodId) (x0 : Addr) : entryFrame m #[(.ref x0)] 1 = mkF m 0 #[.val (.ref x0)] [] := by first | (simp [entryFrame, mkF, argsToLocals, Value.category]; done) | rfl
def own_Q26nr (Z : State) (r0 : Addr) (lc : Addr) (nm : Addr) (en : Addr) (oz : Int32) (h0 : Heap) (n0 : Nat) (v : Option Value) (h : Heap) (L : List Loc) : Prop := v = none ∧ Fr n0 L ∧ Keep h0 h [r0] ∧ Exa Z h r0 own_s0 ∧ Fld Z h r0 own_s0 "name" own_s7 (.ref nm) ∧ Fld Z h r0 own_s0 "entry" own_s5 (.ref en) ∧ Fld Z h r0 own_s0 "left" own_s1 .null ∧ Fld Z h r0 own_s0 "right" own_s1 (.ref lc) ∧ Fld Z h r0 own_s0 "size" "I" (.int (2 : Int32))
set_option maxRecDepth 65536 in
set_option maxHeartbeats 40000000 in
theorem own_rm26nr (l : Launch) (Z : State) (a0 : Array Value) (hw : ∀ d ∈ tables_1, d.before a0 Z = true) (ws : List Jvm.Cond) (r0 : Addr) (lc : Addr) (nm : Addr) (en : Addr) (oz : Int32) (h0 : Heap) (n0 : Nat) (Z0 : n0 ≤ h0.size) (P0 : Exa Z h0 r0 own_s0) (P1 : Fld Z h0 r0 own_s0 "name" own_s7 (.ref nm)) (P2 : Fld Z h0 r0 own_s0 "entry" own_s5 (.ref en)) (P3 : Fld Z h0 r0 own_s0 "left" own_s1 .null) (P4 : Fld Z h0 r0 own_s0 "right" own_s1 (.ref lc)) (P5 : Fld Z h0 r0 own_s0 "size" "I" (.int oz)) (P6 : n0 ≤ r0) (P7 : Fld Z h0 lc own_s0 "size" "I" (.int (1 : Int32))) (P8 : lc ≠ r0) :
    own_MF l Z own_y11 prog_24_method_18_code 1 none ws ({ frames := 1, cells := 0, slots := 0, locals := 14 } : Room) #[(.ref r0)] h0 (own_Q26nr Z r0 lc nm en oz h0 n0) := by
 refine own_start (plainFor_of_name own_pn5) fun p e s m below meth c s₁ hx hby hret hlk hml hZ hown hnm X0 e0 => ?_
 have N0 := Fr.nil n0
 have K0 : Keep h0 h0 [r0] := Keep.refl h0 _
 rw [own_ef26nr]
 refine ownE.go (f' := (mkF m 2 #[.val (.ref r0)] [(.ref r0), (.ref r0)])) (fun t kt => XS.aloadN X0.here hx rfl (hb hby own_d26_0) rfl rfl (XS.aloadN X0.here hx rfl (hb hby own_d26_1) rfl rfl kt)) ?_
 obtain ⟨T1, X1, e1, st1⟩ := own_getR X0 hx hZ hown (own_w hw 143 rfl) e0 P3 (g := (mkF m 2 #[.val (.ref r0)] [(.ref r0), (.ref r0)])) rfl rfl (hb hby own_d26_2)
 refine ownE.go st1 ?_
 obtain ⟨_, _, ⟨T2, L2, k2, n2⟩, -, X2, ⟨Lc2, hQ2, l2, y2, z2⟩, st2⟩ := Jvm.LawKit.callS X1 hx (y := own_y8) hown (mvT hZ (own_w hw 82 rfl)) (mvT hZ (own_w hw 83 rfl)) (mvT hZ (own_w hw 28 rfl)) (mvT hZ (own_w hw 84 rfl)) (by decide) (backOf (W := 1) (own_rm12n l Z a0 hw []  h0 n0 (Nat.le_trans Z0 K0.1) ) hZ (own_w hw 84 rfl) (own_w hw 28 rfl) (by decide) (by decide)) (g := (mkF m 5 #[.val (.ref r0)] [.null, (.ref r0)])) rfl (by rw [hml]; rfl) (argsL := [.null]) (rest := [(.ref r0)]) (lenOf own_pd10 rfl) rfl (Nat.le_of_eq rfl) (hb hby own_d26_5) (fun _ _ => ⟨rfl, e1, (by decide : 0 + 0 ≤ _), (by decide : 0 + 0 ≤ _)⟩)
 dsimp only [Pt.U, Pt.locs, Pt.cells, Pt.slots] at X2 l2 y2 z2 st2 hQ2
 subst l2 y2 z2
 obtain ⟨rfl, N2q, e2⟩ := hQ2
 have N2 := Fr.app N0 N2q
 refine ownE.go st2 ?_
 refine ownE.go (f' := (mkF m 9 #[.val (.ref r0)] [(.ref r0), (.int (0 : Int32)), (.ref r0)])) (fun t kt => XS.aloadN X2.here hx rfl (hb hby own_d26_8) rfl rfl kt) ?_
 obtain ⟨T3, X3, e3, st3⟩ := own_getR X2 hx hZ hown (own_w hw 138 rfl) e2 P4 (g := (mkF m 9 #[.val (.ref r0)] [(.ref r0), (.int (0 : Int32)), (.ref r0)])) rfl rfl (hb hby own_d26_9)
 refine ownE.go st3 ?_
 obtain ⟨_, _, ⟨T4, L4, k4, n4⟩, -, X4, ⟨Lc4, hQ4, l4, y4, z4⟩, st4⟩ := Jvm.LawKit.callS X3 hx (y := own_y8) hown (mvT hZ (own_w hw 82 rfl)) (mvT hZ (own_w hw 83 rfl)) (mvT hZ (own_w hw 28 rfl)) (mvT hZ (own_w hw 84 rfl)) (by decide) (backOf (W := 2) (own_rm12r1 l Z a0 hw [] lc h0 n0 (Nat.le_trans Z0 K0.1) P7) hZ (own_w hw 84 rfl) (own_w hw 28 rfl) (by decide) (by decide)) (g := (mkF m 12 #[.val (.ref r0)] [(.ref lc), (.int (0 : Int32)), (.ref r0)])) rfl (by rw [hml]; rfl) (argsL := [(.ref lc)]) (rest := [(.int (0 : Int32)), (.ref r0)]) (lenOf own_pd10 rfl) rfl (Nat.le_of_eq rfl) (hb hby own_d26_12) (fun _ _ => ⟨rfl, e3, (by decide : 0 + 0 ≤ _), (by decide : 0 + 0 ≤ _)⟩)
 dsimp only [Pt.U, Pt.locs, Pt.cells, Pt.slots] at X4 l4 y4 z4 st4 hQ4
 subst l4 y4 z4
 obtain ⟨rfl, N4q, e4⟩ := hQ4
 have N4 := Fr.app N2 N4q
 refine ownE.go st4 ?_
 refine ownE.go (f' := (mkF m 18 #[.val (.ref r0)] [(.int (2 : Int32)), (.ref r0)])) (fun t kt => XS.iadd X4.here hx rfl (hb hby own_d26_15) rfl (XS.iconst X4.here hx rfl (hb hby own_d26_16) (XS.iadd X4.here hx rfl (hb hby own_d26_17) rfl kt))) ?_
 obtain ⟨T5, h5, X5, e5, W5, st5⟩ := own_putR X4 hx hZ hown (own_w hw 101 rfl) e4 P5 P0 (own_w hw 93 rfl) (own_w hw 86 rfl) (ty := .int) (by decide) rfl rfl (g := (mkF m 18 #[.val (.ref r0)] [(.int (2 : Int32)), (.ref r0)])) rfl rfl (hb hby own_d26_18)
 have Fw5 : Fld Z h5 r0 own_s0 "size" "I" (.int (2 : Int32)) := P5.same W5
 have q116 := P0.wr W5
 have q117 := P1.other W5 (Or.inr (slot_ne (Or.inr (own_w hw 95 rfl)) (Or.inl (own_w hw 93 rfl)) (by decide) (t := (.object own_s2)) (t' := .int) (by decide) (by decide)))
 have q118 := P2.other W5 (Or.inr (slot_ne (Or.inr (own_w hw 97 rfl)) (Or.inl (own_w hw 93 rfl)) (by decide) (t := (.object own_s4)) (t' := .int) (by decide) (by decide)))
 have q119 := P3.other W5 (Or.inr (slot_ne (Or.inl (own_w hw 144 rfl)) (Or.inl (own_w hw 93 rfl)) (by decide) (t := (.object own_s0)) (t' := .int) (by decide) (by decide)))
 have q120 := P4.other W5 (Or.inr (slot_ne (Or.inl (own_w hw 139 rfl)) (Or.inl (own_w hw 93 rfl)) (by decide) (t := (.object own_s0)) (t' := .int) (by decide) (by decide)))
 have q121 := P7.other W5 (Or.inl P8)
 have K5 : Keep h0 h5 [r0] := K0.wr W5 (Or.inl (List.mem_of_getElem? (i := 0) rfl))
 have N5 := Fr.snoc X5 N4 P6
 refine ownE.go st5 ?_
 refine ownE.retV X5 hx hlk hret (hb hby own_d26_21) ?_ (by decide) (by decide)
 show own_Q26nr Z r0 lc nm en oz h0 n0 _ T5.heap _
 rw [e5]
 exact ⟨rfl, N5, K5, q116, q117, q118, q119, q120, Fw5⟩
theorem own_pd11 : parseMethodDescriptor "(Lcom/example/quayside/quayside/core/Entries$Link;Lcom/example/quayside/quayside/core/Entries$Link;)Z" = some ⟨[(.object "com/example/quayside/quayside/core/Entries$Link"), (.object "com/example/quayside/quayside/core/Entries$Link")], some .boolean⟩ := by decide +kernel
theorem own_pd12 : parseMethodDescriptor "(Lcom/example/quayside/quayside/core/Entries$Link;)V" = some ⟨[(.object "com/example/quayside/quayside/core/Entries$Link")], none⟩ := by decide +kernel
theorem own_d23_0 : decode prog_24_method_15_code 0 = .ok (.aload_n 0, 1) := by decide +kernel
theorem own_d23_1 : decode prog_24_method_15_code 1 = .ok (.getfield 34, 3) := by decide +kernel
theorem own_d23_4 : decode prog_24_method_15_code 4 = .ok (.aload_n 0, 1) := by decide +kernel
theorem own_d23_5 : decode prog_24_method_15_code 5 = .ok (.getfield 31, 3) := by decide +kernel
theorem own_d23_8 : decode prog_24_method_15_code 8 = .ok (.invokestatic 96, 3) := by decide +kernel
theorem own_d23_11 : decode prog_24_method_15_code 11 = .ok (.ifCond .eq 52, 3) := by decide +kernel
theorem own_d23_63 : decode prog_24_method_15_code 63 = .ok (.aload_n 0, 1) := by decide +kernel
theorem own_d23_64 : decode prog_24_method_15_code 64 = .ok (.getfield 31, 3) := by decide +kernel
theorem own_d23_67 : decode prog_24_method_15_code 67 = .ok (.aload_n 0, 1) := by decide +kernel
theorem own_d23_68 : decode prog_24_method_15_code 68 = .ok (.getfield 34, 3) := by decide +kernel
theorem own_d23_71 : decode prog_24_method_15_code 71 = .ok (.invokestatic 96, 3) := by decide +kernel
theorem own_d23_74 : decode prog_24_method_15_code 74 = .ok (.ifCond .eq 52, 3) := by decide +kernel
theorem own_d23_126 : decode prog_24_method_15_code 126 = .ok (.aload_n 0, 1) := by decide +kernel
theorem own_d23_127 : decode prog_24_method_15_code 127 = .ok (.invokestatic 111, 3) := by decide +kernel
theorem own_d23_130 : decode prog_24_method_15_code 130 = .ok (.aload_n 0, 1) := by decide +kernel
theorem own_d23_131 : decode prog_24_method_15_code 131 = .ok (.astore_n 1, 1) := by decide +kernel
theorem own_d23_132 : decode prog_24_method_15_code 132 = .ok (.getstatic 115, 3) := by decide +kernel
theorem own_d23_135 : decode prog_24_method_15_code 135 = .ok (.ifCond .ne 38, 3) := by decide +kernel
theorem own_d23_173 : decode prog_24_method_15_code 173 = .ok (.aload_n 1, 1) := by decide +kernel
theorem own_d23_174 : decode prog_24_method_15_code 174 = .ok (.areturn, 1) := by decide +kernel
theorem own_ef23nn (m : MethodId) (x0 : Addr) : entryFrame m #[(.ref x0)] 2 = mkF m 0 #[.val (.ref x0), .unset] [] := by first | (simp [entryFrame, mkF, argsToLocals, Value.category]; done) | rfl
def own_Q23nn (Z : State) (r0 : Addr) (nm : Addr) (en : Addr) (oz : Int32) (h0 : Heap) (n0 : Nat) (v : Option Value) (h : Heap) (L : List Loc) : Prop := v = some (.ref r0) ∧ Fr n0 L ∧ Keep h0 h [r0] ∧ Exa Z h r0 own_s0 ∧ Fld Z h r0 own_s0 "name" own_s7 (.ref nm) ∧ Fld Z h r0 own_s0 "entry" own_s5 (.ref en) ∧ Fld Z h r0 own_s0 "left" own_s1 .null ∧ Fld Z h r0 own_s0 "right" own_s1 .null ∧ Fld Z h r0 own_s0 "size" "I" (.int (1 : Int32))
abbrev own_y12 : MethodName := (⟨"com/example/quayside/quayside/core/Entries", "balance", "(Lcom/example/quayside/quayside/core/Entries$Link;)Lcom/example/quayside/quayside/core/Entries$Link;"⟩ : MethodName)
set_option maxRecDepth 65536 in
set_option maxHeartbeats 40000000 in
theorem own_rm23nn (l : Launch) (Z : State) (a0 : Array Value) (hw : ∀ d ∈ tables_1, d.before a0 Z = true) (ws : List Jvm.Cond) (r0 : Addr) (nm : Addr) (en : Addr) (oz : Int32) (h0 : Heap) (n0 : Nat) (Z0 : n0 ≤ h0.size) (Od : Old Z n0 h0) (zad : Sta Z Z.heap own_s3 "$assertionsDisabled" "Z" (.int (1 : Int32))) (P2 : Exa Z h0 r0 own_s0) (P3 : Fld Z h0 r0 own_s0 "name" own_s7 (.ref nm)) (P4 : Fld Z h0 r0 own_s0 "entry" own_s5 (.ref en)) (P5 : Fld Z h0 r0 own_s0 "left" own_s1 .null) (P6 : Fld Z h0 r0 own_s0 "right" own_s1 .null) (P7 : Fld Z h0 r0 own_s0 "size" "I" (.int oz)) (P8 : n0 ≤ r0) :
    own_MF l Z own_y12 prog_24_method_15_code 2 (some (.object own_s0)) ws own_R3 #[(.ref r0)] h0 (own_Q23nn Z r0 nm en oz h0 n0) := by
 refine own_start (plainFor_of_name own_pn5) fun p e s m below meth c s₁ hx hby hret hlk hml hZ hown hnm X0 e0 => ?_
 have N0 := Fr.nil n0
 have K0 : Keep h0 h0 [r0] := Keep.refl h0 _
 rw [own_ef23nn]
 refine ownE.go (f' := (mkF m 1 #[.val (.ref r0), .unset] [(.ref r0)])) (fun t kt => XS.aloadN X0.here hx rfl (hb hby own_d23_0) rfl rfl kt) ?_
 obtain ⟨T1, X1, e1, st1⟩ := own_getR X0 hx hZ hown (own_w hw 138 rfl) e0 P6 (g := (mkF m 1 #[.val (.ref r0), .unset] [(.ref r0)])) rfl rfl (hb hby own_d23_1)
 refine ownE.go st1 ?_
 refine ownE.go (f' := (mkF m 5 #[.val (.ref r0), .unset] [(.ref r0), .null])) (fun t kt => XS.aloadN X1.here hx rfl (hb hby own_d23_4) rfl rfl kt) ?_
 obtain ⟨T2, X2, e2, st2⟩ := own_getR X1 hx hZ hown (own_w hw 143 rfl) e1 P5 (g := (mkF m 5 #[.val (.ref r0), .unset] [(.ref r0), .null])) rfl rfl (hb hby own_d23_5)
 refine ownE.go st2 ?_
 obtain ⟨_, _, ⟨T3, L3, k3, n3⟩, -, X3, ⟨Lc3, hQ3, l3, y3, z3⟩, st3⟩ := Jvm.LawKit.callS X2 hx (y := own_y10) hown (mvT hZ (own_w hw 145 rfl)) (mvT hZ (own_w hw 146 rfl)) (mvT hZ (own_w hw 28 rfl)) (mvT hZ (own_w hw 147 rfl)) (by decide) (backOf (W := 0) (own_rm24nn l Z a0 hw []  h0 n0 (Nat.le_trans Z0 K0.1) ) hZ (own_w hw 147 rfl) (own_w hw 28 rfl) (by decide) (by decide)) (g := (mkF m 8 #[.val (.ref r0), .unset] [.null, .null])) rfl (by rw [hml]; rfl) (argsL := [.null, .null]) (rest := []) (lenOf own_pd11 rfl) rfl (Nat.le_of_eq rfl) (hb hby own_d23_8) (fun _ _ => ⟨rfl, e2, (by decide : 0 + 0 ≤ _), (by decide : 0 + 0 ≤ _)⟩)
 dsimp only [Pt.U, Pt.locs, Pt.cells, Pt.slots] at X3 l3 y3 z3 st3 hQ3
 subst l3 y3 z3
 obtain ⟨rfl, N3q, e3⟩ := hQ3
 have N3 := Fr.app N0 N3q
 refine ownE.go st3 ?_
 refine ownE.go (f' := (mkF m 64 #[.val (.ref r0), .unset] [(.ref r0)])) (fun t kt => XS.ifYes X3.here hx rfl (pc0 := 11) (pc' := 63) rfl (hb hby own_d23_11) rfl (Jvm.Free.XT.i0_eq_t (by decide)) (by decide) (by decide) (XS.aloadN X3.here hx rfl (hb hby own_d23_63) rfl rfl kt)) ?_
 obtain ⟨T4, X4, e4, st4⟩ := own_getR X3 hx hZ hown (own_w hw 143 rfl) e3 P5 (g := (mkF m 64 #[.val (.ref r0), .unset] [(.ref r0)])) rfl rfl (hb hby own_d23_64)
 refine ownE.go st4 ?_
 refine ownE.go (f' := (mkF m 68 #[.val (.ref r0), .unset] [(.ref r0), .null])) (fun t kt => XS.aloadN X4.here hx rfl (hb hby own_d23_67) rfl rfl kt) ?_
 obtain ⟨T5, X5, e5, st5⟩ := own_getR X4 hx hZ hown (own_w hw 138 rfl) e4 P6 (g := (mkF m 68 #[.val (.ref r0), .unset] [(.ref r0), .null])) rfl rfl (hb hby own_d23_68)
 refine ownE.go st5 ?_
 obtain ⟨_, _, ⟨T6, L6, k6, n6⟩, -, X6, ⟨Lc6, hQ6, l6, y6, z6⟩, st6⟩ := Jvm.LawKit.callS X5 hx (y := own_y10) hown (mvT hZ (own_w hw 145 rfl)) (mvT hZ (own_w hw 146 rfl)) (mvT hZ (own_w hw 28 rfl)) (mvT hZ (own_w hw 147 rfl)) (by decide) (backOf (W := 0) (own_rm24nn l Z a0 hw []  h0 n0 (Nat.le_trans Z0 K0.1) ) hZ (own_w hw 147 rfl) (own_w hw 28 rfl) (by decide) (by decide)) (g := (mkF m 71 #[.val (.ref r0), .unset] [.null, .null])) rfl (by rw [hml]; rfl) (argsL := [.null, .null]) (rest := []) (lenOf own_pd11 rfl) rfl (Nat.le_of_eq rfl) (hb hby own_d23_71) (fun _ _ => ⟨rfl, e5, (by decide : 0 + 0 ≤ _), (by decide : 0 + 0 ≤ _)⟩)
 dsimp only [Pt.U, Pt.locs, Pt.cells, Pt.slots] at X6 l6 y6 z6 st6 hQ6
 subst l6 y6 z6
 obtain ⟨rfl, N6q, e6⟩ := hQ6
 have N6 := Fr.app N3 N6q
 refine ownE.go st6 ?_
 refine ownE.go (f' := (mkF m 127 #[.val (.ref r0), .unset] [(.ref r0)])) (fun t kt => XS.ifYes X6.here hx rfl (pc0 := 74) (pc' := 126) rfl (hb hby own_d23_74) rfl (Jvm.Free.XT.i0_eq_t (by decide)) (by decide) (by decide) (XS.aloadN X6.here hx rfl (hb hby own_d23_126) rfl rfl kt)) ?_
 obtain ⟨_, _, ⟨T7, L7, k7, n7⟩, -, X7, ⟨Lc7, hQ7, l7, y7, z7⟩, st7⟩ := Jvm.LawKit.callS X6 hx (y := own_y11) hown (mvT hZ (own_w hw 152 rfl)) (mvT hZ (own_w hw 153 rfl)) (mvT hZ (own_w hw 28 rfl)) (mvT hZ (own_w hw 154 rfl)) (by decide) (backOf (W := 0) (own_rm26nn l Z a0 hw [] r0 nm en oz h0 n0 (Nat.le_trans Z0 K0.1) P2 P3 P4 P5 P6 P7 P8) hZ (own_w hw 154 rfl) (own_w hw 28 rfl) (by decide) (by decide)) (g := (mkF m 127 #[.val (.ref r0), .unset] [(.ref r0)])) rfl (by rw [hml]; rfl) (argsL := [(.ref r0)]) (rest := []) (lenOf own_pd12 rfl) rfl (Nat.le_of_eq rfl) (hb hby own_d23_127) (fun _ _ => ⟨rfl, e6, (by decide : 0 + 0 ≤ _), (by decide : 0 + 0 ≤ _)⟩)
 dsimp only [Pt.U, Pt.locs, Pt.cells, Pt.slots] at X7 l7 y7 z7 st7 hQ7
 subst l7 y7 z7
 obtain ⟨rfl, N7q, K7q, f7_0, f7_1, f7_2, f7_3, f7_4, f7_5⟩ := hQ7
 have q122 := Od.keep K7q (allS P8 all0)
 have q123 := P2.keep K7q
 have K7 : Keep h0 T7.heap [r0] := K0.trans K7q (allS (Or.inl (List.mem_of_getElem? (i := 0) rfl)) all0)
 have N7 := Fr.app N6 N7q
 refine ownE.go st7 ?_
 refine ownE.go (f' := (mkF m 132 #[.val (.ref r0), .val (.ref r0)] [])) (fun t kt => XS.aloadN X7.here hx rfl (hb hby own_d23_130) rfl rfl (XS.astoreN X7.here hx rfl (hb hby own_d23_131) rfl rfl (l' := #[.val (.ref r0), .val (.ref r0)]) rfl kt)) ?_
 obtain ⟨T8, X8, e8, st8⟩ := getS2 X7 hx hZ hown (host := "") (Or.inl (own_w hw 155 rfl)) Via.refl rfl (zad.ext q122.2) (g := (mkF m 132 #[.val (.ref r0), .val (.ref r0)] [])) rfl (hb hby own_d23_132)
 refine ownE.go st8 ?_
 refine ownE.go (f' := (mkF m 174 #[.val (.ref r0), .val (.ref r0)] [(.ref r0)])) (fun t kt => XS.ifYes X8.here hx rfl (pc0 := 135) (pc' := 173) rfl (hb hby own_d23_135) rfl (Jvm.Free.XT.i0_ne_t (by decide)) (by decide) (by decide) (XS.aloadN X8.here hx rfl (hb hby own_d23_173) rfl rfl kt)) ?_
 refine ownE.retA X8 hx hlk hret rfl rfl rfl (hb hby own_d23_174) ?_ (by decide) (by decide)
 show own_Q23nn Z r0 nm en oz h0 n0 _ T8.heap _
 rw [e8]
 exact ⟨rfl, N7, K7, f7_0, f7_1, f7_2, f7_3, f7_4, f7_5⟩
theorem own_ef23rn (m : MethodId) (x0 : Addr) : entryFrame m #[(.ref x0)] 2 = mkF m 0 #[.val (.ref x0), .unset] [] := by first | (simp [entryFrame, mkF, argsToLocals, Value.category]; done) | rfl
def own_Q23rn (Z : State) (r0 : Addr) (lc : Addr) (nm : Addr) (en : Addr) (oz : Int32) (h0 : Heap) (n0 : Nat) (v : Option Value) (h : Heap) (L : List Loc) : Prop := v = some (.ref r0) ∧ Fr n0 L ∧ Keep h0 h [r0] ∧ Exa Z h r0 own_s0 ∧ Fld Z h r0 own_s0 "name" own_s7 (.ref nm) ∧ Fld Z h r0 own_s0 "entry" own_s5 (.ref en) ∧ Fld Z h r0 own_s0 "left" own_s1 (.ref lc) ∧ Fld Z h r0 own_s0 "right" own_s1 .null ∧ Fld Z h r0 own_s0 "size" "I" (.int (2 : Int32))
set_option maxRecDepth 65536 in
set_option maxHeartbeats 40000000 in
theorem own_rm23rn (l : Launch) (Z : State) (a0 : Array Value) (hw : ∀ d ∈ tables_1, d.before a0 Z = true) (ws : List Jvm.Cond) (r0 : Addr) (lc : Addr) (nm : Addr) (en : Addr) (oz : Int32) (h0 : Heap) (n0 : Nat) (Z0 : n0 ≤ h0.size) (Od : Old Z n0 h0) (zad : Sta Z Z.heap own_s3 "$assertionsDisabled" "Z" (.int (1 : Int32))) (P2 : Exa Z h0 r0 own_s0) (P3 : Fld Z h0 r0 own_s0 "name" own_s7 (.ref nm)) (P4 : Fld Z h0 r0 own_s0 "entry" own_s5 (.ref en)) (P5 : Fld Z h0 r0 own_s0 "left" own_s1 (.ref lc)) (P6 : Fld Z h0 r0 own_s0 "right" own_s1 .null) (P7 : Fld Z h0 r0 own_s0 "size" "I" (.int oz)) (P8 : n0 ≤ r0) (P9 : Fld Z h0 lc own_s0 "size" "I" (.int (1 : Int32))) (P10 : lc ≠ r0) :
    own_MF l Z own_y12 prog_24_method_15_code 2 (some (.object own_s0)) ws own_R3 #[(.ref r0)] h0 (own_Q23rn Z r0 lc nm en oz h0 n0) := by
 refine own_start (plainFor_of_name own_pn5) fun p e s m below meth c s₁ hx hby hret hlk hml hZ hown hnm X0 e0 => ?_
 have N0 := Fr.nil n0
 have K0 : Keep h0 h0 [r0] := Keep.refl h0 _
 rw [own_ef23rn]
 refine ownE.go (f' := (mkF m 1 #[.val (.ref r0), .unset] [(.ref r0)])) (fun t kt => XS.aloadN X0.here hx rfl (hb hby own_d23_0) rfl rfl kt) ?_
 obtain ⟨T1, X1, e1, st1⟩ := own_getR X0 hx hZ hown (own_w hw 138 rfl) e0 P6 (g := (mkF m 1 #[.val (.ref r0), .unset] [(.ref r0)])) rfl rfl (hb hby own_d23_1)
 refine ownE.go st1 ?_
 refine ownE.go (f' := (mkF m 5 #[.val (.ref r0), .unset] [(.ref r0), .null])) (fun t kt => XS.aloadN X1.here hx rfl (hb hby own_d23_4) rfl rfl kt) ?_
 obtain ⟨T2, X2, e2, st2⟩ := own_getR X1 hx hZ hown (own_w hw 143 rfl) e1 P5 (g := (mkF m 5 #[.val (.ref r0), .unset] [(.ref r0), .null])) rfl rfl (hb hby own_d23_5)
 refine ownE.go st2 ?_
 obtain ⟨_, _, ⟨T3, L3, k3, n3⟩, -, X3, ⟨Lc3, hQ3, l3, y3, z3⟩, st3⟩ := Jvm.LawKit.callS X2 hx (y := own_y10) hown (mvT hZ (own_w hw 145 rfl)) (mvT hZ (own_w hw 146 rfl)) (mvT hZ (own_w hw 28 rfl)) (mvT hZ (own_w hw 147 rfl)) (by decide) (backOf (W := 0) (own_rm24nr l Z a0 hw [] lc h0 n0 (Nat.le_trans Z0 K0.1) P9) hZ (own_w hw 147 rfl) (own_w hw 28 rfl) (by decide) (by decide)) (g := (mkF m 8 #[.val (.ref r0), .unset] [(.ref lc), .null])) rfl (by rw [hml]; rfl) (argsL := [.null, (.ref lc)]) (rest := []) (lenOf own_pd11 rfl) rfl (Nat.le_of_eq rfl) (hb hby own_d23_8) (fun _ _ => ⟨rfl, e2, (by decide : 0 + 0 ≤ _), (by decide : 0 + 0 ≤ _)⟩)
 dsimp only [Pt.U, Pt.locs, Pt.cells, Pt.slots] at X3 l3 y3 z3 st3 hQ3
 subst l3 y3 z3
 obtain ⟨rfl, N3q, e3⟩ := hQ3
 have N3 := Fr.app N0 N3q
 refine ownE.go st3 ?_
 refine ownE.go (f' := (mkF m 64 #[.val (.ref r0), .unset] [(.ref r0)])) (fun t kt => XS.ifYes X3.here hx rfl (pc0 := 11) (pc' := 63) rfl (hb hby own_d23_11) rfl (Jvm.Free.XT.i0_eq_t (by decide)) (by decide) (by decide) (XS.aloadN X3.here hx rfl (hb hby own_d23_63) rfl rfl kt)) ?_
 obtain ⟨T4, X4, e4, st4⟩ := own_getR X3 hx hZ hown (own_w hw 143 rfl) e3 P5 (g := (mkF m 64 #[.val (.ref r0), .unset] [(.ref r0)])) rfl rfl (hb hby own_d23_64)
 refine ownE.go st4 ?_
 refine ownE.go (f' := (mkF m 68 #[.val (.ref r0), .unset] [(.ref r0), (.ref lc)])) (fun t kt => XS.aloadN X4.here hx rfl (hb hby own_d23_67) rfl rfl kt) ?_
 obtain ⟨T5, X5, e5, st5⟩ := own_getR X4 hx hZ hown (own_w hw 138 rfl) e4 P6 (g := (mkF m 68 #[.val (.ref r0), .unset] [(.ref r0), (.ref lc)])) rfl rfl (hb hby own_d23_68)
 refine ownE.go st5 ?_
 obtain ⟨_, _, ⟨T6, L6, k6, n6⟩, -, X6, ⟨Lc6, hQ6, l6, y6, z6⟩, st6⟩ := Jvm.LawKit.callS X5 hx (y := own_y10) hown (mvT hZ (own_w hw 145 rfl)) (mvT hZ (own_w hw 146 rfl)) (mvT hZ (own_w hw 28 rfl)) (mvT hZ (own_w hw 147 rfl)) (by decide) (backOf (W := 0) (own_rm24rn l Z a0 hw [] lc h0 n0 (Nat.le_trans Z0 K0.1) P9) hZ (own_w hw 147 rfl) (own_w hw 28 rfl) (by decide) (by decide)) (g := (mkF m 71 #[.val (.ref r0), .unset] [.null, (.ref lc)])) rfl (by rw [hml]; rfl) (argsL := [(.ref lc), .null]) (rest := []) (lenOf own_pd11 rfl) rfl (Nat.le_of_eq rfl) (hb hby own_d23_71) (fun _ _ => ⟨rfl, e5, (by decide : 0 + 0 ≤ _), (by decide : 0 + 0 ≤ _)⟩)
 dsimp only [Pt.U, Pt.locs, Pt.cells, Pt.slots] at X6 l6 y6 z6 st6 hQ6
 subst l6 y6 z6
 obtain ⟨rfl, N6q, e6⟩ := hQ6
 have N6 := Fr.app N3 N6q
 refine ownE.go st6 ?_
 refine ownE.go (f' := (mkF m 127 #[.val (.ref r0), .unset] [(.ref r0)])) (fun t kt => XS.ifYes X6.here hx rfl (pc0 := 74) (pc' := 126) rfl (hb hby own_d23_74) rfl (Jvm.Free.XT.i0_eq_t (by decide)) (by decide) (by decide) (XS.aloadN X6.here hx rfl (hb hby own_d23_126) rfl rfl kt)) ?_
 obtain ⟨_, _, ⟨T7, L7, k7, n7⟩, -, X7, ⟨Lc7, hQ7, l7, y7, z7⟩, st7⟩ := Jvm.LawKit.callS X6 hx (y := own_y11) hown (mvT hZ (own_w hw 152 rfl)) (mvT hZ (own_w hw 153 rfl)) (mvT hZ (own_w hw 28 rfl)) (mvT hZ (own_w hw 154 rfl)) (by decide) (backOf (W := 0) (own_rm26rn l Z a0 hw [] r0 lc nm en oz h0 n0 (Nat.le_trans Z0 K0.1) P2 P3 P4 P5 P6 P7 P8 P9 P10) hZ (own_w hw 154 rfl) (own_w hw 28 rfl) (by decide) (by decide)) (g := (mkF m 127 #[.val (.ref r0), .unset] [(.ref r0)])) rfl (by rw [hml]; rfl) (argsL := [(.ref r0)]) (rest := []) (lenOf own_pd12 rfl) rfl (Nat.le_of_eq rfl) (hb hby own_d23_127) (fun _ _ => ⟨rfl, e6, (by decide : 0 + 0 ≤ _), (by decide : 0 + 0 ≤ _)⟩)
 dsimp only [Pt.U, Pt.locs, Pt.cells, Pt.slots] at X7 l7 y7 z7 st7 hQ7
 subst l7 y7 z7
 obtain ⟨rfl, N7q, K7q, f7_0, f7_1, f7_2, f7_3, f7_4, f7_5⟩ := hQ7
 have q124 := Od.keep K7q (allS P8 all0)
 have q125 := P2.keep K7q
 have q126 := P9.keep K7q (ninS P10 nin0)
 have K7 : Keep h0 T7.heap [r0] := K0.trans K7q (allS (Or.inl (List.mem_of_getElem? (i := 0) rfl)) all0)
 have N7 := Fr.app N6 N7q
 refine ownE.go st7 ?_
 refine ownE.go (f' := (mkF m 132 #[.val (.ref r0), .val (.ref r0)] [])) (fun t kt => XS.aloadN X7.here hx rfl (hb hby own_d23_130) rfl rfl (XS.astoreN X7.here hx rfl (hb hby own_d23_131) rfl rfl (l' := #[.val (.ref r0), .val (.ref r0)]) rfl kt)) ?_
 obtain ⟨T8, X8, e8, st8⟩ := getS2 X7 hx hZ hown (host := "") (Or.inl (own_w hw 155 rfl)) Via.refl rfl (zad.ext q124.2) (g := (mkF m 132 #[.val (.ref r0), .val (.ref r0)] [])) rfl (hb hby own_d23_132)
 refine ownE.go st8 ?_
 refine ownE.go (f' := (mkF m 174 #[.val (.ref r0), .val (.ref r0)] [(.ref r0)])) (fun t kt => XS.ifYes X8.here hx rfl (pc0 := 135) (pc' := 173) rfl (hb hby own_d23_135) rfl (Jvm.Free.XT.i0_ne_t (by decide)) (by decide) (by decide) (XS.aloadN X8.here hx rfl (hb hby own_d23_173) rfl rfl kt)) ?_
 refine ownE.retA X8 hx hlk hret rfl rfl rfl (hb hby own_d23_174) ?_ (by decide) (by decide)
 show own_Q23rn Z r0 lc nm en oz h0 n0 _ T8.heap _
 rw [e8]
 exact ⟨rfl, N7, K7, f7_0, f7_1, f7_2, f7_3, f7_4, f7_5⟩
theorem own_ef23nr (m : MethodId) (x0 : Addr) : entryFrame m #[(.ref x0)] 2 = mkF m 0 #[.val (.ref x0), .unset] [] := by first | (simp [entryFrame, mkF, argsToLocals, Value.category]; done) | rfl
def own_Q23nr (Z : State) (r0 : Addr) (lc : Addr) (nm : Addr) (en : Addr) (oz : Int32) (h0 : Heap) (n0 : Nat) (v : Option Value) (h : Heap) (L : List Loc) : Prop := v = some (.ref r0) ∧ Fr n0 L ∧ Keep h0 h [r0] ∧ Exa Z h r0 own_s0 ∧ Fld Z h r0 own_s0 "name" own_s7 (.ref nm) ∧ Fld Z h r0 own_s0 "entry" own_s5 (.ref en) ∧ Fld Z h r0 own_s0 "left" own_s1 .null ∧ Fld Z h r0 own_s0 "right" own_s1 (.ref lc) ∧ Fld Z h r0 own_s0 "size" "I" (.int (2 : Int32))
set_option maxRecDepth 65536 in
set_option maxHeartbeats 40000000 in
theorem own_rm23nr (l : Launch) (Z : State) (a0 : Array Value) (hw : ∀ d ∈ tables_1, d.before a0 Z = true) (ws : List Jvm.Cond) (r0 : Addr) (lc : Addr) (nm : Addr) (en : Addr) (oz : Int32) (h0 : Heap) (n0 : Nat) (Z0 : n0 ≤ h0.size) (Od : Old Z n0 h0) (zad : Sta Z Z.heap own_s3 "$assertionsDisabled" "Z" (.int (1 : Int32))) (P2 : Exa Z h0 r0 own_s0) (P3 : Fld Z h0 r0 own_s0 "name" own_s7 (.ref nm)) (P4 : Fld Z h0 r0 own_s0 "entry" own_s5 (.ref en)) (P5 : Fld Z h0 r0 own_s0 "left" own_s1 .null) (P6 : Fld Z h0 r0 own_s0 "right" own_s1 (.ref lc)) (P7 : Fld Z h0 r0 own_s0 "size" "I" (.int oz)) (P8 : n0 ≤ r0) (P9 : Fld Z h0 lc own_s0 "size" "I" (.int (1 : Int32))) (P10 : lc ≠ r0) :
    own_MF l Z own_y12 prog_24_method_15_code 2 (some (.object own_s0)) ws own_R3 #[(.ref r0)] h0 (own_Q23nr Z r0 lc nm en oz h0 n0) := by
 refine own_start (plainFor_of_name own_pn5) fun p e s m below meth c s₁ hx hby hret hlk hml hZ hown hnm X0 e0 => ?_
 have N0 := Fr.nil n0
 have K0 : Keep h0 h0 [r0] := Keep.refl h0 _
 rw [own_ef23nr]
 refine ownE.go (f' := (mkF m 1 #[.val (.ref r0), .unset] [(.ref r0)])) (fun t kt => XS.aloadN X0.here hx rfl (hb hby own_d23_0) rfl rfl kt) ?_
 obtain ⟨T1, X1, e1, st1⟩ := own_getR X0 hx hZ hown (own_w hw 138 rfl) e0 P6 (g := (mkF m 1 #[.val (.ref r0), .unset] [(.ref r0)])) rfl rfl (hb hby own_d23_1)
 refine ownE.go st1 ?_
 refine ownE.go (f' := (mkF m 5 #[.val (.ref r0), .unset] [(.ref r0), (.ref lc)])) (fun t kt => XS.aloadN X1.here hx rfl (hb hby own_d23_4) rfl rfl kt) ?_
 obtain ⟨T2, X2, e2, st2⟩ := own_getR X1 hx hZ hown (own_w hw 143 rfl) e1 P5 (g := (mkF m 5 #[.val (.ref r0), .unset] [(.ref r0), (.ref lc)])) rfl rfl (hb hby own_d23_5)
 refine ownE.go st2 ?_
 obtain ⟨_, _, ⟨T3, L3, k3, n3⟩, -, X3, ⟨Lc3, hQ3, l3, y3, z3⟩, st3⟩ := Jvm.LawKit.callS X2 hx (y := own_y10) hown (mvT hZ (own_w hw 145 rfl)) (mvT hZ (own_w hw 146 rfl)) (mvT hZ (own_w hw 28 rfl)) (mvT hZ (own_w hw 147 rfl)) (by decide) (backOf (W := 0) (own_rm24rn l Z a0 hw [] lc h0 n0 (Nat.le_trans Z0 K0.1) P9) hZ (own_w hw 147 rfl) (own_w hw 28 rfl) (by decide) (by decide)) (g := (mkF m 8 #[.val (.ref r0), .unset] [.null, (.ref lc)])) rfl (by rw [hml]; rfl) (argsL := [(.ref lc), .null]) (rest := []) (lenOf own_pd11 rfl) rfl (Nat.le_of_eq rfl) (hb hby own_d23_8) (fun _ _ => ⟨rfl, e2, (by decide : 0 + 0 ≤ _), (by decide : 0 + 0 ≤ _)⟩)
 dsimp only [Pt.U, Pt.locs, Pt.cells, Pt.slots] at X3 l3 y3 z3 st3 hQ3
 subst l3 y3 z3
 obtain ⟨rfl, N3q, e3⟩ := hQ3
 have N3 := Fr.app N0 N3q
 refine ownE.go st3 ?_
 refine ownE.go (f' := (mkF m 64 #[.val (.ref r0), .unset] [(.ref r0)])) (fun t kt => XS.ifYes X3.here hx rfl (pc0 := 11) (pc' := 63) rfl (hb hby own_d23_11) rfl (Jvm.Free.XT.i0_eq_t (by decide)) (by decide) (by decide) (XS.aloadN X3.here hx rfl (hb hby own_d23_63) rfl rfl kt)) ?_
 obtain ⟨T4, X4, e4, st4⟩ := own_getR X3 hx hZ hown (own_w hw 143 rfl) e3 P5 (g := (mkF m 64 #[.val (.ref r0), .unset] [(.ref r0)])) rfl rfl (hb hby own_d23_64)
 refine ownE.go st4 ?_
 refine ownE.go (f' := (mkF m 68 #[.val (.ref r0), .unset] [(.ref r0), .null])) (fun t kt => XS.aloadN X4.here hx rfl (hb hby own_d23_67) rfl rfl kt) ?_
 obtain ⟨T5, X5, e5, st5⟩ := own_getR X4 hx hZ hown (own_w hw 138 rfl) e4 P6 (g := (mkF m 68 #[.val (.ref r0), .unset] [(.ref r0), .null])) rfl rfl (hb hby own_d23_68)
 refine ownE.go st5 ?_
 obtain ⟨_, _, ⟨T6, L6, k6, n6⟩, -, X6, ⟨Lc6, hQ6, l6, y6, z6⟩, st6⟩ := Jvm.LawKit.callS X5 hx (y := own_y10) hown (mvT hZ (own_w hw 145 rfl)) (mvT hZ (own_w hw 146 rfl)) (mvT hZ (own_w hw 28 rfl)) (mvT hZ (own_w hw 147 rfl)) (by decide) (backOf (W := 0) (own_rm24nr l Z a0 hw [] lc h0 n0 (Nat.le_trans Z0 K0.1) P9) hZ (own_w hw 147 rfl) (own_w hw 28 rfl) (by decide) (by decide)) (g := (mkF m 71 #[.val (.ref r0), .unset] [(.ref lc), .null])) rfl (by rw [hml]; rfl) (argsL := [.null, (.ref lc)]) (rest := []) (lenOf own_pd11 rfl) rfl (Nat.le_of_eq rfl) (hb hby own_d23_71) (fun _ _ => ⟨rfl, e5, (by decide : 0 + 0 ≤ _), (by decide : 0 + 0 ≤ _)⟩)
 dsimp only [Pt.U, Pt.locs, Pt.cells, Pt.slots] at X6 l6 y6 z6 st6 hQ6
 subst l6 y6 z6
 obtain ⟨rfl, N6q, e6⟩ := hQ6
 have N6 := Fr.app N3 N6q
 refine ownE.go st6 ?_
 refine ownE.go (f' := (mkF m 127 #[.val (.ref r0), .unset] [(.ref r0)])) (fun t kt => XS.ifYes X6.here hx rfl (pc0 := 74) (pc' := 126) rfl (hb hby own_d23_74) rfl (Jvm.Free.XT.i0_eq_t (by decide)) (by decide) (by decide) (XS.aloadN X6.here hx rfl (hb hby own_d23_126) rfl rfl kt)) ?_
 obtain ⟨_, _, ⟨T7, L7, k7, n7⟩, -, X7, ⟨Lc7, hQ7, l7, y7, z7⟩, st7⟩ := Jvm.LawKit.callS X6 hx (y := own_y11) hown (mvT hZ (own_w hw 152 rfl)) (mvT hZ (own_w hw 153 rfl)) (mvT hZ (own_w hw 28 rfl)) (mvT hZ (own_w hw 154 rfl)) (by decide) (backOf (W := 0) (own_rm26nr l Z a0 hw [] r0 lc nm en oz h0 n0 (Nat.le_trans Z0 K0.1) P2 P3 P4 P5 P6 P7 P8 P9 P10) hZ (own_w hw 154 rfl) (own_w hw 28 rfl) (by decide) (by decide)) (g := (mkF m 127 #[.val (.ref r0), .unset] [(.ref r0)])) rfl (by rw [hml]; rfl) (argsL := [(.ref r0)]) (rest := []) (lenOf own_pd12 rfl) rfl (Nat.le_of_eq rfl) (hb hby own_d23_127) (fun _ _ => ⟨rfl, e6, (by decide : 0 + 0 ≤ _), (by decide : 0 + 0 ≤ _)⟩)
 dsimp only [Pt.U, Pt.locs, Pt.cells, Pt.slots] at X7 l7 y7 z7 st7 hQ7
 subst l7 y7 z7
 obtain ⟨rfl, N7q, K7q, f7_0, f7_1, f7_2, f7_3, f7_4, f7_5⟩ := hQ7
 have q127 := Od.keep K7q (allS P8 all0)
 have q128 := P2.keep K7q
 have q129 := P9.keep K7q (ninS P10 nin0)
 have K7 : Keep h0 T7.heap [r0] := K0.trans K7q (allS (Or.inl (List.mem_of_getElem? (i := 0) rfl)) all0)
 have N7 := Fr.app N6 N7q
 refine ownE.go st7 ?_
 refine ownE.go (f' := (mkF m 132 #[.val (.ref r0), .val (.ref r0)] [])) (fun t kt => XS.aloadN X7.here hx rfl (hb hby own_d23_130) rfl rfl (XS.astoreN X7.here hx rfl (hb hby own_d23_131) rfl rfl (l' := #[.val (.ref r0), .val (.ref r0)]) rfl kt)) ?_
 obtain ⟨T8, X8, e8, st8⟩ := getS2 X7 hx hZ hown (host := "") (Or.inl (own_w hw 155 rfl)) Via.refl rfl (zad.ext q127.2) (g := (mkF m 132 #[.val (.ref r0), .val (.ref r0)] [])) rfl (hb hby own_d23_132)
 refine ownE.go st8 ?_
 refine ownE.go (f' := (mkF m 174 #[.val (.ref r0), .val (.ref r0)] [(.ref r0)])) (fun t kt => XS.ifYes X8.here hx rfl (pc0 := 135) (pc' := 173) rfl (hb hby own_d23_135) rfl (Jvm.Free.XT.i0_ne_t (by decide)) (by decide) (by decide) (XS.aloadN X8.here hx rfl (hb hby own_d23_173) rfl rfl kt)) ?_
 refine ownE.retA X8 hx hlk hret rfl rfl rfl (hb hby own_d23_174) ?_ (by decide) (by decide)
 show own_Q23nr Z r0 lc nm en oz h0 n0 _ T8.heap _
 rw [e8]
 exact ⟨rfl, N7, K7, f7_0, f7_1, f7_2, f7_3, f7_4, f7_5⟩
theorem own_d17_0 : decode jdk_42_method_152_code 0 = .ok (.getstatic 38, 3) := by decide +kernel
theorem own_d17_3 : decode jdk_42_method_152_code 3 = .ok (.ifCond .eq 10, 3) := by decide +kernel
theorem own_d17_6 : decode jdk_42_method_152_code 6 = .ok (.aload_n 0, 1) := by decide +kernel
theorem own_d17_7 : decode jdk_42_method_152_code 7 = .ok (.getfield 15, 3) := by decide +kernel
theorem own_d17_10 : decode jdk_42_method_152_code 10 = .ok (.goto 4, 3) := by decide +kernel
theorem own_d17_14 : decode jdk_42_method_152_code 14 = .ok (.ireturn, 1) := by decide +kernel
theorem own_ef17 (m : MethodId) (x0 : Addr) : entryFrame m #[(.ref x0)] 1 = mkF m 0 #[.val (.ref x0)] [] := by first | (simp [entryFrame, mkF, argsToLocals, Value.category]; done) | rfl
def own_Q17 (Z : State) (r0 : Addr) (cs : Int32) (h0 : Heap) (n0 : Nat) (v : Option Value) (h : Heap) (L : List Loc) : Prop := v = some (.int (0 : Int32)) ∧ Fr n0 L ∧ h = h0
abbrev own_y13 : MethodName := (⟨"java/lang/String", "coder", "()B"⟩ : MethodName)
set_option maxRecDepth 65536 in
set_option maxHeartbeats 40000000 in
theorem own_rm17 (l : Launch) (Z : State) (a0 : Array Value) (hw : ∀ d ∈ tables_1, d.before a0 Z = true) (ws : List Jvm.Cond) (r0 : Addr) (cs : Int32) (h0 : Heap) (n0 : Nat) (Z0 : n0 ≤ h0.size) (Od : Old Z n0 h0) (hcs : Sta Z Z.heap own_s2 "COMPACT_STRINGS" "Z" (.int cs)) (hcsn : ¬ cs = (0 : Int32)) (P3 : Fld Z h0 r0 own_s2 "coder" "B" (.int (0 : Int32))) :
    own_MF l Z own_y13 jdk_42_method_152_code 1 (some .byte) ws own_R0 #[(.ref r0)] h0 (own_Q17 Z r0 cs h0 n0) := by
 refine own_start (plainFor_of_name own_pn1) fun p e s m below meth c s₁ hx hby hret hlk hml hZ hown hnm X0 e0 => ?_
 have N0 := Fr.nil n0
 have K0 : Keep h0 h0 [] := Keep.refl h0 _
 rw [own_ef17]
 obtain ⟨T1, X1, e1, st1⟩ := getS2 X0 hx hZ hown (host := "") (Or.inl (own_w hw 4 rfl)) Via.refl e0 (hcs.ext Od.2) (g := (mkF m 0 #[.val (.ref r0)] [])) rfl (hb hby own_d17_0)
 refine ownE.go st1 ?_
 refine ownE.go (f' := (mkF m 7 #[.val (.ref r0)] [(.ref r0)])) (fun t kt => XS.ifNo X1.here hx rfl (hb hby own_d17_3) rfl (Jvm.Free.XT.i0_eq_f hcsn) (XS.aloadN X1.here hx rfl (hb hby own_d17_6) rfl rfl kt)) ?_
 obtain ⟨T2, X2, e2, st2⟩ := getF X1 hx hZ hown (host := "") (Or.inl (own_w hw 24 rfl)) Via.refl e1 P3 (g := (mkF m 7 #[.val (.ref r0)] [(.ref r0)])) rfl rfl (hb hby own_d17_7)
 refine ownE.go st2 ?_
 refine ownE.go (f' := (mkF m 14 #[.val (.ref r0)] [(.int (0 : Int32))])) (fun t kt => XS.goto X2.here hx rfl (pc0 := 10) (pc' := 14) rfl (hb hby own_d17_10) (by decide) (by decide) kt) ?_
 refine ownE.retN X2 hx hlk (t := .byte) hret (by simp) (hb hby own_d17_14) ?_ (by decide) (by decide)
 show own_Q17 Z r0 cs h0 n0 _ T2.heap _
 rw [e2]
 exact ⟨rfl, N0, rfl⟩
theorem own_pd13 : parseMethodDescriptor "()B" = some ⟨[], some .byte⟩ := by decide +kernel
theorem own_d16_0 : decode jdk_42_method_54_code 0 = .ok (.aload_n 0, 1) := by decide +kernel
theorem own_d16_1 : decode jdk_42_method_54_code 1 = .ok (.getfield 9, 3) := by decide +kernel
theorem own_d16_4 : decode jdk_42_method_54_code 4 = .ok (.arraylength, 1) := by decide +kernel
theorem own_d16_5 : decode jdk_42_method_54_code 5 = .ok (.aload_n 0, 1) := by decide +kernel
theorem own_d16_6 : decode jdk_42_method_54_code 6 = .ok (.invokevirtual 335, 3) := by decide +kernel
theorem own_d16_9 : decode jdk_42_method_54_code 9 = .ok (.ishr, 1) := by decide +kernel
theorem own_d16_10 : decode jdk_42_method_54_code 10 = .ok (.ireturn, 1) := by decide +kernel
theorem own_ef16 (m : MethodId) (x0 : Addr) : entryFrame m #[(.ref x0)] 1 = mkF m 0 #[.val (.ref x0)] [] := by first | (simp [entryFrame, mkF, argsToLocals, Value.category]; done) | rfl
def own_Q16 (Z : State) (r0 : Addr) (va : Addr) (kk : ClassId) (b0 : Int32) (cs : Int32) (h0 : Heap) (n0 : Nat) (v : Option Value) (h : Heap) (L : List Loc) : Prop := v = some (.int (1 : Int32)) ∧ Fr n0 L ∧ h = h0
abbrev own_y14 : MethodName := (⟨"java/lang/String", "length", "()I"⟩ : MethodName)
set_option maxRecDepth 65536 in
set_option maxHeartbeats 40000000 in
theorem own_rm16 (l : Launch) (Z : State) (a0 : Array Value) (hw : ∀ d ∈ tables_1, d.before a0 Z = true) (ws : List Jvm.Cond) (r0 : Addr) (va : Addr) (kk : ClassId) (b0 : Int32) (cs : Int32) (h0 : Heap) (n0 : Nat) (Z0 : n0 ≤ h0.size) (Od : Old Z n0 h0) (hcs : Sta Z Z.heap own_s2 "COMPACT_STRINGS" "Z" (.int cs)) (hcsn : ¬ cs = (0 : Int32)) (P3 : Exa Z h0 r0 own_s2) (P4 : Fld Z h0 r0 own_s2 "coder" "B" (.int (0 : Int32))) (P5 : Fld Z h0 r0 own_s2 "value" "[B" (.ref va)) (P6 : Arv Z h0 va kk .byte (1 : Int32) [(.int b0)] (.int (0 : Int32))) :
    own_MF l Z own_y14 jdk_42_method_54_code 1 (some .int) ws ({ frames := 1, cells := 0, slots := 0, locals := 13 } : Room) #[(.ref r0)] h0 (own_Q16 Z r0 va kk b0 cs h0 n0) := by
 refine own_start (plainFor_of_name own_pn1) fun p e s m below meth c s₁ hx hby hret hlk hml hZ hown hnm X0 e0 => ?_
 have N0 := Fr.nil n0
 have K0 : Keep h0 h0 [] := Keep.refl h0 _
 rw [own_ef16]
 refine ownE.go (f' := (mkF m 1 #[.val (.ref r0)] [(.ref r0)])) (fun t kt => XS.aloadN X0.here hx rfl (hb hby own_d16_0) rfl rfl kt) ?_
 obtain ⟨T1, X1, e1, st1⟩ := getF X0 hx hZ hown (host := "") (Or.inl (own_w hw 22 rfl)) Via.refl e0 P5 (g := (mkF m 1 #[.val (.ref r0)] [(.ref r0)])) rfl rfl (hb hby own_d16_1)
 refine ownE.go st1 ?_
 obtain ⟨cl2, Ar2, q2, S2, Nn2, Hh2, G2⟩ := id P6
 refine ownE.go (T' := T1) (f' := (mkF m 5 #[.val (.ref r0)] [(.int (1 : Int32))])) (fun t kt => X1.arraylength hx (by rw [e1]; exact Ar2.1) (State.isArrayOf_alike hZ.alike Ar2.2.1) (g := (mkF m 4 #[.val (.ref r0)] [(.ref va)])) rfl rfl (hb hby own_d16_4) _ (by rw [len_of S2 Nn2]; exact kt)) ?_
 refine ownE.go (f' := (mkF m 6 #[.val (.ref r0)] [(.ref r0), (.int (1 : Int32))])) (fun t kt => XS.aloadN X1.here hx rfl (hb hby own_d16_5) rfl rfl kt) ?_
 obtain ⟨cq3, kq3, q3a, q3b, q3c⟩ := isOf hZ e1 P3
 obtain ⟨_, _, ⟨T3, L3, k3, n3⟩, -, X3, ⟨Lc3, hQ3, l3, y3, z3⟩, st3⟩ := X1.virtualBack hx (y := own_y13) (z := own_y13) hown (mvT hZ (own_w hw 111 rfl)) (mvT hZ (own_w hw 112 rfl)) (notFace_of_selects (args := #[]) (mvT hZ (own_w hw 114 rfl))) (mvT hZ (own_w hw 114 rfl)) (mvT hZ (own_w hw 113 rfl)) (by decide) (backOf (W := 1) (own_rm17 l Z a0 hw [] r0 cs h0 n0 (Nat.le_trans Z0 K0.1) Od hcs hcsn P4) hZ (own_w hw 115 rfl) (own_w hw 2 rfl) (by decide) (by decide)) q3a q3c (g := (mkF m 6 #[.val (.ref r0)] [(.ref r0), (.int (1 : Int32))])) rfl (by rw [hml]; rfl) (Steps.refl _) (argsL := []) (rest := [(.int (1 : Int32))]) (lenOf own_pd13 rfl) rfl (Nat.le_of_eq rfl) (hb hby own_d16_6) (fun _ _ => ⟨rfl, e1, (by decide : 0 + 0 ≤ _), (by decide : 0 + 0 ≤ _)⟩)
 dsimp only [Pt.U, Pt.locs, Pt.cells, Pt.slots] at X3 l3 y3 z3 st3 hQ3
 subst l3 y3 z3
 obtain ⟨rfl, N3q, e3⟩ := hQ3
 have N3 := Fr.app N0 N3q
 refine ownE.goS st3 ?_
 refine ownE.go (f' := (mkF m 10 #[.val (.ref r0)] [(.int (1 : Int32))])) (fun t kt => XS.ishr X3.here hx rfl (hb hby own_d16_9) rfl kt) ?_
 refine ownE.retI X3 hx hlk hret (hb hby own_d16_10) ?_ (by decide) (by decide)
 show own_Q16 Z r0 va kk b0 cs h0 n0 _ T3.heap _
 rw [e3]
 exact ⟨rfl, N3, rfl⟩
theorem own_d19_0 : decode jdk_42_method_154_code 0 = .ok (.getstatic 38, 3) := by decide +kernel
theorem own_d19_3 : decode jdk_42_method_154_code 3 = .ok (.ifCond .eq 14, 3) := by decide +kernel
theorem own_d19_6 : decode jdk_42_method_154_code 6 = .ok (.aload_n 0, 1) := by decide +kernel
theorem own_d19_7 : decode jdk_42_method_154_code 7 = .ok (.getfield 15, 3) := by decide +kernel
theorem own_d19_10 : decode jdk_42_method_154_code 10 = .ok (.ifCond .ne 7, 3) := by decide +kernel
theorem own_d19_13 : decode jdk_42_method_154_code 13 = .ok (.iconst 1, 1) := by decide +kernel
theorem own_d19_14 : decode jdk_42_method_154_code 14 = .ok (.goto 4, 3) := by decide +kernel
theorem own_d19_18 : decode jdk_42_method_154_code 18 = .ok (.ireturn, 1) := by decide +kernel
theorem own_ef19 (m : MethodId) (x0 : Addr) : entryFrame m #[(.ref x0)] 1 = mkF m 0 #[.val (.ref x0)] [] := by first | (simp [entryFrame, mkF, argsToLocals, Value.category]; done) | rfl
def own_Q19 (Z : State) (r0 : Addr) (cs : Int32) (h0 : Heap) (n0 : Nat) (v : Option Value) (h : Heap) (L : List Loc) : Prop := v = some (.int (1 : Int32)) ∧ Fr n0 L ∧ h = h0
abbrev own_y15 : MethodName := (⟨"java/lang/String", "isLatin1", "()Z"⟩ : MethodName)
set_option maxRecDepth 65536 in
set_option maxHeartbeats 40000000 in
theorem own_rm19 (l : Launch) (Z : State) (a0 : Array Value) (hw : ∀ d ∈ tables_1, d.before a0 Z = true) (ws : List Jvm.Cond) (r0 : Addr) (cs : Int32) (h0 : Heap) (n0 : Nat) (Z0 : n0 ≤ h0.size) (Od : Old Z n0 h0) (hcs : Sta Z Z.heap own_s2 "COMPACT_STRINGS" "Z" (.int cs)) (hcsn : ¬ cs = (0 : Int32)) (P3 : Fld Z h0 r0 own_s2 "coder" "B" (.int (0 : Int32))) :
    own_MF l Z own_y15 jdk_42_method_154_code 1 (some .boolean) ws own_R0 #[(.ref r0)] h0 (own_Q19 Z r0 cs h0 n0) := by
 refine own_start (plainFor_of_name own_pn1) fun p e s m below meth c s₁ hx hby hret hlk hml hZ hown hnm X0 e0 => ?_
 have N0 := Fr.nil n0
 have K0 : Keep h0 h0 [] := Keep.refl h0 _
 rw [own_ef19]
 obtain ⟨T1, X1, e1, st1⟩ := getS2 X0 hx hZ hown (host := "") (Or.inl (own_w hw 4 rfl)) Via.refl e0 (hcs.ext Od.2) (g := (mkF m 0 #[.val (.ref r0)] [])) rfl (hb hby own_d19_0)
 refine ownE.go st1 ?_
 refine ownE.go (f' := (mkF m 7 #[.val (.ref r0)] [(.ref r0)])) (fun t kt => XS.ifNo X1.here hx rfl (hb hby own_d19_3) rfl (Jvm.Free.XT.i0_eq_f hcsn) (XS.aloadN X1.here hx rfl (hb hby own_d19_6) rfl rfl kt)) ?_
 obtain ⟨T2, X2, e2, st2⟩ := getF X1 hx hZ hown (host := "") (Or.inl (own_w hw 24 rfl)) Via.refl e1 P3 (g := (mkF m 7 #[.val (.ref r0)] [(.ref r0)])) rfl rfl (hb hby own_d19_7)
 refine ownE.go st2 ?_
 refine ownE.go (f' := (mkF m 18 #[.val (.ref r0)] [(.int (1 : Int32))])) (fun t kt => XS.ifNo X2.here hx rfl (hb hby own_d19_10) rfl (Jvm.Free.XT.i0_ne_f (by decide)) (XS.iconst X2.here hx rfl (hb hby own_d19_13) (XS.goto X2.here hx rfl (pc0 := 14) (pc' := 18) rfl (hb hby own_d19_14) (by decide) (by decide) kt))) ?_
 refine ownE.retN X2 hx hlk (t := .boolean) hret (by simp) (hb hby own_d19_18) ?_ (by decide) (by decide)
 show own_Q19 Z r0 cs h0 n0 _ T2.heap _
 rw [e2]
 exact ⟨rfl, N0, rfl⟩
theorem own_d21_0 : decode jdk_41_method_11_code 0 = .ok (.iload_n 0, 1) := by decide +kernel
theorem own_d21_1 : decode jdk_41_method_11_code 1 = .ok (.ifCond .lt 8, 3) := by decide +kernel
theorem own_d21_4 : decode jdk_41_method_11_code 4 = .ok (.iload_n 0, 1) := by decide +kernel
theorem own_d21_5 : decode jdk_41_method_11_code 5 = .ok (.iload_n 1, 1) := by decide +kernel
theorem own_d21_6 : decode jdk_41_method_11_code 6 = .ok (.if_icmp .lt 10, 3) := by decide +kernel
theorem own_d21_16 : decode jdk_41_method_11_code 16 = .ok (.iload_n 0, 1) := by decide +kernel
theorem own_d21_17 : decode jdk_41_method_11_code 17 = .ok (.ireturn, 1) := by decide +kernel
theorem own_pn14 : plainName "jdk/internal/util/Preconditions" = true := by first | (simp [plainName, overriddenIn]; done) | decide +kernel
theorem own_ef21 (m : MethodId) (x2 : Value) (hv2 : x2.isRef = true) : entryFrame m #[(.int (0 : Int32)), (.int (1 : Int32)), x2] 3 = mkF m 0 #[.val (.int (0 : Int32)), .val (.int (1 : Int32)), .val x2] [] := by
  rcases ref_cases hv2 with rfl | ⟨y2, rfl⟩
  all_goals skip
  all_goals first | (simp [entryFrame, mkF, argsToLocals, Value.category]; done) | rfl
def own_Q21 (Z : State) (v2 : Value) (h0 : Heap) (n0 : Nat) (v : Option Value) (h : Heap) (L : List Loc) : Prop := v = some (.int (0 : Int32)) ∧ Fr n0 L ∧ h = h0
abbrev own_y16 : MethodName := (⟨"jdk/internal/util/Preconditions", "checkIndex", "(IILjava/util/function/BiFunction;)I"⟩ : MethodName)
set_option maxRecDepth 65536 in
set_option maxHeartbeats 40000000 in
theorem own_rm21 (l : Launch) (Z : State) (a0 : Array Value) (hw : ∀ d ∈ tables_1, d.before a0 Z = true) (ws : List Jvm.Cond) (v2 : Value) (h0 : Heap) (n0 : Nat) (Z0 : n0 ≤ h0.size) (P0 : v2.isRef = true) :
    own_MF l Z own_y16 jdk_41_method_11_code 3 (some .int) ws own_R0 #[(.int (0 : Int32)), (.int (1 : Int32)), v2] h0 (own_Q21 Z v2 h0 n0) := by
 refine own_start (plainFor_of_name own_pn14) fun p e s m below meth c s₁ hx hby hret hlk hml hZ hown hnm X0 e0 => ?_
 have N0 := Fr.nil n0
 have K0 : Keep h0 h0 [] := Keep.refl h0 _
 rw [own_ef21 m v2 P0]
 refine ownE.go (f' := (mkF m 17 #[.val (.int (0 : Int32)), .val (.int (1 : Int32)), .val v2] [(.int (0 : Int32))])) (fun t kt => XS.iloadN X0.here hx rfl (hb hby own_d21_0) rfl (XS.ifNo X0.here hx rfl (hb hby own_d21_1) rfl (Jvm.Free.XT.i0_lt_f (by decide)) (XS.iloadN X0.here hx rfl (hb hby own_d21_4) rfl (XS.iloadN X0.here hx rfl (hb hby own_d21_5) rfl (XS.icmpYes X0.here hx rfl (pc0 := 6) (pc' := 16) rfl (hb hby own_d21_6) rfl (Jvm.Free.XT.ii_lt_t (by decide)) (by decide) (by decide) (XS.iloadN X0.here hx rfl (hb hby own_d21_16) rfl kt)))))) ?_
 refine ownE.retI X0 hx hlk hret (hb hby own_d21_17) ?_ (by decide) (by decide)
 show own_Q21 Z v2 h0 n0 _ s₁.heap _
 rw [e0]
 exact ⟨rfl, N0, rfl⟩
theorem own_pd15 : parseMethodDescriptor "(IILjava/util/function/BiFunction;)I" = some ⟨[.int, .int, (.object "java/util/function/BiFunction")], some .int⟩ := by decide +kernel
theorem own_d20_0 : decode jdk_42_method_155_code 0 = .ok (.iload_n 0, 1) := by decide +kernel
theorem own_d20_1 : decode jdk_42_method_155_code 1 = .ok (.iload_n 1, 1) := by decide +kernel
theorem own_d20_2 : decode jdk_42_method_155_code 2 = .ok (.getstatic 1053, 3) := by decide +kernel
theorem own_d20_5 : decode jdk_42_method_155_code 5 = .ok (.invokestatic 1059, 3) := by decide +kernel
theorem own_d20_8 : decode jdk_42_method_155_code 8 = .ok (.pop, 1) := by decide +kernel
theorem own_d20_9 : decode jdk_42_method_155_code 9 = .ok (.return_, 1) := by decide +kernel
theorem own_ef20 (m : MethodId)  : entryFrame m #[(.int (0 : Int32)), (.int (1 : Int32))] 2 = mkF m 0 #[.val (.int (0 : Int32)), .val (.int (1 : Int32))] [] := by first | (simp [entryFrame, mkF, argsToLocals, Value.category]; done) | rfl
def own_Q20 (Z : State) (fmt : Value) (h0 : Heap) (n0 : Nat) (v : Option Value) (h : Heap) (L : List Loc) : Prop := v = none ∧ Fr n0 L ∧ h = h0
abbrev own_y17 : MethodName := (⟨"java/lang/String", "checkIndex", "(II)V"⟩ : MethodName)
set_option maxRecDepth 65536 in
set_option maxHeartbeats 40000000 in
theorem own_rm20 (l : Launch) (Z : State) (a0 : Array Value) (hw : ∀ d ∈ tables_1, d.before a0 Z = true) (ws : List Jvm.Cond) (fmt : Value) (h0 : Heap) (n0 : Nat) (Z0 : n0 ≤ h0.size) (Od : Old Z n0 h0) (zfm : Sta Z Z.heap own_s8 "SIOOBE_FORMATTER" own_s9 fmt) (hfm : fmt.isRef = true) :
    own_MF l Z own_y17 jdk_42_method_155_code 2 none ws ({ frames := 1, cells := 0, slots := 0, locals := 14 } : Room) #[(.int (0 : Int32)), (.int (1 : Int32))] h0 (own_Q20 Z fmt h0 n0) := by
 refine own_start (plainFor_of_name own_pn1) fun p e s m below meth c s₁ hx hby hret hlk hml hZ hown hnm X0 e0 => ?_
 have N0 := Fr.nil n0
 have K0 : Keep h0 h0 [] := Keep.refl h0 _
 rw [own_ef20]
 refine ownE.go (f' := (mkF m 2 #[.val (.int (0 : Int32)), .val (.int (1 : Int32))] [(.int (1 : Int32)), (.int (0 : Int32))])) (fun t kt => XS.iloadN X0.here hx rfl (hb hby own_d20_0) rfl (XS.iloadN X0.here hx rfl (hb hby own_d20_1) rfl kt)) ?_
 obtain ⟨T1, X1, e1, st1⟩ := getS2 X0 hx hZ hown (host := "") (Or.inl (own_w hw 129 rfl)) Via.refl e0 (zfm.ext Od.2) (g := (mkF m 2 #[.val (.int (0 : Int32)), .val (.int (1 : Int32))] [(.int (1 : Int32)), (.int (0 : Int32))])) rfl (hb hby own_d20_2)
 refine ownE.go st1 ?_
 obtain ⟨_, _, ⟨T2, L2, k2, n2⟩, -, X2, ⟨Lc2, hQ2, l2, y2, z2⟩, st2⟩ := Jvm.LawKit.callS X1 hx (y := own_y16) hown (mvT hZ (own_w hw 131 rfl)) (mvT hZ (own_w hw 132 rfl)) (mvT hZ (own_w hw 130 rfl)) (mvT hZ (own_w hw 133 rfl)) (by decide) (backOf (W := 0) (own_rm21 l Z a0 hw [] fmt h0 n0 (Nat.le_trans Z0 K0.1) hfm) hZ (own_w hw 133 rfl) (own_w hw 130 rfl) (by decide) (by decide)) (g := (mkF m 5 #[.val (.int (0 : Int32)), .val (.int (1 : Int32))] [fmt, (.int (1 : Int32)), (.int (0 : Int32))])) rfl (by rw [hml]; rfl) (argsL := [(.int (0 : Int32)), (.int (1 : Int32)), fmt]) (rest := []) (lenOf own_pd15 rfl) rfl (Nat.le_of_eq rfl) (hb hby own_d20_5) (fun _ _ => ⟨rfl, e1, (by decide : 0 + 0 ≤ _), (by decide : 0 + 0 ≤ _)⟩)
 dsimp only [Pt.U, Pt.locs, Pt.cells, Pt.slots] at X2 l2 y2 z2 st2 hQ2
 subst l2 y2 z2
 obtain ⟨rfl, N2q, e2⟩ := hQ2
 have N2 := Fr.app N0 N2q
 refine ownE.go st2 ?_
 refine ownE.go (f' := (mkF m 9 #[.val (.int (0 : Int32)), .val (.int (1 : Int32))] [])) (fun t kt => XS.pop X2.here hx rfl (hb hby own_d20_8) rfl rfl kt) ?_
 refine ownE.retV X2 hx hlk hret (hb hby own_d20_9) ?_ (by decide) (by decide)
 show own_Q20 Z fmt h0 n0 _ T2.heap _
 rw [e2]
 exact ⟨rfl, N2, rfl⟩
theorem own_pd16 : parseMethodDescriptor "()Z" = some ⟨[], some .boolean⟩ := by decide +kernel
theorem own_pd17 : parseMethodDescriptor "(II)V" = some ⟨[.int, .int], none⟩ := by decide +kernel
theorem own_d18_0 : decode jdk_42_method_57_code 0 = .ok (.aload_n 0, 1) := by decide +kernel
theorem own_d18_1 : decode jdk_42_method_57_code 1 = .ok (.invokevirtual 492, 3) := by decide +kernel
theorem own_d18_4 : decode jdk_42_method_57_code 4 = .ok (.ifCond .eq 23, 3) := by decide +kernel
theorem own_d18_7 : decode jdk_42_method_57_code 7 = .ok (.iload_n 1, 1) := by decide +kernel
theorem own_d18_8 : decode jdk_42_method_57_code 8 = .ok (.aload_n 0, 1) := by decide +kernel
theorem own_d18_9 : decode jdk_42_method_57_code 9 = .ok (.getfield 9, 3) := by decide +kernel
theorem own_d18_12 : decode jdk_42_method_57_code 12 = .ok (.arraylength, 1) := by decide +kernel
theorem own_d18_13 : decode jdk_42_method_57_code 13 = .ok (.invokestatic 499, 3) := by decide +kernel
theorem own_d18_16 : decode jdk_42_method_57_code 16 = .ok (.aload_n 0, 1) := by decide +kernel
theorem own_d18_17 : decode jdk_42_method_57_code 17 = .ok (.getfield 9, 3) := by decide +kernel
theorem own_d18_20 : decode jdk_42_method_57_code 20 = .ok (.iload_n 1, 1) := by decide +kernel
theorem own_d18_21 : decode jdk_42_method_57_code 21 = .ok (.baload, 1) := by decide +kernel
theorem own_d18_22 : decode jdk_42_method_57_code 22 = .ok (.sipush 255, 3) := by decide +kernel
theorem own_d18_25 : decode jdk_42_method_57_code 25 = .ok (.iand, 1) := by decide +kernel
theorem own_d18_26 : decode jdk_42_method_57_code 26 = .ok (.ireturn, 1) := by decide +kernel
theorem own_ef18 (m : MethodId) (x0 : Addr) : entryFrame m #[(.ref x0), (.int (0 : Int32))] 3 = mkF m 0 #[.val (.ref x0), .val (.int (0 : Int32)), .unset] [] := by first | (simp [entryFrame, mkF, argsToLocals, Value.category]; done) | rfl
def own_Q18 (Z : State) (r0 : Addr) (va : Addr) (kk : ClassId) (b0 : Int32) (cs : Int32) (fmt : Value) (h0 : Heap) (n0 : Nat) (v : Option Value) (h : Heap) (L : List Loc) : Prop := v = some (.int (b0 &&& (255 : Int32))) ∧ Fr n0 L ∧ h = h0
abbrev own_y18 : MethodName := (⟨"java/lang/String", "codePointAt", "(I)I"⟩ : MethodName)
set_option maxRecDepth 65536 in
set_option maxHeartbeats 40000000 in
theorem own_rm18 (l : Launch) (Z : State) (a0 : Array Value) (hw : ∀ d ∈ tables_1, d.before a0 Z = true) (ws : List Jvm.Cond) (r0 : Addr) (va : Addr) (kk : ClassId) (b0 : Int32) (cs : Int32) (fmt : Value) (h0 : Heap) (n0 : Nat) (Z0 : n0 ≤ h0.size) (Od : Old Z n0 h0) (hcs : Sta Z Z.heap own_s2 "COMPACT_STRINGS" "Z" (.int cs)) (hcsn : ¬ cs = (0 : Int32)) (zfm : Sta Z Z.heap own_s8 "SIOOBE_FORMATTER" own_s9 fmt) (hfm : fmt.isRef = true) (P5 : Exa Z h0 r0 own_s2) (P6 : Fld Z h0 r0 own_s2 "coder" "B" (.int (0 : Int32))) (P7 : Fld Z h0 r0 own_s2 "value" "[B" (.ref va)) (P8 : Arv Z h0 va kk .byte (1 : Int32) [(.int b0)] (.int (0 : Int32))) :
    own_MF l Z own_y18 jdk_42_method_57_code 3 (some .int) ws ({ frames := 2, cells := 0, slots := 0, locals := 27 } : Room) #[(.ref r0), (.int (0 : Int32))] h0 (own_Q18 Z r0 va kk b0 cs fmt h0 n0) := by
 refine own_start (plainFor_of_name own_pn1) fun p e s m below meth c s₁ hx hby hret hlk hml hZ hown hnm X0 e0 => ?_
 have N0 := Fr.nil n0
 have K0 : Keep h0 h0 [] := Keep.refl h0 _
 rw [own_ef18]
 refine ownE.go (f' := (mkF m 1 #[.val (.ref r0), .val (.int (0 : Int32)), .unset] [(.ref r0)])) (fun t kt => XS.aloadN X0.here hx rfl (hb hby own_d18_0) rfl rfl kt) ?_
 obtain ⟨cq1, kq1, q1a, q1b, q1c⟩ := isOf hZ e0 P5
 obtain ⟨_, _, ⟨T1, L1, k1, n1⟩, -, X1, ⟨Lc1, hQ1, l1, y1, z1⟩, st1⟩ := X0.virtualBack hx (y := own_y15) (z := own_y15) hown (mvT hZ (own_w hw 121 rfl)) (mvT hZ (own_w hw 122 rfl)) (notFace_of_selects (args := #[]) (mvT hZ (own_w hw 124 rfl))) (mvT hZ (own_w hw 124 rfl)) (mvT hZ (own_w hw 123 rfl)) (by decide) (backOf (W := 0) (own_rm19 l Z a0 hw [] r0 cs h0 n0 (Nat.le_trans Z0 K0.1) Od hcs hcsn P6) hZ (own_w hw 125 rfl) (own_w hw 2 rfl) (by decide) (by decide)) q1a q1c (g := (mkF m 1 #[.val (.ref r0), .val (.int (0 : Int32)), .unset] [(.ref r0)])) rfl (by rw [hml]; rfl) (Steps.refl _) (argsL := []) (rest := []) (lenOf own_pd16 rfl) rfl (Nat.le_of_eq rfl) (hb hby own_d18_1) (fun _ _ => ⟨rfl, e0, (by decide : 0 + 0 ≤ _), (by decide : 0 + 0 ≤ _)⟩)
 dsimp only [Pt.U, Pt.locs, Pt.cells, Pt.slots] at X1 l1 y1 z1 st1 hQ1
 subst l1 y1 z1
 obtain ⟨rfl, N1q, e1⟩ := hQ1
 have N1 := Fr.app N0 N1q
 refine ownE.goS st1 ?_
 refine ownE.go (f' := (mkF m 9 #[.val (.ref r0), .val (.int (0 : Int32)), .unset] [(.ref r0), (.int (0 : Int32))])) (fun t kt => XS.ifNo X1.here hx rfl (hb hby own_d18_4) rfl (Jvm.Free.XT.i0_eq_f (by decide)) (XS.iloadN X1.here hx rfl (hb hby own_d18_7) rfl (XS.aloadN X1.here hx rfl (hb hby own_d18_8) rfl rfl kt))) ?_
 obtain ⟨T2, X2, e2, st2⟩ := getF X1 hx hZ hown (host := "") (Or.inl (own_w hw 22 rfl)) Via.refl e1 P7 (g := (mkF m 9 #[.val (.ref r0), .val (.int (0 : Int32)), .unset] [(.ref r0), (.int (0 : Int32))])) rfl rfl (hb hby own_d18_9)
 refine ownE.go st2 ?_
 obtain ⟨cl3, Ar3, q3, S3, Nn3, Hh3, G3⟩ := id P8
 refine ownE.go (T' := T2) (f' := (mkF m 13 #[.val (.ref r0), .val (.int (0 : Int32)), .unset] [(.int (1 : Int32)), (.int (0 : Int32))])) (fun t kt => X2.arraylength hx (by rw [e2]; exact Ar3.1) (State.isArrayOf_alike hZ.alike Ar3.2.1) (g := (mkF m 12 #[.val (.ref r0), .val (.int (0 : Int32)), .unset] [(.ref va), (.int (0 : Int32))])) rfl rfl (hb hby own_d18_12) _ (by rw [len_of S3 Nn3]; exact kt)) ?_
 obtain ⟨_, _, ⟨T4, L4, k4, n4⟩, -, X4, ⟨Lc4, hQ4, l4, y4, z4⟩, st4⟩ := Jvm.LawKit.callS X2 hx (y := own_y17) hown (mvT hZ (own_w hw 126 rfl)) (mvT hZ (own_w hw 127 rfl)) (mvT hZ (own_w hw 2 rfl)) (mvT hZ (own_w hw 128 rfl)) (by decide) (backOf (W := 0) (own_rm20 l Z a0 hw [] fmt h0 n0 (Nat.le_trans Z0 K0.1) Od zfm hfm) hZ (own_w hw 128 rfl) (own_w hw 2 rfl) (by decide) (by decide)) (g := (mkF m 13 #[.val (.ref r0), .val (.int (0 : Int32)), .unset] [(.int (1 : Int32)), (.int (0 : Int32))])) rfl (by rw [hml]; rfl) (argsL := [(.int (0 : Int32)), (.int (1 : Int32))]) (rest := []) (lenOf own_pd17 rfl) rfl (Nat.le_of_eq rfl) (hb hby own_d18_13) (fun _ _ => ⟨rfl, e2, (by decide : 0 + 0 ≤ _), (by decide : 0 + 0 ≤ _)⟩)
 dsimp only [Pt.U, Pt.locs, Pt.cells, Pt.slots] at X4 l4 y4 z4 st4 hQ4
 subst l4 y4 z4
 obtain ⟨rfl, N4q, e4⟩ := hQ4
 have N4 := Fr.app N1 N4q
 refine ownE.go st4 ?_
 refine ownE.go (f' := (mkF m 17 #[.val (.ref r0), .val (.int (0 : Int32)), .unset] [(.ref r0)])) (fun t kt => XS.aloadN X4.here hx rfl (hb hby own_d18_16) rfl rfl kt) ?_
 obtain ⟨T5, X5, e5, st5⟩ := getF X4 hx hZ hown (host := "") (Or.inl (own_w hw 22 rfl)) Via.refl e4 P7 (g := (mkF m 17 #[.val (.ref r0), .val (.int (0 : Int32)), .unset] [(.ref r0)])) rfl rfl (hb hby own_d18_17)
 refine ownE.go st5 ?_
 refine ownE.go (f' := (mkF m 21 #[.val (.ref r0), .val (.int (0 : Int32)), .unset] [(.int (0 : Int32)), (.ref va)])) (fun t kt => XS.iloadN X5.here hx rfl (hb hby own_d18_20) rfl kt) ?_
 obtain ⟨cl6, Ar6, q6, S6, Nn6, Hh6, G6⟩ := id P8
 refine ownE.go (T' := T5) (f' := (mkF m 22 #[.val (.ref r0), .val (.int (0 : Int32)), .unset] [(.int b0)])) (fun t kt => X5.baloadBytes hx (j := (0 : Int32)) (v := (.int b0)) (by rw [e5]; exact Ar6.1) (State.isArrayOf_alike hZ.alike Ar6.2.1) Ar6.2.2 (inb_of S6 ⟨by decide, by decide⟩) (Hh6.at (inb_of S6 ⟨by decide, by decide⟩) rfl) (g := (mkF m 21 #[.val (.ref r0), .val (.int (0 : Int32)), .unset] [(.int (0 : Int32)), (.ref va)])) rfl rfl (hb hby own_d18_21) _ kt) ?_
 refine ownE.go (f' := (mkF m 26 #[.val (.ref r0), .val (.int (0 : Int32)), .unset] [(.int (b0 &&& (255 : Int32)))])) (fun t kt => XS.sipush X5.here hx rfl (hb hby own_d18_22) (XS.iand X5.here hx rfl (hb hby own_d18_25) rfl kt)) ?_
 refine ownE.retI X5 hx hlk hret (hb hby own_d18_26) ?_ (by decide) (by decide)
 show own_Q18 Z r0 va kk b0 cs fmt h0 n0 _ T5.heap _
 rw [e5]
 exact ⟨rfl, N4, rfl⟩
theorem own_d29_0 : decode jdk_89_method_18_code 0 = .ok (.iload_n 0, 1) := by decide +kernel
theorem own_d29_1 : decode jdk_89_method_18_code 1 = .ok (.ldc 73, 2) := by decide +kernel
theorem own_d29_3 : decode jdk_89_method_18_code 3 = .ok (.if_icmp .lt 7, 3) := by decide +kernel
theorem own_d29_10 : decode jdk_89_method_18_code 10 = .ok (.iconst 1, 1) := by decide +kernel
theorem own_d29_11 : decode jdk_89_method_18_code 11 = .ok (.ireturn, 1) := by decide +kernel
theorem own_pn18 : plainName "java/lang/Character" = true := by first | (simp [plainName, overriddenIn]; done) | decide +kernel
theorem own_ef29 (m : MethodId) (x0 : Int32) : entryFrame m #[(.int x0)] 1 = mkF m 0 #[.val (.int x0)] [] := by first | (simp [entryFrame, mkF, argsToLocals, Value.category]; done) | rfl
def own_Q29 (Z : State) (i0 : Int32) (h0 : Heap) (n0 : Nat) (v : Option Value) (h : Heap) (L : List Loc) : Prop := v = some (.int (1 : Int32)) ∧ Fr n0 L ∧ h = h0
abbrev own_y19 : MethodName := (⟨"java/lang/Character", "charCount", "(I)I"⟩ : MethodName)
set_option maxRecDepth 65536 in
set_option maxHeartbeats 40000000 in
theorem own_rm29 (l : Launch) (Z : State) (a0 : Array Value) (hw : ∀ d ∈ tables_1, d.before a0 Z = true) (ws : List Jvm.Cond) (i0 : Int32) (h0 : Heap) (n0 : Nat) (Z0 : n0 ≤ h0.size) (P0 : i0 < (65536 : Int32)) :
    own_MF l Z own_y19 jdk_89_method_18_code 1 (some .int) ws own_R0 #[(.int i0)] h0 (own_Q29 Z i0 h0 n0) := by
 refine own_start (plainFor_of_name own_pn18) fun p e s m below meth c s₁ hx hby hret hlk hml hZ hown hnm X0 e0 => ?_
 have N0 := Fr.nil n0
 have K0 : Keep h0 h0 [] := Keep.refl h0 _
 rw [own_ef29]
 refine ownE.go (f' := (mkF m 11 #[.val (.int i0)] [(.int (1 : Int32))])) (fun t kt => XS.iloadN X0.here hx rfl (hb hby own_d29_0) rfl (X0.ldcInt hx hown (mvT hZ (own_w hw 171 rfl)) (g := (mkF m 1 #[.val (.int i0)] [(.int i0)])) rfl (hb hby own_d29_1) _ (XS.icmpYes X0.here hx rfl (pc0 := 3) (pc' := 10) rfl (hb hby own_d29_3) rfl (Jvm.Free.XT.ii_lt_t P0) (by decide) (by decide) (XS.iconst X0.here hx rfl (hb hby own_d29_10) kt)))) ?_
 refine ownE.retI X0 hx hlk hret (hb hby own_d29_11) ?_ (by decide) (by decide)
 show own_Q29 Z i0 h0 n0 _ s₁.heap _
 rw [e0]
 exact ⟨rfl, N0, rfl⟩
theorem own_d22_0 : decode jdk_33_method_40_code 0 = .ok (.iload_n 0, 1) := by decide +kernel
theorem own_d22_1 : decode jdk_33_method_40_code 1 = .ok (.iload_n 1, 1) := by decide +kernel
theorem own_d22_2 : decode jdk_33_method_40_code 2 = .ok (.if_icmp .ge 7, 3) := by decide +kernel
theorem own_d22_5 : decode jdk_33_method_40_code 5 = .ok (.iconst (-1), 1) := by decide +kernel
theorem own_d22_6 : decode jdk_33_method_40_code 6 = .ok (.goto 13, 3) := by decide +kernel
theorem own_d22_19 : decode jdk_33_method_40_code 19 = .ok (.ireturn, 1) := by decide +kernel
theorem own_pn19 : plainName "java/lang/Integer" = true := by first | (simp [plainName, overriddenIn]; done) | decide +kernel
theorem own_ef22l (m : MethodId) (x0 : Int32) (x1 : Int32) : entryFrame m #[(.int x0), (.int x1)] 2 = mkF m 0 #[.val (.int x0), .val (.int x1)] [] := by first | (simp [entryFrame, mkF, argsToLocals, Value.category]; done) | rfl
def own_Q22l (Z : State) (i0 : Int32) (i1 : Int32) (h0 : Heap) (n0 : Nat) (v : Option Value) (h : Heap) (L : List Loc) : Prop := v = some (.int (-1 : Int32)) ∧ Fr n0 L ∧ h = h0
abbrev own_y20 : MethodName := (⟨"java/lang/Integer", "compare", "(II)I"⟩ : MethodName)
set_option maxRecDepth 65536 in
set_option maxHeartbeats 40000000 in
theorem own_rm22l (l : Launch) (Z : State) (a0 : Array Value) (hw : ∀ d ∈ tables_1, d.before a0 Z = true) (ws : List Jvm.Cond) (i0 : Int32) (i1 : Int32) (h0 : Heap) (n0 : Nat) (Z0 : n0 ≤ h0.size) (P0 : i0 < i1) :
    own_MF l Z own_y20 jdk_33_method_40_code 2 (some .int) ws own_R0 #[(.int i0), (.int i1)] h0 (own_Q22l Z i0 i1 h0 n0) := by
 refine own_start (plainFor_of_name own_pn19) fun p e s m below meth c s₁ hx hby hret hlk hml hZ hown hnm X0 e0 => ?_
 have N0 := Fr.nil n0
 have K0 : Keep h0 h0 [] := Keep.refl h0 _
 rw [own_ef22l]
 refine ownE.go (f' := (mkF m 19 #[.val (.int i0), .val (.int i1)] [(.int (-1 : Int32))])) (fun t kt => XS.iloadN X0.here hx rfl (hb hby own_d22_0) rfl (XS.iloadN X0.here hx rfl (hb hby own_d22_1) rfl (XS.icmpNo X0.here hx rfl (hb hby own_d22_2) rfl (Jvm.Free.XT.ii_ge_f P0) (XS.iconst X0.here hx rfl (hb hby own_d22_5) (XS.goto X0.here hx rfl (pc0 := 6) (pc' := 19) rfl (hb hby own_d22_6) (by decide) (by decide) kt))))) ?_
 refine ownE.retI X0 hx hlk hret (hb hby own_d22_19) ?_ (by decide) (by decide)
 show own_Q22l Z i0 i1 h0 n0 _ s₁.heap _
 rw [e0]
 exact ⟨rfl, N0, rfl⟩
theorem own_d22_9 : decode jdk_33_method_40_code 9 = .ok (.iload_n 0, 1) := by decide +kernel
theorem own_d22_10 : decode jdk_33_method_40_code 10 = .ok (.iload_n 1, 1) := by decide +kernel
theorem own_d22_11 : decode jdk_33_method_40_code 11 = .ok (.if_icmp .ne 7, 3) := by decide +kernel
theorem own_d22_18 : decode jdk_33_method_40_code 18 = .ok (.iconst 1, 1) := by decide +kernel
theorem own_ef22g (m : MethodId) (x0 : Int32) (x1 : Int32) : entryFrame m #[(.int x0), (.int x1)] 2 = mkF m 0 #[.val (.int x0), .val (.int x1)] [] := by first | (simp [entryFrame, mkF, argsToLocals, Value.category]; done) | rfl
def own_Q22g (Z : State) (i0 : Int32) (i1 : Int32) (h0 : Heap) (n0 : Nat) (v : Option Value) (h : Heap) (L : List Loc) : Prop := v = some (.int (1 : Int32)) ∧ Fr n0 L ∧ h = h0
set_option maxRecDepth 65536 in
set_option maxHeartbeats 40000000 in
theorem own_rm22g (l : Launch) (Z : State) (a0 : Array Value) (hw : ∀ d ∈ tables_1, d.before a0 Z = true) (ws : List Jvm.Cond) (i0 : Int32) (i1 : Int32) (h0 : Heap) (n0 : Nat) (Z0 : n0 ≤ h0.size) (P0 : ¬ i0 < i1) (P1 : ¬ i0 = i1) :
    own_MF l Z own_y20 jdk_33_method_40_code 2 (some .int) ws own_R0 #[(.int i0), (.int i1)] h0 (own_Q22g Z i0 i1 h0 n0) := by
 refine own_start (plainFor_of_name own_pn19) fun p e s m below meth c s₁ hx hby hret hlk hml hZ hown hnm X0 e0 => ?_
 have N0 := Fr.nil n0
 have K0 : Keep h0 h0 [] := Keep.refl h0 _
 rw [own_ef22g]
 refine ownE.go (f' := (mkF m 19 #[.val (.int i0), .val (.int i1)] [(.int (1 : Int32))])) (fun t kt => XS.iloadN X0.here hx rfl (hb hby own_d22_0) rfl (XS.iloadN X0.here hx rfl (hb hby own_d22_1) rfl (XS.icmpYes X0.here hx rfl (pc0 := 2) (pc' := 9) rfl (hb hby own_d22_2) rfl (Jvm.Free.XT.ii_ge_t P0) (by decide) (by decide) (XS.iloadN X0.here hx rfl (hb hby own_d22_9) rfl (XS.iloadN X0.here hx rfl (hb hby own_d22_10) rfl (XS.icmpYes X0.here hx rfl (pc0 := 11) (pc' := 18) rfl (hb hby own_d22_11) rfl (Jvm.Free.XT.ii_ne_t P1) (by decide) (by decide) (XS.iconst X0.here hx rfl (hb hby own_d22_18) kt))))))) ?_
 refine ownE.retI X0 hx hlk hret (hb hby own_d22_19) ?_ (by decide) (by decide)
 show own_Q22g Z i0 i1 h0 n0 _ s₁.heap _
 rw [e0]
 exact ⟨rfl, N0, rfl⟩
theorem own_d30_0 : decode jdk_2055_method_14_code 0 = .ok (.iload_n 0, 1) := by decide +kernel
theorem own_d30_1 : decode jdk_2055_method_14_code 1 = .ok (.iload_n 1, 1) := by decide +kernel
theorem own_d30_2 : decode jdk_2055_method_14_code 2 = .ok (.if_icmp .ne 7, 3) := by decide +kernel
theorem own_d30_5 : decode jdk_2055_method_14_code 5 = .ok (.iconst 0, 1) := by decide +kernel
theorem own_d30_6 : decode jdk_2055_method_14_code 6 = .ok (.goto 12, 3) := by decide +kernel
theorem own_d30_18 : decode jdk_2055_method_14_code 18 = .ok (.ireturn, 1) := by decide +kernel
theorem own_pn20 : plainName "java/lang/Boolean" = true := by first | (simp [plainName, overriddenIn]; done) | decide +kernel
theorem own_ef30 (m : MethodId)  : entryFrame m #[(.int (0 : Int32)), (.int (0 : Int32))] 2 = mkF m 0 #[.val (.int (0 : Int32)), .val (.int (0 : Int32))] [] := by first | (simp [entryFrame, mkF, argsToLocals, Value.category]; done) | rfl
def own_Q30 (Z : State)  (h0 : Heap) (n0 : Nat) (v : Option Value) (h : Heap) (L : List Loc) : Prop := v = some (.int (0 : Int32)) ∧ Fr n0 L ∧ h = h0
abbrev own_y21 : MethodName := (⟨"java/lang/Boolean", "compare", "(ZZ)I"⟩ : MethodName)
set_option maxRecDepth 65536 in
set_option maxHeartbeats 40000000 in
theorem own_rm30 (l : Launch) (Z : State) (a0 : Array Value) (hw : ∀ d ∈ tables_1, d.before a0 Z = true) (ws : List Jvm.Cond)  (h0 : Heap) (n0 : Nat) (Z0 : n0 ≤ h0.size) :
    own_MF l Z own_y21 jdk_2055_method_14_code 2 (some .int) ws own_R0 #[(.int (0 : Int32)), (.int (0 : Int32))] h0 (own_Q30 Z  h0 n0) := by
 refine own_start (plainFor_of_name own_pn20) fun p e s m below meth c s₁ hx hby hret hlk hml hZ hown hnm X0 e0 => ?_
 have N0 := Fr.nil n0
 have K0 : Keep h0 h0 [] := Keep.refl h0 _
 rw [own_ef30]
 refine ownE.go (f' := (mkF m 18 #[.val (.int (0 : Int32)), .val (.int (0 : Int32))] [(.int (0 : Int32))])) (fun t kt => XS.iloadN X0.here hx rfl (hb hby own_d30_0) rfl (XS.iloadN X0.here hx rfl (hb hby own_d30_1) rfl (XS.icmpNo X0.here hx rfl (hb hby own_d30_2) rfl (Jvm.Free.XT.ii_ne_f (by decide)) (XS.iconst X0.here hx rfl (hb hby own_d30_5) (XS.goto X0.here hx rfl (pc0 := 6) (pc' := 18) rfl (hb hby own_d30_6) (by decide) (by decide) kt))))) ?_
 refine ownE.retI X0 hx hlk hret (hb hby own_d30_18) ?_ (by decide) (by decide)
 show own_Q30 Z  h0 n0 _ s₁.heap _
 rw [e0]
 exact ⟨rfl, N0, rfl⟩
theorem own_small (x : Int32) : (x &&& (255 : Int32)) < (65536 : Int32) := by
  have h := c_mask x 255 8 (by decide) (by decide)
  have e : (65536 : Int32).toInt = 65536 := by decide
  have p : ((2 ^ 8 : Nat) : Int) = 256 := by decide
  rw [Int32.lt_iff_toInt_lt, h, e, p]
  omega
abbrev own_l2 (r0 : Addr) (r1 : Addr) : Array Slot := #[.val (.ref r0), .val (.ref r1), .val (.int (0 : Int32)), .val (.int (0 : Int32)), .unset, .unset]
theorem own_pd21 : parseMethodDescriptor "()I" = some ⟨[], some .int⟩ := by decide +kernel
theorem own_pd22 : parseMethodDescriptor "(I)I" = some ⟨[.int], some .int⟩ := by decide +kernel
abbrev own_l3 (x : Int32) (r0 : Addr) (r1 : Addr) : Array Slot := #[.val (.ref r0), .val (.ref r1), .val (.int (0 : Int32)), .val (.int (0 : Int32)), .val (.int (x &&& (255 : Int32))), .unset]
abbrev own_l4 (x : Int32) (y : Int32) (r0 : Addr) (r1 : Addr) : Array Slot := #[.val (.ref r0), .val (.ref r1), .val (.int (0 : Int32)), .val (.int (0 : Int32)), .val (.int (x &&& (255 : Int32))), .val (.int (y &&& (255 : Int32)))]
abbrev own_l5 (x : Int32) (y : Int32) (r0 : Addr) (r1 : Addr) : Array Slot := #[.val (.ref r0), .val (.ref r1), .val (.int (1 : Int32)), .val (.int (0 : Int32)), .val (.int (x &&& (255 : Int32))), .val (.int (y &&& (255 : Int32)))]
abbrev own_l6 (x : Int32) (y : Int32) (r0 : Addr) (r1 : Addr) : Array Slot := #[.val (.ref r0), .val (.ref r1), .val (.int (1 : Int32)), .val (.int (1 : Int32)), .val (.int (x &&& (255 : Int32))), .val (.int (y &&& (255 : Int32)))]
theorem own_pd23 : parseMethodDescriptor "(ZZ)I" = some ⟨[.boolean, .boolean], some .int⟩ := by decide +kernel
theorem own_d15_0 : decode prog_24_method_11_code 0 = .ok (.iconst 0, 1) := by decide +kernel
theorem own_d15_1 : decode prog_24_method_11_code 1 = .ok (.istore_n 2, 1) := by decide +kernel
theorem own_d15_2 : decode prog_24_method_11_code 2 = .ok (.iconst 0, 1) := by decide +kernel
theorem own_d15_3 : decode prog_24_method_11_code 3 = .ok (.istore_n 3, 1) := by decide +kernel
theorem own_d15_4 : decode prog_24_method_11_code 4 = .ok (.iload_n 2, 1) := by decide +kernel
theorem own_d15_5 : decode prog_24_method_11_code 5 = .ok (.aload_n 0, 1) := by decide +kernel
theorem own_d15_6 : decode prog_24_method_11_code 6 = .ok (.invokevirtual 64, 3) := by decide +kernel
theorem own_d15_9 : decode prog_24_method_11_code 9 = .ok (.if_icmp .ge 59, 3) := by decide +kernel
theorem own_d15_12 : decode prog_24_method_11_code 12 = .ok (.iload_n 3, 1) := by decide +kernel
theorem own_d15_13 : decode prog_24_method_11_code 13 = .ok (.aload_n 1, 1) := by decide +kernel
theorem own_d15_14 : decode prog_24_method_11_code 14 = .ok (.invokevirtual 64, 3) := by decide +kernel
theorem own_d15_17 : decode prog_24_method_11_code 17 = .ok (.if_icmp .ge 51, 3) := by decide +kernel
theorem own_d15_20 : decode prog_24_method_11_code 20 = .ok (.aload_n 0, 1) := by decide +kernel
theorem own_d15_21 : decode prog_24_method_11_code 21 = .ok (.iload_n 2, 1) := by decide +kernel
theorem own_d15_22 : decode prog_24_method_11_code 22 = .ok (.invokevirtual 69, 3) := by decide +kernel
theorem own_d15_25 : decode prog_24_method_11_code 25 = .ok (.istore 4, 2) := by decide +kernel
theorem own_d15_27 : decode prog_24_method_11_code 27 = .ok (.aload_n 1, 1) := by decide +kernel
theorem own_d15_28 : decode prog_24_method_11_code 28 = .ok (.iload_n 3, 1) := by decide +kernel
theorem own_d15_29 : decode prog_24_method_11_code 29 = .ok (.invokevirtual 69, 3) := by decide +kernel
theorem own_d15_32 : decode prog_24_method_11_code 32 = .ok (.istore 5, 2) := by decide +kernel
theorem own_d15_34 : decode prog_24_method_11_code 34 = .ok (.iload 4, 2) := by decide +kernel
theorem own_d15_36 : decode prog_24_method_11_code 36 = .ok (.iload 5, 2) := by decide +kernel
theorem own_d15_38 : decode prog_24_method_11_code 38 = .ok (.if_icmp .eq 11, 3) := by decide +kernel
theorem own_d15_49 : decode prog_24_method_11_code 49 = .ok (.iload_n 2, 1) := by decide +kernel
theorem own_d15_50 : decode prog_24_method_11_code 50 = .ok (.iload 4, 2) := by decide +kernel
theorem own_d15_52 : decode prog_24_method_11_code 52 = .ok (.invokestatic 79, 3) := by decide +kernel
theorem own_d15_55 : decode prog_24_method_11_code 55 = .ok (.iadd, 1) := by decide +kernel
theorem own_d15_56 : decode prog_24_method_11_code 56 = .ok (.istore_n 2, 1) := by decide +kernel
theorem own_d15_57 : decode prog_24_method_11_code 57 = .ok (.iload_n 3, 1) := by decide +kernel
theorem own_d15_58 : decode prog_24_method_11_code 58 = .ok (.iload 5, 2) := by decide +kernel
theorem own_d15_60 : decode prog_24_method_11_code 60 = .ok (.invokestatic 79, 3) := by decide +kernel
theorem own_d15_63 : decode prog_24_method_11_code 63 = .ok (.iadd, 1) := by decide +kernel
theorem own_d15_64 : decode prog_24_method_11_code 64 = .ok (.istore_n 3, 1) := by decide +kernel
theorem own_d15_65 : decode prog_24_method_11_code 65 = .ok (.goto (-61), 3) := by decide +kernel
theorem own_d15_68 : decode prog_24_method_11_code 68 = .ok (.iload_n 2, 1) := by decide +kernel
theorem own_d15_69 : decode prog_24_method_11_code 69 = .ok (.aload_n 0, 1) := by decide +kernel
theorem own_d15_70 : decode prog_24_method_11_code 70 = .ok (.invokevirtual 64, 3) := by decide +kernel
theorem own_d15_73 : decode prog_24_method_11_code 73 = .ok (.if_icmp .ge 7, 3) := by decide +kernel
theorem own_d15_80 : decode prog_24_method_11_code 80 = .ok (.iconst 0, 1) := by decide +kernel
theorem own_d15_81 : decode prog_24_method_11_code 81 = .ok (.iload_n 3, 1) := by decide +kernel
theorem own_d15_82 : decode prog_24_method_11_code 82 = .ok (.aload_n 1, 1) := by decide +kernel
theorem own_d15_83 : decode prog_24_method_11_code 83 = .ok (.invokevirtual 64, 3) := by decide +kernel
theorem own_d15_86 : decode prog_24_method_11_code 86 = .ok (.if_icmp .ge 7, 3) := by decide +kernel
theorem own_d15_93 : decode prog_24_method_11_code 93 = .ok (.iconst 0, 1) := by decide +kernel
theorem own_d15_94 : decode prog_24_method_11_code 94 = .ok (.invokestatic 84, 3) := by decide +kernel
theorem own_d15_97 : decode prog_24_method_11_code 97 = .ok (.ireturn, 1) := by decide +kernel
theorem own_ef15e (m : MethodId) (x0 : Addr) (x1 : Addr) : entryFrame m #[(.ref x0), (.ref x1)] 6 = mkF m 0 #[.val (.ref x0), .val (.ref x1), .unset, .unset, .unset, .unset] [] := by first | (simp [entryFrame, mkF, argsToLocals, Value.category]; done) | rfl
def own_Q15e (Z : State) (r0 : Addr) (r1 : Addr) (va : Addr) (ka : ClassId) (x : Int32) (vb : Addr) (kb : ClassId) (y : Int32) (cs : Int32) (fmt : Value) (h0 : Heap) (n0 : Nat) (v : Option Value) (h : Heap) (L : List Loc) : Prop := v = some (.int (0 : Int32)) ∧ Fr n0 L ∧ h = h0
abbrev own_y22 : MethodName := (⟨"com/example/quayside/quayside/core/Entries", "compareNames", "(Ljava/lang/String;Ljava/lang/String;)I"⟩ : MethodName)
set_option maxRecDepth 65536 in
set_option maxHeartbeats 40000000 in
theorem own_rm15e (l : Launch) (Z : State) (a0 : Array Value) (hw : ∀ d ∈ tables_1, d.before a0 Z = true) (ws : List Jvm.Cond) (r0 : Addr) (r1 : Addr) (va : Addr) (ka : ClassId) (x : Int32) (vb : Addr) (kb : ClassId) (y : Int32) (cs : Int32) (fmt : Value) (h0 : Heap) (n0 : Nat) (Z0 : n0 ≤ h0.size) (Od : Old Z n0 h0) (hcs : Sta Z Z.heap own_s2 "COMPACT_STRINGS" "Z" (.int cs)) (hcsn : ¬ cs = (0 : Int32)) (zfm : Sta Z Z.heap own_s8 "SIOOBE_FORMATTER" own_s9 fmt) (hfm : fmt.isRef = true) (P5 : Exa Z h0 r0 own_s2) (P6 : Fld Z h0 r0 own_s2 "coder" "B" (.int (0 : Int32))) (P7 : Fld Z h0 r0 own_s2 "value" "[B" (.ref va)) (P8 : Arv Z h0 va ka .byte (1 : Int32) [(.int x)] (.int (0 : Int32))) (P9 : Exa Z h0 r1 own_s2) (P10 : Fld Z h0 r1 own_s2 "coder" "B" (.int (0 : Int32))) (P11 : Fld Z h0 r1 own_s2 "value" "[B" (.ref vb)) (P12 : Arv Z h0 vb kb .byte (1 : Int32) [(.int y)] (.int (0 : Int32))) (P13 : (x &&& (255 : Int32)) = (y &&& (255 : Int32))) :
    own_MF l Z own_y22 prog_24_method_11_code 6 (some .int) ws own_R3 #[(.ref r0), (.ref r1)] h0 (own_Q15e Z r0 r1 va ka x vb kb y cs fmt h0 n0) := by
 refine own_start (plainFor_of_name own_pn5) fun p e s m below meth c s₁ hx hby hret hlk hml hZ hown hnm X0 e0 => ?_
 have N0 := Fr.nil n0
 have K0 : Keep h0 h0 [] := Keep.refl h0 _
 rw [own_ef15e]
 refine ownE.go (f' := (mkF m 6 (own_l2 r0 r1) [(.ref r0), (.int (0 : Int32))])) (fun t kt => XS.iconst X0.here hx rfl (hb hby own_d15_0) (XS.istoreN X0.here hx rfl (hb hby own_d15_1) rfl (l' := #[.val (.ref r0), .val (.ref r1), .val (.int (0 : Int32)), .unset, .unset, .unset]) rfl (XS.iconst X0.here hx rfl (hb hby own_d15_2) (XS.istoreN X0.here hx rfl (hb hby own_d15_3) rfl (l' := (own_l2 r0 r1)) rfl (XS.iloadN X0.here hx rfl (hb hby own_d15_4) rfl (XS.aloadN X0.here hx rfl (hb hby own_d15_5) rfl rfl kt)))))) ?_
 obtain ⟨cq1, kq1, q1a, q1b, q1c⟩ := isOf hZ e0 P5
 obtain ⟨_, _, ⟨T1, L1, k1, n1⟩, -, X1, ⟨Lc1, hQ1, l1, y1, z1⟩, st1⟩ := X0.virtualBack hx (y := own_y14) (z := own_y14) hown (mvT hZ (own_w hw 106 rfl)) (mvT hZ (own_w hw 107 rfl)) (notFace_of_selects (args := #[]) (mvT hZ (own_w hw 109 rfl))) (mvT hZ (own_w hw 109 rfl)) (mvT hZ (own_w hw 108 rfl)) (by decide) (backOf (W := 1) (own_rm16 l Z a0 hw [] r0 va ka x cs h0 n0 (Nat.le_trans Z0 K0.1) Od hcs hcsn P5 P6 P7 P8) hZ (own_w hw 110 rfl) (own_w hw 2 rfl) (by decide) (by decide)) q1a q1c (g := (mkF m 6 (own_l2 r0 r1) [(.ref r0), (.int (0 : Int32))])) rfl (by rw [hml]; rfl) (Steps.refl _) (argsL := []) (rest := [(.int (0 : Int32))]) (lenOf own_pd21 rfl) rfl (Nat.le_of_eq rfl) (hb hby own_d15_6) (fun _ _ => ⟨rfl, e0, (by decide : 0 + 0 ≤ _), (by decide : 0 + 0 ≤ _)⟩)
 dsimp only [Pt.U, Pt.locs, Pt.cells, Pt.slots] at X1 l1 y1 z1 st1 hQ1
 subst l1 y1 z1
 obtain ⟨rfl, N1q, e1⟩ := hQ1
 have N1 := Fr.app N0 N1q
 refine ownE.goS st1 ?_
 refine ownE.go (f' := (mkF m 14 (own_l2 r0 r1) [(.ref r1), (.int (0 : Int32))])) (fun t kt => XS.icmpNo X1.here hx rfl (hb hby own_d15_9) rfl (Jvm.Free.XT.ii_ge_f (by decide)) (XS.iloadN X1.here hx rfl (hb hby own_d15_12) rfl (XS.aloadN X1.here hx rfl (hb hby own_d15_13) rfl rfl kt))) ?_
 obtain ⟨cq2, kq2, q2a, q2b, q2c⟩ := isOf hZ e1 P9
 obtain ⟨_, _, ⟨T2, L2, k2, n2⟩, -, X2, ⟨Lc2, hQ2, l2, y2, z2⟩, st2⟩ := X1.virtualBack hx (y := own_y14) (z := own_y14) hown (mvT hZ (own_w hw 106 rfl)) (mvT hZ (own_w hw 107 rfl)) (notFace_of_selects (args := #[]) (mvT hZ (own_w hw 109 rfl))) (mvT hZ (own_w hw 109 rfl)) (mvT hZ (own_w hw 108 rfl)) (by decide) (backOf (W := 1) (own_rm16 l Z a0 hw [] r1 vb kb y cs h0 n0 (Nat.le_trans Z0 K0.1) Od hcs hcsn P9 P10 P11 P12) hZ (own_w hw 110 rfl) (own_w hw 2 rfl) (by decide) (by decide)) q2a q2c (g := (mkF m 14 (own_l2 r0 r1) [(.ref r1), (.int (0 : Int32))])) rfl (by rw [hml]; rfl) (Steps.refl _) (argsL := []) (rest := [(.int (0 : Int32))]) (lenOf own_pd21 rfl) rfl (Nat.le_of_eq rfl) (hb hby own_d15_14) (fun _ _ => ⟨rfl, e1, (by decide : 0 + 0 ≤ _), (by decide : 0 + 0 ≤ _)⟩)
 dsimp only [Pt.U, Pt.locs, Pt.cells, Pt.slots] at X2 l2 y2 z2 st2 hQ2
 subst l2 y2 z2
 obtain ⟨rfl, N2q, e2⟩ := hQ2
 have N2 := Fr.app N1 N2q
 refine ownE.goS st2 ?_
 refine ownE.go (f' := (mkF m 22 (own_l2 r0 r1) [(.int (0 : Int32)), (.ref r0)])) (fun t kt => XS.icmpNo X2.here hx rfl (hb hby own_d15_17) rfl (Jvm.Free.XT.ii_ge_f (by decide)) (XS.aloadN X2.here hx rfl (hb hby own_d15_20) rfl rfl (XS.iloadN X2.here hx rfl (hb hby own_d15_21) rfl kt))) ?_
 obtain ⟨cq3, kq3, q3a, q3b, q3c⟩ := isOf hZ e2 P5
 obtain ⟨_, _, ⟨T3, L3, k3, n3⟩, -, X3, ⟨Lc3, hQ3, l3, y3, z3⟩, st3⟩ := X2.virtualBack hx (y := own_y18) (z := own_y18) hown (mvT hZ (own_w hw 116 rfl)) (mvT hZ (own_w hw 117 rfl)) (notFace_of_selects (args := #[]) (mvT hZ (own_w hw 119 rfl))) (mvT hZ (own_w hw 119 rfl)) (mvT hZ (own_w hw 118 rfl)) (by decide) (backOf (W := 0) (own_rm18 l Z a0 hw [] r0 va ka x cs fmt h0 n0 (Nat.le_trans Z0 K0.1) Od hcs hcsn zfm hfm P5 P6 P7 P8) hZ (own_w hw 120 rfl) (own_w hw 2 rfl) (by decide) (by decide)) q3a q3c (g := (mkF m 22 (own_l2 r0 r1) [(.int (0 : Int32)), (.ref r0)])) rfl (by rw [hml]; rfl) (Steps.refl _) (argsL := [(.int (0 : Int32))]) (rest := []) (lenOf own_pd22 rfl) rfl (Nat.le_of_eq rfl) (hb hby own_d15_22) (fun _ _ => ⟨rfl, e2, (by decide : 0 + 0 ≤ _), (by decide : 0 + 0 ≤ _)⟩)
 dsimp only [Pt.U, Pt.locs, Pt.cells, Pt.slots] at X3 l3 y3 z3 st3 hQ3
 subst l3 y3 z3
 obtain ⟨rfl, N3q, e3⟩ := hQ3
 have N3 := Fr.app N2 N3q
 refine ownE.goS st3 ?_
 refine ownE.go (f' := (mkF m 29 (own_l3 x r0 r1) [(.int (0 : Int32)), (.ref r1)])) (fun t kt => XS.istore X3.here hx rfl (hb hby own_d15_25) rfl (l' := (own_l3 x r0 r1)) rfl (XS.aloadN X3.here hx rfl (hb hby own_d15_27) rfl rfl (XS.iloadN X3.here hx rfl (hb hby own_d15_28) rfl kt))) ?_
 obtain ⟨cq4, kq4, q4a, q4b, q4c⟩ := isOf hZ e3 P9
 obtain ⟨_, _, ⟨T4, L4, k4, n4⟩, -, X4, ⟨Lc4, hQ4, l4, y4, z4⟩, st4⟩ := X3.virtualBack hx (y := own_y18) (z := own_y18) hown (mvT hZ (own_w hw 116 rfl)) (mvT hZ (own_w hw 117 rfl)) (notFace_of_selects (args := #[]) (mvT hZ (own_w hw 119 rfl))) (mvT hZ (own_w hw 119 rfl)) (mvT hZ (own_w hw 118 rfl)) (by decide) (backOf (W := 0) (own_rm18 l Z a0 hw [] r1 vb kb y cs fmt h0 n0 (Nat.le_trans Z0 K0.1) Od hcs hcsn zfm hfm P9 P10 P11 P12) hZ (own_w hw 120 rfl) (own_w hw 2 rfl) (by decide) (by decide)) q4a q4c (g := (mkF m 29 (own_l3 x r0 r1) [(.int (0 : Int32)), (.ref r1)])) rfl (by rw [hml]; rfl) (Steps.refl _) (argsL := [(.int (0 : Int32))]) (rest := []) (lenOf own_pd22 rfl) rfl (Nat.le_of_eq rfl) (hb hby own_d15_29) (fun _ _ => ⟨rfl, e3, (by decide : 0 + 0 ≤ _), (by decide : 0 + 0 ≤ _)⟩)
 dsimp only [Pt.U, Pt.locs, Pt.cells, Pt.slots] at X4 l4 y4 z4 st4 hQ4
 subst l4 y4 z4
 obtain ⟨rfl, N4q, e4⟩ := hQ4
 have N4 := Fr.app N3 N4q
 refine ownE.goS st4 ?_
 refine ownE.go (f' := (mkF m 52 (own_l4 x y r0 r1) [(.int (x &&& (255 : Int32))), (.int (0 : Int32))])) (fun t kt => XS.istore X4.here hx rfl (hb hby own_d15_32) rfl (l' := (own_l4 x y r0 r1)) rfl (XS.iload X4.here hx rfl (hb hby own_d15_34) rfl (XS.iload X4.here hx rfl (hb hby own_d15_36) rfl (XS.icmpYes X4.here hx rfl (pc0 := 38) (pc' := 49) rfl (hb hby own_d15_38) rfl (Jvm.Free.XT.ii_eq_t P13) (by decide) (by decide) (XS.iloadN X4.here hx rfl (hb hby own_d15_49) rfl (XS.iload X4.here hx rfl (hb hby own_d15_50) rfl kt)))))) ?_
 obtain ⟨_, _, ⟨T5, L5, k5, n5⟩, -, X5, ⟨Lc5, hQ5, l5, y5, z5⟩, st5⟩ := Jvm.LawKit.callS X4 hx (y := own_y19) hown (mvT hZ (own_w hw 167 rfl)) (mvT hZ (own_w hw 168 rfl)) (mvT hZ (own_w hw 169 rfl)) (mvT hZ (own_w hw 170 rfl)) (by decide) (backOf (W := 1) (own_rm29 l Z a0 hw [] (x &&& (255 : Int32)) h0 n0 (Nat.le_trans Z0 K0.1) (own_small x)) hZ (own_w hw 170 rfl) (own_w hw 169 rfl) (by decide) (by decide)) (g := (mkF m 52 (own_l4 x y r0 r1) [(.int (x &&& (255 : Int32))), (.int (0 : Int32))])) rfl (by rw [hml]; rfl) (argsL := [(.int (x &&& (255 : Int32)))]) (rest := [(.int (0 : Int32))]) (lenOf own_pd22 rfl) rfl (Nat.le_of_eq rfl) (hb hby own_d15_52) (fun _ _ => ⟨rfl, e4, (by decide : 0 + 0 ≤ _), (by decide : 0 + 0 ≤ _)⟩)
 dsimp only [Pt.U, Pt.locs, Pt.cells, Pt.slots] at X5 l5 y5 z5 st5 hQ5
 subst l5 y5 z5
 obtain ⟨rfl, N5q, e5⟩ := hQ5
 have N5 := Fr.app N4 N5q
 refine ownE.go st5 ?_
 refine ownE.go (f' := (mkF m 60 (own_l5 x y r0 r1) [(.int (y &&& (255 : Int32))), (.int (0 : Int32))])) (fun t kt => XS.iadd X5.here hx rfl (hb hby own_d15_55) rfl (XS.istoreN X5.here hx rfl (hb hby own_d15_56) rfl (l' := (own_l5 x y r0 r1)) rfl (XS.iloadN X5.here hx rfl (hb hby own_d15_57) rfl (XS.iload X5.here hx rfl (hb hby own_d15_58) rfl kt)))) ?_
 obtain ⟨_, _, ⟨T6, L6, k6, n6⟩, -, X6, ⟨Lc6, hQ6, l6, y6, z6⟩, st6⟩ := Jvm.LawKit.callS X5 hx (y := own_y19) hown (mvT hZ (own_w hw 167 rfl)) (mvT hZ (own_w hw 168 rfl)) (mvT hZ (own_w hw 169 rfl)) (mvT hZ (own_w hw 170 rfl)) (by decide) (backOf (W := 1) (own_rm29 l Z a0 hw [] (y &&& (255 : Int32)) h0 n0 (Nat.le_trans Z0 K0.1) (own_small y)) hZ (own_w hw 170 rfl) (own_w hw 169 rfl) (by decide) (by decide)) (g := (mkF m 60 (own_l5 x y r0 r1) [(.int (y &&& (255 : Int32))), (.int (0 : Int32))])) rfl (by rw [hml]; rfl) (argsL := [(.int (y &&& (255 : Int32)))]) (rest := [(.int (0 : Int32))]) (lenOf own_pd22 rfl) rfl (Nat.le_of_eq rfl) (hb hby own_d15_60) (fun _ _ => ⟨rfl, e5, (by decide : 0 + 0 ≤ _), (by decide : 0 + 0 ≤ _)⟩)
 dsimp only [Pt.U, Pt.locs, Pt.cells, Pt.slots] at X6 l6 y6 z6 st6 hQ6
 subst l6 y6 z6
 obtain ⟨rfl, N6q, e6⟩ := hQ6
 have N6 := Fr.app N5 N6q
 refine ownE.go st6 ?_
 refine ownE.go (f' := (mkF m 6 (own_l6 x y r0 r1) [(.ref r0), (.int (1 : Int32))])) (fun t kt => XS.iadd X6.here hx rfl (hb hby own_d15_63) rfl (XS.istoreN X6.here hx rfl (hb hby own_d15_64) rfl (l' := (own_l6 x y r0 r1)) rfl (XS.goto X6.here hx rfl (pc0 := 65) (pc' := 4) rfl (hb hby own_d15_65) (by decide) (by decide) (XS.iloadN X6.here hx rfl (hb hby own_d15_4) rfl (XS.aloadN X6.here hx rfl (hb hby own_d15_5) rfl rfl kt))))) ?_
 obtain ⟨cq7, kq7, q7a, q7b, q7c⟩ := isOf hZ e6 P5
 obtain ⟨_, _, ⟨T7, L7, k7, n7⟩, -, X7, ⟨Lc7, hQ7, l7, y7, z7⟩, st7⟩ := X6.virtualBack hx (y := own_y14) (z := own_y14) hown (mvT hZ (own_w hw 106 rfl)) (mvT hZ (own_w hw 107 rfl)) (notFace_of_selects (args := #[]) (mvT hZ (own_w hw 109 rfl))) (mvT hZ (own_w hw 109 rfl)) (mvT hZ (own_w hw 108 rfl)) (by decide) (backOf (W := 1) (own_rm16 l Z a0 hw [] r0 va ka x cs h0 n0 (Nat.le_trans Z0 K0.1) Od hcs hcsn P5 P6 P7 P8) hZ (own_w hw 110 rfl) (own_w hw 2 rfl) (by decide) (by decide)) q7a q7c (g := (mkF m 6 (own_l6 x y r0 r1) [(.ref r0), (.int (1 : Int32))])) rfl (by rw [hml]; rfl) (Steps.refl _) (argsL := []) (rest := [(.int (1 : Int32))]) (lenOf own_pd21 rfl) rfl (Nat.le_of_eq rfl) (hb hby own_d15_6) (fun _ _ => ⟨rfl, e6, (by decide : 0 + 0 ≤ _), (by decide : 0 + 0 ≤ _)⟩)
 dsimp only [Pt.U, Pt.locs, Pt.cells, Pt.slots] at X7 l7 y7 z7 st7 hQ7
 subst l7 y7 z7
 obtain ⟨rfl, N7q, e7⟩ := hQ7
 have N7 := Fr.app N6 N7q
 refine ownE.goS st7 ?_
 refine ownE.go (f' := (mkF m 70 (own_l6 x y r0 r1) [(.ref r0), (.int (1 : Int32))])) (fun t kt => XS.icmpYes X7.here hx rfl (pc0 := 9) (pc' := 68) rfl (hb hby own_d15_9) rfl (Jvm.Free.XT.ii_ge_t (by decide)) (by decide) (by decide) (XS.iloadN X7.here hx rfl (hb hby own_d15_68) rfl (XS.aloadN X7.here hx rfl (hb hby own_d15_69) rfl rfl kt))) ?_
 obtain ⟨cq8, kq8, q8a, q8b, q8c⟩ := isOf hZ e7 P5
 obtain ⟨_, _, ⟨T8, L8, k8, n8⟩, -, X8, ⟨Lc8, hQ8, l8, y8, z8⟩, st8⟩ := X7.virtualBack hx (y := own_y14) (z := own_y14) hown (mvT hZ (own_w hw 106 rfl)) (mvT hZ (own_w hw 107 rfl)) (notFace_of_selects (args := #[]) (mvT hZ (own_w hw 109 rfl))) (mvT hZ (own_w hw 109 rfl)) (mvT hZ (own_w hw 108 rfl)) (by decide) (backOf (W := 1) (own_rm16 l Z a0 hw [] r0 va ka x cs h0 n0 (Nat.le_trans Z0 K0.1) Od hcs hcsn P5 P6 P7 P8) hZ (own_w hw 110 rfl) (own_w hw 2 rfl) (by decide) (by decide)) q8a q8c (g := (mkF m 70 (own_l6 x y r0 r1) [(.ref r0), (.int (1 : Int32))])) rfl (by rw [hml]; rfl) (Steps.refl _) (argsL := []) (rest := [(.int (1 : Int32))]) (lenOf own_pd21 rfl) rfl (Nat.le_of_eq rfl) (hb hby own_d15_70) (fun _ _ => ⟨rfl, e7, (by decide : 0 + 0 ≤ _), (by decide : 0 + 0 ≤ _)⟩)
 dsimp only [Pt.U, Pt.locs, Pt.cells, Pt.slots] at X8 l8 y8 z8 st8 hQ8
 subst l8 y8 z8
 obtain ⟨rfl, N8q, e8⟩ := hQ8
 have N8 := Fr.app N7 N8q
 refine ownE.goS st8 ?_
 refine ownE.go (f' := (mkF m 83 (own_l6 x y r0 r1) [(.ref r1), (.int (1 : Int32)), (.int (0 : Int32))])) (fun t kt => XS.icmpYes X8.here hx rfl (pc0 := 73) (pc' := 80) rfl (hb hby own_d15_73) rfl (Jvm.Free.XT.ii_ge_t (by decide)) (by decide) (by decide) (XS.iconst X8.here hx rfl (hb hby own_d15_80) (XS.iloadN X8.here hx rfl (hb hby own_d15_81) rfl (XS.aloadN X8.here hx rfl (hb hby own_d15_82) rfl rfl kt)))) ?_
 obtain ⟨cq9, kq9, q9a, q9b, q9c⟩ := isOf hZ e8 P9
 obtain ⟨_, _, ⟨T9, L9, k9, n9⟩, -, X9, ⟨Lc9, hQ9, l9, y9, z9⟩, st9⟩ := X8.virtualBack hx (y := own_y14) (z := own_y14) hown (mvT hZ (own_w hw 106 rfl)) (mvT hZ (own_w hw 107 rfl)) (notFace_of_selects (args := #[]) (mvT hZ (own_w hw 109 rfl))) (mvT hZ (own_w hw 109 rfl)) (mvT hZ (own_w hw 108 rfl)) (by decide) (backOf (W := 2) (own_rm16 l Z a0 hw [] r1 vb kb y cs h0 n0 (Nat.le_trans Z0 K0.1) Od hcs hcsn P9 P10 P11 P12) hZ (own_w hw 110 rfl) (own_w hw 2 rfl) (by decide) (by decide)) q9a q9c (g := (mkF m 83 (own_l6 x y r0 r1) [(.ref r1), (.int (1 : Int32)), (.int (0 : Int32))])) rfl (by rw [hml]; rfl) (Steps.refl _) (argsL := []) (rest := [(.int (1 : Int32)), (.int (0 : Int32))]) (lenOf own_pd21 rfl) rfl (Nat.le_of_eq rfl) (hb hby own_d15_83) (fun _ _ => ⟨rfl, e8, (by decide : 0 + 0 ≤ _), (by decide : 0 + 0 ≤ _)⟩)
 dsimp only [Pt.U, Pt.locs, Pt.cells, Pt.slots] at X9 l9 y9 z9 st9 hQ9
 subst l9 y9 z9
 obtain ⟨rfl, N9q, e9⟩ := hQ9
 have N9 := Fr.app N8 N9q
 refine ownE.goS st9 ?_
 refine ownE.go (f' := (mkF m 94 (own_l6 x y r0 r1) [(.int (0 : Int32)), (.int (0 : Int32))])) (fun t kt => XS.icmpYes X9.here hx rfl (pc0 := 86) (pc' := 93) rfl (hb hby own_d15_86) rfl (Jvm.Free.XT.ii_ge_t (by decide)) (by decide) (by decide) (XS.iconst X9.here hx rfl (hb hby own_d15_93) kt)) ?_
 obtain ⟨_, _, ⟨T10, L10, k10, n10⟩, -, X10, ⟨Lc10, hQ10, l10, y10, z10⟩, st10⟩ := Jvm.LawKit.callS X9 hx (y := own_y21) hown (mvT hZ (own_w hw 172 rfl)) (mvT hZ (own_w hw 173 rfl)) (mvT hZ (own_w hw 174 rfl)) (mvT hZ (own_w hw 175 rfl)) (by decide) (backOf (W := 0) (own_rm30 l Z a0 hw []  h0 n0 (Nat.le_trans Z0 K0.1) ) hZ (own_w hw 175 rfl) (own_w hw 174 rfl) (by decide) (by decide)) (g := (mkF m 94 (own_l6 x y r0 r1) [(.int (0 : Int32)), (.int (0 : Int32))])) rfl (by rw [hml]; rfl) (argsL := [(.int (0 : Int32)), (.int (0 : Int32))]) (rest := []) (lenOf own_pd23 rfl) rfl (Nat.le_of_eq rfl) (hb hby own_d15_94) (fun _ _ => ⟨rfl, e9, (by decide : 0 + 0 ≤ _), (by decide : 0 + 0 ≤ _)⟩)
 dsimp only [Pt.U, Pt.locs, Pt.cells, Pt.slots] at X10 l10 y10 z10 st10 hQ10
 subst l10 y10 z10
 obtain ⟨rfl, N10q, e10⟩ := hQ10
 have N10 := Fr.app N9 N10q
 refine ownE.go st10 ?_
 refine ownE.retI X10 hx hlk hret (hb hby own_d15_97) ?_ (by decide) (by decide)
 show own_Q15e Z r0 r1 va ka x vb kb y cs fmt h0 n0 _ T10.heap _
 rw [e10]
 exact ⟨rfl, N10, rfl⟩
theorem own_pd24 : parseMethodDescriptor "(II)I" = some ⟨[.int, .int], some .int⟩ := by decide +kernel
theorem own_d15_41 : decode prog_24_method_11_code 41 = .ok (.iload 4, 2) := by decide +kernel
theorem own_d15_43 : decode prog_24_method_11_code 43 = .ok (.iload 5, 2) := by decide +kernel
theorem own_d15_45 : decode prog_24_method_11_code 45 = .ok (.invokestatic 73, 3) := by decide +kernel
theorem own_d15_48 : decode prog_24_method_11_code 48 = .ok (.ireturn, 1) := by decide +kernel
theorem own_ef15l (m : MethodId) (x0 : Addr) (x1 : Addr) : entryFrame m #[(.ref x0), (.ref x1)] 6 = mkF m 0 #[.val (.ref x0), .val (.ref x1), .unset, .unset, .unset, .unset] [] := by first | (simp [entryFrame, mkF, argsToLocals, Value.category]; done) | rfl
def own_Q15l (Z : State) (r0 : Addr) (r1 : Addr) (va : Addr) (ka : ClassId) (x : Int32) (vb : Addr) (kb : ClassId) (y : Int32) (cs : Int32) (fmt : Value) (h0 : Heap) (n0 : Nat) (v : Option Value) (h : Heap) (L : List Loc) : Prop := v = some (.int (-1 : Int32)) ∧ Fr n0 L ∧ h = h0
set_option maxRecDepth 65536 in
set_option maxHeartbeats 40000000 in
theorem own_rm15l (l : Launch) (Z : State) (a0 : Array Value) (hw : ∀ d ∈ tables_1, d.before a0 Z = true) (ws : List Jvm.Cond) (r0 : Addr) (r1 : Addr) (va : Addr) (ka : ClassId) (x : Int32) (vb : Addr) (kb : ClassId) (y : Int32) (cs : Int32) (fmt : Value) (h0 : Heap) (n0 : Nat) (Z0 : n0 ≤ h0.size) (Od : Old Z n0 h0) (hcs : Sta Z Z.heap own_s2 "COMPACT_STRINGS" "Z" (.int cs)) (hcsn : ¬ cs = (0 : Int32)) (zfm : Sta Z Z.heap own_s8 "SIOOBE_FORMATTER" own_s9 fmt) (hfm : fmt.isRef = true) (P5 : Exa Z h0 r0 own_s2) (P6 : Fld Z h0 r0 own_s2 "coder" "B" (.int (0 : Int32))) (P7 : Fld Z h0 r0 own_s2 "value" "[B" (.ref va)) (P8 : Arv Z h0 va ka .byte (1 : Int32) [(.int x)] (.int (0 : Int32))) (P9 : Exa Z h0 r1 own_s2) (P10 : Fld Z h0 r1 own_s2 "coder" "B" (.int (0 : Int32))) (P11 : Fld Z h0 r1 own_s2 "value" "[B" (.ref vb)) (P12 : Arv Z h0 vb kb .byte (1 : Int32) [(.int y)] (.int (0 : Int32))) (P13 : ¬ (x &&& (255 : Int32)) = (y &&& (255 : Int32))) (P14 : (x &&& (255 : Int32)) < (y &&& (255 : Int32))) :
    own_MF l Z own_y22 prog_24_method_11_code 6 (some .int) ws own_R3 #[(.ref r0), (.ref r1)] h0 (own_Q15l Z r0 r1 va ka x vb kb y cs fmt h0 n0) := by
 refine own_start (plainFor_of_name own_pn5) fun p e s m below meth c s₁ hx hby hret hlk hml hZ hown hnm X0 e0 => ?_
 have N0 := Fr.nil n0
 have K0 : Keep h0 h0 [] := Keep.refl h0 _
 rw [own_ef15l]
 refine ownE.go (f' := (mkF m 6 (own_l2 r0 r1) [(.ref r0), (.int (0 : Int32))])) (fun t kt => XS.iconst X0.here hx rfl (hb hby own_d15_0) (XS.istoreN X0.here hx rfl (hb hby own_d15_1) rfl (l' := #[.val (.ref r0), .val (.ref r1), .val (.int (0 : Int32)), .unset, .unset, .unset]) rfl (XS.iconst X0.here hx rfl (hb hby own_d15_2) (XS.istoreN X0.here hx rfl (hb hby own_d15_3) rfl (l' := (own_l2 r0 r1)) rfl (XS.iloadN X0.here hx rfl (hb hby own_d15_4) rfl (XS.aloadN X0.here hx rfl (hb hby own_d15_5) rfl rfl kt)))))) ?_
 obtain ⟨cq1, kq1, q1a, q1b, q1c⟩ := isOf hZ e0 P5
 obtain ⟨_, _, ⟨T1, L1, k1, n1⟩, -, X1, ⟨Lc1, hQ1, l1, y1, z1⟩, st1⟩ := X0.virtualBack hx (y := own_y14) (z := own_y14) hown (mvT hZ (own_w hw 106 rfl)) (mvT hZ (own_w hw 107 rfl)) (notFace_of_selects (args := #[]) (mvT hZ (own_w hw 109 rfl))) (mvT hZ (own_w hw 109 rfl)) (mvT hZ (own_w hw 108 rfl)) (by decide) (backOf (W := 1) (own_rm16 l Z a0 hw [] r0 va ka x cs h0 n0 (Nat.le_trans Z0 K0.1) Od hcs hcsn P5 P6 P7 P8) hZ (own_w hw 110 rfl) (own_w hw 2 rfl) (by decide) (by decide)) q1a q1c (g := (mkF m 6 (own_l2 r0 r1) [(.ref r0), (.int (0 : Int32))])) rfl (by rw [hml]; rfl) (Steps.refl _) (argsL := []) (rest := [(.int (0 : Int32))]) (lenOf own_pd21 rfl) rfl (Nat.le_of_eq rfl) (hb hby own_d15_6) (fun _ _ => ⟨rfl, e0, (by decide : 0 + 0 ≤ _), (by decide : 0 + 0 ≤ _)⟩)
 dsimp only [Pt.U, Pt.locs, Pt.cells, Pt.slots] at X1 l1 y1 z1 st1 hQ1
 subst l1 y1 z1
 obtain ⟨rfl, N1q, e1⟩ := hQ1
 have N1 := Fr.app N0 N1q
 refine ownE.goS st1 ?_
 refine ownE.go (f' := (mkF m 14 (own_l2 r0 r1) [(.ref r1), (.int (0 : Int32))])) (fun t kt => XS.icmpNo X1.here hx rfl (hb hby own_d15_9) rfl (Jvm.Free.XT.ii_ge_f (by decide)) (XS.iloadN X1.here hx rfl (hb hby own_d15_12) rfl (XS.aloadN X1.here hx rfl (hb hby own_d15_13) rfl rfl kt))) ?_
 obtain ⟨cq2, kq2, q2a, q2b, q2c⟩ := isOf hZ e1 P9
 obtain ⟨_, _, ⟨T2, L2, k2, n2⟩, -, X2, ⟨Lc2, hQ2, l2, y2, z2⟩, st2⟩ := X1.virtualBack hx (y := own_y14) (z := own_y14) hown (mvT hZ (own_w hw 106 rfl)) (mvT hZ (own_w hw 107 rfl)) (notFace_of_selects (args := #[]) (mvT hZ (own_w hw 109 rfl))) (mvT hZ (own_w hw 109 rfl)) (mvT hZ (own_w hw 108 rfl)) (by decide) (backOf (W := 1) (own_rm16 l Z a0 hw [] r1 vb kb y cs h0 n0 (Nat.le_trans Z0 K0.1) Od hcs hcsn P9 P10 P11 P12) hZ (own_w hw 110 rfl) (own_w hw 2 rfl) (by decide) (by decide)) q2a q2c (g := (mkF m 14 (own_l2 r0 r1) [(.ref r1), (.int (0 : Int32))])) rfl (by rw [hml]; rfl) (Steps.refl _) (argsL := []) (rest := [(.int (0 : Int32))]) (lenOf own_pd21 rfl) rfl (Nat.le_of_eq rfl) (hb hby own_d15_14) (fun _ _ => ⟨rfl, e1, (by decide : 0 + 0 ≤ _), (by decide : 0 + 0 ≤ _)⟩)
 dsimp only [Pt.U, Pt.locs, Pt.cells, Pt.slots] at X2 l2 y2 z2 st2 hQ2
 subst l2 y2 z2
 obtain ⟨rfl, N2q, e2⟩ := hQ2
 have N2 := Fr.app N1 N2q
 refine ownE.goS st2 ?_
 refine ownE.go (f' := (mkF m 22 (own_l2 r0 r1) [(.int (0 : Int32)), (.ref r0)])) (fun t kt => XS.icmpNo X2.here hx rfl (hb hby own_d15_17) rfl (Jvm.Free.XT.ii_ge_f (by decide)) (XS.aloadN X2.here hx rfl (hb hby own_d15_20) rfl rfl (XS.iloadN X2.here hx rfl (hb hby own_d15_21) rfl kt))) ?_
 obtain ⟨cq3, kq3, q3a, q3b, q3c⟩ := isOf hZ e2 P5
 obtain ⟨_, _, ⟨T3, L3, k3, n3⟩, -, X3, ⟨Lc3, hQ3, l3, y3, z3⟩, st3⟩ := X2.virtualBack hx (y := own_y18) (z := own_y18) hown (mvT hZ (own_w hw 116 rfl)) (mvT hZ (own_w hw 117 rfl)) (notFace_of_selects (args := #[]) (mvT hZ (own_w hw 119 rfl))) (mvT hZ (own_w hw 119 rfl)) (mvT hZ (own_w hw 118 rfl)) (by decide) (backOf (W := 0) (own_rm18 l Z a0 hw [] r0 va ka x cs fmt h0 n0 (Nat.le_trans Z0 K0.1) Od hcs hcsn zfm hfm P5 P6 P7 P8) hZ (own_w hw 120 rfl) (own_w hw 2 rfl) (by decide) (by decide)) q3a q3c (g := (mkF m 22 (own_l2 r0 r1) [(.int (0 : Int32)), (.ref r0)])) rfl (by rw [hml]; rfl) (Steps.refl _) (argsL := [(.int (0 : Int32))]) (rest := []) (lenOf own_pd22 rfl) rfl (Nat.le_of_eq rfl) (hb hby own_d15_22) (fun _ _ => ⟨rfl, e2, (by decide : 0 + 0 ≤ _), (by decide : 0 + 0 ≤ _)⟩)
 dsimp only [Pt.U, Pt.locs, Pt.cells, Pt.slots] at X3 l3 y3 z3 st3 hQ3
 subst l3 y3 z3
 obtain ⟨rfl, N3q, e3⟩ := hQ3
 have N3 := Fr.app N2 N3q
 refine ownE.goS st3 ?_
 refine ownE.go (f' := (mkF m 29 (own_l3 x r0 r1) [(.int (0 : Int32)), (.ref r1)])) (fun t kt => XS.istore X3.here hx rfl (hb hby own_d15_25) rfl (l' := (own_l3 x r0 r1)) rfl (XS.aloadN X3.here hx rfl (hb hby own_d15_27) rfl rfl (XS.iloadN X3.here hx rfl (hb hby own_d15_28) rfl kt))) ?_
 obtain ⟨cq4, kq4, q4a, q4b, q4c⟩ := isOf hZ e3 P9
 obtain ⟨_, _, ⟨T4, L4, k4, n4⟩, -, X4, ⟨Lc4, hQ4, l4, y4, z4⟩, st4⟩ := X3.virtualBack hx (y := own_y18) (z := own_y18) hown (mvT hZ (own_w hw 116 rfl)) (mvT hZ (own_w hw 117 rfl)) (notFace_of_selects (args := #[]) (mvT hZ (own_w hw 119 rfl))) (mvT hZ (own_w hw 119 rfl)) (mvT hZ (own_w hw 118 rfl)) (by decide) (backOf (W := 0) (own_rm18 l Z a0 hw [] r1 vb kb y cs fmt h0 n0 (Nat.le_trans Z0 K0.1) Od hcs hcsn zfm hfm P9 P10 P11 P12) hZ (own_w hw 120 rfl) (own_w hw 2 rfl) (by decide) (by decide)) q4a q4c (g := (mkF m 29 (own_l3 x r0 r1) [(.int (0 : Int32)), (.ref r1)])) rfl (by rw [hml]; rfl) (Steps.refl _) (argsL := [(.int (0 : Int32))]) (rest := []) (lenOf own_pd22 rfl) rfl (Nat.le_of_eq rfl) (hb hby own_d15_29) (fun _ _ => ⟨rfl, e3, (by decide : 0 + 0 ≤ _), (by decide : 0 + 0 ≤ _)⟩)
 dsimp only [Pt.U, Pt.locs, Pt.cells, Pt.slots] at X4 l4 y4 z4 st4 hQ4
 subst l4 y4 z4
 obtain ⟨rfl, N4q, e4⟩ := hQ4
 have N4 := Fr.app N3 N4q
 refine ownE.goS st4 ?_
 refine ownE.go (f' := (mkF m 45 (own_l4 x y r0 r1) [(.int (y &&& (255 : Int32))), (.int (x &&& (255 : Int32)))])) (fun t kt => XS.istore X4.here hx rfl (hb hby own_d15_32) rfl (l' := (own_l4 x y r0 r1)) rfl (XS.iload X4.here hx rfl (hb hby own_d15_34) rfl (XS.iload X4.here hx rfl (hb hby own_d15_36) rfl (XS.icmpNo X4.here hx rfl (hb hby own_d15_38) rfl (Jvm.Free.XT.ii_eq_f P13) (XS.iload X4.here hx rfl (hb hby own_d15_41) rfl (XS.iload X4.here hx rfl (hb hby own_d15_43) rfl kt)))))) ?_
 obtain ⟨_, _, ⟨T5, L5, k5, n5⟩, -, X5, ⟨Lc5, hQ5, l5, y5, z5⟩, st5⟩ := Jvm.LawKit.callS X4 hx (y := own_y20) hown (mvT hZ (own_w hw 134 rfl)) (mvT hZ (own_w hw 135 rfl)) (mvT hZ (own_w hw 136 rfl)) (mvT hZ (own_w hw 137 rfl)) (by decide) (backOf (W := 0) (own_rm22l l Z a0 hw [] (x &&& (255 : Int32)) (y &&& (255 : Int32)) h0 n0 (Nat.le_trans Z0 K0.1) P14) hZ (own_w hw 137 rfl) (own_w hw 136 rfl) (by decide) (by decide)) (g := (mkF m 45 (own_l4 x y r0 r1) [(.int (y &&& (255 : Int32))), (.int (x &&& (255 : Int32)))])) rfl (by rw [hml]; rfl) (argsL := [(.int (x &&& (255 : Int32))), (.int (y &&& (255 : Int32)))]) (rest := []) (lenOf own_pd24 rfl) rfl (Nat.le_of_eq rfl) (hb hby own_d15_45) (fun _ _ => ⟨rfl, e4, (by decide : 0 + 0 ≤ _), (by decide : 0 + 0 ≤ _)⟩)
 dsimp only [Pt.U, Pt.locs, Pt.cells, Pt.slots] at X5 l5 y5 z5 st5 hQ5
 subst l5 y5 z5
 obtain ⟨rfl, N5q, e5⟩ := hQ5
 have N5 := Fr.app N4 N5q
 refine ownE.go st5 ?_
 refine ownE.retI X5 hx hlk hret (hb hby own_d15_48) ?_ (by decide) (by decide)
 show own_Q15l Z r0 r1 va ka x vb kb y cs fmt h0 n0 _ T5.heap _
 rw [e5]
 exact ⟨rfl, N5, rfl⟩
theorem own_ef15g (m : MethodId) (x0 : Addr) (x1 : Addr) : entryFrame m #[(.ref x0), (.ref x1)] 6 = mkF m 0 #[.val (.ref x0), .val (.ref x1), .unset, .unset, .unset, .unset] [] := by first | (simp [entryFrame, mkF, argsToLocals, Value.category]; done) | rfl
def own_Q15g (Z : State) (r0 : Addr) (r1 : Addr) (va : Addr) (ka : ClassId) (x : Int32) (vb : Addr) (kb : ClassId) (y : Int32) (cs : Int32) (fmt : Value) (h0 : Heap) (n0 : Nat) (v : Option Value) (h : Heap) (L : List Loc) : Prop := v = some (.int (1 : Int32)) ∧ Fr n0 L ∧ h = h0
set_option maxRecDepth 65536 in
set_option maxHeartbeats 40000000 in
theorem own_rm15g (l : Launch) (Z : State) (a0 : Array Value) (hw : ∀ d ∈ tables_1, d.before a0 Z = true) (ws : List Jvm.Cond) (r0 : Addr) (r1 : Addr) (va : Addr) (ka : ClassId) (x : Int32) (vb : Addr) (kb : ClassId) (y : Int32) (cs : Int32) (fmt : Value) (h0 : Heap) (n0 : Nat) (Z0 : n0 ≤ h0.size) (Od : Old Z n0 h0) (hcs : Sta Z Z.heap own_s2 "COMPACT_STRINGS" "Z" (.int cs)) (hcsn : ¬ cs = (0 : Int32)) (zfm : Sta Z Z.heap own_s8 "SIOOBE_FORMATTER" own_s9 fmt) (hfm : fmt.isRef = true) (P5 : Exa Z h0 r0 own_s2) (P6 : Fld Z h0 r0 own_s2 "coder" "B" (.int (0 : Int32))) (P7 : Fld Z h0 r0 own_s2 "value" "[B" (.ref va)) (P8 : Arv Z h0 va ka .byte (1 : Int32) [(.int x)] (.int (0 : Int32))) (P9 : Exa Z h0 r1 own_s2) (P10 : Fld Z h0 r1 own_s2 "coder" "B" (.int (0 : Int32))) (P11 : Fld Z h0 r1 own_s2 "value" "[B" (.ref vb)) (P12 : Arv Z h0 vb kb .byte (1 : Int32) [(.int y)] (.int (0 : Int32))) (P13 : ¬ (x &&& (255 : Int32)) = (y &&& (255 : Int32))) (P14 : ¬ (x &&& (255 : Int32)) < (y &&& (255 : Int32))) :
    own_MF l Z own_y22 prog_24_method_11_code 6 (some .int) ws own_R3 #[(.ref r0), (.ref r1)] h0 (own_Q15g Z r0 r1 va ka x vb kb y cs fmt h0 n0) := by
 refine own_start (plainFor_of_name own_pn5) fun p e s m below meth c s₁ hx hby hret hlk hml hZ hown hnm X0 e0 => ?_
 have N0 := Fr.nil n0
 have K0 : Keep h0 h0 [] := Keep.refl h0 _
 rw [own_ef15g]
 refine ownE.go (f' := (mkF m 6 (own_l2 r0 r1) [(.ref r0), (.int (0 : Int32))])) (fun t kt => XS.iconst X0.here hx rfl (hb hby own_d15_0) (XS.istoreN X0.here hx rfl (hb hby own_d15_1) rfl (l' := #[.val (.ref r0), .val (.ref r1), .val (.int (0 : Int32)), .unset, .unset, .unset]) rfl (XS.iconst X0.here hx rfl (hb hby own_d15_2) (XS.istoreN X0.here hx rfl (hb hby own_d15_3) rfl (l' := (own_l2 r0 r1)) rfl (XS.iloadN X0.here hx rfl (hb hby own_d15_4) rfl (XS.aloadN X0.here hx rfl (hb hby own_d15_5) rfl rfl kt)))))) ?_
 obtain ⟨cq1, kq1, q1a, q1b, q1c⟩ := isOf hZ e0 P5
 obtain ⟨_, _, ⟨T1, L1, k1, n1⟩, -, X1, ⟨Lc1, hQ1, l1, y1, z1⟩, st1⟩ := X0.virtualBack hx (y := own_y14) (z := own_y14) hown (mvT hZ (own_w hw 106 rfl)) (mvT hZ (own_w hw 107 rfl)) (notFace_of_selects (args := #[]) (mvT hZ (own_w hw 109 rfl))) (mvT hZ (own_w hw 109 rfl)) (mvT hZ (own_w hw 108 rfl)) (by decide) (backOf (W := 1) (own_rm16 l Z a0 hw [] r0 va ka x cs h0 n0 (Nat.le_trans Z0 K0.1) Od hcs hcsn P5 P6 P7 P8) hZ (own_w hw 110 rfl) (own_w hw 2 rfl) (by decide) (by decide)) q1a q1c (g := (mkF m 6 (own_l2 r0 r1) [(.ref r0), (.int (0 : Int32))])) rfl (by rw [hml]; rfl) (Steps.refl _) (argsL := []) (rest := [(.int (0 : Int32))]) (lenOf own_pd21 rfl) rfl (Nat.le_of_eq rfl) (hb hby own_d15_6) (fun _ _ => ⟨rfl, e0, (by decide : 0 + 0 ≤ _), (by decide : 0 + 0 ≤ _)⟩)
 dsimp only [Pt.U, Pt.locs, Pt.cells, Pt.slots] at X1 l1 y1 z1 st1 hQ1
 subst l1 y1 z1
 obtain ⟨rfl, N1q, e1⟩ := hQ1
 have N1 := Fr.app N0 N1q
 refine ownE.goS st1 ?_
 refine ownE.go (f' := (mkF m 14 (own_l2 r0 r1) [(.ref r1), (.int (0 : Int32))])) (fun t kt => XS.icmpNo X1.here hx rfl (hb hby own_d15_9) rfl (Jvm.Free.XT.ii_ge_f (by decide)) (XS.iloadN X1.here hx rfl (hb hby own_d15_12) rfl (XS.aloadN X1.here hx rfl (hb hby own_d15_13) rfl rfl kt))) ?_
 obtain ⟨cq2, kq2, q2a, q2b, q2c⟩ := isOf hZ e1 P9
 obtain ⟨_, _, ⟨T2, L2, k2, n2⟩, -, X2, ⟨Lc2, hQ2, l2, y2, z2⟩, st2⟩ := X1.virtualBack hx (y := own_y14) (z := own_y14) hown (mvT hZ (own_w hw 106 rfl)) (mvT hZ (own_w hw 107 rfl)) (notFace_of_selects (args := #[]) (mvT hZ (own_w hw 109 rfl))) (mvT hZ (own_w hw 109 rfl)) (mvT hZ (own_w hw 108 rfl)) (by decide) (backOf (W := 1) (own_rm16 l Z a0 hw [] r1 vb kb y cs h0 n0 (Nat.le_trans Z0 K0.1) Od hcs hcsn P9 P10 P11 P12) hZ (own_w hw 110 rfl) (own_w hw 2 rfl) (by decide) (by decide)) q2a q2c (g := (mkF m 14 (own_l2 r0 r1) [(.ref r1), (.int (0 : Int32))])) rfl (by rw [hml]; rfl) (Steps.refl _) (argsL := []) (rest := [(.int (0 : Int32))]) (lenOf own_pd21 rfl) rfl (Nat.le_of_eq rfl) (hb hby own_d15_14) (fun _ _ => ⟨rfl, e1, (by decide : 0 + 0 ≤ _), (by decide : 0 + 0 ≤ _)⟩)
 dsimp only [Pt.U, Pt.locs, Pt.cells, Pt.slots] at X2 l2 y2 z2 st2 hQ2
 subst l2 y2 z2
 obtain ⟨rfl, N2q, e2⟩ := hQ2
 have N2 := Fr.app N1 N2q
 refine ownE.goS st2 ?_
 refine ownE.go (f' := (mkF m 22 (own_l2 r0 r1) [(.int (0 : Int32)), (.ref r0)])) (fun t kt => XS.icmpNo X2.here hx rfl (hb hby own_d15_17) rfl (Jvm.Free.XT.ii_ge_f (by decide)) (XS.aloadN X2.here hx rfl (hb hby own_d15_20) rfl rfl (XS.iloadN X2.here hx rfl (hb hby own_d15_21) rfl kt))) ?_
 obtain ⟨cq3, kq3, q3a, q3b, q3c⟩ := isOf hZ e2 P5
 obtain ⟨_, _, ⟨T3, L3, k3, n3⟩, -, X3, ⟨Lc3, hQ3, l3, y3, z3⟩, st3⟩ := X2.virtualBack hx (y := own_y18) (z := own_y18) hown (mvT hZ (own_w hw 116 rfl)) (mvT hZ (own_w hw 117 rfl)) (notFace_of_selects (args := #[]) (mvT hZ (own_w hw 119 rfl))) (mvT hZ (own_w hw 119 rfl)) (mvT hZ (own_w hw 118 rfl)) (by decide) (backOf (W := 0) (own_rm18 l Z a0 hw [] r0 va ka x cs fmt h0 n0 (Nat.le_trans Z0 K0.1) Od hcs hcsn zfm hfm P5 P6 P7 P8) hZ (own_w hw 120 rfl) (own_w hw 2 rfl) (by decide) (by decide)) q3a q3c (g := (mkF m 22 (own_l2 r0 r1) [(.int (0 : Int32)), (.ref r0)])) rfl (by rw [hml]; rfl) (Steps.refl _) (argsL := [(.int (0 : Int32))]) (rest := []) (lenOf own_pd22 rfl) rfl (Nat.le_of_eq rfl) (hb hby own_d15_22) (fun _ _ => ⟨rfl, e2, (by decide : 0 + 0 ≤ _), (by decide : 0 + 0 ≤ _)⟩)
 dsimp only [Pt.U, Pt.locs, Pt.cells, Pt.slots] at X3 l3 y3 z3 st3 hQ3
 subst l3 y3 z3
 obtain ⟨rfl, N3q, e3⟩ := hQ3
 have N3 := Fr.app N2 N3q
 refine ownE.goS st3 ?_
 refine ownE.go (f' := (mkF m 29 (own_l3 x r0 r1) [(.int (0 : Int32)), (.ref r1)])) (fun t kt => XS.istore X3.here hx rfl (hb hby own_d15_25) rfl (l' := (own_l3 x r0 r1)) rfl (XS.aloadN X3.here hx rfl (hb hby own_d15_27) rfl rfl (XS.iloadN X3.here hx rfl (hb hby own_d15_28) rfl kt))) ?_
 obtain ⟨cq4, kq4, q4a, q4b, q4c⟩ := isOf hZ e3 P9
 obtain ⟨_, _, ⟨T4, L4, k4, n4⟩, -, X4, ⟨Lc4, hQ4, l4, y4, z4⟩, st4⟩ := X3.virtualBack hx (y := own_y18) (z := own_y18) hown (mvT hZ (own_w hw 116 rfl)) (mvT hZ (own_w hw 117 rfl)) (notFace_of_selects (args := #[]) (mvT hZ (own_w hw 119 rfl))) (mvT hZ (own_w hw 119 rfl)) (mvT hZ (own_w hw 118 rfl)) (by decide) (backOf (W := 0) (own_rm18 l Z a0 hw [] r1 vb kb y cs fmt h0 n0 (Nat.le_trans Z0 K0.1) Od hcs hcsn zfm hfm P9 P10 P11 P12) hZ (own_w hw 120 rfl) (own_w hw 2 rfl) (by decide) (by decide)) q4a q4c (g := (mkF m 29 (own_l3 x r0 r1) [(.int (0 : Int32)), (.ref r1)])) rfl (by rw [hml]; rfl) (Steps.refl _) (argsL := [(.int (0 : Int32))]) (rest := []) (lenOf own_pd22 rfl) rfl (Nat.le_of_eq rfl) (hb hby own_d15_29) (fun _ _ => ⟨rfl, e3, (by decide : 0 + 0 ≤ _), (by decide : 0 + 0 ≤ _)⟩)
 dsimp only [Pt.U, Pt.locs, Pt.cells, Pt.slots] at X4 l4 y4 z4 st4 hQ4
 subst l4 y4 z4
 obtain ⟨rfl, N4q, e4⟩ := hQ4
 have N4 := Fr.app N3 N4q
 refine ownE.goS st4 ?_
 refine ownE.go (f' := (mkF m 45 (own_l4 x y r0 r1) [(.int (y &&& (255 : Int32))), (.int (x &&& (255 : Int32)))])) (fun t kt => XS.istore X4.here hx rfl (hb hby own_d15_32) rfl (l' := (own_l4 x y r0 r1)) rfl (XS.iload X4.here hx rfl (hb hby own_d15_34) rfl (XS.iload X4.here hx rfl (hb hby own_d15_36) rfl (XS.icmpNo X4.here hx rfl (hb hby own_d15_38) rfl (Jvm.Free.XT.ii_eq_f P13) (XS.iload X4.here hx rfl (hb hby own_d15_41) rfl (XS.iload X4.here hx rfl (hb hby own_d15_43) rfl kt)))))) ?_
 obtain ⟨_, _, ⟨T5, L5, k5, n5⟩, -, X5, ⟨Lc5, hQ5, l5, y5, z5⟩, st5⟩ := Jvm.LawKit.callS X4 hx (y := own_y20) hown (mvT hZ (own_w hw 134 rfl)) (mvT hZ (own_w hw 135 rfl)) (mvT hZ (own_w hw 136 rfl)) (mvT hZ (own_w hw 137 rfl)) (by decide) (backOf (W := 0) (own_rm22g l Z a0 hw [] (x &&& (255 : Int32)) (y &&& (255 : Int32)) h0 n0 (Nat.le_trans Z0 K0.1) P14 P13) hZ (own_w hw 137 rfl) (own_w hw 136 rfl) (by decide) (by decide)) (g := (mkF m 45 (own_l4 x y r0 r1) [(.int (y &&& (255 : Int32))), (.int (x &&& (255 : Int32)))])) rfl (by rw [hml]; rfl) (argsL := [(.int (x &&& (255 : Int32))), (.int (y &&& (255 : Int32)))]) (rest := []) (lenOf own_pd24 rfl) rfl (Nat.le_of_eq rfl) (hb hby own_d15_45) (fun _ _ => ⟨rfl, e4, (by decide : 0 + 0 ≤ _), (by decide : 0 + 0 ≤ _)⟩)
 dsimp only [Pt.U, Pt.locs, Pt.cells, Pt.slots] at X5 l5 y5 z5 st5 hQ5
 subst l5 y5 z5
 obtain ⟨rfl, N5q, e5⟩ := hQ5
 have N5 := Fr.app N4 N5q
 refine ownE.go st5 ?_
 refine ownE.retI X5 hx hlk hret (hb hby own_d15_48) ?_ (by decide) (by decide)
 show own_Q15g Z r0 r1 va ka x vb kb y cs fmt h0 n0 _ T5.heap _
 rw [e5]
 exact ⟨rfl, N5, rfl⟩
theorem own_d28_0 : decode prog_24_method_4_code 0 = .ok (.aload_n 0, 1) := by decide +kernel
theorem own_d28_1 : decode prog_24_method_4_code 1 = .ok (.getfield 7, 3) := by decide +kernel
theorem own_d28_4 : decode prog_24_method_4_code 4 = .ok (.astore_n 2, 1) := by decide +kernel
theorem own_d28_5 : decode prog_24_method_4_code 5 = .ok (.aload_n 2, 1) := by decide +kernel
theorem own_d28_6 : decode prog_24_method_4_code 6 = .ok (.ifnull 40, 3) := by decide +kernel
theorem own_d28_46 : decode prog_24_method_4_code 46 = .ok (.aconst_null, 1) := by decide +kernel
theorem own_d28_47 : decode prog_24_method_4_code 47 = .ok (.areturn, 1) := by decide +kernel
theorem own_ef280 (m : MethodId) (x0 : Addr) (x1 : Addr) : entryFrame m #[(.ref x0), (.ref x1)] 4 = mkF m 0 #[.val (.ref x0), .val (.ref x1), .unset, .unset] [] := by first | (simp [entryFrame, mkF, argsToLocals, Value.category]; done) | rfl
def own_Q280 (Z : State) (r0 : Addr) (r1 : Addr) (h0 : Heap) (n0 : Nat) (v : Option Value) (h : Heap) (L : List Loc) : Prop := v = some .null ∧ Fr n0 L ∧ h = h0
abbrev own_y23 : MethodName := (⟨"com/example/quayside/quayside/core/Entries", "get", "(Ljava/lang/String;)Lcom/example/quayside/quayside/core/Entry;"⟩ : MethodName)
set_option maxRecDepth 65536 in
set_option maxHeartbeats 40000000 in
theorem own_rm280 (l : Launch) (Z : State) (a0 : Array Value) (hw : ∀ d ∈ tables_1, d.before a0 Z = true) (ws : List Jvm.Cond) (r0 : Addr) (r1 : Addr) (h0 : Heap) (n0 : Nat) (Z0 : n0 ≤ h0.size) (P0 : Exa Z h0 r0 own_s3) (P1 : Fld Z h0 r0 own_s3 "root" own_s1 .null) :
    own_MF l Z own_y23 prog_24_method_4_code 4 (some (.object own_s4)) ws own_R0 #[(.ref r0), (.ref r1)] h0 (own_Q280 Z r0 r1 h0 n0) := by
 refine own_start (plainFor_of_name own_pn5) fun p e s m below meth c s₁ hx hby hret hlk hml hZ hown hnm X0 e0 => ?_
 have N0 := Fr.nil n0
 have K0 : Keep h0 h0 [] := Keep.refl h0 _
 rw [own_ef280]
 refine ownE.go (f' := (mkF m 1 #[.val (.ref r0), .val (.ref r1), .unset, .unset] [(.ref r0)])) (fun t kt => XS.aloadN X0.here hx rfl (hb hby own_d28_0) rfl rfl kt) ?_
 obtain ⟨T1, X1, e1, st1⟩ := getF X0 hx hZ hown (host := "") (Or.inl (own_w hw 70 rfl)) Via.refl e0 P1 (g := (mkF m 1 #[.val (.ref r0), .val (.ref r1), .unset, .unset] [(.ref r0)])) rfl rfl (hb hby own_d28_1)
 refine ownE.go st1 ?_
 refine ownE.go (f' := (mkF m 47 #[.val (.ref r0), .val (.ref r1), .val .null, .unset] [.null])) (fun t kt => XS.astoreN X1.here hx rfl (hb hby own_d28_4) rfl rfl (l' := #[.val (.ref r0), .val (.ref r1), .val .null, .unset]) rfl (XS.aloadN X1.here hx rfl (hb hby own_d28_5) rfl rfl (XS.ifnullYes X1.here hx rfl (pc0 := 6) (pc' := 46) rfl (hb hby own_d28_6) rfl (by decide) (by decide) (XS.aconstNull X1.here hx rfl (hb hby own_d28_46) kt)))) ?_
 refine ownE.retA X1 hx hlk hret rfl rfl rfl (hb hby own_d28_47) ?_ (by decide) (by decide)
 show own_Q280 Z r0 r1 h0 n0 _ T1.heap _
 rw [e1]
 exact ⟨rfl, N0, rfl⟩
theorem own_pd25 : parseMethodDescriptor "(Ljava/lang/String;Ljava/lang/String;)I" = some ⟨[(.object "java/lang/String"), (.object "java/lang/String")], some .int⟩ := by decide +kernel
theorem own_d28_9 : decode prog_24_method_4_code 9 = .ok (.aload_n 1, 1) := by decide +kernel
theorem own_d28_10 : decode prog_24_method_4_code 10 = .ok (.aload_n 2, 1) := by decide +kernel
theorem own_d28_11 : decode prog_24_method_4_code 11 = .ok (.getfield 17, 3) := by decide +kernel
theorem own_d28_14 : decode prog_24_method_4_code 14 = .ok (.invokestatic 23, 3) := by decide +kernel
theorem own_d28_17 : decode prog_24_method_4_code 17 = .ok (.istore_n 3, 1) := by decide +kernel
theorem own_d28_18 : decode prog_24_method_4_code 18 = .ok (.iload_n 3, 1) := by decide +kernel
theorem own_d28_19 : decode prog_24_method_4_code 19 = .ok (.ifCond .ne 8, 3) := by decide +kernel
theorem own_d28_22 : decode prog_24_method_4_code 22 = .ok (.aload_n 2, 1) := by decide +kernel
theorem own_d28_23 : decode prog_24_method_4_code 23 = .ok (.getfield 27, 3) := by decide +kernel
theorem own_d28_26 : decode prog_24_method_4_code 26 = .ok (.areturn, 1) := by decide +kernel
theorem own_ef28e (m : MethodId) (x0 : Addr) (x1 : Addr) : entryFrame m #[(.ref x0), (.ref x1)] 4 = mkF m 0 #[.val (.ref x0), .val (.ref x1), .unset, .unset] [] := by first | (simp [entryFrame, mkF, argsToLocals, Value.category]; done) | rfl
def own_Q28e (Z : State) (r0 : Addr) (r1 : Addr) (va : Addr) (ka : ClassId) (x : Int32) (lk : Addr) (nm : Addr) (vb : Addr) (kb : ClassId) (y : Int32) (en : Addr) (cs : Int32) (fmt : Value) (h0 : Heap) (n0 : Nat) (v : Option Value) (h : Heap) (L : List Loc) : Prop := v = some (.ref en) ∧ Fr n0 L ∧ h = h0
set_option maxRecDepth 65536 in
set_option maxHeartbeats 40000000 in
theorem own_rm28e (l : Launch) (Z : State) (a0 : Array Value) (hw : ∀ d ∈ tables_1, d.before a0 Z = true) (ws : List Jvm.Cond) (r0 : Addr) (r1 : Addr) (va : Addr) (ka : ClassId) (x : Int32) (lk : Addr) (nm : Addr) (vb : Addr) (kb : ClassId) (y : Int32) (en : Addr) (cs : Int32) (fmt : Value) (h0 : Heap) (n0 : Nat) (Z0 : n0 ≤ h0.size) (Od : Old Z n0 h0) (hcs : Sta Z Z.heap own_s2 "COMPACT_STRINGS" "Z" (.int cs)) (hcsn : ¬ cs = (0 : Int32)) (zfm : Sta Z Z.heap own_s8 "SIOOBE_FORMATTER" own_s9 fmt) (hfm : fmt.isRef = true) (P5 : Exa Z h0 r0 own_s3) (P6 : Fld Z h0 r0 own_s3 "root" own_s1 (.ref lk)) (P7 : Fld Z h0 lk own_s0 "name" own_s7 (.ref nm)) (P8 : Fld Z h0 lk own_s0 "entry" own_s5 (.ref en)) (P9 : Exa Z h0 r1 own_s2) (P10 : Fld Z h0 r1 own_s2 "coder" "B" (.int (0 : Int32))) (P11 : Fld Z h0 r1 own_s2 "value" "[B" (.ref va)) (P12 : Arv Z h0 va ka .byte (1 : Int32) [(.int x)] (.int (0 : Int32))) (P13 : Exa Z h0 nm own_s2) (P14 : Fld Z h0 nm own_s2 "coder" "B" (.int (0 : Int32))) (P15 : Fld Z h0 nm own_s2 "value" "[B" (.ref vb)) (P16 : Arv Z h0 vb kb .byte (1 : Int32) [(.int y)] (.int (0 : Int32))) (P17 : (x &&& (255 : Int32)) = (y &&& (255 : Int32))) :
    own_MF l Z own_y23 prog_24_method_4_code 4 (some (.object own_s4)) ws own_R1 #[(.ref r0), (.ref r1)] h0 (own_Q28e Z r0 r1 va ka x lk nm vb kb y en cs fmt h0 n0) := by
 refine own_start (plainFor_of_name own_pn5) fun p e s m below meth c s₁ hx hby hret hlk hml hZ hown hnm X0 e0 => ?_
 have N0 := Fr.nil n0
 have K0 : Keep h0 h0 [] := Keep.refl h0 _
 rw [own_ef28e]
 refine ownE.go (f' := (mkF m 1 #[.val (.ref r0), .val (.ref r1), .unset, .unset] [(.ref r0)])) (fun t kt => XS.aloadN X0.here hx rfl (hb hby own_d28_0) rfl rfl kt) ?_
 obtain ⟨T1, X1, e1, st1⟩ := getF X0 hx hZ hown (host := "") (Or.inl (own_w hw 70 rfl)) Via.refl e0 P6 (g := (mkF m 1 #[.val (.ref r0), .val (.ref r1), .unset, .unset] [(.ref r0)])) rfl rfl (hb hby own_d28_1)
 refine ownE.go st1 ?_
 refine ownE.go (f' := (mkF m 11 #[.val (.ref r0), .val (.ref r1), .val (.ref lk), .unset] [(.ref lk), (.ref r1)])) (fun t kt => XS.astoreN X1.here hx rfl (hb hby own_d28_4) rfl rfl (l' := #[.val (.ref r0), .val (.ref r1), .val (.ref lk), .unset]) rfl (XS.aloadN X1.here hx rfl (hb hby own_d28_5) rfl rfl (XS.ifnullNo X1.here hx rfl (hb hby own_d28_6) rfl (XS.aloadN X1.here hx rfl (hb hby own_d28_9) rfl rfl (XS.aloadN X1.here hx rfl (hb hby own_d28_10) rfl rfl kt))))) ?_
 obtain ⟨T2, X2, e2, st2⟩ := own_getR X1 hx hZ hown (own_w hw 102 rfl) e1 P7 (g := (mkF m 11 #[.val (.ref r0), .val (.ref r1), .val (.ref lk), .unset] [(.ref lk), (.ref r1)])) rfl rfl (hb hby own_d28_11)
 refine ownE.go st2 ?_
 obtain ⟨_, _, ⟨T3, L3, k3, n3⟩, -, X3, ⟨Lc3, hQ3, l3, y3, z3⟩, st3⟩ := Jvm.LawKit.callS X2 hx (y := own_y22) hown (mvT hZ (own_w hw 103 rfl)) (mvT hZ (own_w hw 104 rfl)) (mvT hZ (own_w hw 28 rfl)) (mvT hZ (own_w hw 105 rfl)) (by decide) (backOf (W := 0) (own_rm15e l Z a0 hw [] r1 nm va ka x vb kb y cs fmt h0 n0 (Nat.le_trans Z0 K0.1) Od hcs hcsn zfm hfm P9 P10 P11 P12 P13 P14 P15 P16 P17) hZ (own_w hw 105 rfl) (own_w hw 28 rfl) (by decide) (by decide)) (g := (mkF m 14 #[.val (.ref r0), .val (.ref r1), .val (.ref lk), .unset] [(.ref nm), (.ref r1)])) rfl (by rw [hml]; rfl) (argsL := [(.ref r1), (.ref nm)]) (rest := []) (lenOf own_pd25 rfl) rfl (Nat.le_of_eq rfl) (hb hby own_d28_14) (fun _ _ => ⟨rfl, e2, (by decide : 0 + 0 ≤ _), (by decide : 0 + 0 ≤ _)⟩)
 dsimp only [Pt.U, Pt.locs, Pt.cells, Pt.slots] at X3 l3 y3 z3 st3 hQ3
 subst l3 y3 z3
 obtain ⟨rfl, N3q, e3⟩ := hQ3
 have N3 := Fr.app N0 N3q
 refine ownE.go st3 ?_
 refine ownE.go (f' := (mkF m 23 #[.val (.ref r0), .val (.ref r1), .val (.ref lk), .val (.int (0 : Int32))] [(.ref lk)])) (fun t kt => XS.istoreN X3.here hx rfl (hb hby own_d28_17) rfl (l' := #[.val (.ref r0), .val (.ref r1), .val (.ref lk), .val (.int (0 : Int32))]) rfl (XS.iloadN X3.here hx rfl (hb hby own_d28_18) rfl (XS.ifNo X3.here hx rfl (hb hby own_d28_19) rfl (Jvm.Free.XT.i0_ne_f (by decide)) (XS.aloadN X3.here hx rfl (hb hby own_d28_22) rfl rfl kt)))) ?_
 obtain ⟨T4, X4, e4, st4⟩ := own_getR X3 hx hZ hown (own_w hw 176 rfl) e3 P8 (g := (mkF m 23 #[.val (.ref r0), .val (.ref r1), .val (.ref lk), .val (.int (0 : Int32))] [(.ref lk)])) rfl rfl (hb hby own_d28_23)
 refine ownE.go st4 ?_
 refine ownE.retA X4 hx hlk hret rfl rfl rfl (hb hby own_d28_26) ?_ (by decide) (by decide)
 show own_Q28e Z r0 r1 va ka x lk nm vb kb y en cs fmt h0 n0 _ T4.heap _
 rw [e4]
 exact ⟨rfl, N3, rfl⟩
theorem own_d28_27 : decode prog_24_method_4_code 27 = .ok (.iload_n 3, 1) := by decide +kernel
theorem own_d28_28 : decode prog_24_method_4_code 28 = .ok (.ifCond .ge 10, 3) := by decide +kernel
theorem own_d28_31 : decode prog_24_method_4_code 31 = .ok (.aload_n 2, 1) := by decide +kernel
theorem own_d28_32 : decode prog_24_method_4_code 32 = .ok (.getfield 31, 3) := by decide +kernel
theorem own_d28_35 : decode prog_24_method_4_code 35 = .ok (.goto 7, 3) := by decide +kernel
theorem own_d28_42 : decode prog_24_method_4_code 42 = .ok (.astore_n 2, 1) := by decide +kernel
theorem own_d28_43 : decode prog_24_method_4_code 43 = .ok (.goto (-38), 3) := by decide +kernel
theorem own_ef28l (m : MethodId) (x0 : Addr) (x1 : Addr) : entryFrame m #[(.ref x0), (.ref x1)] 4 = mkF m 0 #[.val (.ref x0), .val (.ref x1), .unset, .unset] [] := by first | (simp [entryFrame, mkF, argsToLocals, Value.category]; done) | rfl
def own_Q28l (Z : State) (r0 : Addr) (r1 : Addr) (va : Addr) (ka : ClassId) (x : Int32) (lk : Addr) (nm : Addr) (vb : Addr) (kb : ClassId) (y : Int32) (cs : Int32) (fmt : Value) (h0 : Heap) (n0 : Nat) (v : Option Value) (h : Heap) (L : List Loc) : Prop := v = some .null ∧ Fr n0 L ∧ h = h0
set_option maxRecDepth 65536 in
set_option maxHeartbeats 40000000 in
theorem own_rm28l (l : Launch) (Z : State) (a0 : Array Value) (hw : ∀ d ∈ tables_1, d.before a0 Z = true) (ws : List Jvm.Cond) (r0 : Addr) (r1 : Addr) (va : Addr) (ka : ClassId) (x : Int32) (lk : Addr) (nm : Addr) (vb : Addr) (kb : ClassId) (y : Int32) (cs : Int32) (fmt : Value) (h0 : Heap) (n0 : Nat) (Z0 : n0 ≤ h0.size) (Od : Old Z n0 h0) (hcs : Sta Z Z.heap own_s2 "COMPACT_STRINGS" "Z" (.int cs)) (hcsn : ¬ cs = (0 : Int32)) (zfm : Sta Z Z.heap own_s8 "SIOOBE_FORMATTER" own_s9 fmt) (hfm : fmt.isRef = true) (P5 : Exa Z h0 r0 own_s3) (P6 : Fld Z h0 r0 own_s3 "root" own_s1 (.ref lk)) (P7 : Fld Z h0 lk own_s0 "name" own_s7 (.ref nm)) (P8 : Fld Z h0 lk own_s0 "left" own_s1 .null) (P9 : Exa Z h0 r1 own_s2) (P10 : Fld Z h0 r1 own_s2 "coder" "B" (.int (0 : Int32))) (P11 : Fld Z h0 r1 own_s2 "value" "[B" (.ref va)) (P12 : Arv Z h0 va ka .byte (1 : Int32) [(.int x)] (.int (0 : Int32))) (P13 : Exa Z h0 nm own_s2) (P14 : Fld Z h0 nm own_s2 "coder" "B" (.int (0 : Int32))) (P15 : Fld Z h0 nm own_s2 "value" "[B" (.ref vb)) (P16 : Arv Z h0 vb kb .byte (1 : Int32) [(.int y)] (.int (0 : Int32))) (P17 : ¬ (x &&& (255 : Int32)) = (y &&& (255 : Int32))) (P18 : (x &&& (255 : Int32)) < (y &&& (255 : Int32))) :
    own_MF l Z own_y23 prog_24_method_4_code 4 (some (.object own_s4)) ws own_R1 #[(.ref r0), (.ref r1)] h0 (own_Q28l Z r0 r1 va ka x lk nm vb kb y cs fmt h0 n0) := by
 refine own_start (plainFor_of_name own_pn5) fun p e s m below meth c s₁ hx hby hret hlk hml hZ hown hnm X0 e0 => ?_
 have N0 := Fr.nil n0
 have K0 : Keep h0 h0 [] := Keep.refl h0 _
 rw [own_ef28l]
 refine ownE.go (f' := (mkF m 1 #[.val (.ref r0), .val (.ref r1), .unset, .unset] [(.ref r0)])) (fun t kt => XS.aloadN X0.here hx rfl (hb hby own_d28_0) rfl rfl kt) ?_
 obtain ⟨T1, X1, e1, st1⟩ := getF X0 hx hZ hown (host := "") (Or.inl (own_w hw 70 rfl)) Via.refl e0 P6 (g := (mkF m 1 #[.val (.ref r0), .val (.ref r1), .unset, .unset] [(.ref r0)])) rfl rfl (hb hby own_d28_1)
 refine ownE.go st1 ?_
 refine ownE.go (f' := (mkF m 11 #[.val (.ref r0), .val (.ref r1), .val (.ref lk), .unset] [(.ref lk), (.ref r1)])) (fun t kt => XS.astoreN X1.here hx rfl (hb hby own_d28_4) rfl rfl (l' := #[.val (.ref r0), .val (.ref r1), .val (.ref lk), .unset]) rfl (XS.aloadN X1.here hx rfl (hb hby own_d28_5) rfl rfl (XS.ifnullNo X1.here hx rfl (hb hby own_d28_6) rfl (XS.aloadN X1.here hx rfl (hb hby own_d28_9) rfl rfl (XS.aloadN X1.here hx rfl (hb hby own_d28_10) rfl rfl kt))))) ?_
 obtain ⟨T2, X2, e2, st2⟩ := own_getR X1 hx hZ hown (own_w hw 102 rfl) e1 P7 (g := (mkF m 11 #[.val (.ref r0), .val (.ref r1), .val (.ref lk), .unset] [(.ref lk), (.ref r1)])) rfl rfl (hb hby own_d28_11)
 refine ownE.go st2 ?_
 obtain ⟨_, _, ⟨T3, L3, k3, n3⟩, -, X3, ⟨Lc3, hQ3, l3, y3, z3⟩, st3⟩ := Jvm.LawKit.callS X2 hx (y := own_y22) hown (mvT hZ (own_w hw 103 rfl)) (mvT hZ (own_w hw 104 rfl)) (mvT hZ (own_w hw 28 rfl)) (mvT hZ (own_w hw 105 rfl)) (by decide) (backOf (W := 0) (own_rm15l l Z a0 hw [] r1 nm va ka x vb kb y cs fmt h0 n0 (Nat.le_trans Z0 K0.1) Od hcs hcsn zfm hfm P9 P10 P11 P12 P13 P14 P15 P16 P17 P18) hZ (own_w hw 105 rfl) (own_w hw 28 rfl) (by decide) (by decide)) (g := (mkF m 14 #[.val (.ref r0), .val (.ref r1), .val (.ref lk), .unset] [(.ref nm), (.ref r1)])) rfl (by rw [hml]; rfl) (argsL := [(.ref r1), (.ref nm)]) (rest := []) (lenOf own_pd25 rfl) rfl (Nat.le_of_eq rfl) (hb hby own_d28_14) (fun _ _ => ⟨rfl, e2, (by decide : 0 + 0 ≤ _), (by decide : 0 + 0 ≤ _)⟩)
 dsimp only [Pt.U, Pt.locs, Pt.cells, Pt.slots] at X3 l3 y3 z3 st3 hQ3
 subst l3 y3 z3
 obtain ⟨rfl, N3q, e3⟩ := hQ3
 have N3 := Fr.app N0 N3q
 refine ownE.go st3 ?_
 refine ownE.go (f' := (mkF m 32 #[.val (.ref r0), .val (.ref r1), .val (.ref lk), .val (.int (-1 : Int32))] [(.ref lk)])) (fun t kt => XS.istoreN X3.here hx rfl (hb hby own_d28_17) rfl (l' := #[.val (.ref r0), .val (.ref r1), .val (.ref lk), .val (.int (-1 : Int32))]) rfl (XS.iloadN X3.here hx rfl (hb hby own_d28_18) rfl (XS.ifYes X3.here hx rfl (pc0 := 19) (pc' := 27) rfl (hb hby own_d28_19) rfl (Jvm.Free.XT.i0_ne_t (by decide)) (by decide) (by decide) (XS.iloadN X3.here hx rfl (hb hby own_d28_27) rfl (XS.ifNo X3.here hx rfl (hb hby own_d28_28) rfl (Jvm.Free.XT.i0_ge_f (by decide)) (XS.aloadN X3.here hx rfl (hb hby own_d28_31) rfl rfl kt)))))) ?_
 obtain ⟨T4, X4, e4, st4⟩ := own_getR X3 hx hZ hown (own_w hw 143 rfl) e3 P8 (g := (mkF m 32 #[.val (.ref r0), .val (.ref r1), .val (.ref lk), .val (.int (-1 : Int32))] [(.ref lk)])) rfl rfl (hb hby own_d28_32)
 refine ownE.go st4 ?_
 refine ownE.go (f' := (mkF m 47 #[.val (.ref r0), .val (.ref r1), .val .null, .val (.int (-1 : Int32))] [.null])) (fun t kt => XS.goto X4.here hx rfl (pc0 := 35) (pc' := 42) rfl (hb hby own_d28_35) (by decide) (by decide) (XS.astoreN X4.here hx rfl (hb hby own_d28_42) rfl rfl (l' := #[.val (.ref r0), .val (.ref r1), .val .null, .val (.int (-1 : Int32))]) rfl (XS.goto X4.here hx rfl (pc0 := 43) (pc' := 5) rfl (hb hby own_d28_43) (by decide) (by decide) (XS.aloadN X4.here hx rfl (hb hby own_d28_5) rfl rfl (XS.ifnullYes X4.here hx rfl (pc0 := 6) (pc' := 46) rfl (hb hby own_d28_6) rfl (by decide) (by decide) (XS.aconstNull X4.here hx rfl (hb hby own_d28_46) kt)))))) ?_
 refine ownE.retA X4 hx hlk hret rfl rfl rfl (hb hby own_d28_47) ?_ (by decide) (by decide)
 show own_Q28l Z r0 r1 va ka x lk nm vb kb y cs fmt h0 n0 _ T4.heap _
 rw [e4]
 exact ⟨rfl, N3, rfl⟩
theorem own_ef28cl (m : MethodId) (x0 : Addr) (x1 : Addr) : entryFrame m #[(.ref x0), (.ref x1)] 4 = mkF m 0 #[.val (.ref x0), .val (.ref x1), .unset, .unset] [] := by first | (simp [entryFrame, mkF, argsToLocals, Value.category]; done) | rfl
def own_Q28cl (Z : State) (r0 : Addr) (r1 : Addr) (va : Addr) (ka : ClassId) (x : Int32) (lk : Addr) (nm : Addr) (vb : Addr) (kb : ClassId) (y : Int32) (lc : Addr) (nc : Addr) (vc : Addr) (kc : ClassId) (w : Int32) (ec : Addr) (cs : Int32) (fmt : Value) (h0 : Heap) (n0 : Nat) (v : Option Value) (h : Heap) (L : List Loc) : Prop := v = some (.ref ec) ∧ Fr n0 L ∧ h = h0
set_option maxRecDepth 65536 in
set_option maxHeartbeats 40000000 in
theorem own_rm28cl (l : Launch) (Z : State) (a0 : Array Value) (hw : ∀ d ∈ tables_1, d.before a0 Z = true) (ws : List Jvm.Cond) (r0 : Addr) (r1 : Addr) (va : Addr) (ka : ClassId) (x : Int32) (lk : Addr) (nm : Addr) (vb : Addr) (kb : ClassId) (y : Int32) (lc : Addr) (nc : Addr) (vc : Addr) (kc : ClassId) (w : Int32) (ec : Addr) (cs : Int32) (fmt : Value) (h0 : Heap) (n0 : Nat) (Z0 : n0 ≤ h0.size) (Od : Old Z n0 h0) (hcs : Sta Z Z.heap own_s2 "COMPACT_STRINGS" "Z" (.int cs)) (hcsn : ¬ cs = (0 : Int32)) (zfm : Sta Z Z.heap own_s8 "SIOOBE_FORMATTER" own_s9 fmt) (hfm : fmt.isRef = true) (P5 : Exa Z h0 r0 own_s3) (P6 : Fld Z h0 r0 own_s3 "root" own_s1 (.ref lk)) (P7 : Fld Z h0 lk own_s0 "name" own_s7 (.ref nm)) (P8 : Fld Z h0 lk own_s0 "left" own_s1 (.ref lc)) (P9 : Fld Z h0 lc own_s0 "name" own_s7 (.ref nc)) (P10 : Fld Z h0 lc own_s0 "entry" own_s5 (.ref ec)) (P11 : Exa Z h0 r1 own_s2) (P12 : Fld Z h0 r1 own_s2 "coder" "B" (.int (0 : Int32))) (P13 : Fld Z h0 r1 own_s2 "value" "[B" (.ref va)) (P14 : Arv Z h0 va ka .byte (1 : Int32) [(.int x)] (.int (0 : Int32))) (P15 : Exa Z h0 nm own_s2) (P16 : Fld Z h0 nm own_s2 "coder" "B" (.int (0 : Int32))) (P17 : Fld Z h0 nm own_s2 "value" "[B" (.ref vb)) (P18 : Arv Z h0 vb kb .byte (1 : Int32) [(.int y)] (.int (0 : Int32))) (P19 : Exa Z h0 nc own_s2) (P20 : Fld Z h0 nc own_s2 "coder" "B" (.int (0 : Int32))) (P21 : Fld Z h0 nc own_s2 "value" "[B" (.ref vc)) (P22 : Arv Z h0 vc kc .byte (1 : Int32) [(.int w)] (.int (0 : Int32))) (P23 : ¬ (x &&& (255 : Int32)) = (y &&& (255 : Int32))) (P24 : (x &&& (255 : Int32)) < (y &&& (255 : Int32))) (P25 : (x &&& (255 : Int32)) = (w &&& (255 : Int32))) :
    own_MF l Z own_y23 prog_24_method_4_code 4 (some (.object own_s4)) ws own_R1 #[(.ref r0), (.ref r1)] h0 (own_Q28cl Z r0 r1 va ka x lk nm vb kb y lc nc vc kc w ec cs fmt h0 n0) := by
 refine own_start (plainFor_of_name own_pn5) fun p e s m below meth c s₁ hx hby hret hlk hml hZ hown hnm X0 e0 => ?_
 have N0 := Fr.nil n0
 have K0 : Keep h0 h0 [] := Keep.refl h0 _
 rw [own_ef28cl]
 refine ownE.go (f' := (mkF m 1 #[.val (.ref r0), .val (.ref r1), .unset, .unset] [(.ref r0)])) (fun t kt => XS.aloadN X0.here hx rfl (hb hby own_d28_0) rfl rfl kt) ?_
 obtain ⟨T1, X1, e1, st1⟩ := getF X0 hx hZ hown (host := "") (Or.inl (own_w hw 70 rfl)) Via.refl e0 P6 (g := (mkF m 1 #[.val (.ref r0), .val (.ref r1), .unset, .unset] [(.ref r0)])) rfl rfl (hb hby own_d28_1)
 refine ownE.go st1 ?_
 refine ownE.go (f' := (mkF m 11 #[.val (.ref r0), .val (.ref r1), .val (.ref lk), .unset] [(.ref lk), (.ref r1)])) (fun t kt => XS.astoreN X1.here hx rfl (hb hby own_d28_4) rfl rfl (l' := #[.val (.ref r0), .val (.ref r1), .val (.ref lk), .unset]) rfl (XS.aloadN X1.here hx rfl (hb hby own_d28_5) rfl rfl (XS.ifnullNo X1.here hx rfl (hb hby own_d28_6) rfl (XS.aloadN X1.here hx rfl (hb hby own_d28_9) rfl rfl (XS.aloadN X1.here hx rfl (hb hby own_d28_10) rfl rfl kt))))) ?_
 obtain ⟨T2, X2, e2, st2⟩ := own_getR X1 hx hZ hown (own_w hw 102 rfl) e1 P7 (g := (mkF m 11 #[.val (.ref r0), .val (.ref r1), .val (.ref lk), .unset] [(.ref lk), (.ref r1)])) rfl rfl (hb hby own_d28_11)
 refine ownE.go st2 ?_
 obtain ⟨_, _, ⟨T3, L3, k3, n3⟩, -, X3, ⟨Lc3, hQ3, l3, y3, z3⟩, st3⟩ := Jvm.LawKit.callS X2 hx (y := own_y22) hown (mvT hZ (own_w hw 103 rfl)) (mvT hZ (own_w hw 104 rfl)) (mvT hZ (own_w hw 28 rfl)) (mvT hZ (own_w hw 105 rfl)) (by decide) (backOf (W := 0) (own_rm15l l Z a0 hw [] r1 nm va ka x vb kb y cs fmt h0 n0 (Nat.le_trans Z0 K0.1) Od hcs hcsn zfm hfm P11 P12 P13 P14 P15 P16 P17 P18 P23 P24) hZ (own_w hw 105 rfl) (own_w hw 28 rfl) (by decide) (by decide)) (g := (mkF m 14 #[.val (.ref r0), .val (.ref r1), .val (.ref lk), .unset] [(.ref nm), (.ref r1)])) rfl (by rw [hml]; rfl) (argsL := [(.ref r1), (.ref nm)]) (rest := []) (lenOf own_pd25 rfl) rfl (Nat.le_of_eq rfl) (hb hby own_d28_14) (fun _ _ => ⟨rfl, e2, (by decide : 0 + 0 ≤ _), (by decide : 0 + 0 ≤ _)⟩)
 dsimp only [Pt.U, Pt.locs, Pt.cells, Pt.slots] at X3 l3 y3 z3 st3 hQ3
 subst l3 y3 z3
 obtain ⟨rfl, N3q, e3⟩ := hQ3
 have N3 := Fr.app N0 N3q
 refine ownE.go st3 ?_
 refine ownE.go (f' := (mkF m 32 #[.val (.ref r0), .val (.ref r1), .val (.ref lk), .val (.int (-1 : Int32))] [(.ref lk)])) (fun t kt => XS.istoreN X3.here hx rfl (hb hby own_d28_17) rfl (l' := #[.val (.ref r0), .val (.ref r1), .val (.ref lk), .val (.int (-1 : Int32))]) rfl (XS.iloadN X3.here hx rfl (hb hby own_d28_18) rfl (XS.ifYes X3.here hx rfl (pc0 := 19) (pc' := 27) rfl (hb hby own_d28_19) rfl (Jvm.Free.XT.i0_ne_t (by decide)) (by decide) (by decide) (XS.iloadN X3.here hx rfl (hb hby own_d28_27) rfl (XS.ifNo X3.here hx rfl (hb hby own_d28_28) rfl (Jvm.Free.XT.i0_ge_f (by decide)) (XS.aloadN X3.here hx rfl (hb hby own_d28_31) rfl rfl kt)))))) ?_
 obtain ⟨T4, X4, e4, st4⟩ := own_getR X3 hx hZ hown (own_w hw 143 rfl) e3 P8 (g := (mkF m 32 #[.val (.ref r0), .val (.ref r1), .val (.ref lk), .val (.int (-1 : Int32))] [(.ref lk)])) rfl rfl (hb hby own_d28_32)
 refine ownE.go st4 ?_
 refine ownE.go (f' := (mkF m 11 #[.val (.ref r0), .val (.ref r1), .val (.ref lc), .val (.int (-1 : Int32))] [(.ref lc), (.ref r1)])) (fun t kt => XS.goto X4.here hx rfl (pc0 := 35) (pc' := 42) rfl (hb hby own_d28_35) (by decide) (by decide) (XS.astoreN X4.here hx rfl (hb hby own_d28_42) rfl rfl (l' := #[.val (.ref r0), .val (.ref r1), .val (.ref lc), .val (.int (-1 : Int32))]) rfl (XS.goto X4.here hx rfl (pc0 := 43) (pc' := 5) rfl (hb hby own_d28_43) (by decide) (by decide) (XS.aloadN X4.here hx rfl (hb hby own_d28_5) rfl rfl (XS.ifnullNo X4.here hx rfl (hb hby own_d28_6) rfl (XS.aloadN X4.here hx rfl (hb hby own_d28_9) rfl rfl (XS.aloadN X4.here hx rfl (hb hby own_d28_10) rfl rfl kt))))))) ?_
 obtain ⟨T5, X5, e5, st5⟩ := own_getR X4 hx hZ hown (own_w hw 102 rfl) e4 P9 (g := (mkF m 11 #[.val (.ref r0), .val (.ref r1), .val (.ref lc), .val (.int (-1 : Int32))] [(.ref lc), (.ref r1)])) rfl rfl (hb hby own_d28_11)
 refine ownE.go st5 ?_
 obtain ⟨_, _, ⟨T6, L6, k6, n6⟩, -, X6, ⟨Lc6, hQ6, l6, y6, z6⟩, st6⟩ := Jvm.LawKit.callS X5 hx (y := own_y22) hown (mvT hZ (own_w hw 103 rfl)) (mvT hZ (own_w hw 104 rfl)) (mvT hZ (own_w hw 28 rfl)) (mvT hZ (own_w hw 105 rfl)) (by decide) (backOf (W := 0) (own_rm15e l Z a0 hw [] r1 nc va ka x vc kc w cs fmt h0 n0 (Nat.le_trans Z0 K0.1) Od hcs hcsn zfm hfm P11 P12 P13 P14 P19 P20 P21 P22 P25) hZ (own_w hw 105 rfl) (own_w hw 28 rfl) (by decide) (by decide)) (g := (mkF m 14 #[.val (.ref r0), .val (.ref r1), .val (.ref lc), .val (.int (-1 : Int32))] [(.ref nc), (.ref r1)])) rfl (by rw [hml]; rfl) (argsL := [(.ref r1), (.ref nc)]) (rest := []) (lenOf own_pd25 rfl) rfl (Nat.le_of_eq rfl) (hb hby own_d28_14) (fun _ _ => ⟨rfl, e5, (by decide : 0 + 0 ≤ _), (by decide : 0 + 0 ≤ _)⟩)
 dsimp only [Pt.U, Pt.locs, Pt.cells, Pt.slots] at X6 l6 y6 z6 st6 hQ6
 subst l6 y6 z6
 obtain ⟨rfl, N6q, e6⟩ := hQ6
 have N6 := Fr.app N3 N6q
 refine ownE.go st6 ?_
 refine ownE.go (f' := (mkF m 23 #[.val (.ref r0), .val (.ref r1), .val (.ref lc), .val (.int (0 : Int32))] [(.ref lc)])) (fun t kt => XS.istoreN X6.here hx rfl (hb hby own_d28_17) rfl (l' := #[.val (.ref r0), .val (.ref r1), .val (.ref lc), .val (.int (0 : Int32))]) rfl (XS.iloadN X6.here hx rfl (hb hby own_d28_18) rfl (XS.ifNo X6.here hx rfl (hb hby own_d28_19) rfl (Jvm.Free.XT.i0_ne_f (by decide)) (XS.aloadN X6.here hx rfl (hb hby own_d28_22) rfl rfl kt)))) ?_
 obtain ⟨T7, X7, e7, st7⟩ := own_getR X6 hx hZ hown (own_w hw 176 rfl) e6 P10 (g := (mkF m 23 #[.val (.ref r0), .val (.ref r1), .val (.ref lc), .val (.int (0 : Int32))] [(.ref lc)])) rfl rfl (hb hby own_d28_23)
 refine ownE.go st7 ?_
 refine ownE.retA X7 hx hlk hret rfl rfl rfl (hb hby own_d28_26) ?_ (by decide) (by decide)
 show own_Q28cl Z r0 r1 va ka x lk nm vb kb y lc nc vc kc w ec cs fmt h0 n0 _ T7.heap _
 rw [e7]
 exact ⟨rfl, N6, rfl⟩
theorem own_d28_38 : decode prog_24_method_4_code 38 = .ok (.aload_n 2, 1) := by decide +kernel
theorem own_d28_39 : decode prog_24_method_4_code 39 = .ok (.getfield 34, 3) := by decide +kernel
theorem own_ef28g (m : MethodId) (x0 : Addr) (x1 : Addr) : entryFrame m #[(.ref x0), (.ref x1)] 4 = mkF m 0 #[.val (.ref x0), .val (.ref x1), .unset, .unset] [] := by first | (simp [entryFrame, mkF, argsToLocals, Value.category]; done) | rfl
def own_Q28g (Z : State) (r0 : Addr) (r1 : Addr) (va : Addr) (ka : ClassId) (x : Int32) (lk : Addr) (nm : Addr) (vb : Addr) (kb : ClassId) (y : Int32) (cs : Int32) (fmt : Value) (h0 : Heap) (n0 : Nat) (v : Option Value) (h : Heap) (L : List Loc) : Prop := v = some .null ∧ Fr n0 L ∧ h = h0
set_option maxRecDepth 65536 in
set_option maxHeartbeats 40000000 in
theorem own_rm28g (l : Launch) (Z : State) (a0 : Array Value) (hw : ∀ d ∈ tables_1, d.before a0 Z = true) (ws : List Jvm.Cond) (r0 : Addr) (r1 : Addr) (va : Addr) (ka : ClassId) (x : Int32) (lk : Addr) (nm : Addr) (vb : Addr) (kb : ClassId) (y : Int32) (cs : Int32) (fmt : Value) (h0 : Heap) (n0 : Nat) (Z0 : n0 ≤ h0.size) (Od : Old Z n0 h0) (hcs : Sta Z Z.heap own_s2 "COMPACT_STRINGS" "Z" (.int cs)) (hcsn : ¬ cs = (0 : Int32)) (zfm : Sta Z Z.heap own_s8 "SIOOBE_FORMATTER" own_s9 fmt) (hfm : fmt.isRef = true) (P5 : Exa Z h0 r0 own_s3) (P6 : Fld Z h0 r0 own_s3 "root" own_s1 (.ref lk)) (P7 : Fld Z h0 lk own_s0 "name" own_s7 (.ref nm)) (P8 : Fld Z h0 lk own_s0 "right" own_s1 .null) (P9 : Exa Z h0 r1 own_s2) (P10 : Fld Z h0 r1 own_s2 "coder" "B" (.int (0 : Int32))) (P11 : Fld Z h0 r1 own_s2 "value" "[B" (.ref va)) (P12 : Arv Z h0 va ka .byte (1 : Int32) [(.int x)] (.int (0 : Int32))) (P13 : Exa Z h0 nm own_s2) (P14 : Fld Z h0 nm own_s2 "coder" "B" (.int (0 : Int32))) (P15 : Fld Z h0 nm own_s2 "value" "[B" (.ref vb)) (P16 : Arv Z h0 vb kb .byte (1 : Int32) [(.int y)] (.int (0 : Int32))) (P17 : ¬ (x &&& (255 : Int32)) = (y &&& (255 : Int32))) (P18 : ¬ (x &&& (255 : Int32)) < (y &&& (255 : Int32))) :
    own_MF l Z own_y23 prog_24_method_4_code 4 (some (.object own_s4)) ws own_R1 #[(.ref r0), (.ref r1)] h0 (own_Q28g Z r0 r1 va ka x lk nm vb kb y cs fmt h0 n0) := by
 refine own_start (plainFor_of_name own_pn5) fun p e s m below meth c s₁ hx hby hret hlk hml hZ hown hnm X0 e0 => ?_
 have N0 := Fr.nil n0
 have K0 : Keep h0 h0 [] := Keep.refl h0 _
 rw [own_ef28g]
 refine ownE.go (f' := (mkF m 1 #[.val (.ref r0), .val (.ref r1), .unset, .unset] [(.ref r0)])) (fun t kt => XS.aloadN X0.here hx rfl (hb hby own_d28_0) rfl rfl kt) ?_
 obtain ⟨T1, X1, e1, st1⟩ := getF X0 hx hZ hown (host := "") (Or.inl (own_w hw 70 rfl)) Via.refl e0 P6 (g := (mkF m 1 #[.val (.ref r0), .val (.ref r1), .unset, .unset] [(.ref r0)])) rfl rfl (hb hby own_d28_1)
 refine ownE.go st1 ?_
 refine ownE.go (f' := (mkF m 11 #[.val (.ref r0), .val (.ref r1), .val (.ref lk), .unset] [(.ref lk), (.ref r1)])) (fun t kt => XS.astoreN X1.here hx rfl (hb hby own_d28_4) rfl rfl (l' := #[.val (.ref r0), .val (.ref r1), .val (.ref lk), .unset]) rfl (XS.aloadN X1.here hx rfl (hb hby own_d28_5) rfl rfl (XS.ifnullNo X1.here hx rfl (hb hby own_d28_6) rfl (XS.aloadN X1.here hx rfl (hb hby own_d28_9) rfl rfl (XS.aloadN X1.here hx rfl (hb hby own_d28_10) rfl rfl kt))))) ?_
 obtain ⟨T2, X2, e2, st2⟩ := own_getR X1 hx hZ hown (own_w hw 102 rfl) e1 P7 (g := (mkF m 11 #[.val (.ref r0), .val (.ref r1), .val (.ref lk), .unset] [(.ref lk), (.ref r1)])) rfl rfl (hb hby own_d28_11)
 refine ownE.go st2 ?_
 obtain ⟨_, _, ⟨T3, L3, k3, n3⟩, -, X3, ⟨Lc3, hQ3, l3, y3, z3⟩, st3⟩ := Jvm.LawKit.callS X2 hx (y := own_y22) hown (mvT hZ (own_w hw 103 rfl)) (mvT hZ (own_w hw 104 rfl)) (mvT hZ (own_w hw 28 rfl)) (mvT hZ (own_w hw 105 rfl)) (by decide) (backOf (W := 0) (own_rm15g l Z a0 hw [] r1 nm va ka x vb kb y cs fmt h0 n0 (Nat.le_trans Z0 K0.1) Od hcs hcsn zfm hfm P9 P10 P11 P12 P13 P14 P15 P16 P17 P18) hZ (own_w hw 105 rfl) (own_w hw 28 rfl) (by decide) (by decide)) (g := (mkF m 14 #[.val (.ref r0), .val (.ref r1), .val (.ref lk), .unset] [(.ref nm), (.ref r1)])) rfl (by rw [hml]; rfl) (argsL := [(.ref r1), (.ref nm)]) (rest := []) (lenOf own_pd25 rfl) rfl (Nat.le_of_eq rfl) (hb hby own_d28_14) (fun _ _ => ⟨rfl, e2, (by decide : 0 + 0 ≤ _), (by decide : 0 + 0 ≤ _)⟩)
 dsimp only [Pt.U, Pt.locs, Pt.cells, Pt.slots] at X3 l3 y3 z3 st3 hQ3
 subst l3 y3 z3
 obtain ⟨rfl, N3q, e3⟩ := hQ3
 have N3 := Fr.app N0 N3q
 refine ownE.go st3 ?_
 refine ownE.go (f' := (mkF m 39 #[.val (.ref r0), .val (.ref r1), .val (.ref lk), .val (.int (1 : Int32))] [(.ref lk)])) (fun t kt => XS.istoreN X3.here hx rfl (hb hby own_d28_17) rfl (l' := #[.val (.ref r0), .val (.ref r1), .val (.ref lk), .val (.int (1 : Int32))]) rfl (XS.iloadN X3.here hx rfl (hb hby own_d28_18) rfl (XS.ifYes X3.here hx rfl (pc0 := 19) (pc' := 27) rfl (hb hby own_d28_19) rfl (Jvm.Free.XT.i0_ne_t (by decide)) (by decide) (by decide) (XS.iloadN X3.here hx rfl (hb hby own_d28_27) rfl (XS.ifYes X3.here hx rfl (pc0 := 28) (pc' := 38) rfl (hb hby own_d28_28) rfl (Jvm.Free.XT.i0_ge_t (by decide)) (by decide) (by decide) (XS.aloadN X3.here hx rfl (hb hby own_d28_38) rfl rfl kt)))))) ?_
 obtain ⟨T4, X4, e4, st4⟩ := own_getR X3 hx hZ hown (own_w hw 138 rfl) e3 P8 (g := (mkF m 39 #[.val (.ref r0), .val (.ref r1), .val (.ref lk), .val (.int (1 : Int32))] [(.ref lk)])) rfl rfl (hb hby own_d28_39)
 refine ownE.go st4 ?_
 refine ownE.go (f' := (mkF m 47 #[.val (.ref r0), .val (.ref r1), .val .null, .val (.int (1 : Int32))] [.null])) (fun t kt => XS.astoreN X4.here hx rfl (hb hby own_d28_42) rfl rfl (l' := #[.val (.ref r0), .val (.ref r1), .val .null, .val (.int (1 : Int32))]) rfl (XS.goto X4.here hx rfl (pc0 := 43) (pc' := 5) rfl (hb hby own_d28_43) (by decide) (by decide) (XS.aloadN X4.here hx rfl (hb hby own_d28_5) rfl rfl (XS.ifnullYes X4.here hx rfl (pc0 := 6) (pc' := 46) rfl (hb hby own_d28_6) rfl (by decide) (by decide) (XS.aconstNull X4.here hx rfl (hb hby own_d28_46) kt))))) ?_
 refine ownE.retA X4 hx hlk hret rfl rfl rfl (hb hby own_d28_47) ?_ (by decide) (by decide)
 show own_Q28g Z r0 r1 va ka x lk nm vb kb y cs fmt h0 n0 _ T4.heap _
 rw [e4]
 exact ⟨rfl, N3, rfl⟩
theorem own_ef28cg (m : MethodId) (x0 : Addr) (x1 : Addr) : entryFrame m #[(.ref x0), (.ref x1)] 4 = mkF m 0 #[.val (.ref x0), .val (.ref x1), .unset, .unset] [] := by first | (simp [entryFrame, mkF, argsToLocals, Value.category]; done) | rfl
def own_Q28cg (Z : State) (r0 : Addr) (r1 : Addr) (va : Addr) (ka : ClassId) (x : Int32) (lk : Addr) (nm : Addr) (vb : Addr) (kb : ClassId) (y : Int32) (lc : Addr) (nc : Addr) (vc : Addr) (kc : ClassId) (w : Int32) (ec : Addr) (cs : Int32) (fmt : Value) (h0 : Heap) (n0 : Nat) (v : Option Value) (h : Heap) (L : List Loc) : Prop := v = some (.ref ec) ∧ Fr n0 L ∧ h = h0
set_option maxRecDepth 65536 in
set_option maxHeartbeats 40000000 in
theorem own_rm28cg (l : Launch) (Z : State) (a0 : Array Value) (hw : ∀ d ∈ tables_1, d.before a0 Z = true) (ws : List Jvm.Cond) (r0 : Addr) (r1 : Addr) (va : Addr) (ka : ClassId) (x : Int32) (lk : Addr) (nm : Addr) (vb : Addr) (kb : ClassId) (y : Int32) (lc : Addr) (nc : Addr) (vc : Addr) (kc : ClassId) (w : Int32) (ec : Addr) (cs : Int32) (fmt : Value) (h0 : Heap) (n0 : Nat) (Z0 : n0 ≤ h0.size) (Od : Old Z n0 h0) (hcs : Sta Z Z.heap own_s2 "COMPACT_STRINGS" "Z" (.int cs)) (hcsn : ¬ cs = (0 : Int32)) (zfm : Sta Z Z.heap own_s8 "SIOOBE_FORMATTER" own_s9 fmt) (hfm : fmt.isRef = true) (P5 : Exa Z h0 r0 own_s3) (P6 : Fld Z h0 r0 own_s3 "root" own_s1 (.ref lk)) (P7 : Fld Z h0 lk own_s0 "name" own_s7 (.ref nm)) (P8 : Fld Z h0 lk own_s0 "right" own_s1 (.ref lc)) (P9 : Fld Z h0 lc own_s0 "name" own_s7 (.ref nc)) (P10 : Fld Z h0 lc own_s0 "entry" own_s5 (.ref ec)) (P11 : Exa Z h0 r1 own_s2) (P12 : Fld Z h0 r1 own_s2 "coder" "B" (.int (0 : Int32))) (P13 : Fld Z h0 r1 own_s2 "value" "[B" (.ref va)) (P14 : Arv Z h0 va ka .byte (1 : Int32) [(.int x)] (.int (0 : Int32))) (P15 : Exa Z h0 nm own_s2) (P16 : Fld Z h0 nm own_s2 "coder" "B" (.int (0 : Int32))) (P17 : Fld Z h0 nm own_s2 "value" "[B" (.ref vb)) (P18 : Arv Z h0 vb kb .byte (1 : Int32) [(.int y)] (.int (0 : Int32))) (P19 : Exa Z h0 nc own_s2) (P20 : Fld Z h0 nc own_s2 "coder" "B" (.int (0 : Int32))) (P21 : Fld Z h0 nc own_s2 "value" "[B" (.ref vc)) (P22 : Arv Z h0 vc kc .byte (1 : Int32) [(.int w)] (.int (0 : Int32))) (P23 : ¬ (x &&& (255 : Int32)) = (y &&& (255 : Int32))) (P24 : ¬ (x &&& (255 : Int32)) < (y &&& (255 : Int32))) (P25 : (x &&& (255 : Int32)) = (w &&& (255 : Int32))) :
    own_MF l Z own_y23 prog_24_method_4_code 4 (some (.object own_s4)) ws own_R1 #[(.ref r0), (.ref r1)] h0 (own_Q28cg Z r0 r1 va ka x lk nm vb kb y lc nc vc kc w ec cs fmt h0 n0) := by
 refine own_start (plainFor_of_name own_pn5) fun p e s m below meth c s₁ hx hby hret hlk hml hZ hown hnm X0 e0 => ?_
 have N0 := Fr.nil n0
 have K0 : Keep h0 h0 [] := Keep.refl h0 _
 rw [own_ef28cg]
 refine ownE.go (f' := (mkF m 1 #[.val (.ref r0), .val (.ref r1), .unset, .unset] [(.ref r0)])) (fun t kt => XS.aloadN X0.here hx rfl (hb hby own_d28_0) rfl rfl kt) ?_
 obtain ⟨T1, X1, e1, st1⟩ := getF X0 hx hZ hown (host := "") (Or.inl (own_w hw 70 rfl)) Via.refl e0 P6 (g := (mkF m 1 #[.val (.ref r0), .val (.ref r1), .unset, .unset] [(.ref r0)])) rfl rfl (hb hby own_d28_1)
 refine ownE.go st1 ?_
 refine ownE.go (f' := (mkF m 11 #[.val (.ref r0), .val (.ref r1), .val (.ref lk), .unset] [(.ref lk), (.ref r1)])) (fun t kt => XS.astoreN X1.here hx rfl (hb hby own_d28_4) rfl rfl (l' := #[.val (.ref r0), .val (.ref r1), .val (.ref lk), .unset]) rfl (XS.aloadN X1.here hx rfl (hb hby own_d28_5) rfl rfl (XS.ifnullNo X1.here hx rfl (hb hby own_d28_6) rfl (XS.aloadN X1.here hx rfl (hb hby own_d28_9) rfl rfl (XS.aloadN X1.here hx rfl (hb hby own_d28_10) rfl rfl kt))))) ?_
 obtain ⟨T2, X2, e2, st2⟩ := own_getR X1 hx hZ hown (own_w hw 102 rfl) e1 P7 (g := (mkF m 11 #[.val (.ref r0), .val (.ref r1), .val (.ref lk), .unset] [(.ref lk), (.ref r1)])) rfl rfl (hb hby own_d28_11)
 refine ownE.go st2 ?_
 obtain ⟨_, _, ⟨T3, L3, k3, n3⟩, -, X3, ⟨Lc3, hQ3, l3, y3, z3⟩, st3⟩ := Jvm.LawKit.callS X2 hx (y := own_y22) hown (mvT hZ (own_w hw 103 rfl)) (mvT hZ (own_w hw 104 rfl)) (mvT hZ (own_w hw 28 rfl)) (mvT hZ (own_w hw 105 rfl)) (by decide) (backOf (W := 0) (own_rm15g l Z a0 hw [] r1 nm va ka x vb kb y cs fmt h0 n0 (Nat.le_trans Z0 K0.1) Od hcs hcsn zfm hfm P11 P12 P13 P14 P15 P16 P17 P18 P23 P24) hZ (own_w hw 105 rfl) (own_w hw 28 rfl) (by decide) (by decide)) (g := (mkF m 14 #[.val (.ref r0), .val (.ref r1), .val (.ref lk), .unset] [(.ref nm), (.ref r1)])) rfl (by rw [hml]; rfl) (argsL := [(.ref r1), (.ref nm)]) (rest := []) (lenOf own_pd25 rfl) rfl (Nat.le_of_eq rfl) (hb hby own_d28_14) (fun _ _ => ⟨rfl, e2, (by decide : 0 + 0 ≤ _), (by decide : 0 + 0 ≤ _)⟩)
 dsimp only [Pt.U, Pt.locs, Pt.cells, Pt.slots] at X3 l3 y3 z3 st3 hQ3
 subst l3 y3 z3
 obtain ⟨rfl, N3q, e3⟩ := hQ3
 have N3 := Fr.app N0 N3q
 refine ownE.go st3 ?_
 refine ownE.go (f' := (mkF m 39 #[.val (.ref r0), .val (.ref r1), .val (.ref lk), .val (.int (1 : Int32))] [(.ref lk)])) (fun t kt => XS.istoreN X3.here hx rfl (hb hby own_d28_17) rfl (l' := #[.val (.ref r0), .val (.ref r1), .val (.ref lk), .val (.int (1 : Int32))]) rfl (XS.iloadN X3.here hx rfl (hb hby own_d28_18) rfl (XS.ifYes X3.here hx rfl (pc0 := 19) (pc' := 27) rfl (hb hby own_d28_19) rfl (Jvm.Free.XT.i0_ne_t (by decide)) (by decide) (by decide) (XS.iloadN X3.here hx rfl (hb hby own_d28_27) rfl (XS.ifYes X3.here hx rfl (pc0 := 28) (pc' := 38) rfl (hb hby own_d28_28) rfl (Jvm.Free.XT.i0_ge_t (by decide)) (by decide) (by decide) (XS.aloadN X3.here hx rfl (hb hby own_d28_38) rfl rfl kt)))))) ?_
 obtain ⟨T4, X4, e4, st4⟩ := own_getR X3 hx hZ hown (own_w hw 138 rfl) e3 P8 (g := (mkF m 39 #[.val (.ref r0), .val (.ref r1), .val (.ref lk), .val (.int (1 : Int32))] [(.ref lk)])) rfl rfl (hb hby own_d28_39)
 refine ownE.go st4 ?_
 refine ownE.go (f' := (mkF m 11 #[.val (.ref r0), .val (.ref r1), .val (.ref lc), .val (.int (1 : Int32))] [(.ref lc), (.ref r1)])) (fun t kt => XS.astoreN X4.here hx rfl (hb hby own_d28_42) rfl rfl (l' := #[.val (.ref r0), .val (.ref r1), .val (.ref lc), .val (.int (1 : Int32))]) rfl (XS.goto X4.here hx rfl (pc0 := 43) (pc' := 5) rfl (hb hby own_d28_43) (by decide) (by decide) (XS.aloadN X4.here hx rfl (hb hby own_d28_5) rfl rfl (XS.ifnullNo X4.here hx rfl (hb hby own_d28_6) rfl (XS.aloadN X4.here hx rfl (hb hby own_d28_9) rfl rfl (XS.aloadN X4.here hx rfl (hb hby own_d28_10) rfl rfl kt)))))) ?_
 obtain ⟨T5, X5, e5, st5⟩ := own_getR X4 hx hZ hown (own_w hw 102 rfl) e4 P9 (g := (mkF m 11 #[.val (.ref r0), .val (.ref r1), .val (.ref lc), .val (.int (1 : Int32))] [(.ref lc), (.ref r1)])) rfl rfl (hb hby own_d28_11)
 refine ownE.go st5 ?_
 obtain ⟨_, _, ⟨T6, L6, k6, n6⟩, -, X6, ⟨Lc6, hQ6, l6, y6, z6⟩, st6⟩ := Jvm.LawKit.callS X5 hx (y := own_y22) hown (mvT hZ (own_w hw 103 rfl)) (mvT hZ (own_w hw 104 rfl)) (mvT hZ (own_w hw 28 rfl)) (mvT hZ (own_w hw 105 rfl)) (by decide) (backOf (W := 0) (own_rm15e l Z a0 hw [] r1 nc va ka x vc kc w cs fmt h0 n0 (Nat.le_trans Z0 K0.1) Od hcs hcsn zfm hfm P11 P12 P13 P14 P19 P20 P21 P22 P25) hZ (own_w hw 105 rfl) (own_w hw 28 rfl) (by decide) (by decide)) (g := (mkF m 14 #[.val (.ref r0), .val (.ref r1), .val (.ref lc), .val (.int (1 : Int32))] [(.ref nc), (.ref r1)])) rfl (by rw [hml]; rfl) (argsL := [(.ref r1), (.ref nc)]) (rest := []) (lenOf own_pd25 rfl) rfl (Nat.le_of_eq rfl) (hb hby own_d28_14) (fun _ _ => ⟨rfl, e5, (by decide : 0 + 0 ≤ _), (by decide : 0 + 0 ≤ _)⟩)
 dsimp only [Pt.U, Pt.locs, Pt.cells, Pt.slots] at X6 l6 y6 z6 st6 hQ6
 subst l6 y6 z6
 obtain ⟨rfl, N6q, e6⟩ := hQ6
 have N6 := Fr.app N3 N6q
 refine ownE.go st6 ?_
 refine ownE.go (f' := (mkF m 23 #[.val (.ref r0), .val (.ref r1), .val (.ref lc), .val (.int (0 : Int32))] [(.ref lc)])) (fun t kt => XS.istoreN X6.here hx rfl (hb hby own_d28_17) rfl (l' := #[.val (.ref r0), .val (.ref r1), .val (.ref lc), .val (.int (0 : Int32))]) rfl (XS.iloadN X6.here hx rfl (hb hby own_d28_18) rfl (XS.ifNo X6.here hx rfl (hb hby own_d28_19) rfl (Jvm.Free.XT.i0_ne_f (by decide)) (XS.aloadN X6.here hx rfl (hb hby own_d28_22) rfl rfl kt)))) ?_
 obtain ⟨T7, X7, e7, st7⟩ := own_getR X6 hx hZ hown (own_w hw 176 rfl) e6 P10 (g := (mkF m 23 #[.val (.ref r0), .val (.ref r1), .val (.ref lc), .val (.int (0 : Int32))] [(.ref lc)])) rfl rfl (hb hby own_d28_23)
 refine ownE.go st7 ?_
 refine ownE.retA X7 hx hlk hret rfl rfl rfl (hb hby own_d28_26) ?_ (by decide) (by decide)
 show own_Q28cg Z r0 r1 va ka x lk nm vb kb y lc nc vc kc w ec cs fmt h0 n0 _ T7.heap _
 rw [e7]
 exact ⟨rfl, N6, rfl⟩
theorem own_d14_0 : decode prog_24_method_12_code 0 = .ok (.aload_n 0, 1) := by decide +kernel
theorem own_d14_1 : decode prog_24_method_12_code 1 = .ok (.ifnonnull 5, 3) := by decide +kernel
theorem own_d14_4 : decode prog_24_method_12_code 4 = .ok (.aload_n 1, 1) := by decide +kernel
theorem own_d14_5 : decode prog_24_method_12_code 5 = .ok (.areturn, 1) := by decide +kernel
theorem own_ef14n (m : MethodId) (x1 : Addr) : entryFrame m #[.null, (.ref x1)] 3 = mkF m 0 #[.val .null, .val (.ref x1), .unset] [] := by first | (simp [entryFrame, mkF, argsToLocals, Value.category]; done) | rfl
def own_Q14n (Z : State) (r1 : Addr) (h0 : Heap) (n0 : Nat) (v : Option Value) (h : Heap) (L : List Loc) : Prop := v = some (.ref r1) ∧ Fr n0 L ∧ h = h0
abbrev own_y24 : MethodName := (⟨"com/example/quayside/quayside/core/Entries", "insert", "(Lcom/example/quayside/quayside/core/Entries$Link;Lcom/example/quayside/quayside/core/Entries$Link;)Lcom/example/quayside/quayside/core/Entries$Link;"⟩ : MethodName)
set_option maxRecDepth 65536 in
set_option maxHeartbeats 40000000 in
theorem own_rm14n (l : Launch) (Z : State) (a0 : Array Value) (hw : ∀ d ∈ tables_1, d.before a0 Z = true) (ws : List Jvm.Cond) (r1 : Addr) (h0 : Heap) (n0 : Nat) (Z0 : n0 ≤ h0.size) :
    own_MF l Z own_y24 prog_24_method_12_code 3 (some (.object own_s0)) ws own_R0 #[.null, (.ref r1)] h0 (own_Q14n Z r1 h0 n0) := by
 refine own_start (plainFor_of_name own_pn5) fun p e s m below meth c s₁ hx hby hret hlk hml hZ hown hnm X0 e0 => ?_
 have N0 := Fr.nil n0
 have K0 : Keep h0 h0 [] := Keep.refl h0 _
 rw [own_ef14n]
 refine ownE.go (f' := (mkF m 5 #[.val .null, .val (.ref r1), .unset] [(.ref r1)])) (fun t kt => XS.aloadN X0.here hx rfl (hb hby own_d14_0) rfl rfl (XS.ifnonnullNo X0.here hx rfl (hb hby own_d14_1) rfl (XS.aloadN X0.here hx rfl (hb hby own_d14_4) rfl rfl kt))) ?_
 refine ownE.retA X0 hx hlk hret rfl rfl rfl (hb hby own_d14_5) ?_ (by decide) (by decide)
 show own_Q14n Z r1 h0 n0 _ s₁.heap _
 rw [e0]
 exact ⟨rfl, N0, rfl⟩
theorem own_d14_6 : decode prog_24_method_12_code 6 = .ok (.aload_n 1, 1) := by decide +kernel
theorem own_d14_7 : decode prog_24_method_12_code 7 = .ok (.getfield 17, 3) := by decide +kernel
theorem own_d14_10 : decode prog_24_method_12_code 10 = .ok (.aload_n 0, 1) := by decide +kernel
theorem own_d14_11 : decode prog_24_method_12_code 11 = .ok (.getfield 17, 3) := by decide +kernel
theorem own_d14_14 : decode prog_24_method_12_code 14 = .ok (.invokestatic 23, 3) := by decide +kernel
theorem own_d14_17 : decode prog_24_method_12_code 17 = .ok (.istore_n 2, 1) := by decide +kernel
theorem own_d14_18 : decode prog_24_method_12_code 18 = .ok (.iload_n 2, 1) := by decide +kernel
theorem own_d14_19 : decode prog_24_method_12_code 19 = .ok (.ifCond .ne 5, 3) := by decide +kernel
theorem own_d14_22 : decode prog_24_method_12_code 22 = .ok (.aload_n 0, 1) := by decide +kernel
theorem own_d14_23 : decode prog_24_method_12_code 23 = .ok (.areturn, 1) := by decide +kernel
theorem own_ef14e (m : MethodId) (x0 : Addr) (x1 : Addr) : entryFrame m #[(.ref x0), (.ref x1)] 3 = mkF m 0 #[.val (.ref x0), .val (.ref x1), .unset] [] := by first | (simp [entryFrame, mkF, argsToLocals, Value.category]; done) | rfl
def own_Q14e (Z : State) (r0 : Addr) (r1 : Addr) (nl : Addr) (va : Addr) (ka : ClassId) (x : Int32) (nm : Addr) (vb : Addr) (kb : ClassId) (y : Int32) (cs : Int32) (fmt : Value) (h0 : Heap) (n0 : Nat) (v : Option Value) (h : Heap) (L : List Loc) : Prop := v = some (.ref r0) ∧ Fr n0 L ∧ h = h0
set_option maxRecDepth 65536 in
set_option maxHeartbeats 40000000 in
theorem own_rm14e (l : Launch) (Z : State) (a0 : Array Value) (hw : ∀ d ∈ tables_1, d.before a0 Z = true) (ws : List Jvm.Cond) (r0 : Addr) (r1 : Addr) (nl : Addr) (va : Addr) (ka : ClassId) (x : Int32) (nm : Addr) (vb : Addr) (kb : ClassId) (y : Int32) (cs : Int32) (fmt : Value) (h0 : Heap) (n0 : Nat) (Z0 : n0 ≤ h0.size) (Od : Old Z n0 h0) (hcs : Sta Z Z.heap own_s2 "COMPACT_STRINGS" "Z" (.int cs)) (hcsn : ¬ cs = (0 : Int32)) (zfm : Sta Z Z.heap own_s8 "SIOOBE_FORMATTER" own_s9 fmt) (hfm : fmt.isRef = true) (P5 : Fld Z h0 r1 own_s0 "name" own_s7 (.ref nl)) (P6 : Exa Z h0 nl own_s2) (P7 : Fld Z h0 nl own_s2 "coder" "B" (.int (0 : Int32))) (P8 : Fld Z h0 nl own_s2 "value" "[B" (.ref va)) (P9 : Arv Z h0 va ka .byte (1 : Int32) [(.int x)] (.int (0 : Int32))) (P10 : Exa Z h0 nm own_s2) (P11 : Fld Z h0 nm own_s2 "coder" "B" (.int (0 : Int32))) (P12 : Fld Z h0 nm own_s2 "value" "[B" (.ref vb)) (P13 : Arv Z h0 vb kb .byte (1 : Int32) [(.int y)] (.int (0 : Int32))) (P14 : Fld Z h0 r0 own_s0 "name" own_s7 (.ref nm)) (P15 : (x &&& (255 : Int32)) = (y &&& (255 : Int32))) :
    own_MF l Z own_y24 prog_24_method_12_code 3 (some (.object own_s0)) ws own_R1 #[(.ref r0), (.ref r1)] h0 (own_Q14e Z r0 r1 nl va ka x nm vb kb y cs fmt h0 n0) := by
 refine own_start (plainFor_of_name own_pn5) fun p e s m below meth c s₁ hx hby hret hlk hml hZ hown hnm X0 e0 => ?_
 have N0 := Fr.nil n0
 have K0 : Keep h0 h0 [] := Keep.refl h0 _
 rw [own_ef14e]
 refine ownE.go (f' := (mkF m 7 #[.val (.ref r0), .val (.ref r1), .unset] [(.ref r1)])) (fun t kt => XS.aloadN X0.here hx rfl (hb hby own_d14_0) rfl rfl (XS.ifnonnullYes X0.here hx rfl (pc0 := 1) (pc' := 6) rfl (hb hby own_d14_1) rfl (by decide) (by decide) (XS.aloadN X0.here hx rfl (hb hby own_d14_6) rfl rfl kt))) ?_
 obtain ⟨T1, X1, e1, st1⟩ := own_getR X0 hx hZ hown (own_w hw 102 rfl) e0 P5 (g := (mkF m 7 #[.val (.ref r0), .val (.ref r1), .unset] [(.ref r1)])) rfl rfl (hb hby own_d14_7)
 refine ownE.go st1 ?_
 refine ownE.go (f' := (mkF m 11 #[.val (.ref r0), .val (.ref r1), .unset] [(.ref r0), (.ref nl)])) (fun t kt => XS.aloadN X1.here hx rfl (hb hby own_d14_10) rfl rfl kt) ?_
 obtain ⟨T2, X2, e2, st2⟩ := own_getR X1 hx hZ hown (own_w hw 102 rfl) e1 P14 (g := (mkF m 11 #[.val (.ref r0), .val (.ref r1), .unset] [(.ref r0), (.ref nl)])) rfl rfl (hb hby own_d14_11)
 refine ownE.go st2 ?_
 obtain ⟨_, _, ⟨T3, L3, k3, n3⟩, -, X3, ⟨Lc3, hQ3, l3, y3, z3⟩, st3⟩ := Jvm.LawKit.callS X2 hx (y := own_y22) hown (mvT hZ (own_w hw 103 rfl)) (mvT hZ (own_w hw 104 rfl)) (mvT hZ (own_w hw 28 rfl)) (mvT hZ (own_w hw 105 rfl)) (by decide) (backOf (W := 0) (own_rm15e l Z a0 hw [] nl nm va ka x vb kb y cs fmt h0 n0 (Nat.le_trans Z0 K0.1) Od hcs hcsn zfm hfm P6 P7 P8 P9 P10 P11 P12 P13 P15) hZ (own_w hw 105 rfl) (own_w hw 28 rfl) (by decide) (by decide)) (g := (mkF m 14 #[.val (.ref r0), .val (.ref r1), .unset] [(.ref nm), (.ref nl)])) rfl (by rw [hml]; rfl) (argsL := [(.ref nl), (.ref nm)]) (rest := []) (lenOf own_pd25 rfl) rfl (Nat.le_of_eq rfl) (hb hby own_d14_14) (fun _ _ => ⟨rfl, e2, (by decide : 0 + 0 ≤ _), (by decide : 0 + 0 ≤ _)⟩)
 dsimp only [Pt.U, Pt.locs, Pt.cells, Pt.slots] at X3 l3 y3 z3 st3 hQ3
 subst l3 y3 z3
 obtain ⟨rfl, N3q, e3⟩ := hQ3
 have N3 := Fr.app N0 N3q
 refine ownE.go st3 ?_
 refine ownE.go (f' := (mkF m 23 #[.val (.ref r0), .val (.ref r1), .val (.int (0 : Int32))] [(.ref r0)])) (fun t kt => XS.istoreN X3.here hx rfl (hb hby own_d14_17) rfl (l' := #[.val (.ref r0), .val (.ref r1), .val (.int (0 : Int32))]) rfl (XS.iloadN X3.here hx rfl (hb hby own_d14_18) rfl (XS.ifNo X3.here hx rfl (hb hby own_d14_19) rfl (Jvm.Free.XT.i0_ne_f (by decide)) (XS.aloadN X3.here hx rfl (hb hby own_d14_22) rfl rfl kt)))) ?_
 refine ownE.retA X3 hx hlk hret rfl rfl rfl (hb hby own_d14_23) ?_ (by decide) (by decide)
 show own_Q14e Z r0 r1 nl va ka x nm vb kb y cs fmt h0 n0 _ T3.heap _
 rw [e3]
 exact ⟨rfl, N3, rfl⟩
theorem own_pd26 : parseMethodDescriptor "(Lcom/example/quayside/quayside/core/Entries$Link;Lcom/example/quayside/quayside/core/Entries$Link;)Lcom/example/quayside/quayside/core/Entries$Link;" = some ⟨[(.object "com/example/quayside/quayside/core/Entries$Link"), (.object "com/example/quayside/quayside/core/Entries$Link")], some (.object "com/example/quayside/quayside/core/Entries$Link")⟩ := by decide +kernel
theorem own_pd27 : parseMethodDescriptor "(Lcom/example/quayside/quayside/core/Entries$Link;)Lcom/example/quayside/quayside/core/Entries$Link;" = some ⟨[(.object "com/example/quayside/quayside/core/Entries$Link")], some (.object "com/example/quayside/quayside/core/Entries$Link")⟩ := by decide +kernel
theorem own_d14_24 : decode prog_24_method_12_code 24 = .ok (.iload_n 2, 1) := by decide +kernel
theorem own_d14_25 : decode prog_24_method_12_code 25 = .ok (.ifCond .ge 18, 3) := by decide +kernel
theorem own_d14_28 : decode prog_24_method_12_code 28 = .ok (.aload_n 0, 1) := by decide +kernel
theorem own_d14_29 : decode prog_24_method_12_code 29 = .ok (.aload_n 0, 1) := by decide +kernel
theorem own_d14_30 : decode prog_24_method_12_code 30 = .ok (.getfield 31, 3) := by decide +kernel
theorem own_d14_33 : decode prog_24_method_12_code 33 = .ok (.aload_n 1, 1) := by decide +kernel
theorem own_d14_34 : decode prog_24_method_12_code 34 = .ok (.invokestatic 47, 3) := by decide +kernel
theorem own_d14_37 : decode prog_24_method_12_code 37 = .ok (.putfield 31, 3) := by decide +kernel
theorem own_d14_40 : decode prog_24_method_12_code 40 = .ok (.goto 15, 3) := by decide +kernel
theorem own_d14_55 : decode prog_24_method_12_code 55 = .ok (.aload_n 0, 1) := by decide +kernel
theorem own_d14_56 : decode prog_24_method_12_code 56 = .ok (.invokestatic 89, 3) := by decide +kernel
theorem own_d14_59 : decode prog_24_method_12_code 59 = .ok (.areturn, 1) := by decide +kernel
theorem own_ef14l (m : MethodId) (x0 : Addr) (x1 : Addr) : entryFrame m #[(.ref x0), (.ref x1)] 3 = mkF m 0 #[.val (.ref x0), .val (.ref x1), .unset] [] := by first | (simp [entryFrame, mkF, argsToLocals, Value.category]; done) | rfl
def own_Q14l (Z : State) (r0 : Addr) (r1 : Addr) (nl : Addr) (va : Addr) (ka : ClassId) (x : Int32) (nm : Addr) (vb : Addr) (kb : ClassId) (y : Int32) (en : Addr) (cs : Int32) (fmt : Value) (h0 : Heap) (n0 : Nat) (v : Option Value) (h : Heap) (L : List Loc) : Prop := v = some (.ref r0) ∧ Fr n0 L ∧ Keep h0 h [r0] ∧ Exa Z h r0 own_s0 ∧ Fld Z h r0 own_s0 "name" own_s7 (.ref nm) ∧ Fld Z h r0 own_s0 "entry" own_s5 (.ref en) ∧ Fld Z h r0 own_s0 "left" own_s1 (.ref r1) ∧ Fld Z h r0 own_s0 "right" own_s1 .null ∧ Fld Z h r0 own_s0 "size" "I" (.int (2 : Int32))
set_option maxRecDepth 65536 in
set_option maxHeartbeats 40000000 in
theorem own_rm14l (l : Launch) (Z : State) (a0 : Array Value) (hw : ∀ d ∈ tables_1, d.before a0 Z = true) (ws : List Jvm.Cond) (r0 : Addr) (r1 : Addr) (nl : Addr) (va : Addr) (ka : ClassId) (x : Int32) (nm : Addr) (vb : Addr) (kb : ClassId) (y : Int32) (en : Addr) (cs : Int32) (fmt : Value) (h0 : Heap) (n0 : Nat) (Z0 : n0 ≤ h0.size) (Od : Old Z n0 h0) (hcs : Sta Z Z.heap own_s2 "COMPACT_STRINGS" "Z" (.int cs)) (hcsn : ¬ cs = (0 : Int32)) (zfm : Sta Z Z.heap own_s8 "SIOOBE_FORMATTER" own_s9 fmt) (hfm : fmt.isRef = true) (zad : Sta Z Z.heap own_s3 "$assertionsDisabled" "Z" (.int (1 : Int32))) (P6 : Fld Z h0 r1 own_s0 "name" own_s7 (.ref nl)) (P7 : Exa Z h0 nl own_s2) (P8 : Fld Z h0 nl own_s2 "coder" "B" (.int (0 : Int32))) (P9 : Fld Z h0 nl own_s2 "value" "[B" (.ref va)) (P10 : Arv Z h0 va ka .byte (1 : Int32) [(.int x)] (.int (0 : Int32))) (P11 : Exa Z h0 nm own_s2) (P12 : Fld Z h0 nm own_s2 "coder" "B" (.int (0 : Int32))) (P13 : Fld Z h0 nm own_s2 "value" "[B" (.ref vb)) (P14 : Arv Z h0 vb kb .byte (1 : Int32) [(.int y)] (.int (0 : Int32))) (P15 : Fld Z h0 r1 own_s0 "size" "I" (.int (1 : Int32))) (P16 : r1 ≠ r0) (P17 : Exa Z h0 r0 own_s0) (P18 : Fld Z h0 r0 own_s0 "name" own_s7 (.ref nm)) (P19 : Fld Z h0 r0 own_s0 "entry" own_s5 (.ref en)) (P20 : Fld Z h0 r0 own_s0 "left" own_s1 .null) (P21 : Fld Z h0 r0 own_s0 "right" own_s1 .null) (P22 : Fld Z h0 r0 own_s0 "size" "I" (.int (1 : Int32))) (P23 : n0 ≤ r0) (P24 : ¬ (x &&& (255 : Int32)) = (y &&& (255 : Int32))) (P25 : (x &&& (255 : Int32)) < (y &&& (255 : Int32))) :
    own_MF l Z own_y24 prog_24_method_12_code 3 (some (.object own_s0)) ws own_R1 #[(.ref r0), (.ref r1)] h0 (own_Q14l Z r0 r1 nl va ka x nm vb kb y en cs fmt h0 n0) := by
 refine own_start (plainFor_of_name own_pn5) fun p e s m below meth c s₁ hx hby hret hlk hml hZ hown hnm X0 e0 => ?_
 have N0 := Fr.nil n0
 have K0 : Keep h0 h0 [r0] := Keep.refl h0 _
 rw [own_ef14l]
 refine ownE.go (f' := (mkF m 7 #[.val (.ref r0), .val (.ref r1), .unset] [(.ref r1)])) (fun t kt => XS.aloadN X0.here hx rfl (hb hby own_d14_0) rfl rfl (XS.ifnonnullYes X0.here hx rfl (pc0 := 1) (pc' := 6) rfl (hb hby own_d14_1) rfl (by decide) (by decide) (XS.aloadN X0.here hx rfl (hb hby own_d14_6) rfl rfl kt))) ?_
 obtain ⟨T1, X1, e1, st1⟩ := own_getR X0 hx hZ hown (own_w hw 102 rfl) e0 P6 (g := (mkF m 7 #[.val (.ref r0), .val (.ref r1), .unset] [(.ref r1)])) rfl rfl (hb hby own_d14_7)
 refine ownE.go st1 ?_
 refine ownE.go (f' := (mkF m 11 #[.val (.ref r0), .val (.ref r1), .unset] [(.ref r0), (.ref nl)])) (fun t kt => XS.aloadN X1.here hx rfl (hb hby own_d14_10) rfl rfl kt) ?_
 obtain ⟨T2, X2, e2, st2⟩ := own_getR X1 hx hZ hown (own_w hw 102 rfl) e1 P18 (g := (mkF m 11 #[.val (.ref r0), .val (.ref r1), .unset] [(.ref r0), (.ref nl)])) rfl rfl (hb hby own_d14_11)
 refine ownE.go st2 ?_
 obtain ⟨_, _, ⟨T3, L3, k3, n3⟩, -, X3, ⟨Lc3, hQ3, l3, y3, z3⟩, st3⟩ := Jvm.LawKit.callS X2 hx (y := own_y22) hown (mvT hZ (own_w hw 103 rfl)) (mvT hZ (own_w hw 104 rfl)) (mvT hZ (own_w hw 28 rfl)) (mvT hZ (own_w hw 105 rfl)) (by decide) (backOf (W := 0) (own_rm15l l Z a0 hw [] nl nm va ka x vb kb y cs fmt h0 n0 (Nat.le_trans Z0 K0.1) Od hcs hcsn zfm hfm P7 P8 P9 P10 P11 P12 P13 P14 P24 P25) hZ (own_w hw 105 rfl) (own_w hw 28 rfl) (by decide) (by decide)) (g := (mkF m 14 #[.val (.ref r0), .val (.ref r1), .unset] [(.ref nm), (.ref nl)])) rfl (by rw [hml]; rfl) (argsL := [(.ref nl), (.ref nm)]) (rest := []) (lenOf own_pd25 rfl) rfl (Nat.le_of_eq rfl) (hb hby own_d14_14) (fun _ _ => ⟨rfl, e2, (by decide : 0 + 0 ≤ _), (by decide : 0 + 0 ≤ _)⟩)
 dsimp only [Pt.U, Pt.locs, Pt.cells, Pt.slots] at X3 l3 y3 z3 st3 hQ3
 subst l3 y3 z3
 obtain ⟨rfl, N3q, e3⟩ := hQ3
 have N3 := Fr.app N0 N3q
 refine ownE.go st3 ?_
 refine ownE.go (f' := (mkF m 30 #[.val (.ref r0), .val (.ref r1), .val (.int (-1 : Int32))] [(.ref r0), (.ref r0)])) (fun t kt => XS.istoreN X3.here hx rfl (hb hby own_d14_17) rfl (l' := #[.val (.ref r0), .val (.ref r1), .val (.int (-1 : Int32))]) rfl (XS.iloadN X3.here hx rfl (hb hby own_d14_18) rfl (XS.ifYes X3.here hx rfl (pc0 := 19) (pc' := 24) rfl (hb hby own_d14_19) rfl (Jvm.Free.XT.i0_ne_t (by decide)) (by decide) (by decide) (XS.iloadN X3.here hx rfl (hb hby own_d14_24) rfl (XS.ifNo X3.here hx rfl (hb hby own_d14_25) rfl (Jvm.Free.XT.i0_ge_f (by decide)) (XS.aloadN X3.here hx rfl (hb hby own_d14_28) rfl rfl (XS.aloadN X3.here hx rfl (hb hby own_d14_29) rfl rfl kt))))))) ?_
 obtain ⟨T4, X4, e4, st4⟩ := own_getR X3 hx hZ hown (own_w hw 143 rfl) e3 P20 (g := (mkF m 30 #[.val (.ref r0), .val (.ref r1), .val (.int (-1 : Int32))] [(.ref r0), (.ref r0)])) rfl rfl (hb hby own_d14_30)
 refine ownE.go st4 ?_
 refine ownE.go (f' := (mkF m 34 #[.val (.ref r0), .val (.ref r1), .val (.int (-1 : Int32))] [(.ref r1), .null, (.ref r0)])) (fun t kt => XS.aloadN X4.here hx rfl (hb hby own_d14_33) rfl rfl kt) ?_
 obtain ⟨_, _, ⟨T5, L5, k5, n5⟩, -, X5, ⟨Lc5, hQ5, l5, y5, z5⟩, st5⟩ := Jvm.LawKit.callS X4 hx (y := own_y24) hown (mvT hZ (own_w hw 98 rfl)) (mvT hZ (own_w hw 99 rfl)) (mvT hZ (own_w hw 28 rfl)) (mvT hZ (own_w hw 100 rfl)) (by decide) (backOf (W := 1) (own_rm14n l Z a0 hw [] r1 h0 n0 (Nat.le_trans Z0 K0.1) ) hZ (own_w hw 100 rfl) (own_w hw 28 rfl) (by decide) (by decide)) (g := (mkF m 34 #[.val (.ref r0), .val (.ref r1), .val (.int (-1 : Int32))] [(.ref r1), .null, (.ref r0)])) rfl (by rw [hml]; rfl) (argsL := [.null, (.ref r1)]) (rest := [(.ref r0)]) (lenOf own_pd26 rfl) rfl (Nat.le_of_eq rfl) (hb hby own_d14_34) (fun _ _ => ⟨rfl, e4, (by decide : 0 + 0 ≤ _), (by decide : 0 + 0 ≤ _)⟩)
 dsimp only [Pt.U, Pt.locs, Pt.cells, Pt.slots] at X5 l5 y5 z5 st5 hQ5
 subst l5 y5 z5
 obtain ⟨rfl, N5q, e5⟩ := hQ5
 have N5 := Fr.app N3 N5q
 refine ownE.go st5 ?_
 obtain ⟨T6, h6, X6, e6, W6, st6⟩ := own_putR X5 hx hZ hown (own_w hw 143 rfl) e5 P20 P17 (own_w hw 144 rfl) (own_w hw 86 rfl) (ty := (.object own_s0)) (by decide) rfl rfl (g := (mkF m 37 #[.val (.ref r0), .val (.ref r1), .val (.int (-1 : Int32))] [(.ref r1), (.ref r0)])) rfl rfl (hb hby own_d14_37)
 have Fw6 : Fld Z h6 r0 own_s0 "left" own_s1 (.ref r1) := P20.same W6
 have q130 := Od.wr W6 P23
 have q131 := P6.other W6 (Or.inl P16)
 have q132 := P7.wr W6
 have q133 := P11.wr W6
 have q134 := P15.other W6 (Or.inl P16)
 have q135 := P17.wr W6
 have q136 := P18.other W6 (Or.inr (slot_ne (Or.inr (own_w hw 95 rfl)) (Or.inl (own_w hw 144 rfl)) (by decide) (t := (.object own_s2)) (t' := (.object own_s0)) (by decide) (by decide)))
 have q137 := P19.other W6 (Or.inr (slot_ne (Or.inr (own_w hw 97 rfl)) (Or.inl (own_w hw 144 rfl)) (by decide) (t := (.object own_s4)) (t' := (.object own_s0)) (by decide) (by decide)))
 have q138 := P21.other W6 (Or.inr (slot_ne (Or.inl (own_w hw 139 rfl)) (Or.inl (own_w hw 144 rfl)) (by decide) (t := (.object own_s0)) (t' := (.object own_s0)) (by decide) (by decide)))
 have q139 := P22.other W6 (Or.inr (slot_ne (Or.inl (own_w hw 93 rfl)) (Or.inl (own_w hw 144 rfl)) (by decide) (t := .int) (t' := (.object own_s0)) (by decide) (by decide)))
 have K6 : Keep h0 h6 [r0] := K0.wr W6 (Or.inl (List.mem_of_getElem? (i := 0) rfl))
 have N6 := Fr.snoc X6 N5 P23
 refine ownE.go st6 ?_
 refine ownE.go (f' := (mkF m 56 #[.val (.ref r0), .val (.ref r1), .val (.int (-1 : Int32))] [(.ref r0)])) (fun t kt => XS.goto X6.here hx rfl (pc0 := 40) (pc' := 55) rfl (hb hby own_d14_40) (by decide) (by decide) (XS.aloadN X6.here hx rfl (hb hby own_d14_55) rfl rfl kt)) ?_
 obtain ⟨_, _, ⟨T7, L7, k7, n7⟩, -, X7, ⟨Lc7, hQ7, l7, y7, z7⟩, st7⟩ := Jvm.LawKit.callS X6 hx (y := own_y12) hown (mvT hZ (own_w hw 140 rfl)) (mvT hZ (own_w hw 141 rfl)) (mvT hZ (own_w hw 28 rfl)) (mvT hZ (own_w hw 142 rfl)) (by decide) (backOf (W := 0) (own_rm23rn l Z a0 hw [] r0 r1 nm en (1 : Int32) h6 n0 (Nat.le_trans Z0 K6.1) q130 zad q135 q136 q137 Fw6 q138 q139 P23 q134 P16) hZ (own_w hw 142 rfl) (own_w hw 28 rfl) (by decide) (by decide)) (g := (mkF m 56 #[.val (.ref r0), .val (.ref r1), .val (.int (-1 : Int32))] [(.ref r0)])) rfl (by rw [hml]; rfl) (argsL := [(.ref r0)]) (rest := []) (lenOf own_pd27 rfl) rfl (Nat.le_of_eq rfl) (hb hby own_d14_56) (fun _ _ => ⟨rfl, e6, (by decide : 0 + 0 ≤ _), (by decide : 0 + 0 ≤ _)⟩)
 dsimp only [Pt.U, Pt.locs, Pt.cells, Pt.slots] at X7 l7 y7 z7 st7 hQ7
 subst l7 y7 z7
 obtain ⟨rfl, N7q, K7q, f7_0, f7_1, f7_2, f7_3, f7_4, f7_5⟩ := hQ7
 have q140 := q130.keep K7q (allS P23 all0)
 have q141 := q131.keep K7q (ninS P16 nin0)
 have q142 := q132.keep K7q
 have q143 := q133.keep K7q
 have q144 := q134.keep K7q (ninS P16 nin0)
 have q145 := q135.keep K7q
 have K7 : Keep h0 T7.heap [r0] := K6.trans K7q (allS (Or.inl (List.mem_of_getElem? (i := 0) rfl)) all0)
 have N7 := Fr.app N6 N7q
 refine ownE.go st7 ?_
 refine ownE.retA X7 hx hlk hret rfl rfl rfl (hb hby own_d14_59) ?_ (by decide) (by decide)
 show own_Q14l Z r0 r1 nl va ka x nm vb kb y en cs fmt h0 n0 _ T7.heap _
 exact ⟨rfl, N7, K7, f7_0, f7_1, f7_2, f7_3, f7_4, f7_5⟩
theorem own_d14_43 : decode prog_24_method_12_code 43 = .ok (.aload_n 0, 1) := by decide +kernel
theorem own_d14_44 : decode prog_24_method_12_code 44 = .ok (.aload_n 0, 1) := by decide +kernel
theorem own_d14_45 : decode prog_24_method_12_code 45 = .ok (.getfield 34, 3) := by decide +kernel
theorem own_d14_48 : decode prog_24_method_12_code 48 = .ok (.aload_n 1, 1) := by decide +kernel
theorem own_d14_49 : decode prog_24_method_12_code 49 = .ok (.invokestatic 47, 3) := by decide +kernel
theorem own_d14_52 : decode prog_24_method_12_code 52 = .ok (.putfield 34, 3) := by decide +kernel
theorem own_ef14g (m : MethodId) (x0 : Addr) (x1 : Addr) : entryFrame m #[(.ref x0), (.ref x1)] 3 = mkF m 0 #[.val (.ref x0), .val (.ref x1), .unset] [] := by first | (simp [entryFrame, mkF, argsToLocals, Value.category]; done) | rfl
def own_Q14g (Z : State) (r0 : Addr) (r1 : Addr) (nl : Addr) (va : Addr) (ka : ClassId) (x : Int32) (nm : Addr) (vb : Addr) (kb : ClassId) (y : Int32) (en : Addr) (cs : Int32) (fmt : Value) (h0 : Heap) (n0 : Nat) (v : Option Value) (h : Heap) (L : List Loc) : Prop := v = some (.ref r0) ∧ Fr n0 L ∧ Keep h0 h [r0] ∧ Exa Z h r0 own_s0 ∧ Fld Z h r0 own_s0 "name" own_s7 (.ref nm) ∧ Fld Z h r0 own_s0 "entry" own_s5 (.ref en) ∧ Fld Z h r0 own_s0 "left" own_s1 .null ∧ Fld Z h r0 own_s0 "right" own_s1 (.ref r1) ∧ Fld Z h r0 own_s0 "size" "I" (.int (2 : Int32))
set_option maxRecDepth 65536 in
set_option maxHeartbeats 40000000 in
theorem own_rm14g (l : Launch) (Z : State) (a0 : Array Value) (hw : ∀ d ∈ tables_1, d.before a0 Z = true) (ws : List Jvm.Cond) (r0 : Addr) (r1 : Addr) (nl : Addr) (va : Addr) (ka : ClassId) (x : Int32) (nm : Addr) (vb : Addr) (kb : ClassId) (y : Int32) (en : Addr) (cs : Int32) (fmt : Value) (h0 : Heap) (n0 : Nat) (Z0 : n0 ≤ h0.size) (Od : Old Z n0 h0) (hcs : Sta Z Z.heap own_s2 "COMPACT_STRINGS" "Z" (.int cs)) (hcsn : ¬ cs = (0 : Int32)) (zfm : Sta Z Z.heap own_s8 "SIOOBE_FORMATTER" own_s9 fmt) (hfm : fmt.isRef = true) (zad : Sta Z Z.heap own_s3 "$assertionsDisabled" "Z" (.int (1 : Int32))) (P6 : Fld Z h0 r1 own_s0 "name" own_s7 (.ref nl)) (P7 : Exa Z h0 nl own_s2) (P8 : Fld Z h0 nl own_s2 "coder" "B" (.int (0 : Int32))) (P9 : Fld Z h0 nl own_s2 "value" "[B" (.ref va)) (P10 : Arv Z h0 va ka .byte (1 : Int32) [(.int x)] (.int (0 : Int32))) (P11 : Exa Z h0 nm own_s2) (P12 : Fld Z h0 nm own_s2 "coder" "B" (.int (0 : Int32))) (P13 : Fld Z h0 nm own_s2 "value" "[B" (.ref vb)) (P14 : Arv Z h0 vb kb .byte (1 : Int32) [(.int y)] (.int (0 : Int32))) (P15 : Fld Z h0 r1 own_s0 "size" "I" (.int (1 : Int32))) (P16 : r1 ≠ r0) (P17 : Exa Z h0 r0 own_s0) (P18 : Fld Z h0 r0 own_s0 "name" own_s7 (.ref nm)) (P19 : Fld Z h0 r0 own_s0 "entry" own_s5 (.ref en)) (P20 : Fld Z h0 r0 own_s0 "left" own_s1 .null) (P21 : Fld Z h0 r0 own_s0 "right" own_s1 .null) (P22 : Fld Z h0 r0 own_s0 "size" "I" (.int (1 : Int32))) (P23 : n0 ≤ r0) (P24 : ¬ (x &&& (255 : Int32)) = (y &&& (255 : Int32))) (P25 : ¬ (x &&& (255 : Int32)) < (y &&& (255 : Int32))) :
    own_MF l Z own_y24 prog_24_method_12_code 3 (some (.object own_s0)) ws own_R1 #[(.ref r0), (.ref r1)] h0 (own_Q14g Z r0 r1 nl va ka x nm vb kb y en cs fmt h0 n0) := by
 refine own_start (plainFor_of_name own_pn5) fun p e s m below meth c s₁ hx hby hret hlk hml hZ hown hnm X0 e0 => ?_
 have N0 := Fr.nil n0
 have K0 : Keep h0 h0 [r0] := Keep.refl h0 _
 rw [own_ef14g]
 refine ownE.go (f' := (mkF m 7 #[.val (.ref r0), .val (.ref r1), .unset] [(.ref r1)])) (fun t kt => XS.aloadN X0.here hx rfl (hb hby own_d14_0) rfl rfl (XS.ifnonnullYes X0.here hx rfl (pc0 := 1) (pc' := 6) rfl (hb hby own_d14_1) rfl (by decide) (by decide) (XS.aloadN X0.here hx rfl (hb hby own_d14_6) rfl rfl kt))) ?_
 obtain ⟨T1, X1, e1, st1⟩ := own_getR X0 hx hZ hown (own_w hw 102 rfl) e0 P6 (g := (mkF m 7 #[.val (.ref r0), .val (.ref r1), .unset] [(.ref r1)])) rfl rfl (hb hby own_d14_7)
 refine ownE.go st1 ?_
 refine ownE.go (f' := (mkF m 11 #[.val (.ref r0), .val (.ref r1), .unset] [(.ref r0), (.ref nl)])) (fun t kt => XS.aloadN X1.here hx rfl (hb hby own_d14_10) rfl rfl kt) ?_
 obtain ⟨T2, X2, e2, st2⟩ := own_getR X1 hx hZ hown (own_w hw 102 rfl) e1 P18 (g := (mkF m 11 #[.val (.ref r0), .val (.ref r1), .unset] [(.ref r0), (.ref nl)])) rfl rfl (hb hby own_d14_11)
 refine ownE.go st2 ?_
 obtain ⟨_, _, ⟨T3, L3, k3, n3⟩, -, X3, ⟨Lc3, hQ3, l3, y3, z3⟩, st3⟩ := Jvm.LawKit.callS X2 hx (y := own_y22) hown (mvT hZ (own_w hw 103 rfl)) (mvT hZ (own_w hw 104 rfl)) (mvT hZ (own_w hw 28 rfl)) (mvT hZ (own_w hw 105 rfl)) (by decide) (backOf (W := 0) (own_rm15g l Z a0 hw [] nl nm va ka x vb kb y cs fmt h0 n0 (Nat.le_trans Z0 K0.1) Od hcs hcsn zfm hfm P7 P8 P9 P10 P11 P12 P13 P14 P24 P25) hZ (own_w hw 105 rfl) (own_w hw 28 rfl) (by decide) (by decide)) (g := (mkF m 14 #[.val (.ref r0), .val (.ref r1), .unset] [(.ref nm), (.ref nl)])) rfl (by rw [hml]; rfl) (argsL := [(.ref nl), (.ref nm)]) (rest := []) (lenOf own_pd25 rfl) rfl (Nat.le_of_eq rfl) (hb hby own_d14_14) (fun _ _ => ⟨rfl, e2, (by decide : 0 + 0 ≤ _), (by decide : 0 + 0 ≤ _)⟩)
 dsimp only [Pt.U, Pt.locs, Pt.cells, Pt.slots] at X3 l3 y3 z3 st3 hQ3
 subst l3 y3 z3
 obtain ⟨rfl, N3q, e3⟩ := hQ3
 have N3 := Fr.app N0 N3q
 refine ownE.go st3 ?_
 refine ownE.go (f' := (mkF m 45 #[.val (.ref r0), .val (.ref r1), .val (.int (1 : Int32))] [(.ref r0), (.ref r0)])) (fun t kt => XS.istoreN X3.here hx rfl (hb hby own_d14_17) rfl (l' := #[.val (.ref r0), .val (.ref r1), .val (.int (1 : Int32))]) rfl (XS.iloadN X3.here hx rfl (hb hby own_d14_18) rfl (XS.ifYes X3.here hx rfl (pc0 := 19) (pc' := 24) rfl (hb hby own_d14_19) rfl (Jvm.Free.XT.i0_ne_t (by decide)) (by decide) (by decide) (XS.iloadN X3.here hx rfl (hb hby own_d14_24) rfl (XS.ifYes X3.here hx rfl (pc0 := 25) (pc' := 43) rfl (hb hby own_d14_25) rfl (Jvm.Free.XT.i0_ge_t (by decide)) (by decide) (by decide) (XS.aloadN X3.here hx rfl (hb hby own_d14_43) rfl rfl (XS.aloadN X3.here hx rfl (hb hby own_d14_44) rfl rfl kt))))))) ?_
 obtain ⟨T4, X4, e4, st4⟩ := own_getR X3 hx hZ hown (own_w hw 138 rfl) e3 P21 (g := (mkF m 45 #[.val (.ref r0), .val (.ref r1), .val (.int (1 : Int32))] [(.ref r0), (.ref r0)])) rfl rfl (hb hby own_d14_45)
 refine ownE.go st4 ?_
 refine ownE.go (f' := (mkF m 49 #[.val (.ref r0), .val (.ref r1), .val (.int (1 : Int32))] [(.ref r1), .null, (.ref r0)])) (fun t kt => XS.aloadN X4.here hx rfl (hb hby own_d14_48) rfl rfl kt) ?_
 obtain ⟨_, _, ⟨T5, L5, k5, n5⟩, -, X5, ⟨Lc5, hQ5, l5, y5, z5⟩, st5⟩ := Jvm.LawKit.callS X4 hx (y := own_y24) hown (mvT hZ (own_w hw 98 rfl)) (mvT hZ (own_w hw 99 rfl)) (mvT hZ (own_w hw 28 rfl)) (mvT hZ (own_w hw 100 rfl)) (by decide) (backOf (W := 1) (own_rm14n l Z a0 hw [] r1 h0 n0 (Nat.le_trans Z0 K0.1) ) hZ (own_w hw 100 rfl) (own_w hw 28 rfl) (by decide) (by decide)) (g := (mkF m 49 #[.val (.ref r0), .val (.ref r1), .val (.int (1 : Int32))] [(.ref r1), .null, (.ref r0)])) rfl (by rw [hml]; rfl) (argsL := [.null, (.ref r1)]) (rest := [(.ref r0)]) (lenOf own_pd26 rfl) rfl (Nat.le_of_eq rfl) (hb hby own_d14_49) (fun _ _ => ⟨rfl, e4, (by decide : 0 + 0 ≤ _), (by decide : 0 + 0 ≤ _)⟩)
 dsimp only [Pt.U, Pt.locs, Pt.cells, Pt.slots] at X5 l5 y5 z5 st5 hQ5
 subst l5 y5 z5
 obtain ⟨rfl, N5q, e5⟩ := hQ5
 have N5 := Fr.app N3 N5q
 refine ownE.go st5 ?_
 obtain ⟨T6, h6, X6, e6, W6, st6⟩ := own_putR X5 hx hZ hown (own_w hw 138 rfl) e5 P21 P17 (own_w hw 139 rfl) (own_w hw 86 rfl) (ty := (.object own_s0)) (by decide) rfl rfl (g := (mkF m 52 #[.val (.ref r0), .val (.ref r1), .val (.int (1 : Int32))] [(.ref r1), (.ref r0)])) rfl rfl (hb hby own_d14_52)
 have Fw6 : Fld Z h6 r0 own_s0 "right" own_s1 (.ref r1) := P21.same W6
 have q146 := Od.wr W6 P23
 have q147 := P6.other W6 (Or.inl P16)
 have q148 := P7.wr W6
 have q149 := P11.wr W6
 have q150 := P15.other W6 (Or.inl P16)
 have q151 := P17.wr W6
 have q152 := P18.other W6 (Or.inr (slot_ne (Or.inr (own_w hw 95 rfl)) (Or.inl (own_w hw 139 rfl)) (by decide) (t := (.object own_s2)) (t' := (.object own_s0)) (by decide) (by decide)))
 have q153 := P19.other W6 (Or.inr (slot_ne (Or.inr (own_w hw 97 rfl)) (Or.inl (own_w hw 139 rfl)) (by decide) (t := (.object own_s4)) (t' := (.object own_s0)) (by decide) (by decide)))
 have q154 := P20.other W6 (Or.inr (slot_ne (Or.inl (own_w hw 144 rfl)) (Or.inl (own_w hw 139 rfl)) (by decide) (t := (.object own_s0)) (t' := (.object own_s0)) (by decide) (by decide)))
 have q155 := P22.other W6 (Or.inr (slot_ne (Or.inl (own_w hw 93 rfl)) (Or.inl (own_w hw 139 rfl)) (by decide) (t := .int) (t' := (.object own_s0)) (by decide) (by decide)))
 have K6 : Keep h0 h6 [r0] := K0.wr W6 (Or.inl (List.mem_of_getElem? (i := 0) rfl))
 have N6 := Fr.snoc X6 N5 P23
 refine ownE.go st6 ?_
 refine ownE.go (f' := (mkF m 56 #[.val (.ref r0), .val (.ref r1), .val (.int (1 : Int32))] [(.ref r0)])) (fun t kt => XS.aloadN X6.here hx rfl (hb hby own_d14_55) rfl rfl kt) ?_
 obtain ⟨_, _, ⟨T7, L7, k7, n7⟩, -, X7, ⟨Lc7, hQ7, l7, y7, z7⟩, st7⟩ := Jvm.LawKit.callS X6 hx (y := own_y12) hown (mvT hZ (own_w hw 140 rfl)) (mvT hZ (own_w hw 141 rfl)) (mvT hZ (own_w hw 28 rfl)) (mvT hZ (own_w hw 142 rfl)) (by decide) (backOf (W := 0) (own_rm23nr l Z a0 hw [] r0 r1 nm en (1 : Int32) h6 n0 (Nat.le_trans Z0 K6.1) q146 zad q151 q152 q153 q154 Fw6 q155 P23 q150 P16) hZ (own_w hw 142 rfl) (own_w hw 28 rfl) (by decide) (by decide)) (g := (mkF m 56 #[.val (.ref r0), .val (.ref r1), .val (.int (1 : Int32))] [(.ref r0)])) rfl (by rw [hml]; rfl) (argsL := [(.ref r0)]) (rest := []) (lenOf own_pd27 rfl) rfl (Nat.le_of_eq rfl) (hb hby own_d14_56) (fun _ _ => ⟨rfl, e6, (by decide : 0 + 0 ≤ _), (by decide : 0 + 0 ≤ _)⟩)
 dsimp only [Pt.U, Pt.locs, Pt.cells, Pt.slots] at X7 l7 y7 z7 st7 hQ7
 subst l7 y7 z7
 obtain ⟨rfl, N7q, K7q, f7_0, f7_1, f7_2, f7_3, f7_4, f7_5⟩ := hQ7
 have q156 := q146.keep K7q (allS P23 all0)
 have q157 := q147.keep K7q (ninS P16 nin0)
 have q158 := q148.keep K7q
 have q159 := q149.keep K7q
 have q160 := q150.keep K7q (ninS P16 nin0)
 have q161 := q151.keep K7q
 have K7 : Keep h0 T7.heap [r0] := K6.trans K7q (allS (Or.inl (List.mem_of_getElem? (i := 0) rfl)) all0)
 have N7 := Fr.app N6 N7q
 refine ownE.go st7 ?_
 refine ownE.retA X7 hx hlk hret rfl rfl rfl (hb hby own_d14_59) ?_ (by decide) (by decide)
 show own_Q14g Z r0 r1 nl va ka x nm vb kb y en cs fmt h0 n0 _ T7.heap _
 exact ⟨rfl, N7, K7, f7_0, f7_1, f7_2, f7_3, f7_4, f7_5⟩
theorem own_d31_0 : decode prog_24_method_13_code 0 = .ok (.aload_n 1, 1) := by decide +kernel
theorem own_d31_1 : decode prog_24_method_13_code 1 = .ok (.aload_n 0, 1) := by decide +kernel
theorem own_d31_2 : decode prog_24_method_13_code 2 = .ok (.getfield 17, 3) := by decide +kernel
theorem own_d31_5 : decode prog_24_method_13_code 5 = .ok (.invokestatic 23, 3) := by decide +kernel
theorem own_d31_8 : decode prog_24_method_13_code 8 = .ok (.istore_n 2, 1) := by decide +kernel
theorem own_d31_9 : decode prog_24_method_13_code 9 = .ok (.iload_n 2, 1) := by decide +kernel
theorem own_d31_10 : decode prog_24_method_13_code 10 = .ok (.ifCond .ge 20, 3) := by decide +kernel
theorem own_d31_30 : decode prog_24_method_13_code 30 = .ok (.iload_n 2, 1) := by decide +kernel
theorem own_d31_31 : decode prog_24_method_13_code 31 = .ok (.ifCond .le 20, 3) := by decide +kernel
theorem own_d31_51 : decode prog_24_method_13_code 51 = .ok (.aload_n 0, 1) := by decide +kernel
theorem own_d31_52 : decode prog_24_method_13_code 52 = .ok (.getfield 31, 3) := by decide +kernel
theorem own_d31_55 : decode prog_24_method_13_code 55 = .ok (.ifnonnull 8, 3) := by decide +kernel
theorem own_d31_58 : decode prog_24_method_13_code 58 = .ok (.aload_n 0, 1) := by decide +kernel
theorem own_d31_59 : decode prog_24_method_13_code 59 = .ok (.getfield 34, 3) := by decide +kernel
theorem own_d31_62 : decode prog_24_method_13_code 62 = .ok (.areturn, 1) := by decide +kernel
theorem own_ef311 (m : MethodId) (x0 : Addr) (x1 : Addr) : entryFrame m #[(.ref x0), (.ref x1)] 4 = mkF m 0 #[.val (.ref x0), .val (.ref x1), .unset, .unset] [] := by first | (simp [entryFrame, mkF, argsToLocals, Value.category]; done) | rfl
def own_Q311 (Z : State) (r0 : Addr) (r1 : Addr) (va : Addr) (ka : ClassId) (x : Int32) (nm : Addr) (vb : Addr) (kb : ClassId) (y : Int32) (cs : Int32) (fmt : Value) (h0 : Heap) (n0 : Nat) (v : Option Value) (h : Heap) (L : List Loc) : Prop := v = some .null ∧ Fr n0 L ∧ h = h0
abbrev own_y25 : MethodName := (⟨"com/example/quayside/quayside/core/Entries", "delete", "(Lcom/example/quayside/quayside/core/Entries$Link;Ljava/lang/String;)Lcom/example/quayside/quayside/core/Entries$Link;"⟩ : MethodName)
set_option maxRecDepth 65536 in
set_option maxHeartbeats 40000000 in
theorem own_rm311 (l : Launch) (Z : State) (a0 : Array Value) (hw : ∀ d ∈ tables_1, d.before a0 Z = true) (ws : List Jvm.Cond) (r0 : Addr) (r1 : Addr) (va : Addr) (ka : ClassId) (x : Int32) (nm : Addr) (vb : Addr) (kb : ClassId) (y : Int32) (cs : Int32) (fmt : Value) (h0 : Heap) (n0 : Nat) (Z0 : n0 ≤ h0.size) (Od : Old Z n0 h0) (hcs : Sta Z Z.heap own_s2 "COMPACT_STRINGS" "Z" (.int cs)) (hcsn : ¬ cs = (0 : Int32)) (zfm : Sta Z Z.heap own_s8 "SIOOBE_FORMATTER" own_s9 fmt) (hfm : fmt.isRef = true) (P5 : Fld Z h0 r0 own_s0 "name" own_s7 (.ref nm)) (P6 : Fld Z h0 r0 own_s0 "left" own_s1 .null) (P7 : Fld Z h0 r0 own_s0 "right" own_s1 .null) (P8 : Exa Z h0 r1 own_s2) (P9 : Fld Z h0 r1 own_s2 "coder" "B" (.int (0 : Int32))) (P10 : Fld Z h0 r1 own_s2 "value" "[B" (.ref va)) (P11 : Arv Z h0 va ka .byte (1 : Int32) [(.int x)] (.int (0 : Int32))) (P12 : Exa Z h0 nm own_s2) (P13 : Fld Z h0 nm own_s2 "coder" "B" (.int (0 : Int32))) (P14 : Fld Z h0 nm own_s2 "value" "[B" (.ref vb)) (P15 : Arv Z h0 vb kb .byte (1 : Int32) [(.int y)] (.int (0 : Int32))) (P16 : (x &&& (255 : Int32)) = (y &&& (255 : Int32))) :
    own_MF l Z own_y25 prog_24_method_13_code 4 (some (.object own_s0)) ws own_R1 #[(.ref r0), (.ref r1)] h0 (own_Q311 Z r0 r1 va ka x nm vb kb y cs fmt h0 n0) := by
 refine own_start (plainFor_of_name own_pn5) fun p e s m below meth c s₁ hx hby hret hlk hml hZ hown hnm X0 e0 => ?_
 have N0 := Fr.nil n0
 have K0 : Keep h0 h0 [] := Keep.refl h0 _
 rw [own_ef311]
 refine ownE.go (f' := (mkF m 2 #[.val (.ref r0), .val (.ref r1), .unset, .unset] [(.ref r0), (.ref r1)])) (fun t kt => XS.aloadN X0.here hx rfl (hb hby own_d31_0) rfl rfl (XS.aloadN X0.here hx rfl (hb hby own_d31_1) rfl rfl kt)) ?_
 obtain ⟨T1, X1, e1, st1⟩ := own_getR X0 hx hZ hown (own_w hw 102 rfl) e0 P5 (g := (mkF m 2 #[.val (.ref r0), .val (.ref r1), .unset, .unset] [(.ref r0), (.ref r1)])) rfl rfl (hb hby own_d31_2)
 refine ownE.go st1 ?_
 obtain ⟨_, _, ⟨T2, L2, k2, n2⟩, -, X2, ⟨Lc2, hQ2, l2, y2, z2⟩, st2⟩ := Jvm.LawKit.callS X1 hx (y := own_y22) hown (mvT hZ (own_w hw 103 rfl)) (mvT hZ (own_w hw 104 rfl)) (mvT hZ (own_w hw 28 rfl)) (mvT hZ (own_w hw 105 rfl)) (by decide) (backOf (W := 0) (own_rm15e l Z a0 hw [] r1 nm va ka x vb kb y cs fmt h0 n0 (Nat.le_trans Z0 K0.1) Od hcs hcsn zfm hfm P8 P9 P10 P11 P12 P13 P14 P15 P16) hZ (own_w hw 105 rfl) (own_w hw 28 rfl) (by decide) (by decide)) (g := (mkF m 5 #[.val (.ref r0), .val (.ref r1), .unset, .unset] [(.ref nm), (.ref r1)])) rfl (by rw [hml]; rfl) (argsL := [(.ref r1), (.ref nm)]) (rest := []) (lenOf own_pd25 rfl) rfl (Nat.le_of_eq rfl) (hb hby own_d31_5) (fun _ _ => ⟨rfl, e1, (by decide : 0 + 0 ≤ _), (by decide : 0 + 0 ≤ _)⟩)
 dsimp only [Pt.U, Pt.locs, Pt.cells, Pt.slots] at X2 l2 y2 z2 st2 hQ2
 subst l2 y2 z2
 obtain ⟨rfl, N2q, e2⟩ := hQ2
 have N2 := Fr.app N0 N2q
 refine ownE.go st2 ?_
 refine ownE.go (f' := (mkF m 52 #[.val (.ref r0), .val (.ref r1), .val (.int (0 : Int32)), .unset] [(.ref r0)])) (fun t kt => XS.istoreN X2.here hx rfl (hb hby own_d31_8) rfl (l' := #[.val (.ref r0), .val (.ref r1), .val (.int (0 : Int32)), .unset]) rfl (XS.iloadN X2.here hx rfl (hb hby own_d31_9) rfl (XS.ifYes X2.here hx rfl (pc0 := 10) (pc' := 30) rfl (hb hby own_d31_10) rfl (Jvm.Free.XT.i0_ge_t (by decide)) (by decide) (by decide) (XS.iloadN X2.here hx rfl (hb hby own_d31_30) rfl (XS.ifYes X2.here hx rfl (pc0 := 31) (pc' := 51) rfl (hb hby own_d31_31) rfl (Jvm.Free.XT.i0_le_t (by decide)) (by decide) (by decide) (XS.aloadN X2.here hx rfl (hb hby own_d31_51) rfl rfl kt)))))) ?_
 obtain ⟨T3, X3, e3, st3⟩ := own_getR X2 hx hZ hown (own_w hw 143 rfl) e2 P6 (g := (mkF m 52 #[.val (.ref r0), .val (.ref r1), .val (.int (0 : Int32)), .unset] [(.ref r0)])) rfl rfl (hb hby own_d31_52)
 refine ownE.go st3 ?_
 refine ownE.go (f' := (mkF m 59 #[.val (.ref r0), .val (.ref r1), .val (.int (0 : Int32)), .unset] [(.ref r0)])) (fun t kt => XS.ifnonnullNo X3.here hx rfl (hb hby own_d31_55) rfl (XS.aloadN X3.here hx rfl (hb hby own_d31_58) rfl rfl kt)) ?_
 obtain ⟨T4, X4, e4, st4⟩ := own_getR X3 hx hZ hown (own_w hw 138 rfl) e3 P7 (g := (mkF m 59 #[.val (.ref r0), .val (.ref r1), .val (.int (0 : Int32)), .unset] [(.ref r0)])) rfl rfl (hb hby own_d31_59)
 refine ownE.go st4 ?_
 refine ownE.retA X4 hx hlk hret rfl rfl rfl (hb hby own_d31_62) ?_ (by decide) (by decide)
 show own_Q311 Z r0 r1 va ka x nm vb kb y cs fmt h0 n0 _ T4.heap _
 rw [e4]
 exact ⟨rfl, N2, rfl⟩
theorem own_ef31rr (m : MethodId) (x0 : Addr) (x1 : Addr) : entryFrame m #[(.ref x0), (.ref x1)] 4 = mkF m 0 #[.val (.ref x0), .val (.ref x1), .unset, .unset] [] := by first | (simp [entryFrame, mkF, argsToLocals, Value.category]; done) | rfl
def own_Q31rr (Z : State) (r0 : Addr) (r1 : Addr) (va : Addr) (ka : ClassId) (x : Int32) (nm : Addr) (vb : Addr) (kb : ClassId) (y : Int32) (lc : Addr) (cs : Int32) (fmt : Value) (h0 : Heap) (n0 : Nat) (v : Option Value) (h : Heap) (L : List Loc) : Prop := v = some (.ref lc) ∧ Fr n0 L ∧ h = h0
set_option maxRecDepth 65536 in
set_option maxHeartbeats 40000000 in
theorem own_rm31rr (l : Launch) (Z : State) (a0 : Array Value) (hw : ∀ d ∈ tables_1, d.before a0 Z = true) (ws : List Jvm.Cond) (r0 : Addr) (r1 : Addr) (va : Addr) (ka : ClassId) (x : Int32) (nm : Addr) (vb : Addr) (kb : ClassId) (y : Int32) (lc : Addr) (cs : Int32) (fmt : Value) (h0 : Heap) (n0 : Nat) (Z0 : n0 ≤ h0.size) (Od : Old Z n0 h0) (hcs : Sta Z Z.heap own_s2 "COMPACT_STRINGS" "Z" (.int cs)) (hcsn : ¬ cs = (0 : Int32)) (zfm : Sta Z Z.heap own_s8 "SIOOBE_FORMATTER" own_s9 fmt) (hfm : fmt.isRef = true) (P5 : Fld Z h0 r0 own_s0 "name" own_s7 (.ref nm)) (P6 : Fld Z h0 r0 own_s0 "left" own_s1 .null) (P7 : Fld Z h0 r0 own_s0 "right" own_s1 (.ref lc)) (P8 : Exa Z h0 r1 own_s2) (P9 : Fld Z h0 r1 own_s2 "coder" "B" (.int (0 : Int32))) (P10 : Fld Z h0 r1 own_s2 "value" "[B" (.ref va)) (P11 : Arv Z h0 va ka .byte (1 : Int32) [(.int x)] (.int (0 : Int32))) (P12 : Exa Z h0 nm own_s2) (P13 : Fld Z h0 nm own_s2 "coder" "B" (.int (0 : Int32))) (P14 : Fld Z h0 nm own_s2 "value" "[B" (.ref vb)) (P15 : Arv Z h0 vb kb .byte (1 : Int32) [(.int y)] (.int (0 : Int32))) (P16 : (x &&& (255 : Int32)) = (y &&& (255 : Int32))) :
    own_MF l Z own_y25 prog_24_method_13_code 4 (some (.object own_s0)) ws own_R1 #[(.ref r0), (.ref r1)] h0 (own_Q31rr Z r0 r1 va ka x nm vb kb y lc cs fmt h0 n0) := by
 refine own_start (plainFor_of_name own_pn5) fun p e s m below meth c s₁ hx hby hret hlk hml hZ hown hnm X0 e0 => ?_
 have N0 := Fr.nil n0
 have K0 : Keep h0 h0 [] := Keep.refl h0 _
 rw [own_ef31rr]
 refine ownE.go (f' := (mkF m 2 #[.val (.ref r0), .val (.ref r1), .unset, .unset] [(.ref r0), (.ref r1)])) (fun t kt => XS.aloadN X0.here hx rfl (hb hby own_d31_0) rfl rfl (XS.aloadN X0.here hx rfl (hb hby own_d31_1) rfl rfl kt)) ?_
 obtain ⟨T1, X1, e1, st1⟩ := own_getR X0 hx hZ hown (own_w hw 102 rfl) e0 P5 (g := (mkF m 2 #[.val (.ref r0), .val (.ref r1), .unset, .unset] [(.ref r0), (.ref r1)])) rfl rfl (hb hby own_d31_2)
 refine ownE.go st1 ?_
 obtain ⟨_, _, ⟨T2, L2, k2, n2⟩, -, X2, ⟨Lc2, hQ2, l2, y2, z2⟩, st2⟩ := Jvm.LawKit.callS X1 hx (y := own_y22) hown (mvT hZ (own_w hw 103 rfl)) (mvT hZ (own_w hw 104 rfl)) (mvT hZ (own_w hw 28 rfl)) (mvT hZ (own_w hw 105 rfl)) (by decide) (backOf (W := 0) (own_rm15e l Z a0 hw [] r1 nm va ka x vb kb y cs fmt h0 n0 (Nat.le_trans Z0 K0.1) Od hcs hcsn zfm hfm P8 P9 P10 P11 P12 P13 P14 P15 P16) hZ (own_w hw 105 rfl) (own_w hw 28 rfl) (by decide) (by decide)) (g := (mkF m 5 #[.val (.ref r0), .val (.ref r1), .unset, .unset] [(.ref nm), (.ref r1)])) rfl (by rw [hml]; rfl) (argsL := [(.ref r1), (.ref nm)]) (rest := []) (lenOf own_pd25 rfl) rfl (Nat.le_of_eq rfl) (hb hby own_d31_5) (fun _ _ => ⟨rfl, e1, (by decide : 0 + 0 ≤ _), (by decide : 0 + 0 ≤ _)⟩)
 dsimp only [Pt.U, Pt.locs, Pt.cells, Pt.slots] at X2 l2 y2 z2 st2 hQ2
 subst l2 y2 z2
 obtain ⟨rfl, N2q, e2⟩ := hQ2
 have N2 := Fr.app N0 N2q
 refine ownE.go st2 ?_
 refine ownE.go (f' := (mkF m 52 #[.val (.ref r0), .val (.ref r1), .val (.int (0 : Int32)), .unset] [(.ref r0)])) (fun t kt => XS.istoreN X2.here hx rfl (hb hby own_d31_8) rfl (l' := #[.val (.ref r0), .val (.ref r1), .val (.int (0 : Int32)), .unset]) rfl (XS.iloadN X2.here hx rfl (hb hby own_d31_9) rfl (XS.ifYes X2.here hx rfl (pc0 := 10) (pc' := 30) rfl (hb hby own_d31_10) rfl (Jvm.Free.XT.i0_ge_t (by decide)) (by decide) (by decide) (XS.iloadN X2.here hx rfl (hb hby own_d31_30) rfl (XS.ifYes X2.here hx rfl (pc0 := 31) (pc' := 51) rfl (hb hby own_d31_31) rfl (Jvm.Free.XT.i0_le_t (by decide)) (by decide) (by decide) (XS.aloadN X2.here hx rfl (hb hby own_d31_51) rfl rfl kt)))))) ?_
 obtain ⟨T3, X3, e3, st3⟩ := own_getR X2 hx hZ hown (own_w hw 143 rfl) e2 P6 (g := (mkF m 52 #[.val (.ref r0), .val (.ref r1), .val (.int (0 : Int32)), .unset] [(.ref r0)])) rfl rfl (hb hby own_d31_52)
 refine ownE.go st3 ?_
 refine ownE.go (f' := (mkF m 59 #[.val (.ref r0), .val (.ref r1), .val (.int (0 : Int32)), .unset] [(.ref r0)])) (fun t kt => XS.ifnonnullNo X3.here hx rfl (hb hby own_d31_55) rfl (XS.aloadN X3.here hx rfl (hb hby own_d31_58) rfl rfl kt)) ?_
 obtain ⟨T4, X4, e4, st4⟩ := own_getR X3 hx hZ hown (own_w hw 138 rfl) e3 P7 (g := (mkF m 59 #[.val (.ref r0), .val (.ref r1), .val (.int (0 : Int32)), .unset] [(.ref r0)])) rfl rfl (hb hby own_d31_59)
 refine ownE.go st4 ?_
 refine ownE.retA X4 hx hlk hret rfl rfl rfl (hb hby own_d31_62) ?_ (by decide) (by decide)
 show own_Q31rr Z r0 r1 va ka x nm vb kb y lc cs fmt h0 n0 _ T4.heap _
 rw [e4]
 exact ⟨rfl, N2, rfl⟩
theorem own_d31_63 : decode prog_24_method_13_code 63 = .ok (.aload_n 0, 1) := by decide +kernel
theorem own_d31_64 : decode prog_24_method_13_code 64 = .ok (.getfield 34, 3) := by decide +kernel
theorem own_d31_67 : decode prog_24_method_13_code 67 = .ok (.ifnonnull 8, 3) := by decide +kernel
theorem own_d31_70 : decode prog_24_method_13_code 70 = .ok (.aload_n 0, 1) := by decide +kernel
theorem own_d31_71 : decode prog_24_method_13_code 71 = .ok (.getfield 31, 3) := by decide +kernel
theorem own_d31_74 : decode prog_24_method_13_code 74 = .ok (.areturn, 1) := by decide +kernel
theorem own_ef31rl (m : MethodId) (x0 : Addr) (x1 : Addr) : entryFrame m #[(.ref x0), (.ref x1)] 4 = mkF m 0 #[.val (.ref x0), .val (.ref x1), .unset, .unset] [] := by first | (simp [entryFrame, mkF, argsToLocals, Value.category]; done) | rfl
def own_Q31rl (Z : State) (r0 : Addr) (r1 : Addr) (va : Addr) (ka : ClassId) (x : Int32) (nm : Addr) (vb : Addr) (kb : ClassId) (y : Int32) (lc : Addr) (cs : Int32) (fmt : Value) (h0 : Heap) (n0 : Nat) (v : Option Value) (h : Heap) (L : List Loc) : Prop := v = some (.ref lc) ∧ Fr n0 L ∧ h = h0
set_option maxRecDepth 65536 in
set_option maxHeartbeats 40000000 in
theorem own_rm31rl (l : Launch) (Z : State) (a0 : Array Value) (hw : ∀ d ∈ tables_1, d.before a0 Z = true) (ws : List Jvm.Cond) (r0 : Addr) (r1 : Addr) (va : Addr) (ka : ClassId) (x : Int32) (nm : Addr) (vb : Addr) (kb : ClassId) (y : Int32) (lc : Addr) (cs : Int32) (fmt : Value) (h0 : Heap) (n0 : Nat) (Z0 : n0 ≤ h0.size) (Od : Old Z n0 h0) (hcs : Sta Z Z.heap own_s2 "COMPACT_STRINGS" "Z" (.int cs)) (hcsn : ¬ cs = (0 : Int32)) (zfm : Sta Z Z.heap own_s8 "SIOOBE_FORMATTER" own_s9 fmt) (hfm : fmt.isRef = true) (P5 : Fld Z h0 r0 own_s0 "name" own_s7 (.ref nm)) (P6 : Fld Z h0 r0 own_s0 "left" own_s1 (.ref lc)) (P7 : Fld Z h0 r0 own_s0 "right" own_s1 .null) (P8 : Exa Z h0 r1 own_s2) (P9 : Fld Z h0 r1 own_s2 "coder" "B" (.int (0 : Int32))) (P10 : Fld Z h0 r1 own_s2 "value" "[B" (.ref va)) (P11 : Arv Z h0 va ka .byte (1 : Int32) [(.int x)] (.int (0 : Int32))) (P12 : Exa Z h0 nm own_s2) (P13 : Fld Z h0 nm own_s2 "coder" "B" (.int (0 : Int32))) (P14 : Fld Z h0 nm own_s2 "value" "[B" (.ref vb)) (P15 : Arv Z h0 vb kb .byte (1 : Int32) [(.int y)] (.int (0 : Int32))) (P16 : (x &&& (255 : Int32)) = (y &&& (255 : Int32))) :
    own_MF l Z own_y25 prog_24_method_13_code 4 (some (.object own_s0)) ws own_R1 #[(.ref r0), (.ref r1)] h0 (own_Q31rl Z r0 r1 va ka x nm vb kb y lc cs fmt h0 n0) := by
 refine own_start (plainFor_of_name own_pn5) fun p e s m below meth c s₁ hx hby hret hlk hml hZ hown hnm X0 e0 => ?_
 have N0 := Fr.nil n0
 have K0 : Keep h0 h0 [] := Keep.refl h0 _
 rw [own_ef31rl]
 refine ownE.go (f' := (mkF m 2 #[.val (.ref r0), .val (.ref r1), .unset, .unset] [(.ref r0), (.ref r1)])) (fun t kt => XS.aloadN X0.here hx rfl (hb hby own_d31_0) rfl rfl (XS.aloadN X0.here hx rfl (hb hby own_d31_1) rfl rfl kt)) ?_
 obtain ⟨T1, X1, e1, st1⟩ := own_getR X0 hx hZ hown (own_w hw 102 rfl) e0 P5 (g := (mkF m 2 #[.val (.ref r0), .val (.ref r1), .unset, .unset] [(.ref r0), (.ref r1)])) rfl rfl (hb hby own_d31_2)
 refine ownE.go st1 ?_
 obtain ⟨_, _, ⟨T2, L2, k2, n2⟩, -, X2, ⟨Lc2, hQ2, l2, y2, z2⟩, st2⟩ := Jvm.LawKit.callS X1 hx (y := own_y22) hown (mvT hZ (own_w hw 103 rfl)) (mvT hZ (own_w hw 104 rfl)) (mvT hZ (own_w hw 28 rfl)) (mvT hZ (own_w hw 105 rfl)) (by decide) (backOf (W := 0) (own_rm15e l Z a0 hw [] r1 nm va ka x vb kb y cs fmt h0 n0 (Nat.le_trans Z0 K0.1) Od hcs hcsn zfm hfm P8 P9 P10 P11 P12 P13 P14 P15 P16) hZ (own_w hw 105 rfl) (own_w hw 28 rfl) (by decide) (by decide)) (g := (mkF m 5 #[.val (.ref r0), .val (.ref r1), .unset, .unset] [(.ref nm), (.ref r1)])) rfl (by rw [hml]; rfl) (argsL := [(.ref r1), (.ref nm)]) (rest := []) (lenOf own_pd25 rfl) rfl (Nat.le_of_eq rfl) (hb hby own_d31_5) (fun _ _ => ⟨rfl, e1, (by decide : 0 + 0 ≤ _), (by decide : 0 + 0 ≤ _)⟩)
 dsimp only [Pt.U, Pt.locs, Pt.cells, Pt.slots] at X2 l2 y2 z2 st2 hQ2
 subst l2 y2 z2
 obtain ⟨rfl, N2q, e2⟩ := hQ2
 have N2 := Fr.app N0 N2q
 refine ownE.go st2 ?_
 refine ownE.go (f' := (mkF m 52 #[.val (.ref r0), .val (.ref r1), .val (.int (0 : Int32)), .unset] [(.ref r0)])) (fun t kt => XS.istoreN X2.here hx rfl (hb hby own_d31_8) rfl (l' := #[.val (.ref r0), .val (.ref r1), .val (.int (0 : Int32)), .unset]) rfl (XS.iloadN X2.here hx rfl (hb hby own_d31_9) rfl (XS.ifYes X2.here hx rfl (pc0 := 10) (pc' := 30) rfl (hb hby own_d31_10) rfl (Jvm.Free.XT.i0_ge_t (by decide)) (by decide) (by decide) (XS.iloadN X2.here hx rfl (hb hby own_d31_30) rfl (XS.ifYes X2.here hx rfl (pc0 := 31) (pc' := 51) rfl (hb hby own_d31_31) rfl (Jvm.Free.XT.i0_le_t (by decide)) (by decide) (by decide) (XS.aloadN X2.here hx rfl (hb hby own_d31_51) rfl rfl kt)))))) ?_
 obtain ⟨T3, X3, e3, st3⟩ := own_getR X2 hx hZ hown (own_w hw 143 rfl) e2 P6 (g := (mkF m 52 #[.val (.ref r0), .val (.ref r1), .val (.int (0 : Int32)), .unset] [(.ref r0)])) rfl rfl (hb hby own_d31_52)
 refine ownE.go st3 ?_
 refine ownE.go (f' := (mkF m 64 #[.val (.ref r0), .val (.ref r1), .val (.int (0 : Int32)), .unset] [(.ref r0)])) (fun t kt => XS.ifnonnullYes X3.here hx rfl (pc0 := 55) (pc' := 63) rfl (hb hby own_d31_55) rfl (by decide) (by decide) (XS.aloadN X3.here hx rfl (hb hby own_d31_63) rfl rfl kt)) ?_
 obtain ⟨T4, X4, e4, st4⟩ := own_getR X3 hx hZ hown (own_w hw 138 rfl) e3 P7 (g := (mkF m 64 #[.val (.ref r0), .val (.ref r1), .val (.int (0 : Int32)), .unset] [(.ref r0)])) rfl rfl (hb hby own_d31_64)
 refine ownE.go st4 ?_
 refine ownE.go (f' := (mkF m 71 #[.val (.ref r0), .val (.ref r1), .val (.int (0 : Int32)), .unset] [(.ref r0)])) (fun t kt => XS.ifnonnullNo X4.here hx rfl (hb hby own_d31_67) rfl (XS.aloadN X4.here hx rfl (hb hby own_d31_70) rfl rfl kt)) ?_
 obtain ⟨T5, X5, e5, st5⟩ := own_getR X4 hx hZ hown (own_w hw 143 rfl) e4 P6 (g := (mkF m 71 #[.val (.ref r0), .val (.ref r1), .val (.int (0 : Int32)), .unset] [(.ref r0)])) rfl rfl (hb hby own_d31_71)
 refine ownE.go st5 ?_
 refine ownE.retA X5 hx hlk hret rfl rfl rfl (hb hby own_d31_74) ?_ (by decide) (by decide)
 show own_Q31rl Z r0 r1 va ka x nm vb kb y lc cs fmt h0 n0 _ T5.heap _
 rw [e5]
 exact ⟨rfl, N2, rfl⟩
theorem own_pd28 : parseMethodDescriptor "(Lcom/example/quayside/quayside/core/Entries$Link;Ljava/lang/String;)Lcom/example/quayside/quayside/core/Entries$Link;" = some ⟨[(.object "com/example/quayside/quayside/core/Entries$Link"), (.object "java/lang/String")], some (.object "com/example/quayside/quayside/core/Entries$Link")⟩ := by decide +kernel
theorem own_d31_13 : decode prog_24_method_13_code 13 = .ok (.aload_n 0, 1) := by decide +kernel
theorem own_d31_14 : decode prog_24_method_13_code 14 = .ok (.aload_n 0, 1) := by decide +kernel
theorem own_d31_15 : decode prog_24_method_13_code 15 = .ok (.getfield 31, 3) := by decide +kernel
theorem own_d31_18 : decode prog_24_method_13_code 18 = .ok (.aload_n 1, 1) := by decide +kernel
theorem own_d31_19 : decode prog_24_method_13_code 19 = .ok (.invokestatic 51, 3) := by decide +kernel
theorem own_d31_22 : decode prog_24_method_13_code 22 = .ok (.putfield 31, 3) := by decide +kernel
theorem own_d31_25 : decode prog_24_method_13_code 25 = .ok (.aload_n 0, 1) := by decide +kernel
theorem own_d31_26 : decode prog_24_method_13_code 26 = .ok (.invokestatic 89, 3) := by decide +kernel
theorem own_d31_29 : decode prog_24_method_13_code 29 = .ok (.areturn, 1) := by decide +kernel
theorem own_ef31cl (m : MethodId) (x0 : Addr) (x1 : Addr) : entryFrame m #[(.ref x0), (.ref x1)] 4 = mkF m 0 #[.val (.ref x0), .val (.ref x1), .unset, .unset] [] := by first | (simp [entryFrame, mkF, argsToLocals, Value.category]; done) | rfl
def own_Q31cl (Z : State) (r0 : Addr) (r1 : Addr) (va : Addr) (ka : ClassId) (x : Int32) (nm : Addr) (vb : Addr) (kb : ClassId) (y : Int32) (lc : Addr) (nc : Addr) (vc : Addr) (kc : ClassId) (w : Int32) (en : Addr) (cs : Int32) (fmt : Value) (h0 : Heap) (n0 : Nat) (v : Option Value) (h : Heap) (L : List Loc) : Prop := v = some (.ref r0) ∧ Fr n0 L ∧ Keep h0 h [r0] ∧ Exa Z h r0 own_s0 ∧ Fld Z h r0 own_s0 "name" own_s7 (.ref nm) ∧ Fld Z h r0 own_s0 "entry" own_s5 (.ref en) ∧ Fld Z h r0 own_s0 "left" own_s1 .null ∧ Fld Z h r0 own_s0 "right" own_s1 .null ∧ Fld Z h r0 own_s0 "size" "I" (.int (1 : Int32))
set_option maxRecDepth 65536 in
set_option maxHeartbeats 40000000 in
theorem own_rm31cl (l : Launch) (Z : State) (a0 : Array Value) (hw : ∀ d ∈ tables_1, d.before a0 Z = true) (ws : List Jvm.Cond) (r0 : Addr) (r1 : Addr) (va : Addr) (ka : ClassId) (x : Int32) (nm : Addr) (vb : Addr) (kb : ClassId) (y : Int32) (lc : Addr) (nc : Addr) (vc : Addr) (kc : ClassId) (w : Int32) (en : Addr) (cs : Int32) (fmt : Value) (h0 : Heap) (n0 : Nat) (Z0 : n0 ≤ h0.size) (Od : Old Z n0 h0) (hcs : Sta Z Z.heap own_s2 "COMPACT_STRINGS" "Z" (.int cs)) (hcsn : ¬ cs = (0 : Int32)) (zfm : Sta Z Z.heap own_s8 "SIOOBE_FORMATTER" own_s9 fmt) (hfm : fmt.isRef = true) (zad : Sta Z Z.heap own_s3 "$assertionsDisabled" "Z" (.int (1 : Int32))) (P6 : Exa Z h0 r0 own_s0) (P7 : Fld Z h0 r0 own_s0 "name" own_s7 (.ref nm)) (P8 : Fld Z h0 r0 own_s0 "entry" own_s5 (.ref en)) (P9 : Fld Z h0 r0 own_s0 "left" own_s1 (.ref lc)) (P10 : Fld Z h0 r0 own_s0 "right" own_s1 .null) (P11 : Fld Z h0 r0 own_s0 "size" "I" (.int (2 : Int32))) (P12 : n0 ≤ r0) (P13 : lc ≠ r0) (P14 : Fld Z h0 lc own_s0 "name" own_s7 (.ref nc)) (P15 : Fld Z h0 lc own_s0 "left" own_s1 .null) (P16 : Fld Z h0 lc own_s0 "right" own_s1 .null) (P17 : Exa Z h0 r1 own_s2) (P18 : Fld Z h0 r1 own_s2 "coder" "B" (.int (0 : Int32))) (P19 : Fld Z h0 r1 own_s2 "value" "[B" (.ref va)) (P20 : Arv Z h0 va ka .byte (1 : Int32) [(.int x)] (.int (0 : Int32))) (P21 : Exa Z h0 nm own_s2) (P22 : Fld Z h0 nm own_s2 "coder" "B" (.int (0 : Int32))) (P23 : Fld Z h0 nm own_s2 "value" "[B" (.ref vb)) (P24 : Arv Z h0 vb kb .byte (1 : Int32) [(.int y)] (.int (0 : Int32))) (P25 : Exa Z h0 nc own_s2) (P26 : Fld Z h0 nc own_s2 "coder" "B" (.int (0 : Int32))) (P27 : Fld Z h0 nc own_s2 "value" "[B" (.ref vc)) (P28 : Arv Z h0 vc kc .byte (1 : Int32) [(.int w)] (.int (0 : Int32))) (P29 : ¬ (x &&& (255 : Int32)) = (y &&& (255 : Int32))) (P30 : (x &&& (255 : Int32)) < (y &&& (255 : Int32))) (P31 : (x &&& (255 : Int32)) = (w &&& (255 : Int32))) :
    own_MF l Z own_y25 prog_24_method_13_code 4 (some (.object own_s0)) ws ({ frames := 5, cells := 0, slots := 0, locals := 74 } : Room) #[(.ref r0), (.ref r1)] h0 (own_Q31cl Z r0 r1 va ka x nm vb kb y lc nc vc kc w en cs fmt h0 n0) := by
 refine own_start (plainFor_of_name own_pn5) fun p e s m below meth c s₁ hx hby hret hlk hml hZ hown hnm X0 e0 => ?_
 have N0 := Fr.nil n0
 have K0 : Keep h0 h0 [r0] := Keep.refl h0 _
 rw [own_ef31cl]
 refine ownE.go (f' := (mkF m 2 #[.val (.ref r0), .val (.ref r1), .unset, .unset] [(.ref r0), (.ref r1)])) (fun t kt => XS.aloadN X0.here hx rfl (hb hby own_d31_0) rfl rfl (XS.aloadN X0.here hx rfl (hb hby own_d31_1) rfl rfl kt)) ?_
 obtain ⟨T1, X1, e1, st1⟩ := own_getR X0 hx hZ hown (own_w hw 102 rfl) e0 P7 (g := (mkF m 2 #[.val (.ref r0), .val (.ref r1), .unset, .unset] [(.ref r0), (.ref r1)])) rfl rfl (hb hby own_d31_2)
 refine ownE.go st1 ?_
 obtain ⟨_, _, ⟨T2, L2, k2, n2⟩, -, X2, ⟨Lc2, hQ2, l2, y2, z2⟩, st2⟩ := Jvm.LawKit.callS X1 hx (y := own_y22) hown (mvT hZ (own_w hw 103 rfl)) (mvT hZ (own_w hw 104 rfl)) (mvT hZ (own_w hw 28 rfl)) (mvT hZ (own_w hw 105 rfl)) (by decide) (backOf (W := 0) (own_rm15l l Z a0 hw [] r1 nm va ka x vb kb y cs fmt h0 n0 (Nat.le_trans Z0 K0.1) Od hcs hcsn zfm hfm P17 P18 P19 P20 P21 P22 P23 P24 P29 P30) hZ (own_w hw 105 rfl) (own_w hw 28 rfl) (by decide) (by decide)) (g := (mkF m 5 #[.val (.ref r0), .val (.ref r1), .unset, .unset] [(.ref nm), (.ref r1)])) rfl (by rw [hml]; rfl) (argsL := [(.ref r1), (.ref nm)]) (rest := []) (lenOf own_pd25 rfl) rfl (Nat.le_of_eq rfl) (hb hby own_d31_5) (fun _ _ => ⟨rfl, e1, (by decide : 0 + 0 ≤ _), (by decide : 0 + 0 ≤ _)⟩)
 dsimp only [Pt.U, Pt.locs, Pt.cells, Pt.slots] at X2 l2 y2 z2 st2 hQ2
 subst l2 y2 z2
 obtain ⟨rfl, N2q, e2⟩ := hQ2
 have N2 := Fr.app N0 N2q
 refine ownE.go st2 ?_
 refine ownE.go (f' := (mkF m 15 #[.val (.ref r0), .val (.ref r1), .val (.int (-1 : Int32)), .unset] [(.ref r0), (.ref r0)])) (fun t kt => XS.istoreN X2.here hx rfl (hb hby own_d31_8) rfl (l' := #[.val (.ref r0), .val (.ref r1), .val (.int (-1 : Int32)), .unset]) rfl (XS.iloadN X2.here hx rfl (hb hby own_d31_9) rfl (XS.ifNo X2.here hx rfl (hb hby own_d31_10) rfl (Jvm.Free.XT.i0_ge_f (by decide)) (XS.aloadN X2.here hx rfl (hb hby own_d31_13) rfl rfl (XS.aloadN X2.here hx rfl (hb hby own_d31_14) rfl rfl kt))))) ?_
 obtain ⟨T3, X3, e3, st3⟩ := own_getR X2 hx hZ hown (own_w hw 143 rfl) e2 P9 (g := (mkF m 15 #[.val (.ref r0), .val (.ref r1), .val (.int (-1 : Int32)), .unset] [(.ref r0), (.ref r0)])) rfl rfl (hb hby own_d31_15)
 refine ownE.go st3 ?_
 refine ownE.go (f' := (mkF m 19 #[.val (.ref r0), .val (.ref r1), .val (.int (-1 : Int32)), .unset] [(.ref r1), (.ref lc), (.ref r0)])) (fun t kt => XS.aloadN X3.here hx rfl (hb hby own_d31_18) rfl rfl kt) ?_
 obtain ⟨_, _, ⟨T4, L4, k4, n4⟩, -, X4, ⟨Lc4, hQ4, l4, y4, z4⟩, st4⟩ := Jvm.LawKit.callS X3 hx (y := own_y25) hown (mvT hZ (own_w hw 177 rfl)) (mvT hZ (own_w hw 178 rfl)) (mvT hZ (own_w hw 28 rfl)) (mvT hZ (own_w hw 179 rfl)) (by decide) (backOf (W := 1) (own_rm311 l Z a0 hw [] lc r1 va ka x nc vc kc w cs fmt h0 n0 (Nat.le_trans Z0 K0.1) Od hcs hcsn zfm hfm P14 P15 P16 P17 P18 P19 P20 P25 P26 P27 P28 P31) hZ (own_w hw 179 rfl) (own_w hw 28 rfl) (by decide) (by decide)) (g := (mkF m 19 #[.val (.ref r0), .val (.ref r1), .val (.int (-1 : Int32)), .unset] [(.ref r1), (.ref lc), (.ref r0)])) rfl (by rw [hml]; rfl) (argsL := [(.ref lc), (.ref r1)]) (rest := [(.ref r0)]) (lenOf own_pd28 rfl) rfl (Nat.le_of_eq rfl) (hb hby own_d31_19) (fun _ _ => ⟨rfl, e3, (by decide : 0 + 0 ≤ _), (by decide : 0 + 0 ≤ _)⟩)
 dsimp only [Pt.U, Pt.locs, Pt.cells, Pt.slots] at X4 l4 y4 z4 st4 hQ4
 subst l4 y4 z4
 obtain ⟨rfl, N4q, e4⟩ := hQ4
 have N4 := Fr.app N2 N4q
 refine ownE.go st4 ?_
 obtain ⟨T5, h5, X5, e5, W5, st5⟩ := own_putR X4 hx hZ hown (own_w hw 143 rfl) e4 P9 P6 (own_w hw 144 rfl) (own_w hw 86 rfl) (ty := (.object own_s0)) (by decide) rfl rfl (g := (mkF m 22 #[.val (.ref r0), .val (.ref r1), .val (.int (-1 : Int32)), .unset] [.null, (.ref r0)])) rfl rfl (hb hby own_d31_22)
 have Fw5 : Fld Z h5 r0 own_s0 "left" own_s1 .null := P9.same W5
 have q162 := Od.wr W5 P12
 have q163 := P6.wr W5
 have q164 := P7.other W5 (Or.inr (slot_ne (Or.inr (own_w hw 95 rfl)) (Or.inl (own_w hw 144 rfl)) (by decide) (t := (.object own_s2)) (t' := (.object own_s0)) (by decide) (by decide)))
 have q165 := P8.other W5 (Or.inr (slot_ne (Or.inr (own_w hw 97 rfl)) (Or.inl (own_w hw 144 rfl)) (by decide) (t := (.object own_s4)) (t' := (.object own_s0)) (by decide) (by decide)))
 have q166 := P10.other W5 (Or.inr (slot_ne (Or.inl (own_w hw 139 rfl)) (Or.inl (own_w hw 144 rfl)) (by decide) (t := (.object own_s0)) (t' := (.object own_s0)) (by decide) (by decide)))
 have q167 := P11.other W5 (Or.inr (slot_ne (Or.inl (own_w hw 93 rfl)) (Or.inl (own_w hw 144 rfl)) (by decide) (t := .int) (t' := (.object own_s0)) (by decide) (by decide)))
 have q168 := P14.other W5 (Or.inl P13)
 have q169 := P15.other W5 (Or.inl P13)
 have q170 := P16.other W5 (Or.inl P13)
 have q171 := P17.wr W5
 have q172 := P21.wr W5
 have q173 := P25.wr W5
 have K5 : Keep h0 h5 [r0] := K0.wr W5 (Or.inl (List.mem_of_getElem? (i := 0) rfl))
 have N5 := Fr.snoc X5 N4 P12
 refine ownE.go st5 ?_
 refine ownE.go (f' := (mkF m 26 #[.val (.ref r0), .val (.ref r1), .val (.int (-1 : Int32)), .unset] [(.ref r0)])) (fun t kt => XS.aloadN X5.here hx rfl (hb hby own_d31_25) rfl rfl kt) ?_
 obtain ⟨_, _, ⟨T6, L6, k6, n6⟩, -, X6, ⟨Lc6, hQ6, l6, y6, z6⟩, st6⟩ := Jvm.LawKit.callS X5 hx (y := own_y12) hown (mvT hZ (own_w hw 140 rfl)) (mvT hZ (own_w hw 141 rfl)) (mvT hZ (own_w hw 28 rfl)) (mvT hZ (own_w hw 142 rfl)) (by decide) (backOf (W := 0) (own_rm23nn l Z a0 hw [] r0 nm en (2 : Int32) h5 n0 (Nat.le_trans Z0 K5.1) q162 zad q163 q164 q165 Fw5 q166 q167 P12) hZ (own_w hw 142 rfl) (own_w hw 28 rfl) (by decide) (by decide)) (g := (mkF m 26 #[.val (.ref r0), .val (.ref r1), .val (.int (-1 : Int32)), .unset] [(.ref r0)])) rfl (by rw [hml]; rfl) (argsL := [(.ref r0)]) (rest := []) (lenOf own_pd27 rfl) rfl (Nat.le_of_eq rfl) (hb hby own_d31_26) (fun _ _ => ⟨rfl, e5, (by decide : 0 + 0 ≤ _), (by decide : 0 + 0 ≤ _)⟩)
 dsimp only [Pt.U, Pt.locs, Pt.cells, Pt.slots] at X6 l6 y6 z6 st6 hQ6
 subst l6 y6 z6
 obtain ⟨rfl, N6q, K6q, f6_0, f6_1, f6_2, f6_3, f6_4, f6_5⟩ := hQ6
 have q174 := q162.keep K6q (allS P12 all0)
 have q175 := q163.keep K6q
 have q176 := q168.keep K6q (ninS P13 nin0)
 have q177 := q169.keep K6q (ninS P13 nin0)
 have q178 := q170.keep K6q (ninS P13 nin0)
 have q179 := q171.keep K6q
 have q180 := q172.keep K6q
 have q181 := q173.keep K6q
 have K6 : Keep h0 T6.heap [r0] := K5.trans K6q (allS (Or.inl (List.mem_of_getElem? (i := 0) rfl)) all0)
 have N6 := Fr.app N5 N6q
 refine ownE.go st6 ?_
 refine ownE.retA X6 hx hlk hret rfl rfl rfl (hb hby own_d31_29) ?_ (by decide) (by decide)
 show own_Q31cl Z r0 r1 va ka x nm vb kb y lc nc vc kc w en cs fmt h0 n0 _ T6.heap _
 exact ⟨rfl, N6, K6, f6_0, f6_1, f6_2, f6_3, f6_4, f6_5⟩
theorem own_d31_34 : decode prog_24_method_13_code 34 = .ok (.aload_n 0, 1) := by decide +kernel
theorem own_d31_35 : decode prog_24_method_13_code 35 = .ok (.aload_n 0, 1) := by decide +kernel
theorem own_d31_36 : decode prog_24_method_13_code 36 = .ok (.getfield 34, 3) := by decide +kernel
theorem own_d31_39 : decode prog_24_method_13_code 39 = .ok (.aload_n 1, 1) := by decide +kernel
theorem own_d31_40 : decode prog_24_method_13_code 40 = .ok (.invokestatic 51, 3) := by decide +kernel
theorem own_d31_43 : decode prog_24_method_13_code 43 = .ok (.putfield 34, 3) := by decide +kernel
theorem own_d31_46 : decode prog_24_method_13_code 46 = .ok (.aload_n 0, 1) := by decide +kernel
theorem own_d31_47 : decode prog_24_method_13_code 47 = .ok (.invokestatic 89, 3) := by decide +kernel
theorem own_d31_50 : decode prog_24_method_13_code 50 = .ok (.areturn, 1) := by decide +kernel
theorem own_ef31cg (m : MethodId) (x0 : Addr) (x1 : Addr) : entryFrame m #[(.ref x0), (.ref x1)] 4 = mkF m 0 #[.val (.ref x0), .val (.ref x1), .unset, .unset] [] := by first | (simp [entryFrame, mkF, argsToLocals, Value.category]; done) | rfl
def own_Q31cg (Z : State) (r0 : Addr) (r1 : Addr) (va : Addr) (ka : ClassId) (x : Int32) (nm : Addr) (vb : Addr) (kb : ClassId) (y : Int32) (lc : Addr) (nc : Addr) (vc : Addr) (kc : ClassId) (w : Int32) (en : Addr) (cs : Int32) (fmt : Value) (h0 : Heap) (n0 : Nat) (v : Option Value) (h : Heap) (L : List Loc) : Prop := v = some (.ref r0) ∧ Fr n0 L ∧ Keep h0 h [r0] ∧ Exa Z h r0 own_s0 ∧ Fld Z h r0 own_s0 "name" own_s7 (.ref nm) ∧ Fld Z h r0 own_s0 "entry" own_s5 (.ref en) ∧ Fld Z h r0 own_s0 "left" own_s1 .null ∧ Fld Z h r0 own_s0 "right" own_s1 .null ∧ Fld Z h r0 own_s0 "size" "I" (.int (1 : Int32))
set_option maxRecDepth 65536 in
set_option maxHeartbeats 40000000 in
theorem own_rm31cg (l : Launch) (Z : State) (a0 : Array Value) (hw : ∀ d ∈ tables_1, d.before a0 Z = true) (ws : List Jvm.Cond) (r0 : Addr) (r1 : Addr) (va : Addr) (ka : ClassId) (x : Int32) (nm : Addr) (vb : Addr) (kb : ClassId) (y : Int32) (lc : Addr) (nc : Addr) (vc : Addr) (kc : ClassId) (w : Int32) (en : Addr) (cs : Int32) (fmt : Value) (h0 : Heap) (n0 : Nat) (Z0 : n0 ≤ h0.size) (Od : Old Z n0 h0) (hcs : Sta Z Z.heap own_s2 "COMPACT_STRINGS" "Z" (.int cs)) (hcsn : ¬ cs = (0 : Int32)) (zfm : Sta Z Z.heap own_s8 "SIOOBE_FORMATTER" own_s9 fmt) (hfm : fmt.isRef = true) (zad : Sta Z Z.heap own_s3 "$assertionsDisabled" "Z" (.int (1 : Int32))) (P6 : Exa Z h0 r0 own_s0) (P7 : Fld Z h0 r0 own_s0 "name" own_s7 (.ref nm)) (P8 : Fld Z h0 r0 own_s0 "entry" own_s5 (.ref en)) (P9 : Fld Z h0 r0 own_s0 "left" own_s1 .null) (P10 : Fld Z h0 r0 own_s0 "right" own_s1 (.ref lc)) (P11 : Fld Z h0 r0 own_s0 "size" "I" (.int (2 : Int32))) (P12 : n0 ≤ r0) (P13 : lc ≠ r0) (P14 : Fld Z h0 lc own_s0 "name" own_s7 (.ref nc)) (P15 : Fld Z h0 lc own_s0 "left" own_s1 .null) (P16 : Fld Z h0 lc own_s0 "right" own_s1 .null) (P17 : Exa Z h0 r1 own_s2) (P18 : Fld Z h0 r1 own_s2 "coder" "B" (.int (0 : Int32))) (P19 : Fld Z h0 r1 own_s2 "value" "[B" (.ref va)) (P20 : Arv Z h0 va ka .byte (1 : Int32) [(.int x)] (.int (0 : Int32))) (P21 : Exa Z h0 nm own_s2) (P22 : Fld Z h0 nm own_s2 "coder" "B" (.int (0 : Int32))) (P23 : Fld Z h0 nm own_s2 "value" "[B" (.ref vb)) (P24 : Arv Z h0 vb kb .byte (1 : Int32) [(.int y)] (.int (0 : Int32))) (P25 : Exa Z h0 nc own_s2) (P26 : Fld Z h0 nc own_s2 "coder" "B" (.int (0 : Int32))) (P27 : Fld Z h0 nc own_s2 "value" "[B" (.ref vc)) (P28 : Arv Z h0 vc kc .byte (1 : Int32) [(.int w)] (.int (0 : Int32))) (P29 : ¬ (x &&& (255 : Int32)) = (y &&& (255 : Int32))) (P30 : ¬ (x &&& (255 : Int32)) < (y &&& (255 : Int32))) (P31 : (x &&& (255 : Int32)) = (w &&& (255 : Int32))) :
    own_MF l Z own_y25 prog_24_method_13_code 4 (some (.object own_s0)) ws ({ frames := 5, cells := 0, slots := 0, locals := 74 } : Room) #[(.ref r0), (.ref r1)] h0 (own_Q31cg Z r0 r1 va ka x nm vb kb y lc nc vc kc w en cs fmt h0 n0) := by
 refine own_start (plainFor_of_name own_pn5) fun p e s m below meth c s₁ hx hby hret hlk hml hZ hown hnm X0 e0 => ?_
 have N0 := Fr.nil n0
 have K0 : Keep h0 h0 [r0] := Keep.refl h0 _
 rw [own_ef31cg]
 refine ownE.go (f' := (mkF m 2 #[.val (.ref r0), .val (.ref r1), .unset, .unset] [(.ref r0), (.ref r1)])) (fun t kt => XS.aloadN X0.here hx rfl (hb hby own_d31_0) rfl rfl (XS.aloadN X0.here hx rfl (hb hby own_d31_1) rfl rfl kt)) ?_
 obtain ⟨T1, X1, e1, st1⟩ := own_getR X0 hx hZ hown (own_w hw 102 rfl) e0 P7 (g := (mkF m 2 #[.val (.ref r0), .val (.ref r1), .unset, .unset] [(.ref r0), (.ref r1)])) rfl rfl (hb hby own_d31_2)
 refine ownE.go st1 ?_
 obtain ⟨_, _, ⟨T2, L2, k2, n2⟩, -, X2, ⟨Lc2, hQ2, l2, y2, z2⟩, st2⟩ := Jvm.LawKit.callS X1 hx (y := own_y22) hown (mvT hZ (own_w hw 103 rfl)) (mvT hZ (own_w hw 104 rfl)) (mvT hZ (own_w hw 28 rfl)) (mvT hZ (own_w hw 105 rfl)) (by decide) (backOf (W := 0) (own_rm15g l Z a0 hw [] r1 nm va ka x vb kb y cs fmt h0 n0 (Nat.le_trans Z0 K0.1) Od hcs hcsn zfm hfm P17 P18 P19 P20 P21 P22 P23 P24 P29 P30) hZ (own_w hw 105 rfl) (own_w hw 28 rfl) (by decide) (by decide)) (g := (mkF m 5 #[.val (.ref r0), .val (.ref r1), .unset, .unset] [(.ref nm), (.ref r1)])) rfl (by rw [hml]; rfl) (argsL := [(.ref r1), (.ref nm)]) (rest := []) (lenOf own_pd25 rfl) rfl (Nat.le_of_eq rfl) (hb hby own_d31_5) (fun _ _ => ⟨rfl, e1, (by decide : 0 + 0 ≤ _), (by decide : 0 + 0 ≤ _)⟩)
 dsimp only [Pt.U, Pt.locs, Pt.cells, Pt.slots] at X2 l2 y2 z2 st2 hQ2
 subst l2 y2 z2
 obtain ⟨rfl, N2q, e2⟩ := hQ2
 have N2 := Fr.app N0 N2q
 refine ownE.go st2 ?_
 refine ownE.go (f' := (mkF m 36 #[.val (.ref r0), .val (.ref r1), .val (.int (1 : Int32)), .unset] [(.ref r0), (.ref r0)])) (fun t kt => XS.istoreN X2.here hx rfl (hb hby own_d31_8) rfl (l' := #[.val (.ref r0), .val (.ref r1), .val (.int (1 : Int32)), .unset]) rfl (XS.iloadN X2.here hx rfl (hb hby own_d31_9) rfl (XS.ifYes X2.here hx rfl (pc0 := 10) (pc' := 30) rfl (hb hby own_d31_10) rfl (Jvm.Free.XT.i0_ge_t (by decide)) (by decide) (by decide) (XS.iloadN X2.here hx rfl (hb hby own_d31_30) rfl (XS.ifNo X2.here hx rfl (hb hby own_d31_31) rfl (Jvm.Free.XT.i0_le_f (by decide)) (XS.aloadN X2.here hx rfl (hb hby own_d31_34) rfl rfl (XS.aloadN X2.here hx rfl (hb hby own_d31_35) rfl rfl kt))))))) ?_
 obtain ⟨T3, X3, e3, st3⟩ := own_getR X2 hx hZ hown (own_w hw 138 rfl) e2 P10 (g := (mkF m 36 #[.val (.ref r0), .val (.ref r1), .val (.int (1 : Int32)), .unset] [(.ref r0), (.ref r0)])) rfl rfl (hb hby own_d31_36)
 refine ownE.go st3 ?_
 refine ownE.go (f' := (mkF m 40 #[.val (.ref r0), .val (.ref r1), .val (.int (1 : Int32)), .unset] [(.ref r1), (.ref lc), (.ref r0)])) (fun t kt => XS.aloadN X3.here hx rfl (hb hby own_d31_39) rfl rfl kt) ?_
 obtain ⟨_, _, ⟨T4, L4, k4, n4⟩, -, X4, ⟨Lc4, hQ4, l4, y4, z4⟩, st4⟩ := Jvm.LawKit.callS X3 hx (y := own_y25) hown (mvT hZ (own_w hw 177 rfl)) (mvT hZ (own_w hw 178 rfl)) (mvT hZ (own_w hw 28 rfl)) (mvT hZ (own_w hw 179 rfl)) (by decide) (backOf (W := 1) (own_rm311 l Z a0 hw [] lc r1 va ka x nc vc kc w cs fmt h0 n0 (Nat.le_trans Z0 K0.1) Od hcs hcsn zfm hfm P14 P15 P16 P17 P18 P19 P20 P25 P26 P27 P28 P31) hZ (own_w hw 179 rfl) (own_w hw 28 rfl) (by decide) (by decide)) (g := (mkF m 40 #[.val (.ref r0), .val (.ref r1), .val (.int (1 : Int32)), .unset] [(.ref r1), (.ref lc), (.ref r0)])) rfl (by rw [hml]; rfl) (argsL := [(.ref lc), (.ref r1)]) (rest := [(.ref r0)]) (lenOf own_pd28 rfl) rfl (Nat.le_of_eq rfl) (hb hby own_d31_40) (fun _ _ => ⟨rfl, e3, (by decide : 0 + 0 ≤ _), (by decide : 0 + 0 ≤ _)⟩)
 dsimp only [Pt.U, Pt.locs, Pt.cells, Pt.slots] at X4 l4 y4 z4 st4 hQ4
 subst l4 y4 z4
 obtain ⟨rfl, N4q, e4⟩ := hQ4
 have N4 := Fr.app N2 N4q
 refine ownE.go st4 ?_
 obtain ⟨T5, h5, X5, e5, W5, st5⟩ := own_putR X4 hx hZ hown (own_w hw 138 rfl) e4 P10 P6 (own_w hw 139 rfl) (own_w hw 86 rfl) (ty := (.object own_s0)) (by decide) rfl rfl (g := (mkF m 43 #[.val (.ref r0), .val (.ref r1), .val (.int (1 : Int32)), .unset] [.null, (.ref r0)])) rfl rfl (hb hby own_d31_43)
 have Fw5 : Fld Z h5 r0 own_s0 "right" own_s1 .null := P10.same W5
 have q182 := Od.wr W5 P12
 have q183 := P6.wr W5
 have q184 := P7.other W5 (Or.inr (slot_ne (Or.inr (own_w hw 95 rfl)) (Or.inl (own_w hw 139 rfl)) (by decide) (t := (.object own_s2)) (t' := (.object own_s0)) (by decide) (by decide)))
 have q185 := P8.other W5 (Or.inr (slot_ne (Or.inr (own_w hw 97 rfl)) (Or.inl (own_w hw 139 rfl)) (by decide) (t := (.object own_s4)) (t' := (.object own_s0)) (by decide) (by decide)))
 have q186 := P9.other W5 (Or.inr (slot_ne (Or.inl (own_w hw 144 rfl)) (Or.inl (own_w hw 139 rfl)) (by decide) (t := (.object own_s0)) (t' := (.object own_s0)) (by decide) (by decide)))
 have q187 := P11.other W5 (Or.inr (slot_ne (Or.inl (own_w hw 93 rfl)) (Or.inl (own_w hw 139 rfl)) (by decide) (t := .int) (t' := (.object own_s0)) (by decide) (by decide)))
 have q188 := P14.other W5 (Or.inl P13)
 have q189 := P15.other W5 (Or.inl P13)
 have q190 := P16.other W5 (Or.inl P13)
 have q191 := P17.wr W5
 have q192 := P21.wr W5
 have q193 := P25.wr W5
 have K5 : Keep h0 h5 [r0] := K0.wr W5 (Or.inl (List.mem_of_getElem? (i := 0) rfl))
 have N5 := Fr.snoc X5 N4 P12
 refine ownE.go st5 ?_
 refine ownE.go (f' := (mkF m 47 #[.val (.ref r0), .val (.ref r1), .val (.int (1 : Int32)), .unset] [(.ref r0)])) (fun t kt => XS.aloadN X5.here hx rfl (hb hby own_d31_46) rfl rfl kt) ?_
 obtain ⟨_, _, ⟨T6, L6, k6, n6⟩, -, X6, ⟨Lc6, hQ6, l6, y6, z6⟩, st6⟩ := Jvm.LawKit.callS X5 hx (y := own_y12) hown (mvT hZ (own_w hw 140 rfl)) (mvT hZ (own_w hw 141 rfl)) (mvT hZ (own_w hw 28 rfl)) (mvT hZ (own_w hw 142 rfl)) (by decide) (backOf (W := 0) (own_rm23nn l Z a0 hw [] r0 nm en (2 : Int32) h5 n0 (Nat.le_trans Z0 K5.1) q182 zad q183 q184 q185 q186 Fw5 q187 P12) hZ (own_w hw 142 rfl) (own_w hw 28 rfl) (by decide) (by decide)) (g := (mkF m 47 #[.val (.ref r0), .val (.ref r1), .val (.int (1 : Int32)), .unset] [(.ref r0)])) rfl (by rw [hml]; rfl) (argsL := [(.ref r0)]) (rest := []) (lenOf own_pd27 rfl) rfl (Nat.le_of_eq rfl) (hb hby own_d31_47) (fun _ _ => ⟨rfl, e5, (by decide : 0 + 0 ≤ _), (by decide : 0 + 0 ≤ _)⟩)
 dsimp only [Pt.U, Pt.locs, Pt.cells, Pt.slots] at X6 l6 y6 z6 st6 hQ6
 subst l6 y6 z6
 obtain ⟨rfl, N6q, K6q, f6_0, f6_1, f6_2, f6_3, f6_4, f6_5⟩ := hQ6
 have q194 := q182.keep K6q (allS P12 all0)
 have q195 := q183.keep K6q
 have q196 := q188.keep K6q (ninS P13 nin0)
 have q197 := q189.keep K6q (ninS P13 nin0)
 have q198 := q190.keep K6q (ninS P13 nin0)
 have q199 := q191.keep K6q
 have q200 := q192.keep K6q
 have q201 := q193.keep K6q
 have K6 : Keep h0 T6.heap [r0] := K5.trans K6q (allS (Or.inl (List.mem_of_getElem? (i := 0) rfl)) all0)
 have N6 := Fr.app N5 N6q
 refine ownE.go st6 ?_
 refine ownE.retA X6 hx hlk hret rfl rfl rfl (hb hby own_d31_50) ?_ (by decide) (by decide)
 show own_Q31cg Z r0 r1 va ka x nm vb kb y lc nc vc kc w en cs fmt h0 n0 _ T6.heap _
 exact ⟨rfl, N6, K6, f6_0, f6_1, f6_2, f6_3, f6_4, f6_5⟩
theorem own_d11_0 : decode prog_24_method_2_code 0 = .ok (.aload_n 0, 1) := by decide +kernel
theorem own_d11_1 : decode prog_24_method_2_code 1 = .ok (.getfield 7, 3) := by decide +kernel
theorem own_d11_4 : decode prog_24_method_2_code 4 = .ok (.invokestatic 13, 3) := by decide +kernel
theorem own_d11_7 : decode prog_24_method_2_code 7 = .ok (.ireturn, 1) := by decide +kernel
theorem own_ef110 (m : MethodId) (x0 : Addr) : entryFrame m #[(.ref x0)] 1 = mkF m 0 #[.val (.ref x0)] [] := by first | (simp [entryFrame, mkF, argsToLocals, Value.category]; done) | rfl
def own_Q110 (Z : State) (r0 : Addr) (h0 : Heap) (n0 : Nat) (v : Option Value) (h : Heap) (L : List Loc) : Prop := v = some (.int (0 : Int32)) ∧ Fr n0 L ∧ h = h0
abbrev own_y26 : MethodName := (⟨"com/example/quayside/quayside/core/Entries", "size", "()I"⟩ : MethodName)
set_option maxRecDepth 65536 in
set_option maxHeartbeats 40000000 in
theorem own_rm110 (l : Launch) (Z : State) (a0 : Array Value) (hw : ∀ d ∈ tables_1, d.before a0 Z = true) (ws : List Jvm.Cond) (r0 : Addr) (h0 : Heap) (n0 : Nat) (Z0 : n0 ≤ h0.size) (P0 : Exa Z h0 r0 own_s3) (P1 : Fld Z h0 r0 own_s3 "root" own_s1 .null) :
    own_MF l Z own_y26 prog_24_method_2_code 1 (some .int) ws own_R2 #[(.ref r0)] h0 (own_Q110 Z r0 h0 n0) := by
 refine own_start (plainFor_of_name own_pn5) fun p e s m below meth c s₁ hx hby hret hlk hml hZ hown hnm X0 e0 => ?_
 have N0 := Fr.nil n0
 have K0 : Keep h0 h0 [] := Keep.refl h0 _
 rw [own_ef110]
 refine ownE.go (f' := (mkF m 1 #[.val (.ref r0)] [(.ref r0)])) (fun t kt => XS.aloadN X0.here hx rfl (hb hby own_d11_0) rfl rfl kt) ?_
 obtain ⟨T1, X1, e1, st1⟩ := getF X0 hx hZ hown (host := "") (Or.inl (own_w hw 70 rfl)) Via.refl e0 P1 (g := (mkF m 1 #[.val (.ref r0)] [(.ref r0)])) rfl rfl (hb hby own_d11_1)
 refine ownE.go st1 ?_
 obtain ⟨_, _, ⟨T2, L2, k2, n2⟩, -, X2, ⟨Lc2, hQ2, l2, y2, z2⟩, st2⟩ := Jvm.LawKit.callS X1 hx (y := own_y8) hown (mvT hZ (own_w hw 82 rfl)) (mvT hZ (own_w hw 83 rfl)) (mvT hZ (own_w hw 28 rfl)) (mvT hZ (own_w hw 84 rfl)) (by decide) (backOf (W := 0) (own_rm12n l Z a0 hw []  h0 n0 (Nat.le_trans Z0 K0.1) ) hZ (own_w hw 84 rfl) (own_w hw 28 rfl) (by decide) (by decide)) (g := (mkF m 4 #[.val (.ref r0)] [.null])) rfl (by rw [hml]; rfl) (argsL := [.null]) (rest := []) (lenOf own_pd10 rfl) rfl (Nat.le_of_eq rfl) (hb hby own_d11_4) (fun _ _ => ⟨rfl, e1, (by decide : 0 + 0 ≤ _), (by decide : 0 + 0 ≤ _)⟩)
 dsimp only [Pt.U, Pt.locs, Pt.cells, Pt.slots] at X2 l2 y2 z2 st2 hQ2
 subst l2 y2 z2
 obtain ⟨rfl, N2q, e2⟩ := hQ2
 have N2 := Fr.app N0 N2q
 refine ownE.go st2 ?_
 refine ownE.retI X2 hx hlk hret (hb hby own_d11_7) ?_ (by decide) (by decide)
 show own_Q110 Z r0 h0 n0 _ T2.heap _
 rw [e2]
 exact ⟨rfl, N2, rfl⟩
theorem own_ef111 (m : MethodId) (x0 : Addr) : entryFrame m #[(.ref x0)] 1 = mkF m 0 #[.val (.ref x0)] [] := by first | (simp [entryFrame, mkF, argsToLocals, Value.category]; done) | rfl
def own_Q111 (Z : State) (r0 : Addr) (lk : Addr) (h0 : Heap) (n0 : Nat) (v : Option Value) (h : Heap) (L : List Loc) : Prop := v = some (.int (1 : Int32)) ∧ Fr n0 L ∧ h = h0
set_option maxRecDepth 65536 in
set_option maxHeartbeats 40000000 in
theorem own_rm111 (l : Launch) (Z : State) (a0 : Array Value) (hw : ∀ d ∈ tables_1, d.before a0 Z = true) (ws : List Jvm.Cond) (r0 : Addr) (lk : Addr) (h0 : Heap) (n0 : Nat) (Z0 : n0 ≤ h0.size) (P0 : Exa Z h0 r0 own_s3) (P1 : Fld Z h0 r0 own_s3 "root" own_s1 (.ref lk)) (P2 : Fld Z h0 lk own_s0 "size" "I" (.int (1 : Int32))) :
    own_MF l Z own_y26 prog_24_method_2_code 1 (some .int) ws own_R2 #[(.ref r0)] h0 (own_Q111 Z r0 lk h0 n0) := by
 refine own_start (plainFor_of_name own_pn5) fun p e s m below meth c s₁ hx hby hret hlk hml hZ hown hnm X0 e0 => ?_
 have N0 := Fr.nil n0
 have K0 : Keep h0 h0 [] := Keep.refl h0 _
 rw [own_ef111]
 refine ownE.go (f' := (mkF m 1 #[.val (.ref r0)] [(.ref r0)])) (fun t kt => XS.aloadN X0.here hx rfl (hb hby own_d11_0) rfl rfl kt) ?_
 obtain ⟨T1, X1, e1, st1⟩ := getF X0 hx hZ hown (host := "") (Or.inl (own_w hw 70 rfl)) Via.refl e0 P1 (g := (mkF m 1 #[.val (.ref r0)] [(.ref r0)])) rfl rfl (hb hby own_d11_1)
 refine ownE.go st1 ?_
 obtain ⟨_, _, ⟨T2, L2, k2, n2⟩, -, X2, ⟨Lc2, hQ2, l2, y2, z2⟩, st2⟩ := Jvm.LawKit.callS X1 hx (y := own_y8) hown (mvT hZ (own_w hw 82 rfl)) (mvT hZ (own_w hw 83 rfl)) (mvT hZ (own_w hw 28 rfl)) (mvT hZ (own_w hw 84 rfl)) (by decide) (backOf (W := 0) (own_rm12r1 l Z a0 hw [] lk h0 n0 (Nat.le_trans Z0 K0.1) P2) hZ (own_w hw 84 rfl) (own_w hw 28 rfl) (by decide) (by decide)) (g := (mkF m 4 #[.val (.ref r0)] [(.ref lk)])) rfl (by rw [hml]; rfl) (argsL := [(.ref lk)]) (rest := []) (lenOf own_pd10 rfl) rfl (Nat.le_of_eq rfl) (hb hby own_d11_4) (fun _ _ => ⟨rfl, e1, (by decide : 0 + 0 ≤ _), (by decide : 0 + 0 ≤ _)⟩)
 dsimp only [Pt.U, Pt.locs, Pt.cells, Pt.slots] at X2 l2 y2 z2 st2 hQ2
 subst l2 y2 z2
 obtain ⟨rfl, N2q, e2⟩ := hQ2
 have N2 := Fr.app N0 N2q
 refine ownE.go st2 ?_
 refine ownE.retI X2 hx hlk hret (hb hby own_d11_7) ?_ (by decide) (by decide)
 show own_Q111 Z r0 lk h0 n0 _ T2.heap _
 rw [e2]
 exact ⟨rfl, N2, rfl⟩
theorem own_ef112 (m : MethodId) (x0 : Addr) : entryFrame m #[(.ref x0)] 1 = mkF m 0 #[.val (.ref x0)] [] := by first | (simp [entryFrame, mkF, argsToLocals, Value.category]; done) | rfl
def own_Q112 (Z : State) (r0 : Addr) (lk : Addr) (h0 : Heap) (n0 : Nat) (v : Option Value) (h : Heap) (L : List Loc) : Prop := v = some (.int (2 : Int32)) ∧ Fr n0 L ∧ h = h0
set_option maxRecDepth 65536 in
set_option maxHeartbeats 40000000 in
theorem own_rm112 (l : Launch) (Z : State) (a0 : Array Value) (hw : ∀ d ∈ tables_1, d.before a0 Z = true) (ws : List Jvm.Cond) (r0 : Addr) (lk : Addr) (h0 : Heap) (n0 : Nat) (Z0 : n0 ≤ h0.size) (P0 : Exa Z h0 r0 own_s3) (P1 : Fld Z h0 r0 own_s3 "root" own_s1 (.ref lk)) (P2 : Fld Z h0 lk own_s0 "size" "I" (.int (2 : Int32))) :
    own_MF l Z own_y26 prog_24_method_2_code 1 (some .int) ws own_R2 #[(.ref r0)] h0 (own_Q112 Z r0 lk h0 n0) := by
 refine own_start (plainFor_of_name own_pn5) fun p e s m below meth c s₁ hx hby hret hlk hml hZ hown hnm X0 e0 => ?_
 have N0 := Fr.nil n0
 have K0 : Keep h0 h0 [] := Keep.refl h0 _
 rw [own_ef112]
 refine ownE.go (f' := (mkF m 1 #[.val (.ref r0)] [(.ref r0)])) (fun t kt => XS.aloadN X0.here hx rfl (hb hby own_d11_0) rfl rfl kt) ?_
 obtain ⟨T1, X1, e1, st1⟩ := getF X0 hx hZ hown (host := "") (Or.inl (own_w hw 70 rfl)) Via.refl e0 P1 (g := (mkF m 1 #[.val (.ref r0)] [(.ref r0)])) rfl rfl (hb hby own_d11_1)
 refine ownE.go st1 ?_
 obtain ⟨_, _, ⟨T2, L2, k2, n2⟩, -, X2, ⟨Lc2, hQ2, l2, y2, z2⟩, st2⟩ := Jvm.LawKit.callS X1 hx (y := own_y8) hown (mvT hZ (own_w hw 82 rfl)) (mvT hZ (own_w hw 83 rfl)) (mvT hZ (own_w hw 28 rfl)) (mvT hZ (own_w hw 84 rfl)) (by decide) (backOf (W := 0) (own_rm12r2 l Z a0 hw [] lk h0 n0 (Nat.le_trans Z0 K0.1) P2) hZ (own_w hw 84 rfl) (own_w hw 28 rfl) (by decide) (by decide)) (g := (mkF m 4 #[.val (.ref r0)] [(.ref lk)])) rfl (by rw [hml]; rfl) (argsL := [(.ref lk)]) (rest := []) (lenOf own_pd10 rfl) rfl (Nat.le_of_eq rfl) (hb hby own_d11_4) (fun _ _ => ⟨rfl, e1, (by decide : 0 + 0 ≤ _), (by decide : 0 + 0 ≤ _)⟩)
 dsimp only [Pt.U, Pt.locs, Pt.cells, Pt.slots] at X2 l2 y2 z2 st2 hQ2
 subst l2 y2 z2
 obtain ⟨rfl, N2q, e2⟩ := hQ2
 have N2 := Fr.app N0 N2q
 refine ownE.go st2 ?_
 refine ownE.retI X2 hx hlk hret (hb hby own_d11_7) ?_ (by decide) (by decide)
 show own_Q112 Z r0 lk h0 n0 _ T2.heap _
 rw [e2]
 exact ⟨rfl, N2, rfl⟩
theorem own_d9_0 : decode prog_24_method_3_code 0 = .ok (.aload_n 0, 1) := by decide +kernel
theorem own_d9_1 : decode prog_24_method_3_code 1 = .ok (.getfield 7, 3) := by decide +kernel
theorem own_d9_4 : decode prog_24_method_3_code 4 = .ok (.ifnonnull 7, 3) := by decide +kernel
theorem own_d9_7 : decode prog_24_method_3_code 7 = .ok (.iconst 1, 1) := by decide +kernel
theorem own_d9_8 : decode prog_24_method_3_code 8 = .ok (.goto 4, 3) := by decide +kernel
theorem own_d9_12 : decode prog_24_method_3_code 12 = .ok (.ireturn, 1) := by decide +kernel
theorem own_ef90 (m : MethodId) (x0 : Addr) : entryFrame m #[(.ref x0)] 1 = mkF m 0 #[.val (.ref x0)] [] := by first | (simp [entryFrame, mkF, argsToLocals, Value.category]; done) | rfl
def own_Q90 (Z : State) (r0 : Addr) (h0 : Heap) (n0 : Nat) (v : Option Value) (h : Heap) (L : List Loc) : Prop := v = some (.int (1 : Int32)) ∧ Fr n0 L ∧ h = h0
abbrev own_y27 : MethodName := (⟨"com/example/quayside/quayside/core/Entries", "isEmpty", "()Z"⟩ : MethodName)
set_option maxRecDepth 65536 in
set_option maxHeartbeats 40000000 in
theorem own_rm90 (l : Launch) (Z : State) (a0 : Array Value) (hw : ∀ d ∈ tables_1, d.before a0 Z = true) (ws : List Jvm.Cond) (r0 : Addr) (h0 : Heap) (n0 : Nat) (Z0 : n0 ≤ h0.size) (P0 : Exa Z h0 r0 own_s3) (P1 : Fld Z h0 r0 own_s3 "root" own_s1 .null) :
    own_MF l Z own_y27 prog_24_method_3_code 1 (some .boolean) ws own_R0 #[(.ref r0)] h0 (own_Q90 Z r0 h0 n0) := by
 refine own_start (plainFor_of_name own_pn5) fun p e s m below meth c s₁ hx hby hret hlk hml hZ hown hnm X0 e0 => ?_
 have N0 := Fr.nil n0
 have K0 : Keep h0 h0 [] := Keep.refl h0 _
 rw [own_ef90]
 refine ownE.go (f' := (mkF m 1 #[.val (.ref r0)] [(.ref r0)])) (fun t kt => XS.aloadN X0.here hx rfl (hb hby own_d9_0) rfl rfl kt) ?_
 obtain ⟨T1, X1, e1, st1⟩ := getF X0 hx hZ hown (host := "") (Or.inl (own_w hw 70 rfl)) Via.refl e0 P1 (g := (mkF m 1 #[.val (.ref r0)] [(.ref r0)])) rfl rfl (hb hby own_d9_1)
 refine ownE.go st1 ?_
 refine ownE.go (f' := (mkF m 12 #[.val (.ref r0)] [(.int (1 : Int32))])) (fun t kt => XS.ifnonnullNo X1.here hx rfl (hb hby own_d9_4) rfl (XS.iconst X1.here hx rfl (hb hby own_d9_7) (XS.goto X1.here hx rfl (pc0 := 8) (pc' := 12) rfl (hb hby own_d9_8) (by decide) (by decide) kt))) ?_
 refine ownE.retN X1 hx hlk (t := .boolean) hret (by simp) (hb hby own_d9_12) ?_ (by decide) (by decide)
 show own_Q90 Z r0 h0 n0 _ T1.heap _
 rw [e1]
 exact ⟨rfl, N0, rfl⟩
theorem own_d9_11 : decode prog_24_method_3_code 11 = .ok (.iconst 0, 1) := by decide +kernel
theorem own_ef91 (m : MethodId) (x0 : Addr) : entryFrame m #[(.ref x0)] 1 = mkF m 0 #[.val (.ref x0)] [] := by first | (simp [entryFrame, mkF, argsToLocals, Value.category]; done) | rfl
def own_Q91 (Z : State) (r0 : Addr) (lk : Addr) (h0 : Heap) (n0 : Nat) (v : Option Value) (h : Heap) (L : List Loc) : Prop := v = some (.int (0 : Int32)) ∧ Fr n0 L ∧ h = h0
set_option maxRecDepth 65536 in
set_option maxHeartbeats 40000000 in
theorem own_rm91 (l : Launch) (Z : State) (a0 : Array Value) (hw : ∀ d ∈ tables_1, d.before a0 Z = true) (ws : List Jvm.Cond) (r0 : Addr) (lk : Addr) (h0 : Heap) (n0 : Nat) (Z0 : n0 ≤ h0.size) (P0 : Exa Z h0 r0 own_s3) (P1 : Fld Z h0 r0 own_s3 "root" own_s1 (.ref lk)) :
    own_MF l Z own_y27 prog_24_method_3_code 1 (some .boolean) ws own_R0 #[(.ref r0)] h0 (own_Q91 Z r0 lk h0 n0) := by
 refine own_start (plainFor_of_name own_pn5) fun p e s m below meth c s₁ hx hby hret hlk hml hZ hown hnm X0 e0 => ?_
 have N0 := Fr.nil n0
 have K0 : Keep h0 h0 [] := Keep.refl h0 _
 rw [own_ef91]
 refine ownE.go (f' := (mkF m 1 #[.val (.ref r0)] [(.ref r0)])) (fun t kt => XS.aloadN X0.here hx rfl (hb hby own_d9_0) rfl rfl kt) ?_
 obtain ⟨T1, X1, e1, st1⟩ := getF X0 hx hZ hown (host := "") (Or.inl (own_w hw 70 rfl)) Via.refl e0 P1 (g := (mkF m 1 #[.val (.ref r0)] [(.ref r0)])) rfl rfl (hb hby own_d9_1)
 refine ownE.go st1 ?_
 refine ownE.go (f' := (mkF m 12 #[.val (.ref r0)] [(.int (0 : Int32))])) (fun t kt => XS.ifnonnullYes X1.here hx rfl (pc0 := 4) (pc' := 11) rfl (hb hby own_d9_4) rfl (by decide) (by decide) (XS.iconst X1.here hx rfl (hb hby own_d9_11) kt)) ?_
 refine ownE.retN X1 hx hlk (t := .boolean) hret (by simp) (hb hby own_d9_12) ?_ (by decide) (by decide)
 show own_Q91 Z r0 lk h0 n0 _ T1.heap _
 rw [e1]
 exact ⟨rfl, N0, rfl⟩
theorem own_pd29 : parseMethodDescriptor "(Ljava/lang/String;Lcom/example/quayside/quayside/core/Entry;)V" = some ⟨[(.object "java/lang/String"), (.object "com/example/quayside/quayside/core/Entry")], none⟩ := by decide +kernel
theorem own_d10_0 : decode prog_24_method_6_code 0 = .ok (.aload_n 0, 1) := by decide +kernel
theorem own_d10_1 : decode prog_24_method_6_code 1 = .ok (.invokevirtual 41, 3) := by decide +kernel
theorem own_d10_4 : decode prog_24_method_6_code 4 = .ok (.istore_n 3, 1) := by decide +kernel
theorem own_d10_5 : decode prog_24_method_6_code 5 = .ok (.aload_n 0, 1) := by decide +kernel
theorem own_d10_6 : decode prog_24_method_6_code 6 = .ok (.aload_n 0, 1) := by decide +kernel
theorem own_d10_7 : decode prog_24_method_6_code 7 = .ok (.getfield 7, 3) := by decide +kernel
theorem own_d10_10 : decode prog_24_method_6_code 10 = .ok (.new 18, 3) := by decide +kernel
theorem own_d10_13 : decode prog_24_method_6_code 13 = .ok (.dup, 1) := by decide +kernel
theorem own_d10_14 : decode prog_24_method_6_code 14 = .ok (.aload_n 1, 1) := by decide +kernel
theorem own_d10_15 : decode prog_24_method_6_code 15 = .ok (.aload_n 2, 1) := by decide +kernel
theorem own_d10_16 : decode prog_24_method_6_code 16 = .ok (.invokespecial 44, 3) := by decide +kernel
theorem own_d10_19 : decode prog_24_method_6_code 19 = .ok (.invokestatic 47, 3) := by decide +kernel
theorem own_d10_22 : decode prog_24_method_6_code 22 = .ok (.putfield 7, 3) := by decide +kernel
theorem own_d10_25 : decode prog_24_method_6_code 25 = .ok (.aload_n 0, 1) := by decide +kernel
theorem own_d10_26 : decode prog_24_method_6_code 26 = .ok (.invokevirtual 41, 3) := by decide +kernel
theorem own_d10_29 : decode prog_24_method_6_code 29 = .ok (.iload_n 3, 1) := by decide +kernel
theorem own_d10_30 : decode prog_24_method_6_code 30 = .ok (.if_icmp .ne 11, 3) := by decide +kernel
theorem own_d10_41 : decode prog_24_method_6_code 41 = .ok (.aconst_null, 1) := by decide +kernel
theorem own_d10_42 : decode prog_24_method_6_code 42 = .ok (.areturn, 1) := by decide +kernel
theorem own_ef100 (m : MethodId) (x0 : Addr) (x1 : Addr) (x2 : Addr) : entryFrame m #[(.ref x0), (.ref x1), (.ref x2)] 4 = mkF m 0 #[.val (.ref x0), .val (.ref x1), .val (.ref x2), .unset] [] := by first | (simp [entryFrame, mkF, argsToLocals, Value.category]; done) | rfl
def own_Q100 (Z : State) (r0 : Addr) (r1 : Addr) (r2 : Addr) (h0 : Heap) (n0 : Nat) (v : Option Value) (h : Heap) (L : List Loc) : Prop := ∃ lk : Addr, v = some .null ∧ Fr n0 L ∧ Keep h0 h [r0] ∧ h0.size ≤ lk ∧ Exa Z h r0 own_s3 ∧ Fld Z h r0 own_s3 "root" own_s1 (.ref lk) ∧ Exa Z h lk own_s0 ∧ Fld Z h lk own_s0 "name" own_s7 (.ref r1) ∧ Fld Z h lk own_s0 "entry" own_s5 (.ref r2) ∧ Fld Z h lk own_s0 "left" own_s1 .null ∧ Fld Z h lk own_s0 "right" own_s1 .null ∧ Fld Z h lk own_s0 "size" "I" (.int (1 : Int32))
abbrev own_y28 : MethodName := (⟨"com/example/quayside/quayside/core/Entries", "putIfAbsent", "(Ljava/lang/String;Lcom/example/quayside/quayside/core/Entry;)Lcom/example/quayside/quayside/core/Entry;"⟩ : MethodName)
set_option maxRecDepth 65536 in
set_option maxHeartbeats 40000000 in
theorem own_rm100 (l : Launch) (Z : State) (a0 : Array Value) (hw : ∀ d ∈ tables_1, d.before a0 Z = true) (ws : List Jvm.Cond) (r0 : Addr) (r1 : Addr) (r2 : Addr) (h0 : Heap) (n0 : Nat) (Z0 : n0 ≤ h0.size) (P0 : Exa Z h0 r0 own_s3) (P1 : Fld Z h0 r0 own_s3 "root" own_s1 .null) (P2 : n0 ≤ r0) :
    own_MF l Z own_y28 prog_24_method_6_code 4 (some (.object own_s4)) ws ({ frames := 2, cells := 1, slots := 5, locals := 29 } : Room) #[(.ref r0), (.ref r1), (.ref r2)] h0 (own_Q100 Z r0 r1 r2 h0 n0) := by
 refine own_start (plainFor_of_name own_pn5) fun p e s m below meth c s₁ hx hby hret hlk hml hZ hown hnm X0 e0 => ?_
 have N0 := Fr.nil n0
 have K0 : Keep h0 h0 [r0] := Keep.refl h0 _
 rw [own_ef100]
 refine ownE.go (f' := (mkF m 1 #[.val (.ref r0), .val (.ref r1), .val (.ref r2), .unset] [(.ref r0)])) (fun t kt => XS.aloadN X0.here hx rfl (hb hby own_d10_0) rfl rfl kt) ?_
 obtain ⟨cq1, kq1, q1a, q1b, q1c⟩ := isOf hZ e0 P0
 obtain ⟨_, _, ⟨T1, L1, k1, n1⟩, -, X1, ⟨Lc1, hQ1, l1, y1, z1⟩, st1⟩ := X0.virtualBack hx (y := own_y26) (z := own_y26) hown (mvT hZ (own_w hw 77 rfl)) (mvT hZ (own_w hw 78 rfl)) (notFace_of_selects (args := #[]) (mvT hZ (own_w hw 80 rfl))) (mvT hZ (own_w hw 80 rfl)) (mvT hZ (own_w hw 79 rfl)) (by decide) (backOf (W := 0) (own_rm110 l Z a0 hw [] r0 h0 n0 (Nat.le_trans Z0 K0.1) P0 P1) hZ (own_w hw 81 rfl) (own_w hw 28 rfl) (by decide) (by decide)) q1a q1c (g := (mkF m 1 #[.val (.ref r0), .val (.ref r1), .val (.ref r2), .unset] [(.ref r0)])) rfl (by rw [hml]; rfl) (Steps.refl _) (argsL := []) (rest := []) (lenOf own_pd21 rfl) rfl (Nat.le_of_eq rfl) (hb hby own_d10_1) (fun _ _ => ⟨rfl, e0, (by decide : 0 + 0 ≤ _), (by decide : 0 + 0 ≤ _)⟩)
 dsimp only [Pt.U, Pt.locs, Pt.cells, Pt.slots] at X1 l1 y1 z1 st1 hQ1
 subst l1 y1 z1
 obtain ⟨rfl, N1q, e1⟩ := hQ1
 have N1 := Fr.app N0 N1q
 refine ownE.goS st1 ?_
 refine ownE.go (f' := (mkF m 7 #[.val (.ref r0), .val (.ref r1), .val (.ref r2), .val (.int (0 : Int32))] [(.ref r0), (.ref r0)])) (fun t kt => XS.istoreN X1.here hx rfl (hb hby own_d10_4) rfl (l' := #[.val (.ref r0), .val (.ref r1), .val (.ref r2), .val (.int (0 : Int32))]) rfl (XS.aloadN X1.here hx rfl (hb hby own_d10_5) rfl rfl (XS.aloadN X1.here hx rfl (hb hby own_d10_6) rfl rfl kt))) ?_
 obtain ⟨T2, X2, e2, st2⟩ := getF X1 hx hZ hown (host := "") (Or.inl (own_w hw 70 rfl)) Via.refl e1 P1 (g := (mkF m 7 #[.val (.ref r0), .val (.ref r1), .val (.ref r2), .val (.int (0 : Int32))] [(.ref r0), (.ref r0)])) rfl rfl (hb hby own_d10_7)
 refine ownE.go st2 ?_
 obtain ⟨T3, h3, X3, e3, E3, A3, D3, -, st3⟩ := newO X2 hx hZ hown (own_w hw 85 rfl) (own_w hw 86 rfl) (own_w hw 87 rfl) e2 (g := (mkF m 10 #[.val (.ref r0), .val (.ref r1), .val (.ref r2), .val (.int (0 : Int32))] [.null, (.ref r0)])) rfl (hb hby own_d10_10) (by decide) (by decide)
 obtain ⟨b3, g3⟩ : ∃ z, z = h0.size := ⟨_, rfl⟩
 rw [← g3] at A3 D3 st3
 have ne_r0_b3 : r0 ≠ b3 := Nat.ne_of_lt (Nat.lt_of_lt_of_le P0.lt (Nat.le_of_eq g3.symm))
 have sz_b3 : h0.size ≤ b3 := Nat.le_trans K0.1 (Nat.le_of_eq g3.symm)
 have ge_b3 : n0 ≤ b3 := Nat.le_trans Z0 sz_b3
 have q202 := P0.ext E3
 have q203 := P1.ext E3
 have D3_size : Fld Z h3 b3 own_s0 "size" "I" (.int (0 : Int32)) := D3 (Or.inl (own_w hw 93 rfl)) (ty := .int) (by decide)
 have D3_name : Fld Z h3 b3 own_s0 "name" own_s7 .null := D3 (Or.inr (own_w hw 95 rfl)) (ty := (.object own_s2)) (by decide)
 have D3_entry : Fld Z h3 b3 own_s0 "entry" own_s5 .null := D3 (Or.inr (own_w hw 97 rfl)) (ty := (.object own_s4)) (by decide)
 have D3_right : Fld Z h3 b3 own_s0 "right" own_s1 .null := D3 (Or.inl (own_w hw 139 rfl)) (ty := (.object own_s0)) (by decide)
 have D3_left : Fld Z h3 b3 own_s0 "left" own_s1 .null := D3 (Or.inl (own_w hw 144 rfl)) (ty := (.object own_s0)) (by decide)
 have K3 : Keep h0 h3 [r0] := K0.ext E3
 refine ownE.go st3 ?_
 refine ownE.go (f' := (mkF m 16 #[.val (.ref r0), .val (.ref r1), .val (.ref r2), .val (.int (0 : Int32))] [(.ref r2), (.ref r1), (.ref b3), (.ref b3), .null, (.ref r0)])) (fun t kt => XS.dup X3.here hx rfl (hb hby own_d10_13) rfl rfl (XS.aloadN X3.here hx rfl (hb hby own_d10_14) rfl rfl (XS.aloadN X3.here hx rfl (hb hby own_d10_15) rfl rfl kt))) ?_
 obtain ⟨_, _, ⟨T4, L4, k4, n4⟩, -, X4, ⟨Lc4, hQ4, l4, y4, z4⟩, st4⟩ := own_specialR X3 hx hZ (y := own_y7) rfl hown (own_w hw 88 rfl) (mvT hZ (own_w hw 89 rfl)) (mvT hZ (own_w hw 90 rfl)) (by decide) (backOf (W := 3) (own_rm13 l Z a0 hw [] b3 r1 r2 h3 n0 (Nat.le_trans Z0 K3.1) D3_name D3_entry D3_left D3_right D3_size A3 ge_b3) hZ (own_w hw 90 rfl) (own_w hw 87 rfl) (by decide) (by decide)) (g := (mkF m 16 #[.val (.ref r0), .val (.ref r1), .val (.ref r2), .val (.int (0 : Int32))] [(.ref r2), (.ref r1), (.ref b3), (.ref b3), .null, (.ref r0)])) rfl (by rw [hml]; rfl) (Steps.refl _) (a := b3) (argsL := [(.ref r1), (.ref r2)]) (rest := [(.ref b3), .null, (.ref r0)]) (lenOf own_pd29 rfl) rfl (Nat.le_of_eq rfl) (hb hby own_d10_16) (fun _ _ => ⟨rfl, e3, (by decide : 1 + 0 ≤ _), (by decide : 5 + 0 ≤ _)⟩)
 dsimp only [Pt.U, Pt.locs, Pt.cells, Pt.slots] at X4 l4 y4 z4 st4 hQ4
 subst l4 y4 z4
 obtain ⟨rfl, N4q, K4q, f4_0, f4_1, f4_2, f4_3, f4_4, f4_5⟩ := hQ4
 have q204 := q202.keep K4q
 have q205 := q203.keep K4q (ninS ne_r0_b3 nin0)
 have q206 := A3.keep K4q
 have K4 : Keep h0 T4.heap [r0] := K3.trans K4q (allS (Or.inr sz_b3) all0)
 have N4 := Fr.app N1 N4q
 refine ownE.goS st4 ?_
 obtain ⟨_, _, ⟨T5, L5, k5, n5⟩, -, X5, ⟨Lc5, hQ5, l5, y5, z5⟩, st5⟩ := Jvm.LawKit.callS X4 hx (y := own_y24) hown (mvT hZ (own_w hw 98 rfl)) (mvT hZ (own_w hw 99 rfl)) (mvT hZ (own_w hw 28 rfl)) (mvT hZ (own_w hw 100 rfl)) (by decide) (backOf (W := 1) (own_rm14n l Z a0 hw [] b3 T4.heap n0 (Nat.le_trans Z0 K4.1) ) hZ (own_w hw 100 rfl) (own_w hw 28 rfl) (by decide) (by decide)) (g := (mkF m 19 #[.val (.ref r0), .val (.ref r1), .val (.ref r2), .val (.int (0 : Int32))] [(.ref b3), .null, (.ref r0)])) rfl (by rw [hml]; rfl) (argsL := [.null, (.ref b3)]) (rest := [(.ref r0)]) (lenOf own_pd26 rfl) rfl (Nat.le_of_eq rfl) (hb hby own_d10_19) (fun _ _ => ⟨rfl, rfl, (by decide : 1 + 0 ≤ _), (by decide : 5 + 0 ≤ _)⟩)
 dsimp only [Pt.U, Pt.locs, Pt.cells, Pt.slots] at X5 l5 y5 z5 st5 hQ5
 subst l5 y5 z5
 obtain ⟨rfl, N5q, e5⟩ := hQ5
 have N5 := Fr.app N4 N5q
 refine ownE.go st5 ?_
 obtain ⟨T6, h6, X6, e6, W6, st6⟩ := putF X5 hx hZ hown (host := "") (Or.inl (own_w hw 70 rfl)) Via.refl e5 q205 q204 (Or.inl (own_w hw 71 rfl)) (own_w hw 27 rfl) (ty := (.object own_s0)) (by decide) rfl rfl (g := (mkF m 22 #[.val (.ref r0), .val (.ref r1), .val (.ref r2), .val (.int (0 : Int32))] [(.ref b3), (.ref r0)])) rfl rfl (hb hby own_d10_22)
 have Fw6 : Fld Z h6 r0 own_s3 "root" own_s1 (.ref b3) := q205.same W6
 have q207 := q204.wr W6
 have q208 := f4_0.wr W6
 have q209 := f4_1.other W6 (Or.inl (Ne.symm ne_r0_b3))
 have q210 := f4_2.other W6 (Or.inl (Ne.symm ne_r0_b3))
 have q211 := f4_3.other W6 (Or.inl (Ne.symm ne_r0_b3))
 have q212 := f4_4.other W6 (Or.inl (Ne.symm ne_r0_b3))
 have q213 := f4_5.other W6 (Or.inl (Ne.symm ne_r0_b3))
 have K6 : Keep h0 h6 [r0] := K4.wr W6 (Or.inl (List.mem_of_getElem? (i := 0) rfl))
 have N6 := Fr.snoc X6 N5 P2
 refine ownE.go st6 ?_
 refine ownE.go (f' := (mkF m 26 #[.val (.ref r0), .val (.ref r1), .val (.ref r2), .val (.int (0 : Int32))] [(.ref r0)])) (fun t kt => XS.aloadN X6.here hx rfl (hb hby own_d10_25) rfl rfl kt) ?_
 obtain ⟨cq7, kq7, q7a, q7b, q7c⟩ := isOf hZ e6 q207
 obtain ⟨_, _, ⟨T7, L7, k7, n7⟩, -, X7, ⟨Lc7, hQ7, l7, y7, z7⟩, st7⟩ := X6.virtualBack hx (y := own_y26) (z := own_y26) hown (mvT hZ (own_w hw 77 rfl)) (mvT hZ (own_w hw 78 rfl)) (notFace_of_selects (args := #[]) (mvT hZ (own_w hw 80 rfl))) (mvT hZ (own_w hw 80 rfl)) (mvT hZ (own_w hw 79 rfl)) (by decide) (backOf (W := 0) (own_rm111 l Z a0 hw [] r0 b3 h6 n0 (Nat.le_trans Z0 K6.1) q207 Fw6 q213) hZ (own_w hw 81 rfl) (own_w hw 28 rfl) (by decide) (by decide)) q7a q7c (g := (mkF m 26 #[.val (.ref r0), .val (.ref r1), .val (.ref r2), .val (.int (0 : Int32))] [(.ref r0)])) rfl (by rw [hml]; rfl) (Steps.refl _) (argsL := []) (rest := []) (lenOf own_pd21 rfl) rfl (Nat.le_of_eq rfl) (hb hby own_d10_26) (fun _ _ => ⟨rfl, e6, (by decide : 1 + 0 ≤ _), (by decide : 5 + 0 ≤ _)⟩)
 dsimp only [Pt.U, Pt.locs, Pt.cells, Pt.slots] at X7 l7 y7 z7 st7 hQ7
 subst l7 y7 z7
 obtain ⟨rfl, N7q, e7⟩ := hQ7
 have N7 := Fr.app N6 N7q
 refine ownE.goS st7 ?_
 refine ownE.go (f' := (mkF m 42 #[.val (.ref r0), .val (.ref r1), .val (.ref r2), .val (.int (0 : Int32))] [.null])) (fun t kt => XS.iloadN X7.here hx rfl (hb hby own_d10_29) rfl (XS.icmpYes X7.here hx rfl (pc0 := 30) (pc' := 41) rfl (hb hby own_d10_30) rfl (Jvm.Free.XT.ii_ne_t (by decide)) (by decide) (by decide) (XS.aconstNull X7.here hx rfl (hb hby own_d10_41) kt))) ?_
 refine ownE.retA X7 hx hlk hret rfl rfl rfl (hb hby own_d10_42) ?_ (by decide) (by decide)
 show own_Q100 Z r0 r1 r2 h0 n0 _ T7.heap _
 rw [e7]
 exact ⟨b3, rfl, N7, K6, sz_b3, q207, Fw6, q208, q209, q210, q211, q212, q213⟩
theorem own_pd30 : parseMethodDescriptor "(Ljava/lang/String;)Lcom/example/quayside/quayside/core/Entry;" = some ⟨[(.object "java/lang/String")], some (.object "com/example/quayside/quayside/core/Entry")⟩ := by decide +kernel
theorem own_d10_33 : decode prog_24_method_6_code 33 = .ok (.aload_n 0, 1) := by decide +kernel
theorem own_d10_34 : decode prog_24_method_6_code 34 = .ok (.aload_n 1, 1) := by decide +kernel
theorem own_d10_35 : decode prog_24_method_6_code 35 = .ok (.invokevirtual 37, 3) := by decide +kernel
theorem own_d10_38 : decode prog_24_method_6_code 38 = .ok (.goto 4, 3) := by decide +kernel
theorem own_ef10e (m : MethodId) (x0 : Addr) (x1 : Addr) (x2 : Addr) : entryFrame m #[(.ref x0), (.ref x1), (.ref x2)] 4 = mkF m 0 #[.val (.ref x0), .val (.ref x1), .val (.ref x2), .unset] [] := by first | (simp [entryFrame, mkF, argsToLocals, Value.category]; done) | rfl
def own_Q10e (Z : State) (r0 : Addr) (r1 : Addr) (r2 : Addr) (va : Addr) (ka : ClassId) (x : Int32) (lk : Addr) (nm : Addr) (vb : Addr) (kb : ClassId) (y : Int32) (en : Addr) (cs : Int32) (fmt : Value) (h0 : Heap) (n0 : Nat) (v : Option Value) (h : Heap) (L : List Loc) : Prop := v = some (.ref en) ∧ Fr n0 L ∧ Keep h0 h [r0] ∧ Exa Z h r0 own_s3 ∧ Fld Z h r0 own_s3 "root" own_s1 (.ref lk)
set_option maxRecDepth 65536 in
set_option maxHeartbeats 40000000 in
theorem own_rm10e (l : Launch) (Z : State) (a0 : Array Value) (hw : ∀ d ∈ tables_1, d.before a0 Z = true) (ws : List Jvm.Cond) (r0 : Addr) (r1 : Addr) (r2 : Addr) (va : Addr) (ka : ClassId) (x : Int32) (lk : Addr) (nm : Addr) (vb : Addr) (kb : ClassId) (y : Int32) (en : Addr) (cs : Int32) (fmt : Value) (h0 : Heap) (n0 : Nat) (Z0 : n0 ≤ h0.size) (Od : Old Z n0 h0) (hcs : Sta Z Z.heap own_s2 "COMPACT_STRINGS" "Z" (.int cs)) (hcsn : ¬ cs = (0 : Int32)) (zfm : Sta Z Z.heap own_s8 "SIOOBE_FORMATTER" own_s9 fmt) (hfm : fmt.isRef = true) (P5 : Exa Z h0 r0 own_s3) (P6 : Fld Z h0 r0 own_s3 "root" own_s1 (.ref lk)) (P7 : n0 ≤ r0) (P8 : lk ≠ r0) (P9 : Fld Z h0 lk own_s0 "name" own_s7 (.ref nm)) (P10 : Fld Z h0 lk own_s0 "entry" own_s5 (.ref en)) (P11 : Fld Z h0 lk own_s0 "size" "I" (.int (1 : Int32))) (P12 : Exa Z h0 r1 own_s2) (P13 : Fld Z h0 r1 own_s2 "coder" "B" (.int (0 : Int32))) (P14 : Fld Z h0 r1 own_s2 "value" "[B" (.ref va)) (P15 : Arv Z h0 va ka .byte (1 : Int32) [(.int x)] (.int (0 : Int32))) (P16 : Exa Z h0 nm own_s2) (P17 : Fld Z h0 nm own_s2 "coder" "B" (.int (0 : Int32))) (P18 : Fld Z h0 nm own_s2 "value" "[B" (.ref vb)) (P19 : Arv Z h0 vb kb .byte (1 : Int32) [(.int y)] (.int (0 : Int32))) (P20 : nm ≠ r0) (P21 : vb ≠ r0) (P22 : r1 ≠ r0) (P23 : va ≠ r0) (P24 : (x &&& (255 : Int32)) = (y &&& (255 : Int32))) :
    own_MF l Z own_y28 prog_24_method_6_code 4 (some (.object own_s4)) ws ({ frames := 5, cells := 1, slots := 5, locals := 73 } : Room) #[(.ref r0), (.ref r1), (.ref r2)] h0 (own_Q10e Z r0 r1 r2 va ka x lk nm vb kb y en cs fmt h0 n0) := by
 refine own_start (plainFor_of_name own_pn5) fun p e s m below meth c s₁ hx hby hret hlk hml hZ hown hnm X0 e0 => ?_
 have N0 := Fr.nil n0
 have K0 : Keep h0 h0 [r0] := Keep.refl h0 _
 rw [own_ef10e]
 refine ownE.go (f' := (mkF m 1 #[.val (.ref r0), .val (.ref r1), .val (.ref r2), .unset] [(.ref r0)])) (fun t kt => XS.aloadN X0.here hx rfl (hb hby own_d10_0) rfl rfl kt) ?_
 obtain ⟨cq1, kq1, q1a, q1b, q1c⟩ := isOf hZ e0 P5
 obtain ⟨_, _, ⟨T1, L1, k1, n1⟩, -, X1, ⟨Lc1, hQ1, l1, y1, z1⟩, st1⟩ := X0.virtualBack hx (y := own_y26) (z := own_y26) hown (mvT hZ (own_w hw 77 rfl)) (mvT hZ (own_w hw 78 rfl)) (notFace_of_selects (args := #[]) (mvT hZ (own_w hw 80 rfl))) (mvT hZ (own_w hw 80 rfl)) (mvT hZ (own_w hw 79 rfl)) (by decide) (backOf (W := 0) (own_rm111 l Z a0 hw [] r0 lk h0 n0 (Nat.le_trans Z0 K0.1) P5 P6 P11) hZ (own_w hw 81 rfl) (own_w hw 28 rfl) (by decide) (by decide)) q1a q1c (g := (mkF m 1 #[.val (.ref r0), .val (.ref r1), .val (.ref r2), .unset] [(.ref r0)])) rfl (by rw [hml]; rfl) (Steps.refl _) (argsL := []) (rest := []) (lenOf own_pd21 rfl) rfl (Nat.le_of_eq rfl) (hb hby own_d10_1) (fun _ _ => ⟨rfl, e0, (by decide : 0 + 0 ≤ _), (by decide : 0 + 0 ≤ _)⟩)
 dsimp only [Pt.U, Pt.locs, Pt.cells, Pt.slots] at X1 l1 y1 z1 st1 hQ1
 subst l1 y1 z1
 obtain ⟨rfl, N1q, e1⟩ := hQ1
 have N1 := Fr.app N0 N1q
 refine ownE.goS st1 ?_
 refine ownE.go (f' := (mkF m 7 #[.val (.ref r0), .val (.ref r1), .val (.ref r2), .val (.int (1 : Int32))] [(.ref r0), (.ref r0)])) (fun t kt => XS.istoreN X1.here hx rfl (hb hby own_d10_4) rfl (l' := #[.val (.ref r0), .val (.ref r1), .val (.ref r2), .val (.int (1 : Int32))]) rfl (XS.aloadN X1.here hx rfl (hb hby own_d10_5) rfl rfl (XS.aloadN X1.here hx rfl (hb hby own_d10_6) rfl rfl kt))) ?_
 obtain ⟨T2, X2, e2, st2⟩ := getF X1 hx hZ hown (host := "") (Or.inl (own_w hw 70 rfl)) Via.refl e1 P6 (g := (mkF m 7 #[.val (.ref r0), .val (.ref r1), .val (.ref r2), .val (.int (1 : Int32))] [(.ref r0), (.ref r0)])) rfl rfl (hb hby own_d10_7)
 refine ownE.go st2 ?_
 obtain ⟨T3, h3, X3, e3, E3, A3, D3, -, st3⟩ := newO X2 hx hZ hown (own_w hw 85 rfl) (own_w hw 86 rfl) (own_w hw 87 rfl) e2 (g := (mkF m 10 #[.val (.ref r0), .val (.ref r1), .val (.ref r2), .val (.int (1 : Int32))] [(.ref lk), (.ref r0)])) rfl (hb hby own_d10_10) (by decide) (by decide)
 obtain ⟨b3, g3⟩ : ∃ z, z = h0.size := ⟨_, rfl⟩
 rw [← g3] at A3 D3 st3
 have ne_r0_b3 : r0 ≠ b3 := Nat.ne_of_lt (Nat.lt_of_lt_of_le P5.lt (Nat.le_of_eq g3.symm))
 have ne_lk_b3 : lk ≠ b3 := Nat.ne_of_lt (Nat.lt_of_lt_of_le P9.lt (Nat.le_of_eq g3.symm))
 have ne_r1_b3 : r1 ≠ b3 := Nat.ne_of_lt (Nat.lt_of_lt_of_le P12.lt (Nat.le_of_eq g3.symm))
 have ne_va_b3 : va ≠ b3 := Nat.ne_of_lt (Nat.lt_of_lt_of_le P15.lt (Nat.le_of_eq g3.symm))
 have ne_nm_b3 : nm ≠ b3 := Nat.ne_of_lt (Nat.lt_of_lt_of_le P16.lt (Nat.le_of_eq g3.symm))
 have ne_vb_b3 : vb ≠ b3 := Nat.ne_of_lt (Nat.lt_of_lt_of_le P19.lt (Nat.le_of_eq g3.symm))
 have sz_b3 : h0.size ≤ b3 := Nat.le_trans K0.1 (Nat.le_of_eq g3.symm)
 have ge_b3 : n0 ≤ b3 := Nat.le_trans Z0 sz_b3
 have q214 := Od.ext E3
 have q215 := P5.ext E3
 have q216 := P6.ext E3
 have q217 := P9.ext E3
 have q218 := P10.ext E3
 have q219 := P11.ext E3
 have q220 := P12.ext E3
 have q221 := P13.ext E3
 have q222 := P14.ext E3
 have q223 := P15.ext E3
 have q224 := P16.ext E3
 have q225 := P17.ext E3
 have q226 := P18.ext E3
 have q227 := P19.ext E3
 have D3_size : Fld Z h3 b3 own_s0 "size" "I" (.int (0 : Int32)) := D3 (Or.inl (own_w hw 93 rfl)) (ty := .int) (by decide)
 have D3_name : Fld Z h3 b3 own_s0 "name" own_s7 .null := D3 (Or.inr (own_w hw 95 rfl)) (ty := (.object own_s2)) (by decide)
 have D3_entry : Fld Z h3 b3 own_s0 "entry" own_s5 .null := D3 (Or.inr (own_w hw 97 rfl)) (ty := (.object own_s4)) (by decide)
 have D3_right : Fld Z h3 b3 own_s0 "right" own_s1 .null := D3 (Or.inl (own_w hw 139 rfl)) (ty := (.object own_s0)) (by decide)
 have D3_left : Fld Z h3 b3 own_s0 "left" own_s1 .null := D3 (Or.inl (own_w hw 144 rfl)) (ty := (.object own_s0)) (by decide)
 have K3 : Keep h0 h3 [r0] := K0.ext E3
 refine ownE.go st3 ?_
 refine ownE.go (f' := (mkF m 16 #[.val (.ref r0), .val (.ref r1), .val (.ref r2), .val (.int (1 : Int32))] [(.ref r2), (.ref r1), (.ref b3), (.ref b3), (.ref lk), (.ref r0)])) (fun t kt => XS.dup X3.here hx rfl (hb hby own_d10_13) rfl rfl (XS.aloadN X3.here hx rfl (hb hby own_d10_14) rfl rfl (XS.aloadN X3.here hx rfl (hb hby own_d10_15) rfl rfl kt))) ?_
 obtain ⟨_, _, ⟨T4, L4, k4, n4⟩, -, X4, ⟨Lc4, hQ4, l4, y4, z4⟩, st4⟩ := own_specialR X3 hx hZ (y := own_y7) rfl hown (own_w hw 88 rfl) (mvT hZ (own_w hw 89 rfl)) (mvT hZ (own_w hw 90 rfl)) (by decide) (backOf (W := 3) (own_rm13 l Z a0 hw [] b3 r1 r2 h3 n0 (Nat.le_trans Z0 K3.1) D3_name D3_entry D3_left D3_right D3_size A3 ge_b3) hZ (own_w hw 90 rfl) (own_w hw 87 rfl) (by decide) (by decide)) (g := (mkF m 16 #[.val (.ref r0), .val (.ref r1), .val (.ref r2), .val (.int (1 : Int32))] [(.ref r2), (.ref r1), (.ref b3), (.ref b3), (.ref lk), (.ref r0)])) rfl (by rw [hml]; rfl) (Steps.refl _) (a := b3) (argsL := [(.ref r1), (.ref r2)]) (rest := [(.ref b3), (.ref lk), (.ref r0)]) (lenOf own_pd29 rfl) rfl (Nat.le_of_eq rfl) (hb hby own_d10_16) (fun _ _ => ⟨rfl, e3, (by decide : 1 + 0 ≤ _), (by decide : 5 + 0 ≤ _)⟩)
 dsimp only [Pt.U, Pt.locs, Pt.cells, Pt.slots] at X4 l4 y4 z4 st4 hQ4
 subst l4 y4 z4
 obtain ⟨rfl, N4q, K4q, f4_0, f4_1, f4_2, f4_3, f4_4, f4_5⟩ := hQ4
 have q228 := q214.keep K4q (allS ge_b3 all0)
 have q229 := q215.keep K4q
 have q230 := q216.keep K4q (ninS ne_r0_b3 nin0)
 have q231 := q217.keep K4q (ninS ne_lk_b3 nin0)
 have q232 := q218.keep K4q (ninS ne_lk_b3 nin0)
 have q233 := q219.keep K4q (ninS ne_lk_b3 nin0)
 have q234 := q220.keep K4q
 have q235 := q221.keep K4q (ninS ne_r1_b3 nin0)
 have q236 := q222.keep K4q (ninS ne_r1_b3 nin0)
 have q237 := q223.keep K4q (ninS ne_va_b3 nin0)
 have q238 := q224.keep K4q
 have q239 := q225.keep K4q (ninS ne_nm_b3 nin0)
 have q240 := q226.keep K4q (ninS ne_nm_b3 nin0)
 have q241 := q227.keep K4q (ninS ne_vb_b3 nin0)
 have q242 := A3.keep K4q
 have K4 : Keep h0 T4.heap [r0] := K3.trans K4q (allS (Or.inr sz_b3) all0)
 have N4 := Fr.app N1 N4q
 refine ownE.goS st4 ?_
 obtain ⟨_, _, ⟨T5, L5, k5, n5⟩, -, X5, ⟨Lc5, hQ5, l5, y5, z5⟩, st5⟩ := Jvm.LawKit.callS X4 hx (y := own_y24) hown (mvT hZ (own_w hw 98 rfl)) (mvT hZ (own_w hw 99 rfl)) (mvT hZ (own_w hw 28 rfl)) (mvT hZ (own_w hw 100 rfl)) (by decide) (backOf (W := 1) (own_rm14e l Z a0 hw [] lk b3 r1 va ka x nm vb kb y cs fmt T4.heap n0 (Nat.le_trans Z0 K4.1) q228 hcs hcsn zfm hfm f4_1 q234 q235 q236 q237 q238 q239 q240 q241 q231 P24) hZ (own_w hw 100 rfl) (own_w hw 28 rfl) (by decide) (by decide)) (g := (mkF m 19 #[.val (.ref r0), .val (.ref r1), .val (.ref r2), .val (.int (1 : Int32))] [(.ref b3), (.ref lk), (.ref r0)])) rfl (by rw [hml]; rfl) (argsL := [(.ref lk), (.ref b3)]) (rest := [(.ref r0)]) (lenOf own_pd26 rfl) rfl (Nat.le_of_eq rfl) (hb hby own_d10_19) (fun _ _ => ⟨rfl, rfl, (by decide : 1 + 0 ≤ _), (by decide : 5 + 0 ≤ _)⟩)
 dsimp only [Pt.U, Pt.locs, Pt.cells, Pt.slots] at X5 l5 y5 z5 st5 hQ5
 subst l5 y5 z5
 obtain ⟨rfl, N5q, e5⟩ := hQ5
 have N5 := Fr.app N4 N5q
 refine ownE.go st5 ?_
 obtain ⟨T6, h6, X6, e6, W6, st6⟩ := putF X5 hx hZ hown (host := "") (Or.inl (own_w hw 70 rfl)) Via.refl e5 q230 q229 (Or.inl (own_w hw 71 rfl)) (own_w hw 27 rfl) (ty := (.object own_s0)) (by decide) rfl rfl (g := (mkF m 22 #[.val (.ref r0), .val (.ref r1), .val (.ref r2), .val (.int (1 : Int32))] [(.ref lk), (.ref r0)])) rfl rfl (hb hby own_d10_22)
 have Fw6 : Fld Z h6 r0 own_s3 "root" own_s1 (.ref lk) := q230.same W6
 have q243 := q228.wr W6 P7
 have q244 := q229.wr W6
 have q245 := q231.other W6 (Or.inl P8)
 have q246 := q232.other W6 (Or.inl P8)
 have q247 := q233.other W6 (Or.inl P8)
 have q248 := q234.wr W6
 have q249 := q235.other W6 (Or.inl P22)
 have q250 := q236.other W6 (Or.inl P22)
 have q251 := q237.other W6 P23
 have q252 := q238.wr W6
 have q253 := q239.other W6 (Or.inl P20)
 have q254 := q240.other W6 (Or.inl P20)
 have q255 := q241.other W6 P21
 have q256 := f4_0.wr W6
 have q257 := f4_1.other W6 (Or.inl (Ne.symm ne_r0_b3))
 have q258 := f4_2.other W6 (Or.inl (Ne.symm ne_r0_b3))
 have q259 := f4_3.other W6 (Or.inl (Ne.symm ne_r0_b3))
 have q260 := f4_4.other W6 (Or.inl (Ne.symm ne_r0_b3))
 have q261 := f4_5.other W6 (Or.inl (Ne.symm ne_r0_b3))
 have K6 : Keep h0 h6 [r0] := K4.wr W6 (Or.inl (List.mem_of_getElem? (i := 0) rfl))
 have N6 := Fr.snoc X6 N5 P7
 refine ownE.go st6 ?_
 refine ownE.go (f' := (mkF m 26 #[.val (.ref r0), .val (.ref r1), .val (.ref r2), .val (.int (1 : Int32))] [(.ref r0)])) (fun t kt => XS.aloadN X6.here hx rfl (hb hby own_d10_25) rfl rfl kt) ?_
 obtain ⟨cq7, kq7, q7a, q7b, q7c⟩ := isOf hZ e6 q244
 obtain ⟨_, _, ⟨T7, L7, k7, n7⟩, -, X7, ⟨Lc7, hQ7, l7, y7, z7⟩, st7⟩ := X6.virtualBack hx (y := own_y26) (z := own_y26) hown (mvT hZ (own_w hw 77 rfl)) (mvT hZ (own_w hw 78 rfl)) (notFace_of_selects (args := #[]) (mvT hZ (own_w hw 80 rfl))) (mvT hZ (own_w hw 80 rfl)) (mvT hZ (own_w hw 79 rfl)) (by decide) (backOf (W := 0) (own_rm111 l Z a0 hw [] r0 lk h6 n0 (Nat.le_trans Z0 K6.1) q244 Fw6 q247) hZ (own_w hw 81 rfl) (own_w hw 28 rfl) (by decide) (by decide)) q7a q7c (g := (mkF m 26 #[.val (.ref r0), .val (.ref r1), .val (.ref r2), .val (.int (1 : Int32))] [(.ref r0)])) rfl (by rw [hml]; rfl) (Steps.refl _) (argsL := []) (rest := []) (lenOf own_pd21 rfl) rfl (Nat.le_of_eq rfl) (hb hby own_d10_26) (fun _ _ => ⟨rfl, e6, (by decide : 1 + 0 ≤ _), (by decide : 5 + 0 ≤ _)⟩)
 dsimp only [Pt.U, Pt.locs, Pt.cells, Pt.slots] at X7 l7 y7 z7 st7 hQ7
 subst l7 y7 z7
 obtain ⟨rfl, N7q, e7⟩ := hQ7
 have N7 := Fr.app N6 N7q
 refine ownE.goS st7 ?_
 refine ownE.go (f' := (mkF m 35 #[.val (.ref r0), .val (.ref r1), .val (.ref r2), .val (.int (1 : Int32))] [(.ref r1), (.ref r0)])) (fun t kt => XS.iloadN X7.here hx rfl (hb hby own_d10_29) rfl (XS.icmpNo X7.here hx rfl (hb hby own_d10_30) rfl (Jvm.Free.XT.ii_ne_f (by decide)) (XS.aloadN X7.here hx rfl (hb hby own_d10_33) rfl rfl (XS.aloadN X7.here hx rfl (hb hby own_d10_34) rfl rfl kt)))) ?_
 obtain ⟨cq8, kq8, q8a, q8b, q8c⟩ := isOf hZ e7 q244
 obtain ⟨_, _, ⟨T8, L8, k8, n8⟩, -, X8, ⟨Lc8, hQ8, l8, y8, z8⟩, st8⟩ := X7.virtualBack hx (y := own_y23) (z := own_y23) hown (mvT hZ (own_w hw 162 rfl)) (mvT hZ (own_w hw 163 rfl)) (notFace_of_selects (args := #[]) (mvT hZ (own_w hw 165 rfl))) (mvT hZ (own_w hw 165 rfl)) (mvT hZ (own_w hw 164 rfl)) (by decide) (backOf (W := 0) (own_rm28e l Z a0 hw [] r0 r1 va ka x lk nm vb kb y en cs fmt h6 n0 (Nat.le_trans Z0 K6.1) q243 hcs hcsn zfm hfm q244 Fw6 q245 q246 q248 q249 q250 q251 q252 q253 q254 q255 P24) hZ (own_w hw 166 rfl) (own_w hw 28 rfl) (by decide) (by decide)) q8a q8c (g := (mkF m 35 #[.val (.ref r0), .val (.ref r1), .val (.ref r2), .val (.int (1 : Int32))] [(.ref r1), (.ref r0)])) rfl (by rw [hml]; rfl) (Steps.refl _) (argsL := [(.ref r1)]) (rest := []) (lenOf own_pd30 rfl) rfl (Nat.le_of_eq rfl) (hb hby own_d10_35) (fun _ _ => ⟨rfl, e7, (by decide : 1 + 0 ≤ _), (by decide : 5 + 0 ≤ _)⟩)
 dsimp only [Pt.U, Pt.locs, Pt.cells, Pt.slots] at X8 l8 y8 z8 st8 hQ8
 subst l8 y8 z8
 obtain ⟨rfl, N8q, e8⟩ := hQ8
 have N8 := Fr.app N7 N8q
 refine ownE.goS st8 ?_
 refine ownE.go (f' := (mkF m 42 #[.val (.ref r0), .val (.ref r1), .val (.ref r2), .val (.int (1 : Int32))] [(.ref en)])) (fun t kt => XS.goto X8.here hx rfl (pc0 := 38) (pc' := 42) rfl (hb hby own_d10_38) (by decide) (by decide) kt) ?_
 refine ownE.retA X8 hx hlk hret rfl rfl rfl (hb hby own_d10_42) ?_ (by decide) (by decide)
 show own_Q10e Z r0 r1 r2 va ka x lk nm vb kb y en cs fmt h0 n0 _ T8.heap _
 rw [e8]
 exact ⟨rfl, N8, K6, q244, Fw6⟩
theorem own_ef10l (m : MethodId) (x0 : Addr) (x1 : Addr) (x2 : Addr) : entryFrame m #[(.ref x0), (.ref x1), (.ref x2)] 4 = mkF m 0 #[.val (.ref x0), .val (.ref x1), .val (.ref x2), .unset] [] := by first | (simp [entryFrame, mkF, argsToLocals, Value.category]; done) | rfl
def own_Q10l (Z : State) (r0 : Addr) (r1 : Addr) (r2 : Addr) (va : Addr) (ka : ClassId) (x : Int32) (lk : Addr) (nm : Addr) (vb : Addr) (kb : ClassId) (y : Int32) (en : Addr) (cs : Int32) (fmt : Value) (h0 : Heap) (n0 : Nat) (v : Option Value) (h : Heap) (L : List Loc) : Prop := ∃ nk : Addr, v = some .null ∧ Fr n0 L ∧ Keep h0 h [r0, lk] ∧ h0.size ≤ nk ∧ Exa Z h r0 own_s3 ∧ Fld Z h r0 own_s3 "root" own_s1 (.ref lk) ∧ Exa Z h lk own_s0 ∧ Fld Z h lk own_s0 "name" own_s7 (.ref nm) ∧ Fld Z h lk own_s0 "entry" own_s5 (.ref en) ∧ Fld Z h lk own_s0 "left" own_s1 (.ref nk) ∧ Fld Z h lk own_s0 "right" own_s1 .null ∧ Fld Z h lk own_s0 "size" "I" (.int (2 : Int32)) ∧ Exa Z h nk own_s0 ∧ Fld Z h nk own_s0 "name" own_s7 (.ref r1) ∧ Fld Z h nk own_s0 "entry" own_s5 (.ref r2) ∧ Fld Z h nk own_s0 "left" own_s1 .null ∧ Fld Z h nk own_s0 "right" own_s1 .null ∧ Fld Z h nk own_s0 "size" "I" (.int (1 : Int32))
set_option maxRecDepth 65536 in
set_option maxHeartbeats 40000000 in
theorem own_rm10l (l : Launch) (Z : State) (a0 : Array Value) (hw : ∀ d ∈ tables_1, d.before a0 Z = true) (ws : List Jvm.Cond) (r0 : Addr) (r1 : Addr) (r2 : Addr) (va : Addr) (ka : ClassId) (x : Int32) (lk : Addr) (nm : Addr) (vb : Addr) (kb : ClassId) (y : Int32) (en : Addr) (cs : Int32) (fmt : Value) (h0 : Heap) (n0 : Nat) (Z0 : n0 ≤ h0.size) (Od : Old Z n0 h0) (hcs : Sta Z Z.heap own_s2 "COMPACT_STRINGS" "Z" (.int cs)) (hcsn : ¬ cs = (0 : Int32)) (zfm : Sta Z Z.heap own_s8 "SIOOBE_FORMATTER" own_s9 fmt) (hfm : fmt.isRef = true) (zad : Sta Z Z.heap own_s3 "$assertionsDisabled" "Z" (.int (1 : Int32))) (P6 : Exa Z h0 r0 own_s3) (P7 : Fld Z h0 r0 own_s3 "root" own_s1 (.ref lk)) (P8 : n0 ≤ r0) (P9 : n0 ≤ lk) (P10 : lk ≠ r0) (P11 : Exa Z h0 lk own_s0) (P12 : Fld Z h0 lk own_s0 "name" own_s7 (.ref nm)) (P13 : Fld Z h0 lk own_s0 "entry" own_s5 (.ref en)) (P14 : Fld Z h0 lk own_s0 "left" own_s1 .null) (P15 : Fld Z h0 lk own_s0 "right" own_s1 .null) (P16 : Fld Z h0 lk own_s0 "size" "I" (.int (1 : Int32))) (P17 : Exa Z h0 r1 own_s2) (P18 : Fld Z h0 r1 own_s2 "coder" "B" (.int (0 : Int32))) (P19 : Fld Z h0 r1 own_s2 "value" "[B" (.ref va)) (P20 : Arv Z h0 va ka .byte (1 : Int32) [(.int x)] (.int (0 : Int32))) (P21 : Exa Z h0 nm own_s2) (P22 : Fld Z h0 nm own_s2 "coder" "B" (.int (0 : Int32))) (P23 : Fld Z h0 nm own_s2 "value" "[B" (.ref vb)) (P24 : Arv Z h0 vb kb .byte (1 : Int32) [(.int y)] (.int (0 : Int32))) (P25 : ¬ (x &&& (255 : Int32)) = (y &&& (255 : Int32))) (P26 : (x &&& (255 : Int32)) < (y &&& (255 : Int32))) :
    own_MF l Z own_y28 prog_24_method_6_code 4 (some (.object own_s4)) ws ({ frames := 5, cells := 1, slots := 5, locals := 73 } : Room) #[(.ref r0), (.ref r1), (.ref r2)] h0 (own_Q10l Z r0 r1 r2 va ka x lk nm vb kb y en cs fmt h0 n0) := by
 refine own_start (plainFor_of_name own_pn5) fun p e s m below meth c s₁ hx hby hret hlk hml hZ hown hnm X0 e0 => ?_
 have N0 := Fr.nil n0
 have K0 : Keep h0 h0 [r0, lk] := Keep.refl h0 _
 rw [own_ef10l]
 refine ownE.go (f' := (mkF m 1 #[.val (.ref r0), .val (.ref r1), .val (.ref r2), .unset] [(.ref r0)])) (fun t kt => XS.aloadN X0.here hx rfl (hb hby own_d10_0) rfl rfl kt) ?_
 obtain ⟨cq1, kq1, q1a, q1b, q1c⟩ := isOf hZ e0 P6
 obtain ⟨_, _, ⟨T1, L1, k1, n1⟩, -, X1, ⟨Lc1, hQ1, l1, y1, z1⟩, st1⟩ := X0.virtualBack hx (y := own_y26) (z := own_y26) hown (mvT hZ (own_w hw 77 rfl)) (mvT hZ (own_w hw 78 rfl)) (notFace_of_selects (args := #[]) (mvT hZ (own_w hw 80 rfl))) (mvT hZ (own_w hw 80 rfl)) (mvT hZ (own_w hw 79 rfl)) (by decide) (backOf (W := 0) (own_rm111 l Z a0 hw [] r0 lk h0 n0 (Nat.le_trans Z0 K0.1) P6 P7 P16) hZ (own_w hw 81 rfl) (own_w hw 28 rfl) (by decide) (by decide)) q1a q1c (g := (mkF m 1 #[.val (.ref r0), .val (.ref r1), .val (.ref r2), .unset] [(.ref r0)])) rfl (by rw [hml]; rfl) (Steps.refl _) (argsL := []) (rest := []) (lenOf own_pd21 rfl) rfl (Nat.le_of_eq rfl) (hb hby own_d10_1) (fun _ _ => ⟨rfl, e0, (by decide : 0 + 0 ≤ _), (by decide : 0 + 0 ≤ _)⟩)
 dsimp only [Pt.U, Pt.locs, Pt.cells, Pt.slots] at X1 l1 y1 z1 st1 hQ1
 subst l1 y1 z1
 obtain ⟨rfl, N1q, e1⟩ := hQ1
 have N1 := Fr.app N0 N1q
 refine ownE.goS st1 ?_
 refine ownE.go (f' := (mkF m 7 #[.val (.ref r0), .val (.ref r1), .val (.ref r2), .val (.int (1 : Int32))] [(.ref r0), (.ref r0)])) (fun t kt => XS.istoreN X1.here hx rfl (hb hby own_d10_4) rfl (l' := #[.val (.ref r0), .val (.ref r1), .val (.ref r2), .val (.int (1 : Int32))]) rfl (XS.aloadN X1.here hx rfl (hb hby own_d10_5) rfl rfl (XS.aloadN X1.here hx rfl (hb hby own_d10_6) rfl rfl kt))) ?_
 obtain ⟨T2, X2, e2, st2⟩ := getF X1 hx hZ hown (host := "") (Or.inl (own_w hw 70 rfl)) Via.refl e1 P7 (g := (mkF m 7 #[.val (.ref r0), .val (.ref r1), .val (.ref r2), .val (.int (1 : Int32))] [(.ref r0), (.ref r0)])) rfl rfl (hb hby own_d10_7)
 refine ownE.go st2 ?_
 obtain ⟨T3, h3, X3, e3, E3, A3, D3, -, st3⟩ := newO X2 hx hZ hown (own_w hw 85 rfl) (own_w hw 86 rfl) (own_w hw 87 rfl) e2 (g := (mkF m 10 #[.val (.ref r0), .val (.ref r1), .val (.ref r2), .val (.int (1 : Int32))] [(.ref lk), (.ref r0)])) rfl (hb hby own_d10_10) (by decide) (by decide)
 obtain ⟨b3, g3⟩ : ∃ z, z = h0.size := ⟨_, rfl⟩
 rw [← g3] at A3 D3 st3
 have ne_r0_b3 : r0 ≠ b3 := Nat.ne_of_lt (Nat.lt_of_lt_of_le P6.lt (Nat.le_of_eq g3.symm))
 have ne_lk_b3 : lk ≠ b3 := Nat.ne_of_lt (Nat.lt_of_lt_of_le P11.lt (Nat.le_of_eq g3.symm))
 have ne_r1_b3 : r1 ≠ b3 := Nat.ne_of_lt (Nat.lt_of_lt_of_le P17.lt (Nat.le_of_eq g3.symm))
 have ne_va_b3 : va ≠ b3 := Nat.ne_of_lt (Nat.lt_of_lt_of_le P20.lt (Nat.le_of_eq g3.symm))
 have ne_nm_b3 : nm ≠ b3 := Nat.ne_of_lt (Nat.lt_of_lt_of_le P21.lt (Nat.le_of_eq g3.symm))
 have ne_vb_b3 : vb ≠ b3 := Nat.ne_of_lt (Nat.lt_of_lt_of_le P24.lt (Nat.le_of_eq g3.symm))
 have sz_b3 : h0.size ≤ b3 := Nat.le_trans K0.1 (Nat.le_of_eq g3.symm)
 have ge_b3 : n0 ≤ b3 := Nat.le_trans Z0 sz_b3
 have q262 := Od.ext E3
 have q263 := P6.ext E3
 have q264 := P7.ext E3
 have q265 := P11.ext E3
 have q266 := P12.ext E3
 have q267 := P13.ext E3
 have q268 := P14.ext E3
 have q269 := P15.ext E3
 have q270 := P16.ext E3
 have q271 := P17.ext E3
 have q272 := P18.ext E3
 have q273 := P19.ext E3
 have q274 := P20.ext E3
 have q275 := P21.ext E3
 have q276 := P22.ext E3
 have q277 := P23.ext E3
 have q278 := P24.ext E3
 have D3_size : Fld Z h3 b3 own_s0 "size" "I" (.int (0 : Int32)) := D3 (Or.inl (own_w hw 93 rfl)) (ty := .int) (by decide)
 have D3_name : Fld Z h3 b3 own_s0 "name" own_s7 .null := D3 (Or.inr (own_w hw 95 rfl)) (ty := (.object own_s2)) (by decide)
 have D3_entry : Fld Z h3 b3 own_s0 "entry" own_s5 .null := D3 (Or.inr (own_w hw 97 rfl)) (ty := (.object own_s4)) (by decide)
 have D3_right : Fld Z h3 b3 own_s0 "right" own_s1 .null := D3 (Or.inl (own_w hw 139 rfl)) (ty := (.object own_s0)) (by decide)
 have D3_left : Fld Z h3 b3 own_s0 "left" own_s1 .null := D3 (Or.inl (own_w hw 144 rfl)) (ty := (.object own_s0)) (by decide)
 have K3 : Keep h0 h3 [r0, lk] := K0.ext E3
 refine ownE.go st3 ?_
 refine ownE.go (f' := (mkF m 16 #[.val (.ref r0), .val (.ref r1), .val (.ref r2), .val (.int (1 : Int32))] [(.ref r2), (.ref r1), (.ref b3), (.ref b3), (.ref lk), (.ref r0)])) (fun t kt => XS.dup X3.here hx rfl (hb hby own_d10_13) rfl rfl (XS.aloadN X3.here hx rfl (hb hby own_d10_14) rfl rfl (XS.aloadN X3.here hx rfl (hb hby own_d10_15) rfl rfl kt))) ?_
 obtain ⟨_, _, ⟨T4, L4, k4, n4⟩, -, X4, ⟨Lc4, hQ4, l4, y4, z4⟩, st4⟩ := own_specialR X3 hx hZ (y := own_y7) rfl hown (own_w hw 88 rfl) (mvT hZ (own_w hw 89 rfl)) (mvT hZ (own_w hw 90 rfl)) (by decide) (backOf (W := 3) (own_rm13 l Z a0 hw [] b3 r1 r2 h3 n0 (Nat.le_trans Z0 K3.1) D3_name D3_entry D3_left D3_right D3_size A3 ge_b3) hZ (own_w hw 90 rfl) (own_w hw 87 rfl) (by decide) (by decide)) (g := (mkF m 16 #[.val (.ref r0), .val (.ref r1), .val (.ref r2), .val (.int (1 : Int32))] [(.ref r2), (.ref r1), (.ref b3), (.ref b3), (.ref lk), (.ref r0)])) rfl (by rw [hml]; rfl) (Steps.refl _) (a := b3) (argsL := [(.ref r1), (.ref r2)]) (rest := [(.ref b3), (.ref lk), (.ref r0)]) (lenOf own_pd29 rfl) rfl (Nat.le_of_eq rfl) (hb hby own_d10_16) (fun _ _ => ⟨rfl, e3, (by decide : 1 + 0 ≤ _), (by decide : 5 + 0 ≤ _)⟩)
 dsimp only [Pt.U, Pt.locs, Pt.cells, Pt.slots] at X4 l4 y4 z4 st4 hQ4
 subst l4 y4 z4
 obtain ⟨rfl, N4q, K4q, f4_0, f4_1, f4_2, f4_3, f4_4, f4_5⟩ := hQ4
 have q279 := q262.keep K4q (allS ge_b3 all0)
 have q280 := q263.keep K4q
 have q281 := q264.keep K4q (ninS ne_r0_b3 nin0)
 have q282 := q265.keep K4q
 have q283 := q266.keep K4q (ninS ne_lk_b3 nin0)
 have q284 := q267.keep K4q (ninS ne_lk_b3 nin0)
 have q285 := q268.keep K4q (ninS ne_lk_b3 nin0)
 have q286 := q269.keep K4q (ninS ne_lk_b3 nin0)
 have q287 := q270.keep K4q (ninS ne_lk_b3 nin0)
 have q288 := q271.keep K4q
 have q289 := q272.keep K4q (ninS ne_r1_b3 nin0)
 have q290 := q273.keep K4q (ninS ne_r1_b3 nin0)
 have q291 := q274.keep K4q (ninS ne_va_b3 nin0)
 have q292 := q275.keep K4q
 have q293 := q276.keep K4q (ninS ne_nm_b3 nin0)
 have q294 := q277.keep K4q (ninS ne_nm_b3 nin0)
 have q295 := q278.keep K4q (ninS ne_vb_b3 nin0)
 have q296 := A3.keep K4q
 have K4 : Keep h0 T4.heap [r0, lk] := K3.trans K4q (allS (Or.inr sz_b3) all0)
 have N4 := Fr.app N1 N4q
 refine ownE.goS st4 ?_
 obtain ⟨_, _, ⟨T5, L5, k5, n5⟩, -, X5, ⟨Lc5, hQ5, l5, y5, z5⟩, st5⟩ := Jvm.LawKit.callS X4 hx (y := own_y24) hown (mvT hZ (own_w hw 98 rfl)) (mvT hZ (own_w hw 99 rfl)) (mvT hZ (own_w hw 28 rfl)) (mvT hZ (own_w hw 100 rfl)) (by decide) (backOf (W := 1) (own_rm14l l Z a0 hw [] lk b3 r1 va ka x nm vb kb y en cs fmt T4.heap n0 (Nat.le_trans Z0 K4.1) q279 hcs hcsn zfm hfm zad f4_1 q288 q289 q290 q291 q292 q293 q294 q295 f4_5 (Ne.symm ne_lk_b3) q282 q283 q284 q285 q286 q287 P9 P25 P26) hZ (own_w hw 100 rfl) (own_w hw 28 rfl) (by decide) (by decide)) (g := (mkF m 19 #[.val (.ref r0), .val (.ref r1), .val (.ref r2), .val (.int (1 : Int32))] [(.ref b3), (.ref lk), (.ref r0)])) rfl (by rw [hml]; rfl) (argsL := [(.ref lk), (.ref b3)]) (rest := [(.ref r0)]) (lenOf own_pd26 rfl) rfl (Nat.le_of_eq rfl) (hb hby own_d10_19) (fun _ _ => ⟨rfl, rfl, (by decide : 1 + 0 ≤ _), (by decide : 5 + 0 ≤ _)⟩)
 dsimp only [Pt.U, Pt.locs, Pt.cells, Pt.slots] at X5 l5 y5 z5 st5 hQ5
 subst l5 y5 z5
 obtain ⟨rfl, N5q, K5q, f5_0, f5_1, f5_2, f5_3, f5_4, f5_5⟩ := hQ5
 have q297 := q279.keep K5q (allS P9 all0)
 have q298 := q280.keep K5q
 have q299 := q281.keep K5q (ninS (Ne.symm P10) nin0)
 have q300 := q282.keep K5q
 have q301 := q288.keep K5q
 have q302 := q292.keep K5q
 have q303 := f4_0.keep K5q
 have q304 := f4_1.keep K5q (ninS (Ne.symm ne_lk_b3) nin0)
 have q305 := f4_2.keep K5q (ninS (Ne.symm ne_lk_b3) nin0)
 have q306 := f4_3.keep K5q (ninS (Ne.symm ne_lk_b3) nin0)
 have q307 := f4_4.keep K5q (ninS (Ne.symm ne_lk_b3) nin0)
 have q308 := f4_5.keep K5q (ninS (Ne.symm ne_lk_b3) nin0)
 have K5 : Keep h0 T5.heap [r0, lk] := K4.trans K5q (allS (Or.inl (List.mem_of_getElem? (i := 1) rfl)) all0)
 have N5 := Fr.app N4 N5q
 refine ownE.go st5 ?_
 obtain ⟨T6, h6, X6, e6, W6, st6⟩ := putF X5 hx hZ hown (host := "") (Or.inl (own_w hw 70 rfl)) Via.refl rfl q299 q298 (Or.inl (own_w hw 71 rfl)) (own_w hw 27 rfl) (ty := (.object own_s0)) (by decide) rfl rfl (g := (mkF m 22 #[.val (.ref r0), .val (.ref r1), .val (.ref r2), .val (.int (1 : Int32))] [(.ref lk), (.ref r0)])) rfl rfl (hb hby own_d10_22)
 have Fw6 : Fld Z h6 r0 own_s3 "root" own_s1 (.ref lk) := q299.same W6
 have q309 := q297.wr W6 P8
 have q310 := q298.wr W6
 have q311 := f5_0.wr W6
 have q312 := q301.wr W6
 have q313 := q302.wr W6
 have q314 := q303.wr W6
 have q315 := q304.other W6 (Or.inl (Ne.symm ne_r0_b3))
 have q316 := q305.other W6 (Or.inl (Ne.symm ne_r0_b3))
 have q317 := q306.other W6 (Or.inl (Ne.symm ne_r0_b3))
 have q318 := q307.other W6 (Or.inl (Ne.symm ne_r0_b3))
 have q319 := q308.other W6 (Or.inl (Ne.symm ne_r0_b3))
 have q320 := f5_1.other W6 (Or.inl P10)
 have q321 := f5_2.other W6 (Or.inl P10)
 have q322 := f5_3.other W6 (Or.inl P10)
 have q323 := f5_4.other W6 (Or.inl P10)
 have q324 := f5_5.other W6 (Or.inl P10)
 have K6 : Keep h0 h6 [r0, lk] := K5.wr W6 (Or.inl (List.mem_of_getElem? (i := 0) rfl))
 have N6 := Fr.snoc X6 N5 P8
 refine ownE.go st6 ?_
 refine ownE.go (f' := (mkF m 26 #[.val (.ref r0), .val (.ref r1), .val (.ref r2), .val (.int (1 : Int32))] [(.ref r0)])) (fun t kt => XS.aloadN X6.here hx rfl (hb hby own_d10_25) rfl rfl kt) ?_
 obtain ⟨cq7, kq7, q7a, q7b, q7c⟩ := isOf hZ e6 q310
 obtain ⟨_, _, ⟨T7, L7, k7, n7⟩, -, X7, ⟨Lc7, hQ7, l7, y7, z7⟩, st7⟩ := X6.virtualBack hx (y := own_y26) (z := own_y26) hown (mvT hZ (own_w hw 77 rfl)) (mvT hZ (own_w hw 78 rfl)) (notFace_of_selects (args := #[]) (mvT hZ (own_w hw 80 rfl))) (mvT hZ (own_w hw 80 rfl)) (mvT hZ (own_w hw 79 rfl)) (by decide) (backOf (W := 0) (own_rm112 l Z a0 hw [] r0 lk h6 n0 (Nat.le_trans Z0 K6.1) q310 Fw6 q324) hZ (own_w hw 81 rfl) (own_w hw 28 rfl) (by decide) (by decide)) q7a q7c (g := (mkF m 26 #[.val (.ref r0), .val (.ref r1), .val (.ref r2), .val (.int (1 : Int32))] [(.ref r0)])) rfl (by rw [hml]; rfl) (Steps.refl _) (argsL := []) (rest := []) (lenOf own_pd21 rfl) rfl (Nat.le_of_eq rfl) (hb hby own_d10_26) (fun _ _ => ⟨rfl, e6, (by decide : 1 + 0 ≤ _), (by decide : 5 + 0 ≤ _)⟩)
 dsimp only [Pt.U, Pt.locs, Pt.cells, Pt.slots] at X7 l7 y7 z7 st7 hQ7
 subst l7 y7 z7
 obtain ⟨rfl, N7q, e7⟩ := hQ7
 have N7 := Fr.app N6 N7q
 refine ownE.goS st7 ?_
 refine ownE.go (f' := (mkF m 42 #[.val (.ref r0), .val (.ref r1), .val (.ref r2), .val (.int (1 : Int32))] [.null])) (fun t kt => XS.iloadN X7.here hx rfl (hb hby own_d10_29) rfl (XS.icmpYes X7.here hx rfl (pc0 := 30) (pc' := 41) rfl (hb hby own_d10_30) rfl (Jvm.Free.XT.ii_ne_t (by decide)) (by decide) (by decide) (XS.aconstNull X7.here hx rfl (hb hby own_d10_41) kt))) ?_
 refine ownE.retA X7 hx hlk hret rfl rfl rfl (hb hby own_d10_42) ?_ (by decide) (by decide)
 show own_Q10l Z r0 r1 r2 va ka x lk nm vb kb y en cs fmt h0 n0 _ T7.heap _
 rw [e7]
 exact ⟨b3, rfl, N7, K6, sz_b3, q310, Fw6, q311, q320, q321, q322, q323, q324, q314, q315, q316, q317, q318, q319⟩
theorem own_ef10g (m : MethodId) (x0 : Addr) (x1 : Addr) (x2 : Addr) : entryFrame m #[(.ref x0), (.ref x1), (.ref x2)] 4 = mkF m 0 #[.val (.ref x0), .val (.ref x1), .val (.ref x2), .unset] [] := by first | (simp [entryFrame, mkF, argsToLocals, Value.category]; done) | rfl
def own_Q10g (Z : State) (r0 : Addr) (r1 : Addr) (r2 : Addr) (va : Addr) (ka : ClassId) (x : Int32) (lk : Addr) (nm : Addr) (vb : Addr) (kb : ClassId) (y : Int32) (en : Addr) (cs : Int32) (fmt : Value) (h0 : Heap) (n0 : Nat) (v : Option Value) (h : Heap) (L : List Loc) : Prop := ∃ nk : Addr, v = some .null ∧ Fr n0 L ∧ Keep h0 h [r0, lk] ∧ h0.size ≤ nk ∧ Exa Z h r0 own_s3 ∧ Fld Z h r0 own_s3 "root" own_s1 (.ref lk) ∧ Exa Z h lk own_s0 ∧ Fld Z h lk own_s0 "name" own_s7 (.ref nm) ∧ Fld Z h lk own_s0 "entry" own_s5 (.ref en) ∧ Fld Z h lk own_s0 "left" own_s1 .null ∧ Fld Z h lk own_s0 "right" own_s1 (.ref nk) ∧ Fld Z h lk own_s0 "size" "I" (.int (2 : Int32)) ∧ Exa Z h nk own_s0 ∧ Fld Z h nk own_s0 "name" own_s7 (.ref r1) ∧ Fld Z h nk own_s0 "entry" own_s5 (.ref r2) ∧ Fld Z h nk own_s0 "left" own_s1 .null ∧ Fld Z h nk own_s0 "right" own_s1 .null ∧ Fld Z h nk own_s0 "size" "I" (.int (1 : Int32))
set_option maxRecDepth 65536 in
set_option maxHeartbeats 40000000 in
theorem own_rm10g (l : Launch) (Z : State) (a0 : Array Value) (hw : ∀ d ∈ tables_1, d.before a0 Z = true) (ws : List Jvm.Cond) (r0 : Addr) (r1 : Addr) (r2 : Addr) (va : Addr) (ka : ClassId) (x : Int32) (lk : Addr) (nm : Addr) (vb : Addr) (kb : ClassId) (y : Int32) (en : Addr) (cs : Int32) (fmt : Value) (h0 : Heap) (n0 : Nat) (Z0 : n0 ≤ h0.size) (Od : Old Z n0 h0) (hcs : Sta Z Z.heap own_s2 "COMPACT_STRINGS" "Z" (.int cs)) (hcsn : ¬ cs = (0 : Int32)) (zfm : Sta Z Z.heap own_s8 "SIOOBE_FORMATTER" own_s9 fmt) (hfm : fmt.isRef = true) (zad : Sta Z Z.heap own_s3 "$assertionsDisabled" "Z" (.int (1 : Int32))) (P6 : Exa Z h0 r0 own_s3) (P7 : Fld Z h0 r0 own_s3 "root" own_s1 (.ref lk)) (P8 : n0 ≤ r0) (P9 : n0 ≤ lk) (P10 : lk ≠ r0) (P11 : Exa Z h0 lk own_s0) (P12 : Fld Z h0 lk own_s0 "name" own_s7 (.ref nm)) (P13 : Fld Z h0 lk own_s0 "entry" own_s5 (.ref en)) (P14 : Fld Z h0 lk own_s0 "left" own_s1 .null) (P15 : Fld Z h0 lk own_s0 "right" own_s1 .null) (P16 : Fld Z h0 lk own_s0 "size" "I" (.int (1 : Int32))) (P17 : Exa Z h0 r1 own_s2) (P18 : Fld Z h0 r1 own_s2 "coder" "B" (.int (0 : Int32))) (P19 : Fld Z h0 r1 own_s2 "value" "[B" (.ref va)) (P20 : Arv Z h0 va ka .byte (1 : Int32) [(.int x)] (.int (0 : Int32))) (P21 : Exa Z h0 nm own_s2) (P22 : Fld Z h0 nm own_s2 "coder" "B" (.int (0 : Int32))) (P23 : Fld Z h0 nm own_s2 "value" "[B" (.ref vb)) (P24 : Arv Z h0 vb kb .byte (1 : Int32) [(.int y)] (.int (0 : Int32))) (P25 : ¬ (x &&& (255 : Int32)) = (y &&& (255 : Int32))) (P26 : ¬ (x &&& (255 : Int32)) < (y &&& (255 : Int32))) :
    own_MF l Z own_y28 prog_24_method_6_code 4 (some (.object own_s4)) ws ({ frames := 5, cells := 1, slots := 5, locals := 73 } : Room) #[(.ref r0), (.ref r1), (.ref r2)] h0 (own_Q10g Z r0 r1 r2 va ka x lk nm vb kb y en cs fmt h0 n0) := by
 refine own_start (plainFor_of_name own_pn5) fun p e s m below meth c s₁ hx hby hret hlk hml hZ hown hnm X0 e0 => ?_
 have N0 := Fr.nil n0
 have K0 : Keep h0 h0 [r0, lk] := Keep.refl h0 _
 rw [own_ef10g]
 refine ownE.go (f' := (mkF m 1 #[.val (.ref r0), .val (.ref r1), .val (.ref r2), .unset] [(.ref r0)])) (fun t kt => XS.aloadN X0.here hx rfl (hb hby own_d10_0) rfl rfl kt) ?_
 obtain ⟨cq1, kq1, q1a, q1b, q1c⟩ := isOf hZ e0 P6
 obtain ⟨_, _, ⟨T1, L1, k1, n1⟩, -, X1, ⟨Lc1, hQ1, l1, y1, z1⟩, st1⟩ := X0.virtualBack hx (y := own_y26) (z := own_y26) hown (mvT hZ (own_w hw 77 rfl)) (mvT hZ (own_w hw 78 rfl)) (notFace_of_selects (args := #[]) (mvT hZ (own_w hw 80 rfl))) (mvT hZ (own_w hw 80 rfl)) (mvT hZ (own_w hw 79 rfl)) (by decide) (backOf (W := 0) (own_rm111 l Z a0 hw [] r0 lk h0 n0 (Nat.le_trans Z0 K0.1) P6 P7 P16) hZ (own_w hw 81 rfl) (own_w hw 28 rfl) (by decide) (by decide)) q1a q1c (g := (mkF m 1 #[.val (.ref r0), .val (.ref r1), .val (.ref r2), .unset] [(.ref r0)])) rfl (by rw [hml]; rfl) (Steps.refl _) (argsL := []) (rest := []) (lenOf own_pd21 rfl) rfl (Nat.le_of_eq rfl) (hb hby own_d10_1) (fun _ _ => ⟨rfl, e0, (by decide : 0 + 0 ≤ _), (by decide : 0 + 0 ≤ _)⟩)
 dsimp only [Pt.U, Pt.locs, Pt.cells, Pt.slots] at X1 l1 y1 z1 st1 hQ1
 subst l1 y1 z1
 obtain ⟨rfl, N1q, e1⟩ := hQ1
 have N1 := Fr.app N0 N1q
 refine ownE.goS st1 ?_
 refine ownE.go (f' := (mkF m 7 #[.val (.ref r0), .val (.ref r1), .val (.ref r2), .val (.int (1 : Int32))] [(.ref r0), (.ref r0)])) (fun t kt => XS.istoreN X1.here hx rfl (hb hby own_d10_4) rfl (l' := #[.val (.ref r0), .val (.ref r1), .val (.ref r2), .val (.int (1 : Int32))]) rfl (XS.aloadN X1.here hx rfl (hb hby own_d10_5) rfl rfl (XS.aloadN X1.here hx rfl (hb hby own_d10_6) rfl rfl kt))) ?_
 obtain ⟨T2, X2, e2, st2⟩ := getF X1 hx hZ hown (host := "") (Or.inl (own_w hw 70 rfl)) Via.refl e1 P7 (g := (mkF m 7 #[.val (.ref r0), .val (.ref r1), .val (.ref r2), .val (.int (1 : Int32))] [(.ref r0), (.ref r0)])) rfl rfl (hb hby own_d10_7)
 refine ownE.go st2 ?_
 obtain ⟨T3, h3, X3, e3, E3, A3, D3, -, st3⟩ := newO X2 hx hZ hown (own_w hw 85 rfl) (own_w hw 86 rfl) (own_w hw 87 rfl) e2 (g := (mkF m 10 #[.val (.ref r0), .val (.ref r1), .val (.ref r2), .val (.int (1 : Int32))] [(.ref lk), (.ref r0)])) rfl (hb hby own_d10_10) (by decide) (by decide)
 obtain ⟨b3, g3⟩ : ∃ z, z = h0.size := ⟨_, rfl⟩
 rw [← g3] at A3 D3 st3
 have ne_r0_b3 : r0 ≠ b3 := Nat.ne_of_lt (Nat.lt_of_lt_of_le P6.lt (Nat.le_of_eq g3.symm))
 have ne_lk_b3 : lk ≠ b3 := Nat.ne_of_lt (Nat.lt_of_lt_of_le P11.lt (Nat.le_of_eq g3.symm))
 have ne_r1_b3 : r1 ≠ b3 := Nat.ne_of_lt (Nat.lt_of_lt_of_le P17.lt (Nat.le_of_eq g3.symm))
 have ne_va_b3 : va ≠ b3 := Nat.ne_of_lt (Nat.lt_of_lt_of_le P20.lt (Nat.le_of_eq g3.symm))
 have ne_nm_b3 : nm ≠ b3 := Nat.ne_of_lt (Nat.lt_of_lt_of_le P21.lt (Nat.le_of_eq g3.symm))
 have ne_vb_b3 : vb ≠ b3 := Nat.ne_of_lt (Nat.lt_of_lt_of_le P24.lt (Nat.le_of_eq g3.symm))
 have sz_b3 : h0.size ≤ b3 := Nat.le_trans K0.1 (Nat.le_of_eq g3.symm)
 have ge_b3 : n0 ≤ b3 := Nat.le_trans Z0 sz_b3
 have q325 := Od.ext E3
 have q326 := P6.ext E3
 have q327 := P7.ext E3
 have q328 := P11.ext E3
 have q329 := P12.ext E3
 have q330 := P13.ext E3
 have q331 := P14.ext E3
 have q332 := P15.ext E3
 have q333 := P16.ext E3
 have q334 := P17.ext E3
 have q335 := P18.ext E3
 have q336 := P19.ext E3
 have q337 := P20.ext E3
 have q338 := P21.ext E3
 have q339 := P22.ext E3
 have q340 := P23.ext E3
 have q341 := P24.ext E3
 have D3_size : Fld Z h3 b3 own_s0 "size" "I" (.int (0 : Int32)) := D3 (Or.inl (own_w hw 93 rfl)) (ty := .int) (by decide)
 have D3_name : Fld Z h3 b3 own_s0 "name" own_s7 .null := D3 (Or.inr (own_w hw 95 rfl)) (ty := (.object own_s2)) (by decide)
 have D3_entry : Fld Z h3 b3 own_s0 "entry" own_s5 .null := D3 (Or.inr (own_w hw 97 rfl)) (ty := (.object own_s4)) (by decide)
 have D3_right : Fld Z h3 b3 own_s0 "right" own_s1 .null := D3 (Or.inl (own_w hw 139 rfl)) (ty := (.object own_s0)) (by decide)
 have D3_left : Fld Z h3 b3 own_s0 "left" own_s1 .null := D3 (Or.inl (own_w hw 144 rfl)) (ty := (.object own_s0)) (by decide)
 have K3 : Keep h0 h3 [r0, lk] := K0.ext E3
 refine ownE.go st3 ?_
 refine ownE.go (f' := (mkF m 16 #[.val (.ref r0), .val (.ref r1), .val (.ref r2), .val (.int (1 : Int32))] [(.ref r2), (.ref r1), (.ref b3), (.ref b3), (.ref lk), (.ref r0)])) (fun t kt => XS.dup X3.here hx rfl (hb hby own_d10_13) rfl rfl (XS.aloadN X3.here hx rfl (hb hby own_d10_14) rfl rfl (XS.aloadN X3.here hx rfl (hb hby own_d10_15) rfl rfl kt))) ?_
 obtain ⟨_, _, ⟨T4, L4, k4, n4⟩, -, X4, ⟨Lc4, hQ4, l4, y4, z4⟩, st4⟩ := own_specialR X3 hx hZ (y := own_y7) rfl hown (own_w hw 88 rfl) (mvT hZ (own_w hw 89 rfl)) (mvT hZ (own_w hw 90 rfl)) (by decide) (backOf (W := 3) (own_rm13 l Z a0 hw [] b3 r1 r2 h3 n0 (Nat.le_trans Z0 K3.1) D3_name D3_entry D3_left D3_right D3_size A3 ge_b3) hZ (own_w hw 90 rfl) (own_w hw 87 rfl) (by decide) (by decide)) (g := (mkF m 16 #[.val (.ref r0), .val (.ref r1), .val (.ref r2), .val (.int (1 : Int32))] [(.ref r2), (.ref r1), (.ref b3), (.ref b3), (.ref lk), (.ref r0)])) rfl (by rw [hml]; rfl) (Steps.refl _) (a := b3) (argsL := [(.ref r1), (.ref r2)]) (rest := [(.ref b3), (.ref lk), (.ref r0)]) (lenOf own_pd29 rfl) rfl (Nat.le_of_eq rfl) (hb hby own_d10_16) (fun _ _ => ⟨rfl, e3, (by decide : 1 + 0 ≤ _), (by decide : 5 + 0 ≤ _)⟩)
 dsimp only [Pt.U, Pt.locs, Pt.cells, Pt.slots] at X4 l4 y4 z4 st4 hQ4
 subst l4 y4 z4
 obtain ⟨rfl, N4q, K4q, f4_0, f4_1, f4_2, f4_3, f4_4, f4_5⟩ := hQ4
 have q342 := q325.keep K4q (allS ge_b3 all0)
 have q343 := q326.keep K4q
 have q344 := q327.keep K4q (ninS ne_r0_b3 nin0)
 have q345 := q328.keep K4q
 have q346 := q329.keep K4q (ninS ne_lk_b3 nin0)
 have q347 := q330.keep K4q (ninS ne_lk_b3 nin0)
 have q348 := q331.keep K4q (ninS ne_lk_b3 nin0)
 have q349 := q332.keep K4q (ninS ne_lk_b3 nin0)
 have q350 := q333.keep K4q (ninS ne_lk_b3 nin0)
 have q351 := q334.keep K4q
 have q352 := q335.keep K4q (ninS ne_r1_b3 nin0)
 have q353 := q336.keep K4q (ninS ne_r1_b3 nin0)
 have q354 := q337.keep K4q (ninS ne_va_b3 nin0)
 have q355 := q338.keep K4q
 have q356 := q339.keep K4q (ninS ne_nm_b3 nin0)
 have q357 := q340.keep K4q (ninS ne_nm_b3 nin0)
 have q358 := q341.keep K4q (ninS ne_vb_b3 nin0)
 have q359 := A3.keep K4q
 have K4 : Keep h0 T4.heap [r0, lk] := K3.trans K4q (allS (Or.inr sz_b3) all0)
 have N4 := Fr.app N1 N4q
 refine ownE.goS st4 ?_
 obtain ⟨_, _, ⟨T5, L5, k5, n5⟩, -, X5, ⟨Lc5, hQ5, l5, y5, z5⟩, st5⟩ := Jvm.LawKit.callS X4 hx (y := own_y24) hown (mvT hZ (own_w hw 98 rfl)) (mvT hZ (own_w hw 99 rfl)) (mvT hZ (own_w hw 28 rfl)) (mvT hZ (own_w hw 100 rfl)) (by decide) (backOf (W := 1) (own_rm14g l Z a0 hw [] lk b3 r1 va ka x nm vb kb y en cs fmt T4.heap n0 (Nat.le_trans Z0 K4.1) q342 hcs hcsn zfm hfm zad f4_1 q351 q352 q353 q354 q355 q356 q357 q358 f4_5 (Ne.symm ne_lk_b3) q345 q346 q347 q348 q349 q350 P9 P25 P26) hZ (own_w hw 100 rfl) (own_w hw 28 rfl) (by decide) (by decide)) (g := (mkF m 19 #[.val (.ref r0), .val (.ref r1), .val (.ref r2), .val (.int (1 : Int32))] [(.ref b3), (.ref lk), (.ref r0)])) rfl (by rw [hml]; rfl) (argsL := [(.ref lk), (.ref b3)]) (rest := [(.ref r0)]) (lenOf own_pd26 rfl) rfl (Nat.le_of_eq rfl) (hb hby own_d10_19) (fun _ _ => ⟨rfl, rfl, (by decide : 1 + 0 ≤ _), (by decide : 5 + 0 ≤ _)⟩)
 dsimp only [Pt.U, Pt.locs, Pt.cells, Pt.slots] at X5 l5 y5 z5 st5 hQ5
 subst l5 y5 z5
 obtain ⟨rfl, N5q, K5q, f5_0, f5_1, f5_2, f5_3, f5_4, f5_5⟩ := hQ5
 have q360 := q342.keep K5q (allS P9 all0)
 have q361 := q343.keep K5q
 have q362 := q344.keep K5q (ninS (Ne.symm P10) nin0)
 have q363 := q345.keep K5q
 have q364 := q351.keep K5q
 have q365 := q355.keep K5q
 have q366 := f4_0.keep K5q
 have q367 := f4_1.keep K5q (ninS (Ne.symm ne_lk_b3) nin0)
 have q368 := f4_2.keep K5q (ninS (Ne.symm ne_lk_b3) nin0)
 have q369 := f4_3.keep K5q (ninS (Ne.symm ne_lk_b3) nin0)
 have q370 := f4_4.keep K5q (ninS (Ne.symm ne_lk_b3) nin0)
 have q371 := f4_5.keep K5q (ninS (Ne.symm ne_lk_b3) nin0)
 have K5 : Keep h0 T5.heap [r0, lk] := K4.trans K5q (allS (Or.inl (List.mem_of_getElem? (i := 1) rfl)) all0)
 have N5 := Fr.app N4 N5q
 refine ownE.go st5 ?_
 obtain ⟨T6, h6, X6, e6, W6, st6⟩ := putF X5 hx hZ hown (host := "") (Or.inl (own_w hw 70 rfl)) Via.refl rfl q362 q361 (Or.inl (own_w hw 71 rfl)) (own_w hw 27 rfl) (ty := (.object own_s0)) (by decide) rfl rfl (g := (mkF m 22 #[.val (.ref r0), .val (.ref r1), .val (.ref r2), .val (.int (1 : Int32))] [(.ref lk), (.ref r0)])) rfl rfl (hb hby own_d10_22)
 have Fw6 : Fld Z h6 r0 own_s3 "root" own_s1 (.ref lk) := q362.same W6
 have q372 := q360.wr W6 P8
 have q373 := q361.wr W6
 have q374 := f5_0.wr W6
 have q375 := q364.wr W6
 have q376 := q365.wr W6
 have q377 := q366.wr W6
 have q378 := q367.other W6 (Or.inl (Ne.symm ne_r0_b3))
 have q379 := q368.other W6 (Or.inl (Ne.symm ne_r0_b3))
 have q380 := q369.other W6 (Or.inl (Ne.symm ne_r0_b3))
 have q381 := q370.other W6 (Or.inl (Ne.symm ne_r0_b3))
 have q382 := q371.other W6 (Or.inl (Ne.symm ne_r0_b3))
 have q383 := f5_1.other W6 (Or.inl P10)
 have q384 := f5_2.other W6 (Or.inl P10)
 have q385 := f5_3.other W6 (Or.inl P10)
 have q386 := f5_4.other W6 (Or.inl P10)
 have q387 := f5_5.other W6 (Or.inl P10)
 have K6 : Keep h0 h6 [r0, lk] := K5.wr W6 (Or.inl (List.mem_of_getElem? (i := 0) rfl))
 have N6 := Fr.snoc X6 N5 P8
 refine ownE.go st6 ?_
 refine ownE.go (f' := (mkF m 26 #[.val (.ref r0), .val (.ref r1), .val (.ref r2), .val (.int (1 : Int32))] [(.ref r0)])) (fun t kt => XS.aloadN X6.here hx rfl (hb hby own_d10_25) rfl rfl kt) ?_
 obtain ⟨cq7, kq7, q7a, q7b, q7c⟩ := isOf hZ e6 q373
 obtain ⟨_, _, ⟨T7, L7, k7, n7⟩, -, X7, ⟨Lc7, hQ7, l7, y7, z7⟩, st7⟩ := X6.virtualBack hx (y := own_y26) (z := own_y26) hown (mvT hZ (own_w hw 77 rfl)) (mvT hZ (own_w hw 78 rfl)) (notFace_of_selects (args := #[]) (mvT hZ (own_w hw 80 rfl))) (mvT hZ (own_w hw 80 rfl)) (mvT hZ (own_w hw 79 rfl)) (by decide) (backOf (W := 0) (own_rm112 l Z a0 hw [] r0 lk h6 n0 (Nat.le_trans Z0 K6.1) q373 Fw6 q387) hZ (own_w hw 81 rfl) (own_w hw 28 rfl) (by decide) (by decide)) q7a q7c (g := (mkF m 26 #[.val (.ref r0), .val (.ref r1), .val (.ref r2), .val (.int (1 : Int32))] [(.ref r0)])) rfl (by rw [hml]; rfl) (Steps.refl _) (argsL := []) (rest := []) (lenOf own_pd21 rfl) rfl (Nat.le_of_eq rfl) (hb hby own_d10_26) (fun _ _ => ⟨rfl, e6, (by decide : 1 + 0 ≤ _), (by decide : 5 + 0 ≤ _)⟩)
 dsimp only [Pt.U, Pt.locs, Pt.cells, Pt.slots] at X7 l7 y7 z7 st7 hQ7
 subst l7 y7 z7
 obtain ⟨rfl, N7q, e7⟩ := hQ7
 have N7 := Fr.app N6 N7q
 refine ownE.goS st7 ?_
 refine ownE.go (f' := (mkF m 42 #[.val (.ref r0), .val (.ref r1), .val (.ref r2), .val (.int (1 : Int32))] [.null])) (fun t kt => XS.iloadN X7.here hx rfl (hb hby own_d10_29) rfl (XS.icmpYes X7.here hx rfl (pc0 := 30) (pc' := 41) rfl (hb hby own_d10_30) rfl (Jvm.Free.XT.ii_ne_t (by decide)) (by decide) (by decide) (XS.aconstNull X7.here hx rfl (hb hby own_d10_41) kt))) ?_
 refine ownE.retA X7 hx hlk hret rfl rfl rfl (hb hby own_d10_42) ?_ (by decide) (by decide)
 show own_Q10g Z r0 r1 r2 va ka x lk nm vb kb y en cs fmt h0 n0 _ T7.heap _
 rw [e7]
 exact ⟨b3, rfl, N7, K6, sz_b3, q373, Fw6, q374, q383, q384, q385, q386, q387, q377, q378, q379, q380, q381, q382⟩
theorem own_d27_0 : decode prog_24_method_7_code 0 = .ok (.aload_n 0, 1) := by decide +kernel
theorem own_d27_1 : decode prog_24_method_7_code 1 = .ok (.aload_n 1, 1) := by decide +kernel
theorem own_d27_2 : decode prog_24_method_7_code 2 = .ok (.invokevirtual 37, 3) := by decide +kernel
theorem own_d27_5 : decode prog_24_method_7_code 5 = .ok (.astore_n 2, 1) := by decide +kernel
theorem own_d27_6 : decode prog_24_method_7_code 6 = .ok (.aload_n 2, 1) := by decide +kernel
theorem own_d27_7 : decode prog_24_method_7_code 7 = .ok (.ifnull 15, 3) := by decide +kernel
theorem own_d27_22 : decode prog_24_method_7_code 22 = .ok (.aload_n 2, 1) := by decide +kernel
theorem own_d27_23 : decode prog_24_method_7_code 23 = .ok (.areturn, 1) := by decide +kernel
theorem own_ef270 (m : MethodId) (x0 : Addr) (x1 : Addr) : entryFrame m #[(.ref x0), (.ref x1)] 3 = mkF m 0 #[.val (.ref x0), .val (.ref x1), .unset] [] := by first | (simp [entryFrame, mkF, argsToLocals, Value.category]; done) | rfl
def own_Q270 (Z : State) (r0 : Addr) (r1 : Addr) (h0 : Heap) (n0 : Nat) (v : Option Value) (h : Heap) (L : List Loc) : Prop := v = some .null ∧ Fr n0 L ∧ h = h0
abbrev own_y29 : MethodName := (⟨"com/example/quayside/quayside/core/Entries", "remove", "(Ljava/lang/String;)Lcom/example/quayside/quayside/core/Entry;"⟩ : MethodName)
set_option maxRecDepth 65536 in
set_option maxHeartbeats 40000000 in
theorem own_rm270 (l : Launch) (Z : State) (a0 : Array Value) (hw : ∀ d ∈ tables_1, d.before a0 Z = true) (ws : List Jvm.Cond) (r0 : Addr) (r1 : Addr) (h0 : Heap) (n0 : Nat) (Z0 : n0 ≤ h0.size) (P0 : Exa Z h0 r0 own_s3) (P1 : Fld Z h0 r0 own_s3 "root" own_s1 .null) :
    own_MF l Z own_y29 prog_24_method_7_code 3 (some (.object own_s4)) ws ({ frames := 1, cells := 0, slots := 0, locals := 15 } : Room) #[(.ref r0), (.ref r1)] h0 (own_Q270 Z r0 r1 h0 n0) := by
 refine own_start (plainFor_of_name own_pn5) fun p e s m below meth c s₁ hx hby hret hlk hml hZ hown hnm X0 e0 => ?_
 have N0 := Fr.nil n0
 have K0 : Keep h0 h0 [] := Keep.refl h0 _
 rw [own_ef270]
 refine ownE.go (f' := (mkF m 2 #[.val (.ref r0), .val (.ref r1), .unset] [(.ref r1), (.ref r0)])) (fun t kt => XS.aloadN X0.here hx rfl (hb hby own_d27_0) rfl rfl (XS.aloadN X0.here hx rfl (hb hby own_d27_1) rfl rfl kt)) ?_
 obtain ⟨cq1, kq1, q1a, q1b, q1c⟩ := isOf hZ e0 P0
 obtain ⟨_, _, ⟨T1, L1, k1, n1⟩, -, X1, ⟨Lc1, hQ1, l1, y1, z1⟩, st1⟩ := X0.virtualBack hx (y := own_y23) (z := own_y23) hown (mvT hZ (own_w hw 162 rfl)) (mvT hZ (own_w hw 163 rfl)) (notFace_of_selects (args := #[]) (mvT hZ (own_w hw 165 rfl))) (mvT hZ (own_w hw 165 rfl)) (mvT hZ (own_w hw 164 rfl)) (by decide) (backOf (W := 0) (own_rm280 l Z a0 hw [] r0 r1 h0 n0 (Nat.le_trans Z0 K0.1) P0 P1) hZ (own_w hw 166 rfl) (own_w hw 28 rfl) (by decide) (by decide)) q1a q1c (g := (mkF m 2 #[.val (.ref r0), .val (.ref r1), .unset] [(.ref r1), (.ref r0)])) rfl (by rw [hml]; rfl) (Steps.refl _) (argsL := [(.ref r1)]) (rest := []) (lenOf own_pd30 rfl) rfl (Nat.le_of_eq rfl) (hb hby own_d27_2) (fun _ _ => ⟨rfl, e0, (by decide : 0 + 0 ≤ _), (by decide : 0 + 0 ≤ _)⟩)
 dsimp only [Pt.U, Pt.locs, Pt.cells, Pt.slots] at X1 l1 y1 z1 st1 hQ1
 subst l1 y1 z1
 obtain ⟨rfl, N1q, e1⟩ := hQ1
 have N1 := Fr.app N0 N1q
 refine ownE.goS st1 ?_
 refine ownE.go (f' := (mkF m 23 #[.val (.ref r0), .val (.ref r1), .val .null] [.null])) (fun t kt => XS.astoreN X1.here hx rfl (hb hby own_d27_5) rfl rfl (l' := #[.val (.ref r0), .val (.ref r1), .val .null]) rfl (XS.aloadN X1.here hx rfl (hb hby own_d27_6) rfl rfl (XS.ifnullYes X1.here hx rfl (pc0 := 7) (pc' := 22) rfl (hb hby own_d27_7) rfl (by decide) (by decide) (XS.aloadN X1.here hx rfl (hb hby own_d27_22) rfl rfl kt)))) ?_
 refine ownE.retA X1 hx hlk hret rfl rfl rfl (hb hby own_d27_23) ?_ (by decide) (by decide)
 show own_Q270 Z r0 r1 h0 n0 _ T1.heap _
 rw [e1]
 exact ⟨rfl, N1, rfl⟩
theorem own_d27_10 : decode prog_24_method_7_code 10 = .ok (.aload_n 0, 1) := by decide +kernel
theorem own_d27_11 : decode prog_24_method_7_code 11 = .ok (.aload_n 0, 1) := by decide +kernel
theorem own_d27_12 : decode prog_24_method_7_code 12 = .ok (.getfield 7, 3) := by decide +kernel
theorem own_d27_15 : decode prog_24_method_7_code 15 = .ok (.aload_n 1, 1) := by decide +kernel
theorem own_d27_16 : decode prog_24_method_7_code 16 = .ok (.invokestatic 51, 3) := by decide +kernel
theorem own_d27_19 : decode prog_24_method_7_code 19 = .ok (.putfield 7, 3) := by decide +kernel
theorem own_ef271e (m : MethodId) (x0 : Addr) (x1 : Addr) : entryFrame m #[(.ref x0), (.ref x1)] 3 = mkF m 0 #[.val (.ref x0), .val (.ref x1), .unset] [] := by first | (simp [entryFrame, mkF, argsToLocals, Value.category]; done) | rfl
def own_Q271e (Z : State) (r0 : Addr) (r1 : Addr) (va : Addr) (ka : ClassId) (x : Int32) (lk : Addr) (nm : Addr) (vb : Addr) (kb : ClassId) (y : Int32) (en : Addr) (cs : Int32) (fmt : Value) (h0 : Heap) (n0 : Nat) (v : Option Value) (h : Heap) (L : List Loc) : Prop := v = some (.ref en) ∧ Fr n0 L ∧ Keep h0 h [r0] ∧ Exa Z h r0 own_s3 ∧ Fld Z h r0 own_s3 "root" own_s1 .null
set_option maxRecDepth 65536 in
set_option maxHeartbeats 40000000 in
theorem own_rm271e (l : Launch) (Z : State) (a0 : Array Value) (hw : ∀ d ∈ tables_1, d.before a0 Z = true) (ws : List Jvm.Cond) (r0 : Addr) (r1 : Addr) (va : Addr) (ka : ClassId) (x : Int32) (lk : Addr) (nm : Addr) (vb : Addr) (kb : ClassId) (y : Int32) (en : Addr) (cs : Int32) (fmt : Value) (h0 : Heap) (n0 : Nat) (Z0 : n0 ≤ h0.size) (Od : Old Z n0 h0) (hcs : Sta Z Z.heap own_s2 "COMPACT_STRINGS" "Z" (.int cs)) (hcsn : ¬ cs = (0 : Int32)) (zfm : Sta Z Z.heap own_s8 "SIOOBE_FORMATTER" own_s9 fmt) (hfm : fmt.isRef = true) (P5 : Exa Z h0 r0 own_s3) (P6 : Fld Z h0 r0 own_s3 "root" own_s1 (.ref lk)) (P7 : n0 ≤ r0) (P8 : Fld Z h0 lk own_s0 "name" own_s7 (.ref nm)) (P9 : Fld Z h0 lk own_s0 "entry" own_s5 (.ref en)) (P10 : Fld Z h0 lk own_s0 "left" own_s1 .null) (P11 : Fld Z h0 lk own_s0 "right" own_s1 .null) (P12 : Exa Z h0 r1 own_s2) (P13 : Fld Z h0 r1 own_s2 "coder" "B" (.int (0 : Int32))) (P14 : Fld Z h0 r1 own_s2 "value" "[B" (.ref va)) (P15 : Arv Z h0 va ka .byte (1 : Int32) [(.int x)] (.int (0 : Int32))) (P16 : Exa Z h0 nm own_s2) (P17 : Fld Z h0 nm own_s2 "coder" "B" (.int (0 : Int32))) (P18 : Fld Z h0 nm own_s2 "value" "[B" (.ref vb)) (P19 : Arv Z h0 vb kb .byte (1 : Int32) [(.int y)] (.int (0 : Int32))) (P20 : (x &&& (255 : Int32)) = (y &&& (255 : Int32))) :
    own_MF l Z own_y29 prog_24_method_7_code 3 (some (.object own_s4)) ws ({ frames := 5, cells := 0, slots := 0, locals := 74 } : Room) #[(.ref r0), (.ref r1)] h0 (own_Q271e Z r0 r1 va ka x lk nm vb kb y en cs fmt h0 n0) := by
 refine own_start (plainFor_of_name own_pn5) fun p e s m below meth c s₁ hx hby hret hlk hml hZ hown hnm X0 e0 => ?_
 have N0 := Fr.nil n0
 have K0 : Keep h0 h0 [r0] := Keep.refl h0 _
 rw [own_ef271e]
 refine ownE.go (f' := (mkF m 2 #[.val (.ref r0), .val (.ref r1), .unset] [(.ref r1), (.ref r0)])) (fun t kt => XS.aloadN X0.here hx rfl (hb hby own_d27_0) rfl rfl (XS.aloadN X0.here hx rfl (hb hby own_d27_1) rfl rfl kt)) ?_
 obtain ⟨cq1, kq1, q1a, q1b, q1c⟩ := isOf hZ e0 P5
 obtain ⟨_, _, ⟨T1, L1, k1, n1⟩, -, X1, ⟨Lc1, hQ1, l1, y1, z1⟩, st1⟩ := X0.virtualBack hx (y := own_y23) (z := own_y23) hown (mvT hZ (own_w hw 162 rfl)) (mvT hZ (own_w hw 163 rfl)) (notFace_of_selects (args := #[]) (mvT hZ (own_w hw 165 rfl))) (mvT hZ (own_w hw 165 rfl)) (mvT hZ (own_w hw 164 rfl)) (by decide) (backOf (W := 0) (own_rm28e l Z a0 hw [] r0 r1 va ka x lk nm vb kb y en cs fmt h0 n0 (Nat.le_trans Z0 K0.1) Od hcs hcsn zfm hfm P5 P6 P8 P9 P12 P13 P14 P15 P16 P17 P18 P19 P20) hZ (own_w hw 166 rfl) (own_w hw 28 rfl) (by decide) (by decide)) q1a q1c (g := (mkF m 2 #[.val (.ref r0), .val (.ref r1), .unset] [(.ref r1), (.ref r0)])) rfl (by rw [hml]; rfl) (Steps.refl _) (argsL := [(.ref r1)]) (rest := []) (lenOf own_pd30 rfl) rfl (Nat.le_of_eq rfl) (hb hby own_d27_2) (fun _ _ => ⟨rfl, e0, (by decide : 0 + 0 ≤ _), (by decide : 0 + 0 ≤ _)⟩)
 dsimp only [Pt.U, Pt.locs, Pt.cells, Pt.slots] at X1 l1 y1 z1 st1 hQ1
 subst l1 y1 z1
 obtain ⟨rfl, N1q, e1⟩ := hQ1
 have N1 := Fr.app N0 N1q
 refine ownE.goS st1 ?_
 refine ownE.go (f' := (mkF m 12 #[.val (.ref r0), .val (.ref r1), .val (.ref en)] [(.ref r0), (.ref r0)])) (fun t kt => XS.astoreN X1.here hx rfl (hb hby own_d27_5) rfl rfl (l' := #[.val (.ref r0), .val (.ref r1), .val (.ref en)]) rfl (XS.aloadN X1.here hx rfl (hb hby own_d27_6) rfl rfl (XS.ifnullNo X1.here hx rfl (hb hby own_d27_7) rfl (XS.aloadN X1.here hx rfl (hb hby own_d27_10) rfl rfl (XS.aloadN X1.here hx rfl (hb hby own_d27_11) rfl rfl kt))))) ?_
 obtain ⟨T2, X2, e2, st2⟩ := getF X1 hx hZ hown (host := "") (Or.inl (own_w hw 70 rfl)) Via.refl e1 P6 (g := (mkF m 12 #[.val (.ref r0), .val (.ref r1), .val (.ref en)] [(.ref r0), (.ref r0)])) rfl rfl (hb hby own_d27_12)
 refine ownE.go st2 ?_
 refine ownE.go (f' := (mkF m 16 #[.val (.ref r0), .val (.ref r1), .val (.ref en)] [(.ref r1), (.ref lk), (.ref r0)])) (fun t kt => XS.aloadN X2.here hx rfl (hb hby own_d27_15) rfl rfl kt) ?_
 obtain ⟨_, _, ⟨T3, L3, k3, n3⟩, -, X3, ⟨Lc3, hQ3, l3, y3, z3⟩, st3⟩ := Jvm.LawKit.callS X2 hx (y := own_y25) hown (mvT hZ (own_w hw 177 rfl)) (mvT hZ (own_w hw 178 rfl)) (mvT hZ (own_w hw 28 rfl)) (mvT hZ (own_w hw 179 rfl)) (by decide) (backOf (W := 1) (own_rm311 l Z a0 hw [] lk r1 va ka x nm vb kb y cs fmt h0 n0 (Nat.le_trans Z0 K0.1) Od hcs hcsn zfm hfm P8 P10 P11 P12 P13 P14 P15 P16 P17 P18 P19 P20) hZ (own_w hw 179 rfl) (own_w hw 28 rfl) (by decide) (by decide)) (g := (mkF m 16 #[.val (.ref r0), .val (.ref r1), .val (.ref en)] [(.ref r1), (.ref lk), (.ref r0)])) rfl (by rw [hml]; rfl) (argsL := [(.ref lk), (.ref r1)]) (rest := [(.ref r0)]) (lenOf own_pd28 rfl) rfl (Nat.le_of_eq rfl) (hb hby own_d27_16) (fun _ _ => ⟨rfl, e2, (by decide : 0 + 0 ≤ _), (by decide : 0 + 0 ≤ _)⟩)
 dsimp only [Pt.U, Pt.locs, Pt.cells, Pt.slots] at X3 l3 y3 z3 st3 hQ3
 subst l3 y3 z3
 obtain ⟨rfl, N3q, e3⟩ := hQ3
 have N3 := Fr.app N1 N3q
 refine ownE.go st3 ?_
 obtain ⟨T4, h4, X4, e4, W4, st4⟩ := putF X3 hx hZ hown (host := "") (Or.inl (own_w hw 70 rfl)) Via.refl e3 P6 P5 (Or.inl (own_w hw 71 rfl)) (own_w hw 27 rfl) (ty := (.object own_s0)) (by decide) rfl rfl (g := (mkF m 19 #[.val (.ref r0), .val (.ref r1), .val (.ref en)] [.null, (.ref r0)])) rfl rfl (hb hby own_d27_19)
 have Fw4 : Fld Z h4 r0 own_s3 "root" own_s1 .null := P6.same W4
 have q388 := Od.wr W4 P7
 have q389 := P5.wr W4
 have q390 := P12.wr W4
 have q391 := P16.wr W4
 have K4 : Keep h0 h4 [r0] := K0.wr W4 (Or.inl (List.mem_of_getElem? (i := 0) rfl))
 have N4 := Fr.snoc X4 N3 P7
 refine ownE.go st4 ?_
 refine ownE.go (f' := (mkF m 23 #[.val (.ref r0), .val (.ref r1), .val (.ref en)] [(.ref en)])) (fun t kt => XS.aloadN X4.here hx rfl (hb hby own_d27_22) rfl rfl kt) ?_
 refine ownE.retA X4 hx hlk hret rfl rfl rfl (hb hby own_d27_23) ?_ (by decide) (by decide)
 show own_Q271e Z r0 r1 va ka x lk nm vb kb y en cs fmt h0 n0 _ T4.heap _
 rw [e4]
 exact ⟨rfl, N4, K4, q389, Fw4⟩
theorem own_ef271l (m : MethodId) (x0 : Addr) (x1 : Addr) : entryFrame m #[(.ref x0), (.ref x1)] 3 = mkF m 0 #[.val (.ref x0), .val (.ref x1), .unset] [] := by first | (simp [entryFrame, mkF, argsToLocals, Value.category]; done) | rfl
def own_Q271l (Z : State) (r0 : Addr) (r1 : Addr) (va : Addr) (ka : ClassId) (x : Int32) (lk : Addr) (nm : Addr) (vb : Addr) (kb : ClassId) (y : Int32) (cs : Int32) (fmt : Value) (h0 : Heap) (n0 : Nat) (v : Option Value) (h : Heap) (L : List Loc) : Prop := v = some .null ∧ Fr n0 L ∧ h = h0
set_option maxRecDepth 65536 in
set_option maxHeartbeats 40000000 in
theorem own_rm271l (l : Launch) (Z : State) (a0 : Array Value) (hw : ∀ d ∈ tables_1, d.before a0 Z = true) (ws : List Jvm.Cond) (r0 : Addr) (r1 : Addr) (va : Addr) (ka : ClassId) (x : Int32) (lk : Addr) (nm : Addr) (vb : Addr) (kb : ClassId) (y : Int32) (cs : Int32) (fmt : Value) (h0 : Heap) (n0 : Nat) (Z0 : n0 ≤ h0.size) (Od : Old Z n0 h0) (hcs : Sta Z Z.heap own_s2 "COMPACT_STRINGS" "Z" (.int cs)) (hcsn : ¬ cs = (0 : Int32)) (zfm : Sta Z Z.heap own_s8 "SIOOBE_FORMATTER" own_s9 fmt) (hfm : fmt.isRef = true) (P5 : Exa Z h0 r0 own_s3) (P6 : Fld Z h0 r0 own_s3 "root" own_s1 (.ref lk)) (P7 : Fld Z h0 lk own_s0 "name" own_s7 (.ref nm)) (P8 : Fld Z h0 lk own_s0 "left" own_s1 .null) (P9 : Exa Z h0 r1 own_s2) (P10 : Fld Z h0 r1 own_s2 "coder" "B" (.int (0 : Int32))) (P11 : Fld Z h0 r1 own_s2 "value" "[B" (.ref va)) (P12 : Arv Z h0 va ka .byte (1 : Int32) [(.int x)] (.int (0 : Int32))) (P13 : Exa Z h0 nm own_s2) (P14 : Fld Z h0 nm own_s2 "coder" "B" (.int (0 : Int32))) (P15 : Fld Z h0 nm own_s2 "value" "[B" (.ref vb)) (P16 : Arv Z h0 vb kb .byte (1 : Int32) [(.int y)] (.int (0 : Int32))) (P17 : ¬ (x &&& (255 : Int32)) = (y &&& (255 : Int32))) (P18 : (x &&& (255 : Int32)) < (y &&& (255 : Int32))) :
    own_MF l Z own_y29 prog_24_method_7_code 3 (some (.object own_s4)) ws ({ frames := 5, cells := 0, slots := 0, locals := 73 } : Room) #[(.ref r0), (.ref r1)] h0 (own_Q271l Z r0 r1 va ka x lk nm vb kb y cs fmt h0 n0) := by
 refine own_start (plainFor_of_name own_pn5) fun p e s m below meth c s₁ hx hby hret hlk hml hZ hown hnm X0 e0 => ?_
 have N0 := Fr.nil n0
 have K0 : Keep h0 h0 [] := Keep.refl h0 _
 rw [own_ef271l]
 refine ownE.go (f' := (mkF m 2 #[.val (.ref r0), .val (.ref r1), .unset] [(.ref r1), (.ref r0)])) (fun t kt => XS.aloadN X0.here hx rfl (hb hby own_d27_0) rfl rfl (XS.aloadN X0.here hx rfl (hb hby own_d27_1) rfl rfl kt)) ?_
 obtain ⟨cq1, kq1, q1a, q1b, q1c⟩ := isOf hZ e0 P5
 obtain ⟨_, _, ⟨T1, L1, k1, n1⟩, -, X1, ⟨Lc1, hQ1, l1, y1, z1⟩, st1⟩ := X0.virtualBack hx (y := own_y23) (z := own_y23) hown (mvT hZ (own_w hw 162 rfl)) (mvT hZ (own_w hw 163 rfl)) (notFace_of_selects (args := #[]) (mvT hZ (own_w hw 165 rfl))) (mvT hZ (own_w hw 165 rfl)) (mvT hZ (own_w hw 164 rfl)) (by decide) (backOf (W := 0) (own_rm28l l Z a0 hw [] r0 r1 va ka x lk nm vb kb y cs fmt h0 n0 (Nat.le_trans Z0 K0.1) Od hcs hcsn zfm hfm P5 P6 P7 P8 P9 P10 P11 P12 P13 P14 P15 P16 P17 P18) hZ (own_w hw 166 rfl) (own_w hw 28 rfl) (by decide) (by decide)) q1a q1c (g := (mkF m 2 #[.val (.ref r0), .val (.ref r1), .unset] [(.ref r1), (.ref r0)])) rfl (by rw [hml]; rfl) (Steps.refl _) (argsL := [(.ref r1)]) (rest := []) (lenOf own_pd30 rfl) rfl (Nat.le_of_eq rfl) (hb hby own_d27_2) (fun _ _ => ⟨rfl, e0, (by decide : 0 + 0 ≤ _), (by decide : 0 + 0 ≤ _)⟩)
 dsimp only [Pt.U, Pt.locs, Pt.cells, Pt.slots] at X1 l1 y1 z1 st1 hQ1
 subst l1 y1 z1
 obtain ⟨rfl, N1q, e1⟩ := hQ1
 have N1 := Fr.app N0 N1q
 refine ownE.goS st1 ?_
 refine ownE.go (f' := (mkF m 23 #[.val (.ref r0), .val (.ref r1), .val .null] [.null])) (fun t kt => XS.astoreN X1.here hx rfl (hb hby own_d27_5) rfl rfl (l' := #[.val (.ref r0), .val (.ref r1), .val .null]) rfl (XS.aloadN X1.here hx rfl (hb hby own_d27_6) rfl rfl (XS.ifnullYes X1.here hx rfl (pc0 := 7) (pc' := 22) rfl (hb hby own_d27_7) rfl (by decide) (by decide) (XS.aloadN X1.here hx rfl (hb hby own_d27_22) rfl rfl kt)))) ?_
 refine ownE.retA X1 hx hlk hret rfl rfl rfl (hb hby own_d27_23) ?_ (by decide) (by decide)
 show own_Q271l Z r0 r1 va ka x lk nm vb kb y cs fmt h0 n0 _ T1.heap _
 rw [e1]
 exact ⟨rfl, N1, rfl⟩
theorem own_ef272rl (m : MethodId) (x0 : Addr) (x1 : Addr) : entryFrame m #[(.ref x0), (.ref x1)] 3 = mkF m 0 #[.val (.ref x0), .val (.ref x1), .unset] [] := by first | (simp [entryFrame, mkF, argsToLocals, Value.category]; done) | rfl
def own_Q272rl (Z : State) (r0 : Addr) (r1 : Addr) (va : Addr) (ka : ClassId) (x : Int32) (lk : Addr) (nm : Addr) (vb : Addr) (kb : ClassId) (y : Int32) (en : Addr) (lc : Addr) (cs : Int32) (fmt : Value) (h0 : Heap) (n0 : Nat) (v : Option Value) (h : Heap) (L : List Loc) : Prop := v = some (.ref en) ∧ Fr n0 L ∧ Keep h0 h [r0] ∧ Exa Z h r0 own_s3 ∧ Fld Z h r0 own_s3 "root" own_s1 (.ref lc)
set_option maxRecDepth 65536 in
set_option maxHeartbeats 40000000 in
theorem own_rm272rl (l : Launch) (Z : State) (a0 : Array Value) (hw : ∀ d ∈ tables_1, d.before a0 Z = true) (ws : List Jvm.Cond) (r0 : Addr) (r1 : Addr) (va : Addr) (ka : ClassId) (x : Int32) (lk : Addr) (nm : Addr) (vb : Addr) (kb : ClassId) (y : Int32) (en : Addr) (lc : Addr) (cs : Int32) (fmt : Value) (h0 : Heap) (n0 : Nat) (Z0 : n0 ≤ h0.size) (Od : Old Z n0 h0) (hcs : Sta Z Z.heap own_s2 "COMPACT_STRINGS" "Z" (.int cs)) (hcsn : ¬ cs = (0 : Int32)) (zfm : Sta Z Z.heap own_s8 "SIOOBE_FORMATTER" own_s9 fmt) (hfm : fmt.isRef = true) (P5 : Exa Z h0 r0 own_s3) (P6 : Fld Z h0 r0 own_s3 "root" own_s1 (.ref lk)) (P7 : n0 ≤ r0) (P8 : Fld Z h0 lk own_s0 "name" own_s7 (.ref nm)) (P9 : Fld Z h0 lk own_s0 "entry" own_s5 (.ref en)) (P10 : Fld Z h0 lk own_s0 "left" own_s1 (.ref lc)) (P11 : Fld Z h0 lk own_s0 "right" own_s1 .null) (P12 : Exa Z h0 r1 own_s2) (P13 : Fld Z h0 r1 own_s2 "coder" "B" (.int (0 : Int32))) (P14 : Fld Z h0 r1 own_s2 "value" "[B" (.ref va)) (P15 : Arv Z h0 va ka .byte (1 : Int32) [(.int x)] (.int (0 : Int32))) (P16 : Exa Z h0 nm own_s2) (P17 : Fld Z h0 nm own_s2 "coder" "B" (.int (0 : Int32))) (P18 : Fld Z h0 nm own_s2 "value" "[B" (.ref vb)) (P19 : Arv Z h0 vb kb .byte (1 : Int32) [(.int y)] (.int (0 : Int32))) (P20 : (x &&& (255 : Int32)) = (y &&& (255 : Int32))) :
    own_MF l Z own_y29 prog_24_method_7_code 3 (some (.object own_s4)) ws ({ frames := 5, cells := 0, slots := 0, locals := 74 } : Room) #[(.ref r0), (.ref r1)] h0 (own_Q272rl Z r0 r1 va ka x lk nm vb kb y en lc cs fmt h0 n0) := by
 refine own_start (plainFor_of_name own_pn5) fun p e s m below meth c s₁ hx hby hret hlk hml hZ hown hnm X0 e0 => ?_
 have N0 := Fr.nil n0
 have K0 : Keep h0 h0 [r0] := Keep.refl h0 _
 rw [own_ef272rl]
 refine ownE.go (f' := (mkF m 2 #[.val (.ref r0), .val (.ref r1), .unset] [(.ref r1), (.ref r0)])) (fun t kt => XS.aloadN X0.here hx rfl (hb hby own_d27_0) rfl rfl (XS.aloadN X0.here hx rfl (hb hby own_d27_1) rfl rfl kt)) ?_
 obtain ⟨cq1, kq1, q1a, q1b, q1c⟩ := isOf hZ e0 P5
 obtain ⟨_, _, ⟨T1, L1, k1, n1⟩, -, X1, ⟨Lc1, hQ1, l1, y1, z1⟩, st1⟩ := X0.virtualBack hx (y := own_y23) (z := own_y23) hown (mvT hZ (own_w hw 162 rfl)) (mvT hZ (own_w hw 163 rfl)) (notFace_of_selects (args := #[]) (mvT hZ (own_w hw 165 rfl))) (mvT hZ (own_w hw 165 rfl)) (mvT hZ (own_w hw 164 rfl)) (by decide) (backOf (W := 0) (own_rm28e l Z a0 hw [] r0 r1 va ka x lk nm vb kb y en cs fmt h0 n0 (Nat.le_trans Z0 K0.1) Od hcs hcsn zfm hfm P5 P6 P8 P9 P12 P13 P14 P15 P16 P17 P18 P19 P20) hZ (own_w hw 166 rfl) (own_w hw 28 rfl) (by decide) (by decide)) q1a q1c (g := (mkF m 2 #[.val (.ref r0), .val (.ref r1), .unset] [(.ref r1), (.ref r0)])) rfl (by rw [hml]; rfl) (Steps.refl _) (argsL := [(.ref r1)]) (rest := []) (lenOf own_pd30 rfl) rfl (Nat.le_of_eq rfl) (hb hby own_d27_2) (fun _ _ => ⟨rfl, e0, (by decide : 0 + 0 ≤ _), (by decide : 0 + 0 ≤ _)⟩)
 dsimp only [Pt.U, Pt.locs, Pt.cells, Pt.slots] at X1 l1 y1 z1 st1 hQ1
 subst l1 y1 z1
 obtain ⟨rfl, N1q, e1⟩ := hQ1
 have N1 := Fr.app N0 N1q
 refine ownE.goS st1 ?_
 refine ownE.go (f' := (mkF m 12 #[.val (.ref r0), .val (.ref r1), .val (.ref en)] [(.ref r0), (.ref r0)])) (fun t kt => XS.astoreN X1.here hx rfl (hb hby own_d27_5) rfl rfl (l' := #[.val (.ref r0), .val (.ref r1), .val (.ref en)]) rfl (XS.aloadN X1.here hx rfl (hb hby own_d27_6) rfl rfl (XS.ifnullNo X1.here hx rfl (hb hby own_d27_7) rfl (XS.aloadN X1.here hx rfl (hb hby own_d27_10) rfl rfl (XS.aloadN X1.here hx rfl (hb hby own_d27_11) rfl rfl kt))))) ?_
 obtain ⟨T2, X2, e2, st2⟩ := getF X1 hx hZ hown (host := "") (Or.inl (own_w hw 70 rfl)) Via.refl e1 P6 (g := (mkF m 12 #[.val (.ref r0), .val (.ref r1), .val (.ref en)] [(.ref r0), (.ref r0)])) rfl rfl (hb hby own_d27_12)
 refine ownE.go st2 ?_
 refine ownE.go (f' := (mkF m 16 #[.val (.ref r0), .val (.ref r1), .val (.ref en)] [(.ref r1), (.ref lk), (.ref r0)])) (fun t kt => XS.aloadN X2.here hx rfl (hb hby own_d27_15) rfl rfl kt) ?_
 obtain ⟨_, _, ⟨T3, L3, k3, n3⟩, -, X3, ⟨Lc3, hQ3, l3, y3, z3⟩, st3⟩ := Jvm.LawKit.callS X2 hx (y := own_y25) hown (mvT hZ (own_w hw 177 rfl)) (mvT hZ (own_w hw 178 rfl)) (mvT hZ (own_w hw 28 rfl)) (mvT hZ (own_w hw 179 rfl)) (by decide) (backOf (W := 1) (own_rm31rl l Z a0 hw [] lk r1 va ka x nm vb kb y lc cs fmt h0 n0 (Nat.le_trans Z0 K0.1) Od hcs hcsn zfm hfm P8 P10 P11 P12 P13 P14 P15 P16 P17 P18 P19 P20) hZ (own_w hw 179 rfl) (own_w hw 28 rfl) (by decide) (by decide)) (g := (mkF m 16 #[.val (.ref r0), .val (.ref r1), .val (.ref en)] [(.ref r1), (.ref lk), (.ref r0)])) rfl (by rw [hml]; rfl) (argsL := [(.ref lk), (.ref r1)]) (rest := [(.ref r0)]) (lenOf own_pd28 rfl) rfl (Nat.le_of_eq rfl) (hb hby own_d27_16) (fun _ _ => ⟨rfl, e2, (by decide : 0 + 0 ≤ _), (by decide : 0 + 0 ≤ _)⟩)
 dsimp only [Pt.U, Pt.locs, Pt.cells, Pt.slots] at X3 l3 y3 z3 st3 hQ3
 subst l3 y3 z3
 obtain ⟨rfl, N3q, e3⟩ := hQ3
 have N3 := Fr.app N1 N3q
 refine ownE.go st3 ?_
 obtain ⟨T4, h4, X4, e4, W4, st4⟩ := putF X3 hx hZ hown (host := "") (Or.inl (own_w hw 70 rfl)) Via.refl e3 P6 P5 (Or.inl (own_w hw 71 rfl)) (own_w hw 27 rfl) (ty := (.object own_s0)) (by decide) rfl rfl (g := (mkF m 19 #[.val (.ref r0), .val (.ref r1), .val (.ref en)] [(.ref lc), (.ref r0)])) rfl rfl (hb hby own_d27_19)
 have Fw4 : Fld Z h4 r0 own_s3 "root" own_s1 (.ref lc) := P6.same W4
 have q392 := Od.wr W4 P7
 have q393 := P5.wr W4
 have q394 := P12.wr W4
 have q395 := P16.wr W4
 have K4 : Keep h0 h4 [r0] := K0.wr W4 (Or.inl (List.mem_of_getElem? (i := 0) rfl))
 have N4 := Fr.snoc X4 N3 P7
 refine ownE.go st4 ?_
 refine ownE.go (f' := (mkF m 23 #[.val (.ref r0), .val (.ref r1), .val (.ref en)] [(.ref en)])) (fun t kt => XS.aloadN X4.here hx rfl (hb hby own_d27_22) rfl rfl kt) ?_
 refine ownE.retA X4 hx hlk hret rfl rfl rfl (hb hby own_d27_23) ?_ (by decide) (by decide)
 show own_Q272rl Z r0 r1 va ka x lk nm vb kb y en lc cs fmt h0 n0 _ T4.heap _
 rw [e4]
 exact ⟨rfl, N4, K4, q393, Fw4⟩
theorem own_ef272cl (m : MethodId) (x0 : Addr) (x1 : Addr) : entryFrame m #[(.ref x0), (.ref x1)] 3 = mkF m 0 #[.val (.ref x0), .val (.ref x1), .unset] [] := by first | (simp [entryFrame, mkF, argsToLocals, Value.category]; done) | rfl
def own_Q272cl (Z : State) (r0 : Addr) (r1 : Addr) (va : Addr) (ka : ClassId) (x : Int32) (lk : Addr) (nm : Addr) (vb : Addr) (kb : ClassId) (y : Int32) (lc : Addr) (nc : Addr) (vc : Addr) (kc : ClassId) (w : Int32) (en : Addr) (ec : Addr) (cs : Int32) (fmt : Value) (h0 : Heap) (n0 : Nat) (v : Option Value) (h : Heap) (L : List Loc) : Prop := v = some (.ref ec) ∧ Fr n0 L ∧ Keep h0 h [r0, lk] ∧ Exa Z h r0 own_s3 ∧ Fld Z h r0 own_s3 "root" own_s1 (.ref lk) ∧ Exa Z h lk own_s0 ∧ Fld Z h lk own_s0 "name" own_s7 (.ref nm) ∧ Fld Z h lk own_s0 "entry" own_s5 (.ref en) ∧ Fld Z h lk own_s0 "left" own_s1 .null ∧ Fld Z h lk own_s0 "right" own_s1 .null ∧ Fld Z h lk own_s0 "size" "I" (.int (1 : Int32))
set_option maxRecDepth 65536 in
set_option maxHeartbeats 40000000 in
theorem own_rm272cl (l : Launch) (Z : State) (a0 : Array Value) (hw : ∀ d ∈ tables_1, d.before a0 Z = true) (ws : List Jvm.Cond) (r0 : Addr) (r1 : Addr) (va : Addr) (ka : ClassId) (x : Int32) (lk : Addr) (nm : Addr) (vb : Addr) (kb : ClassId) (y : Int32) (lc : Addr) (nc : Addr) (vc : Addr) (kc : ClassId) (w : Int32) (en : Addr) (ec : Addr) (cs : Int32) (fmt : Value) (h0 : Heap) (n0 : Nat) (Z0 : n0 ≤ h0.size) (Od : Old Z n0 h0) (hcs : Sta Z Z.heap own_s2 "COMPACT_STRINGS" "Z" (.int cs)) (hcsn : ¬ cs = (0 : Int32)) (zfm : Sta Z Z.heap own_s8 "SIOOBE_FORMATTER" own_s9 fmt) (hfm : fmt.isRef = true) (zad : Sta Z Z.heap own_s3 "$assertionsDisabled" "Z" (.int (1 : Int32))) (P6 : Exa Z h0 r0 own_s3) (P7 : Fld Z h0 r0 own_s3 "root" own_s1 (.ref lk)) (P8 : n0 ≤ r0) (P9 : n0 ≤ lk) (P10 : lk ≠ r0) (P11 : Exa Z h0 lk own_s0) (P12 : Fld Z h0 lk own_s0 "name" own_s7 (.ref nm)) (P13 : Fld Z h0 lk own_s0 "entry" own_s5 (.ref en)) (P14 : Fld Z h0 lk own_s0 "left" own_s1 (.ref lc)) (P15 : Fld Z h0 lk own_s0 "right" own_s1 .null) (P16 : Fld Z h0 lk own_s0 "size" "I" (.int (2 : Int32))) (P17 : lc ≠ lk) (P18 : Fld Z h0 lc own_s0 "name" own_s7 (.ref nc)) (P19 : Fld Z h0 lc own_s0 "entry" own_s5 (.ref ec)) (P20 : Fld Z h0 lc own_s0 "left" own_s1 .null) (P21 : Fld Z h0 lc own_s0 "right" own_s1 .null) (P22 : Exa Z h0 r1 own_s2) (P23 : Fld Z h0 r1 own_s2 "coder" "B" (.int (0 : Int32))) (P24 : Fld Z h0 r1 own_s2 "value" "[B" (.ref va)) (P25 : Arv Z h0 va ka .byte (1 : Int32) [(.int x)] (.int (0 : Int32))) (P26 : Exa Z h0 nm own_s2) (P27 : Fld Z h0 nm own_s2 "coder" "B" (.int (0 : Int32))) (P28 : Fld Z h0 nm own_s2 "value" "[B" (.ref vb)) (P29 : Arv Z h0 vb kb .byte (1 : Int32) [(.int y)] (.int (0 : Int32))) (P30 : Exa Z h0 nc own_s2) (P31 : Fld Z h0 nc own_s2 "coder" "B" (.int (0 : Int32))) (P32 : Fld Z h0 nc own_s2 "value" "[B" (.ref vc)) (P33 : Arv Z h0 vc kc .byte (1 : Int32) [(.int w)] (.int (0 : Int32))) (P34 : ¬ (x &&& (255 : Int32)) = (y &&& (255 : Int32))) (P35 : (x &&& (255 : Int32)) < (y &&& (255 : Int32))) (P36 : (x &&& (255 : Int32)) = (w &&& (255 : Int32))) :
    own_MF l Z own_y29 prog_24_method_7_code 3 (some (.object own_s4)) ws ({ frames := 6, cells := 0, slots := 0, locals := 90 } : Room) #[(.ref r0), (.ref r1)] h0 (own_Q272cl Z r0 r1 va ka x lk nm vb kb y lc nc vc kc w en ec cs fmt h0 n0) := by
 refine own_start (plainFor_of_name own_pn5) fun p e s m below meth c s₁ hx hby hret hlk hml hZ hown hnm X0 e0 => ?_
 have N0 := Fr.nil n0
 have K0 : Keep h0 h0 [r0, lk] := Keep.refl h0 _
 rw [own_ef272cl]
 refine ownE.go (f' := (mkF m 2 #[.val (.ref r0), .val (.ref r1), .unset] [(.ref r1), (.ref r0)])) (fun t kt => XS.aloadN X0.here hx rfl (hb hby own_d27_0) rfl rfl (XS.aloadN X0.here hx rfl (hb hby own_d27_1) rfl rfl kt)) ?_
 obtain ⟨cq1, kq1, q1a, q1b, q1c⟩ := isOf hZ e0 P6
 obtain ⟨_, _, ⟨T1, L1, k1, n1⟩, -, X1, ⟨Lc1, hQ1, l1, y1, z1⟩, st1⟩ := X0.virtualBack hx (y := own_y23) (z := own_y23) hown (mvT hZ (own_w hw 162 rfl)) (mvT hZ (own_w hw 163 rfl)) (notFace_of_selects (args := #[]) (mvT hZ (own_w hw 165 rfl))) (mvT hZ (own_w hw 165 rfl)) (mvT hZ (own_w hw 164 rfl)) (by decide) (backOf (W := 0) (own_rm28cl l Z a0 hw [] r0 r1 va ka x lk nm vb kb y lc nc vc kc w ec cs fmt h0 n0 (Nat.le_trans Z0 K0.1) Od hcs hcsn zfm hfm P6 P7 P12 P14 P18 P19 P22 P23 P24 P25 P26 P27 P28 P29 P30 P31 P32 P33 P34 P35 P36) hZ (own_w hw 166 rfl) (own_w hw 28 rfl) (by decide) (by decide)) q1a q1c (g := (mkF m 2 #[.val (.ref r0), .val (.ref r1), .unset] [(.ref r1), (.ref r0)])) rfl (by rw [hml]; rfl) (Steps.refl _) (argsL := [(.ref r1)]) (rest := []) (lenOf own_pd30 rfl) rfl (Nat.le_of_eq rfl) (hb hby own_d27_2) (fun _ _ => ⟨rfl, e0, (by decide : 0 + 0 ≤ _), (by decide : 0 + 0 ≤ _)⟩)
 dsimp only [Pt.U, Pt.locs, Pt.cells, Pt.slots] at X1 l1 y1 z1 st1 hQ1
 subst l1 y1 z1
 obtain ⟨rfl, N1q, e1⟩ := hQ1
 have N1 := Fr.app N0 N1q
 refine ownE.goS st1 ?_
 refine ownE.go (f' := (mkF m 12 #[.val (.ref r0), .val (.ref r1), .val (.ref ec)] [(.ref r0), (.ref r0)])) (fun t kt => XS.astoreN X1.here hx rfl (hb hby own_d27_5) rfl rfl (l' := #[.val (.ref r0), .val (.ref r1), .val (.ref ec)]) rfl (XS.aloadN X1.here hx rfl (hb hby own_d27_6) rfl rfl (XS.ifnullNo X1.here hx rfl (hb hby own_d27_7) rfl (XS.aloadN X1.here hx rfl (hb hby own_d27_10) rfl rfl (XS.aloadN X1.here hx rfl (hb hby own_d27_11) rfl rfl kt))))) ?_
 obtain ⟨T2, X2, e2, st2⟩ := getF X1 hx hZ hown (host := "") (Or.inl (own_w hw 70 rfl)) Via.refl e1 P7 (g := (mkF m 12 #[.val (.ref r0), .val (.ref r1), .val (.ref ec)] [(.ref r0), (.ref r0)])) rfl rfl (hb hby own_d27_12)
 refine ownE.go st2 ?_
 refine ownE.go (f' := (mkF m 16 #[.val (.ref r0), .val (.ref r1), .val (.ref ec)] [(.ref r1), (.ref lk), (.ref r0)])) (fun t kt => XS.aloadN X2.here hx rfl (hb hby own_d27_15) rfl rfl kt) ?_
 obtain ⟨_, _, ⟨T3, L3, k3, n3⟩, -, X3, ⟨Lc3, hQ3, l3, y3, z3⟩, st3⟩ := Jvm.LawKit.callS X2 hx (y := own_y25) hown (mvT hZ (own_w hw 177 rfl)) (mvT hZ (own_w hw 178 rfl)) (mvT hZ (own_w hw 28 rfl)) (mvT hZ (own_w hw 179 rfl)) (by decide) (backOf (W := 1) (own_rm31cl l Z a0 hw [] lk r1 va ka x nm vb kb y lc nc vc kc w en cs fmt h0 n0 (Nat.le_trans Z0 K0.1) Od hcs hcsn zfm hfm zad P11 P12 P13 P14 P15 P16 P9 P17 P18 P20 P21 P22 P23 P24 P25 P26 P27 P28 P29 P30 P31 P32 P33 P34 P35 P36) hZ (own_w hw 179 rfl) (own_w hw 28 rfl) (by decide) (by decide)) (g := (mkF m 16 #[.val (.ref r0), .val (.ref r1), .val (.ref ec)] [(.ref r1), (.ref lk), (.ref r0)])) rfl (by rw [hml]; rfl) (argsL := [(.ref lk), (.ref r1)]) (rest := [(.ref r0)]) (lenOf own_pd28 rfl) rfl (Nat.le_of_eq rfl) (hb hby own_d27_16) (fun _ _ => ⟨rfl, e2, (by decide : 0 + 0 ≤ _), (by decide : 0 + 0 ≤ _)⟩)
 dsimp only [Pt.U, Pt.locs, Pt.cells, Pt.slots] at X3 l3 y3 z3 st3 hQ3
 subst l3 y3 z3
 obtain ⟨rfl, N3q, K3q, f3_0, f3_1, f3_2, f3_3, f3_4, f3_5⟩ := hQ3
 have q396 := Od.keep K3q (allS P9 all0)
 have q397 := P6.keep K3q
 have q398 := P7.keep K3q (ninS (Ne.symm P10) nin0)
 have q399 := P11.keep K3q
 have q400 := P18.keep K3q (ninS P17 nin0)
 have q401 := P19.keep K3q (ninS P17 nin0)
 have q402 := P20.keep K3q (ninS P17 nin0)
 have q403 := P21.keep K3q (ninS P17 nin0)
 have q404 := P22.keep K3q
 have q405 := P26.keep K3q
 have q406 := P30.keep K3q
 have K3 : Keep h0 T3.heap [r0, lk] := K0.trans K3q (allS (Or.inl (List.mem_of_getElem? (i := 1) rfl)) all0)
 have N3 := Fr.app N1 N3q
 refine ownE.go st3 ?_
 obtain ⟨T4, h4, X4, e4, W4, st4⟩ := putF X3 hx hZ hown (host := "") (Or.inl (own_w hw 70 rfl)) Via.refl rfl q398 q397 (Or.inl (own_w hw 71 rfl)) (own_w hw 27 rfl) (ty := (.object own_s0)) (by decide) rfl rfl (g := (mkF m 19 #[.val (.ref r0), .val (.ref r1), .val (.ref ec)] [(.ref lk), (.ref r0)])) rfl rfl (hb hby own_d27_19)
 have Fw4 : Fld Z h4 r0 own_s3 "root" own_s1 (.ref lk) := q398.same W4
 have q407 := q396.wr W4 P8
 have q408 := q397.wr W4
 have q409 := f3_0.wr W4
 have q410 := q404.wr W4
 have q411 := q405.wr W4
 have q412 := q406.wr W4
 have q413 := f3_1.other W4 (Or.inl P10)
 have q414 := f3_2.other W4 (Or.inl P10)
 have q415 := f3_3.other W4 (Or.inl P10)
 have q416 := f3_4.other W4 (Or.inl P10)
 have q417 := f3_5.other W4 (Or.inl P10)
 have K4 : Keep h0 h4 [r0, lk] := K3.wr W4 (Or.inl (List.mem_of_getElem? (i := 0) rfl))
 have N4 := Fr.snoc X4 N3 P8
 refine ownE.go st4 ?_
 refine ownE.go (f' := (mkF m 23 #[.val (.ref r0), .val (.ref r1), .val (.ref ec)] [(.ref ec)])) (fun t kt => XS.aloadN X4.here hx rfl (hb hby own_d27_22) rfl rfl kt) ?_
 refine ownE.retA X4 hx hlk hret rfl rfl rfl (hb hby own_d27_23) ?_ (by decide) (by decide)
 show own_Q272cl Z r0 r1 va ka x lk nm vb kb y lc nc vc kc w en ec cs fmt h0 n0 _ T4.heap _
 rw [e4]
 exact ⟨rfl, N4, K4, q408, Fw4, q409, q413, q414, q415, q416, q417⟩
theorem own_ef271g (m : MethodId) (x0 : Addr) (x1 : Addr) : entryFrame m #[(.ref x0), (.ref x1)] 3 = mkF m 0 #[.val (.ref x0), .val (.ref x1), .unset] [] := by first | (simp [entryFrame, mkF, argsToLocals, Value.category]; done) | rfl
def own_Q271g (Z : State) (r0 : Addr) (r1 : Addr) (va : Addr) (ka : ClassId) (x : Int32) (lk : Addr) (nm : Addr) (vb : Addr) (kb : ClassId) (y : Int32) (cs : Int32) (fmt : Value) (h0 : Heap) (n0 : Nat) (v : Option Value) (h : Heap) (L : List Loc) : Prop := v = some .null ∧ Fr n0 L ∧ h = h0
set_option maxRecDepth 65536 in
set_option maxHeartbeats 40000000 in
theorem own_rm271g (l : Launch) (Z : State) (a0 : Array Value) (hw : ∀ d ∈ tables_1, d.before a0 Z = true) (ws : List Jvm.Cond) (r0 : Addr) (r1 : Addr) (va : Addr) (ka : ClassId) (x : Int32) (lk : Addr) (nm : Addr) (vb : Addr) (kb : ClassId) (y : Int32) (cs : Int32) (fmt : Value) (h0 : Heap) (n0 : Nat) (Z0 : n0 ≤ h0.size) (Od : Old Z n0 h0) (hcs : Sta Z Z.heap own_s2 "COMPACT_STRINGS" "Z" (.int cs)) (hcsn : ¬ cs = (0 : Int32)) (zfm : Sta Z Z.heap own_s8 "SIOOBE_FORMATTER" own_s9 fmt) (hfm : fmt.isRef = true) (P5 : Exa Z h0 r0 own_s3) (P6 : Fld Z h0 r0 own_s3 "root" own_s1 (.ref lk)) (P7 : Fld Z h0 lk own_s0 "name" own_s7 (.ref nm)) (P8 : Fld Z h0 lk own_s0 "right" own_s1 .null) (P9 : Exa Z h0 r1 own_s2) (P10 : Fld Z h0 r1 own_s2 "coder" "B" (.int (0 : Int32))) (P11 : Fld Z h0 r1 own_s2 "value" "[B" (.ref va)) (P12 : Arv Z h0 va ka .byte (1 : Int32) [(.int x)] (.int (0 : Int32))) (P13 : Exa Z h0 nm own_s2) (P14 : Fld Z h0 nm own_s2 "coder" "B" (.int (0 : Int32))) (P15 : Fld Z h0 nm own_s2 "value" "[B" (.ref vb)) (P16 : Arv Z h0 vb kb .byte (1 : Int32) [(.int y)] (.int (0 : Int32))) (P17 : ¬ (x &&& (255 : Int32)) = (y &&& (255 : Int32))) (P18 : ¬ (x &&& (255 : Int32)) < (y &&& (255 : Int32))) :
    own_MF l Z own_y29 prog_24_method_7_code 3 (some (.object own_s4)) ws ({ frames := 5, cells := 0, slots := 0, locals := 73 } : Room) #[(.ref r0), (.ref r1)] h0 (own_Q271g Z r0 r1 va ka x lk nm vb kb y cs fmt h0 n0) := by
 refine own_start (plainFor_of_name own_pn5) fun p e s m below meth c s₁ hx hby hret hlk hml hZ hown hnm X0 e0 => ?_
 have N0 := Fr.nil n0
 have K0 : Keep h0 h0 [] := Keep.refl h0 _
 rw [own_ef271g]
 refine ownE.go (f' := (mkF m 2 #[.val (.ref r0), .val (.ref r1), .unset] [(.ref r1), (.ref r0)])) (fun t kt => XS.aloadN X0.here hx rfl (hb hby own_d27_0) rfl rfl (XS.aloadN X0.here hx rfl (hb hby own_d27_1) rfl rfl kt)) ?_
 obtain ⟨cq1, kq1, q1a, q1b, q1c⟩ := isOf hZ e0 P5
 obtain ⟨_, _, ⟨T1, L1, k1, n1⟩, -, X1, ⟨Lc1, hQ1, l1, y1, z1⟩, st1⟩ := X0.virtualBack hx (y := own_y23) (z := own_y23) hown (mvT hZ (own_w hw 162 rfl)) (mvT hZ (own_w hw 163 rfl)) (notFace_of_selects (args := #[]) (mvT hZ (own_w hw 165 rfl))) (mvT hZ (own_w hw 165 rfl)) (mvT hZ (own_w hw 164 rfl)) (by decide) (backOf (W := 0) (own_rm28g l Z a0 hw [] r0 r1 va ka x lk nm vb kb y cs fmt h0 n0 (Nat.le_trans Z0 K0.1) Od hcs hcsn zfm hfm P5 P6 P7 P8 P9 P10 P11 P12 P13 P14 P15 P16 P17 P18) hZ (own_w hw 166 rfl) (own_w hw 28 rfl) (by decide) (by decide)) q1a q1c (g := (mkF m 2 #[.val (.ref r0), .val (.ref r1), .unset] [(.ref r1), (.ref r0)])) rfl (by rw [hml]; rfl) (Steps.refl _) (argsL := [(.ref r1)]) (rest := []) (lenOf own_pd30 rfl) rfl (Nat.le_of_eq rfl) (hb hby own_d27_2) (fun _ _ => ⟨rfl, e0, (by decide : 0 + 0 ≤ _), (by decide : 0 + 0 ≤ _)⟩)
 dsimp only [Pt.U, Pt.locs, Pt.cells, Pt.slots] at X1 l1 y1 z1 st1 hQ1
 subst l1 y1 z1
 obtain ⟨rfl, N1q, e1⟩ := hQ1
 have N1 := Fr.app N0 N1q
 refine ownE.goS st1 ?_
 refine ownE.go (f' := (mkF m 23 #[.val (.ref r0), .val (.ref r1), .val .null] [.null])) (fun t kt => XS.astoreN X1.here hx rfl (hb hby own_d27_5) rfl rfl (l' := #[.val (.ref r0), .val (.ref r1), .val .null]) rfl (XS.aloadN X1.here hx rfl (hb hby own_d27_6) rfl rfl (XS.ifnullYes X1.here hx rfl (pc0 := 7) (pc' := 22) rfl (hb hby own_d27_7) rfl (by decide) (by decide) (XS.aloadN X1.here hx rfl (hb hby own_d27_22) rfl rfl kt)))) ?_
 refine ownE.retA X1 hx hlk hret rfl rfl rfl (hb hby own_d27_23) ?_ (by decide) (by decide)
 show own_Q271g Z r0 r1 va ka x lk nm vb kb y cs fmt h0 n0 _ T1.heap _
 rw [e1]
 exact ⟨rfl, N1, rfl⟩
theorem own_ef272rg (m : MethodId) (x0 : Addr) (x1 : Addr) : entryFrame m #[(.ref x0), (.ref x1)] 3 = mkF m 0 #[.val (.ref x0), .val (.ref x1), .unset] [] := by first | (simp [entryFrame, mkF, argsToLocals, Value.category]; done) | rfl
def own_Q272rg (Z : State) (r0 : Addr) (r1 : Addr) (va : Addr) (ka : ClassId) (x : Int32) (lk : Addr) (nm : Addr) (vb : Addr) (kb : ClassId) (y : Int32) (en : Addr) (lc : Addr) (cs : Int32) (fmt : Value) (h0 : Heap) (n0 : Nat) (v : Option Value) (h : Heap) (L : List Loc) : Prop := v = some (.ref en) ∧ Fr n0 L ∧ Keep h0 h [r0] ∧ Exa Z h r0 own_s3 ∧ Fld Z h r0 own_s3 "root" own_s1 (.ref lc)
set_option maxRecDepth 65536 in
set_option maxHeartbeats 40000000 in
theorem own_rm272rg (l : Launch) (Z : State) (a0 : Array Value) (hw : ∀ d ∈ tables_1, d.before a0 Z = true) (ws : List Jvm.Cond) (r0 : Addr) (r1 : Addr) (va : Addr) (ka : ClassId) (x : Int32) (lk : Addr) (nm : Addr) (vb : Addr) (kb : ClassId) (y : Int32) (en : Addr) (lc : Addr) (cs : Int32) (fmt : Value) (h0 : Heap) (n0 : Nat) (Z0 : n0 ≤ h0.size) (Od : Old Z n0 h0) (hcs : Sta Z Z.heap own_s2 "COMPACT_STRINGS" "Z" (.int cs)) (hcsn : ¬ cs = (0 : Int32)) (zfm : Sta Z Z.heap own_s8 "SIOOBE_FORMATTER" own_s9 fmt) (hfm : fmt.isRef = true) (P5 : Exa Z h0 r0 own_s3) (P6 : Fld Z h0 r0 own_s3 "root" own_s1 (.ref lk)) (P7 : n0 ≤ r0) (P8 : Fld Z h0 lk own_s0 "name" own_s7 (.ref nm)) (P9 : Fld Z h0 lk own_s0 "entry" own_s5 (.ref en)) (P10 : Fld Z h0 lk own_s0 "left" own_s1 .null) (P11 : Fld Z h0 lk own_s0 "right" own_s1 (.ref lc)) (P12 : Exa Z h0 r1 own_s2) (P13 : Fld Z h0 r1 own_s2 "coder" "B" (.int (0 : Int32))) (P14 : Fld Z h0 r1 own_s2 "value" "[B" (.ref va)) (P15 : Arv Z h0 va ka .byte (1 : Int32) [(.int x)] (.int (0 : Int32))) (P16 : Exa Z h0 nm own_s2) (P17 : Fld Z h0 nm own_s2 "coder" "B" (.int (0 : Int32))) (P18 : Fld Z h0 nm own_s2 "value" "[B" (.ref vb)) (P19 : Arv Z h0 vb kb .byte (1 : Int32) [(.int y)] (.int (0 : Int32))) (P20 : (x &&& (255 : Int32)) = (y &&& (255 : Int32))) :
    own_MF l Z own_y29 prog_24_method_7_code 3 (some (.object own_s4)) ws ({ frames := 5, cells := 0, slots := 0, locals := 74 } : Room) #[(.ref r0), (.ref r1)] h0 (own_Q272rg Z r0 r1 va ka x lk nm vb kb y en lc cs fmt h0 n0) := by
 refine own_start (plainFor_of_name own_pn5) fun p e s m below meth c s₁ hx hby hret hlk hml hZ hown hnm X0 e0 => ?_
 have N0 := Fr.nil n0
 have K0 : Keep h0 h0 [r0] := Keep.refl h0 _
 rw [own_ef272rg]
 refine ownE.go (f' := (mkF m 2 #[.val (.ref r0), .val (.ref r1), .unset] [(.ref r1), (.ref r0)])) (fun t kt => XS.aloadN X0.here hx rfl (hb hby own_d27_0) rfl rfl (XS.aloadN X0.here hx rfl (hb hby own_d27_1) rfl rfl kt)) ?_
 obtain ⟨cq1, kq1, q1a, q1b, q1c⟩ := isOf hZ e0 P5
 obtain ⟨_, _, ⟨T1, L1, k1, n1⟩, -, X1, ⟨Lc1, hQ1, l1, y1, z1⟩, st1⟩ := X0.virtualBack hx (y := own_y23) (z := own_y23) hown (mvT hZ (own_w hw 162 rfl)) (mvT hZ (own_w hw 163 rfl)) (notFace_of_selects (args := #[]) (mvT hZ (own_w hw 165 rfl))) (mvT hZ (own_w hw 165 rfl)) (mvT hZ (own_w hw 164 rfl)) (by decide) (backOf (W := 0) (own_rm28e l Z a0 hw [] r0 r1 va ka x lk nm vb kb y en cs fmt h0 n0 (Nat.le_trans Z0 K0.1) Od hcs hcsn zfm hfm P5 P6 P8 P9 P12 P13 P14 P15 P16 P17 P18 P19 P20) hZ (own_w hw 166 rfl) (own_w hw 28 rfl) (by decide) (by decide)) q1a q1c (g := (mkF m 2 #[.val (.ref r0), .val (.ref r1), .unset] [(.ref r1), (.ref r0)])) rfl (by rw [hml]; rfl) (Steps.refl _) (argsL := [(.ref r1)]) (rest := []) (lenOf own_pd30 rfl) rfl (Nat.le_of_eq rfl) (hb hby own_d27_2) (fun _ _ => ⟨rfl, e0, (by decide : 0 + 0 ≤ _), (by decide : 0 + 0 ≤ _)⟩)
 dsimp only [Pt.U, Pt.locs, Pt.cells, Pt.slots] at X1 l1 y1 z1 st1 hQ1
 subst l1 y1 z1
 obtain ⟨rfl, N1q, e1⟩ := hQ1
 have N1 := Fr.app N0 N1q
 refine ownE.goS st1 ?_
 refine ownE.go (f' := (mkF m 12 #[.val (.ref r0), .val (.ref r1), .val (.ref en)] [(.ref r0), (.ref r0)])) (fun t kt => XS.astoreN X1.here hx rfl (hb hby own_d27_5) rfl rfl (l' := #[.val (.ref r0), .val (.ref r1), .val (.ref en)]) rfl (XS.aloadN X1.here hx rfl (hb hby own_d27_6) rfl rfl (XS.ifnullNo X1.here hx rfl (hb hby own_d27_7) rfl (XS.aloadN X1.here hx rfl (hb hby own_d27_10) rfl rfl (XS.aloadN X1.here hx rfl (hb hby own_d27_11) rfl rfl kt))))) ?_
 obtain ⟨T2, X2, e2, st2⟩ := getF X1 hx hZ hown (host := "") (Or.inl (own_w hw 70 rfl)) Via.refl e1 P6 (g := (mkF m 12 #[.val (.ref r0), .val (.ref r1), .val (.ref en)] [(.ref r0), (.ref r0)])) rfl rfl (hb hby own_d27_12)
 refine ownE.go st2 ?_
 refine ownE.go (f' := (mkF m 16 #[.val (.ref r0), .val (.ref r1), .val (.ref en)] [(.ref r1), (.ref lk), (.ref r0)])) (fun t kt => XS.aloadN X2.here hx rfl (hb hby own_d27_15) rfl rfl kt) ?_
 obtain ⟨_, _, ⟨T3, L3, k3, n3⟩, -, X3, ⟨Lc3, hQ3, l3, y3, z3⟩, st3⟩ := Jvm.LawKit.callS X2 hx (y := own_y25) hown (mvT hZ (own_w hw 177 rfl)) (mvT hZ (own_w hw 178 rfl)) (mvT hZ (own_w hw 28 rfl)) (mvT hZ (own_w hw 179 rfl)) (by decide) (backOf (W := 1) (own_rm31rr l Z a0 hw [] lk r1 va ka x nm vb kb y lc cs fmt h0 n0 (Nat.le_trans Z0 K0.1) Od hcs hcsn zfm hfm P8 P10 P11 P12 P13 P14 P15 P16 P17 P18 P19 P20) hZ (own_w hw 179 rfl) (own_w hw 28 rfl) (by decide) (by decide)) (g := (mkF m 16 #[.val (.ref r0), .val (.ref r1), .val (.ref en)] [(.ref r1), (.ref lk), (.ref r0)])) rfl (by rw [hml]; rfl) (argsL := [(.ref lk), (.ref r1)]) (rest := [(.ref r0)]) (lenOf own_pd28 rfl) rfl (Nat.le_of_eq rfl) (hb hby own_d27_16) (fun _ _ => ⟨rfl, e2, (by decide : 0 + 0 ≤ _), (by decide : 0 + 0 ≤ _)⟩)
 dsimp only [Pt.U, Pt.locs, Pt.cells, Pt.slots] at X3 l3 y3 z3 st3 hQ3
 subst l3 y3 z3
 obtain ⟨rfl, N3q, e3⟩ := hQ3
 have N3 := Fr.app N1 N3q
 refine ownE.go st3 ?_
 obtain ⟨T4, h4, X4, e4, W4, st4⟩ := putF X3 hx hZ hown (host := "") (Or.inl (own_w hw 70 rfl)) Via.refl e3 P6 P5 (Or.inl (own_w hw 71 rfl)) (own_w hw 27 rfl) (ty := (.object own_s0)) (by decide) rfl rfl (g := (mkF m 19 #[.val (.ref r0), .val (.ref r1), .val (.ref en)] [(.ref lc), (.ref r0)])) rfl rfl (hb hby own_d27_19)
 have Fw4 : Fld Z h4 r0 own_s3 "root" own_s1 (.ref lc) := P6.same W4
 have q418 := Od.wr W4 P7
 have q419 := P5.wr W4
 have q420 := P12.wr W4
 have q421 := P16.wr W4
 have K4 : Keep h0 h4 [r0] := K0.wr W4 (Or.inl (List.mem_of_getElem? (i := 0) rfl))
 have N4 := Fr.snoc X4 N3 P7
 refine ownE.go st4 ?_
 refine ownE.go (f' := (mkF m 23 #[.val (.ref r0), .val (.ref r1), .val (.ref en)] [(.ref en)])) (fun t kt => XS.aloadN X4.here hx rfl (hb hby own_d27_22) rfl rfl kt) ?_
 refine ownE.retA X4 hx hlk hret rfl rfl rfl (hb hby own_d27_23) ?_ (by decide) (by decide)
 show own_Q272rg Z r0 r1 va ka x lk nm vb kb y en lc cs fmt h0 n0 _ T4.heap _
 rw [e4]
 exact ⟨rfl, N4, K4, q419, Fw4⟩
theorem own_ef272cg (m : MethodId) (x0 : Addr) (x1 : Addr) : entryFrame m #[(.ref x0), (.ref x1)] 3 = mkF m 0 #[.val (.ref x0), .val (.ref x1), .unset] [] := by first | (simp [entryFrame, mkF, argsToLocals, Value.category]; done) | rfl
def own_Q272cg (Z : State) (r0 : Addr) (r1 : Addr) (va : Addr) (ka : ClassId) (x : Int32) (lk : Addr) (nm : Addr) (vb : Addr) (kb : ClassId) (y : Int32) (lc : Addr) (nc : Addr) (vc : Addr) (kc : ClassId) (w : Int32) (en : Addr) (ec : Addr) (cs : Int32) (fmt : Value) (h0 : Heap) (n0 : Nat) (v : Option Value) (h : Heap) (L : List Loc) : Prop := v = some (.ref ec) ∧ Fr n0 L ∧ Keep h0 h [r0, lk] ∧ Exa Z h r0 own_s3 ∧ Fld Z h r0 own_s3 "root" own_s1 (.ref lk) ∧ Exa Z h lk own_s0 ∧ Fld Z h lk own_s0 "name" own_s7 (.ref nm) ∧ Fld Z h lk own_s0 "entry" own_s5 (.ref en) ∧ Fld Z h lk own_s0 "left" own_s1 .null ∧ Fld Z h lk own_s0 "right" own_s1 .null ∧ Fld Z h lk own_s0 "size" "I" (.int (1 : Int32))
set_option maxRecDepth 65536 in
set_option maxHeartbeats 40000000 in
theorem own_rm272cg (l : Launch) (Z : State) (a0 : Array Value) (hw : ∀ d ∈ tables_1, d.before a0 Z = true) (ws : List Jvm.Cond) (r0 : Addr) (r1 : Addr) (va : Addr) (ka : ClassId) (x : Int32) (lk : Addr) (nm : Addr) (vb : Addr) (kb : ClassId) (y : Int32) (lc : Addr) (nc : Addr) (vc : Addr) (kc : ClassId) (w : Int32) (en : Addr) (ec : Addr) (cs : Int32) (fmt : Value) (h0 : Heap) (n0 : Nat) (Z0 : n0 ≤ h0.size) (Od : Old Z n0 h0) (hcs : Sta Z Z.heap own_s2 "COMPACT_STRINGS" "Z" (.int cs)) (hcsn : ¬ cs = (0 : Int32)) (zfm : Sta Z Z.heap own_s8 "SIOOBE_FORMATTER" own_s9 fmt) (hfm : fmt.isRef = true) (zad : Sta Z Z.heap own_s3 "$assertionsDisabled" "Z" (.int (1 : Int32))) (P6 : Exa Z h0 r0 own_s3) (P7 : Fld Z h0 r0 own_s3 "root" own_s1 (.ref lk)) (P8 : n0 ≤ r0) (P9 : n0 ≤ lk) (P10 : lk ≠ r0) (P11 : Exa Z h0 lk own_s0) (P12 : Fld Z h0 lk own_s0 "name" own_s7 (.ref nm)) (P13 : Fld Z h0 lk own_s0 "entry" own_s5 (.ref en)) (P14 : Fld Z h0 lk own_s0 "left" own_s1 .null) (P15 : Fld Z h0 lk own_s0 "right" own_s1 (.ref lc)) (P16 : Fld Z h0 lk own_s0 "size" "I" (.int (2 : Int32))) (P17 : lc ≠ lk) (P18 : Fld Z h0 lc own_s0 "name" own_s7 (.ref nc)) (P19 : Fld Z h0 lc own_s0 "entry" own_s5 (.ref ec)) (P20 : Fld Z h0 lc own_s0 "left" own_s1 .null) (P21 : Fld Z h0 lc own_s0 "right" own_s1 .null) (P22 : Exa Z h0 r1 own_s2) (P23 : Fld Z h0 r1 own_s2 "coder" "B" (.int (0 : Int32))) (P24 : Fld Z h0 r1 own_s2 "value" "[B" (.ref va)) (P25 : Arv Z h0 va ka .byte (1 : Int32) [(.int x)] (.int (0 : Int32))) (P26 : Exa Z h0 nm own_s2) (P27 : Fld Z h0 nm own_s2 "coder" "B" (.int (0 : Int32))) (P28 : Fld Z h0 nm own_s2 "value" "[B" (.ref vb)) (P29 : Arv Z h0 vb kb .byte (1 : Int32) [(.int y)] (.int (0 : Int32))) (P30 : Exa Z h0 nc own_s2) (P31 : Fld Z h0 nc own_s2 "coder" "B" (.int (0 : Int32))) (P32 : Fld Z h0 nc own_s2 "value" "[B" (.ref vc)) (P33 : Arv Z h0 vc kc .byte (1 : Int32) [(.int w)] (.int (0 : Int32))) (P34 : ¬ (x &&& (255 : Int32)) = (y &&& (255 : Int32))) (P35 : ¬ (x &&& (255 : Int32)) < (y &&& (255 : Int32))) (P36 : (x &&& (255 : Int32)) = (w &&& (255 : Int32))) :
    own_MF l Z own_y29 prog_24_method_7_code 3 (some (.object own_s4)) ws ({ frames := 6, cells := 0, slots := 0, locals := 90 } : Room) #[(.ref r0), (.ref r1)] h0 (own_Q272cg Z r0 r1 va ka x lk nm vb kb y lc nc vc kc w en ec cs fmt h0 n0) := by
 refine own_start (plainFor_of_name own_pn5) fun p e s m below meth c s₁ hx hby hret hlk hml hZ hown hnm X0 e0 => ?_
 have N0 := Fr.nil n0
 have K0 : Keep h0 h0 [r0, lk] := Keep.refl h0 _
 rw [own_ef272cg]
 refine ownE.go (f' := (mkF m 2 #[.val (.ref r0), .val (.ref r1), .unset] [(.ref r1), (.ref r0)])) (fun t kt => XS.aloadN X0.here hx rfl (hb hby own_d27_0) rfl rfl (XS.aloadN X0.here hx rfl (hb hby own_d27_1) rfl rfl kt)) ?_
 obtain ⟨cq1, kq1, q1a, q1b, q1c⟩ := isOf hZ e0 P6
 obtain ⟨_, _, ⟨T1, L1, k1, n1⟩, -, X1, ⟨Lc1, hQ1, l1, y1, z1⟩, st1⟩ := X0.virtualBack hx (y := own_y23) (z := own_y23) hown (mvT hZ (own_w hw 162 rfl)) (mvT hZ (own_w hw 163 rfl)) (notFace_of_selects (args := #[]) (mvT hZ (own_w hw 165 rfl))) (mvT hZ (own_w hw 165 rfl)) (mvT hZ (own_w hw 164 rfl)) (by decide) (backOf (W := 0) (own_rm28cg l Z a0 hw [] r0 r1 va ka x lk nm vb kb y lc nc vc kc w ec cs fmt h0 n0 (Nat.le_trans Z0 K0.1) Od hcs hcsn zfm hfm P6 P7 P12 P15 P18 P19 P22 P23 P24 P25 P26 P27 P28 P29 P30 P31 P32 P33 P34 P35 P36) hZ (own_w hw 166 rfl) (own_w hw 28 rfl) (by decide) (by decide)) q1a q1c (g := (mkF m 2 #[.val (.ref r0), .val (.ref r1), .unset] [(.ref r1), (.ref r0)])) rfl (by rw [hml]; rfl) (Steps.refl _) (argsL := [(.ref r1)]) (rest := []) (lenOf own_pd30 rfl) rfl (Nat.le_of_eq rfl) (hb hby own_d27_2) (fun _ _ => ⟨rfl, e0, (by decide : 0 + 0 ≤ _), (by decide : 0 + 0 ≤ _)⟩)
 dsimp only [Pt.U, Pt.locs, Pt.cells, Pt.slots] at X1 l1 y1 z1 st1 hQ1
 subst l1 y1 z1
 obtain ⟨rfl, N1q, e1⟩ := hQ1
 have N1 := Fr.app N0 N1q
 refine ownE.goS st1 ?_
 refine ownE.go (f' := (mkF m 12 #[.val (.ref r0), .val (.ref r1), .val (.ref ec)] [(.ref r0), (.ref r0)])) (fun t kt => XS.astoreN X1.here hx rfl (hb hby own_d27_5) rfl rfl (l' := #[.val (.ref r0), .val (.ref r1), .val (.ref ec)]) rfl (XS.aloadN X1.here hx rfl (hb hby own_d27_6) rfl rfl (XS.ifnullNo X1.here hx rfl (hb hby own_d27_7) rfl (XS.aloadN X1.here hx rfl (hb hby own_d27_10) rfl rfl (XS.aloadN X1.here hx rfl (hb hby own_d27_11) rfl rfl kt))))) ?_
 obtain ⟨T2, X2, e2, st2⟩ := getF X1 hx hZ hown (host := "") (Or.inl (own_w hw 70 rfl)) Via.refl e1 P7 (g := (mkF m 12 #[.val (.ref r0), .val (.ref r1), .val (.ref ec)] [(.ref r0), (.ref r0)])) rfl rfl (hb hby own_d27_12)
 refine ownE.go st2 ?_
 refine ownE.go (f' := (mkF m 16 #[.val (.ref r0), .val (.ref r1), .val (.ref ec)] [(.ref r1), (.ref lk), (.ref r0)])) (fun t kt => XS.aloadN X2.here hx rfl (hb hby own_d27_15) rfl rfl kt) ?_
 obtain ⟨_, _, ⟨T3, L3, k3, n3⟩, -, X3, ⟨Lc3, hQ3, l3, y3, z3⟩, st3⟩ := Jvm.LawKit.callS X2 hx (y := own_y25) hown (mvT hZ (own_w hw 177 rfl)) (mvT hZ (own_w hw 178 rfl)) (mvT hZ (own_w hw 28 rfl)) (mvT hZ (own_w hw 179 rfl)) (by decide) (backOf (W := 1) (own_rm31cg l Z a0 hw [] lk r1 va ka x nm vb kb y lc nc vc kc w en cs fmt h0 n0 (Nat.le_trans Z0 K0.1) Od hcs hcsn zfm hfm zad P11 P12 P13 P14 P15 P16 P9 P17 P18 P20 P21 P22 P23 P24 P25 P26 P27 P28 P29 P30 P31 P32 P33 P34 P35 P36) hZ (own_w hw 179 rfl) (own_w hw 28 rfl) (by decide) (by decide)) (g := (mkF m 16 #[.val (.ref r0), .val (.ref r1), .val (.ref ec)] [(.ref r1), (.ref lk), (.ref r0)])) rfl (by rw [hml]; rfl) (argsL := [(.ref lk), (.ref r1)]) (rest := [(.ref r0)]) (lenOf own_pd28 rfl) rfl (Nat.le_of_eq rfl) (hb hby own_d27_16) (fun _ _ => ⟨rfl, e2, (by decide : 0 + 0 ≤ _), (by decide : 0 + 0 ≤ _)⟩)
 dsimp only [Pt.U, Pt.locs, Pt.cells, Pt.slots] at X3 l3 y3 z3 st3 hQ3
 subst l3 y3 z3
 obtain ⟨rfl, N3q, K3q, f3_0, f3_1, f3_2, f3_3, f3_4, f3_5⟩ := hQ3
 have q422 := Od.keep K3q (allS P9 all0)
 have q423 := P6.keep K3q
 have q424 := P7.keep K3q (ninS (Ne.symm P10) nin0)
 have q425 := P11.keep K3q
 have q426 := P18.keep K3q (ninS P17 nin0)
 have q427 := P19.keep K3q (ninS P17 nin0)
 have q428 := P20.keep K3q (ninS P17 nin0)
 have q429 := P21.keep K3q (ninS P17 nin0)
 have q430 := P22.keep K3q
 have q431 := P26.keep K3q
 have q432 := P30.keep K3q
 have K3 : Keep h0 T3.heap [r0, lk] := K0.trans K3q (allS (Or.inl (List.mem_of_getElem? (i := 1) rfl)) all0)
 have N3 := Fr.app N1 N3q
 refine ownE.go st3 ?_
 obtain ⟨T4, h4, X4, e4, W4, st4⟩ := putF X3 hx hZ hown (host := "") (Or.inl (own_w hw 70 rfl)) Via.refl rfl q424 q423 (Or.inl (own_w hw 71 rfl)) (own_w hw 27 rfl) (ty := (.object own_s0)) (by decide) rfl rfl (g := (mkF m 19 #[.val (.ref r0), .val (.ref r1), .val (.ref ec)] [(.ref lk), (.ref r0)])) rfl rfl (hb hby own_d27_19)
 have Fw4 : Fld Z h4 r0 own_s3 "root" own_s1 (.ref lk) := q424.same W4
 have q433 := q422.wr W4 P8
 have q434 := q423.wr W4
 have q435 := f3_0.wr W4
 have q436 := q430.wr W4
 have q437 := q431.wr W4
 have q438 := q432.wr W4
 have q439 := f3_1.other W4 (Or.inl P10)
 have q440 := f3_2.other W4 (Or.inl P10)
 have q441 := f3_3.other W4 (Or.inl P10)
 have q442 := f3_4.other W4 (Or.inl P10)
 have q443 := f3_5.other W4 (Or.inl P10)
 have K4 : Keep h0 h4 [r0, lk] := K3.wr W4 (Or.inl (List.mem_of_getElem? (i := 0) rfl))
 have N4 := Fr.snoc X4 N3 P8
 refine ownE.go st4 ?_
 refine ownE.go (f' := (mkF m 23 #[.val (.ref r0), .val (.ref r1), .val (.ref ec)] [(.ref ec)])) (fun t kt => XS.aloadN X4.here hx rfl (hb hby own_d27_22) rfl rfl kt) ?_
 refine ownE.retA X4 hx hlk hret rfl rfl rfl (hb hby own_d27_23) ?_ (by decide) (by decide)
 show own_Q272cg Z r0 r1 va ka x lk nm vb kb y lc nc vc kc w en ec cs fmt h0 n0 _ T4.heap _
 rw [e4]
 exact ⟨rfl, N4, K4, q434, Fw4, q435, q439, q440, q441, q442, q443⟩
theorem own_cv (x : Int32) : (x &&& (255 : Int32)).toUInt32.toUInt16.toUInt32.toInt32 = x &&& (255 : Int32) := by rw [i2c_mask]
theorem own_ch (x : Int32) : ¬ (255 : Int32) < ((x &&& (255 : Int32)).toUInt32.toUInt16.toUInt32.toInt32) := by
  rw [own_cv]
  have h := c_mask x 255 8 (by decide) (by decide)
  rw [Int32.lt_iff_toInt_lt, h]
  have e : (255 : Int32).toInt = 255 := by decide
  have p : ((2 ^ 8 : Nat) : Int) = 256 := by decide
  rw [e, p]
  omega
theorem own_xc (x : Int32) : (((((x &&& (255 : Int32)).toUInt32.toUInt16.toUInt32.toInt32).toInt8.toInt32).toInt8.toInt32) &&& (255 : Int32)) = ((x &&& (255 : Int32)).toUInt32.toUInt16.toUInt32.toInt32) := by
  rw [own_cv]
  apply Int32.toInt_inj.mp
  have h := c_mask x 255 8 (by decide) (by decide)
  have b := c_i2b (x &&& (255 : Int32))
  have b' := c_i2b ((x &&& (255 : Int32)).toInt8.toInt32)
  have g := c_mask (((x &&& (255 : Int32)).toInt8.toInt32).toInt8.toInt32) 255 8 (by decide) (by decide)
  have p : ((2 ^ 8 : Nat) : Int) = 256 := by decide
  rw [p] at h g
  rw [g]
  omega
theorem own_asym {a b : Int32} (h : a < b) : ¬ b < a := by
  rw [Int32.lt_iff_toInt_lt] at *
  omega
theorem own_ltne {a b : Int32} (h : a < b) : ¬ a = b := fun e => by
  rw [e, Int32.lt_iff_toInt_lt] at h
  omega
theorem own_gt {a b : Int32} (h : ¬ a = b) (g : ¬ a < b) : b < a := by
  have n : ¬ a.toInt = b.toInt := fun e => h (Int32.toInt_inj.mp e)
  rw [Int32.lt_iff_toInt_lt] at *
  omega
abbrev own_l7 (i0 : Int32) (i1 : Int32) (i2 : Int32) : Array Slot := #[.val (.int i0), .val (.int i1), .val (.int i2), .unset, .unset, .unset, .unset, .unset, .unset, .unset, .unset, .unset, .unset, .unset, .unset, .unset, .unset]
def own_j0e_11_S0 (i0 : Int32) (i1 : Int32) (i2 : Int32) (cs : Int32) : Int32 :=
  if (i2 &&& (1 : Int32)) = (0 : Int32) then
    (0 : Int32)
  else
    (1 : Int32)
abbrev own_l8 (i0 : Int32) (i1 : Int32) (i2 : Int32) (cs : Int32) : Array Slot := #[.val (.int i0), .val (.int i1), .val (.int i2), .val (.int (own_j0e_11_S0 i0 i1 i2 cs)), .unset, .unset, .unset, .unset, .unset, .unset, .unset, .unset, .unset, .unset, .unset, .unset, .unset]
def own_j0e_23_S0 (i0 : Int32) (i1 : Int32) (i2 : Int32) (cs : Int32) : Int32 :=
  if (i2 &&& (2 : Int32)) = (0 : Int32) then
    (0 : Int32)
  else
    (1 : Int32)
abbrev own_l9 (i0 : Int32) (i1 : Int32) (i2 : Int32) (cs : Int32) : Array Slot := #[.val (.int i0), .val (.int i1), .val (.int i2), .val (.int (own_j0e_11_S0 i0 i1 i2 cs)), .val (.int (own_j0e_23_S0 i0 i1 i2 cs)), .unset, .unset, .unset, .unset, .unset, .unset, .unset, .unset, .unset, .unset, .unset, .unset]
def own_j0e_36_S0 (i0 : Int32) (i1 : Int32) (i2 : Int32) (cs : Int32) : Int32 :=
  if (i2 &&& (4 : Int32)) = (0 : Int32) then
    (0 : Int32)
  else
    (1 : Int32)
abbrev own_l10 (i0 : Int32) (i1 : Int32) (i2 : Int32) (cs : Int32) : Array Slot := #[.val (.int i0), .val (.int i1), .val (.int i2), .val (.int (own_j0e_11_S0 i0 i1 i2 cs)), .val (.int (own_j0e_23_S0 i0 i1 i2 cs)), .val (.int (own_j0e_36_S0 i0 i1 i2 cs)), .unset, .unset, .unset, .unset, .unset, .unset, .unset, .unset, .unset, .unset, .unset]
def own_j0e_50_S0 (i0 : Int32) (i1 : Int32) (i2 : Int32) (cs : Int32) : Int32 :=
  if (i2 &&& (8 : Int32)) = (0 : Int32) then
    (0 : Int32)
  else
    (1 : Int32)
abbrev own_l11 (i0 : Int32) (i1 : Int32) (i2 : Int32) (cs : Int32) : Array Slot := #[.val (.int i0), .val (.int i1), .val (.int i2), .val (.int (own_j0e_11_S0 i0 i1 i2 cs)), .val (.int (own_j0e_23_S0 i0 i1 i2 cs)), .val (.int (own_j0e_36_S0 i0 i1 i2 cs)), .val (.int (own_j0e_50_S0 i0 i1 i2 cs)), .unset, .unset, .unset, .unset, .unset, .unset, .unset, .unset, .unset, .unset]
abbrev own_l12 (i0 : Int32) (i1 : Int32) (i2 : Int32) (cs : Int32) : Array Slot := #[.val (.int i0), .val (.int i1), .val (.int i2), .val (.int (own_j0e_11_S0 i0 i1 i2 cs)), .val (.int (own_j0e_23_S0 i0 i1 i2 cs)), .val (.int (own_j0e_36_S0 i0 i1 i2 cs)), .val (.int (own_j0e_50_S0 i0 i1 i2 cs)), .val (.int ((i0 &&& (255 : Int32)).toUInt32.toUInt16.toUInt32.toInt32)), .unset, .unset, .unset, .unset, .unset, .unset, .unset, .unset, .unset]
abbrev own_l13 (i0 : Int32) (i1 : Int32) (i2 : Int32) (cs : Int32) : Array Slot := #[.val (.int i0), .val (.int i1), .val (.int i2), .val (.int (own_j0e_11_S0 i0 i1 i2 cs)), .val (.int (own_j0e_23_S0 i0 i1 i2 cs)), .val (.int (own_j0e_36_S0 i0 i1 i2 cs)), .val (.int (own_j0e_50_S0 i0 i1 i2 cs)), .val (.int ((i0 &&& (255 : Int32)).toUInt32.toUInt16.toUInt32.toInt32)), .val (.int ((i1 &&& (255 : Int32)).toUInt32.toUInt16.toUInt32.toInt32)), .unset, .unset, .unset, .unset, .unset, .unset, .unset, .unset]
theorem own_pd31 : parseMethodDescriptor "(C)Ljava/lang/String;" = some ⟨[.char], some (.object "java/lang/String")⟩ := by decide +kernel
abbrev own_l14 (i0 : Int32) (i1 : Int32) (i2 : Int32) (cs : Int32) (sb_13 : Addr) : Array Slot := #[.val (.int i0), .val (.int i1), .val (.int i2), .val (.int (own_j0e_11_S0 i0 i1 i2 cs)), .val (.int (own_j0e_23_S0 i0 i1 i2 cs)), .val (.int (own_j0e_36_S0 i0 i1 i2 cs)), .val (.int (own_j0e_50_S0 i0 i1 i2 cs)), .val (.int ((i0 &&& (255 : Int32)).toUInt32.toUInt16.toUInt32.toInt32)), .val (.int ((i1 &&& (255 : Int32)).toUInt32.toUInt16.toUInt32.toInt32)), .val (.ref sb_13), .unset, .unset, .unset, .unset, .unset, .unset, .unset]
abbrev own_l15 (i0 : Int32) (i1 : Int32) (i2 : Int32) (cs : Int32) (sb_13 : Addr) (sb_14 : Addr) : Array Slot := #[.val (.int i0), .val (.int i1), .val (.int i2), .val (.int (own_j0e_11_S0 i0 i1 i2 cs)), .val (.int (own_j0e_23_S0 i0 i1 i2 cs)), .val (.int (own_j0e_36_S0 i0 i1 i2 cs)), .val (.int (own_j0e_50_S0 i0 i1 i2 cs)), .val (.int ((i0 &&& (255 : Int32)).toUInt32.toUInt16.toUInt32.toInt32)), .val (.int ((i1 &&& (255 : Int32)).toUInt32.toUInt16.toUInt32.toInt32)), .val (.ref sb_13), .val (.ref sb_14), .unset, .unset, .unset, .unset, .unset, .unset]
abbrev own_l16 (i0 : Int32) (i1 : Int32) (i2 : Int32) (cs : Int32) (sb_13 : Addr) (sb_14 : Addr) : Array Slot := #[.val (.int i0), .val (.int i1), .val (.int i2), .val (.int (own_j0e_11_S0 i0 i1 i2 cs)), .val (.int (own_j0e_23_S0 i0 i1 i2 cs)), .val (.int (own_j0e_36_S0 i0 i1 i2 cs)), .val (.int (own_j0e_50_S0 i0 i1 i2 cs)), .val (.int ((i0 &&& (255 : Int32)).toUInt32.toUInt16.toUInt32.toInt32)), .val (.int ((i1 &&& (255 : Int32)).toUInt32.toUInt16.toUInt32.toInt32)), .val (.ref sb_13), .val (.ref sb_14), .val (.int (1 : Int32)), .unset, .unset, .unset, .unset, .unset]
theorem own_pd32 : parseMethodDescriptor "()V" = some ⟨[], none⟩ := by decide +kernel
abbrev own_l17 (i0 : Int32) (i1 : Int32) (i2 : Int32) (cs : Int32) (sb_13 : Addr) (sb_14 : Addr) (b15 : Addr) : Array Slot := #[.val (.int i0), .val (.int i1), .val (.int i2), .val (.int (own_j0e_11_S0 i0 i1 i2 cs)), .val (.int (own_j0e_23_S0 i0 i1 i2 cs)), .val (.int (own_j0e_36_S0 i0 i1 i2 cs)), .val (.int (own_j0e_50_S0 i0 i1 i2 cs)), .val (.int ((i0 &&& (255 : Int32)).toUInt32.toUInt16.toUInt32.toInt32)), .val (.int ((i1 &&& (255 : Int32)).toUInt32.toUInt16.toUInt32.toInt32)), .val (.ref sb_13), .val (.ref sb_14), .val (.int (1 : Int32)), .val (.ref b15), .unset, .unset, .unset, .unset]
theorem own_pd33 : parseMethodDescriptor "(JLjava/lang/String;Ljava/lang/String;IJJJIJ)V" = some ⟨[.long, (.object "java/lang/String"), (.object "java/lang/String"), .int, .long, .long, .long, .int, .long], none⟩ := by decide +kernel
abbrev own_l18 (i0 : Int32) (i1 : Int32) (i2 : Int32) (cs : Int32) (sb_13 : Addr) (sb_14 : Addr) (b15 : Addr) (b17 : Addr) : Array Slot := #[.val (.int i0), .val (.int i1), .val (.int i2), .val (.int (own_j0e_11_S0 i0 i1 i2 cs)), .val (.int (own_j0e_23_S0 i0 i1 i2 cs)), .val (.int (own_j0e_36_S0 i0 i1 i2 cs)), .val (.int (own_j0e_50_S0 i0 i1 i2 cs)), .val (.int ((i0 &&& (255 : Int32)).toUInt32.toUInt16.toUInt32.toInt32)), .val (.int ((i1 &&& (255 : Int32)).toUInt32.toUInt16.toUInt32.toInt32)), .val (.ref sb_13), .val (.ref sb_14), .val (.int (1 : Int32)), .val (.ref b15), .val (.ref b17), .unset, .unset, .unset]
abbrev own_l19 (i0 : Int32) (i1 : Int32) (i2 : Int32) (cs : Int32) (sb_13 : Addr) (sb_14 : Addr) (b15 : Addr) (b17 : Addr) : Array Slot := #[.val (.int i0), .val (.int i1), .val (.int i2), .val (.int (own_j0e_11_S0 i0 i1 i2 cs)), .val (.int (own_j0e_23_S0 i0 i1 i2 cs)), .val (.int (own_j0e_36_S0 i0 i1 i2 cs)), .val (.int (own_j0e_50_S0 i0 i1 i2 cs)), .val (.int ((i0 &&& (255 : Int32)).toUInt32.toUInt16.toUInt32.toInt32)), .val (.int ((i1 &&& (255 : Int32)).toUInt32.toUInt16.toUInt32.toInt32)), .val (.ref sb_13), .val (.ref sb_14), .val (.int (1 : Int32)), .val (.ref b15), .val (.ref b17), .val (.int (1 : Int32)), .unset, .unset]
abbrev own_l20 (i0 : Int32) (i1 : Int32) (i2 : Int32) (cs : Int32) (sb_13 : Addr) (sb_14 : Addr) (b15 : Addr) (b17 : Addr) : Array Slot := #[.val (.int i0), .val (.int i1), .val (.int i2), .val (.int (own_j0e_11_S0 i0 i1 i2 cs)), .val (.int (own_j0e_23_S0 i0 i1 i2 cs)), .val (.int (own_j0e_36_S0 i0 i1 i2 cs)), .val (.int (own_j0e_50_S0 i0 i1 i2 cs)), .val (.int ((i0 &&& (255 : Int32)).toUInt32.toUInt16.toUInt32.toInt32)), .val (.int ((i1 &&& (255 : Int32)).toUInt32.toUInt16.toUInt32.toInt32)), .val (.ref sb_13), .val (.ref sb_14), .val (.int (1 : Int32)), .val (.ref b15), .val (.ref b17), .val (.int (1 : Int32)), .val (.int (0 : Int32)), .unset]
abbrev own_l21 (i0 : Int32) (i1 : Int32) (i2 : Int32) (cs : Int32) (sb_13 : Addr) (sb_14 : Addr) (b15 : Addr) (b17 : Addr) : Array Slot := #[.val (.int i0), .val (.int i1), .val (.int i2), .val (.int (own_j0e_11_S0 i0 i1 i2 cs)), .val (.int (own_j0e_23_S0 i0 i1 i2 cs)), .val (.int (own_j0e_36_S0 i0 i1 i2 cs)), .val (.int (own_j0e_50_S0 i0 i1 i2 cs)), .val (.int ((i0 &&& (255 : Int32)).toUInt32.toUInt16.toUInt32.toInt32)), .val (.int ((i1 &&& (255 : Int32)).toUInt32.toUInt16.toUInt32.toInt32)), .val (.ref sb_13), .val (.ref sb_14), .val (.int (1 : Int32)), .val (.ref b15), .val (.ref b17), .val (.int (1 : Int32)), .val (.int (0 : Int32)), .val (.int (0 : Int32))]
theorem own_pd34 : parseMethodDescriptor "(Ljava/lang/String;Lcom/example/quayside/quayside/core/Entry;)Lcom/example/quayside/quayside/core/Entry;" = some ⟨[(.object "java/lang/String"), (.object "com/example/quayside/quayside/core/Entry")], some (.object "com/example/quayside/quayside/core/Entry")⟩ := by decide +kernel
abbrev own_l22 (i0 : Int32) (i1 : Int32) (i2 : Int32) (cs : Int32) (sb_13 : Addr) (sb_14 : Addr) (b15 : Addr) (b17 : Addr) : Array Slot := #[.val (.int i0), .val (.int i1), .val (.int i2), .val (.int (own_j0e_11_S0 i0 i1 i2 cs)), .val (.int (own_j0e_23_S0 i0 i1 i2 cs)), .val (.int (own_j0e_36_S0 i0 i1 i2 cs)), .val (.int (own_j0e_50_S0 i0 i1 i2 cs)), .val (.int ((i0 &&& (255 : Int32)).toUInt32.toUInt16.toUInt32.toInt32)), .val (.int ((i1 &&& (255 : Int32)).toUInt32.toUInt16.toUInt32.toInt32)), .val (.ref sb_13), .val (.ref sb_14), .val (.int (1 : Int32)), .val (.ref b15), .val (.ref b17), .val (.int (1 : Int32)), .val (.int (1 : Int32)), .unset]
abbrev own_l23 (i0 : Int32) (i1 : Int32) (i2 : Int32) (cs : Int32) (sb_13 : Addr) (sb_14 : Addr) (b15 : Addr) (b17 : Addr) : Array Slot := #[.val (.int i0), .val (.int i1), .val (.int i2), .val (.int (own_j0e_11_S0 i0 i1 i2 cs)), .val (.int (own_j0e_23_S0 i0 i1 i2 cs)), .val (.int (own_j0e_36_S0 i0 i1 i2 cs)), .val (.int (own_j0e_50_S0 i0 i1 i2 cs)), .val (.int ((i0 &&& (255 : Int32)).toUInt32.toUInt16.toUInt32.toInt32)), .val (.int ((i1 &&& (255 : Int32)).toUInt32.toUInt16.toUInt32.toInt32)), .val (.ref sb_13), .val (.ref sb_14), .val (.int (1 : Int32)), .val (.ref b15), .val (.ref b17), .val (.int (1 : Int32)), .val (.int (1 : Int32)), .val (.int (0 : Int32))]
theorem own_pn35 : plainName "com/example/quayside/quayside/core/EntriesIsEmptyPinLaw" = true := by first | (simp [plainName, overriddenIn]; done) | decide +kernel
theorem own_ef0e (m : MethodId) (x0 : Int32) (x1 : Int32) (x2 : Int32) : entryFrame m #[(.int x0), (.int x1), (.int x2)] maxLocals = mkF m 0 #[.val (.int x0), .val (.int x1), .val (.int x2), .unset, .unset, .unset, .unset, .unset, .unset, .unset, .unset, .unset, .unset, .unset, .unset, .unset, .unset] [] := by first | (simp [entryFrame, mkF, argsToLocals, Value.category, maxLocals]; done) | rfl
def own_f0e (i0 : Int32) (i1 : Int32) (i2 : Int32) (cs : Int32) : Int32 :=
  if (own_j0e_11_S0 i0 i1 i2 cs) = (0 : Int32) then
    if (own_j0e_23_S0 i0 i1 i2 cs) = (0 : Int32) then
      if (own_j0e_36_S0 i0 i1 i2 cs) = (0 : Int32) then
        if (own_j0e_50_S0 i0 i1 i2 cs) = (0 : Int32) then
          (1 : Int32)
        else
          (1 : Int32)
      else
        if (own_j0e_50_S0 i0 i1 i2 cs) = (0 : Int32) then
          (1 : Int32)
        else
          (1 : Int32)
    else
      if (own_j0e_36_S0 i0 i1 i2 cs) = (0 : Int32) then
        if (own_j0e_50_S0 i0 i1 i2 cs) = (0 : Int32) then
          (1 : Int32)
        else
          (1 : Int32)
      else
        if (own_j0e_50_S0 i0 i1 i2 cs) = (0 : Int32) then
          (1 : Int32)
        else
          (1 : Int32)
  else
    if (own_j0e_23_S0 i0 i1 i2 cs) = (0 : Int32) then
      if (own_j0e_36_S0 i0 i1 i2 cs) = (0 : Int32) then
        if (own_j0e_50_S0 i0 i1 i2 cs) = (0 : Int32) then
          (1 : Int32)
        else
          (1 : Int32)
      else
        if (own_j0e_50_S0 i0 i1 i2 cs) = (0 : Int32) then
          (1 : Int32)
        else
          (1 : Int32)
    else
      if (own_j0e_36_S0 i0 i1 i2 cs) = (0 : Int32) then
        if (own_j0e_50_S0 i0 i1 i2 cs) = (0 : Int32) then
          (1 : Int32)
        else
          (1 : Int32)
      else
        if (own_j0e_50_S0 i0 i1 i2 cs) = (0 : Int32) then
          (1 : Int32)
        else
          (1 : Int32)
def own_Q0e (Z : State) (i0 : Int32) (i1 : Int32) (i2 : Int32) (cs : Int32) (fmt : Value) (h0 : Heap) (n0 : Nat) (v : Option Value) (h : Heap) (L : List Loc) : Prop := v = some (.int (own_f0e i0 i1 i2 cs)) ∧ Fr n0 L ∧ Keep h0 h []
abbrev own_y30 : MethodName := (⟨"com/example/quayside/quayside/core/EntriesIsEmptyPinLaw", "law", "(III)Z"⟩ : MethodName)
set_option maxRecDepth 65536 in
set_option maxHeartbeats 40000000 in
theorem own_rm0e (l : Launch) (Z : State) (a0 : Array Value) (hw : ∀ d ∈ tables_1, d.before a0 Z = true) (ws : List Jvm.Cond) (i0 : Int32) (i1 : Int32) (i2 : Int32) (cs : Int32) (fmt : Value) (h0 : Heap) (n0 : Nat) (Z0 : n0 ≤ h0.size) (Od : Old Z n0 h0) (hcs : Sta Z Z.heap own_s2 "COMPACT_STRINGS" "Z" (.int cs)) (hcsn : ¬ cs = (0 : Int32)) (zfm : Sta Z Z.heap own_s8 "SIOOBE_FORMATTER" own_s9 fmt) (hfm : fmt.isRef = true) (zad : Sta Z Z.heap own_s3 "$assertionsDisabled" "Z" (.int (1 : Int32))) (hE : ((i0 &&& (255 : Int32)).toUInt32.toUInt16.toUInt32.toInt32) = ((i1 &&& (255 : Int32)).toUInt32.toUInt16.toUInt32.toInt32)) :
    MetFree l x (head1 (Jvm.Cond.code x code maxLocals ret :: ws) room_1) (fun a U => a = #[(.int i0), (.int i1), (.int i2)] ∧ Z.Warmed39 U.vm ∧ U.heap = h0) (fun _ _ _ _ _ => True) (fun _ U o U' => ∃ v L, o = .returned v ∧ own_Q0e Z i0 i1 i2 cs fmt h0 n0 v U'.heap L ∧ FrameEnd U o U' L 8 32) := by
 refine MetFree.of_bodySF (plainFor_of_name own_pn35) hisR ?_
 intro p e s m args below meth c s₁ Bd hml0 hP hK
 obtain ⟨rfl, hZ, hh⟩ := hP
 have hx := Bd.exec
 have hby := Bd.bytes
 have hret := Bd.returns
 have hlk := BodyLoose.notSynchronized Bd
 have hml : c.maxLocals = 17 := hml0
 have hown : s.vm.findClass "com/example/quayside/quayside/core/EntriesIsEmptyPinLaw" = some m.cls := findClass_of_methodNamed Bd.named
 have hnm := (name_of_methodNamed Bd.named Bd.method).1
 have X0 : Stand p l e room_1 s m #[(.int i0), (.int i1), (.int i2)] below meth c s₁ [] 0 0 := Stand.of_body Bd
 have e0 : s₁.heap = h0 := by rw [← hh, Bd.state]; rfl
 have N0 := Fr.nil n0
 have K0 : Keep h0 h0 [] := Keep.refl h0 _
 show ownE p e below s (own_Q0e Z i0 i1 i2 cs fmt h0 n0) 8 32 s₁ (entryFrame m #[(.int i0), (.int i1), (.int i2)] maxLocals)
 rw [own_ef0e]
 refine ownE.go (f' := (mkF m 3 (own_l7 i0 i1 i2) [(.int (i2 &&& (1 : Int32)))])) (fun t kt => XS.iloadN X0.here hx rfl (hb hby at_0) rfl (XS.iconst X0.here hx rfl (hb hby at_1) (XS.iand X0.here hx rfl (hb hby at_2) rfl kt))) ?_
 have J3 : ∀ (TJ3 : State) (locsJ3 : List Loc), Stand p l e room_1 s m #[(.int i0), (.int i1), (.int i2)] below meth c TJ3 locsJ3 0 0 → TJ3.heap = h0 → Fr n0 locsJ3 → ownE p e below s (own_Q0e Z i0 i1 i2 cs fmt h0 n0) 8 32 TJ3 (mkF m 11 (own_l7 i0 i1 i2) [(.int (own_j0e_11_S0 i0 i1 i2 cs))]) := by
  intro TJ3 locsJ3 XJ3 eJ3 NJ3
  refine ownE.go (f' := (mkF m 15 (own_l8 i0 i1 i2 cs) [(.int (i2 &&& (2 : Int32)))])) (fun t kt => XS.istoreN XJ3.here hx rfl (hb hby at_11) rfl (l' := (own_l8 i0 i1 i2 cs)) rfl (XS.iloadN XJ3.here hx rfl (hb hby at_12) rfl (XS.iconst XJ3.here hx rfl (hb hby at_13) (XS.iand XJ3.here hx rfl (hb hby at_14) rfl kt)))) ?_
  have J6 : ∀ (TJ6 : State) (locsJ6 : List Loc), Stand p l e room_1 s m #[(.int i0), (.int i1), (.int i2)] below meth c TJ6 locsJ6 0 0 → TJ6.heap = h0 → Fr n0 locsJ6 → ownE p e below s (own_Q0e Z i0 i1 i2 cs fmt h0 n0) 8 32 TJ6 (mkF m 23 (own_l8 i0 i1 i2 cs) [(.int (own_j0e_23_S0 i0 i1 i2 cs))]) := by
   intro TJ6 locsJ6 XJ6 eJ6 NJ6
   refine ownE.go (f' := (mkF m 28 (own_l9 i0 i1 i2 cs) [(.int (i2 &&& (4 : Int32)))])) (fun t kt => XS.istore XJ6.here hx rfl (hb hby at_23) rfl (l' := (own_l9 i0 i1 i2 cs)) rfl (XS.iloadN XJ6.here hx rfl (hb hby at_25) rfl (XS.iconst XJ6.here hx rfl (hb hby at_26) (XS.iand XJ6.here hx rfl (hb hby at_27) rfl kt)))) ?_
   have J9 : ∀ (TJ9 : State) (locsJ9 : List Loc), Stand p l e room_1 s m #[(.int i0), (.int i1), (.int i2)] below meth c TJ9 locsJ9 0 0 → TJ9.heap = h0 → Fr n0 locsJ9 → ownE p e below s (own_Q0e Z i0 i1 i2 cs fmt h0 n0) 8 32 TJ9 (mkF m 36 (own_l9 i0 i1 i2 cs) [(.int (own_j0e_36_S0 i0 i1 i2 cs))]) := by
    intro TJ9 locsJ9 XJ9 eJ9 NJ9
    refine ownE.go (f' := (mkF m 42 (own_l10 i0 i1 i2 cs) [(.int (i2 &&& (8 : Int32)))])) (fun t kt => XS.istore XJ9.here hx rfl (hb hby at_36) rfl (l' := (own_l10 i0 i1 i2 cs)) rfl (XS.iloadN XJ9.here hx rfl (hb hby at_38) rfl (XS.bipush XJ9.here hx rfl (hb hby at_39) (XS.iand XJ9.here hx rfl (hb hby at_41) rfl kt)))) ?_
    have J12 : ∀ (TJ12 : State) (locsJ12 : List Loc), Stand p l e room_1 s m #[(.int i0), (.int i1), (.int i2)] below meth c TJ12 locsJ12 0 0 → TJ12.heap = h0 → Fr n0 locsJ12 → ownE p e below s (own_Q0e Z i0 i1 i2 cs fmt h0 n0) 8 32 TJ12 (mkF m 50 (own_l10 i0 i1 i2 cs) [(.int (own_j0e_50_S0 i0 i1 i2 cs))]) := by
     intro TJ12 locsJ12 XJ12 eJ12 NJ12
     refine ownE.go (f' := (mkF m 70 (own_l13 i0 i1 i2 cs) [(.int ((i0 &&& (255 : Int32)).toUInt32.toUInt16.toUInt32.toInt32))])) (fun t kt => XS.istore XJ12.here hx rfl (hb hby at_50) rfl (l' := (own_l11 i0 i1 i2 cs)) rfl (XS.iloadN XJ12.here hx rfl (hb hby at_52) rfl (XS.sipush XJ12.here hx rfl (hb hby at_53) (XS.iand XJ12.here hx rfl (hb hby at_56) rfl (XS.i2c XJ12.here hx rfl (hb hby at_57) rfl (XS.istore XJ12.here hx rfl (hb hby at_58) rfl (l' := (own_l12 i0 i1 i2 cs)) rfl (XS.iloadN XJ12.here hx rfl (hb hby at_60) rfl (XS.sipush XJ12.here hx rfl (hb hby at_61) (XS.iand XJ12.here hx rfl (hb hby at_64) rfl (XS.i2c XJ12.here hx rfl (hb hby at_65) rfl (XS.istore XJ12.here hx rfl (hb hby at_66) rfl (l' := (own_l13 i0 i1 i2 cs)) rfl (XS.iload XJ12.here hx rfl (hb hby at_68) rfl kt)))))))))))) ?_
     obtain ⟨_, _, ⟨T13, L13, k13, n13⟩, -, X13, ⟨Lc13, hQ13, l13, y13, z13⟩, st13⟩ := Jvm.LawKit.callS XJ12 hx (y := own_y3) hown (mvT hZ (own_w hw 0 rfl)) (mvT hZ (own_w hw 1 rfl)) (mvT hZ (own_w hw 2 rfl)) (mvT hZ (own_w hw 3 rfl)) (by decide) (backOf (W := 0) (own_rm1 l Z a0 hw [] ((i0 &&& (255 : Int32)).toUInt32.toUInt16.toUInt32.toInt32) cs h0 n0 (Nat.le_trans Z0 K0.1) Od hcs hcsn (own_ch i0)) hZ (own_w hw 3 rfl) (own_w hw 2 rfl) (by decide) (by decide)) (g := (mkF m 70 (own_l13 i0 i1 i2 cs) [(.int ((i0 &&& (255 : Int32)).toUInt32.toUInt16.toUInt32.toInt32))])) rfl (by rw [hml]; rfl) (argsL := [(.int ((i0 &&& (255 : Int32)).toUInt32.toUInt16.toUInt32.toInt32))]) (rest := []) (lenOf own_pd31 rfl) rfl (Nat.le_of_eq rfl) (hb hby at_70) (fun _ _ => ⟨rfl, eJ12, (by decide : 0 + 2 ≤ _), (by decide : 0 + 5 ≤ _)⟩)
     dsimp only [Pt.U, Pt.locs, Pt.cells, Pt.slots] at X13 l13 y13 z13 st13 hQ13
     subst l13 y13 z13
     obtain ⟨sb_13, vb_13, kb_13, rfl, N13q, K13q, f13_0, f13_1, f13_2, f13_3, f13_4, f13_5, f13_6⟩ := hQ13
     have q444 := Od.keep K13q all0
     have K13 : Keep h0 T13.heap [] := K0.trans K13q all0
     have sz_sb_13 : h0.size ≤ sb_13 := Nat.le_trans K0.1 f13_0
     have ge_sb_13 : n0 ≤ sb_13 := Nat.le_trans Z0 sz_sb_13
     have sz_vb_13 : h0.size ≤ vb_13 := Nat.le_trans K0.1 f13_1
     have ge_vb_13 : n0 ≤ vb_13 := Nat.le_trans Z0 sz_vb_13
     have N13 := Fr.app NJ12 N13q
     refine ownE.go st13 ?_
     refine ownE.go (f' := (mkF m 77 (own_l14 i0 i1 i2 cs sb_13) [(.int ((i1 &&& (255 : Int32)).toUInt32.toUInt16.toUInt32.toInt32))])) (fun t kt => XS.astore X13.here hx rfl (hb hby at_73) rfl rfl (l' := (own_l14 i0 i1 i2 cs sb_13)) rfl (XS.iload X13.here hx rfl (hb hby at_75) rfl kt)) ?_
     obtain ⟨_, _, ⟨T14, L14, k14, n14⟩, -, X14, ⟨Lc14, hQ14, l14, y14, z14⟩, st14⟩ := Jvm.LawKit.callS X13 hx (y := own_y3) hown (mvT hZ (own_w hw 0 rfl)) (mvT hZ (own_w hw 1 rfl)) (mvT hZ (own_w hw 2 rfl)) (mvT hZ (own_w hw 3 rfl)) (by decide) (backOf (W := 0) (own_rm1 l Z a0 hw [] ((i1 &&& (255 : Int32)).toUInt32.toUInt16.toUInt32.toInt32) cs T13.heap n0 (Nat.le_trans Z0 K13.1) q444 hcs hcsn (own_ch i1)) hZ (own_w hw 3 rfl) (own_w hw 2 rfl) (by decide) (by decide)) (g := (mkF m 77 (own_l14 i0 i1 i2 cs sb_13) [(.int ((i1 &&& (255 : Int32)).toUInt32.toUInt16.toUInt32.toInt32))])) rfl (by rw [hml]; rfl) (argsL := [(.int ((i1 &&& (255 : Int32)).toUInt32.toUInt16.toUInt32.toInt32))]) (rest := []) (lenOf own_pd31 rfl) rfl (Nat.le_of_eq rfl) (hb hby at_77) (fun _ _ => ⟨rfl, rfl, (by decide : 2 + 2 ≤ _), (by decide : 5 + 5 ≤ _)⟩)
     dsimp only [Pt.U, Pt.locs, Pt.cells, Pt.slots] at X14 l14 y14 z14 st14 hQ14
     subst l14 y14 z14
     obtain ⟨sb_14, vb_14, kb_14, rfl, N14q, K14q, f14_0, f14_1, f14_2, f14_3, f14_4, f14_5, f14_6⟩ := hQ14
     have ne_sb_13_sb_14 : sb_13 ≠ sb_14 := Nat.ne_of_lt (Nat.lt_of_lt_of_le f13_2.lt f14_0)
     have ne_vb_13_sb_14 : vb_13 ≠ sb_14 := Nat.ne_of_lt (Nat.lt_of_lt_of_le f13_5.lt f14_0)
     have ne_sb_13_vb_14 : sb_13 ≠ vb_14 := Nat.ne_of_lt (Nat.lt_of_lt_of_le f13_2.lt f14_1)
     have ne_vb_13_vb_14 : vb_13 ≠ vb_14 := Nat.ne_of_lt (Nat.lt_of_lt_of_le f13_5.lt f14_1)
     have q445 := q444.keep K14q all0
     have q446 := f13_2.keep K14q
     have q447 := f13_3.keep K14q nin0
     have q448 := f13_4.keep K14q nin0
     have q449 := f13_5.keep K14q nin0
     have K14 : Keep h0 T14.heap [] := K13.trans K14q all0
     have sz_sb_14 : h0.size ≤ sb_14 := Nat.le_trans K13.1 f14_0
     have ge_sb_14 : n0 ≤ sb_14 := Nat.le_trans Z0 sz_sb_14
     have sz_vb_14 : h0.size ≤ vb_14 := Nat.le_trans K13.1 f14_1
     have ge_vb_14 : n0 ≤ vb_14 := Nat.le_trans Z0 sz_vb_14
     have N14 := Fr.app N13 N14q
     refine ownE.go st14 ?_
     refine ownE.go (f' := (mkF m 96 (own_l16 i0 i1 i2 cs sb_13 sb_14) [])) (fun t kt => XS.astore X14.here hx rfl (hb hby at_80) rfl rfl (l' := (own_l15 i0 i1 i2 cs sb_13 sb_14)) rfl (XS.iload X14.here hx rfl (hb hby at_82) rfl (XS.iload X14.here hx rfl (hb hby at_84) rfl (XS.icmpNo X14.here hx rfl (hb hby at_86) rfl (Jvm.Free.XT.ii_ne_f hE) (XS.iconst X14.here hx rfl (hb hby at_89) (XS.goto X14.here hx rfl (pc0 := 90) (pc' := 94) rfl (hb hby at_90) (by decide) (by decide) (XS.istore X14.here hx rfl (hb hby at_94) rfl (l' := (own_l16 i0 i1 i2 cs sb_13 sb_14)) rfl kt))))))) ?_
     obtain ⟨T15, h15, X15, e15, E15, A15, D15, -, st15⟩ := newO X14 hx hZ hown (own_w hw 26 rfl) (own_w hw 27 rfl) (own_w hw 28 rfl) rfl (g := (mkF m 96 (own_l16 i0 i1 i2 cs sb_13 sb_14) [])) rfl (hb hby at_96) (by decide) (by decide)
     obtain ⟨b15, g15⟩ : ∃ z, z = T14.heap.size := ⟨_, rfl⟩
     rw [← g15] at A15 D15 st15
     have ne_sb_13_b15 : sb_13 ≠ b15 := Nat.ne_of_lt (Nat.lt_of_lt_of_le q446.lt (Nat.le_of_eq g15.symm))
     have ne_vb_13_b15 : vb_13 ≠ b15 := Nat.ne_of_lt (Nat.lt_of_lt_of_le q449.lt (Nat.le_of_eq g15.symm))
     have ne_sb_14_b15 : sb_14 ≠ b15 := Nat.ne_of_lt (Nat.lt_of_lt_of_le f14_2.lt (Nat.le_of_eq g15.symm))
     have ne_vb_14_b15 : vb_14 ≠ b15 := Nat.ne_of_lt (Nat.lt_of_lt_of_le f14_5.lt (Nat.le_of_eq g15.symm))
     have sz_b15 : h0.size ≤ b15 := Nat.le_trans K14.1 (Nat.le_of_eq g15.symm)
     have ge_b15 : n0 ≤ b15 := Nat.le_trans Z0 sz_b15
     have q450 := q445.ext E15
     have q451 := q446.ext E15
     have q452 := q447.ext E15
     have q453 := q448.ext E15
     have q454 := q449.ext E15
     have q455 := f14_2.ext E15
     have q456 := f14_3.ext E15
     have q457 := f14_4.ext E15
     have q458 := f14_5.ext E15
     have D15_root : Fld Z h15 b15 own_s3 "root" own_s1 .null := D15 (Or.inl (own_w hw 71 rfl)) (ty := (.object own_s0)) (by decide)
     have K15 : Keep h0 h15 [] := K14.ext E15
     refine ownE.go st15 ?_
     refine ownE.go (f' := (mkF m 100 (own_l16 i0 i1 i2 cs sb_13 sb_14) [(.ref b15), (.ref b15)])) (fun t kt => XS.dup X15.here hx rfl (hb hby at_99) rfl rfl kt) ?_
     obtain ⟨_, _, ⟨T16, L16, k16, n16⟩, -, X16, ⟨Lc16, hQ16, l16, y16, z16⟩, st16⟩ := X15.specialBack hx (y := own_y4) rfl hown (mvT hZ (own_w hw 29 rfl)) (mvT hZ (own_w hw 30 rfl)) (mvT hZ (own_w hw 31 rfl)) (by decide) (backOf (W := 1) (own_rm6 l Z a0 hw [] b15 h15 n0 (Nat.le_trans Z0 K15.1) ) hZ (own_w hw 31 rfl) (own_w hw 28 rfl) (by decide) (by decide)) (g := (mkF m 100 (own_l16 i0 i1 i2 cs sb_13 sb_14) [(.ref b15), (.ref b15)])) rfl (by rw [hml]; rfl) (Steps.refl _) (a := b15) (argsL := []) (rest := [(.ref b15)]) (lenOf own_pd32 rfl) rfl (Nat.le_of_eq rfl) (hb hby at_100) (fun _ _ => ⟨rfl, e15, (by decide : 5 + 0 ≤ _), (by decide : 11 + 0 ≤ _)⟩)
     dsimp only [Pt.U, Pt.locs, Pt.cells, Pt.slots] at X16 l16 y16 z16 st16 hQ16
     subst l16 y16 z16
     obtain ⟨rfl, N16q, e16⟩ := hQ16
     have N16 := Fr.app N14 N16q
     refine ownE.goS st16 ?_
     refine ownE.go (f' := (mkF m 105 (own_l17 i0 i1 i2 cs sb_13 sb_14 b15) [])) (fun t kt => XS.astore X16.here hx rfl (hb hby at_103) rfl rfl (l' := (own_l17 i0 i1 i2 cs sb_13 sb_14 b15)) rfl kt) ?_
     obtain ⟨T17, h17, X17, e17, E17, A17, D17, -, st17⟩ := newO X16 hx hZ hown (own_w hw 33 rfl) (own_w hw 34 rfl) (own_w hw 35 rfl) e16 (g := (mkF m 105 (own_l17 i0 i1 i2 cs sb_13 sb_14 b15) [])) rfl (hb hby at_105) (by decide) (by decide)
     obtain ⟨b17, g17⟩ : ∃ z, z = h15.size := ⟨_, rfl⟩
     rw [← g17] at A17 D17 st17
     have ne_sb_13_b17 : sb_13 ≠ b17 := Nat.ne_of_lt (Nat.lt_of_lt_of_le q451.lt (Nat.le_of_eq g17.symm))
     have ne_vb_13_b17 : vb_13 ≠ b17 := Nat.ne_of_lt (Nat.lt_of_lt_of_le q454.lt (Nat.le_of_eq g17.symm))
     have ne_sb_14_b17 : sb_14 ≠ b17 := Nat.ne_of_lt (Nat.lt_of_lt_of_le q455.lt (Nat.le_of_eq g17.symm))
     have ne_vb_14_b17 : vb_14 ≠ b17 := Nat.ne_of_lt (Nat.lt_of_lt_of_le q458.lt (Nat.le_of_eq g17.symm))
     have ne_b15_b17 : b15 ≠ b17 := Nat.ne_of_lt (Nat.lt_of_lt_of_le A15.lt (Nat.le_of_eq g17.symm))
     have sz_b17 : h0.size ≤ b17 := Nat.le_trans K15.1 (Nat.le_of_eq g17.symm)
     have ge_b17 : n0 ≤ b17 := Nat.le_trans Z0 sz_b17
     have q459 := q450.ext E17
     have q460 := q451.ext E17
     have q461 := q452.ext E17
     have q462 := q453.ext E17
     have q463 := q454.ext E17
     have q464 := q455.ext E17
     have q465 := q456.ext E17
     have q466 := q457.ext E17
     have q467 := q458.ext E17
     have q468 := A15.ext E17
     have q469 := D15_root.ext E17
     have D17_id : Fld Z h17 b17 own_s4 "id" "J" (.long (0 : Int64)) := D17 (Or.inr (own_w hw 46 rfl)) (ty := .long) (by decide)
     have D17_owner : Fld Z h17 b17 own_s4 "owner" own_s7 .null := D17 (Or.inl (own_w hw 48 rfl)) (ty := (.object own_s2)) (by decide)
     have D17_group : Fld Z h17 b17 own_s4 "group" own_s7 .null := D17 (Or.inl (own_w hw 50 rfl)) (ty := (.object own_s2)) (by decide)
     have D17_permission : Fld Z h17 b17 own_s4 "permission" "I" (.int (0 : Int32)) := D17 (Or.inl (own_w hw 52 rfl)) (ty := .int) (by decide)
     have D17_modificationTime : Fld Z h17 b17 own_s4 "modificationTime" "J" (.long (0 : Int64)) := D17 (Or.inl (own_w hw 54 rfl)) (ty := .long) (by decide)
     have D17_accessTime : Fld Z h17 b17 own_s4 "accessTime" "J" (.long (0 : Int64)) := D17 (Or.inl (own_w hw 56 rfl)) (ty := .long) (by decide)
     have D17_length : Fld Z h17 b17 own_s6 "length" "J" (.long (0 : Int64)) := D17 (Or.inl (own_w hw 58 rfl)) (ty := .long) (by decide)
     have D17_blockSize : Fld Z h17 b17 own_s6 "blockSize" "J" (.long (0 : Int64)) := D17 (Or.inr (own_w hw 60 rfl)) (ty := .long) (by decide)
     have D17_replication : Fld Z h17 b17 own_s6 "replication" "I" (.int (0 : Int32)) := D17 (Or.inl (own_w hw 62 rfl)) (ty := .int) (by decide)
     have D17_blob : Fld Z h17 b17 own_s6 "blob" "J" (.long (0 : Int64)) := D17 (Or.inr (own_w hw 64 rfl)) (ty := .long) (by decide)
     have K17 : Keep h0 h17 [] := K15.ext E17
     refine ownE.go st17 ?_
     refine ownE.go (f' := (mkF m 118 (own_l17 i0 i1 i2 cs sb_13 sb_14 b15) [(.long (0 : Int64)), (.int (0 : Int32)), (.long (0 : Int64)), (.long (0 : Int64)), (.long (0 : Int64)), (.int (0 : Int32)), .null, .null, (.long (1 : Int64)), (.ref b17), (.ref b17)])) (fun t kt => XS.dup X17.here hx rfl (hb hby at_108) rfl rfl (XS.lconst X17.here hx rfl (hb hby at_109) (XS.aconstNull X17.here hx rfl (hb hby at_110) (XS.aconstNull X17.here hx rfl (hb hby at_111) (XS.iconst X17.here hx rfl (hb hby at_112) (XS.lconst X17.here hx rfl (hb hby at_113) (XS.lconst X17.here hx rfl (hb hby at_114) (XS.lconst X17.here hx rfl (hb hby at_115) (XS.iconst X17.here hx rfl (hb hby at_116) (XS.lconst X17.here hx rfl (hb hby at_117) kt)))))))))) ?_
     obtain ⟨_, _, ⟨T18, L18, k18, n18⟩, -, X18, ⟨Lc18, hQ18, l18, y18, z18⟩, st18⟩ := X17.specialBack hx (y := own_y6) rfl hown (mvT hZ (own_w hw 36 rfl)) (mvT hZ (own_w hw 37 rfl)) (mvT hZ (own_w hw 38 rfl)) (by decide) (backOf (W := 1) (own_rm7 l Z a0 hw [] b17 (1 : Int64) (0 : Int32) (0 : Int64) (0 : Int64) (0 : Int64) (0 : Int32) (0 : Int64) h17 n0 (Nat.le_trans Z0 K17.1) D17_id D17_owner D17_group D17_permission D17_modificationTime D17_accessTime D17_length D17_blockSize D17_replication D17_blob A17 ge_b17) hZ (own_w hw 38 rfl) (own_w hw 35 rfl) (by decide) (by decide)) (g := (mkF m 118 (own_l17 i0 i1 i2 cs sb_13 sb_14 b15) [(.long (0 : Int64)), (.int (0 : Int32)), (.long (0 : Int64)), (.long (0 : Int64)), (.long (0 : Int64)), (.int (0 : Int32)), .null, .null, (.long (1 : Int64)), (.ref b17), (.ref b17)])) rfl (by rw [hml]; rfl) (Steps.refl _) (a := b17) (argsL := [(.long (1 : Int64)), .null, .null, (.int (0 : Int32)), (.long (0 : Int64)), (.long (0 : Int64)), (.long (0 : Int64)), (.int (0 : Int32)), (.long (0 : Int64))]) (rest := [(.ref b17)]) (lenOf own_pd33 rfl) rfl (Nat.le_of_eq rfl) (hb hby at_118) (fun _ _ => ⟨rfl, e17, (by decide : 6 + 0 ≤ _), (by decide : 22 + 0 ≤ _)⟩)
     dsimp only [Pt.U, Pt.locs, Pt.cells, Pt.slots] at X18 l18 y18 z18 st18 hQ18
     subst l18 y18 z18
     obtain ⟨rfl, N18q, K18q, f18_0⟩ := hQ18
     have q470 := q459.keep K18q (allS ge_b17 all0)
     have q471 := q460.keep K18q
     have q472 := q461.keep K18q (ninS ne_sb_13_b17 nin0)
     have q473 := q462.keep K18q (ninS ne_sb_13_b17 nin0)
     have q474 := q463.keep K18q (ninS ne_vb_13_b17 nin0)
     have q475 := q464.keep K18q
     have q476 := q465.keep K18q (ninS ne_sb_14_b17 nin0)
     have q477 := q466.keep K18q (ninS ne_sb_14_b17 nin0)
     have q478 := q467.keep K18q (ninS ne_vb_14_b17 nin0)
     have q479 := q468.keep K18q
     have q480 := q469.keep K18q (ninS ne_b15_b17 nin0)
     have q481 := A17.keep K18q
     have K18 : Keep h0 T18.heap [] := K17.trans K18q (allS (Or.inr sz_b17) all0)
     have N18 := Fr.app N16 N18q
     refine ownE.goS st18 ?_
     refine ownE.go (f' := (mkF m 125 (own_l18 i0 i1 i2 cs sb_13 sb_14 b15 b17) [(.ref b15)])) (fun t kt => XS.astore X18.here hx rfl (hb hby at_121) rfl rfl (l' := (own_l18 i0 i1 i2 cs sb_13 sb_14 b15 b17)) rfl (XS.aload X18.here hx rfl (hb hby at_123) rfl rfl kt)) ?_
     obtain ⟨cq19, kq19, q19a, q19b, q19c⟩ := isOf hZ rfl q479
     obtain ⟨_, _, ⟨T19, L19, k19, n19⟩, -, X19, ⟨Lc19, hQ19, l19, y19, z19⟩, st19⟩ := X18.virtualBack hx (y := own_y27) (z := own_y27) hown (mvT hZ (own_w hw 65 rfl)) (mvT hZ (own_w hw 66 rfl)) (notFace_of_selects (args := #[]) (mvT hZ (own_w hw 68 rfl))) (mvT hZ (own_w hw 68 rfl)) (mvT hZ (own_w hw 67 rfl)) (by decide) (backOf (W := 0) (own_rm90 l Z a0 hw [] b15 T18.heap n0 (Nat.le_trans Z0 K18.1) q479 q480) hZ (own_w hw 69 rfl) (own_w hw 28 rfl) (by decide) (by decide)) q19a q19c (g := (mkF m 125 (own_l18 i0 i1 i2 cs sb_13 sb_14 b15 b17) [(.ref b15)])) rfl (by rw [hml]; rfl) (Steps.refl _) (argsL := []) (rest := []) (lenOf own_pd16 rfl) rfl (Nat.le_of_eq rfl) (hb hby at_125) (fun _ _ => ⟨rfl, rfl, (by decide : 6 + 0 ≤ _), (by decide : 22 + 0 ≤ _)⟩)
     dsimp only [Pt.U, Pt.locs, Pt.cells, Pt.slots] at X19 l19 y19 z19 st19 hQ19
     subst l19 y19 z19
     obtain ⟨rfl, N19q, e19⟩ := hQ19
     have N19 := Fr.app N18 N19q
     refine ownE.goS st19 ?_
     refine ownE.go (f' := (mkF m 131 (own_l19 i0 i1 i2 cs sb_13 sb_14 b15 b17) [(.int (own_j0e_11_S0 i0 i1 i2 cs))])) (fun t kt => XS.istore X19.here hx rfl (hb hby at_128) rfl (l' := (own_l19 i0 i1 i2 cs sb_13 sb_14 b15 b17)) rfl (XS.iloadN X19.here hx rfl (hb hby at_130) rfl kt)) ?_
     by_cases hc20 : (own_j0e_11_S0 i0 i1 i2 cs) = (0 : Int32)
     · -- pc 131
      refine ownE.go (T' := T19) (f' := (mkF m 144 (own_l19 i0 i1 i2 cs sb_13 sb_14 b15 b17) [])) (fun t kt => XS.ifYes (g := (mkF m 131 (own_l19 i0 i1 i2 cs sb_13 sb_14 b15 b17) [(.int (own_j0e_11_S0 i0 i1 i2 cs))])) X19.here hx rfl (pc0 := 131) (pc' := 144) rfl (hb hby at_131) rfl (Jvm.Free.XT.i0_eq_t hc20) (by decide) (by decide) kt) ?_
      refine ownE.go (f' := (mkF m 146 (own_l19 i0 i1 i2 cs sb_13 sb_14 b15 b17) [(.int (own_j0e_23_S0 i0 i1 i2 cs))])) (fun t kt => XS.iload X19.here hx rfl (hb hby at_144) rfl kt) ?_
      by_cases hc21 : (own_j0e_23_S0 i0 i1 i2 cs) = (0 : Int32)
      · -- pc 146
       refine ownE.go (T' := T19) (f' := (mkF m 159 (own_l19 i0 i1 i2 cs sb_13 sb_14 b15 b17) [])) (fun t kt => XS.ifYes (g := (mkF m 146 (own_l19 i0 i1 i2 cs sb_13 sb_14 b15 b17) [(.int (own_j0e_23_S0 i0 i1 i2 cs))])) X19.here hx rfl (pc0 := 146) (pc' := 159) rfl (hb hby at_146) rfl (Jvm.Free.XT.i0_eq_t hc21) (by decide) (by decide) kt) ?_
       refine ownE.go (f' := (mkF m 204 (own_l21 i0 i1 i2 cs sb_13 sb_14 b15 b17) [(.ref b15)])) (fun t kt => XS.iloadN X19.here hx rfl (hb hby at_159) rfl (XS.ifNo X19.here hx rfl (hb hby at_160) rfl (Jvm.Free.XT.i0_ne_f hc20) (XS.iload X19.here hx rfl (hb hby at_163) rfl (XS.ifYes X19.here hx rfl (pc0 := 165) (pc' := 177) rfl (hb hby at_165) rfl (Jvm.Free.XT.i0_eq_t hc21) (by decide) (by decide) (XS.iconst X19.here hx rfl (hb hby at_177) (XS.istore X19.here hx rfl (hb hby at_178) rfl (l' := (own_l20 i0 i1 i2 cs sb_13 sb_14 b15 b17)) rfl (XS.iload X19.here hx rfl (hb hby at_180) rfl (XS.ifYes X19.here hx rfl (pc0 := 182) (pc' := 194) rfl (hb hby at_182) rfl (Jvm.Free.XT.i0_eq_t hc21) (by decide) (by decide) (XS.iconst X19.here hx rfl (hb hby at_194) (XS.istore X19.here hx rfl (hb hby at_195) rfl (l' := (own_l21 i0 i1 i2 cs sb_13 sb_14 b15 b17)) rfl (XS.iload X19.here hx rfl (hb hby at_197) rfl (XS.ifNo X19.here hx rfl (hb hby at_199) rfl (Jvm.Free.XT.i0_eq_f (by decide)) (XS.aload X19.here hx rfl (hb hby at_202) rfl rfl kt))))))))))))) ?_
       obtain ⟨cq22, kq22, q22a, q22b, q22c⟩ := isOf hZ e19 q479
       obtain ⟨_, _, ⟨T22, L22, k22, n22⟩, -, X22, ⟨Lc22, hQ22, l22, y22, z22⟩, st22⟩ := X19.virtualBack hx (y := own_y27) (z := own_y27) hown (mvT hZ (own_w hw 65 rfl)) (mvT hZ (own_w hw 66 rfl)) (notFace_of_selects (args := #[]) (mvT hZ (own_w hw 68 rfl))) (mvT hZ (own_w hw 68 rfl)) (mvT hZ (own_w hw 67 rfl)) (by decide) (backOf (W := 0) (own_rm90 l Z a0 hw [] b15 T18.heap n0 (Nat.le_trans Z0 K18.1) q479 q480) hZ (own_w hw 69 rfl) (own_w hw 28 rfl) (by decide) (by decide)) q22a q22c (g := (mkF m 204 (own_l21 i0 i1 i2 cs sb_13 sb_14 b15 b17) [(.ref b15)])) rfl (by rw [hml]; rfl) (Steps.refl _) (argsL := []) (rest := []) (lenOf own_pd16 rfl) rfl (Nat.le_of_eq rfl) (hb hby at_204) (fun _ _ => ⟨rfl, e19, (by decide : 6 + 0 ≤ _), (by decide : 22 + 0 ≤ _)⟩)
       dsimp only [Pt.U, Pt.locs, Pt.cells, Pt.slots] at X22 l22 y22 z22 st22 hQ22
       subst l22 y22 z22
       obtain ⟨rfl, N22q, e22⟩ := hQ22
       have N22 := Fr.app N19 N22q
       refine ownE.goS st22 ?_
       refine ownE.go (f' := (mkF m 234 (own_l21 i0 i1 i2 cs sb_13 sb_14 b15 b17) [(.int (own_j0e_36_S0 i0 i1 i2 cs))])) (fun t kt => XS.iload X22.here hx rfl (hb hby at_207) rfl (XS.ifNo X22.here hx rfl (hb hby at_209) rfl (Jvm.Free.XT.i0_ne_f (by decide)) (XS.iload X22.here hx rfl (hb hby at_212) rfl (XS.ifNo X22.here hx rfl (hb hby at_214) rfl (Jvm.Free.XT.i0_ne_f (by decide)) (XS.iconst X22.here hx rfl (hb hby at_217) (XS.goto X22.here hx rfl (pc0 := 218) (pc' := 222) rfl (hb hby at_218) (by decide) (by decide) (XS.icmpNo X22.here hx rfl (hb hby at_222) rfl (Jvm.Free.XT.ii_ne_f (by decide)) (XS.iconst X22.here hx rfl (hb hby at_225) (XS.goto X22.here hx rfl (pc0 := 226) (pc' := 230) rfl (hb hby at_226) (by decide) (by decide) (XS.istore X22.here hx rfl (hb hby at_230) rfl (l' := (own_l21 i0 i1 i2 cs sb_13 sb_14 b15 b17)) rfl (XS.iload X22.here hx rfl (hb hby at_232) rfl kt))))))))))) ?_
       by_cases hc23 : (own_j0e_36_S0 i0 i1 i2 cs) = (0 : Int32)
       · -- pc 234
        refine ownE.go (T' := T22) (f' := (mkF m 248 (own_l21 i0 i1 i2 cs sb_13 sb_14 b15 b17) [])) (fun t kt => XS.ifYes (g := (mkF m 234 (own_l21 i0 i1 i2 cs sb_13 sb_14 b15 b17) [(.int (own_j0e_36_S0 i0 i1 i2 cs))])) X22.here hx rfl (pc0 := 234) (pc' := 248) rfl (hb hby at_234) rfl (Jvm.Free.XT.i0_eq_t hc23) (by decide) (by decide) kt) ?_
        refine ownE.go (f' := (mkF m 250 (own_l21 i0 i1 i2 cs sb_13 sb_14 b15 b17) [(.int (own_j0e_50_S0 i0 i1 i2 cs))])) (fun t kt => XS.iload X22.here hx rfl (hb hby at_248) rfl kt) ?_
        by_cases hc24 : (own_j0e_50_S0 i0 i1 i2 cs) = (0 : Int32)
        · -- pc 250
         refine ownE.go (T' := T22) (f' := (mkF m 275 (own_l21 i0 i1 i2 cs sb_13 sb_14 b15 b17) [])) (fun t kt => XS.ifYes (g := (mkF m 250 (own_l21 i0 i1 i2 cs sb_13 sb_14 b15 b17) [(.int (own_j0e_50_S0 i0 i1 i2 cs))])) X22.here hx rfl (pc0 := 250) (pc' := 275) rfl (hb hby at_250) rfl (Jvm.Free.XT.i0_eq_t hc24) (by decide) (by decide) kt) ?_
         refine ownE.go (f' := (mkF m 282 (own_l21 i0 i1 i2 cs sb_13 sb_14 b15 b17) [(.ref b15)])) (fun t kt => XS.iload X22.here hx rfl (hb hby at_275) rfl (XS.ifNo X22.here hx rfl (hb hby at_277) rfl (Jvm.Free.XT.i0_eq_f (by decide)) (XS.aload X22.here hx rfl (hb hby at_280) rfl rfl kt))) ?_
         obtain ⟨cq25, kq25, q25a, q25b, q25c⟩ := isOf hZ e22 q479
         obtain ⟨_, _, ⟨T25, L25, k25, n25⟩, -, X25, ⟨Lc25, hQ25, l25, y25, z25⟩, st25⟩ := X22.virtualBack hx (y := own_y27) (z := own_y27) hown (mvT hZ (own_w hw 65 rfl)) (mvT hZ (own_w hw 66 rfl)) (notFace_of_selects (args := #[]) (mvT hZ (own_w hw 68 rfl))) (mvT hZ (own_w hw 68 rfl)) (mvT hZ (own_w hw 67 rfl)) (by decide) (backOf (W := 0) (own_rm90 l Z a0 hw [] b15 T18.heap n0 (Nat.le_trans Z0 K18.1) q479 q480) hZ (own_w hw 69 rfl) (own_w hw 28 rfl) (by decide) (by decide)) q25a q25c (g := (mkF m 282 (own_l21 i0 i1 i2 cs sb_13 sb_14 b15 b17) [(.ref b15)])) rfl (by rw [hml]; rfl) (Steps.refl _) (argsL := []) (rest := []) (lenOf own_pd16 rfl) rfl (Nat.le_of_eq rfl) (hb hby at_282) (fun _ _ => ⟨rfl, e22, (by decide : 6 + 0 ≤ _), (by decide : 22 + 0 ≤ _)⟩)
         dsimp only [Pt.U, Pt.locs, Pt.cells, Pt.slots] at X25 l25 y25 z25 st25 hQ25
         subst l25 y25 z25
         obtain ⟨rfl, N25q, e25⟩ := hQ25
         have N25 := Fr.app N22 N25q
         refine ownE.goS st25 ?_
         refine ownE.go (f' := (mkF m 312 (own_l21 i0 i1 i2 cs sb_13 sb_14 b15 b17) [(.int (1 : Int32))])) (fun t kt => XS.iload X25.here hx rfl (hb hby at_285) rfl (XS.ifNo X25.here hx rfl (hb hby at_287) rfl (Jvm.Free.XT.i0_ne_f (by decide)) (XS.iload X25.here hx rfl (hb hby at_290) rfl (XS.ifNo X25.here hx rfl (hb hby at_292) rfl (Jvm.Free.XT.i0_ne_f (by decide)) (XS.iconst X25.here hx rfl (hb hby at_295) (XS.goto X25.here hx rfl (pc0 := 296) (pc' := 300) rfl (hb hby at_296) (by decide) (by decide) (XS.icmpNo X25.here hx rfl (hb hby at_300) rfl (Jvm.Free.XT.ii_ne_f (by decide)) (XS.iconst X25.here hx rfl (hb hby at_303) (XS.goto X25.here hx rfl (pc0 := 304) (pc' := 308) rfl (hb hby at_304) (by decide) (by decide) (XS.istore X25.here hx rfl (hb hby at_308) rfl (l' := (own_l21 i0 i1 i2 cs sb_13 sb_14 b15 b17)) rfl (XS.iload X25.here hx rfl (hb hby at_310) rfl kt))))))))))) ?_
         refine ownE.retN X25 hx hlk (t := .boolean) hret (by simp) (hb hby at_312) ?_ (by decide) (by decide)
         show own_Q0e Z i0 i1 i2 cs fmt h0 n0 _ T25.heap _
         rw [e25]
         exact ⟨(by rw [own_f0e, if_pos hc20, if_pos hc21, if_pos hc23, if_pos hc24] <;> first | rfl | decide), N25, K18⟩
        · -- pc 250
         refine ownE.go (T' := T22) (f' := (mkF m 253 (own_l21 i0 i1 i2 cs sb_13 sb_14 b15 b17) [])) (fun t kt => XS.ifNo (g := (mkF m 250 (own_l21 i0 i1 i2 cs sb_13 sb_14 b15 b17) [(.int (own_j0e_50_S0 i0 i1 i2 cs))])) X22.here hx rfl (hb hby at_250) rfl (Jvm.Free.XT.i0_eq_f hc24) kt) ?_
         refine ownE.go (f' := (mkF m 257 (own_l21 i0 i1 i2 cs sb_13 sb_14 b15 b17) [(.ref sb_14), (.ref b15)])) (fun t kt => XS.aload X22.here hx rfl (hb hby at_253) rfl rfl (XS.aload X22.here hx rfl (hb hby at_255) rfl rfl kt)) ?_
         obtain ⟨cq26, kq26, q26a, q26b, q26c⟩ := isOf hZ e22 q479
         obtain ⟨_, _, ⟨T26, L26, k26, n26⟩, -, X26, ⟨Lc26, hQ26, l26, y26, z26⟩, st26⟩ := X22.virtualBack hx (y := own_y29) (z := own_y29) hown (mvT hZ (own_w hw 157 rfl)) (mvT hZ (own_w hw 158 rfl)) (notFace_of_selects (args := #[]) (mvT hZ (own_w hw 160 rfl))) (mvT hZ (own_w hw 160 rfl)) (mvT hZ (own_w hw 159 rfl)) (by decide) (backOf (W := 0) (own_rm270 l Z a0 hw [] b15 sb_14 T18.heap n0 (Nat.le_trans Z0 K18.1) q479 q480) hZ (own_w hw 161 rfl) (own_w hw 28 rfl) (by decide) (by decide)) q26a q26c (g := (mkF m 257 (own_l21 i0 i1 i2 cs sb_13 sb_14 b15 b17) [(.ref sb_14), (.ref b15)])) rfl (by rw [hml]; rfl) (Steps.refl _) (argsL := [(.ref sb_14)]) (rest := []) (lenOf own_pd30 rfl) rfl (Nat.le_of_eq rfl) (hb hby at_257) (fun _ _ => ⟨rfl, e22, (by decide : 6 + 0 ≤ _), (by decide : 22 + 0 ≤ _)⟩)
         dsimp only [Pt.U, Pt.locs, Pt.cells, Pt.slots] at X26 l26 y26 z26 st26 hQ26
         subst l26 y26 z26
         obtain ⟨rfl, N26q, e26⟩ := hQ26
         have N26 := Fr.app N22 N26q
         refine ownE.goS st26 ?_
         refine ownE.go (f' := (mkF m 282 (own_l21 i0 i1 i2 cs sb_13 sb_14 b15 b17) [(.ref b15)])) (fun t kt => XS.pop X26.here hx rfl (hb hby at_260) rfl rfl (XS.iload X26.here hx rfl (hb hby at_261) rfl (XS.ifNo X26.here hx rfl (hb hby at_263) rfl (Jvm.Free.XT.i0_eq_f (by decide)) (XS.iconst X26.here hx rfl (hb hby at_266) (XS.istore X26.here hx rfl (hb hby at_267) rfl (l' := (own_l21 i0 i1 i2 cs sb_13 sb_14 b15 b17)) rfl (XS.goto X26.here hx rfl (pc0 := 269) (pc' := 275) rfl (hb hby at_269) (by decide) (by decide) (XS.iload X26.here hx rfl (hb hby at_275) rfl (XS.ifNo X26.here hx rfl (hb hby at_277) rfl (Jvm.Free.XT.i0_eq_f (by decide)) (XS.aload X26.here hx rfl (hb hby at_280) rfl rfl kt))))))))) ?_
         obtain ⟨cq27, kq27, q27a, q27b, q27c⟩ := isOf hZ e26 q479
         obtain ⟨_, _, ⟨T27, L27, k27, n27⟩, -, X27, ⟨Lc27, hQ27, l27, y27, z27⟩, st27⟩ := X26.virtualBack hx (y := own_y27) (z := own_y27) hown (mvT hZ (own_w hw 65 rfl)) (mvT hZ (own_w hw 66 rfl)) (notFace_of_selects (args := #[]) (mvT hZ (own_w hw 68 rfl))) (mvT hZ (own_w hw 68 rfl)) (mvT hZ (own_w hw 67 rfl)) (by decide) (backOf (W := 0) (own_rm90 l Z a0 hw [] b15 T18.heap n0 (Nat.le_trans Z0 K18.1) q479 q480) hZ (own_w hw 69 rfl) (own_w hw 28 rfl) (by decide) (by decide)) q27a q27c (g := (mkF m 282 (own_l21 i0 i1 i2 cs sb_13 sb_14 b15 b17) [(.ref b15)])) rfl (by rw [hml]; rfl) (Steps.refl _) (argsL := []) (rest := []) (lenOf own_pd16 rfl) rfl (Nat.le_of_eq rfl) (hb hby at_282) (fun _ _ => ⟨rfl, e26, (by decide : 6 + 0 ≤ _), (by decide : 22 + 0 ≤ _)⟩)
         dsimp only [Pt.U, Pt.locs, Pt.cells, Pt.slots] at X27 l27 y27 z27 st27 hQ27
         subst l27 y27 z27
         obtain ⟨rfl, N27q, e27⟩ := hQ27
         have N27 := Fr.app N26 N27q
         refine ownE.goS st27 ?_
         refine ownE.go (f' := (mkF m 312 (own_l21 i0 i1 i2 cs sb_13 sb_14 b15 b17) [(.int (1 : Int32))])) (fun t kt => XS.iload X27.here hx rfl (hb hby at_285) rfl (XS.ifNo X27.here hx rfl (hb hby at_287) rfl (Jvm.Free.XT.i0_ne_f (by decide)) (XS.iload X27.here hx rfl (hb hby at_290) rfl (XS.ifNo X27.here hx rfl (hb hby at_292) rfl (Jvm.Free.XT.i0_ne_f (by decide)) (XS.iconst X27.here hx rfl (hb hby at_295) (XS.goto X27.here hx rfl (pc0 := 296) (pc' := 300) rfl (hb hby at_296) (by decide) (by decide) (XS.icmpNo X27.here hx rfl (hb hby at_300) rfl (Jvm.Free.XT.ii_ne_f (by decide)) (XS.iconst X27.here hx rfl (hb hby at_303) (XS.goto X27.here hx rfl (pc0 := 304) (pc' := 308) rfl (hb hby at_304) (by decide) (by decide) (XS.istore X27.here hx rfl (hb hby at_308) rfl (l' := (own_l21 i0 i1 i2 cs sb_13 sb_14 b15 b17)) rfl (XS.iload X27.here hx rfl (hb hby at_310) rfl kt))))))))))) ?_
         refine ownE.retN X27 hx hlk (t := .boolean) hret (by simp) (hb hby at_312) ?_ (by decide) (by decide)
         show own_Q0e Z i0 i1 i2 cs fmt h0 n0 _ T27.heap _
         rw [e27]
         exact ⟨(by rw [own_f0e, if_pos hc20, if_pos hc21, if_pos hc23, if_neg hc24] <;> first | rfl | decide), N27, K18⟩
       · -- pc 234
        refine ownE.go (T' := T22) (f' := (mkF m 237 (own_l21 i0 i1 i2 cs sb_13 sb_14 b15 b17) [])) (fun t kt => XS.ifNo (g := (mkF m 234 (own_l21 i0 i1 i2 cs sb_13 sb_14 b15 b17) [(.int (own_j0e_36_S0 i0 i1 i2 cs))])) X22.here hx rfl (hb hby at_234) rfl (Jvm.Free.XT.i0_eq_f hc23) kt) ?_
        refine ownE.go (f' := (mkF m 241 (own_l21 i0 i1 i2 cs sb_13 sb_14 b15 b17) [(.ref sb_13), (.ref b15)])) (fun t kt => XS.aload X22.here hx rfl (hb hby at_237) rfl rfl (XS.aload X22.here hx rfl (hb hby at_239) rfl rfl kt)) ?_
        obtain ⟨cq28, kq28, q28a, q28b, q28c⟩ := isOf hZ e22 q479
        obtain ⟨_, _, ⟨T28, L28, k28, n28⟩, -, X28, ⟨Lc28, hQ28, l28, y28, z28⟩, st28⟩ := X22.virtualBack hx (y := own_y29) (z := own_y29) hown (mvT hZ (own_w hw 157 rfl)) (mvT hZ (own_w hw 158 rfl)) (notFace_of_selects (args := #[]) (mvT hZ (own_w hw 160 rfl))) (mvT hZ (own_w hw 160 rfl)) (mvT hZ (own_w hw 159 rfl)) (by decide) (backOf (W := 0) (own_rm270 l Z a0 hw [] b15 sb_13 T18.heap n0 (Nat.le_trans Z0 K18.1) q479 q480) hZ (own_w hw 161 rfl) (own_w hw 28 rfl) (by decide) (by decide)) q28a q28c (g := (mkF m 241 (own_l21 i0 i1 i2 cs sb_13 sb_14 b15 b17) [(.ref sb_13), (.ref b15)])) rfl (by rw [hml]; rfl) (Steps.refl _) (argsL := [(.ref sb_13)]) (rest := []) (lenOf own_pd30 rfl) rfl (Nat.le_of_eq rfl) (hb hby at_241) (fun _ _ => ⟨rfl, e22, (by decide : 6 + 0 ≤ _), (by decide : 22 + 0 ≤ _)⟩)
        dsimp only [Pt.U, Pt.locs, Pt.cells, Pt.slots] at X28 l28 y28 z28 st28 hQ28
        subst l28 y28 z28
        obtain ⟨rfl, N28q, e28⟩ := hQ28
        have N28 := Fr.app N22 N28q
        refine ownE.goS st28 ?_
        refine ownE.go (f' := (mkF m 250 (own_l21 i0 i1 i2 cs sb_13 sb_14 b15 b17) [(.int (own_j0e_50_S0 i0 i1 i2 cs))])) (fun t kt => XS.pop X28.here hx rfl (hb hby at_244) rfl rfl (XS.iconst X28.here hx rfl (hb hby at_245) (XS.istore X28.here hx rfl (hb hby at_246) rfl (l' := (own_l21 i0 i1 i2 cs sb_13 sb_14 b15 b17)) rfl (XS.iload X28.here hx rfl (hb hby at_248) rfl kt)))) ?_
        by_cases hc29 : (own_j0e_50_S0 i0 i1 i2 cs) = (0 : Int32)
        · -- pc 250
         refine ownE.go (T' := T28) (f' := (mkF m 275 (own_l21 i0 i1 i2 cs sb_13 sb_14 b15 b17) [])) (fun t kt => XS.ifYes (g := (mkF m 250 (own_l21 i0 i1 i2 cs sb_13 sb_14 b15 b17) [(.int (own_j0e_50_S0 i0 i1 i2 cs))])) X28.here hx rfl (pc0 := 250) (pc' := 275) rfl (hb hby at_250) rfl (Jvm.Free.XT.i0_eq_t hc29) (by decide) (by decide) kt) ?_
         refine ownE.go (f' := (mkF m 282 (own_l21 i0 i1 i2 cs sb_13 sb_14 b15 b17) [(.ref b15)])) (fun t kt => XS.iload X28.here hx rfl (hb hby at_275) rfl (XS.ifNo X28.here hx rfl (hb hby at_277) rfl (Jvm.Free.XT.i0_eq_f (by decide)) (XS.aload X28.here hx rfl (hb hby at_280) rfl rfl kt))) ?_
         obtain ⟨cq30, kq30, q30a, q30b, q30c⟩ := isOf hZ e28 q479
         obtain ⟨_, _, ⟨T30, L30, k30, n30⟩, -, X30, ⟨Lc30, hQ30, l30, y30, z30⟩, st30⟩ := X28.virtualBack hx (y := own_y27) (z := own_y27) hown (mvT hZ (own_w hw 65 rfl)) (mvT hZ (own_w hw 66 rfl)) (notFace_of_selects (args := #[]) (mvT hZ (own_w hw 68 rfl))) (mvT hZ (own_w hw 68 rfl)) (mvT hZ (own_w hw 67 rfl)) (by decide) (backOf (W := 0) (own_rm90 l Z a0 hw [] b15 T18.heap n0 (Nat.le_trans Z0 K18.1) q479 q480) hZ (own_w hw 69 rfl) (own_w hw 28 rfl) (by decide) (by decide)) q30a q30c (g := (mkF m 282 (own_l21 i0 i1 i2 cs sb_13 sb_14 b15 b17) [(.ref b15)])) rfl (by rw [hml]; rfl) (Steps.refl _) (argsL := []) (rest := []) (lenOf own_pd16 rfl) rfl (Nat.le_of_eq rfl) (hb hby at_282) (fun _ _ => ⟨rfl, e28, (by decide : 6 + 0 ≤ _), (by decide : 22 + 0 ≤ _)⟩)
         dsimp only [Pt.U, Pt.locs, Pt.cells, Pt.slots] at X30 l30 y30 z30 st30 hQ30
         subst l30 y30 z30
         obtain ⟨rfl, N30q, e30⟩ := hQ30
         have N30 := Fr.app N28 N30q
         refine ownE.goS st30 ?_
         refine ownE.go (f' := (mkF m 312 (own_l21 i0 i1 i2 cs sb_13 sb_14 b15 b17) [(.int (1 : Int32))])) (fun t kt => XS.iload X30.here hx rfl (hb hby at_285) rfl (XS.ifNo X30.here hx rfl (hb hby at_287) rfl (Jvm.Free.XT.i0_ne_f (by decide)) (XS.iload X30.here hx rfl (hb hby at_290) rfl (XS.ifNo X30.here hx rfl (hb hby at_292) rfl (Jvm.Free.XT.i0_ne_f (by decide)) (XS.iconst X30.here hx rfl (hb hby at_295) (XS.goto X30.here hx rfl (pc0 := 296) (pc' := 300) rfl (hb hby at_296) (by decide) (by decide) (XS.icmpNo X30.here hx rfl (hb hby at_300) rfl (Jvm.Free.XT.ii_ne_f (by decide)) (XS.iconst X30.here hx rfl (hb hby at_303) (XS.goto X30.here hx rfl (pc0 := 304) (pc' := 308) rfl (hb hby at_304) (by decide) (by decide) (XS.istore X30.here hx rfl (hb hby at_308) rfl (l' := (own_l21 i0 i1 i2 cs sb_13 sb_14 b15 b17)) rfl (XS.iload X30.here hx rfl (hb hby at_310) rfl kt))))))))))) ?_
         refine ownE.retN X30 hx hlk (t := .boolean) hret (by simp) (hb hby at_312) ?_ (by decide) (by decide)
         show own_Q0e Z i0 i1 i2 cs fmt h0 n0 _ T30.heap _
         rw [e30]
         exact ⟨(by rw [own_f0e, if_pos hc20, if_pos hc21, if_neg hc23, if_pos hc29] <;> first | rfl | decide), N30, K18⟩
        · -- pc 250
         refine ownE.go (T' := T28) (f' := (mkF m 253 (own_l21 i0 i1 i2 cs sb_13 sb_14 b15 b17) [])) (fun t kt => XS.ifNo (g := (mkF m 250 (own_l21 i0 i1 i2 cs sb_13 sb_14 b15 b17) [(.int (own_j0e_50_S0 i0 i1 i2 cs))])) X28.here hx rfl (hb hby at_250) rfl (Jvm.Free.XT.i0_eq_f hc29) kt) ?_
         refine ownE.go (f' := (mkF m 257 (own_l21 i0 i1 i2 cs sb_13 sb_14 b15 b17) [(.ref sb_14), (.ref b15)])) (fun t kt => XS.aload X28.here hx rfl (hb hby at_253) rfl rfl (XS.aload X28.here hx rfl (hb hby at_255) rfl rfl kt)) ?_
         obtain ⟨cq31, kq31, q31a, q31b, q31c⟩ := isOf hZ e28 q479
         obtain ⟨_, _, ⟨T31, L31, k31, n31⟩, -, X31, ⟨Lc31, hQ31, l31, y31, z31⟩, st31⟩ := X28.virtualBack hx (y := own_y29) (z := own_y29) hown (mvT hZ (own_w hw 157 rfl)) (mvT hZ (own_w hw 158 rfl)) (notFace_of_selects (args := #[]) (mvT hZ (own_w hw 160 rfl))) (mvT hZ (own_w hw 160 rfl)) (mvT hZ (own_w hw 159 rfl)) (by decide) (backOf (W := 0) (own_rm270 l Z a0 hw [] b15 sb_14 T18.heap n0 (Nat.le_trans Z0 K18.1) q479 q480) hZ (own_w hw 161 rfl) (own_w hw 28 rfl) (by decide) (by decide)) q31a q31c (g := (mkF m 257 (own_l21 i0 i1 i2 cs sb_13 sb_14 b15 b17) [(.ref sb_14), (.ref b15)])) rfl (by rw [hml]; rfl) (Steps.refl _) (argsL := [(.ref sb_14)]) (rest := []) (lenOf own_pd30 rfl) rfl (Nat.le_of_eq rfl) (hb hby at_257) (fun _ _ => ⟨rfl, e28, (by decide : 6 + 0 ≤ _), (by decide : 22 + 0 ≤ _)⟩)
         dsimp only [Pt.U, Pt.locs, Pt.cells, Pt.slots] at X31 l31 y31 z31 st31 hQ31
         subst l31 y31 z31
         obtain ⟨rfl, N31q, e31⟩ := hQ31
         have N31 := Fr.app N28 N31q
         refine ownE.goS st31 ?_
         refine ownE.go (f' := (mkF m 282 (own_l21 i0 i1 i2 cs sb_13 sb_14 b15 b17) [(.ref b15)])) (fun t kt => XS.pop X31.here hx rfl (hb hby at_260) rfl rfl (XS.iload X31.here hx rfl (hb hby at_261) rfl (XS.ifNo X31.here hx rfl (hb hby at_263) rfl (Jvm.Free.XT.i0_eq_f (by decide)) (XS.iconst X31.here hx rfl (hb hby at_266) (XS.istore X31.here hx rfl (hb hby at_267) rfl (l' := (own_l21 i0 i1 i2 cs sb_13 sb_14 b15 b17)) rfl (XS.goto X31.here hx rfl (pc0 := 269) (pc' := 275) rfl (hb hby at_269) (by decide) (by decide) (XS.iload X31.here hx rfl (hb hby at_275) rfl (XS.ifNo X31.here hx rfl (hb hby at_277) rfl (Jvm.Free.XT.i0_eq_f (by decide)) (XS.aload X31.here hx rfl (hb hby at_280) rfl rfl kt))))))))) ?_
         obtain ⟨cq32, kq32, q32a, q32b, q32c⟩ := isOf hZ e31 q479
         obtain ⟨_, _, ⟨T32, L32, k32, n32⟩, -, X32, ⟨Lc32, hQ32, l32, y32, z32⟩, st32⟩ := X31.virtualBack hx (y := own_y27) (z := own_y27) hown (mvT hZ (own_w hw 65 rfl)) (mvT hZ (own_w hw 66 rfl)) (notFace_of_selects (args := #[]) (mvT hZ (own_w hw 68 rfl))) (mvT hZ (own_w hw 68 rfl)) (mvT hZ (own_w hw 67 rfl)) (by decide) (backOf (W := 0) (own_rm90 l Z a0 hw [] b15 T18.heap n0 (Nat.le_trans Z0 K18.1) q479 q480) hZ (own_w hw 69 rfl) (own_w hw 28 rfl) (by decide) (by decide)) q32a q32c (g := (mkF m 282 (own_l21 i0 i1 i2 cs sb_13 sb_14 b15 b17) [(.ref b15)])) rfl (by rw [hml]; rfl) (Steps.refl _) (argsL := []) (rest := []) (lenOf own_pd16 rfl) rfl (Nat.le_of_eq rfl) (hb hby at_282) (fun _ _ => ⟨rfl, e31, (by decide : 6 + 0 ≤ _), (by decide : 22 + 0 ≤ _)⟩)
         dsimp only [Pt.U, Pt.locs, Pt.cells, Pt.slots] at X32 l32 y32 z32 st32 hQ32
         subst l32 y32 z32
         obtain ⟨rfl, N32q, e32⟩ := hQ32
         have N32 := Fr.app N31 N32q
         refine ownE.goS st32 ?_
         refine ownE.go (f' := (mkF m 312 (own_l21 i0 i1 i2 cs sb_13 sb_14 b15 b17) [(.int (1 : Int32))])) (fun t kt => XS.iload X32.here hx rfl (hb hby at_285) rfl (XS.ifNo X32.here hx rfl (hb hby at_287) rfl (Jvm.Free.XT.i0_ne_f (by decide)) (XS.iload X32.here hx rfl (hb hby at_290) rfl (XS.ifNo X32.here hx rfl (hb hby at_292) rfl (Jvm.Free.XT.i0_ne_f (by decide)) (XS.iconst X32.here hx rfl (hb hby at_295) (XS.goto X32.here hx rfl (pc0 := 296) (pc' := 300) rfl (hb hby at_296) (by decide) (by decide) (XS.icmpNo X32.here hx rfl (hb hby at_300) rfl (Jvm.Free.XT.ii_ne_f (by decide)) (XS.iconst X32.here hx rfl (hb hby at_303) (XS.goto X32.here hx rfl (pc0 := 304) (pc' := 308) rfl (hb hby at_304) (by decide) (by decide) (XS.istore X32.here hx rfl (hb hby at_308) rfl (l' := (own_l21 i0 i1 i2 cs sb_13 sb_14 b15 b17)) rfl (XS.iload X32.here hx rfl (hb hby at_310) rfl kt))))))))))) ?_
         refine ownE.retN X32 hx hlk (t := .boolean) hret (by simp) (hb hby at_312) ?_ (by decide) (by decide)
         show own_Q0e Z i0 i1 i2 cs fmt h0 n0 _ T32.heap _
         rw [e32]
         exact ⟨(by rw [own_f0e, if_pos hc20, if_pos hc21, if_neg hc23, if_neg hc29] <;> first | rfl | decide), N32, K18⟩
      · -- pc 146
       refine ownE.go (T' := T19) (f' := (mkF m 149 (own_l19 i0 i1 i2 cs sb_13 sb_14 b15 b17) [])) (fun t kt => XS.ifNo (g := (mkF m 146 (own_l19 i0 i1 i2 cs sb_13 sb_14 b15 b17) [(.int (own_j0e_23_S0 i0 i1 i2 cs))])) X19.here hx rfl (hb hby at_146) rfl (Jvm.Free.XT.i0_eq_f hc21) kt) ?_
       refine ownE.go (f' := (mkF m 155 (own_l19 i0 i1 i2 cs sb_13 sb_14 b15 b17) [(.ref b17), (.ref sb_14), (.ref b15)])) (fun t kt => XS.aload X19.here hx rfl (hb hby at_149) rfl rfl (XS.aload X19.here hx rfl (hb hby at_151) rfl rfl (XS.aload X19.here hx rfl (hb hby at_153) rfl rfl kt))) ?_
       obtain ⟨cq33, kq33, q33a, q33b, q33c⟩ := isOf hZ e19 q479
       obtain ⟨_, _, ⟨T33, L33, k33, n33⟩, -, X33, ⟨Lc33, hQ33, l33, y33, z33⟩, st33⟩ := X19.virtualBack hx (y := own_y28) (z := own_y28) hown (mvT hZ (own_w hw 72 rfl)) (mvT hZ (own_w hw 73 rfl)) (notFace_of_selects (args := #[]) (mvT hZ (own_w hw 75 rfl))) (mvT hZ (own_w hw 75 rfl)) (mvT hZ (own_w hw 74 rfl)) (by decide) (backOf (W := 0) (own_rm100 l Z a0 hw [] b15 sb_14 b17 T18.heap n0 (Nat.le_trans Z0 K18.1) q479 q480 ge_b15) hZ (own_w hw 76 rfl) (own_w hw 28 rfl) (by decide) (by decide)) q33a q33c (g := (mkF m 155 (own_l19 i0 i1 i2 cs sb_13 sb_14 b15 b17) [(.ref b17), (.ref sb_14), (.ref b15)])) rfl (by rw [hml]; rfl) (Steps.refl _) (argsL := [(.ref sb_14), (.ref b17)]) (rest := []) (lenOf own_pd34 rfl) rfl (Nat.le_of_eq rfl) (hb hby at_155) (fun _ _ => ⟨rfl, e19, (by decide : 6 + 1 ≤ _), (by decide : 22 + 5 ≤ _)⟩)
       dsimp only [Pt.U, Pt.locs, Pt.cells, Pt.slots] at X33 l33 y33 z33 st33 hQ33
       subst l33 y33 z33
       obtain ⟨lk_33, rfl, N33q, K33q, f33_0, f33_1, f33_2, f33_3, f33_4, f33_5, f33_6, f33_7, f33_8⟩ := hQ33
       have ne_sb_13_lk_33 : sb_13 ≠ lk_33 := Nat.ne_of_lt (Nat.lt_of_lt_of_le q471.lt f33_0)
       have ne_vb_13_lk_33 : vb_13 ≠ lk_33 := Nat.ne_of_lt (Nat.lt_of_lt_of_le q474.lt f33_0)
       have ne_sb_14_lk_33 : sb_14 ≠ lk_33 := Nat.ne_of_lt (Nat.lt_of_lt_of_le q475.lt f33_0)
       have ne_vb_14_lk_33 : vb_14 ≠ lk_33 := Nat.ne_of_lt (Nat.lt_of_lt_of_le q478.lt f33_0)
       have ne_b15_lk_33 : b15 ≠ lk_33 := Nat.ne_of_lt (Nat.lt_of_lt_of_le q479.lt f33_0)
       have ne_b17_lk_33 : b17 ≠ lk_33 := Nat.ne_of_lt (Nat.lt_of_lt_of_le f18_0.lt f33_0)
       have q482 := q470.keep K33q (allS ge_b15 all0)
       have q483 := q471.keep K33q
       have q484 := q472.keep K33q (ninS ne_sb_13_b15 nin0)
       have q485 := q473.keep K33q (ninS ne_sb_13_b15 nin0)
       have q486 := q474.keep K33q (ninS ne_vb_13_b15 nin0)
       have q487 := q475.keep K33q
       have q488 := q476.keep K33q (ninS ne_sb_14_b15 nin0)
       have q489 := q477.keep K33q (ninS ne_sb_14_b15 nin0)
       have q490 := q478.keep K33q (ninS ne_vb_14_b15 nin0)
       have q491 := q479.keep K33q
       have q492 := f18_0.keep K33q
       have K33 : Keep h0 T33.heap [] := K18.trans K33q (allS (Or.inr sz_b15) all0)
       have sz_lk_33 : h0.size ≤ lk_33 := Nat.le_trans K18.1 f33_0
       have ge_lk_33 : n0 ≤ lk_33 := Nat.le_trans Z0 sz_lk_33
       have N33 := Fr.app N19 N33q
       refine ownE.goS st33 ?_
       refine ownE.go (f' := (mkF m 204 (own_l23 i0 i1 i2 cs sb_13 sb_14 b15 b17) [(.ref b15)])) (fun t kt => XS.pop X33.here hx rfl (hb hby at_158) rfl rfl (XS.iloadN X33.here hx rfl (hb hby at_159) rfl (XS.ifNo X33.here hx rfl (hb hby at_160) rfl (Jvm.Free.XT.i0_ne_f hc20) (XS.iload X33.here hx rfl (hb hby at_163) rfl (XS.ifNo X33.here hx rfl (hb hby at_165) rfl (Jvm.Free.XT.i0_eq_f hc21) (XS.iload X33.here hx rfl (hb hby at_168) rfl (XS.ifNo X33.here hx rfl (hb hby at_170) rfl (Jvm.Free.XT.i0_eq_f (by decide)) (XS.iconst X33.here hx rfl (hb hby at_173) (XS.goto X33.here hx rfl (pc0 := 174) (pc' := 178) rfl (hb hby at_174) (by decide) (by decide) (XS.istore X33.here hx rfl (hb hby at_178) rfl (l' := (own_l22 i0 i1 i2 cs sb_13 sb_14 b15 b17)) rfl (XS.iload X33.here hx rfl (hb hby at_180) rfl (XS.ifNo X33.here hx rfl (hb hby at_182) rfl (Jvm.Free.XT.i0_eq_f hc21) (XS.iload X33.here hx rfl (hb hby at_185) rfl (XS.ifYes X33.here hx rfl (pc0 := 187) (pc' := 194) rfl (hb hby at_187) rfl (Jvm.Free.XT.i0_ne_t (by decide)) (by decide) (by decide) (XS.iconst X33.here hx rfl (hb hby at_194) (XS.istore X33.here hx rfl (hb hby at_195) rfl (l' := (own_l23 i0 i1 i2 cs sb_13 sb_14 b15 b17)) rfl (XS.iload X33.here hx rfl (hb hby at_197) rfl (XS.ifNo X33.here hx rfl (hb hby at_199) rfl (Jvm.Free.XT.i0_eq_f (by decide)) (XS.aload X33.here hx rfl (hb hby at_202) rfl rfl kt))))))))))))))))))) ?_
       obtain ⟨cq34, kq34, q34a, q34b, q34c⟩ := isOf hZ rfl f33_1
       obtain ⟨_, _, ⟨T34, L34, k34, n34⟩, -, X34, ⟨Lc34, hQ34, l34, y34, z34⟩, st34⟩ := X33.virtualBack hx (y := own_y27) (z := own_y27) hown (mvT hZ (own_w hw 65 rfl)) (mvT hZ (own_w hw 66 rfl)) (notFace_of_selects (args := #[]) (mvT hZ (own_w hw 68 rfl))) (mvT hZ (own_w hw 68 rfl)) (mvT hZ (own_w hw 67 rfl)) (by decide) (backOf (W := 0) (own_rm91 l Z a0 hw [] b15 lk_33 T33.heap n0 (Nat.le_trans Z0 K33.1) f33_1 f33_2) hZ (own_w hw 69 rfl) (own_w hw 28 rfl) (by decide) (by decide)) q34a q34c (g := (mkF m 204 (own_l23 i0 i1 i2 cs sb_13 sb_14 b15 b17) [(.ref b15)])) rfl (by rw [hml]; rfl) (Steps.refl _) (argsL := []) (rest := []) (lenOf own_pd16 rfl) rfl (Nat.le_of_eq rfl) (hb hby at_204) (fun _ _ => ⟨rfl, rfl, (by decide : 7 + 0 ≤ _), (by decide : 27 + 0 ≤ _)⟩)
       dsimp only [Pt.U, Pt.locs, Pt.cells, Pt.slots] at X34 l34 y34 z34 st34 hQ34
       subst l34 y34 z34
       obtain ⟨rfl, N34q, e34⟩ := hQ34
       have N34 := Fr.app N33 N34q
       refine ownE.goS st34 ?_
       refine ownE.go (f' := (mkF m 234 (own_l23 i0 i1 i2 cs sb_13 sb_14 b15 b17) [(.int (own_j0e_36_S0 i0 i1 i2 cs))])) (fun t kt => XS.iload X34.here hx rfl (hb hby at_207) rfl (XS.ifYes X34.here hx rfl (pc0 := 209) (pc' := 221) rfl (hb hby at_209) rfl (Jvm.Free.XT.i0_ne_t (by decide)) (by decide) (by decide) (XS.iconst X34.here hx rfl (hb hby at_221) (XS.icmpNo X34.here hx rfl (hb hby at_222) rfl (Jvm.Free.XT.ii_ne_f (by decide)) (XS.iconst X34.here hx rfl (hb hby at_225) (XS.goto X34.here hx rfl (pc0 := 226) (pc' := 230) rfl (hb hby at_226) (by decide) (by decide) (XS.istore X34.here hx rfl (hb hby at_230) rfl (l' := (own_l23 i0 i1 i2 cs sb_13 sb_14 b15 b17)) rfl (XS.iload X34.here hx rfl (hb hby at_232) rfl kt)))))))) ?_
       by_cases hc35 : (own_j0e_36_S0 i0 i1 i2 cs) = (0 : Int32)
       · -- pc 234
        refine ownE.go (T' := T34) (f' := (mkF m 248 (own_l23 i0 i1 i2 cs sb_13 sb_14 b15 b17) [])) (fun t kt => XS.ifYes (g := (mkF m 234 (own_l23 i0 i1 i2 cs sb_13 sb_14 b15 b17) [(.int (own_j0e_36_S0 i0 i1 i2 cs))])) X34.here hx rfl (pc0 := 234) (pc' := 248) rfl (hb hby at_234) rfl (Jvm.Free.XT.i0_eq_t hc35) (by decide) (by decide) kt) ?_
        refine ownE.go (f' := (mkF m 250 (own_l23 i0 i1 i2 cs sb_13 sb_14 b15 b17) [(.int (own_j0e_50_S0 i0 i1 i2 cs))])) (fun t kt => XS.iload X34.here hx rfl (hb hby at_248) rfl kt) ?_
        by_cases hc36 : (own_j0e_50_S0 i0 i1 i2 cs) = (0 : Int32)
        · -- pc 250
         refine ownE.go (T' := T34) (f' := (mkF m 275 (own_l23 i0 i1 i2 cs sb_13 sb_14 b15 b17) [])) (fun t kt => XS.ifYes (g := (mkF m 250 (own_l23 i0 i1 i2 cs sb_13 sb_14 b15 b17) [(.int (own_j0e_50_S0 i0 i1 i2 cs))])) X34.here hx rfl (pc0 := 250) (pc' := 275) rfl (hb hby at_250) rfl (Jvm.Free.XT.i0_eq_t hc36) (by decide) (by decide) kt) ?_
         refine ownE.go (f' := (mkF m 282 (own_l23 i0 i1 i2 cs sb_13 sb_14 b15 b17) [(.ref b15)])) (fun t kt => XS.iload X34.here hx rfl (hb hby at_275) rfl (XS.ifNo X34.here hx rfl (hb hby at_277) rfl (Jvm.Free.XT.i0_eq_f (by decide)) (XS.aload X34.here hx rfl (hb hby at_280) rfl rfl kt))) ?_
         obtain ⟨cq37, kq37, q37a, q37b, q37c⟩ := isOf hZ e34 f33_1
         obtain ⟨_, _, ⟨T37, L37, k37, n37⟩, -, X37, ⟨Lc37, hQ37, l37, y37, z37⟩, st37⟩ := X34.virtualBack hx (y := own_y27) (z := own_y27) hown (mvT hZ (own_w hw 65 rfl)) (mvT hZ (own_w hw 66 rfl)) (notFace_of_selects (args := #[]) (mvT hZ (own_w hw 68 rfl))) (mvT hZ (own_w hw 68 rfl)) (mvT hZ (own_w hw 67 rfl)) (by decide) (backOf (W := 0) (own_rm91 l Z a0 hw [] b15 lk_33 T33.heap n0 (Nat.le_trans Z0 K33.1) f33_1 f33_2) hZ (own_w hw 69 rfl) (own_w hw 28 rfl) (by decide) (by decide)) q37a q37c (g := (mkF m 282 (own_l23 i0 i1 i2 cs sb_13 sb_14 b15 b17) [(.ref b15)])) rfl (by rw [hml]; rfl) (Steps.refl _) (argsL := []) (rest := []) (lenOf own_pd16 rfl) rfl (Nat.le_of_eq rfl) (hb hby at_282) (fun _ _ => ⟨rfl, e34, (by decide : 7 + 0 ≤ _), (by decide : 27 + 0 ≤ _)⟩)
         dsimp only [Pt.U, Pt.locs, Pt.cells, Pt.slots] at X37 l37 y37 z37 st37 hQ37
         subst l37 y37 z37
         obtain ⟨rfl, N37q, e37⟩ := hQ37
         have N37 := Fr.app N34 N37q
         refine ownE.goS st37 ?_
         refine ownE.go (f' := (mkF m 312 (own_l23 i0 i1 i2 cs sb_13 sb_14 b15 b17) [(.int (1 : Int32))])) (fun t kt => XS.iload X37.here hx rfl (hb hby at_285) rfl (XS.ifYes X37.here hx rfl (pc0 := 287) (pc' := 299) rfl (hb hby at_287) rfl (Jvm.Free.XT.i0_ne_t (by decide)) (by decide) (by decide) (XS.iconst X37.here hx rfl (hb hby at_299) (XS.icmpNo X37.here hx rfl (hb hby at_300) rfl (Jvm.Free.XT.ii_ne_f (by decide)) (XS.iconst X37.here hx rfl (hb hby at_303) (XS.goto X37.here hx rfl (pc0 := 304) (pc' := 308) rfl (hb hby at_304) (by decide) (by decide) (XS.istore X37.here hx rfl (hb hby at_308) rfl (l' := (own_l23 i0 i1 i2 cs sb_13 sb_14 b15 b17)) rfl (XS.iload X37.here hx rfl (hb hby at_310) rfl kt)))))))) ?_
         refine ownE.retN X37 hx hlk (t := .boolean) hret (by simp) (hb hby at_312) ?_ (by decide) (by decide)
         show own_Q0e Z i0 i1 i2 cs fmt h0 n0 _ T37.heap _
         rw [e37]
         exact ⟨(by rw [own_f0e, if_pos hc20, if_neg hc21, if_pos hc35, if_pos hc36] <;> first | rfl | decide), N37, K33⟩
        · -- pc 250
         refine ownE.go (T' := T34) (f' := (mkF m 253 (own_l23 i0 i1 i2 cs sb_13 sb_14 b15 b17) [])) (fun t kt => XS.ifNo (g := (mkF m 250 (own_l23 i0 i1 i2 cs sb_13 sb_14 b15 b17) [(.int (own_j0e_50_S0 i0 i1 i2 cs))])) X34.here hx rfl (hb hby at_250) rfl (Jvm.Free.XT.i0_eq_f hc36) kt) ?_
         refine ownE.go (f' := (mkF m 257 (own_l23 i0 i1 i2 cs sb_13 sb_14 b15 b17) [(.ref sb_14), (.ref b15)])) (fun t kt => XS.aload X34.here hx rfl (hb hby at_253) rfl rfl (XS.aload X34.here hx rfl (hb hby at_255) rfl rfl kt)) ?_
         obtain ⟨cq38, kq38, q38a, q38b, q38c⟩ := isOf hZ e34 f33_1
         obtain ⟨_, _, ⟨T38, L38, k38, n38⟩, -, X38, ⟨Lc38, hQ38, l38, y38, z38⟩, st38⟩ := X34.virtualBack hx (y := own_y29) (z := own_y29) hown (mvT hZ (own_w hw 157 rfl)) (mvT hZ (own_w hw 158 rfl)) (notFace_of_selects (args := #[]) (mvT hZ (own_w hw 160 rfl))) (mvT hZ (own_w hw 160 rfl)) (mvT hZ (own_w hw 159 rfl)) (by decide) (backOf (W := 0) (own_rm271e l Z a0 hw [] b15 sb_14 vb_14 kb_14 ((((i1 &&& (255 : Int32)).toUInt32.toUInt16.toUInt32.toInt32).toInt8.toInt32).toInt8.toInt32) lk_33 sb_14 vb_14 kb_14 ((((i1 &&& (255 : Int32)).toUInt32.toUInt16.toUInt32.toInt32).toInt8.toInt32).toInt8.toInt32) b17 cs fmt T33.heap n0 (Nat.le_trans Z0 K33.1) q482 hcs hcsn zfm hfm f33_1 f33_2 ge_b15 f33_4 f33_5 f33_6 f33_7 q487 q489 q488 q490 q487 q489 q488 q490 rfl) hZ (own_w hw 161 rfl) (own_w hw 28 rfl) (by decide) (by decide)) q38a q38c (g := (mkF m 257 (own_l23 i0 i1 i2 cs sb_13 sb_14 b15 b17) [(.ref sb_14), (.ref b15)])) rfl (by rw [hml]; rfl) (Steps.refl _) (argsL := [(.ref sb_14)]) (rest := []) (lenOf own_pd30 rfl) rfl (Nat.le_of_eq rfl) (hb hby at_257) (fun _ _ => ⟨rfl, e34, (by decide : 7 + 0 ≤ _), (by decide : 27 + 0 ≤ _)⟩)
         dsimp only [Pt.U, Pt.locs, Pt.cells, Pt.slots] at X38 l38 y38 z38 st38 hQ38
         subst l38 y38 z38
         obtain ⟨rfl, N38q, K38q, f38_0, f38_1⟩ := hQ38
         have q493 := q482.keep K38q (allS ge_b15 all0)
         have q494 := q483.keep K38q
         have q495 := q484.keep K38q (ninS ne_sb_13_b15 nin0)
         have q496 := q485.keep K38q (ninS ne_sb_13_b15 nin0)
         have q497 := q486.keep K38q (ninS ne_vb_13_b15 nin0)
         have q498 := q487.keep K38q
         have q499 := q488.keep K38q (ninS ne_sb_14_b15 nin0)
         have q500 := q489.keep K38q (ninS ne_sb_14_b15 nin0)
         have q501 := q490.keep K38q (ninS ne_vb_14_b15 nin0)
         have q502 := f33_1.keep K38q
         have q503 := q492.keep K38q
         have q504 := f33_3.keep K38q
         have q505 := f33_4.keep K38q (ninS (Ne.symm ne_b15_lk_33) nin0)
         have q506 := f33_5.keep K38q (ninS (Ne.symm ne_b15_lk_33) nin0)
         have q507 := f33_6.keep K38q (ninS (Ne.symm ne_b15_lk_33) nin0)
         have q508 := f33_7.keep K38q (ninS (Ne.symm ne_b15_lk_33) nin0)
         have q509 := f33_8.keep K38q (ninS (Ne.symm ne_b15_lk_33) nin0)
         have K38 : Keep h0 T38.heap [] := K33.trans K38q (allS (Or.inr sz_b15) all0)
         have N38 := Fr.app N34 N38q
         refine ownE.goS st38 ?_
         refine ownE.go (f' := (mkF m 282 (own_l21 i0 i1 i2 cs sb_13 sb_14 b15 b17) [(.ref b15)])) (fun t kt => XS.pop X38.here hx rfl (hb hby at_260) rfl rfl (XS.iload X38.here hx rfl (hb hby at_261) rfl (XS.ifNo X38.here hx rfl (hb hby at_263) rfl (Jvm.Free.XT.i0_eq_f (by decide)) (XS.iconst X38.here hx rfl (hb hby at_266) (XS.istore X38.here hx rfl (hb hby at_267) rfl (l' := (own_l21 i0 i1 i2 cs sb_13 sb_14 b15 b17)) rfl (XS.goto X38.here hx rfl (pc0 := 269) (pc' := 275) rfl (hb hby at_269) (by decide) (by decide) (XS.iload X38.here hx rfl (hb hby at_275) rfl (XS.ifNo X38.here hx rfl (hb hby at_277) rfl (Jvm.Free.XT.i0_eq_f (by decide)) (XS.aload X38.here hx rfl (hb hby at_280) rfl rfl kt))))))))) ?_
         obtain ⟨cq39, kq39, q39a, q39b, q39c⟩ := isOf hZ rfl f38_0
         obtain ⟨_, _, ⟨T39, L39, k39, n39⟩, -, X39, ⟨Lc39, hQ39, l39, y39, z39⟩, st39⟩ := X38.virtualBack hx (y := own_y27) (z := own_y27) hown (mvT hZ (own_w hw 65 rfl)) (mvT hZ (own_w hw 66 rfl)) (notFace_of_selects (args := #[]) (mvT hZ (own_w hw 68 rfl))) (mvT hZ (own_w hw 68 rfl)) (mvT hZ (own_w hw 67 rfl)) (by decide) (backOf (W := 0) (own_rm90 l Z a0 hw [] b15 T38.heap n0 (Nat.le_trans Z0 K38.1) f38_0 f38_1) hZ (own_w hw 69 rfl) (own_w hw 28 rfl) (by decide) (by decide)) q39a q39c (g := (mkF m 282 (own_l21 i0 i1 i2 cs sb_13 sb_14 b15 b17) [(.ref b15)])) rfl (by rw [hml]; rfl) (Steps.refl _) (argsL := []) (rest := []) (lenOf own_pd16 rfl) rfl (Nat.le_of_eq rfl) (hb hby at_282) (fun _ _ => ⟨rfl, rfl, (by decide : 7 + 0 ≤ _), (by decide : 27 + 0 ≤ _)⟩)
         dsimp only [Pt.U, Pt.locs, Pt.cells, Pt.slots] at X39 l39 y39 z39 st39 hQ39
         subst l39 y39 z39
         obtain ⟨rfl, N39q, e39⟩ := hQ39
         have N39 := Fr.app N38 N39q
         refine ownE.goS st39 ?_
         refine ownE.go (f' := (mkF m 312 (own_l21 i0 i1 i2 cs sb_13 sb_14 b15 b17) [(.int (1 : Int32))])) (fun t kt => XS.iload X39.here hx rfl (hb hby at_285) rfl (XS.ifNo X39.here hx rfl (hb hby at_287) rfl (Jvm.Free.XT.i0_ne_f (by decide)) (XS.iload X39.here hx rfl (hb hby at_290) rfl (XS.ifNo X39.here hx rfl (hb hby at_292) rfl (Jvm.Free.XT.i0_ne_f (by decide)) (XS.iconst X39.here hx rfl (hb hby at_295) (XS.goto X39.here hx rfl (pc0 := 296) (pc' := 300) rfl (hb hby at_296) (by decide) (by decide) (XS.icmpNo X39.here hx rfl (hb hby at_300) rfl (Jvm.Free.XT.ii_ne_f (by decide)) (XS.iconst X39.here hx rfl (hb hby at_303) (XS.goto X39.here hx rfl (pc0 := 304) (pc' := 308) rfl (hb hby at_304) (by decide) (by decide) (XS.istore X39.here hx rfl (hb hby at_308) rfl (l' := (own_l21 i0 i1 i2 cs sb_13 sb_14 b15 b17)) rfl (XS.iload X39.here hx rfl (hb hby at_310) rfl kt))))))))))) ?_
         refine ownE.retN X39 hx hlk (t := .boolean) hret (by simp) (hb hby at_312) ?_ (by decide) (by decide)
         show own_Q0e Z i0 i1 i2 cs fmt h0 n0 _ T39.heap _
         rw [e39]
         exact ⟨(by rw [own_f0e, if_pos hc20, if_neg hc21, if_pos hc35, if_neg hc36] <;> first | rfl | decide), N39, K38⟩
       · -- pc 234
        refine ownE.go (T' := T34) (f' := (mkF m 237 (own_l23 i0 i1 i2 cs sb_13 sb_14 b15 b17) [])) (fun t kt => XS.ifNo (g := (mkF m 234 (own_l23 i0 i1 i2 cs sb_13 sb_14 b15 b17) [(.int (own_j0e_36_S0 i0 i1 i2 cs))])) X34.here hx rfl (hb hby at_234) rfl (Jvm.Free.XT.i0_eq_f hc35) kt) ?_
        refine ownE.go (f' := (mkF m 241 (own_l23 i0 i1 i2 cs sb_13 sb_14 b15 b17) [(.ref sb_13), (.ref b15)])) (fun t kt => XS.aload X34.here hx rfl (hb hby at_237) rfl rfl (XS.aload X34.here hx rfl (hb hby at_239) rfl rfl kt)) ?_
        obtain ⟨cq40, kq40, q40a, q40b, q40c⟩ := isOf hZ e34 f33_1
        obtain ⟨_, _, ⟨T40, L40, k40, n40⟩, -, X40, ⟨Lc40, hQ40, l40, y40, z40⟩, st40⟩ := X34.virtualBack hx (y := own_y29) (z := own_y29) hown (mvT hZ (own_w hw 157 rfl)) (mvT hZ (own_w hw 158 rfl)) (notFace_of_selects (args := #[]) (mvT hZ (own_w hw 160 rfl))) (mvT hZ (own_w hw 160 rfl)) (mvT hZ (own_w hw 159 rfl)) (by decide) (backOf (W := 0) (own_rm271e l Z a0 hw [] b15 sb_13 vb_13 kb_13 ((((i0 &&& (255 : Int32)).toUInt32.toUInt16.toUInt32.toInt32).toInt8.toInt32).toInt8.toInt32) lk_33 sb_14 vb_14 kb_14 ((((i1 &&& (255 : Int32)).toUInt32.toUInt16.toUInt32.toInt32).toInt8.toInt32).toInt8.toInt32) b17 cs fmt T33.heap n0 (Nat.le_trans Z0 K33.1) q482 hcs hcsn zfm hfm f33_1 f33_2 ge_b15 f33_4 f33_5 f33_6 f33_7 q483 q485 q484 q486 q487 q489 q488 q490 (by rw [own_xc, own_xc]; exact hE)) hZ (own_w hw 161 rfl) (own_w hw 28 rfl) (by decide) (by decide)) q40a q40c (g := (mkF m 241 (own_l23 i0 i1 i2 cs sb_13 sb_14 b15 b17) [(.ref sb_13), (.ref b15)])) rfl (by rw [hml]; rfl) (Steps.refl _) (argsL := [(.ref sb_13)]) (rest := []) (lenOf own_pd30 rfl) rfl (Nat.le_of_eq rfl) (hb hby at_241) (fun _ _ => ⟨rfl, e34, (by decide : 7 + 0 ≤ _), (by decide : 27 + 0 ≤ _)⟩)
        dsimp only [Pt.U, Pt.locs, Pt.cells, Pt.slots] at X40 l40 y40 z40 st40 hQ40
        subst l40 y40 z40
        obtain ⟨rfl, N40q, K40q, f40_0, f40_1⟩ := hQ40
        have q510 := q482.keep K40q (allS ge_b15 all0)
        have q511 := q483.keep K40q
        have q512 := q484.keep K40q (ninS ne_sb_13_b15 nin0)
        have q513 := q485.keep K40q (ninS ne_sb_13_b15 nin0)
        have q514 := q486.keep K40q (ninS ne_vb_13_b15 nin0)
        have q515 := q487.keep K40q
        have q516 := q488.keep K40q (ninS ne_sb_14_b15 nin0)
        have q517 := q489.keep K40q (ninS ne_sb_14_b15 nin0)
        have q518 := q490.keep K40q (ninS ne_vb_14_b15 nin0)
        have q519 := f33_1.keep K40q
        have q520 := q492.keep K40q
        have q521 := f33_3.keep K40q
        have q522 := f33_4.keep K40q (ninS (Ne.symm ne_b15_lk_33) nin0)
        have q523 := f33_5.keep K40q (ninS (Ne.symm ne_b15_lk_33) nin0)
        have q524 := f33_6.keep K40q (ninS (Ne.symm ne_b15_lk_33) nin0)
        have q525 := f33_7.keep K40q (ninS (Ne.symm ne_b15_lk_33) nin0)
        have q526 := f33_8.keep K40q (ninS (Ne.symm ne_b15_lk_33) nin0)
        have K40 : Keep h0 T40.heap [] := K33.trans K40q (allS (Or.inr sz_b15) all0)
        have N40 := Fr.app N34 N40q
        refine ownE.goS st40 ?_
        refine ownE.go (f' := (mkF m 250 (own_l21 i0 i1 i2 cs sb_13 sb_14 b15 b17) [(.int (own_j0e_50_S0 i0 i1 i2 cs))])) (fun t kt => XS.pop X40.here hx rfl (hb hby at_244) rfl rfl (XS.iconst X40.here hx rfl (hb hby at_245) (XS.istore X40.here hx rfl (hb hby at_246) rfl (l' := (own_l21 i0 i1 i2 cs sb_13 sb_14 b15 b17)) rfl (XS.iload X40.here hx rfl (hb hby at_248) rfl kt)))) ?_
        by_cases hc41 : (own_j0e_50_S0 i0 i1 i2 cs) = (0 : Int32)
        · -- pc 250
         refine ownE.go (T' := T40) (f' := (mkF m 275 (own_l21 i0 i1 i2 cs sb_13 sb_14 b15 b17) [])) (fun t kt => XS.ifYes (g := (mkF m 250 (own_l21 i0 i1 i2 cs sb_13 sb_14 b15 b17) [(.int (own_j0e_50_S0 i0 i1 i2 cs))])) X40.here hx rfl (pc0 := 250) (pc' := 275) rfl (hb hby at_250) rfl (Jvm.Free.XT.i0_eq_t hc41) (by decide) (by decide) kt) ?_
         refine ownE.go (f' := (mkF m 282 (own_l21 i0 i1 i2 cs sb_13 sb_14 b15 b17) [(.ref b15)])) (fun t kt => XS.iload X40.here hx rfl (hb hby at_275) rfl (XS.ifNo X40.here hx rfl (hb hby at_277) rfl (Jvm.Free.XT.i0_eq_f (by decide)) (XS.aload X40.here hx rfl (hb hby at_280) rfl rfl kt))) ?_
         obtain ⟨cq42, kq42, q42a, q42b, q42c⟩ := isOf hZ rfl f40_0
         obtain ⟨_, _, ⟨T42, L42, k42, n42⟩, -, X42, ⟨Lc42, hQ42, l42, y42, z42⟩, st42⟩ := X40.virtualBack hx (y := own_y27) (z := own_y27) hown (mvT hZ (own_w hw 65 rfl)) (mvT hZ (own_w hw 66 rfl)) (notFace_of_selects (args := #[]) (mvT hZ (own_w hw 68 rfl))) (mvT hZ (own_w hw 68 rfl)) (mvT hZ (own_w hw 67 rfl)) (by decide) (backOf (W := 0) (own_rm90 l Z a0 hw [] b15 T40.heap n0 (Nat.le_trans Z0 K40.1) f40_0 f40_1) hZ (own_w hw 69 rfl) (own_w hw 28 rfl) (by decide) (by decide)) q42a q42c (g := (mkF m 282 (own_l21 i0 i1 i2 cs sb_13 sb_14 b15 b17) [(.ref b15)])) rfl (by rw [hml]; rfl) (Steps.refl _) (argsL := []) (rest := []) (lenOf own_pd16 rfl) rfl (Nat.le_of_eq rfl) (hb hby at_282) (fun _ _ => ⟨rfl, rfl, (by decide : 7 + 0 ≤ _), (by decide : 27 + 0 ≤ _)⟩)
         dsimp only [Pt.U, Pt.locs, Pt.cells, Pt.slots] at X42 l42 y42 z42 st42 hQ42
         subst l42 y42 z42
         obtain ⟨rfl, N42q, e42⟩ := hQ42
         have N42 := Fr.app N40 N42q
         refine ownE.goS st42 ?_
         refine ownE.go (f' := (mkF m 312 (own_l21 i0 i1 i2 cs sb_13 sb_14 b15 b17) [(.int (1 : Int32))])) (fun t kt => XS.iload X42.here hx rfl (hb hby at_285) rfl (XS.ifNo X42.here hx rfl (hb hby at_287) rfl (Jvm.Free.XT.i0_ne_f (by decide)) (XS.iload X42.here hx rfl (hb hby at_290) rfl (XS.ifNo X42.here hx rfl (hb hby at_292) rfl (Jvm.Free.XT.i0_ne_f (by decide)) (XS.iconst X42.here hx rfl (hb hby at_295) (XS.goto X42.here hx rfl (pc0 := 296) (pc' := 300) rfl (hb hby at_296) (by decide) (by decide) (XS.icmpNo X42.here hx rfl (hb hby at_300) rfl (Jvm.Free.XT.ii_ne_f (by decide)) (XS.iconst X42.here hx rfl (hb hby at_303) (XS.goto X42.here hx rfl (pc0 := 304) (pc' := 308) rfl (hb hby at_304) (by decide) (by decide) (XS.istore X42.here hx rfl (hb hby at_308) rfl (l' := (own_l21 i0 i1 i2 cs sb_13 sb_14 b15 b17)) rfl (XS.iload X42.here hx rfl (hb hby at_310) rfl kt))))))))))) ?_
         refine ownE.retN X42 hx hlk (t := .boolean) hret (by simp) (hb hby at_312) ?_ (by decide) (by decide)
         show own_Q0e Z i0 i1 i2 cs fmt h0 n0 _ T42.heap _
         rw [e42]
         exact ⟨(by rw [own_f0e, if_pos hc20, if_neg hc21, if_neg hc35, if_pos hc41] <;> first | rfl | decide), N42, K40⟩
        · -- pc 250
         refine ownE.go (T' := T40) (f' := (mkF m 253 (own_l21 i0 i1 i2 cs sb_13 sb_14 b15 b17) [])) (fun t kt => XS.ifNo (g := (mkF m 250 (own_l21 i0 i1 i2 cs sb_13 sb_14 b15 b17) [(.int (own_j0e_50_S0 i0 i1 i2 cs))])) X40.here hx rfl (hb hby at_250) rfl (Jvm.Free.XT.i0_eq_f hc41) kt) ?_
         refine ownE.go (f' := (mkF m 257 (own_l21 i0 i1 i2 cs sb_13 sb_14 b15 b17) [(.ref sb_14), (.ref b15)])) (fun t kt => XS.aload X40.here hx rfl (hb hby at_253) rfl rfl (XS.aload X40.here hx rfl (hb hby at_255) rfl rfl kt)) ?_
         obtain ⟨cq43, kq43, q43a, q43b, q43c⟩ := isOf hZ rfl f40_0
         obtain ⟨_, _, ⟨T43, L43, k43, n43⟩, -, X43, ⟨Lc43, hQ43, l43, y43, z43⟩, st43⟩ := X40.virtualBack hx (y := own_y29) (z := own_y29) hown (mvT hZ (own_w hw 157 rfl)) (mvT hZ (own_w hw 158 rfl)) (notFace_of_selects (args := #[]) (mvT hZ (own_w hw 160 rfl))) (mvT hZ (own_w hw 160 rfl)) (mvT hZ (own_w hw 159 rfl)) (by decide) (backOf (W := 0) (own_rm270 l Z a0 hw [] b15 sb_14 T40.heap n0 (Nat.le_trans Z0 K40.1) f40_0 f40_1) hZ (own_w hw 161 rfl) (own_w hw 28 rfl) (by decide) (by decide)) q43a q43c (g := (mkF m 257 (own_l21 i0 i1 i2 cs sb_13 sb_14 b15 b17) [(.ref sb_14), (.ref b15)])) rfl (by rw [hml]; rfl) (Steps.refl _) (argsL := [(.ref sb_14)]) (rest := []) (lenOf own_pd30 rfl) rfl (Nat.le_of_eq rfl) (hb hby at_257) (fun _ _ => ⟨rfl, rfl, (by decide : 7 + 0 ≤ _), (by decide : 27 + 0 ≤ _)⟩)
         dsimp only [Pt.U, Pt.locs, Pt.cells, Pt.slots] at X43 l43 y43 z43 st43 hQ43
         subst l43 y43 z43
         obtain ⟨rfl, N43q, e43⟩ := hQ43
         have N43 := Fr.app N40 N43q
         refine ownE.goS st43 ?_
         refine ownE.go (f' := (mkF m 282 (own_l21 i0 i1 i2 cs sb_13 sb_14 b15 b17) [(.ref b15)])) (fun t kt => XS.pop X43.here hx rfl (hb hby at_260) rfl rfl (XS.iload X43.here hx rfl (hb hby at_261) rfl (XS.ifNo X43.here hx rfl (hb hby at_263) rfl (Jvm.Free.XT.i0_eq_f (by decide)) (XS.iconst X43.here hx rfl (hb hby at_266) (XS.istore X43.here hx rfl (hb hby at_267) rfl (l' := (own_l21 i0 i1 i2 cs sb_13 sb_14 b15 b17)) rfl (XS.goto X43.here hx rfl (pc0 := 269) (pc' := 275) rfl (hb hby at_269) (by decide) (by decide) (XS.iload X43.here hx rfl (hb hby at_275) rfl (XS.ifNo X43.here hx rfl (hb hby at_277) rfl (Jvm.Free.XT.i0_eq_f (by decide)) (XS.aload X43.here hx rfl (hb hby at_280) rfl rfl kt))))))))) ?_
         obtain ⟨cq44, kq44, q44a, q44b, q44c⟩ := isOf hZ e43 f40_0
         obtain ⟨_, _, ⟨T44, L44, k44, n44⟩, -, X44, ⟨Lc44, hQ44, l44, y44, z44⟩, st44⟩ := X43.virtualBack hx (y := own_y27) (z := own_y27) hown (mvT hZ (own_w hw 65 rfl)) (mvT hZ (own_w hw 66 rfl)) (notFace_of_selects (args := #[]) (mvT hZ (own_w hw 68 rfl))) (mvT hZ (own_w hw 68 rfl)) (mvT hZ (own_w hw 67 rfl)) (by decide) (backOf (W := 0) (own_rm90 l Z a0 hw [] b15 T40.heap n0 (Nat.le_trans Z0 K40.1) f40_0 f40_1) hZ (own_w hw 69 rfl) (own_w hw 28 rfl) (by decide) (by decide)) q44a q44c (g := (mkF m 282 (own_l21 i0 i1 i2 cs sb_13 sb_14 b15 b17) [(.ref b15)])) rfl (by rw [hml]; rfl) (Steps.refl _) (argsL := []) (rest := []) (lenOf own_pd16 rfl) rfl (Nat.le_of_eq rfl) (hb hby at_282) (fun _ _ => ⟨rfl, e43, (by decide : 7 + 0 ≤ _), (by decide : 27 + 0 ≤ _)⟩)
         dsimp only [Pt.U, Pt.locs, Pt.cells, Pt.slots] at X44 l44 y44 z44 st44 hQ44
         subst l44 y44 z44
         obtain ⟨rfl, N44q, e44⟩ := hQ44
         have N44 := Fr.app N43 N44q
         refine ownE.goS st44 ?_
         refine ownE.go (f' := (mkF m 312 (own_l21 i0 i1 i2 cs sb_13 sb_14 b15 b17) [(.int (1 : Int32))])) (fun t kt => XS.iload X44.here hx rfl (hb hby at_285) rfl (XS.ifNo X44.here hx rfl (hb hby at_287) rfl (Jvm.Free.XT.i0_ne_f (by decide)) (XS.iload X44.here hx rfl (hb hby at_290) rfl (XS.ifNo X44.here hx rfl (hb hby at_292) rfl (Jvm.Free.XT.i0_ne_f (by decide)) (XS.iconst X44.here hx rfl (hb hby at_295) (XS.goto X44.here hx rfl (pc0 := 296) (pc' := 300) rfl (hb hby at_296) (by decide) (by decide) (XS.icmpNo X44.here hx rfl (hb hby at_300) rfl (Jvm.Free.XT.ii_ne_f (by decide)) (XS.iconst X44.here hx rfl (hb hby at_303) (XS.goto X44.here hx rfl (pc0 := 304) (pc' := 308) rfl (hb hby at_304) (by decide) (by decide) (XS.istore X44.here hx rfl (hb hby at_308) rfl (l' := (own_l21 i0 i1 i2 cs sb_13 sb_14 b15 b17)) rfl (XS.iload X44.here hx rfl (hb hby at_310) rfl kt))))))))))) ?_
         refine ownE.retN X44 hx hlk (t := .boolean) hret (by simp) (hb hby at_312) ?_ (by decide) (by decide)
         show own_Q0e Z i0 i1 i2 cs fmt h0 n0 _ T44.heap _
         rw [e44]
         exact ⟨(by rw [own_f0e, if_pos hc20, if_neg hc21, if_neg hc35, if_neg hc41] <;> first | rfl | decide), N44, K40⟩
     · -- pc 131
      refine ownE.go (T' := T19) (f' := (mkF m 134 (own_l19 i0 i1 i2 cs sb_13 sb_14 b15 b17) [])) (fun t kt => XS.ifNo (g := (mkF m 131 (own_l19 i0 i1 i2 cs sb_13 sb_14 b15 b17) [(.int (own_j0e_11_S0 i0 i1 i2 cs))])) X19.here hx rfl (hb hby at_131) rfl (Jvm.Free.XT.i0_eq_f hc20) kt) ?_
      refine ownE.go (f' := (mkF m 140 (own_l19 i0 i1 i2 cs sb_13 sb_14 b15 b17) [(.ref b17), (.ref sb_13), (.ref b15)])) (fun t kt => XS.aload X19.here hx rfl (hb hby at_134) rfl rfl (XS.aload X19.here hx rfl (hb hby at_136) rfl rfl (XS.aload X19.here hx rfl (hb hby at_138) rfl rfl kt))) ?_
      obtain ⟨cq45, kq45, q45a, q45b, q45c⟩ := isOf hZ e19 q479
      obtain ⟨_, _, ⟨T45, L45, k45, n45⟩, -, X45, ⟨Lc45, hQ45, l45, y45, z45⟩, st45⟩ := X19.virtualBack hx (y := own_y28) (z := own_y28) hown (mvT hZ (own_w hw 72 rfl)) (mvT hZ (own_w hw 73 rfl)) (notFace_of_selects (args := #[]) (mvT hZ (own_w hw 75 rfl))) (mvT hZ (own_w hw 75 rfl)) (mvT hZ (own_w hw 74 rfl)) (by decide) (backOf (W := 0) (own_rm100 l Z a0 hw [] b15 sb_13 b17 T18.heap n0 (Nat.le_trans Z0 K18.1) q479 q480 ge_b15) hZ (own_w hw 76 rfl) (own_w hw 28 rfl) (by decide) (by decide)) q45a q45c (g := (mkF m 140 (own_l19 i0 i1 i2 cs sb_13 sb_14 b15 b17) [(.ref b17), (.ref sb_13), (.ref b15)])) rfl (by rw [hml]; rfl) (Steps.refl _) (argsL := [(.ref sb_13), (.ref b17)]) (rest := []) (lenOf own_pd34 rfl) rfl (Nat.le_of_eq rfl) (hb hby at_140) (fun _ _ => ⟨rfl, e19, (by decide : 6 + 1 ≤ _), (by decide : 22 + 5 ≤ _)⟩)
      dsimp only [Pt.U, Pt.locs, Pt.cells, Pt.slots] at X45 l45 y45 z45 st45 hQ45
      subst l45 y45 z45
      obtain ⟨lk_45, rfl, N45q, K45q, f45_0, f45_1, f45_2, f45_3, f45_4, f45_5, f45_6, f45_7, f45_8⟩ := hQ45
      have ne_sb_13_lk_45 : sb_13 ≠ lk_45 := Nat.ne_of_lt (Nat.lt_of_lt_of_le q471.lt f45_0)
      have ne_vb_13_lk_45 : vb_13 ≠ lk_45 := Nat.ne_of_lt (Nat.lt_of_lt_of_le q474.lt f45_0)
      have ne_sb_14_lk_45 : sb_14 ≠ lk_45 := Nat.ne_of_lt (Nat.lt_of_lt_of_le q475.lt f45_0)
      have ne_vb_14_lk_45 : vb_14 ≠ lk_45 := Nat.ne_of_lt (Nat.lt_of_lt_of_le q478.lt f45_0)
      have ne_b15_lk_45 : b15 ≠ lk_45 := Nat.ne_of_lt (Nat.lt_of_lt_of_le q479.lt f45_0)
      have ne_b17_lk_45 : b17 ≠ lk_45 := Nat.ne_of_lt (Nat.lt_of_lt_of_le f18_0.lt f45_0)
      have q527 := q470.keep K45q (allS ge_b15 all0)
      have q528 := q471.keep K45q
      have q529 := q472.keep K45q (ninS ne_sb_13_b15 nin0)
      have q530 := q473.keep K45q (ninS ne_sb_13_b15 nin0)
      have q531 := q474.keep K45q (ninS ne_vb_13_b15 nin0)
      have q532 := q475.keep K45q
      have q533 := q476.keep K45q (ninS ne_sb_14_b15 nin0)
      have q534 := q477.keep K45q (ninS ne_sb_14_b15 nin0)
      have q535 := q478.keep K45q (ninS ne_vb_14_b15 nin0)
      have q536 := q479.keep K45q
      have q537 := f18_0.keep K45q
      have K45 : Keep h0 T45.heap [] := K18.trans K45q (allS (Or.inr sz_b15) all0)
      have sz_lk_45 : h0.size ≤ lk_45 := Nat.le_trans K18.1 f45_0
      have ge_lk_45 : n0 ≤ lk_45 := Nat.le_trans Z0 sz_lk_45
      have N45 := Fr.app N19 N45q
      refine ownE.goS st45 ?_
      refine ownE.go (f' := (mkF m 146 (own_l19 i0 i1 i2 cs sb_13 sb_14 b15 b17) [(.int (own_j0e_23_S0 i0 i1 i2 cs))])) (fun t kt => XS.pop X45.here hx rfl (hb hby at_143) rfl rfl (XS.iload X45.here hx rfl (hb hby at_144) rfl kt)) ?_
      by_cases hc46 : (own_j0e_23_S0 i0 i1 i2 cs) = (0 : Int32)
      · -- pc 146
       refine ownE.go (T' := T45) (f' := (mkF m 159 (own_l19 i0 i1 i2 cs sb_13 sb_14 b15 b17) [])) (fun t kt => XS.ifYes (g := (mkF m 146 (own_l19 i0 i1 i2 cs sb_13 sb_14 b15 b17) [(.int (own_j0e_23_S0 i0 i1 i2 cs))])) X45.here hx rfl (pc0 := 146) (pc' := 159) rfl (hb hby at_146) rfl (Jvm.Free.XT.i0_eq_t hc46) (by decide) (by decide) kt) ?_
       refine ownE.go (f' := (mkF m 204 (own_l23 i0 i1 i2 cs sb_13 sb_14 b15 b17) [(.ref b15)])) (fun t kt => XS.iloadN X45.here hx rfl (hb hby at_159) rfl (XS.ifYes X45.here hx rfl (pc0 := 160) (pc' := 173) rfl (hb hby at_160) rfl (Jvm.Free.XT.i0_ne_t hc20) (by decide) (by decide) (XS.iconst X45.here hx rfl (hb hby at_173) (XS.goto X45.here hx rfl (pc0 := 174) (pc' := 178) rfl (hb hby at_174) (by decide) (by decide) (XS.istore X45.here hx rfl (hb hby at_178) rfl (l' := (own_l22 i0 i1 i2 cs sb_13 sb_14 b15 b17)) rfl (XS.iload X45.here hx rfl (hb hby at_180) rfl (XS.ifYes X45.here hx rfl (pc0 := 182) (pc' := 194) rfl (hb hby at_182) rfl (Jvm.Free.XT.i0_eq_t hc46) (by decide) (by decide) (XS.iconst X45.here hx rfl (hb hby at_194) (XS.istore X45.here hx rfl (hb hby at_195) rfl (l' := (own_l23 i0 i1 i2 cs sb_13 sb_14 b15 b17)) rfl (XS.iload X45.here hx rfl (hb hby at_197) rfl (XS.ifNo X45.here hx rfl (hb hby at_199) rfl (Jvm.Free.XT.i0_eq_f (by decide)) (XS.aload X45.here hx rfl (hb hby at_202) rfl rfl kt)))))))))))) ?_
       obtain ⟨cq47, kq47, q47a, q47b, q47c⟩ := isOf hZ rfl f45_1
       obtain ⟨_, _, ⟨T47, L47, k47, n47⟩, -, X47, ⟨Lc47, hQ47, l47, y47, z47⟩, st47⟩ := X45.virtualBack hx (y := own_y27) (z := own_y27) hown (mvT hZ (own_w hw 65 rfl)) (mvT hZ (own_w hw 66 rfl)) (notFace_of_selects (args := #[]) (mvT hZ (own_w hw 68 rfl))) (mvT hZ (own_w hw 68 rfl)) (mvT hZ (own_w hw 67 rfl)) (by decide) (backOf (W := 0) (own_rm91 l Z a0 hw [] b15 lk_45 T45.heap n0 (Nat.le_trans Z0 K45.1) f45_1 f45_2) hZ (own_w hw 69 rfl) (own_w hw 28 rfl) (by decide) (by decide)) q47a q47c (g := (mkF m 204 (own_l23 i0 i1 i2 cs sb_13 sb_14 b15 b17) [(.ref b15)])) rfl (by rw [hml]; rfl) (Steps.refl _) (argsL := []) (rest := []) (lenOf own_pd16 rfl) rfl (Nat.le_of_eq rfl) (hb hby at_204) (fun _ _ => ⟨rfl, rfl, (by decide : 7 + 0 ≤ _), (by decide : 27 + 0 ≤ _)⟩)
       dsimp only [Pt.U, Pt.locs, Pt.cells, Pt.slots] at X47 l47 y47 z47 st47 hQ47
       subst l47 y47 z47
       obtain ⟨rfl, N47q, e47⟩ := hQ47
       have N47 := Fr.app N45 N47q
       refine ownE.goS st47 ?_
       refine ownE.go (f' := (mkF m 234 (own_l23 i0 i1 i2 cs sb_13 sb_14 b15 b17) [(.int (own_j0e_36_S0 i0 i1 i2 cs))])) (fun t kt => XS.iload X47.here hx rfl (hb hby at_207) rfl (XS.ifYes X47.here hx rfl (pc0 := 209) (pc' := 221) rfl (hb hby at_209) rfl (Jvm.Free.XT.i0_ne_t (by decide)) (by decide) (by decide) (XS.iconst X47.here hx rfl (hb hby at_221) (XS.icmpNo X47.here hx rfl (hb hby at_222) rfl (Jvm.Free.XT.ii_ne_f (by decide)) (XS.iconst X47.here hx rfl (hb hby at_225) (XS.goto X47.here hx rfl (pc0 := 226) (pc' := 230) rfl (hb hby at_226) (by decide) (by decide) (XS.istore X47.here hx rfl (hb hby at_230) rfl (l' := (own_l23 i0 i1 i2 cs sb_13 sb_14 b15 b17)) rfl (XS.iload X47.here hx rfl (hb hby at_232) rfl kt)))))))) ?_
       by_cases hc48 : (own_j0e_36_S0 i0 i1 i2 cs) = (0 : Int32)
       · -- pc 234
        refine ownE.go (T' := T47) (f' := (mkF m 248 (own_l23 i0 i1 i2 cs sb_13 sb_14 b15 b17) [])) (fun t kt => XS.ifYes (g := (mkF m 234 (own_l23 i0 i1 i2 cs sb_13 sb_14 b15 b17) [(.int (own_j0e_36_S0 i0 i1 i2 cs))])) X47.here hx rfl (pc0 := 234) (pc' := 248) rfl (hb hby at_234) rfl (Jvm.Free.XT.i0_eq_t hc48) (by decide) (by decide) kt) ?_
        refine ownE.go (f' := (mkF m 250 (own_l23 i0 i1 i2 cs sb_13 sb_14 b15 b17) [(.int (own_j0e_50_S0 i0 i1 i2 cs))])) (fun t kt => XS.iload X47.here hx rfl (hb hby at_248) rfl kt) ?_
        by_cases hc49 : (own_j0e_50_S0 i0 i1 i2 cs) = (0 : Int32)
        · -- pc 250
         refine ownE.go (T' := T47) (f' := (mkF m 275 (own_l23 i0 i1 i2 cs sb_13 sb_14 b15 b17) [])) (fun t kt => XS.ifYes (g := (mkF m 250 (own_l23 i0 i1 i2 cs sb_13 sb_14 b15 b17) [(.int (own_j0e_50_S0 i0 i1 i2 cs))])) X47.here hx rfl (pc0 := 250) (pc' := 275) rfl (hb hby at_250) rfl (Jvm.Free.XT.i0_eq_t hc49) (by decide) (by decide) kt) ?_
         refine ownE.go (f' := (mkF m 282 (own_l23 i0 i1 i2 cs sb_13 sb_14 b15 b17) [(.ref b15)])) (fun t kt => XS.iload X47.here hx rfl (hb hby at_275) rfl (XS.ifNo X47.here hx rfl (hb hby at_277) rfl (Jvm.Free.XT.i0_eq_f (by decide)) (XS.aload X47.here hx rfl (hb hby at_280) rfl rfl kt))) ?_
         obtain ⟨cq50, kq50, q50a, q50b, q50c⟩ := isOf hZ e47 f45_1
         obtain ⟨_, _, ⟨T50, L50, k50, n50⟩, -, X50, ⟨Lc50, hQ50, l50, y50, z50⟩, st50⟩ := X47.virtualBack hx (y := own_y27) (z := own_y27) hown (mvT hZ (own_w hw 65 rfl)) (mvT hZ (own_w hw 66 rfl)) (notFace_of_selects (args := #[]) (mvT hZ (own_w hw 68 rfl))) (mvT hZ (own_w hw 68 rfl)) (mvT hZ (own_w hw 67 rfl)) (by decide) (backOf (W := 0) (own_rm91 l Z a0 hw [] b15 lk_45 T45.heap n0 (Nat.le_trans Z0 K45.1) f45_1 f45_2) hZ (own_w hw 69 rfl) (own_w hw 28 rfl) (by decide) (by decide)) q50a q50c (g := (mkF m 282 (own_l23 i0 i1 i2 cs sb_13 sb_14 b15 b17) [(.ref b15)])) rfl (by rw [hml]; rfl) (Steps.refl _) (argsL := []) (rest := []) (lenOf own_pd16 rfl) rfl (Nat.le_of_eq rfl) (hb hby at_282) (fun _ _ => ⟨rfl, e47, (by decide : 7 + 0 ≤ _), (by decide : 27 + 0 ≤ _)⟩)
         dsimp only [Pt.U, Pt.locs, Pt.cells, Pt.slots] at X50 l50 y50 z50 st50 hQ50
         subst l50 y50 z50
         obtain ⟨rfl, N50q, e50⟩ := hQ50
         have N50 := Fr.app N47 N50q
         refine ownE.goS st50 ?_
         refine ownE.go (f' := (mkF m 312 (own_l23 i0 i1 i2 cs sb_13 sb_14 b15 b17) [(.int (1 : Int32))])) (fun t kt => XS.iload X50.here hx rfl (hb hby at_285) rfl (XS.ifYes X50.here hx rfl (pc0 := 287) (pc' := 299) rfl (hb hby at_287) rfl (Jvm.Free.XT.i0_ne_t (by decide)) (by decide) (by decide) (XS.iconst X50.here hx rfl (hb hby at_299) (XS.icmpNo X50.here hx rfl (hb hby at_300) rfl (Jvm.Free.XT.ii_ne_f (by decide)) (XS.iconst X50.here hx rfl (hb hby at_303) (XS.goto X50.here hx rfl (pc0 := 304) (pc' := 308) rfl (hb hby at_304) (by decide) (by decide) (XS.istore X50.here hx rfl (hb hby at_308) rfl (l' := (own_l23 i0 i1 i2 cs sb_13 sb_14 b15 b17)) rfl (XS.iload X50.here hx rfl (hb hby at_310) rfl kt)))))))) ?_
         refine ownE.retN X50 hx hlk (t := .boolean) hret (by simp) (hb hby at_312) ?_ (by decide) (by decide)
         show own_Q0e Z i0 i1 i2 cs fmt h0 n0 _ T50.heap _
         rw [e50]
         exact ⟨(by rw [own_f0e, if_neg hc20, if_pos hc46, if_pos hc48, if_pos hc49] <;> first | rfl | decide), N50, K45⟩
        · -- pc 250
         refine ownE.go (T' := T47) (f' := (mkF m 253 (own_l23 i0 i1 i2 cs sb_13 sb_14 b15 b17) [])) (fun t kt => XS.ifNo (g := (mkF m 250 (own_l23 i0 i1 i2 cs sb_13 sb_14 b15 b17) [(.int (own_j0e_50_S0 i0 i1 i2 cs))])) X47.here hx rfl (hb hby at_250) rfl (Jvm.Free.XT.i0_eq_f hc49) kt) ?_
         refine ownE.go (f' := (mkF m 257 (own_l23 i0 i1 i2 cs sb_13 sb_14 b15 b17) [(.ref sb_14), (.ref b15)])) (fun t kt => XS.aload X47.here hx rfl (hb hby at_253) rfl rfl (XS.aload X47.here hx rfl (hb hby at_255) rfl rfl kt)) ?_
         obtain ⟨cq51, kq51, q51a, q51b, q51c⟩ := isOf hZ e47 f45_1
         obtain ⟨_, _, ⟨T51, L51, k51, n51⟩, -, X51, ⟨Lc51, hQ51, l51, y51, z51⟩, st51⟩ := X47.virtualBack hx (y := own_y29) (z := own_y29) hown (mvT hZ (own_w hw 157 rfl)) (mvT hZ (own_w hw 158 rfl)) (notFace_of_selects (args := #[]) (mvT hZ (own_w hw 160 rfl))) (mvT hZ (own_w hw 160 rfl)) (mvT hZ (own_w hw 159 rfl)) (by decide) (backOf (W := 0) (own_rm271e l Z a0 hw [] b15 sb_14 vb_14 kb_14 ((((i1 &&& (255 : Int32)).toUInt32.toUInt16.toUInt32.toInt32).toInt8.toInt32).toInt8.toInt32) lk_45 sb_13 vb_13 kb_13 ((((i0 &&& (255 : Int32)).toUInt32.toUInt16.toUInt32.toInt32).toInt8.toInt32).toInt8.toInt32) b17 cs fmt T45.heap n0 (Nat.le_trans Z0 K45.1) q527 hcs hcsn zfm hfm f45_1 f45_2 ge_b15 f45_4 f45_5 f45_6 f45_7 q532 q534 q533 q535 q528 q530 q529 q531 (by rw [own_xc, own_xc]; exact hE.symm)) hZ (own_w hw 161 rfl) (own_w hw 28 rfl) (by decide) (by decide)) q51a q51c (g := (mkF m 257 (own_l23 i0 i1 i2 cs sb_13 sb_14 b15 b17) [(.ref sb_14), (.ref b15)])) rfl (by rw [hml]; rfl) (Steps.refl _) (argsL := [(.ref sb_14)]) (rest := []) (lenOf own_pd30 rfl) rfl (Nat.le_of_eq rfl) (hb hby at_257) (fun _ _ => ⟨rfl, e47, (by decide : 7 + 0 ≤ _), (by decide : 27 + 0 ≤ _)⟩)
         dsimp only [Pt.U, Pt.locs, Pt.cells, Pt.slots] at X51 l51 y51 z51 st51 hQ51
         subst l51 y51 z51
         obtain ⟨rfl, N51q, K51q, f51_0, f51_1⟩ := hQ51
         have q538 := q527.keep K51q (allS ge_b15 all0)
         have q539 := q528.keep K51q
         have q540 := q529.keep K51q (ninS ne_sb_13_b15 nin0)
         have q541 := q530.keep K51q (ninS ne_sb_13_b15 nin0)
         have q542 := q531.keep K51q (ninS ne_vb_13_b15 nin0)
         have q543 := q532.keep K51q
         have q544 := q533.keep K51q (ninS ne_sb_14_b15 nin0)
         have q545 := q534.keep K51q (ninS ne_sb_14_b15 nin0)
         have q546 := q535.keep K51q (ninS ne_vb_14_b15 nin0)
         have q547 := f45_1.keep K51q
         have q548 := q537.keep K51q
         have q549 := f45_3.keep K51q
         have q550 := f45_4.keep K51q (ninS (Ne.symm ne_b15_lk_45) nin0)
         have q551 := f45_5.keep K51q (ninS (Ne.symm ne_b15_lk_45) nin0)
         have q552 := f45_6.keep K51q (ninS (Ne.symm ne_b15_lk_45) nin0)
         have q553 := f45_7.keep K51q (ninS (Ne.symm ne_b15_lk_45) nin0)
         have q554 := f45_8.keep K51q (ninS (Ne.symm ne_b15_lk_45) nin0)
         have K51 : Keep h0 T51.heap [] := K45.trans K51q (allS (Or.inr sz_b15) all0)
         have N51 := Fr.app N47 N51q
         refine ownE.goS st51 ?_
         refine ownE.go (f' := (mkF m 282 (own_l21 i0 i1 i2 cs sb_13 sb_14 b15 b17) [(.ref b15)])) (fun t kt => XS.pop X51.here hx rfl (hb hby at_260) rfl rfl (XS.iload X51.here hx rfl (hb hby at_261) rfl (XS.ifNo X51.here hx rfl (hb hby at_263) rfl (Jvm.Free.XT.i0_eq_f (by decide)) (XS.iconst X51.here hx rfl (hb hby at_266) (XS.istore X51.here hx rfl (hb hby at_267) rfl (l' := (own_l21 i0 i1 i2 cs sb_13 sb_14 b15 b17)) rfl (XS.goto X51.here hx rfl (pc0 := 269) (pc' := 275) rfl (hb hby at_269) (by decide) (by decide) (XS.iload X51.here hx rfl (hb hby at_275) rfl (XS.ifNo X51.here hx rfl (hb hby at_277) rfl (Jvm.Free.XT.i0_eq_f (by decide)) (XS.aload X51.here hx rfl (hb hby at_280) rfl rfl kt))))))))) ?_
         obtain ⟨cq52, kq52, q52a, q52b, q52c⟩ := isOf hZ rfl f51_0
         obtain ⟨_, _, ⟨T52, L52, k52, n52⟩, -, X52, ⟨Lc52, hQ52, l52, y52, z52⟩, st52⟩ := X51.virtualBack hx (y := own_y27) (z := own_y27) hown (mvT hZ (own_w hw 65 rfl)) (mvT hZ (own_w hw 66 rfl)) (notFace_of_selects (args := #[]) (mvT hZ (own_w hw 68 rfl))) (mvT hZ (own_w hw 68 rfl)) (mvT hZ (own_w hw 67 rfl)) (by decide) (backOf (W := 0) (own_rm90 l Z a0 hw [] b15 T51.heap n0 (Nat.le_trans Z0 K51.1) f51_0 f51_1) hZ (own_w hw 69 rfl) (own_w hw 28 rfl) (by decide) (by decide)) q52a q52c (g := (mkF m 282 (own_l21 i0 i1 i2 cs sb_13 sb_14 b15 b17) [(.ref b15)])) rfl (by rw [hml]; rfl) (Steps.refl _) (argsL := []) (rest := []) (lenOf own_pd16 rfl) rfl (Nat.le_of_eq rfl) (hb hby at_282) (fun _ _ => ⟨rfl, rfl, (by decide : 7 + 0 ≤ _), (by decide : 27 + 0 ≤ _)⟩)
         dsimp only [Pt.U, Pt.locs, Pt.cells, Pt.slots] at X52 l52 y52 z52 st52 hQ52
         subst l52 y52 z52
         obtain ⟨rfl, N52q, e52⟩ := hQ52
         have N52 := Fr.app N51 N52q
         refine ownE.goS st52 ?_
         refine ownE.go (f' := (mkF m 312 (own_l21 i0 i1 i2 cs sb_13 sb_14 b15 b17) [(.int (1 : Int32))])) (fun t kt => XS.iload X52.here hx rfl (hb hby at_285) rfl (XS.ifNo X52.here hx rfl (hb hby at_287) rfl (Jvm.Free.XT.i0_ne_f (by decide)) (XS.iload X52.here hx rfl (hb hby at_290) rfl (XS.ifNo X52.here hx rfl (hb hby at_292) rfl (Jvm.Free.XT.i0_ne_f (by decide)) (XS.iconst X52.here hx rfl (hb hby at_295) (XS.goto X52.here hx rfl (pc0 := 296) (pc' := 300) rfl (hb hby at_296) (by decide) (by decide) (XS.icmpNo X52.here hx rfl (hb hby at_300) rfl (Jvm.Free.XT.ii_ne_f (by decide)) (XS.iconst X52.here hx rfl (hb hby at_303) (XS.goto X52.here hx rfl (pc0 := 304) (pc' := 308) rfl (hb hby at_304) (by decide) (by decide) (XS.istore X52.here hx rfl (hb hby at_308) rfl (l' := (own_l21 i0 i1 i2 cs sb_13 sb_14 b15 b17)) rfl (XS.iload X52.here hx rfl (hb hby at_310) rfl kt))))))))))) ?_
         refine ownE.retN X52 hx hlk (t := .boolean) hret (by simp) (hb hby at_312) ?_ (by decide) (by decide)
         show own_Q0e Z i0 i1 i2 cs fmt h0 n0 _ T52.heap _
         rw [e52]
         exact ⟨(by rw [own_f0e, if_neg hc20, if_pos hc46, if_pos hc48, if_neg hc49] <;> first | rfl | decide), N52, K51⟩
       · -- pc 234
        refine ownE.go (T' := T47) (f' := (mkF m 237 (own_l23 i0 i1 i2 cs sb_13 sb_14 b15 b17) [])) (fun t kt => XS.ifNo (g := (mkF m 234 (own_l23 i0 i1 i2 cs sb_13 sb_14 b15 b17) [(.int (own_j0e_36_S0 i0 i1 i2 cs))])) X47.here hx rfl (hb hby at_234) rfl (Jvm.Free.XT.i0_eq_f hc48) kt) ?_
        refine ownE.go (f' := (mkF m 241 (own_l23 i0 i1 i2 cs sb_13 sb_14 b15 b17) [(.ref sb_13), (.ref b15)])) (fun t kt => XS.aload X47.here hx rfl (hb hby at_237) rfl rfl (XS.aload X47.here hx rfl (hb hby at_239) rfl rfl kt)) ?_
        obtain ⟨cq53, kq53, q53a, q53b, q53c⟩ := isOf hZ e47 f45_1
        obtain ⟨_, _, ⟨T53, L53, k53, n53⟩, -, X53, ⟨Lc53, hQ53, l53, y53, z53⟩, st53⟩ := X47.virtualBack hx (y := own_y29) (z := own_y29) hown (mvT hZ (own_w hw 157 rfl)) (mvT hZ (own_w hw 158 rfl)) (notFace_of_selects (args := #[]) (mvT hZ (own_w hw 160 rfl))) (mvT hZ (own_w hw 160 rfl)) (mvT hZ (own_w hw 159 rfl)) (by decide) (backOf (W := 0) (own_rm271e l Z a0 hw [] b15 sb_13 vb_13 kb_13 ((((i0 &&& (255 : Int32)).toUInt32.toUInt16.toUInt32.toInt32).toInt8.toInt32).toInt8.toInt32) lk_45 sb_13 vb_13 kb_13 ((((i0 &&& (255 : Int32)).toUInt32.toUInt16.toUInt32.toInt32).toInt8.toInt32).toInt8.toInt32) b17 cs fmt T45.heap n0 (Nat.le_trans Z0 K45.1) q527 hcs hcsn zfm hfm f45_1 f45_2 ge_b15 f45_4 f45_5 f45_6 f45_7 q528 q530 q529 q531 q528 q530 q529 q531 rfl) hZ (own_w hw 161 rfl) (own_w hw 28 rfl) (by decide) (by decide)) q53a q53c (g := (mkF m 241 (own_l23 i0 i1 i2 cs sb_13 sb_14 b15 b17) [(.ref sb_13), (.ref b15)])) rfl (by rw [hml]; rfl) (Steps.refl _) (argsL := [(.ref sb_13)]) (rest := []) (lenOf own_pd30 rfl) rfl (Nat.le_of_eq rfl) (hb hby at_241) (fun _ _ => ⟨rfl, e47, (by decide : 7 + 0 ≤ _), (by decide : 27 + 0 ≤ _)⟩)
        dsimp only [Pt.U, Pt.locs, Pt.cells, Pt.slots] at X53 l53 y53 z53 st53 hQ53
        subst l53 y53 z53
        obtain ⟨rfl, N53q, K53q, f53_0, f53_1⟩ := hQ53
        have q555 := q527.keep K53q (allS ge_b15 all0)
        have q556 := q528.keep K53q
        have q557 := q529.keep K53q (ninS ne_sb_13_b15 nin0)
        have q558 := q530.keep K53q (ninS ne_sb_13_b15 nin0)
        have q559 := q531.keep K53q (ninS ne_vb_13_b15 nin0)
        have q560 := q532.keep K53q
        have q561 := q533.keep K53q (ninS ne_sb_14_b15 nin0)
        have q562 := q534.keep K53q (ninS ne_sb_14_b15 nin0)
        have q563 := q535.keep K53q (ninS ne_vb_14_b15 nin0)
        have q564 := f45_1.keep K53q
        have q565 := q537.keep K53q
        have q566 := f45_3.keep K53q
        have q567 := f45_4.keep K53q (ninS (Ne.symm ne_b15_lk_45) nin0)
        have q568 := f45_5.keep K53q (ninS (Ne.symm ne_b15_lk_45) nin0)
        have q569 := f45_6.keep K53q (ninS (Ne.symm ne_b15_lk_45) nin0)
        have q570 := f45_7.keep K53q (ninS (Ne.symm ne_b15_lk_45) nin0)
        have q571 := f45_8.keep K53q (ninS (Ne.symm ne_b15_lk_45) nin0)
        have K53 : Keep h0 T53.heap [] := K45.trans K53q (allS (Or.inr sz_b15) all0)
        have N53 := Fr.app N47 N53q
        refine ownE.goS st53 ?_
        refine ownE.go (f' := (mkF m 250 (own_l21 i0 i1 i2 cs sb_13 sb_14 b15 b17) [(.int (own_j0e_50_S0 i0 i1 i2 cs))])) (fun t kt => XS.pop X53.here hx rfl (hb hby at_244) rfl rfl (XS.iconst X53.here hx rfl (hb hby at_245) (XS.istore X53.here hx rfl (hb hby at_246) rfl (l' := (own_l21 i0 i1 i2 cs sb_13 sb_14 b15 b17)) rfl (XS.iload X53.here hx rfl (hb hby at_248) rfl kt)))) ?_
        by_cases hc54 : (own_j0e_50_S0 i0 i1 i2 cs) = (0 : Int32)
        · -- pc 250
         refine ownE.go (T' := T53) (f' := (mkF m 275 (own_l21 i0 i1 i2 cs sb_13 sb_14 b15 b17) [])) (fun t kt => XS.ifYes (g := (mkF m 250 (own_l21 i0 i1 i2 cs sb_13 sb_14 b15 b17) [(.int (own_j0e_50_S0 i0 i1 i2 cs))])) X53.here hx rfl (pc0 := 250) (pc' := 275) rfl (hb hby at_250) rfl (Jvm.Free.XT.i0_eq_t hc54) (by decide) (by decide) kt) ?_
         refine ownE.go (f' := (mkF m 282 (own_l21 i0 i1 i2 cs sb_13 sb_14 b15 b17) [(.ref b15)])) (fun t kt => XS.iload X53.here hx rfl (hb hby at_275) rfl (XS.ifNo X53.here hx rfl (hb hby at_277) rfl (Jvm.Free.XT.i0_eq_f (by decide)) (XS.aload X53.here hx rfl (hb hby at_280) rfl rfl kt))) ?_
         obtain ⟨cq55, kq55, q55a, q55b, q55c⟩ := isOf hZ rfl f53_0
         obtain ⟨_, _, ⟨T55, L55, k55, n55⟩, -, X55, ⟨Lc55, hQ55, l55, y55, z55⟩, st55⟩ := X53.virtualBack hx (y := own_y27) (z := own_y27) hown (mvT hZ (own_w hw 65 rfl)) (mvT hZ (own_w hw 66 rfl)) (notFace_of_selects (args := #[]) (mvT hZ (own_w hw 68 rfl))) (mvT hZ (own_w hw 68 rfl)) (mvT hZ (own_w hw 67 rfl)) (by decide) (backOf (W := 0) (own_rm90 l Z a0 hw [] b15 T53.heap n0 (Nat.le_trans Z0 K53.1) f53_0 f53_1) hZ (own_w hw 69 rfl) (own_w hw 28 rfl) (by decide) (by decide)) q55a q55c (g := (mkF m 282 (own_l21 i0 i1 i2 cs sb_13 sb_14 b15 b17) [(.ref b15)])) rfl (by rw [hml]; rfl) (Steps.refl _) (argsL := []) (rest := []) (lenOf own_pd16 rfl) rfl (Nat.le_of_eq rfl) (hb hby at_282) (fun _ _ => ⟨rfl, rfl, (by decide : 7 + 0 ≤ _), (by decide : 27 + 0 ≤ _)⟩)
         dsimp only [Pt.U, Pt.locs, Pt.cells, Pt.slots] at X55 l55 y55 z55 st55 hQ55
         subst l55 y55 z55
         obtain ⟨rfl, N55q, e55⟩ := hQ55
         have N55 := Fr.app N53 N55q
         refine ownE.goS st55 ?_
         refine ownE.go (f' := (mkF m 312 (own_l21 i0 i1 i2 cs sb_13 sb_14 b15 b17) [(.int (1 : Int32))])) (fun t kt => XS.iload X55.here hx rfl (hb hby at_285) rfl (XS.ifNo X55.here hx rfl (hb hby at_287) rfl (Jvm.Free.XT.i0_ne_f (by decide)) (XS.iload X55.here hx rfl (hb hby at_290) rfl (XS.ifNo X55.here hx rfl (hb hby at_292) rfl (Jvm.Free.XT.i0_ne_f (by decide)) (XS.iconst X55.here hx rfl (hb hby at_295) (XS.goto X55.here hx rfl (pc0 := 296) (pc' := 300) rfl (hb hby at_296) (by decide) (by decide) (XS.icmpNo X55.here hx rfl (hb hby at_300) rfl (Jvm.Free.XT.ii_ne_f (by decide)) (XS.iconst X55.here hx rfl (hb hby at_303) (XS.goto X55.here hx rfl (pc0 := 304) (pc' := 308) rfl (hb hby at_304) (by decide) (by decide) (XS.istore X55.here hx rfl (hb hby at_308) rfl (l' := (own_l21 i0 i1 i2 cs sb_13 sb_14 b15 b17)) rfl (XS.iload X55.here hx rfl (hb hby at_310) rfl kt))))))))))) ?_
         refine ownE.retN X55 hx hlk (t := .boolean) hret (by simp) (hb hby at_312) ?_ (by decide) (by decide)
         show own_Q0e Z i0 i1 i2 cs fmt h0 n0 _ T55.heap _
         rw [e55]
         exact ⟨(by rw [own_f0e, if_neg hc20, if_pos hc46, if_neg hc48, if_pos hc54] <;> first | rfl | decide), N55, K53⟩
        · -- pc 250
         refine ownE.go (T' := T53) (f' := (mkF m 253 (own_l21 i0 i1 i2 cs sb_13 sb_14 b15 b17) [])) (fun t kt => XS.ifNo (g := (mkF m 250 (own_l21 i0 i1 i2 cs sb_13 sb_14 b15 b17) [(.int (own_j0e_50_S0 i0 i1 i2 cs))])) X53.here hx rfl (hb hby at_250) rfl (Jvm.Free.XT.i0_eq_f hc54) kt) ?_
         refine ownE.go (f' := (mkF m 257 (own_l21 i0 i1 i2 cs sb_13 sb_14 b15 b17) [(.ref sb_14), (.ref b15)])) (fun t kt => XS.aload X53.here hx rfl (hb hby at_253) rfl rfl (XS.aload X53.here hx rfl (hb hby at_255) rfl rfl kt)) ?_
         obtain ⟨cq56, kq56, q56a, q56b, q56c⟩ := isOf hZ rfl f53_0
         obtain ⟨_, _, ⟨T56, L56, k56, n56⟩, -, X56, ⟨Lc56, hQ56, l56, y56, z56⟩, st56⟩ := X53.virtualBack hx (y := own_y29) (z := own_y29) hown (mvT hZ (own_w hw 157 rfl)) (mvT hZ (own_w hw 158 rfl)) (notFace_of_selects (args := #[]) (mvT hZ (own_w hw 160 rfl))) (mvT hZ (own_w hw 160 rfl)) (mvT hZ (own_w hw 159 rfl)) (by decide) (backOf (W := 0) (own_rm270 l Z a0 hw [] b15 sb_14 T53.heap n0 (Nat.le_trans Z0 K53.1) f53_0 f53_1) hZ (own_w hw 161 rfl) (own_w hw 28 rfl) (by decide) (by decide)) q56a q56c (g := (mkF m 257 (own_l21 i0 i1 i2 cs sb_13 sb_14 b15 b17) [(.ref sb_14), (.ref b15)])) rfl (by rw [hml]; rfl) (Steps.refl _) (argsL := [(.ref sb_14)]) (rest := []) (lenOf own_pd30 rfl) rfl (Nat.le_of_eq rfl) (hb hby at_257) (fun _ _ => ⟨rfl, rfl, (by decide : 7 + 0 ≤ _), (by decide : 27 + 0 ≤ _)⟩)
         dsimp only [Pt.U, Pt.locs, Pt.cells, Pt.slots] at X56 l56 y56 z56 st56 hQ56
         subst l56 y56 z56
         obtain ⟨rfl, N56q, e56⟩ := hQ56
         have N56 := Fr.app N53 N56q
         refine ownE.goS st56 ?_
         refine ownE.go (f' := (mkF m 282 (own_l21 i0 i1 i2 cs sb_13 sb_14 b15 b17) [(.ref b15)])) (fun t kt => XS.pop X56.here hx rfl (hb hby at_260) rfl rfl (XS.iload X56.here hx rfl (hb hby at_261) rfl (XS.ifNo X56.here hx rfl (hb hby at_263) rfl (Jvm.Free.XT.i0_eq_f (by decide)) (XS.iconst X56.here hx rfl (hb hby at_266) (XS.istore X56.here hx rfl (hb hby at_267) rfl (l' := (own_l21 i0 i1 i2 cs sb_13 sb_14 b15 b17)) rfl (XS.goto X56.here hx rfl (pc0 := 269) (pc' := 275) rfl (hb hby at_269) (by decide) (by decide) (XS.iload X56.here hx rfl (hb hby at_275) rfl (XS.ifNo X56.here hx rfl (hb hby at_277) rfl (Jvm.Free.XT.i0_eq_f (by decide)) (XS.aload X56.here hx rfl (hb hby at_280) rfl rfl kt))))))))) ?_
         obtain ⟨cq57, kq57, q57a, q57b, q57c⟩ := isOf hZ e56 f53_0
         obtain ⟨_, _, ⟨T57, L57, k57, n57⟩, -, X57, ⟨Lc57, hQ57, l57, y57, z57⟩, st57⟩ := X56.virtualBack hx (y := own_y27) (z := own_y27) hown (mvT hZ (own_w hw 65 rfl)) (mvT hZ (own_w hw 66 rfl)) (notFace_of_selects (args := #[]) (mvT hZ (own_w hw 68 rfl))) (mvT hZ (own_w hw 68 rfl)) (mvT hZ (own_w hw 67 rfl)) (by decide) (backOf (W := 0) (own_rm90 l Z a0 hw [] b15 T53.heap n0 (Nat.le_trans Z0 K53.1) f53_0 f53_1) hZ (own_w hw 69 rfl) (own_w hw 28 rfl) (by decide) (by decide)) q57a q57c (g := (mkF m 282 (own_l21 i0 i1 i2 cs sb_13 sb_14 b15 b17) [(.ref b15)])) rfl (by rw [hml]; rfl) (Steps.refl _) (argsL := []) (rest := []) (lenOf own_pd16 rfl) rfl (Nat.le_of_eq rfl) (hb hby at_282) (fun _ _ => ⟨rfl, e56, (by decide : 7 + 0 ≤ _), (by decide : 27 + 0 ≤ _)⟩)
         dsimp only [Pt.U, Pt.locs, Pt.cells, Pt.slots] at X57 l57 y57 z57 st57 hQ57
         subst l57 y57 z57
         obtain ⟨rfl, N57q, e57⟩ := hQ57
         have N57 := Fr.app N56 N57q
         refine ownE.goS st57 ?_
         refine ownE.go (f' := (mkF m 312 (own_l21 i0 i1 i2 cs sb_13 sb_14 b15 b17) [(.int (1 : Int32))])) (fun t kt => XS.iload X57.here hx rfl (hb hby at_285) rfl (XS.ifNo X57.here hx rfl (hb hby at_287) rfl (Jvm.Free.XT.i0_ne_f (by decide)) (XS.iload X57.here hx rfl (hb hby at_290) rfl (XS.ifNo X57.here hx rfl (hb hby at_292) rfl (Jvm.Free.XT.i0_ne_f (by decide)) (XS.iconst X57.here hx rfl (hb hby at_295) (XS.goto X57.here hx rfl (pc0 := 296) (pc' := 300) rfl (hb hby at_296) (by decide) (by decide) (XS.icmpNo X57.here hx rfl (hb hby at_300) rfl (Jvm.Free.XT.ii_ne_f (by decide)) (XS.iconst X57.here hx rfl (hb hby at_303) (XS.goto X57.here hx rfl (pc0 := 304) (pc' := 308) rfl (hb hby at_304) (by decide) (by decide) (XS.istore X57.here hx rfl (hb hby at_308) rfl (l' := (own_l21 i0 i1 i2 cs sb_13 sb_14 b15 b17)) rfl (XS.iload X57.here hx rfl (hb hby at_310) rfl kt))))))))))) ?_
         refine ownE.retN X57 hx hlk (t := .boolean) hret (by simp) (hb hby at_312) ?_ (by decide) (by decide)
         show own_Q0e Z i0 i1 i2 cs fmt h0 n0 _ T57.heap _
         rw [e57]
         exact ⟨(by rw [own_f0e, if_neg hc20, if_pos hc46, if_neg hc48, if_neg hc54] <;> first | rfl | decide), N57, K53⟩
      · -- pc 146
       refine ownE.go (T' := T45) (f' := (mkF m 149 (own_l19 i0 i1 i2 cs sb_13 sb_14 b15 b17) [])) (fun t kt => XS.ifNo (g := (mkF m 146 (own_l19 i0 i1 i2 cs sb_13 sb_14 b15 b17) [(.int (own_j0e_23_S0 i0 i1 i2 cs))])) X45.here hx rfl (hb hby at_146) rfl (Jvm.Free.XT.i0_eq_f hc46) kt) ?_
       refine ownE.go (f' := (mkF m 155 (own_l19 i0 i1 i2 cs sb_13 sb_14 b15 b17) [(.ref b17), (.ref sb_14), (.ref b15)])) (fun t kt => XS.aload X45.here hx rfl (hb hby at_149) rfl rfl (XS.aload X45.here hx rfl (hb hby at_151) rfl rfl (XS.aload X45.here hx rfl (hb hby at_153) rfl rfl kt))) ?_
       obtain ⟨cq58, kq58, q58a, q58b, q58c⟩ := isOf hZ rfl f45_1
       obtain ⟨_, _, ⟨T58, L58, k58, n58⟩, -, X58, ⟨Lc58, hQ58, l58, y58, z58⟩, st58⟩ := X45.virtualBack hx (y := own_y28) (z := own_y28) hown (mvT hZ (own_w hw 72 rfl)) (mvT hZ (own_w hw 73 rfl)) (notFace_of_selects (args := #[]) (mvT hZ (own_w hw 75 rfl))) (mvT hZ (own_w hw 75 rfl)) (mvT hZ (own_w hw 74 rfl)) (by decide) (backOf (W := 0) (own_rm10e l Z a0 hw [] b15 sb_14 b17 vb_14 kb_14 ((((i1 &&& (255 : Int32)).toUInt32.toUInt16.toUInt32.toInt32).toInt8.toInt32).toInt8.toInt32) lk_45 sb_13 vb_13 kb_13 ((((i0 &&& (255 : Int32)).toUInt32.toUInt16.toUInt32.toInt32).toInt8.toInt32).toInt8.toInt32) b17 cs fmt T45.heap n0 (Nat.le_trans Z0 K45.1) q527 hcs hcsn zfm hfm f45_1 f45_2 ge_b15 (Ne.symm ne_b15_lk_45) f45_4 f45_5 f45_8 q532 q534 q533 q535 q528 q530 q529 q531 ne_sb_13_b15 ne_vb_13_b15 ne_sb_14_b15 ne_vb_14_b15 (by rw [own_xc, own_xc]; exact hE.symm)) hZ (own_w hw 76 rfl) (own_w hw 28 rfl) (by decide) (by decide)) q58a q58c (g := (mkF m 155 (own_l19 i0 i1 i2 cs sb_13 sb_14 b15 b17) [(.ref b17), (.ref sb_14), (.ref b15)])) rfl (by rw [hml]; rfl) (Steps.refl _) (argsL := [(.ref sb_14), (.ref b17)]) (rest := []) (lenOf own_pd34 rfl) rfl (Nat.le_of_eq rfl) (hb hby at_155) (fun _ _ => ⟨rfl, rfl, (by decide : 7 + 1 ≤ _), (by decide : 27 + 5 ≤ _)⟩)
       dsimp only [Pt.U, Pt.locs, Pt.cells, Pt.slots] at X58 l58 y58 z58 st58 hQ58
       subst l58 y58 z58
       obtain ⟨rfl, N58q, K58q, f58_0, f58_1⟩ := hQ58
       have q572 := q527.keep K58q (allS ge_b15 all0)
       have q573 := q528.keep K58q
       have q574 := q529.keep K58q (ninS ne_sb_13_b15 nin0)
       have q575 := q530.keep K58q (ninS ne_sb_13_b15 nin0)
       have q576 := q531.keep K58q (ninS ne_vb_13_b15 nin0)
       have q577 := q532.keep K58q
       have q578 := q533.keep K58q (ninS ne_sb_14_b15 nin0)
       have q579 := q534.keep K58q (ninS ne_sb_14_b15 nin0)
       have q580 := q535.keep K58q (ninS ne_vb_14_b15 nin0)
       have q581 := f45_1.keep K58q
       have q582 := q537.keep K58q
       have q583 := f45_3.keep K58q
       have q584 := f45_4.keep K58q (ninS (Ne.symm ne_b15_lk_45) nin0)
       have q585 := f45_5.keep K58q (ninS (Ne.symm ne_b15_lk_45) nin0)
       have q586 := f45_6.keep K58q (ninS (Ne.symm ne_b15_lk_45) nin0)
       have q587 := f45_7.keep K58q (ninS (Ne.symm ne_b15_lk_45) nin0)
       have q588 := f45_8.keep K58q (ninS (Ne.symm ne_b15_lk_45) nin0)
       have K58 : Keep h0 T58.heap [] := K45.trans K58q (allS (Or.inr sz_b15) all0)
       have N58 := Fr.app N45 N58q
       refine ownE.goS st58 ?_
       refine ownE.go (f' := (mkF m 204 (own_l23 i0 i1 i2 cs sb_13 sb_14 b15 b17) [(.ref b15)])) (fun t kt => XS.pop X58.here hx rfl (hb hby at_158) rfl rfl (XS.iloadN X58.here hx rfl (hb hby at_159) rfl (XS.ifYes X58.here hx rfl (pc0 := 160) (pc' := 173) rfl (hb hby at_160) rfl (Jvm.Free.XT.i0_ne_t hc20) (by decide) (by decide) (XS.iconst X58.here hx rfl (hb hby at_173) (XS.goto X58.here hx rfl (pc0 := 174) (pc' := 178) rfl (hb hby at_174) (by decide) (by decide) (XS.istore X58.here hx rfl (hb hby at_178) rfl (l' := (own_l22 i0 i1 i2 cs sb_13 sb_14 b15 b17)) rfl (XS.iload X58.here hx rfl (hb hby at_180) rfl (XS.ifNo X58.here hx rfl (hb hby at_182) rfl (Jvm.Free.XT.i0_eq_f hc46) (XS.iload X58.here hx rfl (hb hby at_185) rfl (XS.ifYes X58.here hx rfl (pc0 := 187) (pc' := 194) rfl (hb hby at_187) rfl (Jvm.Free.XT.i0_ne_t (by decide)) (by decide) (by decide) (XS.iconst X58.here hx rfl (hb hby at_194) (XS.istore X58.here hx rfl (hb hby at_195) rfl (l' := (own_l23 i0 i1 i2 cs sb_13 sb_14 b15 b17)) rfl (XS.iload X58.here hx rfl (hb hby at_197) rfl (XS.ifNo X58.here hx rfl (hb hby at_199) rfl (Jvm.Free.XT.i0_eq_f (by decide)) (XS.aload X58.here hx rfl (hb hby at_202) rfl rfl kt))))))))))))))) ?_
       obtain ⟨cq59, kq59, q59a, q59b, q59c⟩ := isOf hZ rfl f58_0
       obtain ⟨_, _, ⟨T59, L59, k59, n59⟩, -, X59, ⟨Lc59, hQ59, l59, y59, z59⟩, st59⟩ := X58.virtualBack hx (y := own_y27) (z := own_y27) hown (mvT hZ (own_w hw 65 rfl)) (mvT hZ (own_w hw 66 rfl)) (notFace_of_selects (args := #[]) (mvT hZ (own_w hw 68 rfl))) (mvT hZ (own_w hw 68 rfl)) (mvT hZ (own_w hw 67 rfl)) (by decide) (backOf (W := 0) (own_rm91 l Z a0 hw [] b15 lk_45 T58.heap n0 (Nat.le_trans Z0 K58.1) f58_0 f58_1) hZ (own_w hw 69 rfl) (own_w hw 28 rfl) (by decide) (by decide)) q59a q59c (g := (mkF m 204 (own_l23 i0 i1 i2 cs sb_13 sb_14 b15 b17) [(.ref b15)])) rfl (by rw [hml]; rfl) (Steps.refl _) (argsL := []) (rest := []) (lenOf own_pd16 rfl) rfl (Nat.le_of_eq rfl) (hb hby at_204) (fun _ _ => ⟨rfl, rfl, (by decide : 8 + 0 ≤ _), (by decide : 32 + 0 ≤ _)⟩)
       dsimp only [Pt.U, Pt.locs, Pt.cells, Pt.slots] at X59 l59 y59 z59 st59 hQ59
       subst l59 y59 z59
       obtain ⟨rfl, N59q, e59⟩ := hQ59
       have N59 := Fr.app N58 N59q
       refine ownE.goS st59 ?_
       refine ownE.go (f' := (mkF m 234 (own_l23 i0 i1 i2 cs sb_13 sb_14 b15 b17) [(.int (own_j0e_36_S0 i0 i1 i2 cs))])) (fun t kt => XS.iload X59.here hx rfl (hb hby at_207) rfl (XS.ifYes X59.here hx rfl (pc0 := 209) (pc' := 221) rfl (hb hby at_209) rfl (Jvm.Free.XT.i0_ne_t (by decide)) (by decide) (by decide) (XS.iconst X59.here hx rfl (hb hby at_221) (XS.icmpNo X59.here hx rfl (hb hby at_222) rfl (Jvm.Free.XT.ii_ne_f (by decide)) (XS.iconst X59.here hx rfl (hb hby at_225) (XS.goto X59.here hx rfl (pc0 := 226) (pc' := 230) rfl (hb hby at_226) (by decide) (by decide) (XS.istore X59.here hx rfl (hb hby at_230) rfl (l' := (own_l23 i0 i1 i2 cs sb_13 sb_14 b15 b17)) rfl (XS.iload X59.here hx rfl (hb hby at_232) rfl kt)))))))) ?_
       by_cases hc60 : (own_j0e_36_S0 i0 i1 i2 cs) = (0 : Int32)
       · -- pc 234
        refine ownE.go (T' := T59) (f' := (mkF m 248 (own_l23 i0 i1 i2 cs sb_13 sb_14 b15 b17) [])) (fun t kt => XS.ifYes (g := (mkF m 234 (own_l23 i0 i1 i2 cs sb_13 sb_14 b15 b17) [(.int (own_j0e_36_S0 i0 i1 i2 cs))])) X59.here hx rfl (pc0 := 234) (pc' := 248) rfl (hb hby at_234) rfl (Jvm.Free.XT.i0_eq_t hc60) (by decide) (by decide) kt) ?_
        refine ownE.go (f' := (mkF m 250 (own_l23 i0 i1 i2 cs sb_13 sb_14 b15 b17) [(.int (own_j0e_50_S0 i0 i1 i2 cs))])) (fun t kt => XS.iload X59.here hx rfl (hb hby at_248) rfl kt) ?_
        by_cases hc61 : (own_j0e_50_S0 i0 i1 i2 cs) = (0 : Int32)
        · -- pc 250
         refine ownE.go (T' := T59) (f' := (mkF m 275 (own_l23 i0 i1 i2 cs sb_13 sb_14 b15 b17) [])) (fun t kt => XS.ifYes (g := (mkF m 250 (own_l23 i0 i1 i2 cs sb_13 sb_14 b15 b17) [(.int (own_j0e_50_S0 i0 i1 i2 cs))])) X59.here hx rfl (pc0 := 250) (pc' := 275) rfl (hb hby at_250) rfl (Jvm.Free.XT.i0_eq_t hc61) (by decide) (by decide) kt) ?_
         refine ownE.go (f' := (mkF m 282 (own_l23 i0 i1 i2 cs sb_13 sb_14 b15 b17) [(.ref b15)])) (fun t kt => XS.iload X59.here hx rfl (hb hby at_275) rfl (XS.ifNo X59.here hx rfl (hb hby at_277) rfl (Jvm.Free.XT.i0_eq_f (by decide)) (XS.aload X59.here hx rfl (hb hby at_280) rfl rfl kt))) ?_
         obtain ⟨cq62, kq62, q62a, q62b, q62c⟩ := isOf hZ e59 f58_0
         obtain ⟨_, _, ⟨T62, L62, k62, n62⟩, -, X62, ⟨Lc62, hQ62, l62, y62, z62⟩, st62⟩ := X59.virtualBack hx (y := own_y27) (z := own_y27) hown (mvT hZ (own_w hw 65 rfl)) (mvT hZ (own_w hw 66 rfl)) (notFace_of_selects (args := #[]) (mvT hZ (own_w hw 68 rfl))) (mvT hZ (own_w hw 68 rfl)) (mvT hZ (own_w hw 67 rfl)) (by decide) (backOf (W := 0) (own_rm91 l Z a0 hw [] b15 lk_45 T58.heap n0 (Nat.le_trans Z0 K58.1) f58_0 f58_1) hZ (own_w hw 69 rfl) (own_w hw 28 rfl) (by decide) (by decide)) q62a q62c (g := (mkF m 282 (own_l23 i0 i1 i2 cs sb_13 sb_14 b15 b17) [(.ref b15)])) rfl (by rw [hml]; rfl) (Steps.refl _) (argsL := []) (rest := []) (lenOf own_pd16 rfl) rfl (Nat.le_of_eq rfl) (hb hby at_282) (fun _ _ => ⟨rfl, e59, (by decide : 8 + 0 ≤ _), (by decide : 32 + 0 ≤ _)⟩)
         dsimp only [Pt.U, Pt.locs, Pt.cells, Pt.slots] at X62 l62 y62 z62 st62 hQ62
         subst l62 y62 z62
         obtain ⟨rfl, N62q, e62⟩ := hQ62
         have N62 := Fr.app N59 N62q
         refine ownE.goS st62 ?_
         refine ownE.go (f' := (mkF m 312 (own_l23 i0 i1 i2 cs sb_13 sb_14 b15 b17) [(.int (1 : Int32))])) (fun t kt => XS.iload X62.here hx rfl (hb hby at_285) rfl (XS.ifYes X62.here hx rfl (pc0 := 287) (pc' := 299) rfl (hb hby at_287) rfl (Jvm.Free.XT.i0_ne_t (by decide)) (by decide) (by decide) (XS.iconst X62.here hx rfl (hb hby at_299) (XS.icmpNo X62.here hx rfl (hb hby at_300) rfl (Jvm.Free.XT.ii_ne_f (by decide)) (XS.iconst X62.here hx rfl (hb hby at_303) (XS.goto X62.here hx rfl (pc0 := 304) (pc' := 308) rfl (hb hby at_304) (by decide) (by decide) (XS.istore X62.here hx rfl (hb hby at_308) rfl (l' := (own_l23 i0 i1 i2 cs sb_13 sb_14 b15 b17)) rfl (XS.iload X62.here hx rfl (hb hby at_310) rfl kt)))))))) ?_
         refine ownE.retN X62 hx hlk (t := .boolean) hret (by simp) (hb hby at_312) ?_ (by decide) (by decide)
         show own_Q0e Z i0 i1 i2 cs fmt h0 n0 _ T62.heap _
         rw [e62]
         exact ⟨(by rw [own_f0e, if_neg hc20, if_neg hc46, if_pos hc60, if_pos hc61] <;> first | rfl | decide), N62, K58⟩
        · -- pc 250
         refine ownE.go (T' := T59) (f' := (mkF m 253 (own_l23 i0 i1 i2 cs sb_13 sb_14 b15 b17) [])) (fun t kt => XS.ifNo (g := (mkF m 250 (own_l23 i0 i1 i2 cs sb_13 sb_14 b15 b17) [(.int (own_j0e_50_S0 i0 i1 i2 cs))])) X59.here hx rfl (hb hby at_250) rfl (Jvm.Free.XT.i0_eq_f hc61) kt) ?_
         refine ownE.go (f' := (mkF m 257 (own_l23 i0 i1 i2 cs sb_13 sb_14 b15 b17) [(.ref sb_14), (.ref b15)])) (fun t kt => XS.aload X59.here hx rfl (hb hby at_253) rfl rfl (XS.aload X59.here hx rfl (hb hby at_255) rfl rfl kt)) ?_
         obtain ⟨cq63, kq63, q63a, q63b, q63c⟩ := isOf hZ e59 f58_0
         obtain ⟨_, _, ⟨T63, L63, k63, n63⟩, -, X63, ⟨Lc63, hQ63, l63, y63, z63⟩, st63⟩ := X59.virtualBack hx (y := own_y29) (z := own_y29) hown (mvT hZ (own_w hw 157 rfl)) (mvT hZ (own_w hw 158 rfl)) (notFace_of_selects (args := #[]) (mvT hZ (own_w hw 160 rfl))) (mvT hZ (own_w hw 160 rfl)) (mvT hZ (own_w hw 159 rfl)) (by decide) (backOf (W := 0) (own_rm271e l Z a0 hw [] b15 sb_14 vb_14 kb_14 ((((i1 &&& (255 : Int32)).toUInt32.toUInt16.toUInt32.toInt32).toInt8.toInt32).toInt8.toInt32) lk_45 sb_13 vb_13 kb_13 ((((i0 &&& (255 : Int32)).toUInt32.toUInt16.toUInt32.toInt32).toInt8.toInt32).toInt8.toInt32) b17 cs fmt T58.heap n0 (Nat.le_trans Z0 K58.1) q572 hcs hcsn zfm hfm f58_0 f58_1 ge_b15 q584 q585 q586 q587 q577 q579 q578 q580 q573 q575 q574 q576 (by rw [own_xc, own_xc]; exact hE.symm)) hZ (own_w hw 161 rfl) (own_w hw 28 rfl) (by decide) (by decide)) q63a q63c (g := (mkF m 257 (own_l23 i0 i1 i2 cs sb_13 sb_14 b15 b17) [(.ref sb_14), (.ref b15)])) rfl (by rw [hml]; rfl) (Steps.refl _) (argsL := [(.ref sb_14)]) (rest := []) (lenOf own_pd30 rfl) rfl (Nat.le_of_eq rfl) (hb hby at_257) (fun _ _ => ⟨rfl, e59, (by decide : 8 + 0 ≤ _), (by decide : 32 + 0 ≤ _)⟩)
         dsimp only [Pt.U, Pt.locs, Pt.cells, Pt.slots] at X63 l63 y63 z63 st63 hQ63
         subst l63 y63 z63
         obtain ⟨rfl, N63q, K63q, f63_0, f63_1⟩ := hQ63
         have q589 := q572.keep K63q (allS ge_b15 all0)
         have q590 := q573.keep K63q
         have q591 := q574.keep K63q (ninS ne_sb_13_b15 nin0)
         have q592 := q575.keep K63q (ninS ne_sb_13_b15 nin0)
         have q593 := q576.keep K63q (ninS ne_vb_13_b15 nin0)
         have q594 := q577.keep K63q
         have q595 := q578.keep K63q (ninS ne_sb_14_b15 nin0)
         have q596 := q579.keep K63q (ninS ne_sb_14_b15 nin0)
         have q597 := q580.keep K63q (ninS ne_vb_14_b15 nin0)
         have q598 := f58_0.keep K63q
         have q599 := q582.keep K63q
         have q600 := q583.keep K63q
         have q601 := q584.keep K63q (ninS (Ne.symm ne_b15_lk_45) nin0)
         have q602 := q585.keep K63q (ninS (Ne.symm ne_b15_lk_45) nin0)
         have q603 := q586.keep K63q (ninS (Ne.symm ne_b15_lk_45) nin0)
         have q604 := q587.keep K63q (ninS (Ne.symm ne_b15_lk_45) nin0)
         have q605 := q588.keep K63q (ninS (Ne.symm ne_b15_lk_45) nin0)
         have K63 : Keep h0 T63.heap [] := K58.trans K63q (allS (Or.inr sz_b15) all0)
         have N63 := Fr.app N59 N63q
         refine ownE.goS st63 ?_
         refine ownE.go (f' := (mkF m 282 (own_l21 i0 i1 i2 cs sb_13 sb_14 b15 b17) [(.ref b15)])) (fun t kt => XS.pop X63.here hx rfl (hb hby at_260) rfl rfl (XS.iload X63.here hx rfl (hb hby at_261) rfl (XS.ifNo X63.here hx rfl (hb hby at_263) rfl (Jvm.Free.XT.i0_eq_f (by decide)) (XS.iconst X63.here hx rfl (hb hby at_266) (XS.istore X63.here hx rfl (hb hby at_267) rfl (l' := (own_l21 i0 i1 i2 cs sb_13 sb_14 b15 b17)) rfl (XS.goto X63.here hx rfl (pc0 := 269) (pc' := 275) rfl (hb hby at_269) (by decide) (by decide) (XS.iload X63.here hx rfl (hb hby at_275) rfl (XS.ifNo X63.here hx rfl (hb hby at_277) rfl (Jvm.Free.XT.i0_eq_f (by decide)) (XS.aload X63.here hx rfl (hb hby at_280) rfl rfl kt))))))))) ?_
         obtain ⟨cq64, kq64, q64a, q64b, q64c⟩ := isOf hZ rfl f63_0
         obtain ⟨_, _, ⟨T64, L64, k64, n64⟩, -, X64, ⟨Lc64, hQ64, l64, y64, z64⟩, st64⟩ := X63.virtualBack hx (y := own_y27) (z := own_y27) hown (mvT hZ (own_w hw 65 rfl)) (mvT hZ (own_w hw 66 rfl)) (notFace_of_selects (args := #[]) (mvT hZ (own_w hw 68 rfl))) (mvT hZ (own_w hw 68 rfl)) (mvT hZ (own_w hw 67 rfl)) (by decide) (backOf (W := 0) (own_rm90 l Z a0 hw [] b15 T63.heap n0 (Nat.le_trans Z0 K63.1) f63_0 f63_1) hZ (own_w hw 69 rfl) (own_w hw 28 rfl) (by decide) (by decide)) q64a q64c (g := (mkF m 282 (own_l21 i0 i1 i2 cs sb_13 sb_14 b15 b17) [(.ref b15)])) rfl (by rw [hml]; rfl) (Steps.refl _) (argsL := []) (rest := []) (lenOf own_pd16 rfl) rfl (Nat.le_of_eq rfl) (hb hby at_282) (fun _ _ => ⟨rfl, rfl, (by decide : 8 + 0 ≤ _), (by decide : 32 + 0 ≤ _)⟩)
         dsimp only [Pt.U, Pt.locs, Pt.cells, Pt.slots] at X64 l64 y64 z64 st64 hQ64
         subst l64 y64 z64
         obtain ⟨rfl, N64q, e64⟩ := hQ64
         have N64 := Fr.app N63 N64q
         refine ownE.goS st64 ?_
         refine ownE.go (f' := (mkF m 312 (own_l21 i0 i1 i2 cs sb_13 sb_14 b15 b17) [(.int (1 : Int32))])) (fun t kt => XS.iload X64.here hx rfl (hb hby at_285) rfl (XS.ifNo X64.here hx rfl (hb hby at_287) rfl (Jvm.Free.XT.i0_ne_f (by decide)) (XS.iload X64.here hx rfl (hb hby at_290) rfl (XS.ifNo X64.here hx rfl (hb hby at_292) rfl (Jvm.Free.XT.i0_ne_f (by decide)) (XS.iconst X64.here hx rfl (hb hby at_295) (XS.goto X64.here hx rfl (pc0 := 296) (pc' := 300) rfl (hb hby at_296) (by decide) (by decide) (XS.icmpNo X64.here hx rfl (hb hby at_300) rfl (Jvm.Free.XT.ii_ne_f (by decide)) (XS.iconst X64.here hx rfl (hb hby at_303) (XS.goto X64.here hx rfl (pc0 := 304) (pc' := 308) rfl (hb hby at_304) (by decide) (by decide) (XS.istore X64.here hx rfl (hb hby at_308) rfl (l' := (own_l21 i0 i1 i2 cs sb_13 sb_14 b15 b17)) rfl (XS.iload X64.here hx rfl (hb hby at_310) rfl kt))))))))))) ?_
         refine ownE.retN X64 hx hlk (t := .boolean) hret (by simp) (hb hby at_312) ?_ (by decide) (by decide)
         show own_Q0e Z i0 i1 i2 cs fmt h0 n0 _ T64.heap _
         rw [e64]
         exact ⟨(by rw [own_f0e, if_neg hc20, if_neg hc46, if_pos hc60, if_neg hc61] <;> first | rfl | decide), N64, K63⟩
       · -- pc 234
        refine ownE.go (T' := T59) (f' := (mkF m 237 (own_l23 i0 i1 i2 cs sb_13 sb_14 b15 b17) [])) (fun t kt => XS.ifNo (g := (mkF m 234 (own_l23 i0 i1 i2 cs sb_13 sb_14 b15 b17) [(.int (own_j0e_36_S0 i0 i1 i2 cs))])) X59.here hx rfl (hb hby at_234) rfl (Jvm.Free.XT.i0_eq_f hc60) kt) ?_
        refine ownE.go (f' := (mkF m 241 (own_l23 i0 i1 i2 cs sb_13 sb_14 b15 b17) [(.ref sb_13), (.ref b15)])) (fun t kt => XS.aload X59.here hx rfl (hb hby at_237) rfl rfl (XS.aload X59.here hx rfl (hb hby at_239) rfl rfl kt)) ?_
        obtain ⟨cq65, kq65, q65a, q65b, q65c⟩ := isOf hZ e59 f58_0
        obtain ⟨_, _, ⟨T65, L65, k65, n65⟩, -, X65, ⟨Lc65, hQ65, l65, y65, z65⟩, st65⟩ := X59.virtualBack hx (y := own_y29) (z := own_y29) hown (mvT hZ (own_w hw 157 rfl)) (mvT hZ (own_w hw 158 rfl)) (notFace_of_selects (args := #[]) (mvT hZ (own_w hw 160 rfl))) (mvT hZ (own_w hw 160 rfl)) (mvT hZ (own_w hw 159 rfl)) (by decide) (backOf (W := 0) (own_rm271e l Z a0 hw [] b15 sb_13 vb_13 kb_13 ((((i0 &&& (255 : Int32)).toUInt32.toUInt16.toUInt32.toInt32).toInt8.toInt32).toInt8.toInt32) lk_45 sb_13 vb_13 kb_13 ((((i0 &&& (255 : Int32)).toUInt32.toUInt16.toUInt32.toInt32).toInt8.toInt32).toInt8.toInt32) b17 cs fmt T58.heap n0 (Nat.le_trans Z0 K58.1) q572 hcs hcsn zfm hfm f58_0 f58_1 ge_b15 q584 q585 q586 q587 q573 q575 q574 q576 q573 q575 q574 q576 rfl) hZ (own_w hw 161 rfl) (own_w hw 28 rfl) (by decide) (by decide)) q65a q65c (g := (mkF m 241 (own_l23 i0 i1 i2 cs sb_13 sb_14 b15 b17) [(.ref sb_13), (.ref b15)])) rfl (by rw [hml]; rfl) (Steps.refl _) (argsL := [(.ref sb_13)]) (rest := []) (lenOf own_pd30 rfl) rfl (Nat.le_of_eq rfl) (hb hby at_241) (fun _ _ => ⟨rfl, e59, (by decide : 8 + 0 ≤ _), (by decide : 32 + 0 ≤ _)⟩)
        dsimp only [Pt.U, Pt.locs, Pt.cells, Pt.slots] at X65 l65 y65 z65 st65 hQ65
        subst l65 y65 z65
        obtain ⟨rfl, N65q, K65q, f65_0, f65_1⟩ := hQ65
        have q606 := q572.keep K65q (allS ge_b15 all0)
        have q607 := q573.keep K65q
        have q608 := q574.keep K65q (ninS ne_sb_13_b15 nin0)
        have q609 := q575.keep K65q (ninS ne_sb_13_b15 nin0)
        have q610 := q576.keep K65q (ninS ne_vb_13_b15 nin0)
        have q611 := q577.keep K65q
        have q612 := q578.keep K65q (ninS ne_sb_14_b15 nin0)
        have q613 := q579.keep K65q (ninS ne_sb_14_b15 nin0)
        have q614 := q580.keep K65q (ninS ne_vb_14_b15 nin0)
        have q615 := f58_0.keep K65q
        have q616 := q582.keep K65q
        have q617 := q583.keep K65q
        have q618 := q584.keep K65q (ninS (Ne.symm ne_b15_lk_45) nin0)
        have q619 := q585.keep K65q (ninS (Ne.symm ne_b15_lk_45) nin0)
        have q620 := q586.keep K65q (ninS (Ne.symm ne_b15_lk_45) nin0)
        have q621 := q587.keep K65q (ninS (Ne.symm ne_b15_lk_45) nin0)
        have q622 := q588.keep K65q (ninS (Ne.symm ne_b15_lk_45) nin0)
        have K65 : Keep h0 T65.heap [] := K58.trans K65q (allS (Or.inr sz_b15) all0)
        have N65 := Fr.app N59 N65q
        refine ownE.goS st65 ?_
        refine ownE.go (f' := (mkF m 250 (own_l21 i0 i1 i2 cs sb_13 sb_14 b15 b17) [(.int (own_j0e_50_S0 i0 i1 i2 cs))])) (fun t kt => XS.pop X65.here hx rfl (hb hby at_244) rfl rfl (XS.iconst X65.here hx rfl (hb hby at_245) (XS.istore X65.here hx rfl (hb hby at_246) rfl (l' := (own_l21 i0 i1 i2 cs sb_13 sb_14 b15 b17)) rfl (XS.iload X65.here hx rfl (hb hby at_248) rfl kt)))) ?_
        by_cases hc66 : (own_j0e_50_S0 i0 i1 i2 cs) = (0 : Int32)
        · -- pc 250
         refine ownE.go (T' := T65) (f' := (mkF m 275 (own_l21 i0 i1 i2 cs sb_13 sb_14 b15 b17) [])) (fun t kt => XS.ifYes (g := (mkF m 250 (own_l21 i0 i1 i2 cs sb_13 sb_14 b15 b17) [(.int (own_j0e_50_S0 i0 i1 i2 cs))])) X65.here hx rfl (pc0 := 250) (pc' := 275) rfl (hb hby at_250) rfl (Jvm.Free.XT.i0_eq_t hc66) (by decide) (by decide) kt) ?_
         refine ownE.go (f' := (mkF m 282 (own_l21 i0 i1 i2 cs sb_13 sb_14 b15 b17) [(.ref b15)])) (fun t kt => XS.iload X65.here hx rfl (hb hby at_275) rfl (XS.ifNo X65.here hx rfl (hb hby at_277) rfl (Jvm.Free.XT.i0_eq_f (by decide)) (XS.aload X65.here hx rfl (hb hby at_280) rfl rfl kt))) ?_
         obtain ⟨cq67, kq67, q67a, q67b, q67c⟩ := isOf hZ rfl f65_0
         obtain ⟨_, _, ⟨T67, L67, k67, n67⟩, -, X67, ⟨Lc67, hQ67, l67, y67, z67⟩, st67⟩ := X65.virtualBack hx (y := own_y27) (z := own_y27) hown (mvT hZ (own_w hw 65 rfl)) (mvT hZ (own_w hw 66 rfl)) (notFace_of_selects (args := #[]) (mvT hZ (own_w hw 68 rfl))) (mvT hZ (own_w hw 68 rfl)) (mvT hZ (own_w hw 67 rfl)) (by decide) (backOf (W := 0) (own_rm90 l Z a0 hw [] b15 T65.heap n0 (Nat.le_trans Z0 K65.1) f65_0 f65_1) hZ (own_w hw 69 rfl) (own_w hw 28 rfl) (by decide) (by decide)) q67a q67c (g := (mkF m 282 (own_l21 i0 i1 i2 cs sb_13 sb_14 b15 b17) [(.ref b15)])) rfl (by rw [hml]; rfl) (Steps.refl _) (argsL := []) (rest := []) (lenOf own_pd16 rfl) rfl (Nat.le_of_eq rfl) (hb hby at_282) (fun _ _ => ⟨rfl, rfl, (by decide : 8 + 0 ≤ _), (by decide : 32 + 0 ≤ _)⟩)
         dsimp only [Pt.U, Pt.locs, Pt.cells, Pt.slots] at X67 l67 y67 z67 st67 hQ67
         subst l67 y67 z67
         obtain ⟨rfl, N67q, e67⟩ := hQ67
         have N67 := Fr.app N65 N67q
         refine ownE.goS st67 ?_
         refine ownE.go (f' := (mkF m 312 (own_l21 i0 i1 i2 cs sb_13 sb_14 b15 b17) [(.int (1 : Int32))])) (fun t kt => XS.iload X67.here hx rfl (hb hby at_285) rfl (XS.ifNo X67.here hx rfl (hb hby at_287) rfl (Jvm.Free.XT.i0_ne_f (by decide)) (XS.iload X67.here hx rfl (hb hby at_290) rfl (XS.ifNo X67.here hx rfl (hb hby at_292) rfl (Jvm.Free.XT.i0_ne_f (by decide)) (XS.iconst X67.here hx rfl (hb hby at_295) (XS.goto X67.here hx rfl (pc0 := 296) (pc' := 300) rfl (hb hby at_296) (by decide) (by decide) (XS.icmpNo X67.here hx rfl (hb hby at_300) rfl (Jvm.Free.XT.ii_ne_f (by decide)) (XS.iconst X67.here hx rfl (hb hby at_303) (XS.goto X67.here hx rfl (pc0 := 304) (pc' := 308) rfl (hb hby at_304) (by decide) (by decide) (XS.istore X67.here hx rfl (hb hby at_308) rfl (l' := (own_l21 i0 i1 i2 cs sb_13 sb_14 b15 b17)) rfl (XS.iload X67.here hx rfl (hb hby at_310) rfl kt))))))))))) ?_
         refine ownE.retN X67 hx hlk (t := .boolean) hret (by simp) (hb hby at_312) ?_ (by decide) (by decide)
         show own_Q0e Z i0 i1 i2 cs fmt h0 n0 _ T67.heap _
         rw [e67]
         exact ⟨(by rw [own_f0e, if_neg hc20, if_neg hc46, if_neg hc60, if_pos hc66] <;> first | rfl | decide), N67, K65⟩
        · -- pc 250
         refine ownE.go (T' := T65) (f' := (mkF m 253 (own_l21 i0 i1 i2 cs sb_13 sb_14 b15 b17) [])) (fun t kt => XS.ifNo (g := (mkF m 250 (own_l21 i0 i1 i2 cs sb_13 sb_14 b15 b17) [(.int (own_j0e_50_S0 i0 i1 i2 cs))])) X65.here hx rfl (hb hby at_250) rfl (Jvm.Free.XT.i0_eq_f hc66) kt) ?_
         refine ownE.go (f' := (mkF m 257 (own_l21 i0 i1 i2 cs sb_13 sb_14 b15 b17) [(.ref sb_14), (.ref b15)])) (fun t kt => XS.aload X65.here hx rfl (hb hby at_253) rfl rfl (XS.aload X65.here hx rfl (hb hby at_255) rfl rfl kt)) ?_
         obtain ⟨cq68, kq68, q68a, q68b, q68c⟩ := isOf hZ rfl f65_0
         obtain ⟨_, _, ⟨T68, L68, k68, n68⟩, -, X68, ⟨Lc68, hQ68, l68, y68, z68⟩, st68⟩ := X65.virtualBack hx (y := own_y29) (z := own_y29) hown (mvT hZ (own_w hw 157 rfl)) (mvT hZ (own_w hw 158 rfl)) (notFace_of_selects (args := #[]) (mvT hZ (own_w hw 160 rfl))) (mvT hZ (own_w hw 160 rfl)) (mvT hZ (own_w hw 159 rfl)) (by decide) (backOf (W := 0) (own_rm270 l Z a0 hw [] b15 sb_14 T65.heap n0 (Nat.le_trans Z0 K65.1) f65_0 f65_1) hZ (own_w hw 161 rfl) (own_w hw 28 rfl) (by decide) (by decide)) q68a q68c (g := (mkF m 257 (own_l21 i0 i1 i2 cs sb_13 sb_14 b15 b17) [(.ref sb_14), (.ref b15)])) rfl (by rw [hml]; rfl) (Steps.refl _) (argsL := [(.ref sb_14)]) (rest := []) (lenOf own_pd30 rfl) rfl (Nat.le_of_eq rfl) (hb hby at_257) (fun _ _ => ⟨rfl, rfl, (by decide : 8 + 0 ≤ _), (by decide : 32 + 0 ≤ _)⟩)
         dsimp only [Pt.U, Pt.locs, Pt.cells, Pt.slots] at X68 l68 y68 z68 st68 hQ68
         subst l68 y68 z68
         obtain ⟨rfl, N68q, e68⟩ := hQ68
         have N68 := Fr.app N65 N68q
         refine ownE.goS st68 ?_
         refine ownE.go (f' := (mkF m 282 (own_l21 i0 i1 i2 cs sb_13 sb_14 b15 b17) [(.ref b15)])) (fun t kt => XS.pop X68.here hx rfl (hb hby at_260) rfl rfl (XS.iload X68.here hx rfl (hb hby at_261) rfl (XS.ifNo X68.here hx rfl (hb hby at_263) rfl (Jvm.Free.XT.i0_eq_f (by decide)) (XS.iconst X68.here hx rfl (hb hby at_266) (XS.istore X68.here hx rfl (hb hby at_267) rfl (l' := (own_l21 i0 i1 i2 cs sb_13 sb_14 b15 b17)) rfl (XS.goto X68.here hx rfl (pc0 := 269) (pc' := 275) rfl (hb hby at_269) (by decide) (by decide) (XS.iload X68.here hx rfl (hb hby at_275) rfl (XS.ifNo X68.here hx rfl (hb hby at_277) rfl (Jvm.Free.XT.i0_eq_f (by decide)) (XS.aload X68.here hx rfl (hb hby at_280) rfl rfl kt))))))))) ?_
         obtain ⟨cq69, kq69, q69a, q69b, q69c⟩ := isOf hZ e68 f65_0
         obtain ⟨_, _, ⟨T69, L69, k69, n69⟩, -, X69, ⟨Lc69, hQ69, l69, y69, z69⟩, st69⟩ := X68.virtualBack hx (y := own_y27) (z := own_y27) hown (mvT hZ (own_w hw 65 rfl)) (mvT hZ (own_w hw 66 rfl)) (notFace_of_selects (args := #[]) (mvT hZ (own_w hw 68 rfl))) (mvT hZ (own_w hw 68 rfl)) (mvT hZ (own_w hw 67 rfl)) (by decide) (backOf (W := 0) (own_rm90 l Z a0 hw [] b15 T65.heap n0 (Nat.le_trans Z0 K65.1) f65_0 f65_1) hZ (own_w hw 69 rfl) (own_w hw 28 rfl) (by decide) (by decide)) q69a q69c (g := (mkF m 282 (own_l21 i0 i1 i2 cs sb_13 sb_14 b15 b17) [(.ref b15)])) rfl (by rw [hml]; rfl) (Steps.refl _) (argsL := []) (rest := []) (lenOf own_pd16 rfl) rfl (Nat.le_of_eq rfl) (hb hby at_282) (fun _ _ => ⟨rfl, e68, (by decide : 8 + 0 ≤ _), (by decide : 32 + 0 ≤ _)⟩)
         dsimp only [Pt.U, Pt.locs, Pt.cells, Pt.slots] at X69 l69 y69 z69 st69 hQ69
         subst l69 y69 z69
         obtain ⟨rfl, N69q, e69⟩ := hQ69
         have N69 := Fr.app N68 N69q
         refine ownE.goS st69 ?_
         refine ownE.go (f' := (mkF m 312 (own_l21 i0 i1 i2 cs sb_13 sb_14 b15 b17) [(.int (1 : Int32))])) (fun t kt => XS.iload X69.here hx rfl (hb hby at_285) rfl (XS.ifNo X69.here hx rfl (hb hby at_287) rfl (Jvm.Free.XT.i0_ne_f (by decide)) (XS.iload X69.here hx rfl (hb hby at_290) rfl (XS.ifNo X69.here hx rfl (hb hby at_292) rfl (Jvm.Free.XT.i0_ne_f (by decide)) (XS.iconst X69.here hx rfl (hb hby at_295) (XS.goto X69.here hx rfl (pc0 := 296) (pc' := 300) rfl (hb hby at_296) (by decide) (by decide) (XS.icmpNo X69.here hx rfl (hb hby at_300) rfl (Jvm.Free.XT.ii_ne_f (by decide)) (XS.iconst X69.here hx rfl (hb hby at_303) (XS.goto X69.here hx rfl (pc0 := 304) (pc' := 308) rfl (hb hby at_304) (by decide) (by decide) (XS.istore X69.here hx rfl (hb hby at_308) rfl (l' := (own_l21 i0 i1 i2 cs sb_13 sb_14 b15 b17)) rfl (XS.iload X69.here hx rfl (hb hby at_310) rfl kt))))))))))) ?_
         refine ownE.retN X69 hx hlk (t := .boolean) hret (by simp) (hb hby at_312) ?_ (by decide) (by decide)
         show own_Q0e Z i0 i1 i2 cs fmt h0 n0 _ T69.heap _
         rw [e69]
         exact ⟨(by rw [own_f0e, if_neg hc20, if_neg hc46, if_neg hc60, if_neg hc66] <;> first | rfl | decide), N69, K65⟩
    by_cases hc11 : (i2 &&& (8 : Int32)) = (0 : Int32)
    · -- pc 42
     refine ownE.go (T' := TJ9) (f' := (mkF m 49 (own_l10 i0 i1 i2 cs) [])) (fun t kt => XS.ifYes (g := (mkF m 42 (own_l10 i0 i1 i2 cs) [(.int (i2 &&& (8 : Int32)))])) XJ9.here hx rfl (pc0 := 42) (pc' := 49) rfl (hb hby at_42) rfl (Jvm.Free.XT.i0_eq_t hc11) (by decide) (by decide) kt) ?_
     refine ownE.go (f' := (mkF m 50 (own_l10 i0 i1 i2 cs) [(.int (0 : Int32))])) (fun t kt => XS.iconst XJ9.here hx rfl (hb hby at_49) kt) ?_
     have jj := J12 _ _ XJ9 eJ9 NJ9
     rw [show (own_j0e_50_S0 i0 i1 i2 cs) = (0 : Int32) from by rw [own_j0e_50_S0, if_pos hc11]] at jj
     exact jj
    · -- pc 42
     refine ownE.go (T' := TJ9) (f' := (mkF m 45 (own_l10 i0 i1 i2 cs) [])) (fun t kt => XS.ifNo (g := (mkF m 42 (own_l10 i0 i1 i2 cs) [(.int (i2 &&& (8 : Int32)))])) XJ9.here hx rfl (hb hby at_42) rfl (Jvm.Free.XT.i0_eq_f hc11) kt) ?_
     refine ownE.go (f' := (mkF m 50 (own_l10 i0 i1 i2 cs) [(.int (1 : Int32))])) (fun t kt => XS.iconst XJ9.here hx rfl (hb hby at_45) (XS.goto XJ9.here hx rfl (pc0 := 46) (pc' := 50) rfl (hb hby at_46) (by decide) (by decide) kt)) ?_
     have jj := J12 _ _ XJ9 eJ9 NJ9
     rw [show (own_j0e_50_S0 i0 i1 i2 cs) = (1 : Int32) from by rw [own_j0e_50_S0, if_neg hc11]] at jj
     exact jj
   by_cases hc8 : (i2 &&& (4 : Int32)) = (0 : Int32)
   · -- pc 28
    refine ownE.go (T' := TJ6) (f' := (mkF m 35 (own_l9 i0 i1 i2 cs) [])) (fun t kt => XS.ifYes (g := (mkF m 28 (own_l9 i0 i1 i2 cs) [(.int (i2 &&& (4 : Int32)))])) XJ6.here hx rfl (pc0 := 28) (pc' := 35) rfl (hb hby at_28) rfl (Jvm.Free.XT.i0_eq_t hc8) (by decide) (by decide) kt) ?_
    refine ownE.go (f' := (mkF m 36 (own_l9 i0 i1 i2 cs) [(.int (0 : Int32))])) (fun t kt => XS.iconst XJ6.here hx rfl (hb hby at_35) kt) ?_
    have jj := J9 _ _ XJ6 eJ6 NJ6
    rw [show (own_j0e_36_S0 i0 i1 i2 cs) = (0 : Int32) from by rw [own_j0e_36_S0, if_pos hc8]] at jj
    exact jj
   · -- pc 28
    refine ownE.go (T' := TJ6) (f' := (mkF m 31 (own_l9 i0 i1 i2 cs) [])) (fun t kt => XS.ifNo (g := (mkF m 28 (own_l9 i0 i1 i2 cs) [(.int (i2 &&& (4 : Int32)))])) XJ6.here hx rfl (hb hby at_28) rfl (Jvm.Free.XT.i0_eq_f hc8) kt) ?_
    refine ownE.go (f' := (mkF m 36 (own_l9 i0 i1 i2 cs) [(.int (1 : Int32))])) (fun t kt => XS.iconst XJ6.here hx rfl (hb hby at_31) (XS.goto XJ6.here hx rfl (pc0 := 32) (pc' := 36) rfl (hb hby at_32) (by decide) (by decide) kt)) ?_
    have jj := J9 _ _ XJ6 eJ6 NJ6
    rw [show (own_j0e_36_S0 i0 i1 i2 cs) = (1 : Int32) from by rw [own_j0e_36_S0, if_neg hc8]] at jj
    exact jj
  by_cases hc5 : (i2 &&& (2 : Int32)) = (0 : Int32)
  · -- pc 15
   refine ownE.go (T' := TJ3) (f' := (mkF m 22 (own_l8 i0 i1 i2 cs) [])) (fun t kt => XS.ifYes (g := (mkF m 15 (own_l8 i0 i1 i2 cs) [(.int (i2 &&& (2 : Int32)))])) XJ3.here hx rfl (pc0 := 15) (pc' := 22) rfl (hb hby at_15) rfl (Jvm.Free.XT.i0_eq_t hc5) (by decide) (by decide) kt) ?_
   refine ownE.go (f' := (mkF m 23 (own_l8 i0 i1 i2 cs) [(.int (0 : Int32))])) (fun t kt => XS.iconst XJ3.here hx rfl (hb hby at_22) kt) ?_
   have jj := J6 _ _ XJ3 eJ3 NJ3
   rw [show (own_j0e_23_S0 i0 i1 i2 cs) = (0 : Int32) from by rw [own_j0e_23_S0, if_pos hc5]] at jj
   exact jj
  · -- pc 15
   refine ownE.go (T' := TJ3) (f' := (mkF m 18 (own_l8 i0 i1 i2 cs) [])) (fun t kt => XS.ifNo (g := (mkF m 15 (own_l8 i0 i1 i2 cs) [(.int (i2 &&& (2 : Int32)))])) XJ3.here hx rfl (hb hby at_15) rfl (Jvm.Free.XT.i0_eq_f hc5) kt) ?_
   refine ownE.go (f' := (mkF m 23 (own_l8 i0 i1 i2 cs) [(.int (1 : Int32))])) (fun t kt => XS.iconst XJ3.here hx rfl (hb hby at_18) (XS.goto XJ3.here hx rfl (pc0 := 19) (pc' := 23) rfl (hb hby at_19) (by decide) (by decide) kt)) ?_
   have jj := J6 _ _ XJ3 eJ3 NJ3
   rw [show (own_j0e_23_S0 i0 i1 i2 cs) = (1 : Int32) from by rw [own_j0e_23_S0, if_neg hc5]] at jj
   exact jj
 by_cases hc2 : (i2 &&& (1 : Int32)) = (0 : Int32)
 · -- pc 3
  refine ownE.go (T' := s₁) (f' := (mkF m 10 (own_l7 i0 i1 i2) [])) (fun t kt => XS.ifYes (g := (mkF m 3 (own_l7 i0 i1 i2) [(.int (i2 &&& (1 : Int32)))])) X0.here hx rfl (pc0 := 3) (pc' := 10) rfl (hb hby at_3) rfl (Jvm.Free.XT.i0_eq_t hc2) (by decide) (by decide) kt) ?_
  refine ownE.go (f' := (mkF m 11 (own_l7 i0 i1 i2) [(.int (0 : Int32))])) (fun t kt => XS.iconst X0.here hx rfl (hb hby at_10) kt) ?_
  have jj := J3 _ _ X0 e0 N0
  rw [show (own_j0e_11_S0 i0 i1 i2 cs) = (0 : Int32) from by rw [own_j0e_11_S0, if_pos hc2]] at jj
  exact jj
 · -- pc 3
  refine ownE.go (T' := s₁) (f' := (mkF m 6 (own_l7 i0 i1 i2) [])) (fun t kt => XS.ifNo (g := (mkF m 3 (own_l7 i0 i1 i2) [(.int (i2 &&& (1 : Int32)))])) X0.here hx rfl (hb hby at_3) rfl (Jvm.Free.XT.i0_eq_f hc2) kt) ?_
  refine ownE.go (f' := (mkF m 11 (own_l7 i0 i1 i2) [(.int (1 : Int32))])) (fun t kt => XS.iconst X0.here hx rfl (hb hby at_6) (XS.goto X0.here hx rfl (pc0 := 7) (pc' := 11) rfl (hb hby at_7) (by decide) (by decide) kt)) ?_
  have jj := J3 _ _ X0 e0 N0
  rw [show (own_j0e_11_S0 i0 i1 i2 cs) = (1 : Int32) from by rw [own_j0e_11_S0, if_neg hc2]] at jj
  exact jj
def own_j0l_11_S0 (i0 : Int32) (i1 : Int32) (i2 : Int32) (cs : Int32) : Int32 :=
  if (i2 &&& (1 : Int32)) = (0 : Int32) then
    (0 : Int32)
  else
    (1 : Int32)
abbrev own_l24 (i0 : Int32) (i1 : Int32) (i2 : Int32) (cs : Int32) : Array Slot := #[.val (.int i0), .val (.int i1), .val (.int i2), .val (.int (own_j0l_11_S0 i0 i1 i2 cs)), .unset, .unset, .unset, .unset, .unset, .unset, .unset, .unset, .unset, .unset, .unset, .unset, .unset]
def own_j0l_23_S0 (i0 : Int32) (i1 : Int32) (i2 : Int32) (cs : Int32) : Int32 :=
  if (i2 &&& (2 : Int32)) = (0 : Int32) then
    (0 : Int32)
  else
    (1 : Int32)
abbrev own_l25 (i0 : Int32) (i1 : Int32) (i2 : Int32) (cs : Int32) : Array Slot := #[.val (.int i0), .val (.int i1), .val (.int i2), .val (.int (own_j0l_11_S0 i0 i1 i2 cs)), .val (.int (own_j0l_23_S0 i0 i1 i2 cs)), .unset, .unset, .unset, .unset, .unset, .unset, .unset, .unset, .unset, .unset, .unset, .unset]
def own_j0l_36_S0 (i0 : Int32) (i1 : Int32) (i2 : Int32) (cs : Int32) : Int32 :=
  if (i2 &&& (4 : Int32)) = (0 : Int32) then
    (0 : Int32)
  else
    (1 : Int32)
abbrev own_l26 (i0 : Int32) (i1 : Int32) (i2 : Int32) (cs : Int32) : Array Slot := #[.val (.int i0), .val (.int i1), .val (.int i2), .val (.int (own_j0l_11_S0 i0 i1 i2 cs)), .val (.int (own_j0l_23_S0 i0 i1 i2 cs)), .val (.int (own_j0l_36_S0 i0 i1 i2 cs)), .unset, .unset, .unset, .unset, .unset, .unset, .unset, .unset, .unset, .unset, .unset]
def own_j0l_50_S0 (i0 : Int32) (i1 : Int32) (i2 : Int32) (cs : Int32) : Int32 :=
  if (i2 &&& (8 : Int32)) = (0 : Int32) then
    (0 : Int32)
  else
    (1 : Int32)
abbrev own_l27 (i0 : Int32) (i1 : Int32) (i2 : Int32) (cs : Int32) : Array Slot := #[.val (.int i0), .val (.int i1), .val (.int i2), .val (.int (own_j0l_11_S0 i0 i1 i2 cs)), .val (.int (own_j0l_23_S0 i0 i1 i2 cs)), .val (.int (own_j0l_36_S0 i0 i1 i2 cs)), .val (.int (own_j0l_50_S0 i0 i1 i2 cs)), .unset, .unset, .unset, .unset, .unset, .unset, .unset, .unset, .unset, .unset]
abbrev own_l28 (i0 : Int32) (i1 : Int32) (i2 : Int32) (cs : Int32) : Array Slot := #[.val (.int i0), .val (.int i1), .val (.int i2), .val (.int (own_j0l_11_S0 i0 i1 i2 cs)), .val (.int (own_j0l_23_S0 i0 i1 i2 cs)), .val (.int (own_j0l_36_S0 i0 i1 i2 cs)), .val (.int (own_j0l_50_S0 i0 i1 i2 cs)), .val (.int ((i0 &&& (255 : Int32)).toUInt32.toUInt16.toUInt32.toInt32)), .unset, .unset, .unset, .unset, .unset, .unset, .unset, .unset, .unset]
abbrev own_l29 (i0 : Int32) (i1 : Int32) (i2 : Int32) (cs : Int32) : Array Slot := #[.val (.int i0), .val (.int i1), .val (.int i2), .val (.int (own_j0l_11_S0 i0 i1 i2 cs)), .val (.int (own_j0l_23_S0 i0 i1 i2 cs)), .val (.int (own_j0l_36_S0 i0 i1 i2 cs)), .val (.int (own_j0l_50_S0 i0 i1 i2 cs)), .val (.int ((i0 &&& (255 : Int32)).toUInt32.toUInt16.toUInt32.toInt32)), .val (.int ((i1 &&& (255 : Int32)).toUInt32.toUInt16.toUInt32.toInt32)), .unset, .unset, .unset, .unset, .unset, .unset, .unset, .unset]
abbrev own_l30 (i0 : Int32) (i1 : Int32) (i2 : Int32) (cs : Int32) (sb_13 : Addr) : Array Slot := #[.val (.int i0), .val (.int i1), .val (.int i2), .val (.int (own_j0l_11_S0 i0 i1 i2 cs)), .val (.int (own_j0l_23_S0 i0 i1 i2 cs)), .val (.int (own_j0l_36_S0 i0 i1 i2 cs)), .val (.int (own_j0l_50_S0 i0 i1 i2 cs)), .val (.int ((i0 &&& (255 : Int32)).toUInt32.toUInt16.toUInt32.toInt32)), .val (.int ((i1 &&& (255 : Int32)).toUInt32.toUInt16.toUInt32.toInt32)), .val (.ref sb_13), .unset, .unset, .unset, .unset, .unset, .unset, .unset]
abbrev own_l31 (i0 : Int32) (i1 : Int32) (i2 : Int32) (cs : Int32) (sb_13 : Addr) (sb_14 : Addr) : Array Slot := #[.val (.int i0), .val (.int i1), .val (.int i2), .val (.int (own_j0l_11_S0 i0 i1 i2 cs)), .val (.int (own_j0l_23_S0 i0 i1 i2 cs)), .val (.int (own_j0l_36_S0 i0 i1 i2 cs)), .val (.int (own_j0l_50_S0 i0 i1 i2 cs)), .val (.int ((i0 &&& (255 : Int32)).toUInt32.toUInt16.toUInt32.toInt32)), .val (.int ((i1 &&& (255 : Int32)).toUInt32.toUInt16.toUInt32.toInt32)), .val (.ref sb_13), .val (.ref sb_14), .unset, .unset, .unset, .unset, .unset, .unset]
abbrev own_l32 (i0 : Int32) (i1 : Int32) (i2 : Int32) (cs : Int32) (sb_13 : Addr) (sb_14 : Addr) : Array Slot := #[.val (.int i0), .val (.int i1), .val (.int i2), .val (.int (own_j0l_11_S0 i0 i1 i2 cs)), .val (.int (own_j0l_23_S0 i0 i1 i2 cs)), .val (.int (own_j0l_36_S0 i0 i1 i2 cs)), .val (.int (own_j0l_50_S0 i0 i1 i2 cs)), .val (.int ((i0 &&& (255 : Int32)).toUInt32.toUInt16.toUInt32.toInt32)), .val (.int ((i1 &&& (255 : Int32)).toUInt32.toUInt16.toUInt32.toInt32)), .val (.ref sb_13), .val (.ref sb_14), .val (.int (0 : Int32)), .unset, .unset, .unset, .unset, .unset]
abbrev own_l33 (i0 : Int32) (i1 : Int32) (i2 : Int32) (cs : Int32) (sb_13 : Addr) (sb_14 : Addr) (b15 : Addr) : Array Slot := #[.val (.int i0), .val (.int i1), .val (.int i2), .val (.int (own_j0l_11_S0 i0 i1 i2 cs)), .val (.int (own_j0l_23_S0 i0 i1 i2 cs)), .val (.int (own_j0l_36_S0 i0 i1 i2 cs)), .val (.int (own_j0l_50_S0 i0 i1 i2 cs)), .val (.int ((i0 &&& (255 : Int32)).toUInt32.toUInt16.toUInt32.toInt32)), .val (.int ((i1 &&& (255 : Int32)).toUInt32.toUInt16.toUInt32.toInt32)), .val (.ref sb_13), .val (.ref sb_14), .val (.int (0 : Int32)), .val (.ref b15), .unset, .unset, .unset, .unset]
abbrev own_l34 (i0 : Int32) (i1 : Int32) (i2 : Int32) (cs : Int32) (sb_13 : Addr) (sb_14 : Addr) (b15 : Addr) (b17 : Addr) : Array Slot := #[.val (.int i0), .val (.int i1), .val (.int i2), .val (.int (own_j0l_11_S0 i0 i1 i2 cs)), .val (.int (own_j0l_23_S0 i0 i1 i2 cs)), .val (.int (own_j0l_36_S0 i0 i1 i2 cs)), .val (.int (own_j0l_50_S0 i0 i1 i2 cs)), .val (.int ((i0 &&& (255 : Int32)).toUInt32.toUInt16.toUInt32.toInt32)), .val (.int ((i1 &&& (255 : Int32)).toUInt32.toUInt16.toUInt32.toInt32)), .val (.ref sb_13), .val (.ref sb_14), .val (.int (0 : Int32)), .val (.ref b15), .val (.ref b17), .unset, .unset, .unset]
abbrev own_l35 (i0 : Int32) (i1 : Int32) (i2 : Int32) (cs : Int32) (sb_13 : Addr) (sb_14 : Addr) (b15 : Addr) (b17 : Addr) : Array Slot := #[.val (.int i0), .val (.int i1), .val (.int i2), .val (.int (own_j0l_11_S0 i0 i1 i2 cs)), .val (.int (own_j0l_23_S0 i0 i1 i2 cs)), .val (.int (own_j0l_36_S0 i0 i1 i2 cs)), .val (.int (own_j0l_50_S0 i0 i1 i2 cs)), .val (.int ((i0 &&& (255 : Int32)).toUInt32.toUInt16.toUInt32.toInt32)), .val (.int ((i1 &&& (255 : Int32)).toUInt32.toUInt16.toUInt32.toInt32)), .val (.ref sb_13), .val (.ref sb_14), .val (.int (0 : Int32)), .val (.ref b15), .val (.ref b17), .val (.int (1 : Int32)), .unset, .unset]
abbrev own_l36 (i0 : Int32) (i1 : Int32) (i2 : Int32) (cs : Int32) (sb_13 : Addr) (sb_14 : Addr) (b15 : Addr) (b17 : Addr) : Array Slot := #[.val (.int i0), .val (.int i1), .val (.int i2), .val (.int (own_j0l_11_S0 i0 i1 i2 cs)), .val (.int (own_j0l_23_S0 i0 i1 i2 cs)), .val (.int (own_j0l_36_S0 i0 i1 i2 cs)), .val (.int (own_j0l_50_S0 i0 i1 i2 cs)), .val (.int ((i0 &&& (255 : Int32)).toUInt32.toUInt16.toUInt32.toInt32)), .val (.int ((i1 &&& (255 : Int32)).toUInt32.toUInt16.toUInt32.toInt32)), .val (.ref sb_13), .val (.ref sb_14), .val (.int (0 : Int32)), .val (.ref b15), .val (.ref b17), .val (.int (1 : Int32)), .val (.int (0 : Int32)), .unset]
abbrev own_l37 (i0 : Int32) (i1 : Int32) (i2 : Int32) (cs : Int32) (sb_13 : Addr) (sb_14 : Addr) (b15 : Addr) (b17 : Addr) : Array Slot := #[.val (.int i0), .val (.int i1), .val (.int i2), .val (.int (own_j0l_11_S0 i0 i1 i2 cs)), .val (.int (own_j0l_23_S0 i0 i1 i2 cs)), .val (.int (own_j0l_36_S0 i0 i1 i2 cs)), .val (.int (own_j0l_50_S0 i0 i1 i2 cs)), .val (.int ((i0 &&& (255 : Int32)).toUInt32.toUInt16.toUInt32.toInt32)), .val (.int ((i1 &&& (255 : Int32)).toUInt32.toUInt16.toUInt32.toInt32)), .val (.ref sb_13), .val (.ref sb_14), .val (.int (0 : Int32)), .val (.ref b15), .val (.ref b17), .val (.int (1 : Int32)), .val (.int (0 : Int32)), .val (.int (0 : Int32))]
abbrev own_l38 (i0 : Int32) (i1 : Int32) (i2 : Int32) (cs : Int32) (sb_13 : Addr) (sb_14 : Addr) (b15 : Addr) (b17 : Addr) : Array Slot := #[.val (.int i0), .val (.int i1), .val (.int i2), .val (.int (own_j0l_11_S0 i0 i1 i2 cs)), .val (.int (own_j0l_23_S0 i0 i1 i2 cs)), .val (.int (own_j0l_36_S0 i0 i1 i2 cs)), .val (.int (own_j0l_50_S0 i0 i1 i2 cs)), .val (.int ((i0 &&& (255 : Int32)).toUInt32.toUInt16.toUInt32.toInt32)), .val (.int ((i1 &&& (255 : Int32)).toUInt32.toUInt16.toUInt32.toInt32)), .val (.ref sb_13), .val (.ref sb_14), .val (.int (0 : Int32)), .val (.ref b15), .val (.ref b17), .val (.int (1 : Int32)), .val (.int (0 : Int32)), .val (.int (1 : Int32))]
abbrev own_l39 (i0 : Int32) (i1 : Int32) (i2 : Int32) (cs : Int32) (sb_13 : Addr) (sb_14 : Addr) (b15 : Addr) (b17 : Addr) : Array Slot := #[.val (.int i0), .val (.int i1), .val (.int i2), .val (.int (own_j0l_11_S0 i0 i1 i2 cs)), .val (.int (own_j0l_23_S0 i0 i1 i2 cs)), .val (.int (own_j0l_36_S0 i0 i1 i2 cs)), .val (.int (own_j0l_50_S0 i0 i1 i2 cs)), .val (.int ((i0 &&& (255 : Int32)).toUInt32.toUInt16.toUInt32.toInt32)), .val (.int ((i1 &&& (255 : Int32)).toUInt32.toUInt16.toUInt32.toInt32)), .val (.ref sb_13), .val (.ref sb_14), .val (.int (0 : Int32)), .val (.ref b15), .val (.ref b17), .val (.int (1 : Int32)), .val (.int (1 : Int32)), .unset]
abbrev own_l40 (i0 : Int32) (i1 : Int32) (i2 : Int32) (cs : Int32) (sb_13 : Addr) (sb_14 : Addr) (b15 : Addr) (b17 : Addr) : Array Slot := #[.val (.int i0), .val (.int i1), .val (.int i2), .val (.int (own_j0l_11_S0 i0 i1 i2 cs)), .val (.int (own_j0l_23_S0 i0 i1 i2 cs)), .val (.int (own_j0l_36_S0 i0 i1 i2 cs)), .val (.int (own_j0l_50_S0 i0 i1 i2 cs)), .val (.int ((i0 &&& (255 : Int32)).toUInt32.toUInt16.toUInt32.toInt32)), .val (.int ((i1 &&& (255 : Int32)).toUInt32.toUInt16.toUInt32.toInt32)), .val (.ref sb_13), .val (.ref sb_14), .val (.int (0 : Int32)), .val (.ref b15), .val (.ref b17), .val (.int (1 : Int32)), .val (.int (1 : Int32)), .val (.int (0 : Int32))]
abbrev own_l41 (i0 : Int32) (i1 : Int32) (i2 : Int32) (cs : Int32) (sb_13 : Addr) (sb_14 : Addr) (b15 : Addr) (b17 : Addr) : Array Slot := #[.val (.int i0), .val (.int i1), .val (.int i2), .val (.int (own_j0l_11_S0 i0 i1 i2 cs)), .val (.int (own_j0l_23_S0 i0 i1 i2 cs)), .val (.int (own_j0l_36_S0 i0 i1 i2 cs)), .val (.int (own_j0l_50_S0 i0 i1 i2 cs)), .val (.int ((i0 &&& (255 : Int32)).toUInt32.toUInt16.toUInt32.toInt32)), .val (.int ((i1 &&& (255 : Int32)).toUInt32.toUInt16.toUInt32.toInt32)), .val (.ref sb_13), .val (.ref sb_14), .val (.int (0 : Int32)), .val (.ref b15), .val (.ref b17), .val (.int (1 : Int32)), .val (.int (1 : Int32)), .val (.int (1 : Int32))]
theorem own_ef0l (m : MethodId) (x0 : Int32) (x1 : Int32) (x2 : Int32) : entryFrame m #[(.int x0), (.int x1), (.int x2)] maxLocals = mkF m 0 #[.val (.int x0), .val (.int x1), .val (.int x2), .unset, .unset, .unset, .unset, .unset, .unset, .unset, .unset, .unset, .unset, .unset, .unset, .unset, .unset] [] := by first | (simp [entryFrame, mkF, argsToLocals, Value.category, maxLocals]; done) | rfl
def own_f0l (i0 : Int32) (i1 : Int32) (i2 : Int32) (cs : Int32) : Int32 :=
  if (own_j0l_11_S0 i0 i1 i2 cs) = (0 : Int32) then
    if (own_j0l_23_S0 i0 i1 i2 cs) = (0 : Int32) then
      if (own_j0l_36_S0 i0 i1 i2 cs) = (0 : Int32) then
        if (own_j0l_50_S0 i0 i1 i2 cs) = (0 : Int32) then
          (1 : Int32)
        else
          (1 : Int32)
      else
        if (own_j0l_50_S0 i0 i1 i2 cs) = (0 : Int32) then
          (1 : Int32)
        else
          (1 : Int32)
    else
      if (own_j0l_36_S0 i0 i1 i2 cs) = (0 : Int32) then
        if (own_j0l_50_S0 i0 i1 i2 cs) = (0 : Int32) then
          (1 : Int32)
        else
          (1 : Int32)
      else
        if (own_j0l_50_S0 i0 i1 i2 cs) = (0 : Int32) then
          (1 : Int32)
        else
          (1 : Int32)
  else
    if (own_j0l_23_S0 i0 i1 i2 cs) = (0 : Int32) then
      if (own_j0l_36_S0 i0 i1 i2 cs) = (0 : Int32) then
        if (own_j0l_50_S0 i0 i1 i2 cs) = (0 : Int32) then
          (1 : Int32)
        else
          (1 : Int32)
      else
        if (own_j0l_50_S0 i0 i1 i2 cs) = (0 : Int32) then
          (1 : Int32)
        else
          (1 : Int32)
    else
      if (own_j0l_36_S0 i0 i1 i2 cs) = (0 : Int32) then
        if (own_j0l_50_S0 i0 i1 i2 cs) = (0 : Int32) then
          (1 : Int32)
        else
          (1 : Int32)
      else
        if (own_j0l_50_S0 i0 i1 i2 cs) = (0 : Int32) then
          (1 : Int32)
        else
          (1 : Int32)
def own_Q0l (Z : State) (i0 : Int32) (i1 : Int32) (i2 : Int32) (cs : Int32) (fmt : Value) (h0 : Heap) (n0 : Nat) (v : Option Value) (h : Heap) (L : List Loc) : Prop := v = some (.int (own_f0l i0 i1 i2 cs)) ∧ Fr n0 L ∧ Keep h0 h []
set_option maxRecDepth 65536 in
set_option maxHeartbeats 40000000 in
theorem own_rm0l (l : Launch) (Z : State) (a0 : Array Value) (hw : ∀ d ∈ tables_1, d.before a0 Z = true) (ws : List Jvm.Cond) (i0 : Int32) (i1 : Int32) (i2 : Int32) (cs : Int32) (fmt : Value) (h0 : Heap) (n0 : Nat) (Z0 : n0 ≤ h0.size) (Od : Old Z n0 h0) (hcs : Sta Z Z.heap own_s2 "COMPACT_STRINGS" "Z" (.int cs)) (hcsn : ¬ cs = (0 : Int32)) (zfm : Sta Z Z.heap own_s8 "SIOOBE_FORMATTER" own_s9 fmt) (hfm : fmt.isRef = true) (zad : Sta Z Z.heap own_s3 "$assertionsDisabled" "Z" (.int (1 : Int32))) (hN : ¬ ((i0 &&& (255 : Int32)).toUInt32.toUInt16.toUInt32.toInt32) = ((i1 &&& (255 : Int32)).toUInt32.toUInt16.toUInt32.toInt32)) (hL : ((i0 &&& (255 : Int32)).toUInt32.toUInt16.toUInt32.toInt32) < ((i1 &&& (255 : Int32)).toUInt32.toUInt16.toUInt32.toInt32)) :
    MetFree l x (head1 (Jvm.Cond.code x code maxLocals ret :: ws) room_1) (fun a U => a = #[(.int i0), (.int i1), (.int i2)] ∧ Z.Warmed39 U.vm ∧ U.heap = h0) (fun _ _ _ _ _ => True) (fun _ U o U' => ∃ v L, o = .returned v ∧ own_Q0l Z i0 i1 i2 cs fmt h0 n0 v U'.heap L ∧ FrameEnd U o U' L 8 32) := by
 refine MetFree.of_bodySF (plainFor_of_name own_pn35) hisR ?_
 intro p e s m args below meth c s₁ Bd hml0 hP hK
 obtain ⟨rfl, hZ, hh⟩ := hP
 have hx := Bd.exec
 have hby := Bd.bytes
 have hret := Bd.returns
 have hlk := BodyLoose.notSynchronized Bd
 have hml : c.maxLocals = 17 := hml0
 have hown : s.vm.findClass "com/example/quayside/quayside/core/EntriesIsEmptyPinLaw" = some m.cls := findClass_of_methodNamed Bd.named
 have hnm := (name_of_methodNamed Bd.named Bd.method).1
 have X0 : Stand p l e room_1 s m #[(.int i0), (.int i1), (.int i2)] below meth c s₁ [] 0 0 := Stand.of_body Bd
 have e0 : s₁.heap = h0 := by rw [← hh, Bd.state]; rfl
 have N0 := Fr.nil n0
 have K0 : Keep h0 h0 [] := Keep.refl h0 _
 show ownE p e below s (own_Q0l Z i0 i1 i2 cs fmt h0 n0) 8 32 s₁ (entryFrame m #[(.int i0), (.int i1), (.int i2)] maxLocals)
 rw [own_ef0l]
 refine ownE.go (f' := (mkF m 3 (own_l7 i0 i1 i2) [(.int (i2 &&& (1 : Int32)))])) (fun t kt => XS.iloadN X0.here hx rfl (hb hby at_0) rfl (XS.iconst X0.here hx rfl (hb hby at_1) (XS.iand X0.here hx rfl (hb hby at_2) rfl kt))) ?_
 have J3 : ∀ (TJ3 : State) (locsJ3 : List Loc), Stand p l e room_1 s m #[(.int i0), (.int i1), (.int i2)] below meth c TJ3 locsJ3 0 0 → TJ3.heap = h0 → Fr n0 locsJ3 → ownE p e below s (own_Q0l Z i0 i1 i2 cs fmt h0 n0) 8 32 TJ3 (mkF m 11 (own_l7 i0 i1 i2) [(.int (own_j0l_11_S0 i0 i1 i2 cs))]) := by
  intro TJ3 locsJ3 XJ3 eJ3 NJ3
  refine ownE.go (f' := (mkF m 15 (own_l24 i0 i1 i2 cs) [(.int (i2 &&& (2 : Int32)))])) (fun t kt => XS.istoreN XJ3.here hx rfl (hb hby at_11) rfl (l' := (own_l24 i0 i1 i2 cs)) rfl (XS.iloadN XJ3.here hx rfl (hb hby at_12) rfl (XS.iconst XJ3.here hx rfl (hb hby at_13) (XS.iand XJ3.here hx rfl (hb hby at_14) rfl kt)))) ?_
  have J6 : ∀ (TJ6 : State) (locsJ6 : List Loc), Stand p l e room_1 s m #[(.int i0), (.int i1), (.int i2)] below meth c TJ6 locsJ6 0 0 → TJ6.heap = h0 → Fr n0 locsJ6 → ownE p e below s (own_Q0l Z i0 i1 i2 cs fmt h0 n0) 8 32 TJ6 (mkF m 23 (own_l24 i0 i1 i2 cs) [(.int (own_j0l_23_S0 i0 i1 i2 cs))]) := by
   intro TJ6 locsJ6 XJ6 eJ6 NJ6
   refine ownE.go (f' := (mkF m 28 (own_l25 i0 i1 i2 cs) [(.int (i2 &&& (4 : Int32)))])) (fun t kt => XS.istore XJ6.here hx rfl (hb hby at_23) rfl (l' := (own_l25 i0 i1 i2 cs)) rfl (XS.iloadN XJ6.here hx rfl (hb hby at_25) rfl (XS.iconst XJ6.here hx rfl (hb hby at_26) (XS.iand XJ6.here hx rfl (hb hby at_27) rfl kt)))) ?_
   have J9 : ∀ (TJ9 : State) (locsJ9 : List Loc), Stand p l e room_1 s m #[(.int i0), (.int i1), (.int i2)] below meth c TJ9 locsJ9 0 0 → TJ9.heap = h0 → Fr n0 locsJ9 → ownE p e below s (own_Q0l Z i0 i1 i2 cs fmt h0 n0) 8 32 TJ9 (mkF m 36 (own_l25 i0 i1 i2 cs) [(.int (own_j0l_36_S0 i0 i1 i2 cs))]) := by
    intro TJ9 locsJ9 XJ9 eJ9 NJ9
    refine ownE.go (f' := (mkF m 42 (own_l26 i0 i1 i2 cs) [(.int (i2 &&& (8 : Int32)))])) (fun t kt => XS.istore XJ9.here hx rfl (hb hby at_36) rfl (l' := (own_l26 i0 i1 i2 cs)) rfl (XS.iloadN XJ9.here hx rfl (hb hby at_38) rfl (XS.bipush XJ9.here hx rfl (hb hby at_39) (XS.iand XJ9.here hx rfl (hb hby at_41) rfl kt)))) ?_
    have J12 : ∀ (TJ12 : State) (locsJ12 : List Loc), Stand p l e room_1 s m #[(.int i0), (.int i1), (.int i2)] below meth c TJ12 locsJ12 0 0 → TJ12.heap = h0 → Fr n0 locsJ12 → ownE p e below s (own_Q0l Z i0 i1 i2 cs fmt h0 n0) 8 32 TJ12 (mkF m 50 (own_l26 i0 i1 i2 cs) [(.int (own_j0l_50_S0 i0 i1 i2 cs))]) := by
     intro TJ12 locsJ12 XJ12 eJ12 NJ12
     refine ownE.go (f' := (mkF m 70 (own_l29 i0 i1 i2 cs) [(.int ((i0 &&& (255 : Int32)).toUInt32.toUInt16.toUInt32.toInt32))])) (fun t kt => XS.istore XJ12.here hx rfl (hb hby at_50) rfl (l' := (own_l27 i0 i1 i2 cs)) rfl (XS.iloadN XJ12.here hx rfl (hb hby at_52) rfl (XS.sipush XJ12.here hx rfl (hb hby at_53) (XS.iand XJ12.here hx rfl (hb hby at_56) rfl (XS.i2c XJ12.here hx rfl (hb hby at_57) rfl (XS.istore XJ12.here hx rfl (hb hby at_58) rfl (l' := (own_l28 i0 i1 i2 cs)) rfl (XS.iloadN XJ12.here hx rfl (hb hby at_60) rfl (XS.sipush XJ12.here hx rfl (hb hby at_61) (XS.iand XJ12.here hx rfl (hb hby at_64) rfl (XS.i2c XJ12.here hx rfl (hb hby at_65) rfl (XS.istore XJ12.here hx rfl (hb hby at_66) rfl (l' := (own_l29 i0 i1 i2 cs)) rfl (XS.iload XJ12.here hx rfl (hb hby at_68) rfl kt)))))))))))) ?_
     obtain ⟨_, _, ⟨T13, L13, k13, n13⟩, -, X13, ⟨Lc13, hQ13, l13, y13, z13⟩, st13⟩ := Jvm.LawKit.callS XJ12 hx (y := own_y3) hown (mvT hZ (own_w hw 0 rfl)) (mvT hZ (own_w hw 1 rfl)) (mvT hZ (own_w hw 2 rfl)) (mvT hZ (own_w hw 3 rfl)) (by decide) (backOf (W := 0) (own_rm1 l Z a0 hw [] ((i0 &&& (255 : Int32)).toUInt32.toUInt16.toUInt32.toInt32) cs h0 n0 (Nat.le_trans Z0 K0.1) Od hcs hcsn (own_ch i0)) hZ (own_w hw 3 rfl) (own_w hw 2 rfl) (by decide) (by decide)) (g := (mkF m 70 (own_l29 i0 i1 i2 cs) [(.int ((i0 &&& (255 : Int32)).toUInt32.toUInt16.toUInt32.toInt32))])) rfl (by rw [hml]; rfl) (argsL := [(.int ((i0 &&& (255 : Int32)).toUInt32.toUInt16.toUInt32.toInt32))]) (rest := []) (lenOf own_pd31 rfl) rfl (Nat.le_of_eq rfl) (hb hby at_70) (fun _ _ => ⟨rfl, eJ12, (by decide : 0 + 2 ≤ _), (by decide : 0 + 5 ≤ _)⟩)
     dsimp only [Pt.U, Pt.locs, Pt.cells, Pt.slots] at X13 l13 y13 z13 st13 hQ13
     subst l13 y13 z13
     obtain ⟨sb_13, vb_13, kb_13, rfl, N13q, K13q, f13_0, f13_1, f13_2, f13_3, f13_4, f13_5, f13_6⟩ := hQ13
     have q623 := Od.keep K13q all0
     have K13 : Keep h0 T13.heap [] := K0.trans K13q all0
     have sz_sb_13 : h0.size ≤ sb_13 := Nat.le_trans K0.1 f13_0
     have ge_sb_13 : n0 ≤ sb_13 := Nat.le_trans Z0 sz_sb_13
     have sz_vb_13 : h0.size ≤ vb_13 := Nat.le_trans K0.1 f13_1
     have ge_vb_13 : n0 ≤ vb_13 := Nat.le_trans Z0 sz_vb_13
     have N13 := Fr.app NJ12 N13q
     refine ownE.go st13 ?_
     refine ownE.go (f' := (mkF m 77 (own_l30 i0 i1 i2 cs sb_13) [(.int ((i1 &&& (255 : Int32)).toUInt32.toUInt16.toUInt32.toInt32))])) (fun t kt => XS.astore X13.here hx rfl (hb hby at_73) rfl rfl (l' := (own_l30 i0 i1 i2 cs sb_13)) rfl (XS.iload X13.here hx rfl (hb hby at_75) rfl kt)) ?_
     obtain ⟨_, _, ⟨T14, L14, k14, n14⟩, -, X14, ⟨Lc14, hQ14, l14, y14, z14⟩, st14⟩ := Jvm.LawKit.callS X13 hx (y := own_y3) hown (mvT hZ (own_w hw 0 rfl)) (mvT hZ (own_w hw 1 rfl)) (mvT hZ (own_w hw 2 rfl)) (mvT hZ (own_w hw 3 rfl)) (by decide) (backOf (W := 0) (own_rm1 l Z a0 hw [] ((i1 &&& (255 : Int32)).toUInt32.toUInt16.toUInt32.toInt32) cs T13.heap n0 (Nat.le_trans Z0 K13.1) q623 hcs hcsn (own_ch i1)) hZ (own_w hw 3 rfl) (own_w hw 2 rfl) (by decide) (by decide)) (g := (mkF m 77 (own_l30 i0 i1 i2 cs sb_13) [(.int ((i1 &&& (255 : Int32)).toUInt32.toUInt16.toUInt32.toInt32))])) rfl (by rw [hml]; rfl) (argsL := [(.int ((i1 &&& (255 : Int32)).toUInt32.toUInt16.toUInt32.toInt32))]) (rest := []) (lenOf own_pd31 rfl) rfl (Nat.le_of_eq rfl) (hb hby at_77) (fun _ _ => ⟨rfl, rfl, (by decide : 2 + 2 ≤ _), (by decide : 5 + 5 ≤ _)⟩)
     dsimp only [Pt.U, Pt.locs, Pt.cells, Pt.slots] at X14 l14 y14 z14 st14 hQ14
     subst l14 y14 z14
     obtain ⟨sb_14, vb_14, kb_14, rfl, N14q, K14q, f14_0, f14_1, f14_2, f14_3, f14_4, f14_5, f14_6⟩ := hQ14
     have ne_sb_13_sb_14 : sb_13 ≠ sb_14 := Nat.ne_of_lt (Nat.lt_of_lt_of_le f13_2.lt f14_0)
     have ne_vb_13_sb_14 : vb_13 ≠ sb_14 := Nat.ne_of_lt (Nat.lt_of_lt_of_le f13_5.lt f14_0)
     have ne_sb_13_vb_14 : sb_13 ≠ vb_14 := Nat.ne_of_lt (Nat.lt_of_lt_of_le f13_2.lt f14_1)
     have ne_vb_13_vb_14 : vb_13 ≠ vb_14 := Nat.ne_of_lt (Nat.lt_of_lt_of_le f13_5.lt f14_1)
     have q624 := q623.keep K14q all0
     have q625 := f13_2.keep K14q
     have q626 := f13_3.keep K14q nin0
     have q627 := f13_4.keep K14q nin0
     have q628 := f13_5.keep K14q nin0
     have K14 : Keep h0 T14.heap [] := K13.trans K14q all0
     have sz_sb_14 : h0.size ≤ sb_14 := Nat.le_trans K13.1 f14_0
     have ge_sb_14 : n0 ≤ sb_14 := Nat.le_trans Z0 sz_sb_14
     have sz_vb_14 : h0.size ≤ vb_14 := Nat.le_trans K13.1 f14_1
     have ge_vb_14 : n0 ≤ vb_14 := Nat.le_trans Z0 sz_vb_14
     have N14 := Fr.app N13 N14q
     refine ownE.go st14 ?_
     refine ownE.go (f' := (mkF m 96 (own_l32 i0 i1 i2 cs sb_13 sb_14) [])) (fun t kt => XS.astore X14.here hx rfl (hb hby at_80) rfl rfl (l' := (own_l31 i0 i1 i2 cs sb_13 sb_14)) rfl (XS.iload X14.here hx rfl (hb hby at_82) rfl (XS.iload X14.here hx rfl (hb hby at_84) rfl (XS.icmpYes X14.here hx rfl (pc0 := 86) (pc' := 93) rfl (hb hby at_86) rfl (Jvm.Free.XT.ii_ne_t hN) (by decide) (by decide) (XS.iconst X14.here hx rfl (hb hby at_93) (XS.istore X14.here hx rfl (hb hby at_94) rfl (l' := (own_l32 i0 i1 i2 cs sb_13 sb_14)) rfl kt)))))) ?_
     obtain ⟨T15, h15, X15, e15, E15, A15, D15, -, st15⟩ := newO X14 hx hZ hown (own_w hw 26 rfl) (own_w hw 27 rfl) (own_w hw 28 rfl) rfl (g := (mkF m 96 (own_l32 i0 i1 i2 cs sb_13 sb_14) [])) rfl (hb hby at_96) (by decide) (by decide)
     obtain ⟨b15, g15⟩ : ∃ z, z = T14.heap.size := ⟨_, rfl⟩
     rw [← g15] at A15 D15 st15
     have ne_sb_13_b15 : sb_13 ≠ b15 := Nat.ne_of_lt (Nat.lt_of_lt_of_le q625.lt (Nat.le_of_eq g15.symm))
     have ne_vb_13_b15 : vb_13 ≠ b15 := Nat.ne_of_lt (Nat.lt_of_lt_of_le q628.lt (Nat.le_of_eq g15.symm))
     have ne_sb_14_b15 : sb_14 ≠ b15 := Nat.ne_of_lt (Nat.lt_of_lt_of_le f14_2.lt (Nat.le_of_eq g15.symm))
     have ne_vb_14_b15 : vb_14 ≠ b15 := Nat.ne_of_lt (Nat.lt_of_lt_of_le f14_5.lt (Nat.le_of_eq g15.symm))
     have sz_b15 : h0.size ≤ b15 := Nat.le_trans K14.1 (Nat.le_of_eq g15.symm)
     have ge_b15 : n0 ≤ b15 := Nat.le_trans Z0 sz_b15
     have q629 := q624.ext E15
     have q630 := q625.ext E15
     have q631 := q626.ext E15
     have q632 := q627.ext E15
     have q633 := q628.ext E15
     have q634 := f14_2.ext E15
     have q635 := f14_3.ext E15
     have q636 := f14_4.ext E15
     have q637 := f14_5.ext E15
     have D15_root : Fld Z h15 b15 own_s3 "root" own_s1 .null := D15 (Or.inl (own_w hw 71 rfl)) (ty := (.object own_s0)) (by decide)
     have K15 : Keep h0 h15 [] := K14.ext E15
     refine ownE.go st15 ?_
     refine ownE.go (f' := (mkF m 100 (own_l32 i0 i1 i2 cs sb_13 sb_14) [(.ref b15), (.ref b15)])) (fun t kt => XS.dup X15.here hx rfl (hb hby at_99) rfl rfl kt) ?_
     obtain ⟨_, _, ⟨T16, L16, k16, n16⟩, -, X16, ⟨Lc16, hQ16, l16, y16, z16⟩, st16⟩ := X15.specialBack hx (y := own_y4) rfl hown (mvT hZ (own_w hw 29 rfl)) (mvT hZ (own_w hw 30 rfl)) (mvT hZ (own_w hw 31 rfl)) (by decide) (backOf (W := 1) (own_rm6 l Z a0 hw [] b15 h15 n0 (Nat.le_trans Z0 K15.1) ) hZ (own_w hw 31 rfl) (own_w hw 28 rfl) (by decide) (by decide)) (g := (mkF m 100 (own_l32 i0 i1 i2 cs sb_13 sb_14) [(.ref b15), (.ref b15)])) rfl (by rw [hml]; rfl) (Steps.refl _) (a := b15) (argsL := []) (rest := [(.ref b15)]) (lenOf own_pd32 rfl) rfl (Nat.le_of_eq rfl) (hb hby at_100) (fun _ _ => ⟨rfl, e15, (by decide : 5 + 0 ≤ _), (by decide : 11 + 0 ≤ _)⟩)
     dsimp only [Pt.U, Pt.locs, Pt.cells, Pt.slots] at X16 l16 y16 z16 st16 hQ16
     subst l16 y16 z16
     obtain ⟨rfl, N16q, e16⟩ := hQ16
     have N16 := Fr.app N14 N16q
     refine ownE.goS st16 ?_
     refine ownE.go (f' := (mkF m 105 (own_l33 i0 i1 i2 cs sb_13 sb_14 b15) [])) (fun t kt => XS.astore X16.here hx rfl (hb hby at_103) rfl rfl (l' := (own_l33 i0 i1 i2 cs sb_13 sb_14 b15)) rfl kt) ?_
     obtain ⟨T17, h17, X17, e17, E17, A17, D17, -, st17⟩ := newO X16 hx hZ hown (own_w hw 33 rfl) (own_w hw 34 rfl) (own_w hw 35 rfl) e16 (g := (mkF m 105 (own_l33 i0 i1 i2 cs sb_13 sb_14 b15) [])) rfl (hb hby at_105) (by decide) (by decide)
     obtain ⟨b17, g17⟩ : ∃ z, z = h15.size := ⟨_, rfl⟩
     rw [← g17] at A17 D17 st17
     have ne_sb_13_b17 : sb_13 ≠ b17 := Nat.ne_of_lt (Nat.lt_of_lt_of_le q630.lt (Nat.le_of_eq g17.symm))
     have ne_vb_13_b17 : vb_13 ≠ b17 := Nat.ne_of_lt (Nat.lt_of_lt_of_le q633.lt (Nat.le_of_eq g17.symm))
     have ne_sb_14_b17 : sb_14 ≠ b17 := Nat.ne_of_lt (Nat.lt_of_lt_of_le q634.lt (Nat.le_of_eq g17.symm))
     have ne_vb_14_b17 : vb_14 ≠ b17 := Nat.ne_of_lt (Nat.lt_of_lt_of_le q637.lt (Nat.le_of_eq g17.symm))
     have ne_b15_b17 : b15 ≠ b17 := Nat.ne_of_lt (Nat.lt_of_lt_of_le A15.lt (Nat.le_of_eq g17.symm))
     have sz_b17 : h0.size ≤ b17 := Nat.le_trans K15.1 (Nat.le_of_eq g17.symm)
     have ge_b17 : n0 ≤ b17 := Nat.le_trans Z0 sz_b17
     have q638 := q629.ext E17
     have q639 := q630.ext E17
     have q640 := q631.ext E17
     have q641 := q632.ext E17
     have q642 := q633.ext E17
     have q643 := q634.ext E17
     have q644 := q635.ext E17
     have q645 := q636.ext E17
     have q646 := q637.ext E17
     have q647 := A15.ext E17
     have q648 := D15_root.ext E17
     have D17_id : Fld Z h17 b17 own_s4 "id" "J" (.long (0 : Int64)) := D17 (Or.inr (own_w hw 46 rfl)) (ty := .long) (by decide)
     have D17_owner : Fld Z h17 b17 own_s4 "owner" own_s7 .null := D17 (Or.inl (own_w hw 48 rfl)) (ty := (.object own_s2)) (by decide)
     have D17_group : Fld Z h17 b17 own_s4 "group" own_s7 .null := D17 (Or.inl (own_w hw 50 rfl)) (ty := (.object own_s2)) (by decide)
     have D17_permission : Fld Z h17 b17 own_s4 "permission" "I" (.int (0 : Int32)) := D17 (Or.inl (own_w hw 52 rfl)) (ty := .int) (by decide)
     have D17_modificationTime : Fld Z h17 b17 own_s4 "modificationTime" "J" (.long (0 : Int64)) := D17 (Or.inl (own_w hw 54 rfl)) (ty := .long) (by decide)
     have D17_accessTime : Fld Z h17 b17 own_s4 "accessTime" "J" (.long (0 : Int64)) := D17 (Or.inl (own_w hw 56 rfl)) (ty := .long) (by decide)
     have D17_length : Fld Z h17 b17 own_s6 "length" "J" (.long (0 : Int64)) := D17 (Or.inl (own_w hw 58 rfl)) (ty := .long) (by decide)
     have D17_blockSize : Fld Z h17 b17 own_s6 "blockSize" "J" (.long (0 : Int64)) := D17 (Or.inr (own_w hw 60 rfl)) (ty := .long) (by decide)
     have D17_replication : Fld Z h17 b17 own_s6 "replication" "I" (.int (0 : Int32)) := D17 (Or.inl (own_w hw 62 rfl)) (ty := .int) (by decide)
     have D17_blob : Fld Z h17 b17 own_s6 "blob" "J" (.long (0 : Int64)) := D17 (Or.inr (own_w hw 64 rfl)) (ty := .long) (by decide)
     have K17 : Keep h0 h17 [] := K15.ext E17
     refine ownE.go st17 ?_
     refine ownE.go (f' := (mkF m 118 (own_l33 i0 i1 i2 cs sb_13 sb_14 b15) [(.long (0 : Int64)), (.int (0 : Int32)), (.long (0 : Int64)), (.long (0 : Int64)), (.long (0 : Int64)), (.int (0 : Int32)), .null, .null, (.long (1 : Int64)), (.ref b17), (.ref b17)])) (fun t kt => XS.dup X17.here hx rfl (hb hby at_108) rfl rfl (XS.lconst X17.here hx rfl (hb hby at_109) (XS.aconstNull X17.here hx rfl (hb hby at_110) (XS.aconstNull X17.here hx rfl (hb hby at_111) (XS.iconst X17.here hx rfl (hb hby at_112) (XS.lconst X17.here hx rfl (hb hby at_113) (XS.lconst X17.here hx rfl (hb hby at_114) (XS.lconst X17.here hx rfl (hb hby at_115) (XS.iconst X17.here hx rfl (hb hby at_116) (XS.lconst X17.here hx rfl (hb hby at_117) kt)))))))))) ?_
     obtain ⟨_, _, ⟨T18, L18, k18, n18⟩, -, X18, ⟨Lc18, hQ18, l18, y18, z18⟩, st18⟩ := X17.specialBack hx (y := own_y6) rfl hown (mvT hZ (own_w hw 36 rfl)) (mvT hZ (own_w hw 37 rfl)) (mvT hZ (own_w hw 38 rfl)) (by decide) (backOf (W := 1) (own_rm7 l Z a0 hw [] b17 (1 : Int64) (0 : Int32) (0 : Int64) (0 : Int64) (0 : Int64) (0 : Int32) (0 : Int64) h17 n0 (Nat.le_trans Z0 K17.1) D17_id D17_owner D17_group D17_permission D17_modificationTime D17_accessTime D17_length D17_blockSize D17_replication D17_blob A17 ge_b17) hZ (own_w hw 38 rfl) (own_w hw 35 rfl) (by decide) (by decide)) (g := (mkF m 118 (own_l33 i0 i1 i2 cs sb_13 sb_14 b15) [(.long (0 : Int64)), (.int (0 : Int32)), (.long (0 : Int64)), (.long (0 : Int64)), (.long (0 : Int64)), (.int (0 : Int32)), .null, .null, (.long (1 : Int64)), (.ref b17), (.ref b17)])) rfl (by rw [hml]; rfl) (Steps.refl _) (a := b17) (argsL := [(.long (1 : Int64)), .null, .null, (.int (0 : Int32)), (.long (0 : Int64)), (.long (0 : Int64)), (.long (0 : Int64)), (.int (0 : Int32)), (.long (0 : Int64))]) (rest := [(.ref b17)]) (lenOf own_pd33 rfl) rfl (Nat.le_of_eq rfl) (hb hby at_118) (fun _ _ => ⟨rfl, e17, (by decide : 6 + 0 ≤ _), (by decide : 22 + 0 ≤ _)⟩)
     dsimp only [Pt.U, Pt.locs, Pt.cells, Pt.slots] at X18 l18 y18 z18 st18 hQ18
     subst l18 y18 z18
     obtain ⟨rfl, N18q, K18q, f18_0⟩ := hQ18
     have q649 := q638.keep K18q (allS ge_b17 all0)
     have q650 := q639.keep K18q
     have q651 := q640.keep K18q (ninS ne_sb_13_b17 nin0)
     have q652 := q641.keep K18q (ninS ne_sb_13_b17 nin0)
     have q653 := q642.keep K18q (ninS ne_vb_13_b17 nin0)
     have q654 := q643.keep K18q
     have q655 := q644.keep K18q (ninS ne_sb_14_b17 nin0)
     have q656 := q645.keep K18q (ninS ne_sb_14_b17 nin0)
     have q657 := q646.keep K18q (ninS ne_vb_14_b17 nin0)
     have q658 := q647.keep K18q
     have q659 := q648.keep K18q (ninS ne_b15_b17 nin0)
     have q660 := A17.keep K18q
     have K18 : Keep h0 T18.heap [] := K17.trans K18q (allS (Or.inr sz_b17) all0)
     have N18 := Fr.app N16 N18q
     refine ownE.goS st18 ?_
     refine ownE.go (f' := (mkF m 125 (own_l34 i0 i1 i2 cs sb_13 sb_14 b15 b17) [(.ref b15)])) (fun t kt => XS.astore X18.here hx rfl (hb hby at_121) rfl rfl (l' := (own_l34 i0 i1 i2 cs sb_13 sb_14 b15 b17)) rfl (XS.aload X18.here hx rfl (hb hby at_123) rfl rfl kt)) ?_
     obtain ⟨cq19, kq19, q19a, q19b, q19c⟩ := isOf hZ rfl q658
     obtain ⟨_, _, ⟨T19, L19, k19, n19⟩, -, X19, ⟨Lc19, hQ19, l19, y19, z19⟩, st19⟩ := X18.virtualBack hx (y := own_y27) (z := own_y27) hown (mvT hZ (own_w hw 65 rfl)) (mvT hZ (own_w hw 66 rfl)) (notFace_of_selects (args := #[]) (mvT hZ (own_w hw 68 rfl))) (mvT hZ (own_w hw 68 rfl)) (mvT hZ (own_w hw 67 rfl)) (by decide) (backOf (W := 0) (own_rm90 l Z a0 hw [] b15 T18.heap n0 (Nat.le_trans Z0 K18.1) q658 q659) hZ (own_w hw 69 rfl) (own_w hw 28 rfl) (by decide) (by decide)) q19a q19c (g := (mkF m 125 (own_l34 i0 i1 i2 cs sb_13 sb_14 b15 b17) [(.ref b15)])) rfl (by rw [hml]; rfl) (Steps.refl _) (argsL := []) (rest := []) (lenOf own_pd16 rfl) rfl (Nat.le_of_eq rfl) (hb hby at_125) (fun _ _ => ⟨rfl, rfl, (by decide : 6 + 0 ≤ _), (by decide : 22 + 0 ≤ _)⟩)
     dsimp only [Pt.U, Pt.locs, Pt.cells, Pt.slots] at X19 l19 y19 z19 st19 hQ19
     subst l19 y19 z19
     obtain ⟨rfl, N19q, e19⟩ := hQ19
     have N19 := Fr.app N18 N19q
     refine ownE.goS st19 ?_
     refine ownE.go (f' := (mkF m 131 (own_l35 i0 i1 i2 cs sb_13 sb_14 b15 b17) [(.int (own_j0l_11_S0 i0 i1 i2 cs))])) (fun t kt => XS.istore X19.here hx rfl (hb hby at_128) rfl (l' := (own_l35 i0 i1 i2 cs sb_13 sb_14 b15 b17)) rfl (XS.iloadN X19.here hx rfl (hb hby at_130) rfl kt)) ?_
     by_cases hc20 : (own_j0l_11_S0 i0 i1 i2 cs) = (0 : Int32)
     · -- pc 131
      refine ownE.go (T' := T19) (f' := (mkF m 144 (own_l35 i0 i1 i2 cs sb_13 sb_14 b15 b17) [])) (fun t kt => XS.ifYes (g := (mkF m 131 (own_l35 i0 i1 i2 cs sb_13 sb_14 b15 b17) [(.int (own_j0l_11_S0 i0 i1 i2 cs))])) X19.here hx rfl (pc0 := 131) (pc' := 144) rfl (hb hby at_131) rfl (Jvm.Free.XT.i0_eq_t hc20) (by decide) (by decide) kt) ?_
      refine ownE.go (f' := (mkF m 146 (own_l35 i0 i1 i2 cs sb_13 sb_14 b15 b17) [(.int (own_j0l_23_S0 i0 i1 i2 cs))])) (fun t kt => XS.iload X19.here hx rfl (hb hby at_144) rfl kt) ?_
      by_cases hc21 : (own_j0l_23_S0 i0 i1 i2 cs) = (0 : Int32)
      · -- pc 146
       refine ownE.go (T' := T19) (f' := (mkF m 159 (own_l35 i0 i1 i2 cs sb_13 sb_14 b15 b17) [])) (fun t kt => XS.ifYes (g := (mkF m 146 (own_l35 i0 i1 i2 cs sb_13 sb_14 b15 b17) [(.int (own_j0l_23_S0 i0 i1 i2 cs))])) X19.here hx rfl (pc0 := 146) (pc' := 159) rfl (hb hby at_146) rfl (Jvm.Free.XT.i0_eq_t hc21) (by decide) (by decide) kt) ?_
       refine ownE.go (f' := (mkF m 204 (own_l37 i0 i1 i2 cs sb_13 sb_14 b15 b17) [(.ref b15)])) (fun t kt => XS.iloadN X19.here hx rfl (hb hby at_159) rfl (XS.ifNo X19.here hx rfl (hb hby at_160) rfl (Jvm.Free.XT.i0_ne_f hc20) (XS.iload X19.here hx rfl (hb hby at_163) rfl (XS.ifYes X19.here hx rfl (pc0 := 165) (pc' := 177) rfl (hb hby at_165) rfl (Jvm.Free.XT.i0_eq_t hc21) (by decide) (by decide) (XS.iconst X19.here hx rfl (hb hby at_177) (XS.istore X19.here hx rfl (hb hby at_178) rfl (l' := (own_l36 i0 i1 i2 cs sb_13 sb_14 b15 b17)) rfl (XS.iload X19.here hx rfl (hb hby at_180) rfl (XS.ifYes X19.here hx rfl (pc0 := 182) (pc' := 194) rfl (hb hby at_182) rfl (Jvm.Free.XT.i0_eq_t hc21) (by decide) (by decide) (XS.iconst X19.here hx rfl (hb hby at_194) (XS.istore X19.here hx rfl (hb hby at_195) rfl (l' := (own_l37 i0 i1 i2 cs sb_13 sb_14 b15 b17)) rfl (XS.iload X19.here hx rfl (hb hby at_197) rfl (XS.ifNo X19.here hx rfl (hb hby at_199) rfl (Jvm.Free.XT.i0_eq_f (by decide)) (XS.aload X19.here hx rfl (hb hby at_202) rfl rfl kt))))))))))))) ?_
       obtain ⟨cq22, kq22, q22a, q22b, q22c⟩ := isOf hZ e19 q658
       obtain ⟨_, _, ⟨T22, L22, k22, n22⟩, -, X22, ⟨Lc22, hQ22, l22, y22, z22⟩, st22⟩ := X19.virtualBack hx (y := own_y27) (z := own_y27) hown (mvT hZ (own_w hw 65 rfl)) (mvT hZ (own_w hw 66 rfl)) (notFace_of_selects (args := #[]) (mvT hZ (own_w hw 68 rfl))) (mvT hZ (own_w hw 68 rfl)) (mvT hZ (own_w hw 67 rfl)) (by decide) (backOf (W := 0) (own_rm90 l Z a0 hw [] b15 T18.heap n0 (Nat.le_trans Z0 K18.1) q658 q659) hZ (own_w hw 69 rfl) (own_w hw 28 rfl) (by decide) (by decide)) q22a q22c (g := (mkF m 204 (own_l37 i0 i1 i2 cs sb_13 sb_14 b15 b17) [(.ref b15)])) rfl (by rw [hml]; rfl) (Steps.refl _) (argsL := []) (rest := []) (lenOf own_pd16 rfl) rfl (Nat.le_of_eq rfl) (hb hby at_204) (fun _ _ => ⟨rfl, e19, (by decide : 6 + 0 ≤ _), (by decide : 22 + 0 ≤ _)⟩)
       dsimp only [Pt.U, Pt.locs, Pt.cells, Pt.slots] at X22 l22 y22 z22 st22 hQ22
       subst l22 y22 z22
       obtain ⟨rfl, N22q, e22⟩ := hQ22
       have N22 := Fr.app N19 N22q
       refine ownE.goS st22 ?_
       refine ownE.go (f' := (mkF m 234 (own_l37 i0 i1 i2 cs sb_13 sb_14 b15 b17) [(.int (own_j0l_36_S0 i0 i1 i2 cs))])) (fun t kt => XS.iload X22.here hx rfl (hb hby at_207) rfl (XS.ifNo X22.here hx rfl (hb hby at_209) rfl (Jvm.Free.XT.i0_ne_f (by decide)) (XS.iload X22.here hx rfl (hb hby at_212) rfl (XS.ifNo X22.here hx rfl (hb hby at_214) rfl (Jvm.Free.XT.i0_ne_f (by decide)) (XS.iconst X22.here hx rfl (hb hby at_217) (XS.goto X22.here hx rfl (pc0 := 218) (pc' := 222) rfl (hb hby at_218) (by decide) (by decide) (XS.icmpNo X22.here hx rfl (hb hby at_222) rfl (Jvm.Free.XT.ii_ne_f (by decide)) (XS.iconst X22.here hx rfl (hb hby at_225) (XS.goto X22.here hx rfl (pc0 := 226) (pc' := 230) rfl (hb hby at_226) (by decide) (by decide) (XS.istore X22.here hx rfl (hb hby at_230) rfl (l' := (own_l37 i0 i1 i2 cs sb_13 sb_14 b15 b17)) rfl (XS.iload X22.here hx rfl (hb hby at_232) rfl kt))))))))))) ?_
       by_cases hc23 : (own_j0l_36_S0 i0 i1 i2 cs) = (0 : Int32)
       · -- pc 234
        refine ownE.go (T' := T22) (f' := (mkF m 248 (own_l37 i0 i1 i2 cs sb_13 sb_14 b15 b17) [])) (fun t kt => XS.ifYes (g := (mkF m 234 (own_l37 i0 i1 i2 cs sb_13 sb_14 b15 b17) [(.int (own_j0l_36_S0 i0 i1 i2 cs))])) X22.here hx rfl (pc0 := 234) (pc' := 248) rfl (hb hby at_234) rfl (Jvm.Free.XT.i0_eq_t hc23) (by decide) (by decide) kt) ?_
        refine ownE.go (f' := (mkF m 250 (own_l37 i0 i1 i2 cs sb_13 sb_14 b15 b17) [(.int (own_j0l_50_S0 i0 i1 i2 cs))])) (fun t kt => XS.iload X22.here hx rfl (hb hby at_248) rfl kt) ?_
        by_cases hc24 : (own_j0l_50_S0 i0 i1 i2 cs) = (0 : Int32)
        · -- pc 250
         refine ownE.go (T' := T22) (f' := (mkF m 275 (own_l37 i0 i1 i2 cs sb_13 sb_14 b15 b17) [])) (fun t kt => XS.ifYes (g := (mkF m 250 (own_l37 i0 i1 i2 cs sb_13 sb_14 b15 b17) [(.int (own_j0l_50_S0 i0 i1 i2 cs))])) X22.here hx rfl (pc0 := 250) (pc' := 275) rfl (hb hby at_250) rfl (Jvm.Free.XT.i0_eq_t hc24) (by decide) (by decide) kt) ?_
         refine ownE.go (f' := (mkF m 282 (own_l37 i0 i1 i2 cs sb_13 sb_14 b15 b17) [(.ref b15)])) (fun t kt => XS.iload X22.here hx rfl (hb hby at_275) rfl (XS.ifNo X22.here hx rfl (hb hby at_277) rfl (Jvm.Free.XT.i0_eq_f (by decide)) (XS.aload X22.here hx rfl (hb hby at_280) rfl rfl kt))) ?_
         obtain ⟨cq25, kq25, q25a, q25b, q25c⟩ := isOf hZ e22 q658
         obtain ⟨_, _, ⟨T25, L25, k25, n25⟩, -, X25, ⟨Lc25, hQ25, l25, y25, z25⟩, st25⟩ := X22.virtualBack hx (y := own_y27) (z := own_y27) hown (mvT hZ (own_w hw 65 rfl)) (mvT hZ (own_w hw 66 rfl)) (notFace_of_selects (args := #[]) (mvT hZ (own_w hw 68 rfl))) (mvT hZ (own_w hw 68 rfl)) (mvT hZ (own_w hw 67 rfl)) (by decide) (backOf (W := 0) (own_rm90 l Z a0 hw [] b15 T18.heap n0 (Nat.le_trans Z0 K18.1) q658 q659) hZ (own_w hw 69 rfl) (own_w hw 28 rfl) (by decide) (by decide)) q25a q25c (g := (mkF m 282 (own_l37 i0 i1 i2 cs sb_13 sb_14 b15 b17) [(.ref b15)])) rfl (by rw [hml]; rfl) (Steps.refl _) (argsL := []) (rest := []) (lenOf own_pd16 rfl) rfl (Nat.le_of_eq rfl) (hb hby at_282) (fun _ _ => ⟨rfl, e22, (by decide : 6 + 0 ≤ _), (by decide : 22 + 0 ≤ _)⟩)
         dsimp only [Pt.U, Pt.locs, Pt.cells, Pt.slots] at X25 l25 y25 z25 st25 hQ25
         subst l25 y25 z25
         obtain ⟨rfl, N25q, e25⟩ := hQ25
         have N25 := Fr.app N22 N25q
         refine ownE.goS st25 ?_
         refine ownE.go (f' := (mkF m 312 (own_l37 i0 i1 i2 cs sb_13 sb_14 b15 b17) [(.int (1 : Int32))])) (fun t kt => XS.iload X25.here hx rfl (hb hby at_285) rfl (XS.ifNo X25.here hx rfl (hb hby at_287) rfl (Jvm.Free.XT.i0_ne_f (by decide)) (XS.iload X25.here hx rfl (hb hby at_290) rfl (XS.ifNo X25.here hx rfl (hb hby at_292) rfl (Jvm.Free.XT.i0_ne_f (by decide)) (XS.iconst X25.here hx rfl (hb hby at_295) (XS.goto X25.here hx rfl (pc0 := 296) (pc' := 300) rfl (hb hby at_296) (by decide) (by decide) (XS.icmpNo X25.here hx rfl (hb hby at_300) rfl (Jvm.Free.XT.ii_ne_f (by decide)) (XS.iconst X25.here hx rfl (hb hby at_303) (XS.goto X25.here hx rfl (pc0 := 304) (pc' := 308) rfl (hb hby at_304) (by decide) (by decide) (XS.istore X25.here hx rfl (hb hby at_308) rfl (l' := (own_l37 i0 i1 i2 cs sb_13 sb_14 b15 b17)) rfl (XS.iload X25.here hx rfl (hb hby at_310) rfl kt))))))))))) ?_
         refine ownE.retN X25 hx hlk (t := .boolean) hret (by simp) (hb hby at_312) ?_ (by decide) (by decide)
         show own_Q0l Z i0 i1 i2 cs fmt h0 n0 _ T25.heap _
         rw [e25]
         exact ⟨(by rw [own_f0l, if_pos hc20, if_pos hc21, if_pos hc23, if_pos hc24] <;> first | rfl | decide), N25, K18⟩
        · -- pc 250
         refine ownE.go (T' := T22) (f' := (mkF m 253 (own_l37 i0 i1 i2 cs sb_13 sb_14 b15 b17) [])) (fun t kt => XS.ifNo (g := (mkF m 250 (own_l37 i0 i1 i2 cs sb_13 sb_14 b15 b17) [(.int (own_j0l_50_S0 i0 i1 i2 cs))])) X22.here hx rfl (hb hby at_250) rfl (Jvm.Free.XT.i0_eq_f hc24) kt) ?_
         refine ownE.go (f' := (mkF m 257 (own_l37 i0 i1 i2 cs sb_13 sb_14 b15 b17) [(.ref sb_14), (.ref b15)])) (fun t kt => XS.aload X22.here hx rfl (hb hby at_253) rfl rfl (XS.aload X22.here hx rfl (hb hby at_255) rfl rfl kt)) ?_
         obtain ⟨cq26, kq26, q26a, q26b, q26c⟩ := isOf hZ e22 q658
         obtain ⟨_, _, ⟨T26, L26, k26, n26⟩, -, X26, ⟨Lc26, hQ26, l26, y26, z26⟩, st26⟩ := X22.virtualBack hx (y := own_y29) (z := own_y29) hown (mvT hZ (own_w hw 157 rfl)) (mvT hZ (own_w hw 158 rfl)) (notFace_of_selects (args := #[]) (mvT hZ (own_w hw 160 rfl))) (mvT hZ (own_w hw 160 rfl)) (mvT hZ (own_w hw 159 rfl)) (by decide) (backOf (W := 0) (own_rm270 l Z a0 hw [] b15 sb_14 T18.heap n0 (Nat.le_trans Z0 K18.1) q658 q659) hZ (own_w hw 161 rfl) (own_w hw 28 rfl) (by decide) (by decide)) q26a q26c (g := (mkF m 257 (own_l37 i0 i1 i2 cs sb_13 sb_14 b15 b17) [(.ref sb_14), (.ref b15)])) rfl (by rw [hml]; rfl) (Steps.refl _) (argsL := [(.ref sb_14)]) (rest := []) (lenOf own_pd30 rfl) rfl (Nat.le_of_eq rfl) (hb hby at_257) (fun _ _ => ⟨rfl, e22, (by decide : 6 + 0 ≤ _), (by decide : 22 + 0 ≤ _)⟩)
         dsimp only [Pt.U, Pt.locs, Pt.cells, Pt.slots] at X26 l26 y26 z26 st26 hQ26
         subst l26 y26 z26
         obtain ⟨rfl, N26q, e26⟩ := hQ26
         have N26 := Fr.app N22 N26q
         refine ownE.goS st26 ?_
         refine ownE.go (f' := (mkF m 282 (own_l37 i0 i1 i2 cs sb_13 sb_14 b15 b17) [(.ref b15)])) (fun t kt => XS.pop X26.here hx rfl (hb hby at_260) rfl rfl (XS.iload X26.here hx rfl (hb hby at_261) rfl (XS.ifYes X26.here hx rfl (pc0 := 263) (pc' := 272) rfl (hb hby at_263) rfl (Jvm.Free.XT.i0_eq_t (by decide)) (by decide) (by decide) (XS.iconst X26.here hx rfl (hb hby at_272) (XS.istore X26.here hx rfl (hb hby at_273) rfl (l' := (own_l37 i0 i1 i2 cs sb_13 sb_14 b15 b17)) rfl (XS.iload X26.here hx rfl (hb hby at_275) rfl (XS.ifNo X26.here hx rfl (hb hby at_277) rfl (Jvm.Free.XT.i0_eq_f (by decide)) (XS.aload X26.here hx rfl (hb hby at_280) rfl rfl kt)))))))) ?_
         obtain ⟨cq27, kq27, q27a, q27b, q27c⟩ := isOf hZ e26 q658
         obtain ⟨_, _, ⟨T27, L27, k27, n27⟩, -, X27, ⟨Lc27, hQ27, l27, y27, z27⟩, st27⟩ := X26.virtualBack hx (y := own_y27) (z := own_y27) hown (mvT hZ (own_w hw 65 rfl)) (mvT hZ (own_w hw 66 rfl)) (notFace_of_selects (args := #[]) (mvT hZ (own_w hw 68 rfl))) (mvT hZ (own_w hw 68 rfl)) (mvT hZ (own_w hw 67 rfl)) (by decide) (backOf (W := 0) (own_rm90 l Z a0 hw [] b15 T18.heap n0 (Nat.le_trans Z0 K18.1) q658 q659) hZ (own_w hw 69 rfl) (own_w hw 28 rfl) (by decide) (by decide)) q27a q27c (g := (mkF m 282 (own_l37 i0 i1 i2 cs sb_13 sb_14 b15 b17) [(.ref b15)])) rfl (by rw [hml]; rfl) (Steps.refl _) (argsL := []) (rest := []) (lenOf own_pd16 rfl) rfl (Nat.le_of_eq rfl) (hb hby at_282) (fun _ _ => ⟨rfl, e26, (by decide : 6 + 0 ≤ _), (by decide : 22 + 0 ≤ _)⟩)
         dsimp only [Pt.U, Pt.locs, Pt.cells, Pt.slots] at X27 l27 y27 z27 st27 hQ27
         subst l27 y27 z27
         obtain ⟨rfl, N27q, e27⟩ := hQ27
         have N27 := Fr.app N26 N27q
         refine ownE.goS st27 ?_
         refine ownE.go (f' := (mkF m 312 (own_l37 i0 i1 i2 cs sb_13 sb_14 b15 b17) [(.int (1 : Int32))])) (fun t kt => XS.iload X27.here hx rfl (hb hby at_285) rfl (XS.ifNo X27.here hx rfl (hb hby at_287) rfl (Jvm.Free.XT.i0_ne_f (by decide)) (XS.iload X27.here hx rfl (hb hby at_290) rfl (XS.ifNo X27.here hx rfl (hb hby at_292) rfl (Jvm.Free.XT.i0_ne_f (by decide)) (XS.iconst X27.here hx rfl (hb hby at_295) (XS.goto X27.here hx rfl (pc0 := 296) (pc' := 300) rfl (hb hby at_296) (by decide) (by decide) (XS.icmpNo X27.here hx rfl (hb hby at_300) rfl (Jvm.Free.XT.ii_ne_f (by decide)) (XS.iconst X27.here hx rfl (hb hby at_303) (XS.goto X27.here hx rfl (pc0 := 304) (pc' := 308) rfl (hb hby at_304) (by decide) (by decide) (XS.istore X27.here hx rfl (hb hby at_308) rfl (l' := (own_l37 i0 i1 i2 cs sb_13 sb_14 b15 b17)) rfl (XS.iload X27.here hx rfl (hb hby at_310) rfl kt))))))))))) ?_
         refine ownE.retN X27 hx hlk (t := .boolean) hret (by simp) (hb hby at_312) ?_ (by decide) (by decide)
         show own_Q0l Z i0 i1 i2 cs fmt h0 n0 _ T27.heap _
         rw [e27]
         exact ⟨(by rw [own_f0l, if_pos hc20, if_pos hc21, if_pos hc23, if_neg hc24] <;> first | rfl | decide), N27, K18⟩
       · -- pc 234
        refine ownE.go (T' := T22) (f' := (mkF m 237 (own_l37 i0 i1 i2 cs sb_13 sb_14 b15 b17) [])) (fun t kt => XS.ifNo (g := (mkF m 234 (own_l37 i0 i1 i2 cs sb_13 sb_14 b15 b17) [(.int (own_j0l_36_S0 i0 i1 i2 cs))])) X22.here hx rfl (hb hby at_234) rfl (Jvm.Free.XT.i0_eq_f hc23) kt) ?_
        refine ownE.go (f' := (mkF m 241 (own_l37 i0 i1 i2 cs sb_13 sb_14 b15 b17) [(.ref sb_13), (.ref b15)])) (fun t kt => XS.aload X22.here hx rfl (hb hby at_237) rfl rfl (XS.aload X22.here hx rfl (hb hby at_239) rfl rfl kt)) ?_
        obtain ⟨cq28, kq28, q28a, q28b, q28c⟩ := isOf hZ e22 q658
        obtain ⟨_, _, ⟨T28, L28, k28, n28⟩, -, X28, ⟨Lc28, hQ28, l28, y28, z28⟩, st28⟩ := X22.virtualBack hx (y := own_y29) (z := own_y29) hown (mvT hZ (own_w hw 157 rfl)) (mvT hZ (own_w hw 158 rfl)) (notFace_of_selects (args := #[]) (mvT hZ (own_w hw 160 rfl))) (mvT hZ (own_w hw 160 rfl)) (mvT hZ (own_w hw 159 rfl)) (by decide) (backOf (W := 0) (own_rm270 l Z a0 hw [] b15 sb_13 T18.heap n0 (Nat.le_trans Z0 K18.1) q658 q659) hZ (own_w hw 161 rfl) (own_w hw 28 rfl) (by decide) (by decide)) q28a q28c (g := (mkF m 241 (own_l37 i0 i1 i2 cs sb_13 sb_14 b15 b17) [(.ref sb_13), (.ref b15)])) rfl (by rw [hml]; rfl) (Steps.refl _) (argsL := [(.ref sb_13)]) (rest := []) (lenOf own_pd30 rfl) rfl (Nat.le_of_eq rfl) (hb hby at_241) (fun _ _ => ⟨rfl, e22, (by decide : 6 + 0 ≤ _), (by decide : 22 + 0 ≤ _)⟩)
        dsimp only [Pt.U, Pt.locs, Pt.cells, Pt.slots] at X28 l28 y28 z28 st28 hQ28
        subst l28 y28 z28
        obtain ⟨rfl, N28q, e28⟩ := hQ28
        have N28 := Fr.app N22 N28q
        refine ownE.goS st28 ?_
        refine ownE.go (f' := (mkF m 250 (own_l37 i0 i1 i2 cs sb_13 sb_14 b15 b17) [(.int (own_j0l_50_S0 i0 i1 i2 cs))])) (fun t kt => XS.pop X28.here hx rfl (hb hby at_244) rfl rfl (XS.iconst X28.here hx rfl (hb hby at_245) (XS.istore X28.here hx rfl (hb hby at_246) rfl (l' := (own_l37 i0 i1 i2 cs sb_13 sb_14 b15 b17)) rfl (XS.iload X28.here hx rfl (hb hby at_248) rfl kt)))) ?_
        by_cases hc29 : (own_j0l_50_S0 i0 i1 i2 cs) = (0 : Int32)
        · -- pc 250
         refine ownE.go (T' := T28) (f' := (mkF m 275 (own_l37 i0 i1 i2 cs sb_13 sb_14 b15 b17) [])) (fun t kt => XS.ifYes (g := (mkF m 250 (own_l37 i0 i1 i2 cs sb_13 sb_14 b15 b17) [(.int (own_j0l_50_S0 i0 i1 i2 cs))])) X28.here hx rfl (pc0 := 250) (pc' := 275) rfl (hb hby at_250) rfl (Jvm.Free.XT.i0_eq_t hc29) (by decide) (by decide) kt) ?_
         refine ownE.go (f' := (mkF m 282 (own_l37 i0 i1 i2 cs sb_13 sb_14 b15 b17) [(.ref b15)])) (fun t kt => XS.iload X28.here hx rfl (hb hby at_275) rfl (XS.ifNo X28.here hx rfl (hb hby at_277) rfl (Jvm.Free.XT.i0_eq_f (by decide)) (XS.aload X28.here hx rfl (hb hby at_280) rfl rfl kt))) ?_
         obtain ⟨cq30, kq30, q30a, q30b, q30c⟩ := isOf hZ e28 q658
         obtain ⟨_, _, ⟨T30, L30, k30, n30⟩, -, X30, ⟨Lc30, hQ30, l30, y30, z30⟩, st30⟩ := X28.virtualBack hx (y := own_y27) (z := own_y27) hown (mvT hZ (own_w hw 65 rfl)) (mvT hZ (own_w hw 66 rfl)) (notFace_of_selects (args := #[]) (mvT hZ (own_w hw 68 rfl))) (mvT hZ (own_w hw 68 rfl)) (mvT hZ (own_w hw 67 rfl)) (by decide) (backOf (W := 0) (own_rm90 l Z a0 hw [] b15 T18.heap n0 (Nat.le_trans Z0 K18.1) q658 q659) hZ (own_w hw 69 rfl) (own_w hw 28 rfl) (by decide) (by decide)) q30a q30c (g := (mkF m 282 (own_l37 i0 i1 i2 cs sb_13 sb_14 b15 b17) [(.ref b15)])) rfl (by rw [hml]; rfl) (Steps.refl _) (argsL := []) (rest := []) (lenOf own_pd16 rfl) rfl (Nat.le_of_eq rfl) (hb hby at_282) (fun _ _ => ⟨rfl, e28, (by decide : 6 + 0 ≤ _), (by decide : 22 + 0 ≤ _)⟩)
         dsimp only [Pt.U, Pt.locs, Pt.cells, Pt.slots] at X30 l30 y30 z30 st30 hQ30
         subst l30 y30 z30
         obtain ⟨rfl, N30q, e30⟩ := hQ30
         have N30 := Fr.app N28 N30q
         refine ownE.goS st30 ?_
         refine ownE.go (f' := (mkF m 312 (own_l37 i0 i1 i2 cs sb_13 sb_14 b15 b17) [(.int (1 : Int32))])) (fun t kt => XS.iload X30.here hx rfl (hb hby at_285) rfl (XS.ifNo X30.here hx rfl (hb hby at_287) rfl (Jvm.Free.XT.i0_ne_f (by decide)) (XS.iload X30.here hx rfl (hb hby at_290) rfl (XS.ifNo X30.here hx rfl (hb hby at_292) rfl (Jvm.Free.XT.i0_ne_f (by decide)) (XS.iconst X30.here hx rfl (hb hby at_295) (XS.goto X30.here hx rfl (pc0 := 296) (pc' := 300) rfl (hb hby at_296) (by decide) (by decide) (XS.icmpNo X30.here hx rfl (hb hby at_300) rfl (Jvm.Free.XT.ii_ne_f (by decide)) (XS.iconst X30.here hx rfl (hb hby at_303) (XS.goto X30.here hx rfl (pc0 := 304) (pc' := 308) rfl (hb hby at_304) (by decide) (by decide) (XS.istore X30.here hx rfl (hb hby at_308) rfl (l' := (own_l37 i0 i1 i2 cs sb_13 sb_14 b15 b17)) rfl (XS.iload X30.here hx rfl (hb hby at_310) rfl kt))))))))))) ?_
         refine ownE.retN X30 hx hlk (t := .boolean) hret (by simp) (hb hby at_312) ?_ (by decide) (by decide)
         show own_Q0l Z i0 i1 i2 cs fmt h0 n0 _ T30.heap _
         rw [e30]
         exact ⟨(by rw [own_f0l, if_pos hc20, if_pos hc21, if_neg hc23, if_pos hc29] <;> first | rfl | decide), N30, K18⟩
        · -- pc 250
         refine ownE.go (T' := T28) (f' := (mkF m 253 (own_l37 i0 i1 i2 cs sb_13 sb_14 b15 b17) [])) (fun t kt => XS.ifNo (g := (mkF m 250 (own_l37 i0 i1 i2 cs sb_13 sb_14 b15 b17) [(.int (own_j0l_50_S0 i0 i1 i2 cs))])) X28.here hx rfl (hb hby at_250) rfl (Jvm.Free.XT.i0_eq_f hc29) kt) ?_
         refine ownE.go (f' := (mkF m 257 (own_l37 i0 i1 i2 cs sb_13 sb_14 b15 b17) [(.ref sb_14), (.ref b15)])) (fun t kt => XS.aload X28.here hx rfl (hb hby at_253) rfl rfl (XS.aload X28.here hx rfl (hb hby at_255) rfl rfl kt)) ?_
         obtain ⟨cq31, kq31, q31a, q31b, q31c⟩ := isOf hZ e28 q658
         obtain ⟨_, _, ⟨T31, L31, k31, n31⟩, -, X31, ⟨Lc31, hQ31, l31, y31, z31⟩, st31⟩ := X28.virtualBack hx (y := own_y29) (z := own_y29) hown (mvT hZ (own_w hw 157 rfl)) (mvT hZ (own_w hw 158 rfl)) (notFace_of_selects (args := #[]) (mvT hZ (own_w hw 160 rfl))) (mvT hZ (own_w hw 160 rfl)) (mvT hZ (own_w hw 159 rfl)) (by decide) (backOf (W := 0) (own_rm270 l Z a0 hw [] b15 sb_14 T18.heap n0 (Nat.le_trans Z0 K18.1) q658 q659) hZ (own_w hw 161 rfl) (own_w hw 28 rfl) (by decide) (by decide)) q31a q31c (g := (mkF m 257 (own_l37 i0 i1 i2 cs sb_13 sb_14 b15 b17) [(.ref sb_14), (.ref b15)])) rfl (by rw [hml]; rfl) (Steps.refl _) (argsL := [(.ref sb_14)]) (rest := []) (lenOf own_pd30 rfl) rfl (Nat.le_of_eq rfl) (hb hby at_257) (fun _ _ => ⟨rfl, e28, (by decide : 6 + 0 ≤ _), (by decide : 22 + 0 ≤ _)⟩)
         dsimp only [Pt.U, Pt.locs, Pt.cells, Pt.slots] at X31 l31 y31 z31 st31 hQ31
         subst l31 y31 z31
         obtain ⟨rfl, N31q, e31⟩ := hQ31
         have N31 := Fr.app N28 N31q
         refine ownE.goS st31 ?_
         refine ownE.go (f' := (mkF m 282 (own_l37 i0 i1 i2 cs sb_13 sb_14 b15 b17) [(.ref b15)])) (fun t kt => XS.pop X31.here hx rfl (hb hby at_260) rfl rfl (XS.iload X31.here hx rfl (hb hby at_261) rfl (XS.ifYes X31.here hx rfl (pc0 := 263) (pc' := 272) rfl (hb hby at_263) rfl (Jvm.Free.XT.i0_eq_t (by decide)) (by decide) (by decide) (XS.iconst X31.here hx rfl (hb hby at_272) (XS.istore X31.here hx rfl (hb hby at_273) rfl (l' := (own_l37 i0 i1 i2 cs sb_13 sb_14 b15 b17)) rfl (XS.iload X31.here hx rfl (hb hby at_275) rfl (XS.ifNo X31.here hx rfl (hb hby at_277) rfl (Jvm.Free.XT.i0_eq_f (by decide)) (XS.aload X31.here hx rfl (hb hby at_280) rfl rfl kt)))))))) ?_
         obtain ⟨cq32, kq32, q32a, q32b, q32c⟩ := isOf hZ e31 q658
         obtain ⟨_, _, ⟨T32, L32, k32, n32⟩, -, X32, ⟨Lc32, hQ32, l32, y32, z32⟩, st32⟩ := X31.virtualBack hx (y := own_y27) (z := own_y27) hown (mvT hZ (own_w hw 65 rfl)) (mvT hZ (own_w hw 66 rfl)) (notFace_of_selects (args := #[]) (mvT hZ (own_w hw 68 rfl))) (mvT hZ (own_w hw 68 rfl)) (mvT hZ (own_w hw 67 rfl)) (by decide) (backOf (W := 0) (own_rm90 l Z a0 hw [] b15 T18.heap n0 (Nat.le_trans Z0 K18.1) q658 q659) hZ (own_w hw 69 rfl) (own_w hw 28 rfl) (by decide) (by decide)) q32a q32c (g := (mkF m 282 (own_l37 i0 i1 i2 cs sb_13 sb_14 b15 b17) [(.ref b15)])) rfl (by rw [hml]; rfl) (Steps.refl _) (argsL := []) (rest := []) (lenOf own_pd16 rfl) rfl (Nat.le_of_eq rfl) (hb hby at_282) (fun _ _ => ⟨rfl, e31, (by decide : 6 + 0 ≤ _), (by decide : 22 + 0 ≤ _)⟩)
         dsimp only [Pt.U, Pt.locs, Pt.cells, Pt.slots] at X32 l32 y32 z32 st32 hQ32
         subst l32 y32 z32
         obtain ⟨rfl, N32q, e32⟩ := hQ32
         have N32 := Fr.app N31 N32q
         refine ownE.goS st32 ?_
         refine ownE.go (f' := (mkF m 312 (own_l37 i0 i1 i2 cs sb_13 sb_14 b15 b17) [(.int (1 : Int32))])) (fun t kt => XS.iload X32.here hx rfl (hb hby at_285) rfl (XS.ifNo X32.here hx rfl (hb hby at_287) rfl (Jvm.Free.XT.i0_ne_f (by decide)) (XS.iload X32.here hx rfl (hb hby at_290) rfl (XS.ifNo X32.here hx rfl (hb hby at_292) rfl (Jvm.Free.XT.i0_ne_f (by decide)) (XS.iconst X32.here hx rfl (hb hby at_295) (XS.goto X32.here hx rfl (pc0 := 296) (pc' := 300) rfl (hb hby at_296) (by decide) (by decide) (XS.icmpNo X32.here hx rfl (hb hby at_300) rfl (Jvm.Free.XT.ii_ne_f (by decide)) (XS.iconst X32.here hx rfl (hb hby at_303) (XS.goto X32.here hx rfl (pc0 := 304) (pc' := 308) rfl (hb hby at_304) (by decide) (by decide) (XS.istore X32.here hx rfl (hb hby at_308) rfl (l' := (own_l37 i0 i1 i2 cs sb_13 sb_14 b15 b17)) rfl (XS.iload X32.here hx rfl (hb hby at_310) rfl kt))))))))))) ?_
         refine ownE.retN X32 hx hlk (t := .boolean) hret (by simp) (hb hby at_312) ?_ (by decide) (by decide)
         show own_Q0l Z i0 i1 i2 cs fmt h0 n0 _ T32.heap _
         rw [e32]
         exact ⟨(by rw [own_f0l, if_pos hc20, if_pos hc21, if_neg hc23, if_neg hc29] <;> first | rfl | decide), N32, K18⟩
      · -- pc 146
       refine ownE.go (T' := T19) (f' := (mkF m 149 (own_l35 i0 i1 i2 cs sb_13 sb_14 b15 b17) [])) (fun t kt => XS.ifNo (g := (mkF m 146 (own_l35 i0 i1 i2 cs sb_13 sb_14 b15 b17) [(.int (own_j0l_23_S0 i0 i1 i2 cs))])) X19.here hx rfl (hb hby at_146) rfl (Jvm.Free.XT.i0_eq_f hc21) kt) ?_
       refine ownE.go (f' := (mkF m 155 (own_l35 i0 i1 i2 cs sb_13 sb_14 b15 b17) [(.ref b17), (.ref sb_14), (.ref b15)])) (fun t kt => XS.aload X19.here hx rfl (hb hby at_149) rfl rfl (XS.aload X19.here hx rfl (hb hby at_151) rfl rfl (XS.aload X19.here hx rfl (hb hby at_153) rfl rfl kt))) ?_
       obtain ⟨cq33, kq33, q33a, q33b, q33c⟩ := isOf hZ e19 q658
       obtain ⟨_, _, ⟨T33, L33, k33, n33⟩, -, X33, ⟨Lc33, hQ33, l33, y33, z33⟩, st33⟩ := X19.virtualBack hx (y := own_y28) (z := own_y28) hown (mvT hZ (own_w hw 72 rfl)) (mvT hZ (own_w hw 73 rfl)) (notFace_of_selects (args := #[]) (mvT hZ (own_w hw 75 rfl))) (mvT hZ (own_w hw 75 rfl)) (mvT hZ (own_w hw 74 rfl)) (by decide) (backOf (W := 0) (own_rm100 l Z a0 hw [] b15 sb_14 b17 T18.heap n0 (Nat.le_trans Z0 K18.1) q658 q659 ge_b15) hZ (own_w hw 76 rfl) (own_w hw 28 rfl) (by decide) (by decide)) q33a q33c (g := (mkF m 155 (own_l35 i0 i1 i2 cs sb_13 sb_14 b15 b17) [(.ref b17), (.ref sb_14), (.ref b15)])) rfl (by rw [hml]; rfl) (Steps.refl _) (argsL := [(.ref sb_14), (.ref b17)]) (rest := []) (lenOf own_pd34 rfl) rfl (Nat.le_of_eq rfl) (hb hby at_155) (fun _ _ => ⟨rfl, e19, (by decide : 6 + 1 ≤ _), (by decide : 22 + 5 ≤ _)⟩)
       dsimp only [Pt.U, Pt.locs, Pt.cells, Pt.slots] at X33 l33 y33 z33 st33 hQ33
       subst l33 y33 z33
       obtain ⟨lk_33, rfl, N33q, K33q, f33_0, f33_1, f33_2, f33_3, f33_4, f33_5, f33_6, f33_7, f33_8⟩ := hQ33
       have ne_sb_13_lk_33 : sb_13 ≠ lk_33 := Nat.ne_of_lt (Nat.lt_of_lt_of_le q650.lt f33_0)
       have ne_vb_13_lk_33 : vb_13 ≠ lk_33 := Nat.ne_of_lt (Nat.lt_of_lt_of_le q653.lt f33_0)
       have ne_sb_14_lk_33 : sb_14 ≠ lk_33 := Nat.ne_of_lt (Nat.lt_of_lt_of_le q654.lt f33_0)
       have ne_vb_14_lk_33 : vb_14 ≠ lk_33 := Nat.ne_of_lt (Nat.lt_of_lt_of_le q657.lt f33_0)
       have ne_b15_lk_33 : b15 ≠ lk_33 := Nat.ne_of_lt (Nat.lt_of_lt_of_le q658.lt f33_0)
       have ne_b17_lk_33 : b17 ≠ lk_33 := Nat.ne_of_lt (Nat.lt_of_lt_of_le f18_0.lt f33_0)
       have q661 := q649.keep K33q (allS ge_b15 all0)
       have q662 := q650.keep K33q
       have q663 := q651.keep K33q (ninS ne_sb_13_b15 nin0)
       have q664 := q652.keep K33q (ninS ne_sb_13_b15 nin0)
       have q665 := q653.keep K33q (ninS ne_vb_13_b15 nin0)
       have q666 := q654.keep K33q
       have q667 := q655.keep K33q (ninS ne_sb_14_b15 nin0)
       have q668 := q656.keep K33q (ninS ne_sb_14_b15 nin0)
       have q669 := q657.keep K33q (ninS ne_vb_14_b15 nin0)
       have q670 := q658.keep K33q
       have q671 := f18_0.keep K33q
       have K33 : Keep h0 T33.heap [] := K18.trans K33q (allS (Or.inr sz_b15) all0)
       have sz_lk_33 : h0.size ≤ lk_33 := Nat.le_trans K18.1 f33_0
       have ge_lk_33 : n0 ≤ lk_33 := Nat.le_trans Z0 sz_lk_33
       have N33 := Fr.app N19 N33q
       refine ownE.goS st33 ?_
       refine ownE.go (f' := (mkF m 204 (own_l38 i0 i1 i2 cs sb_13 sb_14 b15 b17) [(.ref b15)])) (fun t kt => XS.pop X33.here hx rfl (hb hby at_158) rfl rfl (XS.iloadN X33.here hx rfl (hb hby at_159) rfl (XS.ifNo X33.here hx rfl (hb hby at_160) rfl (Jvm.Free.XT.i0_ne_f hc20) (XS.iload X33.here hx rfl (hb hby at_163) rfl (XS.ifNo X33.here hx rfl (hb hby at_165) rfl (Jvm.Free.XT.i0_eq_f hc21) (XS.iload X33.here hx rfl (hb hby at_168) rfl (XS.ifYes X33.here hx rfl (pc0 := 170) (pc' := 177) rfl (hb hby at_170) rfl (Jvm.Free.XT.i0_eq_t (by decide)) (by decide) (by decide) (XS.iconst X33.here hx rfl (hb hby at_177) (XS.istore X33.here hx rfl (hb hby at_178) rfl (l' := (own_l36 i0 i1 i2 cs sb_13 sb_14 b15 b17)) rfl (XS.iload X33.here hx rfl (hb hby at_180) rfl (XS.ifNo X33.here hx rfl (hb hby at_182) rfl (Jvm.Free.XT.i0_eq_f hc21) (XS.iload X33.here hx rfl (hb hby at_185) rfl (XS.ifNo X33.here hx rfl (hb hby at_187) rfl (Jvm.Free.XT.i0_ne_f (by decide)) (XS.iconst X33.here hx rfl (hb hby at_190) (XS.goto X33.here hx rfl (pc0 := 191) (pc' := 195) rfl (hb hby at_191) (by decide) (by decide) (XS.istore X33.here hx rfl (hb hby at_195) rfl (l' := (own_l38 i0 i1 i2 cs sb_13 sb_14 b15 b17)) rfl (XS.iload X33.here hx rfl (hb hby at_197) rfl (XS.ifNo X33.here hx rfl (hb hby at_199) rfl (Jvm.Free.XT.i0_eq_f (by decide)) (XS.aload X33.here hx rfl (hb hby at_202) rfl rfl kt))))))))))))))))))) ?_
       obtain ⟨cq34, kq34, q34a, q34b, q34c⟩ := isOf hZ rfl f33_1
       obtain ⟨_, _, ⟨T34, L34, k34, n34⟩, -, X34, ⟨Lc34, hQ34, l34, y34, z34⟩, st34⟩ := X33.virtualBack hx (y := own_y27) (z := own_y27) hown (mvT hZ (own_w hw 65 rfl)) (mvT hZ (own_w hw 66 rfl)) (notFace_of_selects (args := #[]) (mvT hZ (own_w hw 68 rfl))) (mvT hZ (own_w hw 68 rfl)) (mvT hZ (own_w hw 67 rfl)) (by decide) (backOf (W := 0) (own_rm91 l Z a0 hw [] b15 lk_33 T33.heap n0 (Nat.le_trans Z0 K33.1) f33_1 f33_2) hZ (own_w hw 69 rfl) (own_w hw 28 rfl) (by decide) (by decide)) q34a q34c (g := (mkF m 204 (own_l38 i0 i1 i2 cs sb_13 sb_14 b15 b17) [(.ref b15)])) rfl (by rw [hml]; rfl) (Steps.refl _) (argsL := []) (rest := []) (lenOf own_pd16 rfl) rfl (Nat.le_of_eq rfl) (hb hby at_204) (fun _ _ => ⟨rfl, rfl, (by decide : 7 + 0 ≤ _), (by decide : 27 + 0 ≤ _)⟩)
       dsimp only [Pt.U, Pt.locs, Pt.cells, Pt.slots] at X34 l34 y34 z34 st34 hQ34
       subst l34 y34 z34
       obtain ⟨rfl, N34q, e34⟩ := hQ34
       have N34 := Fr.app N33 N34q
       refine ownE.goS st34 ?_
       refine ownE.go (f' := (mkF m 234 (own_l38 i0 i1 i2 cs sb_13 sb_14 b15 b17) [(.int (own_j0l_36_S0 i0 i1 i2 cs))])) (fun t kt => XS.iload X34.here hx rfl (hb hby at_207) rfl (XS.ifNo X34.here hx rfl (hb hby at_209) rfl (Jvm.Free.XT.i0_ne_f (by decide)) (XS.iload X34.here hx rfl (hb hby at_212) rfl (XS.ifYes X34.here hx rfl (pc0 := 214) (pc' := 221) rfl (hb hby at_214) rfl (Jvm.Free.XT.i0_ne_t (by decide)) (by decide) (by decide) (XS.iconst X34.here hx rfl (hb hby at_221) (XS.icmpNo X34.here hx rfl (hb hby at_222) rfl (Jvm.Free.XT.ii_ne_f (by decide)) (XS.iconst X34.here hx rfl (hb hby at_225) (XS.goto X34.here hx rfl (pc0 := 226) (pc' := 230) rfl (hb hby at_226) (by decide) (by decide) (XS.istore X34.here hx rfl (hb hby at_230) rfl (l' := (own_l38 i0 i1 i2 cs sb_13 sb_14 b15 b17)) rfl (XS.iload X34.here hx rfl (hb hby at_232) rfl kt)))))))))) ?_
       by_cases hc35 : (own_j0l_36_S0 i0 i1 i2 cs) = (0 : Int32)
       · -- pc 234
        refine ownE.go (T' := T34) (f' := (mkF m 248 (own_l38 i0 i1 i2 cs sb_13 sb_14 b15 b17) [])) (fun t kt => XS.ifYes (g := (mkF m 234 (own_l38 i0 i1 i2 cs sb_13 sb_14 b15 b17) [(.int (own_j0l_36_S0 i0 i1 i2 cs))])) X34.here hx rfl (pc0 := 234) (pc' := 248) rfl (hb hby at_234) rfl (Jvm.Free.XT.i0_eq_t hc35) (by decide) (by decide) kt) ?_
        refine ownE.go (f' := (mkF m 250 (own_l38 i0 i1 i2 cs sb_13 sb_14 b15 b17) [(.int (own_j0l_50_S0 i0 i1 i2 cs))])) (fun t kt => XS.iload X34.here hx rfl (hb hby at_248) rfl kt) ?_
        by_cases hc36 : (own_j0l_50_S0 i0 i1 i2 cs) = (0 : Int32)
        · -- pc 250
         refine ownE.go (T' := T34) (f' := (mkF m 275 (own_l38 i0 i1 i2 cs sb_13 sb_14 b15 b17) [])) (fun t kt => XS.ifYes (g := (mkF m 250 (own_l38 i0 i1 i2 cs sb_13 sb_14 b15 b17) [(.int (own_j0l_50_S0 i0 i1 i2 cs))])) X34.here hx rfl (pc0 := 250) (pc' := 275) rfl (hb hby at_250) rfl (Jvm.Free.XT.i0_eq_t hc36) (by decide) (by decide) kt) ?_
         refine ownE.go (f' := (mkF m 282 (own_l38 i0 i1 i2 cs sb_13 sb_14 b15 b17) [(.ref b15)])) (fun t kt => XS.iload X34.here hx rfl (hb hby at_275) rfl (XS.ifNo X34.here hx rfl (hb hby at_277) rfl (Jvm.Free.XT.i0_eq_f (by decide)) (XS.aload X34.here hx rfl (hb hby at_280) rfl rfl kt))) ?_
         obtain ⟨cq37, kq37, q37a, q37b, q37c⟩ := isOf hZ e34 f33_1
         obtain ⟨_, _, ⟨T37, L37, k37, n37⟩, -, X37, ⟨Lc37, hQ37, l37, y37, z37⟩, st37⟩ := X34.virtualBack hx (y := own_y27) (z := own_y27) hown (mvT hZ (own_w hw 65 rfl)) (mvT hZ (own_w hw 66 rfl)) (notFace_of_selects (args := #[]) (mvT hZ (own_w hw 68 rfl))) (mvT hZ (own_w hw 68 rfl)) (mvT hZ (own_w hw 67 rfl)) (by decide) (backOf (W := 0) (own_rm91 l Z a0 hw [] b15 lk_33 T33.heap n0 (Nat.le_trans Z0 K33.1) f33_1 f33_2) hZ (own_w hw 69 rfl) (own_w hw 28 rfl) (by decide) (by decide)) q37a q37c (g := (mkF m 282 (own_l38 i0 i1 i2 cs sb_13 sb_14 b15 b17) [(.ref b15)])) rfl (by rw [hml]; rfl) (Steps.refl _) (argsL := []) (rest := []) (lenOf own_pd16 rfl) rfl (Nat.le_of_eq rfl) (hb hby at_282) (fun _ _ => ⟨rfl, e34, (by decide : 7 + 0 ≤ _), (by decide : 27 + 0 ≤ _)⟩)
         dsimp only [Pt.U, Pt.locs, Pt.cells, Pt.slots] at X37 l37 y37 z37 st37 hQ37
         subst l37 y37 z37
         obtain ⟨rfl, N37q, e37⟩ := hQ37
         have N37 := Fr.app N34 N37q
         refine ownE.goS st37 ?_
         refine ownE.go (f' := (mkF m 312 (own_l38 i0 i1 i2 cs sb_13 sb_14 b15 b17) [(.int (1 : Int32))])) (fun t kt => XS.iload X37.here hx rfl (hb hby at_285) rfl (XS.ifNo X37.here hx rfl (hb hby at_287) rfl (Jvm.Free.XT.i0_ne_f (by decide)) (XS.iload X37.here hx rfl (hb hby at_290) rfl (XS.ifYes X37.here hx rfl (pc0 := 292) (pc' := 299) rfl (hb hby at_292) rfl (Jvm.Free.XT.i0_ne_t (by decide)) (by decide) (by decide) (XS.iconst X37.here hx rfl (hb hby at_299) (XS.icmpNo X37.here hx rfl (hb hby at_300) rfl (Jvm.Free.XT.ii_ne_f (by decide)) (XS.iconst X37.here hx rfl (hb hby at_303) (XS.goto X37.here hx rfl (pc0 := 304) (pc' := 308) rfl (hb hby at_304) (by decide) (by decide) (XS.istore X37.here hx rfl (hb hby at_308) rfl (l' := (own_l38 i0 i1 i2 cs sb_13 sb_14 b15 b17)) rfl (XS.iload X37.here hx rfl (hb hby at_310) rfl kt)))))))))) ?_
         refine ownE.retN X37 hx hlk (t := .boolean) hret (by simp) (hb hby at_312) ?_ (by decide) (by decide)
         show own_Q0l Z i0 i1 i2 cs fmt h0 n0 _ T37.heap _
         rw [e37]
         exact ⟨(by rw [own_f0l, if_pos hc20, if_neg hc21, if_pos hc35, if_pos hc36] <;> first | rfl | decide), N37, K33⟩
        · -- pc 250
         refine ownE.go (T' := T34) (f' := (mkF m 253 (own_l38 i0 i1 i2 cs sb_13 sb_14 b15 b17) [])) (fun t kt => XS.ifNo (g := (mkF m 250 (own_l38 i0 i1 i2 cs sb_13 sb_14 b15 b17) [(.int (own_j0l_50_S0 i0 i1 i2 cs))])) X34.here hx rfl (hb hby at_250) rfl (Jvm.Free.XT.i0_eq_f hc36) kt) ?_
         refine ownE.go (f' := (mkF m 257 (own_l38 i0 i1 i2 cs sb_13 sb_14 b15 b17) [(.ref sb_14), (.ref b15)])) (fun t kt => XS.aload X34.here hx rfl (hb hby at_253) rfl rfl (XS.aload X34.here hx rfl (hb hby at_255) rfl rfl kt)) ?_
         obtain ⟨cq38, kq38, q38a, q38b, q38c⟩ := isOf hZ e34 f33_1
         obtain ⟨_, _, ⟨T38, L38, k38, n38⟩, -, X38, ⟨Lc38, hQ38, l38, y38, z38⟩, st38⟩ := X34.virtualBack hx (y := own_y29) (z := own_y29) hown (mvT hZ (own_w hw 157 rfl)) (mvT hZ (own_w hw 158 rfl)) (notFace_of_selects (args := #[]) (mvT hZ (own_w hw 160 rfl))) (mvT hZ (own_w hw 160 rfl)) (mvT hZ (own_w hw 159 rfl)) (by decide) (backOf (W := 0) (own_rm271e l Z a0 hw [] b15 sb_14 vb_14 kb_14 ((((i1 &&& (255 : Int32)).toUInt32.toUInt16.toUInt32.toInt32).toInt8.toInt32).toInt8.toInt32) lk_33 sb_14 vb_14 kb_14 ((((i1 &&& (255 : Int32)).toUInt32.toUInt16.toUInt32.toInt32).toInt8.toInt32).toInt8.toInt32) b17 cs fmt T33.heap n0 (Nat.le_trans Z0 K33.1) q661 hcs hcsn zfm hfm f33_1 f33_2 ge_b15 f33_4 f33_5 f33_6 f33_7 q666 q668 q667 q669 q666 q668 q667 q669 rfl) hZ (own_w hw 161 rfl) (own_w hw 28 rfl) (by decide) (by decide)) q38a q38c (g := (mkF m 257 (own_l38 i0 i1 i2 cs sb_13 sb_14 b15 b17) [(.ref sb_14), (.ref b15)])) rfl (by rw [hml]; rfl) (Steps.refl _) (argsL := [(.ref sb_14)]) (rest := []) (lenOf own_pd30 rfl) rfl (Nat.le_of_eq rfl) (hb hby at_257) (fun _ _ => ⟨rfl, e34, (by decide : 7 + 0 ≤ _), (by decide : 27 + 0 ≤ _)⟩)
         dsimp only [Pt.U, Pt.locs, Pt.cells, Pt.slots] at X38 l38 y38 z38 st38 hQ38
         subst l38 y38 z38
         obtain ⟨rfl, N38q, K38q, f38_0, f38_1⟩ := hQ38
         have q672 := q661.keep K38q (allS ge_b15 all0)
         have q673 := q662.keep K38q
         have q674 := q663.keep K38q (ninS ne_sb_13_b15 nin0)
         have q675 := q664.keep K38q (ninS ne_sb_13_b15 nin0)
         have q676 := q665.keep K38q (ninS ne_vb_13_b15 nin0)
         have q677 := q666.keep K38q
         have q678 := q667.keep K38q (ninS ne_sb_14_b15 nin0)
         have q679 := q668.keep K38q (ninS ne_sb_14_b15 nin0)
         have q680 := q669.keep K38q (ninS ne_vb_14_b15 nin0)
         have q681 := f33_1.keep K38q
         have q682 := q671.keep K38q
         have q683 := f33_3.keep K38q
         have q684 := f33_4.keep K38q (ninS (Ne.symm ne_b15_lk_33) nin0)
         have q685 := f33_5.keep K38q (ninS (Ne.symm ne_b15_lk_33) nin0)
         have q686 := f33_6.keep K38q (ninS (Ne.symm ne_b15_lk_33) nin0)
         have q687 := f33_7.keep K38q (ninS (Ne.symm ne_b15_lk_33) nin0)
         have q688 := f33_8.keep K38q (ninS (Ne.symm ne_b15_lk_33) nin0)
         have K38 : Keep h0 T38.heap [] := K33.trans K38q (allS (Or.inr sz_b15) all0)
         have N38 := Fr.app N34 N38q
         refine ownE.goS st38 ?_
         refine ownE.go (f' := (mkF m 282 (own_l37 i0 i1 i2 cs sb_13 sb_14 b15 b17) [(.ref b15)])) (fun t kt => XS.pop X38.here hx rfl (hb hby at_260) rfl rfl (XS.iload X38.here hx rfl (hb hby at_261) rfl (XS.ifYes X38.here hx rfl (pc0 := 263) (pc' := 272) rfl (hb hby at_263) rfl (Jvm.Free.XT.i0_eq_t (by decide)) (by decide) (by decide) (XS.iconst X38.here hx rfl (hb hby at_272) (XS.istore X38.here hx rfl (hb hby at_273) rfl (l' := (own_l37 i0 i1 i2 cs sb_13 sb_14 b15 b17)) rfl (XS.iload X38.here hx rfl (hb hby at_275) rfl (XS.ifNo X38.here hx rfl (hb hby at_277) rfl (Jvm.Free.XT.i0_eq_f (by decide)) (XS.aload X38.here hx rfl (hb hby at_280) rfl rfl kt)))))))) ?_
         obtain ⟨cq39, kq39, q39a, q39b, q39c⟩ := isOf hZ rfl f38_0
         obtain ⟨_, _, ⟨T39, L39, k39, n39⟩, -, X39, ⟨Lc39, hQ39, l39, y39, z39⟩, st39⟩ := X38.virtualBack hx (y := own_y27) (z := own_y27) hown (mvT hZ (own_w hw 65 rfl)) (mvT hZ (own_w hw 66 rfl)) (notFace_of_selects (args := #[]) (mvT hZ (own_w hw 68 rfl))) (mvT hZ (own_w hw 68 rfl)) (mvT hZ (own_w hw 67 rfl)) (by decide) (backOf (W := 0) (own_rm90 l Z a0 hw [] b15 T38.heap n0 (Nat.le_trans Z0 K38.1) f38_0 f38_1) hZ (own_w hw 69 rfl) (own_w hw 28 rfl) (by decide) (by decide)) q39a q39c (g := (mkF m 282 (own_l37 i0 i1 i2 cs sb_13 sb_14 b15 b17) [(.ref b15)])) rfl (by rw [hml]; rfl) (Steps.refl _) (argsL := []) (rest := []) (lenOf own_pd16 rfl) rfl (Nat.le_of_eq rfl) (hb hby at_282) (fun _ _ => ⟨rfl, rfl, (by decide : 7 + 0 ≤ _), (by decide : 27 + 0 ≤ _)⟩)
         dsimp only [Pt.U, Pt.locs, Pt.cells, Pt.slots] at X39 l39 y39 z39 st39 hQ39
         subst l39 y39 z39
         obtain ⟨rfl, N39q, e39⟩ := hQ39
         have N39 := Fr.app N38 N39q
         refine ownE.goS st39 ?_
         refine ownE.go (f' := (mkF m 312 (own_l37 i0 i1 i2 cs sb_13 sb_14 b15 b17) [(.int (1 : Int32))])) (fun t kt => XS.iload X39.here hx rfl (hb hby at_285) rfl (XS.ifNo X39.here hx rfl (hb hby at_287) rfl (Jvm.Free.XT.i0_ne_f (by decide)) (XS.iload X39.here hx rfl (hb hby at_290) rfl (XS.ifNo X39.here hx rfl (hb hby at_292) rfl (Jvm.Free.XT.i0_ne_f (by decide)) (XS.iconst X39.here hx rfl (hb hby at_295) (XS.goto X39.here hx rfl (pc0 := 296) (pc' := 300) rfl (hb hby at_296) (by decide) (by decide) (XS.icmpNo X39.here hx rfl (hb hby at_300) rfl (Jvm.Free.XT.ii_ne_f (by decide)) (XS.iconst X39.here hx rfl (hb hby at_303) (XS.goto X39.here hx rfl (pc0 := 304) (pc' := 308) rfl (hb hby at_304) (by decide) (by decide) (XS.istore X39.here hx rfl (hb hby at_308) rfl (l' := (own_l37 i0 i1 i2 cs sb_13 sb_14 b15 b17)) rfl (XS.iload X39.here hx rfl (hb hby at_310) rfl kt))))))))))) ?_
         refine ownE.retN X39 hx hlk (t := .boolean) hret (by simp) (hb hby at_312) ?_ (by decide) (by decide)
         show own_Q0l Z i0 i1 i2 cs fmt h0 n0 _ T39.heap _
         rw [e39]
         exact ⟨(by rw [own_f0l, if_pos hc20, if_neg hc21, if_pos hc35, if_neg hc36] <;> first | rfl | decide), N39, K38⟩
       · -- pc 234
        refine ownE.go (T' := T34) (f' := (mkF m 237 (own_l38 i0 i1 i2 cs sb_13 sb_14 b15 b17) [])) (fun t kt => XS.ifNo (g := (mkF m 234 (own_l38 i0 i1 i2 cs sb_13 sb_14 b15 b17) [(.int (own_j0l_36_S0 i0 i1 i2 cs))])) X34.here hx rfl (hb hby at_234) rfl (Jvm.Free.XT.i0_eq_f hc35) kt) ?_
        refine ownE.go (f' := (mkF m 241 (own_l38 i0 i1 i2 cs sb_13 sb_14 b15 b17) [(.ref sb_13), (.ref b15)])) (fun t kt => XS.aload X34.here hx rfl (hb hby at_237) rfl rfl (XS.aload X34.here hx rfl (hb hby at_239) rfl rfl kt)) ?_
        obtain ⟨cq40, kq40, q40a, q40b, q40c⟩ := isOf hZ e34 f33_1
        obtain ⟨_, _, ⟨T40, L40, k40, n40⟩, -, X40, ⟨Lc40, hQ40, l40, y40, z40⟩, st40⟩ := X34.virtualBack hx (y := own_y29) (z := own_y29) hown (mvT hZ (own_w hw 157 rfl)) (mvT hZ (own_w hw 158 rfl)) (notFace_of_selects (args := #[]) (mvT hZ (own_w hw 160 rfl))) (mvT hZ (own_w hw 160 rfl)) (mvT hZ (own_w hw 159 rfl)) (by decide) (backOf (W := 0) (own_rm271l l Z a0 hw [] b15 sb_13 vb_13 kb_13 ((((i0 &&& (255 : Int32)).toUInt32.toUInt16.toUInt32.toInt32).toInt8.toInt32).toInt8.toInt32) lk_33 sb_14 vb_14 kb_14 ((((i1 &&& (255 : Int32)).toUInt32.toUInt16.toUInt32.toInt32).toInt8.toInt32).toInt8.toInt32) cs fmt T33.heap n0 (Nat.le_trans Z0 K33.1) q661 hcs hcsn zfm hfm f33_1 f33_2 f33_4 f33_6 q662 q664 q663 q665 q666 q668 q667 q669 (by rw [own_xc, own_xc]; exact hN) (by rw [own_xc, own_xc]; exact hL)) hZ (own_w hw 161 rfl) (own_w hw 28 rfl) (by decide) (by decide)) q40a q40c (g := (mkF m 241 (own_l38 i0 i1 i2 cs sb_13 sb_14 b15 b17) [(.ref sb_13), (.ref b15)])) rfl (by rw [hml]; rfl) (Steps.refl _) (argsL := [(.ref sb_13)]) (rest := []) (lenOf own_pd30 rfl) rfl (Nat.le_of_eq rfl) (hb hby at_241) (fun _ _ => ⟨rfl, e34, (by decide : 7 + 0 ≤ _), (by decide : 27 + 0 ≤ _)⟩)
        dsimp only [Pt.U, Pt.locs, Pt.cells, Pt.slots] at X40 l40 y40 z40 st40 hQ40
        subst l40 y40 z40
        obtain ⟨rfl, N40q, e40⟩ := hQ40
        have N40 := Fr.app N34 N40q
        refine ownE.goS st40 ?_
        refine ownE.go (f' := (mkF m 250 (own_l38 i0 i1 i2 cs sb_13 sb_14 b15 b17) [(.int (own_j0l_50_S0 i0 i1 i2 cs))])) (fun t kt => XS.pop X40.here hx rfl (hb hby at_244) rfl rfl (XS.iconst X40.here hx rfl (hb hby at_245) (XS.istore X40.here hx rfl (hb hby at_246) rfl (l' := (own_l38 i0 i1 i2 cs sb_13 sb_14 b15 b17)) rfl (XS.iload X40.here hx rfl (hb hby at_248) rfl kt)))) ?_
        by_cases hc41 : (own_j0l_50_S0 i0 i1 i2 cs) = (0 : Int32)
        · -- pc 250
         refine ownE.go (T' := T40) (f' := (mkF m 275 (own_l38 i0 i1 i2 cs sb_13 sb_14 b15 b17) [])) (fun t kt => XS.ifYes (g := (mkF m 250 (own_l38 i0 i1 i2 cs sb_13 sb_14 b15 b17) [(.int (own_j0l_50_S0 i0 i1 i2 cs))])) X40.here hx rfl (pc0 := 250) (pc' := 275) rfl (hb hby at_250) rfl (Jvm.Free.XT.i0_eq_t hc41) (by decide) (by decide) kt) ?_
         refine ownE.go (f' := (mkF m 282 (own_l38 i0 i1 i2 cs sb_13 sb_14 b15 b17) [(.ref b15)])) (fun t kt => XS.iload X40.here hx rfl (hb hby at_275) rfl (XS.ifNo X40.here hx rfl (hb hby at_277) rfl (Jvm.Free.XT.i0_eq_f (by decide)) (XS.aload X40.here hx rfl (hb hby at_280) rfl rfl kt))) ?_
         obtain ⟨cq42, kq42, q42a, q42b, q42c⟩ := isOf hZ e40 f33_1
         obtain ⟨_, _, ⟨T42, L42, k42, n42⟩, -, X42, ⟨Lc42, hQ42, l42, y42, z42⟩, st42⟩ := X40.virtualBack hx (y := own_y27) (z := own_y27) hown (mvT hZ (own_w hw 65 rfl)) (mvT hZ (own_w hw 66 rfl)) (notFace_of_selects (args := #[]) (mvT hZ (own_w hw 68 rfl))) (mvT hZ (own_w hw 68 rfl)) (mvT hZ (own_w hw 67 rfl)) (by decide) (backOf (W := 0) (own_rm91 l Z a0 hw [] b15 lk_33 T33.heap n0 (Nat.le_trans Z0 K33.1) f33_1 f33_2) hZ (own_w hw 69 rfl) (own_w hw 28 rfl) (by decide) (by decide)) q42a q42c (g := (mkF m 282 (own_l38 i0 i1 i2 cs sb_13 sb_14 b15 b17) [(.ref b15)])) rfl (by rw [hml]; rfl) (Steps.refl _) (argsL := []) (rest := []) (lenOf own_pd16 rfl) rfl (Nat.le_of_eq rfl) (hb hby at_282) (fun _ _ => ⟨rfl, e40, (by decide : 7 + 0 ≤ _), (by decide : 27 + 0 ≤ _)⟩)
         dsimp only [Pt.U, Pt.locs, Pt.cells, Pt.slots] at X42 l42 y42 z42 st42 hQ42
         subst l42 y42 z42
         obtain ⟨rfl, N42q, e42⟩ := hQ42
         have N42 := Fr.app N40 N42q
         refine ownE.goS st42 ?_
         refine ownE.go (f' := (mkF m 312 (own_l38 i0 i1 i2 cs sb_13 sb_14 b15 b17) [(.int (1 : Int32))])) (fun t kt => XS.iload X42.here hx rfl (hb hby at_285) rfl (XS.ifNo X42.here hx rfl (hb hby at_287) rfl (Jvm.Free.XT.i0_ne_f (by decide)) (XS.iload X42.here hx rfl (hb hby at_290) rfl (XS.ifYes X42.here hx rfl (pc0 := 292) (pc' := 299) rfl (hb hby at_292) rfl (Jvm.Free.XT.i0_ne_t (by decide)) (by decide) (by decide) (XS.iconst X42.here hx rfl (hb hby at_299) (XS.icmpNo X42.here hx rfl (hb hby at_300) rfl (Jvm.Free.XT.ii_ne_f (by decide)) (XS.iconst X42.here hx rfl (hb hby at_303) (XS.goto X42.here hx rfl (pc0 := 304) (pc' := 308) rfl (hb hby at_304) (by decide) (by decide) (XS.istore X42.here hx rfl (hb hby at_308) rfl (l' := (own_l38 i0 i1 i2 cs sb_13 sb_14 b15 b17)) rfl (XS.iload X42.here hx rfl (hb hby at_310) rfl kt)))))))))) ?_
         refine ownE.retN X42 hx hlk (t := .boolean) hret (by simp) (hb hby at_312) ?_ (by decide) (by decide)
         show own_Q0l Z i0 i1 i2 cs fmt h0 n0 _ T42.heap _
         rw [e42]
         exact ⟨(by rw [own_f0l, if_pos hc20, if_neg hc21, if_neg hc35, if_pos hc41] <;> first | rfl | decide), N42, K33⟩
        · -- pc 250
         refine ownE.go (T' := T40) (f' := (mkF m 253 (own_l38 i0 i1 i2 cs sb_13 sb_14 b15 b17) [])) (fun t kt => XS.ifNo (g := (mkF m 250 (own_l38 i0 i1 i2 cs sb_13 sb_14 b15 b17) [(.int (own_j0l_50_S0 i0 i1 i2 cs))])) X40.here hx rfl (hb hby at_250) rfl (Jvm.Free.XT.i0_eq_f hc41) kt) ?_
         refine ownE.go (f' := (mkF m 257 (own_l38 i0 i1 i2 cs sb_13 sb_14 b15 b17) [(.ref sb_14), (.ref b15)])) (fun t kt => XS.aload X40.here hx rfl (hb hby at_253) rfl rfl (XS.aload X40.here hx rfl (hb hby at_255) rfl rfl kt)) ?_
         obtain ⟨cq43, kq43, q43a, q43b, q43c⟩ := isOf hZ e40 f33_1
         obtain ⟨_, _, ⟨T43, L43, k43, n43⟩, -, X43, ⟨Lc43, hQ43, l43, y43, z43⟩, st43⟩ := X40.virtualBack hx (y := own_y29) (z := own_y29) hown (mvT hZ (own_w hw 157 rfl)) (mvT hZ (own_w hw 158 rfl)) (notFace_of_selects (args := #[]) (mvT hZ (own_w hw 160 rfl))) (mvT hZ (own_w hw 160 rfl)) (mvT hZ (own_w hw 159 rfl)) (by decide) (backOf (W := 0) (own_rm271e l Z a0 hw [] b15 sb_14 vb_14 kb_14 ((((i1 &&& (255 : Int32)).toUInt32.toUInt16.toUInt32.toInt32).toInt8.toInt32).toInt8.toInt32) lk_33 sb_14 vb_14 kb_14 ((((i1 &&& (255 : Int32)).toUInt32.toUInt16.toUInt32.toInt32).toInt8.toInt32).toInt8.toInt32) b17 cs fmt T33.heap n0 (Nat.le_trans Z0 K33.1) q661 hcs hcsn zfm hfm f33_1 f33_2 ge_b15 f33_4 f33_5 f33_6 f33_7 q666 q668 q667 q669 q666 q668 q667 q669 rfl) hZ (own_w hw 161 rfl) (own_w hw 28 rfl) (by decide) (by decide)) q43a q43c (g := (mkF m 257 (own_l38 i0 i1 i2 cs sb_13 sb_14 b15 b17) [(.ref sb_14), (.ref b15)])) rfl (by rw [hml]; rfl) (Steps.refl _) (argsL := [(.ref sb_14)]) (rest := []) (lenOf own_pd30 rfl) rfl (Nat.le_of_eq rfl) (hb hby at_257) (fun _ _ => ⟨rfl, e40, (by decide : 7 + 0 ≤ _), (by decide : 27 + 0 ≤ _)⟩)
         dsimp only [Pt.U, Pt.locs, Pt.cells, Pt.slots] at X43 l43 y43 z43 st43 hQ43
         subst l43 y43 z43
         obtain ⟨rfl, N43q, K43q, f43_0, f43_1⟩ := hQ43
         have q689 := q661.keep K43q (allS ge_b15 all0)
         have q690 := q662.keep K43q
         have q691 := q663.keep K43q (ninS ne_sb_13_b15 nin0)
         have q692 := q664.keep K43q (ninS ne_sb_13_b15 nin0)
         have q693 := q665.keep K43q (ninS ne_vb_13_b15 nin0)
         have q694 := q666.keep K43q
         have q695 := q667.keep K43q (ninS ne_sb_14_b15 nin0)
         have q696 := q668.keep K43q (ninS ne_sb_14_b15 nin0)
         have q697 := q669.keep K43q (ninS ne_vb_14_b15 nin0)
         have q698 := f33_1.keep K43q
         have q699 := q671.keep K43q
         have q700 := f33_3.keep K43q
         have q701 := f33_4.keep K43q (ninS (Ne.symm ne_b15_lk_33) nin0)
         have q702 := f33_5.keep K43q (ninS (Ne.symm ne_b15_lk_33) nin0)
         have q703 := f33_6.keep K43q (ninS (Ne.symm ne_b15_lk_33) nin0)
         have q704 := f33_7.keep K43q (ninS (Ne.symm ne_b15_lk_33) nin0)
         have q705 := f33_8.keep K43q (ninS (Ne.symm ne_b15_lk_33) nin0)
         have K43 : Keep h0 T43.heap [] := K33.trans K43q (allS (Or.inr sz_b15) all0)
         have N43 := Fr.app N40 N43q
         refine ownE.goS st43 ?_
         refine ownE.go (f' := (mkF m 282 (own_l37 i0 i1 i2 cs sb_13 sb_14 b15 b17) [(.ref b15)])) (fun t kt => XS.pop X43.here hx rfl (hb hby at_260) rfl rfl (XS.iload X43.here hx rfl (hb hby at_261) rfl (XS.ifYes X43.here hx rfl (pc0 := 263) (pc' := 272) rfl (hb hby at_263) rfl (Jvm.Free.XT.i0_eq_t (by decide)) (by decide) (by decide) (XS.iconst X43.here hx rfl (hb hby at_272) (XS.istore X43.here hx rfl (hb hby at_273) rfl (l' := (own_l37 i0 i1 i2 cs sb_13 sb_14 b15 b17)) rfl (XS.iload X43.here hx rfl (hb hby at_275) rfl (XS.ifNo X43.here hx rfl (hb hby at_277) rfl (Jvm.Free.XT.i0_eq_f (by decide)) (XS.aload X43.here hx rfl (hb hby at_280) rfl rfl kt)))))))) ?_
         obtain ⟨cq44, kq44, q44a, q44b, q44c⟩ := isOf hZ rfl f43_0
         obtain ⟨_, _, ⟨T44, L44, k44, n44⟩, -, X44, ⟨Lc44, hQ44, l44, y44, z44⟩, st44⟩ := X43.virtualBack hx (y := own_y27) (z := own_y27) hown (mvT hZ (own_w hw 65 rfl)) (mvT hZ (own_w hw 66 rfl)) (notFace_of_selects (args := #[]) (mvT hZ (own_w hw 68 rfl))) (mvT hZ (own_w hw 68 rfl)) (mvT hZ (own_w hw 67 rfl)) (by decide) (backOf (W := 0) (own_rm90 l Z a0 hw [] b15 T43.heap n0 (Nat.le_trans Z0 K43.1) f43_0 f43_1) hZ (own_w hw 69 rfl) (own_w hw 28 rfl) (by decide) (by decide)) q44a q44c (g := (mkF m 282 (own_l37 i0 i1 i2 cs sb_13 sb_14 b15 b17) [(.ref b15)])) rfl (by rw [hml]; rfl) (Steps.refl _) (argsL := []) (rest := []) (lenOf own_pd16 rfl) rfl (Nat.le_of_eq rfl) (hb hby at_282) (fun _ _ => ⟨rfl, rfl, (by decide : 7 + 0 ≤ _), (by decide : 27 + 0 ≤ _)⟩)
         dsimp only [Pt.U, Pt.locs, Pt.cells, Pt.slots] at X44 l44 y44 z44 st44 hQ44
         subst l44 y44 z44
         obtain ⟨rfl, N44q, e44⟩ := hQ44
         have N44 := Fr.app N43 N44q
         refine ownE.goS st44 ?_
         refine ownE.go (f' := (mkF m 312 (own_l37 i0 i1 i2 cs sb_13 sb_14 b15 b17) [(.int (1 : Int32))])) (fun t kt => XS.iload X44.here hx rfl (hb hby at_285) rfl (XS.ifNo X44.here hx rfl (hb hby at_287) rfl (Jvm.Free.XT.i0_ne_f (by decide)) (XS.iload X44.here hx rfl (hb hby at_290) rfl (XS.ifNo X44.here hx rfl (hb hby at_292) rfl (Jvm.Free.XT.i0_ne_f (by decide)) (XS.iconst X44.here hx rfl (hb hby at_295) (XS.goto X44.here hx rfl (pc0 := 296) (pc' := 300) rfl (hb hby at_296) (by decide) (by decide) (XS.icmpNo X44.here hx rfl (hb hby at_300) rfl (Jvm.Free.XT.ii_ne_f (by decide)) (XS.iconst X44.here hx rfl (hb hby at_303) (XS.goto X44.here hx rfl (pc0 := 304) (pc' := 308) rfl (hb hby at_304) (by decide) (by decide) (XS.istore X44.here hx rfl (hb hby at_308) rfl (l' := (own_l37 i0 i1 i2 cs sb_13 sb_14 b15 b17)) rfl (XS.iload X44.here hx rfl (hb hby at_310) rfl kt))))))))))) ?_
         refine ownE.retN X44 hx hlk (t := .boolean) hret (by simp) (hb hby at_312) ?_ (by decide) (by decide)
         show own_Q0l Z i0 i1 i2 cs fmt h0 n0 _ T44.heap _
         rw [e44]
         exact ⟨(by rw [own_f0l, if_pos hc20, if_neg hc21, if_neg hc35, if_neg hc41] <;> first | rfl | decide), N44, K43⟩
     · -- pc 131
      refine ownE.go (T' := T19) (f' := (mkF m 134 (own_l35 i0 i1 i2 cs sb_13 sb_14 b15 b17) [])) (fun t kt => XS.ifNo (g := (mkF m 131 (own_l35 i0 i1 i2 cs sb_13 sb_14 b15 b17) [(.int (own_j0l_11_S0 i0 i1 i2 cs))])) X19.here hx rfl (hb hby at_131) rfl (Jvm.Free.XT.i0_eq_f hc20) kt) ?_
      refine ownE.go (f' := (mkF m 140 (own_l35 i0 i1 i2 cs sb_13 sb_14 b15 b17) [(.ref b17), (.ref sb_13), (.ref b15)])) (fun t kt => XS.aload X19.here hx rfl (hb hby at_134) rfl rfl (XS.aload X19.here hx rfl (hb hby at_136) rfl rfl (XS.aload X19.here hx rfl (hb hby at_138) rfl rfl kt))) ?_
      obtain ⟨cq45, kq45, q45a, q45b, q45c⟩ := isOf hZ e19 q658
      obtain ⟨_, _, ⟨T45, L45, k45, n45⟩, -, X45, ⟨Lc45, hQ45, l45, y45, z45⟩, st45⟩ := X19.virtualBack hx (y := own_y28) (z := own_y28) hown (mvT hZ (own_w hw 72 rfl)) (mvT hZ (own_w hw 73 rfl)) (notFace_of_selects (args := #[]) (mvT hZ (own_w hw 75 rfl))) (mvT hZ (own_w hw 75 rfl)) (mvT hZ (own_w hw 74 rfl)) (by decide) (backOf (W := 0) (own_rm100 l Z a0 hw [] b15 sb_13 b17 T18.heap n0 (Nat.le_trans Z0 K18.1) q658 q659 ge_b15) hZ (own_w hw 76 rfl) (own_w hw 28 rfl) (by decide) (by decide)) q45a q45c (g := (mkF m 140 (own_l35 i0 i1 i2 cs sb_13 sb_14 b15 b17) [(.ref b17), (.ref sb_13), (.ref b15)])) rfl (by rw [hml]; rfl) (Steps.refl _) (argsL := [(.ref sb_13), (.ref b17)]) (rest := []) (lenOf own_pd34 rfl) rfl (Nat.le_of_eq rfl) (hb hby at_140) (fun _ _ => ⟨rfl, e19, (by decide : 6 + 1 ≤ _), (by decide : 22 + 5 ≤ _)⟩)
      dsimp only [Pt.U, Pt.locs, Pt.cells, Pt.slots] at X45 l45 y45 z45 st45 hQ45
      subst l45 y45 z45
      obtain ⟨lk_45, rfl, N45q, K45q, f45_0, f45_1, f45_2, f45_3, f45_4, f45_5, f45_6, f45_7, f45_8⟩ := hQ45
      have ne_sb_13_lk_45 : sb_13 ≠ lk_45 := Nat.ne_of_lt (Nat.lt_of_lt_of_le q650.lt f45_0)
      have ne_vb_13_lk_45 : vb_13 ≠ lk_45 := Nat.ne_of_lt (Nat.lt_of_lt_of_le q653.lt f45_0)
      have ne_sb_14_lk_45 : sb_14 ≠ lk_45 := Nat.ne_of_lt (Nat.lt_of_lt_of_le q654.lt f45_0)
      have ne_vb_14_lk_45 : vb_14 ≠ lk_45 := Nat.ne_of_lt (Nat.lt_of_lt_of_le q657.lt f45_0)
      have ne_b15_lk_45 : b15 ≠ lk_45 := Nat.ne_of_lt (Nat.lt_of_lt_of_le q658.lt f45_0)
      have ne_b17_lk_45 : b17 ≠ lk_45 := Nat.ne_of_lt (Nat.lt_of_lt_of_le f18_0.lt f45_0)
      have q706 := q649.keep K45q (allS ge_b15 all0)
      have q707 := q650.keep K45q
      have q708 := q651.keep K45q (ninS ne_sb_13_b15 nin0)
      have q709 := q652.keep K45q (ninS ne_sb_13_b15 nin0)
      have q710 := q653.keep K45q (ninS ne_vb_13_b15 nin0)
      have q711 := q654.keep K45q
      have q712 := q655.keep K45q (ninS ne_sb_14_b15 nin0)
      have q713 := q656.keep K45q (ninS ne_sb_14_b15 nin0)
      have q714 := q657.keep K45q (ninS ne_vb_14_b15 nin0)
      have q715 := q658.keep K45q
      have q716 := f18_0.keep K45q
      have K45 : Keep h0 T45.heap [] := K18.trans K45q (allS (Or.inr sz_b15) all0)
      have sz_lk_45 : h0.size ≤ lk_45 := Nat.le_trans K18.1 f45_0
      have ge_lk_45 : n0 ≤ lk_45 := Nat.le_trans Z0 sz_lk_45
      have N45 := Fr.app N19 N45q
      refine ownE.goS st45 ?_
      refine ownE.go (f' := (mkF m 146 (own_l35 i0 i1 i2 cs sb_13 sb_14 b15 b17) [(.int (own_j0l_23_S0 i0 i1 i2 cs))])) (fun t kt => XS.pop X45.here hx rfl (hb hby at_143) rfl rfl (XS.iload X45.here hx rfl (hb hby at_144) rfl kt)) ?_
      by_cases hc46 : (own_j0l_23_S0 i0 i1 i2 cs) = (0 : Int32)
      · -- pc 146
       refine ownE.go (T' := T45) (f' := (mkF m 159 (own_l35 i0 i1 i2 cs sb_13 sb_14 b15 b17) [])) (fun t kt => XS.ifYes (g := (mkF m 146 (own_l35 i0 i1 i2 cs sb_13 sb_14 b15 b17) [(.int (own_j0l_23_S0 i0 i1 i2 cs))])) X45.here hx rfl (pc0 := 146) (pc' := 159) rfl (hb hby at_146) rfl (Jvm.Free.XT.i0_eq_t hc46) (by decide) (by decide) kt) ?_
       refine ownE.go (f' := (mkF m 204 (own_l40 i0 i1 i2 cs sb_13 sb_14 b15 b17) [(.ref b15)])) (fun t kt => XS.iloadN X45.here hx rfl (hb hby at_159) rfl (XS.ifYes X45.here hx rfl (pc0 := 160) (pc' := 173) rfl (hb hby at_160) rfl (Jvm.Free.XT.i0_ne_t hc20) (by decide) (by decide) (XS.iconst X45.here hx rfl (hb hby at_173) (XS.goto X45.here hx rfl (pc0 := 174) (pc' := 178) rfl (hb hby at_174) (by decide) (by decide) (XS.istore X45.here hx rfl (hb hby at_178) rfl (l' := (own_l39 i0 i1 i2 cs sb_13 sb_14 b15 b17)) rfl (XS.iload X45.here hx rfl (hb hby at_180) rfl (XS.ifYes X45.here hx rfl (pc0 := 182) (pc' := 194) rfl (hb hby at_182) rfl (Jvm.Free.XT.i0_eq_t hc46) (by decide) (by decide) (XS.iconst X45.here hx rfl (hb hby at_194) (XS.istore X45.here hx rfl (hb hby at_195) rfl (l' := (own_l40 i0 i1 i2 cs sb_13 sb_14 b15 b17)) rfl (XS.iload X45.here hx rfl (hb hby at_197) rfl (XS.ifNo X45.here hx rfl (hb hby at_199) rfl (Jvm.Free.XT.i0_eq_f (by decide)) (XS.aload X45.here hx rfl (hb hby at_202) rfl rfl kt)))))))))))) ?_
       obtain ⟨cq47, kq47, q47a, q47b, q47c⟩ := isOf hZ rfl f45_1
       obtain ⟨_, _, ⟨T47, L47, k47, n47⟩, -, X47, ⟨Lc47, hQ47, l47, y47, z47⟩, st47⟩ := X45.virtualBack hx (y := own_y27) (z := own_y27) hown (mvT hZ (own_w hw 65 rfl)) (mvT hZ (own_w hw 66 rfl)) (notFace_of_selects (args := #[]) (mvT hZ (own_w hw 68 rfl))) (mvT hZ (own_w hw 68 rfl)) (mvT hZ (own_w hw 67 rfl)) (by decide) (backOf (W := 0) (own_rm91 l Z a0 hw [] b15 lk_45 T45.heap n0 (Nat.le_trans Z0 K45.1) f45_1 f45_2) hZ (own_w hw 69 rfl) (own_w hw 28 rfl) (by decide) (by decide)) q47a q47c (g := (mkF m 204 (own_l40 i0 i1 i2 cs sb_13 sb_14 b15 b17) [(.ref b15)])) rfl (by rw [hml]; rfl) (Steps.refl _) (argsL := []) (rest := []) (lenOf own_pd16 rfl) rfl (Nat.le_of_eq rfl) (hb hby at_204) (fun _ _ => ⟨rfl, rfl, (by decide : 7 + 0 ≤ _), (by decide : 27 + 0 ≤ _)⟩)
       dsimp only [Pt.U, Pt.locs, Pt.cells, Pt.slots] at X47 l47 y47 z47 st47 hQ47
       subst l47 y47 z47
       obtain ⟨rfl, N47q, e47⟩ := hQ47
       have N47 := Fr.app N45 N47q
       refine ownE.goS st47 ?_
       refine ownE.go (f' := (mkF m 234 (own_l40 i0 i1 i2 cs sb_13 sb_14 b15 b17) [(.int (own_j0l_36_S0 i0 i1 i2 cs))])) (fun t kt => XS.iload X47.here hx rfl (hb hby at_207) rfl (XS.ifYes X47.here hx rfl (pc0 := 209) (pc' := 221) rfl (hb hby at_209) rfl (Jvm.Free.XT.i0_ne_t (by decide)) (by decide) (by decide) (XS.iconst X47.here hx rfl (hb hby at_221) (XS.icmpNo X47.here hx rfl (hb hby at_222) rfl (Jvm.Free.XT.ii_ne_f (by decide)) (XS.iconst X47.here hx rfl (hb hby at_225) (XS.goto X47.here hx rfl (pc0 := 226) (pc' := 230) rfl (hb hby at_226) (by decide) (by decide) (XS.istore X47.here hx rfl (hb hby at_230) rfl (l' := (own_l40 i0 i1 i2 cs sb_13 sb_14 b15 b17)) rfl (XS.iload X47.here hx rfl (hb hby at_232) rfl kt)))))))) ?_
       by_cases hc48 : (own_j0l_36_S0 i0 i1 i2 cs) = (0 : Int32)
       · -- pc 234
        refine ownE.go (T' := T47) (f' := (mkF m 248 (own_l40 i0 i1 i2 cs sb_13 sb_14 b15 b17) [])) (fun t kt => XS.ifYes (g := (mkF m 234 (own_l40 i0 i1 i2 cs sb_13 sb_14 b15 b17) [(.int (own_j0l_36_S0 i0 i1 i2 cs))])) X47.here hx rfl (pc0 := 234) (pc' := 248) rfl (hb hby at_234) rfl (Jvm.Free.XT.i0_eq_t hc48) (by decide) (by decide) kt) ?_
        refine ownE.go (f' := (mkF m 250 (own_l40 i0 i1 i2 cs sb_13 sb_14 b15 b17) [(.int (own_j0l_50_S0 i0 i1 i2 cs))])) (fun t kt => XS.iload X47.here hx rfl (hb hby at_248) rfl kt) ?_
        by_cases hc49 : (own_j0l_50_S0 i0 i1 i2 cs) = (0 : Int32)
        · -- pc 250
         refine ownE.go (T' := T47) (f' := (mkF m 275 (own_l40 i0 i1 i2 cs sb_13 sb_14 b15 b17) [])) (fun t kt => XS.ifYes (g := (mkF m 250 (own_l40 i0 i1 i2 cs sb_13 sb_14 b15 b17) [(.int (own_j0l_50_S0 i0 i1 i2 cs))])) X47.here hx rfl (pc0 := 250) (pc' := 275) rfl (hb hby at_250) rfl (Jvm.Free.XT.i0_eq_t hc49) (by decide) (by decide) kt) ?_
         refine ownE.go (f' := (mkF m 282 (own_l40 i0 i1 i2 cs sb_13 sb_14 b15 b17) [(.ref b15)])) (fun t kt => XS.iload X47.here hx rfl (hb hby at_275) rfl (XS.ifNo X47.here hx rfl (hb hby at_277) rfl (Jvm.Free.XT.i0_eq_f (by decide)) (XS.aload X47.here hx rfl (hb hby at_280) rfl rfl kt))) ?_
         obtain ⟨cq50, kq50, q50a, q50b, q50c⟩ := isOf hZ e47 f45_1
         obtain ⟨_, _, ⟨T50, L50, k50, n50⟩, -, X50, ⟨Lc50, hQ50, l50, y50, z50⟩, st50⟩ := X47.virtualBack hx (y := own_y27) (z := own_y27) hown (mvT hZ (own_w hw 65 rfl)) (mvT hZ (own_w hw 66 rfl)) (notFace_of_selects (args := #[]) (mvT hZ (own_w hw 68 rfl))) (mvT hZ (own_w hw 68 rfl)) (mvT hZ (own_w hw 67 rfl)) (by decide) (backOf (W := 0) (own_rm91 l Z a0 hw [] b15 lk_45 T45.heap n0 (Nat.le_trans Z0 K45.1) f45_1 f45_2) hZ (own_w hw 69 rfl) (own_w hw 28 rfl) (by decide) (by decide)) q50a q50c (g := (mkF m 282 (own_l40 i0 i1 i2 cs sb_13 sb_14 b15 b17) [(.ref b15)])) rfl (by rw [hml]; rfl) (Steps.refl _) (argsL := []) (rest := []) (lenOf own_pd16 rfl) rfl (Nat.le_of_eq rfl) (hb hby at_282) (fun _ _ => ⟨rfl, e47, (by decide : 7 + 0 ≤ _), (by decide : 27 + 0 ≤ _)⟩)
         dsimp only [Pt.U, Pt.locs, Pt.cells, Pt.slots] at X50 l50 y50 z50 st50 hQ50
         subst l50 y50 z50
         obtain ⟨rfl, N50q, e50⟩ := hQ50
         have N50 := Fr.app N47 N50q
         refine ownE.goS st50 ?_
         refine ownE.go (f' := (mkF m 312 (own_l40 i0 i1 i2 cs sb_13 sb_14 b15 b17) [(.int (1 : Int32))])) (fun t kt => XS.iload X50.here hx rfl (hb hby at_285) rfl (XS.ifYes X50.here hx rfl (pc0 := 287) (pc' := 299) rfl (hb hby at_287) rfl (Jvm.Free.XT.i0_ne_t (by decide)) (by decide) (by decide) (XS.iconst X50.here hx rfl (hb hby at_299) (XS.icmpNo X50.here hx rfl (hb hby at_300) rfl (Jvm.Free.XT.ii_ne_f (by decide)) (XS.iconst X50.here hx rfl (hb hby at_303) (XS.goto X50.here hx rfl (pc0 := 304) (pc' := 308) rfl (hb hby at_304) (by decide) (by decide) (XS.istore X50.here hx rfl (hb hby at_308) rfl (l' := (own_l40 i0 i1 i2 cs sb_13 sb_14 b15 b17)) rfl (XS.iload X50.here hx rfl (hb hby at_310) rfl kt)))))))) ?_
         refine ownE.retN X50 hx hlk (t := .boolean) hret (by simp) (hb hby at_312) ?_ (by decide) (by decide)
         show own_Q0l Z i0 i1 i2 cs fmt h0 n0 _ T50.heap _
         rw [e50]
         exact ⟨(by rw [own_f0l, if_neg hc20, if_pos hc46, if_pos hc48, if_pos hc49] <;> first | rfl | decide), N50, K45⟩
        · -- pc 250
         refine ownE.go (T' := T47) (f' := (mkF m 253 (own_l40 i0 i1 i2 cs sb_13 sb_14 b15 b17) [])) (fun t kt => XS.ifNo (g := (mkF m 250 (own_l40 i0 i1 i2 cs sb_13 sb_14 b15 b17) [(.int (own_j0l_50_S0 i0 i1 i2 cs))])) X47.here hx rfl (hb hby at_250) rfl (Jvm.Free.XT.i0_eq_f hc49) kt) ?_
         refine ownE.go (f' := (mkF m 257 (own_l40 i0 i1 i2 cs sb_13 sb_14 b15 b17) [(.ref sb_14), (.ref b15)])) (fun t kt => XS.aload X47.here hx rfl (hb hby at_253) rfl rfl (XS.aload X47.here hx rfl (hb hby at_255) rfl rfl kt)) ?_
         obtain ⟨cq51, kq51, q51a, q51b, q51c⟩ := isOf hZ e47 f45_1
         obtain ⟨_, _, ⟨T51, L51, k51, n51⟩, -, X51, ⟨Lc51, hQ51, l51, y51, z51⟩, st51⟩ := X47.virtualBack hx (y := own_y29) (z := own_y29) hown (mvT hZ (own_w hw 157 rfl)) (mvT hZ (own_w hw 158 rfl)) (notFace_of_selects (args := #[]) (mvT hZ (own_w hw 160 rfl))) (mvT hZ (own_w hw 160 rfl)) (mvT hZ (own_w hw 159 rfl)) (by decide) (backOf (W := 0) (own_rm271g l Z a0 hw [] b15 sb_14 vb_14 kb_14 ((((i1 &&& (255 : Int32)).toUInt32.toUInt16.toUInt32.toInt32).toInt8.toInt32).toInt8.toInt32) lk_45 sb_13 vb_13 kb_13 ((((i0 &&& (255 : Int32)).toUInt32.toUInt16.toUInt32.toInt32).toInt8.toInt32).toInt8.toInt32) cs fmt T45.heap n0 (Nat.le_trans Z0 K45.1) q706 hcs hcsn zfm hfm f45_1 f45_2 f45_4 f45_7 q711 q713 q712 q714 q707 q709 q708 q710 (by rw [own_xc, own_xc]; exact (fun q => hN q.symm)) (by rw [own_xc, own_xc]; exact (own_asym hL))) hZ (own_w hw 161 rfl) (own_w hw 28 rfl) (by decide) (by decide)) q51a q51c (g := (mkF m 257 (own_l40 i0 i1 i2 cs sb_13 sb_14 b15 b17) [(.ref sb_14), (.ref b15)])) rfl (by rw [hml]; rfl) (Steps.refl _) (argsL := [(.ref sb_14)]) (rest := []) (lenOf own_pd30 rfl) rfl (Nat.le_of_eq rfl) (hb hby at_257) (fun _ _ => ⟨rfl, e47, (by decide : 7 + 0 ≤ _), (by decide : 27 + 0 ≤ _)⟩)
         dsimp only [Pt.U, Pt.locs, Pt.cells, Pt.slots] at X51 l51 y51 z51 st51 hQ51
         subst l51 y51 z51
         obtain ⟨rfl, N51q, e51⟩ := hQ51
         have N51 := Fr.app N47 N51q
         refine ownE.goS st51 ?_
         refine ownE.go (f' := (mkF m 282 (own_l40 i0 i1 i2 cs sb_13 sb_14 b15 b17) [(.ref b15)])) (fun t kt => XS.pop X51.here hx rfl (hb hby at_260) rfl rfl (XS.iload X51.here hx rfl (hb hby at_261) rfl (XS.ifYes X51.here hx rfl (pc0 := 263) (pc' := 272) rfl (hb hby at_263) rfl (Jvm.Free.XT.i0_eq_t (by decide)) (by decide) (by decide) (XS.iconst X51.here hx rfl (hb hby at_272) (XS.istore X51.here hx rfl (hb hby at_273) rfl (l' := (own_l40 i0 i1 i2 cs sb_13 sb_14 b15 b17)) rfl (XS.iload X51.here hx rfl (hb hby at_275) rfl (XS.ifNo X51.here hx rfl (hb hby at_277) rfl (Jvm.Free.XT.i0_eq_f (by decide)) (XS.aload X51.here hx rfl (hb hby at_280) rfl rfl kt)))))))) ?_
         obtain ⟨cq52, kq52, q52a, q52b, q52c⟩ := isOf hZ e51 f45_1
         obtain ⟨_, _, ⟨T52, L52, k52, n52⟩, -, X52, ⟨Lc52, hQ52, l52, y52, z52⟩, st52⟩ := X51.virtualBack hx (y := own_y27) (z := own_y27) hown (mvT hZ (own_w hw 65 rfl)) (mvT hZ (own_w hw 66 rfl)) (notFace_of_selects (args := #[]) (mvT hZ (own_w hw 68 rfl))) (mvT hZ (own_w hw 68 rfl)) (mvT hZ (own_w hw 67 rfl)) (by decide) (backOf (W := 0) (own_rm91 l Z a0 hw [] b15 lk_45 T45.heap n0 (Nat.le_trans Z0 K45.1) f45_1 f45_2) hZ (own_w hw 69 rfl) (own_w hw 28 rfl) (by decide) (by decide)) q52a q52c (g := (mkF m 282 (own_l40 i0 i1 i2 cs sb_13 sb_14 b15 b17) [(.ref b15)])) rfl (by rw [hml]; rfl) (Steps.refl _) (argsL := []) (rest := []) (lenOf own_pd16 rfl) rfl (Nat.le_of_eq rfl) (hb hby at_282) (fun _ _ => ⟨rfl, e51, (by decide : 7 + 0 ≤ _), (by decide : 27 + 0 ≤ _)⟩)
         dsimp only [Pt.U, Pt.locs, Pt.cells, Pt.slots] at X52 l52 y52 z52 st52 hQ52
         subst l52 y52 z52
         obtain ⟨rfl, N52q, e52⟩ := hQ52
         have N52 := Fr.app N51 N52q
         refine ownE.goS st52 ?_
         refine ownE.go (f' := (mkF m 312 (own_l40 i0 i1 i2 cs sb_13 sb_14 b15 b17) [(.int (1 : Int32))])) (fun t kt => XS.iload X52.here hx rfl (hb hby at_285) rfl (XS.ifYes X52.here hx rfl (pc0 := 287) (pc' := 299) rfl (hb hby at_287) rfl (Jvm.Free.XT.i0_ne_t (by decide)) (by decide) (by decide) (XS.iconst X52.here hx rfl (hb hby at_299) (XS.icmpNo X52.here hx rfl (hb hby at_300) rfl (Jvm.Free.XT.ii_ne_f (by decide)) (XS.iconst X52.here hx rfl (hb hby at_303) (XS.goto X52.here hx rfl (pc0 := 304) (pc' := 308) rfl (hb hby at_304) (by decide) (by decide) (XS.istore X52.here hx rfl (hb hby at_308) rfl (l' := (own_l40 i0 i1 i2 cs sb_13 sb_14 b15 b17)) rfl (XS.iload X52.here hx rfl (hb hby at_310) rfl kt)))))))) ?_
         refine ownE.retN X52 hx hlk (t := .boolean) hret (by simp) (hb hby at_312) ?_ (by decide) (by decide)
         show own_Q0l Z i0 i1 i2 cs fmt h0 n0 _ T52.heap _
         rw [e52]
         exact ⟨(by rw [own_f0l, if_neg hc20, if_pos hc46, if_pos hc48, if_neg hc49] <;> first | rfl | decide), N52, K45⟩
       · -- pc 234
        refine ownE.go (T' := T47) (f' := (mkF m 237 (own_l40 i0 i1 i2 cs sb_13 sb_14 b15 b17) [])) (fun t kt => XS.ifNo (g := (mkF m 234 (own_l40 i0 i1 i2 cs sb_13 sb_14 b15 b17) [(.int (own_j0l_36_S0 i0 i1 i2 cs))])) X47.here hx rfl (hb hby at_234) rfl (Jvm.Free.XT.i0_eq_f hc48) kt) ?_
        refine ownE.go (f' := (mkF m 241 (own_l40 i0 i1 i2 cs sb_13 sb_14 b15 b17) [(.ref sb_13), (.ref b15)])) (fun t kt => XS.aload X47.here hx rfl (hb hby at_237) rfl rfl (XS.aload X47.here hx rfl (hb hby at_239) rfl rfl kt)) ?_
        obtain ⟨cq53, kq53, q53a, q53b, q53c⟩ := isOf hZ e47 f45_1
        obtain ⟨_, _, ⟨T53, L53, k53, n53⟩, -, X53, ⟨Lc53, hQ53, l53, y53, z53⟩, st53⟩ := X47.virtualBack hx (y := own_y29) (z := own_y29) hown (mvT hZ (own_w hw 157 rfl)) (mvT hZ (own_w hw 158 rfl)) (notFace_of_selects (args := #[]) (mvT hZ (own_w hw 160 rfl))) (mvT hZ (own_w hw 160 rfl)) (mvT hZ (own_w hw 159 rfl)) (by decide) (backOf (W := 0) (own_rm271e l Z a0 hw [] b15 sb_13 vb_13 kb_13 ((((i0 &&& (255 : Int32)).toUInt32.toUInt16.toUInt32.toInt32).toInt8.toInt32).toInt8.toInt32) lk_45 sb_13 vb_13 kb_13 ((((i0 &&& (255 : Int32)).toUInt32.toUInt16.toUInt32.toInt32).toInt8.toInt32).toInt8.toInt32) b17 cs fmt T45.heap n0 (Nat.le_trans Z0 K45.1) q706 hcs hcsn zfm hfm f45_1 f45_2 ge_b15 f45_4 f45_5 f45_6 f45_7 q707 q709 q708 q710 q707 q709 q708 q710 rfl) hZ (own_w hw 161 rfl) (own_w hw 28 rfl) (by decide) (by decide)) q53a q53c (g := (mkF m 241 (own_l40 i0 i1 i2 cs sb_13 sb_14 b15 b17) [(.ref sb_13), (.ref b15)])) rfl (by rw [hml]; rfl) (Steps.refl _) (argsL := [(.ref sb_13)]) (rest := []) (lenOf own_pd30 rfl) rfl (Nat.le_of_eq rfl) (hb hby at_241) (fun _ _ => ⟨rfl, e47, (by decide : 7 + 0 ≤ _), (by decide : 27 + 0 ≤ _)⟩)
        dsimp only [Pt.U, Pt.locs, Pt.cells, Pt.slots] at X53 l53 y53 z53 st53 hQ53
        subst l53 y53 z53
        obtain ⟨rfl, N53q, K53q, f53_0, f53_1⟩ := hQ53
        have q717 := q706.keep K53q (allS ge_b15 all0)
        have q718 := q707.keep K53q
        have q719 := q708.keep K53q (ninS ne_sb_13_b15 nin0)
        have q720 := q709.keep K53q (ninS ne_sb_13_b15 nin0)
        have q721 := q710.keep K53q (ninS ne_vb_13_b15 nin0)
        have q722 := q711.keep K53q
        have q723 := q712.keep K53q (ninS ne_sb_14_b15 nin0)
        have q724 := q713.keep K53q (ninS ne_sb_14_b15 nin0)
        have q725 := q714.keep K53q (ninS ne_vb_14_b15 nin0)
        have q726 := f45_1.keep K53q
        have q727 := q716.keep K53q
        have q728 := f45_3.keep K53q
        have q729 := f45_4.keep K53q (ninS (Ne.symm ne_b15_lk_45) nin0)
        have q730 := f45_5.keep K53q (ninS (Ne.symm ne_b15_lk_45) nin0)
        have q731 := f45_6.keep K53q (ninS (Ne.symm ne_b15_lk_45) nin0)
        have q732 := f45_7.keep K53q (ninS (Ne.symm ne_b15_lk_45) nin0)
        have q733 := f45_8.keep K53q (ninS (Ne.symm ne_b15_lk_45) nin0)
        have K53 : Keep h0 T53.heap [] := K45.trans K53q (allS (Or.inr sz_b15) all0)
        have N53 := Fr.app N47 N53q
        refine ownE.goS st53 ?_
        refine ownE.go (f' := (mkF m 250 (own_l37 i0 i1 i2 cs sb_13 sb_14 b15 b17) [(.int (own_j0l_50_S0 i0 i1 i2 cs))])) (fun t kt => XS.pop X53.here hx rfl (hb hby at_244) rfl rfl (XS.iconst X53.here hx rfl (hb hby at_245) (XS.istore X53.here hx rfl (hb hby at_246) rfl (l' := (own_l37 i0 i1 i2 cs sb_13 sb_14 b15 b17)) rfl (XS.iload X53.here hx rfl (hb hby at_248) rfl kt)))) ?_
        by_cases hc54 : (own_j0l_50_S0 i0 i1 i2 cs) = (0 : Int32)
        · -- pc 250
         refine ownE.go (T' := T53) (f' := (mkF m 275 (own_l37 i0 i1 i2 cs sb_13 sb_14 b15 b17) [])) (fun t kt => XS.ifYes (g := (mkF m 250 (own_l37 i0 i1 i2 cs sb_13 sb_14 b15 b17) [(.int (own_j0l_50_S0 i0 i1 i2 cs))])) X53.here hx rfl (pc0 := 250) (pc' := 275) rfl (hb hby at_250) rfl (Jvm.Free.XT.i0_eq_t hc54) (by decide) (by decide) kt) ?_
         refine ownE.go (f' := (mkF m 282 (own_l37 i0 i1 i2 cs sb_13 sb_14 b15 b17) [(.ref b15)])) (fun t kt => XS.iload X53.here hx rfl (hb hby at_275) rfl (XS.ifNo X53.here hx rfl (hb hby at_277) rfl (Jvm.Free.XT.i0_eq_f (by decide)) (XS.aload X53.here hx rfl (hb hby at_280) rfl rfl kt))) ?_
         obtain ⟨cq55, kq55, q55a, q55b, q55c⟩ := isOf hZ rfl f53_0
         obtain ⟨_, _, ⟨T55, L55, k55, n55⟩, -, X55, ⟨Lc55, hQ55, l55, y55, z55⟩, st55⟩ := X53.virtualBack hx (y := own_y27) (z := own_y27) hown (mvT hZ (own_w hw 65 rfl)) (mvT hZ (own_w hw 66 rfl)) (notFace_of_selects (args := #[]) (mvT hZ (own_w hw 68 rfl))) (mvT hZ (own_w hw 68 rfl)) (mvT hZ (own_w hw 67 rfl)) (by decide) (backOf (W := 0) (own_rm90 l Z a0 hw [] b15 T53.heap n0 (Nat.le_trans Z0 K53.1) f53_0 f53_1) hZ (own_w hw 69 rfl) (own_w hw 28 rfl) (by decide) (by decide)) q55a q55c (g := (mkF m 282 (own_l37 i0 i1 i2 cs sb_13 sb_14 b15 b17) [(.ref b15)])) rfl (by rw [hml]; rfl) (Steps.refl _) (argsL := []) (rest := []) (lenOf own_pd16 rfl) rfl (Nat.le_of_eq rfl) (hb hby at_282) (fun _ _ => ⟨rfl, rfl, (by decide : 7 + 0 ≤ _), (by decide : 27 + 0 ≤ _)⟩)
         dsimp only [Pt.U, Pt.locs, Pt.cells, Pt.slots] at X55 l55 y55 z55 st55 hQ55
         subst l55 y55 z55
         obtain ⟨rfl, N55q, e55⟩ := hQ55
         have N55 := Fr.app N53 N55q
         refine ownE.goS st55 ?_
         refine ownE.go (f' := (mkF m 312 (own_l37 i0 i1 i2 cs sb_13 sb_14 b15 b17) [(.int (1 : Int32))])) (fun t kt => XS.iload X55.here hx rfl (hb hby at_285) rfl (XS.ifNo X55.here hx rfl (hb hby at_287) rfl (Jvm.Free.XT.i0_ne_f (by decide)) (XS.iload X55.here hx rfl (hb hby at_290) rfl (XS.ifNo X55.here hx rfl (hb hby at_292) rfl (Jvm.Free.XT.i0_ne_f (by decide)) (XS.iconst X55.here hx rfl (hb hby at_295) (XS.goto X55.here hx rfl (pc0 := 296) (pc' := 300) rfl (hb hby at_296) (by decide) (by decide) (XS.icmpNo X55.here hx rfl (hb hby at_300) rfl (Jvm.Free.XT.ii_ne_f (by decide)) (XS.iconst X55.here hx rfl (hb hby at_303) (XS.goto X55.here hx rfl (pc0 := 304) (pc' := 308) rfl (hb hby at_304) (by decide) (by decide) (XS.istore X55.here hx rfl (hb hby at_308) rfl (l' := (own_l37 i0 i1 i2 cs sb_13 sb_14 b15 b17)) rfl (XS.iload X55.here hx rfl (hb hby at_310) rfl kt))))))))))) ?_
         refine ownE.retN X55 hx hlk (t := .boolean) hret (by simp) (hb hby at_312) ?_ (by decide) (by decide)
         show own_Q0l Z i0 i1 i2 cs fmt h0 n0 _ T55.heap _
         rw [e55]
         exact ⟨(by rw [own_f0l, if_neg hc20, if_pos hc46, if_neg hc48, if_pos hc54] <;> first | rfl | decide), N55, K53⟩
        · -- pc 250
         refine ownE.go (T' := T53) (f' := (mkF m 253 (own_l37 i0 i1 i2 cs sb_13 sb_14 b15 b17) [])) (fun t kt => XS.ifNo (g := (mkF m 250 (own_l37 i0 i1 i2 cs sb_13 sb_14 b15 b17) [(.int (own_j0l_50_S0 i0 i1 i2 cs))])) X53.here hx rfl (hb hby at_250) rfl (Jvm.Free.XT.i0_eq_f hc54) kt) ?_
         refine ownE.go (f' := (mkF m 257 (own_l37 i0 i1 i2 cs sb_13 sb_14 b15 b17) [(.ref sb_14), (.ref b15)])) (fun t kt => XS.aload X53.here hx rfl (hb hby at_253) rfl rfl (XS.aload X53.here hx rfl (hb hby at_255) rfl rfl kt)) ?_
         obtain ⟨cq56, kq56, q56a, q56b, q56c⟩ := isOf hZ rfl f53_0
         obtain ⟨_, _, ⟨T56, L56, k56, n56⟩, -, X56, ⟨Lc56, hQ56, l56, y56, z56⟩, st56⟩ := X53.virtualBack hx (y := own_y29) (z := own_y29) hown (mvT hZ (own_w hw 157 rfl)) (mvT hZ (own_w hw 158 rfl)) (notFace_of_selects (args := #[]) (mvT hZ (own_w hw 160 rfl))) (mvT hZ (own_w hw 160 rfl)) (mvT hZ (own_w hw 159 rfl)) (by decide) (backOf (W := 0) (own_rm270 l Z a0 hw [] b15 sb_14 T53.heap n0 (Nat.le_trans Z0 K53.1) f53_0 f53_1) hZ (own_w hw 161 rfl) (own_w hw 28 rfl) (by decide) (by decide)) q56a q56c (g := (mkF m 257 (own_l37 i0 i1 i2 cs sb_13 sb_14 b15 b17) [(.ref sb_14), (.ref b15)])) rfl (by rw [hml]; rfl) (Steps.refl _) (argsL := [(.ref sb_14)]) (rest := []) (lenOf own_pd30 rfl) rfl (Nat.le_of_eq rfl) (hb hby at_257) (fun _ _ => ⟨rfl, rfl, (by decide : 7 + 0 ≤ _), (by decide : 27 + 0 ≤ _)⟩)
         dsimp only [Pt.U, Pt.locs, Pt.cells, Pt.slots] at X56 l56 y56 z56 st56 hQ56
         subst l56 y56 z56
         obtain ⟨rfl, N56q, e56⟩ := hQ56
         have N56 := Fr.app N53 N56q
         refine ownE.goS st56 ?_
         refine ownE.go (f' := (mkF m 282 (own_l37 i0 i1 i2 cs sb_13 sb_14 b15 b17) [(.ref b15)])) (fun t kt => XS.pop X56.here hx rfl (hb hby at_260) rfl rfl (XS.iload X56.here hx rfl (hb hby at_261) rfl (XS.ifYes X56.here hx rfl (pc0 := 263) (pc' := 272) rfl (hb hby at_263) rfl (Jvm.Free.XT.i0_eq_t (by decide)) (by decide) (by decide) (XS.iconst X56.here hx rfl (hb hby at_272) (XS.istore X56.here hx rfl (hb hby at_273) rfl (l' := (own_l37 i0 i1 i2 cs sb_13 sb_14 b15 b17)) rfl (XS.iload X56.here hx rfl (hb hby at_275) rfl (XS.ifNo X56.here hx rfl (hb hby at_277) rfl (Jvm.Free.XT.i0_eq_f (by decide)) (XS.aload X56.here hx rfl (hb hby at_280) rfl rfl kt)))))))) ?_
         obtain ⟨cq57, kq57, q57a, q57b, q57c⟩ := isOf hZ e56 f53_0
         obtain ⟨_, _, ⟨T57, L57, k57, n57⟩, -, X57, ⟨Lc57, hQ57, l57, y57, z57⟩, st57⟩ := X56.virtualBack hx (y := own_y27) (z := own_y27) hown (mvT hZ (own_w hw 65 rfl)) (mvT hZ (own_w hw 66 rfl)) (notFace_of_selects (args := #[]) (mvT hZ (own_w hw 68 rfl))) (mvT hZ (own_w hw 68 rfl)) (mvT hZ (own_w hw 67 rfl)) (by decide) (backOf (W := 0) (own_rm90 l Z a0 hw [] b15 T53.heap n0 (Nat.le_trans Z0 K53.1) f53_0 f53_1) hZ (own_w hw 69 rfl) (own_w hw 28 rfl) (by decide) (by decide)) q57a q57c (g := (mkF m 282 (own_l37 i0 i1 i2 cs sb_13 sb_14 b15 b17) [(.ref b15)])) rfl (by rw [hml]; rfl) (Steps.refl _) (argsL := []) (rest := []) (lenOf own_pd16 rfl) rfl (Nat.le_of_eq rfl) (hb hby at_282) (fun _ _ => ⟨rfl, e56, (by decide : 7 + 0 ≤ _), (by decide : 27 + 0 ≤ _)⟩)
         dsimp only [Pt.U, Pt.locs, Pt.cells, Pt.slots] at X57 l57 y57 z57 st57 hQ57
         subst l57 y57 z57
         obtain ⟨rfl, N57q, e57⟩ := hQ57
         have N57 := Fr.app N56 N57q
         refine ownE.goS st57 ?_
         refine ownE.go (f' := (mkF m 312 (own_l37 i0 i1 i2 cs sb_13 sb_14 b15 b17) [(.int (1 : Int32))])) (fun t kt => XS.iload X57.here hx rfl (hb hby at_285) rfl (XS.ifNo X57.here hx rfl (hb hby at_287) rfl (Jvm.Free.XT.i0_ne_f (by decide)) (XS.iload X57.here hx rfl (hb hby at_290) rfl (XS.ifNo X57.here hx rfl (hb hby at_292) rfl (Jvm.Free.XT.i0_ne_f (by decide)) (XS.iconst X57.here hx rfl (hb hby at_295) (XS.goto X57.here hx rfl (pc0 := 296) (pc' := 300) rfl (hb hby at_296) (by decide) (by decide) (XS.icmpNo X57.here hx rfl (hb hby at_300) rfl (Jvm.Free.XT.ii_ne_f (by decide)) (XS.iconst X57.here hx rfl (hb hby at_303) (XS.goto X57.here hx rfl (pc0 := 304) (pc' := 308) rfl (hb hby at_304) (by decide) (by decide) (XS.istore X57.here hx rfl (hb hby at_308) rfl (l' := (own_l37 i0 i1 i2 cs sb_13 sb_14 b15 b17)) rfl (XS.iload X57.here hx rfl (hb hby at_310) rfl kt))))))))))) ?_
         refine ownE.retN X57 hx hlk (t := .boolean) hret (by simp) (hb hby at_312) ?_ (by decide) (by decide)
         show own_Q0l Z i0 i1 i2 cs fmt h0 n0 _ T57.heap _
         rw [e57]
         exact ⟨(by rw [own_f0l, if_neg hc20, if_pos hc46, if_neg hc48, if_neg hc54] <;> first | rfl | decide), N57, K53⟩
      · -- pc 146
       refine ownE.go (T' := T45) (f' := (mkF m 149 (own_l35 i0 i1 i2 cs sb_13 sb_14 b15 b17) [])) (fun t kt => XS.ifNo (g := (mkF m 146 (own_l35 i0 i1 i2 cs sb_13 sb_14 b15 b17) [(.int (own_j0l_23_S0 i0 i1 i2 cs))])) X45.here hx rfl (hb hby at_146) rfl (Jvm.Free.XT.i0_eq_f hc46) kt) ?_
       refine ownE.go (f' := (mkF m 155 (own_l35 i0 i1 i2 cs sb_13 sb_14 b15 b17) [(.ref b17), (.ref sb_14), (.ref b15)])) (fun t kt => XS.aload X45.here hx rfl (hb hby at_149) rfl rfl (XS.aload X45.here hx rfl (hb hby at_151) rfl rfl (XS.aload X45.here hx rfl (hb hby at_153) rfl rfl kt))) ?_
       obtain ⟨cq58, kq58, q58a, q58b, q58c⟩ := isOf hZ rfl f45_1
       obtain ⟨_, _, ⟨T58, L58, k58, n58⟩, -, X58, ⟨Lc58, hQ58, l58, y58, z58⟩, st58⟩ := X45.virtualBack hx (y := own_y28) (z := own_y28) hown (mvT hZ (own_w hw 72 rfl)) (mvT hZ (own_w hw 73 rfl)) (notFace_of_selects (args := #[]) (mvT hZ (own_w hw 75 rfl))) (mvT hZ (own_w hw 75 rfl)) (mvT hZ (own_w hw 74 rfl)) (by decide) (backOf (W := 0) (own_rm10g l Z a0 hw [] b15 sb_14 b17 vb_14 kb_14 ((((i1 &&& (255 : Int32)).toUInt32.toUInt16.toUInt32.toInt32).toInt8.toInt32).toInt8.toInt32) lk_45 sb_13 vb_13 kb_13 ((((i0 &&& (255 : Int32)).toUInt32.toUInt16.toUInt32.toInt32).toInt8.toInt32).toInt8.toInt32) b17 cs fmt T45.heap n0 (Nat.le_trans Z0 K45.1) q706 hcs hcsn zfm hfm zad f45_1 f45_2 ge_b15 ge_lk_45 (Ne.symm ne_b15_lk_45) f45_3 f45_4 f45_5 f45_6 f45_7 f45_8 q711 q713 q712 q714 q707 q709 q708 q710 (by rw [own_xc, own_xc]; exact (fun q => hN q.symm)) (by rw [own_xc, own_xc]; exact (own_asym hL))) hZ (own_w hw 76 rfl) (own_w hw 28 rfl) (by decide) (by decide)) q58a q58c (g := (mkF m 155 (own_l35 i0 i1 i2 cs sb_13 sb_14 b15 b17) [(.ref b17), (.ref sb_14), (.ref b15)])) rfl (by rw [hml]; rfl) (Steps.refl _) (argsL := [(.ref sb_14), (.ref b17)]) (rest := []) (lenOf own_pd34 rfl) rfl (Nat.le_of_eq rfl) (hb hby at_155) (fun _ _ => ⟨rfl, rfl, (by decide : 7 + 1 ≤ _), (by decide : 27 + 5 ≤ _)⟩)
       dsimp only [Pt.U, Pt.locs, Pt.cells, Pt.slots] at X58 l58 y58 z58 st58 hQ58
       subst l58 y58 z58
       obtain ⟨nk_58, rfl, N58q, K58q, f58_0, f58_1, f58_2, f58_3, f58_4, f58_5, f58_6, f58_7, f58_8, f58_9, f58_10, f58_11, f58_12, f58_13, f58_14⟩ := hQ58
       have ne_sb_13_nk_58 : sb_13 ≠ nk_58 := Nat.ne_of_lt (Nat.lt_of_lt_of_le q707.lt f58_0)
       have ne_vb_13_nk_58 : vb_13 ≠ nk_58 := Nat.ne_of_lt (Nat.lt_of_lt_of_le q710.lt f58_0)
       have ne_sb_14_nk_58 : sb_14 ≠ nk_58 := Nat.ne_of_lt (Nat.lt_of_lt_of_le q711.lt f58_0)
       have ne_vb_14_nk_58 : vb_14 ≠ nk_58 := Nat.ne_of_lt (Nat.lt_of_lt_of_le q714.lt f58_0)
       have ne_b15_nk_58 : b15 ≠ nk_58 := Nat.ne_of_lt (Nat.lt_of_lt_of_le f45_1.lt f58_0)
       have ne_b17_nk_58 : b17 ≠ nk_58 := Nat.ne_of_lt (Nat.lt_of_lt_of_le q716.lt f58_0)
       have ne_lk_45_nk_58 : lk_45 ≠ nk_58 := Nat.ne_of_lt (Nat.lt_of_lt_of_le f45_3.lt f58_0)
       have q734 := q706.keep K58q (allS ge_b15 (allS ge_lk_45 all0))
       have q735 := q707.keep K58q
       have q736 := q708.keep K58q (ninS ne_sb_13_b15 (ninS ne_sb_13_lk_45 nin0))
       have q737 := q709.keep K58q (ninS ne_sb_13_b15 (ninS ne_sb_13_lk_45 nin0))
       have q738 := q710.keep K58q (ninS ne_vb_13_b15 (ninS ne_vb_13_lk_45 nin0))
       have q739 := q711.keep K58q
       have q740 := q712.keep K58q (ninS ne_sb_14_b15 (ninS ne_sb_14_lk_45 nin0))
       have q741 := q713.keep K58q (ninS ne_sb_14_b15 (ninS ne_sb_14_lk_45 nin0))
       have q742 := q714.keep K58q (ninS ne_vb_14_b15 (ninS ne_vb_14_lk_45 nin0))
       have q743 := f45_1.keep K58q
       have q744 := q716.keep K58q
       have q745 := f45_3.keep K58q
       have K58 : Keep h0 T58.heap [] := K45.trans K58q (allS (Or.inr sz_b15) (allS (Or.inr sz_lk_45) all0))
       have sz_nk_58 : h0.size ≤ nk_58 := Nat.le_trans K45.1 f58_0
       have ge_nk_58 : n0 ≤ nk_58 := Nat.le_trans Z0 sz_nk_58
       have N58 := Fr.app N45 N58q
       refine ownE.goS st58 ?_
       refine ownE.go (f' := (mkF m 204 (own_l41 i0 i1 i2 cs sb_13 sb_14 b15 b17) [(.ref b15)])) (fun t kt => XS.pop X58.here hx rfl (hb hby at_158) rfl rfl (XS.iloadN X58.here hx rfl (hb hby at_159) rfl (XS.ifYes X58.here hx rfl (pc0 := 160) (pc' := 173) rfl (hb hby at_160) rfl (Jvm.Free.XT.i0_ne_t hc20) (by decide) (by decide) (XS.iconst X58.here hx rfl (hb hby at_173) (XS.goto X58.here hx rfl (pc0 := 174) (pc' := 178) rfl (hb hby at_174) (by decide) (by decide) (XS.istore X58.here hx rfl (hb hby at_178) rfl (l' := (own_l39 i0 i1 i2 cs sb_13 sb_14 b15 b17)) rfl (XS.iload X58.here hx rfl (hb hby at_180) rfl (XS.ifNo X58.here hx rfl (hb hby at_182) rfl (Jvm.Free.XT.i0_eq_f hc46) (XS.iload X58.here hx rfl (hb hby at_185) rfl (XS.ifNo X58.here hx rfl (hb hby at_187) rfl (Jvm.Free.XT.i0_ne_f (by decide)) (XS.iconst X58.here hx rfl (hb hby at_190) (XS.goto X58.here hx rfl (pc0 := 191) (pc' := 195) rfl (hb hby at_191) (by decide) (by decide) (XS.istore X58.here hx rfl (hb hby at_195) rfl (l' := (own_l41 i0 i1 i2 cs sb_13 sb_14 b15 b17)) rfl (XS.iload X58.here hx rfl (hb hby at_197) rfl (XS.ifNo X58.here hx rfl (hb hby at_199) rfl (Jvm.Free.XT.i0_eq_f (by decide)) (XS.aload X58.here hx rfl (hb hby at_202) rfl rfl kt)))))))))))))))) ?_
       obtain ⟨cq59, kq59, q59a, q59b, q59c⟩ := isOf hZ rfl f58_1
       obtain ⟨_, _, ⟨T59, L59, k59, n59⟩, -, X59, ⟨Lc59, hQ59, l59, y59, z59⟩, st59⟩ := X58.virtualBack hx (y := own_y27) (z := own_y27) hown (mvT hZ (own_w hw 65 rfl)) (mvT hZ (own_w hw 66 rfl)) (notFace_of_selects (args := #[]) (mvT hZ (own_w hw 68 rfl))) (mvT hZ (own_w hw 68 rfl)) (mvT hZ (own_w hw 67 rfl)) (by decide) (backOf (W := 0) (own_rm91 l Z a0 hw [] b15 lk_45 T58.heap n0 (Nat.le_trans Z0 K58.1) f58_1 f58_2) hZ (own_w hw 69 rfl) (own_w hw 28 rfl) (by decide) (by decide)) q59a q59c (g := (mkF m 204 (own_l41 i0 i1 i2 cs sb_13 sb_14 b15 b17) [(.ref b15)])) rfl (by rw [hml]; rfl) (Steps.refl _) (argsL := []) (rest := []) (lenOf own_pd16 rfl) rfl (Nat.le_of_eq rfl) (hb hby at_204) (fun _ _ => ⟨rfl, rfl, (by decide : 8 + 0 ≤ _), (by decide : 32 + 0 ≤ _)⟩)
       dsimp only [Pt.U, Pt.locs, Pt.cells, Pt.slots] at X59 l59 y59 z59 st59 hQ59
       subst l59 y59 z59
       obtain ⟨rfl, N59q, e59⟩ := hQ59
       have N59 := Fr.app N58 N59q
       refine ownE.goS st59 ?_
       refine ownE.go (f' := (mkF m 234 (own_l41 i0 i1 i2 cs sb_13 sb_14 b15 b17) [(.int (own_j0l_36_S0 i0 i1 i2 cs))])) (fun t kt => XS.iload X59.here hx rfl (hb hby at_207) rfl (XS.ifYes X59.here hx rfl (pc0 := 209) (pc' := 221) rfl (hb hby at_209) rfl (Jvm.Free.XT.i0_ne_t (by decide)) (by decide) (by decide) (XS.iconst X59.here hx rfl (hb hby at_221) (XS.icmpNo X59.here hx rfl (hb hby at_222) rfl (Jvm.Free.XT.ii_ne_f (by decide)) (XS.iconst X59.here hx rfl (hb hby at_225) (XS.goto X59.here hx rfl (pc0 := 226) (pc' := 230) rfl (hb hby at_226) (by decide) (by decide) (XS.istore X59.here hx rfl (hb hby at_230) rfl (l' := (own_l41 i0 i1 i2 cs sb_13 sb_14 b15 b17)) rfl (XS.iload X59.here hx rfl (hb hby at_232) rfl kt)))))))) ?_
       by_cases hc60 : (own_j0l_36_S0 i0 i1 i2 cs) = (0 : Int32)
       · -- pc 234
        refine ownE.go (T' := T59) (f' := (mkF m 248 (own_l41 i0 i1 i2 cs sb_13 sb_14 b15 b17) [])) (fun t kt => XS.ifYes (g := (mkF m 234 (own_l41 i0 i1 i2 cs sb_13 sb_14 b15 b17) [(.int (own_j0l_36_S0 i0 i1 i2 cs))])) X59.here hx rfl (pc0 := 234) (pc' := 248) rfl (hb hby at_234) rfl (Jvm.Free.XT.i0_eq_t hc60) (by decide) (by decide) kt) ?_
        refine ownE.go (f' := (mkF m 250 (own_l41 i0 i1 i2 cs sb_13 sb_14 b15 b17) [(.int (own_j0l_50_S0 i0 i1 i2 cs))])) (fun t kt => XS.iload X59.here hx rfl (hb hby at_248) rfl kt) ?_
        by_cases hc61 : (own_j0l_50_S0 i0 i1 i2 cs) = (0 : Int32)
        · -- pc 250
         refine ownE.go (T' := T59) (f' := (mkF m 275 (own_l41 i0 i1 i2 cs sb_13 sb_14 b15 b17) [])) (fun t kt => XS.ifYes (g := (mkF m 250 (own_l41 i0 i1 i2 cs sb_13 sb_14 b15 b17) [(.int (own_j0l_50_S0 i0 i1 i2 cs))])) X59.here hx rfl (pc0 := 250) (pc' := 275) rfl (hb hby at_250) rfl (Jvm.Free.XT.i0_eq_t hc61) (by decide) (by decide) kt) ?_
         refine ownE.go (f' := (mkF m 282 (own_l41 i0 i1 i2 cs sb_13 sb_14 b15 b17) [(.ref b15)])) (fun t kt => XS.iload X59.here hx rfl (hb hby at_275) rfl (XS.ifNo X59.here hx rfl (hb hby at_277) rfl (Jvm.Free.XT.i0_eq_f (by decide)) (XS.aload X59.here hx rfl (hb hby at_280) rfl rfl kt))) ?_
         obtain ⟨cq62, kq62, q62a, q62b, q62c⟩ := isOf hZ e59 f58_1
         obtain ⟨_, _, ⟨T62, L62, k62, n62⟩, -, X62, ⟨Lc62, hQ62, l62, y62, z62⟩, st62⟩ := X59.virtualBack hx (y := own_y27) (z := own_y27) hown (mvT hZ (own_w hw 65 rfl)) (mvT hZ (own_w hw 66 rfl)) (notFace_of_selects (args := #[]) (mvT hZ (own_w hw 68 rfl))) (mvT hZ (own_w hw 68 rfl)) (mvT hZ (own_w hw 67 rfl)) (by decide) (backOf (W := 0) (own_rm91 l Z a0 hw [] b15 lk_45 T58.heap n0 (Nat.le_trans Z0 K58.1) f58_1 f58_2) hZ (own_w hw 69 rfl) (own_w hw 28 rfl) (by decide) (by decide)) q62a q62c (g := (mkF m 282 (own_l41 i0 i1 i2 cs sb_13 sb_14 b15 b17) [(.ref b15)])) rfl (by rw [hml]; rfl) (Steps.refl _) (argsL := []) (rest := []) (lenOf own_pd16 rfl) rfl (Nat.le_of_eq rfl) (hb hby at_282) (fun _ _ => ⟨rfl, e59, (by decide : 8 + 0 ≤ _), (by decide : 32 + 0 ≤ _)⟩)
         dsimp only [Pt.U, Pt.locs, Pt.cells, Pt.slots] at X62 l62 y62 z62 st62 hQ62
         subst l62 y62 z62
         obtain ⟨rfl, N62q, e62⟩ := hQ62
         have N62 := Fr.app N59 N62q
         refine ownE.goS st62 ?_
         refine ownE.go (f' := (mkF m 312 (own_l41 i0 i1 i2 cs sb_13 sb_14 b15 b17) [(.int (1 : Int32))])) (fun t kt => XS.iload X62.here hx rfl (hb hby at_285) rfl (XS.ifYes X62.here hx rfl (pc0 := 287) (pc' := 299) rfl (hb hby at_287) rfl (Jvm.Free.XT.i0_ne_t (by decide)) (by decide) (by decide) (XS.iconst X62.here hx rfl (hb hby at_299) (XS.icmpNo X62.here hx rfl (hb hby at_300) rfl (Jvm.Free.XT.ii_ne_f (by decide)) (XS.iconst X62.here hx rfl (hb hby at_303) (XS.goto X62.here hx rfl (pc0 := 304) (pc' := 308) rfl (hb hby at_304) (by decide) (by decide) (XS.istore X62.here hx rfl (hb hby at_308) rfl (l' := (own_l41 i0 i1 i2 cs sb_13 sb_14 b15 b17)) rfl (XS.iload X62.here hx rfl (hb hby at_310) rfl kt)))))))) ?_
         refine ownE.retN X62 hx hlk (t := .boolean) hret (by simp) (hb hby at_312) ?_ (by decide) (by decide)
         show own_Q0l Z i0 i1 i2 cs fmt h0 n0 _ T62.heap _
         rw [e62]
         exact ⟨(by rw [own_f0l, if_neg hc20, if_neg hc46, if_pos hc60, if_pos hc61] <;> first | rfl | decide), N62, K58⟩
        · -- pc 250
         refine ownE.go (T' := T59) (f' := (mkF m 253 (own_l41 i0 i1 i2 cs sb_13 sb_14 b15 b17) [])) (fun t kt => XS.ifNo (g := (mkF m 250 (own_l41 i0 i1 i2 cs sb_13 sb_14 b15 b17) [(.int (own_j0l_50_S0 i0 i1 i2 cs))])) X59.here hx rfl (hb hby at_250) rfl (Jvm.Free.XT.i0_eq_f hc61) kt) ?_
         refine ownE.go (f' := (mkF m 257 (own_l41 i0 i1 i2 cs sb_13 sb_14 b15 b17) [(.ref sb_14), (.ref b15)])) (fun t kt => XS.aload X59.here hx rfl (hb hby at_253) rfl rfl (XS.aload X59.here hx rfl (hb hby at_255) rfl rfl kt)) ?_
         obtain ⟨cq63, kq63, q63a, q63b, q63c⟩ := isOf hZ e59 f58_1
         obtain ⟨_, _, ⟨T63, L63, k63, n63⟩, -, X63, ⟨Lc63, hQ63, l63, y63, z63⟩, st63⟩ := X59.virtualBack hx (y := own_y29) (z := own_y29) hown (mvT hZ (own_w hw 157 rfl)) (mvT hZ (own_w hw 158 rfl)) (notFace_of_selects (args := #[]) (mvT hZ (own_w hw 160 rfl))) (mvT hZ (own_w hw 160 rfl)) (mvT hZ (own_w hw 159 rfl)) (by decide) (backOf (W := 0) (own_rm272cg l Z a0 hw [] b15 sb_14 vb_14 kb_14 ((((i1 &&& (255 : Int32)).toUInt32.toUInt16.toUInt32.toInt32).toInt8.toInt32).toInt8.toInt32) lk_45 sb_13 vb_13 kb_13 ((((i0 &&& (255 : Int32)).toUInt32.toUInt16.toUInt32.toInt32).toInt8.toInt32).toInt8.toInt32) nk_58 sb_14 vb_14 kb_14 ((((i1 &&& (255 : Int32)).toUInt32.toUInt16.toUInt32.toInt32).toInt8.toInt32).toInt8.toInt32) b17 b17 cs fmt T58.heap n0 (Nat.le_trans Z0 K58.1) q734 hcs hcsn zfm hfm zad f58_1 f58_2 ge_b15 ge_lk_45 (Ne.symm ne_b15_lk_45) f58_3 f58_4 f58_5 f58_6 f58_7 f58_8 (Ne.symm ne_lk_45_nk_58) f58_10 f58_11 f58_12 f58_13 q739 q741 q740 q742 q735 q737 q736 q738 q739 q741 q740 q742 (by rw [own_xc, own_xc]; exact (fun q => hN q.symm)) (by rw [own_xc, own_xc]; exact (own_asym hL)) rfl) hZ (own_w hw 161 rfl) (own_w hw 28 rfl) (by decide) (by decide)) q63a q63c (g := (mkF m 257 (own_l41 i0 i1 i2 cs sb_13 sb_14 b15 b17) [(.ref sb_14), (.ref b15)])) rfl (by rw [hml]; rfl) (Steps.refl _) (argsL := [(.ref sb_14)]) (rest := []) (lenOf own_pd30 rfl) rfl (Nat.le_of_eq rfl) (hb hby at_257) (fun _ _ => ⟨rfl, e59, (by decide : 8 + 0 ≤ _), (by decide : 32 + 0 ≤ _)⟩)
         dsimp only [Pt.U, Pt.locs, Pt.cells, Pt.slots] at X63 l63 y63 z63 st63 hQ63
         subst l63 y63 z63
         obtain ⟨rfl, N63q, K63q, f63_0, f63_1, f63_2, f63_3, f63_4, f63_5, f63_6, f63_7⟩ := hQ63
         have q746 := q734.keep K63q (allS ge_b15 (allS ge_lk_45 all0))
         have q747 := q735.keep K63q
         have q748 := q736.keep K63q (ninS ne_sb_13_b15 (ninS ne_sb_13_lk_45 nin0))
         have q749 := q737.keep K63q (ninS ne_sb_13_b15 (ninS ne_sb_13_lk_45 nin0))
         have q750 := q738.keep K63q (ninS ne_vb_13_b15 (ninS ne_vb_13_lk_45 nin0))
         have q751 := q739.keep K63q
         have q752 := q740.keep K63q (ninS ne_sb_14_b15 (ninS ne_sb_14_lk_45 nin0))
         have q753 := q741.keep K63q (ninS ne_sb_14_b15 (ninS ne_sb_14_lk_45 nin0))
         have q754 := q742.keep K63q (ninS ne_vb_14_b15 (ninS ne_vb_14_lk_45 nin0))
         have q755 := f58_1.keep K63q
         have q756 := q744.keep K63q
         have q757 := f58_3.keep K63q
         have q758 := f58_9.keep K63q
         have q759 := f58_10.keep K63q (ninS (Ne.symm ne_b15_nk_58) (ninS (Ne.symm ne_lk_45_nk_58) nin0))
         have q760 := f58_11.keep K63q (ninS (Ne.symm ne_b15_nk_58) (ninS (Ne.symm ne_lk_45_nk_58) nin0))
         have q761 := f58_12.keep K63q (ninS (Ne.symm ne_b15_nk_58) (ninS (Ne.symm ne_lk_45_nk_58) nin0))
         have q762 := f58_13.keep K63q (ninS (Ne.symm ne_b15_nk_58) (ninS (Ne.symm ne_lk_45_nk_58) nin0))
         have q763 := f58_14.keep K63q (ninS (Ne.symm ne_b15_nk_58) (ninS (Ne.symm ne_lk_45_nk_58) nin0))
         have K63 : Keep h0 T63.heap [] := K58.trans K63q (allS (Or.inr sz_b15) (allS (Or.inr sz_lk_45) all0))
         have N63 := Fr.app N59 N63q
         refine ownE.goS st63 ?_
         refine ownE.go (f' := (mkF m 282 (own_l40 i0 i1 i2 cs sb_13 sb_14 b15 b17) [(.ref b15)])) (fun t kt => XS.pop X63.here hx rfl (hb hby at_260) rfl rfl (XS.iload X63.here hx rfl (hb hby at_261) rfl (XS.ifYes X63.here hx rfl (pc0 := 263) (pc' := 272) rfl (hb hby at_263) rfl (Jvm.Free.XT.i0_eq_t (by decide)) (by decide) (by decide) (XS.iconst X63.here hx rfl (hb hby at_272) (XS.istore X63.here hx rfl (hb hby at_273) rfl (l' := (own_l40 i0 i1 i2 cs sb_13 sb_14 b15 b17)) rfl (XS.iload X63.here hx rfl (hb hby at_275) rfl (XS.ifNo X63.here hx rfl (hb hby at_277) rfl (Jvm.Free.XT.i0_eq_f (by decide)) (XS.aload X63.here hx rfl (hb hby at_280) rfl rfl kt)))))))) ?_
         obtain ⟨cq64, kq64, q64a, q64b, q64c⟩ := isOf hZ rfl f63_0
         obtain ⟨_, _, ⟨T64, L64, k64, n64⟩, -, X64, ⟨Lc64, hQ64, l64, y64, z64⟩, st64⟩ := X63.virtualBack hx (y := own_y27) (z := own_y27) hown (mvT hZ (own_w hw 65 rfl)) (mvT hZ (own_w hw 66 rfl)) (notFace_of_selects (args := #[]) (mvT hZ (own_w hw 68 rfl))) (mvT hZ (own_w hw 68 rfl)) (mvT hZ (own_w hw 67 rfl)) (by decide) (backOf (W := 0) (own_rm91 l Z a0 hw [] b15 lk_45 T63.heap n0 (Nat.le_trans Z0 K63.1) f63_0 f63_1) hZ (own_w hw 69 rfl) (own_w hw 28 rfl) (by decide) (by decide)) q64a q64c (g := (mkF m 282 (own_l40 i0 i1 i2 cs sb_13 sb_14 b15 b17) [(.ref b15)])) rfl (by rw [hml]; rfl) (Steps.refl _) (argsL := []) (rest := []) (lenOf own_pd16 rfl) rfl (Nat.le_of_eq rfl) (hb hby at_282) (fun _ _ => ⟨rfl, rfl, (by decide : 8 + 0 ≤ _), (by decide : 32 + 0 ≤ _)⟩)
         dsimp only [Pt.U, Pt.locs, Pt.cells, Pt.slots] at X64 l64 y64 z64 st64 hQ64
         subst l64 y64 z64
         obtain ⟨rfl, N64q, e64⟩ := hQ64
         have N64 := Fr.app N63 N64q
         refine ownE.goS st64 ?_
         refine ownE.go (f' := (mkF m 312 (own_l40 i0 i1 i2 cs sb_13 sb_14 b15 b17) [(.int (1 : Int32))])) (fun t kt => XS.iload X64.here hx rfl (hb hby at_285) rfl (XS.ifYes X64.here hx rfl (pc0 := 287) (pc' := 299) rfl (hb hby at_287) rfl (Jvm.Free.XT.i0_ne_t (by decide)) (by decide) (by decide) (XS.iconst X64.here hx rfl (hb hby at_299) (XS.icmpNo X64.here hx rfl (hb hby at_300) rfl (Jvm.Free.XT.ii_ne_f (by decide)) (XS.iconst X64.here hx rfl (hb hby at_303) (XS.goto X64.here hx rfl (pc0 := 304) (pc' := 308) rfl (hb hby at_304) (by decide) (by decide) (XS.istore X64.here hx rfl (hb hby at_308) rfl (l' := (own_l40 i0 i1 i2 cs sb_13 sb_14 b15 b17)) rfl (XS.iload X64.here hx rfl (hb hby at_310) rfl kt)))))))) ?_
         refine ownE.retN X64 hx hlk (t := .boolean) hret (by simp) (hb hby at_312) ?_ (by decide) (by decide)
         show own_Q0l Z i0 i1 i2 cs fmt h0 n0 _ T64.heap _
         rw [e64]
         exact ⟨(by rw [own_f0l, if_neg hc20, if_neg hc46, if_pos hc60, if_neg hc61] <;> first | rfl | decide), N64, K63⟩
       · -- pc 234
        refine ownE.go (T' := T59) (f' := (mkF m 237 (own_l41 i0 i1 i2 cs sb_13 sb_14 b15 b17) [])) (fun t kt => XS.ifNo (g := (mkF m 234 (own_l41 i0 i1 i2 cs sb_13 sb_14 b15 b17) [(.int (own_j0l_36_S0 i0 i1 i2 cs))])) X59.here hx rfl (hb hby at_234) rfl (Jvm.Free.XT.i0_eq_f hc60) kt) ?_
        refine ownE.go (f' := (mkF m 241 (own_l41 i0 i1 i2 cs sb_13 sb_14 b15 b17) [(.ref sb_13), (.ref b15)])) (fun t kt => XS.aload X59.here hx rfl (hb hby at_237) rfl rfl (XS.aload X59.here hx rfl (hb hby at_239) rfl rfl kt)) ?_
        obtain ⟨cq65, kq65, q65a, q65b, q65c⟩ := isOf hZ e59 f58_1
        obtain ⟨_, _, ⟨T65, L65, k65, n65⟩, -, X65, ⟨Lc65, hQ65, l65, y65, z65⟩, st65⟩ := X59.virtualBack hx (y := own_y29) (z := own_y29) hown (mvT hZ (own_w hw 157 rfl)) (mvT hZ (own_w hw 158 rfl)) (notFace_of_selects (args := #[]) (mvT hZ (own_w hw 160 rfl))) (mvT hZ (own_w hw 160 rfl)) (mvT hZ (own_w hw 159 rfl)) (by decide) (backOf (W := 0) (own_rm272rg l Z a0 hw [] b15 sb_13 vb_13 kb_13 ((((i0 &&& (255 : Int32)).toUInt32.toUInt16.toUInt32.toInt32).toInt8.toInt32).toInt8.toInt32) lk_45 sb_13 vb_13 kb_13 ((((i0 &&& (255 : Int32)).toUInt32.toUInt16.toUInt32.toInt32).toInt8.toInt32).toInt8.toInt32) b17 nk_58 cs fmt T58.heap n0 (Nat.le_trans Z0 K58.1) q734 hcs hcsn zfm hfm f58_1 f58_2 ge_b15 f58_4 f58_5 f58_6 f58_7 q735 q737 q736 q738 q735 q737 q736 q738 rfl) hZ (own_w hw 161 rfl) (own_w hw 28 rfl) (by decide) (by decide)) q65a q65c (g := (mkF m 241 (own_l41 i0 i1 i2 cs sb_13 sb_14 b15 b17) [(.ref sb_13), (.ref b15)])) rfl (by rw [hml]; rfl) (Steps.refl _) (argsL := [(.ref sb_13)]) (rest := []) (lenOf own_pd30 rfl) rfl (Nat.le_of_eq rfl) (hb hby at_241) (fun _ _ => ⟨rfl, e59, (by decide : 8 + 0 ≤ _), (by decide : 32 + 0 ≤ _)⟩)
        dsimp only [Pt.U, Pt.locs, Pt.cells, Pt.slots] at X65 l65 y65 z65 st65 hQ65
        subst l65 y65 z65
        obtain ⟨rfl, N65q, K65q, f65_0, f65_1⟩ := hQ65
        have q764 := q734.keep K65q (allS ge_b15 all0)
        have q765 := q735.keep K65q
        have q766 := q736.keep K65q (ninS ne_sb_13_b15 nin0)
        have q767 := q737.keep K65q (ninS ne_sb_13_b15 nin0)
        have q768 := q738.keep K65q (ninS ne_vb_13_b15 nin0)
        have q769 := q739.keep K65q
        have q770 := q740.keep K65q (ninS ne_sb_14_b15 nin0)
        have q771 := q741.keep K65q (ninS ne_sb_14_b15 nin0)
        have q772 := q742.keep K65q (ninS ne_vb_14_b15 nin0)
        have q773 := f58_1.keep K65q
        have q774 := q744.keep K65q
        have q775 := f58_3.keep K65q
        have q776 := f58_4.keep K65q (ninS (Ne.symm ne_b15_lk_45) nin0)
        have q777 := f58_5.keep K65q (ninS (Ne.symm ne_b15_lk_45) nin0)
        have q778 := f58_6.keep K65q (ninS (Ne.symm ne_b15_lk_45) nin0)
        have q779 := f58_7.keep K65q (ninS (Ne.symm ne_b15_lk_45) nin0)
        have q780 := f58_8.keep K65q (ninS (Ne.symm ne_b15_lk_45) nin0)
        have q781 := f58_9.keep K65q
        have q782 := f58_10.keep K65q (ninS (Ne.symm ne_b15_nk_58) nin0)
        have q783 := f58_11.keep K65q (ninS (Ne.symm ne_b15_nk_58) nin0)
        have q784 := f58_12.keep K65q (ninS (Ne.symm ne_b15_nk_58) nin0)
        have q785 := f58_13.keep K65q (ninS (Ne.symm ne_b15_nk_58) nin0)
        have q786 := f58_14.keep K65q (ninS (Ne.symm ne_b15_nk_58) nin0)
        have K65 : Keep h0 T65.heap [] := K58.trans K65q (allS (Or.inr sz_b15) all0)
        have N65 := Fr.app N59 N65q
        refine ownE.goS st65 ?_
        refine ownE.go (f' := (mkF m 250 (own_l38 i0 i1 i2 cs sb_13 sb_14 b15 b17) [(.int (own_j0l_50_S0 i0 i1 i2 cs))])) (fun t kt => XS.pop X65.here hx rfl (hb hby at_244) rfl rfl (XS.iconst X65.here hx rfl (hb hby at_245) (XS.istore X65.here hx rfl (hb hby at_246) rfl (l' := (own_l38 i0 i1 i2 cs sb_13 sb_14 b15 b17)) rfl (XS.iload X65.here hx rfl (hb hby at_248) rfl kt)))) ?_
        by_cases hc66 : (own_j0l_50_S0 i0 i1 i2 cs) = (0 : Int32)
        · -- pc 250
         refine ownE.go (T' := T65) (f' := (mkF m 275 (own_l38 i0 i1 i2 cs sb_13 sb_14 b15 b17) [])) (fun t kt => XS.ifYes (g := (mkF m 250 (own_l38 i0 i1 i2 cs sb_13 sb_14 b15 b17) [(.int (own_j0l_50_S0 i0 i1 i2 cs))])) X65.here hx rfl (pc0 := 250) (pc' := 275) rfl (hb hby at_250) rfl (Jvm.Free.XT.i0_eq_t hc66) (by decide) (by decide) kt) ?_
         refine ownE.go (f' := (mkF m 282 (own_l38 i0 i1 i2 cs sb_13 sb_14 b15 b17) [(.ref b15)])) (fun t kt => XS.iload X65.here hx rfl (hb hby at_275) rfl (XS.ifNo X65.here hx rfl (hb hby at_277) rfl (Jvm.Free.XT.i0_eq_f (by decide)) (XS.aload X65.here hx rfl (hb hby at_280) rfl rfl kt))) ?_
         obtain ⟨cq67, kq67, q67a, q67b, q67c⟩ := isOf hZ rfl f65_0
         obtain ⟨_, _, ⟨T67, L67, k67, n67⟩, -, X67, ⟨Lc67, hQ67, l67, y67, z67⟩, st67⟩ := X65.virtualBack hx (y := own_y27) (z := own_y27) hown (mvT hZ (own_w hw 65 rfl)) (mvT hZ (own_w hw 66 rfl)) (notFace_of_selects (args := #[]) (mvT hZ (own_w hw 68 rfl))) (mvT hZ (own_w hw 68 rfl)) (mvT hZ (own_w hw 67 rfl)) (by decide) (backOf (W := 0) (own_rm91 l Z a0 hw [] b15 nk_58 T65.heap n0 (Nat.le_trans Z0 K65.1) f65_0 f65_1) hZ (own_w hw 69 rfl) (own_w hw 28 rfl) (by decide) (by decide)) q67a q67c (g := (mkF m 282 (own_l38 i0 i1 i2 cs sb_13 sb_14 b15 b17) [(.ref b15)])) rfl (by rw [hml]; rfl) (Steps.refl _) (argsL := []) (rest := []) (lenOf own_pd16 rfl) rfl (Nat.le_of_eq rfl) (hb hby at_282) (fun _ _ => ⟨rfl, rfl, (by decide : 8 + 0 ≤ _), (by decide : 32 + 0 ≤ _)⟩)
         dsimp only [Pt.U, Pt.locs, Pt.cells, Pt.slots] at X67 l67 y67 z67 st67 hQ67
         subst l67 y67 z67
         obtain ⟨rfl, N67q, e67⟩ := hQ67
         have N67 := Fr.app N65 N67q
         refine ownE.goS st67 ?_
         refine ownE.go (f' := (mkF m 312 (own_l38 i0 i1 i2 cs sb_13 sb_14 b15 b17) [(.int (1 : Int32))])) (fun t kt => XS.iload X67.here hx rfl (hb hby at_285) rfl (XS.ifNo X67.here hx rfl (hb hby at_287) rfl (Jvm.Free.XT.i0_ne_f (by decide)) (XS.iload X67.here hx rfl (hb hby at_290) rfl (XS.ifYes X67.here hx rfl (pc0 := 292) (pc' := 299) rfl (hb hby at_292) rfl (Jvm.Free.XT.i0_ne_t (by decide)) (by decide) (by decide) (XS.iconst X67.here hx rfl (hb hby at_299) (XS.icmpNo X67.here hx rfl (hb hby at_300) rfl (Jvm.Free.XT.ii_ne_f (by decide)) (XS.iconst X67.here hx rfl (hb hby at_303) (XS.goto X67.here hx rfl (pc0 := 304) (pc' := 308) rfl (hb hby at_304) (by decide) (by decide) (XS.istore X67.here hx rfl (hb hby at_308) rfl (l' := (own_l38 i0 i1 i2 cs sb_13 sb_14 b15 b17)) rfl (XS.iload X67.here hx rfl (hb hby at_310) rfl kt)))))))))) ?_
         refine ownE.retN X67 hx hlk (t := .boolean) hret (by simp) (hb hby at_312) ?_ (by decide) (by decide)
         show own_Q0l Z i0 i1 i2 cs fmt h0 n0 _ T67.heap _
         rw [e67]
         exact ⟨(by rw [own_f0l, if_neg hc20, if_neg hc46, if_neg hc60, if_pos hc66] <;> first | rfl | decide), N67, K65⟩
        · -- pc 250
         refine ownE.go (T' := T65) (f' := (mkF m 253 (own_l38 i0 i1 i2 cs sb_13 sb_14 b15 b17) [])) (fun t kt => XS.ifNo (g := (mkF m 250 (own_l38 i0 i1 i2 cs sb_13 sb_14 b15 b17) [(.int (own_j0l_50_S0 i0 i1 i2 cs))])) X65.here hx rfl (hb hby at_250) rfl (Jvm.Free.XT.i0_eq_f hc66) kt) ?_
         refine ownE.go (f' := (mkF m 257 (own_l38 i0 i1 i2 cs sb_13 sb_14 b15 b17) [(.ref sb_14), (.ref b15)])) (fun t kt => XS.aload X65.here hx rfl (hb hby at_253) rfl rfl (XS.aload X65.here hx rfl (hb hby at_255) rfl rfl kt)) ?_
         obtain ⟨cq68, kq68, q68a, q68b, q68c⟩ := isOf hZ rfl f65_0
         obtain ⟨_, _, ⟨T68, L68, k68, n68⟩, -, X68, ⟨Lc68, hQ68, l68, y68, z68⟩, st68⟩ := X65.virtualBack hx (y := own_y29) (z := own_y29) hown (mvT hZ (own_w hw 157 rfl)) (mvT hZ (own_w hw 158 rfl)) (notFace_of_selects (args := #[]) (mvT hZ (own_w hw 160 rfl))) (mvT hZ (own_w hw 160 rfl)) (mvT hZ (own_w hw 159 rfl)) (by decide) (backOf (W := 0) (own_rm271e l Z a0 hw [] b15 sb_14 vb_14 kb_14 ((((i1 &&& (255 : Int32)).toUInt32.toUInt16.toUInt32.toInt32).toInt8.toInt32).toInt8.toInt32) nk_58 sb_14 vb_14 kb_14 ((((i1 &&& (255 : Int32)).toUInt32.toUInt16.toUInt32.toInt32).toInt8.toInt32).toInt8.toInt32) b17 cs fmt T65.heap n0 (Nat.le_trans Z0 K65.1) q764 hcs hcsn zfm hfm f65_0 f65_1 ge_b15 q782 q783 q784 q785 q769 q771 q770 q772 q769 q771 q770 q772 rfl) hZ (own_w hw 161 rfl) (own_w hw 28 rfl) (by decide) (by decide)) q68a q68c (g := (mkF m 257 (own_l38 i0 i1 i2 cs sb_13 sb_14 b15 b17) [(.ref sb_14), (.ref b15)])) rfl (by rw [hml]; rfl) (Steps.refl _) (argsL := [(.ref sb_14)]) (rest := []) (lenOf own_pd30 rfl) rfl (Nat.le_of_eq rfl) (hb hby at_257) (fun _ _ => ⟨rfl, rfl, (by decide : 8 + 0 ≤ _), (by decide : 32 + 0 ≤ _)⟩)
         dsimp only [Pt.U, Pt.locs, Pt.cells, Pt.slots] at X68 l68 y68 z68 st68 hQ68
         subst l68 y68 z68
         obtain ⟨rfl, N68q, K68q, f68_0, f68_1⟩ := hQ68
         have q787 := q764.keep K68q (allS ge_b15 all0)
         have q788 := q765.keep K68q
         have q789 := q766.keep K68q (ninS ne_sb_13_b15 nin0)
         have q790 := q767.keep K68q (ninS ne_sb_13_b15 nin0)
         have q791 := q768.keep K68q (ninS ne_vb_13_b15 nin0)
         have q792 := q769.keep K68q
         have q793 := q770.keep K68q (ninS ne_sb_14_b15 nin0)
         have q794 := q771.keep K68q (ninS ne_sb_14_b15 nin0)
         have q795 := q772.keep K68q (ninS ne_vb_14_b15 nin0)
         have q796 := f65_0.keep K68q
         have q797 := q774.keep K68q
         have q798 := q775.keep K68q
         have q799 := q776.keep K68q (ninS (Ne.symm ne_b15_lk_45) nin0)
         have q800 := q777.keep K68q (ninS (Ne.symm ne_b15_lk_45) nin0)
         have q801 := q778.keep K68q (ninS (Ne.symm ne_b15_lk_45) nin0)
         have q802 := q779.keep K68q (ninS (Ne.symm ne_b15_lk_45) nin0)
         have q803 := q780.keep K68q (ninS (Ne.symm ne_b15_lk_45) nin0)
         have q804 := q781.keep K68q
         have q805 := q782.keep K68q (ninS (Ne.symm ne_b15_nk_58) nin0)
         have q806 := q783.keep K68q (ninS (Ne.symm ne_b15_nk_58) nin0)
         have q807 := q784.keep K68q (ninS (Ne.symm ne_b15_nk_58) nin0)
         have q808 := q785.keep K68q (ninS (Ne.symm ne_b15_nk_58) nin0)
         have q809 := q786.keep K68q (ninS (Ne.symm ne_b15_nk_58) nin0)
         have K68 : Keep h0 T68.heap [] := K65.trans K68q (allS (Or.inr sz_b15) all0)
         have N68 := Fr.app N65 N68q
         refine ownE.goS st68 ?_
         refine ownE.go (f' := (mkF m 282 (own_l37 i0 i1 i2 cs sb_13 sb_14 b15 b17) [(.ref b15)])) (fun t kt => XS.pop X68.here hx rfl (hb hby at_260) rfl rfl (XS.iload X68.here hx rfl (hb hby at_261) rfl (XS.ifYes X68.here hx rfl (pc0 := 263) (pc' := 272) rfl (hb hby at_263) rfl (Jvm.Free.XT.i0_eq_t (by decide)) (by decide) (by decide) (XS.iconst X68.here hx rfl (hb hby at_272) (XS.istore X68.here hx rfl (hb hby at_273) rfl (l' := (own_l37 i0 i1 i2 cs sb_13 sb_14 b15 b17)) rfl (XS.iload X68.here hx rfl (hb hby at_275) rfl (XS.ifNo X68.here hx rfl (hb hby at_277) rfl (Jvm.Free.XT.i0_eq_f (by decide)) (XS.aload X68.here hx rfl (hb hby at_280) rfl rfl kt)))))))) ?_
         obtain ⟨cq69, kq69, q69a, q69b, q69c⟩ := isOf hZ rfl f68_0
         obtain ⟨_, _, ⟨T69, L69, k69, n69⟩, -, X69, ⟨Lc69, hQ69, l69, y69, z69⟩, st69⟩ := X68.virtualBack hx (y := own_y27) (z := own_y27) hown (mvT hZ (own_w hw 65 rfl)) (mvT hZ (own_w hw 66 rfl)) (notFace_of_selects (args := #[]) (mvT hZ (own_w hw 68 rfl))) (mvT hZ (own_w hw 68 rfl)) (mvT hZ (own_w hw 67 rfl)) (by decide) (backOf (W := 0) (own_rm90 l Z a0 hw [] b15 T68.heap n0 (Nat.le_trans Z0 K68.1) f68_0 f68_1) hZ (own_w hw 69 rfl) (own_w hw 28 rfl) (by decide) (by decide)) q69a q69c (g := (mkF m 282 (own_l37 i0 i1 i2 cs sb_13 sb_14 b15 b17) [(.ref b15)])) rfl (by rw [hml]; rfl) (Steps.refl _) (argsL := []) (rest := []) (lenOf own_pd16 rfl) rfl (Nat.le_of_eq rfl) (hb hby at_282) (fun _ _ => ⟨rfl, rfl, (by decide : 8 + 0 ≤ _), (by decide : 32 + 0 ≤ _)⟩)
         dsimp only [Pt.U, Pt.locs, Pt.cells, Pt.slots] at X69 l69 y69 z69 st69 hQ69
         subst l69 y69 z69
         obtain ⟨rfl, N69q, e69⟩ := hQ69
         have N69 := Fr.app N68 N69q
         refine ownE.goS st69 ?_
         refine ownE.go (f' := (mkF m 312 (own_l37 i0 i1 i2 cs sb_13 sb_14 b15 b17) [(.int (1 : Int32))])) (fun t kt => XS.iload X69.here hx rfl (hb hby at_285) rfl (XS.ifNo X69.here hx rfl (hb hby at_287) rfl (Jvm.Free.XT.i0_ne_f (by decide)) (XS.iload X69.here hx rfl (hb hby at_290) rfl (XS.ifNo X69.here hx rfl (hb hby at_292) rfl (Jvm.Free.XT.i0_ne_f (by decide)) (XS.iconst X69.here hx rfl (hb hby at_295) (XS.goto X69.here hx rfl (pc0 := 296) (pc' := 300) rfl (hb hby at_296) (by decide) (by decide) (XS.icmpNo X69.here hx rfl (hb hby at_300) rfl (Jvm.Free.XT.ii_ne_f (by decide)) (XS.iconst X69.here hx rfl (hb hby at_303) (XS.goto X69.here hx rfl (pc0 := 304) (pc' := 308) rfl (hb hby at_304) (by decide) (by decide) (XS.istore X69.here hx rfl (hb hby at_308) rfl (l' := (own_l37 i0 i1 i2 cs sb_13 sb_14 b15 b17)) rfl (XS.iload X69.here hx rfl (hb hby at_310) rfl kt))))))))))) ?_
         refine ownE.retN X69 hx hlk (t := .boolean) hret (by simp) (hb hby at_312) ?_ (by decide) (by decide)
         show own_Q0l Z i0 i1 i2 cs fmt h0 n0 _ T69.heap _
         rw [e69]
         exact ⟨(by rw [own_f0l, if_neg hc20, if_neg hc46, if_neg hc60, if_neg hc66] <;> first | rfl | decide), N69, K68⟩
    by_cases hc11 : (i2 &&& (8 : Int32)) = (0 : Int32)
    · -- pc 42
     refine ownE.go (T' := TJ9) (f' := (mkF m 49 (own_l26 i0 i1 i2 cs) [])) (fun t kt => XS.ifYes (g := (mkF m 42 (own_l26 i0 i1 i2 cs) [(.int (i2 &&& (8 : Int32)))])) XJ9.here hx rfl (pc0 := 42) (pc' := 49) rfl (hb hby at_42) rfl (Jvm.Free.XT.i0_eq_t hc11) (by decide) (by decide) kt) ?_
     refine ownE.go (f' := (mkF m 50 (own_l26 i0 i1 i2 cs) [(.int (0 : Int32))])) (fun t kt => XS.iconst XJ9.here hx rfl (hb hby at_49) kt) ?_
     have jj := J12 _ _ XJ9 eJ9 NJ9
     rw [show (own_j0l_50_S0 i0 i1 i2 cs) = (0 : Int32) from by rw [own_j0l_50_S0, if_pos hc11]] at jj
     exact jj
    · -- pc 42
     refine ownE.go (T' := TJ9) (f' := (mkF m 45 (own_l26 i0 i1 i2 cs) [])) (fun t kt => XS.ifNo (g := (mkF m 42 (own_l26 i0 i1 i2 cs) [(.int (i2 &&& (8 : Int32)))])) XJ9.here hx rfl (hb hby at_42) rfl (Jvm.Free.XT.i0_eq_f hc11) kt) ?_
     refine ownE.go (f' := (mkF m 50 (own_l26 i0 i1 i2 cs) [(.int (1 : Int32))])) (fun t kt => XS.iconst XJ9.here hx rfl (hb hby at_45) (XS.goto XJ9.here hx rfl (pc0 := 46) (pc' := 50) rfl (hb hby at_46) (by decide) (by decide) kt)) ?_
     have jj := J12 _ _ XJ9 eJ9 NJ9
     rw [show (own_j0l_50_S0 i0 i1 i2 cs) = (1 : Int32) from by rw [own_j0l_50_S0, if_neg hc11]] at jj
     exact jj
   by_cases hc8 : (i2 &&& (4 : Int32)) = (0 : Int32)
   · -- pc 28
    refine ownE.go (T' := TJ6) (f' := (mkF m 35 (own_l25 i0 i1 i2 cs) [])) (fun t kt => XS.ifYes (g := (mkF m 28 (own_l25 i0 i1 i2 cs) [(.int (i2 &&& (4 : Int32)))])) XJ6.here hx rfl (pc0 := 28) (pc' := 35) rfl (hb hby at_28) rfl (Jvm.Free.XT.i0_eq_t hc8) (by decide) (by decide) kt) ?_
    refine ownE.go (f' := (mkF m 36 (own_l25 i0 i1 i2 cs) [(.int (0 : Int32))])) (fun t kt => XS.iconst XJ6.here hx rfl (hb hby at_35) kt) ?_
    have jj := J9 _ _ XJ6 eJ6 NJ6
    rw [show (own_j0l_36_S0 i0 i1 i2 cs) = (0 : Int32) from by rw [own_j0l_36_S0, if_pos hc8]] at jj
    exact jj
   · -- pc 28
    refine ownE.go (T' := TJ6) (f' := (mkF m 31 (own_l25 i0 i1 i2 cs) [])) (fun t kt => XS.ifNo (g := (mkF m 28 (own_l25 i0 i1 i2 cs) [(.int (i2 &&& (4 : Int32)))])) XJ6.here hx rfl (hb hby at_28) rfl (Jvm.Free.XT.i0_eq_f hc8) kt) ?_
    refine ownE.go (f' := (mkF m 36 (own_l25 i0 i1 i2 cs) [(.int (1 : Int32))])) (fun t kt => XS.iconst XJ6.here hx rfl (hb hby at_31) (XS.goto XJ6.here hx rfl (pc0 := 32) (pc' := 36) rfl (hb hby at_32) (by decide) (by decide) kt)) ?_
    have jj := J9 _ _ XJ6 eJ6 NJ6
    rw [show (own_j0l_36_S0 i0 i1 i2 cs) = (1 : Int32) from by rw [own_j0l_36_S0, if_neg hc8]] at jj
    exact jj
  by_cases hc5 : (i2 &&& (2 : Int32)) = (0 : Int32)
  · -- pc 15
   refine ownE.go (T' := TJ3) (f' := (mkF m 22 (own_l24 i0 i1 i2 cs) [])) (fun t kt => XS.ifYes (g := (mkF m 15 (own_l24 i0 i1 i2 cs) [(.int (i2 &&& (2 : Int32)))])) XJ3.here hx rfl (pc0 := 15) (pc' := 22) rfl (hb hby at_15) rfl (Jvm.Free.XT.i0_eq_t hc5) (by decide) (by decide) kt) ?_
   refine ownE.go (f' := (mkF m 23 (own_l24 i0 i1 i2 cs) [(.int (0 : Int32))])) (fun t kt => XS.iconst XJ3.here hx rfl (hb hby at_22) kt) ?_
   have jj := J6 _ _ XJ3 eJ3 NJ3
   rw [show (own_j0l_23_S0 i0 i1 i2 cs) = (0 : Int32) from by rw [own_j0l_23_S0, if_pos hc5]] at jj
   exact jj
  · -- pc 15
   refine ownE.go (T' := TJ3) (f' := (mkF m 18 (own_l24 i0 i1 i2 cs) [])) (fun t kt => XS.ifNo (g := (mkF m 15 (own_l24 i0 i1 i2 cs) [(.int (i2 &&& (2 : Int32)))])) XJ3.here hx rfl (hb hby at_15) rfl (Jvm.Free.XT.i0_eq_f hc5) kt) ?_
   refine ownE.go (f' := (mkF m 23 (own_l24 i0 i1 i2 cs) [(.int (1 : Int32))])) (fun t kt => XS.iconst XJ3.here hx rfl (hb hby at_18) (XS.goto XJ3.here hx rfl (pc0 := 19) (pc' := 23) rfl (hb hby at_19) (by decide) (by decide) kt)) ?_
   have jj := J6 _ _ XJ3 eJ3 NJ3
   rw [show (own_j0l_23_S0 i0 i1 i2 cs) = (1 : Int32) from by rw [own_j0l_23_S0, if_neg hc5]] at jj
   exact jj
 by_cases hc2 : (i2 &&& (1 : Int32)) = (0 : Int32)
 · -- pc 3
  refine ownE.go (T' := s₁) (f' := (mkF m 10 (own_l7 i0 i1 i2) [])) (fun t kt => XS.ifYes (g := (mkF m 3 (own_l7 i0 i1 i2) [(.int (i2 &&& (1 : Int32)))])) X0.here hx rfl (pc0 := 3) (pc' := 10) rfl (hb hby at_3) rfl (Jvm.Free.XT.i0_eq_t hc2) (by decide) (by decide) kt) ?_
  refine ownE.go (f' := (mkF m 11 (own_l7 i0 i1 i2) [(.int (0 : Int32))])) (fun t kt => XS.iconst X0.here hx rfl (hb hby at_10) kt) ?_
  have jj := J3 _ _ X0 e0 N0
  rw [show (own_j0l_11_S0 i0 i1 i2 cs) = (0 : Int32) from by rw [own_j0l_11_S0, if_pos hc2]] at jj
  exact jj
 · -- pc 3
  refine ownE.go (T' := s₁) (f' := (mkF m 6 (own_l7 i0 i1 i2) [])) (fun t kt => XS.ifNo (g := (mkF m 3 (own_l7 i0 i1 i2) [(.int (i2 &&& (1 : Int32)))])) X0.here hx rfl (hb hby at_3) rfl (Jvm.Free.XT.i0_eq_f hc2) kt) ?_
  refine ownE.go (f' := (mkF m 11 (own_l7 i0 i1 i2) [(.int (1 : Int32))])) (fun t kt => XS.iconst X0.here hx rfl (hb hby at_6) (XS.goto X0.here hx rfl (pc0 := 7) (pc' := 11) rfl (hb hby at_7) (by decide) (by decide) kt)) ?_
  have jj := J3 _ _ X0 e0 N0
  rw [show (own_j0l_11_S0 i0 i1 i2 cs) = (1 : Int32) from by rw [own_j0l_11_S0, if_neg hc2]] at jj
  exact jj
def own_j0g_11_S0 (i0 : Int32) (i1 : Int32) (i2 : Int32) (cs : Int32) : Int32 :=
  if (i2 &&& (1 : Int32)) = (0 : Int32) then
    (0 : Int32)
  else
    (1 : Int32)
abbrev own_l42 (i0 : Int32) (i1 : Int32) (i2 : Int32) (cs : Int32) : Array Slot := #[.val (.int i0), .val (.int i1), .val (.int i2), .val (.int (own_j0g_11_S0 i0 i1 i2 cs)), .unset, .unset, .unset, .unset, .unset, .unset, .unset, .unset, .unset, .unset, .unset, .unset, .unset]
def own_j0g_23_S0 (i0 : Int32) (i1 : Int32) (i2 : Int32) (cs : Int32) : Int32 :=
  if (i2 &&& (2 : Int32)) = (0 : Int32) then
    (0 : Int32)
  else
    (1 : Int32)
abbrev own_l43 (i0 : Int32) (i1 : Int32) (i2 : Int32) (cs : Int32) : Array Slot := #[.val (.int i0), .val (.int i1), .val (.int i2), .val (.int (own_j0g_11_S0 i0 i1 i2 cs)), .val (.int (own_j0g_23_S0 i0 i1 i2 cs)), .unset, .unset, .unset, .unset, .unset, .unset, .unset, .unset, .unset, .unset, .unset, .unset]
def own_j0g_36_S0 (i0 : Int32) (i1 : Int32) (i2 : Int32) (cs : Int32) : Int32 :=
  if (i2 &&& (4 : Int32)) = (0 : Int32) then
    (0 : Int32)
  else
    (1 : Int32)
abbrev own_l44 (i0 : Int32) (i1 : Int32) (i2 : Int32) (cs : Int32) : Array Slot := #[.val (.int i0), .val (.int i1), .val (.int i2), .val (.int (own_j0g_11_S0 i0 i1 i2 cs)), .val (.int (own_j0g_23_S0 i0 i1 i2 cs)), .val (.int (own_j0g_36_S0 i0 i1 i2 cs)), .unset, .unset, .unset, .unset, .unset, .unset, .unset, .unset, .unset, .unset, .unset]
def own_j0g_50_S0 (i0 : Int32) (i1 : Int32) (i2 : Int32) (cs : Int32) : Int32 :=
  if (i2 &&& (8 : Int32)) = (0 : Int32) then
    (0 : Int32)
  else
    (1 : Int32)
abbrev own_l45 (i0 : Int32) (i1 : Int32) (i2 : Int32) (cs : Int32) : Array Slot := #[.val (.int i0), .val (.int i1), .val (.int i2), .val (.int (own_j0g_11_S0 i0 i1 i2 cs)), .val (.int (own_j0g_23_S0 i0 i1 i2 cs)), .val (.int (own_j0g_36_S0 i0 i1 i2 cs)), .val (.int (own_j0g_50_S0 i0 i1 i2 cs)), .unset, .unset, .unset, .unset, .unset, .unset, .unset, .unset, .unset, .unset]
abbrev own_l46 (i0 : Int32) (i1 : Int32) (i2 : Int32) (cs : Int32) : Array Slot := #[.val (.int i0), .val (.int i1), .val (.int i2), .val (.int (own_j0g_11_S0 i0 i1 i2 cs)), .val (.int (own_j0g_23_S0 i0 i1 i2 cs)), .val (.int (own_j0g_36_S0 i0 i1 i2 cs)), .val (.int (own_j0g_50_S0 i0 i1 i2 cs)), .val (.int ((i0 &&& (255 : Int32)).toUInt32.toUInt16.toUInt32.toInt32)), .unset, .unset, .unset, .unset, .unset, .unset, .unset, .unset, .unset]
abbrev own_l47 (i0 : Int32) (i1 : Int32) (i2 : Int32) (cs : Int32) : Array Slot := #[.val (.int i0), .val (.int i1), .val (.int i2), .val (.int (own_j0g_11_S0 i0 i1 i2 cs)), .val (.int (own_j0g_23_S0 i0 i1 i2 cs)), .val (.int (own_j0g_36_S0 i0 i1 i2 cs)), .val (.int (own_j0g_50_S0 i0 i1 i2 cs)), .val (.int ((i0 &&& (255 : Int32)).toUInt32.toUInt16.toUInt32.toInt32)), .val (.int ((i1 &&& (255 : Int32)).toUInt32.toUInt16.toUInt32.toInt32)), .unset, .unset, .unset, .unset, .unset, .unset, .unset, .unset]
abbrev own_l48 (i0 : Int32) (i1 : Int32) (i2 : Int32) (cs : Int32) (sb_13 : Addr) : Array Slot := #[.val (.int i0), .val (.int i1), .val (.int i2), .val (.int (own_j0g_11_S0 i0 i1 i2 cs)), .val (.int (own_j0g_23_S0 i0 i1 i2 cs)), .val (.int (own_j0g_36_S0 i0 i1 i2 cs)), .val (.int (own_j0g_50_S0 i0 i1 i2 cs)), .val (.int ((i0 &&& (255 : Int32)).toUInt32.toUInt16.toUInt32.toInt32)), .val (.int ((i1 &&& (255 : Int32)).toUInt32.toUInt16.toUInt32.toInt32)), .val (.ref sb_13), .unset, .unset, .unset, .unset, .unset, .unset, .unset]
abbrev own_l49 (i0 : Int32) (i1 : Int32) (i2 : Int32) (cs : Int32) (sb_13 : Addr) (sb_14 : Addr) : Array Slot := #[.val (.int i0), .val (.int i1), .val (.int i2), .val (.int (own_j0g_11_S0 i0 i1 i2 cs)), .val (.int (own_j0g_23_S0 i0 i1 i2 cs)), .val (.int (own_j0g_36_S0 i0 i1 i2 cs)), .val (.int (own_j0g_50_S0 i0 i1 i2 cs)), .val (.int ((i0 &&& (255 : Int32)).toUInt32.toUInt16.toUInt32.toInt32)), .val (.int ((i1 &&& (255 : Int32)).toUInt32.toUInt16.toUInt32.toInt32)), .val (.ref sb_13), .val (.ref sb_14), .unset, .unset, .unset, .unset, .unset, .unset]
abbrev own_l50 (i0 : Int32) (i1 : Int32) (i2 : Int32) (cs : Int32) (sb_13 : Addr) (sb_14 : Addr) : Array Slot := #[.val (.int i0), .val (.int i1), .val (.int i2), .val (.int (own_j0g_11_S0 i0 i1 i2 cs)), .val (.int (own_j0g_23_S0 i0 i1 i2 cs)), .val (.int (own_j0g_36_S0 i0 i1 i2 cs)), .val (.int (own_j0g_50_S0 i0 i1 i2 cs)), .val (.int ((i0 &&& (255 : Int32)).toUInt32.toUInt16.toUInt32.toInt32)), .val (.int ((i1 &&& (255 : Int32)).toUInt32.toUInt16.toUInt32.toInt32)), .val (.ref sb_13), .val (.ref sb_14), .val (.int (0 : Int32)), .unset, .unset, .unset, .unset, .unset]
abbrev own_l51 (i0 : Int32) (i1 : Int32) (i2 : Int32) (cs : Int32) (sb_13 : Addr) (sb_14 : Addr) (b15 : Addr) : Array Slot := #[.val (.int i0), .val (.int i1), .val (.int i2), .val (.int (own_j0g_11_S0 i0 i1 i2 cs)), .val (.int (own_j0g_23_S0 i0 i1 i2 cs)), .val (.int (own_j0g_36_S0 i0 i1 i2 cs)), .val (.int (own_j0g_50_S0 i0 i1 i2 cs)), .val (.int ((i0 &&& (255 : Int32)).toUInt32.toUInt16.toUInt32.toInt32)), .val (.int ((i1 &&& (255 : Int32)).toUInt32.toUInt16.toUInt32.toInt32)), .val (.ref sb_13), .val (.ref sb_14), .val (.int (0 : Int32)), .val (.ref b15), .unset, .unset, .unset, .unset]
abbrev own_l52 (i0 : Int32) (i1 : Int32) (i2 : Int32) (cs : Int32) (sb_13 : Addr) (sb_14 : Addr) (b15 : Addr) (b17 : Addr) : Array Slot := #[.val (.int i0), .val (.int i1), .val (.int i2), .val (.int (own_j0g_11_S0 i0 i1 i2 cs)), .val (.int (own_j0g_23_S0 i0 i1 i2 cs)), .val (.int (own_j0g_36_S0 i0 i1 i2 cs)), .val (.int (own_j0g_50_S0 i0 i1 i2 cs)), .val (.int ((i0 &&& (255 : Int32)).toUInt32.toUInt16.toUInt32.toInt32)), .val (.int ((i1 &&& (255 : Int32)).toUInt32.toUInt16.toUInt32.toInt32)), .val (.ref sb_13), .val (.ref sb_14), .val (.int (0 : Int32)), .val (.ref b15), .val (.ref b17), .unset, .unset, .unset]
abbrev own_l53 (i0 : Int32) (i1 : Int32) (i2 : Int32) (cs : Int32) (sb_13 : Addr) (sb_14 : Addr) (b15 : Addr) (b17 : Addr) : Array Slot := #[.val (.int i0), .val (.int i1), .val (.int i2), .val (.int (own_j0g_11_S0 i0 i1 i2 cs)), .val (.int (own_j0g_23_S0 i0 i1 i2 cs)), .val (.int (own_j0g_36_S0 i0 i1 i2 cs)), .val (.int (own_j0g_50_S0 i0 i1 i2 cs)), .val (.int ((i0 &&& (255 : Int32)).toUInt32.toUInt16.toUInt32.toInt32)), .val (.int ((i1 &&& (255 : Int32)).toUInt32.toUInt16.toUInt32.toInt32)), .val (.ref sb_13), .val (.ref sb_14), .val (.int (0 : Int32)), .val (.ref b15), .val (.ref b17), .val (.int (1 : Int32)), .unset, .unset]
abbrev own_l54 (i0 : Int32) (i1 : Int32) (i2 : Int32) (cs : Int32) (sb_13 : Addr) (sb_14 : Addr) (b15 : Addr) (b17 : Addr) : Array Slot := #[.val (.int i0), .val (.int i1), .val (.int i2), .val (.int (own_j0g_11_S0 i0 i1 i2 cs)), .val (.int (own_j0g_23_S0 i0 i1 i2 cs)), .val (.int (own_j0g_36_S0 i0 i1 i2 cs)), .val (.int (own_j0g_50_S0 i0 i1 i2 cs)), .val (.int ((i0 &&& (255 : Int32)).toUInt32.toUInt16.toUInt32.toInt32)), .val (.int ((i1 &&& (255 : Int32)).toUInt32.toUInt16.toUInt32.toInt32)), .val (.ref sb_13), .val (.ref sb_14), .val (.int (0 : Int32)), .val (.ref b15), .val (.ref b17), .val (.int (1 : Int32)), .val (.int (0 : Int32)), .unset]
abbrev own_l55 (i0 : Int32) (i1 : Int32) (i2 : Int32) (cs : Int32) (sb_13 : Addr) (sb_14 : Addr) (b15 : Addr) (b17 : Addr) : Array Slot := #[.val (.int i0), .val (.int i1), .val (.int i2), .val (.int (own_j0g_11_S0 i0 i1 i2 cs)), .val (.int (own_j0g_23_S0 i0 i1 i2 cs)), .val (.int (own_j0g_36_S0 i0 i1 i2 cs)), .val (.int (own_j0g_50_S0 i0 i1 i2 cs)), .val (.int ((i0 &&& (255 : Int32)).toUInt32.toUInt16.toUInt32.toInt32)), .val (.int ((i1 &&& (255 : Int32)).toUInt32.toUInt16.toUInt32.toInt32)), .val (.ref sb_13), .val (.ref sb_14), .val (.int (0 : Int32)), .val (.ref b15), .val (.ref b17), .val (.int (1 : Int32)), .val (.int (0 : Int32)), .val (.int (0 : Int32))]
abbrev own_l56 (i0 : Int32) (i1 : Int32) (i2 : Int32) (cs : Int32) (sb_13 : Addr) (sb_14 : Addr) (b15 : Addr) (b17 : Addr) : Array Slot := #[.val (.int i0), .val (.int i1), .val (.int i2), .val (.int (own_j0g_11_S0 i0 i1 i2 cs)), .val (.int (own_j0g_23_S0 i0 i1 i2 cs)), .val (.int (own_j0g_36_S0 i0 i1 i2 cs)), .val (.int (own_j0g_50_S0 i0 i1 i2 cs)), .val (.int ((i0 &&& (255 : Int32)).toUInt32.toUInt16.toUInt32.toInt32)), .val (.int ((i1 &&& (255 : Int32)).toUInt32.toUInt16.toUInt32.toInt32)), .val (.ref sb_13), .val (.ref sb_14), .val (.int (0 : Int32)), .val (.ref b15), .val (.ref b17), .val (.int (1 : Int32)), .val (.int (0 : Int32)), .val (.int (1 : Int32))]
abbrev own_l57 (i0 : Int32) (i1 : Int32) (i2 : Int32) (cs : Int32) (sb_13 : Addr) (sb_14 : Addr) (b15 : Addr) (b17 : Addr) : Array Slot := #[.val (.int i0), .val (.int i1), .val (.int i2), .val (.int (own_j0g_11_S0 i0 i1 i2 cs)), .val (.int (own_j0g_23_S0 i0 i1 i2 cs)), .val (.int (own_j0g_36_S0 i0 i1 i2 cs)), .val (.int (own_j0g_50_S0 i0 i1 i2 cs)), .val (.int ((i0 &&& (255 : Int32)).toUInt32.toUInt16.toUInt32.toInt32)), .val (.int ((i1 &&& (255 : Int32)).toUInt32.toUInt16.toUInt32.toInt32)), .val (.ref sb_13), .val (.ref sb_14), .val (.int (0 : Int32)), .val (.ref b15), .val (.ref b17), .val (.int (1 : Int32)), .val (.int (1 : Int32)), .unset]
abbrev own_l58 (i0 : Int32) (i1 : Int32) (i2 : Int32) (cs : Int32) (sb_13 : Addr) (sb_14 : Addr) (b15 : Addr) (b17 : Addr) : Array Slot := #[.val (.int i0), .val (.int i1), .val (.int i2), .val (.int (own_j0g_11_S0 i0 i1 i2 cs)), .val (.int (own_j0g_23_S0 i0 i1 i2 cs)), .val (.int (own_j0g_36_S0 i0 i1 i2 cs)), .val (.int (own_j0g_50_S0 i0 i1 i2 cs)), .val (.int ((i0 &&& (255 : Int32)).toUInt32.toUInt16.toUInt32.toInt32)), .val (.int ((i1 &&& (255 : Int32)).toUInt32.toUInt16.toUInt32.toInt32)), .val (.ref sb_13), .val (.ref sb_14), .val (.int (0 : Int32)), .val (.ref b15), .val (.ref b17), .val (.int (1 : Int32)), .val (.int (1 : Int32)), .val (.int (0 : Int32))]
abbrev own_l59 (i0 : Int32) (i1 : Int32) (i2 : Int32) (cs : Int32) (sb_13 : Addr) (sb_14 : Addr) (b15 : Addr) (b17 : Addr) : Array Slot := #[.val (.int i0), .val (.int i1), .val (.int i2), .val (.int (own_j0g_11_S0 i0 i1 i2 cs)), .val (.int (own_j0g_23_S0 i0 i1 i2 cs)), .val (.int (own_j0g_36_S0 i0 i1 i2 cs)), .val (.int (own_j0g_50_S0 i0 i1 i2 cs)), .val (.int ((i0 &&& (255 : Int32)).toUInt32.toUInt16.toUInt32.toInt32)), .val (.int ((i1 &&& (255 : Int32)).toUInt32.toUInt16.toUInt32.toInt32)), .val (.ref sb_13), .val (.ref sb_14), .val (.int (0 : Int32)), .val (.ref b15), .val (.ref b17), .val (.int (1 : Int32)), .val (.int (1 : Int32)), .val (.int (1 : Int32))]
theorem own_ef0g (m : MethodId) (x0 : Int32) (x1 : Int32) (x2 : Int32) : entryFrame m #[(.int x0), (.int x1), (.int x2)] maxLocals = mkF m 0 #[.val (.int x0), .val (.int x1), .val (.int x2), .unset, .unset, .unset, .unset, .unset, .unset, .unset, .unset, .unset, .unset, .unset, .unset, .unset, .unset] [] := by first | (simp [entryFrame, mkF, argsToLocals, Value.category, maxLocals]; done) | rfl
def own_f0g (i0 : Int32) (i1 : Int32) (i2 : Int32) (cs : Int32) : Int32 :=
  if (own_j0g_11_S0 i0 i1 i2 cs) = (0 : Int32) then
    if (own_j0g_23_S0 i0 i1 i2 cs) = (0 : Int32) then
      if (own_j0g_36_S0 i0 i1 i2 cs) = (0 : Int32) then
        if (own_j0g_50_S0 i0 i1 i2 cs) = (0 : Int32) then
          (1 : Int32)
        else
          (1 : Int32)
      else
        if (own_j0g_50_S0 i0 i1 i2 cs) = (0 : Int32) then
          (1 : Int32)
        else
          (1 : Int32)
    else
      if (own_j0g_36_S0 i0 i1 i2 cs) = (0 : Int32) then
        if (own_j0g_50_S0 i0 i1 i2 cs) = (0 : Int32) then
          (1 : Int32)
        else
          (1 : Int32)
      else
        if (own_j0g_50_S0 i0 i1 i2 cs) = (0 : Int32) then
          (1 : Int32)
        else
          (1 : Int32)
  else
    if (own_j0g_23_S0 i0 i1 i2 cs) = (0 : Int32) then
      if (own_j0g_36_S0 i0 i1 i2 cs) = (0 : Int32) then
        if (own_j0g_50_S0 i0 i1 i2 cs) = (0 : Int32) then
          (1 : Int32)
        else
          (1 : Int32)
      else
        if (own_j0g_50_S0 i0 i1 i2 cs) = (0 : Int32) then
          (1 : Int32)
        else
          (1 : Int32)
    else
      if (own_j0g_36_S0 i0 i1 i2 cs) = (0 : Int32) then
        if (own_j0g_50_S0 i0 i1 i2 cs) = (0 : Int32) then
          (1 : Int32)
        else
          (1 : Int32)
      else
        if (own_j0g_50_S0 i0 i1 i2 cs) = (0 : Int32) then
          (1 : Int32)
        else
          (1 : Int32)
def own_Q0g (Z : State) (i0 : Int32) (i1 : Int32) (i2 : Int32) (cs : Int32) (fmt : Value) (h0 : Heap) (n0 : Nat) (v : Option Value) (h : Heap) (L : List Loc) : Prop := v = some (.int (own_f0g i0 i1 i2 cs)) ∧ Fr n0 L ∧ Keep h0 h []
set_option maxRecDepth 65536 in
set_option maxHeartbeats 40000000 in
theorem own_rm0g (l : Launch) (Z : State) (a0 : Array Value) (hw : ∀ d ∈ tables_1, d.before a0 Z = true) (ws : List Jvm.Cond) (i0 : Int32) (i1 : Int32) (i2 : Int32) (cs : Int32) (fmt : Value) (h0 : Heap) (n0 : Nat) (Z0 : n0 ≤ h0.size) (Od : Old Z n0 h0) (hcs : Sta Z Z.heap own_s2 "COMPACT_STRINGS" "Z" (.int cs)) (hcsn : ¬ cs = (0 : Int32)) (zfm : Sta Z Z.heap own_s8 "SIOOBE_FORMATTER" own_s9 fmt) (hfm : fmt.isRef = true) (zad : Sta Z Z.heap own_s3 "$assertionsDisabled" "Z" (.int (1 : Int32))) (hN : ¬ ((i0 &&& (255 : Int32)).toUInt32.toUInt16.toUInt32.toInt32) = ((i1 &&& (255 : Int32)).toUInt32.toUInt16.toUInt32.toInt32)) (hG : ¬ ((i0 &&& (255 : Int32)).toUInt32.toUInt16.toUInt32.toInt32) < ((i1 &&& (255 : Int32)).toUInt32.toUInt16.toUInt32.toInt32)) :
    MetFree l x (head1 (Jvm.Cond.code x code maxLocals ret :: ws) room_1) (fun a U => a = #[(.int i0), (.int i1), (.int i2)] ∧ Z.Warmed39 U.vm ∧ U.heap = h0) (fun _ _ _ _ _ => True) (fun _ U o U' => ∃ v L, o = .returned v ∧ own_Q0g Z i0 i1 i2 cs fmt h0 n0 v U'.heap L ∧ FrameEnd U o U' L 8 32) := by
 refine MetFree.of_bodySF (plainFor_of_name own_pn35) hisR ?_
 intro p e s m args below meth c s₁ Bd hml0 hP hK
 obtain ⟨rfl, hZ, hh⟩ := hP
 have hx := Bd.exec
 have hby := Bd.bytes
 have hret := Bd.returns
 have hlk := BodyLoose.notSynchronized Bd
 have hml : c.maxLocals = 17 := hml0
 have hown : s.vm.findClass "com/example/quayside/quayside/core/EntriesIsEmptyPinLaw" = some m.cls := findClass_of_methodNamed Bd.named
 have hnm := (name_of_methodNamed Bd.named Bd.method).1
 have X0 : Stand p l e room_1 s m #[(.int i0), (.int i1), (.int i2)] below meth c s₁ [] 0 0 := Stand.of_body Bd
 have e0 : s₁.heap = h0 := by rw [← hh, Bd.state]; rfl
 have N0 := Fr.nil n0
 have K0 : Keep h0 h0 [] := Keep.refl h0 _
 show ownE p e below s (own_Q0g Z i0 i1 i2 cs fmt h0 n0) 8 32 s₁ (entryFrame m #[(.int i0), (.int i1), (.int i2)] maxLocals)
 rw [own_ef0g]
 refine ownE.go (f' := (mkF m 3 (own_l7 i0 i1 i2) [(.int (i2 &&& (1 : Int32)))])) (fun t kt => XS.iloadN X0.here hx rfl (hb hby at_0) rfl (XS.iconst X0.here hx rfl (hb hby at_1) (XS.iand X0.here hx rfl (hb hby at_2) rfl kt))) ?_
 have J3 : ∀ (TJ3 : State) (locsJ3 : List Loc), Stand p l e room_1 s m #[(.int i0), (.int i1), (.int i2)] below meth c TJ3 locsJ3 0 0 → TJ3.heap = h0 → Fr n0 locsJ3 → ownE p e below s (own_Q0g Z i0 i1 i2 cs fmt h0 n0) 8 32 TJ3 (mkF m 11 (own_l7 i0 i1 i2) [(.int (own_j0g_11_S0 i0 i1 i2 cs))]) := by
  intro TJ3 locsJ3 XJ3 eJ3 NJ3
  refine ownE.go (f' := (mkF m 15 (own_l42 i0 i1 i2 cs) [(.int (i2 &&& (2 : Int32)))])) (fun t kt => XS.istoreN XJ3.here hx rfl (hb hby at_11) rfl (l' := (own_l42 i0 i1 i2 cs)) rfl (XS.iloadN XJ3.here hx rfl (hb hby at_12) rfl (XS.iconst XJ3.here hx rfl (hb hby at_13) (XS.iand XJ3.here hx rfl (hb hby at_14) rfl kt)))) ?_
  have J6 : ∀ (TJ6 : State) (locsJ6 : List Loc), Stand p l e room_1 s m #[(.int i0), (.int i1), (.int i2)] below meth c TJ6 locsJ6 0 0 → TJ6.heap = h0 → Fr n0 locsJ6 → ownE p e below s (own_Q0g Z i0 i1 i2 cs fmt h0 n0) 8 32 TJ6 (mkF m 23 (own_l42 i0 i1 i2 cs) [(.int (own_j0g_23_S0 i0 i1 i2 cs))]) := by
   intro TJ6 locsJ6 XJ6 eJ6 NJ6
   refine ownE.go (f' := (mkF m 28 (own_l43 i0 i1 i2 cs) [(.int (i2 &&& (4 : Int32)))])) (fun t kt => XS.istore XJ6.here hx rfl (hb hby at_23) rfl (l' := (own_l43 i0 i1 i2 cs)) rfl (XS.iloadN XJ6.here hx rfl (hb hby at_25) rfl (XS.iconst XJ6.here hx rfl (hb hby at_26) (XS.iand XJ6.here hx rfl (hb hby at_27) rfl kt)))) ?_
   have J9 : ∀ (TJ9 : State) (locsJ9 : List Loc), Stand p l e room_1 s m #[(.int i0), (.int i1), (.int i2)] below meth c TJ9 locsJ9 0 0 → TJ9.heap = h0 → Fr n0 locsJ9 → ownE p e below s (own_Q0g Z i0 i1 i2 cs fmt h0 n0) 8 32 TJ9 (mkF m 36 (own_l43 i0 i1 i2 cs) [(.int (own_j0g_36_S0 i0 i1 i2 cs))]) := by
    intro TJ9 locsJ9 XJ9 eJ9 NJ9
    refine ownE.go (f' := (mkF m 42 (own_l44 i0 i1 i2 cs) [(.int (i2 &&& (8 : Int32)))])) (fun t kt => XS.istore XJ9.here hx rfl (hb hby at_36) rfl (l' := (own_l44 i0 i1 i2 cs)) rfl (XS.iloadN XJ9.here hx rfl (hb hby at_38) rfl (XS.bipush XJ9.here hx rfl (hb hby at_39) (XS.iand XJ9.here hx rfl (hb hby at_41) rfl kt)))) ?_
    have J12 : ∀ (TJ12 : State) (locsJ12 : List Loc), Stand p l e room_1 s m #[(.int i0), (.int i1), (.int i2)] below meth c TJ12 locsJ12 0 0 → TJ12.heap = h0 → Fr n0 locsJ12 → ownE p e below s (own_Q0g Z i0 i1 i2 cs fmt h0 n0) 8 32 TJ12 (mkF m 50 (own_l44 i0 i1 i2 cs) [(.int (own_j0g_50_S0 i0 i1 i2 cs))]) := by
     intro TJ12 locsJ12 XJ12 eJ12 NJ12
     refine ownE.go (f' := (mkF m 70 (own_l47 i0 i1 i2 cs) [(.int ((i0 &&& (255 : Int32)).toUInt32.toUInt16.toUInt32.toInt32))])) (fun t kt => XS.istore XJ12.here hx rfl (hb hby at_50) rfl (l' := (own_l45 i0 i1 i2 cs)) rfl (XS.iloadN XJ12.here hx rfl (hb hby at_52) rfl (XS.sipush XJ12.here hx rfl (hb hby at_53) (XS.iand XJ12.here hx rfl (hb hby at_56) rfl (XS.i2c XJ12.here hx rfl (hb hby at_57) rfl (XS.istore XJ12.here hx rfl (hb hby at_58) rfl (l' := (own_l46 i0 i1 i2 cs)) rfl (XS.iloadN XJ12.here hx rfl (hb hby at_60) rfl (XS.sipush XJ12.here hx rfl (hb hby at_61) (XS.iand XJ12.here hx rfl (hb hby at_64) rfl (XS.i2c XJ12.here hx rfl (hb hby at_65) rfl (XS.istore XJ12.here hx rfl (hb hby at_66) rfl (l' := (own_l47 i0 i1 i2 cs)) rfl (XS.iload XJ12.here hx rfl (hb hby at_68) rfl kt)))))))))))) ?_
     obtain ⟨_, _, ⟨T13, L13, k13, n13⟩, -, X13, ⟨Lc13, hQ13, l13, y13, z13⟩, st13⟩ := Jvm.LawKit.callS XJ12 hx (y := own_y3) hown (mvT hZ (own_w hw 0 rfl)) (mvT hZ (own_w hw 1 rfl)) (mvT hZ (own_w hw 2 rfl)) (mvT hZ (own_w hw 3 rfl)) (by decide) (backOf (W := 0) (own_rm1 l Z a0 hw [] ((i0 &&& (255 : Int32)).toUInt32.toUInt16.toUInt32.toInt32) cs h0 n0 (Nat.le_trans Z0 K0.1) Od hcs hcsn (own_ch i0)) hZ (own_w hw 3 rfl) (own_w hw 2 rfl) (by decide) (by decide)) (g := (mkF m 70 (own_l47 i0 i1 i2 cs) [(.int ((i0 &&& (255 : Int32)).toUInt32.toUInt16.toUInt32.toInt32))])) rfl (by rw [hml]; rfl) (argsL := [(.int ((i0 &&& (255 : Int32)).toUInt32.toUInt16.toUInt32.toInt32))]) (rest := []) (lenOf own_pd31 rfl) rfl (Nat.le_of_eq rfl) (hb hby at_70) (fun _ _ => ⟨rfl, eJ12, (by decide : 0 + 2 ≤ _), (by decide : 0 + 5 ≤ _)⟩)
     dsimp only [Pt.U, Pt.locs, Pt.cells, Pt.slots] at X13 l13 y13 z13 st13 hQ13
     subst l13 y13 z13
     obtain ⟨sb_13, vb_13, kb_13, rfl, N13q, K13q, f13_0, f13_1, f13_2, f13_3, f13_4, f13_5, f13_6⟩ := hQ13
     have q810 := Od.keep K13q all0
     have K13 : Keep h0 T13.heap [] := K0.trans K13q all0
     have sz_sb_13 : h0.size ≤ sb_13 := Nat.le_trans K0.1 f13_0
     have ge_sb_13 : n0 ≤ sb_13 := Nat.le_trans Z0 sz_sb_13
     have sz_vb_13 : h0.size ≤ vb_13 := Nat.le_trans K0.1 f13_1
     have ge_vb_13 : n0 ≤ vb_13 := Nat.le_trans Z0 sz_vb_13
     have N13 := Fr.app NJ12 N13q
     refine ownE.go st13 ?_
     refine ownE.go (f' := (mkF m 77 (own_l48 i0 i1 i2 cs sb_13) [(.int ((i1 &&& (255 : Int32)).toUInt32.toUInt16.toUInt32.toInt32))])) (fun t kt => XS.astore X13.here hx rfl (hb hby at_73) rfl rfl (l' := (own_l48 i0 i1 i2 cs sb_13)) rfl (XS.iload X13.here hx rfl (hb hby at_75) rfl kt)) ?_
     obtain ⟨_, _, ⟨T14, L14, k14, n14⟩, -, X14, ⟨Lc14, hQ14, l14, y14, z14⟩, st14⟩ := Jvm.LawKit.callS X13 hx (y := own_y3) hown (mvT hZ (own_w hw 0 rfl)) (mvT hZ (own_w hw 1 rfl)) (mvT hZ (own_w hw 2 rfl)) (mvT hZ (own_w hw 3 rfl)) (by decide) (backOf (W := 0) (own_rm1 l Z a0 hw [] ((i1 &&& (255 : Int32)).toUInt32.toUInt16.toUInt32.toInt32) cs T13.heap n0 (Nat.le_trans Z0 K13.1) q810 hcs hcsn (own_ch i1)) hZ (own_w hw 3 rfl) (own_w hw 2 rfl) (by decide) (by decide)) (g := (mkF m 77 (own_l48 i0 i1 i2 cs sb_13) [(.int ((i1 &&& (255 : Int32)).toUInt32.toUInt16.toUInt32.toInt32))])) rfl (by rw [hml]; rfl) (argsL := [(.int ((i1 &&& (255 : Int32)).toUInt32.toUInt16.toUInt32.toInt32))]) (rest := []) (lenOf own_pd31 rfl) rfl (Nat.le_of_eq rfl) (hb hby at_77) (fun _ _ => ⟨rfl, rfl, (by decide : 2 + 2 ≤ _), (by decide : 5 + 5 ≤ _)⟩)
     dsimp only [Pt.U, Pt.locs, Pt.cells, Pt.slots] at X14 l14 y14 z14 st14 hQ14
     subst l14 y14 z14
     obtain ⟨sb_14, vb_14, kb_14, rfl, N14q, K14q, f14_0, f14_1, f14_2, f14_3, f14_4, f14_5, f14_6⟩ := hQ14
     have ne_sb_13_sb_14 : sb_13 ≠ sb_14 := Nat.ne_of_lt (Nat.lt_of_lt_of_le f13_2.lt f14_0)
     have ne_vb_13_sb_14 : vb_13 ≠ sb_14 := Nat.ne_of_lt (Nat.lt_of_lt_of_le f13_5.lt f14_0)
     have ne_sb_13_vb_14 : sb_13 ≠ vb_14 := Nat.ne_of_lt (Nat.lt_of_lt_of_le f13_2.lt f14_1)
     have ne_vb_13_vb_14 : vb_13 ≠ vb_14 := Nat.ne_of_lt (Nat.lt_of_lt_of_le f13_5.lt f14_1)
     have q811 := q810.keep K14q all0
     have q812 := f13_2.keep K14q
     have q813 := f13_3.keep K14q nin0
     have q814 := f13_4.keep K14q nin0
     have q815 := f13_5.keep K14q nin0
     have K14 : Keep h0 T14.heap [] := K13.trans K14q all0
     have sz_sb_14 : h0.size ≤ sb_14 := Nat.le_trans K13.1 f14_0
     have ge_sb_14 : n0 ≤ sb_14 := Nat.le_trans Z0 sz_sb_14
     have sz_vb_14 : h0.size ≤ vb_14 := Nat.le_trans K13.1 f14_1
     have ge_vb_14 : n0 ≤ vb_14 := Nat.le_trans Z0 sz_vb_14
     have N14 := Fr.app N13 N14q
     refine ownE.go st14 ?_
     refine ownE.go (f' := (mkF m 96 (own_l50 i0 i1 i2 cs sb_13 sb_14) [])) (fun t kt => XS.astore X14.here hx rfl (hb hby at_80) rfl rfl (l' := (own_l49 i0 i1 i2 cs sb_13 sb_14)) rfl (XS.iload X14.here hx rfl (hb hby at_82) rfl (XS.iload X14.here hx rfl (hb hby at_84) rfl (XS.icmpYes X14.here hx rfl (pc0 := 86) (pc' := 93) rfl (hb hby at_86) rfl (Jvm.Free.XT.ii_ne_t hN) (by decide) (by decide) (XS.iconst X14.here hx rfl (hb hby at_93) (XS.istore X14.here hx rfl (hb hby at_94) rfl (l' := (own_l50 i0 i1 i2 cs sb_13 sb_14)) rfl kt)))))) ?_
     obtain ⟨T15, h15, X15, e15, E15, A15, D15, -, st15⟩ := newO X14 hx hZ hown (own_w hw 26 rfl) (own_w hw 27 rfl) (own_w hw 28 rfl) rfl (g := (mkF m 96 (own_l50 i0 i1 i2 cs sb_13 sb_14) [])) rfl (hb hby at_96) (by decide) (by decide)
     obtain ⟨b15, g15⟩ : ∃ z, z = T14.heap.size := ⟨_, rfl⟩
     rw [← g15] at A15 D15 st15
     have ne_sb_13_b15 : sb_13 ≠ b15 := Nat.ne_of_lt (Nat.lt_of_lt_of_le q812.lt (Nat.le_of_eq g15.symm))
     have ne_vb_13_b15 : vb_13 ≠ b15 := Nat.ne_of_lt (Nat.lt_of_lt_of_le q815.lt (Nat.le_of_eq g15.symm))
     have ne_sb_14_b15 : sb_14 ≠ b15 := Nat.ne_of_lt (Nat.lt_of_lt_of_le f14_2.lt (Nat.le_of_eq g15.symm))
     have ne_vb_14_b15 : vb_14 ≠ b15 := Nat.ne_of_lt (Nat.lt_of_lt_of_le f14_5.lt (Nat.le_of_eq g15.symm))
     have sz_b15 : h0.size ≤ b15 := Nat.le_trans K14.1 (Nat.le_of_eq g15.symm)
     have ge_b15 : n0 ≤ b15 := Nat.le_trans Z0 sz_b15
     have q816 := q811.ext E15
     have q817 := q812.ext E15
     have q818 := q813.ext E15
     have q819 := q814.ext E15
     have q820 := q815.ext E15
     have q821 := f14_2.ext E15
     have q822 := f14_3.ext E15
     have q823 := f14_4.ext E15
     have q824 := f14_5.ext E15
     have D15_root : Fld Z h15 b15 own_s3 "root" own_s1 .null := D15 (Or.inl (own_w hw 71 rfl)) (ty := (.object own_s0)) (by decide)
     have K15 : Keep h0 h15 [] := K14.ext E15
     refine ownE.go st15 ?_
     refine ownE.go (f' := (mkF m 100 (own_l50 i0 i1 i2 cs sb_13 sb_14) [(.ref b15), (.ref b15)])) (fun t kt => XS.dup X15.here hx rfl (hb hby at_99) rfl rfl kt) ?_
     obtain ⟨_, _, ⟨T16, L16, k16, n16⟩, -, X16, ⟨Lc16, hQ16, l16, y16, z16⟩, st16⟩ := X15.specialBack hx (y := own_y4) rfl hown (mvT hZ (own_w hw 29 rfl)) (mvT hZ (own_w hw 30 rfl)) (mvT hZ (own_w hw 31 rfl)) (by decide) (backOf (W := 1) (own_rm6 l Z a0 hw [] b15 h15 n0 (Nat.le_trans Z0 K15.1) ) hZ (own_w hw 31 rfl) (own_w hw 28 rfl) (by decide) (by decide)) (g := (mkF m 100 (own_l50 i0 i1 i2 cs sb_13 sb_14) [(.ref b15), (.ref b15)])) rfl (by rw [hml]; rfl) (Steps.refl _) (a := b15) (argsL := []) (rest := [(.ref b15)]) (lenOf own_pd32 rfl) rfl (Nat.le_of_eq rfl) (hb hby at_100) (fun _ _ => ⟨rfl, e15, (by decide : 5 + 0 ≤ _), (by decide : 11 + 0 ≤ _)⟩)
     dsimp only [Pt.U, Pt.locs, Pt.cells, Pt.slots] at X16 l16 y16 z16 st16 hQ16
     subst l16 y16 z16
     obtain ⟨rfl, N16q, e16⟩ := hQ16
     have N16 := Fr.app N14 N16q
     refine ownE.goS st16 ?_
     refine ownE.go (f' := (mkF m 105 (own_l51 i0 i1 i2 cs sb_13 sb_14 b15) [])) (fun t kt => XS.astore X16.here hx rfl (hb hby at_103) rfl rfl (l' := (own_l51 i0 i1 i2 cs sb_13 sb_14 b15)) rfl kt) ?_
     obtain ⟨T17, h17, X17, e17, E17, A17, D17, -, st17⟩ := newO X16 hx hZ hown (own_w hw 33 rfl) (own_w hw 34 rfl) (own_w hw 35 rfl) e16 (g := (mkF m 105 (own_l51 i0 i1 i2 cs sb_13 sb_14 b15) [])) rfl (hb hby at_105) (by decide) (by decide)
     obtain ⟨b17, g17⟩ : ∃ z, z = h15.size := ⟨_, rfl⟩
     rw [← g17] at A17 D17 st17
     have ne_sb_13_b17 : sb_13 ≠ b17 := Nat.ne_of_lt (Nat.lt_of_lt_of_le q817.lt (Nat.le_of_eq g17.symm))
     have ne_vb_13_b17 : vb_13 ≠ b17 := Nat.ne_of_lt (Nat.lt_of_lt_of_le q820.lt (Nat.le_of_eq g17.symm))
     have ne_sb_14_b17 : sb_14 ≠ b17 := Nat.ne_of_lt (Nat.lt_of_lt_of_le q821.lt (Nat.le_of_eq g17.symm))
     have ne_vb_14_b17 : vb_14 ≠ b17 := Nat.ne_of_lt (Nat.lt_of_lt_of_le q824.lt (Nat.le_of_eq g17.symm))
     have ne_b15_b17 : b15 ≠ b17 := Nat.ne_of_lt (Nat.lt_of_lt_of_le A15.lt (Nat.le_of_eq g17.symm))
     have sz_b17 : h0.size ≤ b17 := Nat.le_trans K15.1 (Nat.le_of_eq g17.symm)
     have ge_b17 : n0 ≤ b17 := Nat.le_trans Z0 sz_b17
     have q825 := q816.ext E17
     have q826 := q817.ext E17
     have q827 := q818.ext E17
     have q828 := q819.ext E17
     have q829 := q820.ext E17
     have q830 := q821.ext E17
     have q831 := q822.ext E17
     have q832 := q823.ext E17
     have q833 := q824.ext E17
     have q834 := A15.ext E17
     have q835 := D15_root.ext E17
     have D17_id : Fld Z h17 b17 own_s4 "id" "J" (.long (0 : Int64)) := D17 (Or.inr (own_w hw 46 rfl)) (ty := .long) (by decide)
     have D17_owner : Fld Z h17 b17 own_s4 "owner" own_s7 .null := D17 (Or.inl (own_w hw 48 rfl)) (ty := (.object own_s2)) (by decide)
     have D17_group : Fld Z h17 b17 own_s4 "group" own_s7 .null := D17 (Or.inl (own_w hw 50 rfl)) (ty := (.object own_s2)) (by decide)
     have D17_permission : Fld Z h17 b17 own_s4 "permission" "I" (.int (0 : Int32)) := D17 (Or.inl (own_w hw 52 rfl)) (ty := .int) (by decide)
     have D17_modificationTime : Fld Z h17 b17 own_s4 "modificationTime" "J" (.long (0 : Int64)) := D17 (Or.inl (own_w hw 54 rfl)) (ty := .long) (by decide)
     have D17_accessTime : Fld Z h17 b17 own_s4 "accessTime" "J" (.long (0 : Int64)) := D17 (Or.inl (own_w hw 56 rfl)) (ty := .long) (by decide)
     have D17_length : Fld Z h17 b17 own_s6 "length" "J" (.long (0 : Int64)) := D17 (Or.inl (own_w hw 58 rfl)) (ty := .long) (by decide)
     have D17_blockSize : Fld Z h17 b17 own_s6 "blockSize" "J" (.long (0 : Int64)) := D17 (Or.inr (own_w hw 60 rfl)) (ty := .long) (by decide)
     have D17_replication : Fld Z h17 b17 own_s6 "replication" "I" (.int (0 : Int32)) := D17 (Or.inl (own_w hw 62 rfl)) (ty := .int) (by decide)
     have D17_blob : Fld Z h17 b17 own_s6 "blob" "J" (.long (0 : Int64)) := D17 (Or.inr (own_w hw 64 rfl)) (ty := .long) (by decide)
     have K17 : Keep h0 h17 [] := K15.ext E17
     refine ownE.go st17 ?_
     refine ownE.go (f' := (mkF m 118 (own_l51 i0 i1 i2 cs sb_13 sb_14 b15) [(.long (0 : Int64)), (.int (0 : Int32)), (.long (0 : Int64)), (.long (0 : Int64)), (.long (0 : Int64)), (.int (0 : Int32)), .null, .null, (.long (1 : Int64)), (.ref b17), (.ref b17)])) (fun t kt => XS.dup X17.here hx rfl (hb hby at_108) rfl rfl (XS.lconst X17.here hx rfl (hb hby at_109) (XS.aconstNull X17.here hx rfl (hb hby at_110) (XS.aconstNull X17.here hx rfl (hb hby at_111) (XS.iconst X17.here hx rfl (hb hby at_112) (XS.lconst X17.here hx rfl (hb hby at_113) (XS.lconst X17.here hx rfl (hb hby at_114) (XS.lconst X17.here hx rfl (hb hby at_115) (XS.iconst X17.here hx rfl (hb hby at_116) (XS.lconst X17.here hx rfl (hb hby at_117) kt)))))))))) ?_
     obtain ⟨_, _, ⟨T18, L18, k18, n18⟩, -, X18, ⟨Lc18, hQ18, l18, y18, z18⟩, st18⟩ := X17.specialBack hx (y := own_y6) rfl hown (mvT hZ (own_w hw 36 rfl)) (mvT hZ (own_w hw 37 rfl)) (mvT hZ (own_w hw 38 rfl)) (by decide) (backOf (W := 1) (own_rm7 l Z a0 hw [] b17 (1 : Int64) (0 : Int32) (0 : Int64) (0 : Int64) (0 : Int64) (0 : Int32) (0 : Int64) h17 n0 (Nat.le_trans Z0 K17.1) D17_id D17_owner D17_group D17_permission D17_modificationTime D17_accessTime D17_length D17_blockSize D17_replication D17_blob A17 ge_b17) hZ (own_w hw 38 rfl) (own_w hw 35 rfl) (by decide) (by decide)) (g := (mkF m 118 (own_l51 i0 i1 i2 cs sb_13 sb_14 b15) [(.long (0 : Int64)), (.int (0 : Int32)), (.long (0 : Int64)), (.long (0 : Int64)), (.long (0 : Int64)), (.int (0 : Int32)), .null, .null, (.long (1 : Int64)), (.ref b17), (.ref b17)])) rfl (by rw [hml]; rfl) (Steps.refl _) (a := b17) (argsL := [(.long (1 : Int64)), .null, .null, (.int (0 : Int32)), (.long (0 : Int64)), (.long (0 : Int64)), (.long (0 : Int64)), (.int (0 : Int32)), (.long (0 : Int64))]) (rest := [(.ref b17)]) (lenOf own_pd33 rfl) rfl (Nat.le_of_eq rfl) (hb hby at_118) (fun _ _ => ⟨rfl, e17, (by decide : 6 + 0 ≤ _), (by decide : 22 + 0 ≤ _)⟩)
     dsimp only [Pt.U, Pt.locs, Pt.cells, Pt.slots] at X18 l18 y18 z18 st18 hQ18
     subst l18 y18 z18
     obtain ⟨rfl, N18q, K18q, f18_0⟩ := hQ18
     have q836 := q825.keep K18q (allS ge_b17 all0)
     have q837 := q826.keep K18q
     have q838 := q827.keep K18q (ninS ne_sb_13_b17 nin0)
     have q839 := q828.keep K18q (ninS ne_sb_13_b17 nin0)
     have q840 := q829.keep K18q (ninS ne_vb_13_b17 nin0)
     have q841 := q830.keep K18q
     have q842 := q831.keep K18q (ninS ne_sb_14_b17 nin0)
     have q843 := q832.keep K18q (ninS ne_sb_14_b17 nin0)
     have q844 := q833.keep K18q (ninS ne_vb_14_b17 nin0)
     have q845 := q834.keep K18q
     have q846 := q835.keep K18q (ninS ne_b15_b17 nin0)
     have q847 := A17.keep K18q
     have K18 : Keep h0 T18.heap [] := K17.trans K18q (allS (Or.inr sz_b17) all0)
     have N18 := Fr.app N16 N18q
     refine ownE.goS st18 ?_
     refine ownE.go (f' := (mkF m 125 (own_l52 i0 i1 i2 cs sb_13 sb_14 b15 b17) [(.ref b15)])) (fun t kt => XS.astore X18.here hx rfl (hb hby at_121) rfl rfl (l' := (own_l52 i0 i1 i2 cs sb_13 sb_14 b15 b17)) rfl (XS.aload X18.here hx rfl (hb hby at_123) rfl rfl kt)) ?_
     obtain ⟨cq19, kq19, q19a, q19b, q19c⟩ := isOf hZ rfl q845
     obtain ⟨_, _, ⟨T19, L19, k19, n19⟩, -, X19, ⟨Lc19, hQ19, l19, y19, z19⟩, st19⟩ := X18.virtualBack hx (y := own_y27) (z := own_y27) hown (mvT hZ (own_w hw 65 rfl)) (mvT hZ (own_w hw 66 rfl)) (notFace_of_selects (args := #[]) (mvT hZ (own_w hw 68 rfl))) (mvT hZ (own_w hw 68 rfl)) (mvT hZ (own_w hw 67 rfl)) (by decide) (backOf (W := 0) (own_rm90 l Z a0 hw [] b15 T18.heap n0 (Nat.le_trans Z0 K18.1) q845 q846) hZ (own_w hw 69 rfl) (own_w hw 28 rfl) (by decide) (by decide)) q19a q19c (g := (mkF m 125 (own_l52 i0 i1 i2 cs sb_13 sb_14 b15 b17) [(.ref b15)])) rfl (by rw [hml]; rfl) (Steps.refl _) (argsL := []) (rest := []) (lenOf own_pd16 rfl) rfl (Nat.le_of_eq rfl) (hb hby at_125) (fun _ _ => ⟨rfl, rfl, (by decide : 6 + 0 ≤ _), (by decide : 22 + 0 ≤ _)⟩)
     dsimp only [Pt.U, Pt.locs, Pt.cells, Pt.slots] at X19 l19 y19 z19 st19 hQ19
     subst l19 y19 z19
     obtain ⟨rfl, N19q, e19⟩ := hQ19
     have N19 := Fr.app N18 N19q
     refine ownE.goS st19 ?_
     refine ownE.go (f' := (mkF m 131 (own_l53 i0 i1 i2 cs sb_13 sb_14 b15 b17) [(.int (own_j0g_11_S0 i0 i1 i2 cs))])) (fun t kt => XS.istore X19.here hx rfl (hb hby at_128) rfl (l' := (own_l53 i0 i1 i2 cs sb_13 sb_14 b15 b17)) rfl (XS.iloadN X19.here hx rfl (hb hby at_130) rfl kt)) ?_
     by_cases hc20 : (own_j0g_11_S0 i0 i1 i2 cs) = (0 : Int32)
     · -- pc 131
      refine ownE.go (T' := T19) (f' := (mkF m 144 (own_l53 i0 i1 i2 cs sb_13 sb_14 b15 b17) [])) (fun t kt => XS.ifYes (g := (mkF m 131 (own_l53 i0 i1 i2 cs sb_13 sb_14 b15 b17) [(.int (own_j0g_11_S0 i0 i1 i2 cs))])) X19.here hx rfl (pc0 := 131) (pc' := 144) rfl (hb hby at_131) rfl (Jvm.Free.XT.i0_eq_t hc20) (by decide) (by decide) kt) ?_
      refine ownE.go (f' := (mkF m 146 (own_l53 i0 i1 i2 cs sb_13 sb_14 b15 b17) [(.int (own_j0g_23_S0 i0 i1 i2 cs))])) (fun t kt => XS.iload X19.here hx rfl (hb hby at_144) rfl kt) ?_
      by_cases hc21 : (own_j0g_23_S0 i0 i1 i2 cs) = (0 : Int32)
      · -- pc 146
       refine ownE.go (T' := T19) (f' := (mkF m 159 (own_l53 i0 i1 i2 cs sb_13 sb_14 b15 b17) [])) (fun t kt => XS.ifYes (g := (mkF m 146 (own_l53 i0 i1 i2 cs sb_13 sb_14 b15 b17) [(.int (own_j0g_23_S0 i0 i1 i2 cs))])) X19.here hx rfl (pc0 := 146) (pc' := 159) rfl (hb hby at_146) rfl (Jvm.Free.XT.i0_eq_t hc21) (by decide) (by decide) kt) ?_
       refine ownE.go (f' := (mkF m 204 (own_l55 i0 i1 i2 cs sb_13 sb_14 b15 b17) [(.ref b15)])) (fun t kt => XS.iloadN X19.here hx rfl (hb hby at_159) rfl (XS.ifNo X19.here hx rfl (hb hby at_160) rfl (Jvm.Free.XT.i0_ne_f hc20) (XS.iload X19.here hx rfl (hb hby at_163) rfl (XS.ifYes X19.here hx rfl (pc0 := 165) (pc' := 177) rfl (hb hby at_165) rfl (Jvm.Free.XT.i0_eq_t hc21) (by decide) (by decide) (XS.iconst X19.here hx rfl (hb hby at_177) (XS.istore X19.here hx rfl (hb hby at_178) rfl (l' := (own_l54 i0 i1 i2 cs sb_13 sb_14 b15 b17)) rfl (XS.iload X19.here hx rfl (hb hby at_180) rfl (XS.ifYes X19.here hx rfl (pc0 := 182) (pc' := 194) rfl (hb hby at_182) rfl (Jvm.Free.XT.i0_eq_t hc21) (by decide) (by decide) (XS.iconst X19.here hx rfl (hb hby at_194) (XS.istore X19.here hx rfl (hb hby at_195) rfl (l' := (own_l55 i0 i1 i2 cs sb_13 sb_14 b15 b17)) rfl (XS.iload X19.here hx rfl (hb hby at_197) rfl (XS.ifNo X19.here hx rfl (hb hby at_199) rfl (Jvm.Free.XT.i0_eq_f (by decide)) (XS.aload X19.here hx rfl (hb hby at_202) rfl rfl kt))))))))))))) ?_
       obtain ⟨cq22, kq22, q22a, q22b, q22c⟩ := isOf hZ e19 q845
       obtain ⟨_, _, ⟨T22, L22, k22, n22⟩, -, X22, ⟨Lc22, hQ22, l22, y22, z22⟩, st22⟩ := X19.virtualBack hx (y := own_y27) (z := own_y27) hown (mvT hZ (own_w hw 65 rfl)) (mvT hZ (own_w hw 66 rfl)) (notFace_of_selects (args := #[]) (mvT hZ (own_w hw 68 rfl))) (mvT hZ (own_w hw 68 rfl)) (mvT hZ (own_w hw 67 rfl)) (by decide) (backOf (W := 0) (own_rm90 l Z a0 hw [] b15 T18.heap n0 (Nat.le_trans Z0 K18.1) q845 q846) hZ (own_w hw 69 rfl) (own_w hw 28 rfl) (by decide) (by decide)) q22a q22c (g := (mkF m 204 (own_l55 i0 i1 i2 cs sb_13 sb_14 b15 b17) [(.ref b15)])) rfl (by rw [hml]; rfl) (Steps.refl _) (argsL := []) (rest := []) (lenOf own_pd16 rfl) rfl (Nat.le_of_eq rfl) (hb hby at_204) (fun _ _ => ⟨rfl, e19, (by decide : 6 + 0 ≤ _), (by decide : 22 + 0 ≤ _)⟩)
       dsimp only [Pt.U, Pt.locs, Pt.cells, Pt.slots] at X22 l22 y22 z22 st22 hQ22
       subst l22 y22 z22
       obtain ⟨rfl, N22q, e22⟩ := hQ22
       have N22 := Fr.app N19 N22q
       refine ownE.goS st22 ?_
       refine ownE.go (f' := (mkF m 234 (own_l55 i0 i1 i2 cs sb_13 sb_14 b15 b17) [(.int (own_j0g_36_S0 i0 i1 i2 cs))])) (fun t kt => XS.iload X22.here hx rfl (hb hby at_207) rfl (XS.ifNo X22.here hx rfl (hb hby at_209) rfl (Jvm.Free.XT.i0_ne_f (by decide)) (XS.iload X22.here hx rfl (hb hby at_212) rfl (XS.ifNo X22.here hx rfl (hb hby at_214) rfl (Jvm.Free.XT.i0_ne_f (by decide)) (XS.iconst X22.here hx rfl (hb hby at_217) (XS.goto X22.here hx rfl (pc0 := 218) (pc' := 222) rfl (hb hby at_218) (by decide) (by decide) (XS.icmpNo X22.here hx rfl (hb hby at_222) rfl (Jvm.Free.XT.ii_ne_f (by decide)) (XS.iconst X22.here hx rfl (hb hby at_225) (XS.goto X22.here hx rfl (pc0 := 226) (pc' := 230) rfl (hb hby at_226) (by decide) (by decide) (XS.istore X22.here hx rfl (hb hby at_230) rfl (l' := (own_l55 i0 i1 i2 cs sb_13 sb_14 b15 b17)) rfl (XS.iload X22.here hx rfl (hb hby at_232) rfl kt))))))))))) ?_
       by_cases hc23 : (own_j0g_36_S0 i0 i1 i2 cs) = (0 : Int32)
       · -- pc 234
        refine ownE.go (T' := T22) (f' := (mkF m 248 (own_l55 i0 i1 i2 cs sb_13 sb_14 b15 b17) [])) (fun t kt => XS.ifYes (g := (mkF m 234 (own_l55 i0 i1 i2 cs sb_13 sb_14 b15 b17) [(.int (own_j0g_36_S0 i0 i1 i2 cs))])) X22.here hx rfl (pc0 := 234) (pc' := 248) rfl (hb hby at_234) rfl (Jvm.Free.XT.i0_eq_t hc23) (by decide) (by decide) kt) ?_
        refine ownE.go (f' := (mkF m 250 (own_l55 i0 i1 i2 cs sb_13 sb_14 b15 b17) [(.int (own_j0g_50_S0 i0 i1 i2 cs))])) (fun t kt => XS.iload X22.here hx rfl (hb hby at_248) rfl kt) ?_
        by_cases hc24 : (own_j0g_50_S0 i0 i1 i2 cs) = (0 : Int32)
        · -- pc 250
         refine ownE.go (T' := T22) (f' := (mkF m 275 (own_l55 i0 i1 i2 cs sb_13 sb_14 b15 b17) [])) (fun t kt => XS.ifYes (g := (mkF m 250 (own_l55 i0 i1 i2 cs sb_13 sb_14 b15 b17) [(.int (own_j0g_50_S0 i0 i1 i2 cs))])) X22.here hx rfl (pc0 := 250) (pc' := 275) rfl (hb hby at_250) rfl (Jvm.Free.XT.i0_eq_t hc24) (by decide) (by decide) kt) ?_
         refine ownE.go (f' := (mkF m 282 (own_l55 i0 i1 i2 cs sb_13 sb_14 b15 b17) [(.ref b15)])) (fun t kt => XS.iload X22.here hx rfl (hb hby at_275) rfl (XS.ifNo X22.here hx rfl (hb hby at_277) rfl (Jvm.Free.XT.i0_eq_f (by decide)) (XS.aload X22.here hx rfl (hb hby at_280) rfl rfl kt))) ?_
         obtain ⟨cq25, kq25, q25a, q25b, q25c⟩ := isOf hZ e22 q845
         obtain ⟨_, _, ⟨T25, L25, k25, n25⟩, -, X25, ⟨Lc25, hQ25, l25, y25, z25⟩, st25⟩ := X22.virtualBack hx (y := own_y27) (z := own_y27) hown (mvT hZ (own_w hw 65 rfl)) (mvT hZ (own_w hw 66 rfl)) (notFace_of_selects (args := #[]) (mvT hZ (own_w hw 68 rfl))) (mvT hZ (own_w hw 68 rfl)) (mvT hZ (own_w hw 67 rfl)) (by decide) (backOf (W := 0) (own_rm90 l Z a0 hw [] b15 T18.heap n0 (Nat.le_trans Z0 K18.1) q845 q846) hZ (own_w hw 69 rfl) (own_w hw 28 rfl) (by decide) (by decide)) q25a q25c (g := (mkF m 282 (own_l55 i0 i1 i2 cs sb_13 sb_14 b15 b17) [(.ref b15)])) rfl (by rw [hml]; rfl) (Steps.refl _) (argsL := []) (rest := []) (lenOf own_pd16 rfl) rfl (Nat.le_of_eq rfl) (hb hby at_282) (fun _ _ => ⟨rfl, e22, (by decide : 6 + 0 ≤ _), (by decide : 22 + 0 ≤ _)⟩)
         dsimp only [Pt.U, Pt.locs, Pt.cells, Pt.slots] at X25 l25 y25 z25 st25 hQ25
         subst l25 y25 z25
         obtain ⟨rfl, N25q, e25⟩ := hQ25
         have N25 := Fr.app N22 N25q
         refine ownE.goS st25 ?_
         refine ownE.go (f' := (mkF m 312 (own_l55 i0 i1 i2 cs sb_13 sb_14 b15 b17) [(.int (1 : Int32))])) (fun t kt => XS.iload X25.here hx rfl (hb hby at_285) rfl (XS.ifNo X25.here hx rfl (hb hby at_287) rfl (Jvm.Free.XT.i0_ne_f (by decide)) (XS.iload X25.here hx rfl (hb hby at_290) rfl (XS.ifNo X25.here hx rfl (hb hby at_292) rfl (Jvm.Free.XT.i0_ne_f (by decide)) (XS.iconst X25.here hx rfl (hb hby at_295) (XS.goto X25.here hx rfl (pc0 := 296) (pc' := 300) rfl (hb hby at_296) (by decide) (by decide) (XS.icmpNo X25.here hx rfl (hb hby at_300) rfl (Jvm.Free.XT.ii_ne_f (by decide)) (XS.iconst X25.here hx rfl (hb hby at_303) (XS.goto X25.here hx rfl (pc0 := 304) (pc' := 308) rfl (hb hby at_304) (by decide) (by decide) (XS.istore X25.here hx rfl (hb hby at_308) rfl (l' := (own_l55 i0 i1 i2 cs sb_13 sb_14 b15 b17)) rfl (XS.iload X25.here hx rfl (hb hby at_310) rfl kt))))))))))) ?_
         refine ownE.retN X25 hx hlk (t := .boolean) hret (by simp) (hb hby at_312) ?_ (by decide) (by decide)
         show own_Q0g Z i0 i1 i2 cs fmt h0 n0 _ T25.heap _
         rw [e25]
         exact ⟨(by rw [own_f0g, if_pos hc20, if_pos hc21, if_pos hc23, if_pos hc24] <;> first | rfl | decide), N25, K18⟩
        · -- pc 250
         refine ownE.go (T' := T22) (f' := (mkF m 253 (own_l55 i0 i1 i2 cs sb_13 sb_14 b15 b17) [])) (fun t kt => XS.ifNo (g := (mkF m 250 (own_l55 i0 i1 i2 cs sb_13 sb_14 b15 b17) [(.int (own_j0g_50_S0 i0 i1 i2 cs))])) X22.here hx rfl (hb hby at_250) rfl (Jvm.Free.XT.i0_eq_f hc24) kt) ?_
         refine ownE.go (f' := (mkF m 257 (own_l55 i0 i1 i2 cs sb_13 sb_14 b15 b17) [(.ref sb_14), (.ref b15)])) (fun t kt => XS.aload X22.here hx rfl (hb hby at_253) rfl rfl (XS.aload X22.here hx rfl (hb hby at_255) rfl rfl kt)) ?_
         obtain ⟨cq26, kq26, q26a, q26b, q26c⟩ := isOf hZ e22 q845
         obtain ⟨_, _, ⟨T26, L26, k26, n26⟩, -, X26, ⟨Lc26, hQ26, l26, y26, z26⟩, st26⟩ := X22.virtualBack hx (y := own_y29) (z := own_y29) hown (mvT hZ (own_w hw 157 rfl)) (mvT hZ (own_w hw 158 rfl)) (notFace_of_selects (args := #[]) (mvT hZ (own_w hw 160 rfl))) (mvT hZ (own_w hw 160 rfl)) (mvT hZ (own_w hw 159 rfl)) (by decide) (backOf (W := 0) (own_rm270 l Z a0 hw [] b15 sb_14 T18.heap n0 (Nat.le_trans Z0 K18.1) q845 q846) hZ (own_w hw 161 rfl) (own_w hw 28 rfl) (by decide) (by decide)) q26a q26c (g := (mkF m 257 (own_l55 i0 i1 i2 cs sb_13 sb_14 b15 b17) [(.ref sb_14), (.ref b15)])) rfl (by rw [hml]; rfl) (Steps.refl _) (argsL := [(.ref sb_14)]) (rest := []) (lenOf own_pd30 rfl) rfl (Nat.le_of_eq rfl) (hb hby at_257) (fun _ _ => ⟨rfl, e22, (by decide : 6 + 0 ≤ _), (by decide : 22 + 0 ≤ _)⟩)
         dsimp only [Pt.U, Pt.locs, Pt.cells, Pt.slots] at X26 l26 y26 z26 st26 hQ26
         subst l26 y26 z26
         obtain ⟨rfl, N26q, e26⟩ := hQ26
         have N26 := Fr.app N22 N26q
         refine ownE.goS st26 ?_
         refine ownE.go (f' := (mkF m 282 (own_l55 i0 i1 i2 cs sb_13 sb_14 b15 b17) [(.ref b15)])) (fun t kt => XS.pop X26.here hx rfl (hb hby at_260) rfl rfl (XS.iload X26.here hx rfl (hb hby at_261) rfl (XS.ifYes X26.here hx rfl (pc0 := 263) (pc' := 272) rfl (hb hby at_263) rfl (Jvm.Free.XT.i0_eq_t (by decide)) (by decide) (by decide) (XS.iconst X26.here hx rfl (hb hby at_272) (XS.istore X26.here hx rfl (hb hby at_273) rfl (l' := (own_l55 i0 i1 i2 cs sb_13 sb_14 b15 b17)) rfl (XS.iload X26.here hx rfl (hb hby at_275) rfl (XS.ifNo X26.here hx rfl (hb hby at_277) rfl (Jvm.Free.XT.i0_eq_f (by decide)) (XS.aload X26.here hx rfl (hb hby at_280) rfl rfl kt)))))))) ?_
         obtain ⟨cq27, kq27, q27a, q27b, q27c⟩ := isOf hZ e26 q845
         obtain ⟨_, _, ⟨T27, L27, k27, n27⟩, -, X27, ⟨Lc27, hQ27, l27, y27, z27⟩, st27⟩ := X26.virtualBack hx (y := own_y27) (z := own_y27) hown (mvT hZ (own_w hw 65 rfl)) (mvT hZ (own_w hw 66 rfl)) (notFace_of_selects (args := #[]) (mvT hZ (own_w hw 68 rfl))) (mvT hZ (own_w hw 68 rfl)) (mvT hZ (own_w hw 67 rfl)) (by decide) (backOf (W := 0) (own_rm90 l Z a0 hw [] b15 T18.heap n0 (Nat.le_trans Z0 K18.1) q845 q846) hZ (own_w hw 69 rfl) (own_w hw 28 rfl) (by decide) (by decide)) q27a q27c (g := (mkF m 282 (own_l55 i0 i1 i2 cs sb_13 sb_14 b15 b17) [(.ref b15)])) rfl (by rw [hml]; rfl) (Steps.refl _) (argsL := []) (rest := []) (lenOf own_pd16 rfl) rfl (Nat.le_of_eq rfl) (hb hby at_282) (fun _ _ => ⟨rfl, e26, (by decide : 6 + 0 ≤ _), (by decide : 22 + 0 ≤ _)⟩)
         dsimp only [Pt.U, Pt.locs, Pt.cells, Pt.slots] at X27 l27 y27 z27 st27 hQ27
         subst l27 y27 z27
         obtain ⟨rfl, N27q, e27⟩ := hQ27
         have N27 := Fr.app N26 N27q
         refine ownE.goS st27 ?_
         refine ownE.go (f' := (mkF m 312 (own_l55 i0 i1 i2 cs sb_13 sb_14 b15 b17) [(.int (1 : Int32))])) (fun t kt => XS.iload X27.here hx rfl (hb hby at_285) rfl (XS.ifNo X27.here hx rfl (hb hby at_287) rfl (Jvm.Free.XT.i0_ne_f (by decide)) (XS.iload X27.here hx rfl (hb hby at_290) rfl (XS.ifNo X27.here hx rfl (hb hby at_292) rfl (Jvm.Free.XT.i0_ne_f (by decide)) (XS.iconst X27.here hx rfl (hb hby at_295) (XS.goto X27.here hx rfl (pc0 := 296) (pc' := 300) rfl (hb hby at_296) (by decide) (by decide) (XS.icmpNo X27.here hx rfl (hb hby at_300) rfl (Jvm.Free.XT.ii_ne_f (by decide)) (XS.iconst X27.here hx rfl (hb hby at_303) (XS.goto X27.here hx rfl (pc0 := 304) (pc' := 308) rfl (hb hby at_304) (by decide) (by decide) (XS.istore X27.here hx rfl (hb hby at_308) rfl (l' := (own_l55 i0 i1 i2 cs sb_13 sb_14 b15 b17)) rfl (XS.iload X27.here hx rfl (hb hby at_310) rfl kt))))))))))) ?_
         refine ownE.retN X27 hx hlk (t := .boolean) hret (by simp) (hb hby at_312) ?_ (by decide) (by decide)
         show own_Q0g Z i0 i1 i2 cs fmt h0 n0 _ T27.heap _
         rw [e27]
         exact ⟨(by rw [own_f0g, if_pos hc20, if_pos hc21, if_pos hc23, if_neg hc24] <;> first | rfl | decide), N27, K18⟩
       · -- pc 234
        refine ownE.go (T' := T22) (f' := (mkF m 237 (own_l55 i0 i1 i2 cs sb_13 sb_14 b15 b17) [])) (fun t kt => XS.ifNo (g := (mkF m 234 (own_l55 i0 i1 i2 cs sb_13 sb_14 b15 b17) [(.int (own_j0g_36_S0 i0 i1 i2 cs))])) X22.here hx rfl (hb hby at_234) rfl (Jvm.Free.XT.i0_eq_f hc23) kt) ?_
        refine ownE.go (f' := (mkF m 241 (own_l55 i0 i1 i2 cs sb_13 sb_14 b15 b17) [(.ref sb_13), (.ref b15)])) (fun t kt => XS.aload X22.here hx rfl (hb hby at_237) rfl rfl (XS.aload X22.here hx rfl (hb hby at_239) rfl rfl kt)) ?_
        obtain ⟨cq28, kq28, q28a, q28b, q28c⟩ := isOf hZ e22 q845
        obtain ⟨_, _, ⟨T28, L28, k28, n28⟩, -, X28, ⟨Lc28, hQ28, l28, y28, z28⟩, st28⟩ := X22.virtualBack hx (y := own_y29) (z := own_y29) hown (mvT hZ (own_w hw 157 rfl)) (mvT hZ (own_w hw 158 rfl)) (notFace_of_selects (args := #[]) (mvT hZ (own_w hw 160 rfl))) (mvT hZ (own_w hw 160 rfl)) (mvT hZ (own_w hw 159 rfl)) (by decide) (backOf (W := 0) (own_rm270 l Z a0 hw [] b15 sb_13 T18.heap n0 (Nat.le_trans Z0 K18.1) q845 q846) hZ (own_w hw 161 rfl) (own_w hw 28 rfl) (by decide) (by decide)) q28a q28c (g := (mkF m 241 (own_l55 i0 i1 i2 cs sb_13 sb_14 b15 b17) [(.ref sb_13), (.ref b15)])) rfl (by rw [hml]; rfl) (Steps.refl _) (argsL := [(.ref sb_13)]) (rest := []) (lenOf own_pd30 rfl) rfl (Nat.le_of_eq rfl) (hb hby at_241) (fun _ _ => ⟨rfl, e22, (by decide : 6 + 0 ≤ _), (by decide : 22 + 0 ≤ _)⟩)
        dsimp only [Pt.U, Pt.locs, Pt.cells, Pt.slots] at X28 l28 y28 z28 st28 hQ28
        subst l28 y28 z28
        obtain ⟨rfl, N28q, e28⟩ := hQ28
        have N28 := Fr.app N22 N28q
        refine ownE.goS st28 ?_
        refine ownE.go (f' := (mkF m 250 (own_l55 i0 i1 i2 cs sb_13 sb_14 b15 b17) [(.int (own_j0g_50_S0 i0 i1 i2 cs))])) (fun t kt => XS.pop X28.here hx rfl (hb hby at_244) rfl rfl (XS.iconst X28.here hx rfl (hb hby at_245) (XS.istore X28.here hx rfl (hb hby at_246) rfl (l' := (own_l55 i0 i1 i2 cs sb_13 sb_14 b15 b17)) rfl (XS.iload X28.here hx rfl (hb hby at_248) rfl kt)))) ?_
        by_cases hc29 : (own_j0g_50_S0 i0 i1 i2 cs) = (0 : Int32)
        · -- pc 250
         refine ownE.go (T' := T28) (f' := (mkF m 275 (own_l55 i0 i1 i2 cs sb_13 sb_14 b15 b17) [])) (fun t kt => XS.ifYes (g := (mkF m 250 (own_l55 i0 i1 i2 cs sb_13 sb_14 b15 b17) [(.int (own_j0g_50_S0 i0 i1 i2 cs))])) X28.here hx rfl (pc0 := 250) (pc' := 275) rfl (hb hby at_250) rfl (Jvm.Free.XT.i0_eq_t hc29) (by decide) (by decide) kt) ?_
         refine ownE.go (f' := (mkF m 282 (own_l55 i0 i1 i2 cs sb_13 sb_14 b15 b17) [(.ref b15)])) (fun t kt => XS.iload X28.here hx rfl (hb hby at_275) rfl (XS.ifNo X28.here hx rfl (hb hby at_277) rfl (Jvm.Free.XT.i0_eq_f (by decide)) (XS.aload X28.here hx rfl (hb hby at_280) rfl rfl kt))) ?_
         obtain ⟨cq30, kq30, q30a, q30b, q30c⟩ := isOf hZ e28 q845
         obtain ⟨_, _, ⟨T30, L30, k30, n30⟩, -, X30, ⟨Lc30, hQ30, l30, y30, z30⟩, st30⟩ := X28.virtualBack hx (y := own_y27) (z := own_y27) hown (mvT hZ (own_w hw 65 rfl)) (mvT hZ (own_w hw 66 rfl)) (notFace_of_selects (args := #[]) (mvT hZ (own_w hw 68 rfl))) (mvT hZ (own_w hw 68 rfl)) (mvT hZ (own_w hw 67 rfl)) (by decide) (backOf (W := 0) (own_rm90 l Z a0 hw [] b15 T18.heap n0 (Nat.le_trans Z0 K18.1) q845 q846) hZ (own_w hw 69 rfl) (own_w hw 28 rfl) (by decide) (by decide)) q30a q30c (g := (mkF m 282 (own_l55 i0 i1 i2 cs sb_13 sb_14 b15 b17) [(.ref b15)])) rfl (by rw [hml]; rfl) (Steps.refl _) (argsL := []) (rest := []) (lenOf own_pd16 rfl) rfl (Nat.le_of_eq rfl) (hb hby at_282) (fun _ _ => ⟨rfl, e28, (by decide : 6 + 0 ≤ _), (by decide : 22 + 0 ≤ _)⟩)
         dsimp only [Pt.U, Pt.locs, Pt.cells, Pt.slots] at X30 l30 y30 z30 st30 hQ30
         subst l30 y30 z30
         obtain ⟨rfl, N30q, e30⟩ := hQ30
         have N30 := Fr.app N28 N30q
         refine ownE.goS st30 ?_
         refine ownE.go (f' := (mkF m 312 (own_l55 i0 i1 i2 cs sb_13 sb_14 b15 b17) [(.int (1 : Int32))])) (fun t kt => XS.iload X30.here hx rfl (hb hby at_285) rfl (XS.ifNo X30.here hx rfl (hb hby at_287) rfl (Jvm.Free.XT.i0_ne_f (by decide)) (XS.iload X30.here hx rfl (hb hby at_290) rfl (XS.ifNo X30.here hx rfl (hb hby at_292) rfl (Jvm.Free.XT.i0_ne_f (by decide)) (XS.iconst X30.here hx rfl (hb hby at_295) (XS.goto X30.here hx rfl (pc0 := 296) (pc' := 300) rfl (hb hby at_296) (by decide) (by decide) (XS.icmpNo X30.here hx rfl (hb hby at_300) rfl (Jvm.Free.XT.ii_ne_f (by decide)) (XS.iconst X30.here hx rfl (hb hby at_303) (XS.goto X30.here hx rfl (pc0 := 304) (pc' := 308) rfl (hb hby at_304) (by decide) (by decide) (XS.istore X30.here hx rfl (hb hby at_308) rfl (l' := (own_l55 i0 i1 i2 cs sb_13 sb_14 b15 b17)) rfl (XS.iload X30.here hx rfl (hb hby at_310) rfl kt))))))))))) ?_
         refine ownE.retN X30 hx hlk (t := .boolean) hret (by simp) (hb hby at_312) ?_ (by decide) (by decide)
         show own_Q0g Z i0 i1 i2 cs fmt h0 n0 _ T30.heap _
         rw [e30]
         exact ⟨(by rw [own_f0g, if_pos hc20, if_pos hc21, if_neg hc23, if_pos hc29] <;> first | rfl | decide), N30, K18⟩
        · -- pc 250
         refine ownE.go (T' := T28) (f' := (mkF m 253 (own_l55 i0 i1 i2 cs sb_13 sb_14 b15 b17) [])) (fun t kt => XS.ifNo (g := (mkF m 250 (own_l55 i0 i1 i2 cs sb_13 sb_14 b15 b17) [(.int (own_j0g_50_S0 i0 i1 i2 cs))])) X28.here hx rfl (hb hby at_250) rfl (Jvm.Free.XT.i0_eq_f hc29) kt) ?_
         refine ownE.go (f' := (mkF m 257 (own_l55 i0 i1 i2 cs sb_13 sb_14 b15 b17) [(.ref sb_14), (.ref b15)])) (fun t kt => XS.aload X28.here hx rfl (hb hby at_253) rfl rfl (XS.aload X28.here hx rfl (hb hby at_255) rfl rfl kt)) ?_
         obtain ⟨cq31, kq31, q31a, q31b, q31c⟩ := isOf hZ e28 q845
         obtain ⟨_, _, ⟨T31, L31, k31, n31⟩, -, X31, ⟨Lc31, hQ31, l31, y31, z31⟩, st31⟩ := X28.virtualBack hx (y := own_y29) (z := own_y29) hown (mvT hZ (own_w hw 157 rfl)) (mvT hZ (own_w hw 158 rfl)) (notFace_of_selects (args := #[]) (mvT hZ (own_w hw 160 rfl))) (mvT hZ (own_w hw 160 rfl)) (mvT hZ (own_w hw 159 rfl)) (by decide) (backOf (W := 0) (own_rm270 l Z a0 hw [] b15 sb_14 T18.heap n0 (Nat.le_trans Z0 K18.1) q845 q846) hZ (own_w hw 161 rfl) (own_w hw 28 rfl) (by decide) (by decide)) q31a q31c (g := (mkF m 257 (own_l55 i0 i1 i2 cs sb_13 sb_14 b15 b17) [(.ref sb_14), (.ref b15)])) rfl (by rw [hml]; rfl) (Steps.refl _) (argsL := [(.ref sb_14)]) (rest := []) (lenOf own_pd30 rfl) rfl (Nat.le_of_eq rfl) (hb hby at_257) (fun _ _ => ⟨rfl, e28, (by decide : 6 + 0 ≤ _), (by decide : 22 + 0 ≤ _)⟩)
         dsimp only [Pt.U, Pt.locs, Pt.cells, Pt.slots] at X31 l31 y31 z31 st31 hQ31
         subst l31 y31 z31
         obtain ⟨rfl, N31q, e31⟩ := hQ31
         have N31 := Fr.app N28 N31q
         refine ownE.goS st31 ?_
         refine ownE.go (f' := (mkF m 282 (own_l55 i0 i1 i2 cs sb_13 sb_14 b15 b17) [(.ref b15)])) (fun t kt => XS.pop X31.here hx rfl (hb hby at_260) rfl rfl (XS.iload X31.here hx rfl (hb hby at_261) rfl (XS.ifYes X31.here hx rfl (pc0 := 263) (pc' := 272) rfl (hb hby at_263) rfl (Jvm.Free.XT.i0_eq_t (by decide)) (by decide) (by decide) (XS.iconst X31.here hx rfl (hb hby at_272) (XS.istore X31.here hx rfl (hb hby at_273) rfl (l' := (own_l55 i0 i1 i2 cs sb_13 sb_14 b15 b17)) rfl (XS.iload X31.here hx rfl (hb hby at_275) rfl (XS.ifNo X31.here hx rfl (hb hby at_277) rfl (Jvm.Free.XT.i0_eq_f (by decide)) (XS.aload X31.here hx rfl (hb hby at_280) rfl rfl kt)))))))) ?_
         obtain ⟨cq32, kq32, q32a, q32b, q32c⟩ := isOf hZ e31 q845
         obtain ⟨_, _, ⟨T32, L32, k32, n32⟩, -, X32, ⟨Lc32, hQ32, l32, y32, z32⟩, st32⟩ := X31.virtualBack hx (y := own_y27) (z := own_y27) hown (mvT hZ (own_w hw 65 rfl)) (mvT hZ (own_w hw 66 rfl)) (notFace_of_selects (args := #[]) (mvT hZ (own_w hw 68 rfl))) (mvT hZ (own_w hw 68 rfl)) (mvT hZ (own_w hw 67 rfl)) (by decide) (backOf (W := 0) (own_rm90 l Z a0 hw [] b15 T18.heap n0 (Nat.le_trans Z0 K18.1) q845 q846) hZ (own_w hw 69 rfl) (own_w hw 28 rfl) (by decide) (by decide)) q32a q32c (g := (mkF m 282 (own_l55 i0 i1 i2 cs sb_13 sb_14 b15 b17) [(.ref b15)])) rfl (by rw [hml]; rfl) (Steps.refl _) (argsL := []) (rest := []) (lenOf own_pd16 rfl) rfl (Nat.le_of_eq rfl) (hb hby at_282) (fun _ _ => ⟨rfl, e31, (by decide : 6 + 0 ≤ _), (by decide : 22 + 0 ≤ _)⟩)
         dsimp only [Pt.U, Pt.locs, Pt.cells, Pt.slots] at X32 l32 y32 z32 st32 hQ32
         subst l32 y32 z32
         obtain ⟨rfl, N32q, e32⟩ := hQ32
         have N32 := Fr.app N31 N32q
         refine ownE.goS st32 ?_
         refine ownE.go (f' := (mkF m 312 (own_l55 i0 i1 i2 cs sb_13 sb_14 b15 b17) [(.int (1 : Int32))])) (fun t kt => XS.iload X32.here hx rfl (hb hby at_285) rfl (XS.ifNo X32.here hx rfl (hb hby at_287) rfl (Jvm.Free.XT.i0_ne_f (by decide)) (XS.iload X32.here hx rfl (hb hby at_290) rfl (XS.ifNo X32.here hx rfl (hb hby at_292) rfl (Jvm.Free.XT.i0_ne_f (by decide)) (XS.iconst X32.here hx rfl (hb hby at_295) (XS.goto X32.here hx rfl (pc0 := 296) (pc' := 300) rfl (hb hby at_296) (by decide) (by decide) (XS.icmpNo X32.here hx rfl (hb hby at_300) rfl (Jvm.Free.XT.ii_ne_f (by decide)) (XS.iconst X32.here hx rfl (hb hby at_303) (XS.goto X32.here hx rfl (pc0 := 304) (pc' := 308) rfl (hb hby at_304) (by decide) (by decide) (XS.istore X32.here hx rfl (hb hby at_308) rfl (l' := (own_l55 i0 i1 i2 cs sb_13 sb_14 b15 b17)) rfl (XS.iload X32.here hx rfl (hb hby at_310) rfl kt))))))))))) ?_
         refine ownE.retN X32 hx hlk (t := .boolean) hret (by simp) (hb hby at_312) ?_ (by decide) (by decide)
         show own_Q0g Z i0 i1 i2 cs fmt h0 n0 _ T32.heap _
         rw [e32]
         exact ⟨(by rw [own_f0g, if_pos hc20, if_pos hc21, if_neg hc23, if_neg hc29] <;> first | rfl | decide), N32, K18⟩
      · -- pc 146
       refine ownE.go (T' := T19) (f' := (mkF m 149 (own_l53 i0 i1 i2 cs sb_13 sb_14 b15 b17) [])) (fun t kt => XS.ifNo (g := (mkF m 146 (own_l53 i0 i1 i2 cs sb_13 sb_14 b15 b17) [(.int (own_j0g_23_S0 i0 i1 i2 cs))])) X19.here hx rfl (hb hby at_146) rfl (Jvm.Free.XT.i0_eq_f hc21) kt) ?_
       refine ownE.go (f' := (mkF m 155 (own_l53 i0 i1 i2 cs sb_13 sb_14 b15 b17) [(.ref b17), (.ref sb_14), (.ref b15)])) (fun t kt => XS.aload X19.here hx rfl (hb hby at_149) rfl rfl (XS.aload X19.here hx rfl (hb hby at_151) rfl rfl (XS.aload X19.here hx rfl (hb hby at_153) rfl rfl kt))) ?_
       obtain ⟨cq33, kq33, q33a, q33b, q33c⟩ := isOf hZ e19 q845
       obtain ⟨_, _, ⟨T33, L33, k33, n33⟩, -, X33, ⟨Lc33, hQ33, l33, y33, z33⟩, st33⟩ := X19.virtualBack hx (y := own_y28) (z := own_y28) hown (mvT hZ (own_w hw 72 rfl)) (mvT hZ (own_w hw 73 rfl)) (notFace_of_selects (args := #[]) (mvT hZ (own_w hw 75 rfl))) (mvT hZ (own_w hw 75 rfl)) (mvT hZ (own_w hw 74 rfl)) (by decide) (backOf (W := 0) (own_rm100 l Z a0 hw [] b15 sb_14 b17 T18.heap n0 (Nat.le_trans Z0 K18.1) q845 q846 ge_b15) hZ (own_w hw 76 rfl) (own_w hw 28 rfl) (by decide) (by decide)) q33a q33c (g := (mkF m 155 (own_l53 i0 i1 i2 cs sb_13 sb_14 b15 b17) [(.ref b17), (.ref sb_14), (.ref b15)])) rfl (by rw [hml]; rfl) (Steps.refl _) (argsL := [(.ref sb_14), (.ref b17)]) (rest := []) (lenOf own_pd34 rfl) rfl (Nat.le_of_eq rfl) (hb hby at_155) (fun _ _ => ⟨rfl, e19, (by decide : 6 + 1 ≤ _), (by decide : 22 + 5 ≤ _)⟩)
       dsimp only [Pt.U, Pt.locs, Pt.cells, Pt.slots] at X33 l33 y33 z33 st33 hQ33
       subst l33 y33 z33
       obtain ⟨lk_33, rfl, N33q, K33q, f33_0, f33_1, f33_2, f33_3, f33_4, f33_5, f33_6, f33_7, f33_8⟩ := hQ33
       have ne_sb_13_lk_33 : sb_13 ≠ lk_33 := Nat.ne_of_lt (Nat.lt_of_lt_of_le q837.lt f33_0)
       have ne_vb_13_lk_33 : vb_13 ≠ lk_33 := Nat.ne_of_lt (Nat.lt_of_lt_of_le q840.lt f33_0)
       have ne_sb_14_lk_33 : sb_14 ≠ lk_33 := Nat.ne_of_lt (Nat.lt_of_lt_of_le q841.lt f33_0)
       have ne_vb_14_lk_33 : vb_14 ≠ lk_33 := Nat.ne_of_lt (Nat.lt_of_lt_of_le q844.lt f33_0)
       have ne_b15_lk_33 : b15 ≠ lk_33 := Nat.ne_of_lt (Nat.lt_of_lt_of_le q845.lt f33_0)
       have ne_b17_lk_33 : b17 ≠ lk_33 := Nat.ne_of_lt (Nat.lt_of_lt_of_le f18_0.lt f33_0)
       have q848 := q836.keep K33q (allS ge_b15 all0)
       have q849 := q837.keep K33q
       have q850 := q838.keep K33q (ninS ne_sb_13_b15 nin0)
       have q851 := q839.keep K33q (ninS ne_sb_13_b15 nin0)
       have q852 := q840.keep K33q (ninS ne_vb_13_b15 nin0)
       have q853 := q841.keep K33q
       have q854 := q842.keep K33q (ninS ne_sb_14_b15 nin0)
       have q855 := q843.keep K33q (ninS ne_sb_14_b15 nin0)
       have q856 := q844.keep K33q (ninS ne_vb_14_b15 nin0)
       have q857 := q845.keep K33q
       have q858 := f18_0.keep K33q
       have K33 : Keep h0 T33.heap [] := K18.trans K33q (allS (Or.inr sz_b15) all0)
       have sz_lk_33 : h0.size ≤ lk_33 := Nat.le_trans K18.1 f33_0
       have ge_lk_33 : n0 ≤ lk_33 := Nat.le_trans Z0 sz_lk_33
       have N33 := Fr.app N19 N33q
       refine ownE.goS st33 ?_
       refine ownE.go (f' := (mkF m 204 (own_l56 i0 i1 i2 cs sb_13 sb_14 b15 b17) [(.ref b15)])) (fun t kt => XS.pop X33.here hx rfl (hb hby at_158) rfl rfl (XS.iloadN X33.here hx rfl (hb hby at_159) rfl (XS.ifNo X33.here hx rfl (hb hby at_160) rfl (Jvm.Free.XT.i0_ne_f hc20) (XS.iload X33.here hx rfl (hb hby at_163) rfl (XS.ifNo X33.here hx rfl (hb hby at_165) rfl (Jvm.Free.XT.i0_eq_f hc21) (XS.iload X33.here hx rfl (hb hby at_168) rfl (XS.ifYes X33.here hx rfl (pc0 := 170) (pc' := 177) rfl (hb hby at_170) rfl (Jvm.Free.XT.i0_eq_t (by decide)) (by decide) (by decide) (XS.iconst X33.here hx rfl (hb hby at_177) (XS.istore X33.here hx rfl (hb hby at_178) rfl (l' := (own_l54 i0 i1 i2 cs sb_13 sb_14 b15 b17)) rfl (XS.iload X33.here hx rfl (hb hby at_180) rfl (XS.ifNo X33.here hx rfl (hb hby at_182) rfl (Jvm.Free.XT.i0_eq_f hc21) (XS.iload X33.here hx rfl (hb hby at_185) rfl (XS.ifNo X33.here hx rfl (hb hby at_187) rfl (Jvm.Free.XT.i0_ne_f (by decide)) (XS.iconst X33.here hx rfl (hb hby at_190) (XS.goto X33.here hx rfl (pc0 := 191) (pc' := 195) rfl (hb hby at_191) (by decide) (by decide) (XS.istore X33.here hx rfl (hb hby at_195) rfl (l' := (own_l56 i0 i1 i2 cs sb_13 sb_14 b15 b17)) rfl (XS.iload X33.here hx rfl (hb hby at_197) rfl (XS.ifNo X33.here hx rfl (hb hby at_199) rfl (Jvm.Free.XT.i0_eq_f (by decide)) (XS.aload X33.here hx rfl (hb hby at_202) rfl rfl kt))))))))))))))))))) ?_
       obtain ⟨cq34, kq34, q34a, q34b, q34c⟩ := isOf hZ rfl f33_1
       obtain ⟨_, _, ⟨T34, L34, k34, n34⟩, -, X34, ⟨Lc34, hQ34, l34, y34, z34⟩, st34⟩ := X33.virtualBack hx (y := own_y27) (z := own_y27) hown (mvT hZ (own_w hw 65 rfl)) (mvT hZ (own_w hw 66 rfl)) (notFace_of_selects (args := #[]) (mvT hZ (own_w hw 68 rfl))) (mvT hZ (own_w hw 68 rfl)) (mvT hZ (own_w hw 67 rfl)) (by decide) (backOf (W := 0) (own_rm91 l Z a0 hw [] b15 lk_33 T33.heap n0 (Nat.le_trans Z0 K33.1) f33_1 f33_2) hZ (own_w hw 69 rfl) (own_w hw 28 rfl) (by decide) (by decide)) q34a q34c (g := (mkF m 204 (own_l56 i0 i1 i2 cs sb_13 sb_14 b15 b17) [(.ref b15)])) rfl (by rw [hml]; rfl) (Steps.refl _) (argsL := []) (rest := []) (lenOf own_pd16 rfl) rfl (Nat.le_of_eq rfl) (hb hby at_204) (fun _ _ => ⟨rfl, rfl, (by decide : 7 + 0 ≤ _), (by decide : 27 + 0 ≤ _)⟩)
       dsimp only [Pt.U, Pt.locs, Pt.cells, Pt.slots] at X34 l34 y34 z34 st34 hQ34
       subst l34 y34 z34
       obtain ⟨rfl, N34q, e34⟩ := hQ34
       have N34 := Fr.app N33 N34q
       refine ownE.goS st34 ?_
       refine ownE.go (f' := (mkF m 234 (own_l56 i0 i1 i2 cs sb_13 sb_14 b15 b17) [(.int (own_j0g_36_S0 i0 i1 i2 cs))])) (fun t kt => XS.iload X34.here hx rfl (hb hby at_207) rfl (XS.ifNo X34.here hx rfl (hb hby at_209) rfl (Jvm.Free.XT.i0_ne_f (by decide)) (XS.iload X34.here hx rfl (hb hby at_212) rfl (XS.ifYes X34.here hx rfl (pc0 := 214) (pc' := 221) rfl (hb hby at_214) rfl (Jvm.Free.XT.i0_ne_t (by decide)) (by decide) (by decide) (XS.iconst X34.here hx rfl (hb hby at_221) (XS.icmpNo X34.here hx rfl (hb hby at_222) rfl (Jvm.Free.XT.ii_ne_f (by decide)) (XS.iconst X34.here hx rfl (hb hby at_225) (XS.goto X34.here hx rfl (pc0 := 226) (pc' := 230) rfl (hb hby at_226) (by decide) (by decide) (XS.istore X34.here hx rfl (hb hby at_230) rfl (l' := (own_l56 i0 i1 i2 cs sb_13 sb_14 b15 b17)) rfl (XS.iload X34.here hx rfl (hb hby at_232) rfl kt)))))))))) ?_
       by_cases hc35 : (own_j0g_36_S0 i0 i1 i2 cs) = (0 : Int32)
       · -- pc 234
        refine ownE.go (T' := T34) (f' := (mkF m 248 (own_l56 i0 i1 i2 cs sb_13 sb_14 b15 b17) [])) (fun t kt => XS.ifYes (g := (mkF m 234 (own_l56 i0 i1 i2 cs sb_13 sb_14 b15 b17) [(.int (own_j0g_36_S0 i0 i1 i2 cs))])) X34.here hx rfl (pc0 := 234) (pc' := 248) rfl (hb hby at_234) rfl (Jvm.Free.XT.i0_eq_t hc35) (by decide) (by decide) kt) ?_
        refine ownE.go (f' := (mkF m 250 (own_l56 i0 i1 i2 cs sb_13 sb_14 b15 b17) [(.int (own_j0g_50_S0 i0 i1 i2 cs))])) (fun t kt => XS.iload X34.here hx rfl (hb hby at_248) rfl kt) ?_
        by_cases hc36 : (own_j0g_50_S0 i0 i1 i2 cs) = (0 : Int32)
        · -- pc 250
         refine ownE.go (T' := T34) (f' := (mkF m 275 (own_l56 i0 i1 i2 cs sb_13 sb_14 b15 b17) [])) (fun t kt => XS.ifYes (g := (mkF m 250 (own_l56 i0 i1 i2 cs sb_13 sb_14 b15 b17) [(.int (own_j0g_50_S0 i0 i1 i2 cs))])) X34.here hx rfl (pc0 := 250) (pc' := 275) rfl (hb hby at_250) rfl (Jvm.Free.XT.i0_eq_t hc36) (by decide) (by decide) kt) ?_
         refine ownE.go (f' := (mkF m 282 (own_l56 i0 i1 i2 cs sb_13 sb_14 b15 b17) [(.ref b15)])) (fun t kt => XS.iload X34.here hx rfl (hb hby at_275) rfl (XS.ifNo X34.here hx rfl (hb hby at_277) rfl (Jvm.Free.XT.i0_eq_f (by decide)) (XS.aload X34.here hx rfl (hb hby at_280) rfl rfl kt))) ?_
         obtain ⟨cq37, kq37, q37a, q37b, q37c⟩ := isOf hZ e34 f33_1
         obtain ⟨_, _, ⟨T37, L37, k37, n37⟩, -, X37, ⟨Lc37, hQ37, l37, y37, z37⟩, st37⟩ := X34.virtualBack hx (y := own_y27) (z := own_y27) hown (mvT hZ (own_w hw 65 rfl)) (mvT hZ (own_w hw 66 rfl)) (notFace_of_selects (args := #[]) (mvT hZ (own_w hw 68 rfl))) (mvT hZ (own_w hw 68 rfl)) (mvT hZ (own_w hw 67 rfl)) (by decide) (backOf (W := 0) (own_rm91 l Z a0 hw [] b15 lk_33 T33.heap n0 (Nat.le_trans Z0 K33.1) f33_1 f33_2) hZ (own_w hw 69 rfl) (own_w hw 28 rfl) (by decide) (by decide)) q37a q37c (g := (mkF m 282 (own_l56 i0 i1 i2 cs sb_13 sb_14 b15 b17) [(.ref b15)])) rfl (by rw [hml]; rfl) (Steps.refl _) (argsL := []) (rest := []) (lenOf own_pd16 rfl) rfl (Nat.le_of_eq rfl) (hb hby at_282) (fun _ _ => ⟨rfl, e34, (by decide : 7 + 0 ≤ _), (by decide : 27 + 0 ≤ _)⟩)
         dsimp only [Pt.U, Pt.locs, Pt.cells, Pt.slots] at X37 l37 y37 z37 st37 hQ37
         subst l37 y37 z37
         obtain ⟨rfl, N37q, e37⟩ := hQ37
         have N37 := Fr.app N34 N37q
         refine ownE.goS st37 ?_
         refine ownE.go (f' := (mkF m 312 (own_l56 i0 i1 i2 cs sb_13 sb_14 b15 b17) [(.int (1 : Int32))])) (fun t kt => XS.iload X37.here hx rfl (hb hby at_285) rfl (XS.ifNo X37.here hx rfl (hb hby at_287) rfl (Jvm.Free.XT.i0_ne_f (by decide)) (XS.iload X37.here hx rfl (hb hby at_290) rfl (XS.ifYes X37.here hx rfl (pc0 := 292) (pc' := 299) rfl (hb hby at_292) rfl (Jvm.Free.XT.i0_ne_t (by decide)) (by decide) (by decide) (XS.iconst X37.here hx rfl (hb hby at_299) (XS.icmpNo X37.here hx rfl (hb hby at_300) rfl (Jvm.Free.XT.ii_ne_f (by decide)) (XS.iconst X37.here hx rfl (hb hby at_303) (XS.goto X37.here hx rfl (pc0 := 304) (pc' := 308) rfl (hb hby at_304) (by decide) (by decide) (XS.istore X37.here hx rfl (hb hby at_308) rfl (l' := (own_l56 i0 i1 i2 cs sb_13 sb_14 b15 b17)) rfl (XS.iload X37.here hx rfl (hb hby at_310) rfl kt)))))))))) ?_
         refine ownE.retN X37 hx hlk (t := .boolean) hret (by simp) (hb hby at_312) ?_ (by decide) (by decide)
         show own_Q0g Z i0 i1 i2 cs fmt h0 n0 _ T37.heap _
         rw [e37]
         exact ⟨(by rw [own_f0g, if_pos hc20, if_neg hc21, if_pos hc35, if_pos hc36] <;> first | rfl | decide), N37, K33⟩
        · -- pc 250
         refine ownE.go (T' := T34) (f' := (mkF m 253 (own_l56 i0 i1 i2 cs sb_13 sb_14 b15 b17) [])) (fun t kt => XS.ifNo (g := (mkF m 250 (own_l56 i0 i1 i2 cs sb_13 sb_14 b15 b17) [(.int (own_j0g_50_S0 i0 i1 i2 cs))])) X34.here hx rfl (hb hby at_250) rfl (Jvm.Free.XT.i0_eq_f hc36) kt) ?_
         refine ownE.go (f' := (mkF m 257 (own_l56 i0 i1 i2 cs sb_13 sb_14 b15 b17) [(.ref sb_14), (.ref b15)])) (fun t kt => XS.aload X34.here hx rfl (hb hby at_253) rfl rfl (XS.aload X34.here hx rfl (hb hby at_255) rfl rfl kt)) ?_
         obtain ⟨cq38, kq38, q38a, q38b, q38c⟩ := isOf hZ e34 f33_1
         obtain ⟨_, _, ⟨T38, L38, k38, n38⟩, -, X38, ⟨Lc38, hQ38, l38, y38, z38⟩, st38⟩ := X34.virtualBack hx (y := own_y29) (z := own_y29) hown (mvT hZ (own_w hw 157 rfl)) (mvT hZ (own_w hw 158 rfl)) (notFace_of_selects (args := #[]) (mvT hZ (own_w hw 160 rfl))) (mvT hZ (own_w hw 160 rfl)) (mvT hZ (own_w hw 159 rfl)) (by decide) (backOf (W := 0) (own_rm271e l Z a0 hw [] b15 sb_14 vb_14 kb_14 ((((i1 &&& (255 : Int32)).toUInt32.toUInt16.toUInt32.toInt32).toInt8.toInt32).toInt8.toInt32) lk_33 sb_14 vb_14 kb_14 ((((i1 &&& (255 : Int32)).toUInt32.toUInt16.toUInt32.toInt32).toInt8.toInt32).toInt8.toInt32) b17 cs fmt T33.heap n0 (Nat.le_trans Z0 K33.1) q848 hcs hcsn zfm hfm f33_1 f33_2 ge_b15 f33_4 f33_5 f33_6 f33_7 q853 q855 q854 q856 q853 q855 q854 q856 rfl) hZ (own_w hw 161 rfl) (own_w hw 28 rfl) (by decide) (by decide)) q38a q38c (g := (mkF m 257 (own_l56 i0 i1 i2 cs sb_13 sb_14 b15 b17) [(.ref sb_14), (.ref b15)])) rfl (by rw [hml]; rfl) (Steps.refl _) (argsL := [(.ref sb_14)]) (rest := []) (lenOf own_pd30 rfl) rfl (Nat.le_of_eq rfl) (hb hby at_257) (fun _ _ => ⟨rfl, e34, (by decide : 7 + 0 ≤ _), (by decide : 27 + 0 ≤ _)⟩)
         dsimp only [Pt.U, Pt.locs, Pt.cells, Pt.slots] at X38 l38 y38 z38 st38 hQ38
         subst l38 y38 z38
         obtain ⟨rfl, N38q, K38q, f38_0, f38_1⟩ := hQ38
         have q859 := q848.keep K38q (allS ge_b15 all0)
         have q860 := q849.keep K38q
         have q861 := q850.keep K38q (ninS ne_sb_13_b15 nin0)
         have q862 := q851.keep K38q (ninS ne_sb_13_b15 nin0)
         have q863 := q852.keep K38q (ninS ne_vb_13_b15 nin0)
         have q864 := q853.keep K38q
         have q865 := q854.keep K38q (ninS ne_sb_14_b15 nin0)
         have q866 := q855.keep K38q (ninS ne_sb_14_b15 nin0)
         have q867 := q856.keep K38q (ninS ne_vb_14_b15 nin0)
         have q868 := f33_1.keep K38q
         have q869 := q858.keep K38q
         have q870 := f33_3.keep K38q
         have q871 := f33_4.keep K38q (ninS (Ne.symm ne_b15_lk_33) nin0)
         have q872 := f33_5.keep K38q (ninS (Ne.symm ne_b15_lk_33) nin0)
         have q873 := f33_6.keep K38q (ninS (Ne.symm ne_b15_lk_33) nin0)
         have q874 := f33_7.keep K38q (ninS (Ne.symm ne_b15_lk_33) nin0)
         have q875 := f33_8.keep K38q (ninS (Ne.symm ne_b15_lk_33) nin0)
         have K38 : Keep h0 T38.heap [] := K33.trans K38q (allS (Or.inr sz_b15) all0)
         have N38 := Fr.app N34 N38q
         refine ownE.goS st38 ?_
         refine ownE.go (f' := (mkF m 282 (own_l55 i0 i1 i2 cs sb_13 sb_14 b15 b17) [(.ref b15)])) (fun t kt => XS.pop X38.here hx rfl (hb hby at_260) rfl rfl (XS.iload X38.here hx rfl (hb hby at_261) rfl (XS.ifYes X38.here hx rfl (pc0 := 263) (pc' := 272) rfl (hb hby at_263) rfl (Jvm.Free.XT.i0_eq_t (by decide)) (by decide) (by decide) (XS.iconst X38.here hx rfl (hb hby at_272) (XS.istore X38.here hx rfl (hb hby at_273) rfl (l' := (own_l55 i0 i1 i2 cs sb_13 sb_14 b15 b17)) rfl (XS.iload X38.here hx rfl (hb hby at_275) rfl (XS.ifNo X38.here hx rfl (hb hby at_277) rfl (Jvm.Free.XT.i0_eq_f (by decide)) (XS.aload X38.here hx rfl (hb hby at_280) rfl rfl kt)))))))) ?_
         obtain ⟨cq39, kq39, q39a, q39b, q39c⟩ := isOf hZ rfl f38_0
         obtain ⟨_, _, ⟨T39, L39, k39, n39⟩, -, X39, ⟨Lc39, hQ39, l39, y39, z39⟩, st39⟩ := X38.virtualBack hx (y := own_y27) (z := own_y27) hown (mvT hZ (own_w hw 65 rfl)) (mvT hZ (own_w hw 66 rfl)) (notFace_of_selects (args := #[]) (mvT hZ (own_w hw 68 rfl))) (mvT hZ (own_w hw 68 rfl)) (mvT hZ (own_w hw 67 rfl)) (by decide) (backOf (W := 0) (own_rm90 l Z a0 hw [] b15 T38.heap n0 (Nat.le_trans Z0 K38.1) f38_0 f38_1) hZ (own_w hw 69 rfl) (own_w hw 28 rfl) (by decide) (by decide)) q39a q39c (g := (mkF m 282 (own_l55 i0 i1 i2 cs sb_13 sb_14 b15 b17) [(.ref b15)])) rfl (by rw [hml]; rfl) (Steps.refl _) (argsL := []) (rest := []) (lenOf own_pd16 rfl) rfl (Nat.le_of_eq rfl) (hb hby at_282) (fun _ _ => ⟨rfl, rfl, (by decide : 7 + 0 ≤ _), (by decide : 27 + 0 ≤ _)⟩)
         dsimp only [Pt.U, Pt.locs, Pt.cells, Pt.slots] at X39 l39 y39 z39 st39 hQ39
         subst l39 y39 z39
         obtain ⟨rfl, N39q, e39⟩ := hQ39
         have N39 := Fr.app N38 N39q
         refine ownE.goS st39 ?_
         refine ownE.go (f' := (mkF m 312 (own_l55 i0 i1 i2 cs sb_13 sb_14 b15 b17) [(.int (1 : Int32))])) (fun t kt => XS.iload X39.here hx rfl (hb hby at_285) rfl (XS.ifNo X39.here hx rfl (hb hby at_287) rfl (Jvm.Free.XT.i0_ne_f (by decide)) (XS.iload X39.here hx rfl (hb hby at_290) rfl (XS.ifNo X39.here hx rfl (hb hby at_292) rfl (Jvm.Free.XT.i0_ne_f (by decide)) (XS.iconst X39.here hx rfl (hb hby at_295) (XS.goto X39.here hx rfl (pc0 := 296) (pc' := 300) rfl (hb hby at_296) (by decide) (by decide) (XS.icmpNo X39.here hx rfl (hb hby at_300) rfl (Jvm.Free.XT.ii_ne_f (by decide)) (XS.iconst X39.here hx rfl (hb hby at_303) (XS.goto X39.here hx rfl (pc0 := 304) (pc' := 308) rfl (hb hby at_304) (by decide) (by decide) (XS.istore X39.here hx rfl (hb hby at_308) rfl (l' := (own_l55 i0 i1 i2 cs sb_13 sb_14 b15 b17)) rfl (XS.iload X39.here hx rfl (hb hby at_310) rfl kt))))))))))) ?_
         refine ownE.retN X39 hx hlk (t := .boolean) hret (by simp) (hb hby at_312) ?_ (by decide) (by decide)
         show own_Q0g Z i0 i1 i2 cs fmt h0 n0 _ T39.heap _
         rw [e39]
         exact ⟨(by rw [own_f0g, if_pos hc20, if_neg hc21, if_pos hc35, if_neg hc36] <;> first | rfl | decide), N39, K38⟩
       · -- pc 234
        refine ownE.go (T' := T34) (f' := (mkF m 237 (own_l56 i0 i1 i2 cs sb_13 sb_14 b15 b17) [])) (fun t kt => XS.ifNo (g := (mkF m 234 (own_l56 i0 i1 i2 cs sb_13 sb_14 b15 b17) [(.int (own_j0g_36_S0 i0 i1 i2 cs))])) X34.here hx rfl (hb hby at_234) rfl (Jvm.Free.XT.i0_eq_f hc35) kt) ?_
        refine ownE.go (f' := (mkF m 241 (own_l56 i0 i1 i2 cs sb_13 sb_14 b15 b17) [(.ref sb_13), (.ref b15)])) (fun t kt => XS.aload X34.here hx rfl (hb hby at_237) rfl rfl (XS.aload X34.here hx rfl (hb hby at_239) rfl rfl kt)) ?_
        obtain ⟨cq40, kq40, q40a, q40b, q40c⟩ := isOf hZ e34 f33_1
        obtain ⟨_, _, ⟨T40, L40, k40, n40⟩, -, X40, ⟨Lc40, hQ40, l40, y40, z40⟩, st40⟩ := X34.virtualBack hx (y := own_y29) (z := own_y29) hown (mvT hZ (own_w hw 157 rfl)) (mvT hZ (own_w hw 158 rfl)) (notFace_of_selects (args := #[]) (mvT hZ (own_w hw 160 rfl))) (mvT hZ (own_w hw 160 rfl)) (mvT hZ (own_w hw 159 rfl)) (by decide) (backOf (W := 0) (own_rm271g l Z a0 hw [] b15 sb_13 vb_13 kb_13 ((((i0 &&& (255 : Int32)).toUInt32.toUInt16.toUInt32.toInt32).toInt8.toInt32).toInt8.toInt32) lk_33 sb_14 vb_14 kb_14 ((((i1 &&& (255 : Int32)).toUInt32.toUInt16.toUInt32.toInt32).toInt8.toInt32).toInt8.toInt32) cs fmt T33.heap n0 (Nat.le_trans Z0 K33.1) q848 hcs hcsn zfm hfm f33_1 f33_2 f33_4 f33_7 q849 q851 q850 q852 q853 q855 q854 q856 (by rw [own_xc, own_xc]; exact hN) (by rw [own_xc, own_xc]; exact hG)) hZ (own_w hw 161 rfl) (own_w hw 28 rfl) (by decide) (by decide)) q40a q40c (g := (mkF m 241 (own_l56 i0 i1 i2 cs sb_13 sb_14 b15 b17) [(.ref sb_13), (.ref b15)])) rfl (by rw [hml]; rfl) (Steps.refl _) (argsL := [(.ref sb_13)]) (rest := []) (lenOf own_pd30 rfl) rfl (Nat.le_of_eq rfl) (hb hby at_241) (fun _ _ => ⟨rfl, e34, (by decide : 7 + 0 ≤ _), (by decide : 27 + 0 ≤ _)⟩)
        dsimp only [Pt.U, Pt.locs, Pt.cells, Pt.slots] at X40 l40 y40 z40 st40 hQ40
        subst l40 y40 z40
        obtain ⟨rfl, N40q, e40⟩ := hQ40
        have N40 := Fr.app N34 N40q
        refine ownE.goS st40 ?_
        refine ownE.go (f' := (mkF m 250 (own_l56 i0 i1 i2 cs sb_13 sb_14 b15 b17) [(.int (own_j0g_50_S0 i0 i1 i2 cs))])) (fun t kt => XS.pop X40.here hx rfl (hb hby at_244) rfl rfl (XS.iconst X40.here hx rfl (hb hby at_245) (XS.istore X40.here hx rfl (hb hby at_246) rfl (l' := (own_l56 i0 i1 i2 cs sb_13 sb_14 b15 b17)) rfl (XS.iload X40.here hx rfl (hb hby at_248) rfl kt)))) ?_
        by_cases hc41 : (own_j0g_50_S0 i0 i1 i2 cs) = (0 : Int32)
        · -- pc 250
         refine ownE.go (T' := T40) (f' := (mkF m 275 (own_l56 i0 i1 i2 cs sb_13 sb_14 b15 b17) [])) (fun t kt => XS.ifYes (g := (mkF m 250 (own_l56 i0 i1 i2 cs sb_13 sb_14 b15 b17) [(.int (own_j0g_50_S0 i0 i1 i2 cs))])) X40.here hx rfl (pc0 := 250) (pc' := 275) rfl (hb hby at_250) rfl (Jvm.Free.XT.i0_eq_t hc41) (by decide) (by decide) kt) ?_
         refine ownE.go (f' := (mkF m 282 (own_l56 i0 i1 i2 cs sb_13 sb_14 b15 b17) [(.ref b15)])) (fun t kt => XS.iload X40.here hx rfl (hb hby at_275) rfl (XS.ifNo X40.here hx rfl (hb hby at_277) rfl (Jvm.Free.XT.i0_eq_f (by decide)) (XS.aload X40.here hx rfl (hb hby at_280) rfl rfl kt))) ?_
         obtain ⟨cq42, kq42, q42a, q42b, q42c⟩ := isOf hZ e40 f33_1
         obtain ⟨_, _, ⟨T42, L42, k42, n42⟩, -, X42, ⟨Lc42, hQ42, l42, y42, z42⟩, st42⟩ := X40.virtualBack hx (y := own_y27) (z := own_y27) hown (mvT hZ (own_w hw 65 rfl)) (mvT hZ (own_w hw 66 rfl)) (notFace_of_selects (args := #[]) (mvT hZ (own_w hw 68 rfl))) (mvT hZ (own_w hw 68 rfl)) (mvT hZ (own_w hw 67 rfl)) (by decide) (backOf (W := 0) (own_rm91 l Z a0 hw [] b15 lk_33 T33.heap n0 (Nat.le_trans Z0 K33.1) f33_1 f33_2) hZ (own_w hw 69 rfl) (own_w hw 28 rfl) (by decide) (by decide)) q42a q42c (g := (mkF m 282 (own_l56 i0 i1 i2 cs sb_13 sb_14 b15 b17) [(.ref b15)])) rfl (by rw [hml]; rfl) (Steps.refl _) (argsL := []) (rest := []) (lenOf own_pd16 rfl) rfl (Nat.le_of_eq rfl) (hb hby at_282) (fun _ _ => ⟨rfl, e40, (by decide : 7 + 0 ≤ _), (by decide : 27 + 0 ≤ _)⟩)
         dsimp only [Pt.U, Pt.locs, Pt.cells, Pt.slots] at X42 l42 y42 z42 st42 hQ42
         subst l42 y42 z42
         obtain ⟨rfl, N42q, e42⟩ := hQ42
         have N42 := Fr.app N40 N42q
         refine ownE.goS st42 ?_
         refine ownE.go (f' := (mkF m 312 (own_l56 i0 i1 i2 cs sb_13 sb_14 b15 b17) [(.int (1 : Int32))])) (fun t kt => XS.iload X42.here hx rfl (hb hby at_285) rfl (XS.ifNo X42.here hx rfl (hb hby at_287) rfl (Jvm.Free.XT.i0_ne_f (by decide)) (XS.iload X42.here hx rfl (hb hby at_290) rfl (XS.ifYes X42.here hx rfl (pc0 := 292) (pc' := 299) rfl (hb hby at_292) rfl (Jvm.Free.XT.i0_ne_t (by decide)) (by decide) (by decide) (XS.iconst X42.here hx rfl (hb hby at_299) (XS.icmpNo X42.here hx rfl (hb hby at_300) rfl (Jvm.Free.XT.ii_ne_f (by decide)) (XS.iconst X42.here hx rfl (hb hby at_303) (XS.goto X42.here hx rfl (pc0 := 304) (pc' := 308) rfl (hb hby at_304) (by decide) (by decide) (XS.istore X42.here hx rfl (hb hby at_308) rfl (l' := (own_l56 i0 i1 i2 cs sb_13 sb_14 b15 b17)) rfl (XS.iload X42.here hx rfl (hb hby at_310) rfl kt)))))))))) ?_
         refine ownE.retN X42 hx hlk (t := .boolean) hret (by simp) (hb hby at_312) ?_ (by decide) (by decide)
         show own_Q0g Z i0 i1 i2 cs fmt h0 n0 _ T42.heap _
         rw [e42]
         exact ⟨(by rw [own_f0g, if_pos hc20, if_neg hc21, if_neg hc35, if_pos hc41] <;> first | rfl | decide), N42, K33⟩
        · -- pc 250
         refine ownE.go (T' := T40) (f' := (mkF m 253 (own_l56 i0 i1 i2 cs sb_13 sb_14 b15 b17) [])) (fun t kt => XS.ifNo (g := (mkF m 250 (own_l56 i0 i1 i2 cs sb_13 sb_14 b15 b17) [(.int (own_j0g_50_S0 i0 i1 i2 cs))])) X40.here hx rfl (hb hby at_250) rfl (Jvm.Free.XT.i0_eq_f hc41) kt) ?_
         refine ownE.go (f' := (mkF m 257 (own_l56 i0 i1 i2 cs sb_13 sb_14 b15 b17) [(.ref sb_14), (.ref b15)])) (fun t kt => XS.aload X40.here hx rfl (hb hby at_253) rfl rfl (XS.aload X40.here hx rfl (hb hby at_255) rfl rfl kt)) ?_
         obtain ⟨cq43, kq43, q43a, q43b, q43c⟩ := isOf hZ e40 f33_1
         obtain ⟨_, _, ⟨T43, L43, k43, n43⟩, -, X43, ⟨Lc43, hQ43, l43, y43, z43⟩, st43⟩ := X40.virtualBack hx (y := own_y29) (z := own_y29) hown (mvT hZ (own_w hw 157 rfl)) (mvT hZ (own_w hw 158 rfl)) (notFace_of_selects (args := #[]) (mvT hZ (own_w hw 160 rfl))) (mvT hZ (own_w hw 160 rfl)) (mvT hZ (own_w hw 159 rfl)) (by decide) (backOf (W := 0) (own_rm271e l Z a0 hw [] b15 sb_14 vb_14 kb_14 ((((i1 &&& (255 : Int32)).toUInt32.toUInt16.toUInt32.toInt32).toInt8.toInt32).toInt8.toInt32) lk_33 sb_14 vb_14 kb_14 ((((i1 &&& (255 : Int32)).toUInt32.toUInt16.toUInt32.toInt32).toInt8.toInt32).toInt8.toInt32) b17 cs fmt T33.heap n0 (Nat.le_trans Z0 K33.1) q848 hcs hcsn zfm hfm f33_1 f33_2 ge_b15 f33_4 f33_5 f33_6 f33_7 q853 q855 q854 q856 q853 q855 q854 q856 rfl) hZ (own_w hw 161 rfl) (own_w hw 28 rfl) (by decide) (by decide)) q43a q43c (g := (mkF m 257 (own_l56 i0 i1 i2 cs sb_13 sb_14 b15 b17) [(.ref sb_14), (.ref b15)])) rfl (by rw [hml]; rfl) (Steps.refl _) (argsL := [(.ref sb_14)]) (rest := []) (lenOf own_pd30 rfl) rfl (Nat.le_of_eq rfl) (hb hby at_257) (fun _ _ => ⟨rfl, e40, (by decide : 7 + 0 ≤ _), (by decide : 27 + 0 ≤ _)⟩)
         dsimp only [Pt.U, Pt.locs, Pt.cells, Pt.slots] at X43 l43 y43 z43 st43 hQ43
         subst l43 y43 z43
         obtain ⟨rfl, N43q, K43q, f43_0, f43_1⟩ := hQ43
         have q876 := q848.keep K43q (allS ge_b15 all0)
         have q877 := q849.keep K43q
         have q878 := q850.keep K43q (ninS ne_sb_13_b15 nin0)
         have q879 := q851.keep K43q (ninS ne_sb_13_b15 nin0)
         have q880 := q852.keep K43q (ninS ne_vb_13_b15 nin0)
         have q881 := q853.keep K43q
         have q882 := q854.keep K43q (ninS ne_sb_14_b15 nin0)
         have q883 := q855.keep K43q (ninS ne_sb_14_b15 nin0)
         have q884 := q856.keep K43q (ninS ne_vb_14_b15 nin0)
         have q885 := f33_1.keep K43q
         have q886 := q858.keep K43q
         have q887 := f33_3.keep K43q
         have q888 := f33_4.keep K43q (ninS (Ne.symm ne_b15_lk_33) nin0)
         have q889 := f33_5.keep K43q (ninS (Ne.symm ne_b15_lk_33) nin0)
         have q890 := f33_6.keep K43q (ninS (Ne.symm ne_b15_lk_33) nin0)
         have q891 := f33_7.keep K43q (ninS (Ne.symm ne_b15_lk_33) nin0)
         have q892 := f33_8.keep K43q (ninS (Ne.symm ne_b15_lk_33) nin0)
         have K43 : Keep h0 T43.heap [] := K33.trans K43q (allS (Or.inr sz_b15) all0)
         have N43 := Fr.app N40 N43q
         refine ownE.goS st43 ?_
         refine ownE.go (f' := (mkF m 282 (own_l55 i0 i1 i2 cs sb_13 sb_14 b15 b17) [(.ref b15)])) (fun t kt => XS.pop X43.here hx rfl (hb hby at_260) rfl rfl (XS.iload X43.here hx rfl (hb hby at_261) rfl (XS.ifYes X43.here hx rfl (pc0 := 263) (pc' := 272) rfl (hb hby at_263) rfl (Jvm.Free.XT.i0_eq_t (by decide)) (by decide) (by decide) (XS.iconst X43.here hx rfl (hb hby at_272) (XS.istore X43.here hx rfl (hb hby at_273) rfl (l' := (own_l55 i0 i1 i2 cs sb_13 sb_14 b15 b17)) rfl (XS.iload X43.here hx rfl (hb hby at_275) rfl (XS.ifNo X43.here hx rfl (hb hby at_277) rfl (Jvm.Free.XT.i0_eq_f (by decide)) (XS.aload X43.here hx rfl (hb hby at_280) rfl rfl kt)))))))) ?_
         obtain ⟨cq44, kq44, q44a, q44b, q44c⟩ := isOf hZ rfl f43_0
         obtain ⟨_, _, ⟨T44, L44, k44, n44⟩, -, X44, ⟨Lc44, hQ44, l44, y44, z44⟩, st44⟩ := X43.virtualBack hx (y := own_y27) (z := own_y27) hown (mvT hZ (own_w hw 65 rfl)) (mvT hZ (own_w hw 66 rfl)) (notFace_of_selects (args := #[]) (mvT hZ (own_w hw 68 rfl))) (mvT hZ (own_w hw 68 rfl)) (mvT hZ (own_w hw 67 rfl)) (by decide) (backOf (W := 0) (own_rm90 l Z a0 hw [] b15 T43.heap n0 (Nat.le_trans Z0 K43.1) f43_0 f43_1) hZ (own_w hw 69 rfl) (own_w hw 28 rfl) (by decide) (by decide)) q44a q44c (g := (mkF m 282 (own_l55 i0 i1 i2 cs sb_13 sb_14 b15 b17) [(.ref b15)])) rfl (by rw [hml]; rfl) (Steps.refl _) (argsL := []) (rest := []) (lenOf own_pd16 rfl) rfl (Nat.le_of_eq rfl) (hb hby at_282) (fun _ _ => ⟨rfl, rfl, (by decide : 7 + 0 ≤ _), (by decide : 27 + 0 ≤ _)⟩)
         dsimp only [Pt.U, Pt.locs, Pt.cells, Pt.slots] at X44 l44 y44 z44 st44 hQ44
         subst l44 y44 z44
         obtain ⟨rfl, N44q, e44⟩ := hQ44
         have N44 := Fr.app N43 N44q
         refine ownE.goS st44 ?_
         refine ownE.go (f' := (mkF m 312 (own_l55 i0 i1 i2 cs sb_13 sb_14 b15 b17) [(.int (1 : Int32))])) (fun t kt => XS.iload X44.here hx rfl (hb hby at_285) rfl (XS.ifNo X44.here hx rfl (hb hby at_287) rfl (Jvm.Free.XT.i0_ne_f (by decide)) (XS.iload X44.here hx rfl (hb hby at_290) rfl (XS.ifNo X44.here hx rfl (hb hby at_292) rfl (Jvm.Free.XT.i0_ne_f (by decide)) (XS.iconst X44.here hx rfl (hb hby at_295) (XS.goto X44.here hx rfl (pc0 := 296) (pc' := 300) rfl (hb hby at_296) (by decide) (by decide) (XS.icmpNo X44.here hx rfl (hb hby at_300) rfl (Jvm.Free.XT.ii_ne_f (by decide)) (XS.iconst X44.here hx rfl (hb hby at_303) (XS.goto X44.here hx rfl (pc0 := 304) (pc' := 308) rfl (hb hby at_304) (by decide) (by decide) (XS.istore X44.here hx rfl (hb hby at_308) rfl (l' := (own_l55 i0 i1 i2 cs sb_13 sb_14 b15 b17)) rfl (XS.iload X44.here hx rfl (hb hby at_310) rfl kt))))))))))) ?_
         refine ownE.retN X44 hx hlk (t := .boolean) hret (by simp) (hb hby at_312) ?_ (by decide) (by decide)
         show own_Q0g Z i0 i1 i2 cs fmt h0 n0 _ T44.heap _
         rw [e44]
         exact ⟨(by rw [own_f0g, if_pos hc20, if_neg hc21, if_neg hc35, if_neg hc41] <;> first | rfl | decide), N44, K43⟩
     · -- pc 131
      refine ownE.go (T' := T19) (f' := (mkF m 134 (own_l53 i0 i1 i2 cs sb_13 sb_14 b15 b17) [])) (fun t kt => XS.ifNo (g := (mkF m 131 (own_l53 i0 i1 i2 cs sb_13 sb_14 b15 b17) [(.int (own_j0g_11_S0 i0 i1 i2 cs))])) X19.here hx rfl (hb hby at_131) rfl (Jvm.Free.XT.i0_eq_f hc20) kt) ?_
      refine ownE.go (f' := (mkF m 140 (own_l53 i0 i1 i2 cs sb_13 sb_14 b15 b17) [(.ref b17), (.ref sb_13), (.ref b15)])) (fun t kt => XS.aload X19.here hx rfl (hb hby at_134) rfl rfl (XS.aload X19.here hx rfl (hb hby at_136) rfl rfl (XS.aload X19.here hx rfl (hb hby at_138) rfl rfl kt))) ?_
      obtain ⟨cq45, kq45, q45a, q45b, q45c⟩ := isOf hZ e19 q845
      obtain ⟨_, _, ⟨T45, L45, k45, n45⟩, -, X45, ⟨Lc45, hQ45, l45, y45, z45⟩, st45⟩ := X19.virtualBack hx (y := own_y28) (z := own_y28) hown (mvT hZ (own_w hw 72 rfl)) (mvT hZ (own_w hw 73 rfl)) (notFace_of_selects (args := #[]) (mvT hZ (own_w hw 75 rfl))) (mvT hZ (own_w hw 75 rfl)) (mvT hZ (own_w hw 74 rfl)) (by decide) (backOf (W := 0) (own_rm100 l Z a0 hw [] b15 sb_13 b17 T18.heap n0 (Nat.le_trans Z0 K18.1) q845 q846 ge_b15) hZ (own_w hw 76 rfl) (own_w hw 28 rfl) (by decide) (by decide)) q45a q45c (g := (mkF m 140 (own_l53 i0 i1 i2 cs sb_13 sb_14 b15 b17) [(.ref b17), (.ref sb_13), (.ref b15)])) rfl (by rw [hml]; rfl) (Steps.refl _) (argsL := [(.ref sb_13), (.ref b17)]) (rest := []) (lenOf own_pd34 rfl) rfl (Nat.le_of_eq rfl) (hb hby at_140) (fun _ _ => ⟨rfl, e19, (by decide : 6 + 1 ≤ _), (by decide : 22 + 5 ≤ _)⟩)
      dsimp only [Pt.U, Pt.locs, Pt.cells, Pt.slots] at X45 l45 y45 z45 st45 hQ45
      subst l45 y45 z45
      obtain ⟨lk_45, rfl, N45q, K45q, f45_0, f45_1, f45_2, f45_3, f45_4, f45_5, f45_6, f45_7, f45_8⟩ := hQ45
      have ne_sb_13_lk_45 : sb_13 ≠ lk_45 := Nat.ne_of_lt (Nat.lt_of_lt_of_le q837.lt f45_0)
      have ne_vb_13_lk_45 : vb_13 ≠ lk_45 := Nat.ne_of_lt (Nat.lt_of_lt_of_le q840.lt f45_0)
      have ne_sb_14_lk_45 : sb_14 ≠ lk_45 := Nat.ne_of_lt (Nat.lt_of_lt_of_le q841.lt f45_0)
      have ne_vb_14_lk_45 : vb_14 ≠ lk_45 := Nat.ne_of_lt (Nat.lt_of_lt_of_le q844.lt f45_0)
      have ne_b15_lk_45 : b15 ≠ lk_45 := Nat.ne_of_lt (Nat.lt_of_lt_of_le q845.lt f45_0)
      have ne_b17_lk_45 : b17 ≠ lk_45 := Nat.ne_of_lt (Nat.lt_of_lt_of_le f18_0.lt f45_0)
      have q893 := q836.keep K45q (allS ge_b15 all0)
      have q894 := q837.keep K45q
      have q895 := q838.keep K45q (ninS ne_sb_13_b15 nin0)
      have q896 := q839.keep K45q (ninS ne_sb_13_b15 nin0)
      have q897 := q840.keep K45q (ninS ne_vb_13_b15 nin0)
      have q898 := q841.keep K45q
      have q899 := q842.keep K45q (ninS ne_sb_14_b15 nin0)
      have q900 := q843.keep K45q (ninS ne_sb_14_b15 nin0)
      have q901 := q844.keep K45q (ninS ne_vb_14_b15 nin0)
      have q902 := q845.keep K45q
      have q903 := f18_0.keep K45q
      have K45 : Keep h0 T45.heap [] := K18.trans K45q (allS (Or.inr sz_b15) all0)
      have sz_lk_45 : h0.size ≤ lk_45 := Nat.le_trans K18.1 f45_0
      have ge_lk_45 : n0 ≤ lk_45 := Nat.le_trans Z0 sz_lk_45
      have N45 := Fr.app N19 N45q
      refine ownE.goS st45 ?_
      refine ownE.go (f' := (mkF m 146 (own_l53 i0 i1 i2 cs sb_13 sb_14 b15 b17) [(.int (own_j0g_23_S0 i0 i1 i2 cs))])) (fun t kt => XS.pop X45.here hx rfl (hb hby at_143) rfl rfl (XS.iload X45.here hx rfl (hb hby at_144) rfl kt)) ?_
      by_cases hc46 : (own_j0g_23_S0 i0 i1 i2 cs) = (0 : Int32)
      · -- pc 146
       refine ownE.go (T' := T45) (f' := (mkF m 159 (own_l53 i0 i1 i2 cs sb_13 sb_14 b15 b17) [])) (fun t kt => XS.ifYes (g := (mkF m 146 (own_l53 i0 i1 i2 cs sb_13 sb_14 b15 b17) [(.int (own_j0g_23_S0 i0 i1 i2 cs))])) X45.here hx rfl (pc0 := 146) (pc' := 159) rfl (hb hby at_146) rfl (Jvm.Free.XT.i0_eq_t hc46) (by decide) (by decide) kt) ?_
       refine ownE.go (f' := (mkF m 204 (own_l58 i0 i1 i2 cs sb_13 sb_14 b15 b17) [(.ref b15)])) (fun t kt => XS.iloadN X45.here hx rfl (hb hby at_159) rfl (XS.ifYes X45.here hx rfl (pc0 := 160) (pc' := 173) rfl (hb hby at_160) rfl (Jvm.Free.XT.i0_ne_t hc20) (by decide) (by decide) (XS.iconst X45.here hx rfl (hb hby at_173) (XS.goto X45.here hx rfl (pc0 := 174) (pc' := 178) rfl (hb hby at_174) (by decide) (by decide) (XS.istore X45.here hx rfl (hb hby at_178) rfl (l' := (own_l57 i0 i1 i2 cs sb_13 sb_14 b15 b17)) rfl (XS.iload X45.here hx rfl (hb hby at_180) rfl (XS.ifYes X45.here hx rfl (pc0 := 182) (pc' := 194) rfl (hb hby at_182) rfl (Jvm.Free.XT.i0_eq_t hc46) (by decide) (by decide) (XS.iconst X45.here hx rfl (hb hby at_194) (XS.istore X45.here hx rfl (hb hby at_195) rfl (l' := (own_l58 i0 i1 i2 cs sb_13 sb_14 b15 b17)) rfl (XS.iload X45.here hx rfl (hb hby at_197) rfl (XS.ifNo X45.here hx rfl (hb hby at_199) rfl (Jvm.Free.XT.i0_eq_f (by decide)) (XS.aload X45.here hx rfl (hb hby at_202) rfl rfl kt)))))))))))) ?_
       obtain ⟨cq47, kq47, q47a, q47b, q47c⟩ := isOf hZ rfl f45_1
       obtain ⟨_, _, ⟨T47, L47, k47, n47⟩, -, X47, ⟨Lc47, hQ47, l47, y47, z47⟩, st47⟩ := X45.virtualBack hx (y := own_y27) (z := own_y27) hown (mvT hZ (own_w hw 65 rfl)) (mvT hZ (own_w hw 66 rfl)) (notFace_of_selects (args := #[]) (mvT hZ (own_w hw 68 rfl))) (mvT hZ (own_w hw 68 rfl)) (mvT hZ (own_w hw 67 rfl)) (by decide) (backOf (W := 0) (own_rm91 l Z a0 hw [] b15 lk_45 T45.heap n0 (Nat.le_trans Z0 K45.1) f45_1 f45_2) hZ (own_w hw 69 rfl) (own_w hw 28 rfl) (by decide) (by decide)) q47a q47c (g := (mkF m 204 (own_l58 i0 i1 i2 cs sb_13 sb_14 b15 b17) [(.ref b15)])) rfl (by rw [hml]; rfl) (Steps.refl _) (argsL := []) (rest := []) (lenOf own_pd16 rfl) rfl (Nat.le_of_eq rfl) (hb hby at_204) (fun _ _ => ⟨rfl, rfl, (by decide : 7 + 0 ≤ _), (by decide : 27 + 0 ≤ _)⟩)
       dsimp only [Pt.U, Pt.locs, Pt.cells, Pt.slots] at X47 l47 y47 z47 st47 hQ47
       subst l47 y47 z47
       obtain ⟨rfl, N47q, e47⟩ := hQ47
       have N47 := Fr.app N45 N47q
       refine ownE.goS st47 ?_
       refine ownE.go (f' := (mkF m 234 (own_l58 i0 i1 i2 cs sb_13 sb_14 b15 b17) [(.int (own_j0g_36_S0 i0 i1 i2 cs))])) (fun t kt => XS.iload X47.here hx rfl (hb hby at_207) rfl (XS.ifYes X47.here hx rfl (pc0 := 209) (pc' := 221) rfl (hb hby at_209) rfl (Jvm.Free.XT.i0_ne_t (by decide)) (by decide) (by decide) (XS.iconst X47.here hx rfl (hb hby at_221) (XS.icmpNo X47.here hx rfl (hb hby at_222) rfl (Jvm.Free.XT.ii_ne_f (by decide)) (XS.iconst X47.here hx rfl (hb hby at_225) (XS.goto X47.here hx rfl (pc0 := 226) (pc' := 230) rfl (hb hby at_226) (by decide) (by decide) (XS.istore X47.here hx rfl (hb hby at_230) rfl (l' := (own_l58 i0 i1 i2 cs sb_13 sb_14 b15 b17)) rfl (XS.iload X47.here hx rfl (hb hby at_232) rfl kt)))))))) ?_
       by_cases hc48 : (own_j0g_36_S0 i0 i1 i2 cs) = (0 : Int32)
       · -- pc 234
        refine ownE.go (T' := T47) (f' := (mkF m 248 (own_l58 i0 i1 i2 cs sb_13 sb_14 b15 b17) [])) (fun t kt => XS.ifYes (g := (mkF m 234 (own_l58 i0 i1 i2 cs sb_13 sb_14 b15 b17) [(.int (own_j0g_36_S0 i0 i1 i2 cs))])) X47.here hx rfl (pc0 := 234) (pc' := 248) rfl (hb hby at_234) rfl (Jvm.Free.XT.i0_eq_t hc48) (by decide) (by decide) kt) ?_
        refine ownE.go (f' := (mkF m 250 (own_l58 i0 i1 i2 cs sb_13 sb_14 b15 b17) [(.int (own_j0g_50_S0 i0 i1 i2 cs))])) (fun t kt => XS.iload X47.here hx rfl (hb hby at_248) rfl kt) ?_
        by_cases hc49 : (own_j0g_50_S0 i0 i1 i2 cs) = (0 : Int32)
        · -- pc 250
         refine ownE.go (T' := T47) (f' := (mkF m 275 (own_l58 i0 i1 i2 cs sb_13 sb_14 b15 b17) [])) (fun t kt => XS.ifYes (g := (mkF m 250 (own_l58 i0 i1 i2 cs sb_13 sb_14 b15 b17) [(.int (own_j0g_50_S0 i0 i1 i2 cs))])) X47.here hx rfl (pc0 := 250) (pc' := 275) rfl (hb hby at_250) rfl (Jvm.Free.XT.i0_eq_t hc49) (by decide) (by decide) kt) ?_
         refine ownE.go (f' := (mkF m 282 (own_l58 i0 i1 i2 cs sb_13 sb_14 b15 b17) [(.ref b15)])) (fun t kt => XS.iload X47.here hx rfl (hb hby at_275) rfl (XS.ifNo X47.here hx rfl (hb hby at_277) rfl (Jvm.Free.XT.i0_eq_f (by decide)) (XS.aload X47.here hx rfl (hb hby at_280) rfl rfl kt))) ?_
         obtain ⟨cq50, kq50, q50a, q50b, q50c⟩ := isOf hZ e47 f45_1
         obtain ⟨_, _, ⟨T50, L50, k50, n50⟩, -, X50, ⟨Lc50, hQ50, l50, y50, z50⟩, st50⟩ := X47.virtualBack hx (y := own_y27) (z := own_y27) hown (mvT hZ (own_w hw 65 rfl)) (mvT hZ (own_w hw 66 rfl)) (notFace_of_selects (args := #[]) (mvT hZ (own_w hw 68 rfl))) (mvT hZ (own_w hw 68 rfl)) (mvT hZ (own_w hw 67 rfl)) (by decide) (backOf (W := 0) (own_rm91 l Z a0 hw [] b15 lk_45 T45.heap n0 (Nat.le_trans Z0 K45.1) f45_1 f45_2) hZ (own_w hw 69 rfl) (own_w hw 28 rfl) (by decide) (by decide)) q50a q50c (g := (mkF m 282 (own_l58 i0 i1 i2 cs sb_13 sb_14 b15 b17) [(.ref b15)])) rfl (by rw [hml]; rfl) (Steps.refl _) (argsL := []) (rest := []) (lenOf own_pd16 rfl) rfl (Nat.le_of_eq rfl) (hb hby at_282) (fun _ _ => ⟨rfl, e47, (by decide : 7 + 0 ≤ _), (by decide : 27 + 0 ≤ _)⟩)
         dsimp only [Pt.U, Pt.locs, Pt.cells, Pt.slots] at X50 l50 y50 z50 st50 hQ50
         subst l50 y50 z50
         obtain ⟨rfl, N50q, e50⟩ := hQ50
         have N50 := Fr.app N47 N50q
         refine ownE.goS st50 ?_
         refine ownE.go (f' := (mkF m 312 (own_l58 i0 i1 i2 cs sb_13 sb_14 b15 b17) [(.int (1 : Int32))])) (fun t kt => XS.iload X50.here hx rfl (hb hby at_285) rfl (XS.ifYes X50.here hx rfl (pc0 := 287) (pc' := 299) rfl (hb hby at_287) rfl (Jvm.Free.XT.i0_ne_t (by decide)) (by decide) (by decide) (XS.iconst X50.here hx rfl (hb hby at_299) (XS.icmpNo X50.here hx rfl (hb hby at_300) rfl (Jvm.Free.XT.ii_ne_f (by decide)) (XS.iconst X50.here hx rfl (hb hby at_303) (XS.goto X50.here hx rfl (pc0 := 304) (pc' := 308) rfl (hb hby at_304) (by decide) (by decide) (XS.istore X50.here hx rfl (hb hby at_308) rfl (l' := (own_l58 i0 i1 i2 cs sb_13 sb_14 b15 b17)) rfl (XS.iload X50.here hx rfl (hb hby at_310) rfl kt)))))))) ?_
         refine ownE.retN X50 hx hlk (t := .boolean) hret (by simp) (hb hby at_312) ?_ (by decide) (by decide)
         show own_Q0g Z i0 i1 i2 cs fmt h0 n0 _ T50.heap _
         rw [e50]
         exact ⟨(by rw [own_f0g, if_neg hc20, if_pos hc46, if_pos hc48, if_pos hc49] <;> first | rfl | decide), N50, K45⟩
        · -- pc 250
         refine ownE.go (T' := T47) (f' := (mkF m 253 (own_l58 i0 i1 i2 cs sb_13 sb_14 b15 b17) [])) (fun t kt => XS.ifNo (g := (mkF m 250 (own_l58 i0 i1 i2 cs sb_13 sb_14 b15 b17) [(.int (own_j0g_50_S0 i0 i1 i2 cs))])) X47.here hx rfl (hb hby at_250) rfl (Jvm.Free.XT.i0_eq_f hc49) kt) ?_
         refine ownE.go (f' := (mkF m 257 (own_l58 i0 i1 i2 cs sb_13 sb_14 b15 b17) [(.ref sb_14), (.ref b15)])) (fun t kt => XS.aload X47.here hx rfl (hb hby at_253) rfl rfl (XS.aload X47.here hx rfl (hb hby at_255) rfl rfl kt)) ?_
         obtain ⟨cq51, kq51, q51a, q51b, q51c⟩ := isOf hZ e47 f45_1
         obtain ⟨_, _, ⟨T51, L51, k51, n51⟩, -, X51, ⟨Lc51, hQ51, l51, y51, z51⟩, st51⟩ := X47.virtualBack hx (y := own_y29) (z := own_y29) hown (mvT hZ (own_w hw 157 rfl)) (mvT hZ (own_w hw 158 rfl)) (notFace_of_selects (args := #[]) (mvT hZ (own_w hw 160 rfl))) (mvT hZ (own_w hw 160 rfl)) (mvT hZ (own_w hw 159 rfl)) (by decide) (backOf (W := 0) (own_rm271l l Z a0 hw [] b15 sb_14 vb_14 kb_14 ((((i1 &&& (255 : Int32)).toUInt32.toUInt16.toUInt32.toInt32).toInt8.toInt32).toInt8.toInt32) lk_45 sb_13 vb_13 kb_13 ((((i0 &&& (255 : Int32)).toUInt32.toUInt16.toUInt32.toInt32).toInt8.toInt32).toInt8.toInt32) cs fmt T45.heap n0 (Nat.le_trans Z0 K45.1) q893 hcs hcsn zfm hfm f45_1 f45_2 f45_4 f45_6 q898 q900 q899 q901 q894 q896 q895 q897 (by rw [own_xc, own_xc]; exact (fun q => hN q.symm)) (by rw [own_xc, own_xc]; exact (own_gt hN hG))) hZ (own_w hw 161 rfl) (own_w hw 28 rfl) (by decide) (by decide)) q51a q51c (g := (mkF m 257 (own_l58 i0 i1 i2 cs sb_13 sb_14 b15 b17) [(.ref sb_14), (.ref b15)])) rfl (by rw [hml]; rfl) (Steps.refl _) (argsL := [(.ref sb_14)]) (rest := []) (lenOf own_pd30 rfl) rfl (Nat.le_of_eq rfl) (hb hby at_257) (fun _ _ => ⟨rfl, e47, (by decide : 7 + 0 ≤ _), (by decide : 27 + 0 ≤ _)⟩)
         dsimp only [Pt.U, Pt.locs, Pt.cells, Pt.slots] at X51 l51 y51 z51 st51 hQ51
         subst l51 y51 z51
         obtain ⟨rfl, N51q, e51⟩ := hQ51
         have N51 := Fr.app N47 N51q
         refine ownE.goS st51 ?_
         refine ownE.go (f' := (mkF m 282 (own_l58 i0 i1 i2 cs sb_13 sb_14 b15 b17) [(.ref b15)])) (fun t kt => XS.pop X51.here hx rfl (hb hby at_260) rfl rfl (XS.iload X51.here hx rfl (hb hby at_261) rfl (XS.ifYes X51.here hx rfl (pc0 := 263) (pc' := 272) rfl (hb hby at_263) rfl (Jvm.Free.XT.i0_eq_t (by decide)) (by decide) (by decide) (XS.iconst X51.here hx rfl (hb hby at_272) (XS.istore X51.here hx rfl (hb hby at_273) rfl (l' := (own_l58 i0 i1 i2 cs sb_13 sb_14 b15 b17)) rfl (XS.iload X51.here hx rfl (hb hby at_275) rfl (XS.ifNo X51.here hx rfl (hb hby at_277) rfl (Jvm.Free.XT.i0_eq_f (by decide)) (XS.aload X51.here hx rfl (hb hby at_280) rfl rfl kt)))))))) ?_
         obtain ⟨cq52, kq52, q52a, q52b, q52c⟩ := isOf hZ e51 f45_1
         obtain ⟨_, _, ⟨T52, L52, k52, n52⟩, -, X52, ⟨Lc52, hQ52, l52, y52, z52⟩, st52⟩ := X51.virtualBack hx (y := own_y27) (z := own_y27) hown (mvT hZ (own_w hw 65 rfl)) (mvT hZ (own_w hw 66 rfl)) (notFace_of_selects (args := #[]) (mvT hZ (own_w hw 68 rfl))) (mvT hZ (own_w hw 68 rfl)) (mvT hZ (own_w hw 67 rfl)) (by decide) (backOf (W := 0) (own_rm91 l Z a0 hw [] b15 lk_45 T45.heap n0 (Nat.le_trans Z0 K45.1) f45_1 f45_2) hZ (own_w hw 69 rfl) (own_w hw 28 rfl) (by decide) (by decide)) q52a q52c (g := (mkF m 282 (own_l58 i0 i1 i2 cs sb_13 sb_14 b15 b17) [(.ref b15)])) rfl (by rw [hml]; rfl) (Steps.refl _) (argsL := []) (rest := []) (lenOf own_pd16 rfl) rfl (Nat.le_of_eq rfl) (hb hby at_282) (fun _ _ => ⟨rfl, e51, (by decide : 7 + 0 ≤ _), (by decide : 27 + 0 ≤ _)⟩)
         dsimp only [Pt.U, Pt.locs, Pt.cells, Pt.slots] at X52 l52 y52 z52 st52 hQ52
         subst l52 y52 z52
         obtain ⟨rfl, N52q, e52⟩ := hQ52
         have N52 := Fr.app N51 N52q
         refine ownE.goS st52 ?_
         refine ownE.go (f' := (mkF m 312 (own_l58 i0 i1 i2 cs sb_13 sb_14 b15 b17) [(.int (1 : Int32))])) (fun t kt => XS.iload X52.here hx rfl (hb hby at_285) rfl (XS.ifYes X52.here hx rfl (pc0 := 287) (pc' := 299) rfl (hb hby at_287) rfl (Jvm.Free.XT.i0_ne_t (by decide)) (by decide) (by decide) (XS.iconst X52.here hx rfl (hb hby at_299) (XS.icmpNo X52.here hx rfl (hb hby at_300) rfl (Jvm.Free.XT.ii_ne_f (by decide)) (XS.iconst X52.here hx rfl (hb hby at_303) (XS.goto X52.here hx rfl (pc0 := 304) (pc' := 308) rfl (hb hby at_304) (by decide) (by decide) (XS.istore X52.here hx rfl (hb hby at_308) rfl (l' := (own_l58 i0 i1 i2 cs sb_13 sb_14 b15 b17)) rfl (XS.iload X52.here hx rfl (hb hby at_310) rfl kt)))))))) ?_
         refine ownE.retN X52 hx hlk (t := .boolean) hret (by simp) (hb hby at_312) ?_ (by decide) (by decide)
         show own_Q0g Z i0 i1 i2 cs fmt h0 n0 _ T52.heap _
         rw [e52]
         exact ⟨(by rw [own_f0g, if_neg hc20, if_pos hc46, if_pos hc48, if_neg hc49] <;> first | rfl | decide), N52, K45⟩
       · -- pc 234
        refine ownE.go (T' := T47) (f' := (mkF m 237 (own_l58 i0 i1 i2 cs sb_13 sb_14 b15 b17) [])) (fun t kt => XS.ifNo (g := (mkF m 234 (own_l58 i0 i1 i2 cs sb_13 sb_14 b15 b17) [(.int (own_j0g_36_S0 i0 i1 i2 cs))])) X47.here hx rfl (hb hby at_234) rfl (Jvm.Free.XT.i0_eq_f hc48) kt) ?_
        refine ownE.go (f' := (mkF m 241 (own_l58 i0 i1 i2 cs sb_13 sb_14 b15 b17) [(.ref sb_13), (.ref b15)])) (fun t kt => XS.aload X47.here hx rfl (hb hby at_237) rfl rfl (XS.aload X47.here hx rfl (hb hby at_239) rfl rfl kt)) ?_
        obtain ⟨cq53, kq53, q53a, q53b, q53c⟩ := isOf hZ e47 f45_1
        obtain ⟨_, _, ⟨T53, L53, k53, n53⟩, -, X53, ⟨Lc53, hQ53, l53, y53, z53⟩, st53⟩ := X47.virtualBack hx (y := own_y29) (z := own_y29) hown (mvT hZ (own_w hw 157 rfl)) (mvT hZ (own_w hw 158 rfl)) (notFace_of_selects (args := #[]) (mvT hZ (own_w hw 160 rfl))) (mvT hZ (own_w hw 160 rfl)) (mvT hZ (own_w hw 159 rfl)) (by decide) (backOf (W := 0) (own_rm271e l Z a0 hw [] b15 sb_13 vb_13 kb_13 ((((i0 &&& (255 : Int32)).toUInt32.toUInt16.toUInt32.toInt32).toInt8.toInt32).toInt8.toInt32) lk_45 sb_13 vb_13 kb_13 ((((i0 &&& (255 : Int32)).toUInt32.toUInt16.toUInt32.toInt32).toInt8.toInt32).toInt8.toInt32) b17 cs fmt T45.heap n0 (Nat.le_trans Z0 K45.1) q893 hcs hcsn zfm hfm f45_1 f45_2 ge_b15 f45_4 f45_5 f45_6 f45_7 q894 q896 q895 q897 q894 q896 q895 q897 rfl) hZ (own_w hw 161 rfl) (own_w hw 28 rfl) (by decide) (by decide)) q53a q53c (g := (mkF m 241 (own_l58 i0 i1 i2 cs sb_13 sb_14 b15 b17) [(.ref sb_13), (.ref b15)])) rfl (by rw [hml]; rfl) (Steps.refl _) (argsL := [(.ref sb_13)]) (rest := []) (lenOf own_pd30 rfl) rfl (Nat.le_of_eq rfl) (hb hby at_241) (fun _ _ => ⟨rfl, e47, (by decide : 7 + 0 ≤ _), (by decide : 27 + 0 ≤ _)⟩)
        dsimp only [Pt.U, Pt.locs, Pt.cells, Pt.slots] at X53 l53 y53 z53 st53 hQ53
        subst l53 y53 z53
        obtain ⟨rfl, N53q, K53q, f53_0, f53_1⟩ := hQ53
        have q904 := q893.keep K53q (allS ge_b15 all0)
        have q905 := q894.keep K53q
        have q906 := q895.keep K53q (ninS ne_sb_13_b15 nin0)
        have q907 := q896.keep K53q (ninS ne_sb_13_b15 nin0)
        have q908 := q897.keep K53q (ninS ne_vb_13_b15 nin0)
        have q909 := q898.keep K53q
        have q910 := q899.keep K53q (ninS ne_sb_14_b15 nin0)
        have q911 := q900.keep K53q (ninS ne_sb_14_b15 nin0)
        have q912 := q901.keep K53q (ninS ne_vb_14_b15 nin0)
        have q913 := f45_1.keep K53q
        have q914 := q903.keep K53q
        have q915 := f45_3.keep K53q
        have q916 := f45_4.keep K53q (ninS (Ne.symm ne_b15_lk_45) nin0)
        have q917 := f45_5.keep K53q (ninS (Ne.symm ne_b15_lk_45) nin0)
        have q918 := f45_6.keep K53q (ninS (Ne.symm ne_b15_lk_45) nin0)
        have q919 := f45_7.keep K53q (ninS (Ne.symm ne_b15_lk_45) nin0)
        have q920 := f45_8.keep K53q (ninS (Ne.symm ne_b15_lk_45) nin0)
        have K53 : Keep h0 T53.heap [] := K45.trans K53q (allS (Or.inr sz_b15) all0)
        have N53 := Fr.app N47 N53q
        refine ownE.goS st53 ?_
        refine ownE.go (f' := (mkF m 250 (own_l55 i0 i1 i2 cs sb_13 sb_14 b15 b17) [(.int (own_j0g_50_S0 i0 i1 i2 cs))])) (fun t kt => XS.pop X53.here hx rfl (hb hby at_244) rfl rfl (XS.iconst X53.here hx rfl (hb hby at_245) (XS.istore X53.here hx rfl (hb hby at_246) rfl (l' := (own_l55 i0 i1 i2 cs sb_13 sb_14 b15 b17)) rfl (XS.iload X53.here hx rfl (hb hby at_248) rfl kt)))) ?_
        by_cases hc54 : (own_j0g_50_S0 i0 i1 i2 cs) = (0 : Int32)
        · -- pc 250
         refine ownE.go (T' := T53) (f' := (mkF m 275 (own_l55 i0 i1 i2 cs sb_13 sb_14 b15 b17) [])) (fun t kt => XS.ifYes (g := (mkF m 250 (own_l55 i0 i1 i2 cs sb_13 sb_14 b15 b17) [(.int (own_j0g_50_S0 i0 i1 i2 cs))])) X53.here hx rfl (pc0 := 250) (pc' := 275) rfl (hb hby at_250) rfl (Jvm.Free.XT.i0_eq_t hc54) (by decide) (by decide) kt) ?_
         refine ownE.go (f' := (mkF m 282 (own_l55 i0 i1 i2 cs sb_13 sb_14 b15 b17) [(.ref b15)])) (fun t kt => XS.iload X53.here hx rfl (hb hby at_275) rfl (XS.ifNo X53.here hx rfl (hb hby at_277) rfl (Jvm.Free.XT.i0_eq_f (by decide)) (XS.aload X53.here hx rfl (hb hby at_280) rfl rfl kt))) ?_
         obtain ⟨cq55, kq55, q55a, q55b, q55c⟩ := isOf hZ rfl f53_0
         obtain ⟨_, _, ⟨T55, L55, k55, n55⟩, -, X55, ⟨Lc55, hQ55, l55, y55, z55⟩, st55⟩ := X53.virtualBack hx (y := own_y27) (z := own_y27) hown (mvT hZ (own_w hw 65 rfl)) (mvT hZ (own_w hw 66 rfl)) (notFace_of_selects (args := #[]) (mvT hZ (own_w hw 68 rfl))) (mvT hZ (own_w hw 68 rfl)) (mvT hZ (own_w hw 67 rfl)) (by decide) (backOf (W := 0) (own_rm90 l Z a0 hw [] b15 T53.heap n0 (Nat.le_trans Z0 K53.1) f53_0 f53_1) hZ (own_w hw 69 rfl) (own_w hw 28 rfl) (by decide) (by decide)) q55a q55c (g := (mkF m 282 (own_l55 i0 i1 i2 cs sb_13 sb_14 b15 b17) [(.ref b15)])) rfl (by rw [hml]; rfl) (Steps.refl _) (argsL := []) (rest := []) (lenOf own_pd16 rfl) rfl (Nat.le_of_eq rfl) (hb hby at_282) (fun _ _ => ⟨rfl, rfl, (by decide : 7 + 0 ≤ _), (by decide : 27 + 0 ≤ _)⟩)
         dsimp only [Pt.U, Pt.locs, Pt.cells, Pt.slots] at X55 l55 y55 z55 st55 hQ55
         subst l55 y55 z55
         obtain ⟨rfl, N55q, e55⟩ := hQ55
         have N55 := Fr.app N53 N55q
         refine ownE.goS st55 ?_
         refine ownE.go (f' := (mkF m 312 (own_l55 i0 i1 i2 cs sb_13 sb_14 b15 b17) [(.int (1 : Int32))])) (fun t kt => XS.iload X55.here hx rfl (hb hby at_285) rfl (XS.ifNo X55.here hx rfl (hb hby at_287) rfl (Jvm.Free.XT.i0_ne_f (by decide)) (XS.iload X55.here hx rfl (hb hby at_290) rfl (XS.ifNo X55.here hx rfl (hb hby at_292) rfl (Jvm.Free.XT.i0_ne_f (by decide)) (XS.iconst X55.here hx rfl (hb hby at_295) (XS.goto X55.here hx rfl (pc0 := 296) (pc' := 300) rfl (hb hby at_296) (by decide) (by decide) (XS.icmpNo X55.here hx rfl (hb hby at_300) rfl (Jvm.Free.XT.ii_ne_f (by decide)) (XS.iconst X55.here hx rfl (hb hby at_303) (XS.goto X55.here hx rfl (pc0 := 304) (pc' := 308) rfl (hb hby at_304) (by decide) (by decide) (XS.istore X55.here hx rfl (hb hby at_308) rfl (l' := (own_l55 i0 i1 i2 cs sb_13 sb_14 b15 b17)) rfl (XS.iload X55.here hx rfl (hb hby at_310) rfl kt))))))))))) ?_
         refine ownE.retN X55 hx hlk (t := .boolean) hret (by simp) (hb hby at_312) ?_ (by decide) (by decide)
         show own_Q0g Z i0 i1 i2 cs fmt h0 n0 _ T55.heap _
         rw [e55]
         exact ⟨(by rw [own_f0g, if_neg hc20, if_pos hc46, if_neg hc48, if_pos hc54] <;> first | rfl | decide), N55, K53⟩
        · -- pc 250
         refine ownE.go (T' := T53) (f' := (mkF m 253 (own_l55 i0 i1 i2 cs sb_13 sb_14 b15 b17) [])) (fun t kt => XS.ifNo (g := (mkF m 250 (own_l55 i0 i1 i2 cs sb_13 sb_14 b15 b17) [(.int (own_j0g_50_S0 i0 i1 i2 cs))])) X53.here hx rfl (hb hby at_250) rfl (Jvm.Free.XT.i0_eq_f hc54) kt) ?_
         refine ownE.go (f' := (mkF m 257 (own_l55 i0 i1 i2 cs sb_13 sb_14 b15 b17) [(.ref sb_14), (.ref b15)])) (fun t kt => XS.aload X53.here hx rfl (hb hby at_253) rfl rfl (XS.aload X53.here hx rfl (hb hby at_255) rfl rfl kt)) ?_
         obtain ⟨cq56, kq56, q56a, q56b, q56c⟩ := isOf hZ rfl f53_0
         obtain ⟨_, _, ⟨T56, L56, k56, n56⟩, -, X56, ⟨Lc56, hQ56, l56, y56, z56⟩, st56⟩ := X53.virtualBack hx (y := own_y29) (z := own_y29) hown (mvT hZ (own_w hw 157 rfl)) (mvT hZ (own_w hw 158 rfl)) (notFace_of_selects (args := #[]) (mvT hZ (own_w hw 160 rfl))) (mvT hZ (own_w hw 160 rfl)) (mvT hZ (own_w hw 159 rfl)) (by decide) (backOf (W := 0) (own_rm270 l Z a0 hw [] b15 sb_14 T53.heap n0 (Nat.le_trans Z0 K53.1) f53_0 f53_1) hZ (own_w hw 161 rfl) (own_w hw 28 rfl) (by decide) (by decide)) q56a q56c (g := (mkF m 257 (own_l55 i0 i1 i2 cs sb_13 sb_14 b15 b17) [(.ref sb_14), (.ref b15)])) rfl (by rw [hml]; rfl) (Steps.refl _) (argsL := [(.ref sb_14)]) (rest := []) (lenOf own_pd30 rfl) rfl (Nat.le_of_eq rfl) (hb hby at_257) (fun _ _ => ⟨rfl, rfl, (by decide : 7 + 0 ≤ _), (by decide : 27 + 0 ≤ _)⟩)
         dsimp only [Pt.U, Pt.locs, Pt.cells, Pt.slots] at X56 l56 y56 z56 st56 hQ56
         subst l56 y56 z56
         obtain ⟨rfl, N56q, e56⟩ := hQ56
         have N56 := Fr.app N53 N56q
         refine ownE.goS st56 ?_
         refine ownE.go (f' := (mkF m 282 (own_l55 i0 i1 i2 cs sb_13 sb_14 b15 b17) [(.ref b15)])) (fun t kt => XS.pop X56.here hx rfl (hb hby at_260) rfl rfl (XS.iload X56.here hx rfl (hb hby at_261) rfl (XS.ifYes X56.here hx rfl (pc0 := 263) (pc' := 272) rfl (hb hby at_263) rfl (Jvm.Free.XT.i0_eq_t (by decide)) (by decide) (by decide) (XS.iconst X56.here hx rfl (hb hby at_272) (XS.istore X56.here hx rfl (hb hby at_273) rfl (l' := (own_l55 i0 i1 i2 cs sb_13 sb_14 b15 b17)) rfl (XS.iload X56.here hx rfl (hb hby at_275) rfl (XS.ifNo X56.here hx rfl (hb hby at_277) rfl (Jvm.Free.XT.i0_eq_f (by decide)) (XS.aload X56.here hx rfl (hb hby at_280) rfl rfl kt)))))))) ?_
         obtain ⟨cq57, kq57, q57a, q57b, q57c⟩ := isOf hZ e56 f53_0
         obtain ⟨_, _, ⟨T57, L57, k57, n57⟩, -, X57, ⟨Lc57, hQ57, l57, y57, z57⟩, st57⟩ := X56.virtualBack hx (y := own_y27) (z := own_y27) hown (mvT hZ (own_w hw 65 rfl)) (mvT hZ (own_w hw 66 rfl)) (notFace_of_selects (args := #[]) (mvT hZ (own_w hw 68 rfl))) (mvT hZ (own_w hw 68 rfl)) (mvT hZ (own_w hw 67 rfl)) (by decide) (backOf (W := 0) (own_rm90 l Z a0 hw [] b15 T53.heap n0 (Nat.le_trans Z0 K53.1) f53_0 f53_1) hZ (own_w hw 69 rfl) (own_w hw 28 rfl) (by decide) (by decide)) q57a q57c (g := (mkF m 282 (own_l55 i0 i1 i2 cs sb_13 sb_14 b15 b17) [(.ref b15)])) rfl (by rw [hml]; rfl) (Steps.refl _) (argsL := []) (rest := []) (lenOf own_pd16 rfl) rfl (Nat.le_of_eq rfl) (hb hby at_282) (fun _ _ => ⟨rfl, e56, (by decide : 7 + 0 ≤ _), (by decide : 27 + 0 ≤ _)⟩)
         dsimp only [Pt.U, Pt.locs, Pt.cells, Pt.slots] at X57 l57 y57 z57 st57 hQ57
         subst l57 y57 z57
         obtain ⟨rfl, N57q, e57⟩ := hQ57
         have N57 := Fr.app N56 N57q
         refine ownE.goS st57 ?_
         refine ownE.go (f' := (mkF m 312 (own_l55 i0 i1 i2 cs sb_13 sb_14 b15 b17) [(.int (1 : Int32))])) (fun t kt => XS.iload X57.here hx rfl (hb hby at_285) rfl (XS.ifNo X57.here hx rfl (hb hby at_287) rfl (Jvm.Free.XT.i0_ne_f (by decide)) (XS.iload X57.here hx rfl (hb hby at_290) rfl (XS.ifNo X57.here hx rfl (hb hby at_292) rfl (Jvm.Free.XT.i0_ne_f (by decide)) (XS.iconst X57.here hx rfl (hb hby at_295) (XS.goto X57.here hx rfl (pc0 := 296) (pc' := 300) rfl (hb hby at_296) (by decide) (by decide) (XS.icmpNo X57.here hx rfl (hb hby at_300) rfl (Jvm.Free.XT.ii_ne_f (by decide)) (XS.iconst X57.here hx rfl (hb hby at_303) (XS.goto X57.here hx rfl (pc0 := 304) (pc' := 308) rfl (hb hby at_304) (by decide) (by decide) (XS.istore X57.here hx rfl (hb hby at_308) rfl (l' := (own_l55 i0 i1 i2 cs sb_13 sb_14 b15 b17)) rfl (XS.iload X57.here hx rfl (hb hby at_310) rfl kt))))))))))) ?_
         refine ownE.retN X57 hx hlk (t := .boolean) hret (by simp) (hb hby at_312) ?_ (by decide) (by decide)
         show own_Q0g Z i0 i1 i2 cs fmt h0 n0 _ T57.heap _
         rw [e57]
         exact ⟨(by rw [own_f0g, if_neg hc20, if_pos hc46, if_neg hc48, if_neg hc54] <;> first | rfl | decide), N57, K53⟩
      · -- pc 146
       refine ownE.go (T' := T45) (f' := (mkF m 149 (own_l53 i0 i1 i2 cs sb_13 sb_14 b15 b17) [])) (fun t kt => XS.ifNo (g := (mkF m 146 (own_l53 i0 i1 i2 cs sb_13 sb_14 b15 b17) [(.int (own_j0g_23_S0 i0 i1 i2 cs))])) X45.here hx rfl (hb hby at_146) rfl (Jvm.Free.XT.i0_eq_f hc46) kt) ?_
       refine ownE.go (f' := (mkF m 155 (own_l53 i0 i1 i2 cs sb_13 sb_14 b15 b17) [(.ref b17), (.ref sb_14), (.ref b15)])) (fun t kt => XS.aload X45.here hx rfl (hb hby at_149) rfl rfl (XS.aload X45.here hx rfl (hb hby at_151) rfl rfl (XS.aload X45.here hx rfl (hb hby at_153) rfl rfl kt))) ?_
       obtain ⟨cq58, kq58, q58a, q58b, q58c⟩ := isOf hZ rfl f45_1
       obtain ⟨_, _, ⟨T58, L58, k58, n58⟩, -, X58, ⟨Lc58, hQ58, l58, y58, z58⟩, st58⟩ := X45.virtualBack hx (y := own_y28) (z := own_y28) hown (mvT hZ (own_w hw 72 rfl)) (mvT hZ (own_w hw 73 rfl)) (notFace_of_selects (args := #[]) (mvT hZ (own_w hw 75 rfl))) (mvT hZ (own_w hw 75 rfl)) (mvT hZ (own_w hw 74 rfl)) (by decide) (backOf (W := 0) (own_rm10l l Z a0 hw [] b15 sb_14 b17 vb_14 kb_14 ((((i1 &&& (255 : Int32)).toUInt32.toUInt16.toUInt32.toInt32).toInt8.toInt32).toInt8.toInt32) lk_45 sb_13 vb_13 kb_13 ((((i0 &&& (255 : Int32)).toUInt32.toUInt16.toUInt32.toInt32).toInt8.toInt32).toInt8.toInt32) b17 cs fmt T45.heap n0 (Nat.le_trans Z0 K45.1) q893 hcs hcsn zfm hfm zad f45_1 f45_2 ge_b15 ge_lk_45 (Ne.symm ne_b15_lk_45) f45_3 f45_4 f45_5 f45_6 f45_7 f45_8 q898 q900 q899 q901 q894 q896 q895 q897 (by rw [own_xc, own_xc]; exact (fun q => hN q.symm)) (by rw [own_xc, own_xc]; exact (own_gt hN hG))) hZ (own_w hw 76 rfl) (own_w hw 28 rfl) (by decide) (by decide)) q58a q58c (g := (mkF m 155 (own_l53 i0 i1 i2 cs sb_13 sb_14 b15 b17) [(.ref b17), (.ref sb_14), (.ref b15)])) rfl (by rw [hml]; rfl) (Steps.refl _) (argsL := [(.ref sb_14), (.ref b17)]) (rest := []) (lenOf own_pd34 rfl) rfl (Nat.le_of_eq rfl) (hb hby at_155) (fun _ _ => ⟨rfl, rfl, (by decide : 7 + 1 ≤ _), (by decide : 27 + 5 ≤ _)⟩)
       dsimp only [Pt.U, Pt.locs, Pt.cells, Pt.slots] at X58 l58 y58 z58 st58 hQ58
       subst l58 y58 z58
       obtain ⟨nk_58, rfl, N58q, K58q, f58_0, f58_1, f58_2, f58_3, f58_4, f58_5, f58_6, f58_7, f58_8, f58_9, f58_10, f58_11, f58_12, f58_13, f58_14⟩ := hQ58
       have ne_sb_13_nk_58 : sb_13 ≠ nk_58 := Nat.ne_of_lt (Nat.lt_of_lt_of_le q894.lt f58_0)
       have ne_vb_13_nk_58 : vb_13 ≠ nk_58 := Nat.ne_of_lt (Nat.lt_of_lt_of_le q897.lt f58_0)
       have ne_sb_14_nk_58 : sb_14 ≠ nk_58 := Nat.ne_of_lt (Nat.lt_of_lt_of_le q898.lt f58_0)
       have ne_vb_14_nk_58 : vb_14 ≠ nk_58 := Nat.ne_of_lt (Nat.lt_of_lt_of_le q901.lt f58_0)
       have ne_b15_nk_58 : b15 ≠ nk_58 := Nat.ne_of_lt (Nat.lt_of_lt_of_le f45_1.lt f58_0)
       have ne_b17_nk_58 : b17 ≠ nk_58 := Nat.ne_of_lt (Nat.lt_of_lt_of_le q903.lt f58_0)
       have ne_lk_45_nk_58 : lk_45 ≠ nk_58 := Nat.ne_of_lt (Nat.lt_of_lt_of_le f45_3.lt f58_0)
       have q921 := q893.keep K58q (allS ge_b15 (allS ge_lk_45 all0))
       have q922 := q894.keep K58q
       have q923 := q895.keep K58q (ninS ne_sb_13_b15 (ninS ne_sb_13_lk_45 nin0))
       have q924 := q896.keep K58q (ninS ne_sb_13_b15 (ninS ne_sb_13_lk_45 nin0))
       have q925 := q897.keep K58q (ninS ne_vb_13_b15 (ninS ne_vb_13_lk_45 nin0))
       have q926 := q898.keep K58q
       have q927 := q899.keep K58q (ninS ne_sb_14_b15 (ninS ne_sb_14_lk_45 nin0))
       have q928 := q900.keep K58q (ninS ne_sb_14_b15 (ninS ne_sb_14_lk_45 nin0))
       have q929 := q901.keep K58q (ninS ne_vb_14_b15 (ninS ne_vb_14_lk_45 nin0))
       have q930 := f45_1.keep K58q
       have q931 := q903.keep K58q
       have q932 := f45_3.keep K58q
       have K58 : Keep h0 T58.heap [] := K45.trans K58q (allS (Or.inr sz_b15) (allS (Or.inr sz_lk_45) all0))
       have sz_nk_58 : h0.size ≤ nk_58 := Nat.le_trans K45.1 f58_0
       have ge_nk_58 : n0 ≤ nk_58 := Nat.le_trans Z0 sz_nk_58
       have N58 := Fr.app N45 N58q
       refine ownE.goS st58 ?_
       refine ownE.go (f' := (mkF m 204 (own_l59 i0 i1 i2 cs sb_13 sb_14 b15 b17) [(.ref b15)])) (fun t kt => XS.pop X58.here hx rfl (hb hby at_158) rfl rfl (XS.iloadN X58.here hx rfl (hb hby at_159) rfl (XS.ifYes X58.here hx rfl (pc0 := 160) (pc' := 173) rfl (hb hby at_160) rfl (Jvm.Free.XT.i0_ne_t hc20) (by decide) (by decide) (XS.iconst X58.here hx rfl (hb hby at_173) (XS.goto X58.here hx rfl (pc0 := 174) (pc' := 178) rfl (hb hby at_174) (by decide) (by decide) (XS.istore X58.here hx rfl (hb hby at_178) rfl (l' := (own_l57 i0 i1 i2 cs sb_13 sb_14 b15 b17)) rfl (XS.iload X58.here hx rfl (hb hby at_180) rfl (XS.ifNo X58.here hx rfl (hb hby at_182) rfl (Jvm.Free.XT.i0_eq_f hc46) (XS.iload X58.here hx rfl (hb hby at_185) rfl (XS.ifNo X58.here hx rfl (hb hby at_187) rfl (Jvm.Free.XT.i0_ne_f (by decide)) (XS.iconst X58.here hx rfl (hb hby at_190) (XS.goto X58.here hx rfl (pc0 := 191) (pc' := 195) rfl (hb hby at_191) (by decide) (by decide) (XS.istore X58.here hx rfl (hb hby at_195) rfl (l' := (own_l59 i0 i1 i2 cs sb_13 sb_14 b15 b17)) rfl (XS.iload X58.here hx rfl (hb hby at_197) rfl (XS.ifNo X58.here hx rfl (hb hby at_199) rfl (Jvm.Free.XT.i0_eq_f (by decide)) (XS.aload X58.here hx rfl (hb hby at_202) rfl rfl kt)))))))))))))))) ?_
       obtain ⟨cq59, kq59, q59a, q59b, q59c⟩ := isOf hZ rfl f58_1
       obtain ⟨_, _, ⟨T59, L59, k59, n59⟩, -, X59, ⟨Lc59, hQ59, l59, y59, z59⟩, st59⟩ := X58.virtualBack hx (y := own_y27) (z := own_y27) hown (mvT hZ (own_w hw 65 rfl)) (mvT hZ (own_w hw 66 rfl)) (notFace_of_selects (args := #[]) (mvT hZ (own_w hw 68 rfl))) (mvT hZ (own_w hw 68 rfl)) (mvT hZ (own_w hw 67 rfl)) (by decide) (backOf (W := 0) (own_rm91 l Z a0 hw [] b15 lk_45 T58.heap n0 (Nat.le_trans Z0 K58.1) f58_1 f58_2) hZ (own_w hw 69 rfl) (own_w hw 28 rfl) (by decide) (by decide)) q59a q59c (g := (mkF m 204 (own_l59 i0 i1 i2 cs sb_13 sb_14 b15 b17) [(.ref b15)])) rfl (by rw [hml]; rfl) (Steps.refl _) (argsL := []) (rest := []) (lenOf own_pd16 rfl) rfl (Nat.le_of_eq rfl) (hb hby at_204) (fun _ _ => ⟨rfl, rfl, (by decide : 8 + 0 ≤ _), (by decide : 32 + 0 ≤ _)⟩)
       dsimp only [Pt.U, Pt.locs, Pt.cells, Pt.slots] at X59 l59 y59 z59 st59 hQ59
       subst l59 y59 z59
       obtain ⟨rfl, N59q, e59⟩ := hQ59
       have N59 := Fr.app N58 N59q
       refine ownE.goS st59 ?_
       refine ownE.go (f' := (mkF m 234 (own_l59 i0 i1 i2 cs sb_13 sb_14 b15 b17) [(.int (own_j0g_36_S0 i0 i1 i2 cs))])) (fun t kt => XS.iload X59.here hx rfl (hb hby at_207) rfl (XS.ifYes X59.here hx rfl (pc0 := 209) (pc' := 221) rfl (hb hby at_209) rfl (Jvm.Free.XT.i0_ne_t (by decide)) (by decide) (by decide) (XS.iconst X59.here hx rfl (hb hby at_221) (XS.icmpNo X59.here hx rfl (hb hby at_222) rfl (Jvm.Free.XT.ii_ne_f (by decide)) (XS.iconst X59.here hx rfl (hb hby at_225) (XS.goto X59.here hx rfl (pc0 := 226) (pc' := 230) rfl (hb hby at_226) (by decide) (by decide) (XS.istore X59.here hx rfl (hb hby at_230) rfl (l' := (own_l59 i0 i1 i2 cs sb_13 sb_14 b15 b17)) rfl (XS.iload X59.here hx rfl (hb hby at_232) rfl kt)))))))) ?_
       by_cases hc60 : (own_j0g_36_S0 i0 i1 i2 cs) = (0 : Int32)
       · -- pc 234
        refine ownE.go (T' := T59) (f' := (mkF m 248 (own_l59 i0 i1 i2 cs sb_13 sb_14 b15 b17) [])) (fun t kt => XS.ifYes (g := (mkF m 234 (own_l59 i0 i1 i2 cs sb_13 sb_14 b15 b17) [(.int (own_j0g_36_S0 i0 i1 i2 cs))])) X59.here hx rfl (pc0 := 234) (pc' := 248) rfl (hb hby at_234) rfl (Jvm.Free.XT.i0_eq_t hc60) (by decide) (by decide) kt) ?_
        refine ownE.go (f' := (mkF m 250 (own_l59 i0 i1 i2 cs sb_13 sb_14 b15 b17) [(.int (own_j0g_50_S0 i0 i1 i2 cs))])) (fun t kt => XS.iload X59.here hx rfl (hb hby at_248) rfl kt) ?_
        by_cases hc61 : (own_j0g_50_S0 i0 i1 i2 cs) = (0 : Int32)
        · -- pc 250
         refine ownE.go (T' := T59) (f' := (mkF m 275 (own_l59 i0 i1 i2 cs sb_13 sb_14 b15 b17) [])) (fun t kt => XS.ifYes (g := (mkF m 250 (own_l59 i0 i1 i2 cs sb_13 sb_14 b15 b17) [(.int (own_j0g_50_S0 i0 i1 i2 cs))])) X59.here hx rfl (pc0 := 250) (pc' := 275) rfl (hb hby at_250) rfl (Jvm.Free.XT.i0_eq_t hc61) (by decide) (by decide) kt) ?_
         refine ownE.go (f' := (mkF m 282 (own_l59 i0 i1 i2 cs sb_13 sb_14 b15 b17) [(.ref b15)])) (fun t kt => XS.iload X59.here hx rfl (hb hby at_275) rfl (XS.ifNo X59.here hx rfl (hb hby at_277) rfl (Jvm.Free.XT.i0_eq_f (by decide)) (XS.aload X59.here hx rfl (hb hby at_280) rfl rfl kt))) ?_
         obtain ⟨cq62, kq62, q62a, q62b, q62c⟩ := isOf hZ e59 f58_1
         obtain ⟨_, _, ⟨T62, L62, k62, n62⟩, -, X62, ⟨Lc62, hQ62, l62, y62, z62⟩, st62⟩ := X59.virtualBack hx (y := own_y27) (z := own_y27) hown (mvT hZ (own_w hw 65 rfl)) (mvT hZ (own_w hw 66 rfl)) (notFace_of_selects (args := #[]) (mvT hZ (own_w hw 68 rfl))) (mvT hZ (own_w hw 68 rfl)) (mvT hZ (own_w hw 67 rfl)) (by decide) (backOf (W := 0) (own_rm91 l Z a0 hw [] b15 lk_45 T58.heap n0 (Nat.le_trans Z0 K58.1) f58_1 f58_2) hZ (own_w hw 69 rfl) (own_w hw 28 rfl) (by decide) (by decide)) q62a q62c (g := (mkF m 282 (own_l59 i0 i1 i2 cs sb_13 sb_14 b15 b17) [(.ref b15)])) rfl (by rw [hml]; rfl) (Steps.refl _) (argsL := []) (rest := []) (lenOf own_pd16 rfl) rfl (Nat.le_of_eq rfl) (hb hby at_282) (fun _ _ => ⟨rfl, e59, (by decide : 8 + 0 ≤ _), (by decide : 32 + 0 ≤ _)⟩)
         dsimp only [Pt.U, Pt.locs, Pt.cells, Pt.slots] at X62 l62 y62 z62 st62 hQ62
         subst l62 y62 z62
         obtain ⟨rfl, N62q, e62⟩ := hQ62
         have N62 := Fr.app N59 N62q
         refine ownE.goS st62 ?_
         refine ownE.go (f' := (mkF m 312 (own_l59 i0 i1 i2 cs sb_13 sb_14 b15 b17) [(.int (1 : Int32))])) (fun t kt => XS.iload X62.here hx rfl (hb hby at_285) rfl (XS.ifYes X62.here hx rfl (pc0 := 287) (pc' := 299) rfl (hb hby at_287) rfl (Jvm.Free.XT.i0_ne_t (by decide)) (by decide) (by decide) (XS.iconst X62.here hx rfl (hb hby at_299) (XS.icmpNo X62.here hx rfl (hb hby at_300) rfl (Jvm.Free.XT.ii_ne_f (by decide)) (XS.iconst X62.here hx rfl (hb hby at_303) (XS.goto X62.here hx rfl (pc0 := 304) (pc' := 308) rfl (hb hby at_304) (by decide) (by decide) (XS.istore X62.here hx rfl (hb hby at_308) rfl (l' := (own_l59 i0 i1 i2 cs sb_13 sb_14 b15 b17)) rfl (XS.iload X62.here hx rfl (hb hby at_310) rfl kt)))))))) ?_
         refine ownE.retN X62 hx hlk (t := .boolean) hret (by simp) (hb hby at_312) ?_ (by decide) (by decide)
         show own_Q0g Z i0 i1 i2 cs fmt h0 n0 _ T62.heap _
         rw [e62]
         exact ⟨(by rw [own_f0g, if_neg hc20, if_neg hc46, if_pos hc60, if_pos hc61] <;> first | rfl | decide), N62, K58⟩
        · -- pc 250
         refine ownE.go (T' := T59) (f' := (mkF m 253 (own_l59 i0 i1 i2 cs sb_13 sb_14 b15 b17) [])) (fun t kt => XS.ifNo (g := (mkF m 250 (own_l59 i0 i1 i2 cs sb_13 sb_14 b15 b17) [(.int (own_j0g_50_S0 i0 i1 i2 cs))])) X59.here hx rfl (hb hby at_250) rfl (Jvm.Free.XT.i0_eq_f hc61) kt) ?_
         refine ownE.go (f' := (mkF m 257 (own_l59 i0 i1 i2 cs sb_13 sb_14 b15 b17) [(.ref sb_14), (.ref b15)])) (fun t kt => XS.aload X59.here hx rfl (hb hby at_253) rfl rfl (XS.aload X59.here hx rfl (hb hby at_255) rfl rfl kt)) ?_
         obtain ⟨cq63, kq63, q63a, q63b, q63c⟩ := isOf hZ e59 f58_1
         obtain ⟨_, _, ⟨T63, L63, k63, n63⟩, -, X63, ⟨Lc63, hQ63, l63, y63, z63⟩, st63⟩ := X59.virtualBack hx (y := own_y29) (z := own_y29) hown (mvT hZ (own_w hw 157 rfl)) (mvT hZ (own_w hw 158 rfl)) (notFace_of_selects (args := #[]) (mvT hZ (own_w hw 160 rfl))) (mvT hZ (own_w hw 160 rfl)) (mvT hZ (own_w hw 159 rfl)) (by decide) (backOf (W := 0) (own_rm272cl l Z a0 hw [] b15 sb_14 vb_14 kb_14 ((((i1 &&& (255 : Int32)).toUInt32.toUInt16.toUInt32.toInt32).toInt8.toInt32).toInt8.toInt32) lk_45 sb_13 vb_13 kb_13 ((((i0 &&& (255 : Int32)).toUInt32.toUInt16.toUInt32.toInt32).toInt8.toInt32).toInt8.toInt32) nk_58 sb_14 vb_14 kb_14 ((((i1 &&& (255 : Int32)).toUInt32.toUInt16.toUInt32.toInt32).toInt8.toInt32).toInt8.toInt32) b17 b17 cs fmt T58.heap n0 (Nat.le_trans Z0 K58.1) q921 hcs hcsn zfm hfm zad f58_1 f58_2 ge_b15 ge_lk_45 (Ne.symm ne_b15_lk_45) f58_3 f58_4 f58_5 f58_6 f58_7 f58_8 (Ne.symm ne_lk_45_nk_58) f58_10 f58_11 f58_12 f58_13 q926 q928 q927 q929 q922 q924 q923 q925 q926 q928 q927 q929 (by rw [own_xc, own_xc]; exact (fun q => hN q.symm)) (by rw [own_xc, own_xc]; exact (own_gt hN hG)) rfl) hZ (own_w hw 161 rfl) (own_w hw 28 rfl) (by decide) (by decide)) q63a q63c (g := (mkF m 257 (own_l59 i0 i1 i2 cs sb_13 sb_14 b15 b17) [(.ref sb_14), (.ref b15)])) rfl (by rw [hml]; rfl) (Steps.refl _) (argsL := [(.ref sb_14)]) (rest := []) (lenOf own_pd30 rfl) rfl (Nat.le_of_eq rfl) (hb hby at_257) (fun _ _ => ⟨rfl, e59, (by decide : 8 + 0 ≤ _), (by decide : 32 + 0 ≤ _)⟩)
         dsimp only [Pt.U, Pt.locs, Pt.cells, Pt.slots] at X63 l63 y63 z63 st63 hQ63
         subst l63 y63 z63
         obtain ⟨rfl, N63q, K63q, f63_0, f63_1, f63_2, f63_3, f63_4, f63_5, f63_6, f63_7⟩ := hQ63
         have q933 := q921.keep K63q (allS ge_b15 (allS ge_lk_45 all0))
         have q934 := q922.keep K63q
         have q935 := q923.keep K63q (ninS ne_sb_13_b15 (ninS ne_sb_13_lk_45 nin0))
         have q936 := q924.keep K63q (ninS ne_sb_13_b15 (ninS ne_sb_13_lk_45 nin0))
         have q937 := q925.keep K63q (ninS ne_vb_13_b15 (ninS ne_vb_13_lk_45 nin0))
         have q938 := q926.keep K63q
         have q939 := q927.keep K63q (ninS ne_sb_14_b15 (ninS ne_sb_14_lk_45 nin0))
         have q940 := q928.keep K63q (ninS ne_sb_14_b15 (ninS ne_sb_14_lk_45 nin0))
         have q941 := q929.keep K63q (ninS ne_vb_14_b15 (ninS ne_vb_14_lk_45 nin0))
         have q942 := f58_1.keep K63q
         have q943 := q931.keep K63q
         have q944 := f58_3.keep K63q
         have q945 := f58_9.keep K63q
         have q946 := f58_10.keep K63q (ninS (Ne.symm ne_b15_nk_58) (ninS (Ne.symm ne_lk_45_nk_58) nin0))
         have q947 := f58_11.keep K63q (ninS (Ne.symm ne_b15_nk_58) (ninS (Ne.symm ne_lk_45_nk_58) nin0))
         have q948 := f58_12.keep K63q (ninS (Ne.symm ne_b15_nk_58) (ninS (Ne.symm ne_lk_45_nk_58) nin0))
         have q949 := f58_13.keep K63q (ninS (Ne.symm ne_b15_nk_58) (ninS (Ne.symm ne_lk_45_nk_58) nin0))
         have q950 := f58_14.keep K63q (ninS (Ne.symm ne_b15_nk_58) (ninS (Ne.symm ne_lk_45_nk_58) nin0))
         have K63 : Keep h0 T63.heap [] := K58.trans K63q (allS (Or.inr sz_b15) (allS (Or.inr sz_lk_45) all0))
         have N63 := Fr.app N59 N63q
         refine ownE.goS st63 ?_
         refine ownE.go (f' := (mkF m 282 (own_l58 i0 i1 i2 cs sb_13 sb_14 b15 b17) [(.ref b15)])) (fun t kt => XS.pop X63.here hx rfl (hb hby at_260) rfl rfl (XS.iload X63.here hx rfl (hb hby at_261) rfl (XS.ifYes X63.here hx rfl (pc0 := 263) (pc' := 272) rfl (hb hby at_263) rfl (Jvm.Free.XT.i0_eq_t (by decide)) (by decide) (by decide) (XS.iconst X63.here hx rfl (hb hby at_272) (XS.istore X63.here hx rfl (hb hby at_273) rfl (l' := (own_l58 i0 i1 i2 cs sb_13 sb_14 b15 b17)) rfl (XS.iload X63.here hx rfl (hb hby at_275) rfl (XS.ifNo X63.here hx rfl (hb hby at_277) rfl (Jvm.Free.XT.i0_eq_f (by decide)) (XS.aload X63.here hx rfl (hb hby at_280) rfl rfl kt)))))))) ?_
         obtain ⟨cq64, kq64, q64a, q64b, q64c⟩ := isOf hZ rfl f63_0
         obtain ⟨_, _, ⟨T64, L64, k64, n64⟩, -, X64, ⟨Lc64, hQ64, l64, y64, z64⟩, st64⟩ := X63.virtualBack hx (y := own_y27) (z := own_y27) hown (mvT hZ (own_w hw 65 rfl)) (mvT hZ (own_w hw 66 rfl)) (notFace_of_selects (args := #[]) (mvT hZ (own_w hw 68 rfl))) (mvT hZ (own_w hw 68 rfl)) (mvT hZ (own_w hw 67 rfl)) (by decide) (backOf (W := 0) (own_rm91 l Z a0 hw [] b15 lk_45 T63.heap n0 (Nat.le_trans Z0 K63.1) f63_0 f63_1) hZ (own_w hw 69 rfl) (own_w hw 28 rfl) (by decide) (by decide)) q64a q64c (g := (mkF m 282 (own_l58 i0 i1 i2 cs sb_13 sb_14 b15 b17) [(.ref b15)])) rfl (by rw [hml]; rfl) (Steps.refl _) (argsL := []) (rest := []) (lenOf own_pd16 rfl) rfl (Nat.le_of_eq rfl) (hb hby at_282) (fun _ _ => ⟨rfl, rfl, (by decide : 8 + 0 ≤ _), (by decide : 32 + 0 ≤ _)⟩)
         dsimp only [Pt.U, Pt.locs, Pt.cells, Pt.slots] at X64 l64 y64 z64 st64 hQ64
         subst l64 y64 z64
         obtain ⟨rfl, N64q, e64⟩ := hQ64
         have N64 := Fr.app N63 N64q
         refine ownE.goS st64 ?_
         refine ownE.go (f' := (mkF m 312 (own_l58 i0 i1 i2 cs sb_13 sb_14 b15 b17) [(.int (1 : Int32))])) (fun t kt => XS.iload X64.here hx rfl (hb hby at_285) rfl (XS.ifYes X64.here hx rfl (pc0 := 287) (pc' := 299) rfl (hb hby at_287) rfl (Jvm.Free.XT.i0_ne_t (by decide)) (by decide) (by decide) (XS.iconst X64.here hx rfl (hb hby at_299) (XS.icmpNo X64.here hx rfl (hb hby at_300) rfl (Jvm.Free.XT.ii_ne_f (by decide)) (XS.iconst X64.here hx rfl (hb hby at_303) (XS.goto X64.here hx rfl (pc0 := 304) (pc' := 308) rfl (hb hby at_304) (by decide) (by decide) (XS.istore X64.here hx rfl (hb hby at_308) rfl (l' := (own_l58 i0 i1 i2 cs sb_13 sb_14 b15 b17)) rfl (XS.iload X64.here hx rfl (hb hby at_310) rfl kt)))))))) ?_
         refine ownE.retN X64 hx hlk (t := .boolean) hret (by simp) (hb hby at_312) ?_ (by decide) (by decide)
         show own_Q0g Z i0 i1 i2 cs fmt h0 n0 _ T64.heap _
         rw [e64]
         exact ⟨(by rw [own_f0g, if_neg hc20, if_neg hc46, if_pos hc60, if_neg hc61] <;> first | rfl | decide), N64, K63⟩
       · -- pc 234
        refine ownE.go (T' := T59) (f' := (mkF m 237 (own_l59 i0 i1 i2 cs sb_13 sb_14 b15 b17) [])) (fun t kt => XS.ifNo (g := (mkF m 234 (own_l59 i0 i1 i2 cs sb_13 sb_14 b15 b17) [(.int (own_j0g_36_S0 i0 i1 i2 cs))])) X59.here hx rfl (hb hby at_234) rfl (Jvm.Free.XT.i0_eq_f hc60) kt) ?_
        refine ownE.go (f' := (mkF m 241 (own_l59 i0 i1 i2 cs sb_13 sb_14 b15 b17) [(.ref sb_13), (.ref b15)])) (fun t kt => XS.aload X59.here hx rfl (hb hby at_237) rfl rfl (XS.aload X59.here hx rfl (hb hby at_239) rfl rfl kt)) ?_
        obtain ⟨cq65, kq65, q65a, q65b, q65c⟩ := isOf hZ e59 f58_1
        obtain ⟨_, _, ⟨T65, L65, k65, n65⟩, -, X65, ⟨Lc65, hQ65, l65, y65, z65⟩, st65⟩ := X59.virtualBack hx (y := own_y29) (z := own_y29) hown (mvT hZ (own_w hw 157 rfl)) (mvT hZ (own_w hw 158 rfl)) (notFace_of_selects (args := #[]) (mvT hZ (own_w hw 160 rfl))) (mvT hZ (own_w hw 160 rfl)) (mvT hZ (own_w hw 159 rfl)) (by decide) (backOf (W := 0) (own_rm272rl l Z a0 hw [] b15 sb_13 vb_13 kb_13 ((((i0 &&& (255 : Int32)).toUInt32.toUInt16.toUInt32.toInt32).toInt8.toInt32).toInt8.toInt32) lk_45 sb_13 vb_13 kb_13 ((((i0 &&& (255 : Int32)).toUInt32.toUInt16.toUInt32.toInt32).toInt8.toInt32).toInt8.toInt32) b17 nk_58 cs fmt T58.heap n0 (Nat.le_trans Z0 K58.1) q921 hcs hcsn zfm hfm f58_1 f58_2 ge_b15 f58_4 f58_5 f58_6 f58_7 q922 q924 q923 q925 q922 q924 q923 q925 rfl) hZ (own_w hw 161 rfl) (own_w hw 28 rfl) (by decide) (by decide)) q65a q65c (g := (mkF m 241 (own_l59 i0 i1 i2 cs sb_13 sb_14 b15 b17) [(.ref sb_13), (.ref b15)])) rfl (by rw [hml]; rfl) (Steps.refl _) (argsL := [(.ref sb_13)]) (rest := []) (lenOf own_pd30 rfl) rfl (Nat.le_of_eq rfl) (hb hby at_241) (fun _ _ => ⟨rfl, e59, (by decide : 8 + 0 ≤ _), (by decide : 32 + 0 ≤ _)⟩)
        dsimp only [Pt.U, Pt.locs, Pt.cells, Pt.slots] at X65 l65 y65 z65 st65 hQ65
        subst l65 y65 z65
        obtain ⟨rfl, N65q, K65q, f65_0, f65_1⟩ := hQ65
        have q951 := q921.keep K65q (allS ge_b15 all0)
        have q952 := q922.keep K65q
        have q953 := q923.keep K65q (ninS ne_sb_13_b15 nin0)
        have q954 := q924.keep K65q (ninS ne_sb_13_b15 nin0)
        have q955 := q925.keep K65q (ninS ne_vb_13_b15 nin0)
        have q956 := q926.keep K65q
        have q957 := q927.keep K65q (ninS ne_sb_14_b15 nin0)
        have q958 := q928.keep K65q (ninS ne_sb_14_b15 nin0)
        have q959 := q929.keep K65q (ninS ne_vb_14_b15 nin0)
        have q960 := f58_1.keep K65q
        have q961 := q931.keep K65q
        have q962 := f58_3.keep K65q
        have q963 := f58_4.keep K65q (ninS (Ne.symm ne_b15_lk_45) nin0)
        have q964 := f58_5.keep K65q (ninS (Ne.symm ne_b15_lk_45) nin0)
        have q965 := f58_6.keep K65q (ninS (Ne.symm ne_b15_lk_45) nin0)
        have q966 := f58_7.keep K65q (ninS (Ne.symm ne_b15_lk_45) nin0)
        have q967 := f58_8.keep K65q (ninS (Ne.symm ne_b15_lk_45) nin0)
        have q968 := f58_9.keep K65q
        have q969 := f58_10.keep K65q (ninS (Ne.symm ne_b15_nk_58) nin0)
        have q970 := f58_11.keep K65q (ninS (Ne.symm ne_b15_nk_58) nin0)
        have q971 := f58_12.keep K65q (ninS (Ne.symm ne_b15_nk_58) nin0)
        have q972 := f58_13.keep K65q (ninS (Ne.symm ne_b15_nk_58) nin0)
        have q973 := f58_14.keep K65q (ninS (Ne.symm ne_b15_nk_58) nin0)
        have K65 : Keep h0 T65.heap [] := K58.trans K65q (allS (Or.inr sz_b15) all0)
        have N65 := Fr.app N59 N65q
        refine ownE.goS st65 ?_
        refine ownE.go (f' := (mkF m 250 (own_l56 i0 i1 i2 cs sb_13 sb_14 b15 b17) [(.int (own_j0g_50_S0 i0 i1 i2 cs))])) (fun t kt => XS.pop X65.here hx rfl (hb hby at_244) rfl rfl (XS.iconst X65.here hx rfl (hb hby at_245) (XS.istore X65.here hx rfl (hb hby at_246) rfl (l' := (own_l56 i0 i1 i2 cs sb_13 sb_14 b15 b17)) rfl (XS.iload X65.here hx rfl (hb hby at_248) rfl kt)))) ?_
        by_cases hc66 : (own_j0g_50_S0 i0 i1 i2 cs) = (0 : Int32)
        · -- pc 250
         refine ownE.go (T' := T65) (f' := (mkF m 275 (own_l56 i0 i1 i2 cs sb_13 sb_14 b15 b17) [])) (fun t kt => XS.ifYes (g := (mkF m 250 (own_l56 i0 i1 i2 cs sb_13 sb_14 b15 b17) [(.int (own_j0g_50_S0 i0 i1 i2 cs))])) X65.here hx rfl (pc0 := 250) (pc' := 275) rfl (hb hby at_250) rfl (Jvm.Free.XT.i0_eq_t hc66) (by decide) (by decide) kt) ?_
         refine ownE.go (f' := (mkF m 282 (own_l56 i0 i1 i2 cs sb_13 sb_14 b15 b17) [(.ref b15)])) (fun t kt => XS.iload X65.here hx rfl (hb hby at_275) rfl (XS.ifNo X65.here hx rfl (hb hby at_277) rfl (Jvm.Free.XT.i0_eq_f (by decide)) (XS.aload X65.here hx rfl (hb hby at_280) rfl rfl kt))) ?_
         obtain ⟨cq67, kq67, q67a, q67b, q67c⟩ := isOf hZ rfl f65_0
         obtain ⟨_, _, ⟨T67, L67, k67, n67⟩, -, X67, ⟨Lc67, hQ67, l67, y67, z67⟩, st67⟩ := X65.virtualBack hx (y := own_y27) (z := own_y27) hown (mvT hZ (own_w hw 65 rfl)) (mvT hZ (own_w hw 66 rfl)) (notFace_of_selects (args := #[]) (mvT hZ (own_w hw 68 rfl))) (mvT hZ (own_w hw 68 rfl)) (mvT hZ (own_w hw 67 rfl)) (by decide) (backOf (W := 0) (own_rm91 l Z a0 hw [] b15 nk_58 T65.heap n0 (Nat.le_trans Z0 K65.1) f65_0 f65_1) hZ (own_w hw 69 rfl) (own_w hw 28 rfl) (by decide) (by decide)) q67a q67c (g := (mkF m 282 (own_l56 i0 i1 i2 cs sb_13 sb_14 b15 b17) [(.ref b15)])) rfl (by rw [hml]; rfl) (Steps.refl _) (argsL := []) (rest := []) (lenOf own_pd16 rfl) rfl (Nat.le_of_eq rfl) (hb hby at_282) (fun _ _ => ⟨rfl, rfl, (by decide : 8 + 0 ≤ _), (by decide : 32 + 0 ≤ _)⟩)
         dsimp only [Pt.U, Pt.locs, Pt.cells, Pt.slots] at X67 l67 y67 z67 st67 hQ67
         subst l67 y67 z67
         obtain ⟨rfl, N67q, e67⟩ := hQ67
         have N67 := Fr.app N65 N67q
         refine ownE.goS st67 ?_
         refine ownE.go (f' := (mkF m 312 (own_l56 i0 i1 i2 cs sb_13 sb_14 b15 b17) [(.int (1 : Int32))])) (fun t kt => XS.iload X67.here hx rfl (hb hby at_285) rfl (XS.ifNo X67.here hx rfl (hb hby at_287) rfl (Jvm.Free.XT.i0_ne_f (by decide)) (XS.iload X67.here hx rfl (hb hby at_290) rfl (XS.ifYes X67.here hx rfl (pc0 := 292) (pc' := 299) rfl (hb hby at_292) rfl (Jvm.Free.XT.i0_ne_t (by decide)) (by decide) (by decide) (XS.iconst X67.here hx rfl (hb hby at_299) (XS.icmpNo X67.here hx rfl (hb hby at_300) rfl (Jvm.Free.XT.ii_ne_f (by decide)) (XS.iconst X67.here hx rfl (hb hby at_303) (XS.goto X67.here hx rfl (pc0 := 304) (pc' := 308) rfl (hb hby at_304) (by decide) (by decide) (XS.istore X67.here hx rfl (hb hby at_308) rfl (l' := (own_l56 i0 i1 i2 cs sb_13 sb_14 b15 b17)) rfl (XS.iload X67.here hx rfl (hb hby at_310) rfl kt)))))))))) ?_
         refine ownE.retN X67 hx hlk (t := .boolean) hret (by simp) (hb hby at_312) ?_ (by decide) (by decide)
         show own_Q0g Z i0 i1 i2 cs fmt h0 n0 _ T67.heap _
         rw [e67]
         exact ⟨(by rw [own_f0g, if_neg hc20, if_neg hc46, if_neg hc60, if_pos hc66] <;> first | rfl | decide), N67, K65⟩
        · -- pc 250
         refine ownE.go (T' := T65) (f' := (mkF m 253 (own_l56 i0 i1 i2 cs sb_13 sb_14 b15 b17) [])) (fun t kt => XS.ifNo (g := (mkF m 250 (own_l56 i0 i1 i2 cs sb_13 sb_14 b15 b17) [(.int (own_j0g_50_S0 i0 i1 i2 cs))])) X65.here hx rfl (hb hby at_250) rfl (Jvm.Free.XT.i0_eq_f hc66) kt) ?_
         refine ownE.go (f' := (mkF m 257 (own_l56 i0 i1 i2 cs sb_13 sb_14 b15 b17) [(.ref sb_14), (.ref b15)])) (fun t kt => XS.aload X65.here hx rfl (hb hby at_253) rfl rfl (XS.aload X65.here hx rfl (hb hby at_255) rfl rfl kt)) ?_
         obtain ⟨cq68, kq68, q68a, q68b, q68c⟩ := isOf hZ rfl f65_0
         obtain ⟨_, _, ⟨T68, L68, k68, n68⟩, -, X68, ⟨Lc68, hQ68, l68, y68, z68⟩, st68⟩ := X65.virtualBack hx (y := own_y29) (z := own_y29) hown (mvT hZ (own_w hw 157 rfl)) (mvT hZ (own_w hw 158 rfl)) (notFace_of_selects (args := #[]) (mvT hZ (own_w hw 160 rfl))) (mvT hZ (own_w hw 160 rfl)) (mvT hZ (own_w hw 159 rfl)) (by decide) (backOf (W := 0) (own_rm271e l Z a0 hw [] b15 sb_14 vb_14 kb_14 ((((i1 &&& (255 : Int32)).toUInt32.toUInt16.toUInt32.toInt32).toInt8.toInt32).toInt8.toInt32) nk_58 sb_14 vb_14 kb_14 ((((i1 &&& (255 : Int32)).toUInt32.toUInt16.toUInt32.toInt32).toInt8.toInt32).toInt8.toInt32) b17 cs fmt T65.heap n0 (Nat.le_trans Z0 K65.1) q951 hcs hcsn zfm hfm f65_0 f65_1 ge_b15 q969 q970 q971 q972 q956 q958 q957 q959 q956 q958 q957 q959 rfl) hZ (own_w hw 161 rfl) (own_w hw 28 rfl) (by decide) (by decide)) q68a q68c (g := (mkF m 257 (own_l56 i0 i1 i2 cs sb_13 sb_14 b15 b17) [(.ref sb_14), (.ref b15)])) rfl (by rw [hml]; rfl) (Steps.refl _) (argsL := [(.ref sb_14)]) (rest := []) (lenOf own_pd30 rfl) rfl (Nat.le_of_eq rfl) (hb hby at_257) (fun _ _ => ⟨rfl, rfl, (by decide : 8 + 0 ≤ _), (by decide : 32 + 0 ≤ _)⟩)
         dsimp only [Pt.U, Pt.locs, Pt.cells, Pt.slots] at X68 l68 y68 z68 st68 hQ68
         subst l68 y68 z68
         obtain ⟨rfl, N68q, K68q, f68_0, f68_1⟩ := hQ68
         have q974 := q951.keep K68q (allS ge_b15 all0)
         have q975 := q952.keep K68q
         have q976 := q953.keep K68q (ninS ne_sb_13_b15 nin0)
         have q977 := q954.keep K68q (ninS ne_sb_13_b15 nin0)
         have q978 := q955.keep K68q (ninS ne_vb_13_b15 nin0)
         have q979 := q956.keep K68q
         have q980 := q957.keep K68q (ninS ne_sb_14_b15 nin0)
         have q981 := q958.keep K68q (ninS ne_sb_14_b15 nin0)
         have q982 := q959.keep K68q (ninS ne_vb_14_b15 nin0)
         have q983 := f65_0.keep K68q
         have q984 := q961.keep K68q
         have q985 := q962.keep K68q
         have q986 := q963.keep K68q (ninS (Ne.symm ne_b15_lk_45) nin0)
         have q987 := q964.keep K68q (ninS (Ne.symm ne_b15_lk_45) nin0)
         have q988 := q965.keep K68q (ninS (Ne.symm ne_b15_lk_45) nin0)
         have q989 := q966.keep K68q (ninS (Ne.symm ne_b15_lk_45) nin0)
         have q990 := q967.keep K68q (ninS (Ne.symm ne_b15_lk_45) nin0)
         have q991 := q968.keep K68q
         have q992 := q969.keep K68q (ninS (Ne.symm ne_b15_nk_58) nin0)
         have q993 := q970.keep K68q (ninS (Ne.symm ne_b15_nk_58) nin0)
         have q994 := q971.keep K68q (ninS (Ne.symm ne_b15_nk_58) nin0)
         have q995 := q972.keep K68q (ninS (Ne.symm ne_b15_nk_58) nin0)
         have q996 := q973.keep K68q (ninS (Ne.symm ne_b15_nk_58) nin0)
         have K68 : Keep h0 T68.heap [] := K65.trans K68q (allS (Or.inr sz_b15) all0)
         have N68 := Fr.app N65 N68q
         refine ownE.goS st68 ?_
         refine ownE.go (f' := (mkF m 282 (own_l55 i0 i1 i2 cs sb_13 sb_14 b15 b17) [(.ref b15)])) (fun t kt => XS.pop X68.here hx rfl (hb hby at_260) rfl rfl (XS.iload X68.here hx rfl (hb hby at_261) rfl (XS.ifYes X68.here hx rfl (pc0 := 263) (pc' := 272) rfl (hb hby at_263) rfl (Jvm.Free.XT.i0_eq_t (by decide)) (by decide) (by decide) (XS.iconst X68.here hx rfl (hb hby at_272) (XS.istore X68.here hx rfl (hb hby at_273) rfl (l' := (own_l55 i0 i1 i2 cs sb_13 sb_14 b15 b17)) rfl (XS.iload X68.here hx rfl (hb hby at_275) rfl (XS.ifNo X68.here hx rfl (hb hby at_277) rfl (Jvm.Free.XT.i0_eq_f (by decide)) (XS.aload X68.here hx rfl (hb hby at_280) rfl rfl kt)))))))) ?_
         obtain ⟨cq69, kq69, q69a, q69b, q69c⟩ := isOf hZ rfl f68_0
         obtain ⟨_, _, ⟨T69, L69, k69, n69⟩, -, X69, ⟨Lc69, hQ69, l69, y69, z69⟩, st69⟩ := X68.virtualBack hx (y := own_y27) (z := own_y27) hown (mvT hZ (own_w hw 65 rfl)) (mvT hZ (own_w hw 66 rfl)) (notFace_of_selects (args := #[]) (mvT hZ (own_w hw 68 rfl))) (mvT hZ (own_w hw 68 rfl)) (mvT hZ (own_w hw 67 rfl)) (by decide) (backOf (W := 0) (own_rm90 l Z a0 hw [] b15 T68.heap n0 (Nat.le_trans Z0 K68.1) f68_0 f68_1) hZ (own_w hw 69 rfl) (own_w hw 28 rfl) (by decide) (by decide)) q69a q69c (g := (mkF m 282 (own_l55 i0 i1 i2 cs sb_13 sb_14 b15 b17) [(.ref b15)])) rfl (by rw [hml]; rfl) (Steps.refl _) (argsL := []) (rest := []) (lenOf own_pd16 rfl) rfl (Nat.le_of_eq rfl) (hb hby at_282) (fun _ _ => ⟨rfl, rfl, (by decide : 8 + 0 ≤ _), (by decide : 32 + 0 ≤ _)⟩)
         dsimp only [Pt.U, Pt.locs, Pt.cells, Pt.slots] at X69 l69 y69 z69 st69 hQ69
         subst l69 y69 z69
         obtain ⟨rfl, N69q, e69⟩ := hQ69
         have N69 := Fr.app N68 N69q
         refine ownE.goS st69 ?_
         refine ownE.go (f' := (mkF m 312 (own_l55 i0 i1 i2 cs sb_13 sb_14 b15 b17) [(.int (1 : Int32))])) (fun t kt => XS.iload X69.here hx rfl (hb hby at_285) rfl (XS.ifNo X69.here hx rfl (hb hby at_287) rfl (Jvm.Free.XT.i0_ne_f (by decide)) (XS.iload X69.here hx rfl (hb hby at_290) rfl (XS.ifNo X69.here hx rfl (hb hby at_292) rfl (Jvm.Free.XT.i0_ne_f (by decide)) (XS.iconst X69.here hx rfl (hb hby at_295) (XS.goto X69.here hx rfl (pc0 := 296) (pc' := 300) rfl (hb hby at_296) (by decide) (by decide) (XS.icmpNo X69.here hx rfl (hb hby at_300) rfl (Jvm.Free.XT.ii_ne_f (by decide)) (XS.iconst X69.here hx rfl (hb hby at_303) (XS.goto X69.here hx rfl (pc0 := 304) (pc' := 308) rfl (hb hby at_304) (by decide) (by decide) (XS.istore X69.here hx rfl (hb hby at_308) rfl (l' := (own_l55 i0 i1 i2 cs sb_13 sb_14 b15 b17)) rfl (XS.iload X69.here hx rfl (hb hby at_310) rfl kt))))))))))) ?_
         refine ownE.retN X69 hx hlk (t := .boolean) hret (by simp) (hb hby at_312) ?_ (by decide) (by decide)
         show own_Q0g Z i0 i1 i2 cs fmt h0 n0 _ T69.heap _
         rw [e69]
         exact ⟨(by rw [own_f0g, if_neg hc20, if_neg hc46, if_neg hc60, if_neg hc66] <;> first | rfl | decide), N69, K68⟩
    by_cases hc11 : (i2 &&& (8 : Int32)) = (0 : Int32)
    · -- pc 42
     refine ownE.go (T' := TJ9) (f' := (mkF m 49 (own_l44 i0 i1 i2 cs) [])) (fun t kt => XS.ifYes (g := (mkF m 42 (own_l44 i0 i1 i2 cs) [(.int (i2 &&& (8 : Int32)))])) XJ9.here hx rfl (pc0 := 42) (pc' := 49) rfl (hb hby at_42) rfl (Jvm.Free.XT.i0_eq_t hc11) (by decide) (by decide) kt) ?_
     refine ownE.go (f' := (mkF m 50 (own_l44 i0 i1 i2 cs) [(.int (0 : Int32))])) (fun t kt => XS.iconst XJ9.here hx rfl (hb hby at_49) kt) ?_
     have jj := J12 _ _ XJ9 eJ9 NJ9
     rw [show (own_j0g_50_S0 i0 i1 i2 cs) = (0 : Int32) from by rw [own_j0g_50_S0, if_pos hc11]] at jj
     exact jj
    · -- pc 42
     refine ownE.go (T' := TJ9) (f' := (mkF m 45 (own_l44 i0 i1 i2 cs) [])) (fun t kt => XS.ifNo (g := (mkF m 42 (own_l44 i0 i1 i2 cs) [(.int (i2 &&& (8 : Int32)))])) XJ9.here hx rfl (hb hby at_42) rfl (Jvm.Free.XT.i0_eq_f hc11) kt) ?_
     refine ownE.go (f' := (mkF m 50 (own_l44 i0 i1 i2 cs) [(.int (1 : Int32))])) (fun t kt => XS.iconst XJ9.here hx rfl (hb hby at_45) (XS.goto XJ9.here hx rfl (pc0 := 46) (pc' := 50) rfl (hb hby at_46) (by decide) (by decide) kt)) ?_
     have jj := J12 _ _ XJ9 eJ9 NJ9
     rw [show (own_j0g_50_S0 i0 i1 i2 cs) = (1 : Int32) from by rw [own_j0g_50_S0, if_neg hc11]] at jj
     exact jj
   by_cases hc8 : (i2 &&& (4 : Int32)) = (0 : Int32)
   · -- pc 28
    refine ownE.go (T' := TJ6) (f' := (mkF m 35 (own_l43 i0 i1 i2 cs) [])) (fun t kt => XS.ifYes (g := (mkF m 28 (own_l43 i0 i1 i2 cs) [(.int (i2 &&& (4 : Int32)))])) XJ6.here hx rfl (pc0 := 28) (pc' := 35) rfl (hb hby at_28) rfl (Jvm.Free.XT.i0_eq_t hc8) (by decide) (by decide) kt) ?_
    refine ownE.go (f' := (mkF m 36 (own_l43 i0 i1 i2 cs) [(.int (0 : Int32))])) (fun t kt => XS.iconst XJ6.here hx rfl (hb hby at_35) kt) ?_
    have jj := J9 _ _ XJ6 eJ6 NJ6
    rw [show (own_j0g_36_S0 i0 i1 i2 cs) = (0 : Int32) from by rw [own_j0g_36_S0, if_pos hc8]] at jj
    exact jj
   · -- pc 28
    refine ownE.go (T' := TJ6) (f' := (mkF m 31 (own_l43 i0 i1 i2 cs) [])) (fun t kt => XS.ifNo (g := (mkF m 28 (own_l43 i0 i1 i2 cs) [(.int (i2 &&& (4 : Int32)))])) XJ6.here hx rfl (hb hby at_28) rfl (Jvm.Free.XT.i0_eq_f hc8) kt) ?_
    refine ownE.go (f' := (mkF m 36 (own_l43 i0 i1 i2 cs) [(.int (1 : Int32))])) (fun t kt => XS.iconst XJ6.here hx rfl (hb hby at_31) (XS.goto XJ6.here hx rfl (pc0 := 32) (pc' := 36) rfl (hb hby at_32) (by decide) (by decide) kt)) ?_
    have jj := J9 _ _ XJ6 eJ6 NJ6
    rw [show (own_j0g_36_S0 i0 i1 i2 cs) = (1 : Int32) from by rw [own_j0g_36_S0, if_neg hc8]] at jj
    exact jj
  by_cases hc5 : (i2 &&& (2 : Int32)) = (0 : Int32)
  · -- pc 15
   refine ownE.go (T' := TJ3) (f' := (mkF m 22 (own_l42 i0 i1 i2 cs) [])) (fun t kt => XS.ifYes (g := (mkF m 15 (own_l42 i0 i1 i2 cs) [(.int (i2 &&& (2 : Int32)))])) XJ3.here hx rfl (pc0 := 15) (pc' := 22) rfl (hb hby at_15) rfl (Jvm.Free.XT.i0_eq_t hc5) (by decide) (by decide) kt) ?_
   refine ownE.go (f' := (mkF m 23 (own_l42 i0 i1 i2 cs) [(.int (0 : Int32))])) (fun t kt => XS.iconst XJ3.here hx rfl (hb hby at_22) kt) ?_
   have jj := J6 _ _ XJ3 eJ3 NJ3
   rw [show (own_j0g_23_S0 i0 i1 i2 cs) = (0 : Int32) from by rw [own_j0g_23_S0, if_pos hc5]] at jj
   exact jj
  · -- pc 15
   refine ownE.go (T' := TJ3) (f' := (mkF m 18 (own_l42 i0 i1 i2 cs) [])) (fun t kt => XS.ifNo (g := (mkF m 15 (own_l42 i0 i1 i2 cs) [(.int (i2 &&& (2 : Int32)))])) XJ3.here hx rfl (hb hby at_15) rfl (Jvm.Free.XT.i0_eq_f hc5) kt) ?_
   refine ownE.go (f' := (mkF m 23 (own_l42 i0 i1 i2 cs) [(.int (1 : Int32))])) (fun t kt => XS.iconst XJ3.here hx rfl (hb hby at_18) (XS.goto XJ3.here hx rfl (pc0 := 19) (pc' := 23) rfl (hb hby at_19) (by decide) (by decide) kt)) ?_
   have jj := J6 _ _ XJ3 eJ3 NJ3
   rw [show (own_j0g_23_S0 i0 i1 i2 cs) = (1 : Int32) from by rw [own_j0g_23_S0, if_neg hc5]] at jj
   exact jj
 by_cases hc2 : (i2 &&& (1 : Int32)) = (0 : Int32)
 · -- pc 3
  refine ownE.go (T' := s₁) (f' := (mkF m 10 (own_l7 i0 i1 i2) [])) (fun t kt => XS.ifYes (g := (mkF m 3 (own_l7 i0 i1 i2) [(.int (i2 &&& (1 : Int32)))])) X0.here hx rfl (pc0 := 3) (pc' := 10) rfl (hb hby at_3) rfl (Jvm.Free.XT.i0_eq_t hc2) (by decide) (by decide) kt) ?_
  refine ownE.go (f' := (mkF m 11 (own_l7 i0 i1 i2) [(.int (0 : Int32))])) (fun t kt => XS.iconst X0.here hx rfl (hb hby at_10) kt) ?_
  have jj := J3 _ _ X0 e0 N0
  rw [show (own_j0g_11_S0 i0 i1 i2 cs) = (0 : Int32) from by rw [own_j0g_11_S0, if_pos hc2]] at jj
  exact jj
 · -- pc 3
  refine ownE.go (T' := s₁) (f' := (mkF m 6 (own_l7 i0 i1 i2) [])) (fun t kt => XS.ifNo (g := (mkF m 3 (own_l7 i0 i1 i2) [(.int (i2 &&& (1 : Int32)))])) X0.here hx rfl (hb hby at_3) rfl (Jvm.Free.XT.i0_eq_f hc2) kt) ?_
  refine ownE.go (f' := (mkF m 11 (own_l7 i0 i1 i2) [(.int (1 : Int32))])) (fun t kt => XS.iconst X0.here hx rfl (hb hby at_6) (XS.goto X0.here hx rfl (pc0 := 7) (pc' := 11) rfl (hb hby at_7) (by decide) (by decide) kt)) ?_
  have jj := J3 _ _ X0 e0 N0
  rw [show (own_j0g_11_S0 i0 i1 i2 cs) = (1 : Int32) from by rw [own_j0g_11_S0, if_neg hc2]] at jj
  exact jj

section Start
variable {Z : State} {args : Array Value}
theorem own_eqI {u : Term} {k : Int32} (h : (Jvm.Cond.eq u (.int k)).value args Z none Z [] = some true) : u.eval args Z none [] Z = some (.int k) := by
  have ek : (Term.int k).eval args Z none [] Z = some (.int k) := Term.int_eval k
  simp only [Cond.value] at h
  rw [ek] at h
  generalize u.eval args Z none [] Z = w at h
  cases w with
  | none => simp at h
  | some v =>
    cases v <;> simp at h
    rw [h]
theorem own_fldI {t : Term} {a : Addr} {C n d : String} {k : Int32} (et : t.eval args Z none [] Z = some (.ref a)) (h : (Jvm.Cond.eq (.field t C n d) (.int k)).value args Z none Z [] = some true) : Fld Z Z.heap a C n d (.int k) := Fld.start ((fld_at et).symm.trans (own_eqI h))
theorem own_fldR {t : Term} {a : Addr} {C n d K : String} (et : t.eval args Z none [] Z = some (.ref a)) (h : (Jvm.Cond.exactly (.field t C n d) K).value args Z none Z [] = some true) : ∃ b, (Term.field t C n d).eval args Z none [] Z = some (.ref b) ∧ Fld Z Z.heap a C n d (.ref b) ∧ Exa Z Z.heap b K := by
  obtain ⟨b, e⟩ := exa_v h
  exact ⟨b, e, Fld.start ((fld_at et).symm.trans e), Exa.start e h⟩
theorem own_fldA {t : Term} {a : Addr} {C n d : String} {ty : FieldType} (et : t.eval args Z none [] Z = some (.ref a)) (h : (Jvm.Cond.arrayOf (.field t C n d) ty).value args Z none Z [] = some true) : ∃ b c, (Term.field t C n d).eval args Z none [] Z = some (.ref b) ∧ Fld Z Z.heap a C n d (.ref b) ∧ Arr Z Z.heap b c ty := by
  obtain ⟨b, e⟩ := arr_v h
  obtain ⟨c, A⟩ := Arr.start e h
  exact ⟨b, c, e, Fld.start ((fld_at et).symm.trans e), A⟩
theorem own_len {t : Term} {a : Addr} {c : Cell} {ty : FieldType} {k : Int32} (et : t.eval args Z none [] Z = some (.ref a)) (A : Arr Z Z.heap a c ty) (h : (Jvm.Cond.eq (.length t) (.int k)).value args Z none Z [] = some true) : c.slots.size < 2 ^ 31 ∧ c.slots.size.toInt32 = k := by
  have ha := A.fin (U := Z) (Vm.Alike.refl _)
  have q := own_eqI h
  by_cases hl : c.slots.size < 2 ^ 31
  · have e := (len_f et ha hl).symm.trans q
    exact ⟨hl, by simpa using e⟩
  · have hl' : ¬ c.slots.size < 2147483648 := hl
    simp [Term.eval, et, ha, hl'] at q
theorem own_elem {t : Term} {a : Addr} {c : Cell} {ty : FieldType} {j k : Int32} (et : t.eval args Z none [] Z = some (.ref a)) (A : Arr Z Z.heap a c ty) (h : (Jvm.Cond.eq (.elem t (.int j)) (.int k)).value args Z none Z [] = some true) : c.slots[j.toNatClampNeg]? = some (.int k) :=
  (elem_in (own_eqI h) et (Term.int_eval j) A.1).2
end Start

theorem own_lawe (i0 i1 i2 cs : Int32) : own_f0e i0 i1 i2 cs = 1 := by
  unfold own_f0e
  repeat' split
  all_goals rfl
theorem own_lawl (i0 i1 i2 cs : Int32) : own_f0l i0 i1 i2 cs = 1 := by
  unfold own_f0l
  repeat' split
  all_goals rfl
theorem own_lawg (i0 i1 i2 cs : Int32) : own_f0g i0 i1 i2 cs = 1 := by
  unfold own_f0g
  repeat' split
  all_goals rfl
set_option maxRecDepth 65536 in
set_option maxHeartbeats 40000000 in
theorem comes_1 {Post : Tables → Env → Array Value → State → Outcome → State → Prop} (hpost : ∀ tb e args s v u, (limb_1_1.after args s (.returned v) u = true ∧ limb_1_2.after args s (.returned v) u = true ∧ True) → FrameEnd s (.returned v) u (Jvm.fieldLocs frame_1_writes args s ++ Jvm.arrayLocs frame_1_arrays args s ++ Jvm.staticLocs frame_1_statics s) 24 128 → Post tb e args s (.returned v) u) :
    ArmFor flags0 classFile x code maxLocals ret World_1 tables_1 room_1 Calls_1 rest_1 Pre_1 Post := by
  intro l hfl _ _ p e ha hc hk s m args below hf hA hF happ hP
  obtain ⟨hcalls, hrest, hpre⟩ := hP
  obtain ⟨-, -, -, hnamed, -, -, -, hat⟩ := (Spec.applies_iff hf).mp happ
  obtain ⟨hg, hn⟩ := and_e (Cond.before_iff.mp (show (Jvm.Cond.and given_1 narrow_1).before args s = true from hpre))
  obtain ⟨g1, g2⟩ := and_e hg
  obtain ⟨g3, g4⟩ := and_e g2
  obtain ⟨g5, g6⟩ := and_e g4
  obtain ⟨w0, w1, w2, rfl⟩ : ∃ w0 w1 w2 : Value, args = #[w0, w1, w2] := by
    have hs : args.size = 3 := by simpa [Cond.value, given_1] using g1
    obtain ⟨L⟩ := args
    match L, hs with
    | [w0, w1, w2], _ => exact ⟨w0, w1, w2, rfl⟩
  have hw := fun d (hd : d ∈ tables_1) => atoms_spec (ws := Jvm.Cond.code x code maxLocals ret :: tables_1) hat d (List.mem_cons_of_mem _ hd)
  have hfit : Fit s := fun {y c} hc i hi => by
    obtain ⟨ha, rfl⟩ := Array.getElem?_eq_some_iff.mp hc
    have q := List.all_eq_true.mp ((Array.all_eq_true_iff_forall_mem.mp hF) _ (Array.getElem_mem ha)) i (List.mem_range.mpr hi)
    simpa [Array.getElem?_eq_getElem hi] using q
  obtain ⟨hsets, hown0⟩ := atoms_of _ (rest_1_c_eq ▸ (show rest_1_c.before _ s = true from hrest))
  have hr0 := Cond.before_iff.mp hown0
  obtain ⟨i0, ei0⟩ := is_v g3
  obtain rfl : w0 = (.int i0) := Option.some.inj ei0
  obtain ⟨i1, ei1⟩ := is_v g5
  obtain rfl : w1 = (.int i1) := Option.some.inj ei1
  obtain ⟨i2, ei2⟩ := is_v g6
  obtain rfl : w2 = (.int i2) := Option.some.inj ei2
  obtain ⟨ics, ecs⟩ := is_v (Cond.before_iff.mp (hsets _ (List.mem_of_getElem? (i := 1) rfl)))
  have hcs := Sta.start ecs (Or.inl (hsets _ (List.mem_of_getElem? (i := 0) rfl)))
  have hcsn : ¬ ics = (0 : Int32) := gotF (own_eqV ecs) (not_v (Cond.before_iff.mp (hsets _ (List.mem_of_getElem? (i := 2) rfl))))
  obtain ⟨fmt, efm, hfm⟩ := isR_v (Cond.before_iff.mp (hsets _ (List.mem_of_getElem? (i := 8) rfl)))
  have hfs := Sta.start efm (Or.inl (hsets _ (List.mem_of_getElem? (i := 7) rfl)))
  have zad := Sta.start (own_eqI hn) (Or.inr ⟨(own_w hw 28 rfl), (own_w hw 156 rfl)⟩)
  have tri : ((i0 &&& (255 : Int32)).toUInt32.toUInt16.toUInt32.toInt32) = ((i1 &&& (255 : Int32)).toUInt32.toUInt16.toUInt32.toInt32) ∨ ((i0 &&& (255 : Int32)).toUInt32.toUInt16.toUInt32.toInt32) < ((i1 &&& (255 : Int32)).toUInt32.toUInt16.toUInt32.toInt32) ∨ (¬ ((i0 &&& (255 : Int32)).toUInt32.toUInt16.toUInt32.toInt32) = ((i1 &&& (255 : Int32)).toUInt32.toUInt16.toUInt32.toInt32) ∧ ¬ ((i0 &&& (255 : Int32)).toUInt32.toUInt16.toUInt32.toInt32) < ((i1 &&& (255 : Int32)).toUInt32.toUInt16.toUInt32.toInt32)) := by
    by_cases h : ((i0 &&& (255 : Int32)).toUInt32.toUInt16.toUInt32.toInt32) = ((i1 &&& (255 : Int32)).toUInt32.toUInt16.toUInt32.toInt32)
    · exact Or.inl h
    by_cases g : ((i0 &&& (255 : Int32)).toUInt32.toUInt16.toUInt32.toInt32) < ((i1 &&& (255 : Int32)).toUInt32.toUInt16.toUInt32.toInt32)
    · exact Or.inr (Or.inl g)
    · exact Or.inr (Or.inr ⟨h, g⟩)
  rcases tri with hE | hL | ⟨hN, hG⟩
  · obtain ⟨n, o, h1, h2, h3, _, L, rfl, ⟨rfl, N, -⟩, hq⟩ := own_rm0e l s _ hw tables_1 i0 i1 i2 ics fmt s.heap s.heap.size (Nat.le_refl _) (Old.start s) hcs hcsn hfs hfm zad hE p e ha hc hk s m _ below hf ((Spec.applies_iff_loose hf).mp happ).1 ⟨rfl, State.Warmed39.refl s, rfl⟩ trivial
    refine ⟨n, _, h1, h2, h3, hpost _ _ _ _ _ _ ⟨Cond.after_iff.mpr rfl, Cond.after_iff.mpr (eq_i res_at (Term.int_eval (1)) (congrArg Value.int (own_lawe i0 i1 i2 ics))), trivial⟩ ⟨hq.1, hq.2.1, (hq.2.2.sift fun y hy => Or.inr (N y hy)).mono (by decide) (by decide)⟩⟩
  · obtain ⟨n, o, h1, h2, h3, _, L, rfl, ⟨rfl, N, -⟩, hq⟩ := own_rm0l l s _ hw tables_1 i0 i1 i2 ics fmt s.heap s.heap.size (Nat.le_refl _) (Old.start s) hcs hcsn hfs hfm zad (own_ltne hL) hL p e ha hc hk s m _ below hf ((Spec.applies_iff_loose hf).mp happ).1 ⟨rfl, State.Warmed39.refl s, rfl⟩ trivial
    refine ⟨n, _, h1, h2, h3, hpost _ _ _ _ _ _ ⟨Cond.after_iff.mpr rfl, Cond.after_iff.mpr (eq_i res_at (Term.int_eval (1)) (congrArg Value.int (own_lawl i0 i1 i2 ics))), trivial⟩ ⟨hq.1, hq.2.1, (hq.2.2.sift fun y hy => Or.inr (N y hy)).mono (by decide) (by decide)⟩⟩
  · obtain ⟨n, o, h1, h2, h3, _, L, rfl, ⟨rfl, N, -⟩, hq⟩ := own_rm0g l s _ hw tables_1 i0 i1 i2 ics fmt s.heap s.heap.size (Nat.le_refl _) (Old.start s) hcs hcsn hfs hfm zad hN hG p e ha hc hk s m _ below hf ((Spec.applies_iff_loose hf).mp happ).1 ⟨rfl, State.Warmed39.refl s, rfl⟩ trivial
    refine ⟨n, _, h1, h2, h3, hpost _ _ _ _ _ _ ⟨Cond.after_iff.mpr rfl, Cond.after_iff.mpr (eq_i res_at (Term.int_eval (1)) (congrArg Value.int (own_lawg i0 i1 i2 ics))), trivial⟩ ⟨hq.1, hq.2.1, (hq.2.2.sift fun y hy => Or.inr (N y hy)).mono (by decide) (by decide)⟩⟩
theorem main_1_1 : Claimed_1_1 := comes_1 fun _ _ _ _ _ _ h hF => ⟨h.1, hF⟩
theorem main_1_2 : Claimed_1_2 := comes_1 fun _ _ _ _ _ _ h hF => ⟨h.2.1, hF⟩
end Jvm.Pilot.@@N@@
namespace Jvm.Pilot.@@N@@
open Jvm Jvm.ClassFile Sem Op Lib Jvm.Free Jvm.Stand Jvm.Pilot.@@N@@.Jvm.D
/-! MADE BY PROGRAM (witnessworld.py) out of the Statement's table words and the real class files: 25 classes; the members and pool entries that the words name. The judged class is class 1, her method 1. -/
namespace start1
open Jvm.ClassFile
def u (s : String) : CpInfo := .utf8 (stringToUtf16 s)
/-- a pool by its gaps: so many unusable entries, then the entry; so many at the end -/
def gap : Nat → List CpInfo → List CpInfo
  | 0, r => r
  | n + 1, r => .unusable :: gap n r
def poolList (es : List (Nat × CpInfo)) (last : Nat) : List CpInfo := es.foldr (fun e r => gap e.1 (e.2 :: r)) (gap last [])
def pool (es : List (Nat × CpInfo)) (last : Nat) : Array CpInfo := ⟨poolList es last⟩
def fileOf (pool : Array CpInfo) (this : Nat) (attrs : Array Attribute := #[]) (ms : Array MethodInfo := #[]) (fl : Nat := 33) (sup : Nat := 0) (ifs : Array Nat := #[]) (fds : Array FieldInfo := #[]) : ClassFile where
  minorVersion := 0
  majorVersion := 65
  constantPool := pool
  accessFlags := fl
  thisClass := this
  superClass := sup
  interfaces := ifs
  fields := fds
  methods := ms
  attributes := attrs
def plain (name : String) (sup : Option ClassId) : Class where
  name := name
  kind := .ordinary
  loader := none
  accessFlags := 33
  super := sup
  interfaces := #[]
  cf := none
  fields := #[]
  methods := #[]
  instanceTypes := #[]
  staticTypes := #[]
  resolved := #[]
  callSites := []
  init := .initialized
  statics := none
  mirror := none

def pool0 : Array CpInfo := pool [(5, u "<init>"), (0, u "()V"), (1, .class_ 10), (1, u "java/lang/Object")] 113

def k0c0 : Code := { maxStack := 0, maxLocals := 1, code := object_method_1_code, exceptionTable := #[], attributes := #[] }
def k0m0 : Method := { name := "<init>", desc := "()V", sig := { parameters := [], returnType := none }, accessFlags := 1, code := some k0c0 }
/-- java/lang/Object -/
def k0 : Class := { plain "java/lang/Object" none with
  accessFlags := 33
  interfaces := #[]
  cf := some (fileOf pool0 8 #[] #[{ accessFlags := 1, nameIndex := 5, descriptorIndex := 6, attributes := #[] }] 33 0 #[] #[])
  fields := #[]
  methods := #[k0m0]
  instanceTypes := #[]
  staticTypes := #[]
  resolved := Array.replicate 124 none
  statics := none }

def pool1 : Array CpInfo := pool [(2, .class_ 4), (0, .nameAndType 5 6), (0, u "java/lang/Object"), (0, u "<init>"), (0, u "()V"), (0, .methodref 8 9), (0, .class_ 10), (0, .nameAndType 11 12), (0, u "java/lang/String"), (0, u "valueOf"), (0, u "(C)Ljava/lang/String;"), (0, .class_ 14), (0, u "com/example/quayside/quayside/core/Entries"), (0, .methodref 13 3), (0, .class_ 17), (0, u "com/example/quayside/quayside/core/FileEntry"), (0, .methodref 16 19), (0, .nameAndType 5 20), (0, u "(JLjava/lang/String;Ljava/lang/String;IJJJIJ)V"), (0, .methodref 13 22), (0, .nameAndType 23 24), (0, u "isEmpty"), (0, u "()Z"), (0, .methodref 13 26), (0, .nameAndType 27 28), (0, u "putIfAbsent"), (0, u "(Ljava/lang/String;Lcom/example/quayside/quayside/core/Entry;)Lcom/example/quayside/quayside/core/Entry;"), (0, .methodref 13 30), (0, .nameAndType 31 32), (0, u "remove"), (0, u "(Ljava/lang/String;)Lcom/example/quayside/quayside/core/Entry;"), (0, .class_ 34), (0, u "com/example/quayside/quayside/core/EntriesIsEmptyPinLaw"), (2, u "law"), (0, u "(III)Z")] 3

def k1m0 : Method := { name := "<init>", desc := "()V", sig := { parameters := [], returnType := none }, accessFlags := 1, code := none }
def k1c1 : Code := { maxStack := 16, maxLocals := 17, code := code, exceptionTable := #[], attributes := #[] }
def k1m1 : Method := { name := "law", desc := "(III)Z", sig := { parameters := [.int, .int, .int], returnType := some .boolean }, accessFlags := 9, code := some k1c1 }
/-- com/example/quayside/quayside/core/EntriesIsEmptyPinLaw -/
def k1 : Class := { plain "com/example/quayside/quayside/core/EntriesIsEmptyPinLaw" (some 0) with
  accessFlags := 49
  interfaces := #[]
  cf := some (fileOf pool1 33 #[] #[{ accessFlags := 1, nameIndex := 5, descriptorIndex := 6, attributes := #[] }, { accessFlags := 9, nameIndex := 37, descriptorIndex := 38, attributes := #[] }] 49 2 #[] #[])
  fields := #[]
  methods := #[k1m0, k1m1]
  instanceTypes := #[]
  staticTypes := #[]
  resolved := Array.replicate 42 none
  statics := none }

def pool2 : Array CpInfo := pool [(1, .class_ 2), (0, u "java/io/Serializable"), (0, .class_ 4), (0, u "java/lang/Object")] 2

/-- java/io/Serializable -/
def k2 : Class := { plain "java/io/Serializable" (some 0) with
  accessFlags := 1537
  interfaces := #[]
  cf := some (fileOf pool2 1 #[] #[] 1537 3 #[] #[])
  fields := #[]
  methods := #[]
  instanceTypes := #[]
  staticTypes := #[]
  resolved := Array.replicate 7 none
  statics := none }

def pool3 : Array CpInfo := pool [(1, .class_ 2), (0, u "java/lang/Comparable"), (0, .class_ 4), (0, u "java/lang/Object")] 7

/-- java/lang/Comparable -/
def k3 : Class := { plain "java/lang/Comparable" (some 0) with
  accessFlags := 1537
  interfaces := #[]
  cf := some (fileOf pool3 1 #[] #[] 1537 3 #[] #[])
  fields := #[]
  methods := #[]
  instanceTypes := #[]
  staticTypes := #[]
  resolved := Array.replicate 12 none
  statics := none }

def pool4 : Array CpInfo := pool [(2, .class_ 4), (1, u "java/lang/CharSequence"), (42, .class_ 48), (0, u "java/lang/CharSequence$1CodePointIterator"), (10, .class_ 60), (0, u "java/lang/CharSequence$1CharIterator"), (5, .class_ 67), (0, u "java/lang/Object")] 63

/-- java/lang/CharSequence -/
def k4 : Class := { plain "java/lang/CharSequence" (some 0) with
  accessFlags := 1537
  interfaces := #[]
  cf := some (fileOf pool4 2 #[.nestMembers #[47, 59]] #[] 1537 66 #[] #[])
  fields := #[]
  methods := #[]
  instanceTypes := #[]
  staticTypes := #[]
  resolved := Array.replicate 131 none
  statics := none }

def pool5 : Array CpInfo := pool [(1, .class_ 2), (0, u "java/lang/constant/Constable"), (0, .class_ 4), (0, u "java/lang/Object")] 6

/-- java/lang/constant/Constable -/
def k5 : Class := { plain "java/lang/constant/Constable" (some 0) with
  accessFlags := 1537
  interfaces := #[]
  cf := some (fileOf pool5 1 #[] #[] 1537 3 #[] #[])
  fields := #[]
  methods := #[]
  instanceTypes := #[]
  staticTypes := #[]
  resolved := Array.replicate 11 none
  statics := none }

def pool6 : Array CpInfo := pool [(1, .class_ 2), (0, u "java/lang/constant/ConstantDesc"), (0, .class_ 4), (0, u "java/lang/Object")] 32

/-- java/lang/constant/ConstantDesc -/
def k6 : Class := { plain "java/lang/constant/ConstantDesc" (some 0) with
  accessFlags := 1537
  interfaces := #[]
  cf := some (fileOf pool6 1 #[] #[] 1537 3 #[] #[])
  fields := #[]
  methods := #[]
  instanceTypes := #[]
  staticTypes := #[]
  resolved := Array.replicate 37 none
  statics := none }

def pool7 : Array CpInfo := pool [(1, .methodref 2 3), (0, .class_ 4), (0, .nameAndType 5 6), (0, u "java/lang/Object"), (0, u "<init>"), (0, u "()V"), (2, .fieldref 10 11), (0, .class_ 12), (0, .nameAndType 13 14), (0, u "java/lang/String"), (0, u "value"), (0, u "[B"), (0, .fieldref 10 16), (0, .nameAndType 17 18), (0, u "coder"), (0, u "B"), (2, u "hash"), (0, u "I"), (2, u "hashIsZero"), (0, u "Z"), (11, .fieldref 10 39), (0, .nameAndType 40 26), (0, u "COMPACT_STRINGS"), (12, u "toBytes"), (53, .class_ 109), (1, u "java/lang/StringLatin1"), (32, u "()Z"), (66, .methodref 10 210), (0, .nameAndType 5 211), (0, u "([BB)V"), (122, u "()I"), (0, .methodref 10 336), (0, .nameAndType 17 337), (0, u "()B"), (31, u "(C)Z"), (21, u "(II)V"), (100, .methodref 10 493), (0, .nameAndType 494 142), (0, u "isLatin1"), (4, .methodref 10 500), (0, .nameAndType 501 391), (0, u "checkIndex"), (2, u "codePointAt"), (2, u "length"), (67, .class_ 576), (0, u "java/lang/CharSequence"), (22, u "CASE_INSENSITIVE_ORDER"), (0, u "Ljava/util/Comparator;"), (164, u "(I)I"), (16, u "valueOf"), (0, u "(C)Ljava/lang/String;"), (231, .methodref 107 1016), (0, .nameAndType 1017 369), (0, u "canEncode"), (0, .methodref 107 1019), (0, .nameAndType 53 1020), (0, u "(C)[B"), (32, .fieldref 1054 1055), (0, .class_ 1056), (0, .nameAndType 1057 1058), (0, u "jdk/internal/util/Preconditions"), (0, u "SIOOBE_FORMATTER"), (0, u "Ljava/util/function/BiFunction;"), (0, .methodref 1054 1060), (0, .nameAndType 501 1061), (0, u "(IILjava/util/function/BiFunction;)I"), (39, u "serialPersistentFields"), (0, u "[Ljava/io/ObjectStreamField;"), (0, .class_ 1104), (0, u "java/lang/String$CaseInsensitiveComparator"), (1, .class_ 1107), (0, u "java/io/Serializable"), (0, .class_ 1109), (0, u "java/lang/Comparable"), (0, .class_ 1111), (0, u "java/lang/constant/Constable"), (0, .class_ 1113), (0, u "java/lang/constant/ConstantDesc"), (2, u "serialVersionUID"), (0, u "J"), (3, u "REPL"), (0, u "C"), (2, u "LATIN1"), (1, u "UTF16")] 323

def k7m0 : Method := { name := "<init>", desc := "()V", sig := { parameters := [], returnType := none }, accessFlags := 1, code := none }
def k7c1 : Code := { maxStack := 2, maxLocals := 1, code := jdk_42_method_54_code, exceptionTable := #[], attributes := #[] }
def k7m1 : Method := { name := "length", desc := "()I", sig := { parameters := [], returnType := some .int }, accessFlags := 1, code := some k7c1 }
def k7c2 : Code := { maxStack := 3, maxLocals := 3, code := jdk_42_method_57_code, exceptionTable := #[], attributes := #[] }
def k7m2 : Method := { name := "codePointAt", desc := "(I)I", sig := { parameters := [.int], returnType := some .int }, accessFlags := 1, code := some k7c2 }
def k7c3 : Code := { maxStack := 4, maxLocals := 1, code := jdk_42_method_139_code, exceptionTable := #[], attributes := #[] }
def k7m3 : Method := { name := "valueOf", desc := "(C)Ljava/lang/String;", sig := { parameters := [.char], returnType := some (.object "java/lang/String") }, accessFlags := 9, code := some k7c3 }
def k7c4 : Code := { maxStack := 2, maxLocals := 3, code := jdk_42_method_151_code, exceptionTable := #[], attributes := #[] }
def k7m4 : Method := { name := "<init>", desc := "([BB)V", sig := { parameters := [(.array .byte), .byte], returnType := none }, accessFlags := 0, code := some k7c4 }
def k7c5 : Code := { maxStack := 1, maxLocals := 1, code := jdk_42_method_152_code, exceptionTable := #[], attributes := #[] }
def k7m5 : Method := { name := "coder", desc := "()B", sig := { parameters := [], returnType := some .byte }, accessFlags := 0, code := some k7c5 }
def k7c6 : Code := { maxStack := 1, maxLocals := 1, code := jdk_42_method_154_code, exceptionTable := #[], attributes := #[] }
def k7m6 : Method := { name := "isLatin1", desc := "()Z", sig := { parameters := [], returnType := some .boolean }, accessFlags := 0, code := some k7c6 }
def k7c7 : Code := { maxStack := 3, maxLocals := 2, code := jdk_42_method_155_code, exceptionTable := #[], attributes := #[] }
def k7m7 : Method := { name := "checkIndex", desc := "(II)V", sig := { parameters := [.int, .int], returnType := none }, accessFlags := 8, code := some k7c7 }
/-- java/lang/String -/
def k7 : Class := { plain "java/lang/String" (some 0) with
  accessFlags := 49
  interfaces := #[2, 3, 4, 5, 6]
  cf := some (fileOf pool7 10 #[.nestMembers #[1103]] #[{ accessFlags := 1, nameIndex := 5, descriptorIndex := 6, attributes := #[] }, { accessFlags := 1, nameIndex := 507, descriptorIndex := 334, attributes := #[] }, { accessFlags := 1, nameIndex := 504, descriptorIndex := 765, attributes := #[] }, { accessFlags := 9, nameIndex := 782, descriptorIndex := 783, attributes := #[] }, { accessFlags := 0, nameIndex := 5, descriptorIndex := 211, attributes := #[] }, { accessFlags := 0, nameIndex := 17, descriptorIndex := 337, attributes := #[] }, { accessFlags := 0, nameIndex := 494, descriptorIndex := 142, attributes := #[] }, { accessFlags := 8, nameIndex := 501, descriptorIndex := 391, attributes := #[] }] 49 2 #[1106, 1108, 575, 1110, 1112] #[{ accessFlags := 18, nameIndex := 13, descriptorIndex := 14, attributes := #[] }, { accessFlags := 18, nameIndex := 17, descriptorIndex := 18, attributes := #[] }, { accessFlags := 2, nameIndex := 21, descriptorIndex := 22, attributes := #[] }, { accessFlags := 2, nameIndex := 25, descriptorIndex := 26, attributes := #[] }, { accessFlags := 26, nameIndex := 1116, descriptorIndex := 1117, attributes := #[] }, { accessFlags := 24, nameIndex := 40, descriptorIndex := 26, attributes := #[] }, { accessFlags := 26, nameIndex := 1101, descriptorIndex := 1102, attributes := #[] }, { accessFlags := 26, nameIndex := 1121, descriptorIndex := 1122, attributes := #[] }, { accessFlags := 25, nameIndex := 599, descriptorIndex := 600, attributes := #[] }, { accessFlags := 24, nameIndex := 1125, descriptorIndex := 18, attributes := #[] }, { accessFlags := 24, nameIndex := 1127, descriptorIndex := 18, attributes := #[] }])
  fields := #[{ name := "value", type := (.array .byte), accessFlags := 18, slot := 0, constantValue := 0 }, { name := "coder", type := .byte, accessFlags := 18, slot := 1, constantValue := 0 }, { name := "hash", type := .int, accessFlags := 2, slot := 2, constantValue := 0 }, { name := "hashIsZero", type := .boolean, accessFlags := 2, slot := 3, constantValue := 0 }, { name := "serialVersionUID", type := .long, accessFlags := 26, slot := 0, constantValue := 0 }, { name := "COMPACT_STRINGS", type := .boolean, accessFlags := 24, slot := 1, constantValue := 0 }, { name := "serialPersistentFields", type := (.array (.object "java/io/ObjectStreamField")), accessFlags := 26, slot := 2, constantValue := 0 }, { name := "REPL", type := .char, accessFlags := 26, slot := 3, constantValue := 0 }, { name := "CASE_INSENSITIVE_ORDER", type := (.object "java/util/Comparator"), accessFlags := 25, slot := 4, constantValue := 0 }, { name := "LATIN1", type := .byte, accessFlags := 24, slot := 5, constantValue := 0 }, { name := "UTF16", type := .byte, accessFlags := 24, slot := 6, constantValue := 0 }]
  methods := #[k7m0, k7m1, k7m2, k7m3, k7m4, k7m5, k7m6, k7m7]
  instanceTypes := #[(.array .byte), .byte, .int, .boolean]
  staticTypes := #[.long, .boolean, (.array (.object "java/io/ObjectStreamField")), .char, (.object "java/util/Comparator"), .byte, .byte]
  resolved := Array.replicate 1451 none
  statics := some 0 }

def pool8 : Array CpInfo := pool [(4, .class_ 6), (1, u "java/lang/Object"), (0, u "<init>"), (0, u "()V"), (5, .class_ 16), (1, u "java/lang/StringLatin1"), (73, u "canEncode"), (14, u "(C)Z"), (15, u "$assertionsDisabled"), (0, u "Z"), (98, .class_ 223), (1, u "java/lang/StringLatin1$LinesSpliterator"), (156, u "toBytes"), (1, u "(C)[B"), (7, .class_ 391), (0, u "java/lang/StringLatin1$CharsSpliterator")] 3

def k8m0 : Method := { name := "<init>", desc := "()V", sig := { parameters := [], returnType := none }, accessFlags := 0, code := none }
def k8c1 : Code := { maxStack := 2, maxLocals := 1, code := jdk_43_method_3_code, exceptionTable := #[], attributes := #[] }
def k8m1 : Method := { name := "canEncode", desc := "(C)Z", sig := { parameters := [.char], returnType := some .boolean }, accessFlags := 9, code := some k8c1 }
def k8c2 : Code := { maxStack := 4, maxLocals := 1, code := jdk_43_method_46_code, exceptionTable := #[], attributes := #[] }
def k8m2 : Method := { name := "toBytes", desc := "(C)[B", sig := { parameters := [.char], returnType := some (.array .byte) }, accessFlags := 9, code := some k8c2 }
/-- java/lang/StringLatin1 -/
def k8 : Class := { plain "java/lang/StringLatin1" (some 0) with
  accessFlags := 48
  interfaces := #[]
  cf := some (fileOf pool8 14 #[.nestMembers #[390, 221]] #[{ accessFlags := 0, nameIndex := 7, descriptorIndex := 8, attributes := #[] }, { accessFlags := 9, nameIndex := 90, descriptorIndex := 105, attributes := #[] }, { accessFlags := 9, nameIndex := 380, descriptorIndex := 382, attributes := #[] }] 48 4 #[] #[{ accessFlags := 4120, nameIndex := 121, descriptorIndex := 122, attributes := #[] }])
  fields := #[{ name := "$assertionsDisabled", type := .boolean, accessFlags := 4120, slot := 0, constantValue := 0 }]
  methods := #[k8m0, k8m1, k8m2]
  instanceTypes := #[]
  staticTypes := #[.boolean]
  resolved := Array.replicate 395 none
  statics := none }

def pool9 : Array CpInfo := pool [(8, .class_ 10), (1, u "java/lang/Iterable"), (24, .class_ 36), (0, u "java/lang/Object")] 25

/-- java/lang/Iterable -/
def k9 : Class := { plain "java/lang/Iterable" (some 0) with
  accessFlags := 1537
  interfaces := #[]
  cf := some (fileOf pool9 8 #[] #[] 1537 35 #[] #[])
  fields := #[]
  methods := #[]
  instanceTypes := #[]
  staticTypes := #[]
  resolved := Array.replicate 62 none
  statics := none }

def pool10 : Array CpInfo := pool [(1, .methodref 2 3), (0, .class_ 4), (0, .nameAndType 5 6), (0, u "java/lang/Object"), (0, u "<init>"), (0, u "()V"), (0, .fieldref 8 9), (0, .class_ 10), (0, .nameAndType 11 12), (0, u "com/example/quayside/quayside/core/Entries"), (0, u "root"), (0, u "Lcom/example/quayside/quayside/core/Entries$Link;"), (0, .methodref 8 14), (0, .nameAndType 15 16), (0, u "size"), (0, u "(Lcom/example/quayside/quayside/core/Entries$Link;)I"), (0, .fieldref 18 19), (0, .class_ 20), (0, .nameAndType 21 22), (0, u "com/example/quayside/quayside/core/Entries$Link"), (0, u "name"), (0, u "Ljava/lang/String;"), (0, .methodref 8 24), (0, .nameAndType 25 26), (0, u "compareNames"), (0, u "(Ljava/lang/String;Ljava/lang/String;)I"), (0, .fieldref 18 28), (0, .nameAndType 29 30), (0, u "entry"), (0, u "Lcom/example/quayside/quayside/core/Entry;"), (0, .fieldref 18 32), (0, .nameAndType 33 12), (0, u "left"), (0, .fieldref 18 35), (0, .nameAndType 36 12), (0, u "right"), (0, .methodref 8 38), (0, .nameAndType 39 40), (0, u "get"), (0, u "(Ljava/lang/String;)Lcom/example/quayside/quayside/core/Entry;"), (0, .methodref 8 42), (0, .nameAndType 15 43), (0, u "()I"), (0, .methodref 18 45), (0, .nameAndType 5 46), (0, u "(Ljava/lang/String;Lcom/example/quayside/quayside/core/Entry;)V"), (0, .methodref 8 48), (0, .nameAndType 49 50), (0, u "insert"), (0, u "(Lcom/example/quayside/quayside/core/Entries$Link;Lcom/example/quayside/quayside/core/Entries$Link;)Lcom/example/quayside/quayside/core/Entries$Link;"), (0, .methodref 8 52), (0, .nameAndType 53 54), (0, u "delete"), (0, u "(Lcom/example/quayside/quayside/core/Entries$Link;Ljava/lang/String;)Lcom/example/quayside/quayside/core/Entries$Link;"), (0, .class_ 56), (0, u "com/example/quayside/quayside/core/Entries$Walk"), (7, .methodref 65 66), (0, .class_ 67), (0, .nameAndType 68 43), (0, u "java/lang/String"), (0, u "length"), (0, .methodref 65 70), (0, .nameAndType 71 72), (0, u "codePointAt"), (0, u "(I)I"), (0, .methodref 74 75), (0, .class_ 76), (0, .nameAndType 77 78), (0, u "java/lang/Integer"), (0, u "compare"), (0, u "(II)I"), (0, .methodref 80 81), (0, .class_ 82), (0, .nameAndType 83 72), (0, u "java/lang/Character"), (0, u "charCount"), (0, .methodref 85 86), (0, .class_ 87), (0, .nameAndType 77 88), (0, u "java/lang/Boolean"), (0, u "(ZZ)I"), (0, .methodref 8 90), (0, .nameAndType 91 92), (0, u "balance"), (0, u "(Lcom/example/quayside/quayside/core/Entries$Link;)Lcom/example/quayside/quayside/core/Entries$Link;"), (3, .methodref 8 97), (0, .nameAndType 98 99), (0, u "outweighs"), (0, u "(Lcom/example/quayside/quayside/core/Entries$Link;Lcom/example/quayside/quayside/core/Entries$Link;)Z"), (0, .methodref 8 101), (0, .nameAndType 102 16), (0, u "weight"), (0, .long 2), (7, .methodref 8 112), (0, .nameAndType 113 114), (0, u "recount"), (0, u "(Lcom/example/quayside/quayside/core/Entries$Link;)V"), (0, .fieldref 8 116), (0, .nameAndType 117 118), (0, u "$assertionsDisabled"), (0, u "Z"), (7, .fieldref 18 127), (0, .nameAndType 15 128), (0, u "I"), (0, .long 3), (6, u "()Z"), (0, .class_ 138), (0, u "java/lang/Iterable"), (0, u "DELTA"), (2, u "GAMMA"), (3, u "isEmpty"), (3, u "putIfAbsent"), (0, u "(Ljava/lang/String;Lcom/example/quayside/quayside/core/Entry;)Lcom/example/quayside/quayside/core/Entry;"), (2, u "remove")] 35

def k10c0 : Code := { maxStack := 1, maxLocals := 1, code := prog_24_method_1_code, exceptionTable := #[], attributes := #[] }
def k10m0 : Method := { name := "<init>", desc := "()V", sig := { parameters := [], returnType := none }, accessFlags := 0, code := some k10c0 }
def k10c1 : Code := { maxStack := 1, maxLocals := 1, code := prog_24_method_2_code, exceptionTable := #[], attributes := #[] }
def k10m1 : Method := { name := "size", desc := "()I", sig := { parameters := [], returnType := some .int }, accessFlags := 0, code := some k10c1 }
def k10c2 : Code := { maxStack := 1, maxLocals := 1, code := prog_24_method_3_code, exceptionTable := #[], attributes := #[] }
def k10m2 : Method := { name := "isEmpty", desc := "()Z", sig := { parameters := [], returnType := some .boolean }, accessFlags := 0, code := some k10c2 }
def k10c3 : Code := { maxStack := 2, maxLocals := 4, code := prog_24_method_4_code, exceptionTable := #[], attributes := #[] }
def k10m3 : Method := { name := "get", desc := "(Ljava/lang/String;)Lcom/example/quayside/quayside/core/Entry;", sig := { parameters := [(.object "java/lang/String")], returnType := some (.object "com/example/quayside/quayside/core/Entry") }, accessFlags := 0, code := some k10c3 }
def k10c4 : Code := { maxStack := 6, maxLocals := 4, code := prog_24_method_6_code, exceptionTable := #[], attributes := #[] }
def k10m4 : Method := { name := "putIfAbsent", desc := "(Ljava/lang/String;Lcom/example/quayside/quayside/core/Entry;)Lcom/example/quayside/quayside/core/Entry;", sig := { parameters := [(.object "java/lang/String"), (.object "com/example/quayside/quayside/core/Entry")], returnType := some (.object "com/example/quayside/quayside/core/Entry") }, accessFlags := 0, code := some k10c4 }
def k10c5 : Code := { maxStack := 3, maxLocals := 3, code := prog_24_method_7_code, exceptionTable := #[], attributes := #[] }
def k10m5 : Method := { name := "remove", desc := "(Ljava/lang/String;)Lcom/example/quayside/quayside/core/Entry;", sig := { parameters := [(.object "java/lang/String")], returnType := some (.object "com/example/quayside/quayside/core/Entry") }, accessFlags := 0, code := some k10c5 }
def k10c6 : Code := { maxStack := 3, maxLocals := 6, code := prog_24_method_11_code, exceptionTable := #[], attributes := #[] }
def k10m6 : Method := { name := "compareNames", desc := "(Ljava/lang/String;Ljava/lang/String;)I", sig := { parameters := [(.object "java/lang/String"), (.object "java/lang/String")], returnType := some .int }, accessFlags := 8, code := some k10c6 }
def k10c7 : Code := { maxStack := 3, maxLocals := 3, code := prog_24_method_12_code, exceptionTable := #[], attributes := #[] }
def k10m7 : Method := { name := "insert", desc := "(Lcom/example/quayside/quayside/core/Entries$Link;Lcom/example/quayside/quayside/core/Entries$Link;)Lcom/example/quayside/quayside/core/Entries$Link;", sig := { parameters := [(.object "com/example/quayside/quayside/core/Entries$Link"), (.object "com/example/quayside/quayside/core/Entries$Link")], returnType := some (.object "com/example/quayside/quayside/core/Entries$Link") }, accessFlags := 10, code := some k10c7 }
def k10c8 : Code := { maxStack := 3, maxLocals := 4, code := prog_24_method_13_code, exceptionTable := #[], attributes := #[] }
def k10m8 : Method := { name := "delete", desc := "(Lcom/example/quayside/quayside/core/Entries$Link;Ljava/lang/String;)Lcom/example/quayside/quayside/core/Entries$Link;", sig := { parameters := [(.object "com/example/quayside/quayside/core/Entries$Link"), (.object "java/lang/String")], returnType := some (.object "com/example/quayside/quayside/core/Entries$Link") }, accessFlags := 10, code := some k10c8 }
def k10c9 : Code := { maxStack := 6, maxLocals := 2, code := prog_24_method_15_code, exceptionTable := #[], attributes := #[] }
def k10m9 : Method := { name := "balance", desc := "(Lcom/example/quayside/quayside/core/Entries$Link;)Lcom/example/quayside/quayside/core/Entries$Link;", sig := { parameters := [(.object "com/example/quayside/quayside/core/Entries$Link")], returnType := some (.object "com/example/quayside/quayside/core/Entries$Link") }, accessFlags := 10, code := some k10c9 }
def k10c10 : Code := { maxStack := 3, maxLocals := 1, code := prog_24_method_18_code, exceptionTable := #[], attributes := #[] }
def k10m10 : Method := { name := "recount", desc := "(Lcom/example/quayside/quayside/core/Entries$Link;)V", sig := { parameters := [(.object "com/example/quayside/quayside/core/Entries$Link")], returnType := none }, accessFlags := 10, code := some k10c10 }
def k10c11 : Code := { maxStack := 6, maxLocals := 2, code := prog_24_method_20_code, exceptionTable := #[], attributes := #[] }
def k10m11 : Method := { name := "outweighs", desc := "(Lcom/example/quayside/quayside/core/Entries$Link;Lcom/example/quayside/quayside/core/Entries$Link;)Z", sig := { parameters := [(.object "com/example/quayside/quayside/core/Entries$Link"), (.object "com/example/quayside/quayside/core/Entries$Link")], returnType := some .boolean }, accessFlags := 10, code := some k10c11 }
def k10c12 : Code := { maxStack := 2, maxLocals := 1, code := prog_24_method_21_code, exceptionTable := #[], attributes := #[] }
def k10m12 : Method := { name := "weight", desc := "(Lcom/example/quayside/quayside/core/Entries$Link;)I", sig := { parameters := [(.object "com/example/quayside/quayside/core/Entries$Link")], returnType := some .int }, accessFlags := 10, code := some k10c12 }
def k10c13 : Code := { maxStack := 1, maxLocals := 1, code := prog_24_method_22_code, exceptionTable := #[], attributes := #[] }
def k10m13 : Method := { name := "size", desc := "(Lcom/example/quayside/quayside/core/Entries$Link;)I", sig := { parameters := [(.object "com/example/quayside/quayside/core/Entries$Link")], returnType := some .int }, accessFlags := 10, code := some k10c13 }
/-- com/example/quayside/quayside/core/Entries -/
def k10 : Class := { plain "com/example/quayside/quayside/core/Entries" (some 0) with
  accessFlags := 48
  interfaces := #[9]
  cf := some (fileOf pool10 8 #[.nestMembers #[55, 18]] #[{ accessFlags := 0, nameIndex := 5, descriptorIndex := 6, attributes := #[] }, { accessFlags := 0, nameIndex := 15, descriptorIndex := 43, attributes := #[] }, { accessFlags := 0, nameIndex := 146, descriptorIndex := 136, attributes := #[] }, { accessFlags := 0, nameIndex := 39, descriptorIndex := 40, attributes := #[] }, { accessFlags := 0, nameIndex := 150, descriptorIndex := 151, attributes := #[] }, { accessFlags := 0, nameIndex := 154, descriptorIndex := 40, attributes := #[] }, { accessFlags := 8, nameIndex := 25, descriptorIndex := 26, attributes := #[] }, { accessFlags := 10, nameIndex := 49, descriptorIndex := 50, attributes := #[] }, { accessFlags := 10, nameIndex := 53, descriptorIndex := 54, attributes := #[] }, { accessFlags := 10, nameIndex := 91, descriptorIndex := 92, attributes := #[] }, { accessFlags := 10, nameIndex := 113, descriptorIndex := 114, attributes := #[] }, { accessFlags := 10, nameIndex := 98, descriptorIndex := 99, attributes := #[] }, { accessFlags := 10, nameIndex := 102, descriptorIndex := 16, attributes := #[] }, { accessFlags := 10, nameIndex := 15, descriptorIndex := 16, attributes := #[] }] 48 2 #[137] #[{ accessFlags := 26, nameIndex := 139, descriptorIndex := 128, attributes := #[] }, { accessFlags := 26, nameIndex := 142, descriptorIndex := 128, attributes := #[] }, { accessFlags := 2, nameIndex := 11, descriptorIndex := 12, attributes := #[] }, { accessFlags := 4120, nameIndex := 117, descriptorIndex := 118, attributes := #[] }])
  fields := #[{ name := "DELTA", type := .int, accessFlags := 26, slot := 0, constantValue := 0 }, { name := "GAMMA", type := .int, accessFlags := 26, slot := 1, constantValue := 0 }, { name := "root", type := (.object "com/example/quayside/quayside/core/Entries$Link"), accessFlags := 2, slot := 0, constantValue := 0 }, { name := "$assertionsDisabled", type := .boolean, accessFlags := 4120, slot := 2, constantValue := 0 }]
  methods := #[k10m0, k10m1, k10m2, k10m3, k10m4, k10m5, k10m6, k10m7, k10m8, k10m9, k10m10, k10m11, k10m12, k10m13]
  instanceTypes := #[(.object "com/example/quayside/quayside/core/Entries$Link")]
  staticTypes := #[.int, .int, .boolean]
  resolved := ⟨(List.range 190).map fun i => if i = 17 then some (.field 13 0) else if i = 18 then some (.cls 13) else if i = 27 then some (.field 13 1) else if i = 31 then some (.field 13 2) else if i = 34 then some (.field 13 3) else if i = 44 then some (.method ⟨13, 0⟩) else if i = 126 then some (.field 13 4) else none⟩
  statics := some 1 }

def pool11 : Array CpInfo := pool [(1, .methodref 2 3), (0, .class_ 4), (0, .nameAndType 5 6), (0, u "java/lang/Object"), (0, u "<init>"), (0, u "()V"), (0, .fieldref 8 9), (0, .class_ 10), (0, .nameAndType 11 12), (0, u "com/example/quayside/quayside/core/Entry"), (0, u "id"), (0, u "J"), (0, .fieldref 8 14), (0, .nameAndType 15 16), (0, u "owner"), (0, u "Ljava/lang/String;"), (0, .fieldref 8 18), (0, .nameAndType 19 16), (0, u "group"), (0, .fieldref 8 21), (0, .nameAndType 22 23), (0, u "permission"), (0, u "I"), (0, .fieldref 8 25), (0, .nameAndType 26 12), (0, u "modificationTime"), (0, .fieldref 8 28), (0, .nameAndType 29 12), (0, u "accessTime"), (0, u "(JLjava/lang/String;Ljava/lang/String;IJJ)V")] 11

def k11c0 : Code := { maxStack := 3, maxLocals := 10, code := prog_28_method_1_code, exceptionTable := #[], attributes := #[] }
def k11m0 : Method := { name := "<init>", desc := "(JLjava/lang/String;Ljava/lang/String;IJJ)V", sig := { parameters := [.long, (.object "java/lang/String"), (.object "java/lang/String"), .int, .long, .long], returnType := none }, accessFlags := 0, code := some k11c0 }
/-- com/example/quayside/quayside/core/Entry -/
def k11 : Class := { plain "com/example/quayside/quayside/core/Entry" (some 0) with
  accessFlags := 1056
  interfaces := #[]
  cf := some (fileOf pool11 8 #[] #[{ accessFlags := 0, nameIndex := 5, descriptorIndex := 30, attributes := #[] }] 1056 2 #[] #[{ accessFlags := 16, nameIndex := 11, descriptorIndex := 12, attributes := #[] }, { accessFlags := 0, nameIndex := 15, descriptorIndex := 16, attributes := #[] }, { accessFlags := 0, nameIndex := 19, descriptorIndex := 16, attributes := #[] }, { accessFlags := 0, nameIndex := 22, descriptorIndex := 23, attributes := #[] }, { accessFlags := 0, nameIndex := 26, descriptorIndex := 12, attributes := #[] }, { accessFlags := 0, nameIndex := 29, descriptorIndex := 12, attributes := #[] }])
  fields := #[{ name := "id", type := .long, accessFlags := 16, slot := 0, constantValue := 0 }, { name := "owner", type := (.object "java/lang/String"), accessFlags := 0, slot := 1, constantValue := 0 }, { name := "group", type := (.object "java/lang/String"), accessFlags := 0, slot := 2, constantValue := 0 }, { name := "permission", type := .int, accessFlags := 0, slot := 3, constantValue := 0 }, { name := "modificationTime", type := .long, accessFlags := 0, slot := 4, constantValue := 0 }, { name := "accessTime", type := .long, accessFlags := 0, slot := 5, constantValue := 0 }]
  methods := #[k11m0]
  instanceTypes := #[.long, (.object "java/lang/String"), (.object "java/lang/String"), .int, .long, .long]
  staticTypes := #[]
  resolved := Array.replicate 42 none
  statics := none }

def pool12 : Array CpInfo := pool [(1, .methodref 2 3), (0, .class_ 4), (0, .nameAndType 5 6), (0, u "com/example/quayside/quayside/core/Entry"), (0, u "<init>"), (0, u "(JLjava/lang/String;Ljava/lang/String;IJJ)V"), (0, .fieldref 8 9), (0, .class_ 10), (0, .nameAndType 11 12), (0, u "com/example/quayside/quayside/core/FileEntry"), (0, u "length"), (0, u "J"), (0, .fieldref 8 14), (0, .nameAndType 15 12), (0, u "blockSize"), (0, .fieldref 8 17), (0, .nameAndType 18 19), (0, u "replication"), (0, u "I"), (0, .fieldref 8 21), (0, .nameAndType 22 12), (0, u "blob"), (2, u "written"), (0, u "Ljava/util/function/LongSupplier;"), (39, u "(JLjava/lang/String;Ljava/lang/String;IJJJIJ)V")] 9

def k12c0 : Code := { maxStack := 10, maxLocals := 15, code := prog_32_method_1_code, exceptionTable := #[], attributes := #[] }
def k12m0 : Method := { name := "<init>", desc := "(JLjava/lang/String;Ljava/lang/String;IJJJIJ)V", sig := { parameters := [.long, (.object "java/lang/String"), (.object "java/lang/String"), .int, .long, .long, .long, .int, .long], returnType := none }, accessFlags := 0, code := some k12c0 }
/-- com/example/quayside/quayside/core/FileEntry -/
def k12 : Class := { plain "com/example/quayside/quayside/core/FileEntry" (some 11) with
  accessFlags := 48
  interfaces := #[]
  cf := some (fileOf pool12 8 #[] #[{ accessFlags := 0, nameIndex := 5, descriptorIndex := 66, attributes := #[] }] 48 2 #[] #[{ accessFlags := 0, nameIndex := 11, descriptorIndex := 12, attributes := #[] }, { accessFlags := 16, nameIndex := 15, descriptorIndex := 12, attributes := #[] }, { accessFlags := 0, nameIndex := 18, descriptorIndex := 19, attributes := #[] }, { accessFlags := 16, nameIndex := 22, descriptorIndex := 12, attributes := #[] }, { accessFlags := 0, nameIndex := 25, descriptorIndex := 26, attributes := #[] }])
  fields := #[{ name := "length", type := .long, accessFlags := 0, slot := 6, constantValue := 0 }, { name := "blockSize", type := .long, accessFlags := 16, slot := 7, constantValue := 0 }, { name := "replication", type := .int, accessFlags := 0, slot := 8, constantValue := 0 }, { name := "blob", type := .long, accessFlags := 16, slot := 9, constantValue := 0 }, { name := "written", type := (.object "java/util/function/LongSupplier"), accessFlags := 0, slot := 10, constantValue := 0 }]
  methods := #[k12m0]
  instanceTypes := #[.long, (.object "java/lang/String"), (.object "java/lang/String"), .int, .long, .long, .long, .long, .int, .long, (.object "java/util/function/LongSupplier")]
  staticTypes := #[]
  resolved := Array.replicate 76 none
  statics := none }

def pool13 : Array CpInfo := pool [(1, .methodref 2 3), (0, .class_ 4), (0, .nameAndType 5 6), (0, u "java/lang/Object"), (0, u "<init>"), (0, u "()V"), (0, .fieldref 8 9), (0, .class_ 10), (0, .nameAndType 11 12), (0, u "com/example/quayside/quayside/core/Entries$Link"), (0, u "size"), (0, u "I"), (0, .fieldref 8 14), (0, .nameAndType 15 16), (0, u "name"), (0, u "Ljava/lang/String;"), (0, .fieldref 8 18), (0, .nameAndType 19 20), (0, u "entry"), (0, u "Lcom/example/quayside/quayside/core/Entry;"), (0, u "left"), (0, u "Lcom/example/quayside/quayside/core/Entries$Link;"), (0, u "right"), (0, u "(Ljava/lang/String;Lcom/example/quayside/quayside/core/Entry;)V"), (7, .class_ 33), (0, u "com/example/quayside/quayside/core/Entries")] 2

def k13c0 : Code := { maxStack := 2, maxLocals := 3, code := prog_25_method_1_code, exceptionTable := #[], attributes := #[] }
def k13m0 : Method := { name := "<init>", desc := "(Ljava/lang/String;Lcom/example/quayside/quayside/core/Entry;)V", sig := { parameters := [(.object "java/lang/String"), (.object "com/example/quayside/quayside/core/Entry")], returnType := none }, accessFlags := 2, code := some k13c0 }
/-- com/example/quayside/quayside/core/Entries$Link -/
def k13 : Class := { plain "com/example/quayside/quayside/core/Entries$Link" (some 0) with
  accessFlags := 48
  interfaces := #[]
  cf := some (fileOf pool13 8 #[.nestHost 32] #[{ accessFlags := 2, nameIndex := 5, descriptorIndex := 24, attributes := #[] }] 48 2 #[] #[{ accessFlags := 18, nameIndex := 15, descriptorIndex := 16, attributes := #[] }, { accessFlags := 18, nameIndex := 19, descriptorIndex := 20, attributes := #[] }, { accessFlags := 2, nameIndex := 21, descriptorIndex := 22, attributes := #[] }, { accessFlags := 2, nameIndex := 23, descriptorIndex := 22, attributes := #[] }, { accessFlags := 2, nameIndex := 11, descriptorIndex := 12, attributes := #[] }])
  fields := #[{ name := "name", type := (.object "java/lang/String"), accessFlags := 18, slot := 0, constantValue := 0 }, { name := "entry", type := (.object "com/example/quayside/quayside/core/Entry"), accessFlags := 18, slot := 1, constantValue := 0 }, { name := "left", type := (.object "com/example/quayside/quayside/core/Entries$Link"), accessFlags := 2, slot := 2, constantValue := 0 }, { name := "right", type := (.object "com/example/quayside/quayside/core/Entries$Link"), accessFlags := 2, slot := 3, constantValue := 0 }, { name := "size", type := .int, accessFlags := 2, slot := 4, constantValue := 0 }]
  methods := #[k13m0]
  instanceTypes := #[(.object "java/lang/String"), (.object "com/example/quayside/quayside/core/Entry"), (.object "com/example/quayside/quayside/core/Entries$Link"), (.object "com/example/quayside/quayside/core/Entries$Link"), .int]
  staticTypes := #[]
  resolved := Array.replicate 36 none
  statics := none }

def pool14 : Array CpInfo := pool [(2, .class_ 4), (1, u "java/lang/Object"), (0, u "<init>"), (0, u "()V"), (17, .class_ 26), (1, u "jdk/internal/util/Preconditions"), (6, u "checkIndex"), (21, .class_ 56), (0, u "jdk/internal/util/Preconditions$4"), (57, .class_ 115), (0, u "jdk/internal/util/Preconditions$1"), (7, u "SIOOBE_FORMATTER"), (0, u "Ljava/util/function/BiFunction;"), (0, .class_ 126), (0, u "jdk/internal/util/Preconditions$2"), (3, u "AIOOBE_FORMATTER"), (0, .class_ 132), (0, u "jdk/internal/util/Preconditions$3"), (3, u "IOOBE_FORMATTER"), (41, u "(IILjava/util/function/BiFunction;)I")] 15

def k14m0 : Method := { name := "<init>", desc := "()V", sig := { parameters := [], returnType := none }, accessFlags := 1, code := none }
def k14c1 : Code := { maxStack := 3, maxLocals := 3, code := jdk_41_method_11_code, exceptionTable := #[], attributes := #[] }
def k14m1 : Method := { name := "checkIndex", desc := "(IILjava/util/function/BiFunction;)I", sig := { parameters := [.int, .int, (.object "java/util/function/BiFunction")], returnType := some .int }, accessFlags := 9, code := some k14c1 }
/-- jdk/internal/util/Preconditions -/
def k14 : Class := { plain "jdk/internal/util/Preconditions" (some 0) with
  accessFlags := 33
  interfaces := #[]
  cf := some (fileOf pool14 24 #[.nestMembers #[55, 131, 125, 114]] #[{ accessFlags := 1, nameIndex := 5, descriptorIndex := 6, attributes := #[] }, { accessFlags := 9, nameIndex := 33, descriptorIndex := 178, attributes := #[] }] 33 2 #[] #[{ accessFlags := 25, nameIndex := 123, descriptorIndex := 124, attributes := #[] }, { accessFlags := 25, nameIndex := 130, descriptorIndex := 124, attributes := #[] }, { accessFlags := 25, nameIndex := 136, descriptorIndex := 124, attributes := #[] }])
  fields := #[{ name := "SIOOBE_FORMATTER", type := (.object "java/util/function/BiFunction"), accessFlags := 25, slot := 0, constantValue := 0 }, { name := "AIOOBE_FORMATTER", type := (.object "java/util/function/BiFunction"), accessFlags := 25, slot := 1, constantValue := 0 }, { name := "IOOBE_FORMATTER", type := (.object "java/util/function/BiFunction"), accessFlags := 25, slot := 2, constantValue := 0 }]
  methods := #[k14m0, k14m1]
  instanceTypes := #[]
  staticTypes := #[(.object "java/util/function/BiFunction"), (.object "java/util/function/BiFunction"), (.object "java/util/function/BiFunction")]
  resolved := Array.replicate 194 none
  statics := some 2 }

def pool15 : Array CpInfo := pool [(2, .class_ 4), (1, u "java/lang/Object"), (0, u "<init>"), (0, u "()V"), (1, .class_ 10), (1, u "java/lang/Number"), (2, .class_ 14), (0, u "java/io/Serializable"), (0, u "serialVersionUID"), (0, u "J")] 20

def k15m0 : Method := { name := "<init>", desc := "()V", sig := { parameters := [], returnType := none }, accessFlags := 1, code := none }
/-- java/lang/Number -/
def k15 : Class := { plain "java/lang/Number" (some 0) with
  accessFlags := 1057
  interfaces := #[2]
  cf := some (fileOf pool15 8 #[] #[{ accessFlags := 1, nameIndex := 5, descriptorIndex := 6, attributes := #[] }] 1057 2 #[13] #[{ accessFlags := 26, nameIndex := 15, descriptorIndex := 16, attributes := #[] }])
  fields := #[{ name := "serialVersionUID", type := .long, accessFlags := 26, slot := 0, constantValue := 0 }]
  methods := #[k15m0]
  instanceTypes := #[]
  staticTypes := #[.long]
  resolved := Array.replicate 37 none
  statics := none }

def pool16 : Array CpInfo := pool [(1, .class_ 2), (0, u "java/lang/Integer"), (16, u "digits"), (0, u "[C"), (39, u "(II)I"), (24, u "DigitOnes"), (0, u "[B"), (2, u "DigitTens"), (99, .class_ 190), (0, u "java/lang/Integer$IntegerCache"), (3, u "I"), (8, .class_ 204), (0, u "java/lang/Number"), (2, u "value"), (53, u "compare"), (40, u "TYPE"), (0, u "Ljava/lang/Class;"), (0, .class_ 305), (0, u "java/lang/Comparable"), (0, .class_ 307), (0, u "java/lang/constant/Constable"), (0, .class_ 309), (0, u "java/lang/constant/ConstantDesc"), (0, u "MIN_VALUE"), (1, u "MAX_VALUE"), (3, u "SIZE"), (1, u "BYTES"), (1, u "serialVersionUID"), (0, u "J")] 131

def k16c0 : Code := { maxStack := 2, maxLocals := 2, code := jdk_33_method_40_code, exceptionTable := #[], attributes := #[] }
def k16m0 : Method := { name := "compare", desc := "(II)I", sig := { parameters := [.int, .int], returnType := some .int }, accessFlags := 9, code := some k16c0 }
/-- java/lang/Integer -/
def k16 : Class := { plain "java/lang/Integer" (some 15) with
  accessFlags := 49
  interfaces := #[3, 5, 6]
  cf := some (fileOf pool16 1 #[.nestMembers #[189]] #[{ accessFlags := 9, nameIndex := 261, descriptorIndex := 60, attributes := #[] }] 49 203 #[304, 306, 308] #[{ accessFlags := 25, nameIndex := 310, descriptorIndex := 194, attributes := #[] }, { accessFlags := 25, nameIndex := 312, descriptorIndex := 194, attributes := #[] }, { accessFlags := 25, nameIndex := 302, descriptorIndex := 303, attributes := #[] }, { accessFlags := 24, nameIndex := 19, descriptorIndex := 20, attributes := #[] }, { accessFlags := 24, nameIndex := 89, descriptorIndex := 86, attributes := #[] }, { accessFlags := 24, nameIndex := 85, descriptorIndex := 86, attributes := #[] }, { accessFlags := 18, nameIndex := 207, descriptorIndex := 194, attributes := #[] }, { accessFlags := 25, nameIndex := 316, descriptorIndex := 194, attributes := #[] }, { accessFlags := 25, nameIndex := 318, descriptorIndex := 194, attributes := #[] }, { accessFlags := 26, nameIndex := 320, descriptorIndex := 321, attributes := #[] }])
  fields := #[{ name := "MIN_VALUE", type := .int, accessFlags := 25, slot := 0, constantValue := 0 }, { name := "MAX_VALUE", type := .int, accessFlags := 25, slot := 1, constantValue := 0 }, { name := "TYPE", type := (.object "java/lang/Class"), accessFlags := 25, slot := 2, constantValue := 0 }, { name := "digits", type := (.array .char), accessFlags := 24, slot := 3, constantValue := 0 }, { name := "DigitTens", type := (.array .byte), accessFlags := 24, slot := 4, constantValue := 0 }, { name := "DigitOnes", type := (.array .byte), accessFlags := 24, slot := 5, constantValue := 0 }, { name := "value", type := .int, accessFlags := 18, slot := 0, constantValue := 0 }, { name := "SIZE", type := .int, accessFlags := 25, slot := 6, constantValue := 0 }, { name := "BYTES", type := .int, accessFlags := 25, slot := 7, constantValue := 0 }, { name := "serialVersionUID", type := .long, accessFlags := 26, slot := 8, constantValue := 0 }]
  methods := #[k16m0]
  instanceTypes := #[.int]
  staticTypes := #[.int, .int, (.object "java/lang/Class"), (.array .char), (.array .byte), (.array .byte), .int, .int, .long]
  resolved := Array.replicate 453 none
  statics := none }

def pool17 : Array CpInfo := pool [(1, .class_ 2), (0, u "java/lang/Character"), (18, u "value"), (0, u "C"), (19, .class_ 44), (1, u "java/lang/Object"), (3, .class_ 50), (1, u "java/lang/Character$CharacterCache"), (22, .integer 65536), (100, u "(I)I"), (109, u "$assertionsDisabled"), (0, u "Z"), (21, .class_ 309), (1, u "java/lang/Character$UnicodeBlock"), (73, u "TYPE"), (0, u "Ljava/lang/Class;"), (0, .class_ 386), (0, u "java/io/Serializable"), (0, .class_ 388), (0, u "java/lang/Comparable"), (0, .class_ 390), (0, u "java/lang/constant/Constable"), (0, u "MIN_RADIX"), (0, u "I"), (2, u "MAX_RADIX"), (1, u "MIN_VALUE"), (1, u "MAX_VALUE"), (3, u "UNASSIGNED"), (0, u "B"), (0, u "UPPERCASE_LETTER"), (1, u "LOWERCASE_LETTER"), (0, u "TITLECASE_LETTER"), (1, u "MODIFIER_LETTER"), (1, u "OTHER_LETTER"), (1, u "NON_SPACING_MARK"), (1, u "ENCLOSING_MARK"), (1, u "COMBINING_SPACING_MARK"), (1, u "DECIMAL_DIGIT_NUMBER"), (1, u "LETTER_NUMBER"), (1, u "OTHER_NUMBER"), (1, u "SPACE_SEPARATOR"), (1, u "LINE_SEPARATOR"), (1, u "PARAGRAPH_SEPARATOR"), (1, u "CONTROL"), (1, u "FORMAT"), (1, u "PRIVATE_USE"), (1, u "SURROGATE"), (1, u "DASH_PUNCTUATION"), (1, u "START_PUNCTUATION"), (1, u "END_PUNCTUATION"), (1, u "CONNECTOR_PUNCTUATION"), (1, u "OTHER_PUNCTUATION"), (1, u "MATH_SYMBOL"), (1, u "CURRENCY_SYMBOL"), (1, u "MODIFIER_SYMBOL"), (1, u "OTHER_SYMBOL"), (1, u "INITIAL_QUOTE_PUNCTUATION"), (1, u "FINAL_QUOTE_PUNCTUATION"), (1, u "ERROR"), (1, u "DIRECTIONALITY_UNDEFINED"), (0, u "DIRECTIONALITY_LEFT_TO_RIGHT"), (0, u "DIRECTIONALITY_RIGHT_TO_LEFT"), (0, u "DIRECTIONALITY_RIGHT_TO_LEFT_ARABIC"), (0, u "DIRECTIONALITY_EUROPEAN_NUMBER"), (0, u "DIRECTIONALITY_EUROPEAN_NUMBER_SEPARATOR"), (0, u "DIRECTIONALITY_EUROPEAN_NUMBER_TERMINATOR"), (0, u "DIRECTIONALITY_ARABIC_NUMBER"), (0, u "DIRECTIONALITY_COMMON_NUMBER_SEPARATOR"), (0, u "DIRECTIONALITY_NONSPACING_MARK"), (0, u "DIRECTIONALITY_BOUNDARY_NEUTRAL"), (0, u "DIRECTIONALITY_PARAGRAPH_SEPARATOR"), (0, u "DIRECTIONALITY_SEGMENT_SEPARATOR"), (0, u "DIRECTIONALITY_WHITESPACE"), (0, u "DIRECTIONALITY_OTHER_NEUTRALS"), (0, u "DIRECTIONALITY_LEFT_TO_RIGHT_EMBEDDING"), (0, u "DIRECTIONALITY_LEFT_TO_RIGHT_OVERRIDE"), (0, u "DIRECTIONALITY_RIGHT_TO_LEFT_EMBEDDING"), (0, u "DIRECTIONALITY_RIGHT_TO_LEFT_OVERRIDE"), (1, u "DIRECTIONALITY_POP_DIRECTIONAL_FORMAT"), (0, u "DIRECTIONALITY_LEFT_TO_RIGHT_ISOLATE"), (0, u "DIRECTIONALITY_RIGHT_TO_LEFT_ISOLATE"), (0, u "DIRECTIONALITY_FIRST_STRONG_ISOLATE"), (0, u "DIRECTIONALITY_POP_DIRECTIONAL_ISOLATE"), (0, u "MIN_HIGH_SURROGATE"), (0, u "MAX_HIGH_SURROGATE"), (1, u "MIN_LOW_SURROGATE"), (0, u "MAX_LOW_SURROGATE"), (1, u "MIN_SURROGATE"), (0, u "MAX_SURROGATE"), (0, u "MIN_SUPPLEMENTARY_CODE_POINT"), (0, u "MIN_CODE_POINT"), (0, u "MAX_CODE_POINT"), (1, u "serialVersionUID"), (0, u "J"), (2, u "SIZE"), (0, u "BYTES"), (29, u "charCount"), (58, .class_ 596), (0, u "java/lang/Character$UnicodeScript"), (0, .class_ 598), (0, u "java/lang/Character$Subset")] 5

def k17c0 : Code := { maxStack := 2, maxLocals := 1, code := jdk_89_method_18_code, exceptionTable := #[], attributes := #[] }
def k17m0 : Method := { name := "charCount", desc := "(I)I", sig := { parameters := [.int], returnType := some .int }, accessFlags := 9, code := some k17c0 }
/-- java/lang/Character -/
def k17 : Class := { plain "java/lang/Character" (some 0) with
  accessFlags := 49
  interfaces := #[2, 3, 5]
  cf := some (fileOf pool17 1 #[.nestMembers #[48, 595, 307, 597]] #[{ accessFlags := 9, nameIndex := 536, descriptorIndex := 174, attributes := #[] }] 49 42 #[385, 387, 389] #[{ accessFlags := 25, nameIndex := 391, descriptorIndex := 392, attributes := #[] }, { accessFlags := 25, nameIndex := 395, descriptorIndex := 392, attributes := #[] }, { accessFlags := 25, nameIndex := 397, descriptorIndex := 22, attributes := #[] }, { accessFlags := 25, nameIndex := 399, descriptorIndex := 22, attributes := #[] }, { accessFlags := 25, nameIndex := 383, descriptorIndex := 384, attributes := #[] }, { accessFlags := 25, nameIndex := 403, descriptorIndex := 404, attributes := #[] }, { accessFlags := 25, nameIndex := 405, descriptorIndex := 404, attributes := #[] }, { accessFlags := 25, nameIndex := 407, descriptorIndex := 404, attributes := #[] }, { accessFlags := 25, nameIndex := 408, descriptorIndex := 404, attributes := #[] }, { accessFlags := 25, nameIndex := 410, descriptorIndex := 404, attributes := #[] }, { accessFlags := 25, nameIndex := 412, descriptorIndex := 404, attributes := #[] }, { accessFlags := 25, nameIndex := 414, descriptorIndex := 404, attributes := #[] }, { accessFlags := 25, nameIndex := 416, descriptorIndex := 404, attributes := #[] }, { accessFlags := 25, nameIndex := 418, descriptorIndex := 404, attributes := #[] }, { accessFlags := 25, nameIndex := 420, descriptorIndex := 404, attributes := #[] }, { accessFlags := 25, nameIndex := 422, descriptorIndex := 404, attributes := #[] }, { accessFlags := 25, nameIndex := 424, descriptorIndex := 404, attributes := #[] }, { accessFlags := 25, nameIndex := 426, descriptorIndex := 404, attributes := #[] }, { accessFlags := 25, nameIndex := 428, descriptorIndex := 404, attributes := #[] }, { accessFlags := 25, nameIndex := 430, descriptorIndex := 404, attributes := #[] }, { accessFlags := 25, nameIndex := 432, descriptorIndex := 404, attributes := #[] }, { accessFlags := 25, nameIndex := 434, descriptorIndex := 404, attributes := #[] }, { accessFlags := 25, nameIndex := 436, descriptorIndex := 404, attributes := #[] }, { accessFlags := 25, nameIndex := 438, descriptorIndex := 404, attributes := #[] }, { accessFlags := 25, nameIndex := 440, descriptorIndex := 404, attributes := #[] }, { accessFlags := 25, nameIndex := 442, descriptorIndex := 404, attributes := #[] }, { accessFlags := 25, nameIndex := 444, descriptorIndex := 404, attributes := #[] }, { accessFlags := 25, nameIndex := 446, descriptorIndex := 404, attributes := #[] }, { accessFlags := 25, nameIndex := 448, descriptorIndex := 404, attributes := #[] }, { accessFlags := 25, nameIndex := 450, descriptorIndex := 404, attributes := #[] }, { accessFlags := 25, nameIndex := 452, descriptorIndex := 404, attributes := #[] }, { accessFlags := 25, nameIndex := 454, descriptorIndex := 404, attributes := #[] }, { accessFlags := 25, nameIndex := 456, descriptorIndex := 404, attributes := #[] }, { accessFlags := 25, nameIndex := 458, descriptorIndex := 404, attributes := #[] }, { accessFlags := 25, nameIndex := 460, descriptorIndex := 404, attributes := #[] }, { accessFlags := 24, nameIndex := 462, descriptorIndex := 392, attributes := #[] }, { accessFlags := 25, nameIndex := 464, descriptorIndex := 404, attributes := #[] }, { accessFlags := 25, nameIndex := 465, descriptorIndex := 404, attributes := #[] }, { accessFlags := 25, nameIndex := 466, descriptorIndex := 404, attributes := #[] }, { accessFlags := 25, nameIndex := 467, descriptorIndex := 404, attributes := #[] }, { accessFlags := 25, nameIndex := 468, descriptorIndex := 404, attributes := #[] }, { accessFlags := 25, nameIndex := 469, descriptorIndex := 404, attributes := #[] }, { accessFlags := 25, nameIndex := 470, descriptorIndex := 404, attributes := #[] }, { accessFlags := 25, nameIndex := 471, descriptorIndex := 404, attributes := #[] }, { accessFlags := 25, nameIndex := 472, descriptorIndex := 404, attributes := #[] }, { accessFlags := 25, nameIndex := 473, descriptorIndex := 404, attributes := #[] }, { accessFlags := 25, nameIndex := 474, descriptorIndex := 404, attributes := #[] }, { accessFlags := 25, nameIndex := 475, descriptorIndex := 404, attributes := #[] }, { accessFlags := 25, nameIndex := 476, descriptorIndex := 404, attributes := #[] }, { accessFlags := 25, nameIndex := 477, descriptorIndex := 404, attributes := #[] }, { accessFlags := 25, nameIndex := 478, descriptorIndex := 404, attributes := #[] }, { accessFlags := 25, nameIndex := 479, descriptorIndex := 404, attributes := #[] }, { accessFlags := 25, nameIndex := 480, descriptorIndex := 404, attributes := #[] }, { accessFlags := 25, nameIndex := 481, descriptorIndex := 404, attributes := #[] }, { accessFlags := 25, nameIndex := 482, descriptorIndex := 404, attributes := #[] }, { accessFlags := 25, nameIndex := 484, descriptorIndex := 404, attributes := #[] }, { accessFlags := 25, nameIndex := 485, descriptorIndex := 404, attributes := #[] }, { accessFlags := 25, nameIndex := 486, descriptorIndex := 404, attributes := #[] }, { accessFlags := 25, nameIndex := 487, descriptorIndex := 404, attributes := #[] }, { accessFlags := 25, nameIndex := 488, descriptorIndex := 404, attributes := #[] }, { accessFlags := 25, nameIndex := 489, descriptorIndex := 22, attributes := #[] }, { accessFlags := 25, nameIndex := 490, descriptorIndex := 22, attributes := #[] }, { accessFlags := 25, nameIndex := 492, descriptorIndex := 22, attributes := #[] }, { accessFlags := 25, nameIndex := 493, descriptorIndex := 22, attributes := #[] }, { accessFlags := 25, nameIndex := 495, descriptorIndex := 22, attributes := #[] }, { accessFlags := 25, nameIndex := 496, descriptorIndex := 22, attributes := #[] }, { accessFlags := 25, nameIndex := 497, descriptorIndex := 392, attributes := #[] }, { accessFlags := 25, nameIndex := 498, descriptorIndex := 392, attributes := #[] }, { accessFlags := 25, nameIndex := 499, descriptorIndex := 392, attributes := #[] }, { accessFlags := 18, nameIndex := 21, descriptorIndex := 22, attributes := #[] }, { accessFlags := 26, nameIndex := 501, descriptorIndex := 502, attributes := #[] }, { accessFlags := 25, nameIndex := 505, descriptorIndex := 392, attributes := #[] }, { accessFlags := 25, nameIndex := 506, descriptorIndex := 392, attributes := #[] }, { accessFlags := 4120, nameIndex := 284, descriptorIndex := 285, attributes := #[] }])
  fields := #[{ name := "MIN_RADIX", type := .int, accessFlags := 25, slot := 0, constantValue := 0 }, { name := "MAX_RADIX", type := .int, accessFlags := 25, slot := 1, constantValue := 0 }, { name := "MIN_VALUE", type := .char, accessFlags := 25, slot := 2, constantValue := 0 }, { name := "MAX_VALUE", type := .char, accessFlags := 25, slot := 3, constantValue := 0 }, { name := "TYPE", type := (.object "java/lang/Class"), accessFlags := 25, slot := 4, constantValue := 0 }, { name := "UNASSIGNED", type := .byte, accessFlags := 25, slot := 5, constantValue := 0 }, { name := "UPPERCASE_LETTER", type := .byte, accessFlags := 25, slot := 6, constantValue := 0 }, { name := "LOWERCASE_LETTER", type := .byte, accessFlags := 25, slot := 7, constantValue := 0 }, { name := "TITLECASE_LETTER", type := .byte, accessFlags := 25, slot := 8, constantValue := 0 }, { name := "MODIFIER_LETTER", type := .byte, accessFlags := 25, slot := 9, constantValue := 0 }, { name := "OTHER_LETTER", type := .byte, accessFlags := 25, slot := 10, constantValue := 0 }, { name := "NON_SPACING_MARK", type := .byte, accessFlags := 25, slot := 11, constantValue := 0 }, { name := "ENCLOSING_MARK", type := .byte, accessFlags := 25, slot := 12, constantValue := 0 }, { name := "COMBINING_SPACING_MARK", type := .byte, accessFlags := 25, slot := 13, constantValue := 0 }, { name := "DECIMAL_DIGIT_NUMBER", type := .byte, accessFlags := 25, slot := 14, constantValue := 0 }, { name := "LETTER_NUMBER", type := .byte, accessFlags := 25, slot := 15, constantValue := 0 }, { name := "OTHER_NUMBER", type := .byte, accessFlags := 25, slot := 16, constantValue := 0 }, { name := "SPACE_SEPARATOR", type := .byte, accessFlags := 25, slot := 17, constantValue := 0 }, { name := "LINE_SEPARATOR", type := .byte, accessFlags := 25, slot := 18, constantValue := 0 }, { name := "PARAGRAPH_SEPARATOR", type := .byte, accessFlags := 25, slot := 19, constantValue := 0 }, { name := "CONTROL", type := .byte, accessFlags := 25, slot := 20, constantValue := 0 }, { name := "FORMAT", type := .byte, accessFlags := 25, slot := 21, constantValue := 0 }, { name := "PRIVATE_USE", type := .byte, accessFlags := 25, slot := 22, constantValue := 0 }, { name := "SURROGATE", type := .byte, accessFlags := 25, slot := 23, constantValue := 0 }, { name := "DASH_PUNCTUATION", type := .byte, accessFlags := 25, slot := 24, constantValue := 0 }, { name := "START_PUNCTUATION", type := .byte, accessFlags := 25, slot := 25, constantValue := 0 }, { name := "END_PUNCTUATION", type := .byte, accessFlags := 25, slot := 26, constantValue := 0 }, { name := "CONNECTOR_PUNCTUATION", type := .byte, accessFlags := 25, slot := 27, constantValue := 0 }, { name := "OTHER_PUNCTUATION", type := .byte, accessFlags := 25, slot := 28, constantValue := 0 }, { name := "MATH_SYMBOL", type := .byte, accessFlags := 25, slot := 29, constantValue := 0 }, { name := "CURRENCY_SYMBOL", type := .byte, accessFlags := 25, slot := 30, constantValue := 0 }, { name := "MODIFIER_SYMBOL", type := .byte, accessFlags := 25, slot := 31, constantValue := 0 }, { name := "OTHER_SYMBOL", type := .byte, accessFlags := 25, slot := 32, constantValue := 0 }, { name := "INITIAL_QUOTE_PUNCTUATION", type := .byte, accessFlags := 25, slot := 33, constantValue := 0 }, { name := "FINAL_QUOTE_PUNCTUATION", type := .byte, accessFlags := 25, slot := 34, constantValue := 0 }, { name := "ERROR", type := .int, accessFlags := 24, slot := 35, constantValue := 0 }, { name := "DIRECTIONALITY_UNDEFINED", type := .byte, accessFlags := 25, slot := 36, constantValue := 0 }, { name := "DIRECTIONALITY_LEFT_TO_RIGHT", type := .byte, accessFlags := 25, slot := 37, constantValue := 0 }, { name := "DIRECTIONALITY_RIGHT_TO_LEFT", type := .byte, accessFlags := 25, slot := 38, constantValue := 0 }, { name := "DIRECTIONALITY_RIGHT_TO_LEFT_ARABIC", type := .byte, accessFlags := 25, slot := 39, constantValue := 0 }, { name := "DIRECTIONALITY_EUROPEAN_NUMBER", type := .byte, accessFlags := 25, slot := 40, constantValue := 0 }, { name := "DIRECTIONALITY_EUROPEAN_NUMBER_SEPARATOR", type := .byte, accessFlags := 25, slot := 41, constantValue := 0 }, { name := "DIRECTIONALITY_EUROPEAN_NUMBER_TERMINATOR", type := .byte, accessFlags := 25, slot := 42, constantValue := 0 }, { name := "DIRECTIONALITY_ARABIC_NUMBER", type := .byte, accessFlags := 25, slot := 43, constantValue := 0 }, { name := "DIRECTIONALITY_COMMON_NUMBER_SEPARATOR", type := .byte, accessFlags := 25, slot := 44, constantValue := 0 }, { name := "DIRECTIONALITY_NONSPACING_MARK", type := .byte, accessFlags := 25, slot := 45, constantValue := 0 }, { name := "DIRECTIONALITY_BOUNDARY_NEUTRAL", type := .byte, accessFlags := 25, slot := 46, constantValue := 0 }, { name := "DIRECTIONALITY_PARAGRAPH_SEPARATOR", type := .byte, accessFlags := 25, slot := 47, constantValue := 0 }, { name := "DIRECTIONALITY_SEGMENT_SEPARATOR", type := .byte, accessFlags := 25, slot := 48, constantValue := 0 }, { name := "DIRECTIONALITY_WHITESPACE", type := .byte, accessFlags := 25, slot := 49, constantValue := 0 }, { name := "DIRECTIONALITY_OTHER_NEUTRALS", type := .byte, accessFlags := 25, slot := 50, constantValue := 0 }, { name := "DIRECTIONALITY_LEFT_TO_RIGHT_EMBEDDING", type := .byte, accessFlags := 25, slot := 51, constantValue := 0 }, { name := "DIRECTIONALITY_LEFT_TO_RIGHT_OVERRIDE", type := .byte, accessFlags := 25, slot := 52, constantValue := 0 }, { name := "DIRECTIONALITY_RIGHT_TO_LEFT_EMBEDDING", type := .byte, accessFlags := 25, slot := 53, constantValue := 0 }, { name := "DIRECTIONALITY_RIGHT_TO_LEFT_OVERRIDE", type := .byte, accessFlags := 25, slot := 54, constantValue := 0 }, { name := "DIRECTIONALITY_POP_DIRECTIONAL_FORMAT", type := .byte, accessFlags := 25, slot := 55, constantValue := 0 }, { name := "DIRECTIONALITY_LEFT_TO_RIGHT_ISOLATE", type := .byte, accessFlags := 25, slot := 56, constantValue := 0 }, { name := "DIRECTIONALITY_RIGHT_TO_LEFT_ISOLATE", type := .byte, accessFlags := 25, slot := 57, constantValue := 0 }, { name := "DIRECTIONALITY_FIRST_STRONG_ISOLATE", type := .byte, accessFlags := 25, slot := 58, constantValue := 0 }, { name := "DIRECTIONALITY_POP_DIRECTIONAL_ISOLATE", type := .byte, accessFlags := 25, slot := 59, constantValue := 0 }, { name := "MIN_HIGH_SURROGATE", type := .char, accessFlags := 25, slot := 60, constantValue := 0 }, { name := "MAX_HIGH_SURROGATE", type := .char, accessFlags := 25, slot := 61, constantValue := 0 }, { name := "MIN_LOW_SURROGATE", type := .char, accessFlags := 25, slot := 62, constantValue := 0 }, { name := "MAX_LOW_SURROGATE", type := .char, accessFlags := 25, slot := 63, constantValue := 0 }, { name := "MIN_SURROGATE", type := .char, accessFlags := 25, slot := 64, constantValue := 0 }, { name := "MAX_SURROGATE", type := .char, accessFlags := 25, slot := 65, constantValue := 0 }, { name := "MIN_SUPPLEMENTARY_CODE_POINT", type := .int, accessFlags := 25, slot := 66, constantValue := 0 }, { name := "MIN_CODE_POINT", type := .int, accessFlags := 25, slot := 67, constantValue := 0 }, { name := "MAX_CODE_POINT", type := .int, accessFlags := 25, slot := 68, constantValue := 0 }, { name := "value", type := .char, accessFlags := 18, slot := 0, constantValue := 0 }, { name := "serialVersionUID", type := .long, accessFlags := 26, slot := 69, constantValue := 0 }, { name := "SIZE", type := .int, accessFlags := 25, slot := 70, constantValue := 0 }, { name := "BYTES", type := .int, accessFlags := 25, slot := 71, constantValue := 0 }, { name := "$assertionsDisabled", type := .boolean, accessFlags := 4120, slot := 72, constantValue := 0 }]
  methods := #[k17m0]
  instanceTypes := #[.char]
  staticTypes := #[.int, .int, .char, .char, (.object "java/lang/Class"), .byte, .byte, .byte, .byte, .byte, .byte, .byte, .byte, .byte, .byte, .byte, .byte, .byte, .byte, .byte, .byte, .byte, .byte, .byte, .byte, .byte, .byte, .byte, .byte, .byte, .byte, .byte, .byte, .byte, .byte, .int, .byte, .byte, .byte, .byte, .byte, .byte, .byte, .byte, .byte, .byte, .byte, .byte, .byte, .byte, .byte, .byte, .byte, .byte, .byte, .byte, .byte, .byte, .byte, .byte, .char, .char, .char, .char, .char, .char, .int, .int, .int, .long, .int, .int, .boolean]
  resolved := Array.replicate 604 none
  statics := none }

def pool18 : Array CpInfo := pool [(2, .class_ 4), (1, u "java/lang/Object"), (3, .class_ 10), (1, u "java/lang/Boolean"), (0, u "value"), (0, u "Z"), (16, u "TRUE"), (0, u "Ljava/lang/Boolean;"), (2, u "FALSE"), (24, u "compare"), (0, u "(ZZ)I"), (27, u "TYPE"), (0, u "Ljava/lang/Class;"), (0, .class_ 90), (0, u "java/io/Serializable"), (0, .class_ 92), (0, u "java/lang/Comparable"), (0, .class_ 94), (0, u "java/lang/constant/Constable"), (2, u "serialVersionUID"), (0, u "J")] 53

def k18c0 : Code := { maxStack := 2, maxLocals := 2, code := jdk_2055_method_14_code, exceptionTable := #[], attributes := #[] }
def k18m0 : Method := { name := "compare", desc := "(ZZ)I", sig := { parameters := [.boolean, .boolean], returnType := some .int }, accessFlags := 9, code := some k18c0 }
/-- java/lang/Boolean -/
def k18 : Class := { plain "java/lang/Boolean" (some 0) with
  accessFlags := 49
  interfaces := #[2, 3, 5]
  cf := some (fileOf pool18 8 #[] #[{ accessFlags := 9, nameIndex := 58, descriptorIndex := 59, attributes := #[] }] 49 2 #[89, 91, 93] #[{ accessFlags := 25, nameIndex := 29, descriptorIndex := 30, attributes := #[] }, { accessFlags := 25, nameIndex := 33, descriptorIndex := 30, attributes := #[] }, { accessFlags := 25, nameIndex := 87, descriptorIndex := 88, attributes := #[] }, { accessFlags := 18, nameIndex := 11, descriptorIndex := 12, attributes := #[] }, { accessFlags := 26, nameIndex := 97, descriptorIndex := 98, attributes := #[] }])
  fields := #[{ name := "TRUE", type := (.object "java/lang/Boolean"), accessFlags := 25, slot := 0, constantValue := 0 }, { name := "FALSE", type := (.object "java/lang/Boolean"), accessFlags := 25, slot := 1, constantValue := 0 }, { name := "TYPE", type := (.object "java/lang/Class"), accessFlags := 25, slot := 2, constantValue := 0 }, { name := "value", type := .boolean, accessFlags := 18, slot := 0, constantValue := 0 }, { name := "serialVersionUID", type := .long, accessFlags := 26, slot := 3, constantValue := 0 }]
  methods := #[k18m0]
  instanceTypes := #[.boolean]
  staticTypes := #[(.object "java/lang/Boolean"), (.object "java/lang/Boolean"), (.object "java/lang/Class"), .long]
  resolved := Array.replicate 152 none
  statics := none }

def pool19 : Array CpInfo := pool [(9, u "<init>"), (6, .class_ 18), (1, u "java/lang/Object"), (0, u "()V"), (1, .class_ 23), (1, u "jdk/internal/util/ArraysSupport"), (0, u "LOG2_ARRAY_LONG_INDEX_SCALE"), (0, u "I"), (2, u "U"), (0, u "Ljdk/internal/misc/Unsafe;"), (8, u "BIG_ENDIAN"), (0, u "Z"), (8, u "LOG2_BYTE_BIT_SIZE"), (4, u "LOG2_ARRAY_INT_INDEX_SCALE"), (54, u "JLA"), (0, u "Ljdk/internal/access/JavaLangAccess;"), (11, u "LOG2_ARRAY_BOOLEAN_INDEX_SCALE"), (9, u "LOG2_ARRAY_BYTE_INDEX_SCALE"), (5, u "LOG2_ARRAY_CHAR_INDEX_SCALE"), (5, u "LOG2_ARRAY_SHORT_INDEX_SCALE"), (18, u "LOG2_ARRAY_FLOAT_INDEX_SCALE"), (24, u "LOG2_ARRAY_DOUBLE_INDEX_SCALE"), (89, u "T_BOOLEAN"), (2, u "T_CHAR"), (1, u "T_FLOAT"), (1, u "T_DOUBLE"), (1, u "T_BYTE"), (1, u "T_SHORT"), (1, u "T_INT"), (1, u "T_LONG"), (1, u "SOFT_MAX_ARRAY_LENGTH")] 83

def k19m0 : Method := { name := "<init>", desc := "()V", sig := { parameters := [], returnType := none }, accessFlags := 2, code := none }
/-- jdk/internal/util/ArraysSupport -/
def k19 : Class := { plain "jdk/internal/util/ArraysSupport" (some 0) with
  accessFlags := 33
  interfaces := #[]
  cf := some (fileOf pool19 21 #[] #[{ accessFlags := 2, nameIndex := 9, descriptorIndex := 19, attributes := #[] }] 33 16 #[] #[{ accessFlags := 24, nameIndex := 28, descriptorIndex := 29, attributes := #[] }, { accessFlags := 26, nameIndex := 38, descriptorIndex := 39, attributes := #[] }, { accessFlags := 25, nameIndex := 121, descriptorIndex := 25, attributes := #[] }, { accessFlags := 25, nameIndex := 131, descriptorIndex := 25, attributes := #[] }, { accessFlags := 25, nameIndex := 137, descriptorIndex := 25, attributes := #[] }, { accessFlags := 25, nameIndex := 143, descriptorIndex := 25, attributes := #[] }, { accessFlags := 25, nameIndex := 53, descriptorIndex := 25, attributes := #[] }, { accessFlags := 25, nameIndex := 24, descriptorIndex := 25, attributes := #[] }, { accessFlags := 25, nameIndex := 162, descriptorIndex := 25, attributes := #[] }, { accessFlags := 25, nameIndex := 187, descriptorIndex := 25, attributes := #[] }, { accessFlags := 26, nameIndex := 48, descriptorIndex := 25, attributes := #[] }, { accessFlags := 25, nameIndex := 277, descriptorIndex := 25, attributes := #[] }, { accessFlags := 25, nameIndex := 280, descriptorIndex := 25, attributes := #[] }, { accessFlags := 25, nameIndex := 282, descriptorIndex := 25, attributes := #[] }, { accessFlags := 25, nameIndex := 284, descriptorIndex := 25, attributes := #[] }, { accessFlags := 25, nameIndex := 286, descriptorIndex := 25, attributes := #[] }, { accessFlags := 25, nameIndex := 288, descriptorIndex := 25, attributes := #[] }, { accessFlags := 25, nameIndex := 290, descriptorIndex := 25, attributes := #[] }, { accessFlags := 25, nameIndex := 292, descriptorIndex := 25, attributes := #[] }, { accessFlags := 26, nameIndex := 108, descriptorIndex := 109, attributes := #[] }, { accessFlags := 25, nameIndex := 294, descriptorIndex := 25, attributes := #[] }])
  fields := #[{ name := "U", type := (.object "jdk/internal/misc/Unsafe"), accessFlags := 24, slot := 0, constantValue := 0 }, { name := "BIG_ENDIAN", type := .boolean, accessFlags := 26, slot := 1, constantValue := 0 }, { name := "LOG2_ARRAY_BOOLEAN_INDEX_SCALE", type := .int, accessFlags := 25, slot := 2, constantValue := 0 }, { name := "LOG2_ARRAY_BYTE_INDEX_SCALE", type := .int, accessFlags := 25, slot := 3, constantValue := 0 }, { name := "LOG2_ARRAY_CHAR_INDEX_SCALE", type := .int, accessFlags := 25, slot := 4, constantValue := 0 }, { name := "LOG2_ARRAY_SHORT_INDEX_SCALE", type := .int, accessFlags := 25, slot := 5, constantValue := 0 }, { name := "LOG2_ARRAY_INT_INDEX_SCALE", type := .int, accessFlags := 25, slot := 6, constantValue := 0 }, { name := "LOG2_ARRAY_LONG_INDEX_SCALE", type := .int, accessFlags := 25, slot := 7, constantValue := 0 }, { name := "LOG2_ARRAY_FLOAT_INDEX_SCALE", type := .int, accessFlags := 25, slot := 8, constantValue := 0 }, { name := "LOG2_ARRAY_DOUBLE_INDEX_SCALE", type := .int, accessFlags := 25, slot := 9, constantValue := 0 }, { name := "LOG2_BYTE_BIT_SIZE", type := .int, accessFlags := 26, slot := 10, constantValue := 0 }, { name := "T_BOOLEAN", type := .int, accessFlags := 25, slot := 11, constantValue := 0 }, { name := "T_CHAR", type := .int, accessFlags := 25, slot := 12, constantValue := 0 }, { name := "T_FLOAT", type := .int, accessFlags := 25, slot := 13, constantValue := 0 }, { name := "T_DOUBLE", type := .int, accessFlags := 25, slot := 14, constantValue := 0 }, { name := "T_BYTE", type := .int, accessFlags := 25, slot := 15, constantValue := 0 }, { name := "T_SHORT", type := .int, accessFlags := 25, slot := 16, constantValue := 0 }, { name := "T_INT", type := .int, accessFlags := 25, slot := 17, constantValue := 0 }, { name := "T_LONG", type := .int, accessFlags := 25, slot := 18, constantValue := 0 }, { name := "JLA", type := (.object "jdk/internal/access/JavaLangAccess"), accessFlags := 26, slot := 19, constantValue := 0 }, { name := "SOFT_MAX_ARRAY_LENGTH", type := .int, accessFlags := 25, slot := 20, constantValue := 0 }]
  methods := #[k19m0]
  instanceTypes := #[]
  staticTypes := #[(.object "jdk/internal/misc/Unsafe"), .boolean, .int, .int, .int, .int, .int, .int, .int, .int, .int, .int, .int, .int, .int, .int, .int, .int, .int, (.object "jdk/internal/access/JavaLangAccess"), .int]
  resolved := Array.replicate 378 none
  statics := none }

def pool20 : Array CpInfo := pool [(1, u "java/lang/Cloneable"), (0, .class_ 1), (0, u "java/lang/Object"), (0, .class_ 3)] 3

/-- java/lang/Cloneable -/
def k20 : Class := { plain "java/lang/Cloneable" (some 0) with
  accessFlags := 1537
  interfaces := #[]
  cf := some (fileOf pool20 2 #[] #[] 1537 4 #[] #[])
  fields := #[]
  methods := #[]
  instanceTypes := #[]
  staticTypes := #[]
  resolved := Array.replicate 8 none
  statics := none }

/-- the primitive byte -/
def k21 : Class := { plain "byte" none with kind := .primitive 'B', accessFlags := 0x411 }
/-- [B -/
def k22 : Class := { plain "[B" (some 0) with kind := .array 21 .byte, interfaces := #[20, 2], accessFlags := 1041 }

/-- the primitive int -/
def k23 : Class := { plain "int" none with kind := .primitive 'I', accessFlags := 0x411 }
/-- [I -/
def k24 : Class := { plain "[I" (some 0) with kind := .array 23 .int, interfaces := #[20, 2], accessFlags := 1041 }

def heap : Heap := #[{ cls := 7, slots := #[.long 0, .int 1, .null, .int 0, .null, .int 0, .int 0], vm := .statics 7 },
  { cls := 10, slots := #[.int 0, .int 0, .int 1], vm := .statics 10 },
  { cls := 14, slots := #[.null, .null, .null], vm := .statics 14 }]
def classes : Array Class := #[k0, k1, k2, k3, k4, k5, k6, k7, k8, k9, k10, k11, k12, k13, k14, k15, k16, k17, k18, k19, k20, k21, k22, k23, k24]
def interned : List (Array UInt16 × Addr) := []
def slotsUsed : Nat := 13
def theMethod : MethodId := ⟨1, 1⟩
def args0 : Array Value := #[.int 5, .int 5, .int 5]
def aboutOver (below : List Frame) : State where
  vm := { classes := classes, interned := interned.toArray }
  heap := heap
  slotsUsed := slotsUsed
  threads := #[{ frames := .invoking theMethod args0 :: below }]
def below0 : List Frame := [.native { method := ⟨0, 0⟩, args := #[] }]
def about1 : State := aboutOver below0
def p0 : Program := .bare "" "" ""
def e0 : Env := launch0.env 0 0 0
theorem w_frames : about1.frames = Frame.invoking theMethod args0 :: below0 := rfl
set_option maxRecDepth 65536 in
theorem w_args : argsFit about1.vm theMethod args0 = true := by decide +kernel
set_option maxRecDepth 65536 in
theorem w_heap : heapFits about1 = true := by decide +kernel
set_option maxRecDepth 65536 in
theorem w_runnable : about1.curStatus? = some .runnable := by decide +kernel
set_option maxRecDepth 65536 in
theorem w_alone : about1.alone = true := by decide +kernel
set_option maxRecDepth 65536 in
theorem w_named : about1.methodNamed? x = some theMethod := by decide +kernel
set_option maxRecDepth 65536 in
theorem w_hears : about1.hears theMethod below0 = true := by decide +kernel
set_option maxRecDepth 65536 in
theorem w_ripe : about1.ripe theMethod args0 below0 = true := by decide +kernel
theorem w_running : about1.status = .running := rfl
set_option maxRecDepth 65536 in
theorem w_room : about1.hasRoom e0.platform room_1 = true :=
  launch0.hasRoom_least _ room_1 (by decide +kernel) (by decide +kernel) (by decide +kernel) (by decide +kernel) (by decide +kernel) (by decide +kernel)
theorem allAtoms_all (ts : List Jvm.Cond) (a : Array Jvm.Value) (st : Jvm.State) : (allAtoms ts).before a st = ts.all (fun c => c.before a st) := by
  induction ts with
  | nil => rfl
  | cons c t ih =>
    show (Jvm.Cond.and c (allAtoms t)).before a st = _
    rw [Jvm.Cond.before_and, ih, List.all_cons]
def words1 : List Jvm.Cond := Jvm.Cond.code x code maxLocals ret :: tables_1
/-- a 'code' word, met by the world's own term for the bytes: nothing is compared byte by byte -/
theorem code_word {y : MethodName} {bytes : ByteArray} {mx : Nat} {rt : Option FieldType} {a : Array Value} {s : State} {m : MethodId} {meth : Method} {c : Code} (h1 : s.methodNamed? y = some m) (h2 : s.vm.method? m = some meth) (h3 : meth.code = some c) (h4 : c.code = bytes)
    (h5 : (c.maxLocals == mx && c.exceptionTable.isEmpty && decide (c.maxStack ≤ mostOperands) && decide (meth.sig.returnType = rt) && !meth.locks && decide (parseMethodDescriptor y.desc = some meth.sig)) = true) : (Jvm.Cond.code y bytes mx rt).before a s = true := by
  simp only [Bool.and_eq_true, beq_iff_eq, Bool.not_eq_true', decide_eq_true_eq] at h5
  obtain ⟨⟨⟨⟨⟨g1, g2⟩, g3⟩, g4⟩, g5⟩, g6⟩ := h5
  simp [Cond.before, Cond.holds, Cond.value, h1, h2, h3, h4, g1, g2, g3, g4, g5, g6]
def isCode : Jvm.Cond → Bool
  | .code _ _ _ _ => true
  | _ => false
theorem all_split {L : List Jvm.Cond} {P : Jvm.Cond → Bool} (h1 : L.all (fun c => isCode c || P c) = true) (h2 : ∀ c ∈ L.filter isCode, P c = true) : L.all P = true := by
  refine List.all_eq_true.mpr fun c hc => ?_
  have h := List.all_eq_true.mp h1 c hc
  rcases Bool.eq_false_or_eq_true (isCode c) with hi | hi
  · exact h2 c (List.mem_filter.mpr ⟨hc, hi⟩)
  · simpa [hi] using h
set_option maxRecDepth 65536 in
theorem w_c0 : (Jvm.Cond.code x code maxLocals ret).before args0 about1 = true := code_word (m := ⟨1, 1⟩) (meth := k1m1) (c := k1c1) (by decide +kernel) rfl rfl rfl (by decide +kernel)
set_option maxRecDepth 65536 in
theorem w_c1 : (Jvm.Cond.code ({ cls := "java/lang/String", name := "valueOf", desc := "(C)Ljava/lang/String;" } : Jvm.MethodName) jdk_42_method_139_code (1 : Nat) (Option.some (Jvm.ClassFile.FieldType.object "java/lang/String"))).before args0 about1 = true := code_word (m := ⟨7, 3⟩) (meth := k7m3) (c := k7c3) (by decide +kernel) rfl rfl rfl (by decide +kernel)
set_option maxRecDepth 65536 in
theorem w_c2 : (Jvm.Cond.code ({ cls := "java/lang/StringLatin1", name := "canEncode", desc := "(C)Z" } : Jvm.MethodName) jdk_43_method_3_code (1 : Nat) (Option.some Jvm.ClassFile.FieldType.boolean)).before args0 about1 = true := code_word (m := ⟨8, 1⟩) (meth := k8m1) (c := k8c1) (by decide +kernel) rfl rfl rfl (by decide +kernel)
set_option maxRecDepth 65536 in
theorem w_c3 : (Jvm.Cond.code ({ cls := "java/lang/StringLatin1", name := "toBytes", desc := "(C)[B" } : Jvm.MethodName) jdk_43_method_46_code (1 : Nat) (Option.some (Jvm.ClassFile.FieldType.array Jvm.ClassFile.FieldType.byte))).before args0 about1 = true := code_word (m := ⟨8, 2⟩) (meth := k8m2) (c := k8c2) (by decide +kernel) rfl rfl rfl (by decide +kernel)
set_option maxRecDepth 65536 in
theorem w_c4 : (Jvm.Cond.code ({ cls := "java/lang/String", name := "<init>", desc := "([BB)V" } : Jvm.MethodName) jdk_42_method_151_code (3 : Nat) (Option.none : Option Jvm.ClassFile.FieldType)).before args0 about1 = true := code_word (m := ⟨7, 4⟩) (meth := k7m4) (c := k7c4) (by decide +kernel) rfl rfl rfl (by decide +kernel)
set_option maxRecDepth 65536 in
theorem w_c5 : (Jvm.Cond.code ({ cls := "java/lang/Object", name := "<init>", desc := "()V" } : Jvm.MethodName) object_method_1_code (1 : Nat) (Option.none : Option Jvm.ClassFile.FieldType)).before args0 about1 = true := code_word (m := ⟨0, 0⟩) (meth := k0m0) (c := k0c0) (by decide +kernel) rfl rfl rfl (by decide +kernel)
set_option maxRecDepth 65536 in
theorem w_c6 : (Jvm.Cond.code ({ cls := "com/example/quayside/quayside/core/Entries", name := "<init>", desc := "()V" } : Jvm.MethodName) prog_24_method_1_code (1 : Nat) (Option.none : Option Jvm.ClassFile.FieldType)).before args0 about1 = true := code_word (m := ⟨10, 0⟩) (meth := k10m0) (c := k10c0) (by decide +kernel) rfl rfl rfl (by decide +kernel)
set_option maxRecDepth 65536 in
theorem w_c7 : (Jvm.Cond.code ({ cls := "com/example/quayside/quayside/core/FileEntry", name := "<init>", desc := "(JLjava/lang/String;Ljava/lang/String;IJJJIJ)V" } : Jvm.MethodName) prog_32_method_1_code (15 : Nat) (Option.none : Option Jvm.ClassFile.FieldType)).before args0 about1 = true := code_word (m := ⟨12, 0⟩) (meth := k12m0) (c := k12c0) (by decide +kernel) rfl rfl rfl (by decide +kernel)
set_option maxRecDepth 65536 in
theorem w_c8 : (Jvm.Cond.code ({ cls := "com/example/quayside/quayside/core/Entry", name := "<init>", desc := "(JLjava/lang/String;Ljava/lang/String;IJJ)V" } : Jvm.MethodName) prog_28_method_1_code (10 : Nat) (Option.none : Option Jvm.ClassFile.FieldType)).before args0 about1 = true := code_word (m := ⟨11, 0⟩) (meth := k11m0) (c := k11c0) (by decide +kernel) rfl rfl rfl (by decide +kernel)
set_option maxRecDepth 65536 in
theorem w_c9 : (Jvm.Cond.code ({ cls := "com/example/quayside/quayside/core/Entries", name := "isEmpty", desc := "()Z" } : Jvm.MethodName) prog_24_method_3_code (1 : Nat) (Option.some Jvm.ClassFile.FieldType.boolean)).before args0 about1 = true := code_word (m := ⟨10, 2⟩) (meth := k10m2) (c := k10c2) (by decide +kernel) rfl rfl rfl (by decide +kernel)
set_option maxRecDepth 65536 in
theorem w_c10 : (Jvm.Cond.code ({ cls := "com/example/quayside/quayside/core/Entries", name := "putIfAbsent", desc := "(Ljava/lang/String;Lcom/example/quayside/quayside/core/Entry;)Lcom/example/quayside/quayside/core/Entry;" } : Jvm.MethodName) prog_24_method_6_code (4 : Nat) (Option.some (Jvm.ClassFile.FieldType.object "com/example/quayside/quayside/core/Entry"))).before args0 about1 = true := code_word (m := ⟨10, 4⟩) (meth := k10m4) (c := k10c4) (by decide +kernel) rfl rfl rfl (by decide +kernel)
set_option maxRecDepth 65536 in
theorem w_c11 : (Jvm.Cond.code ({ cls := "com/example/quayside/quayside/core/Entries", name := "size", desc := "()I" } : Jvm.MethodName) prog_24_method_2_code (1 : Nat) (Option.some Jvm.ClassFile.FieldType.int)).before args0 about1 = true := code_word (m := ⟨10, 1⟩) (meth := k10m1) (c := k10c1) (by decide +kernel) rfl rfl rfl (by decide +kernel)
set_option maxRecDepth 65536 in
theorem w_c12 : (Jvm.Cond.code ({ cls := "com/example/quayside/quayside/core/Entries", name := "size", desc := "(Lcom/example/quayside/quayside/core/Entries$Link;)I" } : Jvm.MethodName) prog_24_method_22_code (1 : Nat) (Option.some Jvm.ClassFile.FieldType.int)).before args0 about1 = true := code_word (m := ⟨10, 13⟩) (meth := k10m13) (c := k10c13) (by decide +kernel) rfl rfl rfl (by decide +kernel)
set_option maxRecDepth 65536 in
theorem w_c13 : (Jvm.Cond.code ({ cls := "com/example/quayside/quayside/core/Entries$Link", name := "<init>", desc := "(Ljava/lang/String;Lcom/example/quayside/quayside/core/Entry;)V" } : Jvm.MethodName) prog_25_method_1_code (3 : Nat) (Option.none : Option Jvm.ClassFile.FieldType)).before args0 about1 = true := code_word (m := ⟨13, 0⟩) (meth := k13m0) (c := k13c0) (by decide +kernel) rfl rfl rfl (by decide +kernel)
set_option maxRecDepth 65536 in
theorem w_c14 : (Jvm.Cond.code ({ cls := "com/example/quayside/quayside/core/Entries", name := "insert", desc := "(Lcom/example/quayside/quayside/core/Entries$Link;Lcom/example/quayside/quayside/core/Entries$Link;)Lcom/example/quayside/quayside/core/Entries$Link;" } : Jvm.MethodName) prog_24_method_12_code (3 : Nat) (Option.some (Jvm.ClassFile.FieldType.object "com/example/quayside/quayside/core/Entries$Link"))).before args0 about1 = true := code_word (m := ⟨10, 7⟩) (meth := k10m7) (c := k10c7) (by decide +kernel) rfl rfl rfl (by decide +kernel)
set_option maxRecDepth 65536 in
theorem w_c15 : (Jvm.Cond.code ({ cls := "com/example/quayside/quayside/core/Entries", name := "compareNames", desc := "(Ljava/lang/String;Ljava/lang/String;)I" } : Jvm.MethodName) prog_24_method_11_code (6 : Nat) (Option.some Jvm.ClassFile.FieldType.int)).before args0 about1 = true := code_word (m := ⟨10, 6⟩) (meth := k10m6) (c := k10c6) (by decide +kernel) rfl rfl rfl (by decide +kernel)
set_option maxRecDepth 65536 in
theorem w_c16 : (Jvm.Cond.code ({ cls := "java/lang/String", name := "length", desc := "()I" } : Jvm.MethodName) jdk_42_method_54_code (1 : Nat) (Option.some Jvm.ClassFile.FieldType.int)).before args0 about1 = true := code_word (m := ⟨7, 1⟩) (meth := k7m1) (c := k7c1) (by decide +kernel) rfl rfl rfl (by decide +kernel)
set_option maxRecDepth 65536 in
theorem w_c17 : (Jvm.Cond.code ({ cls := "java/lang/String", name := "coder", desc := "()B" } : Jvm.MethodName) jdk_42_method_152_code (1 : Nat) (Option.some Jvm.ClassFile.FieldType.byte)).before args0 about1 = true := code_word (m := ⟨7, 5⟩) (meth := k7m5) (c := k7c5) (by decide +kernel) rfl rfl rfl (by decide +kernel)
set_option maxRecDepth 65536 in
theorem w_c18 : (Jvm.Cond.code ({ cls := "java/lang/String", name := "codePointAt", desc := "(I)I" } : Jvm.MethodName) jdk_42_method_57_code (3 : Nat) (Option.some Jvm.ClassFile.FieldType.int)).before args0 about1 = true := code_word (m := ⟨7, 2⟩) (meth := k7m2) (c := k7c2) (by decide +kernel) rfl rfl rfl (by decide +kernel)
set_option maxRecDepth 65536 in
theorem w_c19 : (Jvm.Cond.code ({ cls := "java/lang/String", name := "isLatin1", desc := "()Z" } : Jvm.MethodName) jdk_42_method_154_code (1 : Nat) (Option.some Jvm.ClassFile.FieldType.boolean)).before args0 about1 = true := code_word (m := ⟨7, 6⟩) (meth := k7m6) (c := k7c6) (by decide +kernel) rfl rfl rfl (by decide +kernel)
set_option maxRecDepth 65536 in
theorem w_c20 : (Jvm.Cond.code ({ cls := "java/lang/String", name := "checkIndex", desc := "(II)V" } : Jvm.MethodName) jdk_42_method_155_code (2 : Nat) (Option.none : Option Jvm.ClassFile.FieldType)).before args0 about1 = true := code_word (m := ⟨7, 7⟩) (meth := k7m7) (c := k7c7) (by decide +kernel) rfl rfl rfl (by decide +kernel)
set_option maxRecDepth 65536 in
theorem w_c21 : (Jvm.Cond.code ({ cls := "jdk/internal/util/Preconditions", name := "checkIndex", desc := "(IILjava/util/function/BiFunction;)I" } : Jvm.MethodName) jdk_41_method_11_code (3 : Nat) (Option.some Jvm.ClassFile.FieldType.int)).before args0 about1 = true := code_word (m := ⟨14, 1⟩) (meth := k14m1) (c := k14c1) (by decide +kernel) rfl rfl rfl (by decide +kernel)
set_option maxRecDepth 65536 in
theorem w_c22 : (Jvm.Cond.code ({ cls := "java/lang/Integer", name := "compare", desc := "(II)I" } : Jvm.MethodName) jdk_33_method_40_code (2 : Nat) (Option.some Jvm.ClassFile.FieldType.int)).before args0 about1 = true := code_word (m := ⟨16, 0⟩) (meth := k16m0) (c := k16c0) (by decide +kernel) rfl rfl rfl (by decide +kernel)
set_option maxRecDepth 65536 in
theorem w_c23 : (Jvm.Cond.code ({ cls := "com/example/quayside/quayside/core/Entries", name := "balance", desc := "(Lcom/example/quayside/quayside/core/Entries$Link;)Lcom/example/quayside/quayside/core/Entries$Link;" } : Jvm.MethodName) prog_24_method_15_code (2 : Nat) (Option.some (Jvm.ClassFile.FieldType.object "com/example/quayside/quayside/core/Entries$Link"))).before args0 about1 = true := code_word (m := ⟨10, 9⟩) (meth := k10m9) (c := k10c9) (by decide +kernel) rfl rfl rfl (by decide +kernel)
set_option maxRecDepth 65536 in
theorem w_c24 : (Jvm.Cond.code ({ cls := "com/example/quayside/quayside/core/Entries", name := "outweighs", desc := "(Lcom/example/quayside/quayside/core/Entries$Link;Lcom/example/quayside/quayside/core/Entries$Link;)Z" } : Jvm.MethodName) prog_24_method_20_code (2 : Nat) (Option.some Jvm.ClassFile.FieldType.boolean)).before args0 about1 = true := code_word (m := ⟨10, 11⟩) (meth := k10m11) (c := k10c11) (by decide +kernel) rfl rfl rfl (by decide +kernel)
set_option maxRecDepth 65536 in
theorem w_c25 : (Jvm.Cond.code ({ cls := "com/example/quayside/quayside/core/Entries", name := "weight", desc := "(Lcom/example/quayside/quayside/core/Entries$Link;)I" } : Jvm.MethodName) prog_24_method_21_code (1 : Nat) (Option.some Jvm.ClassFile.FieldType.int)).before args0 about1 = true := code_word (m := ⟨10, 12⟩) (meth := k10m12) (c := k10c12) (by decide +kernel) rfl rfl rfl (by decide +kernel)
set_option maxRecDepth 65536 in
theorem w_c26 : (Jvm.Cond.code ({ cls := "com/example/quayside/quayside/core/Entries", name := "recount", desc := "(Lcom/example/quayside/quayside/core/Entries$Link;)V" } : Jvm.MethodName) prog_24_method_18_code (1 : Nat) (Option.none : Option Jvm.ClassFile.FieldType)).before args0 about1 = true := code_word (m := ⟨10, 10⟩) (meth := k10m10) (c := k10c10) (by decide +kernel) rfl rfl rfl (by decide +kernel)
set_option maxRecDepth 65536 in
theorem w_c27 : (Jvm.Cond.code ({ cls := "com/example/quayside/quayside/core/Entries", name := "remove", desc := "(Ljava/lang/String;)Lcom/example/quayside/quayside/core/Entry;" } : Jvm.MethodName) prog_24_method_7_code (3 : Nat) (Option.some (Jvm.ClassFile.FieldType.object "com/example/quayside/quayside/core/Entry"))).before args0 about1 = true := code_word (m := ⟨10, 5⟩) (meth := k10m5) (c := k10c5) (by decide +kernel) rfl rfl rfl (by decide +kernel)
set_option maxRecDepth 65536 in
theorem w_c28 : (Jvm.Cond.code ({ cls := "com/example/quayside/quayside/core/Entries", name := "get", desc := "(Ljava/lang/String;)Lcom/example/quayside/quayside/core/Entry;" } : Jvm.MethodName) prog_24_method_4_code (4 : Nat) (Option.some (Jvm.ClassFile.FieldType.object "com/example/quayside/quayside/core/Entry"))).before args0 about1 = true := code_word (m := ⟨10, 3⟩) (meth := k10m3) (c := k10c3) (by decide +kernel) rfl rfl rfl (by decide +kernel)
set_option maxRecDepth 65536 in
theorem w_c29 : (Jvm.Cond.code ({ cls := "java/lang/Character", name := "charCount", desc := "(I)I" } : Jvm.MethodName) jdk_89_method_18_code (1 : Nat) (Option.some Jvm.ClassFile.FieldType.int)).before args0 about1 = true := code_word (m := ⟨17, 0⟩) (meth := k17m0) (c := k17c0) (by decide +kernel) rfl rfl rfl (by decide +kernel)
set_option maxRecDepth 65536 in
theorem w_c30 : (Jvm.Cond.code ({ cls := "java/lang/Boolean", name := "compare", desc := "(ZZ)I" } : Jvm.MethodName) jdk_2055_method_14_code (2 : Nat) (Option.some Jvm.ClassFile.FieldType.int)).before args0 about1 = true := code_word (m := ⟨18, 0⟩) (meth := k18m0) (c := k18c0) (by decide +kernel) rfl rfl rfl (by decide +kernel)
set_option maxRecDepth 65536 in
theorem w_c31 : (Jvm.Cond.code ({ cls := "com/example/quayside/quayside/core/Entries", name := "delete", desc := "(Lcom/example/quayside/quayside/core/Entries$Link;Ljava/lang/String;)Lcom/example/quayside/quayside/core/Entries$Link;" } : Jvm.MethodName) prog_24_method_13_code (4 : Nat) (Option.some (Jvm.ClassFile.FieldType.object "com/example/quayside/quayside/core/Entries$Link"))).before args0 about1 = true := code_word (m := ⟨10, 8⟩) (meth := k10m8) (c := k10c8) (by decide +kernel) rfl rfl rfl (by decide +kernel)
def codes1 : List Jvm.Cond := [Jvm.Cond.code x code maxLocals ret, Jvm.Cond.code ({ cls := "java/lang/String", name := "valueOf", desc := "(C)Ljava/lang/String;" } : Jvm.MethodName) jdk_42_method_139_code (1 : Nat) (Option.some (Jvm.ClassFile.FieldType.object "java/lang/String")), Jvm.Cond.code ({ cls := "java/lang/StringLatin1", name := "canEncode", desc := "(C)Z" } : Jvm.MethodName) jdk_43_method_3_code (1 : Nat) (Option.some Jvm.ClassFile.FieldType.boolean), Jvm.Cond.code ({ cls := "java/lang/StringLatin1", name := "toBytes", desc := "(C)[B" } : Jvm.MethodName) jdk_43_method_46_code (1 : Nat) (Option.some (Jvm.ClassFile.FieldType.array Jvm.ClassFile.FieldType.byte)), Jvm.Cond.code ({ cls := "java/lang/String", name := "<init>", desc := "([BB)V" } : Jvm.MethodName) jdk_42_method_151_code (3 : Nat) (Option.none : Option Jvm.ClassFile.FieldType), Jvm.Cond.code ({ cls := "java/lang/Object", name := "<init>", desc := "()V" } : Jvm.MethodName) object_method_1_code (1 : Nat) (Option.none : Option Jvm.ClassFile.FieldType), Jvm.Cond.code ({ cls := "com/example/quayside/quayside/core/Entries", name := "<init>", desc := "()V" } : Jvm.MethodName) prog_24_method_1_code (1 : Nat) (Option.none : Option Jvm.ClassFile.FieldType), Jvm.Cond.code ({ cls := "com/example/quayside/quayside/core/FileEntry", name := "<init>", desc := "(JLjava/lang/String;Ljava/lang/String;IJJJIJ)V" } : Jvm.MethodName) prog_32_method_1_code (15 : Nat) (Option.none : Option Jvm.ClassFile.FieldType), Jvm.Cond.code ({ cls := "com/example/quayside/quayside/core/Entry", name := "<init>", desc := "(JLjava/lang/String;Ljava/lang/String;IJJ)V" } : Jvm.MethodName) prog_28_method_1_code (10 : Nat) (Option.none : Option Jvm.ClassFile.FieldType), Jvm.Cond.code ({ cls := "com/example/quayside/quayside/core/Entries", name := "isEmpty", desc := "()Z" } : Jvm.MethodName) prog_24_method_3_code (1 : Nat) (Option.some Jvm.ClassFile.FieldType.boolean), Jvm.Cond.code ({ cls := "com/example/quayside/quayside/core/Entries", name := "putIfAbsent", desc := "(Ljava/lang/String;Lcom/example/quayside/quayside/core/Entry;)Lcom/example/quayside/quayside/core/Entry;" } : Jvm.MethodName) prog_24_method_6_code (4 : Nat) (Option.some (Jvm.ClassFile.FieldType.object "com/example/quayside/quayside/core/Entry")), Jvm.Cond.code ({ cls := "com/example/quayside/quayside/core/Entries", name := "size", desc := "()I" } : Jvm.MethodName) prog_24_method_2_code (1 : Nat) (Option.some Jvm.ClassFile.FieldType.int), Jvm.Cond.code ({ cls := "com/example/quayside/quayside/core/Entries", name := "size", desc := "(Lcom/example/quayside/quayside/core/Entries$Link;)I" } : Jvm.MethodName) prog_24_method_22_code (1 : Nat) (Option.some Jvm.ClassFile.FieldType.int), Jvm.Cond.code ({ cls := "com/example/quayside/quayside/core/Entries$Link", name := "<init>", desc := "(Ljava/lang/String;Lcom/example/quayside/quayside/core/Entry;)V" } : Jvm.MethodName) prog_25_method_1_code (3 : Nat) (Option.none : Option Jvm.ClassFile.FieldType), Jvm.Cond.code ({ cls := "com/example/quayside/quayside/core/Entries", name := "insert", desc := "(Lcom/example/quayside/quayside/core/Entries$Link;Lcom/example/quayside/quayside/core/Entries$Link;)Lcom/example/quayside/quayside/core/Entries$Link;" } : Jvm.MethodName) prog_24_method_12_code (3 : Nat) (Option.some (Jvm.ClassFile.FieldType.object "com/example/quayside/quayside/core/Entries$Link")), Jvm.Cond.code ({ cls := "com/example/quayside/quayside/core/Entries", name := "compareNames", desc := "(Ljava/lang/String;Ljava/lang/String;)I" } : Jvm.MethodName) prog_24_method_11_code (6 : Nat) (Option.some Jvm.ClassFile.FieldType.int), Jvm.Cond.code ({ cls := "java/lang/String", name := "length", desc := "()I" } : Jvm.MethodName) jdk_42_method_54_code (1 : Nat) (Option.some Jvm.ClassFile.FieldType.int), Jvm.Cond.code ({ cls := "java/lang/String", name := "coder", desc := "()B" } : Jvm.MethodName) jdk_42_method_152_code (1 : Nat) (Option.some Jvm.ClassFile.FieldType.byte), Jvm.Cond.code ({ cls := "java/lang/String", name := "codePointAt", desc := "(I)I" } : Jvm.MethodName) jdk_42_method_57_code (3 : Nat) (Option.some Jvm.ClassFile.FieldType.int), Jvm.Cond.code ({ cls := "java/lang/String", name := "isLatin1", desc := "()Z" } : Jvm.MethodName) jdk_42_method_154_code (1 : Nat) (Option.some Jvm.ClassFile.FieldType.boolean), Jvm.Cond.code ({ cls := "java/lang/String", name := "checkIndex", desc := "(II)V" } : Jvm.MethodName) jdk_42_method_155_code (2 : Nat) (Option.none : Option Jvm.ClassFile.FieldType), Jvm.Cond.code ({ cls := "jdk/internal/util/Preconditions", name := "checkIndex", desc := "(IILjava/util/function/BiFunction;)I" } : Jvm.MethodName) jdk_41_method_11_code (3 : Nat) (Option.some Jvm.ClassFile.FieldType.int), Jvm.Cond.code ({ cls := "java/lang/Integer", name := "compare", desc := "(II)I" } : Jvm.MethodName) jdk_33_method_40_code (2 : Nat) (Option.some Jvm.ClassFile.FieldType.int), Jvm.Cond.code ({ cls := "com/example/quayside/quayside/core/Entries", name := "balance", desc := "(Lcom/example/quayside/quayside/core/Entries$Link;)Lcom/example/quayside/quayside/core/Entries$Link;" } : Jvm.MethodName) prog_24_method_15_code (2 : Nat) (Option.some (Jvm.ClassFile.FieldType.object "com/example/quayside/quayside/core/Entries$Link")), Jvm.Cond.code ({ cls := "com/example/quayside/quayside/core/Entries", name := "outweighs", desc := "(Lcom/example/quayside/quayside/core/Entries$Link;Lcom/example/quayside/quayside/core/Entries$Link;)Z" } : Jvm.MethodName) prog_24_method_20_code (2 : Nat) (Option.some Jvm.ClassFile.FieldType.boolean), Jvm.Cond.code ({ cls := "com/example/quayside/quayside/core/Entries", name := "weight", desc := "(Lcom/example/quayside/quayside/core/Entries$Link;)I" } : Jvm.MethodName) prog_24_method_21_code (1 : Nat) (Option.some Jvm.ClassFile.FieldType.int), Jvm.Cond.code ({ cls := "com/example/quayside/quayside/core/Entries", name := "recount", desc := "(Lcom/example/quayside/quayside/core/Entries$Link;)V" } : Jvm.MethodName) prog_24_method_18_code (1 : Nat) (Option.none : Option Jvm.ClassFile.FieldType), Jvm.Cond.code ({ cls := "com/example/quayside/quayside/core/Entries", name := "remove", desc := "(Ljava/lang/String;)Lcom/example/quayside/quayside/core/Entry;" } : Jvm.MethodName) prog_24_method_7_code (3 : Nat) (Option.some (Jvm.ClassFile.FieldType.object "com/example/quayside/quayside/core/Entry")), Jvm.Cond.code ({ cls := "com/example/quayside/quayside/core/Entries", name := "get", desc := "(Ljava/lang/String;)Lcom/example/quayside/quayside/core/Entry;" } : Jvm.MethodName) prog_24_method_4_code (4 : Nat) (Option.some (Jvm.ClassFile.FieldType.object "com/example/quayside/quayside/core/Entry")), Jvm.Cond.code ({ cls := "java/lang/Character", name := "charCount", desc := "(I)I" } : Jvm.MethodName) jdk_89_method_18_code (1 : Nat) (Option.some Jvm.ClassFile.FieldType.int), Jvm.Cond.code ({ cls := "java/lang/Boolean", name := "compare", desc := "(ZZ)I" } : Jvm.MethodName) jdk_2055_method_14_code (2 : Nat) (Option.some Jvm.ClassFile.FieldType.int), Jvm.Cond.code ({ cls := "com/example/quayside/quayside/core/Entries", name := "delete", desc := "(Lcom/example/quayside/quayside/core/Entries$Link;Ljava/lang/String;)Lcom/example/quayside/quayside/core/Entries$Link;" } : Jvm.MethodName) prog_24_method_13_code (4 : Nat) (Option.some (Jvm.ClassFile.FieldType.object "com/example/quayside/quayside/core/Entries$Link"))]
set_option maxRecDepth 65536 in
theorem codes_eq : words1.filter isCode = codes1 := rfl
theorem w_codes : ∀ c ∈ words1.filter isCode, c.before args0 about1 = true := by
  rw [codes_eq]
  intro c hc
  simp only [codes1, List.mem_cons, List.not_mem_nil, or_false] at hc
  rcases hc with rfl | rfl | rfl | rfl | rfl | rfl | rfl | rfl | rfl | rfl | rfl | rfl | rfl | rfl | rfl | rfl | rfl | rfl | rfl | rfl | rfl | rfl | rfl | rfl | rfl | rfl | rfl | rfl | rfl | rfl | rfl | rfl
  · exact w_c0
  · exact w_c1
  · exact w_c2
  · exact w_c3
  · exact w_c4
  · exact w_c5
  · exact w_c6
  · exact w_c7
  · exact w_c8
  · exact w_c9
  · exact w_c10
  · exact w_c11
  · exact w_c12
  · exact w_c13
  · exact w_c14
  · exact w_c15
  · exact w_c16
  · exact w_c17
  · exact w_c18
  · exact w_c19
  · exact w_c20
  · exact w_c21
  · exact w_c22
  · exact w_c23
  · exact w_c24
  · exact w_c25
  · exact w_c26
  · exact w_c27
  · exact w_c28
  · exact w_c29
  · exact w_c30
  · exact w_c31
set_option maxRecDepth 65536 in
theorem w_t1 : (words1.take 24).all (fun c => isCode c || c.before args0 about1) = true := by decide +kernel
set_option maxRecDepth 65536 in
theorem w_t2 : ((words1.drop 24).take 24).all (fun c => isCode c || c.before args0 about1) = true := by decide +kernel
set_option maxRecDepth 65536 in
theorem w_t3 : (((words1.drop 24).drop 24).take 24).all (fun c => isCode c || c.before args0 about1) = true := by decide +kernel
set_option maxRecDepth 65536 in
theorem w_t4 : ((((words1.drop 24).drop 24).drop 24).take 24).all (fun c => isCode c || c.before args0 about1) = true := by decide +kernel
set_option maxRecDepth 65536 in
theorem w_t5 : (((((words1.drop 24).drop 24).drop 24).drop 24).take 24).all (fun c => isCode c || c.before args0 about1) = true := by decide +kernel
set_option maxRecDepth 65536 in
theorem w_t6 : ((((((words1.drop 24).drop 24).drop 24).drop 24).drop 24).take 24).all (fun c => isCode c || c.before args0 about1) = true := by decide +kernel
set_option maxRecDepth 65536 in
theorem w_t7 : (((((((words1.drop 24).drop 24).drop 24).drop 24).drop 24).drop 24).take 24).all (fun c => isCode c || c.before args0 about1) = true := by decide +kernel
set_option maxRecDepth 65536 in
theorem w_t8 : (((((((words1.drop 24).drop 24).drop 24).drop 24).drop 24).drop 24).drop 24).all (fun c => isCode c || c.before args0 about1) = true := by decide +kernel
theorem w_tables : (allAtoms (Jvm.Cond.code x code maxLocals ret :: tables_1)).before args0 about1 = true := by
  rw [allAtoms_all]
  show words1.all (fun c => c.before args0 about1) = true
  refine all_split ?_ w_codes
  rw [← List.take_append_drop 24 words1, List.all_append, w_t1, ← List.take_append_drop 24 (words1.drop 24), List.all_append, w_t2, ← List.take_append_drop 24 ((words1.drop 24).drop 24), List.all_append, w_t3, ← List.take_append_drop 24 (((words1.drop 24).drop 24).drop 24), List.all_append, w_t4, ← List.take_append_drop 24 ((((words1.drop 24).drop 24).drop 24).drop 24), List.all_append, w_t5, ← List.take_append_drop 24 (((((words1.drop 24).drop 24).drop 24).drop 24).drop 24), List.all_append, w_t6, ← List.take_append_drop 24 ((((((words1.drop 24).drop 24).drop 24).drop 24).drop 24).drop 24), List.all_append, w_t7, w_t8]
  rfl
set_option maxRecDepth 65536 in
theorem w_rest : rest_1_c.before args0 about1 = true := by decide +kernel
set_option maxRecDepth 65536 in
theorem w_case : (Jvm.Cond.and given_1 narrow_1).before args0 about1 = true := by decide +kernel
theorem w_applies : (headSpec (Jvm.Cond.code x code maxLocals ret :: tables_1) room_1).applies x e0.platform about1 = true :=
  (Spec.applies_iff w_frames).mpr ⟨w_running, w_runnable, w_alone, w_named, w_hears, w_ripe, w_room, w_tables⟩
theorem atStart : AtStart classFile x code maxLocals ret World_1 tables_1 room_1 Calls_1 rest_1 Pre_1 launch0 p0 e0 about1 theMethod args0 below0 :=
  ⟨lists_1, trivial, launch0.admits_env _ _ _, launch0.least_env, fairChoices_fair.cas, fairChoices_fair.clock, w_frames, w_args, w_heap, w_applies, trivial, w_rest, w_case⟩
end start1
theorem witness_1 : WitnessClaimed_1 := ⟨start1.p0, start1.e0, start1.about1, start1.theMethod, start1.args0, start1.below0, start1.atStart⟩
end Jvm.Pilot.@@N@@
