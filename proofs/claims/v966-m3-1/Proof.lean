import JvmDerived
import JvmDerived.Pilot.@@N@@Statement
import JvmDerived.Pilot.@@N@@Code
set_option linter.unusedVariables false
set_option linter.unusedSimpArgs false
namespace Jvm.RoadKit
open Sem ClassFile Op Lib Jvm.Stand Jvm.Free Jvm.LawKit
section New
variable {p : Program} {l : Launch} {e : Env} {R : Room} {s : State} {m : MethodId} {args : Array Value} {below : List Frame} {meth : Method} {c : Code} {T : State} {locs : List Loc} {cells slots : Nat}
theorem retI (X : Stand p l e R s m args below meth c T locs cells slots) (hx : p.tables.exec = Jvm.exec) {pc : Nat} {Ls : Array Slot} {z : Int32} {rest : List Value} (hret : meth.sig.returnType = some .int) (hd : decode c.code pc = .ok (.ireturn, 1)) {fs : List Frame}
    (hl : ∀ (f : JFrame) (acts : List Action), f.method = m → f.locked = none → f.entered = [] → (doReturn e (T.setTop f) acts (some (.int z))).1 = T.setFrames fs) : Steps p.tables e below (T.setTop (mkF m pc Ls (.int z :: rest))) (T.setFrames fs) := by
  have hm' : T.vm.method? m = some meth := X.method'
  have hn : narrow .int (.int z) = .int z := rfl
  show Steps p.tables e below (T.setTop { method := m, pc := pc, locals := Ls, stack := _ :: rest, locked := none }) _
  jvm_step X.here [X.here.top, hx, hd, hm', hret, hn]
  first | (intro acts; rw [hl _ acts rfl rfl rfl]) | rw [hl _ _ rfl rfl rfl]
  exact Steps.refl _
end New
end Jvm.RoadKit
namespace Jvm.Pilot.@@N@@
open Jvm Jvm.ClassFile Sem Op Lib Jvm.Free Jvm.Stand Jvm.LawKit Jvm.RoadKit Bundle Jvm.Pilot.@@N@@.Jvm.D
section Own
variable {p : Program} {l : Launch} {e : Env} {R : Room} {s : State} {m : MethodId} {args : Array Value} {below : List Frame} {meth : Method} {c : Code} {T : State} {locs : List Loc} {k j : Nat} {Z : State} {a0 : Array Value} {h : Heap}
/-- the run that stands at g goes on to an end as Q says -/
def own_E (p : Program) (e : Env) (below : List Frame) (Q : Outcome → State → Prop) (T : State) (g : JFrame) : Prop :=
  ∃ s₂ o, Steps p.tables e below (T.setTop g) s₂ ∧ s₂.status = .running ∧ Ended s₂ below o ∧ Q o s₂
/-- an end as a contract's Qr says, with so many cells and slots at the most -/
def own_Q (s : State) (Qr : Option Value → Heap → List Loc → Prop) (k j : Nat) (o : Outcome) (U : State) : Prop := ∃ v L, o = .returned v ∧ Qr v U.heap L ∧ FrameEnd s o U L k j
/-- a contract of a method at these arguments and this heap -/
def own_M (l : Launch) (Z : State) (y : MethodName) (bytes : ByteArray) (maxL : Nat) (ret : Option FieldType) (rm : Room) (as' : Array Value) (h : Heap) (Qr : Option Value → Heap → List Loc → Prop) : Prop :=
  ∀ ws : List Jvm.Cond, MetFree l y (head1 (Jvm.Cond.code y bytes maxL ret :: ws) rm) (fun a U => a = as' ∧ Z.Warmed39 U.vm ∧ U.heap = h) (fun _ _ _ _ _ => True) (fun _ U o U' => ∃ v L, o = .returned v ∧ Qr v U'.heap L ∧ FrameEnd U o U' L rm.cells rm.slots)
theorem own_st {Q : Outcome → State → Prop} {T' : State} {g g' : JFrame} (hs : ∀ t, Steps p.tables e below (T'.setTop g') t → Steps p.tables e below (T.setTop g) t) (k : own_E p e below Q T' g') : own_E p e below Q T g := by
  obtain ⟨s₂, o, h1, h2, h3, h4⟩ := k
  exact ⟨s₂, o, hs _ h1, h2, h3, h4⟩
theorem own_sy {Q : Outcome → State → Prop} {T' : State} {g g' : JFrame} (hs : Steps p.tables e below (T.setTop g) (T'.setTop g')) (k : own_E p e below Q T' g') : own_E p e below Q T g := by
  obtain ⟨s₂, o, h1, h2, h3, h4⟩ := k
  exact ⟨s₂, o, hs.trans h1, h2, h3, h4⟩
theorem own_body {y : MethodName} {bytes : ByteArray} {maxL : Nat} {ret : Option FieldType} {rm : Room} {as' : Array Value} {Qr : Option Value → Heap → List Loc → Prop} (hp : plainName y.cls = true)
    (body : ∀ (p : Program) (e : Env) (s : State) (m : MethodId) (below : List Frame) (meth : Method) (c : Code) (T : State), p.tables.exec = Jvm.exec → c.code = bytes → c.maxLocals = maxL → s.vm.findClass y.cls = some m.cls → Z.Warmed39 s.vm → meth.sig.returnType = ret → meth.locks = false → meth.name = y.name →
      Stand p l e rm s m as' below meth c T [] 0 0 → T.heap = h → own_E p e below (own_Q s Qr rm.cells rm.slots) T (entryFrame m as' maxL)) : own_M l Z y bytes maxL ret rm as' h Qr := by
  intro ws
  refine MetFree.of_bodySF (plainFor_of_name hp) hisR ?_
  intro p e s m args below meth c s₁ Bd hml0 hP hK
  obtain ⟨rfl, hZ, hh⟩ := hP
  exact body p e s m below meth c s₁ Bd.exec Bd.bytes hml0 (findClass_of_methodNamed Bd.named) hZ Bd.returns Bd.notSynchronized (name_of_methodNamed Bd.named Bd.method).1 (Stand.of_body Bd) (by rw [← hh, Bd.state]; rfl)
theorem own_retN {Qr : Option Value → Heap → List Loc → Prop} {kk jj pc : Nat} {Ls : Array Slot} {z : Int32} {t : FieldType} {rest : List Value} (X : Stand p l e R s m args below meth c T locs k j) (hx : p.tables.exec = Jvm.exec) (hlk : meth.locks = false) (hret : meth.sig.returnType = some t) (ht : t = .boolean ∨ t = .byte ∨ t = .char ∨ t = .short)
    (hd : decode c.code pc = .ok (.ireturn, 1)) (hk : k ≤ kk) (hj : j ≤ jj) (hq : Qr (some (.int (nar t z))) T.heap locs) : own_E p e below (own_Q s Qr kk jj) T (mkF m pc Ls (.int z :: rest)) := by
  obtain ⟨fs, hr, hrun, hended, hW, hsame⟩ := X.leave (v := some (.int (nar t z))) (fun q => by rw [hret] at q; cases q) hlk
  exact ⟨_, _, retN X hx hret ht hd hr, hrun, hended, _, _, rfl, hq, ⟨_, rfl⟩, hW, hsame.mono hk hj⟩
theorem own_retI {Qr : Option Value → Heap → List Loc → Prop} {kk jj pc : Nat} {Ls : Array Slot} {z : Int32} {rest : List Value} (X : Stand p l e R s m args below meth c T locs k j) (hx : p.tables.exec = Jvm.exec) (hlk : meth.locks = false) (hret : meth.sig.returnType = some .int)
    (hd : decode c.code pc = .ok (.ireturn, 1)) (hk : k ≤ kk) (hj : j ≤ jj) (hq : Qr (some (.int z)) T.heap locs) : own_E p e below (own_Q s Qr kk jj) T (mkF m pc Ls (.int z :: rest)) := by
  obtain ⟨fs, hr, hrun, hended, hW, hsame⟩ := X.leave (v := some (.int z)) (fun q => by rw [hret] at q; cases q) hlk
  exact ⟨_, _, retI X hx hret hd hr, hrun, hended, _, _, rfl, hq, ⟨_, rfl⟩, hW, hsame.mono hk hj⟩
theorem own_retJ {Qr : Option Value → Heap → List Loc → Prop} {kk jj pc : Nat} {Ls : Array Slot} {z : Int64} (X : Stand p l e R s m args below meth c T locs k j) (hx : p.tables.exec = Jvm.exec) (hlk : meth.locks = false) (hret : meth.sig.returnType = some .long)
    (hd : decode c.code pc = .ok (.lreturn, 1)) (hk : k ≤ kk) (hj : j ≤ jj) (hq : Qr (some (.long z)) T.heap locs) : own_E p e below (own_Q s Qr kk jj) T (mkF m pc Ls [.long z]) := by
  obtain ⟨fs, hr, hrun, hended, hW, hsame⟩ := X.leave (v := some (.long z)) (fun q => by rw [hret] at q; cases q) hlk
  exact ⟨_, _, X.lreturnOut hx hret hd hr, hrun, hended, _, _, rfl, hq, ⟨_, rfl⟩, hW, hsame.mono hk hj⟩
theorem own_retV {Qr : Option Value → Heap → List Loc → Prop} {kk jj pc : Nat} {Ls : Array Slot} (X : Stand p l e R s m args below meth c T locs k j) (hx : p.tables.exec = Jvm.exec) (hlk : meth.locks = false) (hret : meth.sig.returnType = none)
    (hd : decode c.code pc = .ok (.return_, 1)) (hk : k ≤ kk) (hj : j ≤ jj) (hq : Qr none T.heap locs) : own_E p e below (own_Q s Qr kk jj) T (mkF m pc Ls []) := by
  obtain ⟨fs, hr, hrun, hended, hW, hsame⟩ := X.leave (v := none) (fun _ => rfl) hlk
  exact ⟨_, _, X.returnOut hx hret hd hr, hrun, hended, _, _, rfl, hq, ⟨_, rfl⟩, hW, hsame.mono hk hj⟩
theorem own_retA {Qr : Option Value → Heap → List Loc → Prop} {kk jj pc : Nat} {Ls : Array Slot} {z : Value} {t : FieldType} {rest : List Value} (X : Stand p l e R s m args below meth c T locs k j) (hx : p.tables.exec = Jvm.exec) (hlk : meth.locks = false) (hret : meth.sig.returnType = some t) (ht : t.isReference = true) (hz : z.isRef = true) (hn : narrow t z = z)
    (hd : decode c.code pc = .ok (.areturn, 1)) (hk : k ≤ kk) (hj : j ≤ jj) (hq : Qr (some z) T.heap locs) : own_E p e below (own_Q s Qr kk jj) T (mkF m pc Ls (z :: rest)) := by
  obtain ⟨fs, hr, hrun, hended, hW, hsame⟩ := X.leave (v := some z) (fun q => by rw [hret] at q; cases q) hlk
  exact ⟨_, _, retOut X hx hret hn (Or.inr (Or.inr (Or.inr (Or.inr ⟨rfl, ht, hz⟩)))) hd hr, hrun, hended, _, _, rfl, hq, ⟨_, rfl⟩, hW, hsame.mono hk hj⟩
theorem own_callS {own : String} {index : Nat} {y : MethodName} {bytes : ByteArray} {maxL W : Nat} {ret : Option FieldType} {rm : Room} {Qr : Option Value → Heap → List Loc → Prop} {Q : Outcome → State → Prop} {g : JFrame} {argsL rest : List Value}
    (X : Stand p l e R s m args below meth c T locs k j) (hx : p.tables.exec = Jvm.exec) (hZ : Z.Warmed39 s.vm) (hown : s.vm.findClass own = some m.cls) (wl : (Cond.methodLink own index y).before a0 Z = true) (wst : (Cond.static y).before a0 Z = true) (wi : (Cond.initialized y.cls).before a0 Z = true) (wc : (Cond.code y bytes maxL ret).before a0 Z = true)
    (hy : y.cls ≠ "java/lang/invoke/MethodHandle" ∧ y.cls ≠ "java/lang/invoke/VarHandle") (hM : own_M l Z y bytes maxL ret rm argsL.toArray T.heap Qr) (hf : rm.frames + 1 ≤ R.frames) (hl : W + (maxL + 11) + rm.locals ≤ R.locals) (hck : k + rm.cells ≤ R.cells) (hcj : j + rm.slots ≤ R.slots)
    (hg : g.method = m) (hsize : g.locals.size = c.maxLocals) (hlen : ∀ sig, parseMethodDescriptor y.desc = some sig → argsL.length = sig.parameters.length) (hstack : g.stack = argsL.reverse ++ rest) (hW : 2 * g.monitorRoom + (rest.map fun v => v.category).sum ≤ W) (hdg : decode c.code g.pc = .ok (.invokestatic index, 3))
    (K : ∀ (T' : State) (L : List Loc) (v : Option Value), Stand p l e R s m args below meth c T' (locs ++ L) (k + rm.cells) (j + rm.slots) → Qr v T'.heap L → own_E p e below Q T' { g with pc := g.pc + 3, stack := v.toList ++ rest }) : own_E p e below Q T g := by
  obtain ⟨v, vm1, ⟨T', L', k', j'⟩, -, X', ⟨Lc, hQ, l', y', z'⟩, st⟩ := Jvm.LawKit.callS X hx (y := y) hown (mvT hZ wl) (mvT hZ wst) (mvT hZ wi) (mvT hZ wc) hy (backOf (W := W) (hM []) hZ wc wi hf hl) hg hsize hlen hstack hW hdg (fun _ _ => ⟨rfl, rfl, hck, hcj⟩)
  dsimp only [Pt.U, Pt.locs, Pt.cells, Pt.slots] at X' l' y' z' st hQ
  subst l' y' z'
  exact own_st st (K _ _ _ X' hQ)
theorem own_tr {P : Heap → Prop} {h h' : Heap} (q : h' = h) (i : P h) : P h' := q ▸ i
theorem own_pop2L {tb : Tables} [Ours tb] {target : State} {g : JFrame} (h : At T m c below) (hx : tb.exec = Jvm.exec) (hg : g.method = m) {x : Int64} {rest : List Value} (hd : decode c.code g.pc = .ok (.pop2, 1)) (hs : g.stack = .long x :: rest)
    (hr : Steps tb e below (T.setTop { g with pc := g.pc + 1, stack := rest }) target) : Steps tb e below (T.setTop g) target := by
  subst hg
  jvm_step h [h.top, hx, hd, hs]
  exact hr
theorem own_callC {own : String} {index : Nat} {y : MethodName} {bytes : ByteArray} {maxL W : Nat} {rm : Room} {Qr : Option Value → Heap → List Loc → Prop} {Q : Outcome → State → Prop} {g : JFrame} {a : Addr} {argsL rest : List Value}
    (X : Stand p l e R s m args below meth c T locs k j) (hx : p.tables.exec = Jvm.exec) (hZ : Z.Warmed39 s.vm) (hy1 : y.name = "<init>") (hown : s.vm.findClass own = some m.cls) (wl : (Cond.methodLink own index y).before a0 Z = true) (wm : (Cond.instanceMethod y).before a0 Z = true) (wi : (Cond.initialized y.cls).before a0 Z = true) (wc : (Cond.code y bytes maxL none).before a0 Z = true)
    (hy : y.cls ≠ "java/lang/invoke/MethodHandle" ∧ y.cls ≠ "java/lang/invoke/VarHandle") (hM : own_M l Z y bytes maxL none rm (.ref a :: argsL).toArray T.heap Qr) (hf : rm.frames + 1 ≤ R.frames) (hl : W + (maxL + 11) + rm.locals ≤ R.locals) (hck : k + rm.cells ≤ R.cells) (hcj : j + rm.slots ≤ R.slots)
    (hg : g.method = m) (hsize : g.locals.size = c.maxLocals) (hlen : ∀ sig, parseMethodDescriptor y.desc = some sig → argsL.length = sig.parameters.length) (hstack : g.stack = argsL.reverse ++ .ref a :: rest) (hW : 2 * g.monitorRoom + (rest.map fun v => v.category).sum ≤ W) (hdg : decode c.code g.pc = .ok (.invokespecial index, 3))
    (K : ∀ (T' : State) (L : List Loc) (v : Option Value), Stand p l e R s m args below meth c T' (locs ++ L) (k + rm.cells) (j + rm.slots) → Qr v T'.heap L → own_E p e below Q T' { g with pc := g.pc + 3, stack := v.toList ++ rest }) : own_E p e below Q T g := by
  obtain ⟨v, vm1, ⟨T', L', k', j'⟩, -, X', ⟨Lc, hQ, l', y', z'⟩, st⟩ := X.specialBack hx (y := y) hy1 hown (mvT hZ wl) (mvT hZ wm) (mvT hZ wc) hy (backOf (W := W) (hM []) hZ wc wi hf hl) hg hsize (Steps.refl _) (a := a) hlen hstack hW hdg (fun _ _ => ⟨rfl, rfl, hck, hcj⟩)
  dsimp only [Pt.U, Pt.locs, Pt.cells, Pt.slots] at X' l' y' z' st hQ
  subst l' y' z'
  exact own_sy st (K _ _ _ X' hQ)
theorem own_callV {own : String} {index : Nat} {y : MethodName} {bytes : ByteArray} {maxL W : Nat} {ret : Option FieldType} {rm : Room} {Qr : Option Value → Heap → List Loc → Prop} {Q : Outcome → State → Prop} {g : JFrame} {a : Addr} {argsL rest : List Value}
    (X : Stand p l e R s m args below meth c T locs k j) (hx : p.tables.exec = Jvm.exec) (hZ : Z.Warmed39 s.vm) (hown : s.vm.findClass own = some m.cls) (wl : (Cond.methodLink own index y).before a0 Z = true) (wd : (Cond.declares y).before a0 Z = true) (wsel : (Cond.selects y.cls y y).before a0 Z = true) (wm : (Cond.instanceMethod y).before a0 Z = true) (wi : (Cond.initialized y.cls).before a0 Z = true) (wc : (Cond.code y bytes maxL ret).before a0 Z = true)
    (hy : y.cls ≠ "java/lang/invoke/MethodHandle" ∧ y.cls ≠ "java/lang/invoke/VarHandle") (E : Exa Z T.heap a y.cls) (hM : own_M l Z y bytes maxL ret rm (.ref a :: argsL).toArray T.heap Qr) (hf : rm.frames + 1 ≤ R.frames) (hl : W + (maxL + 11) + rm.locals ≤ R.locals) (hck : k + rm.cells ≤ R.cells) (hcj : j + rm.slots ≤ R.slots)
    (hg : g.method = m) (hsize : g.locals.size = c.maxLocals) (hlen : ∀ sig, parseMethodDescriptor y.desc = some sig → argsL.length = sig.parameters.length) (hstack : g.stack = argsL.reverse ++ .ref a :: rest) (hW : 2 * g.monitorRoom + (rest.map fun v => v.category).sum ≤ W) (hdg : decode c.code g.pc = .ok (.invokevirtual index, 3))
    (K : ∀ (T' : State) (L : List Loc) (v : Option Value), Stand p l e R s m args below meth c T' (locs ++ L) (k + rm.cells) (j + rm.slots) → Qr v T'.heap L → own_E p e below Q T' { g with pc := g.pc + 3, stack := v.toList ++ rest }) : own_E p e below Q T g := by
  obtain ⟨cB, kB, qa, qb, qc⟩ := isOf (T := T) hZ rfl E
  obtain ⟨v, vm1, ⟨T', L', k', j'⟩, -, X', ⟨Lc, hQ, l', y', z'⟩, st⟩ := X.virtualBack hx (y := y) (z := y) hown (mvT hZ wl) (mvT hZ wd) (notFace_of_selects (args := #[]) (mvT hZ wsel)) (mvT hZ wsel) (mvT hZ wm) hy (backOf (W := W) (hM []) hZ wc wi hf hl) qa qc hg hsize (Steps.refl _) hlen hstack hW hdg (fun _ _ => ⟨rfl, rfl, hck, hcj⟩)
  dsimp only [Pt.U, Pt.locs, Pt.cells, Pt.slots] at X' l' y' z' st hQ
  subst l' y' z'
  exact own_sy st (K _ _ _ X' hQ)
theorem own_sel {y z : MethodName} (h : (Cond.selects z.cls z z).before args s = true) (hc : y.cls = z.cls) (hpriv : s.PrivateAt y) (hinst : (Cond.instanceMethod y).before args s = true) (hy : y.cls ≠ "java/lang/invoke/MethodHandle" ∧ y.cls ≠ "java/lang/invoke/VarHandle") : (Cond.selects y.cls y y).before args s = true := by
  obtain ⟨c2, r2, m2, -, -, q3, -, kP, hkP, hkPi⟩ := Cond.selects_spec h
  exact Stand.selects_self_of_private (by rw [hc]; exact findClass_of_methodNamed q3) hkP hkPi hpriv hinst hy
theorem own_callP {own : String} {index : Nat} {y z : MethodName} {bytes : ByteArray} {maxL W : Nat} {ret : Option FieldType} {rm : Room} {Qr : Option Value → Heap → List Loc → Prop} {Q : Outcome → State → Prop} {g : JFrame} {a : Addr} {argsL rest : List Value}
    (X : Stand p l e R s m args below meth c T locs k j) (hx : p.tables.exec = Jvm.exec) (hZ : Z.Warmed39 s.vm) (hown : s.vm.findClass own = some m.cls) (wl : (Cond.methodLink own index y).before a0 Z = true) (wsel : (Cond.selects z.cls z z).before a0 Z = true) (hc : y.cls = z.cls) (wp : (Cond.privateMethod y).before a0 Z = true) (wm : (Cond.instanceMethod y).before a0 Z = true) (wi : (Cond.initialized y.cls).before a0 Z = true) (wc : (Cond.code y bytes maxL ret).before a0 Z = true)
    (hy : y.cls ≠ "java/lang/invoke/MethodHandle" ∧ y.cls ≠ "java/lang/invoke/VarHandle") (E : Exa Z T.heap a y.cls) (hM : own_M l Z y bytes maxL ret rm (.ref a :: argsL).toArray T.heap Qr) (hf : rm.frames + 1 ≤ R.frames) (hl : W + (maxL + 11) + rm.locals ≤ R.locals) (hck : k + rm.cells ≤ R.cells) (hcj : j + rm.slots ≤ R.slots)
    (hg : g.method = m) (hsize : g.locals.size = c.maxLocals) (hlen : ∀ sig, parseMethodDescriptor y.desc = some sig → argsL.length = sig.parameters.length) (hstack : g.stack = argsL.reverse ++ .ref a :: rest) (hW : 2 * g.monitorRoom + (rest.map fun v => v.category).sum ≤ W) (hdg : decode c.code g.pc = .ok (.invokevirtual index, 3))
    (K : ∀ (T' : State) (L : List Loc) (v : Option Value), Stand p l e R s m args below meth c T' (locs ++ L) (k + rm.cells) (j + rm.slots) → Qr v T'.heap L → own_E p e below Q T' { g with pc := g.pc + 3, stack := v.toList ++ rest }) : own_E p e below Q T g := by
  obtain ⟨cq, q1, q2⟩ := E.cell
  have hpr := Cond.privateMethod_at (mvP hZ wp (args := args))
  obtain ⟨v, vm1, ⟨T', L', k', j'⟩, -, X', ⟨Lc, hQ, l', y', z'⟩, st⟩ := X.privateBack hx (y := y) hown (mvT hZ wl) (mvT hZ wm) (own_sel (z := z) (mvT hZ wsel) hc hpr (mvT hZ wm) hy) hpr (mvT hZ wc) hy (backOf (W := W) (hM []) hZ wc wi hf hl) hg hsize (Steps.refl _) (a := a) q1 q2 hlen hstack hW hdg (fun _ _ => ⟨rfl, rfl, hck, hcj⟩)
  dsimp only [Pt.U, Pt.locs, Pt.cells, Pt.slots] at X' l' y' z' st hQ
  subst l' y' z'
  exact own_sy st (K _ _ _ X' hQ)
end Own
theorem pn_1 : plainName "com/example/lather/lather/xml/XmlCharsIsNcNameCharPinLaw" = true := by first | (simp [plainName, overriddenIn]; done) | decide +kernel
theorem pd_1 : parseMethodDescriptor "(I)Z" = some ⟨[.int], some .boolean⟩ := by decide +kernel
theorem d1_0 : decode method_3_code 0 = .ok (.iload_n 0, 1) := by decide +kernel
theorem d1_1 : decode method_3_code 1 = .ok (.bipush 44, 2) := by decide +kernel
theorem d1_3 : decode method_3_code 3 = .ok (.if_icmp .gt 5, 3) := by decide +kernel
theorem d1_6 : decode method_3_code 6 = .ok (.iconst 1, 1) := by decide +kernel
theorem d1_7 : decode method_3_code 7 = .ok (.ireturn, 1) := by decide +kernel
theorem d1_8 : decode method_3_code 8 = .ok (.iload_n 0, 1) := by decide +kernel
theorem d1_9 : decode method_3_code 9 = .ok (.bipush 47, 2) := by decide +kernel
theorem d1_11 : decode method_3_code 11 = .ok (.if_icmp .ne 5, 3) := by decide +kernel
theorem d1_14 : decode method_3_code 14 = .ok (.iconst 1, 1) := by decide +kernel
theorem d1_15 : decode method_3_code 15 = .ok (.ireturn, 1) := by decide +kernel
theorem d1_16 : decode method_3_code 16 = .ok (.iload_n 0, 1) := by decide +kernel
theorem d1_17 : decode method_3_code 17 = .ok (.bipush 58, 2) := by decide +kernel
theorem d1_19 : decode method_3_code 19 = .ok (.if_icmp .lt 11, 3) := by decide +kernel
theorem d1_22 : decode method_3_code 22 = .ok (.iload_n 0, 1) := by decide +kernel
theorem d1_23 : decode method_3_code 23 = .ok (.bipush 64, 2) := by decide +kernel
theorem d1_25 : decode method_3_code 25 = .ok (.if_icmp .gt 5, 3) := by decide +kernel
theorem d1_28 : decode method_3_code 28 = .ok (.iconst 1, 1) := by decide +kernel
theorem d1_29 : decode method_3_code 29 = .ok (.ireturn, 1) := by decide +kernel
theorem d1_30 : decode method_3_code 30 = .ok (.iload_n 0, 1) := by decide +kernel
theorem d1_31 : decode method_3_code 31 = .ok (.bipush 91, 2) := by decide +kernel
theorem d1_33 : decode method_3_code 33 = .ok (.if_icmp .lt 11, 3) := by decide +kernel
theorem d1_36 : decode method_3_code 36 = .ok (.iload_n 0, 1) := by decide +kernel
theorem d1_37 : decode method_3_code 37 = .ok (.bipush 94, 2) := by decide +kernel
theorem d1_39 : decode method_3_code 39 = .ok (.if_icmp .gt 5, 3) := by decide +kernel
theorem d1_42 : decode method_3_code 42 = .ok (.iconst 1, 1) := by decide +kernel
theorem d1_43 : decode method_3_code 43 = .ok (.ireturn, 1) := by decide +kernel
theorem d1_44 : decode method_3_code 44 = .ok (.iload_n 0, 1) := by decide +kernel
theorem d1_45 : decode method_3_code 45 = .ok (.bipush 96, 2) := by decide +kernel
theorem d1_47 : decode method_3_code 47 = .ok (.if_icmp .ne 5, 3) := by decide +kernel
theorem d1_50 : decode method_3_code 50 = .ok (.iconst 1, 1) := by decide +kernel
theorem d1_51 : decode method_3_code 51 = .ok (.ireturn, 1) := by decide +kernel
theorem d1_52 : decode method_3_code 52 = .ok (.iload_n 0, 1) := by decide +kernel
theorem d1_53 : decode method_3_code 53 = .ok (.bipush 123, 2) := by decide +kernel
theorem d1_55 : decode method_3_code 55 = .ok (.if_icmp .lt 12, 3) := by decide +kernel
theorem d1_58 : decode method_3_code 58 = .ok (.iload_n 0, 1) := by decide +kernel
theorem d1_59 : decode method_3_code 59 = .ok (.sipush 182, 3) := by decide +kernel
theorem d1_62 : decode method_3_code 62 = .ok (.if_icmp .gt 5, 3) := by decide +kernel
theorem d1_65 : decode method_3_code 65 = .ok (.iconst 1, 1) := by decide +kernel
theorem d1_66 : decode method_3_code 66 = .ok (.ireturn, 1) := by decide +kernel
theorem d1_67 : decode method_3_code 67 = .ok (.iload_n 0, 1) := by decide +kernel
theorem d1_68 : decode method_3_code 68 = .ok (.sipush 184, 3) := by decide +kernel
theorem d1_71 : decode method_3_code 71 = .ok (.if_icmp .lt 12, 3) := by decide +kernel
theorem d1_74 : decode method_3_code 74 = .ok (.iload_n 0, 1) := by decide +kernel
theorem d1_75 : decode method_3_code 75 = .ok (.sipush 191, 3) := by decide +kernel
theorem d1_78 : decode method_3_code 78 = .ok (.if_icmp .gt 5, 3) := by decide +kernel
theorem d1_81 : decode method_3_code 81 = .ok (.iconst 1, 1) := by decide +kernel
theorem d1_82 : decode method_3_code 82 = .ok (.ireturn, 1) := by decide +kernel
theorem d1_83 : decode method_3_code 83 = .ok (.iload_n 0, 1) := by decide +kernel
theorem d1_84 : decode method_3_code 84 = .ok (.sipush 215, 3) := by decide +kernel
theorem d1_87 : decode method_3_code 87 = .ok (.if_icmp .eq 17, 3) := by decide +kernel
theorem d1_90 : decode method_3_code 90 = .ok (.iload_n 0, 1) := by decide +kernel
theorem d1_91 : decode method_3_code 91 = .ok (.sipush 247, 3) := by decide +kernel
theorem d1_94 : decode method_3_code 94 = .ok (.if_icmp .eq 10, 3) := by decide +kernel
theorem d1_97 : decode method_3_code 97 = .ok (.iload_n 0, 1) := by decide +kernel
theorem d1_98 : decode method_3_code 98 = .ok (.sipush 894, 3) := by decide +kernel
theorem d1_101 : decode method_3_code 101 = .ok (.if_icmp .ne 5, 3) := by decide +kernel
theorem d1_104 : decode method_3_code 104 = .ok (.iconst 1, 1) := by decide +kernel
theorem d1_105 : decode method_3_code 105 = .ok (.ireturn, 1) := by decide +kernel
theorem d1_106 : decode method_3_code 106 = .ok (.iload_n 0, 1) := by decide +kernel
theorem d1_107 : decode method_3_code 107 = .ok (.sipush 8192, 3) := by decide +kernel
theorem d1_110 : decode method_3_code 110 = .ok (.if_icmp .lt 12, 3) := by decide +kernel
theorem d1_113 : decode method_3_code 113 = .ok (.iload_n 0, 1) := by decide +kernel
theorem d1_114 : decode method_3_code 114 = .ok (.sipush 8203, 3) := by decide +kernel
theorem d1_117 : decode method_3_code 117 = .ok (.if_icmp .gt 5, 3) := by decide +kernel
theorem d1_120 : decode method_3_code 120 = .ok (.iconst 1, 1) := by decide +kernel
theorem d1_121 : decode method_3_code 121 = .ok (.ireturn, 1) := by decide +kernel
theorem d1_122 : decode method_3_code 122 = .ok (.iload_n 0, 1) := by decide +kernel
theorem d1_123 : decode method_3_code 123 = .ok (.sipush 8206, 3) := by decide +kernel
theorem d1_126 : decode method_3_code 126 = .ok (.if_icmp .lt 12, 3) := by decide +kernel
theorem d1_129 : decode method_3_code 129 = .ok (.iload_n 0, 1) := by decide +kernel
theorem d1_130 : decode method_3_code 130 = .ok (.sipush 8254, 3) := by decide +kernel
theorem d1_133 : decode method_3_code 133 = .ok (.if_icmp .gt 5, 3) := by decide +kernel
theorem d1_136 : decode method_3_code 136 = .ok (.iconst 1, 1) := by decide +kernel
theorem d1_137 : decode method_3_code 137 = .ok (.ireturn, 1) := by decide +kernel
theorem d1_138 : decode method_3_code 138 = .ok (.iload_n 0, 1) := by decide +kernel
theorem d1_139 : decode method_3_code 139 = .ok (.sipush 8257, 3) := by decide +kernel
theorem d1_142 : decode method_3_code 142 = .ok (.if_icmp .lt 12, 3) := by decide +kernel
theorem d1_145 : decode method_3_code 145 = .ok (.iload_n 0, 1) := by decide +kernel
theorem d1_146 : decode method_3_code 146 = .ok (.sipush 8303, 3) := by decide +kernel
theorem d1_149 : decode method_3_code 149 = .ok (.if_icmp .gt 5, 3) := by decide +kernel
theorem d1_152 : decode method_3_code 152 = .ok (.iconst 1, 1) := by decide +kernel
theorem d1_153 : decode method_3_code 153 = .ok (.ireturn, 1) := by decide +kernel
theorem d1_154 : decode method_3_code 154 = .ok (.iload_n 0, 1) := by decide +kernel
theorem d1_155 : decode method_3_code 155 = .ok (.sipush 8592, 3) := by decide +kernel
theorem d1_158 : decode method_3_code 158 = .ok (.if_icmp .lt 12, 3) := by decide +kernel
theorem d1_161 : decode method_3_code 161 = .ok (.iload_n 0, 1) := by decide +kernel
theorem d1_162 : decode method_3_code 162 = .ok (.sipush 11263, 3) := by decide +kernel
theorem d1_165 : decode method_3_code 165 = .ok (.if_icmp .gt 5, 3) := by decide +kernel
theorem d1_168 : decode method_3_code 168 = .ok (.iconst 1, 1) := by decide +kernel
theorem d1_169 : decode method_3_code 169 = .ok (.ireturn, 1) := by decide +kernel
theorem d1_170 : decode method_3_code 170 = .ok (.iload_n 0, 1) := by decide +kernel
theorem d1_171 : decode method_3_code 171 = .ok (.sipush 12272, 3) := by decide +kernel
theorem d1_174 : decode method_3_code 174 = .ok (.if_icmp .lt 12, 3) := by decide +kernel
theorem d1_177 : decode method_3_code 177 = .ok (.iload_n 0, 1) := by decide +kernel
theorem d1_178 : decode method_3_code 178 = .ok (.sipush 12288, 3) := by decide +kernel
theorem d1_181 : decode method_3_code 181 = .ok (.if_icmp .gt 5, 3) := by decide +kernel
theorem d1_184 : decode method_3_code 184 = .ok (.iconst 1, 1) := by decide +kernel
theorem d1_185 : decode method_3_code 185 = .ok (.ireturn, 1) := by decide +kernel
theorem d1_186 : decode method_3_code 186 = .ok (.iload_n 0, 1) := by decide +kernel
theorem d1_187 : decode method_3_code 187 = .ok (.ldc 19, 2) := by decide +kernel
theorem d1_189 : decode method_3_code 189 = .ok (.if_icmp .lt 11, 3) := by decide +kernel
theorem d1_192 : decode method_3_code 192 = .ok (.iload_n 0, 1) := by decide +kernel
theorem d1_193 : decode method_3_code 193 = .ok (.ldc 20, 2) := by decide +kernel
theorem d1_195 : decode method_3_code 195 = .ok (.if_icmp .gt 5, 3) := by decide +kernel
theorem d1_198 : decode method_3_code 198 = .ok (.iconst 1, 1) := by decide +kernel
theorem d1_199 : decode method_3_code 199 = .ok (.ireturn, 1) := by decide +kernel
theorem d1_200 : decode method_3_code 200 = .ok (.iload_n 0, 1) := by decide +kernel
theorem d1_201 : decode method_3_code 201 = .ok (.ldc 21, 2) := by decide +kernel
theorem d1_203 : decode method_3_code 203 = .ok (.if_icmp .lt 11, 3) := by decide +kernel
theorem d1_206 : decode method_3_code 206 = .ok (.iload_n 0, 1) := by decide +kernel
theorem d1_207 : decode method_3_code 207 = .ok (.ldc 22, 2) := by decide +kernel
theorem d1_209 : decode method_3_code 209 = .ok (.if_icmp .gt 5, 3) := by decide +kernel
theorem d1_212 : decode method_3_code 212 = .ok (.iconst 1, 1) := by decide +kernel
theorem d1_213 : decode method_3_code 213 = .ok (.ireturn, 1) := by decide +kernel
theorem d1_214 : decode method_3_code 214 = .ok (.iload_n 0, 1) := by decide +kernel
theorem d1_215 : decode method_3_code 215 = .ok (.ldc 23, 2) := by decide +kernel
theorem d1_217 : decode method_3_code 217 = .ok (.if_icmp .lt 7, 3) := by decide +kernel
theorem d1_220 : decode method_3_code 220 = .ok (.iconst 1, 1) := by decide +kernel
theorem d1_221 : decode method_3_code 221 = .ok (.goto 4, 3) := by decide +kernel
theorem d1_224 : decode method_3_code 224 = .ok (.iconst 0, 1) := by decide +kernel
theorem d1_225 : decode method_3_code 225 = .ok (.ireturn, 1) := by decide +kernel
theorem ef_1 (m : MethodId) (p0 : Int32) : entryFrame m #[(.int p0)] 1 = (mkF m 0 #[.val (.int p0)] []) := by first | (simp [entryFrame, mkF, argsToLocals, Value.category, maxLocals]; done) | rfl
def F1_225 (x0 : Int32) (y1 : Int32) : Int32 := (nar .boolean y1)
def F1_214 (x0 : Int32) : Int32 := (if x0 < (65534 : Int32) then (F1_225 x0 (0 : Int32)) else (F1_225 x0 (1 : Int32)))
def F1_200 (x0 : Int32) : Int32 := (if x0 < (64976 : Int32) then (F1_214 x0) else (if (65007 : Int32) < x0 then (F1_214 x0) else (1 : Int32)))
def F1_186 (x0 : Int32) : Int32 := (if x0 < (57344 : Int32) then (F1_200 x0) else (if (63743 : Int32) < x0 then (F1_200 x0) else (1 : Int32)))
def F1_170 (x0 : Int32) : Int32 := (if x0 < (12272 : Int32) then (F1_186 x0) else (if (12288 : Int32) < x0 then (F1_186 x0) else (1 : Int32)))
def F1_154 (x0 : Int32) : Int32 := (if x0 < (8592 : Int32) then (F1_170 x0) else (if (11263 : Int32) < x0 then (F1_170 x0) else (1 : Int32)))
def F1_138 (x0 : Int32) : Int32 := (if x0 < (8257 : Int32) then (F1_154 x0) else (if (8303 : Int32) < x0 then (F1_154 x0) else (1 : Int32)))
def F1_122 (x0 : Int32) : Int32 := (if x0 < (8206 : Int32) then (F1_138 x0) else (if (8254 : Int32) < x0 then (F1_138 x0) else (1 : Int32)))
def F1_104 (x0 : Int32) : Int32 := (1 : Int32)
def F1_83 (x0 : Int32) : Int32 := (if x0 = (215 : Int32) then (F1_104 x0) else (if x0 = (247 : Int32) then (F1_104 x0) else (if x0 = (894 : Int32) then (F1_104 x0) else (if x0 < (8192 : Int32) then (F1_122 x0) else (if (8203 : Int32) < x0 then (F1_122 x0) else (1 : Int32))))))
def F1_67 (x0 : Int32) : Int32 := (if x0 < (184 : Int32) then (F1_83 x0) else (if (191 : Int32) < x0 then (F1_83 x0) else (1 : Int32)))
def F1_44 (x0 : Int32) : Int32 := (if x0 = (96 : Int32) then (1 : Int32) else (if x0 < (123 : Int32) then (F1_67 x0) else (if (182 : Int32) < x0 then (F1_67 x0) else (1 : Int32))))
def F1_30 (x0 : Int32) : Int32 := (if x0 < (91 : Int32) then (F1_44 x0) else (if (94 : Int32) < x0 then (F1_44 x0) else (1 : Int32)))
def F1_0 (x0 : Int32) : Int32 := (if (44 : Int32) < x0 then (if x0 = (47 : Int32) then (1 : Int32) else (if x0 < (58 : Int32) then (F1_30 x0) else (if (64 : Int32) < x0 then (F1_30 x0) else (1 : Int32)))) else (1 : Int32))
set_option maxRecDepth 65536 in
set_option maxHeartbeats 40000000 in
theorem rm1 (l : Launch) (Z : State) (a0 : Array Value) (hw : ∀ d ∈ tables_1, d.before a0 Z = true) (p0 : Int32) (h0 : Heap) (n0 : Nat) :
    own_M l Z (⟨"com/example/lather/lather/xml/XmlCharsIsNcNameCharPinLaw", "excluded", "(I)Z"⟩ : MethodName) method_3_code 1 (some .boolean) ({ frames := 0, cells := 0, slots := 0, locals := 0 } : Room) #[(.int p0)] h0 (fun v h L => v = some (.int (F1_0 p0)) ∧ Fr n0 L ∧ h = h0) := by
  refine own_body pn_1 ?_
  intro p e s m below meth c T hx hby hml hown hZ hret hlk hnm X eT
  have N := Fr.nil n0
  obtain ⟨w, hF⟩ : ∃ w, w = F1_0 p0 := ⟨_, rfl⟩
  try rw [← hF]
  generalize hQ : own_Q s (fun v h L => v = some (.int w) ∧ Fr n0 L ∧ h = h0) ({ frames := 0, cells := 0, slots := 0, locals := 0 } : Room).cells ({ frames := 0, cells := 0, slots := 0, locals := 0 } : Room).slots = Qq
  refine own_st (fun _ k => castTop (ef_1 m p0) k) ?_
  have B225 : ∀ (T : State) (L : List Loc) (x0 : Int32) (y1 : Int32), Stand p l e ({ frames := 0, cells := 0, slots := 0, locals := 0 } : Room) s m #[(.int p0)] below meth c T L 0 0 → T.heap = h0 → Fr n0 L → w = F1_225 x0 y1 → own_E p e below Qq T (mkF m 225 #[.val (.int x0)] [(.int y1)]) := by
    intro T L x0 y1 X eT N hF
    rw [← hQ]
    exact own_retN X hx hlk (t := .boolean) hret (by simp) (hb hby d1_225) (by decide) (by decide) ⟨by (rw [hF]; try rfl), N, eT⟩
  have B214 : ∀ (T : State) (L : List Loc) (x0 : Int32), Stand p l e ({ frames := 0, cells := 0, slots := 0, locals := 0 } : Room) s m #[(.int p0)] below meth c T L 0 0 → T.heap = h0 → Fr n0 L → w = F1_214 x0 → own_E p e below Qq T (mkF m 214 #[.val (.int x0)] []) := by
    intro T L x0 X eT N hF
    refine own_st (fun _ => XS.iloadN X.here hx rfl (hb hby d1_214) rfl) ?_
    show own_E p e below Qq T (mkF m 215 #[.val (.int x0)] [(.int x0)])
    refine own_st (fun _ => X.ldcI hx hown (mvT hZ (hw _ (List.mem_of_getElem? (i := 15) rfl))) rfl (hb hby d1_215)) ?_
    show own_E p e below Qq T (mkF m 217 #[.val (.int x0)] [(.int (65534 : Int32)), (.int x0)])
    by_cases q217 : x0 < (65534 : Int32)
    · replace hF := hF.trans (if_pos q217)
      refine own_st (fun _ => XS.icmpYes X.here hx rfl (pc0 := 217) (pc' := 224) rfl (hb hby d1_217) rfl (XT.ii_lt_t q217) (by decide) (by decide)) ?_
      show own_E p e below Qq T (mkF m 224 #[.val (.int x0)] [])
      refine own_st (fun _ => XS.iconst X.here hx rfl (hb hby d1_224)) ?_
      show own_E p e below Qq T (mkF m 225 #[.val (.int x0)] [(.int (0 : Int32))])
      exact B225 _ _ x0 (0 : Int32) X eT N hF
    · replace hF := hF.trans (if_neg q217)
      refine own_st (fun _ => XS.icmpNo X.here hx rfl (hb hby d1_217) rfl (XT.ii_lt_f q217)) ?_
      show own_E p e below Qq T (mkF m 220 #[.val (.int x0)] [])
      refine own_st (fun _ => XS.iconst X.here hx rfl (hb hby d1_220)) ?_
      show own_E p e below Qq T (mkF m 221 #[.val (.int x0)] [(.int (1 : Int32))])
      refine own_st (fun _ => XS.goto X.here hx rfl (pc0 := 221) (pc' := 225) rfl (hb hby d1_221) (by decide) (by decide)) ?_
      show own_E p e below Qq T (mkF m 225 #[.val (.int x0)] [(.int (1 : Int32))])
      exact B225 _ _ x0 (1 : Int32) X eT N hF
  have B200 : ∀ (T : State) (L : List Loc) (x0 : Int32), Stand p l e ({ frames := 0, cells := 0, slots := 0, locals := 0 } : Room) s m #[(.int p0)] below meth c T L 0 0 → T.heap = h0 → Fr n0 L → w = F1_200 x0 → own_E p e below Qq T (mkF m 200 #[.val (.int x0)] []) := by
    intro T L x0 X eT N hF
    refine own_st (fun _ => XS.iloadN X.here hx rfl (hb hby d1_200) rfl) ?_
    show own_E p e below Qq T (mkF m 201 #[.val (.int x0)] [(.int x0)])
    refine own_st (fun _ => X.ldcI hx hown (mvT hZ (hw _ (List.mem_of_getElem? (i := 14) rfl))) rfl (hb hby d1_201)) ?_
    show own_E p e below Qq T (mkF m 203 #[.val (.int x0)] [(.int (64976 : Int32)), (.int x0)])
    by_cases q203 : x0 < (64976 : Int32)
    · replace hF := hF.trans (if_pos q203)
      refine own_st (fun _ => XS.icmpYes X.here hx rfl (pc0 := 203) (pc' := 214) rfl (hb hby d1_203) rfl (XT.ii_lt_t q203) (by decide) (by decide)) ?_
      show own_E p e below Qq T (mkF m 214 #[.val (.int x0)] [])
      exact B214 _ _ x0 X eT N hF
    · replace hF := hF.trans (if_neg q203)
      refine own_st (fun _ => XS.icmpNo X.here hx rfl (hb hby d1_203) rfl (XT.ii_lt_f q203)) ?_
      show own_E p e below Qq T (mkF m 206 #[.val (.int x0)] [])
      refine own_st (fun _ => XS.iloadN X.here hx rfl (hb hby d1_206) rfl) ?_
      show own_E p e below Qq T (mkF m 207 #[.val (.int x0)] [(.int x0)])
      refine own_st (fun _ => X.ldcI hx hown (mvT hZ (hw _ (List.mem_of_getElem? (i := 18) rfl))) rfl (hb hby d1_207)) ?_
      show own_E p e below Qq T (mkF m 209 #[.val (.int x0)] [(.int (65007 : Int32)), (.int x0)])
      by_cases q209 : (65007 : Int32) < x0
      · replace hF := hF.trans (if_pos q209)
        refine own_st (fun _ => XS.icmpYes X.here hx rfl (pc0 := 209) (pc' := 214) rfl (hb hby d1_209) rfl (XT.ii_gt_t q209) (by decide) (by decide)) ?_
        show own_E p e below Qq T (mkF m 214 #[.val (.int x0)] [])
        exact B214 _ _ x0 X eT N hF
      · replace hF := hF.trans (if_neg q209)
        refine own_st (fun _ => XS.icmpNo X.here hx rfl (hb hby d1_209) rfl (XT.ii_gt_f q209)) ?_
        show own_E p e below Qq T (mkF m 212 #[.val (.int x0)] [])
        refine own_st (fun _ => XS.iconst X.here hx rfl (hb hby d1_212)) ?_
        show own_E p e below Qq T (mkF m 213 #[.val (.int x0)] [(.int (1 : Int32))])
        rw [← hQ]
        exact own_retN X hx hlk (t := .boolean) hret (by simp) (hb hby d1_213) (by decide) (by decide) ⟨by (rw [hF]; try rfl), N, eT⟩
  have B186 : ∀ (T : State) (L : List Loc) (x0 : Int32), Stand p l e ({ frames := 0, cells := 0, slots := 0, locals := 0 } : Room) s m #[(.int p0)] below meth c T L 0 0 → T.heap = h0 → Fr n0 L → w = F1_186 x0 → own_E p e below Qq T (mkF m 186 #[.val (.int x0)] []) := by
    intro T L x0 X eT N hF
    refine own_st (fun _ => XS.iloadN X.here hx rfl (hb hby d1_186) rfl) ?_
    show own_E p e below Qq T (mkF m 187 #[.val (.int x0)] [(.int x0)])
    refine own_st (fun _ => X.ldcI hx hown (mvT hZ (hw _ (List.mem_of_getElem? (i := 13) rfl))) rfl (hb hby d1_187)) ?_
    show own_E p e below Qq T (mkF m 189 #[.val (.int x0)] [(.int (57344 : Int32)), (.int x0)])
    by_cases q189 : x0 < (57344 : Int32)
    · replace hF := hF.trans (if_pos q189)
      refine own_st (fun _ => XS.icmpYes X.here hx rfl (pc0 := 189) (pc' := 200) rfl (hb hby d1_189) rfl (XT.ii_lt_t q189) (by decide) (by decide)) ?_
      show own_E p e below Qq T (mkF m 200 #[.val (.int x0)] [])
      exact B200 _ _ x0 X eT N hF
    · replace hF := hF.trans (if_neg q189)
      refine own_st (fun _ => XS.icmpNo X.here hx rfl (hb hby d1_189) rfl (XT.ii_lt_f q189)) ?_
      show own_E p e below Qq T (mkF m 192 #[.val (.int x0)] [])
      refine own_st (fun _ => XS.iloadN X.here hx rfl (hb hby d1_192) rfl) ?_
      show own_E p e below Qq T (mkF m 193 #[.val (.int x0)] [(.int x0)])
      refine own_st (fun _ => X.ldcI hx hown (mvT hZ (hw _ (List.mem_of_getElem? (i := 17) rfl))) rfl (hb hby d1_193)) ?_
      show own_E p e below Qq T (mkF m 195 #[.val (.int x0)] [(.int (63743 : Int32)), (.int x0)])
      by_cases q195 : (63743 : Int32) < x0
      · replace hF := hF.trans (if_pos q195)
        refine own_st (fun _ => XS.icmpYes X.here hx rfl (pc0 := 195) (pc' := 200) rfl (hb hby d1_195) rfl (XT.ii_gt_t q195) (by decide) (by decide)) ?_
        show own_E p e below Qq T (mkF m 200 #[.val (.int x0)] [])
        exact B200 _ _ x0 X eT N hF
      · replace hF := hF.trans (if_neg q195)
        refine own_st (fun _ => XS.icmpNo X.here hx rfl (hb hby d1_195) rfl (XT.ii_gt_f q195)) ?_
        show own_E p e below Qq T (mkF m 198 #[.val (.int x0)] [])
        refine own_st (fun _ => XS.iconst X.here hx rfl (hb hby d1_198)) ?_
        show own_E p e below Qq T (mkF m 199 #[.val (.int x0)] [(.int (1 : Int32))])
        rw [← hQ]
        exact own_retN X hx hlk (t := .boolean) hret (by simp) (hb hby d1_199) (by decide) (by decide) ⟨by (rw [hF]; try rfl), N, eT⟩
  have B170 : ∀ (T : State) (L : List Loc) (x0 : Int32), Stand p l e ({ frames := 0, cells := 0, slots := 0, locals := 0 } : Room) s m #[(.int p0)] below meth c T L 0 0 → T.heap = h0 → Fr n0 L → w = F1_170 x0 → own_E p e below Qq T (mkF m 170 #[.val (.int x0)] []) := by
    intro T L x0 X eT N hF
    refine own_st (fun _ => XS.iloadN X.here hx rfl (hb hby d1_170) rfl) ?_
    show own_E p e below Qq T (mkF m 171 #[.val (.int x0)] [(.int x0)])
    refine own_st (fun _ => XS.sipush X.here hx rfl (hb hby d1_171)) ?_
    show own_E p e below Qq T (mkF m 174 #[.val (.int x0)] [(.int (12272 : Int32)), (.int x0)])
    by_cases q174 : x0 < (12272 : Int32)
    · replace hF := hF.trans (if_pos q174)
      refine own_st (fun _ => XS.icmpYes X.here hx rfl (pc0 := 174) (pc' := 186) rfl (hb hby d1_174) rfl (XT.ii_lt_t q174) (by decide) (by decide)) ?_
      show own_E p e below Qq T (mkF m 186 #[.val (.int x0)] [])
      exact B186 _ _ x0 X eT N hF
    · replace hF := hF.trans (if_neg q174)
      refine own_st (fun _ => XS.icmpNo X.here hx rfl (hb hby d1_174) rfl (XT.ii_lt_f q174)) ?_
      show own_E p e below Qq T (mkF m 177 #[.val (.int x0)] [])
      refine own_st (fun _ => XS.iloadN X.here hx rfl (hb hby d1_177) rfl) ?_
      show own_E p e below Qq T (mkF m 178 #[.val (.int x0)] [(.int x0)])
      refine own_st (fun _ => XS.sipush X.here hx rfl (hb hby d1_178)) ?_
      show own_E p e below Qq T (mkF m 181 #[.val (.int x0)] [(.int (12288 : Int32)), (.int x0)])
      by_cases q181 : (12288 : Int32) < x0
      · replace hF := hF.trans (if_pos q181)
        refine own_st (fun _ => XS.icmpYes X.here hx rfl (pc0 := 181) (pc' := 186) rfl (hb hby d1_181) rfl (XT.ii_gt_t q181) (by decide) (by decide)) ?_
        show own_E p e below Qq T (mkF m 186 #[.val (.int x0)] [])
        exact B186 _ _ x0 X eT N hF
      · replace hF := hF.trans (if_neg q181)
        refine own_st (fun _ => XS.icmpNo X.here hx rfl (hb hby d1_181) rfl (XT.ii_gt_f q181)) ?_
        show own_E p e below Qq T (mkF m 184 #[.val (.int x0)] [])
        refine own_st (fun _ => XS.iconst X.here hx rfl (hb hby d1_184)) ?_
        show own_E p e below Qq T (mkF m 185 #[.val (.int x0)] [(.int (1 : Int32))])
        rw [← hQ]
        exact own_retN X hx hlk (t := .boolean) hret (by simp) (hb hby d1_185) (by decide) (by decide) ⟨by (rw [hF]; try rfl), N, eT⟩
  have B154 : ∀ (T : State) (L : List Loc) (x0 : Int32), Stand p l e ({ frames := 0, cells := 0, slots := 0, locals := 0 } : Room) s m #[(.int p0)] below meth c T L 0 0 → T.heap = h0 → Fr n0 L → w = F1_154 x0 → own_E p e below Qq T (mkF m 154 #[.val (.int x0)] []) := by
    intro T L x0 X eT N hF
    refine own_st (fun _ => XS.iloadN X.here hx rfl (hb hby d1_154) rfl) ?_
    show own_E p e below Qq T (mkF m 155 #[.val (.int x0)] [(.int x0)])
    refine own_st (fun _ => XS.sipush X.here hx rfl (hb hby d1_155)) ?_
    show own_E p e below Qq T (mkF m 158 #[.val (.int x0)] [(.int (8592 : Int32)), (.int x0)])
    by_cases q158 : x0 < (8592 : Int32)
    · replace hF := hF.trans (if_pos q158)
      refine own_st (fun _ => XS.icmpYes X.here hx rfl (pc0 := 158) (pc' := 170) rfl (hb hby d1_158) rfl (XT.ii_lt_t q158) (by decide) (by decide)) ?_
      show own_E p e below Qq T (mkF m 170 #[.val (.int x0)] [])
      exact B170 _ _ x0 X eT N hF
    · replace hF := hF.trans (if_neg q158)
      refine own_st (fun _ => XS.icmpNo X.here hx rfl (hb hby d1_158) rfl (XT.ii_lt_f q158)) ?_
      show own_E p e below Qq T (mkF m 161 #[.val (.int x0)] [])
      refine own_st (fun _ => XS.iloadN X.here hx rfl (hb hby d1_161) rfl) ?_
      show own_E p e below Qq T (mkF m 162 #[.val (.int x0)] [(.int x0)])
      refine own_st (fun _ => XS.sipush X.here hx rfl (hb hby d1_162)) ?_
      show own_E p e below Qq T (mkF m 165 #[.val (.int x0)] [(.int (11263 : Int32)), (.int x0)])
      by_cases q165 : (11263 : Int32) < x0
      · replace hF := hF.trans (if_pos q165)
        refine own_st (fun _ => XS.icmpYes X.here hx rfl (pc0 := 165) (pc' := 170) rfl (hb hby d1_165) rfl (XT.ii_gt_t q165) (by decide) (by decide)) ?_
        show own_E p e below Qq T (mkF m 170 #[.val (.int x0)] [])
        exact B170 _ _ x0 X eT N hF
      · replace hF := hF.trans (if_neg q165)
        refine own_st (fun _ => XS.icmpNo X.here hx rfl (hb hby d1_165) rfl (XT.ii_gt_f q165)) ?_
        show own_E p e below Qq T (mkF m 168 #[.val (.int x0)] [])
        refine own_st (fun _ => XS.iconst X.here hx rfl (hb hby d1_168)) ?_
        show own_E p e below Qq T (mkF m 169 #[.val (.int x0)] [(.int (1 : Int32))])
        rw [← hQ]
        exact own_retN X hx hlk (t := .boolean) hret (by simp) (hb hby d1_169) (by decide) (by decide) ⟨by (rw [hF]; try rfl), N, eT⟩
  have B138 : ∀ (T : State) (L : List Loc) (x0 : Int32), Stand p l e ({ frames := 0, cells := 0, slots := 0, locals := 0 } : Room) s m #[(.int p0)] below meth c T L 0 0 → T.heap = h0 → Fr n0 L → w = F1_138 x0 → own_E p e below Qq T (mkF m 138 #[.val (.int x0)] []) := by
    intro T L x0 X eT N hF
    refine own_st (fun _ => XS.iloadN X.here hx rfl (hb hby d1_138) rfl) ?_
    show own_E p e below Qq T (mkF m 139 #[.val (.int x0)] [(.int x0)])
    refine own_st (fun _ => XS.sipush X.here hx rfl (hb hby d1_139)) ?_
    show own_E p e below Qq T (mkF m 142 #[.val (.int x0)] [(.int (8257 : Int32)), (.int x0)])
    by_cases q142 : x0 < (8257 : Int32)
    · replace hF := hF.trans (if_pos q142)
      refine own_st (fun _ => XS.icmpYes X.here hx rfl (pc0 := 142) (pc' := 154) rfl (hb hby d1_142) rfl (XT.ii_lt_t q142) (by decide) (by decide)) ?_
      show own_E p e below Qq T (mkF m 154 #[.val (.int x0)] [])
      exact B154 _ _ x0 X eT N hF
    · replace hF := hF.trans (if_neg q142)
      refine own_st (fun _ => XS.icmpNo X.here hx rfl (hb hby d1_142) rfl (XT.ii_lt_f q142)) ?_
      show own_E p e below Qq T (mkF m 145 #[.val (.int x0)] [])
      refine own_st (fun _ => XS.iloadN X.here hx rfl (hb hby d1_145) rfl) ?_
      show own_E p e below Qq T (mkF m 146 #[.val (.int x0)] [(.int x0)])
      refine own_st (fun _ => XS.sipush X.here hx rfl (hb hby d1_146)) ?_
      show own_E p e below Qq T (mkF m 149 #[.val (.int x0)] [(.int (8303 : Int32)), (.int x0)])
      by_cases q149 : (8303 : Int32) < x0
      · replace hF := hF.trans (if_pos q149)
        refine own_st (fun _ => XS.icmpYes X.here hx rfl (pc0 := 149) (pc' := 154) rfl (hb hby d1_149) rfl (XT.ii_gt_t q149) (by decide) (by decide)) ?_
        show own_E p e below Qq T (mkF m 154 #[.val (.int x0)] [])
        exact B154 _ _ x0 X eT N hF
      · replace hF := hF.trans (if_neg q149)
        refine own_st (fun _ => XS.icmpNo X.here hx rfl (hb hby d1_149) rfl (XT.ii_gt_f q149)) ?_
        show own_E p e below Qq T (mkF m 152 #[.val (.int x0)] [])
        refine own_st (fun _ => XS.iconst X.here hx rfl (hb hby d1_152)) ?_
        show own_E p e below Qq T (mkF m 153 #[.val (.int x0)] [(.int (1 : Int32))])
        rw [← hQ]
        exact own_retN X hx hlk (t := .boolean) hret (by simp) (hb hby d1_153) (by decide) (by decide) ⟨by (rw [hF]; try rfl), N, eT⟩
  have B122 : ∀ (T : State) (L : List Loc) (x0 : Int32), Stand p l e ({ frames := 0, cells := 0, slots := 0, locals := 0 } : Room) s m #[(.int p0)] below meth c T L 0 0 → T.heap = h0 → Fr n0 L → w = F1_122 x0 → own_E p e below Qq T (mkF m 122 #[.val (.int x0)] []) := by
    intro T L x0 X eT N hF
    refine own_st (fun _ => XS.iloadN X.here hx rfl (hb hby d1_122) rfl) ?_
    show own_E p e below Qq T (mkF m 123 #[.val (.int x0)] [(.int x0)])
    refine own_st (fun _ => XS.sipush X.here hx rfl (hb hby d1_123)) ?_
    show own_E p e below Qq T (mkF m 126 #[.val (.int x0)] [(.int (8206 : Int32)), (.int x0)])
    by_cases q126 : x0 < (8206 : Int32)
    · replace hF := hF.trans (if_pos q126)
      refine own_st (fun _ => XS.icmpYes X.here hx rfl (pc0 := 126) (pc' := 138) rfl (hb hby d1_126) rfl (XT.ii_lt_t q126) (by decide) (by decide)) ?_
      show own_E p e below Qq T (mkF m 138 #[.val (.int x0)] [])
      exact B138 _ _ x0 X eT N hF
    · replace hF := hF.trans (if_neg q126)
      refine own_st (fun _ => XS.icmpNo X.here hx rfl (hb hby d1_126) rfl (XT.ii_lt_f q126)) ?_
      show own_E p e below Qq T (mkF m 129 #[.val (.int x0)] [])
      refine own_st (fun _ => XS.iloadN X.here hx rfl (hb hby d1_129) rfl) ?_
      show own_E p e below Qq T (mkF m 130 #[.val (.int x0)] [(.int x0)])
      refine own_st (fun _ => XS.sipush X.here hx rfl (hb hby d1_130)) ?_
      show own_E p e below Qq T (mkF m 133 #[.val (.int x0)] [(.int (8254 : Int32)), (.int x0)])
      by_cases q133 : (8254 : Int32) < x0
      · replace hF := hF.trans (if_pos q133)
        refine own_st (fun _ => XS.icmpYes X.here hx rfl (pc0 := 133) (pc' := 138) rfl (hb hby d1_133) rfl (XT.ii_gt_t q133) (by decide) (by decide)) ?_
        show own_E p e below Qq T (mkF m 138 #[.val (.int x0)] [])
        exact B138 _ _ x0 X eT N hF
      · replace hF := hF.trans (if_neg q133)
        refine own_st (fun _ => XS.icmpNo X.here hx rfl (hb hby d1_133) rfl (XT.ii_gt_f q133)) ?_
        show own_E p e below Qq T (mkF m 136 #[.val (.int x0)] [])
        refine own_st (fun _ => XS.iconst X.here hx rfl (hb hby d1_136)) ?_
        show own_E p e below Qq T (mkF m 137 #[.val (.int x0)] [(.int (1 : Int32))])
        rw [← hQ]
        exact own_retN X hx hlk (t := .boolean) hret (by simp) (hb hby d1_137) (by decide) (by decide) ⟨by (rw [hF]; try rfl), N, eT⟩
  have B104 : ∀ (T : State) (L : List Loc) (x0 : Int32), Stand p l e ({ frames := 0, cells := 0, slots := 0, locals := 0 } : Room) s m #[(.int p0)] below meth c T L 0 0 → T.heap = h0 → Fr n0 L → w = F1_104 x0 → own_E p e below Qq T (mkF m 104 #[.val (.int x0)] []) := by
    intro T L x0 X eT N hF
    refine own_st (fun _ => XS.iconst X.here hx rfl (hb hby d1_104)) ?_
    show own_E p e below Qq T (mkF m 105 #[.val (.int x0)] [(.int (1 : Int32))])
    rw [← hQ]
    exact own_retN X hx hlk (t := .boolean) hret (by simp) (hb hby d1_105) (by decide) (by decide) ⟨by (rw [hF]; try rfl), N, eT⟩
  have B83 : ∀ (T : State) (L : List Loc) (x0 : Int32), Stand p l e ({ frames := 0, cells := 0, slots := 0, locals := 0 } : Room) s m #[(.int p0)] below meth c T L 0 0 → T.heap = h0 → Fr n0 L → w = F1_83 x0 → own_E p e below Qq T (mkF m 83 #[.val (.int x0)] []) := by
    intro T L x0 X eT N hF
    refine own_st (fun _ => XS.iloadN X.here hx rfl (hb hby d1_83) rfl) ?_
    show own_E p e below Qq T (mkF m 84 #[.val (.int x0)] [(.int x0)])
    refine own_st (fun _ => XS.sipush X.here hx rfl (hb hby d1_84)) ?_
    show own_E p e below Qq T (mkF m 87 #[.val (.int x0)] [(.int (215 : Int32)), (.int x0)])
    by_cases q87 : x0 = (215 : Int32)
    · replace hF := hF.trans (if_pos q87)
      refine own_st (fun _ => XS.icmpYes X.here hx rfl (pc0 := 87) (pc' := 104) rfl (hb hby d1_87) rfl (XT.ii_eq_t q87) (by decide) (by decide)) ?_
      show own_E p e below Qq T (mkF m 104 #[.val (.int x0)] [])
      exact B104 _ _ x0 X eT N hF
    · replace hF := hF.trans (if_neg q87)
      refine own_st (fun _ => XS.icmpNo X.here hx rfl (hb hby d1_87) rfl (XT.ii_eq_f q87)) ?_
      show own_E p e below Qq T (mkF m 90 #[.val (.int x0)] [])
      refine own_st (fun _ => XS.iloadN X.here hx rfl (hb hby d1_90) rfl) ?_
      show own_E p e below Qq T (mkF m 91 #[.val (.int x0)] [(.int x0)])
      refine own_st (fun _ => XS.sipush X.here hx rfl (hb hby d1_91)) ?_
      show own_E p e below Qq T (mkF m 94 #[.val (.int x0)] [(.int (247 : Int32)), (.int x0)])
      by_cases q94 : x0 = (247 : Int32)
      · replace hF := hF.trans (if_pos q94)
        refine own_st (fun _ => XS.icmpYes X.here hx rfl (pc0 := 94) (pc' := 104) rfl (hb hby d1_94) rfl (XT.ii_eq_t q94) (by decide) (by decide)) ?_
        show own_E p e below Qq T (mkF m 104 #[.val (.int x0)] [])
        exact B104 _ _ x0 X eT N hF
      · replace hF := hF.trans (if_neg q94)
        refine own_st (fun _ => XS.icmpNo X.here hx rfl (hb hby d1_94) rfl (XT.ii_eq_f q94)) ?_
        show own_E p e below Qq T (mkF m 97 #[.val (.int x0)] [])
        refine own_st (fun _ => XS.iloadN X.here hx rfl (hb hby d1_97) rfl) ?_
        show own_E p e below Qq T (mkF m 98 #[.val (.int x0)] [(.int x0)])
        refine own_st (fun _ => XS.sipush X.here hx rfl (hb hby d1_98)) ?_
        show own_E p e below Qq T (mkF m 101 #[.val (.int x0)] [(.int (894 : Int32)), (.int x0)])
        by_cases q101 : x0 = (894 : Int32)
        · replace hF := hF.trans (if_pos q101)
          refine own_st (fun _ => XS.icmpNo X.here hx rfl (hb hby d1_101) rfl (XT.ii_ne_f q101)) ?_
          show own_E p e below Qq T (mkF m 104 #[.val (.int x0)] [])
          exact B104 _ _ x0 X eT N hF
        · replace hF := hF.trans (if_neg q101)
          refine own_st (fun _ => XS.icmpYes X.here hx rfl (pc0 := 101) (pc' := 106) rfl (hb hby d1_101) rfl (XT.ii_ne_t q101) (by decide) (by decide)) ?_
          show own_E p e below Qq T (mkF m 106 #[.val (.int x0)] [])
          refine own_st (fun _ => XS.iloadN X.here hx rfl (hb hby d1_106) rfl) ?_
          show own_E p e below Qq T (mkF m 107 #[.val (.int x0)] [(.int x0)])
          refine own_st (fun _ => XS.sipush X.here hx rfl (hb hby d1_107)) ?_
          show own_E p e below Qq T (mkF m 110 #[.val (.int x0)] [(.int (8192 : Int32)), (.int x0)])
          by_cases q110 : x0 < (8192 : Int32)
          · replace hF := hF.trans (if_pos q110)
            refine own_st (fun _ => XS.icmpYes X.here hx rfl (pc0 := 110) (pc' := 122) rfl (hb hby d1_110) rfl (XT.ii_lt_t q110) (by decide) (by decide)) ?_
            show own_E p e below Qq T (mkF m 122 #[.val (.int x0)] [])
            exact B122 _ _ x0 X eT N hF
          · replace hF := hF.trans (if_neg q110)
            refine own_st (fun _ => XS.icmpNo X.here hx rfl (hb hby d1_110) rfl (XT.ii_lt_f q110)) ?_
            show own_E p e below Qq T (mkF m 113 #[.val (.int x0)] [])
            refine own_st (fun _ => XS.iloadN X.here hx rfl (hb hby d1_113) rfl) ?_
            show own_E p e below Qq T (mkF m 114 #[.val (.int x0)] [(.int x0)])
            refine own_st (fun _ => XS.sipush X.here hx rfl (hb hby d1_114)) ?_
            show own_E p e below Qq T (mkF m 117 #[.val (.int x0)] [(.int (8203 : Int32)), (.int x0)])
            by_cases q117 : (8203 : Int32) < x0
            · replace hF := hF.trans (if_pos q117)
              refine own_st (fun _ => XS.icmpYes X.here hx rfl (pc0 := 117) (pc' := 122) rfl (hb hby d1_117) rfl (XT.ii_gt_t q117) (by decide) (by decide)) ?_
              show own_E p e below Qq T (mkF m 122 #[.val (.int x0)] [])
              exact B122 _ _ x0 X eT N hF
            · replace hF := hF.trans (if_neg q117)
              refine own_st (fun _ => XS.icmpNo X.here hx rfl (hb hby d1_117) rfl (XT.ii_gt_f q117)) ?_
              show own_E p e below Qq T (mkF m 120 #[.val (.int x0)] [])
              refine own_st (fun _ => XS.iconst X.here hx rfl (hb hby d1_120)) ?_
              show own_E p e below Qq T (mkF m 121 #[.val (.int x0)] [(.int (1 : Int32))])
              rw [← hQ]
              exact own_retN X hx hlk (t := .boolean) hret (by simp) (hb hby d1_121) (by decide) (by decide) ⟨by (rw [hF]; try rfl), N, eT⟩
  have B67 : ∀ (T : State) (L : List Loc) (x0 : Int32), Stand p l e ({ frames := 0, cells := 0, slots := 0, locals := 0 } : Room) s m #[(.int p0)] below meth c T L 0 0 → T.heap = h0 → Fr n0 L → w = F1_67 x0 → own_E p e below Qq T (mkF m 67 #[.val (.int x0)] []) := by
    intro T L x0 X eT N hF
    refine own_st (fun _ => XS.iloadN X.here hx rfl (hb hby d1_67) rfl) ?_
    show own_E p e below Qq T (mkF m 68 #[.val (.int x0)] [(.int x0)])
    refine own_st (fun _ => XS.sipush X.here hx rfl (hb hby d1_68)) ?_
    show own_E p e below Qq T (mkF m 71 #[.val (.int x0)] [(.int (184 : Int32)), (.int x0)])
    by_cases q71 : x0 < (184 : Int32)
    · replace hF := hF.trans (if_pos q71)
      refine own_st (fun _ => XS.icmpYes X.here hx rfl (pc0 := 71) (pc' := 83) rfl (hb hby d1_71) rfl (XT.ii_lt_t q71) (by decide) (by decide)) ?_
      show own_E p e below Qq T (mkF m 83 #[.val (.int x0)] [])
      exact B83 _ _ x0 X eT N hF
    · replace hF := hF.trans (if_neg q71)
      refine own_st (fun _ => XS.icmpNo X.here hx rfl (hb hby d1_71) rfl (XT.ii_lt_f q71)) ?_
      show own_E p e below Qq T (mkF m 74 #[.val (.int x0)] [])
      refine own_st (fun _ => XS.iloadN X.here hx rfl (hb hby d1_74) rfl) ?_
      show own_E p e below Qq T (mkF m 75 #[.val (.int x0)] [(.int x0)])
      refine own_st (fun _ => XS.sipush X.here hx rfl (hb hby d1_75)) ?_
      show own_E p e below Qq T (mkF m 78 #[.val (.int x0)] [(.int (191 : Int32)), (.int x0)])
      by_cases q78 : (191 : Int32) < x0
      · replace hF := hF.trans (if_pos q78)
        refine own_st (fun _ => XS.icmpYes X.here hx rfl (pc0 := 78) (pc' := 83) rfl (hb hby d1_78) rfl (XT.ii_gt_t q78) (by decide) (by decide)) ?_
        show own_E p e below Qq T (mkF m 83 #[.val (.int x0)] [])
        exact B83 _ _ x0 X eT N hF
      · replace hF := hF.trans (if_neg q78)
        refine own_st (fun _ => XS.icmpNo X.here hx rfl (hb hby d1_78) rfl (XT.ii_gt_f q78)) ?_
        show own_E p e below Qq T (mkF m 81 #[.val (.int x0)] [])
        refine own_st (fun _ => XS.iconst X.here hx rfl (hb hby d1_81)) ?_
        show own_E p e below Qq T (mkF m 82 #[.val (.int x0)] [(.int (1 : Int32))])
        rw [← hQ]
        exact own_retN X hx hlk (t := .boolean) hret (by simp) (hb hby d1_82) (by decide) (by decide) ⟨by (rw [hF]; try rfl), N, eT⟩
  have B44 : ∀ (T : State) (L : List Loc) (x0 : Int32), Stand p l e ({ frames := 0, cells := 0, slots := 0, locals := 0 } : Room) s m #[(.int p0)] below meth c T L 0 0 → T.heap = h0 → Fr n0 L → w = F1_44 x0 → own_E p e below Qq T (mkF m 44 #[.val (.int x0)] []) := by
    intro T L x0 X eT N hF
    refine own_st (fun _ => XS.iloadN X.here hx rfl (hb hby d1_44) rfl) ?_
    show own_E p e below Qq T (mkF m 45 #[.val (.int x0)] [(.int x0)])
    refine own_st (fun _ => XS.bipush X.here hx rfl (hb hby d1_45)) ?_
    show own_E p e below Qq T (mkF m 47 #[.val (.int x0)] [(.int (96 : Int32)), (.int x0)])
    by_cases q47 : x0 = (96 : Int32)
    · replace hF := hF.trans (if_pos q47)
      refine own_st (fun _ => XS.icmpNo X.here hx rfl (hb hby d1_47) rfl (XT.ii_ne_f q47)) ?_
      show own_E p e below Qq T (mkF m 50 #[.val (.int x0)] [])
      refine own_st (fun _ => XS.iconst X.here hx rfl (hb hby d1_50)) ?_
      show own_E p e below Qq T (mkF m 51 #[.val (.int x0)] [(.int (1 : Int32))])
      rw [← hQ]
      exact own_retN X hx hlk (t := .boolean) hret (by simp) (hb hby d1_51) (by decide) (by decide) ⟨by (rw [hF]; try rfl), N, eT⟩
    · replace hF := hF.trans (if_neg q47)
      refine own_st (fun _ => XS.icmpYes X.here hx rfl (pc0 := 47) (pc' := 52) rfl (hb hby d1_47) rfl (XT.ii_ne_t q47) (by decide) (by decide)) ?_
      show own_E p e below Qq T (mkF m 52 #[.val (.int x0)] [])
      refine own_st (fun _ => XS.iloadN X.here hx rfl (hb hby d1_52) rfl) ?_
      show own_E p e below Qq T (mkF m 53 #[.val (.int x0)] [(.int x0)])
      refine own_st (fun _ => XS.bipush X.here hx rfl (hb hby d1_53)) ?_
      show own_E p e below Qq T (mkF m 55 #[.val (.int x0)] [(.int (123 : Int32)), (.int x0)])
      by_cases q55 : x0 < (123 : Int32)
      · replace hF := hF.trans (if_pos q55)
        refine own_st (fun _ => XS.icmpYes X.here hx rfl (pc0 := 55) (pc' := 67) rfl (hb hby d1_55) rfl (XT.ii_lt_t q55) (by decide) (by decide)) ?_
        show own_E p e below Qq T (mkF m 67 #[.val (.int x0)] [])
        exact B67 _ _ x0 X eT N hF
      · replace hF := hF.trans (if_neg q55)
        refine own_st (fun _ => XS.icmpNo X.here hx rfl (hb hby d1_55) rfl (XT.ii_lt_f q55)) ?_
        show own_E p e below Qq T (mkF m 58 #[.val (.int x0)] [])
        refine own_st (fun _ => XS.iloadN X.here hx rfl (hb hby d1_58) rfl) ?_
        show own_E p e below Qq T (mkF m 59 #[.val (.int x0)] [(.int x0)])
        refine own_st (fun _ => XS.sipush X.here hx rfl (hb hby d1_59)) ?_
        show own_E p e below Qq T (mkF m 62 #[.val (.int x0)] [(.int (182 : Int32)), (.int x0)])
        by_cases q62 : (182 : Int32) < x0
        · replace hF := hF.trans (if_pos q62)
          refine own_st (fun _ => XS.icmpYes X.here hx rfl (pc0 := 62) (pc' := 67) rfl (hb hby d1_62) rfl (XT.ii_gt_t q62) (by decide) (by decide)) ?_
          show own_E p e below Qq T (mkF m 67 #[.val (.int x0)] [])
          exact B67 _ _ x0 X eT N hF
        · replace hF := hF.trans (if_neg q62)
          refine own_st (fun _ => XS.icmpNo X.here hx rfl (hb hby d1_62) rfl (XT.ii_gt_f q62)) ?_
          show own_E p e below Qq T (mkF m 65 #[.val (.int x0)] [])
          refine own_st (fun _ => XS.iconst X.here hx rfl (hb hby d1_65)) ?_
          show own_E p e below Qq T (mkF m 66 #[.val (.int x0)] [(.int (1 : Int32))])
          rw [← hQ]
          exact own_retN X hx hlk (t := .boolean) hret (by simp) (hb hby d1_66) (by decide) (by decide) ⟨by (rw [hF]; try rfl), N, eT⟩
  have B30 : ∀ (T : State) (L : List Loc) (x0 : Int32), Stand p l e ({ frames := 0, cells := 0, slots := 0, locals := 0 } : Room) s m #[(.int p0)] below meth c T L 0 0 → T.heap = h0 → Fr n0 L → w = F1_30 x0 → own_E p e below Qq T (mkF m 30 #[.val (.int x0)] []) := by
    intro T L x0 X eT N hF
    refine own_st (fun _ => XS.iloadN X.here hx rfl (hb hby d1_30) rfl) ?_
    show own_E p e below Qq T (mkF m 31 #[.val (.int x0)] [(.int x0)])
    refine own_st (fun _ => XS.bipush X.here hx rfl (hb hby d1_31)) ?_
    show own_E p e below Qq T (mkF m 33 #[.val (.int x0)] [(.int (91 : Int32)), (.int x0)])
    by_cases q33 : x0 < (91 : Int32)
    · replace hF := hF.trans (if_pos q33)
      refine own_st (fun _ => XS.icmpYes X.here hx rfl (pc0 := 33) (pc' := 44) rfl (hb hby d1_33) rfl (XT.ii_lt_t q33) (by decide) (by decide)) ?_
      show own_E p e below Qq T (mkF m 44 #[.val (.int x0)] [])
      exact B44 _ _ x0 X eT N hF
    · replace hF := hF.trans (if_neg q33)
      refine own_st (fun _ => XS.icmpNo X.here hx rfl (hb hby d1_33) rfl (XT.ii_lt_f q33)) ?_
      show own_E p e below Qq T (mkF m 36 #[.val (.int x0)] [])
      refine own_st (fun _ => XS.iloadN X.here hx rfl (hb hby d1_36) rfl) ?_
      show own_E p e below Qq T (mkF m 37 #[.val (.int x0)] [(.int x0)])
      refine own_st (fun _ => XS.bipush X.here hx rfl (hb hby d1_37)) ?_
      show own_E p e below Qq T (mkF m 39 #[.val (.int x0)] [(.int (94 : Int32)), (.int x0)])
      by_cases q39 : (94 : Int32) < x0
      · replace hF := hF.trans (if_pos q39)
        refine own_st (fun _ => XS.icmpYes X.here hx rfl (pc0 := 39) (pc' := 44) rfl (hb hby d1_39) rfl (XT.ii_gt_t q39) (by decide) (by decide)) ?_
        show own_E p e below Qq T (mkF m 44 #[.val (.int x0)] [])
        exact B44 _ _ x0 X eT N hF
      · replace hF := hF.trans (if_neg q39)
        refine own_st (fun _ => XS.icmpNo X.here hx rfl (hb hby d1_39) rfl (XT.ii_gt_f q39)) ?_
        show own_E p e below Qq T (mkF m 42 #[.val (.int x0)] [])
        refine own_st (fun _ => XS.iconst X.here hx rfl (hb hby d1_42)) ?_
        show own_E p e below Qq T (mkF m 43 #[.val (.int x0)] [(.int (1 : Int32))])
        rw [← hQ]
        exact own_retN X hx hlk (t := .boolean) hret (by simp) (hb hby d1_43) (by decide) (by decide) ⟨by (rw [hF]; try rfl), N, eT⟩
  show own_E p e below Qq T (mkF m 0 #[.val (.int p0)] [])
  refine own_st (fun _ => XS.iloadN X.here hx rfl (hb hby d1_0) rfl) ?_
  show own_E p e below Qq T (mkF m 1 #[.val (.int p0)] [(.int p0)])
  refine own_st (fun _ => XS.bipush X.here hx rfl (hb hby d1_1)) ?_
  show own_E p e below Qq T (mkF m 3 #[.val (.int p0)] [(.int (44 : Int32)), (.int p0)])
  by_cases q3 : (44 : Int32) < p0
  · replace hF := hF.trans (if_pos q3)
    refine own_st (fun _ => XS.icmpYes X.here hx rfl (pc0 := 3) (pc' := 8) rfl (hb hby d1_3) rfl (XT.ii_gt_t q3) (by decide) (by decide)) ?_
    show own_E p e below Qq T (mkF m 8 #[.val (.int p0)] [])
    refine own_st (fun _ => XS.iloadN X.here hx rfl (hb hby d1_8) rfl) ?_
    show own_E p e below Qq T (mkF m 9 #[.val (.int p0)] [(.int p0)])
    refine own_st (fun _ => XS.bipush X.here hx rfl (hb hby d1_9)) ?_
    show own_E p e below Qq T (mkF m 11 #[.val (.int p0)] [(.int (47 : Int32)), (.int p0)])
    by_cases q11 : p0 = (47 : Int32)
    · replace hF := hF.trans (if_pos q11)
      refine own_st (fun _ => XS.icmpNo X.here hx rfl (hb hby d1_11) rfl (XT.ii_ne_f q11)) ?_
      show own_E p e below Qq T (mkF m 14 #[.val (.int p0)] [])
      refine own_st (fun _ => XS.iconst X.here hx rfl (hb hby d1_14)) ?_
      show own_E p e below Qq T (mkF m 15 #[.val (.int p0)] [(.int (1 : Int32))])
      rw [← hQ]
      exact own_retN X hx hlk (t := .boolean) hret (by simp) (hb hby d1_15) (by decide) (by decide) ⟨by (rw [hF]; try rfl), N, eT⟩
    · replace hF := hF.trans (if_neg q11)
      refine own_st (fun _ => XS.icmpYes X.here hx rfl (pc0 := 11) (pc' := 16) rfl (hb hby d1_11) rfl (XT.ii_ne_t q11) (by decide) (by decide)) ?_
      show own_E p e below Qq T (mkF m 16 #[.val (.int p0)] [])
      refine own_st (fun _ => XS.iloadN X.here hx rfl (hb hby d1_16) rfl) ?_
      show own_E p e below Qq T (mkF m 17 #[.val (.int p0)] [(.int p0)])
      refine own_st (fun _ => XS.bipush X.here hx rfl (hb hby d1_17)) ?_
      show own_E p e below Qq T (mkF m 19 #[.val (.int p0)] [(.int (58 : Int32)), (.int p0)])
      by_cases q19 : p0 < (58 : Int32)
      · replace hF := hF.trans (if_pos q19)
        refine own_st (fun _ => XS.icmpYes X.here hx rfl (pc0 := 19) (pc' := 30) rfl (hb hby d1_19) rfl (XT.ii_lt_t q19) (by decide) (by decide)) ?_
        show own_E p e below Qq T (mkF m 30 #[.val (.int p0)] [])
        exact B30 _ _ p0 X eT N hF
      · replace hF := hF.trans (if_neg q19)
        refine own_st (fun _ => XS.icmpNo X.here hx rfl (hb hby d1_19) rfl (XT.ii_lt_f q19)) ?_
        show own_E p e below Qq T (mkF m 22 #[.val (.int p0)] [])
        refine own_st (fun _ => XS.iloadN X.here hx rfl (hb hby d1_22) rfl) ?_
        show own_E p e below Qq T (mkF m 23 #[.val (.int p0)] [(.int p0)])
        refine own_st (fun _ => XS.bipush X.here hx rfl (hb hby d1_23)) ?_
        show own_E p e below Qq T (mkF m 25 #[.val (.int p0)] [(.int (64 : Int32)), (.int p0)])
        by_cases q25 : (64 : Int32) < p0
        · replace hF := hF.trans (if_pos q25)
          refine own_st (fun _ => XS.icmpYes X.here hx rfl (pc0 := 25) (pc' := 30) rfl (hb hby d1_25) rfl (XT.ii_gt_t q25) (by decide) (by decide)) ?_
          show own_E p e below Qq T (mkF m 30 #[.val (.int p0)] [])
          exact B30 _ _ p0 X eT N hF
        · replace hF := hF.trans (if_neg q25)
          refine own_st (fun _ => XS.icmpNo X.here hx rfl (hb hby d1_25) rfl (XT.ii_gt_f q25)) ?_
          show own_E p e below Qq T (mkF m 28 #[.val (.int p0)] [])
          refine own_st (fun _ => XS.iconst X.here hx rfl (hb hby d1_28)) ?_
          show own_E p e below Qq T (mkF m 29 #[.val (.int p0)] [(.int (1 : Int32))])
          rw [← hQ]
          exact own_retN X hx hlk (t := .boolean) hret (by simp) (hb hby d1_29) (by decide) (by decide) ⟨by (rw [hF]; try rfl), N, eT⟩
  · replace hF := hF.trans (if_neg q3)
    refine own_st (fun _ => XS.icmpNo X.here hx rfl (hb hby d1_3) rfl (XT.ii_gt_f q3)) ?_
    show own_E p e below Qq T (mkF m 6 #[.val (.int p0)] [])
    refine own_st (fun _ => XS.iconst X.here hx rfl (hb hby d1_6)) ?_
    show own_E p e below Qq T (mkF m 7 #[.val (.int p0)] [(.int (1 : Int32))])
    rw [← hQ]
    exact own_retN X hx hlk (t := .boolean) hret (by simp) (hb hby d1_7) (by decide) (by decide) ⟨by (rw [hF]; try rfl), N, eT⟩
theorem pn_3 : plainName "com/example/lather/lather/xml/XmlChars" = true := by first | (simp [plainName, overriddenIn]; done) | decide +kernel
theorem pd_3 : parseMethodDescriptor "(C)Z" = some ⟨[.char], some .boolean⟩ := by decide +kernel
theorem d3_0 : decode prog_114_method_8_code 0 = .ok (.iload_n 0, 1) := by decide +kernel
theorem d3_1 : decode prog_114_method_8_code 1 = .ok (.bipush 97, 2) := by decide +kernel
theorem d3_3 : decode prog_114_method_8_code 3 = .ok (.if_icmp .lt 9, 3) := by decide +kernel
theorem d3_6 : decode prog_114_method_8_code 6 = .ok (.iload_n 0, 1) := by decide +kernel
theorem d3_7 : decode prog_114_method_8_code 7 = .ok (.bipush 122, 2) := by decide +kernel
theorem d3_9 : decode prog_114_method_8_code 9 = .ok (.if_icmp .le 170, 3) := by decide +kernel
theorem d3_12 : decode prog_114_method_8_code 12 = .ok (.iload_n 0, 1) := by decide +kernel
theorem d3_13 : decode prog_114_method_8_code 13 = .ok (.bipush 65, 2) := by decide +kernel
theorem d3_15 : decode prog_114_method_8_code 15 = .ok (.if_icmp .lt 9, 3) := by decide +kernel
theorem d3_18 : decode prog_114_method_8_code 18 = .ok (.iload_n 0, 1) := by decide +kernel
theorem d3_19 : decode prog_114_method_8_code 19 = .ok (.bipush 90, 2) := by decide +kernel
theorem d3_21 : decode prog_114_method_8_code 21 = .ok (.if_icmp .le 158, 3) := by decide +kernel
theorem d3_24 : decode prog_114_method_8_code 24 = .ok (.iload_n 0, 1) := by decide +kernel
theorem d3_25 : decode prog_114_method_8_code 25 = .ok (.bipush 95, 2) := by decide +kernel
theorem d3_27 : decode prog_114_method_8_code 27 = .ok (.if_icmp .eq 152, 3) := by decide +kernel
theorem d3_30 : decode prog_114_method_8_code 30 = .ok (.iload_n 0, 1) := by decide +kernel
theorem d3_31 : decode prog_114_method_8_code 31 = .ok (.sipush 192, 3) := by decide +kernel
theorem d3_34 : decode prog_114_method_8_code 34 = .ok (.if_icmp .lt 10, 3) := by decide +kernel
theorem d3_37 : decode prog_114_method_8_code 37 = .ok (.iload_n 0, 1) := by decide +kernel
theorem d3_38 : decode prog_114_method_8_code 38 = .ok (.sipush 214, 3) := by decide +kernel
theorem d3_41 : decode prog_114_method_8_code 41 = .ok (.if_icmp .le 138, 3) := by decide +kernel
theorem d3_44 : decode prog_114_method_8_code 44 = .ok (.iload_n 0, 1) := by decide +kernel
theorem d3_45 : decode prog_114_method_8_code 45 = .ok (.sipush 216, 3) := by decide +kernel
theorem d3_48 : decode prog_114_method_8_code 48 = .ok (.if_icmp .lt 10, 3) := by decide +kernel
theorem d3_51 : decode prog_114_method_8_code 51 = .ok (.iload_n 0, 1) := by decide +kernel
theorem d3_52 : decode prog_114_method_8_code 52 = .ok (.sipush 246, 3) := by decide +kernel
theorem d3_55 : decode prog_114_method_8_code 55 = .ok (.if_icmp .le 124, 3) := by decide +kernel
theorem d3_58 : decode prog_114_method_8_code 58 = .ok (.iload_n 0, 1) := by decide +kernel
theorem d3_59 : decode prog_114_method_8_code 59 = .ok (.sipush 248, 3) := by decide +kernel
theorem d3_62 : decode prog_114_method_8_code 62 = .ok (.if_icmp .lt 10, 3) := by decide +kernel
theorem d3_65 : decode prog_114_method_8_code 65 = .ok (.iload_n 0, 1) := by decide +kernel
theorem d3_66 : decode prog_114_method_8_code 66 = .ok (.sipush 767, 3) := by decide +kernel
theorem d3_69 : decode prog_114_method_8_code 69 = .ok (.if_icmp .le 110, 3) := by decide +kernel
theorem d3_72 : decode prog_114_method_8_code 72 = .ok (.iload_n 0, 1) := by decide +kernel
theorem d3_73 : decode prog_114_method_8_code 73 = .ok (.sipush 880, 3) := by decide +kernel
theorem d3_76 : decode prog_114_method_8_code 76 = .ok (.if_icmp .lt 10, 3) := by decide +kernel
theorem d3_79 : decode prog_114_method_8_code 79 = .ok (.iload_n 0, 1) := by decide +kernel
theorem d3_80 : decode prog_114_method_8_code 80 = .ok (.sipush 893, 3) := by decide +kernel
theorem d3_83 : decode prog_114_method_8_code 83 = .ok (.if_icmp .le 96, 3) := by decide +kernel
theorem d3_86 : decode prog_114_method_8_code 86 = .ok (.iload_n 0, 1) := by decide +kernel
theorem d3_87 : decode prog_114_method_8_code 87 = .ok (.sipush 895, 3) := by decide +kernel
theorem d3_90 : decode prog_114_method_8_code 90 = .ok (.if_icmp .lt 10, 3) := by decide +kernel
theorem d3_93 : decode prog_114_method_8_code 93 = .ok (.iload_n 0, 1) := by decide +kernel
theorem d3_94 : decode prog_114_method_8_code 94 = .ok (.sipush 8191, 3) := by decide +kernel
theorem d3_97 : decode prog_114_method_8_code 97 = .ok (.if_icmp .le 82, 3) := by decide +kernel
theorem d3_100 : decode prog_114_method_8_code 100 = .ok (.iload_n 0, 1) := by decide +kernel
theorem d3_101 : decode prog_114_method_8_code 101 = .ok (.sipush 8204, 3) := by decide +kernel
theorem d3_104 : decode prog_114_method_8_code 104 = .ok (.if_icmp .eq 75, 3) := by decide +kernel
theorem d3_107 : decode prog_114_method_8_code 107 = .ok (.iload_n 0, 1) := by decide +kernel
theorem d3_108 : decode prog_114_method_8_code 108 = .ok (.sipush 8205, 3) := by decide +kernel
theorem d3_111 : decode prog_114_method_8_code 111 = .ok (.if_icmp .eq 68, 3) := by decide +kernel
theorem d3_114 : decode prog_114_method_8_code 114 = .ok (.iload_n 0, 1) := by decide +kernel
theorem d3_115 : decode prog_114_method_8_code 115 = .ok (.sipush 8304, 3) := by decide +kernel
theorem d3_118 : decode prog_114_method_8_code 118 = .ok (.if_icmp .lt 10, 3) := by decide +kernel
theorem d3_121 : decode prog_114_method_8_code 121 = .ok (.iload_n 0, 1) := by decide +kernel
theorem d3_122 : decode prog_114_method_8_code 122 = .ok (.sipush 8591, 3) := by decide +kernel
theorem d3_125 : decode prog_114_method_8_code 125 = .ok (.if_icmp .le 54, 3) := by decide +kernel
theorem d3_128 : decode prog_114_method_8_code 128 = .ok (.iload_n 0, 1) := by decide +kernel
theorem d3_129 : decode prog_114_method_8_code 129 = .ok (.sipush 11264, 3) := by decide +kernel
theorem d3_132 : decode prog_114_method_8_code 132 = .ok (.if_icmp .lt 10, 3) := by decide +kernel
theorem d3_135 : decode prog_114_method_8_code 135 = .ok (.iload_n 0, 1) := by decide +kernel
theorem d3_136 : decode prog_114_method_8_code 136 = .ok (.sipush 12271, 3) := by decide +kernel
theorem d3_139 : decode prog_114_method_8_code 139 = .ok (.if_icmp .le 40, 3) := by decide +kernel
theorem d3_142 : decode prog_114_method_8_code 142 = .ok (.iload_n 0, 1) := by decide +kernel
theorem d3_143 : decode prog_114_method_8_code 143 = .ok (.sipush 12289, 3) := by decide +kernel
theorem d3_146 : decode prog_114_method_8_code 146 = .ok (.if_icmp .lt 9, 3) := by decide +kernel
theorem d3_149 : decode prog_114_method_8_code 149 = .ok (.iload_n 0, 1) := by decide +kernel
theorem d3_150 : decode prog_114_method_8_code 150 = .ok (.ldc 61, 2) := by decide +kernel
theorem d3_152 : decode prog_114_method_8_code 152 = .ok (.if_icmp .le 27, 3) := by decide +kernel
theorem d3_155 : decode prog_114_method_8_code 155 = .ok (.iload_n 0, 1) := by decide +kernel
theorem d3_156 : decode prog_114_method_8_code 156 = .ok (.ldc 62, 2) := by decide +kernel
theorem d3_158 : decode prog_114_method_8_code 158 = .ok (.if_icmp .lt 9, 3) := by decide +kernel
theorem d3_161 : decode prog_114_method_8_code 161 = .ok (.iload_n 0, 1) := by decide +kernel
theorem d3_162 : decode prog_114_method_8_code 162 = .ok (.ldc 63, 2) := by decide +kernel
theorem d3_164 : decode prog_114_method_8_code 164 = .ok (.if_icmp .le 15, 3) := by decide +kernel
theorem d3_167 : decode prog_114_method_8_code 167 = .ok (.iload_n 0, 1) := by decide +kernel
theorem d3_168 : decode prog_114_method_8_code 168 = .ok (.ldc 64, 2) := by decide +kernel
theorem d3_170 : decode prog_114_method_8_code 170 = .ok (.if_icmp .lt 13, 3) := by decide +kernel
theorem d3_173 : decode prog_114_method_8_code 173 = .ok (.iload_n 0, 1) := by decide +kernel
theorem d3_174 : decode prog_114_method_8_code 174 = .ok (.ldc 52, 2) := by decide +kernel
theorem d3_176 : decode prog_114_method_8_code 176 = .ok (.if_icmp .gt 7, 3) := by decide +kernel
theorem d3_179 : decode prog_114_method_8_code 179 = .ok (.iconst 1, 1) := by decide +kernel
theorem d3_180 : decode prog_114_method_8_code 180 = .ok (.goto 4, 3) := by decide +kernel
theorem d3_183 : decode prog_114_method_8_code 183 = .ok (.iconst 0, 1) := by decide +kernel
theorem d3_184 : decode prog_114_method_8_code 184 = .ok (.ireturn, 1) := by decide +kernel
theorem ef_3 (m : MethodId) (p0 : Int32) : entryFrame m #[(.int p0)] 1 = (mkF m 0 #[.val (.int p0)] []) := by first | (simp [entryFrame, mkF, argsToLocals, Value.category, maxLocals]; done) | rfl
def F3_184 (x0 : Int32) (y1 : Int32) : Int32 := (nar .boolean y1)
def F3_183 (x0 : Int32) : Int32 := (F3_184 x0 (0 : Int32))
def F3_179 (x0 : Int32) : Int32 := (F3_184 x0 (1 : Int32))
def F3_167 (x0 : Int32) : Int32 := (if x0 < (65008 : Int32) then (F3_183 x0) else (if (65533 : Int32) < x0 then (F3_183 x0) else (F3_179 x0)))
def F3_155 (x0 : Int32) : Int32 := (if x0 < (63744 : Int32) then (F3_167 x0) else (if (64975 : Int32) < x0 then (F3_167 x0) else (F3_179 x0)))
def F3_142 (x0 : Int32) : Int32 := (if x0 < (12289 : Int32) then (F3_155 x0) else (if (57343 : Int32) < x0 then (F3_155 x0) else (F3_179 x0)))
def F3_128 (x0 : Int32) : Int32 := (if x0 < (11264 : Int32) then (F3_142 x0) else (if (12271 : Int32) < x0 then (F3_142 x0) else (F3_179 x0)))
def F3_100 (x0 : Int32) : Int32 := (if x0 = (8204 : Int32) then (F3_179 x0) else (if x0 = (8205 : Int32) then (F3_179 x0) else (if x0 < (8304 : Int32) then (F3_128 x0) else (if (8591 : Int32) < x0 then (F3_128 x0) else (F3_179 x0)))))
def F3_86 (x0 : Int32) : Int32 := (if x0 < (895 : Int32) then (F3_100 x0) else (if (8191 : Int32) < x0 then (F3_100 x0) else (F3_179 x0)))
def F3_72 (x0 : Int32) : Int32 := (if x0 < (880 : Int32) then (F3_86 x0) else (if (893 : Int32) < x0 then (F3_86 x0) else (F3_179 x0)))
def F3_58 (x0 : Int32) : Int32 := (if x0 < (248 : Int32) then (F3_72 x0) else (if (767 : Int32) < x0 then (F3_72 x0) else (F3_179 x0)))
def F3_44 (x0 : Int32) : Int32 := (if x0 < (216 : Int32) then (F3_58 x0) else (if (246 : Int32) < x0 then (F3_58 x0) else (F3_179 x0)))
def F3_24 (x0 : Int32) : Int32 := (if x0 = (95 : Int32) then (F3_179 x0) else (if x0 < (192 : Int32) then (F3_44 x0) else (if (214 : Int32) < x0 then (F3_44 x0) else (F3_179 x0))))
def F3_12 (x0 : Int32) : Int32 := (if x0 < (65 : Int32) then (F3_24 x0) else (if (90 : Int32) < x0 then (F3_24 x0) else (F3_179 x0)))
def F3_0 (x0 : Int32) : Int32 := (if x0 < (97 : Int32) then (F3_12 x0) else (if (122 : Int32) < x0 then (F3_12 x0) else (F3_179 x0)))
set_option maxRecDepth 65536 in
set_option maxHeartbeats 40000000 in
theorem rm3 (l : Launch) (Z : State) (a0 : Array Value) (hw : ∀ d ∈ tables_1, d.before a0 Z = true) (p0 : Int32) (h0 : Heap) (n0 : Nat) :
    own_M l Z (⟨"com/example/lather/lather/xml/XmlChars", "isNameStart", "(C)Z"⟩ : MethodName) prog_114_method_8_code 1 (some .boolean) ({ frames := 0, cells := 0, slots := 0, locals := 0 } : Room) #[(.int p0)] h0 (fun v h L => v = some (.int (F3_0 p0)) ∧ Fr n0 L ∧ h = h0) := by
  refine own_body pn_3 ?_
  intro p e s m below meth c T hx hby hml hown hZ hret hlk hnm X eT
  have N := Fr.nil n0
  obtain ⟨w, hF⟩ : ∃ w, w = F3_0 p0 := ⟨_, rfl⟩
  try rw [← hF]
  generalize hQ : own_Q s (fun v h L => v = some (.int w) ∧ Fr n0 L ∧ h = h0) ({ frames := 0, cells := 0, slots := 0, locals := 0 } : Room).cells ({ frames := 0, cells := 0, slots := 0, locals := 0 } : Room).slots = Qq
  refine own_st (fun _ k => castTop (ef_3 m p0) k) ?_
  have B184 : ∀ (T : State) (L : List Loc) (x0 : Int32) (y1 : Int32), Stand p l e ({ frames := 0, cells := 0, slots := 0, locals := 0 } : Room) s m #[(.int p0)] below meth c T L 0 0 → T.heap = h0 → Fr n0 L → w = F3_184 x0 y1 → own_E p e below Qq T (mkF m 184 #[.val (.int x0)] [(.int y1)]) := by
    intro T L x0 y1 X eT N hF
    rw [← hQ]
    exact own_retN X hx hlk (t := .boolean) hret (by simp) (hb hby d3_184) (by decide) (by decide) ⟨by (rw [hF]; try rfl), N, eT⟩
  have B183 : ∀ (T : State) (L : List Loc) (x0 : Int32), Stand p l e ({ frames := 0, cells := 0, slots := 0, locals := 0 } : Room) s m #[(.int p0)] below meth c T L 0 0 → T.heap = h0 → Fr n0 L → w = F3_183 x0 → own_E p e below Qq T (mkF m 183 #[.val (.int x0)] []) := by
    intro T L x0 X eT N hF
    refine own_st (fun _ => XS.iconst X.here hx rfl (hb hby d3_183)) ?_
    show own_E p e below Qq T (mkF m 184 #[.val (.int x0)] [(.int (0 : Int32))])
    exact B184 _ _ x0 (0 : Int32) X eT N hF
  have B179 : ∀ (T : State) (L : List Loc) (x0 : Int32), Stand p l e ({ frames := 0, cells := 0, slots := 0, locals := 0 } : Room) s m #[(.int p0)] below meth c T L 0 0 → T.heap = h0 → Fr n0 L → w = F3_179 x0 → own_E p e below Qq T (mkF m 179 #[.val (.int x0)] []) := by
    intro T L x0 X eT N hF
    refine own_st (fun _ => XS.iconst X.here hx rfl (hb hby d3_179)) ?_
    show own_E p e below Qq T (mkF m 180 #[.val (.int x0)] [(.int (1 : Int32))])
    refine own_st (fun _ => XS.goto X.here hx rfl (pc0 := 180) (pc' := 184) rfl (hb hby d3_180) (by decide) (by decide)) ?_
    show own_E p e below Qq T (mkF m 184 #[.val (.int x0)] [(.int (1 : Int32))])
    exact B184 _ _ x0 (1 : Int32) X eT N hF
  have B167 : ∀ (T : State) (L : List Loc) (x0 : Int32), Stand p l e ({ frames := 0, cells := 0, slots := 0, locals := 0 } : Room) s m #[(.int p0)] below meth c T L 0 0 → T.heap = h0 → Fr n0 L → w = F3_167 x0 → own_E p e below Qq T (mkF m 167 #[.val (.int x0)] []) := by
    intro T L x0 X eT N hF
    refine own_st (fun _ => XS.iloadN X.here hx rfl (hb hby d3_167) rfl) ?_
    show own_E p e below Qq T (mkF m 168 #[.val (.int x0)] [(.int x0)])
    refine own_st (fun _ => X.ldcI hx hown (mvT hZ (hw _ (List.mem_of_getElem? (i := 12) rfl))) rfl (hb hby d3_168)) ?_
    show own_E p e below Qq T (mkF m 170 #[.val (.int x0)] [(.int (65008 : Int32)), (.int x0)])
    by_cases q170 : x0 < (65008 : Int32)
    · replace hF := hF.trans (if_pos q170)
      refine own_st (fun _ => XS.icmpYes X.here hx rfl (pc0 := 170) (pc' := 183) rfl (hb hby d3_170) rfl (XT.ii_lt_t q170) (by decide) (by decide)) ?_
      show own_E p e below Qq T (mkF m 183 #[.val (.int x0)] [])
      exact B183 _ _ x0 X eT N hF
    · replace hF := hF.trans (if_neg q170)
      refine own_st (fun _ => XS.icmpNo X.here hx rfl (hb hby d3_170) rfl (XT.ii_lt_f q170)) ?_
      show own_E p e below Qq T (mkF m 173 #[.val (.int x0)] [])
      refine own_st (fun _ => XS.iloadN X.here hx rfl (hb hby d3_173) rfl) ?_
      show own_E p e below Qq T (mkF m 174 #[.val (.int x0)] [(.int x0)])
      refine own_st (fun _ => X.ldcI hx hown (mvT hZ (hw _ (List.mem_of_getElem? (i := 20) rfl))) rfl (hb hby d3_174)) ?_
      show own_E p e below Qq T (mkF m 176 #[.val (.int x0)] [(.int (65533 : Int32)), (.int x0)])
      by_cases q176 : (65533 : Int32) < x0
      · replace hF := hF.trans (if_pos q176)
        refine own_st (fun _ => XS.icmpYes X.here hx rfl (pc0 := 176) (pc' := 183) rfl (hb hby d3_176) rfl (XT.ii_gt_t q176) (by decide) (by decide)) ?_
        show own_E p e below Qq T (mkF m 183 #[.val (.int x0)] [])
        exact B183 _ _ x0 X eT N hF
      · replace hF := hF.trans (if_neg q176)
        refine own_st (fun _ => XS.icmpNo X.here hx rfl (hb hby d3_176) rfl (XT.ii_gt_f q176)) ?_
        show own_E p e below Qq T (mkF m 179 #[.val (.int x0)] [])
        exact B179 _ _ x0 X eT N hF
  have B155 : ∀ (T : State) (L : List Loc) (x0 : Int32), Stand p l e ({ frames := 0, cells := 0, slots := 0, locals := 0 } : Room) s m #[(.int p0)] below meth c T L 0 0 → T.heap = h0 → Fr n0 L → w = F3_155 x0 → own_E p e below Qq T (mkF m 155 #[.val (.int x0)] []) := by
    intro T L x0 X eT N hF
    refine own_st (fun _ => XS.iloadN X.here hx rfl (hb hby d3_155) rfl) ?_
    show own_E p e below Qq T (mkF m 156 #[.val (.int x0)] [(.int x0)])
    refine own_st (fun _ => X.ldcI hx hown (mvT hZ (hw _ (List.mem_of_getElem? (i := 11) rfl))) rfl (hb hby d3_156)) ?_
    show own_E p e below Qq T (mkF m 158 #[.val (.int x0)] [(.int (63744 : Int32)), (.int x0)])
    by_cases q158 : x0 < (63744 : Int32)
    · replace hF := hF.trans (if_pos q158)
      refine own_st (fun _ => XS.icmpYes X.here hx rfl (pc0 := 158) (pc' := 167) rfl (hb hby d3_158) rfl (XT.ii_lt_t q158) (by decide) (by decide)) ?_
      show own_E p e below Qq T (mkF m 167 #[.val (.int x0)] [])
      exact B167 _ _ x0 X eT N hF
    · replace hF := hF.trans (if_neg q158)
      refine own_st (fun _ => XS.icmpNo X.here hx rfl (hb hby d3_158) rfl (XT.ii_lt_f q158)) ?_
      show own_E p e below Qq T (mkF m 161 #[.val (.int x0)] [])
      refine own_st (fun _ => XS.iloadN X.here hx rfl (hb hby d3_161) rfl) ?_
      show own_E p e below Qq T (mkF m 162 #[.val (.int x0)] [(.int x0)])
      refine own_st (fun _ => X.ldcI hx hown (mvT hZ (hw _ (List.mem_of_getElem? (i := 19) rfl))) rfl (hb hby d3_162)) ?_
      show own_E p e below Qq T (mkF m 164 #[.val (.int x0)] [(.int (64975 : Int32)), (.int x0)])
      by_cases q164 : (64975 : Int32) < x0
      · replace hF := hF.trans (if_pos q164)
        refine own_st (fun _ => XS.icmpNo X.here hx rfl (hb hby d3_164) rfl (XT.ii_le_f q164)) ?_
        show own_E p e below Qq T (mkF m 167 #[.val (.int x0)] [])
        exact B167 _ _ x0 X eT N hF
      · replace hF := hF.trans (if_neg q164)
        refine own_st (fun _ => XS.icmpYes X.here hx rfl (pc0 := 164) (pc' := 179) rfl (hb hby d3_164) rfl (XT.ii_le_t q164) (by decide) (by decide)) ?_
        show own_E p e below Qq T (mkF m 179 #[.val (.int x0)] [])
        exact B179 _ _ x0 X eT N hF
  have B142 : ∀ (T : State) (L : List Loc) (x0 : Int32), Stand p l e ({ frames := 0, cells := 0, slots := 0, locals := 0 } : Room) s m #[(.int p0)] below meth c T L 0 0 → T.heap = h0 → Fr n0 L → w = F3_142 x0 → own_E p e below Qq T (mkF m 142 #[.val (.int x0)] []) := by
    intro T L x0 X eT N hF
    refine own_st (fun _ => XS.iloadN X.here hx rfl (hb hby d3_142) rfl) ?_
    show own_E p e below Qq T (mkF m 143 #[.val (.int x0)] [(.int x0)])
    refine own_st (fun _ => XS.sipush X.here hx rfl (hb hby d3_143)) ?_
    show own_E p e below Qq T (mkF m 146 #[.val (.int x0)] [(.int (12289 : Int32)), (.int x0)])
    by_cases q146 : x0 < (12289 : Int32)
    · replace hF := hF.trans (if_pos q146)
      refine own_st (fun _ => XS.icmpYes X.here hx rfl (pc0 := 146) (pc' := 155) rfl (hb hby d3_146) rfl (XT.ii_lt_t q146) (by decide) (by decide)) ?_
      show own_E p e below Qq T (mkF m 155 #[.val (.int x0)] [])
      exact B155 _ _ x0 X eT N hF
    · replace hF := hF.trans (if_neg q146)
      refine own_st (fun _ => XS.icmpNo X.here hx rfl (hb hby d3_146) rfl (XT.ii_lt_f q146)) ?_
      show own_E p e below Qq T (mkF m 149 #[.val (.int x0)] [])
      refine own_st (fun _ => XS.iloadN X.here hx rfl (hb hby d3_149) rfl) ?_
      show own_E p e below Qq T (mkF m 150 #[.val (.int x0)] [(.int x0)])
      refine own_st (fun _ => X.ldcI hx hown (mvT hZ (hw _ (List.mem_of_getElem? (i := 16) rfl))) rfl (hb hby d3_150)) ?_
      show own_E p e below Qq T (mkF m 152 #[.val (.int x0)] [(.int (57343 : Int32)), (.int x0)])
      by_cases q152 : (57343 : Int32) < x0
      · replace hF := hF.trans (if_pos q152)
        refine own_st (fun _ => XS.icmpNo X.here hx rfl (hb hby d3_152) rfl (XT.ii_le_f q152)) ?_
        show own_E p e below Qq T (mkF m 155 #[.val (.int x0)] [])
        exact B155 _ _ x0 X eT N hF
      · replace hF := hF.trans (if_neg q152)
        refine own_st (fun _ => XS.icmpYes X.here hx rfl (pc0 := 152) (pc' := 179) rfl (hb hby d3_152) rfl (XT.ii_le_t q152) (by decide) (by decide)) ?_
        show own_E p e below Qq T (mkF m 179 #[.val (.int x0)] [])
        exact B179 _ _ x0 X eT N hF
  have B128 : ∀ (T : State) (L : List Loc) (x0 : Int32), Stand p l e ({ frames := 0, cells := 0, slots := 0, locals := 0 } : Room) s m #[(.int p0)] below meth c T L 0 0 → T.heap = h0 → Fr n0 L → w = F3_128 x0 → own_E p e below Qq T (mkF m 128 #[.val (.int x0)] []) := by
    intro T L x0 X eT N hF
    refine own_st (fun _ => XS.iloadN X.here hx rfl (hb hby d3_128) rfl) ?_
    show own_E p e below Qq T (mkF m 129 #[.val (.int x0)] [(.int x0)])
    refine own_st (fun _ => XS.sipush X.here hx rfl (hb hby d3_129)) ?_
    show own_E p e below Qq T (mkF m 132 #[.val (.int x0)] [(.int (11264 : Int32)), (.int x0)])
    by_cases q132 : x0 < (11264 : Int32)
    · replace hF := hF.trans (if_pos q132)
      refine own_st (fun _ => XS.icmpYes X.here hx rfl (pc0 := 132) (pc' := 142) rfl (hb hby d3_132) rfl (XT.ii_lt_t q132) (by decide) (by decide)) ?_
      show own_E p e below Qq T (mkF m 142 #[.val (.int x0)] [])
      exact B142 _ _ x0 X eT N hF
    · replace hF := hF.trans (if_neg q132)
      refine own_st (fun _ => XS.icmpNo X.here hx rfl (hb hby d3_132) rfl (XT.ii_lt_f q132)) ?_
      show own_E p e below Qq T (mkF m 135 #[.val (.int x0)] [])
      refine own_st (fun _ => XS.iloadN X.here hx rfl (hb hby d3_135) rfl) ?_
      show own_E p e below Qq T (mkF m 136 #[.val (.int x0)] [(.int x0)])
      refine own_st (fun _ => XS.sipush X.here hx rfl (hb hby d3_136)) ?_
      show own_E p e below Qq T (mkF m 139 #[.val (.int x0)] [(.int (12271 : Int32)), (.int x0)])
      by_cases q139 : (12271 : Int32) < x0
      · replace hF := hF.trans (if_pos q139)
        refine own_st (fun _ => XS.icmpNo X.here hx rfl (hb hby d3_139) rfl (XT.ii_le_f q139)) ?_
        show own_E p e below Qq T (mkF m 142 #[.val (.int x0)] [])
        exact B142 _ _ x0 X eT N hF
      · replace hF := hF.trans (if_neg q139)
        refine own_st (fun _ => XS.icmpYes X.here hx rfl (pc0 := 139) (pc' := 179) rfl (hb hby d3_139) rfl (XT.ii_le_t q139) (by decide) (by decide)) ?_
        show own_E p e below Qq T (mkF m 179 #[.val (.int x0)] [])
        exact B179 _ _ x0 X eT N hF
  have B100 : ∀ (T : State) (L : List Loc) (x0 : Int32), Stand p l e ({ frames := 0, cells := 0, slots := 0, locals := 0 } : Room) s m #[(.int p0)] below meth c T L 0 0 → T.heap = h0 → Fr n0 L → w = F3_100 x0 → own_E p e below Qq T (mkF m 100 #[.val (.int x0)] []) := by
    intro T L x0 X eT N hF
    refine own_st (fun _ => XS.iloadN X.here hx rfl (hb hby d3_100) rfl) ?_
    show own_E p e below Qq T (mkF m 101 #[.val (.int x0)] [(.int x0)])
    refine own_st (fun _ => XS.sipush X.here hx rfl (hb hby d3_101)) ?_
    show own_E p e below Qq T (mkF m 104 #[.val (.int x0)] [(.int (8204 : Int32)), (.int x0)])
    by_cases q104 : x0 = (8204 : Int32)
    · replace hF := hF.trans (if_pos q104)
      refine own_st (fun _ => XS.icmpYes X.here hx rfl (pc0 := 104) (pc' := 179) rfl (hb hby d3_104) rfl (XT.ii_eq_t q104) (by decide) (by decide)) ?_
      show own_E p e below Qq T (mkF m 179 #[.val (.int x0)] [])
      exact B179 _ _ x0 X eT N hF
    · replace hF := hF.trans (if_neg q104)
      refine own_st (fun _ => XS.icmpNo X.here hx rfl (hb hby d3_104) rfl (XT.ii_eq_f q104)) ?_
      show own_E p e below Qq T (mkF m 107 #[.val (.int x0)] [])
      refine own_st (fun _ => XS.iloadN X.here hx rfl (hb hby d3_107) rfl) ?_
      show own_E p e below Qq T (mkF m 108 #[.val (.int x0)] [(.int x0)])
      refine own_st (fun _ => XS.sipush X.here hx rfl (hb hby d3_108)) ?_
      show own_E p e below Qq T (mkF m 111 #[.val (.int x0)] [(.int (8205 : Int32)), (.int x0)])
      by_cases q111 : x0 = (8205 : Int32)
      · replace hF := hF.trans (if_pos q111)
        refine own_st (fun _ => XS.icmpYes X.here hx rfl (pc0 := 111) (pc' := 179) rfl (hb hby d3_111) rfl (XT.ii_eq_t q111) (by decide) (by decide)) ?_
        show own_E p e below Qq T (mkF m 179 #[.val (.int x0)] [])
        exact B179 _ _ x0 X eT N hF
      · replace hF := hF.trans (if_neg q111)
        refine own_st (fun _ => XS.icmpNo X.here hx rfl (hb hby d3_111) rfl (XT.ii_eq_f q111)) ?_
        show own_E p e below Qq T (mkF m 114 #[.val (.int x0)] [])
        refine own_st (fun _ => XS.iloadN X.here hx rfl (hb hby d3_114) rfl) ?_
        show own_E p e below Qq T (mkF m 115 #[.val (.int x0)] [(.int x0)])
        refine own_st (fun _ => XS.sipush X.here hx rfl (hb hby d3_115)) ?_
        show own_E p e below Qq T (mkF m 118 #[.val (.int x0)] [(.int (8304 : Int32)), (.int x0)])
        by_cases q118 : x0 < (8304 : Int32)
        · replace hF := hF.trans (if_pos q118)
          refine own_st (fun _ => XS.icmpYes X.here hx rfl (pc0 := 118) (pc' := 128) rfl (hb hby d3_118) rfl (XT.ii_lt_t q118) (by decide) (by decide)) ?_
          show own_E p e below Qq T (mkF m 128 #[.val (.int x0)] [])
          exact B128 _ _ x0 X eT N hF
        · replace hF := hF.trans (if_neg q118)
          refine own_st (fun _ => XS.icmpNo X.here hx rfl (hb hby d3_118) rfl (XT.ii_lt_f q118)) ?_
          show own_E p e below Qq T (mkF m 121 #[.val (.int x0)] [])
          refine own_st (fun _ => XS.iloadN X.here hx rfl (hb hby d3_121) rfl) ?_
          show own_E p e below Qq T (mkF m 122 #[.val (.int x0)] [(.int x0)])
          refine own_st (fun _ => XS.sipush X.here hx rfl (hb hby d3_122)) ?_
          show own_E p e below Qq T (mkF m 125 #[.val (.int x0)] [(.int (8591 : Int32)), (.int x0)])
          by_cases q125 : (8591 : Int32) < x0
          · replace hF := hF.trans (if_pos q125)
            refine own_st (fun _ => XS.icmpNo X.here hx rfl (hb hby d3_125) rfl (XT.ii_le_f q125)) ?_
            show own_E p e below Qq T (mkF m 128 #[.val (.int x0)] [])
            exact B128 _ _ x0 X eT N hF
          · replace hF := hF.trans (if_neg q125)
            refine own_st (fun _ => XS.icmpYes X.here hx rfl (pc0 := 125) (pc' := 179) rfl (hb hby d3_125) rfl (XT.ii_le_t q125) (by decide) (by decide)) ?_
            show own_E p e below Qq T (mkF m 179 #[.val (.int x0)] [])
            exact B179 _ _ x0 X eT N hF
  have B86 : ∀ (T : State) (L : List Loc) (x0 : Int32), Stand p l e ({ frames := 0, cells := 0, slots := 0, locals := 0 } : Room) s m #[(.int p0)] below meth c T L 0 0 → T.heap = h0 → Fr n0 L → w = F3_86 x0 → own_E p e below Qq T (mkF m 86 #[.val (.int x0)] []) := by
    intro T L x0 X eT N hF
    refine own_st (fun _ => XS.iloadN X.here hx rfl (hb hby d3_86) rfl) ?_
    show own_E p e below Qq T (mkF m 87 #[.val (.int x0)] [(.int x0)])
    refine own_st (fun _ => XS.sipush X.here hx rfl (hb hby d3_87)) ?_
    show own_E p e below Qq T (mkF m 90 #[.val (.int x0)] [(.int (895 : Int32)), (.int x0)])
    by_cases q90 : x0 < (895 : Int32)
    · replace hF := hF.trans (if_pos q90)
      refine own_st (fun _ => XS.icmpYes X.here hx rfl (pc0 := 90) (pc' := 100) rfl (hb hby d3_90) rfl (XT.ii_lt_t q90) (by decide) (by decide)) ?_
      show own_E p e below Qq T (mkF m 100 #[.val (.int x0)] [])
      exact B100 _ _ x0 X eT N hF
    · replace hF := hF.trans (if_neg q90)
      refine own_st (fun _ => XS.icmpNo X.here hx rfl (hb hby d3_90) rfl (XT.ii_lt_f q90)) ?_
      show own_E p e below Qq T (mkF m 93 #[.val (.int x0)] [])
      refine own_st (fun _ => XS.iloadN X.here hx rfl (hb hby d3_93) rfl) ?_
      show own_E p e below Qq T (mkF m 94 #[.val (.int x0)] [(.int x0)])
      refine own_st (fun _ => XS.sipush X.here hx rfl (hb hby d3_94)) ?_
      show own_E p e below Qq T (mkF m 97 #[.val (.int x0)] [(.int (8191 : Int32)), (.int x0)])
      by_cases q97 : (8191 : Int32) < x0
      · replace hF := hF.trans (if_pos q97)
        refine own_st (fun _ => XS.icmpNo X.here hx rfl (hb hby d3_97) rfl (XT.ii_le_f q97)) ?_
        show own_E p e below Qq T (mkF m 100 #[.val (.int x0)] [])
        exact B100 _ _ x0 X eT N hF
      · replace hF := hF.trans (if_neg q97)
        refine own_st (fun _ => XS.icmpYes X.here hx rfl (pc0 := 97) (pc' := 179) rfl (hb hby d3_97) rfl (XT.ii_le_t q97) (by decide) (by decide)) ?_
        show own_E p e below Qq T (mkF m 179 #[.val (.int x0)] [])
        exact B179 _ _ x0 X eT N hF
  have B72 : ∀ (T : State) (L : List Loc) (x0 : Int32), Stand p l e ({ frames := 0, cells := 0, slots := 0, locals := 0 } : Room) s m #[(.int p0)] below meth c T L 0 0 → T.heap = h0 → Fr n0 L → w = F3_72 x0 → own_E p e below Qq T (mkF m 72 #[.val (.int x0)] []) := by
    intro T L x0 X eT N hF
    refine own_st (fun _ => XS.iloadN X.here hx rfl (hb hby d3_72) rfl) ?_
    show own_E p e below Qq T (mkF m 73 #[.val (.int x0)] [(.int x0)])
    refine own_st (fun _ => XS.sipush X.here hx rfl (hb hby d3_73)) ?_
    show own_E p e below Qq T (mkF m 76 #[.val (.int x0)] [(.int (880 : Int32)), (.int x0)])
    by_cases q76 : x0 < (880 : Int32)
    · replace hF := hF.trans (if_pos q76)
      refine own_st (fun _ => XS.icmpYes X.here hx rfl (pc0 := 76) (pc' := 86) rfl (hb hby d3_76) rfl (XT.ii_lt_t q76) (by decide) (by decide)) ?_
      show own_E p e below Qq T (mkF m 86 #[.val (.int x0)] [])
      exact B86 _ _ x0 X eT N hF
    · replace hF := hF.trans (if_neg q76)
      refine own_st (fun _ => XS.icmpNo X.here hx rfl (hb hby d3_76) rfl (XT.ii_lt_f q76)) ?_
      show own_E p e below Qq T (mkF m 79 #[.val (.int x0)] [])
      refine own_st (fun _ => XS.iloadN X.here hx rfl (hb hby d3_79) rfl) ?_
      show own_E p e below Qq T (mkF m 80 #[.val (.int x0)] [(.int x0)])
      refine own_st (fun _ => XS.sipush X.here hx rfl (hb hby d3_80)) ?_
      show own_E p e below Qq T (mkF m 83 #[.val (.int x0)] [(.int (893 : Int32)), (.int x0)])
      by_cases q83 : (893 : Int32) < x0
      · replace hF := hF.trans (if_pos q83)
        refine own_st (fun _ => XS.icmpNo X.here hx rfl (hb hby d3_83) rfl (XT.ii_le_f q83)) ?_
        show own_E p e below Qq T (mkF m 86 #[.val (.int x0)] [])
        exact B86 _ _ x0 X eT N hF
      · replace hF := hF.trans (if_neg q83)
        refine own_st (fun _ => XS.icmpYes X.here hx rfl (pc0 := 83) (pc' := 179) rfl (hb hby d3_83) rfl (XT.ii_le_t q83) (by decide) (by decide)) ?_
        show own_E p e below Qq T (mkF m 179 #[.val (.int x0)] [])
        exact B179 _ _ x0 X eT N hF
  have B58 : ∀ (T : State) (L : List Loc) (x0 : Int32), Stand p l e ({ frames := 0, cells := 0, slots := 0, locals := 0 } : Room) s m #[(.int p0)] below meth c T L 0 0 → T.heap = h0 → Fr n0 L → w = F3_58 x0 → own_E p e below Qq T (mkF m 58 #[.val (.int x0)] []) := by
    intro T L x0 X eT N hF
    refine own_st (fun _ => XS.iloadN X.here hx rfl (hb hby d3_58) rfl) ?_
    show own_E p e below Qq T (mkF m 59 #[.val (.int x0)] [(.int x0)])
    refine own_st (fun _ => XS.sipush X.here hx rfl (hb hby d3_59)) ?_
    show own_E p e below Qq T (mkF m 62 #[.val (.int x0)] [(.int (248 : Int32)), (.int x0)])
    by_cases q62 : x0 < (248 : Int32)
    · replace hF := hF.trans (if_pos q62)
      refine own_st (fun _ => XS.icmpYes X.here hx rfl (pc0 := 62) (pc' := 72) rfl (hb hby d3_62) rfl (XT.ii_lt_t q62) (by decide) (by decide)) ?_
      show own_E p e below Qq T (mkF m 72 #[.val (.int x0)] [])
      exact B72 _ _ x0 X eT N hF
    · replace hF := hF.trans (if_neg q62)
      refine own_st (fun _ => XS.icmpNo X.here hx rfl (hb hby d3_62) rfl (XT.ii_lt_f q62)) ?_
      show own_E p e below Qq T (mkF m 65 #[.val (.int x0)] [])
      refine own_st (fun _ => XS.iloadN X.here hx rfl (hb hby d3_65) rfl) ?_
      show own_E p e below Qq T (mkF m 66 #[.val (.int x0)] [(.int x0)])
      refine own_st (fun _ => XS.sipush X.here hx rfl (hb hby d3_66)) ?_
      show own_E p e below Qq T (mkF m 69 #[.val (.int x0)] [(.int (767 : Int32)), (.int x0)])
      by_cases q69 : (767 : Int32) < x0
      · replace hF := hF.trans (if_pos q69)
        refine own_st (fun _ => XS.icmpNo X.here hx rfl (hb hby d3_69) rfl (XT.ii_le_f q69)) ?_
        show own_E p e below Qq T (mkF m 72 #[.val (.int x0)] [])
        exact B72 _ _ x0 X eT N hF
      · replace hF := hF.trans (if_neg q69)
        refine own_st (fun _ => XS.icmpYes X.here hx rfl (pc0 := 69) (pc' := 179) rfl (hb hby d3_69) rfl (XT.ii_le_t q69) (by decide) (by decide)) ?_
        show own_E p e below Qq T (mkF m 179 #[.val (.int x0)] [])
        exact B179 _ _ x0 X eT N hF
  have B44 : ∀ (T : State) (L : List Loc) (x0 : Int32), Stand p l e ({ frames := 0, cells := 0, slots := 0, locals := 0 } : Room) s m #[(.int p0)] below meth c T L 0 0 → T.heap = h0 → Fr n0 L → w = F3_44 x0 → own_E p e below Qq T (mkF m 44 #[.val (.int x0)] []) := by
    intro T L x0 X eT N hF
    refine own_st (fun _ => XS.iloadN X.here hx rfl (hb hby d3_44) rfl) ?_
    show own_E p e below Qq T (mkF m 45 #[.val (.int x0)] [(.int x0)])
    refine own_st (fun _ => XS.sipush X.here hx rfl (hb hby d3_45)) ?_
    show own_E p e below Qq T (mkF m 48 #[.val (.int x0)] [(.int (216 : Int32)), (.int x0)])
    by_cases q48 : x0 < (216 : Int32)
    · replace hF := hF.trans (if_pos q48)
      refine own_st (fun _ => XS.icmpYes X.here hx rfl (pc0 := 48) (pc' := 58) rfl (hb hby d3_48) rfl (XT.ii_lt_t q48) (by decide) (by decide)) ?_
      show own_E p e below Qq T (mkF m 58 #[.val (.int x0)] [])
      exact B58 _ _ x0 X eT N hF
    · replace hF := hF.trans (if_neg q48)
      refine own_st (fun _ => XS.icmpNo X.here hx rfl (hb hby d3_48) rfl (XT.ii_lt_f q48)) ?_
      show own_E p e below Qq T (mkF m 51 #[.val (.int x0)] [])
      refine own_st (fun _ => XS.iloadN X.here hx rfl (hb hby d3_51) rfl) ?_
      show own_E p e below Qq T (mkF m 52 #[.val (.int x0)] [(.int x0)])
      refine own_st (fun _ => XS.sipush X.here hx rfl (hb hby d3_52)) ?_
      show own_E p e below Qq T (mkF m 55 #[.val (.int x0)] [(.int (246 : Int32)), (.int x0)])
      by_cases q55 : (246 : Int32) < x0
      · replace hF := hF.trans (if_pos q55)
        refine own_st (fun _ => XS.icmpNo X.here hx rfl (hb hby d3_55) rfl (XT.ii_le_f q55)) ?_
        show own_E p e below Qq T (mkF m 58 #[.val (.int x0)] [])
        exact B58 _ _ x0 X eT N hF
      · replace hF := hF.trans (if_neg q55)
        refine own_st (fun _ => XS.icmpYes X.here hx rfl (pc0 := 55) (pc' := 179) rfl (hb hby d3_55) rfl (XT.ii_le_t q55) (by decide) (by decide)) ?_
        show own_E p e below Qq T (mkF m 179 #[.val (.int x0)] [])
        exact B179 _ _ x0 X eT N hF
  have B24 : ∀ (T : State) (L : List Loc) (x0 : Int32), Stand p l e ({ frames := 0, cells := 0, slots := 0, locals := 0 } : Room) s m #[(.int p0)] below meth c T L 0 0 → T.heap = h0 → Fr n0 L → w = F3_24 x0 → own_E p e below Qq T (mkF m 24 #[.val (.int x0)] []) := by
    intro T L x0 X eT N hF
    refine own_st (fun _ => XS.iloadN X.here hx rfl (hb hby d3_24) rfl) ?_
    show own_E p e below Qq T (mkF m 25 #[.val (.int x0)] [(.int x0)])
    refine own_st (fun _ => XS.bipush X.here hx rfl (hb hby d3_25)) ?_
    show own_E p e below Qq T (mkF m 27 #[.val (.int x0)] [(.int (95 : Int32)), (.int x0)])
    by_cases q27 : x0 = (95 : Int32)
    · replace hF := hF.trans (if_pos q27)
      refine own_st (fun _ => XS.icmpYes X.here hx rfl (pc0 := 27) (pc' := 179) rfl (hb hby d3_27) rfl (XT.ii_eq_t q27) (by decide) (by decide)) ?_
      show own_E p e below Qq T (mkF m 179 #[.val (.int x0)] [])
      exact B179 _ _ x0 X eT N hF
    · replace hF := hF.trans (if_neg q27)
      refine own_st (fun _ => XS.icmpNo X.here hx rfl (hb hby d3_27) rfl (XT.ii_eq_f q27)) ?_
      show own_E p e below Qq T (mkF m 30 #[.val (.int x0)] [])
      refine own_st (fun _ => XS.iloadN X.here hx rfl (hb hby d3_30) rfl) ?_
      show own_E p e below Qq T (mkF m 31 #[.val (.int x0)] [(.int x0)])
      refine own_st (fun _ => XS.sipush X.here hx rfl (hb hby d3_31)) ?_
      show own_E p e below Qq T (mkF m 34 #[.val (.int x0)] [(.int (192 : Int32)), (.int x0)])
      by_cases q34 : x0 < (192 : Int32)
      · replace hF := hF.trans (if_pos q34)
        refine own_st (fun _ => XS.icmpYes X.here hx rfl (pc0 := 34) (pc' := 44) rfl (hb hby d3_34) rfl (XT.ii_lt_t q34) (by decide) (by decide)) ?_
        show own_E p e below Qq T (mkF m 44 #[.val (.int x0)] [])
        exact B44 _ _ x0 X eT N hF
      · replace hF := hF.trans (if_neg q34)
        refine own_st (fun _ => XS.icmpNo X.here hx rfl (hb hby d3_34) rfl (XT.ii_lt_f q34)) ?_
        show own_E p e below Qq T (mkF m 37 #[.val (.int x0)] [])
        refine own_st (fun _ => XS.iloadN X.here hx rfl (hb hby d3_37) rfl) ?_
        show own_E p e below Qq T (mkF m 38 #[.val (.int x0)] [(.int x0)])
        refine own_st (fun _ => XS.sipush X.here hx rfl (hb hby d3_38)) ?_
        show own_E p e below Qq T (mkF m 41 #[.val (.int x0)] [(.int (214 : Int32)), (.int x0)])
        by_cases q41 : (214 : Int32) < x0
        · replace hF := hF.trans (if_pos q41)
          refine own_st (fun _ => XS.icmpNo X.here hx rfl (hb hby d3_41) rfl (XT.ii_le_f q41)) ?_
          show own_E p e below Qq T (mkF m 44 #[.val (.int x0)] [])
          exact B44 _ _ x0 X eT N hF
        · replace hF := hF.trans (if_neg q41)
          refine own_st (fun _ => XS.icmpYes X.here hx rfl (pc0 := 41) (pc' := 179) rfl (hb hby d3_41) rfl (XT.ii_le_t q41) (by decide) (by decide)) ?_
          show own_E p e below Qq T (mkF m 179 #[.val (.int x0)] [])
          exact B179 _ _ x0 X eT N hF
  have B12 : ∀ (T : State) (L : List Loc) (x0 : Int32), Stand p l e ({ frames := 0, cells := 0, slots := 0, locals := 0 } : Room) s m #[(.int p0)] below meth c T L 0 0 → T.heap = h0 → Fr n0 L → w = F3_12 x0 → own_E p e below Qq T (mkF m 12 #[.val (.int x0)] []) := by
    intro T L x0 X eT N hF
    refine own_st (fun _ => XS.iloadN X.here hx rfl (hb hby d3_12) rfl) ?_
    show own_E p e below Qq T (mkF m 13 #[.val (.int x0)] [(.int x0)])
    refine own_st (fun _ => XS.bipush X.here hx rfl (hb hby d3_13)) ?_
    show own_E p e below Qq T (mkF m 15 #[.val (.int x0)] [(.int (65 : Int32)), (.int x0)])
    by_cases q15 : x0 < (65 : Int32)
    · replace hF := hF.trans (if_pos q15)
      refine own_st (fun _ => XS.icmpYes X.here hx rfl (pc0 := 15) (pc' := 24) rfl (hb hby d3_15) rfl (XT.ii_lt_t q15) (by decide) (by decide)) ?_
      show own_E p e below Qq T (mkF m 24 #[.val (.int x0)] [])
      exact B24 _ _ x0 X eT N hF
    · replace hF := hF.trans (if_neg q15)
      refine own_st (fun _ => XS.icmpNo X.here hx rfl (hb hby d3_15) rfl (XT.ii_lt_f q15)) ?_
      show own_E p e below Qq T (mkF m 18 #[.val (.int x0)] [])
      refine own_st (fun _ => XS.iloadN X.here hx rfl (hb hby d3_18) rfl) ?_
      show own_E p e below Qq T (mkF m 19 #[.val (.int x0)] [(.int x0)])
      refine own_st (fun _ => XS.bipush X.here hx rfl (hb hby d3_19)) ?_
      show own_E p e below Qq T (mkF m 21 #[.val (.int x0)] [(.int (90 : Int32)), (.int x0)])
      by_cases q21 : (90 : Int32) < x0
      · replace hF := hF.trans (if_pos q21)
        refine own_st (fun _ => XS.icmpNo X.here hx rfl (hb hby d3_21) rfl (XT.ii_le_f q21)) ?_
        show own_E p e below Qq T (mkF m 24 #[.val (.int x0)] [])
        exact B24 _ _ x0 X eT N hF
      · replace hF := hF.trans (if_neg q21)
        refine own_st (fun _ => XS.icmpYes X.here hx rfl (pc0 := 21) (pc' := 179) rfl (hb hby d3_21) rfl (XT.ii_le_t q21) (by decide) (by decide)) ?_
        show own_E p e below Qq T (mkF m 179 #[.val (.int x0)] [])
        exact B179 _ _ x0 X eT N hF
  show own_E p e below Qq T (mkF m 0 #[.val (.int p0)] [])
  refine own_st (fun _ => XS.iloadN X.here hx rfl (hb hby d3_0) rfl) ?_
  show own_E p e below Qq T (mkF m 1 #[.val (.int p0)] [(.int p0)])
  refine own_st (fun _ => XS.bipush X.here hx rfl (hb hby d3_1)) ?_
  show own_E p e below Qq T (mkF m 3 #[.val (.int p0)] [(.int (97 : Int32)), (.int p0)])
  by_cases q3 : p0 < (97 : Int32)
  · replace hF := hF.trans (if_pos q3)
    refine own_st (fun _ => XS.icmpYes X.here hx rfl (pc0 := 3) (pc' := 12) rfl (hb hby d3_3) rfl (XT.ii_lt_t q3) (by decide) (by decide)) ?_
    show own_E p e below Qq T (mkF m 12 #[.val (.int p0)] [])
    exact B12 _ _ p0 X eT N hF
  · replace hF := hF.trans (if_neg q3)
    refine own_st (fun _ => XS.icmpNo X.here hx rfl (hb hby d3_3) rfl (XT.ii_lt_f q3)) ?_
    show own_E p e below Qq T (mkF m 6 #[.val (.int p0)] [])
    refine own_st (fun _ => XS.iloadN X.here hx rfl (hb hby d3_6) rfl) ?_
    show own_E p e below Qq T (mkF m 7 #[.val (.int p0)] [(.int p0)])
    refine own_st (fun _ => XS.bipush X.here hx rfl (hb hby d3_7)) ?_
    show own_E p e below Qq T (mkF m 9 #[.val (.int p0)] [(.int (122 : Int32)), (.int p0)])
    by_cases q9 : (122 : Int32) < p0
    · replace hF := hF.trans (if_pos q9)
      refine own_st (fun _ => XS.icmpNo X.here hx rfl (hb hby d3_9) rfl (XT.ii_le_f q9)) ?_
      show own_E p e below Qq T (mkF m 12 #[.val (.int p0)] [])
      exact B12 _ _ p0 X eT N hF
    · replace hF := hF.trans (if_neg q9)
      refine own_st (fun _ => XS.icmpYes X.here hx rfl (pc0 := 9) (pc' := 179) rfl (hb hby d3_9) rfl (XT.ii_le_t q9) (by decide) (by decide)) ?_
      show own_E p e below Qq T (mkF m 179 #[.val (.int p0)] [])
      exact B179 _ _ p0 X eT N hF
theorem d2_0 : decode prog_114_method_6_code 0 = .ok (.iload_n 0, 1) := by decide +kernel
theorem d2_1 : decode prog_114_method_6_code 1 = .ok (.invokestatic 44, 3) := by decide +kernel
theorem d2_4 : decode prog_114_method_6_code 4 = .ok (.ifCond .ne 62, 3) := by decide +kernel
theorem d2_7 : decode prog_114_method_6_code 7 = .ok (.iload_n 0, 1) := by decide +kernel
theorem d2_8 : decode prog_114_method_6_code 8 = .ok (.bipush 45, 2) := by decide +kernel
theorem d2_10 : decode prog_114_method_6_code 10 = .ok (.if_icmp .eq 56, 3) := by decide +kernel
theorem d2_13 : decode prog_114_method_6_code 13 = .ok (.iload_n 0, 1) := by decide +kernel
theorem d2_14 : decode prog_114_method_6_code 14 = .ok (.bipush 46, 2) := by decide +kernel
theorem d2_16 : decode prog_114_method_6_code 16 = .ok (.if_icmp .eq 50, 3) := by decide +kernel
theorem d2_19 : decode prog_114_method_6_code 19 = .ok (.iload_n 0, 1) := by decide +kernel
theorem d2_20 : decode prog_114_method_6_code 20 = .ok (.bipush 48, 2) := by decide +kernel
theorem d2_22 : decode prog_114_method_6_code 22 = .ok (.if_icmp .lt 9, 3) := by decide +kernel
theorem d2_25 : decode prog_114_method_6_code 25 = .ok (.iload_n 0, 1) := by decide +kernel
theorem d2_26 : decode prog_114_method_6_code 26 = .ok (.bipush 57, 2) := by decide +kernel
theorem d2_28 : decode prog_114_method_6_code 28 = .ok (.if_icmp .le 38, 3) := by decide +kernel
theorem d2_31 : decode prog_114_method_6_code 31 = .ok (.iload_n 0, 1) := by decide +kernel
theorem d2_32 : decode prog_114_method_6_code 32 = .ok (.sipush 183, 3) := by decide +kernel
theorem d2_35 : decode prog_114_method_6_code 35 = .ok (.if_icmp .eq 31, 3) := by decide +kernel
theorem d2_38 : decode prog_114_method_6_code 38 = .ok (.iload_n 0, 1) := by decide +kernel
theorem d2_39 : decode prog_114_method_6_code 39 = .ok (.sipush 768, 3) := by decide +kernel
theorem d2_42 : decode prog_114_method_6_code 42 = .ok (.if_icmp .lt 10, 3) := by decide +kernel
theorem d2_45 : decode prog_114_method_6_code 45 = .ok (.iload_n 0, 1) := by decide +kernel
theorem d2_46 : decode prog_114_method_6_code 46 = .ok (.sipush 879, 3) := by decide +kernel
theorem d2_49 : decode prog_114_method_6_code 49 = .ok (.if_icmp .le 17, 3) := by decide +kernel
theorem d2_52 : decode prog_114_method_6_code 52 = .ok (.iload_n 0, 1) := by decide +kernel
theorem d2_53 : decode prog_114_method_6_code 53 = .ok (.sipush 8255, 3) := by decide +kernel
theorem d2_56 : decode prog_114_method_6_code 56 = .ok (.if_icmp .eq 10, 3) := by decide +kernel
theorem d2_59 : decode prog_114_method_6_code 59 = .ok (.iload_n 0, 1) := by decide +kernel
theorem d2_60 : decode prog_114_method_6_code 60 = .ok (.sipush 8256, 3) := by decide +kernel
theorem d2_63 : decode prog_114_method_6_code 63 = .ok (.if_icmp .ne 7, 3) := by decide +kernel
theorem d2_66 : decode prog_114_method_6_code 66 = .ok (.iconst 1, 1) := by decide +kernel
theorem d2_67 : decode prog_114_method_6_code 67 = .ok (.goto 4, 3) := by decide +kernel
theorem d2_70 : decode prog_114_method_6_code 70 = .ok (.iconst 0, 1) := by decide +kernel
theorem d2_71 : decode prog_114_method_6_code 71 = .ok (.ireturn, 1) := by decide +kernel
theorem ef_2 (m : MethodId) (p0 : Int32) : entryFrame m #[(.int p0)] 1 = (mkF m 0 #[.val (.int p0)] []) := by first | (simp [entryFrame, mkF, argsToLocals, Value.category, maxLocals]; done) | rfl
def F2_71 (x0 : Int32) (y1 : Int32) : Int32 := (nar .boolean y1)
def F2_66 (x0 : Int32) : Int32 := (F2_71 x0 (1 : Int32))
def F2_52 (x0 : Int32) : Int32 := (if x0 = (8255 : Int32) then (F2_66 x0) else (if x0 = (8256 : Int32) then (F2_66 x0) else (F2_71 x0 (0 : Int32))))
def F2_31 (x0 : Int32) : Int32 := (if x0 = (183 : Int32) then (F2_66 x0) else (if x0 < (768 : Int32) then (F2_52 x0) else (if (879 : Int32) < x0 then (F2_52 x0) else (F2_66 x0))))
def F2_0 (x0 : Int32) : Int32 := (if (F3_0 x0) = (0 : Int32) then (if x0 = (45 : Int32) then (F2_66 x0) else (if x0 = (46 : Int32) then (F2_66 x0) else (if x0 < (48 : Int32) then (F2_31 x0) else (if (57 : Int32) < x0 then (F2_31 x0) else (F2_66 x0))))) else (F2_66 x0))
set_option maxRecDepth 65536 in
set_option maxHeartbeats 40000000 in
theorem rm2 (l : Launch) (Z : State) (a0 : Array Value) (hw : ∀ d ∈ tables_1, d.before a0 Z = true) (p0 : Int32) (h0 : Heap) (n0 : Nat) :
    own_M l Z (⟨"com/example/lather/lather/xml/XmlChars", "isNcNameChar", "(C)Z"⟩ : MethodName) prog_114_method_6_code 1 (some .boolean) ({ frames := 1, cells := 0, slots := 0, locals := 20 } : Room) #[(.int p0)] h0 (fun v h L => v = some (.int (F2_0 p0)) ∧ Fr n0 L ∧ h = h0) := by
  refine own_body pn_3 ?_
  intro p e s m below meth c T hx hby hml hown hZ hret hlk hnm X eT
  have N := Fr.nil n0
  obtain ⟨w, hF⟩ : ∃ w, w = F2_0 p0 := ⟨_, rfl⟩
  try rw [← hF]
  generalize hQ : own_Q s (fun v h L => v = some (.int w) ∧ Fr n0 L ∧ h = h0) ({ frames := 1, cells := 0, slots := 0, locals := 20 } : Room).cells ({ frames := 1, cells := 0, slots := 0, locals := 20 } : Room).slots = Qq
  refine own_st (fun _ k => castTop (ef_2 m p0) k) ?_
  have B71 : ∀ (T : State) (L : List Loc) (x0 : Int32) (y1 : Int32), Stand p l e ({ frames := 1, cells := 0, slots := 0, locals := 20 } : Room) s m #[(.int p0)] below meth c T L 0 0 → T.heap = h0 → Fr n0 L → w = F2_71 x0 y1 → own_E p e below Qq T (mkF m 71 #[.val (.int x0)] [(.int y1)]) := by
    intro T L x0 y1 X eT N hF
    rw [← hQ]
    exact own_retN X hx hlk (t := .boolean) hret (by simp) (hb hby d2_71) (by decide) (by decide) ⟨by (rw [hF]; try rfl), N, eT⟩
  have B66 : ∀ (T : State) (L : List Loc) (x0 : Int32), Stand p l e ({ frames := 1, cells := 0, slots := 0, locals := 20 } : Room) s m #[(.int p0)] below meth c T L 0 0 → T.heap = h0 → Fr n0 L → w = F2_66 x0 → own_E p e below Qq T (mkF m 66 #[.val (.int x0)] []) := by
    intro T L x0 X eT N hF
    refine own_st (fun _ => XS.iconst X.here hx rfl (hb hby d2_66)) ?_
    show own_E p e below Qq T (mkF m 67 #[.val (.int x0)] [(.int (1 : Int32))])
    refine own_st (fun _ => XS.goto X.here hx rfl (pc0 := 67) (pc' := 71) rfl (hb hby d2_67) (by decide) (by decide)) ?_
    show own_E p e below Qq T (mkF m 71 #[.val (.int x0)] [(.int (1 : Int32))])
    exact B71 _ _ x0 (1 : Int32) X eT N hF
  have B52 : ∀ (T : State) (L : List Loc) (x0 : Int32), Stand p l e ({ frames := 1, cells := 0, slots := 0, locals := 20 } : Room) s m #[(.int p0)] below meth c T L 0 0 → T.heap = h0 → Fr n0 L → w = F2_52 x0 → own_E p e below Qq T (mkF m 52 #[.val (.int x0)] []) := by
    intro T L x0 X eT N hF
    refine own_st (fun _ => XS.iloadN X.here hx rfl (hb hby d2_52) rfl) ?_
    show own_E p e below Qq T (mkF m 53 #[.val (.int x0)] [(.int x0)])
    refine own_st (fun _ => XS.sipush X.here hx rfl (hb hby d2_53)) ?_
    show own_E p e below Qq T (mkF m 56 #[.val (.int x0)] [(.int (8255 : Int32)), (.int x0)])
    by_cases q56 : x0 = (8255 : Int32)
    · replace hF := hF.trans (if_pos q56)
      refine own_st (fun _ => XS.icmpYes X.here hx rfl (pc0 := 56) (pc' := 66) rfl (hb hby d2_56) rfl (XT.ii_eq_t q56) (by decide) (by decide)) ?_
      show own_E p e below Qq T (mkF m 66 #[.val (.int x0)] [])
      exact B66 _ _ x0 X eT N hF
    · replace hF := hF.trans (if_neg q56)
      refine own_st (fun _ => XS.icmpNo X.here hx rfl (hb hby d2_56) rfl (XT.ii_eq_f q56)) ?_
      show own_E p e below Qq T (mkF m 59 #[.val (.int x0)] [])
      refine own_st (fun _ => XS.iloadN X.here hx rfl (hb hby d2_59) rfl) ?_
      show own_E p e below Qq T (mkF m 60 #[.val (.int x0)] [(.int x0)])
      refine own_st (fun _ => XS.sipush X.here hx rfl (hb hby d2_60)) ?_
      show own_E p e below Qq T (mkF m 63 #[.val (.int x0)] [(.int (8256 : Int32)), (.int x0)])
      by_cases q63 : x0 = (8256 : Int32)
      · replace hF := hF.trans (if_pos q63)
        refine own_st (fun _ => XS.icmpNo X.here hx rfl (hb hby d2_63) rfl (XT.ii_ne_f q63)) ?_
        show own_E p e below Qq T (mkF m 66 #[.val (.int x0)] [])
        exact B66 _ _ x0 X eT N hF
      · replace hF := hF.trans (if_neg q63)
        refine own_st (fun _ => XS.icmpYes X.here hx rfl (pc0 := 63) (pc' := 70) rfl (hb hby d2_63) rfl (XT.ii_ne_t q63) (by decide) (by decide)) ?_
        show own_E p e below Qq T (mkF m 70 #[.val (.int x0)] [])
        refine own_st (fun _ => XS.iconst X.here hx rfl (hb hby d2_70)) ?_
        show own_E p e below Qq T (mkF m 71 #[.val (.int x0)] [(.int (0 : Int32))])
        exact B71 _ _ x0 (0 : Int32) X eT N hF
  have B31 : ∀ (T : State) (L : List Loc) (x0 : Int32), Stand p l e ({ frames := 1, cells := 0, slots := 0, locals := 20 } : Room) s m #[(.int p0)] below meth c T L 0 0 → T.heap = h0 → Fr n0 L → w = F2_31 x0 → own_E p e below Qq T (mkF m 31 #[.val (.int x0)] []) := by
    intro T L x0 X eT N hF
    refine own_st (fun _ => XS.iloadN X.here hx rfl (hb hby d2_31) rfl) ?_
    show own_E p e below Qq T (mkF m 32 #[.val (.int x0)] [(.int x0)])
    refine own_st (fun _ => XS.sipush X.here hx rfl (hb hby d2_32)) ?_
    show own_E p e below Qq T (mkF m 35 #[.val (.int x0)] [(.int (183 : Int32)), (.int x0)])
    by_cases q35 : x0 = (183 : Int32)
    · replace hF := hF.trans (if_pos q35)
      refine own_st (fun _ => XS.icmpYes X.here hx rfl (pc0 := 35) (pc' := 66) rfl (hb hby d2_35) rfl (XT.ii_eq_t q35) (by decide) (by decide)) ?_
      show own_E p e below Qq T (mkF m 66 #[.val (.int x0)] [])
      exact B66 _ _ x0 X eT N hF
    · replace hF := hF.trans (if_neg q35)
      refine own_st (fun _ => XS.icmpNo X.here hx rfl (hb hby d2_35) rfl (XT.ii_eq_f q35)) ?_
      show own_E p e below Qq T (mkF m 38 #[.val (.int x0)] [])
      refine own_st (fun _ => XS.iloadN X.here hx rfl (hb hby d2_38) rfl) ?_
      show own_E p e below Qq T (mkF m 39 #[.val (.int x0)] [(.int x0)])
      refine own_st (fun _ => XS.sipush X.here hx rfl (hb hby d2_39)) ?_
      show own_E p e below Qq T (mkF m 42 #[.val (.int x0)] [(.int (768 : Int32)), (.int x0)])
      by_cases q42 : x0 < (768 : Int32)
      · replace hF := hF.trans (if_pos q42)
        refine own_st (fun _ => XS.icmpYes X.here hx rfl (pc0 := 42) (pc' := 52) rfl (hb hby d2_42) rfl (XT.ii_lt_t q42) (by decide) (by decide)) ?_
        show own_E p e below Qq T (mkF m 52 #[.val (.int x0)] [])
        exact B52 _ _ x0 X eT N hF
      · replace hF := hF.trans (if_neg q42)
        refine own_st (fun _ => XS.icmpNo X.here hx rfl (hb hby d2_42) rfl (XT.ii_lt_f q42)) ?_
        show own_E p e below Qq T (mkF m 45 #[.val (.int x0)] [])
        refine own_st (fun _ => XS.iloadN X.here hx rfl (hb hby d2_45) rfl) ?_
        show own_E p e below Qq T (mkF m 46 #[.val (.int x0)] [(.int x0)])
        refine own_st (fun _ => XS.sipush X.here hx rfl (hb hby d2_46)) ?_
        show own_E p e below Qq T (mkF m 49 #[.val (.int x0)] [(.int (879 : Int32)), (.int x0)])
        by_cases q49 : (879 : Int32) < x0
        · replace hF := hF.trans (if_pos q49)
          refine own_st (fun _ => XS.icmpNo X.here hx rfl (hb hby d2_49) rfl (XT.ii_le_f q49)) ?_
          show own_E p e below Qq T (mkF m 52 #[.val (.int x0)] [])
          exact B52 _ _ x0 X eT N hF
        · replace hF := hF.trans (if_neg q49)
          refine own_st (fun _ => XS.icmpYes X.here hx rfl (pc0 := 49) (pc' := 66) rfl (hb hby d2_49) rfl (XT.ii_le_t q49) (by decide) (by decide)) ?_
          show own_E p e below Qq T (mkF m 66 #[.val (.int x0)] [])
          exact B66 _ _ x0 X eT N hF
  show own_E p e below Qq T (mkF m 0 #[.val (.int p0)] [])
  refine own_st (fun _ => XS.iloadN X.here hx rfl (hb hby d2_0) rfl) ?_
  show own_E p e below Qq T (mkF m 1 #[.val (.int p0)] [(.int p0)])
  refine own_callS X hx hZ hown (hw _ (List.mem_of_getElem? (i := 8) rfl)) (hw _ (List.mem_of_getElem? (i := 9) rfl)) (hw _ (List.mem_of_getElem? (i := 6) rfl)) (hw _ (List.mem_of_getElem? (i := 10) rfl)) (by decide) (W := 0) (argsL := [(.int p0)]) (rest := []) (rm3 l Z a0 hw p0 _ n0) (by decide) (by decide) (by decide) (by decide) rfl (by rw [hml]; rfl) (lenOf pd_3 rfl) rfl (by show 2 * 0 + _ ≤ _; exact Nat.le_of_eq rfl) (hb hby d2_1) ?_
  intro T1 L1 v X' hq
  obtain ⟨rfl, N', e'⟩ := hq
  replace eT := e'.trans eT
  replace N := Fr.app N N'
  replace X : Stand p l e ({ frames := 1, cells := 0, slots := 0, locals := 20 } : Room) s m #[(.int p0)] below meth c T1 _ 0 0 := X'
  clear X' N' e'
  show own_E p e below Qq T1 (mkF m 4 #[.val (.int p0)] [(.int (F3_0 p0))])
  by_cases q4 : (F3_0 p0) = (0 : Int32)
  · replace hF := hF.trans (if_pos q4)
    refine own_st (fun _ => XS.ifNo X.here hx rfl (hb hby d2_4) rfl (XT.i0_ne_f q4)) ?_
    show own_E p e below Qq T1 (mkF m 7 #[.val (.int p0)] [])
    refine own_st (fun _ => XS.iloadN X.here hx rfl (hb hby d2_7) rfl) ?_
    show own_E p e below Qq T1 (mkF m 8 #[.val (.int p0)] [(.int p0)])
    refine own_st (fun _ => XS.bipush X.here hx rfl (hb hby d2_8)) ?_
    show own_E p e below Qq T1 (mkF m 10 #[.val (.int p0)] [(.int (45 : Int32)), (.int p0)])
    by_cases q10 : p0 = (45 : Int32)
    · replace hF := hF.trans (if_pos q10)
      refine own_st (fun _ => XS.icmpYes X.here hx rfl (pc0 := 10) (pc' := 66) rfl (hb hby d2_10) rfl (XT.ii_eq_t q10) (by decide) (by decide)) ?_
      show own_E p e below Qq T1 (mkF m 66 #[.val (.int p0)] [])
      exact B66 _ _ p0 X eT N hF
    · replace hF := hF.trans (if_neg q10)
      refine own_st (fun _ => XS.icmpNo X.here hx rfl (hb hby d2_10) rfl (XT.ii_eq_f q10)) ?_
      show own_E p e below Qq T1 (mkF m 13 #[.val (.int p0)] [])
      refine own_st (fun _ => XS.iloadN X.here hx rfl (hb hby d2_13) rfl) ?_
      show own_E p e below Qq T1 (mkF m 14 #[.val (.int p0)] [(.int p0)])
      refine own_st (fun _ => XS.bipush X.here hx rfl (hb hby d2_14)) ?_
      show own_E p e below Qq T1 (mkF m 16 #[.val (.int p0)] [(.int (46 : Int32)), (.int p0)])
      by_cases q16 : p0 = (46 : Int32)
      · replace hF := hF.trans (if_pos q16)
        refine own_st (fun _ => XS.icmpYes X.here hx rfl (pc0 := 16) (pc' := 66) rfl (hb hby d2_16) rfl (XT.ii_eq_t q16) (by decide) (by decide)) ?_
        show own_E p e below Qq T1 (mkF m 66 #[.val (.int p0)] [])
        exact B66 _ _ p0 X eT N hF
      · replace hF := hF.trans (if_neg q16)
        refine own_st (fun _ => XS.icmpNo X.here hx rfl (hb hby d2_16) rfl (XT.ii_eq_f q16)) ?_
        show own_E p e below Qq T1 (mkF m 19 #[.val (.int p0)] [])
        refine own_st (fun _ => XS.iloadN X.here hx rfl (hb hby d2_19) rfl) ?_
        show own_E p e below Qq T1 (mkF m 20 #[.val (.int p0)] [(.int p0)])
        refine own_st (fun _ => XS.bipush X.here hx rfl (hb hby d2_20)) ?_
        show own_E p e below Qq T1 (mkF m 22 #[.val (.int p0)] [(.int (48 : Int32)), (.int p0)])
        by_cases q22 : p0 < (48 : Int32)
        · replace hF := hF.trans (if_pos q22)
          refine own_st (fun _ => XS.icmpYes X.here hx rfl (pc0 := 22) (pc' := 31) rfl (hb hby d2_22) rfl (XT.ii_lt_t q22) (by decide) (by decide)) ?_
          show own_E p e below Qq T1 (mkF m 31 #[.val (.int p0)] [])
          exact B31 _ _ p0 X eT N hF
        · replace hF := hF.trans (if_neg q22)
          refine own_st (fun _ => XS.icmpNo X.here hx rfl (hb hby d2_22) rfl (XT.ii_lt_f q22)) ?_
          show own_E p e below Qq T1 (mkF m 25 #[.val (.int p0)] [])
          refine own_st (fun _ => XS.iloadN X.here hx rfl (hb hby d2_25) rfl) ?_
          show own_E p e below Qq T1 (mkF m 26 #[.val (.int p0)] [(.int p0)])
          refine own_st (fun _ => XS.bipush X.here hx rfl (hb hby d2_26)) ?_
          show own_E p e below Qq T1 (mkF m 28 #[.val (.int p0)] [(.int (57 : Int32)), (.int p0)])
          by_cases q28 : (57 : Int32) < p0
          · replace hF := hF.trans (if_pos q28)
            refine own_st (fun _ => XS.icmpNo X.here hx rfl (hb hby d2_28) rfl (XT.ii_le_f q28)) ?_
            show own_E p e below Qq T1 (mkF m 31 #[.val (.int p0)] [])
            exact B31 _ _ p0 X eT N hF
          · replace hF := hF.trans (if_neg q28)
            refine own_st (fun _ => XS.icmpYes X.here hx rfl (pc0 := 28) (pc' := 66) rfl (hb hby d2_28) rfl (XT.ii_le_t q28) (by decide) (by decide)) ?_
            show own_E p e below Qq T1 (mkF m 66 #[.val (.int p0)] [])
            exact B66 _ _ p0 X eT N hF
  · replace hF := hF.trans (if_neg q4)
    refine own_st (fun _ => XS.ifYes X.here hx rfl (pc0 := 4) (pc' := 66) rfl (hb hby d2_4) rfl (XT.i0_ne_t q4) (by decide) (by decide)) ?_
    show own_E p e below Qq T1 (mkF m 66 #[.val (.int p0)] [])
    exact B66 _ _ p0 X eT N hF
theorem ef_0 (m : MethodId) (p0 : Int32) : entryFrame m #[(.int p0)] maxLocals = (mkF m 0 #[.val (.int p0), .unset, .unset] []) := by first | (simp [entryFrame, mkF, argsToLocals, Value.category, maxLocals]; done) | rfl
def F0_29 (x0 : Int32) (x1 : Int32) (x2 : Int32) (y3 : Int32) : Int32 := (nar .boolean y3)
def F0_15 (x0 : Int32) (x1 : Int32) (y2 : Int32) : Int32 := (if (F2_0 x1) = y2 then (F0_29 x0 x1 y2 (1 : Int32)) else (F0_29 x0 x1 y2 (0 : Int32)))
def F0_0 (x0 : Int32) : Int32 := (if (F1_0 (x0.toUInt32.toUInt16.toUInt32.toInt32)) = (0 : Int32) then (F0_15 x0 (x0.toUInt32.toUInt16.toUInt32.toInt32) (1 : Int32)) else (F0_15 x0 (x0.toUInt32.toUInt16.toUInt32.toInt32) (0 : Int32)))
set_option maxRecDepth 65536 in
set_option maxHeartbeats 40000000 in
theorem rm0 (l : Launch) (Z : State) (a0 : Array Value) (hw : ∀ d ∈ tables_1, d.before a0 Z = true) (p0 : Int32) (h0 : Heap) (n0 : Nat) (Z0 : n0 ≤ h0.size) :
    own_M l Z x code maxLocals ret room_1 #[(.int p0)] h0 (fun v h L => v = some (.int (F0_0 p0)) ∧ Fr n0 L ∧ h = h0) := by
  refine own_body pn_1 ?_
  intro p e s m below meth c T hx hby hml hown hZ hret hlk hnm X eT
  have N := Fr.nil n0
  obtain ⟨w, hF⟩ : ∃ w, w = F0_0 p0 := ⟨_, rfl⟩
  try rw [← hF]
  generalize hQ : own_Q s (fun v h L => v = some (.int w) ∧ Fr n0 L ∧ h = h0) room_1.cells room_1.slots = Qq
  refine own_st (fun _ k => castTop (ef_0 m p0) k) ?_
  have B29 : ∀ (T : State) (L : List Loc) (x0 : Int32) (x1 : Int32) (x2 : Int32) (y3 : Int32), Stand p l e room_1 s m #[(.int p0)] below meth c T L 0 0 → T.heap = h0 → Fr n0 L → w = F0_29 x0 x1 x2 y3 → own_E p e below Qq T (mkF m 29 #[.val (.int x0), .val (.int x1), .val (.int x2)] [(.int y3)]) := by
    intro T L x0 x1 x2 y3 X eT N hF
    rw [← hQ]
    exact own_retN X hx hlk (t := .boolean) hret (by simp) (hb hby at_29) (by decide) (by decide) ⟨by (rw [hF]; try rfl), N, eT⟩
  have B15 : ∀ (T : State) (L : List Loc) (x0 : Int32) (x1 : Int32) (y2 : Int32), Stand p l e room_1 s m #[(.int p0)] below meth c T L 0 0 → T.heap = h0 → Fr n0 L → w = F0_15 x0 x1 y2 → own_E p e below Qq T (mkF m 15 #[.val (.int x0), .val (.int x1), .unset] [(.int y2)]) := by
    intro T L x0 x1 y2 X eT N hF
    refine own_st (fun _ => XS.istoreN X.here hx rfl (hb hby at_15) rfl (l' := #[.val (.int x0), .val (.int x1), .val (.int y2)]) rfl) ?_
    show own_E p e below Qq T (mkF m 16 #[.val (.int x0), .val (.int x1), .val (.int y2)] [])
    refine own_st (fun _ => XS.iloadN X.here hx rfl (hb hby at_16) rfl) ?_
    show own_E p e below Qq T (mkF m 17 #[.val (.int x0), .val (.int x1), .val (.int y2)] [(.int x1)])
    refine own_callS X hx hZ hown (hw _ (List.mem_of_getElem? (i := 4) rfl)) (hw _ (List.mem_of_getElem? (i := 5) rfl)) (hw _ (List.mem_of_getElem? (i := 6) rfl)) (hw _ (List.mem_of_getElem? (i := 7) rfl)) (by decide) (W := 0) (argsL := [(.int x1)]) (rest := []) (rm2 l Z a0 hw x1 _ n0) (by decide) (by decide) (by decide) (by decide) rfl (by rw [hml]; rfl) (lenOf pd_3 rfl) rfl (by show 2 * 0 + _ ≤ _; exact Nat.le_of_eq rfl) (hb hby at_17) ?_
    intro T1 L1 v X' hq
    obtain ⟨rfl, N', e'⟩ := hq
    replace eT := e'.trans eT
    replace N := Fr.app N N'
    replace X : Stand p l e room_1 s m #[(.int p0)] below meth c T1 _ 0 0 := X'
    clear X' N' e'
    show own_E p e below Qq T1 (mkF m 20 #[.val (.int x0), .val (.int x1), .val (.int y2)] [(.int (F2_0 x1))])
    refine own_st (fun _ => XS.iloadN X.here hx rfl (hb hby at_20) rfl) ?_
    show own_E p e below Qq T1 (mkF m 21 #[.val (.int x0), .val (.int x1), .val (.int y2)] [(.int y2), (.int (F2_0 x1))])
    by_cases q21 : (F2_0 x1) = y2
    · replace hF := hF.trans (if_pos q21)
      refine own_st (fun _ => XS.icmpNo X.here hx rfl (hb hby at_21) rfl (XT.ii_ne_f q21)) ?_
      show own_E p e below Qq T1 (mkF m 24 #[.val (.int x0), .val (.int x1), .val (.int y2)] [])
      refine own_st (fun _ => XS.iconst X.here hx rfl (hb hby at_24)) ?_
      show own_E p e below Qq T1 (mkF m 25 #[.val (.int x0), .val (.int x1), .val (.int y2)] [(.int (1 : Int32))])
      refine own_st (fun _ => XS.goto X.here hx rfl (pc0 := 25) (pc' := 29) rfl (hb hby at_25) (by decide) (by decide)) ?_
      show own_E p e below Qq T1 (mkF m 29 #[.val (.int x0), .val (.int x1), .val (.int y2)] [(.int (1 : Int32))])
      exact B29 _ _ x0 x1 y2 (1 : Int32) X eT N hF
    · replace hF := hF.trans (if_neg q21)
      refine own_st (fun _ => XS.icmpYes X.here hx rfl (pc0 := 21) (pc' := 28) rfl (hb hby at_21) rfl (XT.ii_ne_t q21) (by decide) (by decide)) ?_
      show own_E p e below Qq T1 (mkF m 28 #[.val (.int x0), .val (.int x1), .val (.int y2)] [])
      refine own_st (fun _ => XS.iconst X.here hx rfl (hb hby at_28)) ?_
      show own_E p e below Qq T1 (mkF m 29 #[.val (.int x0), .val (.int x1), .val (.int y2)] [(.int (0 : Int32))])
      exact B29 _ _ x0 x1 y2 (0 : Int32) X eT N hF
  show own_E p e below Qq T (mkF m 0 #[.val (.int p0), .unset, .unset] [])
  refine own_st (fun _ => XS.iloadN X.here hx rfl (hb hby at_0) rfl) ?_
  show own_E p e below Qq T (mkF m 1 #[.val (.int p0), .unset, .unset] [(.int p0)])
  refine own_st (fun _ => XT.i2c X.here hx rfl (hb hby at_1) rfl) ?_
  show own_E p e below Qq T (mkF m 2 #[.val (.int p0), .unset, .unset] [(.int (p0.toUInt32.toUInt16.toUInt32.toInt32))])
  refine own_st (fun _ => XS.istoreN X.here hx rfl (hb hby at_2) rfl (l' := #[.val (.int p0), .val (.int (p0.toUInt32.toUInt16.toUInt32.toInt32)), .unset]) rfl) ?_
  show own_E p e below Qq T (mkF m 3 #[.val (.int p0), .val (.int (p0.toUInt32.toUInt16.toUInt32.toInt32)), .unset] [])
  refine own_st (fun _ => XS.iloadN X.here hx rfl (hb hby at_3) rfl) ?_
  show own_E p e below Qq T (mkF m 4 #[.val (.int p0), .val (.int (p0.toUInt32.toUInt16.toUInt32.toInt32)), .unset] [(.int (p0.toUInt32.toUInt16.toUInt32.toInt32))])
  refine own_callS X hx hZ hown (hw _ (List.mem_of_getElem? (i := 0) rfl)) (hw _ (List.mem_of_getElem? (i := 1) rfl)) (hw _ (List.mem_of_getElem? (i := 2) rfl)) (hw _ (List.mem_of_getElem? (i := 3) rfl)) (by decide) (W := 0) (argsL := [(.int (p0.toUInt32.toUInt16.toUInt32.toInt32))]) (rest := []) (rm1 l Z a0 hw (p0.toUInt32.toUInt16.toUInt32.toInt32) _ n0) (by decide) (by decide) (by decide) (by decide) rfl (by rw [hml]; rfl) (lenOf pd_1 rfl) rfl (by show 2 * 0 + _ ≤ _; exact Nat.le_of_eq rfl) (hb hby at_4) ?_
  intro T2 L2 v X' hq
  obtain ⟨rfl, N', e'⟩ := hq
  replace eT := e'.trans eT
  replace N := Fr.app N N'
  replace X : Stand p l e room_1 s m #[(.int p0)] below meth c T2 _ 0 0 := X'
  clear X' N' e'
  show own_E p e below Qq T2 (mkF m 7 #[.val (.int p0), .val (.int (p0.toUInt32.toUInt16.toUInt32.toInt32)), .unset] [(.int (F1_0 (p0.toUInt32.toUInt16.toUInt32.toInt32)))])
  by_cases q7 : (F1_0 (p0.toUInt32.toUInt16.toUInt32.toInt32)) = (0 : Int32)
  · replace hF := hF.trans (if_pos q7)
    refine own_st (fun _ => XS.ifNo X.here hx rfl (hb hby at_7) rfl (XT.i0_ne_f q7)) ?_
    show own_E p e below Qq T2 (mkF m 10 #[.val (.int p0), .val (.int (p0.toUInt32.toUInt16.toUInt32.toInt32)), .unset] [])
    refine own_st (fun _ => XS.iconst X.here hx rfl (hb hby at_10)) ?_
    show own_E p e below Qq T2 (mkF m 11 #[.val (.int p0), .val (.int (p0.toUInt32.toUInt16.toUInt32.toInt32)), .unset] [(.int (1 : Int32))])
    refine own_st (fun _ => XS.goto X.here hx rfl (pc0 := 11) (pc' := 15) rfl (hb hby at_11) (by decide) (by decide)) ?_
    show own_E p e below Qq T2 (mkF m 15 #[.val (.int p0), .val (.int (p0.toUInt32.toUInt16.toUInt32.toInt32)), .unset] [(.int (1 : Int32))])
    exact B15 _ _ p0 (p0.toUInt32.toUInt16.toUInt32.toInt32) (1 : Int32) X eT N hF
  · replace hF := hF.trans (if_neg q7)
    refine own_st (fun _ => XS.ifYes X.here hx rfl (pc0 := 7) (pc' := 14) rfl (hb hby at_7) rfl (XT.i0_ne_t q7) (by decide) (by decide)) ?_
    show own_E p e below Qq T2 (mkF m 14 #[.val (.int p0), .val (.int (p0.toUInt32.toUInt16.toUInt32.toInt32)), .unset] [])
    refine own_st (fun _ => XS.iconst X.here hx rfl (hb hby at_14)) ?_
    show own_E p e below Qq T2 (mkF m 15 #[.val (.int p0), .val (.int (p0.toUInt32.toUInt16.toUInt32.toInt32)), .unset] [(.int (0 : Int32))])
    exact B15 _ _ p0 (p0.toUInt32.toUInt16.toUInt32.toInt32) (0 : Int32) X eT N hF
theorem own_eq (x k : Int32) (n : Int) (hk : k.toInt = n) (h : x.toInt = n) : x = k := Int32.toInt_inj.mp (by omega)
theorem own_ne (x k : Int32) (n : Int) (hk : k.toInt = n) (h : ¬ x.toInt = n) : ¬ x = k := fun z => h (by rw [z, hk])
theorem own_lt (x k : Int32) (n : Int) (hk : k.toInt = n) (h : x.toInt < n) : x < k := by rw [Int32.lt_iff_toInt_lt]; omega
theorem own_nl (x k : Int32) (n : Int) (hk : k.toInt = n) (h : n ≤ x.toInt) : ¬ x < k := by rw [Int32.lt_iff_toInt_lt]; omega
theorem own_gt (x k : Int32) (n : Int) (hk : k.toInt = n) (h : n < x.toInt) : k < x := by rw [Int32.lt_iff_toInt_lt]; omega
theorem own_ng (x k : Int32) (n : Int) (hk : k.toInt = n) (h : x.toInt ≤ n) : ¬ k < x := by rw [Int32.lt_iff_toInt_lt]; omega
theorem own_iv0 (x : Int32) (h1 : 0 ≤ x.toInt) (h2 : x.toInt ≤ 43) : F1_0 x = 1 ∧ F2_0 x = 0 := by
  have f1 : F1_0 x = 1 := by rw [F1_0, if_neg (own_ng x 44 44 rfl (by omega))]
  have f3 : F3_0 x = 0 := by rw [F3_0, if_pos (own_lt x 97 97 rfl (by omega)), F3_12, if_pos (own_lt x 65 65 rfl (by omega)), F3_24, if_neg (own_ne x 95 95 rfl (by omega)), if_pos (own_lt x 192 192 rfl (by omega)), F3_44, if_pos (own_lt x 216 216 rfl (by omega)), F3_58, if_pos (own_lt x 248 248 rfl (by omega)), F3_72, if_pos (own_lt x 880 880 rfl (by omega)), F3_86, if_pos (own_lt x 895 895 rfl (by omega)), F3_100, if_neg (own_ne x 8204 8204 rfl (by omega)), if_neg (own_ne x 8205 8205 rfl (by omega)), if_pos (own_lt x 8304 8304 rfl (by omega)), F3_128, if_pos (own_lt x 11264 11264 rfl (by omega)), F3_142, if_pos (own_lt x 12289 12289 rfl (by omega)), F3_155, if_pos (own_lt x 63744 63744 rfl (by omega)), F3_167, if_pos (own_lt x 65008 65008 rfl (by omega)), F3_183]; rfl
  have f2 : F2_0 x = 0 := by rw [F2_0, f3, if_pos rfl, if_neg (own_ne x 45 45 rfl (by omega)), if_neg (own_ne x 46 46 rfl (by omega)), if_pos (own_lt x 48 48 rfl (by omega)), F2_31, if_neg (own_ne x 183 183 rfl (by omega)), if_pos (own_lt x 768 768 rfl (by omega)), F2_52, if_neg (own_ne x 8255 8255 rfl (by omega)), if_neg (own_ne x 8256 8256 rfl (by omega))]; rfl
  exact ⟨f1, f2⟩
theorem own_iv1 (x : Int32) (h1 : 44 ≤ x.toInt) (h2 : x.toInt ≤ 44) : F1_0 x = 1 ∧ F2_0 x = 0 := by
  have f1 : F1_0 x = 1 := by rw [F1_0, if_neg (own_ng x 44 44 rfl (by omega))]
  have f3 : F3_0 x = 0 := by rw [F3_0, if_pos (own_lt x 97 97 rfl (by omega)), F3_12, if_pos (own_lt x 65 65 rfl (by omega)), F3_24, if_neg (own_ne x 95 95 rfl (by omega)), if_pos (own_lt x 192 192 rfl (by omega)), F3_44, if_pos (own_lt x 216 216 rfl (by omega)), F3_58, if_pos (own_lt x 248 248 rfl (by omega)), F3_72, if_pos (own_lt x 880 880 rfl (by omega)), F3_86, if_pos (own_lt x 895 895 rfl (by omega)), F3_100, if_neg (own_ne x 8204 8204 rfl (by omega)), if_neg (own_ne x 8205 8205 rfl (by omega)), if_pos (own_lt x 8304 8304 rfl (by omega)), F3_128, if_pos (own_lt x 11264 11264 rfl (by omega)), F3_142, if_pos (own_lt x 12289 12289 rfl (by omega)), F3_155, if_pos (own_lt x 63744 63744 rfl (by omega)), F3_167, if_pos (own_lt x 65008 65008 rfl (by omega)), F3_183]; rfl
  have f2 : F2_0 x = 0 := by rw [F2_0, f3, if_pos rfl, if_neg (own_ne x 45 45 rfl (by omega)), if_neg (own_ne x 46 46 rfl (by omega)), if_pos (own_lt x 48 48 rfl (by omega)), F2_31, if_neg (own_ne x 183 183 rfl (by omega)), if_pos (own_lt x 768 768 rfl (by omega)), F2_52, if_neg (own_ne x 8255 8255 rfl (by omega)), if_neg (own_ne x 8256 8256 rfl (by omega))]; rfl
  exact ⟨f1, f2⟩
theorem own_iv2 (x : Int32) (h1 : 45 ≤ x.toInt) (h2 : x.toInt ≤ 45) : F1_0 x = 0 ∧ F2_0 x = 1 := by
  have f1 : F1_0 x = 0 := by rw [F1_0, if_pos (own_gt x 44 44 rfl (by omega)), if_neg (own_ne x 47 47 rfl (by omega)), if_pos (own_lt x 58 58 rfl (by omega)), F1_30, if_pos (own_lt x 91 91 rfl (by omega)), F1_44, if_neg (own_ne x 96 96 rfl (by omega)), if_pos (own_lt x 123 123 rfl (by omega)), F1_67, if_pos (own_lt x 184 184 rfl (by omega)), F1_83, if_neg (own_ne x 215 215 rfl (by omega)), if_neg (own_ne x 247 247 rfl (by omega)), if_neg (own_ne x 894 894 rfl (by omega)), if_pos (own_lt x 8192 8192 rfl (by omega)), F1_122, if_pos (own_lt x 8206 8206 rfl (by omega)), F1_138, if_pos (own_lt x 8257 8257 rfl (by omega)), F1_154, if_pos (own_lt x 8592 8592 rfl (by omega)), F1_170, if_pos (own_lt x 12272 12272 rfl (by omega)), F1_186, if_pos (own_lt x 57344 57344 rfl (by omega)), F1_200, if_pos (own_lt x 64976 64976 rfl (by omega)), F1_214, if_pos (own_lt x 65534 65534 rfl (by omega))]; rfl
  have f3 : F3_0 x = 0 := by rw [F3_0, if_pos (own_lt x 97 97 rfl (by omega)), F3_12, if_pos (own_lt x 65 65 rfl (by omega)), F3_24, if_neg (own_ne x 95 95 rfl (by omega)), if_pos (own_lt x 192 192 rfl (by omega)), F3_44, if_pos (own_lt x 216 216 rfl (by omega)), F3_58, if_pos (own_lt x 248 248 rfl (by omega)), F3_72, if_pos (own_lt x 880 880 rfl (by omega)), F3_86, if_pos (own_lt x 895 895 rfl (by omega)), F3_100, if_neg (own_ne x 8204 8204 rfl (by omega)), if_neg (own_ne x 8205 8205 rfl (by omega)), if_pos (own_lt x 8304 8304 rfl (by omega)), F3_128, if_pos (own_lt x 11264 11264 rfl (by omega)), F3_142, if_pos (own_lt x 12289 12289 rfl (by omega)), F3_155, if_pos (own_lt x 63744 63744 rfl (by omega)), F3_167, if_pos (own_lt x 65008 65008 rfl (by omega)), F3_183]; rfl
  have f2 : F2_0 x = 1 := by rw [F2_0, f3, if_pos rfl, if_pos (own_eq x 45 45 rfl (by omega)), F2_66]; rfl
  exact ⟨f1, f2⟩
theorem own_iv3 (x : Int32) (h1 : 46 ≤ x.toInt) (h2 : x.toInt ≤ 46) : F1_0 x = 0 ∧ F2_0 x = 1 := by
  have f1 : F1_0 x = 0 := by rw [F1_0, if_pos (own_gt x 44 44 rfl (by omega)), if_neg (own_ne x 47 47 rfl (by omega)), if_pos (own_lt x 58 58 rfl (by omega)), F1_30, if_pos (own_lt x 91 91 rfl (by omega)), F1_44, if_neg (own_ne x 96 96 rfl (by omega)), if_pos (own_lt x 123 123 rfl (by omega)), F1_67, if_pos (own_lt x 184 184 rfl (by omega)), F1_83, if_neg (own_ne x 215 215 rfl (by omega)), if_neg (own_ne x 247 247 rfl (by omega)), if_neg (own_ne x 894 894 rfl (by omega)), if_pos (own_lt x 8192 8192 rfl (by omega)), F1_122, if_pos (own_lt x 8206 8206 rfl (by omega)), F1_138, if_pos (own_lt x 8257 8257 rfl (by omega)), F1_154, if_pos (own_lt x 8592 8592 rfl (by omega)), F1_170, if_pos (own_lt x 12272 12272 rfl (by omega)), F1_186, if_pos (own_lt x 57344 57344 rfl (by omega)), F1_200, if_pos (own_lt x 64976 64976 rfl (by omega)), F1_214, if_pos (own_lt x 65534 65534 rfl (by omega))]; rfl
  have f3 : F3_0 x = 0 := by rw [F3_0, if_pos (own_lt x 97 97 rfl (by omega)), F3_12, if_pos (own_lt x 65 65 rfl (by omega)), F3_24, if_neg (own_ne x 95 95 rfl (by omega)), if_pos (own_lt x 192 192 rfl (by omega)), F3_44, if_pos (own_lt x 216 216 rfl (by omega)), F3_58, if_pos (own_lt x 248 248 rfl (by omega)), F3_72, if_pos (own_lt x 880 880 rfl (by omega)), F3_86, if_pos (own_lt x 895 895 rfl (by omega)), F3_100, if_neg (own_ne x 8204 8204 rfl (by omega)), if_neg (own_ne x 8205 8205 rfl (by omega)), if_pos (own_lt x 8304 8304 rfl (by omega)), F3_128, if_pos (own_lt x 11264 11264 rfl (by omega)), F3_142, if_pos (own_lt x 12289 12289 rfl (by omega)), F3_155, if_pos (own_lt x 63744 63744 rfl (by omega)), F3_167, if_pos (own_lt x 65008 65008 rfl (by omega)), F3_183]; rfl
  have f2 : F2_0 x = 1 := by rw [F2_0, f3, if_pos rfl, if_neg (own_ne x 45 45 rfl (by omega)), if_pos (own_eq x 46 46 rfl (by omega)), F2_66]; rfl
  exact ⟨f1, f2⟩
theorem own_iv4 (x : Int32) (h1 : 47 ≤ x.toInt) (h2 : x.toInt ≤ 47) : F1_0 x = 1 ∧ F2_0 x = 0 := by
  have f1 : F1_0 x = 1 := by rw [F1_0, if_pos (own_gt x 44 44 rfl (by omega)), if_pos (own_eq x 47 47 rfl (by omega))]
  have f3 : F3_0 x = 0 := by rw [F3_0, if_pos (own_lt x 97 97 rfl (by omega)), F3_12, if_pos (own_lt x 65 65 rfl (by omega)), F3_24, if_neg (own_ne x 95 95 rfl (by omega)), if_pos (own_lt x 192 192 rfl (by omega)), F3_44, if_pos (own_lt x 216 216 rfl (by omega)), F3_58, if_pos (own_lt x 248 248 rfl (by omega)), F3_72, if_pos (own_lt x 880 880 rfl (by omega)), F3_86, if_pos (own_lt x 895 895 rfl (by omega)), F3_100, if_neg (own_ne x 8204 8204 rfl (by omega)), if_neg (own_ne x 8205 8205 rfl (by omega)), if_pos (own_lt x 8304 8304 rfl (by omega)), F3_128, if_pos (own_lt x 11264 11264 rfl (by omega)), F3_142, if_pos (own_lt x 12289 12289 rfl (by omega)), F3_155, if_pos (own_lt x 63744 63744 rfl (by omega)), F3_167, if_pos (own_lt x 65008 65008 rfl (by omega)), F3_183]; rfl
  have f2 : F2_0 x = 0 := by rw [F2_0, f3, if_pos rfl, if_neg (own_ne x 45 45 rfl (by omega)), if_neg (own_ne x 46 46 rfl (by omega)), if_pos (own_lt x 48 48 rfl (by omega)), F2_31, if_neg (own_ne x 183 183 rfl (by omega)), if_pos (own_lt x 768 768 rfl (by omega)), F2_52, if_neg (own_ne x 8255 8255 rfl (by omega)), if_neg (own_ne x 8256 8256 rfl (by omega))]; rfl
  exact ⟨f1, f2⟩
theorem own_iv5 (x : Int32) (h1 : 48 ≤ x.toInt) (h2 : x.toInt ≤ 48) : F1_0 x = 0 ∧ F2_0 x = 1 := by
  have f1 : F1_0 x = 0 := by rw [F1_0, if_pos (own_gt x 44 44 rfl (by omega)), if_neg (own_ne x 47 47 rfl (by omega)), if_pos (own_lt x 58 58 rfl (by omega)), F1_30, if_pos (own_lt x 91 91 rfl (by omega)), F1_44, if_neg (own_ne x 96 96 rfl (by omega)), if_pos (own_lt x 123 123 rfl (by omega)), F1_67, if_pos (own_lt x 184 184 rfl (by omega)), F1_83, if_neg (own_ne x 215 215 rfl (by omega)), if_neg (own_ne x 247 247 rfl (by omega)), if_neg (own_ne x 894 894 rfl (by omega)), if_pos (own_lt x 8192 8192 rfl (by omega)), F1_122, if_pos (own_lt x 8206 8206 rfl (by omega)), F1_138, if_pos (own_lt x 8257 8257 rfl (by omega)), F1_154, if_pos (own_lt x 8592 8592 rfl (by omega)), F1_170, if_pos (own_lt x 12272 12272 rfl (by omega)), F1_186, if_pos (own_lt x 57344 57344 rfl (by omega)), F1_200, if_pos (own_lt x 64976 64976 rfl (by omega)), F1_214, if_pos (own_lt x 65534 65534 rfl (by omega))]; rfl
  have f3 : F3_0 x = 0 := by rw [F3_0, if_pos (own_lt x 97 97 rfl (by omega)), F3_12, if_pos (own_lt x 65 65 rfl (by omega)), F3_24, if_neg (own_ne x 95 95 rfl (by omega)), if_pos (own_lt x 192 192 rfl (by omega)), F3_44, if_pos (own_lt x 216 216 rfl (by omega)), F3_58, if_pos (own_lt x 248 248 rfl (by omega)), F3_72, if_pos (own_lt x 880 880 rfl (by omega)), F3_86, if_pos (own_lt x 895 895 rfl (by omega)), F3_100, if_neg (own_ne x 8204 8204 rfl (by omega)), if_neg (own_ne x 8205 8205 rfl (by omega)), if_pos (own_lt x 8304 8304 rfl (by omega)), F3_128, if_pos (own_lt x 11264 11264 rfl (by omega)), F3_142, if_pos (own_lt x 12289 12289 rfl (by omega)), F3_155, if_pos (own_lt x 63744 63744 rfl (by omega)), F3_167, if_pos (own_lt x 65008 65008 rfl (by omega)), F3_183]; rfl
  have f2 : F2_0 x = 1 := by rw [F2_0, f3, if_pos rfl, if_neg (own_ne x 45 45 rfl (by omega)), if_neg (own_ne x 46 46 rfl (by omega)), if_neg (own_nl x 48 48 rfl (by omega)), if_neg (own_ng x 57 57 rfl (by omega)), F2_66]; rfl
  exact ⟨f1, f2⟩
theorem own_iv6 (x : Int32) (h1 : 49 ≤ x.toInt) (h2 : x.toInt ≤ 56) : F1_0 x = 0 ∧ F2_0 x = 1 := by
  have f1 : F1_0 x = 0 := by rw [F1_0, if_pos (own_gt x 44 44 rfl (by omega)), if_neg (own_ne x 47 47 rfl (by omega)), if_pos (own_lt x 58 58 rfl (by omega)), F1_30, if_pos (own_lt x 91 91 rfl (by omega)), F1_44, if_neg (own_ne x 96 96 rfl (by omega)), if_pos (own_lt x 123 123 rfl (by omega)), F1_67, if_pos (own_lt x 184 184 rfl (by omega)), F1_83, if_neg (own_ne x 215 215 rfl (by omega)), if_neg (own_ne x 247 247 rfl (by omega)), if_neg (own_ne x 894 894 rfl (by omega)), if_pos (own_lt x 8192 8192 rfl (by omega)), F1_122, if_pos (own_lt x 8206 8206 rfl (by omega)), F1_138, if_pos (own_lt x 8257 8257 rfl (by omega)), F1_154, if_pos (own_lt x 8592 8592 rfl (by omega)), F1_170, if_pos (own_lt x 12272 12272 rfl (by omega)), F1_186, if_pos (own_lt x 57344 57344 rfl (by omega)), F1_200, if_pos (own_lt x 64976 64976 rfl (by omega)), F1_214, if_pos (own_lt x 65534 65534 rfl (by omega))]; rfl
  have f3 : F3_0 x = 0 := by rw [F3_0, if_pos (own_lt x 97 97 rfl (by omega)), F3_12, if_pos (own_lt x 65 65 rfl (by omega)), F3_24, if_neg (own_ne x 95 95 rfl (by omega)), if_pos (own_lt x 192 192 rfl (by omega)), F3_44, if_pos (own_lt x 216 216 rfl (by omega)), F3_58, if_pos (own_lt x 248 248 rfl (by omega)), F3_72, if_pos (own_lt x 880 880 rfl (by omega)), F3_86, if_pos (own_lt x 895 895 rfl (by omega)), F3_100, if_neg (own_ne x 8204 8204 rfl (by omega)), if_neg (own_ne x 8205 8205 rfl (by omega)), if_pos (own_lt x 8304 8304 rfl (by omega)), F3_128, if_pos (own_lt x 11264 11264 rfl (by omega)), F3_142, if_pos (own_lt x 12289 12289 rfl (by omega)), F3_155, if_pos (own_lt x 63744 63744 rfl (by omega)), F3_167, if_pos (own_lt x 65008 65008 rfl (by omega)), F3_183]; rfl
  have f2 : F2_0 x = 1 := by rw [F2_0, f3, if_pos rfl, if_neg (own_ne x 45 45 rfl (by omega)), if_neg (own_ne x 46 46 rfl (by omega)), if_neg (own_nl x 48 48 rfl (by omega)), if_neg (own_ng x 57 57 rfl (by omega)), F2_66]; rfl
  exact ⟨f1, f2⟩
theorem own_iv7 (x : Int32) (h1 : 57 ≤ x.toInt) (h2 : x.toInt ≤ 57) : F1_0 x = 0 ∧ F2_0 x = 1 := by
  have f1 : F1_0 x = 0 := by rw [F1_0, if_pos (own_gt x 44 44 rfl (by omega)), if_neg (own_ne x 47 47 rfl (by omega)), if_pos (own_lt x 58 58 rfl (by omega)), F1_30, if_pos (own_lt x 91 91 rfl (by omega)), F1_44, if_neg (own_ne x 96 96 rfl (by omega)), if_pos (own_lt x 123 123 rfl (by omega)), F1_67, if_pos (own_lt x 184 184 rfl (by omega)), F1_83, if_neg (own_ne x 215 215 rfl (by omega)), if_neg (own_ne x 247 247 rfl (by omega)), if_neg (own_ne x 894 894 rfl (by omega)), if_pos (own_lt x 8192 8192 rfl (by omega)), F1_122, if_pos (own_lt x 8206 8206 rfl (by omega)), F1_138, if_pos (own_lt x 8257 8257 rfl (by omega)), F1_154, if_pos (own_lt x 8592 8592 rfl (by omega)), F1_170, if_pos (own_lt x 12272 12272 rfl (by omega)), F1_186, if_pos (own_lt x 57344 57344 rfl (by omega)), F1_200, if_pos (own_lt x 64976 64976 rfl (by omega)), F1_214, if_pos (own_lt x 65534 65534 rfl (by omega))]; rfl
  have f3 : F3_0 x = 0 := by rw [F3_0, if_pos (own_lt x 97 97 rfl (by omega)), F3_12, if_pos (own_lt x 65 65 rfl (by omega)), F3_24, if_neg (own_ne x 95 95 rfl (by omega)), if_pos (own_lt x 192 192 rfl (by omega)), F3_44, if_pos (own_lt x 216 216 rfl (by omega)), F3_58, if_pos (own_lt x 248 248 rfl (by omega)), F3_72, if_pos (own_lt x 880 880 rfl (by omega)), F3_86, if_pos (own_lt x 895 895 rfl (by omega)), F3_100, if_neg (own_ne x 8204 8204 rfl (by omega)), if_neg (own_ne x 8205 8205 rfl (by omega)), if_pos (own_lt x 8304 8304 rfl (by omega)), F3_128, if_pos (own_lt x 11264 11264 rfl (by omega)), F3_142, if_pos (own_lt x 12289 12289 rfl (by omega)), F3_155, if_pos (own_lt x 63744 63744 rfl (by omega)), F3_167, if_pos (own_lt x 65008 65008 rfl (by omega)), F3_183]; rfl
  have f2 : F2_0 x = 1 := by rw [F2_0, f3, if_pos rfl, if_neg (own_ne x 45 45 rfl (by omega)), if_neg (own_ne x 46 46 rfl (by omega)), if_neg (own_nl x 48 48 rfl (by omega)), if_neg (own_ng x 57 57 rfl (by omega)), F2_66]; rfl
  exact ⟨f1, f2⟩
theorem own_iv8 (x : Int32) (h1 : 58 ≤ x.toInt) (h2 : x.toInt ≤ 58) : F1_0 x = 1 ∧ F2_0 x = 0 := by
  have f1 : F1_0 x = 1 := by rw [F1_0, if_pos (own_gt x 44 44 rfl (by omega)), if_neg (own_ne x 47 47 rfl (by omega)), if_neg (own_nl x 58 58 rfl (by omega)), if_neg (own_ng x 64 64 rfl (by omega))]
  have f3 : F3_0 x = 0 := by rw [F3_0, if_pos (own_lt x 97 97 rfl (by omega)), F3_12, if_pos (own_lt x 65 65 rfl (by omega)), F3_24, if_neg (own_ne x 95 95 rfl (by omega)), if_pos (own_lt x 192 192 rfl (by omega)), F3_44, if_pos (own_lt x 216 216 rfl (by omega)), F3_58, if_pos (own_lt x 248 248 rfl (by omega)), F3_72, if_pos (own_lt x 880 880 rfl (by omega)), F3_86, if_pos (own_lt x 895 895 rfl (by omega)), F3_100, if_neg (own_ne x 8204 8204 rfl (by omega)), if_neg (own_ne x 8205 8205 rfl (by omega)), if_pos (own_lt x 8304 8304 rfl (by omega)), F3_128, if_pos (own_lt x 11264 11264 rfl (by omega)), F3_142, if_pos (own_lt x 12289 12289 rfl (by omega)), F3_155, if_pos (own_lt x 63744 63744 rfl (by omega)), F3_167, if_pos (own_lt x 65008 65008 rfl (by omega)), F3_183]; rfl
  have f2 : F2_0 x = 0 := by rw [F2_0, f3, if_pos rfl, if_neg (own_ne x 45 45 rfl (by omega)), if_neg (own_ne x 46 46 rfl (by omega)), if_neg (own_nl x 48 48 rfl (by omega)), if_pos (own_gt x 57 57 rfl (by omega)), F2_31, if_neg (own_ne x 183 183 rfl (by omega)), if_pos (own_lt x 768 768 rfl (by omega)), F2_52, if_neg (own_ne x 8255 8255 rfl (by omega)), if_neg (own_ne x 8256 8256 rfl (by omega))]; rfl
  exact ⟨f1, f2⟩
theorem own_iv9 (x : Int32) (h1 : 59 ≤ x.toInt) (h2 : x.toInt ≤ 63) : F1_0 x = 1 ∧ F2_0 x = 0 := by
  have f1 : F1_0 x = 1 := by rw [F1_0, if_pos (own_gt x 44 44 rfl (by omega)), if_neg (own_ne x 47 47 rfl (by omega)), if_neg (own_nl x 58 58 rfl (by omega)), if_neg (own_ng x 64 64 rfl (by omega))]
  have f3 : F3_0 x = 0 := by rw [F3_0, if_pos (own_lt x 97 97 rfl (by omega)), F3_12, if_pos (own_lt x 65 65 rfl (by omega)), F3_24, if_neg (own_ne x 95 95 rfl (by omega)), if_pos (own_lt x 192 192 rfl (by omega)), F3_44, if_pos (own_lt x 216 216 rfl (by omega)), F3_58, if_pos (own_lt x 248 248 rfl (by omega)), F3_72, if_pos (own_lt x 880 880 rfl (by omega)), F3_86, if_pos (own_lt x 895 895 rfl (by omega)), F3_100, if_neg (own_ne x 8204 8204 rfl (by omega)), if_neg (own_ne x 8205 8205 rfl (by omega)), if_pos (own_lt x 8304 8304 rfl (by omega)), F3_128, if_pos (own_lt x 11264 11264 rfl (by omega)), F3_142, if_pos (own_lt x 12289 12289 rfl (by omega)), F3_155, if_pos (own_lt x 63744 63744 rfl (by omega)), F3_167, if_pos (own_lt x 65008 65008 rfl (by omega)), F3_183]; rfl
  have f2 : F2_0 x = 0 := by rw [F2_0, f3, if_pos rfl, if_neg (own_ne x 45 45 rfl (by omega)), if_neg (own_ne x 46 46 rfl (by omega)), if_neg (own_nl x 48 48 rfl (by omega)), if_pos (own_gt x 57 57 rfl (by omega)), F2_31, if_neg (own_ne x 183 183 rfl (by omega)), if_pos (own_lt x 768 768 rfl (by omega)), F2_52, if_neg (own_ne x 8255 8255 rfl (by omega)), if_neg (own_ne x 8256 8256 rfl (by omega))]; rfl
  exact ⟨f1, f2⟩
theorem own_iv10 (x : Int32) (h1 : 64 ≤ x.toInt) (h2 : x.toInt ≤ 64) : F1_0 x = 1 ∧ F2_0 x = 0 := by
  have f1 : F1_0 x = 1 := by rw [F1_0, if_pos (own_gt x 44 44 rfl (by omega)), if_neg (own_ne x 47 47 rfl (by omega)), if_neg (own_nl x 58 58 rfl (by omega)), if_neg (own_ng x 64 64 rfl (by omega))]
  have f3 : F3_0 x = 0 := by rw [F3_0, if_pos (own_lt x 97 97 rfl (by omega)), F3_12, if_pos (own_lt x 65 65 rfl (by omega)), F3_24, if_neg (own_ne x 95 95 rfl (by omega)), if_pos (own_lt x 192 192 rfl (by omega)), F3_44, if_pos (own_lt x 216 216 rfl (by omega)), F3_58, if_pos (own_lt x 248 248 rfl (by omega)), F3_72, if_pos (own_lt x 880 880 rfl (by omega)), F3_86, if_pos (own_lt x 895 895 rfl (by omega)), F3_100, if_neg (own_ne x 8204 8204 rfl (by omega)), if_neg (own_ne x 8205 8205 rfl (by omega)), if_pos (own_lt x 8304 8304 rfl (by omega)), F3_128, if_pos (own_lt x 11264 11264 rfl (by omega)), F3_142, if_pos (own_lt x 12289 12289 rfl (by omega)), F3_155, if_pos (own_lt x 63744 63744 rfl (by omega)), F3_167, if_pos (own_lt x 65008 65008 rfl (by omega)), F3_183]; rfl
  have f2 : F2_0 x = 0 := by rw [F2_0, f3, if_pos rfl, if_neg (own_ne x 45 45 rfl (by omega)), if_neg (own_ne x 46 46 rfl (by omega)), if_neg (own_nl x 48 48 rfl (by omega)), if_pos (own_gt x 57 57 rfl (by omega)), F2_31, if_neg (own_ne x 183 183 rfl (by omega)), if_pos (own_lt x 768 768 rfl (by omega)), F2_52, if_neg (own_ne x 8255 8255 rfl (by omega)), if_neg (own_ne x 8256 8256 rfl (by omega))]; rfl
  exact ⟨f1, f2⟩
theorem own_iv11 (x : Int32) (h1 : 65 ≤ x.toInt) (h2 : x.toInt ≤ 65) : F1_0 x = 0 ∧ F2_0 x = 1 := by
  have f1 : F1_0 x = 0 := by rw [F1_0, if_pos (own_gt x 44 44 rfl (by omega)), if_neg (own_ne x 47 47 rfl (by omega)), if_neg (own_nl x 58 58 rfl (by omega)), if_pos (own_gt x 64 64 rfl (by omega)), F1_30, if_pos (own_lt x 91 91 rfl (by omega)), F1_44, if_neg (own_ne x 96 96 rfl (by omega)), if_pos (own_lt x 123 123 rfl (by omega)), F1_67, if_pos (own_lt x 184 184 rfl (by omega)), F1_83, if_neg (own_ne x 215 215 rfl (by omega)), if_neg (own_ne x 247 247 rfl (by omega)), if_neg (own_ne x 894 894 rfl (by omega)), if_pos (own_lt x 8192 8192 rfl (by omega)), F1_122, if_pos (own_lt x 8206 8206 rfl (by omega)), F1_138, if_pos (own_lt x 8257 8257 rfl (by omega)), F1_154, if_pos (own_lt x 8592 8592 rfl (by omega)), F1_170, if_pos (own_lt x 12272 12272 rfl (by omega)), F1_186, if_pos (own_lt x 57344 57344 rfl (by omega)), F1_200, if_pos (own_lt x 64976 64976 rfl (by omega)), F1_214, if_pos (own_lt x 65534 65534 rfl (by omega))]; rfl
  have f3 : F3_0 x = 1 := by rw [F3_0, if_pos (own_lt x 97 97 rfl (by omega)), F3_12, if_neg (own_nl x 65 65 rfl (by omega)), if_neg (own_ng x 90 90 rfl (by omega)), F3_179]; rfl
  have f2 : F2_0 x = 1 := by rw [F2_0, f3, if_neg (by decide), F2_66]; rfl
  exact ⟨f1, f2⟩
theorem own_iv12 (x : Int32) (h1 : 66 ≤ x.toInt) (h2 : x.toInt ≤ 89) : F1_0 x = 0 ∧ F2_0 x = 1 := by
  have f1 : F1_0 x = 0 := by rw [F1_0, if_pos (own_gt x 44 44 rfl (by omega)), if_neg (own_ne x 47 47 rfl (by omega)), if_neg (own_nl x 58 58 rfl (by omega)), if_pos (own_gt x 64 64 rfl (by omega)), F1_30, if_pos (own_lt x 91 91 rfl (by omega)), F1_44, if_neg (own_ne x 96 96 rfl (by omega)), if_pos (own_lt x 123 123 rfl (by omega)), F1_67, if_pos (own_lt x 184 184 rfl (by omega)), F1_83, if_neg (own_ne x 215 215 rfl (by omega)), if_neg (own_ne x 247 247 rfl (by omega)), if_neg (own_ne x 894 894 rfl (by omega)), if_pos (own_lt x 8192 8192 rfl (by omega)), F1_122, if_pos (own_lt x 8206 8206 rfl (by omega)), F1_138, if_pos (own_lt x 8257 8257 rfl (by omega)), F1_154, if_pos (own_lt x 8592 8592 rfl (by omega)), F1_170, if_pos (own_lt x 12272 12272 rfl (by omega)), F1_186, if_pos (own_lt x 57344 57344 rfl (by omega)), F1_200, if_pos (own_lt x 64976 64976 rfl (by omega)), F1_214, if_pos (own_lt x 65534 65534 rfl (by omega))]; rfl
  have f3 : F3_0 x = 1 := by rw [F3_0, if_pos (own_lt x 97 97 rfl (by omega)), F3_12, if_neg (own_nl x 65 65 rfl (by omega)), if_neg (own_ng x 90 90 rfl (by omega)), F3_179]; rfl
  have f2 : F2_0 x = 1 := by rw [F2_0, f3, if_neg (by decide), F2_66]; rfl
  exact ⟨f1, f2⟩
theorem own_iv13 (x : Int32) (h1 : 90 ≤ x.toInt) (h2 : x.toInt ≤ 90) : F1_0 x = 0 ∧ F2_0 x = 1 := by
  have f1 : F1_0 x = 0 := by rw [F1_0, if_pos (own_gt x 44 44 rfl (by omega)), if_neg (own_ne x 47 47 rfl (by omega)), if_neg (own_nl x 58 58 rfl (by omega)), if_pos (own_gt x 64 64 rfl (by omega)), F1_30, if_pos (own_lt x 91 91 rfl (by omega)), F1_44, if_neg (own_ne x 96 96 rfl (by omega)), if_pos (own_lt x 123 123 rfl (by omega)), F1_67, if_pos (own_lt x 184 184 rfl (by omega)), F1_83, if_neg (own_ne x 215 215 rfl (by omega)), if_neg (own_ne x 247 247 rfl (by omega)), if_neg (own_ne x 894 894 rfl (by omega)), if_pos (own_lt x 8192 8192 rfl (by omega)), F1_122, if_pos (own_lt x 8206 8206 rfl (by omega)), F1_138, if_pos (own_lt x 8257 8257 rfl (by omega)), F1_154, if_pos (own_lt x 8592 8592 rfl (by omega)), F1_170, if_pos (own_lt x 12272 12272 rfl (by omega)), F1_186, if_pos (own_lt x 57344 57344 rfl (by omega)), F1_200, if_pos (own_lt x 64976 64976 rfl (by omega)), F1_214, if_pos (own_lt x 65534 65534 rfl (by omega))]; rfl
  have f3 : F3_0 x = 1 := by rw [F3_0, if_pos (own_lt x 97 97 rfl (by omega)), F3_12, if_neg (own_nl x 65 65 rfl (by omega)), if_neg (own_ng x 90 90 rfl (by omega)), F3_179]; rfl
  have f2 : F2_0 x = 1 := by rw [F2_0, f3, if_neg (by decide), F2_66]; rfl
  exact ⟨f1, f2⟩
theorem own_iv14 (x : Int32) (h1 : 91 ≤ x.toInt) (h2 : x.toInt ≤ 91) : F1_0 x = 1 ∧ F2_0 x = 0 := by
  have f1 : F1_0 x = 1 := by rw [F1_0, if_pos (own_gt x 44 44 rfl (by omega)), if_neg (own_ne x 47 47 rfl (by omega)), if_neg (own_nl x 58 58 rfl (by omega)), if_pos (own_gt x 64 64 rfl (by omega)), F1_30, if_neg (own_nl x 91 91 rfl (by omega)), if_neg (own_ng x 94 94 rfl (by omega))]
  have f3 : F3_0 x = 0 := by rw [F3_0, if_pos (own_lt x 97 97 rfl (by omega)), F3_12, if_neg (own_nl x 65 65 rfl (by omega)), if_pos (own_gt x 90 90 rfl (by omega)), F3_24, if_neg (own_ne x 95 95 rfl (by omega)), if_pos (own_lt x 192 192 rfl (by omega)), F3_44, if_pos (own_lt x 216 216 rfl (by omega)), F3_58, if_pos (own_lt x 248 248 rfl (by omega)), F3_72, if_pos (own_lt x 880 880 rfl (by omega)), F3_86, if_pos (own_lt x 895 895 rfl (by omega)), F3_100, if_neg (own_ne x 8204 8204 rfl (by omega)), if_neg (own_ne x 8205 8205 rfl (by omega)), if_pos (own_lt x 8304 8304 rfl (by omega)), F3_128, if_pos (own_lt x 11264 11264 rfl (by omega)), F3_142, if_pos (own_lt x 12289 12289 rfl (by omega)), F3_155, if_pos (own_lt x 63744 63744 rfl (by omega)), F3_167, if_pos (own_lt x 65008 65008 rfl (by omega)), F3_183]; rfl
  have f2 : F2_0 x = 0 := by rw [F2_0, f3, if_pos rfl, if_neg (own_ne x 45 45 rfl (by omega)), if_neg (own_ne x 46 46 rfl (by omega)), if_neg (own_nl x 48 48 rfl (by omega)), if_pos (own_gt x 57 57 rfl (by omega)), F2_31, if_neg (own_ne x 183 183 rfl (by omega)), if_pos (own_lt x 768 768 rfl (by omega)), F2_52, if_neg (own_ne x 8255 8255 rfl (by omega)), if_neg (own_ne x 8256 8256 rfl (by omega))]; rfl
  exact ⟨f1, f2⟩
theorem own_iv15 (x : Int32) (h1 : 92 ≤ x.toInt) (h2 : x.toInt ≤ 93) : F1_0 x = 1 ∧ F2_0 x = 0 := by
  have f1 : F1_0 x = 1 := by rw [F1_0, if_pos (own_gt x 44 44 rfl (by omega)), if_neg (own_ne x 47 47 rfl (by omega)), if_neg (own_nl x 58 58 rfl (by omega)), if_pos (own_gt x 64 64 rfl (by omega)), F1_30, if_neg (own_nl x 91 91 rfl (by omega)), if_neg (own_ng x 94 94 rfl (by omega))]
  have f3 : F3_0 x = 0 := by rw [F3_0, if_pos (own_lt x 97 97 rfl (by omega)), F3_12, if_neg (own_nl x 65 65 rfl (by omega)), if_pos (own_gt x 90 90 rfl (by omega)), F3_24, if_neg (own_ne x 95 95 rfl (by omega)), if_pos (own_lt x 192 192 rfl (by omega)), F3_44, if_pos (own_lt x 216 216 rfl (by omega)), F3_58, if_pos (own_lt x 248 248 rfl (by omega)), F3_72, if_pos (own_lt x 880 880 rfl (by omega)), F3_86, if_pos (own_lt x 895 895 rfl (by omega)), F3_100, if_neg (own_ne x 8204 8204 rfl (by omega)), if_neg (own_ne x 8205 8205 rfl (by omega)), if_pos (own_lt x 8304 8304 rfl (by omega)), F3_128, if_pos (own_lt x 11264 11264 rfl (by omega)), F3_142, if_pos (own_lt x 12289 12289 rfl (by omega)), F3_155, if_pos (own_lt x 63744 63744 rfl (by omega)), F3_167, if_pos (own_lt x 65008 65008 rfl (by omega)), F3_183]; rfl
  have f2 : F2_0 x = 0 := by rw [F2_0, f3, if_pos rfl, if_neg (own_ne x 45 45 rfl (by omega)), if_neg (own_ne x 46 46 rfl (by omega)), if_neg (own_nl x 48 48 rfl (by omega)), if_pos (own_gt x 57 57 rfl (by omega)), F2_31, if_neg (own_ne x 183 183 rfl (by omega)), if_pos (own_lt x 768 768 rfl (by omega)), F2_52, if_neg (own_ne x 8255 8255 rfl (by omega)), if_neg (own_ne x 8256 8256 rfl (by omega))]; rfl
  exact ⟨f1, f2⟩
theorem own_iv16 (x : Int32) (h1 : 94 ≤ x.toInt) (h2 : x.toInt ≤ 94) : F1_0 x = 1 ∧ F2_0 x = 0 := by
  have f1 : F1_0 x = 1 := by rw [F1_0, if_pos (own_gt x 44 44 rfl (by omega)), if_neg (own_ne x 47 47 rfl (by omega)), if_neg (own_nl x 58 58 rfl (by omega)), if_pos (own_gt x 64 64 rfl (by omega)), F1_30, if_neg (own_nl x 91 91 rfl (by omega)), if_neg (own_ng x 94 94 rfl (by omega))]
  have f3 : F3_0 x = 0 := by rw [F3_0, if_pos (own_lt x 97 97 rfl (by omega)), F3_12, if_neg (own_nl x 65 65 rfl (by omega)), if_pos (own_gt x 90 90 rfl (by omega)), F3_24, if_neg (own_ne x 95 95 rfl (by omega)), if_pos (own_lt x 192 192 rfl (by omega)), F3_44, if_pos (own_lt x 216 216 rfl (by omega)), F3_58, if_pos (own_lt x 248 248 rfl (by omega)), F3_72, if_pos (own_lt x 880 880 rfl (by omega)), F3_86, if_pos (own_lt x 895 895 rfl (by omega)), F3_100, if_neg (own_ne x 8204 8204 rfl (by omega)), if_neg (own_ne x 8205 8205 rfl (by omega)), if_pos (own_lt x 8304 8304 rfl (by omega)), F3_128, if_pos (own_lt x 11264 11264 rfl (by omega)), F3_142, if_pos (own_lt x 12289 12289 rfl (by omega)), F3_155, if_pos (own_lt x 63744 63744 rfl (by omega)), F3_167, if_pos (own_lt x 65008 65008 rfl (by omega)), F3_183]; rfl
  have f2 : F2_0 x = 0 := by rw [F2_0, f3, if_pos rfl, if_neg (own_ne x 45 45 rfl (by omega)), if_neg (own_ne x 46 46 rfl (by omega)), if_neg (own_nl x 48 48 rfl (by omega)), if_pos (own_gt x 57 57 rfl (by omega)), F2_31, if_neg (own_ne x 183 183 rfl (by omega)), if_pos (own_lt x 768 768 rfl (by omega)), F2_52, if_neg (own_ne x 8255 8255 rfl (by omega)), if_neg (own_ne x 8256 8256 rfl (by omega))]; rfl
  exact ⟨f1, f2⟩
theorem own_iv17 (x : Int32) (h1 : 95 ≤ x.toInt) (h2 : x.toInt ≤ 95) : F1_0 x = 0 ∧ F2_0 x = 1 := by
  have f1 : F1_0 x = 0 := by rw [F1_0, if_pos (own_gt x 44 44 rfl (by omega)), if_neg (own_ne x 47 47 rfl (by omega)), if_neg (own_nl x 58 58 rfl (by omega)), if_pos (own_gt x 64 64 rfl (by omega)), F1_30, if_neg (own_nl x 91 91 rfl (by omega)), if_pos (own_gt x 94 94 rfl (by omega)), F1_44, if_neg (own_ne x 96 96 rfl (by omega)), if_pos (own_lt x 123 123 rfl (by omega)), F1_67, if_pos (own_lt x 184 184 rfl (by omega)), F1_83, if_neg (own_ne x 215 215 rfl (by omega)), if_neg (own_ne x 247 247 rfl (by omega)), if_neg (own_ne x 894 894 rfl (by omega)), if_pos (own_lt x 8192 8192 rfl (by omega)), F1_122, if_pos (own_lt x 8206 8206 rfl (by omega)), F1_138, if_pos (own_lt x 8257 8257 rfl (by omega)), F1_154, if_pos (own_lt x 8592 8592 rfl (by omega)), F1_170, if_pos (own_lt x 12272 12272 rfl (by omega)), F1_186, if_pos (own_lt x 57344 57344 rfl (by omega)), F1_200, if_pos (own_lt x 64976 64976 rfl (by omega)), F1_214, if_pos (own_lt x 65534 65534 rfl (by omega))]; rfl
  have f3 : F3_0 x = 1 := by rw [F3_0, if_pos (own_lt x 97 97 rfl (by omega)), F3_12, if_neg (own_nl x 65 65 rfl (by omega)), if_pos (own_gt x 90 90 rfl (by omega)), F3_24, if_pos (own_eq x 95 95 rfl (by omega)), F3_179]; rfl
  have f2 : F2_0 x = 1 := by rw [F2_0, f3, if_neg (by decide), F2_66]; rfl
  exact ⟨f1, f2⟩
theorem own_iv18 (x : Int32) (h1 : 96 ≤ x.toInt) (h2 : x.toInt ≤ 96) : F1_0 x = 1 ∧ F2_0 x = 0 := by
  have f1 : F1_0 x = 1 := by rw [F1_0, if_pos (own_gt x 44 44 rfl (by omega)), if_neg (own_ne x 47 47 rfl (by omega)), if_neg (own_nl x 58 58 rfl (by omega)), if_pos (own_gt x 64 64 rfl (by omega)), F1_30, if_neg (own_nl x 91 91 rfl (by omega)), if_pos (own_gt x 94 94 rfl (by omega)), F1_44, if_pos (own_eq x 96 96 rfl (by omega))]
  have f3 : F3_0 x = 0 := by rw [F3_0, if_pos (own_lt x 97 97 rfl (by omega)), F3_12, if_neg (own_nl x 65 65 rfl (by omega)), if_pos (own_gt x 90 90 rfl (by omega)), F3_24, if_neg (own_ne x 95 95 rfl (by omega)), if_pos (own_lt x 192 192 rfl (by omega)), F3_44, if_pos (own_lt x 216 216 rfl (by omega)), F3_58, if_pos (own_lt x 248 248 rfl (by omega)), F3_72, if_pos (own_lt x 880 880 rfl (by omega)), F3_86, if_pos (own_lt x 895 895 rfl (by omega)), F3_100, if_neg (own_ne x 8204 8204 rfl (by omega)), if_neg (own_ne x 8205 8205 rfl (by omega)), if_pos (own_lt x 8304 8304 rfl (by omega)), F3_128, if_pos (own_lt x 11264 11264 rfl (by omega)), F3_142, if_pos (own_lt x 12289 12289 rfl (by omega)), F3_155, if_pos (own_lt x 63744 63744 rfl (by omega)), F3_167, if_pos (own_lt x 65008 65008 rfl (by omega)), F3_183]; rfl
  have f2 : F2_0 x = 0 := by rw [F2_0, f3, if_pos rfl, if_neg (own_ne x 45 45 rfl (by omega)), if_neg (own_ne x 46 46 rfl (by omega)), if_neg (own_nl x 48 48 rfl (by omega)), if_pos (own_gt x 57 57 rfl (by omega)), F2_31, if_neg (own_ne x 183 183 rfl (by omega)), if_pos (own_lt x 768 768 rfl (by omega)), F2_52, if_neg (own_ne x 8255 8255 rfl (by omega)), if_neg (own_ne x 8256 8256 rfl (by omega))]; rfl
  exact ⟨f1, f2⟩
theorem own_iv19 (x : Int32) (h1 : 97 ≤ x.toInt) (h2 : x.toInt ≤ 97) : F1_0 x = 0 ∧ F2_0 x = 1 := by
  have f1 : F1_0 x = 0 := by rw [F1_0, if_pos (own_gt x 44 44 rfl (by omega)), if_neg (own_ne x 47 47 rfl (by omega)), if_neg (own_nl x 58 58 rfl (by omega)), if_pos (own_gt x 64 64 rfl (by omega)), F1_30, if_neg (own_nl x 91 91 rfl (by omega)), if_pos (own_gt x 94 94 rfl (by omega)), F1_44, if_neg (own_ne x 96 96 rfl (by omega)), if_pos (own_lt x 123 123 rfl (by omega)), F1_67, if_pos (own_lt x 184 184 rfl (by omega)), F1_83, if_neg (own_ne x 215 215 rfl (by omega)), if_neg (own_ne x 247 247 rfl (by omega)), if_neg (own_ne x 894 894 rfl (by omega)), if_pos (own_lt x 8192 8192 rfl (by omega)), F1_122, if_pos (own_lt x 8206 8206 rfl (by omega)), F1_138, if_pos (own_lt x 8257 8257 rfl (by omega)), F1_154, if_pos (own_lt x 8592 8592 rfl (by omega)), F1_170, if_pos (own_lt x 12272 12272 rfl (by omega)), F1_186, if_pos (own_lt x 57344 57344 rfl (by omega)), F1_200, if_pos (own_lt x 64976 64976 rfl (by omega)), F1_214, if_pos (own_lt x 65534 65534 rfl (by omega))]; rfl
  have f3 : F3_0 x = 1 := by rw [F3_0, if_neg (own_nl x 97 97 rfl (by omega)), if_neg (own_ng x 122 122 rfl (by omega)), F3_179]; rfl
  have f2 : F2_0 x = 1 := by rw [F2_0, f3, if_neg (by decide), F2_66]; rfl
  exact ⟨f1, f2⟩
theorem own_iv20 (x : Int32) (h1 : 98 ≤ x.toInt) (h2 : x.toInt ≤ 121) : F1_0 x = 0 ∧ F2_0 x = 1 := by
  have f1 : F1_0 x = 0 := by rw [F1_0, if_pos (own_gt x 44 44 rfl (by omega)), if_neg (own_ne x 47 47 rfl (by omega)), if_neg (own_nl x 58 58 rfl (by omega)), if_pos (own_gt x 64 64 rfl (by omega)), F1_30, if_neg (own_nl x 91 91 rfl (by omega)), if_pos (own_gt x 94 94 rfl (by omega)), F1_44, if_neg (own_ne x 96 96 rfl (by omega)), if_pos (own_lt x 123 123 rfl (by omega)), F1_67, if_pos (own_lt x 184 184 rfl (by omega)), F1_83, if_neg (own_ne x 215 215 rfl (by omega)), if_neg (own_ne x 247 247 rfl (by omega)), if_neg (own_ne x 894 894 rfl (by omega)), if_pos (own_lt x 8192 8192 rfl (by omega)), F1_122, if_pos (own_lt x 8206 8206 rfl (by omega)), F1_138, if_pos (own_lt x 8257 8257 rfl (by omega)), F1_154, if_pos (own_lt x 8592 8592 rfl (by omega)), F1_170, if_pos (own_lt x 12272 12272 rfl (by omega)), F1_186, if_pos (own_lt x 57344 57344 rfl (by omega)), F1_200, if_pos (own_lt x 64976 64976 rfl (by omega)), F1_214, if_pos (own_lt x 65534 65534 rfl (by omega))]; rfl
  have f3 : F3_0 x = 1 := by rw [F3_0, if_neg (own_nl x 97 97 rfl (by omega)), if_neg (own_ng x 122 122 rfl (by omega)), F3_179]; rfl
  have f2 : F2_0 x = 1 := by rw [F2_0, f3, if_neg (by decide), F2_66]; rfl
  exact ⟨f1, f2⟩
theorem own_iv21 (x : Int32) (h1 : 122 ≤ x.toInt) (h2 : x.toInt ≤ 122) : F1_0 x = 0 ∧ F2_0 x = 1 := by
  have f1 : F1_0 x = 0 := by rw [F1_0, if_pos (own_gt x 44 44 rfl (by omega)), if_neg (own_ne x 47 47 rfl (by omega)), if_neg (own_nl x 58 58 rfl (by omega)), if_pos (own_gt x 64 64 rfl (by omega)), F1_30, if_neg (own_nl x 91 91 rfl (by omega)), if_pos (own_gt x 94 94 rfl (by omega)), F1_44, if_neg (own_ne x 96 96 rfl (by omega)), if_pos (own_lt x 123 123 rfl (by omega)), F1_67, if_pos (own_lt x 184 184 rfl (by omega)), F1_83, if_neg (own_ne x 215 215 rfl (by omega)), if_neg (own_ne x 247 247 rfl (by omega)), if_neg (own_ne x 894 894 rfl (by omega)), if_pos (own_lt x 8192 8192 rfl (by omega)), F1_122, if_pos (own_lt x 8206 8206 rfl (by omega)), F1_138, if_pos (own_lt x 8257 8257 rfl (by omega)), F1_154, if_pos (own_lt x 8592 8592 rfl (by omega)), F1_170, if_pos (own_lt x 12272 12272 rfl (by omega)), F1_186, if_pos (own_lt x 57344 57344 rfl (by omega)), F1_200, if_pos (own_lt x 64976 64976 rfl (by omega)), F1_214, if_pos (own_lt x 65534 65534 rfl (by omega))]; rfl
  have f3 : F3_0 x = 1 := by rw [F3_0, if_neg (own_nl x 97 97 rfl (by omega)), if_neg (own_ng x 122 122 rfl (by omega)), F3_179]; rfl
  have f2 : F2_0 x = 1 := by rw [F2_0, f3, if_neg (by decide), F2_66]; rfl
  exact ⟨f1, f2⟩
theorem own_iv22 (x : Int32) (h1 : 123 ≤ x.toInt) (h2 : x.toInt ≤ 123) : F1_0 x = 1 ∧ F2_0 x = 0 := by
  have f1 : F1_0 x = 1 := by rw [F1_0, if_pos (own_gt x 44 44 rfl (by omega)), if_neg (own_ne x 47 47 rfl (by omega)), if_neg (own_nl x 58 58 rfl (by omega)), if_pos (own_gt x 64 64 rfl (by omega)), F1_30, if_neg (own_nl x 91 91 rfl (by omega)), if_pos (own_gt x 94 94 rfl (by omega)), F1_44, if_neg (own_ne x 96 96 rfl (by omega)), if_neg (own_nl x 123 123 rfl (by omega)), if_neg (own_ng x 182 182 rfl (by omega))]
  have f3 : F3_0 x = 0 := by rw [F3_0, if_neg (own_nl x 97 97 rfl (by omega)), if_pos (own_gt x 122 122 rfl (by omega)), F3_12, if_neg (own_nl x 65 65 rfl (by omega)), if_pos (own_gt x 90 90 rfl (by omega)), F3_24, if_neg (own_ne x 95 95 rfl (by omega)), if_pos (own_lt x 192 192 rfl (by omega)), F3_44, if_pos (own_lt x 216 216 rfl (by omega)), F3_58, if_pos (own_lt x 248 248 rfl (by omega)), F3_72, if_pos (own_lt x 880 880 rfl (by omega)), F3_86, if_pos (own_lt x 895 895 rfl (by omega)), F3_100, if_neg (own_ne x 8204 8204 rfl (by omega)), if_neg (own_ne x 8205 8205 rfl (by omega)), if_pos (own_lt x 8304 8304 rfl (by omega)), F3_128, if_pos (own_lt x 11264 11264 rfl (by omega)), F3_142, if_pos (own_lt x 12289 12289 rfl (by omega)), F3_155, if_pos (own_lt x 63744 63744 rfl (by omega)), F3_167, if_pos (own_lt x 65008 65008 rfl (by omega)), F3_183]; rfl
  have f2 : F2_0 x = 0 := by rw [F2_0, f3, if_pos rfl, if_neg (own_ne x 45 45 rfl (by omega)), if_neg (own_ne x 46 46 rfl (by omega)), if_neg (own_nl x 48 48 rfl (by omega)), if_pos (own_gt x 57 57 rfl (by omega)), F2_31, if_neg (own_ne x 183 183 rfl (by omega)), if_pos (own_lt x 768 768 rfl (by omega)), F2_52, if_neg (own_ne x 8255 8255 rfl (by omega)), if_neg (own_ne x 8256 8256 rfl (by omega))]; rfl
  exact ⟨f1, f2⟩
theorem own_iv23 (x : Int32) (h1 : 124 ≤ x.toInt) (h2 : x.toInt ≤ 181) : F1_0 x = 1 ∧ F2_0 x = 0 := by
  have f1 : F1_0 x = 1 := by rw [F1_0, if_pos (own_gt x 44 44 rfl (by omega)), if_neg (own_ne x 47 47 rfl (by omega)), if_neg (own_nl x 58 58 rfl (by omega)), if_pos (own_gt x 64 64 rfl (by omega)), F1_30, if_neg (own_nl x 91 91 rfl (by omega)), if_pos (own_gt x 94 94 rfl (by omega)), F1_44, if_neg (own_ne x 96 96 rfl (by omega)), if_neg (own_nl x 123 123 rfl (by omega)), if_neg (own_ng x 182 182 rfl (by omega))]
  have f3 : F3_0 x = 0 := by rw [F3_0, if_neg (own_nl x 97 97 rfl (by omega)), if_pos (own_gt x 122 122 rfl (by omega)), F3_12, if_neg (own_nl x 65 65 rfl (by omega)), if_pos (own_gt x 90 90 rfl (by omega)), F3_24, if_neg (own_ne x 95 95 rfl (by omega)), if_pos (own_lt x 192 192 rfl (by omega)), F3_44, if_pos (own_lt x 216 216 rfl (by omega)), F3_58, if_pos (own_lt x 248 248 rfl (by omega)), F3_72, if_pos (own_lt x 880 880 rfl (by omega)), F3_86, if_pos (own_lt x 895 895 rfl (by omega)), F3_100, if_neg (own_ne x 8204 8204 rfl (by omega)), if_neg (own_ne x 8205 8205 rfl (by omega)), if_pos (own_lt x 8304 8304 rfl (by omega)), F3_128, if_pos (own_lt x 11264 11264 rfl (by omega)), F3_142, if_pos (own_lt x 12289 12289 rfl (by omega)), F3_155, if_pos (own_lt x 63744 63744 rfl (by omega)), F3_167, if_pos (own_lt x 65008 65008 rfl (by omega)), F3_183]; rfl
  have f2 : F2_0 x = 0 := by rw [F2_0, f3, if_pos rfl, if_neg (own_ne x 45 45 rfl (by omega)), if_neg (own_ne x 46 46 rfl (by omega)), if_neg (own_nl x 48 48 rfl (by omega)), if_pos (own_gt x 57 57 rfl (by omega)), F2_31, if_neg (own_ne x 183 183 rfl (by omega)), if_pos (own_lt x 768 768 rfl (by omega)), F2_52, if_neg (own_ne x 8255 8255 rfl (by omega)), if_neg (own_ne x 8256 8256 rfl (by omega))]; rfl
  exact ⟨f1, f2⟩
theorem own_iv24 (x : Int32) (h1 : 182 ≤ x.toInt) (h2 : x.toInt ≤ 182) : F1_0 x = 1 ∧ F2_0 x = 0 := by
  have f1 : F1_0 x = 1 := by rw [F1_0, if_pos (own_gt x 44 44 rfl (by omega)), if_neg (own_ne x 47 47 rfl (by omega)), if_neg (own_nl x 58 58 rfl (by omega)), if_pos (own_gt x 64 64 rfl (by omega)), F1_30, if_neg (own_nl x 91 91 rfl (by omega)), if_pos (own_gt x 94 94 rfl (by omega)), F1_44, if_neg (own_ne x 96 96 rfl (by omega)), if_neg (own_nl x 123 123 rfl (by omega)), if_neg (own_ng x 182 182 rfl (by omega))]
  have f3 : F3_0 x = 0 := by rw [F3_0, if_neg (own_nl x 97 97 rfl (by omega)), if_pos (own_gt x 122 122 rfl (by omega)), F3_12, if_neg (own_nl x 65 65 rfl (by omega)), if_pos (own_gt x 90 90 rfl (by omega)), F3_24, if_neg (own_ne x 95 95 rfl (by omega)), if_pos (own_lt x 192 192 rfl (by omega)), F3_44, if_pos (own_lt x 216 216 rfl (by omega)), F3_58, if_pos (own_lt x 248 248 rfl (by omega)), F3_72, if_pos (own_lt x 880 880 rfl (by omega)), F3_86, if_pos (own_lt x 895 895 rfl (by omega)), F3_100, if_neg (own_ne x 8204 8204 rfl (by omega)), if_neg (own_ne x 8205 8205 rfl (by omega)), if_pos (own_lt x 8304 8304 rfl (by omega)), F3_128, if_pos (own_lt x 11264 11264 rfl (by omega)), F3_142, if_pos (own_lt x 12289 12289 rfl (by omega)), F3_155, if_pos (own_lt x 63744 63744 rfl (by omega)), F3_167, if_pos (own_lt x 65008 65008 rfl (by omega)), F3_183]; rfl
  have f2 : F2_0 x = 0 := by rw [F2_0, f3, if_pos rfl, if_neg (own_ne x 45 45 rfl (by omega)), if_neg (own_ne x 46 46 rfl (by omega)), if_neg (own_nl x 48 48 rfl (by omega)), if_pos (own_gt x 57 57 rfl (by omega)), F2_31, if_neg (own_ne x 183 183 rfl (by omega)), if_pos (own_lt x 768 768 rfl (by omega)), F2_52, if_neg (own_ne x 8255 8255 rfl (by omega)), if_neg (own_ne x 8256 8256 rfl (by omega))]; rfl
  exact ⟨f1, f2⟩
theorem own_iv25 (x : Int32) (h1 : 183 ≤ x.toInt) (h2 : x.toInt ≤ 183) : F1_0 x = 0 ∧ F2_0 x = 1 := by
  have f1 : F1_0 x = 0 := by rw [F1_0, if_pos (own_gt x 44 44 rfl (by omega)), if_neg (own_ne x 47 47 rfl (by omega)), if_neg (own_nl x 58 58 rfl (by omega)), if_pos (own_gt x 64 64 rfl (by omega)), F1_30, if_neg (own_nl x 91 91 rfl (by omega)), if_pos (own_gt x 94 94 rfl (by omega)), F1_44, if_neg (own_ne x 96 96 rfl (by omega)), if_neg (own_nl x 123 123 rfl (by omega)), if_pos (own_gt x 182 182 rfl (by omega)), F1_67, if_pos (own_lt x 184 184 rfl (by omega)), F1_83, if_neg (own_ne x 215 215 rfl (by omega)), if_neg (own_ne x 247 247 rfl (by omega)), if_neg (own_ne x 894 894 rfl (by omega)), if_pos (own_lt x 8192 8192 rfl (by omega)), F1_122, if_pos (own_lt x 8206 8206 rfl (by omega)), F1_138, if_pos (own_lt x 8257 8257 rfl (by omega)), F1_154, if_pos (own_lt x 8592 8592 rfl (by omega)), F1_170, if_pos (own_lt x 12272 12272 rfl (by omega)), F1_186, if_pos (own_lt x 57344 57344 rfl (by omega)), F1_200, if_pos (own_lt x 64976 64976 rfl (by omega)), F1_214, if_pos (own_lt x 65534 65534 rfl (by omega))]; rfl
  have f3 : F3_0 x = 0 := by rw [F3_0, if_neg (own_nl x 97 97 rfl (by omega)), if_pos (own_gt x 122 122 rfl (by omega)), F3_12, if_neg (own_nl x 65 65 rfl (by omega)), if_pos (own_gt x 90 90 rfl (by omega)), F3_24, if_neg (own_ne x 95 95 rfl (by omega)), if_pos (own_lt x 192 192 rfl (by omega)), F3_44, if_pos (own_lt x 216 216 rfl (by omega)), F3_58, if_pos (own_lt x 248 248 rfl (by omega)), F3_72, if_pos (own_lt x 880 880 rfl (by omega)), F3_86, if_pos (own_lt x 895 895 rfl (by omega)), F3_100, if_neg (own_ne x 8204 8204 rfl (by omega)), if_neg (own_ne x 8205 8205 rfl (by omega)), if_pos (own_lt x 8304 8304 rfl (by omega)), F3_128, if_pos (own_lt x 11264 11264 rfl (by omega)), F3_142, if_pos (own_lt x 12289 12289 rfl (by omega)), F3_155, if_pos (own_lt x 63744 63744 rfl (by omega)), F3_167, if_pos (own_lt x 65008 65008 rfl (by omega)), F3_183]; rfl
  have f2 : F2_0 x = 1 := by rw [F2_0, f3, if_pos rfl, if_neg (own_ne x 45 45 rfl (by omega)), if_neg (own_ne x 46 46 rfl (by omega)), if_neg (own_nl x 48 48 rfl (by omega)), if_pos (own_gt x 57 57 rfl (by omega)), F2_31, if_pos (own_eq x 183 183 rfl (by omega)), F2_66]; rfl
  exact ⟨f1, f2⟩
theorem own_iv26 (x : Int32) (h1 : 184 ≤ x.toInt) (h2 : x.toInt ≤ 184) : F1_0 x = 1 ∧ F2_0 x = 0 := by
  have f1 : F1_0 x = 1 := by rw [F1_0, if_pos (own_gt x 44 44 rfl (by omega)), if_neg (own_ne x 47 47 rfl (by omega)), if_neg (own_nl x 58 58 rfl (by omega)), if_pos (own_gt x 64 64 rfl (by omega)), F1_30, if_neg (own_nl x 91 91 rfl (by omega)), if_pos (own_gt x 94 94 rfl (by omega)), F1_44, if_neg (own_ne x 96 96 rfl (by omega)), if_neg (own_nl x 123 123 rfl (by omega)), if_pos (own_gt x 182 182 rfl (by omega)), F1_67, if_neg (own_nl x 184 184 rfl (by omega)), if_neg (own_ng x 191 191 rfl (by omega))]
  have f3 : F3_0 x = 0 := by rw [F3_0, if_neg (own_nl x 97 97 rfl (by omega)), if_pos (own_gt x 122 122 rfl (by omega)), F3_12, if_neg (own_nl x 65 65 rfl (by omega)), if_pos (own_gt x 90 90 rfl (by omega)), F3_24, if_neg (own_ne x 95 95 rfl (by omega)), if_pos (own_lt x 192 192 rfl (by omega)), F3_44, if_pos (own_lt x 216 216 rfl (by omega)), F3_58, if_pos (own_lt x 248 248 rfl (by omega)), F3_72, if_pos (own_lt x 880 880 rfl (by omega)), F3_86, if_pos (own_lt x 895 895 rfl (by omega)), F3_100, if_neg (own_ne x 8204 8204 rfl (by omega)), if_neg (own_ne x 8205 8205 rfl (by omega)), if_pos (own_lt x 8304 8304 rfl (by omega)), F3_128, if_pos (own_lt x 11264 11264 rfl (by omega)), F3_142, if_pos (own_lt x 12289 12289 rfl (by omega)), F3_155, if_pos (own_lt x 63744 63744 rfl (by omega)), F3_167, if_pos (own_lt x 65008 65008 rfl (by omega)), F3_183]; rfl
  have f2 : F2_0 x = 0 := by rw [F2_0, f3, if_pos rfl, if_neg (own_ne x 45 45 rfl (by omega)), if_neg (own_ne x 46 46 rfl (by omega)), if_neg (own_nl x 48 48 rfl (by omega)), if_pos (own_gt x 57 57 rfl (by omega)), F2_31, if_neg (own_ne x 183 183 rfl (by omega)), if_pos (own_lt x 768 768 rfl (by omega)), F2_52, if_neg (own_ne x 8255 8255 rfl (by omega)), if_neg (own_ne x 8256 8256 rfl (by omega))]; rfl
  exact ⟨f1, f2⟩
theorem own_iv27 (x : Int32) (h1 : 185 ≤ x.toInt) (h2 : x.toInt ≤ 190) : F1_0 x = 1 ∧ F2_0 x = 0 := by
  have f1 : F1_0 x = 1 := by rw [F1_0, if_pos (own_gt x 44 44 rfl (by omega)), if_neg (own_ne x 47 47 rfl (by omega)), if_neg (own_nl x 58 58 rfl (by omega)), if_pos (own_gt x 64 64 rfl (by omega)), F1_30, if_neg (own_nl x 91 91 rfl (by omega)), if_pos (own_gt x 94 94 rfl (by omega)), F1_44, if_neg (own_ne x 96 96 rfl (by omega)), if_neg (own_nl x 123 123 rfl (by omega)), if_pos (own_gt x 182 182 rfl (by omega)), F1_67, if_neg (own_nl x 184 184 rfl (by omega)), if_neg (own_ng x 191 191 rfl (by omega))]
  have f3 : F3_0 x = 0 := by rw [F3_0, if_neg (own_nl x 97 97 rfl (by omega)), if_pos (own_gt x 122 122 rfl (by omega)), F3_12, if_neg (own_nl x 65 65 rfl (by omega)), if_pos (own_gt x 90 90 rfl (by omega)), F3_24, if_neg (own_ne x 95 95 rfl (by omega)), if_pos (own_lt x 192 192 rfl (by omega)), F3_44, if_pos (own_lt x 216 216 rfl (by omega)), F3_58, if_pos (own_lt x 248 248 rfl (by omega)), F3_72, if_pos (own_lt x 880 880 rfl (by omega)), F3_86, if_pos (own_lt x 895 895 rfl (by omega)), F3_100, if_neg (own_ne x 8204 8204 rfl (by omega)), if_neg (own_ne x 8205 8205 rfl (by omega)), if_pos (own_lt x 8304 8304 rfl (by omega)), F3_128, if_pos (own_lt x 11264 11264 rfl (by omega)), F3_142, if_pos (own_lt x 12289 12289 rfl (by omega)), F3_155, if_pos (own_lt x 63744 63744 rfl (by omega)), F3_167, if_pos (own_lt x 65008 65008 rfl (by omega)), F3_183]; rfl
  have f2 : F2_0 x = 0 := by rw [F2_0, f3, if_pos rfl, if_neg (own_ne x 45 45 rfl (by omega)), if_neg (own_ne x 46 46 rfl (by omega)), if_neg (own_nl x 48 48 rfl (by omega)), if_pos (own_gt x 57 57 rfl (by omega)), F2_31, if_neg (own_ne x 183 183 rfl (by omega)), if_pos (own_lt x 768 768 rfl (by omega)), F2_52, if_neg (own_ne x 8255 8255 rfl (by omega)), if_neg (own_ne x 8256 8256 rfl (by omega))]; rfl
  exact ⟨f1, f2⟩
theorem own_iv28 (x : Int32) (h1 : 191 ≤ x.toInt) (h2 : x.toInt ≤ 191) : F1_0 x = 1 ∧ F2_0 x = 0 := by
  have f1 : F1_0 x = 1 := by rw [F1_0, if_pos (own_gt x 44 44 rfl (by omega)), if_neg (own_ne x 47 47 rfl (by omega)), if_neg (own_nl x 58 58 rfl (by omega)), if_pos (own_gt x 64 64 rfl (by omega)), F1_30, if_neg (own_nl x 91 91 rfl (by omega)), if_pos (own_gt x 94 94 rfl (by omega)), F1_44, if_neg (own_ne x 96 96 rfl (by omega)), if_neg (own_nl x 123 123 rfl (by omega)), if_pos (own_gt x 182 182 rfl (by omega)), F1_67, if_neg (own_nl x 184 184 rfl (by omega)), if_neg (own_ng x 191 191 rfl (by omega))]
  have f3 : F3_0 x = 0 := by rw [F3_0, if_neg (own_nl x 97 97 rfl (by omega)), if_pos (own_gt x 122 122 rfl (by omega)), F3_12, if_neg (own_nl x 65 65 rfl (by omega)), if_pos (own_gt x 90 90 rfl (by omega)), F3_24, if_neg (own_ne x 95 95 rfl (by omega)), if_pos (own_lt x 192 192 rfl (by omega)), F3_44, if_pos (own_lt x 216 216 rfl (by omega)), F3_58, if_pos (own_lt x 248 248 rfl (by omega)), F3_72, if_pos (own_lt x 880 880 rfl (by omega)), F3_86, if_pos (own_lt x 895 895 rfl (by omega)), F3_100, if_neg (own_ne x 8204 8204 rfl (by omega)), if_neg (own_ne x 8205 8205 rfl (by omega)), if_pos (own_lt x 8304 8304 rfl (by omega)), F3_128, if_pos (own_lt x 11264 11264 rfl (by omega)), F3_142, if_pos (own_lt x 12289 12289 rfl (by omega)), F3_155, if_pos (own_lt x 63744 63744 rfl (by omega)), F3_167, if_pos (own_lt x 65008 65008 rfl (by omega)), F3_183]; rfl
  have f2 : F2_0 x = 0 := by rw [F2_0, f3, if_pos rfl, if_neg (own_ne x 45 45 rfl (by omega)), if_neg (own_ne x 46 46 rfl (by omega)), if_neg (own_nl x 48 48 rfl (by omega)), if_pos (own_gt x 57 57 rfl (by omega)), F2_31, if_neg (own_ne x 183 183 rfl (by omega)), if_pos (own_lt x 768 768 rfl (by omega)), F2_52, if_neg (own_ne x 8255 8255 rfl (by omega)), if_neg (own_ne x 8256 8256 rfl (by omega))]; rfl
  exact ⟨f1, f2⟩
theorem own_iv29 (x : Int32) (h1 : 192 ≤ x.toInt) (h2 : x.toInt ≤ 192) : F1_0 x = 0 ∧ F2_0 x = 1 := by
  have f1 : F1_0 x = 0 := by rw [F1_0, if_pos (own_gt x 44 44 rfl (by omega)), if_neg (own_ne x 47 47 rfl (by omega)), if_neg (own_nl x 58 58 rfl (by omega)), if_pos (own_gt x 64 64 rfl (by omega)), F1_30, if_neg (own_nl x 91 91 rfl (by omega)), if_pos (own_gt x 94 94 rfl (by omega)), F1_44, if_neg (own_ne x 96 96 rfl (by omega)), if_neg (own_nl x 123 123 rfl (by omega)), if_pos (own_gt x 182 182 rfl (by omega)), F1_67, if_neg (own_nl x 184 184 rfl (by omega)), if_pos (own_gt x 191 191 rfl (by omega)), F1_83, if_neg (own_ne x 215 215 rfl (by omega)), if_neg (own_ne x 247 247 rfl (by omega)), if_neg (own_ne x 894 894 rfl (by omega)), if_pos (own_lt x 8192 8192 rfl (by omega)), F1_122, if_pos (own_lt x 8206 8206 rfl (by omega)), F1_138, if_pos (own_lt x 8257 8257 rfl (by omega)), F1_154, if_pos (own_lt x 8592 8592 rfl (by omega)), F1_170, if_pos (own_lt x 12272 12272 rfl (by omega)), F1_186, if_pos (own_lt x 57344 57344 rfl (by omega)), F1_200, if_pos (own_lt x 64976 64976 rfl (by omega)), F1_214, if_pos (own_lt x 65534 65534 rfl (by omega))]; rfl
  have f3 : F3_0 x = 1 := by rw [F3_0, if_neg (own_nl x 97 97 rfl (by omega)), if_pos (own_gt x 122 122 rfl (by omega)), F3_12, if_neg (own_nl x 65 65 rfl (by omega)), if_pos (own_gt x 90 90 rfl (by omega)), F3_24, if_neg (own_ne x 95 95 rfl (by omega)), if_neg (own_nl x 192 192 rfl (by omega)), if_neg (own_ng x 214 214 rfl (by omega)), F3_179]; rfl
  have f2 : F2_0 x = 1 := by rw [F2_0, f3, if_neg (by decide), F2_66]; rfl
  exact ⟨f1, f2⟩
theorem own_iv30 (x : Int32) (h1 : 193 ≤ x.toInt) (h2 : x.toInt ≤ 213) : F1_0 x = 0 ∧ F2_0 x = 1 := by
  have f1 : F1_0 x = 0 := by rw [F1_0, if_pos (own_gt x 44 44 rfl (by omega)), if_neg (own_ne x 47 47 rfl (by omega)), if_neg (own_nl x 58 58 rfl (by omega)), if_pos (own_gt x 64 64 rfl (by omega)), F1_30, if_neg (own_nl x 91 91 rfl (by omega)), if_pos (own_gt x 94 94 rfl (by omega)), F1_44, if_neg (own_ne x 96 96 rfl (by omega)), if_neg (own_nl x 123 123 rfl (by omega)), if_pos (own_gt x 182 182 rfl (by omega)), F1_67, if_neg (own_nl x 184 184 rfl (by omega)), if_pos (own_gt x 191 191 rfl (by omega)), F1_83, if_neg (own_ne x 215 215 rfl (by omega)), if_neg (own_ne x 247 247 rfl (by omega)), if_neg (own_ne x 894 894 rfl (by omega)), if_pos (own_lt x 8192 8192 rfl (by omega)), F1_122, if_pos (own_lt x 8206 8206 rfl (by omega)), F1_138, if_pos (own_lt x 8257 8257 rfl (by omega)), F1_154, if_pos (own_lt x 8592 8592 rfl (by omega)), F1_170, if_pos (own_lt x 12272 12272 rfl (by omega)), F1_186, if_pos (own_lt x 57344 57344 rfl (by omega)), F1_200, if_pos (own_lt x 64976 64976 rfl (by omega)), F1_214, if_pos (own_lt x 65534 65534 rfl (by omega))]; rfl
  have f3 : F3_0 x = 1 := by rw [F3_0, if_neg (own_nl x 97 97 rfl (by omega)), if_pos (own_gt x 122 122 rfl (by omega)), F3_12, if_neg (own_nl x 65 65 rfl (by omega)), if_pos (own_gt x 90 90 rfl (by omega)), F3_24, if_neg (own_ne x 95 95 rfl (by omega)), if_neg (own_nl x 192 192 rfl (by omega)), if_neg (own_ng x 214 214 rfl (by omega)), F3_179]; rfl
  have f2 : F2_0 x = 1 := by rw [F2_0, f3, if_neg (by decide), F2_66]; rfl
  exact ⟨f1, f2⟩
theorem own_iv31 (x : Int32) (h1 : 214 ≤ x.toInt) (h2 : x.toInt ≤ 214) : F1_0 x = 0 ∧ F2_0 x = 1 := by
  have f1 : F1_0 x = 0 := by rw [F1_0, if_pos (own_gt x 44 44 rfl (by omega)), if_neg (own_ne x 47 47 rfl (by omega)), if_neg (own_nl x 58 58 rfl (by omega)), if_pos (own_gt x 64 64 rfl (by omega)), F1_30, if_neg (own_nl x 91 91 rfl (by omega)), if_pos (own_gt x 94 94 rfl (by omega)), F1_44, if_neg (own_ne x 96 96 rfl (by omega)), if_neg (own_nl x 123 123 rfl (by omega)), if_pos (own_gt x 182 182 rfl (by omega)), F1_67, if_neg (own_nl x 184 184 rfl (by omega)), if_pos (own_gt x 191 191 rfl (by omega)), F1_83, if_neg (own_ne x 215 215 rfl (by omega)), if_neg (own_ne x 247 247 rfl (by omega)), if_neg (own_ne x 894 894 rfl (by omega)), if_pos (own_lt x 8192 8192 rfl (by omega)), F1_122, if_pos (own_lt x 8206 8206 rfl (by omega)), F1_138, if_pos (own_lt x 8257 8257 rfl (by omega)), F1_154, if_pos (own_lt x 8592 8592 rfl (by omega)), F1_170, if_pos (own_lt x 12272 12272 rfl (by omega)), F1_186, if_pos (own_lt x 57344 57344 rfl (by omega)), F1_200, if_pos (own_lt x 64976 64976 rfl (by omega)), F1_214, if_pos (own_lt x 65534 65534 rfl (by omega))]; rfl
  have f3 : F3_0 x = 1 := by rw [F3_0, if_neg (own_nl x 97 97 rfl (by omega)), if_pos (own_gt x 122 122 rfl (by omega)), F3_12, if_neg (own_nl x 65 65 rfl (by omega)), if_pos (own_gt x 90 90 rfl (by omega)), F3_24, if_neg (own_ne x 95 95 rfl (by omega)), if_neg (own_nl x 192 192 rfl (by omega)), if_neg (own_ng x 214 214 rfl (by omega)), F3_179]; rfl
  have f2 : F2_0 x = 1 := by rw [F2_0, f3, if_neg (by decide), F2_66]; rfl
  exact ⟨f1, f2⟩
theorem own_iv32 (x : Int32) (h1 : 215 ≤ x.toInt) (h2 : x.toInt ≤ 215) : F1_0 x = 1 ∧ F2_0 x = 0 := by
  have f1 : F1_0 x = 1 := by rw [F1_0, if_pos (own_gt x 44 44 rfl (by omega)), if_neg (own_ne x 47 47 rfl (by omega)), if_neg (own_nl x 58 58 rfl (by omega)), if_pos (own_gt x 64 64 rfl (by omega)), F1_30, if_neg (own_nl x 91 91 rfl (by omega)), if_pos (own_gt x 94 94 rfl (by omega)), F1_44, if_neg (own_ne x 96 96 rfl (by omega)), if_neg (own_nl x 123 123 rfl (by omega)), if_pos (own_gt x 182 182 rfl (by omega)), F1_67, if_neg (own_nl x 184 184 rfl (by omega)), if_pos (own_gt x 191 191 rfl (by omega)), F1_83, if_pos (own_eq x 215 215 rfl (by omega)), F1_104]
  have f3 : F3_0 x = 0 := by rw [F3_0, if_neg (own_nl x 97 97 rfl (by omega)), if_pos (own_gt x 122 122 rfl (by omega)), F3_12, if_neg (own_nl x 65 65 rfl (by omega)), if_pos (own_gt x 90 90 rfl (by omega)), F3_24, if_neg (own_ne x 95 95 rfl (by omega)), if_neg (own_nl x 192 192 rfl (by omega)), if_pos (own_gt x 214 214 rfl (by omega)), F3_44, if_pos (own_lt x 216 216 rfl (by omega)), F3_58, if_pos (own_lt x 248 248 rfl (by omega)), F3_72, if_pos (own_lt x 880 880 rfl (by omega)), F3_86, if_pos (own_lt x 895 895 rfl (by omega)), F3_100, if_neg (own_ne x 8204 8204 rfl (by omega)), if_neg (own_ne x 8205 8205 rfl (by omega)), if_pos (own_lt x 8304 8304 rfl (by omega)), F3_128, if_pos (own_lt x 11264 11264 rfl (by omega)), F3_142, if_pos (own_lt x 12289 12289 rfl (by omega)), F3_155, if_pos (own_lt x 63744 63744 rfl (by omega)), F3_167, if_pos (own_lt x 65008 65008 rfl (by omega)), F3_183]; rfl
  have f2 : F2_0 x = 0 := by rw [F2_0, f3, if_pos rfl, if_neg (own_ne x 45 45 rfl (by omega)), if_neg (own_ne x 46 46 rfl (by omega)), if_neg (own_nl x 48 48 rfl (by omega)), if_pos (own_gt x 57 57 rfl (by omega)), F2_31, if_neg (own_ne x 183 183 rfl (by omega)), if_pos (own_lt x 768 768 rfl (by omega)), F2_52, if_neg (own_ne x 8255 8255 rfl (by omega)), if_neg (own_ne x 8256 8256 rfl (by omega))]; rfl
  exact ⟨f1, f2⟩
theorem own_iv33 (x : Int32) (h1 : 216 ≤ x.toInt) (h2 : x.toInt ≤ 216) : F1_0 x = 0 ∧ F2_0 x = 1 := by
  have f1 : F1_0 x = 0 := by rw [F1_0, if_pos (own_gt x 44 44 rfl (by omega)), if_neg (own_ne x 47 47 rfl (by omega)), if_neg (own_nl x 58 58 rfl (by omega)), if_pos (own_gt x 64 64 rfl (by omega)), F1_30, if_neg (own_nl x 91 91 rfl (by omega)), if_pos (own_gt x 94 94 rfl (by omega)), F1_44, if_neg (own_ne x 96 96 rfl (by omega)), if_neg (own_nl x 123 123 rfl (by omega)), if_pos (own_gt x 182 182 rfl (by omega)), F1_67, if_neg (own_nl x 184 184 rfl (by omega)), if_pos (own_gt x 191 191 rfl (by omega)), F1_83, if_neg (own_ne x 215 215 rfl (by omega)), if_neg (own_ne x 247 247 rfl (by omega)), if_neg (own_ne x 894 894 rfl (by omega)), if_pos (own_lt x 8192 8192 rfl (by omega)), F1_122, if_pos (own_lt x 8206 8206 rfl (by omega)), F1_138, if_pos (own_lt x 8257 8257 rfl (by omega)), F1_154, if_pos (own_lt x 8592 8592 rfl (by omega)), F1_170, if_pos (own_lt x 12272 12272 rfl (by omega)), F1_186, if_pos (own_lt x 57344 57344 rfl (by omega)), F1_200, if_pos (own_lt x 64976 64976 rfl (by omega)), F1_214, if_pos (own_lt x 65534 65534 rfl (by omega))]; rfl
  have f3 : F3_0 x = 1 := by rw [F3_0, if_neg (own_nl x 97 97 rfl (by omega)), if_pos (own_gt x 122 122 rfl (by omega)), F3_12, if_neg (own_nl x 65 65 rfl (by omega)), if_pos (own_gt x 90 90 rfl (by omega)), F3_24, if_neg (own_ne x 95 95 rfl (by omega)), if_neg (own_nl x 192 192 rfl (by omega)), if_pos (own_gt x 214 214 rfl (by omega)), F3_44, if_neg (own_nl x 216 216 rfl (by omega)), if_neg (own_ng x 246 246 rfl (by omega)), F3_179]; rfl
  have f2 : F2_0 x = 1 := by rw [F2_0, f3, if_neg (by decide), F2_66]; rfl
  exact ⟨f1, f2⟩
theorem own_iv34 (x : Int32) (h1 : 217 ≤ x.toInt) (h2 : x.toInt ≤ 245) : F1_0 x = 0 ∧ F2_0 x = 1 := by
  have f1 : F1_0 x = 0 := by rw [F1_0, if_pos (own_gt x 44 44 rfl (by omega)), if_neg (own_ne x 47 47 rfl (by omega)), if_neg (own_nl x 58 58 rfl (by omega)), if_pos (own_gt x 64 64 rfl (by omega)), F1_30, if_neg (own_nl x 91 91 rfl (by omega)), if_pos (own_gt x 94 94 rfl (by omega)), F1_44, if_neg (own_ne x 96 96 rfl (by omega)), if_neg (own_nl x 123 123 rfl (by omega)), if_pos (own_gt x 182 182 rfl (by omega)), F1_67, if_neg (own_nl x 184 184 rfl (by omega)), if_pos (own_gt x 191 191 rfl (by omega)), F1_83, if_neg (own_ne x 215 215 rfl (by omega)), if_neg (own_ne x 247 247 rfl (by omega)), if_neg (own_ne x 894 894 rfl (by omega)), if_pos (own_lt x 8192 8192 rfl (by omega)), F1_122, if_pos (own_lt x 8206 8206 rfl (by omega)), F1_138, if_pos (own_lt x 8257 8257 rfl (by omega)), F1_154, if_pos (own_lt x 8592 8592 rfl (by omega)), F1_170, if_pos (own_lt x 12272 12272 rfl (by omega)), F1_186, if_pos (own_lt x 57344 57344 rfl (by omega)), F1_200, if_pos (own_lt x 64976 64976 rfl (by omega)), F1_214, if_pos (own_lt x 65534 65534 rfl (by omega))]; rfl
  have f3 : F3_0 x = 1 := by rw [F3_0, if_neg (own_nl x 97 97 rfl (by omega)), if_pos (own_gt x 122 122 rfl (by omega)), F3_12, if_neg (own_nl x 65 65 rfl (by omega)), if_pos (own_gt x 90 90 rfl (by omega)), F3_24, if_neg (own_ne x 95 95 rfl (by omega)), if_neg (own_nl x 192 192 rfl (by omega)), if_pos (own_gt x 214 214 rfl (by omega)), F3_44, if_neg (own_nl x 216 216 rfl (by omega)), if_neg (own_ng x 246 246 rfl (by omega)), F3_179]; rfl
  have f2 : F2_0 x = 1 := by rw [F2_0, f3, if_neg (by decide), F2_66]; rfl
  exact ⟨f1, f2⟩
theorem own_iv35 (x : Int32) (h1 : 246 ≤ x.toInt) (h2 : x.toInt ≤ 246) : F1_0 x = 0 ∧ F2_0 x = 1 := by
  have f1 : F1_0 x = 0 := by rw [F1_0, if_pos (own_gt x 44 44 rfl (by omega)), if_neg (own_ne x 47 47 rfl (by omega)), if_neg (own_nl x 58 58 rfl (by omega)), if_pos (own_gt x 64 64 rfl (by omega)), F1_30, if_neg (own_nl x 91 91 rfl (by omega)), if_pos (own_gt x 94 94 rfl (by omega)), F1_44, if_neg (own_ne x 96 96 rfl (by omega)), if_neg (own_nl x 123 123 rfl (by omega)), if_pos (own_gt x 182 182 rfl (by omega)), F1_67, if_neg (own_nl x 184 184 rfl (by omega)), if_pos (own_gt x 191 191 rfl (by omega)), F1_83, if_neg (own_ne x 215 215 rfl (by omega)), if_neg (own_ne x 247 247 rfl (by omega)), if_neg (own_ne x 894 894 rfl (by omega)), if_pos (own_lt x 8192 8192 rfl (by omega)), F1_122, if_pos (own_lt x 8206 8206 rfl (by omega)), F1_138, if_pos (own_lt x 8257 8257 rfl (by omega)), F1_154, if_pos (own_lt x 8592 8592 rfl (by omega)), F1_170, if_pos (own_lt x 12272 12272 rfl (by omega)), F1_186, if_pos (own_lt x 57344 57344 rfl (by omega)), F1_200, if_pos (own_lt x 64976 64976 rfl (by omega)), F1_214, if_pos (own_lt x 65534 65534 rfl (by omega))]; rfl
  have f3 : F3_0 x = 1 := by rw [F3_0, if_neg (own_nl x 97 97 rfl (by omega)), if_pos (own_gt x 122 122 rfl (by omega)), F3_12, if_neg (own_nl x 65 65 rfl (by omega)), if_pos (own_gt x 90 90 rfl (by omega)), F3_24, if_neg (own_ne x 95 95 rfl (by omega)), if_neg (own_nl x 192 192 rfl (by omega)), if_pos (own_gt x 214 214 rfl (by omega)), F3_44, if_neg (own_nl x 216 216 rfl (by omega)), if_neg (own_ng x 246 246 rfl (by omega)), F3_179]; rfl
  have f2 : F2_0 x = 1 := by rw [F2_0, f3, if_neg (by decide), F2_66]; rfl
  exact ⟨f1, f2⟩
theorem own_iv36 (x : Int32) (h1 : 247 ≤ x.toInt) (h2 : x.toInt ≤ 247) : F1_0 x = 1 ∧ F2_0 x = 0 := by
  have f1 : F1_0 x = 1 := by rw [F1_0, if_pos (own_gt x 44 44 rfl (by omega)), if_neg (own_ne x 47 47 rfl (by omega)), if_neg (own_nl x 58 58 rfl (by omega)), if_pos (own_gt x 64 64 rfl (by omega)), F1_30, if_neg (own_nl x 91 91 rfl (by omega)), if_pos (own_gt x 94 94 rfl (by omega)), F1_44, if_neg (own_ne x 96 96 rfl (by omega)), if_neg (own_nl x 123 123 rfl (by omega)), if_pos (own_gt x 182 182 rfl (by omega)), F1_67, if_neg (own_nl x 184 184 rfl (by omega)), if_pos (own_gt x 191 191 rfl (by omega)), F1_83, if_neg (own_ne x 215 215 rfl (by omega)), if_pos (own_eq x 247 247 rfl (by omega)), F1_104]
  have f3 : F3_0 x = 0 := by rw [F3_0, if_neg (own_nl x 97 97 rfl (by omega)), if_pos (own_gt x 122 122 rfl (by omega)), F3_12, if_neg (own_nl x 65 65 rfl (by omega)), if_pos (own_gt x 90 90 rfl (by omega)), F3_24, if_neg (own_ne x 95 95 rfl (by omega)), if_neg (own_nl x 192 192 rfl (by omega)), if_pos (own_gt x 214 214 rfl (by omega)), F3_44, if_neg (own_nl x 216 216 rfl (by omega)), if_pos (own_gt x 246 246 rfl (by omega)), F3_58, if_pos (own_lt x 248 248 rfl (by omega)), F3_72, if_pos (own_lt x 880 880 rfl (by omega)), F3_86, if_pos (own_lt x 895 895 rfl (by omega)), F3_100, if_neg (own_ne x 8204 8204 rfl (by omega)), if_neg (own_ne x 8205 8205 rfl (by omega)), if_pos (own_lt x 8304 8304 rfl (by omega)), F3_128, if_pos (own_lt x 11264 11264 rfl (by omega)), F3_142, if_pos (own_lt x 12289 12289 rfl (by omega)), F3_155, if_pos (own_lt x 63744 63744 rfl (by omega)), F3_167, if_pos (own_lt x 65008 65008 rfl (by omega)), F3_183]; rfl
  have f2 : F2_0 x = 0 := by rw [F2_0, f3, if_pos rfl, if_neg (own_ne x 45 45 rfl (by omega)), if_neg (own_ne x 46 46 rfl (by omega)), if_neg (own_nl x 48 48 rfl (by omega)), if_pos (own_gt x 57 57 rfl (by omega)), F2_31, if_neg (own_ne x 183 183 rfl (by omega)), if_pos (own_lt x 768 768 rfl (by omega)), F2_52, if_neg (own_ne x 8255 8255 rfl (by omega)), if_neg (own_ne x 8256 8256 rfl (by omega))]; rfl
  exact ⟨f1, f2⟩
theorem own_iv37 (x : Int32) (h1 : 248 ≤ x.toInt) (h2 : x.toInt ≤ 248) : F1_0 x = 0 ∧ F2_0 x = 1 := by
  have f1 : F1_0 x = 0 := by rw [F1_0, if_pos (own_gt x 44 44 rfl (by omega)), if_neg (own_ne x 47 47 rfl (by omega)), if_neg (own_nl x 58 58 rfl (by omega)), if_pos (own_gt x 64 64 rfl (by omega)), F1_30, if_neg (own_nl x 91 91 rfl (by omega)), if_pos (own_gt x 94 94 rfl (by omega)), F1_44, if_neg (own_ne x 96 96 rfl (by omega)), if_neg (own_nl x 123 123 rfl (by omega)), if_pos (own_gt x 182 182 rfl (by omega)), F1_67, if_neg (own_nl x 184 184 rfl (by omega)), if_pos (own_gt x 191 191 rfl (by omega)), F1_83, if_neg (own_ne x 215 215 rfl (by omega)), if_neg (own_ne x 247 247 rfl (by omega)), if_neg (own_ne x 894 894 rfl (by omega)), if_pos (own_lt x 8192 8192 rfl (by omega)), F1_122, if_pos (own_lt x 8206 8206 rfl (by omega)), F1_138, if_pos (own_lt x 8257 8257 rfl (by omega)), F1_154, if_pos (own_lt x 8592 8592 rfl (by omega)), F1_170, if_pos (own_lt x 12272 12272 rfl (by omega)), F1_186, if_pos (own_lt x 57344 57344 rfl (by omega)), F1_200, if_pos (own_lt x 64976 64976 rfl (by omega)), F1_214, if_pos (own_lt x 65534 65534 rfl (by omega))]; rfl
  have f3 : F3_0 x = 1 := by rw [F3_0, if_neg (own_nl x 97 97 rfl (by omega)), if_pos (own_gt x 122 122 rfl (by omega)), F3_12, if_neg (own_nl x 65 65 rfl (by omega)), if_pos (own_gt x 90 90 rfl (by omega)), F3_24, if_neg (own_ne x 95 95 rfl (by omega)), if_neg (own_nl x 192 192 rfl (by omega)), if_pos (own_gt x 214 214 rfl (by omega)), F3_44, if_neg (own_nl x 216 216 rfl (by omega)), if_pos (own_gt x 246 246 rfl (by omega)), F3_58, if_neg (own_nl x 248 248 rfl (by omega)), if_neg (own_ng x 767 767 rfl (by omega)), F3_179]; rfl
  have f2 : F2_0 x = 1 := by rw [F2_0, f3, if_neg (by decide), F2_66]; rfl
  exact ⟨f1, f2⟩
theorem own_iv38 (x : Int32) (h1 : 249 ≤ x.toInt) (h2 : x.toInt ≤ 766) : F1_0 x = 0 ∧ F2_0 x = 1 := by
  have f1 : F1_0 x = 0 := by rw [F1_0, if_pos (own_gt x 44 44 rfl (by omega)), if_neg (own_ne x 47 47 rfl (by omega)), if_neg (own_nl x 58 58 rfl (by omega)), if_pos (own_gt x 64 64 rfl (by omega)), F1_30, if_neg (own_nl x 91 91 rfl (by omega)), if_pos (own_gt x 94 94 rfl (by omega)), F1_44, if_neg (own_ne x 96 96 rfl (by omega)), if_neg (own_nl x 123 123 rfl (by omega)), if_pos (own_gt x 182 182 rfl (by omega)), F1_67, if_neg (own_nl x 184 184 rfl (by omega)), if_pos (own_gt x 191 191 rfl (by omega)), F1_83, if_neg (own_ne x 215 215 rfl (by omega)), if_neg (own_ne x 247 247 rfl (by omega)), if_neg (own_ne x 894 894 rfl (by omega)), if_pos (own_lt x 8192 8192 rfl (by omega)), F1_122, if_pos (own_lt x 8206 8206 rfl (by omega)), F1_138, if_pos (own_lt x 8257 8257 rfl (by omega)), F1_154, if_pos (own_lt x 8592 8592 rfl (by omega)), F1_170, if_pos (own_lt x 12272 12272 rfl (by omega)), F1_186, if_pos (own_lt x 57344 57344 rfl (by omega)), F1_200, if_pos (own_lt x 64976 64976 rfl (by omega)), F1_214, if_pos (own_lt x 65534 65534 rfl (by omega))]; rfl
  have f3 : F3_0 x = 1 := by rw [F3_0, if_neg (own_nl x 97 97 rfl (by omega)), if_pos (own_gt x 122 122 rfl (by omega)), F3_12, if_neg (own_nl x 65 65 rfl (by omega)), if_pos (own_gt x 90 90 rfl (by omega)), F3_24, if_neg (own_ne x 95 95 rfl (by omega)), if_neg (own_nl x 192 192 rfl (by omega)), if_pos (own_gt x 214 214 rfl (by omega)), F3_44, if_neg (own_nl x 216 216 rfl (by omega)), if_pos (own_gt x 246 246 rfl (by omega)), F3_58, if_neg (own_nl x 248 248 rfl (by omega)), if_neg (own_ng x 767 767 rfl (by omega)), F3_179]; rfl
  have f2 : F2_0 x = 1 := by rw [F2_0, f3, if_neg (by decide), F2_66]; rfl
  exact ⟨f1, f2⟩
theorem own_iv39 (x : Int32) (h1 : 767 ≤ x.toInt) (h2 : x.toInt ≤ 767) : F1_0 x = 0 ∧ F2_0 x = 1 := by
  have f1 : F1_0 x = 0 := by rw [F1_0, if_pos (own_gt x 44 44 rfl (by omega)), if_neg (own_ne x 47 47 rfl (by omega)), if_neg (own_nl x 58 58 rfl (by omega)), if_pos (own_gt x 64 64 rfl (by omega)), F1_30, if_neg (own_nl x 91 91 rfl (by omega)), if_pos (own_gt x 94 94 rfl (by omega)), F1_44, if_neg (own_ne x 96 96 rfl (by omega)), if_neg (own_nl x 123 123 rfl (by omega)), if_pos (own_gt x 182 182 rfl (by omega)), F1_67, if_neg (own_nl x 184 184 rfl (by omega)), if_pos (own_gt x 191 191 rfl (by omega)), F1_83, if_neg (own_ne x 215 215 rfl (by omega)), if_neg (own_ne x 247 247 rfl (by omega)), if_neg (own_ne x 894 894 rfl (by omega)), if_pos (own_lt x 8192 8192 rfl (by omega)), F1_122, if_pos (own_lt x 8206 8206 rfl (by omega)), F1_138, if_pos (own_lt x 8257 8257 rfl (by omega)), F1_154, if_pos (own_lt x 8592 8592 rfl (by omega)), F1_170, if_pos (own_lt x 12272 12272 rfl (by omega)), F1_186, if_pos (own_lt x 57344 57344 rfl (by omega)), F1_200, if_pos (own_lt x 64976 64976 rfl (by omega)), F1_214, if_pos (own_lt x 65534 65534 rfl (by omega))]; rfl
  have f3 : F3_0 x = 1 := by rw [F3_0, if_neg (own_nl x 97 97 rfl (by omega)), if_pos (own_gt x 122 122 rfl (by omega)), F3_12, if_neg (own_nl x 65 65 rfl (by omega)), if_pos (own_gt x 90 90 rfl (by omega)), F3_24, if_neg (own_ne x 95 95 rfl (by omega)), if_neg (own_nl x 192 192 rfl (by omega)), if_pos (own_gt x 214 214 rfl (by omega)), F3_44, if_neg (own_nl x 216 216 rfl (by omega)), if_pos (own_gt x 246 246 rfl (by omega)), F3_58, if_neg (own_nl x 248 248 rfl (by omega)), if_neg (own_ng x 767 767 rfl (by omega)), F3_179]; rfl
  have f2 : F2_0 x = 1 := by rw [F2_0, f3, if_neg (by decide), F2_66]; rfl
  exact ⟨f1, f2⟩
theorem own_iv40 (x : Int32) (h1 : 768 ≤ x.toInt) (h2 : x.toInt ≤ 768) : F1_0 x = 0 ∧ F2_0 x = 1 := by
  have f1 : F1_0 x = 0 := by rw [F1_0, if_pos (own_gt x 44 44 rfl (by omega)), if_neg (own_ne x 47 47 rfl (by omega)), if_neg (own_nl x 58 58 rfl (by omega)), if_pos (own_gt x 64 64 rfl (by omega)), F1_30, if_neg (own_nl x 91 91 rfl (by omega)), if_pos (own_gt x 94 94 rfl (by omega)), F1_44, if_neg (own_ne x 96 96 rfl (by omega)), if_neg (own_nl x 123 123 rfl (by omega)), if_pos (own_gt x 182 182 rfl (by omega)), F1_67, if_neg (own_nl x 184 184 rfl (by omega)), if_pos (own_gt x 191 191 rfl (by omega)), F1_83, if_neg (own_ne x 215 215 rfl (by omega)), if_neg (own_ne x 247 247 rfl (by omega)), if_neg (own_ne x 894 894 rfl (by omega)), if_pos (own_lt x 8192 8192 rfl (by omega)), F1_122, if_pos (own_lt x 8206 8206 rfl (by omega)), F1_138, if_pos (own_lt x 8257 8257 rfl (by omega)), F1_154, if_pos (own_lt x 8592 8592 rfl (by omega)), F1_170, if_pos (own_lt x 12272 12272 rfl (by omega)), F1_186, if_pos (own_lt x 57344 57344 rfl (by omega)), F1_200, if_pos (own_lt x 64976 64976 rfl (by omega)), F1_214, if_pos (own_lt x 65534 65534 rfl (by omega))]; rfl
  have f3 : F3_0 x = 0 := by rw [F3_0, if_neg (own_nl x 97 97 rfl (by omega)), if_pos (own_gt x 122 122 rfl (by omega)), F3_12, if_neg (own_nl x 65 65 rfl (by omega)), if_pos (own_gt x 90 90 rfl (by omega)), F3_24, if_neg (own_ne x 95 95 rfl (by omega)), if_neg (own_nl x 192 192 rfl (by omega)), if_pos (own_gt x 214 214 rfl (by omega)), F3_44, if_neg (own_nl x 216 216 rfl (by omega)), if_pos (own_gt x 246 246 rfl (by omega)), F3_58, if_neg (own_nl x 248 248 rfl (by omega)), if_pos (own_gt x 767 767 rfl (by omega)), F3_72, if_pos (own_lt x 880 880 rfl (by omega)), F3_86, if_pos (own_lt x 895 895 rfl (by omega)), F3_100, if_neg (own_ne x 8204 8204 rfl (by omega)), if_neg (own_ne x 8205 8205 rfl (by omega)), if_pos (own_lt x 8304 8304 rfl (by omega)), F3_128, if_pos (own_lt x 11264 11264 rfl (by omega)), F3_142, if_pos (own_lt x 12289 12289 rfl (by omega)), F3_155, if_pos (own_lt x 63744 63744 rfl (by omega)), F3_167, if_pos (own_lt x 65008 65008 rfl (by omega)), F3_183]; rfl
  have f2 : F2_0 x = 1 := by rw [F2_0, f3, if_pos rfl, if_neg (own_ne x 45 45 rfl (by omega)), if_neg (own_ne x 46 46 rfl (by omega)), if_neg (own_nl x 48 48 rfl (by omega)), if_pos (own_gt x 57 57 rfl (by omega)), F2_31, if_neg (own_ne x 183 183 rfl (by omega)), if_neg (own_nl x 768 768 rfl (by omega)), if_neg (own_ng x 879 879 rfl (by omega)), F2_66]; rfl
  exact ⟨f1, f2⟩
theorem own_iv41 (x : Int32) (h1 : 769 ≤ x.toInt) (h2 : x.toInt ≤ 878) : F1_0 x = 0 ∧ F2_0 x = 1 := by
  have f1 : F1_0 x = 0 := by rw [F1_0, if_pos (own_gt x 44 44 rfl (by omega)), if_neg (own_ne x 47 47 rfl (by omega)), if_neg (own_nl x 58 58 rfl (by omega)), if_pos (own_gt x 64 64 rfl (by omega)), F1_30, if_neg (own_nl x 91 91 rfl (by omega)), if_pos (own_gt x 94 94 rfl (by omega)), F1_44, if_neg (own_ne x 96 96 rfl (by omega)), if_neg (own_nl x 123 123 rfl (by omega)), if_pos (own_gt x 182 182 rfl (by omega)), F1_67, if_neg (own_nl x 184 184 rfl (by omega)), if_pos (own_gt x 191 191 rfl (by omega)), F1_83, if_neg (own_ne x 215 215 rfl (by omega)), if_neg (own_ne x 247 247 rfl (by omega)), if_neg (own_ne x 894 894 rfl (by omega)), if_pos (own_lt x 8192 8192 rfl (by omega)), F1_122, if_pos (own_lt x 8206 8206 rfl (by omega)), F1_138, if_pos (own_lt x 8257 8257 rfl (by omega)), F1_154, if_pos (own_lt x 8592 8592 rfl (by omega)), F1_170, if_pos (own_lt x 12272 12272 rfl (by omega)), F1_186, if_pos (own_lt x 57344 57344 rfl (by omega)), F1_200, if_pos (own_lt x 64976 64976 rfl (by omega)), F1_214, if_pos (own_lt x 65534 65534 rfl (by omega))]; rfl
  have f3 : F3_0 x = 0 := by rw [F3_0, if_neg (own_nl x 97 97 rfl (by omega)), if_pos (own_gt x 122 122 rfl (by omega)), F3_12, if_neg (own_nl x 65 65 rfl (by omega)), if_pos (own_gt x 90 90 rfl (by omega)), F3_24, if_neg (own_ne x 95 95 rfl (by omega)), if_neg (own_nl x 192 192 rfl (by omega)), if_pos (own_gt x 214 214 rfl (by omega)), F3_44, if_neg (own_nl x 216 216 rfl (by omega)), if_pos (own_gt x 246 246 rfl (by omega)), F3_58, if_neg (own_nl x 248 248 rfl (by omega)), if_pos (own_gt x 767 767 rfl (by omega)), F3_72, if_pos (own_lt x 880 880 rfl (by omega)), F3_86, if_pos (own_lt x 895 895 rfl (by omega)), F3_100, if_neg (own_ne x 8204 8204 rfl (by omega)), if_neg (own_ne x 8205 8205 rfl (by omega)), if_pos (own_lt x 8304 8304 rfl (by omega)), F3_128, if_pos (own_lt x 11264 11264 rfl (by omega)), F3_142, if_pos (own_lt x 12289 12289 rfl (by omega)), F3_155, if_pos (own_lt x 63744 63744 rfl (by omega)), F3_167, if_pos (own_lt x 65008 65008 rfl (by omega)), F3_183]; rfl
  have f2 : F2_0 x = 1 := by rw [F2_0, f3, if_pos rfl, if_neg (own_ne x 45 45 rfl (by omega)), if_neg (own_ne x 46 46 rfl (by omega)), if_neg (own_nl x 48 48 rfl (by omega)), if_pos (own_gt x 57 57 rfl (by omega)), F2_31, if_neg (own_ne x 183 183 rfl (by omega)), if_neg (own_nl x 768 768 rfl (by omega)), if_neg (own_ng x 879 879 rfl (by omega)), F2_66]; rfl
  exact ⟨f1, f2⟩
theorem own_iv42 (x : Int32) (h1 : 879 ≤ x.toInt) (h2 : x.toInt ≤ 879) : F1_0 x = 0 ∧ F2_0 x = 1 := by
  have f1 : F1_0 x = 0 := by rw [F1_0, if_pos (own_gt x 44 44 rfl (by omega)), if_neg (own_ne x 47 47 rfl (by omega)), if_neg (own_nl x 58 58 rfl (by omega)), if_pos (own_gt x 64 64 rfl (by omega)), F1_30, if_neg (own_nl x 91 91 rfl (by omega)), if_pos (own_gt x 94 94 rfl (by omega)), F1_44, if_neg (own_ne x 96 96 rfl (by omega)), if_neg (own_nl x 123 123 rfl (by omega)), if_pos (own_gt x 182 182 rfl (by omega)), F1_67, if_neg (own_nl x 184 184 rfl (by omega)), if_pos (own_gt x 191 191 rfl (by omega)), F1_83, if_neg (own_ne x 215 215 rfl (by omega)), if_neg (own_ne x 247 247 rfl (by omega)), if_neg (own_ne x 894 894 rfl (by omega)), if_pos (own_lt x 8192 8192 rfl (by omega)), F1_122, if_pos (own_lt x 8206 8206 rfl (by omega)), F1_138, if_pos (own_lt x 8257 8257 rfl (by omega)), F1_154, if_pos (own_lt x 8592 8592 rfl (by omega)), F1_170, if_pos (own_lt x 12272 12272 rfl (by omega)), F1_186, if_pos (own_lt x 57344 57344 rfl (by omega)), F1_200, if_pos (own_lt x 64976 64976 rfl (by omega)), F1_214, if_pos (own_lt x 65534 65534 rfl (by omega))]; rfl
  have f3 : F3_0 x = 0 := by rw [F3_0, if_neg (own_nl x 97 97 rfl (by omega)), if_pos (own_gt x 122 122 rfl (by omega)), F3_12, if_neg (own_nl x 65 65 rfl (by omega)), if_pos (own_gt x 90 90 rfl (by omega)), F3_24, if_neg (own_ne x 95 95 rfl (by omega)), if_neg (own_nl x 192 192 rfl (by omega)), if_pos (own_gt x 214 214 rfl (by omega)), F3_44, if_neg (own_nl x 216 216 rfl (by omega)), if_pos (own_gt x 246 246 rfl (by omega)), F3_58, if_neg (own_nl x 248 248 rfl (by omega)), if_pos (own_gt x 767 767 rfl (by omega)), F3_72, if_pos (own_lt x 880 880 rfl (by omega)), F3_86, if_pos (own_lt x 895 895 rfl (by omega)), F3_100, if_neg (own_ne x 8204 8204 rfl (by omega)), if_neg (own_ne x 8205 8205 rfl (by omega)), if_pos (own_lt x 8304 8304 rfl (by omega)), F3_128, if_pos (own_lt x 11264 11264 rfl (by omega)), F3_142, if_pos (own_lt x 12289 12289 rfl (by omega)), F3_155, if_pos (own_lt x 63744 63744 rfl (by omega)), F3_167, if_pos (own_lt x 65008 65008 rfl (by omega)), F3_183]; rfl
  have f2 : F2_0 x = 1 := by rw [F2_0, f3, if_pos rfl, if_neg (own_ne x 45 45 rfl (by omega)), if_neg (own_ne x 46 46 rfl (by omega)), if_neg (own_nl x 48 48 rfl (by omega)), if_pos (own_gt x 57 57 rfl (by omega)), F2_31, if_neg (own_ne x 183 183 rfl (by omega)), if_neg (own_nl x 768 768 rfl (by omega)), if_neg (own_ng x 879 879 rfl (by omega)), F2_66]; rfl
  exact ⟨f1, f2⟩
theorem own_iv43 (x : Int32) (h1 : 880 ≤ x.toInt) (h2 : x.toInt ≤ 880) : F1_0 x = 0 ∧ F2_0 x = 1 := by
  have f1 : F1_0 x = 0 := by rw [F1_0, if_pos (own_gt x 44 44 rfl (by omega)), if_neg (own_ne x 47 47 rfl (by omega)), if_neg (own_nl x 58 58 rfl (by omega)), if_pos (own_gt x 64 64 rfl (by omega)), F1_30, if_neg (own_nl x 91 91 rfl (by omega)), if_pos (own_gt x 94 94 rfl (by omega)), F1_44, if_neg (own_ne x 96 96 rfl (by omega)), if_neg (own_nl x 123 123 rfl (by omega)), if_pos (own_gt x 182 182 rfl (by omega)), F1_67, if_neg (own_nl x 184 184 rfl (by omega)), if_pos (own_gt x 191 191 rfl (by omega)), F1_83, if_neg (own_ne x 215 215 rfl (by omega)), if_neg (own_ne x 247 247 rfl (by omega)), if_neg (own_ne x 894 894 rfl (by omega)), if_pos (own_lt x 8192 8192 rfl (by omega)), F1_122, if_pos (own_lt x 8206 8206 rfl (by omega)), F1_138, if_pos (own_lt x 8257 8257 rfl (by omega)), F1_154, if_pos (own_lt x 8592 8592 rfl (by omega)), F1_170, if_pos (own_lt x 12272 12272 rfl (by omega)), F1_186, if_pos (own_lt x 57344 57344 rfl (by omega)), F1_200, if_pos (own_lt x 64976 64976 rfl (by omega)), F1_214, if_pos (own_lt x 65534 65534 rfl (by omega))]; rfl
  have f3 : F3_0 x = 1 := by rw [F3_0, if_neg (own_nl x 97 97 rfl (by omega)), if_pos (own_gt x 122 122 rfl (by omega)), F3_12, if_neg (own_nl x 65 65 rfl (by omega)), if_pos (own_gt x 90 90 rfl (by omega)), F3_24, if_neg (own_ne x 95 95 rfl (by omega)), if_neg (own_nl x 192 192 rfl (by omega)), if_pos (own_gt x 214 214 rfl (by omega)), F3_44, if_neg (own_nl x 216 216 rfl (by omega)), if_pos (own_gt x 246 246 rfl (by omega)), F3_58, if_neg (own_nl x 248 248 rfl (by omega)), if_pos (own_gt x 767 767 rfl (by omega)), F3_72, if_neg (own_nl x 880 880 rfl (by omega)), if_neg (own_ng x 893 893 rfl (by omega)), F3_179]; rfl
  have f2 : F2_0 x = 1 := by rw [F2_0, f3, if_neg (by decide), F2_66]; rfl
  exact ⟨f1, f2⟩
theorem own_iv44 (x : Int32) (h1 : 881 ≤ x.toInt) (h2 : x.toInt ≤ 892) : F1_0 x = 0 ∧ F2_0 x = 1 := by
  have f1 : F1_0 x = 0 := by rw [F1_0, if_pos (own_gt x 44 44 rfl (by omega)), if_neg (own_ne x 47 47 rfl (by omega)), if_neg (own_nl x 58 58 rfl (by omega)), if_pos (own_gt x 64 64 rfl (by omega)), F1_30, if_neg (own_nl x 91 91 rfl (by omega)), if_pos (own_gt x 94 94 rfl (by omega)), F1_44, if_neg (own_ne x 96 96 rfl (by omega)), if_neg (own_nl x 123 123 rfl (by omega)), if_pos (own_gt x 182 182 rfl (by omega)), F1_67, if_neg (own_nl x 184 184 rfl (by omega)), if_pos (own_gt x 191 191 rfl (by omega)), F1_83, if_neg (own_ne x 215 215 rfl (by omega)), if_neg (own_ne x 247 247 rfl (by omega)), if_neg (own_ne x 894 894 rfl (by omega)), if_pos (own_lt x 8192 8192 rfl (by omega)), F1_122, if_pos (own_lt x 8206 8206 rfl (by omega)), F1_138, if_pos (own_lt x 8257 8257 rfl (by omega)), F1_154, if_pos (own_lt x 8592 8592 rfl (by omega)), F1_170, if_pos (own_lt x 12272 12272 rfl (by omega)), F1_186, if_pos (own_lt x 57344 57344 rfl (by omega)), F1_200, if_pos (own_lt x 64976 64976 rfl (by omega)), F1_214, if_pos (own_lt x 65534 65534 rfl (by omega))]; rfl
  have f3 : F3_0 x = 1 := by rw [F3_0, if_neg (own_nl x 97 97 rfl (by omega)), if_pos (own_gt x 122 122 rfl (by omega)), F3_12, if_neg (own_nl x 65 65 rfl (by omega)), if_pos (own_gt x 90 90 rfl (by omega)), F3_24, if_neg (own_ne x 95 95 rfl (by omega)), if_neg (own_nl x 192 192 rfl (by omega)), if_pos (own_gt x 214 214 rfl (by omega)), F3_44, if_neg (own_nl x 216 216 rfl (by omega)), if_pos (own_gt x 246 246 rfl (by omega)), F3_58, if_neg (own_nl x 248 248 rfl (by omega)), if_pos (own_gt x 767 767 rfl (by omega)), F3_72, if_neg (own_nl x 880 880 rfl (by omega)), if_neg (own_ng x 893 893 rfl (by omega)), F3_179]; rfl
  have f2 : F2_0 x = 1 := by rw [F2_0, f3, if_neg (by decide), F2_66]; rfl
  exact ⟨f1, f2⟩
theorem own_iv45 (x : Int32) (h1 : 893 ≤ x.toInt) (h2 : x.toInt ≤ 893) : F1_0 x = 0 ∧ F2_0 x = 1 := by
  have f1 : F1_0 x = 0 := by rw [F1_0, if_pos (own_gt x 44 44 rfl (by omega)), if_neg (own_ne x 47 47 rfl (by omega)), if_neg (own_nl x 58 58 rfl (by omega)), if_pos (own_gt x 64 64 rfl (by omega)), F1_30, if_neg (own_nl x 91 91 rfl (by omega)), if_pos (own_gt x 94 94 rfl (by omega)), F1_44, if_neg (own_ne x 96 96 rfl (by omega)), if_neg (own_nl x 123 123 rfl (by omega)), if_pos (own_gt x 182 182 rfl (by omega)), F1_67, if_neg (own_nl x 184 184 rfl (by omega)), if_pos (own_gt x 191 191 rfl (by omega)), F1_83, if_neg (own_ne x 215 215 rfl (by omega)), if_neg (own_ne x 247 247 rfl (by omega)), if_neg (own_ne x 894 894 rfl (by omega)), if_pos (own_lt x 8192 8192 rfl (by omega)), F1_122, if_pos (own_lt x 8206 8206 rfl (by omega)), F1_138, if_pos (own_lt x 8257 8257 rfl (by omega)), F1_154, if_pos (own_lt x 8592 8592 rfl (by omega)), F1_170, if_pos (own_lt x 12272 12272 rfl (by omega)), F1_186, if_pos (own_lt x 57344 57344 rfl (by omega)), F1_200, if_pos (own_lt x 64976 64976 rfl (by omega)), F1_214, if_pos (own_lt x 65534 65534 rfl (by omega))]; rfl
  have f3 : F3_0 x = 1 := by rw [F3_0, if_neg (own_nl x 97 97 rfl (by omega)), if_pos (own_gt x 122 122 rfl (by omega)), F3_12, if_neg (own_nl x 65 65 rfl (by omega)), if_pos (own_gt x 90 90 rfl (by omega)), F3_24, if_neg (own_ne x 95 95 rfl (by omega)), if_neg (own_nl x 192 192 rfl (by omega)), if_pos (own_gt x 214 214 rfl (by omega)), F3_44, if_neg (own_nl x 216 216 rfl (by omega)), if_pos (own_gt x 246 246 rfl (by omega)), F3_58, if_neg (own_nl x 248 248 rfl (by omega)), if_pos (own_gt x 767 767 rfl (by omega)), F3_72, if_neg (own_nl x 880 880 rfl (by omega)), if_neg (own_ng x 893 893 rfl (by omega)), F3_179]; rfl
  have f2 : F2_0 x = 1 := by rw [F2_0, f3, if_neg (by decide), F2_66]; rfl
  exact ⟨f1, f2⟩
theorem own_iv46 (x : Int32) (h1 : 894 ≤ x.toInt) (h2 : x.toInt ≤ 894) : F1_0 x = 1 ∧ F2_0 x = 0 := by
  have f1 : F1_0 x = 1 := by rw [F1_0, if_pos (own_gt x 44 44 rfl (by omega)), if_neg (own_ne x 47 47 rfl (by omega)), if_neg (own_nl x 58 58 rfl (by omega)), if_pos (own_gt x 64 64 rfl (by omega)), F1_30, if_neg (own_nl x 91 91 rfl (by omega)), if_pos (own_gt x 94 94 rfl (by omega)), F1_44, if_neg (own_ne x 96 96 rfl (by omega)), if_neg (own_nl x 123 123 rfl (by omega)), if_pos (own_gt x 182 182 rfl (by omega)), F1_67, if_neg (own_nl x 184 184 rfl (by omega)), if_pos (own_gt x 191 191 rfl (by omega)), F1_83, if_neg (own_ne x 215 215 rfl (by omega)), if_neg (own_ne x 247 247 rfl (by omega)), if_pos (own_eq x 894 894 rfl (by omega)), F1_104]
  have f3 : F3_0 x = 0 := by rw [F3_0, if_neg (own_nl x 97 97 rfl (by omega)), if_pos (own_gt x 122 122 rfl (by omega)), F3_12, if_neg (own_nl x 65 65 rfl (by omega)), if_pos (own_gt x 90 90 rfl (by omega)), F3_24, if_neg (own_ne x 95 95 rfl (by omega)), if_neg (own_nl x 192 192 rfl (by omega)), if_pos (own_gt x 214 214 rfl (by omega)), F3_44, if_neg (own_nl x 216 216 rfl (by omega)), if_pos (own_gt x 246 246 rfl (by omega)), F3_58, if_neg (own_nl x 248 248 rfl (by omega)), if_pos (own_gt x 767 767 rfl (by omega)), F3_72, if_neg (own_nl x 880 880 rfl (by omega)), if_pos (own_gt x 893 893 rfl (by omega)), F3_86, if_pos (own_lt x 895 895 rfl (by omega)), F3_100, if_neg (own_ne x 8204 8204 rfl (by omega)), if_neg (own_ne x 8205 8205 rfl (by omega)), if_pos (own_lt x 8304 8304 rfl (by omega)), F3_128, if_pos (own_lt x 11264 11264 rfl (by omega)), F3_142, if_pos (own_lt x 12289 12289 rfl (by omega)), F3_155, if_pos (own_lt x 63744 63744 rfl (by omega)), F3_167, if_pos (own_lt x 65008 65008 rfl (by omega)), F3_183]; rfl
  have f2 : F2_0 x = 0 := by rw [F2_0, f3, if_pos rfl, if_neg (own_ne x 45 45 rfl (by omega)), if_neg (own_ne x 46 46 rfl (by omega)), if_neg (own_nl x 48 48 rfl (by omega)), if_pos (own_gt x 57 57 rfl (by omega)), F2_31, if_neg (own_ne x 183 183 rfl (by omega)), if_neg (own_nl x 768 768 rfl (by omega)), if_pos (own_gt x 879 879 rfl (by omega)), F2_52, if_neg (own_ne x 8255 8255 rfl (by omega)), if_neg (own_ne x 8256 8256 rfl (by omega))]; rfl
  exact ⟨f1, f2⟩
theorem own_iv47 (x : Int32) (h1 : 895 ≤ x.toInt) (h2 : x.toInt ≤ 895) : F1_0 x = 0 ∧ F2_0 x = 1 := by
  have f1 : F1_0 x = 0 := by rw [F1_0, if_pos (own_gt x 44 44 rfl (by omega)), if_neg (own_ne x 47 47 rfl (by omega)), if_neg (own_nl x 58 58 rfl (by omega)), if_pos (own_gt x 64 64 rfl (by omega)), F1_30, if_neg (own_nl x 91 91 rfl (by omega)), if_pos (own_gt x 94 94 rfl (by omega)), F1_44, if_neg (own_ne x 96 96 rfl (by omega)), if_neg (own_nl x 123 123 rfl (by omega)), if_pos (own_gt x 182 182 rfl (by omega)), F1_67, if_neg (own_nl x 184 184 rfl (by omega)), if_pos (own_gt x 191 191 rfl (by omega)), F1_83, if_neg (own_ne x 215 215 rfl (by omega)), if_neg (own_ne x 247 247 rfl (by omega)), if_neg (own_ne x 894 894 rfl (by omega)), if_pos (own_lt x 8192 8192 rfl (by omega)), F1_122, if_pos (own_lt x 8206 8206 rfl (by omega)), F1_138, if_pos (own_lt x 8257 8257 rfl (by omega)), F1_154, if_pos (own_lt x 8592 8592 rfl (by omega)), F1_170, if_pos (own_lt x 12272 12272 rfl (by omega)), F1_186, if_pos (own_lt x 57344 57344 rfl (by omega)), F1_200, if_pos (own_lt x 64976 64976 rfl (by omega)), F1_214, if_pos (own_lt x 65534 65534 rfl (by omega))]; rfl
  have f3 : F3_0 x = 1 := by rw [F3_0, if_neg (own_nl x 97 97 rfl (by omega)), if_pos (own_gt x 122 122 rfl (by omega)), F3_12, if_neg (own_nl x 65 65 rfl (by omega)), if_pos (own_gt x 90 90 rfl (by omega)), F3_24, if_neg (own_ne x 95 95 rfl (by omega)), if_neg (own_nl x 192 192 rfl (by omega)), if_pos (own_gt x 214 214 rfl (by omega)), F3_44, if_neg (own_nl x 216 216 rfl (by omega)), if_pos (own_gt x 246 246 rfl (by omega)), F3_58, if_neg (own_nl x 248 248 rfl (by omega)), if_pos (own_gt x 767 767 rfl (by omega)), F3_72, if_neg (own_nl x 880 880 rfl (by omega)), if_pos (own_gt x 893 893 rfl (by omega)), F3_86, if_neg (own_nl x 895 895 rfl (by omega)), if_neg (own_ng x 8191 8191 rfl (by omega)), F3_179]; rfl
  have f2 : F2_0 x = 1 := by rw [F2_0, f3, if_neg (by decide), F2_66]; rfl
  exact ⟨f1, f2⟩
theorem own_iv48 (x : Int32) (h1 : 896 ≤ x.toInt) (h2 : x.toInt ≤ 8190) : F1_0 x = 0 ∧ F2_0 x = 1 := by
  have f1 : F1_0 x = 0 := by rw [F1_0, if_pos (own_gt x 44 44 rfl (by omega)), if_neg (own_ne x 47 47 rfl (by omega)), if_neg (own_nl x 58 58 rfl (by omega)), if_pos (own_gt x 64 64 rfl (by omega)), F1_30, if_neg (own_nl x 91 91 rfl (by omega)), if_pos (own_gt x 94 94 rfl (by omega)), F1_44, if_neg (own_ne x 96 96 rfl (by omega)), if_neg (own_nl x 123 123 rfl (by omega)), if_pos (own_gt x 182 182 rfl (by omega)), F1_67, if_neg (own_nl x 184 184 rfl (by omega)), if_pos (own_gt x 191 191 rfl (by omega)), F1_83, if_neg (own_ne x 215 215 rfl (by omega)), if_neg (own_ne x 247 247 rfl (by omega)), if_neg (own_ne x 894 894 rfl (by omega)), if_pos (own_lt x 8192 8192 rfl (by omega)), F1_122, if_pos (own_lt x 8206 8206 rfl (by omega)), F1_138, if_pos (own_lt x 8257 8257 rfl (by omega)), F1_154, if_pos (own_lt x 8592 8592 rfl (by omega)), F1_170, if_pos (own_lt x 12272 12272 rfl (by omega)), F1_186, if_pos (own_lt x 57344 57344 rfl (by omega)), F1_200, if_pos (own_lt x 64976 64976 rfl (by omega)), F1_214, if_pos (own_lt x 65534 65534 rfl (by omega))]; rfl
  have f3 : F3_0 x = 1 := by rw [F3_0, if_neg (own_nl x 97 97 rfl (by omega)), if_pos (own_gt x 122 122 rfl (by omega)), F3_12, if_neg (own_nl x 65 65 rfl (by omega)), if_pos (own_gt x 90 90 rfl (by omega)), F3_24, if_neg (own_ne x 95 95 rfl (by omega)), if_neg (own_nl x 192 192 rfl (by omega)), if_pos (own_gt x 214 214 rfl (by omega)), F3_44, if_neg (own_nl x 216 216 rfl (by omega)), if_pos (own_gt x 246 246 rfl (by omega)), F3_58, if_neg (own_nl x 248 248 rfl (by omega)), if_pos (own_gt x 767 767 rfl (by omega)), F3_72, if_neg (own_nl x 880 880 rfl (by omega)), if_pos (own_gt x 893 893 rfl (by omega)), F3_86, if_neg (own_nl x 895 895 rfl (by omega)), if_neg (own_ng x 8191 8191 rfl (by omega)), F3_179]; rfl
  have f2 : F2_0 x = 1 := by rw [F2_0, f3, if_neg (by decide), F2_66]; rfl
  exact ⟨f1, f2⟩
theorem own_iv49 (x : Int32) (h1 : 8191 ≤ x.toInt) (h2 : x.toInt ≤ 8191) : F1_0 x = 0 ∧ F2_0 x = 1 := by
  have f1 : F1_0 x = 0 := by rw [F1_0, if_pos (own_gt x 44 44 rfl (by omega)), if_neg (own_ne x 47 47 rfl (by omega)), if_neg (own_nl x 58 58 rfl (by omega)), if_pos (own_gt x 64 64 rfl (by omega)), F1_30, if_neg (own_nl x 91 91 rfl (by omega)), if_pos (own_gt x 94 94 rfl (by omega)), F1_44, if_neg (own_ne x 96 96 rfl (by omega)), if_neg (own_nl x 123 123 rfl (by omega)), if_pos (own_gt x 182 182 rfl (by omega)), F1_67, if_neg (own_nl x 184 184 rfl (by omega)), if_pos (own_gt x 191 191 rfl (by omega)), F1_83, if_neg (own_ne x 215 215 rfl (by omega)), if_neg (own_ne x 247 247 rfl (by omega)), if_neg (own_ne x 894 894 rfl (by omega)), if_pos (own_lt x 8192 8192 rfl (by omega)), F1_122, if_pos (own_lt x 8206 8206 rfl (by omega)), F1_138, if_pos (own_lt x 8257 8257 rfl (by omega)), F1_154, if_pos (own_lt x 8592 8592 rfl (by omega)), F1_170, if_pos (own_lt x 12272 12272 rfl (by omega)), F1_186, if_pos (own_lt x 57344 57344 rfl (by omega)), F1_200, if_pos (own_lt x 64976 64976 rfl (by omega)), F1_214, if_pos (own_lt x 65534 65534 rfl (by omega))]; rfl
  have f3 : F3_0 x = 1 := by rw [F3_0, if_neg (own_nl x 97 97 rfl (by omega)), if_pos (own_gt x 122 122 rfl (by omega)), F3_12, if_neg (own_nl x 65 65 rfl (by omega)), if_pos (own_gt x 90 90 rfl (by omega)), F3_24, if_neg (own_ne x 95 95 rfl (by omega)), if_neg (own_nl x 192 192 rfl (by omega)), if_pos (own_gt x 214 214 rfl (by omega)), F3_44, if_neg (own_nl x 216 216 rfl (by omega)), if_pos (own_gt x 246 246 rfl (by omega)), F3_58, if_neg (own_nl x 248 248 rfl (by omega)), if_pos (own_gt x 767 767 rfl (by omega)), F3_72, if_neg (own_nl x 880 880 rfl (by omega)), if_pos (own_gt x 893 893 rfl (by omega)), F3_86, if_neg (own_nl x 895 895 rfl (by omega)), if_neg (own_ng x 8191 8191 rfl (by omega)), F3_179]; rfl
  have f2 : F2_0 x = 1 := by rw [F2_0, f3, if_neg (by decide), F2_66]; rfl
  exact ⟨f1, f2⟩
theorem own_iv50 (x : Int32) (h1 : 8192 ≤ x.toInt) (h2 : x.toInt ≤ 8192) : F1_0 x = 1 ∧ F2_0 x = 0 := by
  have f1 : F1_0 x = 1 := by rw [F1_0, if_pos (own_gt x 44 44 rfl (by omega)), if_neg (own_ne x 47 47 rfl (by omega)), if_neg (own_nl x 58 58 rfl (by omega)), if_pos (own_gt x 64 64 rfl (by omega)), F1_30, if_neg (own_nl x 91 91 rfl (by omega)), if_pos (own_gt x 94 94 rfl (by omega)), F1_44, if_neg (own_ne x 96 96 rfl (by omega)), if_neg (own_nl x 123 123 rfl (by omega)), if_pos (own_gt x 182 182 rfl (by omega)), F1_67, if_neg (own_nl x 184 184 rfl (by omega)), if_pos (own_gt x 191 191 rfl (by omega)), F1_83, if_neg (own_ne x 215 215 rfl (by omega)), if_neg (own_ne x 247 247 rfl (by omega)), if_neg (own_ne x 894 894 rfl (by omega)), if_neg (own_nl x 8192 8192 rfl (by omega)), if_neg (own_ng x 8203 8203 rfl (by omega))]
  have f3 : F3_0 x = 0 := by rw [F3_0, if_neg (own_nl x 97 97 rfl (by omega)), if_pos (own_gt x 122 122 rfl (by omega)), F3_12, if_neg (own_nl x 65 65 rfl (by omega)), if_pos (own_gt x 90 90 rfl (by omega)), F3_24, if_neg (own_ne x 95 95 rfl (by omega)), if_neg (own_nl x 192 192 rfl (by omega)), if_pos (own_gt x 214 214 rfl (by omega)), F3_44, if_neg (own_nl x 216 216 rfl (by omega)), if_pos (own_gt x 246 246 rfl (by omega)), F3_58, if_neg (own_nl x 248 248 rfl (by omega)), if_pos (own_gt x 767 767 rfl (by omega)), F3_72, if_neg (own_nl x 880 880 rfl (by omega)), if_pos (own_gt x 893 893 rfl (by omega)), F3_86, if_neg (own_nl x 895 895 rfl (by omega)), if_pos (own_gt x 8191 8191 rfl (by omega)), F3_100, if_neg (own_ne x 8204 8204 rfl (by omega)), if_neg (own_ne x 8205 8205 rfl (by omega)), if_pos (own_lt x 8304 8304 rfl (by omega)), F3_128, if_pos (own_lt x 11264 11264 rfl (by omega)), F3_142, if_pos (own_lt x 12289 12289 rfl (by omega)), F3_155, if_pos (own_lt x 63744 63744 rfl (by omega)), F3_167, if_pos (own_lt x 65008 65008 rfl (by omega)), F3_183]; rfl
  have f2 : F2_0 x = 0 := by rw [F2_0, f3, if_pos rfl, if_neg (own_ne x 45 45 rfl (by omega)), if_neg (own_ne x 46 46 rfl (by omega)), if_neg (own_nl x 48 48 rfl (by omega)), if_pos (own_gt x 57 57 rfl (by omega)), F2_31, if_neg (own_ne x 183 183 rfl (by omega)), if_neg (own_nl x 768 768 rfl (by omega)), if_pos (own_gt x 879 879 rfl (by omega)), F2_52, if_neg (own_ne x 8255 8255 rfl (by omega)), if_neg (own_ne x 8256 8256 rfl (by omega))]; rfl
  exact ⟨f1, f2⟩
theorem own_iv51 (x : Int32) (h1 : 8193 ≤ x.toInt) (h2 : x.toInt ≤ 8202) : F1_0 x = 1 ∧ F2_0 x = 0 := by
  have f1 : F1_0 x = 1 := by rw [F1_0, if_pos (own_gt x 44 44 rfl (by omega)), if_neg (own_ne x 47 47 rfl (by omega)), if_neg (own_nl x 58 58 rfl (by omega)), if_pos (own_gt x 64 64 rfl (by omega)), F1_30, if_neg (own_nl x 91 91 rfl (by omega)), if_pos (own_gt x 94 94 rfl (by omega)), F1_44, if_neg (own_ne x 96 96 rfl (by omega)), if_neg (own_nl x 123 123 rfl (by omega)), if_pos (own_gt x 182 182 rfl (by omega)), F1_67, if_neg (own_nl x 184 184 rfl (by omega)), if_pos (own_gt x 191 191 rfl (by omega)), F1_83, if_neg (own_ne x 215 215 rfl (by omega)), if_neg (own_ne x 247 247 rfl (by omega)), if_neg (own_ne x 894 894 rfl (by omega)), if_neg (own_nl x 8192 8192 rfl (by omega)), if_neg (own_ng x 8203 8203 rfl (by omega))]
  have f3 : F3_0 x = 0 := by rw [F3_0, if_neg (own_nl x 97 97 rfl (by omega)), if_pos (own_gt x 122 122 rfl (by omega)), F3_12, if_neg (own_nl x 65 65 rfl (by omega)), if_pos (own_gt x 90 90 rfl (by omega)), F3_24, if_neg (own_ne x 95 95 rfl (by omega)), if_neg (own_nl x 192 192 rfl (by omega)), if_pos (own_gt x 214 214 rfl (by omega)), F3_44, if_neg (own_nl x 216 216 rfl (by omega)), if_pos (own_gt x 246 246 rfl (by omega)), F3_58, if_neg (own_nl x 248 248 rfl (by omega)), if_pos (own_gt x 767 767 rfl (by omega)), F3_72, if_neg (own_nl x 880 880 rfl (by omega)), if_pos (own_gt x 893 893 rfl (by omega)), F3_86, if_neg (own_nl x 895 895 rfl (by omega)), if_pos (own_gt x 8191 8191 rfl (by omega)), F3_100, if_neg (own_ne x 8204 8204 rfl (by omega)), if_neg (own_ne x 8205 8205 rfl (by omega)), if_pos (own_lt x 8304 8304 rfl (by omega)), F3_128, if_pos (own_lt x 11264 11264 rfl (by omega)), F3_142, if_pos (own_lt x 12289 12289 rfl (by omega)), F3_155, if_pos (own_lt x 63744 63744 rfl (by omega)), F3_167, if_pos (own_lt x 65008 65008 rfl (by omega)), F3_183]; rfl
  have f2 : F2_0 x = 0 := by rw [F2_0, f3, if_pos rfl, if_neg (own_ne x 45 45 rfl (by omega)), if_neg (own_ne x 46 46 rfl (by omega)), if_neg (own_nl x 48 48 rfl (by omega)), if_pos (own_gt x 57 57 rfl (by omega)), F2_31, if_neg (own_ne x 183 183 rfl (by omega)), if_neg (own_nl x 768 768 rfl (by omega)), if_pos (own_gt x 879 879 rfl (by omega)), F2_52, if_neg (own_ne x 8255 8255 rfl (by omega)), if_neg (own_ne x 8256 8256 rfl (by omega))]; rfl
  exact ⟨f1, f2⟩
theorem own_iv52 (x : Int32) (h1 : 8203 ≤ x.toInt) (h2 : x.toInt ≤ 8203) : F1_0 x = 1 ∧ F2_0 x = 0 := by
  have f1 : F1_0 x = 1 := by rw [F1_0, if_pos (own_gt x 44 44 rfl (by omega)), if_neg (own_ne x 47 47 rfl (by omega)), if_neg (own_nl x 58 58 rfl (by omega)), if_pos (own_gt x 64 64 rfl (by omega)), F1_30, if_neg (own_nl x 91 91 rfl (by omega)), if_pos (own_gt x 94 94 rfl (by omega)), F1_44, if_neg (own_ne x 96 96 rfl (by omega)), if_neg (own_nl x 123 123 rfl (by omega)), if_pos (own_gt x 182 182 rfl (by omega)), F1_67, if_neg (own_nl x 184 184 rfl (by omega)), if_pos (own_gt x 191 191 rfl (by omega)), F1_83, if_neg (own_ne x 215 215 rfl (by omega)), if_neg (own_ne x 247 247 rfl (by omega)), if_neg (own_ne x 894 894 rfl (by omega)), if_neg (own_nl x 8192 8192 rfl (by omega)), if_neg (own_ng x 8203 8203 rfl (by omega))]
  have f3 : F3_0 x = 0 := by rw [F3_0, if_neg (own_nl x 97 97 rfl (by omega)), if_pos (own_gt x 122 122 rfl (by omega)), F3_12, if_neg (own_nl x 65 65 rfl (by omega)), if_pos (own_gt x 90 90 rfl (by omega)), F3_24, if_neg (own_ne x 95 95 rfl (by omega)), if_neg (own_nl x 192 192 rfl (by omega)), if_pos (own_gt x 214 214 rfl (by omega)), F3_44, if_neg (own_nl x 216 216 rfl (by omega)), if_pos (own_gt x 246 246 rfl (by omega)), F3_58, if_neg (own_nl x 248 248 rfl (by omega)), if_pos (own_gt x 767 767 rfl (by omega)), F3_72, if_neg (own_nl x 880 880 rfl (by omega)), if_pos (own_gt x 893 893 rfl (by omega)), F3_86, if_neg (own_nl x 895 895 rfl (by omega)), if_pos (own_gt x 8191 8191 rfl (by omega)), F3_100, if_neg (own_ne x 8204 8204 rfl (by omega)), if_neg (own_ne x 8205 8205 rfl (by omega)), if_pos (own_lt x 8304 8304 rfl (by omega)), F3_128, if_pos (own_lt x 11264 11264 rfl (by omega)), F3_142, if_pos (own_lt x 12289 12289 rfl (by omega)), F3_155, if_pos (own_lt x 63744 63744 rfl (by omega)), F3_167, if_pos (own_lt x 65008 65008 rfl (by omega)), F3_183]; rfl
  have f2 : F2_0 x = 0 := by rw [F2_0, f3, if_pos rfl, if_neg (own_ne x 45 45 rfl (by omega)), if_neg (own_ne x 46 46 rfl (by omega)), if_neg (own_nl x 48 48 rfl (by omega)), if_pos (own_gt x 57 57 rfl (by omega)), F2_31, if_neg (own_ne x 183 183 rfl (by omega)), if_neg (own_nl x 768 768 rfl (by omega)), if_pos (own_gt x 879 879 rfl (by omega)), F2_52, if_neg (own_ne x 8255 8255 rfl (by omega)), if_neg (own_ne x 8256 8256 rfl (by omega))]; rfl
  exact ⟨f1, f2⟩
theorem own_iv53 (x : Int32) (h1 : 8204 ≤ x.toInt) (h2 : x.toInt ≤ 8204) : F1_0 x = 0 ∧ F2_0 x = 1 := by
  have f1 : F1_0 x = 0 := by rw [F1_0, if_pos (own_gt x 44 44 rfl (by omega)), if_neg (own_ne x 47 47 rfl (by omega)), if_neg (own_nl x 58 58 rfl (by omega)), if_pos (own_gt x 64 64 rfl (by omega)), F1_30, if_neg (own_nl x 91 91 rfl (by omega)), if_pos (own_gt x 94 94 rfl (by omega)), F1_44, if_neg (own_ne x 96 96 rfl (by omega)), if_neg (own_nl x 123 123 rfl (by omega)), if_pos (own_gt x 182 182 rfl (by omega)), F1_67, if_neg (own_nl x 184 184 rfl (by omega)), if_pos (own_gt x 191 191 rfl (by omega)), F1_83, if_neg (own_ne x 215 215 rfl (by omega)), if_neg (own_ne x 247 247 rfl (by omega)), if_neg (own_ne x 894 894 rfl (by omega)), if_neg (own_nl x 8192 8192 rfl (by omega)), if_pos (own_gt x 8203 8203 rfl (by omega)), F1_122, if_pos (own_lt x 8206 8206 rfl (by omega)), F1_138, if_pos (own_lt x 8257 8257 rfl (by omega)), F1_154, if_pos (own_lt x 8592 8592 rfl (by omega)), F1_170, if_pos (own_lt x 12272 12272 rfl (by omega)), F1_186, if_pos (own_lt x 57344 57344 rfl (by omega)), F1_200, if_pos (own_lt x 64976 64976 rfl (by omega)), F1_214, if_pos (own_lt x 65534 65534 rfl (by omega))]; rfl
  have f3 : F3_0 x = 1 := by rw [F3_0, if_neg (own_nl x 97 97 rfl (by omega)), if_pos (own_gt x 122 122 rfl (by omega)), F3_12, if_neg (own_nl x 65 65 rfl (by omega)), if_pos (own_gt x 90 90 rfl (by omega)), F3_24, if_neg (own_ne x 95 95 rfl (by omega)), if_neg (own_nl x 192 192 rfl (by omega)), if_pos (own_gt x 214 214 rfl (by omega)), F3_44, if_neg (own_nl x 216 216 rfl (by omega)), if_pos (own_gt x 246 246 rfl (by omega)), F3_58, if_neg (own_nl x 248 248 rfl (by omega)), if_pos (own_gt x 767 767 rfl (by omega)), F3_72, if_neg (own_nl x 880 880 rfl (by omega)), if_pos (own_gt x 893 893 rfl (by omega)), F3_86, if_neg (own_nl x 895 895 rfl (by omega)), if_pos (own_gt x 8191 8191 rfl (by omega)), F3_100, if_pos (own_eq x 8204 8204 rfl (by omega)), F3_179]; rfl
  have f2 : F2_0 x = 1 := by rw [F2_0, f3, if_neg (by decide), F2_66]; rfl
  exact ⟨f1, f2⟩
theorem own_iv54 (x : Int32) (h1 : 8205 ≤ x.toInt) (h2 : x.toInt ≤ 8205) : F1_0 x = 0 ∧ F2_0 x = 1 := by
  have f1 : F1_0 x = 0 := by rw [F1_0, if_pos (own_gt x 44 44 rfl (by omega)), if_neg (own_ne x 47 47 rfl (by omega)), if_neg (own_nl x 58 58 rfl (by omega)), if_pos (own_gt x 64 64 rfl (by omega)), F1_30, if_neg (own_nl x 91 91 rfl (by omega)), if_pos (own_gt x 94 94 rfl (by omega)), F1_44, if_neg (own_ne x 96 96 rfl (by omega)), if_neg (own_nl x 123 123 rfl (by omega)), if_pos (own_gt x 182 182 rfl (by omega)), F1_67, if_neg (own_nl x 184 184 rfl (by omega)), if_pos (own_gt x 191 191 rfl (by omega)), F1_83, if_neg (own_ne x 215 215 rfl (by omega)), if_neg (own_ne x 247 247 rfl (by omega)), if_neg (own_ne x 894 894 rfl (by omega)), if_neg (own_nl x 8192 8192 rfl (by omega)), if_pos (own_gt x 8203 8203 rfl (by omega)), F1_122, if_pos (own_lt x 8206 8206 rfl (by omega)), F1_138, if_pos (own_lt x 8257 8257 rfl (by omega)), F1_154, if_pos (own_lt x 8592 8592 rfl (by omega)), F1_170, if_pos (own_lt x 12272 12272 rfl (by omega)), F1_186, if_pos (own_lt x 57344 57344 rfl (by omega)), F1_200, if_pos (own_lt x 64976 64976 rfl (by omega)), F1_214, if_pos (own_lt x 65534 65534 rfl (by omega))]; rfl
  have f3 : F3_0 x = 1 := by rw [F3_0, if_neg (own_nl x 97 97 rfl (by omega)), if_pos (own_gt x 122 122 rfl (by omega)), F3_12, if_neg (own_nl x 65 65 rfl (by omega)), if_pos (own_gt x 90 90 rfl (by omega)), F3_24, if_neg (own_ne x 95 95 rfl (by omega)), if_neg (own_nl x 192 192 rfl (by omega)), if_pos (own_gt x 214 214 rfl (by omega)), F3_44, if_neg (own_nl x 216 216 rfl (by omega)), if_pos (own_gt x 246 246 rfl (by omega)), F3_58, if_neg (own_nl x 248 248 rfl (by omega)), if_pos (own_gt x 767 767 rfl (by omega)), F3_72, if_neg (own_nl x 880 880 rfl (by omega)), if_pos (own_gt x 893 893 rfl (by omega)), F3_86, if_neg (own_nl x 895 895 rfl (by omega)), if_pos (own_gt x 8191 8191 rfl (by omega)), F3_100, if_neg (own_ne x 8204 8204 rfl (by omega)), if_pos (own_eq x 8205 8205 rfl (by omega)), F3_179]; rfl
  have f2 : F2_0 x = 1 := by rw [F2_0, f3, if_neg (by decide), F2_66]; rfl
  exact ⟨f1, f2⟩
theorem own_iv55 (x : Int32) (h1 : 8206 ≤ x.toInt) (h2 : x.toInt ≤ 8206) : F1_0 x = 1 ∧ F2_0 x = 0 := by
  have f1 : F1_0 x = 1 := by rw [F1_0, if_pos (own_gt x 44 44 rfl (by omega)), if_neg (own_ne x 47 47 rfl (by omega)), if_neg (own_nl x 58 58 rfl (by omega)), if_pos (own_gt x 64 64 rfl (by omega)), F1_30, if_neg (own_nl x 91 91 rfl (by omega)), if_pos (own_gt x 94 94 rfl (by omega)), F1_44, if_neg (own_ne x 96 96 rfl (by omega)), if_neg (own_nl x 123 123 rfl (by omega)), if_pos (own_gt x 182 182 rfl (by omega)), F1_67, if_neg (own_nl x 184 184 rfl (by omega)), if_pos (own_gt x 191 191 rfl (by omega)), F1_83, if_neg (own_ne x 215 215 rfl (by omega)), if_neg (own_ne x 247 247 rfl (by omega)), if_neg (own_ne x 894 894 rfl (by omega)), if_neg (own_nl x 8192 8192 rfl (by omega)), if_pos (own_gt x 8203 8203 rfl (by omega)), F1_122, if_neg (own_nl x 8206 8206 rfl (by omega)), if_neg (own_ng x 8254 8254 rfl (by omega))]
  have f3 : F3_0 x = 0 := by rw [F3_0, if_neg (own_nl x 97 97 rfl (by omega)), if_pos (own_gt x 122 122 rfl (by omega)), F3_12, if_neg (own_nl x 65 65 rfl (by omega)), if_pos (own_gt x 90 90 rfl (by omega)), F3_24, if_neg (own_ne x 95 95 rfl (by omega)), if_neg (own_nl x 192 192 rfl (by omega)), if_pos (own_gt x 214 214 rfl (by omega)), F3_44, if_neg (own_nl x 216 216 rfl (by omega)), if_pos (own_gt x 246 246 rfl (by omega)), F3_58, if_neg (own_nl x 248 248 rfl (by omega)), if_pos (own_gt x 767 767 rfl (by omega)), F3_72, if_neg (own_nl x 880 880 rfl (by omega)), if_pos (own_gt x 893 893 rfl (by omega)), F3_86, if_neg (own_nl x 895 895 rfl (by omega)), if_pos (own_gt x 8191 8191 rfl (by omega)), F3_100, if_neg (own_ne x 8204 8204 rfl (by omega)), if_neg (own_ne x 8205 8205 rfl (by omega)), if_pos (own_lt x 8304 8304 rfl (by omega)), F3_128, if_pos (own_lt x 11264 11264 rfl (by omega)), F3_142, if_pos (own_lt x 12289 12289 rfl (by omega)), F3_155, if_pos (own_lt x 63744 63744 rfl (by omega)), F3_167, if_pos (own_lt x 65008 65008 rfl (by omega)), F3_183]; rfl
  have f2 : F2_0 x = 0 := by rw [F2_0, f3, if_pos rfl, if_neg (own_ne x 45 45 rfl (by omega)), if_neg (own_ne x 46 46 rfl (by omega)), if_neg (own_nl x 48 48 rfl (by omega)), if_pos (own_gt x 57 57 rfl (by omega)), F2_31, if_neg (own_ne x 183 183 rfl (by omega)), if_neg (own_nl x 768 768 rfl (by omega)), if_pos (own_gt x 879 879 rfl (by omega)), F2_52, if_neg (own_ne x 8255 8255 rfl (by omega)), if_neg (own_ne x 8256 8256 rfl (by omega))]; rfl
  exact ⟨f1, f2⟩
theorem own_iv56 (x : Int32) (h1 : 8207 ≤ x.toInt) (h2 : x.toInt ≤ 8253) : F1_0 x = 1 ∧ F2_0 x = 0 := by
  have f1 : F1_0 x = 1 := by rw [F1_0, if_pos (own_gt x 44 44 rfl (by omega)), if_neg (own_ne x 47 47 rfl (by omega)), if_neg (own_nl x 58 58 rfl (by omega)), if_pos (own_gt x 64 64 rfl (by omega)), F1_30, if_neg (own_nl x 91 91 rfl (by omega)), if_pos (own_gt x 94 94 rfl (by omega)), F1_44, if_neg (own_ne x 96 96 rfl (by omega)), if_neg (own_nl x 123 123 rfl (by omega)), if_pos (own_gt x 182 182 rfl (by omega)), F1_67, if_neg (own_nl x 184 184 rfl (by omega)), if_pos (own_gt x 191 191 rfl (by omega)), F1_83, if_neg (own_ne x 215 215 rfl (by omega)), if_neg (own_ne x 247 247 rfl (by omega)), if_neg (own_ne x 894 894 rfl (by omega)), if_neg (own_nl x 8192 8192 rfl (by omega)), if_pos (own_gt x 8203 8203 rfl (by omega)), F1_122, if_neg (own_nl x 8206 8206 rfl (by omega)), if_neg (own_ng x 8254 8254 rfl (by omega))]
  have f3 : F3_0 x = 0 := by rw [F3_0, if_neg (own_nl x 97 97 rfl (by omega)), if_pos (own_gt x 122 122 rfl (by omega)), F3_12, if_neg (own_nl x 65 65 rfl (by omega)), if_pos (own_gt x 90 90 rfl (by omega)), F3_24, if_neg (own_ne x 95 95 rfl (by omega)), if_neg (own_nl x 192 192 rfl (by omega)), if_pos (own_gt x 214 214 rfl (by omega)), F3_44, if_neg (own_nl x 216 216 rfl (by omega)), if_pos (own_gt x 246 246 rfl (by omega)), F3_58, if_neg (own_nl x 248 248 rfl (by omega)), if_pos (own_gt x 767 767 rfl (by omega)), F3_72, if_neg (own_nl x 880 880 rfl (by omega)), if_pos (own_gt x 893 893 rfl (by omega)), F3_86, if_neg (own_nl x 895 895 rfl (by omega)), if_pos (own_gt x 8191 8191 rfl (by omega)), F3_100, if_neg (own_ne x 8204 8204 rfl (by omega)), if_neg (own_ne x 8205 8205 rfl (by omega)), if_pos (own_lt x 8304 8304 rfl (by omega)), F3_128, if_pos (own_lt x 11264 11264 rfl (by omega)), F3_142, if_pos (own_lt x 12289 12289 rfl (by omega)), F3_155, if_pos (own_lt x 63744 63744 rfl (by omega)), F3_167, if_pos (own_lt x 65008 65008 rfl (by omega)), F3_183]; rfl
  have f2 : F2_0 x = 0 := by rw [F2_0, f3, if_pos rfl, if_neg (own_ne x 45 45 rfl (by omega)), if_neg (own_ne x 46 46 rfl (by omega)), if_neg (own_nl x 48 48 rfl (by omega)), if_pos (own_gt x 57 57 rfl (by omega)), F2_31, if_neg (own_ne x 183 183 rfl (by omega)), if_neg (own_nl x 768 768 rfl (by omega)), if_pos (own_gt x 879 879 rfl (by omega)), F2_52, if_neg (own_ne x 8255 8255 rfl (by omega)), if_neg (own_ne x 8256 8256 rfl (by omega))]; rfl
  exact ⟨f1, f2⟩
theorem own_iv57 (x : Int32) (h1 : 8254 ≤ x.toInt) (h2 : x.toInt ≤ 8254) : F1_0 x = 1 ∧ F2_0 x = 0 := by
  have f1 : F1_0 x = 1 := by rw [F1_0, if_pos (own_gt x 44 44 rfl (by omega)), if_neg (own_ne x 47 47 rfl (by omega)), if_neg (own_nl x 58 58 rfl (by omega)), if_pos (own_gt x 64 64 rfl (by omega)), F1_30, if_neg (own_nl x 91 91 rfl (by omega)), if_pos (own_gt x 94 94 rfl (by omega)), F1_44, if_neg (own_ne x 96 96 rfl (by omega)), if_neg (own_nl x 123 123 rfl (by omega)), if_pos (own_gt x 182 182 rfl (by omega)), F1_67, if_neg (own_nl x 184 184 rfl (by omega)), if_pos (own_gt x 191 191 rfl (by omega)), F1_83, if_neg (own_ne x 215 215 rfl (by omega)), if_neg (own_ne x 247 247 rfl (by omega)), if_neg (own_ne x 894 894 rfl (by omega)), if_neg (own_nl x 8192 8192 rfl (by omega)), if_pos (own_gt x 8203 8203 rfl (by omega)), F1_122, if_neg (own_nl x 8206 8206 rfl (by omega)), if_neg (own_ng x 8254 8254 rfl (by omega))]
  have f3 : F3_0 x = 0 := by rw [F3_0, if_neg (own_nl x 97 97 rfl (by omega)), if_pos (own_gt x 122 122 rfl (by omega)), F3_12, if_neg (own_nl x 65 65 rfl (by omega)), if_pos (own_gt x 90 90 rfl (by omega)), F3_24, if_neg (own_ne x 95 95 rfl (by omega)), if_neg (own_nl x 192 192 rfl (by omega)), if_pos (own_gt x 214 214 rfl (by omega)), F3_44, if_neg (own_nl x 216 216 rfl (by omega)), if_pos (own_gt x 246 246 rfl (by omega)), F3_58, if_neg (own_nl x 248 248 rfl (by omega)), if_pos (own_gt x 767 767 rfl (by omega)), F3_72, if_neg (own_nl x 880 880 rfl (by omega)), if_pos (own_gt x 893 893 rfl (by omega)), F3_86, if_neg (own_nl x 895 895 rfl (by omega)), if_pos (own_gt x 8191 8191 rfl (by omega)), F3_100, if_neg (own_ne x 8204 8204 rfl (by omega)), if_neg (own_ne x 8205 8205 rfl (by omega)), if_pos (own_lt x 8304 8304 rfl (by omega)), F3_128, if_pos (own_lt x 11264 11264 rfl (by omega)), F3_142, if_pos (own_lt x 12289 12289 rfl (by omega)), F3_155, if_pos (own_lt x 63744 63744 rfl (by omega)), F3_167, if_pos (own_lt x 65008 65008 rfl (by omega)), F3_183]; rfl
  have f2 : F2_0 x = 0 := by rw [F2_0, f3, if_pos rfl, if_neg (own_ne x 45 45 rfl (by omega)), if_neg (own_ne x 46 46 rfl (by omega)), if_neg (own_nl x 48 48 rfl (by omega)), if_pos (own_gt x 57 57 rfl (by omega)), F2_31, if_neg (own_ne x 183 183 rfl (by omega)), if_neg (own_nl x 768 768 rfl (by omega)), if_pos (own_gt x 879 879 rfl (by omega)), F2_52, if_neg (own_ne x 8255 8255 rfl (by omega)), if_neg (own_ne x 8256 8256 rfl (by omega))]; rfl
  exact ⟨f1, f2⟩
theorem own_iv58 (x : Int32) (h1 : 8255 ≤ x.toInt) (h2 : x.toInt ≤ 8255) : F1_0 x = 0 ∧ F2_0 x = 1 := by
  have f1 : F1_0 x = 0 := by rw [F1_0, if_pos (own_gt x 44 44 rfl (by omega)), if_neg (own_ne x 47 47 rfl (by omega)), if_neg (own_nl x 58 58 rfl (by omega)), if_pos (own_gt x 64 64 rfl (by omega)), F1_30, if_neg (own_nl x 91 91 rfl (by omega)), if_pos (own_gt x 94 94 rfl (by omega)), F1_44, if_neg (own_ne x 96 96 rfl (by omega)), if_neg (own_nl x 123 123 rfl (by omega)), if_pos (own_gt x 182 182 rfl (by omega)), F1_67, if_neg (own_nl x 184 184 rfl (by omega)), if_pos (own_gt x 191 191 rfl (by omega)), F1_83, if_neg (own_ne x 215 215 rfl (by omega)), if_neg (own_ne x 247 247 rfl (by omega)), if_neg (own_ne x 894 894 rfl (by omega)), if_neg (own_nl x 8192 8192 rfl (by omega)), if_pos (own_gt x 8203 8203 rfl (by omega)), F1_122, if_neg (own_nl x 8206 8206 rfl (by omega)), if_pos (own_gt x 8254 8254 rfl (by omega)), F1_138, if_pos (own_lt x 8257 8257 rfl (by omega)), F1_154, if_pos (own_lt x 8592 8592 rfl (by omega)), F1_170, if_pos (own_lt x 12272 12272 rfl (by omega)), F1_186, if_pos (own_lt x 57344 57344 rfl (by omega)), F1_200, if_pos (own_lt x 64976 64976 rfl (by omega)), F1_214, if_pos (own_lt x 65534 65534 rfl (by omega))]; rfl
  have f3 : F3_0 x = 0 := by rw [F3_0, if_neg (own_nl x 97 97 rfl (by omega)), if_pos (own_gt x 122 122 rfl (by omega)), F3_12, if_neg (own_nl x 65 65 rfl (by omega)), if_pos (own_gt x 90 90 rfl (by omega)), F3_24, if_neg (own_ne x 95 95 rfl (by omega)), if_neg (own_nl x 192 192 rfl (by omega)), if_pos (own_gt x 214 214 rfl (by omega)), F3_44, if_neg (own_nl x 216 216 rfl (by omega)), if_pos (own_gt x 246 246 rfl (by omega)), F3_58, if_neg (own_nl x 248 248 rfl (by omega)), if_pos (own_gt x 767 767 rfl (by omega)), F3_72, if_neg (own_nl x 880 880 rfl (by omega)), if_pos (own_gt x 893 893 rfl (by omega)), F3_86, if_neg (own_nl x 895 895 rfl (by omega)), if_pos (own_gt x 8191 8191 rfl (by omega)), F3_100, if_neg (own_ne x 8204 8204 rfl (by omega)), if_neg (own_ne x 8205 8205 rfl (by omega)), if_pos (own_lt x 8304 8304 rfl (by omega)), F3_128, if_pos (own_lt x 11264 11264 rfl (by omega)), F3_142, if_pos (own_lt x 12289 12289 rfl (by omega)), F3_155, if_pos (own_lt x 63744 63744 rfl (by omega)), F3_167, if_pos (own_lt x 65008 65008 rfl (by omega)), F3_183]; rfl
  have f2 : F2_0 x = 1 := by rw [F2_0, f3, if_pos rfl, if_neg (own_ne x 45 45 rfl (by omega)), if_neg (own_ne x 46 46 rfl (by omega)), if_neg (own_nl x 48 48 rfl (by omega)), if_pos (own_gt x 57 57 rfl (by omega)), F2_31, if_neg (own_ne x 183 183 rfl (by omega)), if_neg (own_nl x 768 768 rfl (by omega)), if_pos (own_gt x 879 879 rfl (by omega)), F2_52, if_pos (own_eq x 8255 8255 rfl (by omega)), F2_66]; rfl
  exact ⟨f1, f2⟩
theorem own_iv59 (x : Int32) (h1 : 8256 ≤ x.toInt) (h2 : x.toInt ≤ 8256) : F1_0 x = 0 ∧ F2_0 x = 1 := by
  have f1 : F1_0 x = 0 := by rw [F1_0, if_pos (own_gt x 44 44 rfl (by omega)), if_neg (own_ne x 47 47 rfl (by omega)), if_neg (own_nl x 58 58 rfl (by omega)), if_pos (own_gt x 64 64 rfl (by omega)), F1_30, if_neg (own_nl x 91 91 rfl (by omega)), if_pos (own_gt x 94 94 rfl (by omega)), F1_44, if_neg (own_ne x 96 96 rfl (by omega)), if_neg (own_nl x 123 123 rfl (by omega)), if_pos (own_gt x 182 182 rfl (by omega)), F1_67, if_neg (own_nl x 184 184 rfl (by omega)), if_pos (own_gt x 191 191 rfl (by omega)), F1_83, if_neg (own_ne x 215 215 rfl (by omega)), if_neg (own_ne x 247 247 rfl (by omega)), if_neg (own_ne x 894 894 rfl (by omega)), if_neg (own_nl x 8192 8192 rfl (by omega)), if_pos (own_gt x 8203 8203 rfl (by omega)), F1_122, if_neg (own_nl x 8206 8206 rfl (by omega)), if_pos (own_gt x 8254 8254 rfl (by omega)), F1_138, if_pos (own_lt x 8257 8257 rfl (by omega)), F1_154, if_pos (own_lt x 8592 8592 rfl (by omega)), F1_170, if_pos (own_lt x 12272 12272 rfl (by omega)), F1_186, if_pos (own_lt x 57344 57344 rfl (by omega)), F1_200, if_pos (own_lt x 64976 64976 rfl (by omega)), F1_214, if_pos (own_lt x 65534 65534 rfl (by omega))]; rfl
  have f3 : F3_0 x = 0 := by rw [F3_0, if_neg (own_nl x 97 97 rfl (by omega)), if_pos (own_gt x 122 122 rfl (by omega)), F3_12, if_neg (own_nl x 65 65 rfl (by omega)), if_pos (own_gt x 90 90 rfl (by omega)), F3_24, if_neg (own_ne x 95 95 rfl (by omega)), if_neg (own_nl x 192 192 rfl (by omega)), if_pos (own_gt x 214 214 rfl (by omega)), F3_44, if_neg (own_nl x 216 216 rfl (by omega)), if_pos (own_gt x 246 246 rfl (by omega)), F3_58, if_neg (own_nl x 248 248 rfl (by omega)), if_pos (own_gt x 767 767 rfl (by omega)), F3_72, if_neg (own_nl x 880 880 rfl (by omega)), if_pos (own_gt x 893 893 rfl (by omega)), F3_86, if_neg (own_nl x 895 895 rfl (by omega)), if_pos (own_gt x 8191 8191 rfl (by omega)), F3_100, if_neg (own_ne x 8204 8204 rfl (by omega)), if_neg (own_ne x 8205 8205 rfl (by omega)), if_pos (own_lt x 8304 8304 rfl (by omega)), F3_128, if_pos (own_lt x 11264 11264 rfl (by omega)), F3_142, if_pos (own_lt x 12289 12289 rfl (by omega)), F3_155, if_pos (own_lt x 63744 63744 rfl (by omega)), F3_167, if_pos (own_lt x 65008 65008 rfl (by omega)), F3_183]; rfl
  have f2 : F2_0 x = 1 := by rw [F2_0, f3, if_pos rfl, if_neg (own_ne x 45 45 rfl (by omega)), if_neg (own_ne x 46 46 rfl (by omega)), if_neg (own_nl x 48 48 rfl (by omega)), if_pos (own_gt x 57 57 rfl (by omega)), F2_31, if_neg (own_ne x 183 183 rfl (by omega)), if_neg (own_nl x 768 768 rfl (by omega)), if_pos (own_gt x 879 879 rfl (by omega)), F2_52, if_neg (own_ne x 8255 8255 rfl (by omega)), if_pos (own_eq x 8256 8256 rfl (by omega)), F2_66]; rfl
  exact ⟨f1, f2⟩
theorem own_iv60 (x : Int32) (h1 : 8257 ≤ x.toInt) (h2 : x.toInt ≤ 8257) : F1_0 x = 1 ∧ F2_0 x = 0 := by
  have f1 : F1_0 x = 1 := by rw [F1_0, if_pos (own_gt x 44 44 rfl (by omega)), if_neg (own_ne x 47 47 rfl (by omega)), if_neg (own_nl x 58 58 rfl (by omega)), if_pos (own_gt x 64 64 rfl (by omega)), F1_30, if_neg (own_nl x 91 91 rfl (by omega)), if_pos (own_gt x 94 94 rfl (by omega)), F1_44, if_neg (own_ne x 96 96 rfl (by omega)), if_neg (own_nl x 123 123 rfl (by omega)), if_pos (own_gt x 182 182 rfl (by omega)), F1_67, if_neg (own_nl x 184 184 rfl (by omega)), if_pos (own_gt x 191 191 rfl (by omega)), F1_83, if_neg (own_ne x 215 215 rfl (by omega)), if_neg (own_ne x 247 247 rfl (by omega)), if_neg (own_ne x 894 894 rfl (by omega)), if_neg (own_nl x 8192 8192 rfl (by omega)), if_pos (own_gt x 8203 8203 rfl (by omega)), F1_122, if_neg (own_nl x 8206 8206 rfl (by omega)), if_pos (own_gt x 8254 8254 rfl (by omega)), F1_138, if_neg (own_nl x 8257 8257 rfl (by omega)), if_neg (own_ng x 8303 8303 rfl (by omega))]
  have f3 : F3_0 x = 0 := by rw [F3_0, if_neg (own_nl x 97 97 rfl (by omega)), if_pos (own_gt x 122 122 rfl (by omega)), F3_12, if_neg (own_nl x 65 65 rfl (by omega)), if_pos (own_gt x 90 90 rfl (by omega)), F3_24, if_neg (own_ne x 95 95 rfl (by omega)), if_neg (own_nl x 192 192 rfl (by omega)), if_pos (own_gt x 214 214 rfl (by omega)), F3_44, if_neg (own_nl x 216 216 rfl (by omega)), if_pos (own_gt x 246 246 rfl (by omega)), F3_58, if_neg (own_nl x 248 248 rfl (by omega)), if_pos (own_gt x 767 767 rfl (by omega)), F3_72, if_neg (own_nl x 880 880 rfl (by omega)), if_pos (own_gt x 893 893 rfl (by omega)), F3_86, if_neg (own_nl x 895 895 rfl (by omega)), if_pos (own_gt x 8191 8191 rfl (by omega)), F3_100, if_neg (own_ne x 8204 8204 rfl (by omega)), if_neg (own_ne x 8205 8205 rfl (by omega)), if_pos (own_lt x 8304 8304 rfl (by omega)), F3_128, if_pos (own_lt x 11264 11264 rfl (by omega)), F3_142, if_pos (own_lt x 12289 12289 rfl (by omega)), F3_155, if_pos (own_lt x 63744 63744 rfl (by omega)), F3_167, if_pos (own_lt x 65008 65008 rfl (by omega)), F3_183]; rfl
  have f2 : F2_0 x = 0 := by rw [F2_0, f3, if_pos rfl, if_neg (own_ne x 45 45 rfl (by omega)), if_neg (own_ne x 46 46 rfl (by omega)), if_neg (own_nl x 48 48 rfl (by omega)), if_pos (own_gt x 57 57 rfl (by omega)), F2_31, if_neg (own_ne x 183 183 rfl (by omega)), if_neg (own_nl x 768 768 rfl (by omega)), if_pos (own_gt x 879 879 rfl (by omega)), F2_52, if_neg (own_ne x 8255 8255 rfl (by omega)), if_neg (own_ne x 8256 8256 rfl (by omega))]; rfl
  exact ⟨f1, f2⟩
theorem own_iv61 (x : Int32) (h1 : 8258 ≤ x.toInt) (h2 : x.toInt ≤ 8302) : F1_0 x = 1 ∧ F2_0 x = 0 := by
  have f1 : F1_0 x = 1 := by rw [F1_0, if_pos (own_gt x 44 44 rfl (by omega)), if_neg (own_ne x 47 47 rfl (by omega)), if_neg (own_nl x 58 58 rfl (by omega)), if_pos (own_gt x 64 64 rfl (by omega)), F1_30, if_neg (own_nl x 91 91 rfl (by omega)), if_pos (own_gt x 94 94 rfl (by omega)), F1_44, if_neg (own_ne x 96 96 rfl (by omega)), if_neg (own_nl x 123 123 rfl (by omega)), if_pos (own_gt x 182 182 rfl (by omega)), F1_67, if_neg (own_nl x 184 184 rfl (by omega)), if_pos (own_gt x 191 191 rfl (by omega)), F1_83, if_neg (own_ne x 215 215 rfl (by omega)), if_neg (own_ne x 247 247 rfl (by omega)), if_neg (own_ne x 894 894 rfl (by omega)), if_neg (own_nl x 8192 8192 rfl (by omega)), if_pos (own_gt x 8203 8203 rfl (by omega)), F1_122, if_neg (own_nl x 8206 8206 rfl (by omega)), if_pos (own_gt x 8254 8254 rfl (by omega)), F1_138, if_neg (own_nl x 8257 8257 rfl (by omega)), if_neg (own_ng x 8303 8303 rfl (by omega))]
  have f3 : F3_0 x = 0 := by rw [F3_0, if_neg (own_nl x 97 97 rfl (by omega)), if_pos (own_gt x 122 122 rfl (by omega)), F3_12, if_neg (own_nl x 65 65 rfl (by omega)), if_pos (own_gt x 90 90 rfl (by omega)), F3_24, if_neg (own_ne x 95 95 rfl (by omega)), if_neg (own_nl x 192 192 rfl (by omega)), if_pos (own_gt x 214 214 rfl (by omega)), F3_44, if_neg (own_nl x 216 216 rfl (by omega)), if_pos (own_gt x 246 246 rfl (by omega)), F3_58, if_neg (own_nl x 248 248 rfl (by omega)), if_pos (own_gt x 767 767 rfl (by omega)), F3_72, if_neg (own_nl x 880 880 rfl (by omega)), if_pos (own_gt x 893 893 rfl (by omega)), F3_86, if_neg (own_nl x 895 895 rfl (by omega)), if_pos (own_gt x 8191 8191 rfl (by omega)), F3_100, if_neg (own_ne x 8204 8204 rfl (by omega)), if_neg (own_ne x 8205 8205 rfl (by omega)), if_pos (own_lt x 8304 8304 rfl (by omega)), F3_128, if_pos (own_lt x 11264 11264 rfl (by omega)), F3_142, if_pos (own_lt x 12289 12289 rfl (by omega)), F3_155, if_pos (own_lt x 63744 63744 rfl (by omega)), F3_167, if_pos (own_lt x 65008 65008 rfl (by omega)), F3_183]; rfl
  have f2 : F2_0 x = 0 := by rw [F2_0, f3, if_pos rfl, if_neg (own_ne x 45 45 rfl (by omega)), if_neg (own_ne x 46 46 rfl (by omega)), if_neg (own_nl x 48 48 rfl (by omega)), if_pos (own_gt x 57 57 rfl (by omega)), F2_31, if_neg (own_ne x 183 183 rfl (by omega)), if_neg (own_nl x 768 768 rfl (by omega)), if_pos (own_gt x 879 879 rfl (by omega)), F2_52, if_neg (own_ne x 8255 8255 rfl (by omega)), if_neg (own_ne x 8256 8256 rfl (by omega))]; rfl
  exact ⟨f1, f2⟩
theorem own_iv62 (x : Int32) (h1 : 8303 ≤ x.toInt) (h2 : x.toInt ≤ 8303) : F1_0 x = 1 ∧ F2_0 x = 0 := by
  have f1 : F1_0 x = 1 := by rw [F1_0, if_pos (own_gt x 44 44 rfl (by omega)), if_neg (own_ne x 47 47 rfl (by omega)), if_neg (own_nl x 58 58 rfl (by omega)), if_pos (own_gt x 64 64 rfl (by omega)), F1_30, if_neg (own_nl x 91 91 rfl (by omega)), if_pos (own_gt x 94 94 rfl (by omega)), F1_44, if_neg (own_ne x 96 96 rfl (by omega)), if_neg (own_nl x 123 123 rfl (by omega)), if_pos (own_gt x 182 182 rfl (by omega)), F1_67, if_neg (own_nl x 184 184 rfl (by omega)), if_pos (own_gt x 191 191 rfl (by omega)), F1_83, if_neg (own_ne x 215 215 rfl (by omega)), if_neg (own_ne x 247 247 rfl (by omega)), if_neg (own_ne x 894 894 rfl (by omega)), if_neg (own_nl x 8192 8192 rfl (by omega)), if_pos (own_gt x 8203 8203 rfl (by omega)), F1_122, if_neg (own_nl x 8206 8206 rfl (by omega)), if_pos (own_gt x 8254 8254 rfl (by omega)), F1_138, if_neg (own_nl x 8257 8257 rfl (by omega)), if_neg (own_ng x 8303 8303 rfl (by omega))]
  have f3 : F3_0 x = 0 := by rw [F3_0, if_neg (own_nl x 97 97 rfl (by omega)), if_pos (own_gt x 122 122 rfl (by omega)), F3_12, if_neg (own_nl x 65 65 rfl (by omega)), if_pos (own_gt x 90 90 rfl (by omega)), F3_24, if_neg (own_ne x 95 95 rfl (by omega)), if_neg (own_nl x 192 192 rfl (by omega)), if_pos (own_gt x 214 214 rfl (by omega)), F3_44, if_neg (own_nl x 216 216 rfl (by omega)), if_pos (own_gt x 246 246 rfl (by omega)), F3_58, if_neg (own_nl x 248 248 rfl (by omega)), if_pos (own_gt x 767 767 rfl (by omega)), F3_72, if_neg (own_nl x 880 880 rfl (by omega)), if_pos (own_gt x 893 893 rfl (by omega)), F3_86, if_neg (own_nl x 895 895 rfl (by omega)), if_pos (own_gt x 8191 8191 rfl (by omega)), F3_100, if_neg (own_ne x 8204 8204 rfl (by omega)), if_neg (own_ne x 8205 8205 rfl (by omega)), if_pos (own_lt x 8304 8304 rfl (by omega)), F3_128, if_pos (own_lt x 11264 11264 rfl (by omega)), F3_142, if_pos (own_lt x 12289 12289 rfl (by omega)), F3_155, if_pos (own_lt x 63744 63744 rfl (by omega)), F3_167, if_pos (own_lt x 65008 65008 rfl (by omega)), F3_183]; rfl
  have f2 : F2_0 x = 0 := by rw [F2_0, f3, if_pos rfl, if_neg (own_ne x 45 45 rfl (by omega)), if_neg (own_ne x 46 46 rfl (by omega)), if_neg (own_nl x 48 48 rfl (by omega)), if_pos (own_gt x 57 57 rfl (by omega)), F2_31, if_neg (own_ne x 183 183 rfl (by omega)), if_neg (own_nl x 768 768 rfl (by omega)), if_pos (own_gt x 879 879 rfl (by omega)), F2_52, if_neg (own_ne x 8255 8255 rfl (by omega)), if_neg (own_ne x 8256 8256 rfl (by omega))]; rfl
  exact ⟨f1, f2⟩
theorem own_iv63 (x : Int32) (h1 : 8304 ≤ x.toInt) (h2 : x.toInt ≤ 8304) : F1_0 x = 0 ∧ F2_0 x = 1 := by
  have f1 : F1_0 x = 0 := by rw [F1_0, if_pos (own_gt x 44 44 rfl (by omega)), if_neg (own_ne x 47 47 rfl (by omega)), if_neg (own_nl x 58 58 rfl (by omega)), if_pos (own_gt x 64 64 rfl (by omega)), F1_30, if_neg (own_nl x 91 91 rfl (by omega)), if_pos (own_gt x 94 94 rfl (by omega)), F1_44, if_neg (own_ne x 96 96 rfl (by omega)), if_neg (own_nl x 123 123 rfl (by omega)), if_pos (own_gt x 182 182 rfl (by omega)), F1_67, if_neg (own_nl x 184 184 rfl (by omega)), if_pos (own_gt x 191 191 rfl (by omega)), F1_83, if_neg (own_ne x 215 215 rfl (by omega)), if_neg (own_ne x 247 247 rfl (by omega)), if_neg (own_ne x 894 894 rfl (by omega)), if_neg (own_nl x 8192 8192 rfl (by omega)), if_pos (own_gt x 8203 8203 rfl (by omega)), F1_122, if_neg (own_nl x 8206 8206 rfl (by omega)), if_pos (own_gt x 8254 8254 rfl (by omega)), F1_138, if_neg (own_nl x 8257 8257 rfl (by omega)), if_pos (own_gt x 8303 8303 rfl (by omega)), F1_154, if_pos (own_lt x 8592 8592 rfl (by omega)), F1_170, if_pos (own_lt x 12272 12272 rfl (by omega)), F1_186, if_pos (own_lt x 57344 57344 rfl (by omega)), F1_200, if_pos (own_lt x 64976 64976 rfl (by omega)), F1_214, if_pos (own_lt x 65534 65534 rfl (by omega))]; rfl
  have f3 : F3_0 x = 1 := by rw [F3_0, if_neg (own_nl x 97 97 rfl (by omega)), if_pos (own_gt x 122 122 rfl (by omega)), F3_12, if_neg (own_nl x 65 65 rfl (by omega)), if_pos (own_gt x 90 90 rfl (by omega)), F3_24, if_neg (own_ne x 95 95 rfl (by omega)), if_neg (own_nl x 192 192 rfl (by omega)), if_pos (own_gt x 214 214 rfl (by omega)), F3_44, if_neg (own_nl x 216 216 rfl (by omega)), if_pos (own_gt x 246 246 rfl (by omega)), F3_58, if_neg (own_nl x 248 248 rfl (by omega)), if_pos (own_gt x 767 767 rfl (by omega)), F3_72, if_neg (own_nl x 880 880 rfl (by omega)), if_pos (own_gt x 893 893 rfl (by omega)), F3_86, if_neg (own_nl x 895 895 rfl (by omega)), if_pos (own_gt x 8191 8191 rfl (by omega)), F3_100, if_neg (own_ne x 8204 8204 rfl (by omega)), if_neg (own_ne x 8205 8205 rfl (by omega)), if_neg (own_nl x 8304 8304 rfl (by omega)), if_neg (own_ng x 8591 8591 rfl (by omega)), F3_179]; rfl
  have f2 : F2_0 x = 1 := by rw [F2_0, f3, if_neg (by decide), F2_66]; rfl
  exact ⟨f1, f2⟩
theorem own_iv64 (x : Int32) (h1 : 8305 ≤ x.toInt) (h2 : x.toInt ≤ 8590) : F1_0 x = 0 ∧ F2_0 x = 1 := by
  have f1 : F1_0 x = 0 := by rw [F1_0, if_pos (own_gt x 44 44 rfl (by omega)), if_neg (own_ne x 47 47 rfl (by omega)), if_neg (own_nl x 58 58 rfl (by omega)), if_pos (own_gt x 64 64 rfl (by omega)), F1_30, if_neg (own_nl x 91 91 rfl (by omega)), if_pos (own_gt x 94 94 rfl (by omega)), F1_44, if_neg (own_ne x 96 96 rfl (by omega)), if_neg (own_nl x 123 123 rfl (by omega)), if_pos (own_gt x 182 182 rfl (by omega)), F1_67, if_neg (own_nl x 184 184 rfl (by omega)), if_pos (own_gt x 191 191 rfl (by omega)), F1_83, if_neg (own_ne x 215 215 rfl (by omega)), if_neg (own_ne x 247 247 rfl (by omega)), if_neg (own_ne x 894 894 rfl (by omega)), if_neg (own_nl x 8192 8192 rfl (by omega)), if_pos (own_gt x 8203 8203 rfl (by omega)), F1_122, if_neg (own_nl x 8206 8206 rfl (by omega)), if_pos (own_gt x 8254 8254 rfl (by omega)), F1_138, if_neg (own_nl x 8257 8257 rfl (by omega)), if_pos (own_gt x 8303 8303 rfl (by omega)), F1_154, if_pos (own_lt x 8592 8592 rfl (by omega)), F1_170, if_pos (own_lt x 12272 12272 rfl (by omega)), F1_186, if_pos (own_lt x 57344 57344 rfl (by omega)), F1_200, if_pos (own_lt x 64976 64976 rfl (by omega)), F1_214, if_pos (own_lt x 65534 65534 rfl (by omega))]; rfl
  have f3 : F3_0 x = 1 := by rw [F3_0, if_neg (own_nl x 97 97 rfl (by omega)), if_pos (own_gt x 122 122 rfl (by omega)), F3_12, if_neg (own_nl x 65 65 rfl (by omega)), if_pos (own_gt x 90 90 rfl (by omega)), F3_24, if_neg (own_ne x 95 95 rfl (by omega)), if_neg (own_nl x 192 192 rfl (by omega)), if_pos (own_gt x 214 214 rfl (by omega)), F3_44, if_neg (own_nl x 216 216 rfl (by omega)), if_pos (own_gt x 246 246 rfl (by omega)), F3_58, if_neg (own_nl x 248 248 rfl (by omega)), if_pos (own_gt x 767 767 rfl (by omega)), F3_72, if_neg (own_nl x 880 880 rfl (by omega)), if_pos (own_gt x 893 893 rfl (by omega)), F3_86, if_neg (own_nl x 895 895 rfl (by omega)), if_pos (own_gt x 8191 8191 rfl (by omega)), F3_100, if_neg (own_ne x 8204 8204 rfl (by omega)), if_neg (own_ne x 8205 8205 rfl (by omega)), if_neg (own_nl x 8304 8304 rfl (by omega)), if_neg (own_ng x 8591 8591 rfl (by omega)), F3_179]; rfl
  have f2 : F2_0 x = 1 := by rw [F2_0, f3, if_neg (by decide), F2_66]; rfl
  exact ⟨f1, f2⟩
theorem own_iv65 (x : Int32) (h1 : 8591 ≤ x.toInt) (h2 : x.toInt ≤ 8591) : F1_0 x = 0 ∧ F2_0 x = 1 := by
  have f1 : F1_0 x = 0 := by rw [F1_0, if_pos (own_gt x 44 44 rfl (by omega)), if_neg (own_ne x 47 47 rfl (by omega)), if_neg (own_nl x 58 58 rfl (by omega)), if_pos (own_gt x 64 64 rfl (by omega)), F1_30, if_neg (own_nl x 91 91 rfl (by omega)), if_pos (own_gt x 94 94 rfl (by omega)), F1_44, if_neg (own_ne x 96 96 rfl (by omega)), if_neg (own_nl x 123 123 rfl (by omega)), if_pos (own_gt x 182 182 rfl (by omega)), F1_67, if_neg (own_nl x 184 184 rfl (by omega)), if_pos (own_gt x 191 191 rfl (by omega)), F1_83, if_neg (own_ne x 215 215 rfl (by omega)), if_neg (own_ne x 247 247 rfl (by omega)), if_neg (own_ne x 894 894 rfl (by omega)), if_neg (own_nl x 8192 8192 rfl (by omega)), if_pos (own_gt x 8203 8203 rfl (by omega)), F1_122, if_neg (own_nl x 8206 8206 rfl (by omega)), if_pos (own_gt x 8254 8254 rfl (by omega)), F1_138, if_neg (own_nl x 8257 8257 rfl (by omega)), if_pos (own_gt x 8303 8303 rfl (by omega)), F1_154, if_pos (own_lt x 8592 8592 rfl (by omega)), F1_170, if_pos (own_lt x 12272 12272 rfl (by omega)), F1_186, if_pos (own_lt x 57344 57344 rfl (by omega)), F1_200, if_pos (own_lt x 64976 64976 rfl (by omega)), F1_214, if_pos (own_lt x 65534 65534 rfl (by omega))]; rfl
  have f3 : F3_0 x = 1 := by rw [F3_0, if_neg (own_nl x 97 97 rfl (by omega)), if_pos (own_gt x 122 122 rfl (by omega)), F3_12, if_neg (own_nl x 65 65 rfl (by omega)), if_pos (own_gt x 90 90 rfl (by omega)), F3_24, if_neg (own_ne x 95 95 rfl (by omega)), if_neg (own_nl x 192 192 rfl (by omega)), if_pos (own_gt x 214 214 rfl (by omega)), F3_44, if_neg (own_nl x 216 216 rfl (by omega)), if_pos (own_gt x 246 246 rfl (by omega)), F3_58, if_neg (own_nl x 248 248 rfl (by omega)), if_pos (own_gt x 767 767 rfl (by omega)), F3_72, if_neg (own_nl x 880 880 rfl (by omega)), if_pos (own_gt x 893 893 rfl (by omega)), F3_86, if_neg (own_nl x 895 895 rfl (by omega)), if_pos (own_gt x 8191 8191 rfl (by omega)), F3_100, if_neg (own_ne x 8204 8204 rfl (by omega)), if_neg (own_ne x 8205 8205 rfl (by omega)), if_neg (own_nl x 8304 8304 rfl (by omega)), if_neg (own_ng x 8591 8591 rfl (by omega)), F3_179]; rfl
  have f2 : F2_0 x = 1 := by rw [F2_0, f3, if_neg (by decide), F2_66]; rfl
  exact ⟨f1, f2⟩
theorem own_iv66 (x : Int32) (h1 : 8592 ≤ x.toInt) (h2 : x.toInt ≤ 8592) : F1_0 x = 1 ∧ F2_0 x = 0 := by
  have f1 : F1_0 x = 1 := by rw [F1_0, if_pos (own_gt x 44 44 rfl (by omega)), if_neg (own_ne x 47 47 rfl (by omega)), if_neg (own_nl x 58 58 rfl (by omega)), if_pos (own_gt x 64 64 rfl (by omega)), F1_30, if_neg (own_nl x 91 91 rfl (by omega)), if_pos (own_gt x 94 94 rfl (by omega)), F1_44, if_neg (own_ne x 96 96 rfl (by omega)), if_neg (own_nl x 123 123 rfl (by omega)), if_pos (own_gt x 182 182 rfl (by omega)), F1_67, if_neg (own_nl x 184 184 rfl (by omega)), if_pos (own_gt x 191 191 rfl (by omega)), F1_83, if_neg (own_ne x 215 215 rfl (by omega)), if_neg (own_ne x 247 247 rfl (by omega)), if_neg (own_ne x 894 894 rfl (by omega)), if_neg (own_nl x 8192 8192 rfl (by omega)), if_pos (own_gt x 8203 8203 rfl (by omega)), F1_122, if_neg (own_nl x 8206 8206 rfl (by omega)), if_pos (own_gt x 8254 8254 rfl (by omega)), F1_138, if_neg (own_nl x 8257 8257 rfl (by omega)), if_pos (own_gt x 8303 8303 rfl (by omega)), F1_154, if_neg (own_nl x 8592 8592 rfl (by omega)), if_neg (own_ng x 11263 11263 rfl (by omega))]
  have f3 : F3_0 x = 0 := by rw [F3_0, if_neg (own_nl x 97 97 rfl (by omega)), if_pos (own_gt x 122 122 rfl (by omega)), F3_12, if_neg (own_nl x 65 65 rfl (by omega)), if_pos (own_gt x 90 90 rfl (by omega)), F3_24, if_neg (own_ne x 95 95 rfl (by omega)), if_neg (own_nl x 192 192 rfl (by omega)), if_pos (own_gt x 214 214 rfl (by omega)), F3_44, if_neg (own_nl x 216 216 rfl (by omega)), if_pos (own_gt x 246 246 rfl (by omega)), F3_58, if_neg (own_nl x 248 248 rfl (by omega)), if_pos (own_gt x 767 767 rfl (by omega)), F3_72, if_neg (own_nl x 880 880 rfl (by omega)), if_pos (own_gt x 893 893 rfl (by omega)), F3_86, if_neg (own_nl x 895 895 rfl (by omega)), if_pos (own_gt x 8191 8191 rfl (by omega)), F3_100, if_neg (own_ne x 8204 8204 rfl (by omega)), if_neg (own_ne x 8205 8205 rfl (by omega)), if_neg (own_nl x 8304 8304 rfl (by omega)), if_pos (own_gt x 8591 8591 rfl (by omega)), F3_128, if_pos (own_lt x 11264 11264 rfl (by omega)), F3_142, if_pos (own_lt x 12289 12289 rfl (by omega)), F3_155, if_pos (own_lt x 63744 63744 rfl (by omega)), F3_167, if_pos (own_lt x 65008 65008 rfl (by omega)), F3_183]; rfl
  have f2 : F2_0 x = 0 := by rw [F2_0, f3, if_pos rfl, if_neg (own_ne x 45 45 rfl (by omega)), if_neg (own_ne x 46 46 rfl (by omega)), if_neg (own_nl x 48 48 rfl (by omega)), if_pos (own_gt x 57 57 rfl (by omega)), F2_31, if_neg (own_ne x 183 183 rfl (by omega)), if_neg (own_nl x 768 768 rfl (by omega)), if_pos (own_gt x 879 879 rfl (by omega)), F2_52, if_neg (own_ne x 8255 8255 rfl (by omega)), if_neg (own_ne x 8256 8256 rfl (by omega))]; rfl
  exact ⟨f1, f2⟩
theorem own_iv67 (x : Int32) (h1 : 8593 ≤ x.toInt) (h2 : x.toInt ≤ 11262) : F1_0 x = 1 ∧ F2_0 x = 0 := by
  have f1 : F1_0 x = 1 := by rw [F1_0, if_pos (own_gt x 44 44 rfl (by omega)), if_neg (own_ne x 47 47 rfl (by omega)), if_neg (own_nl x 58 58 rfl (by omega)), if_pos (own_gt x 64 64 rfl (by omega)), F1_30, if_neg (own_nl x 91 91 rfl (by omega)), if_pos (own_gt x 94 94 rfl (by omega)), F1_44, if_neg (own_ne x 96 96 rfl (by omega)), if_neg (own_nl x 123 123 rfl (by omega)), if_pos (own_gt x 182 182 rfl (by omega)), F1_67, if_neg (own_nl x 184 184 rfl (by omega)), if_pos (own_gt x 191 191 rfl (by omega)), F1_83, if_neg (own_ne x 215 215 rfl (by omega)), if_neg (own_ne x 247 247 rfl (by omega)), if_neg (own_ne x 894 894 rfl (by omega)), if_neg (own_nl x 8192 8192 rfl (by omega)), if_pos (own_gt x 8203 8203 rfl (by omega)), F1_122, if_neg (own_nl x 8206 8206 rfl (by omega)), if_pos (own_gt x 8254 8254 rfl (by omega)), F1_138, if_neg (own_nl x 8257 8257 rfl (by omega)), if_pos (own_gt x 8303 8303 rfl (by omega)), F1_154, if_neg (own_nl x 8592 8592 rfl (by omega)), if_neg (own_ng x 11263 11263 rfl (by omega))]
  have f3 : F3_0 x = 0 := by rw [F3_0, if_neg (own_nl x 97 97 rfl (by omega)), if_pos (own_gt x 122 122 rfl (by omega)), F3_12, if_neg (own_nl x 65 65 rfl (by omega)), if_pos (own_gt x 90 90 rfl (by omega)), F3_24, if_neg (own_ne x 95 95 rfl (by omega)), if_neg (own_nl x 192 192 rfl (by omega)), if_pos (own_gt x 214 214 rfl (by omega)), F3_44, if_neg (own_nl x 216 216 rfl (by omega)), if_pos (own_gt x 246 246 rfl (by omega)), F3_58, if_neg (own_nl x 248 248 rfl (by omega)), if_pos (own_gt x 767 767 rfl (by omega)), F3_72, if_neg (own_nl x 880 880 rfl (by omega)), if_pos (own_gt x 893 893 rfl (by omega)), F3_86, if_neg (own_nl x 895 895 rfl (by omega)), if_pos (own_gt x 8191 8191 rfl (by omega)), F3_100, if_neg (own_ne x 8204 8204 rfl (by omega)), if_neg (own_ne x 8205 8205 rfl (by omega)), if_neg (own_nl x 8304 8304 rfl (by omega)), if_pos (own_gt x 8591 8591 rfl (by omega)), F3_128, if_pos (own_lt x 11264 11264 rfl (by omega)), F3_142, if_pos (own_lt x 12289 12289 rfl (by omega)), F3_155, if_pos (own_lt x 63744 63744 rfl (by omega)), F3_167, if_pos (own_lt x 65008 65008 rfl (by omega)), F3_183]; rfl
  have f2 : F2_0 x = 0 := by rw [F2_0, f3, if_pos rfl, if_neg (own_ne x 45 45 rfl (by omega)), if_neg (own_ne x 46 46 rfl (by omega)), if_neg (own_nl x 48 48 rfl (by omega)), if_pos (own_gt x 57 57 rfl (by omega)), F2_31, if_neg (own_ne x 183 183 rfl (by omega)), if_neg (own_nl x 768 768 rfl (by omega)), if_pos (own_gt x 879 879 rfl (by omega)), F2_52, if_neg (own_ne x 8255 8255 rfl (by omega)), if_neg (own_ne x 8256 8256 rfl (by omega))]; rfl
  exact ⟨f1, f2⟩
theorem own_iv68 (x : Int32) (h1 : 11263 ≤ x.toInt) (h2 : x.toInt ≤ 11263) : F1_0 x = 1 ∧ F2_0 x = 0 := by
  have f1 : F1_0 x = 1 := by rw [F1_0, if_pos (own_gt x 44 44 rfl (by omega)), if_neg (own_ne x 47 47 rfl (by omega)), if_neg (own_nl x 58 58 rfl (by omega)), if_pos (own_gt x 64 64 rfl (by omega)), F1_30, if_neg (own_nl x 91 91 rfl (by omega)), if_pos (own_gt x 94 94 rfl (by omega)), F1_44, if_neg (own_ne x 96 96 rfl (by omega)), if_neg (own_nl x 123 123 rfl (by omega)), if_pos (own_gt x 182 182 rfl (by omega)), F1_67, if_neg (own_nl x 184 184 rfl (by omega)), if_pos (own_gt x 191 191 rfl (by omega)), F1_83, if_neg (own_ne x 215 215 rfl (by omega)), if_neg (own_ne x 247 247 rfl (by omega)), if_neg (own_ne x 894 894 rfl (by omega)), if_neg (own_nl x 8192 8192 rfl (by omega)), if_pos (own_gt x 8203 8203 rfl (by omega)), F1_122, if_neg (own_nl x 8206 8206 rfl (by omega)), if_pos (own_gt x 8254 8254 rfl (by omega)), F1_138, if_neg (own_nl x 8257 8257 rfl (by omega)), if_pos (own_gt x 8303 8303 rfl (by omega)), F1_154, if_neg (own_nl x 8592 8592 rfl (by omega)), if_neg (own_ng x 11263 11263 rfl (by omega))]
  have f3 : F3_0 x = 0 := by rw [F3_0, if_neg (own_nl x 97 97 rfl (by omega)), if_pos (own_gt x 122 122 rfl (by omega)), F3_12, if_neg (own_nl x 65 65 rfl (by omega)), if_pos (own_gt x 90 90 rfl (by omega)), F3_24, if_neg (own_ne x 95 95 rfl (by omega)), if_neg (own_nl x 192 192 rfl (by omega)), if_pos (own_gt x 214 214 rfl (by omega)), F3_44, if_neg (own_nl x 216 216 rfl (by omega)), if_pos (own_gt x 246 246 rfl (by omega)), F3_58, if_neg (own_nl x 248 248 rfl (by omega)), if_pos (own_gt x 767 767 rfl (by omega)), F3_72, if_neg (own_nl x 880 880 rfl (by omega)), if_pos (own_gt x 893 893 rfl (by omega)), F3_86, if_neg (own_nl x 895 895 rfl (by omega)), if_pos (own_gt x 8191 8191 rfl (by omega)), F3_100, if_neg (own_ne x 8204 8204 rfl (by omega)), if_neg (own_ne x 8205 8205 rfl (by omega)), if_neg (own_nl x 8304 8304 rfl (by omega)), if_pos (own_gt x 8591 8591 rfl (by omega)), F3_128, if_pos (own_lt x 11264 11264 rfl (by omega)), F3_142, if_pos (own_lt x 12289 12289 rfl (by omega)), F3_155, if_pos (own_lt x 63744 63744 rfl (by omega)), F3_167, if_pos (own_lt x 65008 65008 rfl (by omega)), F3_183]; rfl
  have f2 : F2_0 x = 0 := by rw [F2_0, f3, if_pos rfl, if_neg (own_ne x 45 45 rfl (by omega)), if_neg (own_ne x 46 46 rfl (by omega)), if_neg (own_nl x 48 48 rfl (by omega)), if_pos (own_gt x 57 57 rfl (by omega)), F2_31, if_neg (own_ne x 183 183 rfl (by omega)), if_neg (own_nl x 768 768 rfl (by omega)), if_pos (own_gt x 879 879 rfl (by omega)), F2_52, if_neg (own_ne x 8255 8255 rfl (by omega)), if_neg (own_ne x 8256 8256 rfl (by omega))]; rfl
  exact ⟨f1, f2⟩
theorem own_iv69 (x : Int32) (h1 : 11264 ≤ x.toInt) (h2 : x.toInt ≤ 11264) : F1_0 x = 0 ∧ F2_0 x = 1 := by
  have f1 : F1_0 x = 0 := by rw [F1_0, if_pos (own_gt x 44 44 rfl (by omega)), if_neg (own_ne x 47 47 rfl (by omega)), if_neg (own_nl x 58 58 rfl (by omega)), if_pos (own_gt x 64 64 rfl (by omega)), F1_30, if_neg (own_nl x 91 91 rfl (by omega)), if_pos (own_gt x 94 94 rfl (by omega)), F1_44, if_neg (own_ne x 96 96 rfl (by omega)), if_neg (own_nl x 123 123 rfl (by omega)), if_pos (own_gt x 182 182 rfl (by omega)), F1_67, if_neg (own_nl x 184 184 rfl (by omega)), if_pos (own_gt x 191 191 rfl (by omega)), F1_83, if_neg (own_ne x 215 215 rfl (by omega)), if_neg (own_ne x 247 247 rfl (by omega)), if_neg (own_ne x 894 894 rfl (by omega)), if_neg (own_nl x 8192 8192 rfl (by omega)), if_pos (own_gt x 8203 8203 rfl (by omega)), F1_122, if_neg (own_nl x 8206 8206 rfl (by omega)), if_pos (own_gt x 8254 8254 rfl (by omega)), F1_138, if_neg (own_nl x 8257 8257 rfl (by omega)), if_pos (own_gt x 8303 8303 rfl (by omega)), F1_154, if_neg (own_nl x 8592 8592 rfl (by omega)), if_pos (own_gt x 11263 11263 rfl (by omega)), F1_170, if_pos (own_lt x 12272 12272 rfl (by omega)), F1_186, if_pos (own_lt x 57344 57344 rfl (by omega)), F1_200, if_pos (own_lt x 64976 64976 rfl (by omega)), F1_214, if_pos (own_lt x 65534 65534 rfl (by omega))]; rfl
  have f3 : F3_0 x = 1 := by rw [F3_0, if_neg (own_nl x 97 97 rfl (by omega)), if_pos (own_gt x 122 122 rfl (by omega)), F3_12, if_neg (own_nl x 65 65 rfl (by omega)), if_pos (own_gt x 90 90 rfl (by omega)), F3_24, if_neg (own_ne x 95 95 rfl (by omega)), if_neg (own_nl x 192 192 rfl (by omega)), if_pos (own_gt x 214 214 rfl (by omega)), F3_44, if_neg (own_nl x 216 216 rfl (by omega)), if_pos (own_gt x 246 246 rfl (by omega)), F3_58, if_neg (own_nl x 248 248 rfl (by omega)), if_pos (own_gt x 767 767 rfl (by omega)), F3_72, if_neg (own_nl x 880 880 rfl (by omega)), if_pos (own_gt x 893 893 rfl (by omega)), F3_86, if_neg (own_nl x 895 895 rfl (by omega)), if_pos (own_gt x 8191 8191 rfl (by omega)), F3_100, if_neg (own_ne x 8204 8204 rfl (by omega)), if_neg (own_ne x 8205 8205 rfl (by omega)), if_neg (own_nl x 8304 8304 rfl (by omega)), if_pos (own_gt x 8591 8591 rfl (by omega)), F3_128, if_neg (own_nl x 11264 11264 rfl (by omega)), if_neg (own_ng x 12271 12271 rfl (by omega)), F3_179]; rfl
  have f2 : F2_0 x = 1 := by rw [F2_0, f3, if_neg (by decide), F2_66]; rfl
  exact ⟨f1, f2⟩
theorem own_iv70 (x : Int32) (h1 : 11265 ≤ x.toInt) (h2 : x.toInt ≤ 12270) : F1_0 x = 0 ∧ F2_0 x = 1 := by
  have f1 : F1_0 x = 0 := by rw [F1_0, if_pos (own_gt x 44 44 rfl (by omega)), if_neg (own_ne x 47 47 rfl (by omega)), if_neg (own_nl x 58 58 rfl (by omega)), if_pos (own_gt x 64 64 rfl (by omega)), F1_30, if_neg (own_nl x 91 91 rfl (by omega)), if_pos (own_gt x 94 94 rfl (by omega)), F1_44, if_neg (own_ne x 96 96 rfl (by omega)), if_neg (own_nl x 123 123 rfl (by omega)), if_pos (own_gt x 182 182 rfl (by omega)), F1_67, if_neg (own_nl x 184 184 rfl (by omega)), if_pos (own_gt x 191 191 rfl (by omega)), F1_83, if_neg (own_ne x 215 215 rfl (by omega)), if_neg (own_ne x 247 247 rfl (by omega)), if_neg (own_ne x 894 894 rfl (by omega)), if_neg (own_nl x 8192 8192 rfl (by omega)), if_pos (own_gt x 8203 8203 rfl (by omega)), F1_122, if_neg (own_nl x 8206 8206 rfl (by omega)), if_pos (own_gt x 8254 8254 rfl (by omega)), F1_138, if_neg (own_nl x 8257 8257 rfl (by omega)), if_pos (own_gt x 8303 8303 rfl (by omega)), F1_154, if_neg (own_nl x 8592 8592 rfl (by omega)), if_pos (own_gt x 11263 11263 rfl (by omega)), F1_170, if_pos (own_lt x 12272 12272 rfl (by omega)), F1_186, if_pos (own_lt x 57344 57344 rfl (by omega)), F1_200, if_pos (own_lt x 64976 64976 rfl (by omega)), F1_214, if_pos (own_lt x 65534 65534 rfl (by omega))]; rfl
  have f3 : F3_0 x = 1 := by rw [F3_0, if_neg (own_nl x 97 97 rfl (by omega)), if_pos (own_gt x 122 122 rfl (by omega)), F3_12, if_neg (own_nl x 65 65 rfl (by omega)), if_pos (own_gt x 90 90 rfl (by omega)), F3_24, if_neg (own_ne x 95 95 rfl (by omega)), if_neg (own_nl x 192 192 rfl (by omega)), if_pos (own_gt x 214 214 rfl (by omega)), F3_44, if_neg (own_nl x 216 216 rfl (by omega)), if_pos (own_gt x 246 246 rfl (by omega)), F3_58, if_neg (own_nl x 248 248 rfl (by omega)), if_pos (own_gt x 767 767 rfl (by omega)), F3_72, if_neg (own_nl x 880 880 rfl (by omega)), if_pos (own_gt x 893 893 rfl (by omega)), F3_86, if_neg (own_nl x 895 895 rfl (by omega)), if_pos (own_gt x 8191 8191 rfl (by omega)), F3_100, if_neg (own_ne x 8204 8204 rfl (by omega)), if_neg (own_ne x 8205 8205 rfl (by omega)), if_neg (own_nl x 8304 8304 rfl (by omega)), if_pos (own_gt x 8591 8591 rfl (by omega)), F3_128, if_neg (own_nl x 11264 11264 rfl (by omega)), if_neg (own_ng x 12271 12271 rfl (by omega)), F3_179]; rfl
  have f2 : F2_0 x = 1 := by rw [F2_0, f3, if_neg (by decide), F2_66]; rfl
  exact ⟨f1, f2⟩
theorem own_iv71 (x : Int32) (h1 : 12271 ≤ x.toInt) (h2 : x.toInt ≤ 12271) : F1_0 x = 0 ∧ F2_0 x = 1 := by
  have f1 : F1_0 x = 0 := by rw [F1_0, if_pos (own_gt x 44 44 rfl (by omega)), if_neg (own_ne x 47 47 rfl (by omega)), if_neg (own_nl x 58 58 rfl (by omega)), if_pos (own_gt x 64 64 rfl (by omega)), F1_30, if_neg (own_nl x 91 91 rfl (by omega)), if_pos (own_gt x 94 94 rfl (by omega)), F1_44, if_neg (own_ne x 96 96 rfl (by omega)), if_neg (own_nl x 123 123 rfl (by omega)), if_pos (own_gt x 182 182 rfl (by omega)), F1_67, if_neg (own_nl x 184 184 rfl (by omega)), if_pos (own_gt x 191 191 rfl (by omega)), F1_83, if_neg (own_ne x 215 215 rfl (by omega)), if_neg (own_ne x 247 247 rfl (by omega)), if_neg (own_ne x 894 894 rfl (by omega)), if_neg (own_nl x 8192 8192 rfl (by omega)), if_pos (own_gt x 8203 8203 rfl (by omega)), F1_122, if_neg (own_nl x 8206 8206 rfl (by omega)), if_pos (own_gt x 8254 8254 rfl (by omega)), F1_138, if_neg (own_nl x 8257 8257 rfl (by omega)), if_pos (own_gt x 8303 8303 rfl (by omega)), F1_154, if_neg (own_nl x 8592 8592 rfl (by omega)), if_pos (own_gt x 11263 11263 rfl (by omega)), F1_170, if_pos (own_lt x 12272 12272 rfl (by omega)), F1_186, if_pos (own_lt x 57344 57344 rfl (by omega)), F1_200, if_pos (own_lt x 64976 64976 rfl (by omega)), F1_214, if_pos (own_lt x 65534 65534 rfl (by omega))]; rfl
  have f3 : F3_0 x = 1 := by rw [F3_0, if_neg (own_nl x 97 97 rfl (by omega)), if_pos (own_gt x 122 122 rfl (by omega)), F3_12, if_neg (own_nl x 65 65 rfl (by omega)), if_pos (own_gt x 90 90 rfl (by omega)), F3_24, if_neg (own_ne x 95 95 rfl (by omega)), if_neg (own_nl x 192 192 rfl (by omega)), if_pos (own_gt x 214 214 rfl (by omega)), F3_44, if_neg (own_nl x 216 216 rfl (by omega)), if_pos (own_gt x 246 246 rfl (by omega)), F3_58, if_neg (own_nl x 248 248 rfl (by omega)), if_pos (own_gt x 767 767 rfl (by omega)), F3_72, if_neg (own_nl x 880 880 rfl (by omega)), if_pos (own_gt x 893 893 rfl (by omega)), F3_86, if_neg (own_nl x 895 895 rfl (by omega)), if_pos (own_gt x 8191 8191 rfl (by omega)), F3_100, if_neg (own_ne x 8204 8204 rfl (by omega)), if_neg (own_ne x 8205 8205 rfl (by omega)), if_neg (own_nl x 8304 8304 rfl (by omega)), if_pos (own_gt x 8591 8591 rfl (by omega)), F3_128, if_neg (own_nl x 11264 11264 rfl (by omega)), if_neg (own_ng x 12271 12271 rfl (by omega)), F3_179]; rfl
  have f2 : F2_0 x = 1 := by rw [F2_0, f3, if_neg (by decide), F2_66]; rfl
  exact ⟨f1, f2⟩
theorem own_iv72 (x : Int32) (h1 : 12272 ≤ x.toInt) (h2 : x.toInt ≤ 12272) : F1_0 x = 1 ∧ F2_0 x = 0 := by
  have f1 : F1_0 x = 1 := by rw [F1_0, if_pos (own_gt x 44 44 rfl (by omega)), if_neg (own_ne x 47 47 rfl (by omega)), if_neg (own_nl x 58 58 rfl (by omega)), if_pos (own_gt x 64 64 rfl (by omega)), F1_30, if_neg (own_nl x 91 91 rfl (by omega)), if_pos (own_gt x 94 94 rfl (by omega)), F1_44, if_neg (own_ne x 96 96 rfl (by omega)), if_neg (own_nl x 123 123 rfl (by omega)), if_pos (own_gt x 182 182 rfl (by omega)), F1_67, if_neg (own_nl x 184 184 rfl (by omega)), if_pos (own_gt x 191 191 rfl (by omega)), F1_83, if_neg (own_ne x 215 215 rfl (by omega)), if_neg (own_ne x 247 247 rfl (by omega)), if_neg (own_ne x 894 894 rfl (by omega)), if_neg (own_nl x 8192 8192 rfl (by omega)), if_pos (own_gt x 8203 8203 rfl (by omega)), F1_122, if_neg (own_nl x 8206 8206 rfl (by omega)), if_pos (own_gt x 8254 8254 rfl (by omega)), F1_138, if_neg (own_nl x 8257 8257 rfl (by omega)), if_pos (own_gt x 8303 8303 rfl (by omega)), F1_154, if_neg (own_nl x 8592 8592 rfl (by omega)), if_pos (own_gt x 11263 11263 rfl (by omega)), F1_170, if_neg (own_nl x 12272 12272 rfl (by omega)), if_neg (own_ng x 12288 12288 rfl (by omega))]
  have f3 : F3_0 x = 0 := by rw [F3_0, if_neg (own_nl x 97 97 rfl (by omega)), if_pos (own_gt x 122 122 rfl (by omega)), F3_12, if_neg (own_nl x 65 65 rfl (by omega)), if_pos (own_gt x 90 90 rfl (by omega)), F3_24, if_neg (own_ne x 95 95 rfl (by omega)), if_neg (own_nl x 192 192 rfl (by omega)), if_pos (own_gt x 214 214 rfl (by omega)), F3_44, if_neg (own_nl x 216 216 rfl (by omega)), if_pos (own_gt x 246 246 rfl (by omega)), F3_58, if_neg (own_nl x 248 248 rfl (by omega)), if_pos (own_gt x 767 767 rfl (by omega)), F3_72, if_neg (own_nl x 880 880 rfl (by omega)), if_pos (own_gt x 893 893 rfl (by omega)), F3_86, if_neg (own_nl x 895 895 rfl (by omega)), if_pos (own_gt x 8191 8191 rfl (by omega)), F3_100, if_neg (own_ne x 8204 8204 rfl (by omega)), if_neg (own_ne x 8205 8205 rfl (by omega)), if_neg (own_nl x 8304 8304 rfl (by omega)), if_pos (own_gt x 8591 8591 rfl (by omega)), F3_128, if_neg (own_nl x 11264 11264 rfl (by omega)), if_pos (own_gt x 12271 12271 rfl (by omega)), F3_142, if_pos (own_lt x 12289 12289 rfl (by omega)), F3_155, if_pos (own_lt x 63744 63744 rfl (by omega)), F3_167, if_pos (own_lt x 65008 65008 rfl (by omega)), F3_183]; rfl
  have f2 : F2_0 x = 0 := by rw [F2_0, f3, if_pos rfl, if_neg (own_ne x 45 45 rfl (by omega)), if_neg (own_ne x 46 46 rfl (by omega)), if_neg (own_nl x 48 48 rfl (by omega)), if_pos (own_gt x 57 57 rfl (by omega)), F2_31, if_neg (own_ne x 183 183 rfl (by omega)), if_neg (own_nl x 768 768 rfl (by omega)), if_pos (own_gt x 879 879 rfl (by omega)), F2_52, if_neg (own_ne x 8255 8255 rfl (by omega)), if_neg (own_ne x 8256 8256 rfl (by omega))]; rfl
  exact ⟨f1, f2⟩
theorem own_iv73 (x : Int32) (h1 : 12273 ≤ x.toInt) (h2 : x.toInt ≤ 12287) : F1_0 x = 1 ∧ F2_0 x = 0 := by
  have f1 : F1_0 x = 1 := by rw [F1_0, if_pos (own_gt x 44 44 rfl (by omega)), if_neg (own_ne x 47 47 rfl (by omega)), if_neg (own_nl x 58 58 rfl (by omega)), if_pos (own_gt x 64 64 rfl (by omega)), F1_30, if_neg (own_nl x 91 91 rfl (by omega)), if_pos (own_gt x 94 94 rfl (by omega)), F1_44, if_neg (own_ne x 96 96 rfl (by omega)), if_neg (own_nl x 123 123 rfl (by omega)), if_pos (own_gt x 182 182 rfl (by omega)), F1_67, if_neg (own_nl x 184 184 rfl (by omega)), if_pos (own_gt x 191 191 rfl (by omega)), F1_83, if_neg (own_ne x 215 215 rfl (by omega)), if_neg (own_ne x 247 247 rfl (by omega)), if_neg (own_ne x 894 894 rfl (by omega)), if_neg (own_nl x 8192 8192 rfl (by omega)), if_pos (own_gt x 8203 8203 rfl (by omega)), F1_122, if_neg (own_nl x 8206 8206 rfl (by omega)), if_pos (own_gt x 8254 8254 rfl (by omega)), F1_138, if_neg (own_nl x 8257 8257 rfl (by omega)), if_pos (own_gt x 8303 8303 rfl (by omega)), F1_154, if_neg (own_nl x 8592 8592 rfl (by omega)), if_pos (own_gt x 11263 11263 rfl (by omega)), F1_170, if_neg (own_nl x 12272 12272 rfl (by omega)), if_neg (own_ng x 12288 12288 rfl (by omega))]
  have f3 : F3_0 x = 0 := by rw [F3_0, if_neg (own_nl x 97 97 rfl (by omega)), if_pos (own_gt x 122 122 rfl (by omega)), F3_12, if_neg (own_nl x 65 65 rfl (by omega)), if_pos (own_gt x 90 90 rfl (by omega)), F3_24, if_neg (own_ne x 95 95 rfl (by omega)), if_neg (own_nl x 192 192 rfl (by omega)), if_pos (own_gt x 214 214 rfl (by omega)), F3_44, if_neg (own_nl x 216 216 rfl (by omega)), if_pos (own_gt x 246 246 rfl (by omega)), F3_58, if_neg (own_nl x 248 248 rfl (by omega)), if_pos (own_gt x 767 767 rfl (by omega)), F3_72, if_neg (own_nl x 880 880 rfl (by omega)), if_pos (own_gt x 893 893 rfl (by omega)), F3_86, if_neg (own_nl x 895 895 rfl (by omega)), if_pos (own_gt x 8191 8191 rfl (by omega)), F3_100, if_neg (own_ne x 8204 8204 rfl (by omega)), if_neg (own_ne x 8205 8205 rfl (by omega)), if_neg (own_nl x 8304 8304 rfl (by omega)), if_pos (own_gt x 8591 8591 rfl (by omega)), F3_128, if_neg (own_nl x 11264 11264 rfl (by omega)), if_pos (own_gt x 12271 12271 rfl (by omega)), F3_142, if_pos (own_lt x 12289 12289 rfl (by omega)), F3_155, if_pos (own_lt x 63744 63744 rfl (by omega)), F3_167, if_pos (own_lt x 65008 65008 rfl (by omega)), F3_183]; rfl
  have f2 : F2_0 x = 0 := by rw [F2_0, f3, if_pos rfl, if_neg (own_ne x 45 45 rfl (by omega)), if_neg (own_ne x 46 46 rfl (by omega)), if_neg (own_nl x 48 48 rfl (by omega)), if_pos (own_gt x 57 57 rfl (by omega)), F2_31, if_neg (own_ne x 183 183 rfl (by omega)), if_neg (own_nl x 768 768 rfl (by omega)), if_pos (own_gt x 879 879 rfl (by omega)), F2_52, if_neg (own_ne x 8255 8255 rfl (by omega)), if_neg (own_ne x 8256 8256 rfl (by omega))]; rfl
  exact ⟨f1, f2⟩
theorem own_iv74 (x : Int32) (h1 : 12288 ≤ x.toInt) (h2 : x.toInt ≤ 12288) : F1_0 x = 1 ∧ F2_0 x = 0 := by
  have f1 : F1_0 x = 1 := by rw [F1_0, if_pos (own_gt x 44 44 rfl (by omega)), if_neg (own_ne x 47 47 rfl (by omega)), if_neg (own_nl x 58 58 rfl (by omega)), if_pos (own_gt x 64 64 rfl (by omega)), F1_30, if_neg (own_nl x 91 91 rfl (by omega)), if_pos (own_gt x 94 94 rfl (by omega)), F1_44, if_neg (own_ne x 96 96 rfl (by omega)), if_neg (own_nl x 123 123 rfl (by omega)), if_pos (own_gt x 182 182 rfl (by omega)), F1_67, if_neg (own_nl x 184 184 rfl (by omega)), if_pos (own_gt x 191 191 rfl (by omega)), F1_83, if_neg (own_ne x 215 215 rfl (by omega)), if_neg (own_ne x 247 247 rfl (by omega)), if_neg (own_ne x 894 894 rfl (by omega)), if_neg (own_nl x 8192 8192 rfl (by omega)), if_pos (own_gt x 8203 8203 rfl (by omega)), F1_122, if_neg (own_nl x 8206 8206 rfl (by omega)), if_pos (own_gt x 8254 8254 rfl (by omega)), F1_138, if_neg (own_nl x 8257 8257 rfl (by omega)), if_pos (own_gt x 8303 8303 rfl (by omega)), F1_154, if_neg (own_nl x 8592 8592 rfl (by omega)), if_pos (own_gt x 11263 11263 rfl (by omega)), F1_170, if_neg (own_nl x 12272 12272 rfl (by omega)), if_neg (own_ng x 12288 12288 rfl (by omega))]
  have f3 : F3_0 x = 0 := by rw [F3_0, if_neg (own_nl x 97 97 rfl (by omega)), if_pos (own_gt x 122 122 rfl (by omega)), F3_12, if_neg (own_nl x 65 65 rfl (by omega)), if_pos (own_gt x 90 90 rfl (by omega)), F3_24, if_neg (own_ne x 95 95 rfl (by omega)), if_neg (own_nl x 192 192 rfl (by omega)), if_pos (own_gt x 214 214 rfl (by omega)), F3_44, if_neg (own_nl x 216 216 rfl (by omega)), if_pos (own_gt x 246 246 rfl (by omega)), F3_58, if_neg (own_nl x 248 248 rfl (by omega)), if_pos (own_gt x 767 767 rfl (by omega)), F3_72, if_neg (own_nl x 880 880 rfl (by omega)), if_pos (own_gt x 893 893 rfl (by omega)), F3_86, if_neg (own_nl x 895 895 rfl (by omega)), if_pos (own_gt x 8191 8191 rfl (by omega)), F3_100, if_neg (own_ne x 8204 8204 rfl (by omega)), if_neg (own_ne x 8205 8205 rfl (by omega)), if_neg (own_nl x 8304 8304 rfl (by omega)), if_pos (own_gt x 8591 8591 rfl (by omega)), F3_128, if_neg (own_nl x 11264 11264 rfl (by omega)), if_pos (own_gt x 12271 12271 rfl (by omega)), F3_142, if_pos (own_lt x 12289 12289 rfl (by omega)), F3_155, if_pos (own_lt x 63744 63744 rfl (by omega)), F3_167, if_pos (own_lt x 65008 65008 rfl (by omega)), F3_183]; rfl
  have f2 : F2_0 x = 0 := by rw [F2_0, f3, if_pos rfl, if_neg (own_ne x 45 45 rfl (by omega)), if_neg (own_ne x 46 46 rfl (by omega)), if_neg (own_nl x 48 48 rfl (by omega)), if_pos (own_gt x 57 57 rfl (by omega)), F2_31, if_neg (own_ne x 183 183 rfl (by omega)), if_neg (own_nl x 768 768 rfl (by omega)), if_pos (own_gt x 879 879 rfl (by omega)), F2_52, if_neg (own_ne x 8255 8255 rfl (by omega)), if_neg (own_ne x 8256 8256 rfl (by omega))]; rfl
  exact ⟨f1, f2⟩
theorem own_iv75 (x : Int32) (h1 : 12289 ≤ x.toInt) (h2 : x.toInt ≤ 12289) : F1_0 x = 0 ∧ F2_0 x = 1 := by
  have f1 : F1_0 x = 0 := by rw [F1_0, if_pos (own_gt x 44 44 rfl (by omega)), if_neg (own_ne x 47 47 rfl (by omega)), if_neg (own_nl x 58 58 rfl (by omega)), if_pos (own_gt x 64 64 rfl (by omega)), F1_30, if_neg (own_nl x 91 91 rfl (by omega)), if_pos (own_gt x 94 94 rfl (by omega)), F1_44, if_neg (own_ne x 96 96 rfl (by omega)), if_neg (own_nl x 123 123 rfl (by omega)), if_pos (own_gt x 182 182 rfl (by omega)), F1_67, if_neg (own_nl x 184 184 rfl (by omega)), if_pos (own_gt x 191 191 rfl (by omega)), F1_83, if_neg (own_ne x 215 215 rfl (by omega)), if_neg (own_ne x 247 247 rfl (by omega)), if_neg (own_ne x 894 894 rfl (by omega)), if_neg (own_nl x 8192 8192 rfl (by omega)), if_pos (own_gt x 8203 8203 rfl (by omega)), F1_122, if_neg (own_nl x 8206 8206 rfl (by omega)), if_pos (own_gt x 8254 8254 rfl (by omega)), F1_138, if_neg (own_nl x 8257 8257 rfl (by omega)), if_pos (own_gt x 8303 8303 rfl (by omega)), F1_154, if_neg (own_nl x 8592 8592 rfl (by omega)), if_pos (own_gt x 11263 11263 rfl (by omega)), F1_170, if_neg (own_nl x 12272 12272 rfl (by omega)), if_pos (own_gt x 12288 12288 rfl (by omega)), F1_186, if_pos (own_lt x 57344 57344 rfl (by omega)), F1_200, if_pos (own_lt x 64976 64976 rfl (by omega)), F1_214, if_pos (own_lt x 65534 65534 rfl (by omega))]; rfl
  have f3 : F3_0 x = 1 := by rw [F3_0, if_neg (own_nl x 97 97 rfl (by omega)), if_pos (own_gt x 122 122 rfl (by omega)), F3_12, if_neg (own_nl x 65 65 rfl (by omega)), if_pos (own_gt x 90 90 rfl (by omega)), F3_24, if_neg (own_ne x 95 95 rfl (by omega)), if_neg (own_nl x 192 192 rfl (by omega)), if_pos (own_gt x 214 214 rfl (by omega)), F3_44, if_neg (own_nl x 216 216 rfl (by omega)), if_pos (own_gt x 246 246 rfl (by omega)), F3_58, if_neg (own_nl x 248 248 rfl (by omega)), if_pos (own_gt x 767 767 rfl (by omega)), F3_72, if_neg (own_nl x 880 880 rfl (by omega)), if_pos (own_gt x 893 893 rfl (by omega)), F3_86, if_neg (own_nl x 895 895 rfl (by omega)), if_pos (own_gt x 8191 8191 rfl (by omega)), F3_100, if_neg (own_ne x 8204 8204 rfl (by omega)), if_neg (own_ne x 8205 8205 rfl (by omega)), if_neg (own_nl x 8304 8304 rfl (by omega)), if_pos (own_gt x 8591 8591 rfl (by omega)), F3_128, if_neg (own_nl x 11264 11264 rfl (by omega)), if_pos (own_gt x 12271 12271 rfl (by omega)), F3_142, if_neg (own_nl x 12289 12289 rfl (by omega)), if_neg (own_ng x 57343 57343 rfl (by omega)), F3_179]; rfl
  have f2 : F2_0 x = 1 := by rw [F2_0, f3, if_neg (by decide), F2_66]; rfl
  exact ⟨f1, f2⟩
theorem own_iv76 (x : Int32) (h1 : 12290 ≤ x.toInt) (h2 : x.toInt ≤ 57342) : F1_0 x = 0 ∧ F2_0 x = 1 := by
  have f1 : F1_0 x = 0 := by rw [F1_0, if_pos (own_gt x 44 44 rfl (by omega)), if_neg (own_ne x 47 47 rfl (by omega)), if_neg (own_nl x 58 58 rfl (by omega)), if_pos (own_gt x 64 64 rfl (by omega)), F1_30, if_neg (own_nl x 91 91 rfl (by omega)), if_pos (own_gt x 94 94 rfl (by omega)), F1_44, if_neg (own_ne x 96 96 rfl (by omega)), if_neg (own_nl x 123 123 rfl (by omega)), if_pos (own_gt x 182 182 rfl (by omega)), F1_67, if_neg (own_nl x 184 184 rfl (by omega)), if_pos (own_gt x 191 191 rfl (by omega)), F1_83, if_neg (own_ne x 215 215 rfl (by omega)), if_neg (own_ne x 247 247 rfl (by omega)), if_neg (own_ne x 894 894 rfl (by omega)), if_neg (own_nl x 8192 8192 rfl (by omega)), if_pos (own_gt x 8203 8203 rfl (by omega)), F1_122, if_neg (own_nl x 8206 8206 rfl (by omega)), if_pos (own_gt x 8254 8254 rfl (by omega)), F1_138, if_neg (own_nl x 8257 8257 rfl (by omega)), if_pos (own_gt x 8303 8303 rfl (by omega)), F1_154, if_neg (own_nl x 8592 8592 rfl (by omega)), if_pos (own_gt x 11263 11263 rfl (by omega)), F1_170, if_neg (own_nl x 12272 12272 rfl (by omega)), if_pos (own_gt x 12288 12288 rfl (by omega)), F1_186, if_pos (own_lt x 57344 57344 rfl (by omega)), F1_200, if_pos (own_lt x 64976 64976 rfl (by omega)), F1_214, if_pos (own_lt x 65534 65534 rfl (by omega))]; rfl
  have f3 : F3_0 x = 1 := by rw [F3_0, if_neg (own_nl x 97 97 rfl (by omega)), if_pos (own_gt x 122 122 rfl (by omega)), F3_12, if_neg (own_nl x 65 65 rfl (by omega)), if_pos (own_gt x 90 90 rfl (by omega)), F3_24, if_neg (own_ne x 95 95 rfl (by omega)), if_neg (own_nl x 192 192 rfl (by omega)), if_pos (own_gt x 214 214 rfl (by omega)), F3_44, if_neg (own_nl x 216 216 rfl (by omega)), if_pos (own_gt x 246 246 rfl (by omega)), F3_58, if_neg (own_nl x 248 248 rfl (by omega)), if_pos (own_gt x 767 767 rfl (by omega)), F3_72, if_neg (own_nl x 880 880 rfl (by omega)), if_pos (own_gt x 893 893 rfl (by omega)), F3_86, if_neg (own_nl x 895 895 rfl (by omega)), if_pos (own_gt x 8191 8191 rfl (by omega)), F3_100, if_neg (own_ne x 8204 8204 rfl (by omega)), if_neg (own_ne x 8205 8205 rfl (by omega)), if_neg (own_nl x 8304 8304 rfl (by omega)), if_pos (own_gt x 8591 8591 rfl (by omega)), F3_128, if_neg (own_nl x 11264 11264 rfl (by omega)), if_pos (own_gt x 12271 12271 rfl (by omega)), F3_142, if_neg (own_nl x 12289 12289 rfl (by omega)), if_neg (own_ng x 57343 57343 rfl (by omega)), F3_179]; rfl
  have f2 : F2_0 x = 1 := by rw [F2_0, f3, if_neg (by decide), F2_66]; rfl
  exact ⟨f1, f2⟩
theorem own_iv77 (x : Int32) (h1 : 57343 ≤ x.toInt) (h2 : x.toInt ≤ 57343) : F1_0 x = 0 ∧ F2_0 x = 1 := by
  have f1 : F1_0 x = 0 := by rw [F1_0, if_pos (own_gt x 44 44 rfl (by omega)), if_neg (own_ne x 47 47 rfl (by omega)), if_neg (own_nl x 58 58 rfl (by omega)), if_pos (own_gt x 64 64 rfl (by omega)), F1_30, if_neg (own_nl x 91 91 rfl (by omega)), if_pos (own_gt x 94 94 rfl (by omega)), F1_44, if_neg (own_ne x 96 96 rfl (by omega)), if_neg (own_nl x 123 123 rfl (by omega)), if_pos (own_gt x 182 182 rfl (by omega)), F1_67, if_neg (own_nl x 184 184 rfl (by omega)), if_pos (own_gt x 191 191 rfl (by omega)), F1_83, if_neg (own_ne x 215 215 rfl (by omega)), if_neg (own_ne x 247 247 rfl (by omega)), if_neg (own_ne x 894 894 rfl (by omega)), if_neg (own_nl x 8192 8192 rfl (by omega)), if_pos (own_gt x 8203 8203 rfl (by omega)), F1_122, if_neg (own_nl x 8206 8206 rfl (by omega)), if_pos (own_gt x 8254 8254 rfl (by omega)), F1_138, if_neg (own_nl x 8257 8257 rfl (by omega)), if_pos (own_gt x 8303 8303 rfl (by omega)), F1_154, if_neg (own_nl x 8592 8592 rfl (by omega)), if_pos (own_gt x 11263 11263 rfl (by omega)), F1_170, if_neg (own_nl x 12272 12272 rfl (by omega)), if_pos (own_gt x 12288 12288 rfl (by omega)), F1_186, if_pos (own_lt x 57344 57344 rfl (by omega)), F1_200, if_pos (own_lt x 64976 64976 rfl (by omega)), F1_214, if_pos (own_lt x 65534 65534 rfl (by omega))]; rfl
  have f3 : F3_0 x = 1 := by rw [F3_0, if_neg (own_nl x 97 97 rfl (by omega)), if_pos (own_gt x 122 122 rfl (by omega)), F3_12, if_neg (own_nl x 65 65 rfl (by omega)), if_pos (own_gt x 90 90 rfl (by omega)), F3_24, if_neg (own_ne x 95 95 rfl (by omega)), if_neg (own_nl x 192 192 rfl (by omega)), if_pos (own_gt x 214 214 rfl (by omega)), F3_44, if_neg (own_nl x 216 216 rfl (by omega)), if_pos (own_gt x 246 246 rfl (by omega)), F3_58, if_neg (own_nl x 248 248 rfl (by omega)), if_pos (own_gt x 767 767 rfl (by omega)), F3_72, if_neg (own_nl x 880 880 rfl (by omega)), if_pos (own_gt x 893 893 rfl (by omega)), F3_86, if_neg (own_nl x 895 895 rfl (by omega)), if_pos (own_gt x 8191 8191 rfl (by omega)), F3_100, if_neg (own_ne x 8204 8204 rfl (by omega)), if_neg (own_ne x 8205 8205 rfl (by omega)), if_neg (own_nl x 8304 8304 rfl (by omega)), if_pos (own_gt x 8591 8591 rfl (by omega)), F3_128, if_neg (own_nl x 11264 11264 rfl (by omega)), if_pos (own_gt x 12271 12271 rfl (by omega)), F3_142, if_neg (own_nl x 12289 12289 rfl (by omega)), if_neg (own_ng x 57343 57343 rfl (by omega)), F3_179]; rfl
  have f2 : F2_0 x = 1 := by rw [F2_0, f3, if_neg (by decide), F2_66]; rfl
  exact ⟨f1, f2⟩
theorem own_iv78 (x : Int32) (h1 : 57344 ≤ x.toInt) (h2 : x.toInt ≤ 57344) : F1_0 x = 1 ∧ F2_0 x = 0 := by
  have f1 : F1_0 x = 1 := by rw [F1_0, if_pos (own_gt x 44 44 rfl (by omega)), if_neg (own_ne x 47 47 rfl (by omega)), if_neg (own_nl x 58 58 rfl (by omega)), if_pos (own_gt x 64 64 rfl (by omega)), F1_30, if_neg (own_nl x 91 91 rfl (by omega)), if_pos (own_gt x 94 94 rfl (by omega)), F1_44, if_neg (own_ne x 96 96 rfl (by omega)), if_neg (own_nl x 123 123 rfl (by omega)), if_pos (own_gt x 182 182 rfl (by omega)), F1_67, if_neg (own_nl x 184 184 rfl (by omega)), if_pos (own_gt x 191 191 rfl (by omega)), F1_83, if_neg (own_ne x 215 215 rfl (by omega)), if_neg (own_ne x 247 247 rfl (by omega)), if_neg (own_ne x 894 894 rfl (by omega)), if_neg (own_nl x 8192 8192 rfl (by omega)), if_pos (own_gt x 8203 8203 rfl (by omega)), F1_122, if_neg (own_nl x 8206 8206 rfl (by omega)), if_pos (own_gt x 8254 8254 rfl (by omega)), F1_138, if_neg (own_nl x 8257 8257 rfl (by omega)), if_pos (own_gt x 8303 8303 rfl (by omega)), F1_154, if_neg (own_nl x 8592 8592 rfl (by omega)), if_pos (own_gt x 11263 11263 rfl (by omega)), F1_170, if_neg (own_nl x 12272 12272 rfl (by omega)), if_pos (own_gt x 12288 12288 rfl (by omega)), F1_186, if_neg (own_nl x 57344 57344 rfl (by omega)), if_neg (own_ng x 63743 63743 rfl (by omega))]
  have f3 : F3_0 x = 0 := by rw [F3_0, if_neg (own_nl x 97 97 rfl (by omega)), if_pos (own_gt x 122 122 rfl (by omega)), F3_12, if_neg (own_nl x 65 65 rfl (by omega)), if_pos (own_gt x 90 90 rfl (by omega)), F3_24, if_neg (own_ne x 95 95 rfl (by omega)), if_neg (own_nl x 192 192 rfl (by omega)), if_pos (own_gt x 214 214 rfl (by omega)), F3_44, if_neg (own_nl x 216 216 rfl (by omega)), if_pos (own_gt x 246 246 rfl (by omega)), F3_58, if_neg (own_nl x 248 248 rfl (by omega)), if_pos (own_gt x 767 767 rfl (by omega)), F3_72, if_neg (own_nl x 880 880 rfl (by omega)), if_pos (own_gt x 893 893 rfl (by omega)), F3_86, if_neg (own_nl x 895 895 rfl (by omega)), if_pos (own_gt x 8191 8191 rfl (by omega)), F3_100, if_neg (own_ne x 8204 8204 rfl (by omega)), if_neg (own_ne x 8205 8205 rfl (by omega)), if_neg (own_nl x 8304 8304 rfl (by omega)), if_pos (own_gt x 8591 8591 rfl (by omega)), F3_128, if_neg (own_nl x 11264 11264 rfl (by omega)), if_pos (own_gt x 12271 12271 rfl (by omega)), F3_142, if_neg (own_nl x 12289 12289 rfl (by omega)), if_pos (own_gt x 57343 57343 rfl (by omega)), F3_155, if_pos (own_lt x 63744 63744 rfl (by omega)), F3_167, if_pos (own_lt x 65008 65008 rfl (by omega)), F3_183]; rfl
  have f2 : F2_0 x = 0 := by rw [F2_0, f3, if_pos rfl, if_neg (own_ne x 45 45 rfl (by omega)), if_neg (own_ne x 46 46 rfl (by omega)), if_neg (own_nl x 48 48 rfl (by omega)), if_pos (own_gt x 57 57 rfl (by omega)), F2_31, if_neg (own_ne x 183 183 rfl (by omega)), if_neg (own_nl x 768 768 rfl (by omega)), if_pos (own_gt x 879 879 rfl (by omega)), F2_52, if_neg (own_ne x 8255 8255 rfl (by omega)), if_neg (own_ne x 8256 8256 rfl (by omega))]; rfl
  exact ⟨f1, f2⟩
theorem own_iv79 (x : Int32) (h1 : 57345 ≤ x.toInt) (h2 : x.toInt ≤ 63742) : F1_0 x = 1 ∧ F2_0 x = 0 := by
  have f1 : F1_0 x = 1 := by rw [F1_0, if_pos (own_gt x 44 44 rfl (by omega)), if_neg (own_ne x 47 47 rfl (by omega)), if_neg (own_nl x 58 58 rfl (by omega)), if_pos (own_gt x 64 64 rfl (by omega)), F1_30, if_neg (own_nl x 91 91 rfl (by omega)), if_pos (own_gt x 94 94 rfl (by omega)), F1_44, if_neg (own_ne x 96 96 rfl (by omega)), if_neg (own_nl x 123 123 rfl (by omega)), if_pos (own_gt x 182 182 rfl (by omega)), F1_67, if_neg (own_nl x 184 184 rfl (by omega)), if_pos (own_gt x 191 191 rfl (by omega)), F1_83, if_neg (own_ne x 215 215 rfl (by omega)), if_neg (own_ne x 247 247 rfl (by omega)), if_neg (own_ne x 894 894 rfl (by omega)), if_neg (own_nl x 8192 8192 rfl (by omega)), if_pos (own_gt x 8203 8203 rfl (by omega)), F1_122, if_neg (own_nl x 8206 8206 rfl (by omega)), if_pos (own_gt x 8254 8254 rfl (by omega)), F1_138, if_neg (own_nl x 8257 8257 rfl (by omega)), if_pos (own_gt x 8303 8303 rfl (by omega)), F1_154, if_neg (own_nl x 8592 8592 rfl (by omega)), if_pos (own_gt x 11263 11263 rfl (by omega)), F1_170, if_neg (own_nl x 12272 12272 rfl (by omega)), if_pos (own_gt x 12288 12288 rfl (by omega)), F1_186, if_neg (own_nl x 57344 57344 rfl (by omega)), if_neg (own_ng x 63743 63743 rfl (by omega))]
  have f3 : F3_0 x = 0 := by rw [F3_0, if_neg (own_nl x 97 97 rfl (by omega)), if_pos (own_gt x 122 122 rfl (by omega)), F3_12, if_neg (own_nl x 65 65 rfl (by omega)), if_pos (own_gt x 90 90 rfl (by omega)), F3_24, if_neg (own_ne x 95 95 rfl (by omega)), if_neg (own_nl x 192 192 rfl (by omega)), if_pos (own_gt x 214 214 rfl (by omega)), F3_44, if_neg (own_nl x 216 216 rfl (by omega)), if_pos (own_gt x 246 246 rfl (by omega)), F3_58, if_neg (own_nl x 248 248 rfl (by omega)), if_pos (own_gt x 767 767 rfl (by omega)), F3_72, if_neg (own_nl x 880 880 rfl (by omega)), if_pos (own_gt x 893 893 rfl (by omega)), F3_86, if_neg (own_nl x 895 895 rfl (by omega)), if_pos (own_gt x 8191 8191 rfl (by omega)), F3_100, if_neg (own_ne x 8204 8204 rfl (by omega)), if_neg (own_ne x 8205 8205 rfl (by omega)), if_neg (own_nl x 8304 8304 rfl (by omega)), if_pos (own_gt x 8591 8591 rfl (by omega)), F3_128, if_neg (own_nl x 11264 11264 rfl (by omega)), if_pos (own_gt x 12271 12271 rfl (by omega)), F3_142, if_neg (own_nl x 12289 12289 rfl (by omega)), if_pos (own_gt x 57343 57343 rfl (by omega)), F3_155, if_pos (own_lt x 63744 63744 rfl (by omega)), F3_167, if_pos (own_lt x 65008 65008 rfl (by omega)), F3_183]; rfl
  have f2 : F2_0 x = 0 := by rw [F2_0, f3, if_pos rfl, if_neg (own_ne x 45 45 rfl (by omega)), if_neg (own_ne x 46 46 rfl (by omega)), if_neg (own_nl x 48 48 rfl (by omega)), if_pos (own_gt x 57 57 rfl (by omega)), F2_31, if_neg (own_ne x 183 183 rfl (by omega)), if_neg (own_nl x 768 768 rfl (by omega)), if_pos (own_gt x 879 879 rfl (by omega)), F2_52, if_neg (own_ne x 8255 8255 rfl (by omega)), if_neg (own_ne x 8256 8256 rfl (by omega))]; rfl
  exact ⟨f1, f2⟩
theorem own_iv80 (x : Int32) (h1 : 63743 ≤ x.toInt) (h2 : x.toInt ≤ 63743) : F1_0 x = 1 ∧ F2_0 x = 0 := by
  have f1 : F1_0 x = 1 := by rw [F1_0, if_pos (own_gt x 44 44 rfl (by omega)), if_neg (own_ne x 47 47 rfl (by omega)), if_neg (own_nl x 58 58 rfl (by omega)), if_pos (own_gt x 64 64 rfl (by omega)), F1_30, if_neg (own_nl x 91 91 rfl (by omega)), if_pos (own_gt x 94 94 rfl (by omega)), F1_44, if_neg (own_ne x 96 96 rfl (by omega)), if_neg (own_nl x 123 123 rfl (by omega)), if_pos (own_gt x 182 182 rfl (by omega)), F1_67, if_neg (own_nl x 184 184 rfl (by omega)), if_pos (own_gt x 191 191 rfl (by omega)), F1_83, if_neg (own_ne x 215 215 rfl (by omega)), if_neg (own_ne x 247 247 rfl (by omega)), if_neg (own_ne x 894 894 rfl (by omega)), if_neg (own_nl x 8192 8192 rfl (by omega)), if_pos (own_gt x 8203 8203 rfl (by omega)), F1_122, if_neg (own_nl x 8206 8206 rfl (by omega)), if_pos (own_gt x 8254 8254 rfl (by omega)), F1_138, if_neg (own_nl x 8257 8257 rfl (by omega)), if_pos (own_gt x 8303 8303 rfl (by omega)), F1_154, if_neg (own_nl x 8592 8592 rfl (by omega)), if_pos (own_gt x 11263 11263 rfl (by omega)), F1_170, if_neg (own_nl x 12272 12272 rfl (by omega)), if_pos (own_gt x 12288 12288 rfl (by omega)), F1_186, if_neg (own_nl x 57344 57344 rfl (by omega)), if_neg (own_ng x 63743 63743 rfl (by omega))]
  have f3 : F3_0 x = 0 := by rw [F3_0, if_neg (own_nl x 97 97 rfl (by omega)), if_pos (own_gt x 122 122 rfl (by omega)), F3_12, if_neg (own_nl x 65 65 rfl (by omega)), if_pos (own_gt x 90 90 rfl (by omega)), F3_24, if_neg (own_ne x 95 95 rfl (by omega)), if_neg (own_nl x 192 192 rfl (by omega)), if_pos (own_gt x 214 214 rfl (by omega)), F3_44, if_neg (own_nl x 216 216 rfl (by omega)), if_pos (own_gt x 246 246 rfl (by omega)), F3_58, if_neg (own_nl x 248 248 rfl (by omega)), if_pos (own_gt x 767 767 rfl (by omega)), F3_72, if_neg (own_nl x 880 880 rfl (by omega)), if_pos (own_gt x 893 893 rfl (by omega)), F3_86, if_neg (own_nl x 895 895 rfl (by omega)), if_pos (own_gt x 8191 8191 rfl (by omega)), F3_100, if_neg (own_ne x 8204 8204 rfl (by omega)), if_neg (own_ne x 8205 8205 rfl (by omega)), if_neg (own_nl x 8304 8304 rfl (by omega)), if_pos (own_gt x 8591 8591 rfl (by omega)), F3_128, if_neg (own_nl x 11264 11264 rfl (by omega)), if_pos (own_gt x 12271 12271 rfl (by omega)), F3_142, if_neg (own_nl x 12289 12289 rfl (by omega)), if_pos (own_gt x 57343 57343 rfl (by omega)), F3_155, if_pos (own_lt x 63744 63744 rfl (by omega)), F3_167, if_pos (own_lt x 65008 65008 rfl (by omega)), F3_183]; rfl
  have f2 : F2_0 x = 0 := by rw [F2_0, f3, if_pos rfl, if_neg (own_ne x 45 45 rfl (by omega)), if_neg (own_ne x 46 46 rfl (by omega)), if_neg (own_nl x 48 48 rfl (by omega)), if_pos (own_gt x 57 57 rfl (by omega)), F2_31, if_neg (own_ne x 183 183 rfl (by omega)), if_neg (own_nl x 768 768 rfl (by omega)), if_pos (own_gt x 879 879 rfl (by omega)), F2_52, if_neg (own_ne x 8255 8255 rfl (by omega)), if_neg (own_ne x 8256 8256 rfl (by omega))]; rfl
  exact ⟨f1, f2⟩
theorem own_iv81 (x : Int32) (h1 : 63744 ≤ x.toInt) (h2 : x.toInt ≤ 63744) : F1_0 x = 0 ∧ F2_0 x = 1 := by
  have f1 : F1_0 x = 0 := by rw [F1_0, if_pos (own_gt x 44 44 rfl (by omega)), if_neg (own_ne x 47 47 rfl (by omega)), if_neg (own_nl x 58 58 rfl (by omega)), if_pos (own_gt x 64 64 rfl (by omega)), F1_30, if_neg (own_nl x 91 91 rfl (by omega)), if_pos (own_gt x 94 94 rfl (by omega)), F1_44, if_neg (own_ne x 96 96 rfl (by omega)), if_neg (own_nl x 123 123 rfl (by omega)), if_pos (own_gt x 182 182 rfl (by omega)), F1_67, if_neg (own_nl x 184 184 rfl (by omega)), if_pos (own_gt x 191 191 rfl (by omega)), F1_83, if_neg (own_ne x 215 215 rfl (by omega)), if_neg (own_ne x 247 247 rfl (by omega)), if_neg (own_ne x 894 894 rfl (by omega)), if_neg (own_nl x 8192 8192 rfl (by omega)), if_pos (own_gt x 8203 8203 rfl (by omega)), F1_122, if_neg (own_nl x 8206 8206 rfl (by omega)), if_pos (own_gt x 8254 8254 rfl (by omega)), F1_138, if_neg (own_nl x 8257 8257 rfl (by omega)), if_pos (own_gt x 8303 8303 rfl (by omega)), F1_154, if_neg (own_nl x 8592 8592 rfl (by omega)), if_pos (own_gt x 11263 11263 rfl (by omega)), F1_170, if_neg (own_nl x 12272 12272 rfl (by omega)), if_pos (own_gt x 12288 12288 rfl (by omega)), F1_186, if_neg (own_nl x 57344 57344 rfl (by omega)), if_pos (own_gt x 63743 63743 rfl (by omega)), F1_200, if_pos (own_lt x 64976 64976 rfl (by omega)), F1_214, if_pos (own_lt x 65534 65534 rfl (by omega))]; rfl
  have f3 : F3_0 x = 1 := by rw [F3_0, if_neg (own_nl x 97 97 rfl (by omega)), if_pos (own_gt x 122 122 rfl (by omega)), F3_12, if_neg (own_nl x 65 65 rfl (by omega)), if_pos (own_gt x 90 90 rfl (by omega)), F3_24, if_neg (own_ne x 95 95 rfl (by omega)), if_neg (own_nl x 192 192 rfl (by omega)), if_pos (own_gt x 214 214 rfl (by omega)), F3_44, if_neg (own_nl x 216 216 rfl (by omega)), if_pos (own_gt x 246 246 rfl (by omega)), F3_58, if_neg (own_nl x 248 248 rfl (by omega)), if_pos (own_gt x 767 767 rfl (by omega)), F3_72, if_neg (own_nl x 880 880 rfl (by omega)), if_pos (own_gt x 893 893 rfl (by omega)), F3_86, if_neg (own_nl x 895 895 rfl (by omega)), if_pos (own_gt x 8191 8191 rfl (by omega)), F3_100, if_neg (own_ne x 8204 8204 rfl (by omega)), if_neg (own_ne x 8205 8205 rfl (by omega)), if_neg (own_nl x 8304 8304 rfl (by omega)), if_pos (own_gt x 8591 8591 rfl (by omega)), F3_128, if_neg (own_nl x 11264 11264 rfl (by omega)), if_pos (own_gt x 12271 12271 rfl (by omega)), F3_142, if_neg (own_nl x 12289 12289 rfl (by omega)), if_pos (own_gt x 57343 57343 rfl (by omega)), F3_155, if_neg (own_nl x 63744 63744 rfl (by omega)), if_neg (own_ng x 64975 64975 rfl (by omega)), F3_179]; rfl
  have f2 : F2_0 x = 1 := by rw [F2_0, f3, if_neg (by decide), F2_66]; rfl
  exact ⟨f1, f2⟩
theorem own_iv82 (x : Int32) (h1 : 63745 ≤ x.toInt) (h2 : x.toInt ≤ 64974) : F1_0 x = 0 ∧ F2_0 x = 1 := by
  have f1 : F1_0 x = 0 := by rw [F1_0, if_pos (own_gt x 44 44 rfl (by omega)), if_neg (own_ne x 47 47 rfl (by omega)), if_neg (own_nl x 58 58 rfl (by omega)), if_pos (own_gt x 64 64 rfl (by omega)), F1_30, if_neg (own_nl x 91 91 rfl (by omega)), if_pos (own_gt x 94 94 rfl (by omega)), F1_44, if_neg (own_ne x 96 96 rfl (by omega)), if_neg (own_nl x 123 123 rfl (by omega)), if_pos (own_gt x 182 182 rfl (by omega)), F1_67, if_neg (own_nl x 184 184 rfl (by omega)), if_pos (own_gt x 191 191 rfl (by omega)), F1_83, if_neg (own_ne x 215 215 rfl (by omega)), if_neg (own_ne x 247 247 rfl (by omega)), if_neg (own_ne x 894 894 rfl (by omega)), if_neg (own_nl x 8192 8192 rfl (by omega)), if_pos (own_gt x 8203 8203 rfl (by omega)), F1_122, if_neg (own_nl x 8206 8206 rfl (by omega)), if_pos (own_gt x 8254 8254 rfl (by omega)), F1_138, if_neg (own_nl x 8257 8257 rfl (by omega)), if_pos (own_gt x 8303 8303 rfl (by omega)), F1_154, if_neg (own_nl x 8592 8592 rfl (by omega)), if_pos (own_gt x 11263 11263 rfl (by omega)), F1_170, if_neg (own_nl x 12272 12272 rfl (by omega)), if_pos (own_gt x 12288 12288 rfl (by omega)), F1_186, if_neg (own_nl x 57344 57344 rfl (by omega)), if_pos (own_gt x 63743 63743 rfl (by omega)), F1_200, if_pos (own_lt x 64976 64976 rfl (by omega)), F1_214, if_pos (own_lt x 65534 65534 rfl (by omega))]; rfl
  have f3 : F3_0 x = 1 := by rw [F3_0, if_neg (own_nl x 97 97 rfl (by omega)), if_pos (own_gt x 122 122 rfl (by omega)), F3_12, if_neg (own_nl x 65 65 rfl (by omega)), if_pos (own_gt x 90 90 rfl (by omega)), F3_24, if_neg (own_ne x 95 95 rfl (by omega)), if_neg (own_nl x 192 192 rfl (by omega)), if_pos (own_gt x 214 214 rfl (by omega)), F3_44, if_neg (own_nl x 216 216 rfl (by omega)), if_pos (own_gt x 246 246 rfl (by omega)), F3_58, if_neg (own_nl x 248 248 rfl (by omega)), if_pos (own_gt x 767 767 rfl (by omega)), F3_72, if_neg (own_nl x 880 880 rfl (by omega)), if_pos (own_gt x 893 893 rfl (by omega)), F3_86, if_neg (own_nl x 895 895 rfl (by omega)), if_pos (own_gt x 8191 8191 rfl (by omega)), F3_100, if_neg (own_ne x 8204 8204 rfl (by omega)), if_neg (own_ne x 8205 8205 rfl (by omega)), if_neg (own_nl x 8304 8304 rfl (by omega)), if_pos (own_gt x 8591 8591 rfl (by omega)), F3_128, if_neg (own_nl x 11264 11264 rfl (by omega)), if_pos (own_gt x 12271 12271 rfl (by omega)), F3_142, if_neg (own_nl x 12289 12289 rfl (by omega)), if_pos (own_gt x 57343 57343 rfl (by omega)), F3_155, if_neg (own_nl x 63744 63744 rfl (by omega)), if_neg (own_ng x 64975 64975 rfl (by omega)), F3_179]; rfl
  have f2 : F2_0 x = 1 := by rw [F2_0, f3, if_neg (by decide), F2_66]; rfl
  exact ⟨f1, f2⟩
theorem own_iv83 (x : Int32) (h1 : 64975 ≤ x.toInt) (h2 : x.toInt ≤ 64975) : F1_0 x = 0 ∧ F2_0 x = 1 := by
  have f1 : F1_0 x = 0 := by rw [F1_0, if_pos (own_gt x 44 44 rfl (by omega)), if_neg (own_ne x 47 47 rfl (by omega)), if_neg (own_nl x 58 58 rfl (by omega)), if_pos (own_gt x 64 64 rfl (by omega)), F1_30, if_neg (own_nl x 91 91 rfl (by omega)), if_pos (own_gt x 94 94 rfl (by omega)), F1_44, if_neg (own_ne x 96 96 rfl (by omega)), if_neg (own_nl x 123 123 rfl (by omega)), if_pos (own_gt x 182 182 rfl (by omega)), F1_67, if_neg (own_nl x 184 184 rfl (by omega)), if_pos (own_gt x 191 191 rfl (by omega)), F1_83, if_neg (own_ne x 215 215 rfl (by omega)), if_neg (own_ne x 247 247 rfl (by omega)), if_neg (own_ne x 894 894 rfl (by omega)), if_neg (own_nl x 8192 8192 rfl (by omega)), if_pos (own_gt x 8203 8203 rfl (by omega)), F1_122, if_neg (own_nl x 8206 8206 rfl (by omega)), if_pos (own_gt x 8254 8254 rfl (by omega)), F1_138, if_neg (own_nl x 8257 8257 rfl (by omega)), if_pos (own_gt x 8303 8303 rfl (by omega)), F1_154, if_neg (own_nl x 8592 8592 rfl (by omega)), if_pos (own_gt x 11263 11263 rfl (by omega)), F1_170, if_neg (own_nl x 12272 12272 rfl (by omega)), if_pos (own_gt x 12288 12288 rfl (by omega)), F1_186, if_neg (own_nl x 57344 57344 rfl (by omega)), if_pos (own_gt x 63743 63743 rfl (by omega)), F1_200, if_pos (own_lt x 64976 64976 rfl (by omega)), F1_214, if_pos (own_lt x 65534 65534 rfl (by omega))]; rfl
  have f3 : F3_0 x = 1 := by rw [F3_0, if_neg (own_nl x 97 97 rfl (by omega)), if_pos (own_gt x 122 122 rfl (by omega)), F3_12, if_neg (own_nl x 65 65 rfl (by omega)), if_pos (own_gt x 90 90 rfl (by omega)), F3_24, if_neg (own_ne x 95 95 rfl (by omega)), if_neg (own_nl x 192 192 rfl (by omega)), if_pos (own_gt x 214 214 rfl (by omega)), F3_44, if_neg (own_nl x 216 216 rfl (by omega)), if_pos (own_gt x 246 246 rfl (by omega)), F3_58, if_neg (own_nl x 248 248 rfl (by omega)), if_pos (own_gt x 767 767 rfl (by omega)), F3_72, if_neg (own_nl x 880 880 rfl (by omega)), if_pos (own_gt x 893 893 rfl (by omega)), F3_86, if_neg (own_nl x 895 895 rfl (by omega)), if_pos (own_gt x 8191 8191 rfl (by omega)), F3_100, if_neg (own_ne x 8204 8204 rfl (by omega)), if_neg (own_ne x 8205 8205 rfl (by omega)), if_neg (own_nl x 8304 8304 rfl (by omega)), if_pos (own_gt x 8591 8591 rfl (by omega)), F3_128, if_neg (own_nl x 11264 11264 rfl (by omega)), if_pos (own_gt x 12271 12271 rfl (by omega)), F3_142, if_neg (own_nl x 12289 12289 rfl (by omega)), if_pos (own_gt x 57343 57343 rfl (by omega)), F3_155, if_neg (own_nl x 63744 63744 rfl (by omega)), if_neg (own_ng x 64975 64975 rfl (by omega)), F3_179]; rfl
  have f2 : F2_0 x = 1 := by rw [F2_0, f3, if_neg (by decide), F2_66]; rfl
  exact ⟨f1, f2⟩
theorem own_iv84 (x : Int32) (h1 : 64976 ≤ x.toInt) (h2 : x.toInt ≤ 64976) : F1_0 x = 1 ∧ F2_0 x = 0 := by
  have f1 : F1_0 x = 1 := by rw [F1_0, if_pos (own_gt x 44 44 rfl (by omega)), if_neg (own_ne x 47 47 rfl (by omega)), if_neg (own_nl x 58 58 rfl (by omega)), if_pos (own_gt x 64 64 rfl (by omega)), F1_30, if_neg (own_nl x 91 91 rfl (by omega)), if_pos (own_gt x 94 94 rfl (by omega)), F1_44, if_neg (own_ne x 96 96 rfl (by omega)), if_neg (own_nl x 123 123 rfl (by omega)), if_pos (own_gt x 182 182 rfl (by omega)), F1_67, if_neg (own_nl x 184 184 rfl (by omega)), if_pos (own_gt x 191 191 rfl (by omega)), F1_83, if_neg (own_ne x 215 215 rfl (by omega)), if_neg (own_ne x 247 247 rfl (by omega)), if_neg (own_ne x 894 894 rfl (by omega)), if_neg (own_nl x 8192 8192 rfl (by omega)), if_pos (own_gt x 8203 8203 rfl (by omega)), F1_122, if_neg (own_nl x 8206 8206 rfl (by omega)), if_pos (own_gt x 8254 8254 rfl (by omega)), F1_138, if_neg (own_nl x 8257 8257 rfl (by omega)), if_pos (own_gt x 8303 8303 rfl (by omega)), F1_154, if_neg (own_nl x 8592 8592 rfl (by omega)), if_pos (own_gt x 11263 11263 rfl (by omega)), F1_170, if_neg (own_nl x 12272 12272 rfl (by omega)), if_pos (own_gt x 12288 12288 rfl (by omega)), F1_186, if_neg (own_nl x 57344 57344 rfl (by omega)), if_pos (own_gt x 63743 63743 rfl (by omega)), F1_200, if_neg (own_nl x 64976 64976 rfl (by omega)), if_neg (own_ng x 65007 65007 rfl (by omega))]
  have f3 : F3_0 x = 0 := by rw [F3_0, if_neg (own_nl x 97 97 rfl (by omega)), if_pos (own_gt x 122 122 rfl (by omega)), F3_12, if_neg (own_nl x 65 65 rfl (by omega)), if_pos (own_gt x 90 90 rfl (by omega)), F3_24, if_neg (own_ne x 95 95 rfl (by omega)), if_neg (own_nl x 192 192 rfl (by omega)), if_pos (own_gt x 214 214 rfl (by omega)), F3_44, if_neg (own_nl x 216 216 rfl (by omega)), if_pos (own_gt x 246 246 rfl (by omega)), F3_58, if_neg (own_nl x 248 248 rfl (by omega)), if_pos (own_gt x 767 767 rfl (by omega)), F3_72, if_neg (own_nl x 880 880 rfl (by omega)), if_pos (own_gt x 893 893 rfl (by omega)), F3_86, if_neg (own_nl x 895 895 rfl (by omega)), if_pos (own_gt x 8191 8191 rfl (by omega)), F3_100, if_neg (own_ne x 8204 8204 rfl (by omega)), if_neg (own_ne x 8205 8205 rfl (by omega)), if_neg (own_nl x 8304 8304 rfl (by omega)), if_pos (own_gt x 8591 8591 rfl (by omega)), F3_128, if_neg (own_nl x 11264 11264 rfl (by omega)), if_pos (own_gt x 12271 12271 rfl (by omega)), F3_142, if_neg (own_nl x 12289 12289 rfl (by omega)), if_pos (own_gt x 57343 57343 rfl (by omega)), F3_155, if_neg (own_nl x 63744 63744 rfl (by omega)), if_pos (own_gt x 64975 64975 rfl (by omega)), F3_167, if_pos (own_lt x 65008 65008 rfl (by omega)), F3_183]; rfl
  have f2 : F2_0 x = 0 := by rw [F2_0, f3, if_pos rfl, if_neg (own_ne x 45 45 rfl (by omega)), if_neg (own_ne x 46 46 rfl (by omega)), if_neg (own_nl x 48 48 rfl (by omega)), if_pos (own_gt x 57 57 rfl (by omega)), F2_31, if_neg (own_ne x 183 183 rfl (by omega)), if_neg (own_nl x 768 768 rfl (by omega)), if_pos (own_gt x 879 879 rfl (by omega)), F2_52, if_neg (own_ne x 8255 8255 rfl (by omega)), if_neg (own_ne x 8256 8256 rfl (by omega))]; rfl
  exact ⟨f1, f2⟩
theorem own_iv85 (x : Int32) (h1 : 64977 ≤ x.toInt) (h2 : x.toInt ≤ 65006) : F1_0 x = 1 ∧ F2_0 x = 0 := by
  have f1 : F1_0 x = 1 := by rw [F1_0, if_pos (own_gt x 44 44 rfl (by omega)), if_neg (own_ne x 47 47 rfl (by omega)), if_neg (own_nl x 58 58 rfl (by omega)), if_pos (own_gt x 64 64 rfl (by omega)), F1_30, if_neg (own_nl x 91 91 rfl (by omega)), if_pos (own_gt x 94 94 rfl (by omega)), F1_44, if_neg (own_ne x 96 96 rfl (by omega)), if_neg (own_nl x 123 123 rfl (by omega)), if_pos (own_gt x 182 182 rfl (by omega)), F1_67, if_neg (own_nl x 184 184 rfl (by omega)), if_pos (own_gt x 191 191 rfl (by omega)), F1_83, if_neg (own_ne x 215 215 rfl (by omega)), if_neg (own_ne x 247 247 rfl (by omega)), if_neg (own_ne x 894 894 rfl (by omega)), if_neg (own_nl x 8192 8192 rfl (by omega)), if_pos (own_gt x 8203 8203 rfl (by omega)), F1_122, if_neg (own_nl x 8206 8206 rfl (by omega)), if_pos (own_gt x 8254 8254 rfl (by omega)), F1_138, if_neg (own_nl x 8257 8257 rfl (by omega)), if_pos (own_gt x 8303 8303 rfl (by omega)), F1_154, if_neg (own_nl x 8592 8592 rfl (by omega)), if_pos (own_gt x 11263 11263 rfl (by omega)), F1_170, if_neg (own_nl x 12272 12272 rfl (by omega)), if_pos (own_gt x 12288 12288 rfl (by omega)), F1_186, if_neg (own_nl x 57344 57344 rfl (by omega)), if_pos (own_gt x 63743 63743 rfl (by omega)), F1_200, if_neg (own_nl x 64976 64976 rfl (by omega)), if_neg (own_ng x 65007 65007 rfl (by omega))]
  have f3 : F3_0 x = 0 := by rw [F3_0, if_neg (own_nl x 97 97 rfl (by omega)), if_pos (own_gt x 122 122 rfl (by omega)), F3_12, if_neg (own_nl x 65 65 rfl (by omega)), if_pos (own_gt x 90 90 rfl (by omega)), F3_24, if_neg (own_ne x 95 95 rfl (by omega)), if_neg (own_nl x 192 192 rfl (by omega)), if_pos (own_gt x 214 214 rfl (by omega)), F3_44, if_neg (own_nl x 216 216 rfl (by omega)), if_pos (own_gt x 246 246 rfl (by omega)), F3_58, if_neg (own_nl x 248 248 rfl (by omega)), if_pos (own_gt x 767 767 rfl (by omega)), F3_72, if_neg (own_nl x 880 880 rfl (by omega)), if_pos (own_gt x 893 893 rfl (by omega)), F3_86, if_neg (own_nl x 895 895 rfl (by omega)), if_pos (own_gt x 8191 8191 rfl (by omega)), F3_100, if_neg (own_ne x 8204 8204 rfl (by omega)), if_neg (own_ne x 8205 8205 rfl (by omega)), if_neg (own_nl x 8304 8304 rfl (by omega)), if_pos (own_gt x 8591 8591 rfl (by omega)), F3_128, if_neg (own_nl x 11264 11264 rfl (by omega)), if_pos (own_gt x 12271 12271 rfl (by omega)), F3_142, if_neg (own_nl x 12289 12289 rfl (by omega)), if_pos (own_gt x 57343 57343 rfl (by omega)), F3_155, if_neg (own_nl x 63744 63744 rfl (by omega)), if_pos (own_gt x 64975 64975 rfl (by omega)), F3_167, if_pos (own_lt x 65008 65008 rfl (by omega)), F3_183]; rfl
  have f2 : F2_0 x = 0 := by rw [F2_0, f3, if_pos rfl, if_neg (own_ne x 45 45 rfl (by omega)), if_neg (own_ne x 46 46 rfl (by omega)), if_neg (own_nl x 48 48 rfl (by omega)), if_pos (own_gt x 57 57 rfl (by omega)), F2_31, if_neg (own_ne x 183 183 rfl (by omega)), if_neg (own_nl x 768 768 rfl (by omega)), if_pos (own_gt x 879 879 rfl (by omega)), F2_52, if_neg (own_ne x 8255 8255 rfl (by omega)), if_neg (own_ne x 8256 8256 rfl (by omega))]; rfl
  exact ⟨f1, f2⟩
theorem own_iv86 (x : Int32) (h1 : 65007 ≤ x.toInt) (h2 : x.toInt ≤ 65007) : F1_0 x = 1 ∧ F2_0 x = 0 := by
  have f1 : F1_0 x = 1 := by rw [F1_0, if_pos (own_gt x 44 44 rfl (by omega)), if_neg (own_ne x 47 47 rfl (by omega)), if_neg (own_nl x 58 58 rfl (by omega)), if_pos (own_gt x 64 64 rfl (by omega)), F1_30, if_neg (own_nl x 91 91 rfl (by omega)), if_pos (own_gt x 94 94 rfl (by omega)), F1_44, if_neg (own_ne x 96 96 rfl (by omega)), if_neg (own_nl x 123 123 rfl (by omega)), if_pos (own_gt x 182 182 rfl (by omega)), F1_67, if_neg (own_nl x 184 184 rfl (by omega)), if_pos (own_gt x 191 191 rfl (by omega)), F1_83, if_neg (own_ne x 215 215 rfl (by omega)), if_neg (own_ne x 247 247 rfl (by omega)), if_neg (own_ne x 894 894 rfl (by omega)), if_neg (own_nl x 8192 8192 rfl (by omega)), if_pos (own_gt x 8203 8203 rfl (by omega)), F1_122, if_neg (own_nl x 8206 8206 rfl (by omega)), if_pos (own_gt x 8254 8254 rfl (by omega)), F1_138, if_neg (own_nl x 8257 8257 rfl (by omega)), if_pos (own_gt x 8303 8303 rfl (by omega)), F1_154, if_neg (own_nl x 8592 8592 rfl (by omega)), if_pos (own_gt x 11263 11263 rfl (by omega)), F1_170, if_neg (own_nl x 12272 12272 rfl (by omega)), if_pos (own_gt x 12288 12288 rfl (by omega)), F1_186, if_neg (own_nl x 57344 57344 rfl (by omega)), if_pos (own_gt x 63743 63743 rfl (by omega)), F1_200, if_neg (own_nl x 64976 64976 rfl (by omega)), if_neg (own_ng x 65007 65007 rfl (by omega))]
  have f3 : F3_0 x = 0 := by rw [F3_0, if_neg (own_nl x 97 97 rfl (by omega)), if_pos (own_gt x 122 122 rfl (by omega)), F3_12, if_neg (own_nl x 65 65 rfl (by omega)), if_pos (own_gt x 90 90 rfl (by omega)), F3_24, if_neg (own_ne x 95 95 rfl (by omega)), if_neg (own_nl x 192 192 rfl (by omega)), if_pos (own_gt x 214 214 rfl (by omega)), F3_44, if_neg (own_nl x 216 216 rfl (by omega)), if_pos (own_gt x 246 246 rfl (by omega)), F3_58, if_neg (own_nl x 248 248 rfl (by omega)), if_pos (own_gt x 767 767 rfl (by omega)), F3_72, if_neg (own_nl x 880 880 rfl (by omega)), if_pos (own_gt x 893 893 rfl (by omega)), F3_86, if_neg (own_nl x 895 895 rfl (by omega)), if_pos (own_gt x 8191 8191 rfl (by omega)), F3_100, if_neg (own_ne x 8204 8204 rfl (by omega)), if_neg (own_ne x 8205 8205 rfl (by omega)), if_neg (own_nl x 8304 8304 rfl (by omega)), if_pos (own_gt x 8591 8591 rfl (by omega)), F3_128, if_neg (own_nl x 11264 11264 rfl (by omega)), if_pos (own_gt x 12271 12271 rfl (by omega)), F3_142, if_neg (own_nl x 12289 12289 rfl (by omega)), if_pos (own_gt x 57343 57343 rfl (by omega)), F3_155, if_neg (own_nl x 63744 63744 rfl (by omega)), if_pos (own_gt x 64975 64975 rfl (by omega)), F3_167, if_pos (own_lt x 65008 65008 rfl (by omega)), F3_183]; rfl
  have f2 : F2_0 x = 0 := by rw [F2_0, f3, if_pos rfl, if_neg (own_ne x 45 45 rfl (by omega)), if_neg (own_ne x 46 46 rfl (by omega)), if_neg (own_nl x 48 48 rfl (by omega)), if_pos (own_gt x 57 57 rfl (by omega)), F2_31, if_neg (own_ne x 183 183 rfl (by omega)), if_neg (own_nl x 768 768 rfl (by omega)), if_pos (own_gt x 879 879 rfl (by omega)), F2_52, if_neg (own_ne x 8255 8255 rfl (by omega)), if_neg (own_ne x 8256 8256 rfl (by omega))]; rfl
  exact ⟨f1, f2⟩
theorem own_iv87 (x : Int32) (h1 : 65008 ≤ x.toInt) (h2 : x.toInt ≤ 65008) : F1_0 x = 0 ∧ F2_0 x = 1 := by
  have f1 : F1_0 x = 0 := by rw [F1_0, if_pos (own_gt x 44 44 rfl (by omega)), if_neg (own_ne x 47 47 rfl (by omega)), if_neg (own_nl x 58 58 rfl (by omega)), if_pos (own_gt x 64 64 rfl (by omega)), F1_30, if_neg (own_nl x 91 91 rfl (by omega)), if_pos (own_gt x 94 94 rfl (by omega)), F1_44, if_neg (own_ne x 96 96 rfl (by omega)), if_neg (own_nl x 123 123 rfl (by omega)), if_pos (own_gt x 182 182 rfl (by omega)), F1_67, if_neg (own_nl x 184 184 rfl (by omega)), if_pos (own_gt x 191 191 rfl (by omega)), F1_83, if_neg (own_ne x 215 215 rfl (by omega)), if_neg (own_ne x 247 247 rfl (by omega)), if_neg (own_ne x 894 894 rfl (by omega)), if_neg (own_nl x 8192 8192 rfl (by omega)), if_pos (own_gt x 8203 8203 rfl (by omega)), F1_122, if_neg (own_nl x 8206 8206 rfl (by omega)), if_pos (own_gt x 8254 8254 rfl (by omega)), F1_138, if_neg (own_nl x 8257 8257 rfl (by omega)), if_pos (own_gt x 8303 8303 rfl (by omega)), F1_154, if_neg (own_nl x 8592 8592 rfl (by omega)), if_pos (own_gt x 11263 11263 rfl (by omega)), F1_170, if_neg (own_nl x 12272 12272 rfl (by omega)), if_pos (own_gt x 12288 12288 rfl (by omega)), F1_186, if_neg (own_nl x 57344 57344 rfl (by omega)), if_pos (own_gt x 63743 63743 rfl (by omega)), F1_200, if_neg (own_nl x 64976 64976 rfl (by omega)), if_pos (own_gt x 65007 65007 rfl (by omega)), F1_214, if_pos (own_lt x 65534 65534 rfl (by omega))]; rfl
  have f3 : F3_0 x = 1 := by rw [F3_0, if_neg (own_nl x 97 97 rfl (by omega)), if_pos (own_gt x 122 122 rfl (by omega)), F3_12, if_neg (own_nl x 65 65 rfl (by omega)), if_pos (own_gt x 90 90 rfl (by omega)), F3_24, if_neg (own_ne x 95 95 rfl (by omega)), if_neg (own_nl x 192 192 rfl (by omega)), if_pos (own_gt x 214 214 rfl (by omega)), F3_44, if_neg (own_nl x 216 216 rfl (by omega)), if_pos (own_gt x 246 246 rfl (by omega)), F3_58, if_neg (own_nl x 248 248 rfl (by omega)), if_pos (own_gt x 767 767 rfl (by omega)), F3_72, if_neg (own_nl x 880 880 rfl (by omega)), if_pos (own_gt x 893 893 rfl (by omega)), F3_86, if_neg (own_nl x 895 895 rfl (by omega)), if_pos (own_gt x 8191 8191 rfl (by omega)), F3_100, if_neg (own_ne x 8204 8204 rfl (by omega)), if_neg (own_ne x 8205 8205 rfl (by omega)), if_neg (own_nl x 8304 8304 rfl (by omega)), if_pos (own_gt x 8591 8591 rfl (by omega)), F3_128, if_neg (own_nl x 11264 11264 rfl (by omega)), if_pos (own_gt x 12271 12271 rfl (by omega)), F3_142, if_neg (own_nl x 12289 12289 rfl (by omega)), if_pos (own_gt x 57343 57343 rfl (by omega)), F3_155, if_neg (own_nl x 63744 63744 rfl (by omega)), if_pos (own_gt x 64975 64975 rfl (by omega)), F3_167, if_neg (own_nl x 65008 65008 rfl (by omega)), if_neg (own_ng x 65533 65533 rfl (by omega)), F3_179]; rfl
  have f2 : F2_0 x = 1 := by rw [F2_0, f3, if_neg (by decide), F2_66]; rfl
  exact ⟨f1, f2⟩
theorem own_iv88 (x : Int32) (h1 : 65009 ≤ x.toInt) (h2 : x.toInt ≤ 65532) : F1_0 x = 0 ∧ F2_0 x = 1 := by
  have f1 : F1_0 x = 0 := by rw [F1_0, if_pos (own_gt x 44 44 rfl (by omega)), if_neg (own_ne x 47 47 rfl (by omega)), if_neg (own_nl x 58 58 rfl (by omega)), if_pos (own_gt x 64 64 rfl (by omega)), F1_30, if_neg (own_nl x 91 91 rfl (by omega)), if_pos (own_gt x 94 94 rfl (by omega)), F1_44, if_neg (own_ne x 96 96 rfl (by omega)), if_neg (own_nl x 123 123 rfl (by omega)), if_pos (own_gt x 182 182 rfl (by omega)), F1_67, if_neg (own_nl x 184 184 rfl (by omega)), if_pos (own_gt x 191 191 rfl (by omega)), F1_83, if_neg (own_ne x 215 215 rfl (by omega)), if_neg (own_ne x 247 247 rfl (by omega)), if_neg (own_ne x 894 894 rfl (by omega)), if_neg (own_nl x 8192 8192 rfl (by omega)), if_pos (own_gt x 8203 8203 rfl (by omega)), F1_122, if_neg (own_nl x 8206 8206 rfl (by omega)), if_pos (own_gt x 8254 8254 rfl (by omega)), F1_138, if_neg (own_nl x 8257 8257 rfl (by omega)), if_pos (own_gt x 8303 8303 rfl (by omega)), F1_154, if_neg (own_nl x 8592 8592 rfl (by omega)), if_pos (own_gt x 11263 11263 rfl (by omega)), F1_170, if_neg (own_nl x 12272 12272 rfl (by omega)), if_pos (own_gt x 12288 12288 rfl (by omega)), F1_186, if_neg (own_nl x 57344 57344 rfl (by omega)), if_pos (own_gt x 63743 63743 rfl (by omega)), F1_200, if_neg (own_nl x 64976 64976 rfl (by omega)), if_pos (own_gt x 65007 65007 rfl (by omega)), F1_214, if_pos (own_lt x 65534 65534 rfl (by omega))]; rfl
  have f3 : F3_0 x = 1 := by rw [F3_0, if_neg (own_nl x 97 97 rfl (by omega)), if_pos (own_gt x 122 122 rfl (by omega)), F3_12, if_neg (own_nl x 65 65 rfl (by omega)), if_pos (own_gt x 90 90 rfl (by omega)), F3_24, if_neg (own_ne x 95 95 rfl (by omega)), if_neg (own_nl x 192 192 rfl (by omega)), if_pos (own_gt x 214 214 rfl (by omega)), F3_44, if_neg (own_nl x 216 216 rfl (by omega)), if_pos (own_gt x 246 246 rfl (by omega)), F3_58, if_neg (own_nl x 248 248 rfl (by omega)), if_pos (own_gt x 767 767 rfl (by omega)), F3_72, if_neg (own_nl x 880 880 rfl (by omega)), if_pos (own_gt x 893 893 rfl (by omega)), F3_86, if_neg (own_nl x 895 895 rfl (by omega)), if_pos (own_gt x 8191 8191 rfl (by omega)), F3_100, if_neg (own_ne x 8204 8204 rfl (by omega)), if_neg (own_ne x 8205 8205 rfl (by omega)), if_neg (own_nl x 8304 8304 rfl (by omega)), if_pos (own_gt x 8591 8591 rfl (by omega)), F3_128, if_neg (own_nl x 11264 11264 rfl (by omega)), if_pos (own_gt x 12271 12271 rfl (by omega)), F3_142, if_neg (own_nl x 12289 12289 rfl (by omega)), if_pos (own_gt x 57343 57343 rfl (by omega)), F3_155, if_neg (own_nl x 63744 63744 rfl (by omega)), if_pos (own_gt x 64975 64975 rfl (by omega)), F3_167, if_neg (own_nl x 65008 65008 rfl (by omega)), if_neg (own_ng x 65533 65533 rfl (by omega)), F3_179]; rfl
  have f2 : F2_0 x = 1 := by rw [F2_0, f3, if_neg (by decide), F2_66]; rfl
  exact ⟨f1, f2⟩
theorem own_iv89 (x : Int32) (h1 : 65533 ≤ x.toInt) (h2 : x.toInt ≤ 65533) : F1_0 x = 0 ∧ F2_0 x = 1 := by
  have f1 : F1_0 x = 0 := by rw [F1_0, if_pos (own_gt x 44 44 rfl (by omega)), if_neg (own_ne x 47 47 rfl (by omega)), if_neg (own_nl x 58 58 rfl (by omega)), if_pos (own_gt x 64 64 rfl (by omega)), F1_30, if_neg (own_nl x 91 91 rfl (by omega)), if_pos (own_gt x 94 94 rfl (by omega)), F1_44, if_neg (own_ne x 96 96 rfl (by omega)), if_neg (own_nl x 123 123 rfl (by omega)), if_pos (own_gt x 182 182 rfl (by omega)), F1_67, if_neg (own_nl x 184 184 rfl (by omega)), if_pos (own_gt x 191 191 rfl (by omega)), F1_83, if_neg (own_ne x 215 215 rfl (by omega)), if_neg (own_ne x 247 247 rfl (by omega)), if_neg (own_ne x 894 894 rfl (by omega)), if_neg (own_nl x 8192 8192 rfl (by omega)), if_pos (own_gt x 8203 8203 rfl (by omega)), F1_122, if_neg (own_nl x 8206 8206 rfl (by omega)), if_pos (own_gt x 8254 8254 rfl (by omega)), F1_138, if_neg (own_nl x 8257 8257 rfl (by omega)), if_pos (own_gt x 8303 8303 rfl (by omega)), F1_154, if_neg (own_nl x 8592 8592 rfl (by omega)), if_pos (own_gt x 11263 11263 rfl (by omega)), F1_170, if_neg (own_nl x 12272 12272 rfl (by omega)), if_pos (own_gt x 12288 12288 rfl (by omega)), F1_186, if_neg (own_nl x 57344 57344 rfl (by omega)), if_pos (own_gt x 63743 63743 rfl (by omega)), F1_200, if_neg (own_nl x 64976 64976 rfl (by omega)), if_pos (own_gt x 65007 65007 rfl (by omega)), F1_214, if_pos (own_lt x 65534 65534 rfl (by omega))]; rfl
  have f3 : F3_0 x = 1 := by rw [F3_0, if_neg (own_nl x 97 97 rfl (by omega)), if_pos (own_gt x 122 122 rfl (by omega)), F3_12, if_neg (own_nl x 65 65 rfl (by omega)), if_pos (own_gt x 90 90 rfl (by omega)), F3_24, if_neg (own_ne x 95 95 rfl (by omega)), if_neg (own_nl x 192 192 rfl (by omega)), if_pos (own_gt x 214 214 rfl (by omega)), F3_44, if_neg (own_nl x 216 216 rfl (by omega)), if_pos (own_gt x 246 246 rfl (by omega)), F3_58, if_neg (own_nl x 248 248 rfl (by omega)), if_pos (own_gt x 767 767 rfl (by omega)), F3_72, if_neg (own_nl x 880 880 rfl (by omega)), if_pos (own_gt x 893 893 rfl (by omega)), F3_86, if_neg (own_nl x 895 895 rfl (by omega)), if_pos (own_gt x 8191 8191 rfl (by omega)), F3_100, if_neg (own_ne x 8204 8204 rfl (by omega)), if_neg (own_ne x 8205 8205 rfl (by omega)), if_neg (own_nl x 8304 8304 rfl (by omega)), if_pos (own_gt x 8591 8591 rfl (by omega)), F3_128, if_neg (own_nl x 11264 11264 rfl (by omega)), if_pos (own_gt x 12271 12271 rfl (by omega)), F3_142, if_neg (own_nl x 12289 12289 rfl (by omega)), if_pos (own_gt x 57343 57343 rfl (by omega)), F3_155, if_neg (own_nl x 63744 63744 rfl (by omega)), if_pos (own_gt x 64975 64975 rfl (by omega)), F3_167, if_neg (own_nl x 65008 65008 rfl (by omega)), if_neg (own_ng x 65533 65533 rfl (by omega)), F3_179]; rfl
  have f2 : F2_0 x = 1 := by rw [F2_0, f3, if_neg (by decide), F2_66]; rfl
  exact ⟨f1, f2⟩
theorem own_iv90 (x : Int32) (h1 : 65534 ≤ x.toInt) (h2 : x.toInt ≤ 65534) : F1_0 x = 1 ∧ F2_0 x = 0 := by
  have f1 : F1_0 x = 1 := by rw [F1_0, if_pos (own_gt x 44 44 rfl (by omega)), if_neg (own_ne x 47 47 rfl (by omega)), if_neg (own_nl x 58 58 rfl (by omega)), if_pos (own_gt x 64 64 rfl (by omega)), F1_30, if_neg (own_nl x 91 91 rfl (by omega)), if_pos (own_gt x 94 94 rfl (by omega)), F1_44, if_neg (own_ne x 96 96 rfl (by omega)), if_neg (own_nl x 123 123 rfl (by omega)), if_pos (own_gt x 182 182 rfl (by omega)), F1_67, if_neg (own_nl x 184 184 rfl (by omega)), if_pos (own_gt x 191 191 rfl (by omega)), F1_83, if_neg (own_ne x 215 215 rfl (by omega)), if_neg (own_ne x 247 247 rfl (by omega)), if_neg (own_ne x 894 894 rfl (by omega)), if_neg (own_nl x 8192 8192 rfl (by omega)), if_pos (own_gt x 8203 8203 rfl (by omega)), F1_122, if_neg (own_nl x 8206 8206 rfl (by omega)), if_pos (own_gt x 8254 8254 rfl (by omega)), F1_138, if_neg (own_nl x 8257 8257 rfl (by omega)), if_pos (own_gt x 8303 8303 rfl (by omega)), F1_154, if_neg (own_nl x 8592 8592 rfl (by omega)), if_pos (own_gt x 11263 11263 rfl (by omega)), F1_170, if_neg (own_nl x 12272 12272 rfl (by omega)), if_pos (own_gt x 12288 12288 rfl (by omega)), F1_186, if_neg (own_nl x 57344 57344 rfl (by omega)), if_pos (own_gt x 63743 63743 rfl (by omega)), F1_200, if_neg (own_nl x 64976 64976 rfl (by omega)), if_pos (own_gt x 65007 65007 rfl (by omega)), F1_214, if_neg (own_nl x 65534 65534 rfl (by omega))]; rfl
  have f3 : F3_0 x = 0 := by rw [F3_0, if_neg (own_nl x 97 97 rfl (by omega)), if_pos (own_gt x 122 122 rfl (by omega)), F3_12, if_neg (own_nl x 65 65 rfl (by omega)), if_pos (own_gt x 90 90 rfl (by omega)), F3_24, if_neg (own_ne x 95 95 rfl (by omega)), if_neg (own_nl x 192 192 rfl (by omega)), if_pos (own_gt x 214 214 rfl (by omega)), F3_44, if_neg (own_nl x 216 216 rfl (by omega)), if_pos (own_gt x 246 246 rfl (by omega)), F3_58, if_neg (own_nl x 248 248 rfl (by omega)), if_pos (own_gt x 767 767 rfl (by omega)), F3_72, if_neg (own_nl x 880 880 rfl (by omega)), if_pos (own_gt x 893 893 rfl (by omega)), F3_86, if_neg (own_nl x 895 895 rfl (by omega)), if_pos (own_gt x 8191 8191 rfl (by omega)), F3_100, if_neg (own_ne x 8204 8204 rfl (by omega)), if_neg (own_ne x 8205 8205 rfl (by omega)), if_neg (own_nl x 8304 8304 rfl (by omega)), if_pos (own_gt x 8591 8591 rfl (by omega)), F3_128, if_neg (own_nl x 11264 11264 rfl (by omega)), if_pos (own_gt x 12271 12271 rfl (by omega)), F3_142, if_neg (own_nl x 12289 12289 rfl (by omega)), if_pos (own_gt x 57343 57343 rfl (by omega)), F3_155, if_neg (own_nl x 63744 63744 rfl (by omega)), if_pos (own_gt x 64975 64975 rfl (by omega)), F3_167, if_neg (own_nl x 65008 65008 rfl (by omega)), if_pos (own_gt x 65533 65533 rfl (by omega)), F3_183]; rfl
  have f2 : F2_0 x = 0 := by rw [F2_0, f3, if_pos rfl, if_neg (own_ne x 45 45 rfl (by omega)), if_neg (own_ne x 46 46 rfl (by omega)), if_neg (own_nl x 48 48 rfl (by omega)), if_pos (own_gt x 57 57 rfl (by omega)), F2_31, if_neg (own_ne x 183 183 rfl (by omega)), if_neg (own_nl x 768 768 rfl (by omega)), if_pos (own_gt x 879 879 rfl (by omega)), F2_52, if_neg (own_ne x 8255 8255 rfl (by omega)), if_neg (own_ne x 8256 8256 rfl (by omega))]; rfl
  exact ⟨f1, f2⟩
theorem own_iv91 (x : Int32) (h1 : 65535 ≤ x.toInt) (h2 : x.toInt ≤ 65535) : F1_0 x = 1 ∧ F2_0 x = 0 := by
  have f1 : F1_0 x = 1 := by rw [F1_0, if_pos (own_gt x 44 44 rfl (by omega)), if_neg (own_ne x 47 47 rfl (by omega)), if_neg (own_nl x 58 58 rfl (by omega)), if_pos (own_gt x 64 64 rfl (by omega)), F1_30, if_neg (own_nl x 91 91 rfl (by omega)), if_pos (own_gt x 94 94 rfl (by omega)), F1_44, if_neg (own_ne x 96 96 rfl (by omega)), if_neg (own_nl x 123 123 rfl (by omega)), if_pos (own_gt x 182 182 rfl (by omega)), F1_67, if_neg (own_nl x 184 184 rfl (by omega)), if_pos (own_gt x 191 191 rfl (by omega)), F1_83, if_neg (own_ne x 215 215 rfl (by omega)), if_neg (own_ne x 247 247 rfl (by omega)), if_neg (own_ne x 894 894 rfl (by omega)), if_neg (own_nl x 8192 8192 rfl (by omega)), if_pos (own_gt x 8203 8203 rfl (by omega)), F1_122, if_neg (own_nl x 8206 8206 rfl (by omega)), if_pos (own_gt x 8254 8254 rfl (by omega)), F1_138, if_neg (own_nl x 8257 8257 rfl (by omega)), if_pos (own_gt x 8303 8303 rfl (by omega)), F1_154, if_neg (own_nl x 8592 8592 rfl (by omega)), if_pos (own_gt x 11263 11263 rfl (by omega)), F1_170, if_neg (own_nl x 12272 12272 rfl (by omega)), if_pos (own_gt x 12288 12288 rfl (by omega)), F1_186, if_neg (own_nl x 57344 57344 rfl (by omega)), if_pos (own_gt x 63743 63743 rfl (by omega)), F1_200, if_neg (own_nl x 64976 64976 rfl (by omega)), if_pos (own_gt x 65007 65007 rfl (by omega)), F1_214, if_neg (own_nl x 65534 65534 rfl (by omega))]; rfl
  have f3 : F3_0 x = 0 := by rw [F3_0, if_neg (own_nl x 97 97 rfl (by omega)), if_pos (own_gt x 122 122 rfl (by omega)), F3_12, if_neg (own_nl x 65 65 rfl (by omega)), if_pos (own_gt x 90 90 rfl (by omega)), F3_24, if_neg (own_ne x 95 95 rfl (by omega)), if_neg (own_nl x 192 192 rfl (by omega)), if_pos (own_gt x 214 214 rfl (by omega)), F3_44, if_neg (own_nl x 216 216 rfl (by omega)), if_pos (own_gt x 246 246 rfl (by omega)), F3_58, if_neg (own_nl x 248 248 rfl (by omega)), if_pos (own_gt x 767 767 rfl (by omega)), F3_72, if_neg (own_nl x 880 880 rfl (by omega)), if_pos (own_gt x 893 893 rfl (by omega)), F3_86, if_neg (own_nl x 895 895 rfl (by omega)), if_pos (own_gt x 8191 8191 rfl (by omega)), F3_100, if_neg (own_ne x 8204 8204 rfl (by omega)), if_neg (own_ne x 8205 8205 rfl (by omega)), if_neg (own_nl x 8304 8304 rfl (by omega)), if_pos (own_gt x 8591 8591 rfl (by omega)), F3_128, if_neg (own_nl x 11264 11264 rfl (by omega)), if_pos (own_gt x 12271 12271 rfl (by omega)), F3_142, if_neg (own_nl x 12289 12289 rfl (by omega)), if_pos (own_gt x 57343 57343 rfl (by omega)), F3_155, if_neg (own_nl x 63744 63744 rfl (by omega)), if_pos (own_gt x 64975 64975 rfl (by omega)), F3_167, if_neg (own_nl x 65008 65008 rfl (by omega)), if_pos (own_gt x 65533 65533 rfl (by omega)), F3_183]; rfl
  have f2 : F2_0 x = 0 := by rw [F2_0, f3, if_pos rfl, if_neg (own_ne x 45 45 rfl (by omega)), if_neg (own_ne x 46 46 rfl (by omega)), if_neg (own_nl x 48 48 rfl (by omega)), if_pos (own_gt x 57 57 rfl (by omega)), F2_31, if_neg (own_ne x 183 183 rfl (by omega)), if_neg (own_nl x 768 768 rfl (by omega)), if_pos (own_gt x 879 879 rfl (by omega)), F2_52, if_neg (own_ne x 8255 8255 rfl (by omega)), if_neg (own_ne x 8256 8256 rfl (by omega))]; rfl
  exact ⟨f1, f2⟩
theorem own_all (x : Int32) (h0 : 0 ≤ x.toInt) (h1 : x.toInt ≤ 65535) : (F1_0 x = 1 ∧ F2_0 x = 0) ∨ (F1_0 x = 0 ∧ F2_0 x = 1) := by
  rcases Int.lt_or_le 43 x.toInt with c0 | c0; rotate_left; · exact Or.inl (own_iv0 x (by omega) c0)
  rcases Int.lt_or_le 44 x.toInt with c1 | c1; rotate_left; · exact Or.inl (own_iv1 x (by omega) c1)
  rcases Int.lt_or_le 45 x.toInt with c2 | c2; rotate_left; · exact Or.inr (own_iv2 x (by omega) c2)
  rcases Int.lt_or_le 46 x.toInt with c3 | c3; rotate_left; · exact Or.inr (own_iv3 x (by omega) c3)
  rcases Int.lt_or_le 47 x.toInt with c4 | c4; rotate_left; · exact Or.inl (own_iv4 x (by omega) c4)
  rcases Int.lt_or_le 48 x.toInt with c5 | c5; rotate_left; · exact Or.inr (own_iv5 x (by omega) c5)
  rcases Int.lt_or_le 56 x.toInt with c6 | c6; rotate_left; · exact Or.inr (own_iv6 x (by omega) c6)
  rcases Int.lt_or_le 57 x.toInt with c7 | c7; rotate_left; · exact Or.inr (own_iv7 x (by omega) c7)
  rcases Int.lt_or_le 58 x.toInt with c8 | c8; rotate_left; · exact Or.inl (own_iv8 x (by omega) c8)
  rcases Int.lt_or_le 63 x.toInt with c9 | c9; rotate_left; · exact Or.inl (own_iv9 x (by omega) c9)
  rcases Int.lt_or_le 64 x.toInt with c10 | c10; rotate_left; · exact Or.inl (own_iv10 x (by omega) c10)
  rcases Int.lt_or_le 65 x.toInt with c11 | c11; rotate_left; · exact Or.inr (own_iv11 x (by omega) c11)
  rcases Int.lt_or_le 89 x.toInt with c12 | c12; rotate_left; · exact Or.inr (own_iv12 x (by omega) c12)
  rcases Int.lt_or_le 90 x.toInt with c13 | c13; rotate_left; · exact Or.inr (own_iv13 x (by omega) c13)
  rcases Int.lt_or_le 91 x.toInt with c14 | c14; rotate_left; · exact Or.inl (own_iv14 x (by omega) c14)
  rcases Int.lt_or_le 93 x.toInt with c15 | c15; rotate_left; · exact Or.inl (own_iv15 x (by omega) c15)
  rcases Int.lt_or_le 94 x.toInt with c16 | c16; rotate_left; · exact Or.inl (own_iv16 x (by omega) c16)
  rcases Int.lt_or_le 95 x.toInt with c17 | c17; rotate_left; · exact Or.inr (own_iv17 x (by omega) c17)
  rcases Int.lt_or_le 96 x.toInt with c18 | c18; rotate_left; · exact Or.inl (own_iv18 x (by omega) c18)
  rcases Int.lt_or_le 97 x.toInt with c19 | c19; rotate_left; · exact Or.inr (own_iv19 x (by omega) c19)
  rcases Int.lt_or_le 121 x.toInt with c20 | c20; rotate_left; · exact Or.inr (own_iv20 x (by omega) c20)
  rcases Int.lt_or_le 122 x.toInt with c21 | c21; rotate_left; · exact Or.inr (own_iv21 x (by omega) c21)
  rcases Int.lt_or_le 123 x.toInt with c22 | c22; rotate_left; · exact Or.inl (own_iv22 x (by omega) c22)
  rcases Int.lt_or_le 181 x.toInt with c23 | c23; rotate_left; · exact Or.inl (own_iv23 x (by omega) c23)
  rcases Int.lt_or_le 182 x.toInt with c24 | c24; rotate_left; · exact Or.inl (own_iv24 x (by omega) c24)
  rcases Int.lt_or_le 183 x.toInt with c25 | c25; rotate_left; · exact Or.inr (own_iv25 x (by omega) c25)
  rcases Int.lt_or_le 184 x.toInt with c26 | c26; rotate_left; · exact Or.inl (own_iv26 x (by omega) c26)
  rcases Int.lt_or_le 190 x.toInt with c27 | c27; rotate_left; · exact Or.inl (own_iv27 x (by omega) c27)
  rcases Int.lt_or_le 191 x.toInt with c28 | c28; rotate_left; · exact Or.inl (own_iv28 x (by omega) c28)
  rcases Int.lt_or_le 192 x.toInt with c29 | c29; rotate_left; · exact Or.inr (own_iv29 x (by omega) c29)
  rcases Int.lt_or_le 213 x.toInt with c30 | c30; rotate_left; · exact Or.inr (own_iv30 x (by omega) c30)
  rcases Int.lt_or_le 214 x.toInt with c31 | c31; rotate_left; · exact Or.inr (own_iv31 x (by omega) c31)
  rcases Int.lt_or_le 215 x.toInt with c32 | c32; rotate_left; · exact Or.inl (own_iv32 x (by omega) c32)
  rcases Int.lt_or_le 216 x.toInt with c33 | c33; rotate_left; · exact Or.inr (own_iv33 x (by omega) c33)
  rcases Int.lt_or_le 245 x.toInt with c34 | c34; rotate_left; · exact Or.inr (own_iv34 x (by omega) c34)
  rcases Int.lt_or_le 246 x.toInt with c35 | c35; rotate_left; · exact Or.inr (own_iv35 x (by omega) c35)
  rcases Int.lt_or_le 247 x.toInt with c36 | c36; rotate_left; · exact Or.inl (own_iv36 x (by omega) c36)
  rcases Int.lt_or_le 248 x.toInt with c37 | c37; rotate_left; · exact Or.inr (own_iv37 x (by omega) c37)
  rcases Int.lt_or_le 766 x.toInt with c38 | c38; rotate_left; · exact Or.inr (own_iv38 x (by omega) c38)
  rcases Int.lt_or_le 767 x.toInt with c39 | c39; rotate_left; · exact Or.inr (own_iv39 x (by omega) c39)
  rcases Int.lt_or_le 768 x.toInt with c40 | c40; rotate_left; · exact Or.inr (own_iv40 x (by omega) c40)
  rcases Int.lt_or_le 878 x.toInt with c41 | c41; rotate_left; · exact Or.inr (own_iv41 x (by omega) c41)
  rcases Int.lt_or_le 879 x.toInt with c42 | c42; rotate_left; · exact Or.inr (own_iv42 x (by omega) c42)
  rcases Int.lt_or_le 880 x.toInt with c43 | c43; rotate_left; · exact Or.inr (own_iv43 x (by omega) c43)
  rcases Int.lt_or_le 892 x.toInt with c44 | c44; rotate_left; · exact Or.inr (own_iv44 x (by omega) c44)
  rcases Int.lt_or_le 893 x.toInt with c45 | c45; rotate_left; · exact Or.inr (own_iv45 x (by omega) c45)
  rcases Int.lt_or_le 894 x.toInt with c46 | c46; rotate_left; · exact Or.inl (own_iv46 x (by omega) c46)
  rcases Int.lt_or_le 895 x.toInt with c47 | c47; rotate_left; · exact Or.inr (own_iv47 x (by omega) c47)
  rcases Int.lt_or_le 8190 x.toInt with c48 | c48; rotate_left; · exact Or.inr (own_iv48 x (by omega) c48)
  rcases Int.lt_or_le 8191 x.toInt with c49 | c49; rotate_left; · exact Or.inr (own_iv49 x (by omega) c49)
  rcases Int.lt_or_le 8192 x.toInt with c50 | c50; rotate_left; · exact Or.inl (own_iv50 x (by omega) c50)
  rcases Int.lt_or_le 8202 x.toInt with c51 | c51; rotate_left; · exact Or.inl (own_iv51 x (by omega) c51)
  rcases Int.lt_or_le 8203 x.toInt with c52 | c52; rotate_left; · exact Or.inl (own_iv52 x (by omega) c52)
  rcases Int.lt_or_le 8204 x.toInt with c53 | c53; rotate_left; · exact Or.inr (own_iv53 x (by omega) c53)
  rcases Int.lt_or_le 8205 x.toInt with c54 | c54; rotate_left; · exact Or.inr (own_iv54 x (by omega) c54)
  rcases Int.lt_or_le 8206 x.toInt with c55 | c55; rotate_left; · exact Or.inl (own_iv55 x (by omega) c55)
  rcases Int.lt_or_le 8253 x.toInt with c56 | c56; rotate_left; · exact Or.inl (own_iv56 x (by omega) c56)
  rcases Int.lt_or_le 8254 x.toInt with c57 | c57; rotate_left; · exact Or.inl (own_iv57 x (by omega) c57)
  rcases Int.lt_or_le 8255 x.toInt with c58 | c58; rotate_left; · exact Or.inr (own_iv58 x (by omega) c58)
  rcases Int.lt_or_le 8256 x.toInt with c59 | c59; rotate_left; · exact Or.inr (own_iv59 x (by omega) c59)
  rcases Int.lt_or_le 8257 x.toInt with c60 | c60; rotate_left; · exact Or.inl (own_iv60 x (by omega) c60)
  rcases Int.lt_or_le 8302 x.toInt with c61 | c61; rotate_left; · exact Or.inl (own_iv61 x (by omega) c61)
  rcases Int.lt_or_le 8303 x.toInt with c62 | c62; rotate_left; · exact Or.inl (own_iv62 x (by omega) c62)
  rcases Int.lt_or_le 8304 x.toInt with c63 | c63; rotate_left; · exact Or.inr (own_iv63 x (by omega) c63)
  rcases Int.lt_or_le 8590 x.toInt with c64 | c64; rotate_left; · exact Or.inr (own_iv64 x (by omega) c64)
  rcases Int.lt_or_le 8591 x.toInt with c65 | c65; rotate_left; · exact Or.inr (own_iv65 x (by omega) c65)
  rcases Int.lt_or_le 8592 x.toInt with c66 | c66; rotate_left; · exact Or.inl (own_iv66 x (by omega) c66)
  rcases Int.lt_or_le 11262 x.toInt with c67 | c67; rotate_left; · exact Or.inl (own_iv67 x (by omega) c67)
  rcases Int.lt_or_le 11263 x.toInt with c68 | c68; rotate_left; · exact Or.inl (own_iv68 x (by omega) c68)
  rcases Int.lt_or_le 11264 x.toInt with c69 | c69; rotate_left; · exact Or.inr (own_iv69 x (by omega) c69)
  rcases Int.lt_or_le 12270 x.toInt with c70 | c70; rotate_left; · exact Or.inr (own_iv70 x (by omega) c70)
  rcases Int.lt_or_le 12271 x.toInt with c71 | c71; rotate_left; · exact Or.inr (own_iv71 x (by omega) c71)
  rcases Int.lt_or_le 12272 x.toInt with c72 | c72; rotate_left; · exact Or.inl (own_iv72 x (by omega) c72)
  rcases Int.lt_or_le 12287 x.toInt with c73 | c73; rotate_left; · exact Or.inl (own_iv73 x (by omega) c73)
  rcases Int.lt_or_le 12288 x.toInt with c74 | c74; rotate_left; · exact Or.inl (own_iv74 x (by omega) c74)
  rcases Int.lt_or_le 12289 x.toInt with c75 | c75; rotate_left; · exact Or.inr (own_iv75 x (by omega) c75)
  rcases Int.lt_or_le 57342 x.toInt with c76 | c76; rotate_left; · exact Or.inr (own_iv76 x (by omega) c76)
  rcases Int.lt_or_le 57343 x.toInt with c77 | c77; rotate_left; · exact Or.inr (own_iv77 x (by omega) c77)
  rcases Int.lt_or_le 57344 x.toInt with c78 | c78; rotate_left; · exact Or.inl (own_iv78 x (by omega) c78)
  rcases Int.lt_or_le 63742 x.toInt with c79 | c79; rotate_left; · exact Or.inl (own_iv79 x (by omega) c79)
  rcases Int.lt_or_le 63743 x.toInt with c80 | c80; rotate_left; · exact Or.inl (own_iv80 x (by omega) c80)
  rcases Int.lt_or_le 63744 x.toInt with c81 | c81; rotate_left; · exact Or.inr (own_iv81 x (by omega) c81)
  rcases Int.lt_or_le 64974 x.toInt with c82 | c82; rotate_left; · exact Or.inr (own_iv82 x (by omega) c82)
  rcases Int.lt_or_le 64975 x.toInt with c83 | c83; rotate_left; · exact Or.inr (own_iv83 x (by omega) c83)
  rcases Int.lt_or_le 64976 x.toInt with c84 | c84; rotate_left; · exact Or.inl (own_iv84 x (by omega) c84)
  rcases Int.lt_or_le 65006 x.toInt with c85 | c85; rotate_left; · exact Or.inl (own_iv85 x (by omega) c85)
  rcases Int.lt_or_le 65007 x.toInt with c86 | c86; rotate_left; · exact Or.inl (own_iv86 x (by omega) c86)
  rcases Int.lt_or_le 65008 x.toInt with c87 | c87; rotate_left; · exact Or.inr (own_iv87 x (by omega) c87)
  rcases Int.lt_or_le 65532 x.toInt with c88 | c88; rotate_left; · exact Or.inr (own_iv88 x (by omega) c88)
  rcases Int.lt_or_le 65533 x.toInt with c89 | c89; rotate_left; · exact Or.inr (own_iv89 x (by omega) c89)
  rcases Int.lt_or_le 65534 x.toInt with c90 | c90; rotate_left; · exact Or.inl (own_iv90 x (by omega) c90)
  exact Or.inl (own_iv91 x (by omega) (by omega))
theorem own_law (p0 : Int32) : F0_0 p0 = 1 := by
  have k := c_i2c p0
  have a := own_all (p0.toUInt32.toUInt16.toUInt32.toInt32) k.2.1 (by omega)
  rcases a with ⟨a, b⟩ | ⟨a, b⟩
  · rw [F0_0, a, if_neg (by decide), F0_15, b]; first | rfl | (rw [if_pos rfl]; rfl)
  · rw [F0_0, a, if_pos rfl, F0_15, b]; first | rfl | (rw [if_pos rfl]; rfl)
set_option maxRecDepth 65536 in
set_option maxHeartbeats 40000000 in
theorem comes_1 {Post : Tables → Env → Array Value → State → Outcome → State → Prop} (hpost : ∀ tb e args s v u, (limb_1_1.after args s (.returned v) u = true ∧ limb_1_2.after args s (.returned v) u = true ∧ True) → FrameEnd s (.returned v) u (Jvm.fieldLocs frame_1_writes args s ++ Jvm.arrayLocs frame_1_arrays args s ++ Jvm.staticLocs frame_1_statics s) 0 0 → Post tb e args s (.returned v) u) :
    ArmFor flags0 classFile x code maxLocals ret World_1 tables_1 room_1 Calls_1 rest_1 Pre_1 Post := by
  intro l hfl _ _ p e ha hc hk s m args below hf hA hF happ hP
  obtain ⟨hcalls, hrest, hpre⟩ := hP
  obtain ⟨-, -, -, hnamed, -, -, -, hat⟩ := (Spec.applies_iff hf).mp happ
  obtain ⟨hg, hn⟩ := and_e (Cond.before_iff.mp (show (Jvm.Cond.and given_1 narrow_1).before args s = true from hpre))
  obtain ⟨g0, hg⟩ := and_e hg
  obtain ⟨w0, rfl⟩ : ∃ w0 : Value, args = #[w0] := by
    have hs : args.size = 1 := by simpa [Cond.value, given_1] using g0
    obtain ⟨L⟩ := args
    match L, hs with
    | [w0], _ => exact ⟨w0, rfl⟩
  have hw := fun d (hd : d ∈ tables_1) => atoms_spec (ws := Jvm.Cond.code x code maxLocals ret :: tables_1) hat d (List.mem_cons_of_mem _ hd)
  have g1 := hg
  obtain ⟨i0, e0⟩ := is_v g1
  obtain rfl : w0 = (.int i0) := Option.some.inj e0
  obtain ⟨n, o, h1, h2, h3, _, L, rfl, ⟨rfl, N, _⟩, hq⟩ := rm0 l s _ hw i0 s.heap s.heap.size (Nat.le_refl _) tables_1 p e ha hc hk s m _ below hf ((Spec.applies_iff_loose hf).mp happ).1 ⟨rfl, State.Warmed39.refl s, rfl⟩ trivial
  refine ⟨n, _, h1, h2, h3, hpost _ _ _ _ _ _ ⟨Cond.after_iff.mpr rfl, Cond.after_iff.mpr (eq_i res_at (Term.int_eval (1)) (by rw [own_law i0]) rfl), trivial⟩ ⟨hq.1, hq.2.1, (hq.2.2.sift fun y hy => Or.inr (N y hy)).mono (by decide) (by decide)⟩⟩
theorem main_1_1 : Claimed_1_1 := comes_1 fun _ _ _ _ _ _ h hF => ⟨h.1, hF⟩
theorem main_1_2 : Claimed_1_2 := comes_1 fun _ _ _ _ _ _ h hF => ⟨h.2.1, hF⟩
end Jvm.Pilot.@@N@@
namespace Jvm.Pilot.@@N@@
open Jvm Jvm.ClassFile Sem Op Lib Jvm.Free Jvm.Stand Jvm.Pilot.@@N@@.Jvm.D
/-! MADE BY PROGRAM (witnessworld.py) out of the Statement's table words and the real class files: 9 classes; the members and pool entries that the words name. The judged class is class 1, her method 1. -/
namespace start1
open Jvm.ClassFile
def u (s : String) : CpInfo := .utf8 (stringToUtf16 s)
/-- a pool by its gaps: so many unusable entries, then the entry; so many at the end -/
def gap : Nat → List CpInfo → List CpInfo
  | 0, r => r
  | n + 1, r => .unusable :: gap n r
def poolList (es : List (Nat × CpInfo)) (last : Nat) : List CpInfo := es.foldr (fun e r => gap e.1 (e.2 :: r)) (gap last [])
def pool (es : List (Nat × CpInfo)) (last : Nat) : Array CpInfo := ⟨poolList es last⟩
def fileOf (pool : Array CpInfo) (this : Nat) (attrs : Array Attribute := #[]) (ms : Array MethodInfo := #[]) (fl : Nat := 33) (sup : Nat := 0) (ifs : Array Nat := #[]) (fds : Array FieldInfo := #[]) : ClassFile where
  minorVersion := 0
  majorVersion := 65
  constantPool := pool
  accessFlags := fl
  thisClass := this
  superClass := sup
  interfaces := ifs
  fields := fds
  methods := ms
  attributes := attrs
def plain (name : String) (sup : Option ClassId) : Class where
  name := name
  kind := .ordinary
  loader := none
  accessFlags := 33
  super := sup
  interfaces := #[]
  cf := none
  fields := #[]
  methods := #[]
  instanceTypes := #[]
  staticTypes := #[]
  resolved := #[]
  callSites := []
  init := .initialized
  statics := none
  mirror := none

def pool0 : Array CpInfo := pool [(5, u "<init>"), (0, u "()V"), (1, .class_ 10), (1, u "java/lang/Object")] 113

def k0m0 : Method := { name := "<init>", desc := "()V", sig := { parameters := [], returnType := none }, accessFlags := 1, code := none }
/-- java/lang/Object -/
def k0 : Class := { plain "java/lang/Object" none with
  accessFlags := 33
  interfaces := #[]
  cf := some (fileOf pool0 8 #[] #[{ accessFlags := 1, nameIndex := 5, descriptorIndex := 6, attributes := #[] }] 33 0 #[] #[])
  fields := #[]
  methods := #[k0m0]
  instanceTypes := #[]
  staticTypes := #[]
  resolved := Array.replicate 124 none
  statics := none }

def pool1 : Array CpInfo := pool [(2, .class_ 4), (1, u "java/lang/Object"), (0, u "<init>"), (0, u "()V"), (0, .methodref 8 9), (0, .class_ 10), (0, .nameAndType 11 12), (0, u "com/example/lather/lather/xml/XmlCharsIsNcNameCharPinLaw"), (0, u "excluded"), (0, u "(I)Z"), (0, .methodref 14 15), (0, .class_ 16), (0, .nameAndType 17 18), (0, u "com/example/lather/lather/xml/XmlChars"), (0, u "isNcNameChar"), (0, u "(C)Z"), (0, .integer 57344), (0, .integer 63743), (0, .integer 64976), (0, .integer 65007), (0, .integer 65534), (2, u "law")] 3

def k1m0 : Method := { name := "<init>", desc := "()V", sig := { parameters := [], returnType := none }, accessFlags := 2, code := none }
def k1c1 : Code := { maxStack := 2, maxLocals := 3, code := code, exceptionTable := #[], attributes := #[] }
def k1m1 : Method := { name := "law", desc := "(I)Z", sig := { parameters := [.int], returnType := some .boolean }, accessFlags := 9, code := some k1c1 }
def k1c2 : Code := { maxStack := 2, maxLocals := 1, code := method_3_code, exceptionTable := #[], attributes := #[] }
def k1m2 : Method := { name := "excluded", desc := "(I)Z", sig := { parameters := [.int], returnType := some .boolean }, accessFlags := 10, code := some k1c2 }
/-- com/example/lather/lather/xml/XmlCharsIsNcNameCharPinLaw -/
def k1 : Class := { plain "com/example/lather/lather/xml/XmlCharsIsNcNameCharPinLaw" (some 0) with
  accessFlags := 49
  interfaces := #[]
  cf := some (fileOf pool1 8 #[] #[{ accessFlags := 2, nameIndex := 5, descriptorIndex := 6, attributes := #[] }, { accessFlags := 9, nameIndex := 26, descriptorIndex := 12, attributes := #[] }, { accessFlags := 10, nameIndex := 11, descriptorIndex := 12, attributes := #[] }] 49 2 #[] #[])
  fields := #[]
  methods := #[k1m0, k1m1, k1m2]
  instanceTypes := #[]
  staticTypes := #[]
  resolved := Array.replicate 30 none
  statics := none }

def pool2 : Array CpInfo := pool [(2, .class_ 4), (1, u "java/lang/Object"), (0, u "<init>"), (0, u "()V"), (11, .class_ 20), (1, u "com/example/lather/lather/xml/XmlChars"), (1, u "(C)Z"), (21, .methodref 18 45), (0, .nameAndType 46 22), (0, u "isNameStart"), (2, u "isNcNameChar"), (2, .integer 65533), (8, .integer 57343), (0, .integer 63744), (0, .integer 64975), (0, .integer 65008)] 12

def k2m0 : Method := { name := "<init>", desc := "()V", sig := { parameters := [], returnType := none }, accessFlags := 2, code := none }
def k2c1 : Code := { maxStack := 2, maxLocals := 1, code := prog_114_method_6_code, exceptionTable := #[], attributes := #[] }
def k2m1 : Method := { name := "isNcNameChar", desc := "(C)Z", sig := { parameters := [.char], returnType := some .boolean }, accessFlags := 9, code := some k2c1 }
def k2c2 : Code := { maxStack := 2, maxLocals := 1, code := prog_114_method_8_code, exceptionTable := #[], attributes := #[] }
def k2m2 : Method := { name := "isNameStart", desc := "(C)Z", sig := { parameters := [.char], returnType := some .boolean }, accessFlags := 10, code := some k2c2 }
/-- com/example/lather/lather/xml/XmlChars -/
def k2 : Class := { plain "com/example/lather/lather/xml/XmlChars" (some 0) with
  accessFlags := 49
  interfaces := #[]
  cf := some (fileOf pool2 18 #[] #[{ accessFlags := 2, nameIndex := 5, descriptorIndex := 6, attributes := #[] }, { accessFlags := 9, nameIndex := 49, descriptorIndex := 22, attributes := #[] }, { accessFlags := 10, nameIndex := 46, descriptorIndex := 22, attributes := #[] }] 49 2 #[] #[])
  fields := #[]
  methods := #[k2m0, k2m1, k2m2]
  instanceTypes := #[]
  staticTypes := #[]
  resolved := Array.replicate 77 none
  statics := none }

def pool3 : Array CpInfo := pool [(1, u "java/lang/Cloneable"), (0, .class_ 1), (0, u "java/lang/Object"), (0, .class_ 3)] 3

/-- java/lang/Cloneable -/
def k3 : Class := { plain "java/lang/Cloneable" (some 0) with
  accessFlags := 1537
  interfaces := #[]
  cf := some (fileOf pool3 2 #[] #[] 1537 4 #[] #[])
  fields := #[]
  methods := #[]
  instanceTypes := #[]
  staticTypes := #[]
  resolved := Array.replicate 8 none
  statics := none }

def pool4 : Array CpInfo := pool [(1, u "java/io/Serializable"), (0, .class_ 1), (0, u "java/lang/Object"), (0, .class_ 3)] 3

/-- java/io/Serializable -/
def k4 : Class := { plain "java/io/Serializable" (some 0) with
  accessFlags := 1537
  interfaces := #[]
  cf := some (fileOf pool4 2 #[] #[] 1537 4 #[] #[])
  fields := #[]
  methods := #[]
  instanceTypes := #[]
  staticTypes := #[]
  resolved := Array.replicate 8 none
  statics := none }

/-- the primitive byte -/
def k5 : Class := { plain "byte" none with kind := .primitive 'B', accessFlags := 0x411 }
/-- [B -/
def k6 : Class := { plain "[B" (some 0) with kind := .array 5 .byte, interfaces := #[3, 4], accessFlags := 1041 }

/-- the primitive int -/
def k7 : Class := { plain "int" none with kind := .primitive 'I', accessFlags := 0x411 }
/-- [I -/
def k8 : Class := { plain "[I" (some 0) with kind := .array 7 .int, interfaces := #[3, 4], accessFlags := 1041 }

def heap : Heap := #[]
def classes : Array Class := #[k0, k1, k2, k3, k4, k5, k6, k7, k8]
def interned : List (Array UInt16 × Addr) := []
def slotsUsed : Nat := 0
def theMethod : MethodId := ⟨1, 1⟩
def args0 : Array Value := #[.int 5]
def aboutOver (below : List Frame) : State where
  vm := { classes := classes, interned := interned.toArray }
  heap := heap
  slotsUsed := slotsUsed
  threads := #[{ frames := .invoking theMethod args0 :: below }]
def below0 : List Frame := [.native { method := ⟨0, 0⟩, args := #[] }]
def about1 : State := aboutOver below0
def p0 : Program := .bare "" "" ""
def e0 : Env := launch0.env 0 0 0
theorem w_frames : about1.frames = Frame.invoking theMethod args0 :: below0 := rfl
set_option maxRecDepth 65536 in
theorem w_args : argsFit about1.vm theMethod args0 = true := by decide +kernel
set_option maxRecDepth 65536 in
theorem w_heap : heapFits about1 = true := by decide +kernel
set_option maxRecDepth 65536 in
theorem w_runnable : about1.curStatus? = some .runnable := by decide +kernel
set_option maxRecDepth 65536 in
theorem w_alone : about1.alone = true := by decide +kernel
set_option maxRecDepth 65536 in
theorem w_named : about1.methodNamed? x = some theMethod := by decide +kernel
set_option maxRecDepth 65536 in
theorem w_hears : about1.hears theMethod below0 = true := by decide +kernel
set_option maxRecDepth 65536 in
theorem w_ripe : about1.ripe theMethod args0 below0 = true := by decide +kernel
theorem w_running : about1.status = .running := rfl
set_option maxRecDepth 65536 in
theorem w_room : about1.hasRoom e0.platform room_1 = true :=
  launch0.hasRoom_least _ room_1 (by decide +kernel) (by decide +kernel) (by decide +kernel) (by decide +kernel) (by decide +kernel) (by decide +kernel)
theorem allAtoms_all (ts : List Jvm.Cond) (a : Array Jvm.Value) (st : Jvm.State) : (allAtoms ts).before a st = ts.all (fun c => c.before a st) := by
  induction ts with
  | nil => rfl
  | cons c t ih =>
    show (Jvm.Cond.and c (allAtoms t)).before a st = _
    rw [Jvm.Cond.before_and, ih, List.all_cons]
def words1 : List Jvm.Cond := Jvm.Cond.code x code maxLocals ret :: tables_1
/-- a 'code' word, met by the world's own term for the bytes: nothing is compared byte by byte -/
theorem code_word {y : MethodName} {bytes : ByteArray} {mx : Nat} {rt : Option FieldType} {a : Array Value} {s : State} {m : MethodId} {meth : Method} {c : Code} (h1 : s.methodNamed? y = some m) (h2 : s.vm.method? m = some meth) (h3 : meth.code = some c) (h4 : c.code = bytes)
    (h5 : (c.maxLocals == mx && c.exceptionTable.isEmpty && decide (c.maxStack ≤ mostOperands) && decide (meth.sig.returnType = rt) && !meth.locks && decide (parseMethodDescriptor y.desc = some meth.sig)) = true) : (Jvm.Cond.code y bytes mx rt).before a s = true := by
  simp only [Bool.and_eq_true, beq_iff_eq, Bool.not_eq_true', decide_eq_true_eq] at h5
  obtain ⟨⟨⟨⟨⟨g1, g2⟩, g3⟩, g4⟩, g5⟩, g6⟩ := h5
  simp [Cond.before, Cond.holds, Cond.value, h1, h2, h3, h4, g1, g2, g3, g4, g5, g6]
def isCode : Jvm.Cond → Bool
  | .code _ _ _ _ => true
  | _ => false
theorem all_split {L : List Jvm.Cond} {P : Jvm.Cond → Bool} (h1 : L.all (fun c => isCode c || P c) = true) (h2 : ∀ c ∈ L.filter isCode, P c = true) : L.all P = true := by
  refine List.all_eq_true.mpr fun c hc => ?_
  have h := List.all_eq_true.mp h1 c hc
  rcases Bool.eq_false_or_eq_true (isCode c) with hi | hi
  · exact h2 c (List.mem_filter.mpr ⟨hc, hi⟩)
  · simpa [hi] using h
set_option maxRecDepth 65536 in
theorem w_c0 : (Jvm.Cond.code x code maxLocals ret).before args0 about1 = true := code_word (m := ⟨1, 1⟩) (meth := k1m1) (c := k1c1) (by decide +kernel) rfl rfl rfl (by decide +kernel)
set_option maxRecDepth 65536 in
theorem w_c1 : (Jvm.Cond.code ({ cls := "com/example/lather/lather/xml/XmlCharsIsNcNameCharPinLaw", name := "excluded", desc := "(I)Z" } : Jvm.MethodName) method_3_code (1 : Nat) (Option.some Jvm.ClassFile.FieldType.boolean)).before args0 about1 = true := code_word (m := ⟨1, 2⟩) (meth := k1m2) (c := k1c2) (by decide +kernel) rfl rfl rfl (by decide +kernel)
set_option maxRecDepth 65536 in
theorem w_c2 : (Jvm.Cond.code ({ cls := "com/example/lather/lather/xml/XmlChars", name := "isNcNameChar", desc := "(C)Z" } : Jvm.MethodName) prog_114_method_6_code (1 : Nat) (Option.some Jvm.ClassFile.FieldType.boolean)).before args0 about1 = true := code_word (m := ⟨2, 1⟩) (meth := k2m1) (c := k2c1) (by decide +kernel) rfl rfl rfl (by decide +kernel)
set_option maxRecDepth 65536 in
theorem w_c3 : (Jvm.Cond.code ({ cls := "com/example/lather/lather/xml/XmlChars", name := "isNameStart", desc := "(C)Z" } : Jvm.MethodName) prog_114_method_8_code (1 : Nat) (Option.some Jvm.ClassFile.FieldType.boolean)).before args0 about1 = true := code_word (m := ⟨2, 2⟩) (meth := k2m2) (c := k2c2) (by decide +kernel) rfl rfl rfl (by decide +kernel)
def codes1 : List Jvm.Cond := [Jvm.Cond.code x code maxLocals ret, Jvm.Cond.code ({ cls := "com/example/lather/lather/xml/XmlCharsIsNcNameCharPinLaw", name := "excluded", desc := "(I)Z" } : Jvm.MethodName) method_3_code (1 : Nat) (Option.some Jvm.ClassFile.FieldType.boolean), Jvm.Cond.code ({ cls := "com/example/lather/lather/xml/XmlChars", name := "isNcNameChar", desc := "(C)Z" } : Jvm.MethodName) prog_114_method_6_code (1 : Nat) (Option.some Jvm.ClassFile.FieldType.boolean), Jvm.Cond.code ({ cls := "com/example/lather/lather/xml/XmlChars", name := "isNameStart", desc := "(C)Z" } : Jvm.MethodName) prog_114_method_8_code (1 : Nat) (Option.some Jvm.ClassFile.FieldType.boolean)]
set_option maxRecDepth 65536 in
theorem codes_eq : words1.filter isCode = codes1 := rfl
theorem w_codes : ∀ c ∈ words1.filter isCode, c.before args0 about1 = true := by
  rw [codes_eq]
  intro c hc
  simp only [codes1, List.mem_cons, List.not_mem_nil, or_false] at hc
  rcases hc with rfl | rfl | rfl | rfl
  · exact w_c0
  · exact w_c1
  · exact w_c2
  · exact w_c3
set_option maxRecDepth 65536 in
theorem w_t1 : words1.all (fun c => isCode c || c.before args0 about1) = true := by decide +kernel
theorem w_tables : (allAtoms (Jvm.Cond.code x code maxLocals ret :: tables_1)).before args0 about1 = true := by
  rw [allAtoms_all]
  show words1.all (fun c => c.before args0 about1) = true
  refine all_split ?_ w_codes
  rw [w_t1]
set_option maxRecDepth 65536 in
theorem w_case : (Jvm.Cond.and given_1 narrow_1).before args0 about1 = true := by decide +kernel
theorem w_applies : (headSpec (Jvm.Cond.code x code maxLocals ret :: tables_1) room_1).applies x e0.platform about1 = true :=
  (Spec.applies_iff w_frames).mpr ⟨w_running, w_runnable, w_alone, w_named, w_hears, w_ripe, w_room, w_tables⟩
theorem atStart : AtStart classFile x code maxLocals ret World_1 tables_1 room_1 Calls_1 rest_1 Pre_1 launch0 p0 e0 about1 theMethod args0 below0 :=
  ⟨lists_1, trivial, launch0.admits_env _ _ _, launch0.least_env, fairChoices_fair.cas, fairChoices_fair.clock, w_frames, w_args, w_heap, w_applies, trivial, trivial, w_case⟩
end start1
theorem witness_1 : WitnessClaimed_1 := ⟨start1.p0, start1.e0, start1.about1, start1.theMethod, start1.args0, start1.below0, start1.atStart⟩
end Jvm.Pilot.@@N@@
