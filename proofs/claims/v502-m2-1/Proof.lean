import JvmDerived
import JvmDerived.Pilot.@@N@@Statement
import JvmDerived.Pilot.@@N@@Code
set_option linter.unusedVariables false
set_option linter.unusedSimpArgs false
namespace Jvm.RoadKit
open Sem ClassFile Op Lib Jvm.Stand Jvm.Free Jvm.LawKit
section New
variable {p : Program} {l : Launch} {e : Env} {R : Room} {s : State} {m : MethodId} {args : Array Value} {below : List Frame} {meth : Method} {c : Code} {T : State} {locs : List Loc} {cells slots : Nat}
theorem retI (X : Stand p l e R s m args below meth c T locs cells slots) (hx : p.tables.exec = Jvm.exec) {pc : Nat} {Ls : Array Slot} {z : Int32} {rest : List Value} (hret : meth.sig.returnType = some .int) (hd : decode c.code pc = .ok (.ireturn, 1)) {fs : List Frame}
    (hl : ∀ (f : JFrame) (acts : List Action), f.method = m → f.locked = none → f.entered = [] → (doReturn e (T.setTop f) acts (some (.int z))).1 = T.setFrames fs) : Steps p.tables e below (T.setTop (mkF m pc Ls (.int z :: rest))) (T.setFrames fs) := by
  have hm' : T.vm.method? m = some meth := X.method'
  have hn : narrow .int (.int z) = .int z := rfl
  show Steps p.tables e below (T.setTop { method := m, pc := pc, locals := Ls, stack := _ :: rest, locked := none }) _
  jvm_step X.here [X.here.top, hx, hd, hm', hret, hn]
  first | (intro acts; rw [hl _ acts rfl rfl rfl]) | rw [hl _ _ rfl rfl rfl]
  exact Steps.refl _
end New
end Jvm.RoadKit
namespace Jvm.Pilot.@@N@@
open Jvm Jvm.ClassFile Sem Op Lib Jvm.Free Jvm.Stand Jvm.LawKit Jvm.RoadKit Bundle Jvm.Pilot.@@N@@.Jvm.D
section Own
variable {p : Program} {l : Launch} {e : Env} {R : Room} {s : State} {m : MethodId} {args : Array Value} {below : List Frame} {meth : Method} {c : Code} {T : State} {locs : List Loc} {k j : Nat} {Z : State} {a0 : Array Value} {h : Heap}
/-- the run that stands at g goes on to an end as Q says -/
def own_E (p : Program) (e : Env) (below : List Frame) (Q : Outcome → State → Prop) (T : State) (g : JFrame) : Prop :=
  ∃ s₂ o, Steps p.tables e below (T.setTop g) s₂ ∧ s₂.status = .running ∧ Ended s₂ below o ∧ Q o s₂
/-- an end as a contract's Qr says, with so many cells and slots at the most -/
def own_Q (s : State) (Qr : Option Value → Heap → List Loc → Prop) (k j : Nat) (o : Outcome) (U : State) : Prop := ∃ v L, o = .returned v ∧ Qr v U.heap L ∧ FrameEnd s o U L k j
/-- a contract of a method at these arguments and this heap -/
def own_M (l : Launch) (Z : State) (y : MethodName) (bytes : ByteArray) (maxL : Nat) (ret : Option FieldType) (rm : Room) (as' : Array Value) (h : Heap) (Qr : Option Value → Heap → List Loc → Prop) : Prop :=
  ∀ ws : List Jvm.Cond, MetFree l y (head1 (Jvm.Cond.code y bytes maxL ret :: ws) rm) (fun a U => a = as' ∧ Z.Warmed39 U.vm ∧ U.heap = h) (fun _ _ _ _ _ => True) (fun _ U o U' => ∃ v L, o = .returned v ∧ Qr v U'.heap L ∧ FrameEnd U o U' L rm.cells rm.slots)
theorem own_st {Q : Outcome → State → Prop} {T' : State} {g g' : JFrame} (hs : ∀ t, Steps p.tables e below (T'.setTop g') t → Steps p.tables e below (T.setTop g) t) (k : own_E p e below Q T' g') : own_E p e below Q T g := by
  obtain ⟨s₂, o, h1, h2, h3, h4⟩ := k
  exact ⟨s₂, o, hs _ h1, h2, h3, h4⟩
theorem own_sy {Q : Outcome → State → Prop} {T' : State} {g g' : JFrame} (hs : Steps p.tables e below (T.setTop g) (T'.setTop g')) (k : own_E p e below Q T' g') : own_E p e below Q T g := by
  obtain ⟨s₂, o, h1, h2, h3, h4⟩ := k
  exact ⟨s₂, o, hs.trans h1, h2, h3, h4⟩
theorem own_body {y : MethodName} {bytes : ByteArray} {maxL : Nat} {ret : Option FieldType} {rm : Room} {as' : Array Value} {Qr : Option Value → Heap → List Loc → Prop} (hp : plainName y.cls = true)
    (body : ∀ (p : Program) (e : Env) (s : State) (m : MethodId) (below : List Frame) (meth : Method) (c : Code) (T : State), p.tables.exec = Jvm.exec → c.code = bytes → c.maxLocals = maxL → s.vm.findClass y.cls = some m.cls → Z.Warmed39 s.vm → meth.sig.returnType = ret → meth.locks = false → meth.name = y.name →
      Stand p l e rm s m as' below meth c T [] 0 0 → T.heap = h → own_E p e below (own_Q s Qr rm.cells rm.slots) T (entryFrame m as' maxL)) : own_M l Z y bytes maxL ret rm as' h Qr := by
  intro ws
  refine MetFree.of_bodySF (plainFor_of_name hp) hisR ?_
  intro p e s m args below meth c s₁ Bd hml0 hP hK
  obtain ⟨rfl, hZ, hh⟩ := hP
  exact body p e s m below meth c s₁ Bd.exec Bd.bytes hml0 (findClass_of_methodNamed Bd.named) hZ Bd.returns Bd.notSynchronized (name_of_methodNamed Bd.named Bd.method).1 (Stand.of_body Bd) (by rw [← hh, Bd.state]; rfl)
theorem own_retN {Qr : Option Value → Heap → List Loc → Prop} {kk jj pc : Nat} {Ls : Array Slot} {z : Int32} {t : FieldType} {rest : List Value} (X : Stand p l e R s m args below meth c T locs k j) (hx : p.tables.exec = Jvm.exec) (hlk : meth.locks = false) (hret : meth.sig.returnType = some t) (ht : t = .boolean ∨ t = .byte ∨ t = .char ∨ t = .short)
    (hd : decode c.code pc = .ok (.ireturn, 1)) (hk : k ≤ kk) (hj : j ≤ jj) (hq : Qr (some (.int (nar t z))) T.heap locs) : own_E p e below (own_Q s Qr kk jj) T (mkF m pc Ls (.int z :: rest)) := by
  obtain ⟨fs, hr, hrun, hended, hW, hsame⟩ := X.leave (v := some (.int (nar t z))) (fun q => by rw [hret] at q; cases q) hlk
  exact ⟨_, _, retN X hx hret ht hd hr, hrun, hended, _, _, rfl, hq, ⟨_, rfl⟩, hW, hsame.mono hk hj⟩
theorem own_retI {Qr : Option Value → Heap → List Loc → Prop} {kk jj pc : Nat} {Ls : Array Slot} {z : Int32} {rest : List Value} (X : Stand p l e R s m args below meth c T locs k j) (hx : p.tables.exec = Jvm.exec) (hlk : meth.locks = false) (hret : meth.sig.returnType = some .int)
    (hd : decode c.code pc = .ok (.ireturn, 1)) (hk : k ≤ kk) (hj : j ≤ jj) (hq : Qr (some (.int z)) T.heap locs) : own_E p e below (own_Q s Qr kk jj) T (mkF m pc Ls (.int z :: rest)) := by
  obtain ⟨fs, hr, hrun, hended, hW, hsame⟩ := X.leave (v := some (.int z)) (fun q => by rw [hret] at q; cases q) hlk
  exact ⟨_, _, retI X hx hret hd hr, hrun, hended, _, _, rfl, hq, ⟨_, rfl⟩, hW, hsame.mono hk hj⟩
theorem own_retJ {Qr : Option Value → Heap → List Loc → Prop} {kk jj pc : Nat} {Ls : Array Slot} {z : Int64} (X : Stand p l e R s m args below meth c T locs k j) (hx : p.tables.exec = Jvm.exec) (hlk : meth.locks = false) (hret : meth.sig.returnType = some .long)
    (hd : decode c.code pc = .ok (.lreturn, 1)) (hk : k ≤ kk) (hj : j ≤ jj) (hq : Qr (some (.long z)) T.heap locs) : own_E p e below (own_Q s Qr kk jj) T (mkF m pc Ls [.long z]) := by
  obtain ⟨fs, hr, hrun, hended, hW, hsame⟩ := X.leave (v := some (.long z)) (fun q => by rw [hret] at q; cases q) hlk
  exact ⟨_, _, X.lreturnOut hx hret hd hr, hrun, hended, _, _, rfl, hq, ⟨_, rfl⟩, hW, hsame.mono hk hj⟩
theorem own_retV {Qr : Option Value → Heap → List Loc → Prop} {kk jj pc : Nat} {Ls : Array Slot} (X : Stand p l e R s m args below meth c T locs k j) (hx : p.tables.exec = Jvm.exec) (hlk : meth.locks = false) (hret : meth.sig.returnType = none)
    (hd : decode c.code pc = .ok (.return_, 1)) (hk : k ≤ kk) (hj : j ≤ jj) (hq : Qr none T.heap locs) : own_E p e below (own_Q s Qr kk jj) T (mkF m pc Ls []) := by
  obtain ⟨fs, hr, hrun, hended, hW, hsame⟩ := X.leave (v := none) (fun _ => rfl) hlk
  exact ⟨_, _, X.returnOut hx hret hd hr, hrun, hended, _, _, rfl, hq, ⟨_, rfl⟩, hW, hsame.mono hk hj⟩
theorem own_retA {Qr : Option Value → Heap → List Loc → Prop} {kk jj pc : Nat} {Ls : Array Slot} {z : Value} {t : FieldType} {rest : List Value} (X : Stand p l e R s m args below meth c T locs k j) (hx : p.tables.exec = Jvm.exec) (hlk : meth.locks = false) (hret : meth.sig.returnType = some t) (ht : t.isReference = true) (hz : z.isRef = true) (hn : narrow t z = z)
    (hd : decode c.code pc = .ok (.areturn, 1)) (hk : k ≤ kk) (hj : j ≤ jj) (hq : Qr (some z) T.heap locs) : own_E p e below (own_Q s Qr kk jj) T (mkF m pc Ls (z :: rest)) := by
  obtain ⟨fs, hr, hrun, hended, hW, hsame⟩ := X.leave (v := some z) (fun q => by rw [hret] at q; cases q) hlk
  exact ⟨_, _, retOut X hx hret hn (Or.inr (Or.inr (Or.inr (Or.inr ⟨rfl, ht, hz⟩)))) hd hr, hrun, hended, _, _, rfl, hq, ⟨_, rfl⟩, hW, hsame.mono hk hj⟩
theorem own_callS {own : String} {index : Nat} {y : MethodName} {bytes : ByteArray} {maxL W : Nat} {ret : Option FieldType} {rm : Room} {Qr : Option Value → Heap → List Loc → Prop} {Q : Outcome → State → Prop} {g : JFrame} {argsL rest : List Value}
    (X : Stand p l e R s m args below meth c T locs k j) (hx : p.tables.exec = Jvm.exec) (hZ : Z.Warmed39 s.vm) (hown : s.vm.findClass own = some m.cls) (wl : (Cond.methodLink own index y).before a0 Z = true) (wst : (Cond.static y).before a0 Z = true) (wi : (Cond.initialized y.cls).before a0 Z = true) (wc : (Cond.code y bytes maxL ret).before a0 Z = true)
    (hy : y.cls ≠ "java/lang/invoke/MethodHandle" ∧ y.cls ≠ "java/lang/invoke/VarHandle") (hM : own_M l Z y bytes maxL ret rm argsL.toArray T.heap Qr) (hf : rm.frames + 1 ≤ R.frames) (hl : W + (maxL + 11) + rm.locals ≤ R.locals) (hck : k + rm.cells ≤ R.cells) (hcj : j + rm.slots ≤ R.slots)
    (hg : g.method = m) (hsize : g.locals.size = c.maxLocals) (hlen : ∀ sig, parseMethodDescriptor y.desc = some sig → argsL.length = sig.parameters.length) (hstack : g.stack = argsL.reverse ++ rest) (hW : 2 * g.monitorRoom + (rest.map fun v => v.category).sum ≤ W) (hdg : decode c.code g.pc = .ok (.invokestatic index, 3))
    (K : ∀ (T' : State) (L : List Loc) (v : Option Value), Stand p l e R s m args below meth c T' (locs ++ L) (k + rm.cells) (j + rm.slots) → Qr v T'.heap L → own_E p e below Q T' { g with pc := g.pc + 3, stack := v.toList ++ rest }) : own_E p e below Q T g := by
  obtain ⟨v, vm1, ⟨T', L', k', j'⟩, -, X', ⟨Lc, hQ, l', y', z'⟩, st⟩ := Jvm.LawKit.callS X hx (y := y) hown (mvT hZ wl) (mvT hZ wst) (mvT hZ wi) (mvT hZ wc) hy (backOf (W := W) (hM []) hZ wc wi hf hl) hg hsize hlen hstack hW hdg (fun _ _ => ⟨rfl, rfl, hck, hcj⟩)
  dsimp only [Pt.U, Pt.locs, Pt.cells, Pt.slots] at X' l' y' z' st hQ
  subst l' y' z'
  exact own_st st (K _ _ _ X' hQ)
theorem own_tr {P : Heap → Prop} {h h' : Heap} (q : h' = h) (i : P h) : P h' := q ▸ i
theorem own_pop2L {tb : Tables} [Ours tb] {target : State} {g : JFrame} (h : At T m c below) (hx : tb.exec = Jvm.exec) (hg : g.method = m) {x : Int64} {rest : List Value} (hd : decode c.code g.pc = .ok (.pop2, 1)) (hs : g.stack = .long x :: rest)
    (hr : Steps tb e below (T.setTop { g with pc := g.pc + 1, stack := rest }) target) : Steps tb e below (T.setTop g) target := by
  subst hg
  jvm_step h [h.top, hx, hd, hs]
  exact hr
theorem own_callC {own : String} {index : Nat} {y : MethodName} {bytes : ByteArray} {maxL W : Nat} {rm : Room} {Qr : Option Value → Heap → List Loc → Prop} {Q : Outcome → State → Prop} {g : JFrame} {a : Addr} {argsL rest : List Value}
    (X : Stand p l e R s m args below meth c T locs k j) (hx : p.tables.exec = Jvm.exec) (hZ : Z.Warmed39 s.vm) (hy1 : y.name = "<init>") (hown : s.vm.findClass own = some m.cls) (wl : (Cond.methodLink own index y).before a0 Z = true) (wm : (Cond.instanceMethod y).before a0 Z = true) (wi : (Cond.initialized y.cls).before a0 Z = true) (wc : (Cond.code y bytes maxL none).before a0 Z = true)
    (hy : y.cls ≠ "java/lang/invoke/MethodHandle" ∧ y.cls ≠ "java/lang/invoke/VarHandle") (hM : own_M l Z y bytes maxL none rm (.ref a :: argsL).toArray T.heap Qr) (hf : rm.frames + 1 ≤ R.frames) (hl : W + (maxL + 11) + rm.locals ≤ R.locals) (hck : k + rm.cells ≤ R.cells) (hcj : j + rm.slots ≤ R.slots)
    (hg : g.method = m) (hsize : g.locals.size = c.maxLocals) (hlen : ∀ sig, parseMethodDescriptor y.desc = some sig → argsL.length = sig.parameters.length) (hstack : g.stack = argsL.reverse ++ .ref a :: rest) (hW : 2 * g.monitorRoom + (rest.map fun v => v.category).sum ≤ W) (hdg : decode c.code g.pc = .ok (.invokespecial index, 3))
    (K : ∀ (T' : State) (L : List Loc) (v : Option Value), Stand p l e R s m args below meth c T' (locs ++ L) (k + rm.cells) (j + rm.slots) → Qr v T'.heap L → own_E p e below Q T' { g with pc := g.pc + 3, stack := v.toList ++ rest }) : own_E p e below Q T g := by
  obtain ⟨v, vm1, ⟨T', L', k', j'⟩, -, X', ⟨Lc, hQ, l', y', z'⟩, st⟩ := X.specialBack hx (y := y) hy1 hown (mvT hZ wl) (mvT hZ wm) (mvT hZ wc) hy (backOf (W := W) (hM []) hZ wc wi hf hl) hg hsize (Steps.refl _) (a := a) hlen hstack hW hdg (fun _ _ => ⟨rfl, rfl, hck, hcj⟩)
  dsimp only [Pt.U, Pt.locs, Pt.cells, Pt.slots] at X' l' y' z' st hQ
  subst l' y' z'
  exact own_sy st (K _ _ _ X' hQ)
theorem own_callV {own : String} {index : Nat} {y : MethodName} {bytes : ByteArray} {maxL W : Nat} {ret : Option FieldType} {rm : Room} {Qr : Option Value → Heap → List Loc → Prop} {Q : Outcome → State → Prop} {g : JFrame} {a : Addr} {argsL rest : List Value}
    (X : Stand p l e R s m args below meth c T locs k j) (hx : p.tables.exec = Jvm.exec) (hZ : Z.Warmed39 s.vm) (hown : s.vm.findClass own = some m.cls) (wl : (Cond.methodLink own index y).before a0 Z = true) (wd : (Cond.declares y).before a0 Z = true) (wsel : (Cond.selects y.cls y y).before a0 Z = true) (wm : (Cond.instanceMethod y).before a0 Z = true) (wi : (Cond.initialized y.cls).before a0 Z = true) (wc : (Cond.code y bytes maxL ret).before a0 Z = true)
    (hy : y.cls ≠ "java/lang/invoke/MethodHandle" ∧ y.cls ≠ "java/lang/invoke/VarHandle") (E : Exa Z T.heap a y.cls) (hM : own_M l Z y bytes maxL ret rm (.ref a :: argsL).toArray T.heap Qr) (hf : rm.frames + 1 ≤ R.frames) (hl : W + (maxL + 11) + rm.locals ≤ R.locals) (hck : k + rm.cells ≤ R.cells) (hcj : j + rm.slots ≤ R.slots)
    (hg : g.method = m) (hsize : g.locals.size = c.maxLocals) (hlen : ∀ sig, parseMethodDescriptor y.desc = some sig → argsL.length = sig.parameters.length) (hstack : g.stack = argsL.reverse ++ .ref a :: rest) (hW : 2 * g.monitorRoom + (rest.map fun v => v.category).sum ≤ W) (hdg : decode c.code g.pc = .ok (.invokevirtual index, 3))
    (K : ∀ (T' : State) (L : List Loc) (v : Option Value), Stand p l e R s m args below meth c T' (locs ++ L) (k + rm.cells) (j + rm.slots) → Qr v T'.heap L → own_E p e below Q T' { g with pc := g.pc + 3, stack := v.toList ++ rest }) : own_E p e below Q T g := by
  obtain ⟨cB, kB, qa, qb, qc⟩ := isOf (T := T) hZ rfl E
  obtain ⟨v, vm1, ⟨T', L', k', j'⟩, -, X', ⟨Lc, hQ, l', y', z'⟩, st⟩ := X.virtualBack hx (y := y) (z := y) hown (mvT hZ wl) (mvT hZ wd) (notFace_of_selects (args := #[]) (mvT hZ wsel)) (mvT hZ wsel) (mvT hZ wm) hy (backOf (W := W) (hM []) hZ wc wi hf hl) qa qc hg hsize (Steps.refl _) hlen hstack hW hdg (fun _ _ => ⟨rfl, rfl, hck, hcj⟩)
  dsimp only [Pt.U, Pt.locs, Pt.cells, Pt.slots] at X' l' y' z' st hQ
  subst l' y' z'
  exact own_sy st (K _ _ _ X' hQ)
theorem own_sel {y z : MethodName} (h : (Cond.selects z.cls z z).before args s = true) (hc : y.cls = z.cls) (hpriv : s.PrivateAt y) (hinst : (Cond.instanceMethod y).before args s = true) (hy : y.cls ≠ "java/lang/invoke/MethodHandle" ∧ y.cls ≠ "java/lang/invoke/VarHandle") : (Cond.selects y.cls y y).before args s = true := by
  obtain ⟨c2, r2, m2, -, -, q3, -, kP, hkP, hkPi⟩ := Cond.selects_spec h
  exact Stand.selects_self_of_private (by rw [hc]; exact findClass_of_methodNamed q3) hkP hkPi hpriv hinst hy
theorem own_callP {own : String} {index : Nat} {y z : MethodName} {bytes : ByteArray} {maxL W : Nat} {ret : Option FieldType} {rm : Room} {Qr : Option Value → Heap → List Loc → Prop} {Q : Outcome → State → Prop} {g : JFrame} {a : Addr} {argsL rest : List Value}
    (X : Stand p l e R s m args below meth c T locs k j) (hx : p.tables.exec = Jvm.exec) (hZ : Z.Warmed39 s.vm) (hown : s.vm.findClass own = some m.cls) (wl : (Cond.methodLink own index y).before a0 Z = true) (wsel : (Cond.selects z.cls z z).before a0 Z = true) (hc : y.cls = z.cls) (wp : (Cond.privateMethod y).before a0 Z = true) (wm : (Cond.instanceMethod y).before a0 Z = true) (wi : (Cond.initialized y.cls).before a0 Z = true) (wc : (Cond.code y bytes maxL ret).before a0 Z = true)
    (hy : y.cls ≠ "java/lang/invoke/MethodHandle" ∧ y.cls ≠ "java/lang/invoke/VarHandle") (E : Exa Z T.heap a y.cls) (hM : own_M l Z y bytes maxL ret rm (.ref a :: argsL).toArray T.heap Qr) (hf : rm.frames + 1 ≤ R.frames) (hl : W + (maxL + 11) + rm.locals ≤ R.locals) (hck : k + rm.cells ≤ R.cells) (hcj : j + rm.slots ≤ R.slots)
    (hg : g.method = m) (hsize : g.locals.size = c.maxLocals) (hlen : ∀ sig, parseMethodDescriptor y.desc = some sig → argsL.length = sig.parameters.length) (hstack : g.stack = argsL.reverse ++ .ref a :: rest) (hW : 2 * g.monitorRoom + (rest.map fun v => v.category).sum ≤ W) (hdg : decode c.code g.pc = .ok (.invokevirtual index, 3))
    (K : ∀ (T' : State) (L : List Loc) (v : Option Value), Stand p l e R s m args below meth c T' (locs ++ L) (k + rm.cells) (j + rm.slots) → Qr v T'.heap L → own_E p e below Q T' { g with pc := g.pc + 3, stack := v.toList ++ rest }) : own_E p e below Q T g := by
  obtain ⟨cq, q1, q2⟩ := E.cell
  have hpr := Cond.privateMethod_at (mvP hZ wp (args := args))
  obtain ⟨v, vm1, ⟨T', L', k', j'⟩, -, X', ⟨Lc, hQ, l', y', z'⟩, st⟩ := X.privateBack hx (y := y) hown (mvT hZ wl) (mvT hZ wm) (own_sel (z := z) (mvT hZ wsel) hc hpr (mvT hZ wm) hy) hpr (mvT hZ wc) hy (backOf (W := W) (hM []) hZ wc wi hf hl) hg hsize (Steps.refl _) (a := a) q1 q2 hlen hstack hW hdg (fun _ _ => ⟨rfl, rfl, hck, hcj⟩)
  dsimp only [Pt.U, Pt.locs, Pt.cells, Pt.slots] at X' l' y' z' st hQ
  subst l' y' z'
  exact own_sy st (K _ _ _ X' hQ)
end Own
def own_I (Z : State) (n0 : Nat) (h : Heap) (a : Addr) (g_sought : Int32) : Prop := n0 ≤ a ∧ Exa Z h a "org/jutewire/bind/Referents" ∧ (∃ u, Fld Z h a "org/jutewire/bind/Referents" "values" "[Ljava/lang/Object;" u) ∧ Fld Z h a "org/jutewire/bind/Referents" "sought" "I" (.int g_sought)
section OwnI
variable {Z : State} {n0 : Nat} {h h' : Heap} {a : Addr} {a0 : Array Value} {g_sought : Int32}
theorem own_Ina (I : own_I Z n0 h a g_sought) : n0 ≤ a := I.1
theorem own_Iex (I : own_I Z n0 h a g_sought) : Exa Z h a "org/jutewire/bind/Referents" := I.2.1
theorem own_Isz (I : own_I Z n0 h a g_sought) : n0 ≤ h.size := Nat.le_of_lt (Nat.lt_of_le_of_lt I.1 I.2.1.lt)
theorem own_Ig_values (I : own_I Z n0 h a g_sought) : (∃ u, Fld Z h a "org/jutewire/bind/Referents" "values" "[Ljava/lang/Object;" u) := by obtain ⟨q, E, f0, f1⟩ := I; exact f0
theorem own_Ig_sought (I : own_I Z n0 h a g_sought) : Fld Z h a "org/jutewire/bind/Referents" "sought" "I" (.int g_sought) := by obtain ⟨q, E, f0, f1⟩ := I; exact f1
theorem own_Is_values {x : Value} (hw : ∀ d ∈ tables_1, d.before a0 Z = true) (W : Wr h h' a (Jvm.RoadKit.slotOf Z "org/jutewire/bind/Referents" "values" "[Ljava/lang/Object;") x) (I : own_I Z n0 h a g_sought) : own_I Z n0 h' a g_sought := by
  obtain ⟨q, E, f0, f1⟩ := I
  exact ⟨q, E.wr W, (by obtain ⟨u, F⟩ := f0; exact ⟨_, F.same W⟩), (f1.other W (Or.inr (slot_ne (a0 := a0) (C := "org/jutewire/bind/Referents") (Or.inl (hw _ (List.mem_of_getElem? (i := 19) rfl))) (Or.inl (hw _ (List.mem_of_getElem? (i := 12) rfl))) (by decide) (t := .int) (t' := (.array (.object "java/lang/Object"))) (by decide) (by decide))))⟩
theorem own_Is_sought {x : Int32} (hw : ∀ d ∈ tables_1, d.before a0 Z = true) (W : Wr h h' a (Jvm.RoadKit.slotOf Z "org/jutewire/bind/Referents" "sought" "I") (.int x)) (I : own_I Z n0 h a g_sought) : own_I Z n0 h' a x := by
  obtain ⟨q, E, f0, f1⟩ := I
  exact ⟨q, E.wr W, (by obtain ⟨u, F⟩ := f0; exact ⟨u, (F.other W (Or.inr (slot_ne (a0 := a0) (C := "org/jutewire/bind/Referents") (Or.inl (hw _ (List.mem_of_getElem? (i := 12) rfl))) (Or.inl (hw _ (List.mem_of_getElem? (i := 19) rfl))) (by decide) (t := (.array (.object "java/lang/Object"))) (t' := .int) (by decide) (by decide))))⟩), (f1.same W)⟩
theorem own_Iext (E : Ext h h') (I : own_I Z n0 h a g_sought) : own_I Z n0 h' a g_sought := by
  obtain ⟨q, A, f0, f1⟩ := I
  exact ⟨q, A.ext E, (by obtain ⟨u, F⟩ := f0; exact ⟨u, F.ext E⟩), f1.ext E⟩
theorem own_Inew (hw : ∀ d ∈ tables_1, d.before a0 Z = true) (q : n0 ≤ a) (A : Exa Z h a "org/jutewire/bind/Referents") (D : ∀ {O nm d : String} {ty : FieldType}, Laid Z a0 "org/jutewire/bind/Referents" O nm d → parseFieldDescriptor d = some ty → Fld Z h a O nm d (defaultValue ty)) : own_I Z n0 h a 0 :=
  ⟨q, A, ⟨_, D (Or.inl (hw _ (List.mem_of_getElem? (i := 12) rfl))) (ty := (.array (.object "java/lang/Object"))) (by decide)⟩, (D (Or.inl (hw _ (List.mem_of_getElem? (i := 19) rfl))) (ty := .int) (by decide))⟩
end OwnI
theorem pn_1 : plainName "org/jutewire/bind/Referents" = true := by first | (simp [plainName, overriddenIn]; done) | decide +kernel
theorem pd_1 : parseMethodDescriptor "()V" = some ⟨[], none⟩ := by decide +kernel
theorem d1_0 : decode prog_46_method_1_code 0 = .ok (.aload_n 0, 1) := by decide +kernel
theorem d1_1 : decode prog_46_method_1_code 1 = .ok (.invokespecial 1, 3) := by decide +kernel
theorem d1_4 : decode prog_46_method_1_code 4 = .ok (.aload_n 0, 1) := by decide +kernel
theorem d1_5 : decode prog_46_method_1_code 5 = .ok (.bipush 16, 2) := by decide +kernel
theorem d1_7 : decode prog_46_method_1_code 7 = .ok (.anewarray 2, 3) := by decide +kernel
theorem d1_10 : decode prog_46_method_1_code 10 = .ok (.putfield 7, 3) := by decide +kernel
theorem d1_13 : decode prog_46_method_1_code 13 = .ok (.return_, 1) := by decide +kernel
theorem ef_1 (m : MethodId) (a : Addr) : entryFrame m #[(.ref a)] 1 = (mkF m 0 #[.val (.ref a)] []) := by first | (simp [entryFrame, mkF, argsToLocals, Value.category, maxLocals]; done) | rfl
def F1_13 (g_sought : Int32) : Unit := ()
def F1_0 (g_sought : Int32) : Unit := (F1_13 g_sought)
set_option maxRecDepth 65536 in
set_option maxHeartbeats 40000000 in
theorem rm1 (l : Launch) (Z : State) (a0 : Array Value) (hw : ∀ d ∈ tables_1, d.before a0 Z = true) (a : Addr) (g_sought : Int32) (h0 : Heap) (n0 : Nat) (I : own_I Z n0 h0 a g_sought) :
    own_M l Z (⟨"org/jutewire/bind/Referents", "<init>", "()V"⟩ : MethodName) prog_46_method_1_code 1 none ({ frames := 1, cells := 1, slots := 16, locals := 20 } : Room) #[(.ref a)] h0 (fun v h L => v = none ∧ Fr n0 L ∧ own_I Z n0 h a g_sought) := by
  refine own_body pn_1 ?_
  intro p e s m below meth c T hx hby hml hown hZ hret hlk hnm X eT
  have N := Fr.nil n0
  replace I : own_I Z n0 T.heap a g_sought := by rw [eT]; exact I
  obtain ⟨w, hF⟩ : ∃ w, w = F1_0 g_sought := ⟨_, rfl⟩
  try rw [← hF]
  generalize hQ : own_Q s (fun v h L => v = none ∧ Fr n0 L ∧ own_I Z n0 h a g_sought) ({ frames := 1, cells := 1, slots := 16, locals := 20 } : Room).cells ({ frames := 1, cells := 1, slots := 16, locals := 20 } : Room).slots = Qq
  refine own_st (fun _ k => castTop (ef_1 m a) k) ?_
  clear eT
  have B13 : ∀ (T : State) (L : List Loc), Stand p l e ({ frames := 1, cells := 1, slots := 16, locals := 20 } : Room) s m #[(.ref a)] below meth c T L 1 16 → own_I Z n0 T.heap a g_sought → Fr n0 L → w = F1_13 g_sought → own_E p e below Qq T (mkF m 13 #[.val (.ref a)] []) := by
    intro T L X I N hF
    rw [← hQ]
    exact own_retV X hx hlk hret (hb hby d1_13) (by decide) (by decide) ⟨rfl, N, (by first | (rw [hF]; exact I) | exact I)⟩
  show own_E p e below Qq T (mkF m 0 #[.val (.ref a)] [])
  refine own_st (fun _ => XS.aloadN X.here hx rfl (hb hby d1_0) rfl rfl) ?_
  show own_E p e below Qq T (mkF m 1 #[.val (.ref a)] [(.ref a)])
  obtain ⟨T1, X1, e1, st1⟩ := initO X hx hZ hown (hw _ (List.mem_of_getElem? (i := 6) rfl)) (hw _ (List.mem_of_getElem? (i := 7) rfl)) (hw _ (List.mem_of_getElem? (i := 8) rfl)) rfl (g := (mkF m 1 #[.val (.ref a)] [(.ref a)])) rfl (by rw [hml]; rfl) rfl (hb hby d1_1) (by decide) (W := 0) (by show 2 * 0 + _ ≤ _; exact Nat.le_of_eq rfl) (by decide)
  refine own_st st1 ?_
  replace I := own_tr (P := fun h => own_I Z n0 h a g_sought) e1 I
  replace X := X1
  clear st1 e1 X1
  show own_E p e below Qq T1 (mkF m 4 #[.val (.ref a)] [])
  refine own_st (fun _ => XS.aloadN X.here hx rfl (hb hby d1_4) rfl rfl) ?_
  show own_E p e below Qq T1 (mkF m 5 #[.val (.ref a)] [(.ref a)])
  refine own_st (fun _ => XS.bipush X.here hx rfl (hb hby d1_5)) ?_
  show own_E p e below Qq T1 (mkF m 7 #[.val (.ref a)] [(.int (16 : Int32)), (.ref a)])
  obtain ⟨T2, h2, k2, X2, e2, E2, A2, O2, st2⟩ := newR X hx hZ hown (hw _ (List.mem_of_getElem? (i := 9) rfl)) (hw _ (List.mem_of_getElem? (i := 10) rfl)) rfl (g := (mkF m 7 #[.val (.ref a)] [(.int (16 : Int32)), (.ref a)])) rfl (hb hby d1_7) rfl (by decide) (cap := 16) (by decide) (by decide) (by decide) (by decide)
  obtain ⟨b2, gb2⟩ : ∃ z, z = T1.heap.size := ⟨_, rfl⟩
  rw [← gb2] at A2 st2
  subst e2
  replace I := own_Iext E2 I
  refine own_st st2 ?_
  replace X := X2
  clear st2 X2
  show own_E p e below Qq T2 (mkF m 10 #[.val (.ref a)] [(.ref b2), (.ref a)])
  obtain ⟨u3, F3⟩ := own_Ig_values I
  obtain ⟨T3, h3, X3, e3, W3, st3⟩ := putF X hx hZ hown (host := "") (Or.inl (hw _ (List.mem_of_getElem? (i := 11) rfl))) Via.refl rfl F3 (own_Iex I) (Or.inl (hw _ (List.mem_of_getElem? (i := 12) rfl))) (hw _ (List.mem_of_getElem? (i := 1) rfl)) (ty := (.array (.object "java/lang/Object"))) (by decide) rfl rfl (g := (mkF m 10 #[.val (.ref a)] [(.ref b2), (.ref a)])) rfl rfl (hb hby d1_10)
  subst e3
  refine own_st st3 ?_
  replace N := Fr.snoc X3 N (own_Ina I)
  replace I := own_Is_values hw W3 I
  replace X := X3
  clear st3 X3
  show own_E p e below Qq T3 (mkF m 13 #[.val (.ref a)] [])
  exact B13 _ _ X I N hF
theorem pd_3 : parseMethodDescriptor "(I)I" = some ⟨[.int], some .int⟩ := by decide +kernel
theorem d3_0 : decode prog_46_method_5_code 0 = .ok (.aload_n 0, 1) := by decide +kernel
theorem d3_1 : decode prog_46_method_5_code 1 = .ok (.getfield 33, 3) := by decide +kernel
theorem d3_4 : decode prog_46_method_5_code 4 = .ok (.iload_n 1, 1) := by decide +kernel
theorem d3_5 : decode prog_46_method_5_code 5 = .ok (.if_icmp .gt 17, 3) := by decide +kernel
theorem d3_8 : decode prog_46_method_5_code 8 = .ok (.aload_n 0, 1) := by decide +kernel
theorem d3_9 : decode prog_46_method_5_code 9 = .ok (.dup, 1) := by decide +kernel
theorem d3_10 : decode prog_46_method_5_code 10 = .ok (.getfield 33, 3) := by decide +kernel
theorem d3_13 : decode prog_46_method_5_code 13 = .ok (.dup_x1, 1) := by decide +kernel
theorem d3_14 : decode prog_46_method_5_code 14 = .ok (.iconst 1, 1) := by decide +kernel
theorem d3_15 : decode prog_46_method_5_code 15 = .ok (.iadd, 1) := by decide +kernel
theorem d3_16 : decode prog_46_method_5_code 16 = .ok (.putfield 33, 3) := by decide +kernel
theorem d3_19 : decode prog_46_method_5_code 19 = .ok (.goto 4, 3) := by decide +kernel
theorem d3_22 : decode prog_46_method_5_code 22 = .ok (.iconst (-1), 1) := by decide +kernel
theorem d3_23 : decode prog_46_method_5_code 23 = .ok (.ireturn, 1) := by decide +kernel
theorem ef_3 (m : MethodId) (a : Addr) (p0 : Int32) : entryFrame m #[(.ref a), (.int p0)] 2 = (mkF m 0 #[.val (.ref a), .val (.int p0)] []) := by first | (simp [entryFrame, mkF, argsToLocals, Value.category, maxLocals]; done) | rfl
def F3_23 (x0 : Int32) (y1 : Int32) (g_sought : Int32) : Int32 × Int32 := (y1, g_sought)
def F3_19 (x0 : Int32) (y1 : Int32) (g_sought : Int32) : Int32 × Int32 := (F3_23 x0 y1 g_sought)
def F3_0 (x0 : Int32) (g_sought : Int32) : Int32 × Int32 := (if x0 < g_sought then (F3_23 x0 (-1 : Int32) g_sought) else (F3_19 x0 g_sought (g_sought + (1 : Int32))))
set_option maxRecDepth 65536 in
set_option maxHeartbeats 40000000 in
theorem rm3 (l : Launch) (Z : State) (a0 : Array Value) (hw : ∀ d ∈ tables_1, d.before a0 Z = true) (a : Addr) (p0 : Int32) (g_sought : Int32) (h0 : Heap) (n0 : Nat) (I : own_I Z n0 h0 a g_sought) :
    own_M l Z (⟨"org/jutewire/bind/Referents", "seek", "(I)I"⟩ : MethodName) prog_46_method_5_code 2 (some .int) ({ frames := 0, cells := 0, slots := 0, locals := 0 } : Room) #[(.ref a), (.int p0)] h0 (fun v h L => v = some (.int (F3_0 p0 g_sought).1) ∧ Fr n0 L ∧ own_I Z n0 h a (F3_0 p0 g_sought).2) := by
  refine own_body pn_1 ?_
  intro p e s m below meth c T hx hby hml hown hZ hret hlk hnm X eT
  have N := Fr.nil n0
  replace I : own_I Z n0 T.heap a g_sought := by rw [eT]; exact I
  obtain ⟨w, hF⟩ : ∃ w, w = F3_0 p0 g_sought := ⟨_, rfl⟩
  try rw [← hF]
  generalize hQ : own_Q s (fun v h L => v = some (.int w.1) ∧ Fr n0 L ∧ own_I Z n0 h a w.2) ({ frames := 0, cells := 0, slots := 0, locals := 0 } : Room).cells ({ frames := 0, cells := 0, slots := 0, locals := 0 } : Room).slots = Qq
  refine own_st (fun _ k => castTop (ef_3 m a p0) k) ?_
  clear eT
  have B23 : ∀ (T : State) (L : List Loc) (x0 : Int32) (y1 : Int32) (g_sought : Int32), Stand p l e ({ frames := 0, cells := 0, slots := 0, locals := 0 } : Room) s m #[(.ref a), (.int p0)] below meth c T L 0 0 → own_I Z n0 T.heap a g_sought → Fr n0 L → w = F3_23 x0 y1 g_sought → own_E p e below Qq T (mkF m 23 #[.val (.ref a), .val (.int x0)] [(.int y1)]) := by
    intro T L x0 y1 g_sought X I N hF
    rw [← hQ]
    exact own_retI X hx hlk hret (hb hby d3_23) (by decide) (by decide) ⟨by (rw [hF]; try rfl), N, (by first | (rw [hF]; exact I) | exact I)⟩
  have B19 : ∀ (T : State) (L : List Loc) (x0 : Int32) (y1 : Int32) (g_sought : Int32), Stand p l e ({ frames := 0, cells := 0, slots := 0, locals := 0 } : Room) s m #[(.ref a), (.int p0)] below meth c T L 0 0 → own_I Z n0 T.heap a g_sought → Fr n0 L → w = F3_19 x0 y1 g_sought → own_E p e below Qq T (mkF m 19 #[.val (.ref a), .val (.int x0)] [(.int y1)]) := by
    intro T L x0 y1 g_sought X I N hF
    refine own_st (fun _ => XS.goto X.here hx rfl (pc0 := 19) (pc' := 23) rfl (hb hby d3_19) (by decide) (by decide)) ?_
    show own_E p e below Qq T (mkF m 23 #[.val (.ref a), .val (.int x0)] [(.int y1)])
    exact B23 _ _ x0 y1 g_sought X I N hF
  show own_E p e below Qq T (mkF m 0 #[.val (.ref a), .val (.int p0)] [])
  refine own_st (fun _ => XS.aloadN X.here hx rfl (hb hby d3_0) rfl rfl) ?_
  show own_E p e below Qq T (mkF m 1 #[.val (.ref a), .val (.int p0)] [(.ref a)])
  obtain ⟨T1, X1, e1, st1⟩ := getF X hx hZ hown (host := "") (Or.inl (hw _ (List.mem_of_getElem? (i := 18) rfl))) Via.refl rfl (own_Ig_sought I) (g := (mkF m 1 #[.val (.ref a), .val (.int p0)] [(.ref a)])) rfl rfl (hb hby d3_1)
  refine own_st st1 ?_
  replace I := own_tr (P := fun h => own_I Z n0 h a g_sought) e1 I
  replace X := X1
  clear st1 e1 X1
  show own_E p e below Qq T1 (mkF m 4 #[.val (.ref a), .val (.int p0)] [(.int g_sought)])
  refine own_st (fun _ => XS.iloadN X.here hx rfl (hb hby d3_4) rfl) ?_
  show own_E p e below Qq T1 (mkF m 5 #[.val (.ref a), .val (.int p0)] [(.int p0), (.int g_sought)])
  by_cases q5 : p0 < g_sought
  · replace hF := hF.trans (if_pos q5)
    refine own_st (fun _ => XS.icmpYes X.here hx rfl (pc0 := 5) (pc' := 22) rfl (hb hby d3_5) rfl (XT.ii_gt_t q5) (by decide) (by decide)) ?_
    show own_E p e below Qq T1 (mkF m 22 #[.val (.ref a), .val (.int p0)] [])
    refine own_st (fun _ => XS.iconst X.here hx rfl (hb hby d3_22)) ?_
    show own_E p e below Qq T1 (mkF m 23 #[.val (.ref a), .val (.int p0)] [(.int (-1 : Int32))])
    exact B23 _ _ p0 (-1 : Int32) g_sought X I N hF
  · replace hF := hF.trans (if_neg q5)
    refine own_st (fun _ => XS.icmpNo X.here hx rfl (hb hby d3_5) rfl (XT.ii_gt_f q5)) ?_
    show own_E p e below Qq T1 (mkF m 8 #[.val (.ref a), .val (.int p0)] [])
    refine own_st (fun _ => XS.aloadN X.here hx rfl (hb hby d3_8) rfl rfl) ?_
    show own_E p e below Qq T1 (mkF m 9 #[.val (.ref a), .val (.int p0)] [(.ref a)])
    refine own_st (fun _ => XS.dup X.here hx rfl (hb hby d3_9) rfl rfl) ?_
    show own_E p e below Qq T1 (mkF m 10 #[.val (.ref a), .val (.int p0)] [(.ref a), (.ref a)])
    obtain ⟨T2, X2, e2, st2⟩ := getF X hx hZ hown (host := "") (Or.inl (hw _ (List.mem_of_getElem? (i := 18) rfl))) Via.refl rfl (own_Ig_sought I) (g := (mkF m 10 #[.val (.ref a), .val (.int p0)] [(.ref a), (.ref a)])) rfl rfl (hb hby d3_10)
    refine own_st st2 ?_
    replace I := own_tr (P := fun h => own_I Z n0 h a g_sought) e2 I
    replace X := X2
    clear st2 e2 X2
    show own_E p e below Qq T2 (mkF m 13 #[.val (.ref a), .val (.int p0)] [(.int g_sought), (.ref a)])
    refine own_st (fun _ => XT.dupX1 X.here hx rfl (hb hby d3_13) rfl rfl rfl) ?_
    show own_E p e below Qq T2 (mkF m 14 #[.val (.ref a), .val (.int p0)] [(.int g_sought), (.ref a), (.int g_sought)])
    refine own_st (fun _ => XS.iconst X.here hx rfl (hb hby d3_14)) ?_
    show own_E p e below Qq T2 (mkF m 15 #[.val (.ref a), .val (.int p0)] [(.int (1 : Int32)), (.int g_sought), (.ref a), (.int g_sought)])
    refine own_st (fun _ => XS.iadd X.here hx rfl (hb hby d3_15) rfl) ?_
    show own_E p e below Qq T2 (mkF m 16 #[.val (.ref a), .val (.int p0)] [(.int (g_sought + (1 : Int32))), (.ref a), (.int g_sought)])
    obtain ⟨T3, h3, X3, e3, W3, st3⟩ := putF X hx hZ hown (host := "") (Or.inl (hw _ (List.mem_of_getElem? (i := 18) rfl))) Via.refl rfl (own_Ig_sought I) (own_Iex I) (Or.inl (hw _ (List.mem_of_getElem? (i := 19) rfl))) (hw _ (List.mem_of_getElem? (i := 1) rfl)) (ty := .int) (by decide) rfl rfl (g := (mkF m 16 #[.val (.ref a), .val (.int p0)] [(.int (g_sought + (1 : Int32))), (.ref a), (.int g_sought)])) rfl rfl (hb hby d3_16)
    subst e3
    refine own_st st3 ?_
    replace N := Fr.snoc X3 N (own_Ina I)
    replace I := own_Is_sought hw W3 I
    replace X := X3
    clear st3 X3
    show own_E p e below Qq T3 (mkF m 19 #[.val (.ref a), .val (.int p0)] [(.int g_sought)])
    exact B19 _ _ p0 g_sought (g_sought + (1 : Int32)) X I N hF
theorem pn_4 : plainName "org/jutewire/bind/ReferentsSeekPinLaw" = true := by first | (simp [plainName, overriddenIn]; done) | decide +kernel
theorem pd_4 : parseMethodDescriptor "(II)I" = some ⟨[.int, .int], some .int⟩ := by decide +kernel
theorem d4_0 : decode method_2_code 0 = .ok (.iload_n 0, 1) := by decide +kernel
theorem d4_1 : decode method_2_code 1 = .ok (.iload_n 1, 1) := by decide +kernel
theorem d4_2 : decode method_2_code 2 = .ok (.if_icmp .gt 5, 3) := by decide +kernel
theorem d4_5 : decode method_2_code 5 = .ok (.iload_n 0, 1) := by decide +kernel
theorem d4_6 : decode method_2_code 6 = .ok (.ireturn, 1) := by decide +kernel
theorem d4_7 : decode method_2_code 7 = .ok (.iconst (-1), 1) := by decide +kernel
theorem d4_8 : decode method_2_code 8 = .ok (.ireturn, 1) := by decide +kernel
theorem ef_4 (m : MethodId) (p0 : Int32) (p1 : Int32) : entryFrame m #[(.int p0), (.int p1)] 2 = (mkF m 0 #[.val (.int p0), .val (.int p1)] []) := by first | (simp [entryFrame, mkF, argsToLocals, Value.category, maxLocals]; done) | rfl
def F4_0 (x0 : Int32) (x1 : Int32) : Int32 := (if x1 < x0 then (-1 : Int32) else x0)
set_option maxRecDepth 65536 in
set_option maxHeartbeats 40000000 in
theorem rm4 (l : Launch) (Z : State) (a0 : Array Value) (hw : ∀ d ∈ tables_1, d.before a0 Z = true) (p0 : Int32) (p1 : Int32) (h0 : Heap) (n0 : Nat) :
    own_M l Z (⟨"org/jutewire/bind/ReferentsSeekPinLaw", "expect", "(II)I"⟩ : MethodName) method_2_code 2 (some .int) ({ frames := 0, cells := 0, slots := 0, locals := 0 } : Room) #[(.int p0), (.int p1)] h0 (fun v h L => v = some (.int (F4_0 p0 p1)) ∧ Fr n0 L ∧ h = h0) := by
  refine own_body pn_4 ?_
  intro p e s m below meth c T hx hby hml hown hZ hret hlk hnm X eT
  have N := Fr.nil n0
  obtain ⟨w, hF⟩ : ∃ w, w = F4_0 p0 p1 := ⟨_, rfl⟩
  try rw [← hF]
  generalize hQ : own_Q s (fun v h L => v = some (.int w) ∧ Fr n0 L ∧ h = h0) ({ frames := 0, cells := 0, slots := 0, locals := 0 } : Room).cells ({ frames := 0, cells := 0, slots := 0, locals := 0 } : Room).slots = Qq
  refine own_st (fun _ k => castTop (ef_4 m p0 p1) k) ?_
  show own_E p e below Qq T (mkF m 0 #[.val (.int p0), .val (.int p1)] [])
  refine own_st (fun _ => XS.iloadN X.here hx rfl (hb hby d4_0) rfl) ?_
  show own_E p e below Qq T (mkF m 1 #[.val (.int p0), .val (.int p1)] [(.int p0)])
  refine own_st (fun _ => XS.iloadN X.here hx rfl (hb hby d4_1) rfl) ?_
  show own_E p e below Qq T (mkF m 2 #[.val (.int p0), .val (.int p1)] [(.int p1), (.int p0)])
  by_cases q2 : p1 < p0
  · replace hF := hF.trans (if_pos q2)
    refine own_st (fun _ => XS.icmpYes X.here hx rfl (pc0 := 2) (pc' := 7) rfl (hb hby d4_2) rfl (XT.ii_gt_t q2) (by decide) (by decide)) ?_
    show own_E p e below Qq T (mkF m 7 #[.val (.int p0), .val (.int p1)] [])
    refine own_st (fun _ => XS.iconst X.here hx rfl (hb hby d4_7)) ?_
    show own_E p e below Qq T (mkF m 8 #[.val (.int p0), .val (.int p1)] [(.int (-1 : Int32))])
    rw [← hQ]
    exact own_retI X hx hlk hret (hb hby d4_8) (by decide) (by decide) ⟨by (rw [hF]; try rfl), N, eT⟩
  · replace hF := hF.trans (if_neg q2)
    refine own_st (fun _ => XS.icmpNo X.here hx rfl (hb hby d4_2) rfl (XT.ii_gt_f q2)) ?_
    show own_E p e below Qq T (mkF m 5 #[.val (.int p0), .val (.int p1)] [])
    refine own_st (fun _ => XS.iloadN X.here hx rfl (hb hby d4_5) rfl) ?_
    show own_E p e below Qq T (mkF m 6 #[.val (.int p0), .val (.int p1)] [(.int p0)])
    rw [← hQ]
    exact own_retI X hx hlk hret (hb hby d4_6) (by decide) (by decide) ⟨by (rw [hF]; try rfl), N, eT⟩
theorem d5_0 : decode method_3_code 0 = .ok (.iload_n 1, 1) := by decide +kernel
theorem d5_1 : decode method_3_code 1 = .ok (.ifCond .lt 7, 3) := by decide +kernel
theorem d5_4 : decode method_3_code 4 = .ok (.iload_n 0, 1) := by decide +kernel
theorem d5_5 : decode method_3_code 5 = .ok (.iconst 1, 1) := by decide +kernel
theorem d5_6 : decode method_3_code 6 = .ok (.iadd, 1) := by decide +kernel
theorem d5_7 : decode method_3_code 7 = .ok (.ireturn, 1) := by decide +kernel
theorem d5_8 : decode method_3_code 8 = .ok (.iload_n 0, 1) := by decide +kernel
theorem d5_9 : decode method_3_code 9 = .ok (.ireturn, 1) := by decide +kernel
theorem ef_5 (m : MethodId) (p0 : Int32) (p1 : Int32) : entryFrame m #[(.int p0), (.int p1)] 2 = (mkF m 0 #[.val (.int p0), .val (.int p1)] []) := by first | (simp [entryFrame, mkF, argsToLocals, Value.category, maxLocals]; done) | rfl
def F5_0 (x0 : Int32) (x1 : Int32) : Int32 := (if x1 < (0 : Int32) then x0 else (x0 + (1 : Int32)))
set_option maxRecDepth 65536 in
set_option maxHeartbeats 40000000 in
theorem rm5 (l : Launch) (Z : State) (a0 : Array Value) (hw : ∀ d ∈ tables_1, d.before a0 Z = true) (p0 : Int32) (p1 : Int32) (h0 : Heap) (n0 : Nat) :
    own_M l Z (⟨"org/jutewire/bind/ReferentsSeekPinLaw", "advance", "(II)I"⟩ : MethodName) method_3_code 2 (some .int) ({ frames := 0, cells := 0, slots := 0, locals := 0 } : Room) #[(.int p0), (.int p1)] h0 (fun v h L => v = some (.int (F5_0 p0 p1)) ∧ Fr n0 L ∧ h = h0) := by
  refine own_body pn_4 ?_
  intro p e s m below meth c T hx hby hml hown hZ hret hlk hnm X eT
  have N := Fr.nil n0
  obtain ⟨w, hF⟩ : ∃ w, w = F5_0 p0 p1 := ⟨_, rfl⟩
  try rw [← hF]
  generalize hQ : own_Q s (fun v h L => v = some (.int w) ∧ Fr n0 L ∧ h = h0) ({ frames := 0, cells := 0, slots := 0, locals := 0 } : Room).cells ({ frames := 0, cells := 0, slots := 0, locals := 0 } : Room).slots = Qq
  refine own_st (fun _ k => castTop (ef_5 m p0 p1) k) ?_
  show own_E p e below Qq T (mkF m 0 #[.val (.int p0), .val (.int p1)] [])
  refine own_st (fun _ => XS.iloadN X.here hx rfl (hb hby d5_0) rfl) ?_
  show own_E p e below Qq T (mkF m 1 #[.val (.int p0), .val (.int p1)] [(.int p1)])
  by_cases q1 : p1 < (0 : Int32)
  · replace hF := hF.trans (if_pos q1)
    refine own_st (fun _ => XS.ifYes X.here hx rfl (pc0 := 1) (pc' := 8) rfl (hb hby d5_1) rfl (XT.i0_lt_t q1) (by decide) (by decide)) ?_
    show own_E p e below Qq T (mkF m 8 #[.val (.int p0), .val (.int p1)] [])
    refine own_st (fun _ => XS.iloadN X.here hx rfl (hb hby d5_8) rfl) ?_
    show own_E p e below Qq T (mkF m 9 #[.val (.int p0), .val (.int p1)] [(.int p0)])
    rw [← hQ]
    exact own_retI X hx hlk hret (hb hby d5_9) (by decide) (by decide) ⟨by (rw [hF]; try rfl), N, eT⟩
  · replace hF := hF.trans (if_neg q1)
    refine own_st (fun _ => XS.ifNo X.here hx rfl (hb hby d5_1) rfl (XT.i0_lt_f q1)) ?_
    show own_E p e below Qq T (mkF m 4 #[.val (.int p0), .val (.int p1)] [])
    refine own_st (fun _ => XS.iloadN X.here hx rfl (hb hby d5_4) rfl) ?_
    show own_E p e below Qq T (mkF m 5 #[.val (.int p0), .val (.int p1)] [(.int p0)])
    refine own_st (fun _ => XS.iconst X.here hx rfl (hb hby d5_5)) ?_
    show own_E p e below Qq T (mkF m 6 #[.val (.int p0), .val (.int p1)] [(.int (1 : Int32)), (.int p0)])
    refine own_st (fun _ => XS.iadd X.here hx rfl (hb hby d5_6) rfl) ?_
    show own_E p e below Qq T (mkF m 7 #[.val (.int p0), .val (.int p1)] [(.int (p0 + (1 : Int32)))])
    rw [← hQ]
    exact own_retI X hx hlk hret (hb hby d5_7) (by decide) (by decide) ⟨by (rw [hF]; try rfl), N, eT⟩
theorem ef_0 (m : MethodId) (p0 : Int32) (p1 : Int32) (p2 : Int32) (p3 : Int32) (p4 : Int32) : entryFrame m #[(.int p0), (.int p1), (.int p2), (.int p3), (.int p4)] maxLocals = (mkF m 0 #[.val (.int p0), .val (.int p1), .val (.int p2), .val (.int p3), .val (.int p4), .unset, .unset, .unset, .unset, .unset, .unset, .unset, .unset] []) := by first | (simp [entryFrame, mkF, argsToLocals, Value.category, maxLocals]; done) | rfl
def F0_206 (x0 : Int32) (x1 : Int32) (x2 : Int32) (x3 : Int32) (x4 : Int32) (x5 : Int32) (x6 : Int32) (x7 : Int32) (x8 : Int32) (x9 : Int32) (x10 : Int32) (x11 : Int32) (y12 : Int32) (g_sought : Int32) : Int32 := (nar .boolean y12)
def F0_205 (x0 : Int32) (x1 : Int32) (x2 : Int32) (x3 : Int32) (x4 : Int32) (x5 : Int32) (x6 : Int32) (x7 : Int32) (x8 : Int32) (x9 : Int32) (x10 : Int32) (x11 : Int32) (g_sought : Int32) : Int32 := (F0_206 x0 x1 x2 x3 x4 x5 x6 x7 x8 x9 x10 x11 (0 : Int32) g_sought)
def F0_182 (x0 : Int32) (x1 : Int32) (x2 : Int32) (x3 : Int32) (x4 : Int32) (x5 : Int32) (x6 : Int32) (x7 : Int32) (x8 : Int32) (x9 : Int32) (x10 : Int32) (y11 : Int32) (g_sought : Int32) : Int32 := (if x6 = (0 : Int32) then (F0_205 x0 x1 x2 x3 x4 x5 x6 x7 x8 x9 x10 y11 g_sought) else (if y11 = (F4_0 x5 x4) then (F0_206 x0 x1 x2 x3 x4 x5 x6 x7 x8 x9 x10 y11 (1 : Int32) g_sought) else (F0_205 x0 x1 x2 x3 x4 x5 x6 x7 x8 x9 x10 y11 g_sought)))
def F0_164 (x0 : Int32) (x1 : Int32) (x2 : Int32) (x3 : Int32) (x4 : Int32) (x5 : Int32) (x6 : Int32) (x7 : Int32) (x8 : Int32) (x9 : Int32) (x10 : Int32) (y11 : Int32) (g_sought : Int32) : Int32 := (F0_182 x0 x1 x2 x3 x4 (F5_0 x5 x10) y11 x7 x8 x9 x10 (F3_0 x4 g_sought).1 (F3_0 x4 g_sought).2)
def F0_163 (x0 : Int32) (x1 : Int32) (x2 : Int32) (x3 : Int32) (x4 : Int32) (x5 : Int32) (x6 : Int32) (x7 : Int32) (x8 : Int32) (x9 : Int32) (x10 : Int32) (g_sought : Int32) : Int32 := (F0_164 x0 x1 x2 x3 x4 x5 x6 x7 x8 x9 x10 (0 : Int32) g_sought)
def F0_141 (x0 : Int32) (x1 : Int32) (x2 : Int32) (x3 : Int32) (x4 : Int32) (x5 : Int32) (x6 : Int32) (x7 : Int32) (x8 : Int32) (x9 : Int32) (y10 : Int32) (g_sought : Int32) : Int32 := (if x6 = (0 : Int32) then (F0_163 x0 x1 x2 x3 x4 x5 x6 x7 x8 x9 y10 g_sought) else (if y10 = (F4_0 x5 x3) then (F0_164 x0 x1 x2 x3 x4 x5 x6 x7 x8 x9 y10 (1 : Int32) g_sought) else (F0_163 x0 x1 x2 x3 x4 x5 x6 x7 x8 x9 y10 g_sought)))
def F0_124 (x0 : Int32) (x1 : Int32) (x2 : Int32) (x3 : Int32) (x4 : Int32) (x5 : Int32) (x6 : Int32) (x7 : Int32) (x8 : Int32) (x9 : Int32) (y10 : Int32) (g_sought : Int32) : Int32 := (F0_141 x0 x1 x2 x3 x4 (F5_0 x5 x9) y10 x7 x8 x9 (F3_0 x3 g_sought).1 (F3_0 x3 g_sought).2)
def F0_123 (x0 : Int32) (x1 : Int32) (x2 : Int32) (x3 : Int32) (x4 : Int32) (x5 : Int32) (x6 : Int32) (x7 : Int32) (x8 : Int32) (x9 : Int32) (g_sought : Int32) : Int32 := (F0_124 x0 x1 x2 x3 x4 x5 x6 x7 x8 x9 (0 : Int32) g_sought)
def F0_101 (x0 : Int32) (x1 : Int32) (x2 : Int32) (x3 : Int32) (x4 : Int32) (x5 : Int32) (x6 : Int32) (x7 : Int32) (x8 : Int32) (y9 : Int32) (g_sought : Int32) : Int32 := (if x6 = (0 : Int32) then (F0_123 x0 x1 x2 x3 x4 x5 x6 x7 x8 y9 g_sought) else (if y9 = (F4_0 x5 x2) then (F0_124 x0 x1 x2 x3 x4 x5 x6 x7 x8 y9 (1 : Int32) g_sought) else (F0_123 x0 x1 x2 x3 x4 x5 x6 x7 x8 y9 g_sought)))
def F0_84 (x0 : Int32) (x1 : Int32) (x2 : Int32) (x3 : Int32) (x4 : Int32) (x5 : Int32) (x6 : Int32) (x7 : Int32) (x8 : Int32) (y9 : Int32) (g_sought : Int32) : Int32 := (F0_101 x0 x1 x2 x3 x4 (F5_0 x5 x8) y9 x7 x8 (F3_0 x2 g_sought).1 (F3_0 x2 g_sought).2)
def F0_83 (x0 : Int32) (x1 : Int32) (x2 : Int32) (x3 : Int32) (x4 : Int32) (x5 : Int32) (x6 : Int32) (x7 : Int32) (x8 : Int32) (g_sought : Int32) : Int32 := (F0_84 x0 x1 x2 x3 x4 x5 x6 x7 x8 (0 : Int32) g_sought)
def F0_61 (x0 : Int32) (x1 : Int32) (x2 : Int32) (x3 : Int32) (x4 : Int32) (x5 : Int32) (x6 : Int32) (x7 : Int32) (y8 : Int32) (g_sought : Int32) : Int32 := (if x6 = (0 : Int32) then (F0_83 x0 x1 x2 x3 x4 x5 x6 x7 y8 g_sought) else (if y8 = (F4_0 x5 x1) then (F0_84 x0 x1 x2 x3 x4 x5 x6 x7 y8 (1 : Int32) g_sought) else (F0_83 x0 x1 x2 x3 x4 x5 x6 x7 y8 g_sought)))
def F0_44 (x0 : Int32) (x1 : Int32) (x2 : Int32) (x3 : Int32) (x4 : Int32) (x5 : Int32) (x6 : Int32) (x7 : Int32) (y8 : Int32) (g_sought : Int32) : Int32 := (F0_61 x0 x1 x2 x3 x4 (F5_0 x5 x7) y8 x7 (F3_0 x1 g_sought).1 (F3_0 x1 g_sought).2)
def F0_43 (x0 : Int32) (x1 : Int32) (x2 : Int32) (x3 : Int32) (x4 : Int32) (x5 : Int32) (x6 : Int32) (x7 : Int32) (g_sought : Int32) : Int32 := (F0_44 x0 x1 x2 x3 x4 x5 x6 x7 (0 : Int32) g_sought)
def F0_21 (x0 : Int32) (x1 : Int32) (x2 : Int32) (x3 : Int32) (x4 : Int32) (x5 : Int32) (x6 : Int32) (y7 : Int32) (g_sought : Int32) : Int32 := (if x6 = (0 : Int32) then (F0_43 x0 x1 x2 x3 x4 x5 x6 y7 g_sought) else (if y7 = (F4_0 x5 x0) then (F0_44 x0 x1 x2 x3 x4 x5 x6 y7 (1 : Int32) g_sought) else (F0_43 x0 x1 x2 x3 x4 x5 x6 y7 g_sought)))
def F0_7 (x0 : Int32) (x1 : Int32) (x2 : Int32) (x3 : Int32) (x4 : Int32) (g_sought : Int32) : Int32 := (F0_21 x0 x1 x2 x3 x4 (0 : Int32) (1 : Int32) (F3_0 x0 g_sought).1 (F3_0 x0 g_sought).2)
def F0_0 (x0 : Int32) (x1 : Int32) (x2 : Int32) (x3 : Int32) (x4 : Int32) : Int32 := (F0_7 x0 x1 x2 x3 x4 (0 : Int32))
set_option maxRecDepth 65536 in
set_option maxHeartbeats 40000000 in
theorem rm0 (l : Launch) (Z : State) (a0 : Array Value) (hw : ∀ d ∈ tables_1, d.before a0 Z = true) (p0 : Int32) (p1 : Int32) (p2 : Int32) (p3 : Int32) (p4 : Int32) (h0 : Heap) (n0 : Nat) (Z0 : n0 ≤ h0.size) :
    own_M l Z x code maxLocals ret room_1 #[(.int p0), (.int p1), (.int p2), (.int p3), (.int p4)] h0 (fun v h L => v = some (.int (F0_0 p0 p1 p2 p3 p4)) ∧ Fr n0 L ∧ True) := by
  refine own_body pn_4 ?_
  intro p e s m below meth c T hx hby hml hown hZ hret hlk hnm X eT
  have N := Fr.nil n0
  replace Z0 : n0 ≤ T.heap.size := by rw [eT]; exact Z0
  obtain ⟨w, hF⟩ : ∃ w, w = F0_0 p0 p1 p2 p3 p4 := ⟨_, rfl⟩
  try rw [← hF]
  generalize hQ : own_Q s (fun v h L => v = some (.int w) ∧ Fr n0 L ∧ True) room_1.cells room_1.slots = Qq
  refine own_st (fun _ k => castTop (ef_0 m p0 p1 p2 p3 p4) k) ?_
  clear eT
  have B206 : ∀ (T : State) (L : List Loc) (x0 : Int32) (x1 : Int32) (x2 : Int32) (x3 : Int32) (x4 : Int32) (x5 : Int32) (x6 : Int32) (x7 : Int32) (x8 : Int32) (x9 : Int32) (x10 : Int32) (x11 : Int32) (y12 : Int32) (xa : Addr) (g_sought : Int32), Stand p l e room_1 s m #[(.int p0), (.int p1), (.int p2), (.int p3), (.int p4)] below meth c T L 2 19 → own_I Z n0 T.heap xa g_sought → Fr n0 L → w = F0_206 x0 x1 x2 x3 x4 x5 x6 x7 x8 x9 x10 x11 y12 g_sought → own_E p e below Qq T (mkF m 206 #[.val (.int x0), .val (.int x1), .val (.int x2), .val (.int x3), .val (.int x4), .val (.ref xa), .val (.int x5), .val (.int x6), .val (.int x7), .val (.int x8), .val (.int x9), .val (.int x10), .val (.int x11)] [(.int y12)]) := by
    intro T L x0 x1 x2 x3 x4 x5 x6 x7 x8 x9 x10 x11 y12 xa g_sought X I N hF
    refine own_st (fun _ => XS.istore X.here hx rfl (hb hby at_206) rfl (l' := #[.val (.int x0), .val (.int x1), .val (.int x2), .val (.int x3), .val (.int x4), .val (.ref xa), .val (.int x5), .val (.int y12), .val (.int x7), .val (.int x8), .val (.int x9), .val (.int x10), .val (.int x11)]) rfl) ?_
    show own_E p e below Qq T (mkF m 208 #[.val (.int x0), .val (.int x1), .val (.int x2), .val (.int x3), .val (.int x4), .val (.ref xa), .val (.int x5), .val (.int y12), .val (.int x7), .val (.int x8), .val (.int x9), .val (.int x10), .val (.int x11)] [])
    refine own_st (fun _ => XS.iload X.here hx rfl (hb hby at_208) rfl) ?_
    show own_E p e below Qq T (mkF m 210 #[.val (.int x0), .val (.int x1), .val (.int x2), .val (.int x3), .val (.int x4), .val (.ref xa), .val (.int x5), .val (.int y12), .val (.int x7), .val (.int x8), .val (.int x9), .val (.int x10), .val (.int x11)] [(.int y12)])
    rw [← hQ]
    exact own_retN X hx hlk (t := .boolean) hret (by simp) (hb hby at_210) (by decide) (by decide) ⟨by (rw [hF]; try rfl), N, trivial⟩
  have B205 : ∀ (T : State) (L : List Loc) (x0 : Int32) (x1 : Int32) (x2 : Int32) (x3 : Int32) (x4 : Int32) (x5 : Int32) (x6 : Int32) (x7 : Int32) (x8 : Int32) (x9 : Int32) (x10 : Int32) (x11 : Int32) (xa : Addr) (g_sought : Int32), Stand p l e room_1 s m #[(.int p0), (.int p1), (.int p2), (.int p3), (.int p4)] below meth c T L 2 19 → own_I Z n0 T.heap xa g_sought → Fr n0 L → w = F0_205 x0 x1 x2 x3 x4 x5 x6 x7 x8 x9 x10 x11 g_sought → own_E p e below Qq T (mkF m 205 #[.val (.int x0), .val (.int x1), .val (.int x2), .val (.int x3), .val (.int x4), .val (.ref xa), .val (.int x5), .val (.int x6), .val (.int x7), .val (.int x8), .val (.int x9), .val (.int x10), .val (.int x11)] []) := by
    intro T L x0 x1 x2 x3 x4 x5 x6 x7 x8 x9 x10 x11 xa g_sought X I N hF
    refine own_st (fun _ => XS.iconst X.here hx rfl (hb hby at_205)) ?_
    show own_E p e below Qq T (mkF m 206 #[.val (.int x0), .val (.int x1), .val (.int x2), .val (.int x3), .val (.int x4), .val (.ref xa), .val (.int x5), .val (.int x6), .val (.int x7), .val (.int x8), .val (.int x9), .val (.int x10), .val (.int x11)] [(.int (0 : Int32))])
    exact B206 _ _ x0 x1 x2 x3 x4 x5 x6 x7 x8 x9 x10 x11 (0 : Int32) xa g_sought X I N hF
  have B182 : ∀ (T : State) (L : List Loc) (x0 : Int32) (x1 : Int32) (x2 : Int32) (x3 : Int32) (x4 : Int32) (x5 : Int32) (x6 : Int32) (x7 : Int32) (x8 : Int32) (x9 : Int32) (x10 : Int32) (y11 : Int32) (xa : Addr) (g_sought : Int32), Stand p l e room_1 s m #[(.int p0), (.int p1), (.int p2), (.int p3), (.int p4)] below meth c T L 2 19 → own_I Z n0 T.heap xa g_sought → Fr n0 L → w = F0_182 x0 x1 x2 x3 x4 x5 x6 x7 x8 x9 x10 y11 g_sought → own_E p e below Qq T (mkF m 182 #[.val (.int x0), .val (.int x1), .val (.int x2), .val (.int x3), .val (.int x4), .val (.ref xa), .val (.int x5), .val (.int x6), .val (.int x7), .val (.int x8), .val (.int x9), .val (.int x10), .unset] [(.int y11)]) := by
    intro T L x0 x1 x2 x3 x4 x5 x6 x7 x8 x9 x10 y11 xa g_sought X I N hF
    refine own_st (fun _ => XS.istore X.here hx rfl (hb hby at_182) rfl (l' := #[.val (.int x0), .val (.int x1), .val (.int x2), .val (.int x3), .val (.int x4), .val (.ref xa), .val (.int x5), .val (.int x6), .val (.int x7), .val (.int x8), .val (.int x9), .val (.int x10), .val (.int y11)]) rfl) ?_
    show own_E p e below Qq T (mkF m 184 #[.val (.int x0), .val (.int x1), .val (.int x2), .val (.int x3), .val (.int x4), .val (.ref xa), .val (.int x5), .val (.int x6), .val (.int x7), .val (.int x8), .val (.int x9), .val (.int x10), .val (.int y11)] [])
    refine own_st (fun _ => XS.iload X.here hx rfl (hb hby at_184) rfl) ?_
    show own_E p e below Qq T (mkF m 186 #[.val (.int x0), .val (.int x1), .val (.int x2), .val (.int x3), .val (.int x4), .val (.ref xa), .val (.int x5), .val (.int x6), .val (.int x7), .val (.int x8), .val (.int x9), .val (.int x10), .val (.int y11)] [(.int x6)])
    by_cases q186 : x6 = (0 : Int32)
    · replace hF := hF.trans (if_pos q186)
      refine own_st (fun _ => XS.ifYes X.here hx rfl (pc0 := 186) (pc' := 205) rfl (hb hby at_186) rfl (XT.i0_eq_t q186) (by decide) (by decide)) ?_
      show own_E p e below Qq T (mkF m 205 #[.val (.int x0), .val (.int x1), .val (.int x2), .val (.int x3), .val (.int x4), .val (.ref xa), .val (.int x5), .val (.int x6), .val (.int x7), .val (.int x8), .val (.int x9), .val (.int x10), .val (.int y11)] [])
      exact B205 _ _ x0 x1 x2 x3 x4 x5 x6 x7 x8 x9 x10 y11 xa g_sought X I N hF
    · replace hF := hF.trans (if_neg q186)
      refine own_st (fun _ => XS.ifNo X.here hx rfl (hb hby at_186) rfl (XT.i0_eq_f q186)) ?_
      show own_E p e below Qq T (mkF m 189 #[.val (.int x0), .val (.int x1), .val (.int x2), .val (.int x3), .val (.int x4), .val (.ref xa), .val (.int x5), .val (.int x6), .val (.int x7), .val (.int x8), .val (.int x9), .val (.int x10), .val (.int y11)] [])
      refine own_st (fun _ => XS.iload X.here hx rfl (hb hby at_189) rfl) ?_
      show own_E p e below Qq T (mkF m 191 #[.val (.int x0), .val (.int x1), .val (.int x2), .val (.int x3), .val (.int x4), .val (.ref xa), .val (.int x5), .val (.int x6), .val (.int x7), .val (.int x8), .val (.int x9), .val (.int x10), .val (.int y11)] [(.int y11)])
      refine own_st (fun _ => XS.iload X.here hx rfl (hb hby at_191) rfl) ?_
      show own_E p e below Qq T (mkF m 193 #[.val (.int x0), .val (.int x1), .val (.int x2), .val (.int x3), .val (.int x4), .val (.ref xa), .val (.int x5), .val (.int x6), .val (.int x7), .val (.int x8), .val (.int x9), .val (.int x10), .val (.int y11)] [(.int x5), (.int y11)])
      refine own_st (fun _ => XS.iload X.here hx rfl (hb hby at_193) rfl) ?_
      show own_E p e below Qq T (mkF m 195 #[.val (.int x0), .val (.int x1), .val (.int x2), .val (.int x3), .val (.int x4), .val (.ref xa), .val (.int x5), .val (.int x6), .val (.int x7), .val (.int x8), .val (.int x9), .val (.int x10), .val (.int y11)] [(.int x4), (.int x5), (.int y11)])
      refine own_callS X hx hZ hown (hw _ (List.mem_of_getElem? (i := 20) rfl)) (hw _ (List.mem_of_getElem? (i := 21) rfl)) (hw _ (List.mem_of_getElem? (i := 22) rfl)) (hw _ (List.mem_of_getElem? (i := 23) rfl)) (by decide) (W := 1) (argsL := [(.int x5), (.int x4)]) (rest := [(.int y11)]) (rm4 l Z a0 hw x5 x4 _ n0) (by decide) (by decide) (by decide) (by decide) rfl (by rw [hml]; rfl) (lenOf pd_4 rfl) rfl (by show 2 * 0 + _ ≤ _; exact Nat.le_of_eq rfl) (hb hby at_195) ?_
      intro T1 L1 v X' hq
      obtain ⟨rfl, N', e'⟩ := hq
      replace I := own_tr (P := fun h => own_I Z n0 h xa g_sought) e' I
      replace N := Fr.app N N'
      replace X : Stand p l e room_1 s m #[(.int p0), (.int p1), (.int p2), (.int p3), (.int p4)] below meth c T1 _ 2 19 := X'
      clear X' N' e'
      show own_E p e below Qq T1 (mkF m 198 #[.val (.int x0), .val (.int x1), .val (.int x2), .val (.int x3), .val (.int x4), .val (.ref xa), .val (.int x5), .val (.int x6), .val (.int x7), .val (.int x8), .val (.int x9), .val (.int x10), .val (.int y11)] [(.int (F4_0 x5 x4)), (.int y11)])
      by_cases q198 : y11 = (F4_0 x5 x4)
      · replace hF := hF.trans (if_pos q198)
        refine own_st (fun _ => XS.icmpNo X.here hx rfl (hb hby at_198) rfl (XT.ii_ne_f q198)) ?_
        show own_E p e below Qq T1 (mkF m 201 #[.val (.int x0), .val (.int x1), .val (.int x2), .val (.int x3), .val (.int x4), .val (.ref xa), .val (.int x5), .val (.int x6), .val (.int x7), .val (.int x8), .val (.int x9), .val (.int x10), .val (.int y11)] [])
        refine own_st (fun _ => XS.iconst X.here hx rfl (hb hby at_201)) ?_
        show own_E p e below Qq T1 (mkF m 202 #[.val (.int x0), .val (.int x1), .val (.int x2), .val (.int x3), .val (.int x4), .val (.ref xa), .val (.int x5), .val (.int x6), .val (.int x7), .val (.int x8), .val (.int x9), .val (.int x10), .val (.int y11)] [(.int (1 : Int32))])
        refine own_st (fun _ => XS.goto X.here hx rfl (pc0 := 202) (pc' := 206) rfl (hb hby at_202) (by decide) (by decide)) ?_
        show own_E p e below Qq T1 (mkF m 206 #[.val (.int x0), .val (.int x1), .val (.int x2), .val (.int x3), .val (.int x4), .val (.ref xa), .val (.int x5), .val (.int x6), .val (.int x7), .val (.int x8), .val (.int x9), .val (.int x10), .val (.int y11)] [(.int (1 : Int32))])
        exact B206 _ _ x0 x1 x2 x3 x4 x5 x6 x7 x8 x9 x10 y11 (1 : Int32) xa g_sought X I N hF
      · replace hF := hF.trans (if_neg q198)
        refine own_st (fun _ => XS.icmpYes X.here hx rfl (pc0 := 198) (pc' := 205) rfl (hb hby at_198) rfl (XT.ii_ne_t q198) (by decide) (by decide)) ?_
        show own_E p e below Qq T1 (mkF m 205 #[.val (.int x0), .val (.int x1), .val (.int x2), .val (.int x3), .val (.int x4), .val (.ref xa), .val (.int x5), .val (.int x6), .val (.int x7), .val (.int x8), .val (.int x9), .val (.int x10), .val (.int y11)] [])
        exact B205 _ _ x0 x1 x2 x3 x4 x5 x6 x7 x8 x9 x10 y11 xa g_sought X I N hF
  have B164 : ∀ (T : State) (L : List Loc) (x0 : Int32) (x1 : Int32) (x2 : Int32) (x3 : Int32) (x4 : Int32) (x5 : Int32) (x6 : Int32) (x7 : Int32) (x8 : Int32) (x9 : Int32) (x10 : Int32) (y11 : Int32) (xa : Addr) (g_sought : Int32), Stand p l e room_1 s m #[(.int p0), (.int p1), (.int p2), (.int p3), (.int p4)] below meth c T L 2 19 → own_I Z n0 T.heap xa g_sought → Fr n0 L → w = F0_164 x0 x1 x2 x3 x4 x5 x6 x7 x8 x9 x10 y11 g_sought → own_E p e below Qq T (mkF m 164 #[.val (.int x0), .val (.int x1), .val (.int x2), .val (.int x3), .val (.int x4), .val (.ref xa), .val (.int x5), .val (.int x6), .val (.int x7), .val (.int x8), .val (.int x9), .val (.int x10), .unset] [(.int y11)]) := by
    intro T L x0 x1 x2 x3 x4 x5 x6 x7 x8 x9 x10 y11 xa g_sought X I N hF
    refine own_st (fun _ => XS.istore X.here hx rfl (hb hby at_164) rfl (l' := #[.val (.int x0), .val (.int x1), .val (.int x2), .val (.int x3), .val (.int x4), .val (.ref xa), .val (.int x5), .val (.int y11), .val (.int x7), .val (.int x8), .val (.int x9), .val (.int x10), .unset]) rfl) ?_
    show own_E p e below Qq T (mkF m 166 #[.val (.int x0), .val (.int x1), .val (.int x2), .val (.int x3), .val (.int x4), .val (.ref xa), .val (.int x5), .val (.int y11), .val (.int x7), .val (.int x8), .val (.int x9), .val (.int x10), .unset] [])
    refine own_st (fun _ => XS.iload X.here hx rfl (hb hby at_166) rfl) ?_
    show own_E p e below Qq T (mkF m 168 #[.val (.int x0), .val (.int x1), .val (.int x2), .val (.int x3), .val (.int x4), .val (.ref xa), .val (.int x5), .val (.int y11), .val (.int x7), .val (.int x8), .val (.int x9), .val (.int x10), .unset] [(.int x5)])
    refine own_st (fun _ => XS.iload X.here hx rfl (hb hby at_168) rfl) ?_
    show own_E p e below Qq T (mkF m 170 #[.val (.int x0), .val (.int x1), .val (.int x2), .val (.int x3), .val (.int x4), .val (.ref xa), .val (.int x5), .val (.int y11), .val (.int x7), .val (.int x8), .val (.int x9), .val (.int x10), .unset] [(.int x10), (.int x5)])
    refine own_callS X hx hZ hown (hw _ (List.mem_of_getElem? (i := 24) rfl)) (hw _ (List.mem_of_getElem? (i := 25) rfl)) (hw _ (List.mem_of_getElem? (i := 22) rfl)) (hw _ (List.mem_of_getElem? (i := 26) rfl)) (by decide) (W := 0) (argsL := [(.int x5), (.int x10)]) (rest := []) (rm5 l Z a0 hw x5 x10 _ n0) (by decide) (by decide) (by decide) (by decide) rfl (by rw [hml]; rfl) (lenOf pd_4 rfl) rfl (by show 2 * 0 + _ ≤ _; exact Nat.le_of_eq rfl) (hb hby at_170) ?_
    intro T2 L2 v X' hq
    obtain ⟨rfl, N', e'⟩ := hq
    replace I := own_tr (P := fun h => own_I Z n0 h xa g_sought) e' I
    replace N := Fr.app N N'
    replace X : Stand p l e room_1 s m #[(.int p0), (.int p1), (.int p2), (.int p3), (.int p4)] below meth c T2 _ 2 19 := X'
    clear X' N' e'
    show own_E p e below Qq T2 (mkF m 173 #[.val (.int x0), .val (.int x1), .val (.int x2), .val (.int x3), .val (.int x4), .val (.ref xa), .val (.int x5), .val (.int y11), .val (.int x7), .val (.int x8), .val (.int x9), .val (.int x10), .unset] [(.int (F5_0 x5 x10))])
    refine own_st (fun _ => XS.istore X.here hx rfl (hb hby at_173) rfl (l' := #[.val (.int x0), .val (.int x1), .val (.int x2), .val (.int x3), .val (.int x4), .val (.ref xa), .val (.int (F5_0 x5 x10)), .val (.int y11), .val (.int x7), .val (.int x8), .val (.int x9), .val (.int x10), .unset]) rfl) ?_
    show own_E p e below Qq T2 (mkF m 175 #[.val (.int x0), .val (.int x1), .val (.int x2), .val (.int x3), .val (.int x4), .val (.ref xa), .val (.int (F5_0 x5 x10)), .val (.int y11), .val (.int x7), .val (.int x8), .val (.int x9), .val (.int x10), .unset] [])
    refine own_st (fun _ => XS.aload X.here hx rfl (hb hby at_175) rfl rfl) ?_
    show own_E p e below Qq T2 (mkF m 177 #[.val (.int x0), .val (.int x1), .val (.int x2), .val (.int x3), .val (.int x4), .val (.ref xa), .val (.int (F5_0 x5 x10)), .val (.int y11), .val (.int x7), .val (.int x8), .val (.int x9), .val (.int x10), .unset] [(.ref xa)])
    refine own_st (fun _ => XS.iload X.here hx rfl (hb hby at_177) rfl) ?_
    show own_E p e below Qq T2 (mkF m 179 #[.val (.int x0), .val (.int x1), .val (.int x2), .val (.int x3), .val (.int x4), .val (.ref xa), .val (.int (F5_0 x5 x10)), .val (.int y11), .val (.int x7), .val (.int x8), .val (.int x9), .val (.int x10), .unset] [(.int x4), (.ref xa)])
    refine own_callV X hx hZ hown (hw _ (List.mem_of_getElem? (i := 13) rfl)) (hw _ (List.mem_of_getElem? (i := 14) rfl)) (hw _ (List.mem_of_getElem? (i := 16) rfl)) (hw _ (List.mem_of_getElem? (i := 15) rfl)) (hw _ (List.mem_of_getElem? (i := 2) rfl)) (hw _ (List.mem_of_getElem? (i := 17) rfl)) (by decide) (own_Iex I) (W := 0) (argsL := [(.int x4)]) (rest := []) (rm3 l Z a0 hw xa x4 g_sought _ n0 I) (by decide) (by decide) (by decide) (by decide) rfl (by rw [hml]; rfl) (lenOf pd_3 rfl) rfl (by show 2 * 0 + _ ≤ _; exact Nat.le_of_eq rfl) (hb hby at_179) ?_
    intro T3 L3 v X' hq
    obtain ⟨rfl, N', I'⟩ := hq
    replace I := I'
    replace N := Fr.app N N'
    replace X : Stand p l e room_1 s m #[(.int p0), (.int p1), (.int p2), (.int p3), (.int p4)] below meth c T3 _ 2 19 := X'
    clear X' N' I'
    show own_E p e below Qq T3 (mkF m 182 #[.val (.int x0), .val (.int x1), .val (.int x2), .val (.int x3), .val (.int x4), .val (.ref xa), .val (.int (F5_0 x5 x10)), .val (.int y11), .val (.int x7), .val (.int x8), .val (.int x9), .val (.int x10), .unset] [(.int (F3_0 x4 g_sought).1)])
    exact B182 _ _ x0 x1 x2 x3 x4 (F5_0 x5 x10) y11 x7 x8 x9 x10 (F3_0 x4 g_sought).1 xa (F3_0 x4 g_sought).2 X I N hF
  have B163 : ∀ (T : State) (L : List Loc) (x0 : Int32) (x1 : Int32) (x2 : Int32) (x3 : Int32) (x4 : Int32) (x5 : Int32) (x6 : Int32) (x7 : Int32) (x8 : Int32) (x9 : Int32) (x10 : Int32) (xa : Addr) (g_sought : Int32), Stand p l e room_1 s m #[(.int p0), (.int p1), (.int p2), (.int p3), (.int p4)] below meth c T L 2 19 → own_I Z n0 T.heap xa g_sought → Fr n0 L → w = F0_163 x0 x1 x2 x3 x4 x5 x6 x7 x8 x9 x10 g_sought → own_E p e below Qq T (mkF m 163 #[.val (.int x0), .val (.int x1), .val (.int x2), .val (.int x3), .val (.int x4), .val (.ref xa), .val (.int x5), .val (.int x6), .val (.int x7), .val (.int x8), .val (.int x9), .val (.int x10), .unset] []) := by
    intro T L x0 x1 x2 x3 x4 x5 x6 x7 x8 x9 x10 xa g_sought X I N hF
    refine own_st (fun _ => XS.iconst X.here hx rfl (hb hby at_163)) ?_
    show own_E p e below Qq T (mkF m 164 #[.val (.int x0), .val (.int x1), .val (.int x2), .val (.int x3), .val (.int x4), .val (.ref xa), .val (.int x5), .val (.int x6), .val (.int x7), .val (.int x8), .val (.int x9), .val (.int x10), .unset] [(.int (0 : Int32))])
    exact B164 _ _ x0 x1 x2 x3 x4 x5 x6 x7 x8 x9 x10 (0 : Int32) xa g_sought X I N hF
  have B141 : ∀ (T : State) (L : List Loc) (x0 : Int32) (x1 : Int32) (x2 : Int32) (x3 : Int32) (x4 : Int32) (x5 : Int32) (x6 : Int32) (x7 : Int32) (x8 : Int32) (x9 : Int32) (y10 : Int32) (xa : Addr) (g_sought : Int32), Stand p l e room_1 s m #[(.int p0), (.int p1), (.int p2), (.int p3), (.int p4)] below meth c T L 2 19 → own_I Z n0 T.heap xa g_sought → Fr n0 L → w = F0_141 x0 x1 x2 x3 x4 x5 x6 x7 x8 x9 y10 g_sought → own_E p e below Qq T (mkF m 141 #[.val (.int x0), .val (.int x1), .val (.int x2), .val (.int x3), .val (.int x4), .val (.ref xa), .val (.int x5), .val (.int x6), .val (.int x7), .val (.int x8), .val (.int x9), .unset, .unset] [(.int y10)]) := by
    intro T L x0 x1 x2 x3 x4 x5 x6 x7 x8 x9 y10 xa g_sought X I N hF
    refine own_st (fun _ => XS.istore X.here hx rfl (hb hby at_141) rfl (l' := #[.val (.int x0), .val (.int x1), .val (.int x2), .val (.int x3), .val (.int x4), .val (.ref xa), .val (.int x5), .val (.int x6), .val (.int x7), .val (.int x8), .val (.int x9), .val (.int y10), .unset]) rfl) ?_
    show own_E p e below Qq T (mkF m 143 #[.val (.int x0), .val (.int x1), .val (.int x2), .val (.int x3), .val (.int x4), .val (.ref xa), .val (.int x5), .val (.int x6), .val (.int x7), .val (.int x8), .val (.int x9), .val (.int y10), .unset] [])
    refine own_st (fun _ => XS.iload X.here hx rfl (hb hby at_143) rfl) ?_
    show own_E p e below Qq T (mkF m 145 #[.val (.int x0), .val (.int x1), .val (.int x2), .val (.int x3), .val (.int x4), .val (.ref xa), .val (.int x5), .val (.int x6), .val (.int x7), .val (.int x8), .val (.int x9), .val (.int y10), .unset] [(.int x6)])
    by_cases q145 : x6 = (0 : Int32)
    · replace hF := hF.trans (if_pos q145)
      refine own_st (fun _ => XS.ifYes X.here hx rfl (pc0 := 145) (pc' := 163) rfl (hb hby at_145) rfl (XT.i0_eq_t q145) (by decide) (by decide)) ?_
      show own_E p e below Qq T (mkF m 163 #[.val (.int x0), .val (.int x1), .val (.int x2), .val (.int x3), .val (.int x4), .val (.ref xa), .val (.int x5), .val (.int x6), .val (.int x7), .val (.int x8), .val (.int x9), .val (.int y10), .unset] [])
      exact B163 _ _ x0 x1 x2 x3 x4 x5 x6 x7 x8 x9 y10 xa g_sought X I N hF
    · replace hF := hF.trans (if_neg q145)
      refine own_st (fun _ => XS.ifNo X.here hx rfl (hb hby at_145) rfl (XT.i0_eq_f q145)) ?_
      show own_E p e below Qq T (mkF m 148 #[.val (.int x0), .val (.int x1), .val (.int x2), .val (.int x3), .val (.int x4), .val (.ref xa), .val (.int x5), .val (.int x6), .val (.int x7), .val (.int x8), .val (.int x9), .val (.int y10), .unset] [])
      refine own_st (fun _ => XS.iload X.here hx rfl (hb hby at_148) rfl) ?_
      show own_E p e below Qq T (mkF m 150 #[.val (.int x0), .val (.int x1), .val (.int x2), .val (.int x3), .val (.int x4), .val (.ref xa), .val (.int x5), .val (.int x6), .val (.int x7), .val (.int x8), .val (.int x9), .val (.int y10), .unset] [(.int y10)])
      refine own_st (fun _ => XS.iload X.here hx rfl (hb hby at_150) rfl) ?_
      show own_E p e below Qq T (mkF m 152 #[.val (.int x0), .val (.int x1), .val (.int x2), .val (.int x3), .val (.int x4), .val (.ref xa), .val (.int x5), .val (.int x6), .val (.int x7), .val (.int x8), .val (.int x9), .val (.int y10), .unset] [(.int x5), (.int y10)])
      refine own_st (fun _ => XS.iloadN X.here hx rfl (hb hby at_152) rfl) ?_
      show own_E p e below Qq T (mkF m 153 #[.val (.int x0), .val (.int x1), .val (.int x2), .val (.int x3), .val (.int x4), .val (.ref xa), .val (.int x5), .val (.int x6), .val (.int x7), .val (.int x8), .val (.int x9), .val (.int y10), .unset] [(.int x3), (.int x5), (.int y10)])
      refine own_callS X hx hZ hown (hw _ (List.mem_of_getElem? (i := 20) rfl)) (hw _ (List.mem_of_getElem? (i := 21) rfl)) (hw _ (List.mem_of_getElem? (i := 22) rfl)) (hw _ (List.mem_of_getElem? (i := 23) rfl)) (by decide) (W := 1) (argsL := [(.int x5), (.int x3)]) (rest := [(.int y10)]) (rm4 l Z a0 hw x5 x3 _ n0) (by decide) (by decide) (by decide) (by decide) rfl (by rw [hml]; rfl) (lenOf pd_4 rfl) rfl (by show 2 * 0 + _ ≤ _; exact Nat.le_of_eq rfl) (hb hby at_153) ?_
      intro T4 L4 v X' hq
      obtain ⟨rfl, N', e'⟩ := hq
      replace I := own_tr (P := fun h => own_I Z n0 h xa g_sought) e' I
      replace N := Fr.app N N'
      replace X : Stand p l e room_1 s m #[(.int p0), (.int p1), (.int p2), (.int p3), (.int p4)] below meth c T4 _ 2 19 := X'
      clear X' N' e'
      show own_E p e below Qq T4 (mkF m 156 #[.val (.int x0), .val (.int x1), .val (.int x2), .val (.int x3), .val (.int x4), .val (.ref xa), .val (.int x5), .val (.int x6), .val (.int x7), .val (.int x8), .val (.int x9), .val (.int y10), .unset] [(.int (F4_0 x5 x3)), (.int y10)])
      by_cases q156 : y10 = (F4_0 x5 x3)
      · replace hF := hF.trans (if_pos q156)
        refine own_st (fun _ => XS.icmpNo X.here hx rfl (hb hby at_156) rfl (XT.ii_ne_f q156)) ?_
        show own_E p e below Qq T4 (mkF m 159 #[.val (.int x0), .val (.int x1), .val (.int x2), .val (.int x3), .val (.int x4), .val (.ref xa), .val (.int x5), .val (.int x6), .val (.int x7), .val (.int x8), .val (.int x9), .val (.int y10), .unset] [])
        refine own_st (fun _ => XS.iconst X.here hx rfl (hb hby at_159)) ?_
        show own_E p e below Qq T4 (mkF m 160 #[.val (.int x0), .val (.int x1), .val (.int x2), .val (.int x3), .val (.int x4), .val (.ref xa), .val (.int x5), .val (.int x6), .val (.int x7), .val (.int x8), .val (.int x9), .val (.int y10), .unset] [(.int (1 : Int32))])
        refine own_st (fun _ => XS.goto X.here hx rfl (pc0 := 160) (pc' := 164) rfl (hb hby at_160) (by decide) (by decide)) ?_
        show own_E p e below Qq T4 (mkF m 164 #[.val (.int x0), .val (.int x1), .val (.int x2), .val (.int x3), .val (.int x4), .val (.ref xa), .val (.int x5), .val (.int x6), .val (.int x7), .val (.int x8), .val (.int x9), .val (.int y10), .unset] [(.int (1 : Int32))])
        exact B164 _ _ x0 x1 x2 x3 x4 x5 x6 x7 x8 x9 y10 (1 : Int32) xa g_sought X I N hF
      · replace hF := hF.trans (if_neg q156)
        refine own_st (fun _ => XS.icmpYes X.here hx rfl (pc0 := 156) (pc' := 163) rfl (hb hby at_156) rfl (XT.ii_ne_t q156) (by decide) (by decide)) ?_
        show own_E p e below Qq T4 (mkF m 163 #[.val (.int x0), .val (.int x1), .val (.int x2), .val (.int x3), .val (.int x4), .val (.ref xa), .val (.int x5), .val (.int x6), .val (.int x7), .val (.int x8), .val (.int x9), .val (.int y10), .unset] [])
        exact B163 _ _ x0 x1 x2 x3 x4 x5 x6 x7 x8 x9 y10 xa g_sought X I N hF
  have B124 : ∀ (T : State) (L : List Loc) (x0 : Int32) (x1 : Int32) (x2 : Int32) (x3 : Int32) (x4 : Int32) (x5 : Int32) (x6 : Int32) (x7 : Int32) (x8 : Int32) (x9 : Int32) (y10 : Int32) (xa : Addr) (g_sought : Int32), Stand p l e room_1 s m #[(.int p0), (.int p1), (.int p2), (.int p3), (.int p4)] below meth c T L 2 19 → own_I Z n0 T.heap xa g_sought → Fr n0 L → w = F0_124 x0 x1 x2 x3 x4 x5 x6 x7 x8 x9 y10 g_sought → own_E p e below Qq T (mkF m 124 #[.val (.int x0), .val (.int x1), .val (.int x2), .val (.int x3), .val (.int x4), .val (.ref xa), .val (.int x5), .val (.int x6), .val (.int x7), .val (.int x8), .val (.int x9), .unset, .unset] [(.int y10)]) := by
    intro T L x0 x1 x2 x3 x4 x5 x6 x7 x8 x9 y10 xa g_sought X I N hF
    refine own_st (fun _ => XS.istore X.here hx rfl (hb hby at_124) rfl (l' := #[.val (.int x0), .val (.int x1), .val (.int x2), .val (.int x3), .val (.int x4), .val (.ref xa), .val (.int x5), .val (.int y10), .val (.int x7), .val (.int x8), .val (.int x9), .unset, .unset]) rfl) ?_
    show own_E p e below Qq T (mkF m 126 #[.val (.int x0), .val (.int x1), .val (.int x2), .val (.int x3), .val (.int x4), .val (.ref xa), .val (.int x5), .val (.int y10), .val (.int x7), .val (.int x8), .val (.int x9), .unset, .unset] [])
    refine own_st (fun _ => XS.iload X.here hx rfl (hb hby at_126) rfl) ?_
    show own_E p e below Qq T (mkF m 128 #[.val (.int x0), .val (.int x1), .val (.int x2), .val (.int x3), .val (.int x4), .val (.ref xa), .val (.int x5), .val (.int y10), .val (.int x7), .val (.int x8), .val (.int x9), .unset, .unset] [(.int x5)])
    refine own_st (fun _ => XS.iload X.here hx rfl (hb hby at_128) rfl) ?_
    show own_E p e below Qq T (mkF m 130 #[.val (.int x0), .val (.int x1), .val (.int x2), .val (.int x3), .val (.int x4), .val (.ref xa), .val (.int x5), .val (.int y10), .val (.int x7), .val (.int x8), .val (.int x9), .unset, .unset] [(.int x9), (.int x5)])
    refine own_callS X hx hZ hown (hw _ (List.mem_of_getElem? (i := 24) rfl)) (hw _ (List.mem_of_getElem? (i := 25) rfl)) (hw _ (List.mem_of_getElem? (i := 22) rfl)) (hw _ (List.mem_of_getElem? (i := 26) rfl)) (by decide) (W := 0) (argsL := [(.int x5), (.int x9)]) (rest := []) (rm5 l Z a0 hw x5 x9 _ n0) (by decide) (by decide) (by decide) (by decide) rfl (by rw [hml]; rfl) (lenOf pd_4 rfl) rfl (by show 2 * 0 + _ ≤ _; exact Nat.le_of_eq rfl) (hb hby at_130) ?_
    intro T5 L5 v X' hq
    obtain ⟨rfl, N', e'⟩ := hq
    replace I := own_tr (P := fun h => own_I Z n0 h xa g_sought) e' I
    replace N := Fr.app N N'
    replace X : Stand p l e room_1 s m #[(.int p0), (.int p1), (.int p2), (.int p3), (.int p4)] below meth c T5 _ 2 19 := X'
    clear X' N' e'
    show own_E p e below Qq T5 (mkF m 133 #[.val (.int x0), .val (.int x1), .val (.int x2), .val (.int x3), .val (.int x4), .val (.ref xa), .val (.int x5), .val (.int y10), .val (.int x7), .val (.int x8), .val (.int x9), .unset, .unset] [(.int (F5_0 x5 x9))])
    refine own_st (fun _ => XS.istore X.here hx rfl (hb hby at_133) rfl (l' := #[.val (.int x0), .val (.int x1), .val (.int x2), .val (.int x3), .val (.int x4), .val (.ref xa), .val (.int (F5_0 x5 x9)), .val (.int y10), .val (.int x7), .val (.int x8), .val (.int x9), .unset, .unset]) rfl) ?_
    show own_E p e below Qq T5 (mkF m 135 #[.val (.int x0), .val (.int x1), .val (.int x2), .val (.int x3), .val (.int x4), .val (.ref xa), .val (.int (F5_0 x5 x9)), .val (.int y10), .val (.int x7), .val (.int x8), .val (.int x9), .unset, .unset] [])
    refine own_st (fun _ => XS.aload X.here hx rfl (hb hby at_135) rfl rfl) ?_
    show own_E p e below Qq T5 (mkF m 137 #[.val (.int x0), .val (.int x1), .val (.int x2), .val (.int x3), .val (.int x4), .val (.ref xa), .val (.int (F5_0 x5 x9)), .val (.int y10), .val (.int x7), .val (.int x8), .val (.int x9), .unset, .unset] [(.ref xa)])
    refine own_st (fun _ => XS.iloadN X.here hx rfl (hb hby at_137) rfl) ?_
    show own_E p e below Qq T5 (mkF m 138 #[.val (.int x0), .val (.int x1), .val (.int x2), .val (.int x3), .val (.int x4), .val (.ref xa), .val (.int (F5_0 x5 x9)), .val (.int y10), .val (.int x7), .val (.int x8), .val (.int x9), .unset, .unset] [(.int x3), (.ref xa)])
    refine own_callV X hx hZ hown (hw _ (List.mem_of_getElem? (i := 13) rfl)) (hw _ (List.mem_of_getElem? (i := 14) rfl)) (hw _ (List.mem_of_getElem? (i := 16) rfl)) (hw _ (List.mem_of_getElem? (i := 15) rfl)) (hw _ (List.mem_of_getElem? (i := 2) rfl)) (hw _ (List.mem_of_getElem? (i := 17) rfl)) (by decide) (own_Iex I) (W := 0) (argsL := [(.int x3)]) (rest := []) (rm3 l Z a0 hw xa x3 g_sought _ n0 I) (by decide) (by decide) (by decide) (by decide) rfl (by rw [hml]; rfl) (lenOf pd_3 rfl) rfl (by show 2 * 0 + _ ≤ _; exact Nat.le_of_eq rfl) (hb hby at_138) ?_
    intro T6 L6 v X' hq
    obtain ⟨rfl, N', I'⟩ := hq
    replace I := I'
    replace N := Fr.app N N'
    replace X : Stand p l e room_1 s m #[(.int p0), (.int p1), (.int p2), (.int p3), (.int p4)] below meth c T6 _ 2 19 := X'
    clear X' N' I'
    show own_E p e below Qq T6 (mkF m 141 #[.val (.int x0), .val (.int x1), .val (.int x2), .val (.int x3), .val (.int x4), .val (.ref xa), .val (.int (F5_0 x5 x9)), .val (.int y10), .val (.int x7), .val (.int x8), .val (.int x9), .unset, .unset] [(.int (F3_0 x3 g_sought).1)])
    exact B141 _ _ x0 x1 x2 x3 x4 (F5_0 x5 x9) y10 x7 x8 x9 (F3_0 x3 g_sought).1 xa (F3_0 x3 g_sought).2 X I N hF
  have B123 : ∀ (T : State) (L : List Loc) (x0 : Int32) (x1 : Int32) (x2 : Int32) (x3 : Int32) (x4 : Int32) (x5 : Int32) (x6 : Int32) (x7 : Int32) (x8 : Int32) (x9 : Int32) (xa : Addr) (g_sought : Int32), Stand p l e room_1 s m #[(.int p0), (.int p1), (.int p2), (.int p3), (.int p4)] below meth c T L 2 19 → own_I Z n0 T.heap xa g_sought → Fr n0 L → w = F0_123 x0 x1 x2 x3 x4 x5 x6 x7 x8 x9 g_sought → own_E p e below Qq T (mkF m 123 #[.val (.int x0), .val (.int x1), .val (.int x2), .val (.int x3), .val (.int x4), .val (.ref xa), .val (.int x5), .val (.int x6), .val (.int x7), .val (.int x8), .val (.int x9), .unset, .unset] []) := by
    intro T L x0 x1 x2 x3 x4 x5 x6 x7 x8 x9 xa g_sought X I N hF
    refine own_st (fun _ => XS.iconst X.here hx rfl (hb hby at_123)) ?_
    show own_E p e below Qq T (mkF m 124 #[.val (.int x0), .val (.int x1), .val (.int x2), .val (.int x3), .val (.int x4), .val (.ref xa), .val (.int x5), .val (.int x6), .val (.int x7), .val (.int x8), .val (.int x9), .unset, .unset] [(.int (0 : Int32))])
    exact B124 _ _ x0 x1 x2 x3 x4 x5 x6 x7 x8 x9 (0 : Int32) xa g_sought X I N hF
  have B101 : ∀ (T : State) (L : List Loc) (x0 : Int32) (x1 : Int32) (x2 : Int32) (x3 : Int32) (x4 : Int32) (x5 : Int32) (x6 : Int32) (x7 : Int32) (x8 : Int32) (y9 : Int32) (xa : Addr) (g_sought : Int32), Stand p l e room_1 s m #[(.int p0), (.int p1), (.int p2), (.int p3), (.int p4)] below meth c T L 2 19 → own_I Z n0 T.heap xa g_sought → Fr n0 L → w = F0_101 x0 x1 x2 x3 x4 x5 x6 x7 x8 y9 g_sought → own_E p e below Qq T (mkF m 101 #[.val (.int x0), .val (.int x1), .val (.int x2), .val (.int x3), .val (.int x4), .val (.ref xa), .val (.int x5), .val (.int x6), .val (.int x7), .val (.int x8), .unset, .unset, .unset] [(.int y9)]) := by
    intro T L x0 x1 x2 x3 x4 x5 x6 x7 x8 y9 xa g_sought X I N hF
    refine own_st (fun _ => XS.istore X.here hx rfl (hb hby at_101) rfl (l' := #[.val (.int x0), .val (.int x1), .val (.int x2), .val (.int x3), .val (.int x4), .val (.ref xa), .val (.int x5), .val (.int x6), .val (.int x7), .val (.int x8), .val (.int y9), .unset, .unset]) rfl) ?_
    show own_E p e below Qq T (mkF m 103 #[.val (.int x0), .val (.int x1), .val (.int x2), .val (.int x3), .val (.int x4), .val (.ref xa), .val (.int x5), .val (.int x6), .val (.int x7), .val (.int x8), .val (.int y9), .unset, .unset] [])
    refine own_st (fun _ => XS.iload X.here hx rfl (hb hby at_103) rfl) ?_
    show own_E p e below Qq T (mkF m 105 #[.val (.int x0), .val (.int x1), .val (.int x2), .val (.int x3), .val (.int x4), .val (.ref xa), .val (.int x5), .val (.int x6), .val (.int x7), .val (.int x8), .val (.int y9), .unset, .unset] [(.int x6)])
    by_cases q105 : x6 = (0 : Int32)
    · replace hF := hF.trans (if_pos q105)
      refine own_st (fun _ => XS.ifYes X.here hx rfl (pc0 := 105) (pc' := 123) rfl (hb hby at_105) rfl (XT.i0_eq_t q105) (by decide) (by decide)) ?_
      show own_E p e below Qq T (mkF m 123 #[.val (.int x0), .val (.int x1), .val (.int x2), .val (.int x3), .val (.int x4), .val (.ref xa), .val (.int x5), .val (.int x6), .val (.int x7), .val (.int x8), .val (.int y9), .unset, .unset] [])
      exact B123 _ _ x0 x1 x2 x3 x4 x5 x6 x7 x8 y9 xa g_sought X I N hF
    · replace hF := hF.trans (if_neg q105)
      refine own_st (fun _ => XS.ifNo X.here hx rfl (hb hby at_105) rfl (XT.i0_eq_f q105)) ?_
      show own_E p e below Qq T (mkF m 108 #[.val (.int x0), .val (.int x1), .val (.int x2), .val (.int x3), .val (.int x4), .val (.ref xa), .val (.int x5), .val (.int x6), .val (.int x7), .val (.int x8), .val (.int y9), .unset, .unset] [])
      refine own_st (fun _ => XS.iload X.here hx rfl (hb hby at_108) rfl) ?_
      show own_E p e below Qq T (mkF m 110 #[.val (.int x0), .val (.int x1), .val (.int x2), .val (.int x3), .val (.int x4), .val (.ref xa), .val (.int x5), .val (.int x6), .val (.int x7), .val (.int x8), .val (.int y9), .unset, .unset] [(.int y9)])
      refine own_st (fun _ => XS.iload X.here hx rfl (hb hby at_110) rfl) ?_
      show own_E p e below Qq T (mkF m 112 #[.val (.int x0), .val (.int x1), .val (.int x2), .val (.int x3), .val (.int x4), .val (.ref xa), .val (.int x5), .val (.int x6), .val (.int x7), .val (.int x8), .val (.int y9), .unset, .unset] [(.int x5), (.int y9)])
      refine own_st (fun _ => XS.iloadN X.here hx rfl (hb hby at_112) rfl) ?_
      show own_E p e below Qq T (mkF m 113 #[.val (.int x0), .val (.int x1), .val (.int x2), .val (.int x3), .val (.int x4), .val (.ref xa), .val (.int x5), .val (.int x6), .val (.int x7), .val (.int x8), .val (.int y9), .unset, .unset] [(.int x2), (.int x5), (.int y9)])
      refine own_callS X hx hZ hown (hw _ (List.mem_of_getElem? (i := 20) rfl)) (hw _ (List.mem_of_getElem? (i := 21) rfl)) (hw _ (List.mem_of_getElem? (i := 22) rfl)) (hw _ (List.mem_of_getElem? (i := 23) rfl)) (by decide) (W := 1) (argsL := [(.int x5), (.int x2)]) (rest := [(.int y9)]) (rm4 l Z a0 hw x5 x2 _ n0) (by decide) (by decide) (by decide) (by decide) rfl (by rw [hml]; rfl) (lenOf pd_4 rfl) rfl (by show 2 * 0 + _ ≤ _; exact Nat.le_of_eq rfl) (hb hby at_113) ?_
      intro T7 L7 v X' hq
      obtain ⟨rfl, N', e'⟩ := hq
      replace I := own_tr (P := fun h => own_I Z n0 h xa g_sought) e' I
      replace N := Fr.app N N'
      replace X : Stand p l e room_1 s m #[(.int p0), (.int p1), (.int p2), (.int p3), (.int p4)] below meth c T7 _ 2 19 := X'
      clear X' N' e'
      show own_E p e below Qq T7 (mkF m 116 #[.val (.int x0), .val (.int x1), .val (.int x2), .val (.int x3), .val (.int x4), .val (.ref xa), .val (.int x5), .val (.int x6), .val (.int x7), .val (.int x8), .val (.int y9), .unset, .unset] [(.int (F4_0 x5 x2)), (.int y9)])
      by_cases q116 : y9 = (F4_0 x5 x2)
      · replace hF := hF.trans (if_pos q116)
        refine own_st (fun _ => XS.icmpNo X.here hx rfl (hb hby at_116) rfl (XT.ii_ne_f q116)) ?_
        show own_E p e below Qq T7 (mkF m 119 #[.val (.int x0), .val (.int x1), .val (.int x2), .val (.int x3), .val (.int x4), .val (.ref xa), .val (.int x5), .val (.int x6), .val (.int x7), .val (.int x8), .val (.int y9), .unset, .unset] [])
        refine own_st (fun _ => XS.iconst X.here hx rfl (hb hby at_119)) ?_
        show own_E p e below Qq T7 (mkF m 120 #[.val (.int x0), .val (.int x1), .val (.int x2), .val (.int x3), .val (.int x4), .val (.ref xa), .val (.int x5), .val (.int x6), .val (.int x7), .val (.int x8), .val (.int y9), .unset, .unset] [(.int (1 : Int32))])
        refine own_st (fun _ => XS.goto X.here hx rfl (pc0 := 120) (pc' := 124) rfl (hb hby at_120) (by decide) (by decide)) ?_
        show own_E p e below Qq T7 (mkF m 124 #[.val (.int x0), .val (.int x1), .val (.int x2), .val (.int x3), .val (.int x4), .val (.ref xa), .val (.int x5), .val (.int x6), .val (.int x7), .val (.int x8), .val (.int y9), .unset, .unset] [(.int (1 : Int32))])
        exact B124 _ _ x0 x1 x2 x3 x4 x5 x6 x7 x8 y9 (1 : Int32) xa g_sought X I N hF
      · replace hF := hF.trans (if_neg q116)
        refine own_st (fun _ => XS.icmpYes X.here hx rfl (pc0 := 116) (pc' := 123) rfl (hb hby at_116) rfl (XT.ii_ne_t q116) (by decide) (by decide)) ?_
        show own_E p e below Qq T7 (mkF m 123 #[.val (.int x0), .val (.int x1), .val (.int x2), .val (.int x3), .val (.int x4), .val (.ref xa), .val (.int x5), .val (.int x6), .val (.int x7), .val (.int x8), .val (.int y9), .unset, .unset] [])
        exact B123 _ _ x0 x1 x2 x3 x4 x5 x6 x7 x8 y9 xa g_sought X I N hF
  have B84 : ∀ (T : State) (L : List Loc) (x0 : Int32) (x1 : Int32) (x2 : Int32) (x3 : Int32) (x4 : Int32) (x5 : Int32) (x6 : Int32) (x7 : Int32) (x8 : Int32) (y9 : Int32) (xa : Addr) (g_sought : Int32), Stand p l e room_1 s m #[(.int p0), (.int p1), (.int p2), (.int p3), (.int p4)] below meth c T L 2 19 → own_I Z n0 T.heap xa g_sought → Fr n0 L → w = F0_84 x0 x1 x2 x3 x4 x5 x6 x7 x8 y9 g_sought → own_E p e below Qq T (mkF m 84 #[.val (.int x0), .val (.int x1), .val (.int x2), .val (.int x3), .val (.int x4), .val (.ref xa), .val (.int x5), .val (.int x6), .val (.int x7), .val (.int x8), .unset, .unset, .unset] [(.int y9)]) := by
    intro T L x0 x1 x2 x3 x4 x5 x6 x7 x8 y9 xa g_sought X I N hF
    refine own_st (fun _ => XS.istore X.here hx rfl (hb hby at_84) rfl (l' := #[.val (.int x0), .val (.int x1), .val (.int x2), .val (.int x3), .val (.int x4), .val (.ref xa), .val (.int x5), .val (.int y9), .val (.int x7), .val (.int x8), .unset, .unset, .unset]) rfl) ?_
    show own_E p e below Qq T (mkF m 86 #[.val (.int x0), .val (.int x1), .val (.int x2), .val (.int x3), .val (.int x4), .val (.ref xa), .val (.int x5), .val (.int y9), .val (.int x7), .val (.int x8), .unset, .unset, .unset] [])
    refine own_st (fun _ => XS.iload X.here hx rfl (hb hby at_86) rfl) ?_
    show own_E p e below Qq T (mkF m 88 #[.val (.int x0), .val (.int x1), .val (.int x2), .val (.int x3), .val (.int x4), .val (.ref xa), .val (.int x5), .val (.int y9), .val (.int x7), .val (.int x8), .unset, .unset, .unset] [(.int x5)])
    refine own_st (fun _ => XS.iload X.here hx rfl (hb hby at_88) rfl) ?_
    show own_E p e below Qq T (mkF m 90 #[.val (.int x0), .val (.int x1), .val (.int x2), .val (.int x3), .val (.int x4), .val (.ref xa), .val (.int x5), .val (.int y9), .val (.int x7), .val (.int x8), .unset, .unset, .unset] [(.int x8), (.int x5)])
    refine own_callS X hx hZ hown (hw _ (List.mem_of_getElem? (i := 24) rfl)) (hw _ (List.mem_of_getElem? (i := 25) rfl)) (hw _ (List.mem_of_getElem? (i := 22) rfl)) (hw _ (List.mem_of_getElem? (i := 26) rfl)) (by decide) (W := 0) (argsL := [(.int x5), (.int x8)]) (rest := []) (rm5 l Z a0 hw x5 x8 _ n0) (by decide) (by decide) (by decide) (by decide) rfl (by rw [hml]; rfl) (lenOf pd_4 rfl) rfl (by show 2 * 0 + _ ≤ _; exact Nat.le_of_eq rfl) (hb hby at_90) ?_
    intro T8 L8 v X' hq
    obtain ⟨rfl, N', e'⟩ := hq
    replace I := own_tr (P := fun h => own_I Z n0 h xa g_sought) e' I
    replace N := Fr.app N N'
    replace X : Stand p l e room_1 s m #[(.int p0), (.int p1), (.int p2), (.int p3), (.int p4)] below meth c T8 _ 2 19 := X'
    clear X' N' e'
    show own_E p e below Qq T8 (mkF m 93 #[.val (.int x0), .val (.int x1), .val (.int x2), .val (.int x3), .val (.int x4), .val (.ref xa), .val (.int x5), .val (.int y9), .val (.int x7), .val (.int x8), .unset, .unset, .unset] [(.int (F5_0 x5 x8))])
    refine own_st (fun _ => XS.istore X.here hx rfl (hb hby at_93) rfl (l' := #[.val (.int x0), .val (.int x1), .val (.int x2), .val (.int x3), .val (.int x4), .val (.ref xa), .val (.int (F5_0 x5 x8)), .val (.int y9), .val (.int x7), .val (.int x8), .unset, .unset, .unset]) rfl) ?_
    show own_E p e below Qq T8 (mkF m 95 #[.val (.int x0), .val (.int x1), .val (.int x2), .val (.int x3), .val (.int x4), .val (.ref xa), .val (.int (F5_0 x5 x8)), .val (.int y9), .val (.int x7), .val (.int x8), .unset, .unset, .unset] [])
    refine own_st (fun _ => XS.aload X.here hx rfl (hb hby at_95) rfl rfl) ?_
    show own_E p e below Qq T8 (mkF m 97 #[.val (.int x0), .val (.int x1), .val (.int x2), .val (.int x3), .val (.int x4), .val (.ref xa), .val (.int (F5_0 x5 x8)), .val (.int y9), .val (.int x7), .val (.int x8), .unset, .unset, .unset] [(.ref xa)])
    refine own_st (fun _ => XS.iloadN X.here hx rfl (hb hby at_97) rfl) ?_
    show own_E p e below Qq T8 (mkF m 98 #[.val (.int x0), .val (.int x1), .val (.int x2), .val (.int x3), .val (.int x4), .val (.ref xa), .val (.int (F5_0 x5 x8)), .val (.int y9), .val (.int x7), .val (.int x8), .unset, .unset, .unset] [(.int x2), (.ref xa)])
    refine own_callV X hx hZ hown (hw _ (List.mem_of_getElem? (i := 13) rfl)) (hw _ (List.mem_of_getElem? (i := 14) rfl)) (hw _ (List.mem_of_getElem? (i := 16) rfl)) (hw _ (List.mem_of_getElem? (i := 15) rfl)) (hw _ (List.mem_of_getElem? (i := 2) rfl)) (hw _ (List.mem_of_getElem? (i := 17) rfl)) (by decide) (own_Iex I) (W := 0) (argsL := [(.int x2)]) (rest := []) (rm3 l Z a0 hw xa x2 g_sought _ n0 I) (by decide) (by decide) (by decide) (by decide) rfl (by rw [hml]; rfl) (lenOf pd_3 rfl) rfl (by show 2 * 0 + _ ≤ _; exact Nat.le_of_eq rfl) (hb hby at_98) ?_
    intro T9 L9 v X' hq
    obtain ⟨rfl, N', I'⟩ := hq
    replace I := I'
    replace N := Fr.app N N'
    replace X : Stand p l e room_1 s m #[(.int p0), (.int p1), (.int p2), (.int p3), (.int p4)] below meth c T9 _ 2 19 := X'
    clear X' N' I'
    show own_E p e below Qq T9 (mkF m 101 #[.val (.int x0), .val (.int x1), .val (.int x2), .val (.int x3), .val (.int x4), .val (.ref xa), .val (.int (F5_0 x5 x8)), .val (.int y9), .val (.int x7), .val (.int x8), .unset, .unset, .unset] [(.int (F3_0 x2 g_sought).1)])
    exact B101 _ _ x0 x1 x2 x3 x4 (F5_0 x5 x8) y9 x7 x8 (F3_0 x2 g_sought).1 xa (F3_0 x2 g_sought).2 X I N hF
  have B83 : ∀ (T : State) (L : List Loc) (x0 : Int32) (x1 : Int32) (x2 : Int32) (x3 : Int32) (x4 : Int32) (x5 : Int32) (x6 : Int32) (x7 : Int32) (x8 : Int32) (xa : Addr) (g_sought : Int32), Stand p l e room_1 s m #[(.int p0), (.int p1), (.int p2), (.int p3), (.int p4)] below meth c T L 2 19 → own_I Z n0 T.heap xa g_sought → Fr n0 L → w = F0_83 x0 x1 x2 x3 x4 x5 x6 x7 x8 g_sought → own_E p e below Qq T (mkF m 83 #[.val (.int x0), .val (.int x1), .val (.int x2), .val (.int x3), .val (.int x4), .val (.ref xa), .val (.int x5), .val (.int x6), .val (.int x7), .val (.int x8), .unset, .unset, .unset] []) := by
    intro T L x0 x1 x2 x3 x4 x5 x6 x7 x8 xa g_sought X I N hF
    refine own_st (fun _ => XS.iconst X.here hx rfl (hb hby at_83)) ?_
    show own_E p e below Qq T (mkF m 84 #[.val (.int x0), .val (.int x1), .val (.int x2), .val (.int x3), .val (.int x4), .val (.ref xa), .val (.int x5), .val (.int x6), .val (.int x7), .val (.int x8), .unset, .unset, .unset] [(.int (0 : Int32))])
    exact B84 _ _ x0 x1 x2 x3 x4 x5 x6 x7 x8 (0 : Int32) xa g_sought X I N hF
  have B61 : ∀ (T : State) (L : List Loc) (x0 : Int32) (x1 : Int32) (x2 : Int32) (x3 : Int32) (x4 : Int32) (x5 : Int32) (x6 : Int32) (x7 : Int32) (y8 : Int32) (xa : Addr) (g_sought : Int32), Stand p l e room_1 s m #[(.int p0), (.int p1), (.int p2), (.int p3), (.int p4)] below meth c T L 2 19 → own_I Z n0 T.heap xa g_sought → Fr n0 L → w = F0_61 x0 x1 x2 x3 x4 x5 x6 x7 y8 g_sought → own_E p e below Qq T (mkF m 61 #[.val (.int x0), .val (.int x1), .val (.int x2), .val (.int x3), .val (.int x4), .val (.ref xa), .val (.int x5), .val (.int x6), .val (.int x7), .unset, .unset, .unset, .unset] [(.int y8)]) := by
    intro T L x0 x1 x2 x3 x4 x5 x6 x7 y8 xa g_sought X I N hF
    refine own_st (fun _ => XS.istore X.here hx rfl (hb hby at_61) rfl (l' := #[.val (.int x0), .val (.int x1), .val (.int x2), .val (.int x3), .val (.int x4), .val (.ref xa), .val (.int x5), .val (.int x6), .val (.int x7), .val (.int y8), .unset, .unset, .unset]) rfl) ?_
    show own_E p e below Qq T (mkF m 63 #[.val (.int x0), .val (.int x1), .val (.int x2), .val (.int x3), .val (.int x4), .val (.ref xa), .val (.int x5), .val (.int x6), .val (.int x7), .val (.int y8), .unset, .unset, .unset] [])
    refine own_st (fun _ => XS.iload X.here hx rfl (hb hby at_63) rfl) ?_
    show own_E p e below Qq T (mkF m 65 #[.val (.int x0), .val (.int x1), .val (.int x2), .val (.int x3), .val (.int x4), .val (.ref xa), .val (.int x5), .val (.int x6), .val (.int x7), .val (.int y8), .unset, .unset, .unset] [(.int x6)])
    by_cases q65 : x6 = (0 : Int32)
    · replace hF := hF.trans (if_pos q65)
      refine own_st (fun _ => XS.ifYes X.here hx rfl (pc0 := 65) (pc' := 83) rfl (hb hby at_65) rfl (XT.i0_eq_t q65) (by decide) (by decide)) ?_
      show own_E p e below Qq T (mkF m 83 #[.val (.int x0), .val (.int x1), .val (.int x2), .val (.int x3), .val (.int x4), .val (.ref xa), .val (.int x5), .val (.int x6), .val (.int x7), .val (.int y8), .unset, .unset, .unset] [])
      exact B83 _ _ x0 x1 x2 x3 x4 x5 x6 x7 y8 xa g_sought X I N hF
    · replace hF := hF.trans (if_neg q65)
      refine own_st (fun _ => XS.ifNo X.here hx rfl (hb hby at_65) rfl (XT.i0_eq_f q65)) ?_
      show own_E p e below Qq T (mkF m 68 #[.val (.int x0), .val (.int x1), .val (.int x2), .val (.int x3), .val (.int x4), .val (.ref xa), .val (.int x5), .val (.int x6), .val (.int x7), .val (.int y8), .unset, .unset, .unset] [])
      refine own_st (fun _ => XS.iload X.here hx rfl (hb hby at_68) rfl) ?_
      show own_E p e below Qq T (mkF m 70 #[.val (.int x0), .val (.int x1), .val (.int x2), .val (.int x3), .val (.int x4), .val (.ref xa), .val (.int x5), .val (.int x6), .val (.int x7), .val (.int y8), .unset, .unset, .unset] [(.int y8)])
      refine own_st (fun _ => XS.iload X.here hx rfl (hb hby at_70) rfl) ?_
      show own_E p e below Qq T (mkF m 72 #[.val (.int x0), .val (.int x1), .val (.int x2), .val (.int x3), .val (.int x4), .val (.ref xa), .val (.int x5), .val (.int x6), .val (.int x7), .val (.int y8), .unset, .unset, .unset] [(.int x5), (.int y8)])
      refine own_st (fun _ => XS.iloadN X.here hx rfl (hb hby at_72) rfl) ?_
      show own_E p e below Qq T (mkF m 73 #[.val (.int x0), .val (.int x1), .val (.int x2), .val (.int x3), .val (.int x4), .val (.ref xa), .val (.int x5), .val (.int x6), .val (.int x7), .val (.int y8), .unset, .unset, .unset] [(.int x1), (.int x5), (.int y8)])
      refine own_callS X hx hZ hown (hw _ (List.mem_of_getElem? (i := 20) rfl)) (hw _ (List.mem_of_getElem? (i := 21) rfl)) (hw _ (List.mem_of_getElem? (i := 22) rfl)) (hw _ (List.mem_of_getElem? (i := 23) rfl)) (by decide) (W := 1) (argsL := [(.int x5), (.int x1)]) (rest := [(.int y8)]) (rm4 l Z a0 hw x5 x1 _ n0) (by decide) (by decide) (by decide) (by decide) rfl (by rw [hml]; rfl) (lenOf pd_4 rfl) rfl (by show 2 * 0 + _ ≤ _; exact Nat.le_of_eq rfl) (hb hby at_73) ?_
      intro T10 L10 v X' hq
      obtain ⟨rfl, N', e'⟩ := hq
      replace I := own_tr (P := fun h => own_I Z n0 h xa g_sought) e' I
      replace N := Fr.app N N'
      replace X : Stand p l e room_1 s m #[(.int p0), (.int p1), (.int p2), (.int p3), (.int p4)] below meth c T10 _ 2 19 := X'
      clear X' N' e'
      show own_E p e below Qq T10 (mkF m 76 #[.val (.int x0), .val (.int x1), .val (.int x2), .val (.int x3), .val (.int x4), .val (.ref xa), .val (.int x5), .val (.int x6), .val (.int x7), .val (.int y8), .unset, .unset, .unset] [(.int (F4_0 x5 x1)), (.int y8)])
      by_cases q76 : y8 = (F4_0 x5 x1)
      · replace hF := hF.trans (if_pos q76)
        refine own_st (fun _ => XS.icmpNo X.here hx rfl (hb hby at_76) rfl (XT.ii_ne_f q76)) ?_
        show own_E p e below Qq T10 (mkF m 79 #[.val (.int x0), .val (.int x1), .val (.int x2), .val (.int x3), .val (.int x4), .val (.ref xa), .val (.int x5), .val (.int x6), .val (.int x7), .val (.int y8), .unset, .unset, .unset] [])
        refine own_st (fun _ => XS.iconst X.here hx rfl (hb hby at_79)) ?_
        show own_E p e below Qq T10 (mkF m 80 #[.val (.int x0), .val (.int x1), .val (.int x2), .val (.int x3), .val (.int x4), .val (.ref xa), .val (.int x5), .val (.int x6), .val (.int x7), .val (.int y8), .unset, .unset, .unset] [(.int (1 : Int32))])
        refine own_st (fun _ => XS.goto X.here hx rfl (pc0 := 80) (pc' := 84) rfl (hb hby at_80) (by decide) (by decide)) ?_
        show own_E p e below Qq T10 (mkF m 84 #[.val (.int x0), .val (.int x1), .val (.int x2), .val (.int x3), .val (.int x4), .val (.ref xa), .val (.int x5), .val (.int x6), .val (.int x7), .val (.int y8), .unset, .unset, .unset] [(.int (1 : Int32))])
        exact B84 _ _ x0 x1 x2 x3 x4 x5 x6 x7 y8 (1 : Int32) xa g_sought X I N hF
      · replace hF := hF.trans (if_neg q76)
        refine own_st (fun _ => XS.icmpYes X.here hx rfl (pc0 := 76) (pc' := 83) rfl (hb hby at_76) rfl (XT.ii_ne_t q76) (by decide) (by decide)) ?_
        show own_E p e below Qq T10 (mkF m 83 #[.val (.int x0), .val (.int x1), .val (.int x2), .val (.int x3), .val (.int x4), .val (.ref xa), .val (.int x5), .val (.int x6), .val (.int x7), .val (.int y8), .unset, .unset, .unset] [])
        exact B83 _ _ x0 x1 x2 x3 x4 x5 x6 x7 y8 xa g_sought X I N hF
  have B44 : ∀ (T : State) (L : List Loc) (x0 : Int32) (x1 : Int32) (x2 : Int32) (x3 : Int32) (x4 : Int32) (x5 : Int32) (x6 : Int32) (x7 : Int32) (y8 : Int32) (xa : Addr) (g_sought : Int32), Stand p l e room_1 s m #[(.int p0), (.int p1), (.int p2), (.int p3), (.int p4)] below meth c T L 2 19 → own_I Z n0 T.heap xa g_sought → Fr n0 L → w = F0_44 x0 x1 x2 x3 x4 x5 x6 x7 y8 g_sought → own_E p e below Qq T (mkF m 44 #[.val (.int x0), .val (.int x1), .val (.int x2), .val (.int x3), .val (.int x4), .val (.ref xa), .val (.int x5), .val (.int x6), .val (.int x7), .unset, .unset, .unset, .unset] [(.int y8)]) := by
    intro T L x0 x1 x2 x3 x4 x5 x6 x7 y8 xa g_sought X I N hF
    refine own_st (fun _ => XS.istore X.here hx rfl (hb hby at_44) rfl (l' := #[.val (.int x0), .val (.int x1), .val (.int x2), .val (.int x3), .val (.int x4), .val (.ref xa), .val (.int x5), .val (.int y8), .val (.int x7), .unset, .unset, .unset, .unset]) rfl) ?_
    show own_E p e below Qq T (mkF m 46 #[.val (.int x0), .val (.int x1), .val (.int x2), .val (.int x3), .val (.int x4), .val (.ref xa), .val (.int x5), .val (.int y8), .val (.int x7), .unset, .unset, .unset, .unset] [])
    refine own_st (fun _ => XS.iload X.here hx rfl (hb hby at_46) rfl) ?_
    show own_E p e below Qq T (mkF m 48 #[.val (.int x0), .val (.int x1), .val (.int x2), .val (.int x3), .val (.int x4), .val (.ref xa), .val (.int x5), .val (.int y8), .val (.int x7), .unset, .unset, .unset, .unset] [(.int x5)])
    refine own_st (fun _ => XS.iload X.here hx rfl (hb hby at_48) rfl) ?_
    show own_E p e below Qq T (mkF m 50 #[.val (.int x0), .val (.int x1), .val (.int x2), .val (.int x3), .val (.int x4), .val (.ref xa), .val (.int x5), .val (.int y8), .val (.int x7), .unset, .unset, .unset, .unset] [(.int x7), (.int x5)])
    refine own_callS X hx hZ hown (hw _ (List.mem_of_getElem? (i := 24) rfl)) (hw _ (List.mem_of_getElem? (i := 25) rfl)) (hw _ (List.mem_of_getElem? (i := 22) rfl)) (hw _ (List.mem_of_getElem? (i := 26) rfl)) (by decide) (W := 0) (argsL := [(.int x5), (.int x7)]) (rest := []) (rm5 l Z a0 hw x5 x7 _ n0) (by decide) (by decide) (by decide) (by decide) rfl (by rw [hml]; rfl) (lenOf pd_4 rfl) rfl (by show 2 * 0 + _ ≤ _; exact Nat.le_of_eq rfl) (hb hby at_50) ?_
    intro T11 L11 v X' hq
    obtain ⟨rfl, N', e'⟩ := hq
    replace I := own_tr (P := fun h => own_I Z n0 h xa g_sought) e' I
    replace N := Fr.app N N'
    replace X : Stand p l e room_1 s m #[(.int p0), (.int p1), (.int p2), (.int p3), (.int p4)] below meth c T11 _ 2 19 := X'
    clear X' N' e'
    show own_E p e below Qq T11 (mkF m 53 #[.val (.int x0), .val (.int x1), .val (.int x2), .val (.int x3), .val (.int x4), .val (.ref xa), .val (.int x5), .val (.int y8), .val (.int x7), .unset, .unset, .unset, .unset] [(.int (F5_0 x5 x7))])
    refine own_st (fun _ => XS.istore X.here hx rfl (hb hby at_53) rfl (l' := #[.val (.int x0), .val (.int x1), .val (.int x2), .val (.int x3), .val (.int x4), .val (.ref xa), .val (.int (F5_0 x5 x7)), .val (.int y8), .val (.int x7), .unset, .unset, .unset, .unset]) rfl) ?_
    show own_E p e below Qq T11 (mkF m 55 #[.val (.int x0), .val (.int x1), .val (.int x2), .val (.int x3), .val (.int x4), .val (.ref xa), .val (.int (F5_0 x5 x7)), .val (.int y8), .val (.int x7), .unset, .unset, .unset, .unset] [])
    refine own_st (fun _ => XS.aload X.here hx rfl (hb hby at_55) rfl rfl) ?_
    show own_E p e below Qq T11 (mkF m 57 #[.val (.int x0), .val (.int x1), .val (.int x2), .val (.int x3), .val (.int x4), .val (.ref xa), .val (.int (F5_0 x5 x7)), .val (.int y8), .val (.int x7), .unset, .unset, .unset, .unset] [(.ref xa)])
    refine own_st (fun _ => XS.iloadN X.here hx rfl (hb hby at_57) rfl) ?_
    show own_E p e below Qq T11 (mkF m 58 #[.val (.int x0), .val (.int x1), .val (.int x2), .val (.int x3), .val (.int x4), .val (.ref xa), .val (.int (F5_0 x5 x7)), .val (.int y8), .val (.int x7), .unset, .unset, .unset, .unset] [(.int x1), (.ref xa)])
    refine own_callV X hx hZ hown (hw _ (List.mem_of_getElem? (i := 13) rfl)) (hw _ (List.mem_of_getElem? (i := 14) rfl)) (hw _ (List.mem_of_getElem? (i := 16) rfl)) (hw _ (List.mem_of_getElem? (i := 15) rfl)) (hw _ (List.mem_of_getElem? (i := 2) rfl)) (hw _ (List.mem_of_getElem? (i := 17) rfl)) (by decide) (own_Iex I) (W := 0) (argsL := [(.int x1)]) (rest := []) (rm3 l Z a0 hw xa x1 g_sought _ n0 I) (by decide) (by decide) (by decide) (by decide) rfl (by rw [hml]; rfl) (lenOf pd_3 rfl) rfl (by show 2 * 0 + _ ≤ _; exact Nat.le_of_eq rfl) (hb hby at_58) ?_
    intro T12 L12 v X' hq
    obtain ⟨rfl, N', I'⟩ := hq
    replace I := I'
    replace N := Fr.app N N'
    replace X : Stand p l e room_1 s m #[(.int p0), (.int p1), (.int p2), (.int p3), (.int p4)] below meth c T12 _ 2 19 := X'
    clear X' N' I'
    show own_E p e below Qq T12 (mkF m 61 #[.val (.int x0), .val (.int x1), .val (.int x2), .val (.int x3), .val (.int x4), .val (.ref xa), .val (.int (F5_0 x5 x7)), .val (.int y8), .val (.int x7), .unset, .unset, .unset, .unset] [(.int (F3_0 x1 g_sought).1)])
    exact B61 _ _ x0 x1 x2 x3 x4 (F5_0 x5 x7) y8 x7 (F3_0 x1 g_sought).1 xa (F3_0 x1 g_sought).2 X I N hF
  have B43 : ∀ (T : State) (L : List Loc) (x0 : Int32) (x1 : Int32) (x2 : Int32) (x3 : Int32) (x4 : Int32) (x5 : Int32) (x6 : Int32) (x7 : Int32) (xa : Addr) (g_sought : Int32), Stand p l e room_1 s m #[(.int p0), (.int p1), (.int p2), (.int p3), (.int p4)] below meth c T L 2 19 → own_I Z n0 T.heap xa g_sought → Fr n0 L → w = F0_43 x0 x1 x2 x3 x4 x5 x6 x7 g_sought → own_E p e below Qq T (mkF m 43 #[.val (.int x0), .val (.int x1), .val (.int x2), .val (.int x3), .val (.int x4), .val (.ref xa), .val (.int x5), .val (.int x6), .val (.int x7), .unset, .unset, .unset, .unset] []) := by
    intro T L x0 x1 x2 x3 x4 x5 x6 x7 xa g_sought X I N hF
    refine own_st (fun _ => XS.iconst X.here hx rfl (hb hby at_43)) ?_
    show own_E p e below Qq T (mkF m 44 #[.val (.int x0), .val (.int x1), .val (.int x2), .val (.int x3), .val (.int x4), .val (.ref xa), .val (.int x5), .val (.int x6), .val (.int x7), .unset, .unset, .unset, .unset] [(.int (0 : Int32))])
    exact B44 _ _ x0 x1 x2 x3 x4 x5 x6 x7 (0 : Int32) xa g_sought X I N hF
  have B21 : ∀ (T : State) (L : List Loc) (x0 : Int32) (x1 : Int32) (x2 : Int32) (x3 : Int32) (x4 : Int32) (x5 : Int32) (x6 : Int32) (y7 : Int32) (xa : Addr) (g_sought : Int32), Stand p l e room_1 s m #[(.int p0), (.int p1), (.int p2), (.int p3), (.int p4)] below meth c T L 2 19 → own_I Z n0 T.heap xa g_sought → Fr n0 L → w = F0_21 x0 x1 x2 x3 x4 x5 x6 y7 g_sought → own_E p e below Qq T (mkF m 21 #[.val (.int x0), .val (.int x1), .val (.int x2), .val (.int x3), .val (.int x4), .val (.ref xa), .val (.int x5), .val (.int x6), .unset, .unset, .unset, .unset, .unset] [(.int y7)]) := by
    intro T L x0 x1 x2 x3 x4 x5 x6 y7 xa g_sought X I N hF
    refine own_st (fun _ => XS.istore X.here hx rfl (hb hby at_21) rfl (l' := #[.val (.int x0), .val (.int x1), .val (.int x2), .val (.int x3), .val (.int x4), .val (.ref xa), .val (.int x5), .val (.int x6), .val (.int y7), .unset, .unset, .unset, .unset]) rfl) ?_
    show own_E p e below Qq T (mkF m 23 #[.val (.int x0), .val (.int x1), .val (.int x2), .val (.int x3), .val (.int x4), .val (.ref xa), .val (.int x5), .val (.int x6), .val (.int y7), .unset, .unset, .unset, .unset] [])
    refine own_st (fun _ => XS.iload X.here hx rfl (hb hby at_23) rfl) ?_
    show own_E p e below Qq T (mkF m 25 #[.val (.int x0), .val (.int x1), .val (.int x2), .val (.int x3), .val (.int x4), .val (.ref xa), .val (.int x5), .val (.int x6), .val (.int y7), .unset, .unset, .unset, .unset] [(.int x6)])
    by_cases q25 : x6 = (0 : Int32)
    · replace hF := hF.trans (if_pos q25)
      refine own_st (fun _ => XS.ifYes X.here hx rfl (pc0 := 25) (pc' := 43) rfl (hb hby at_25) rfl (XT.i0_eq_t q25) (by decide) (by decide)) ?_
      show own_E p e below Qq T (mkF m 43 #[.val (.int x0), .val (.int x1), .val (.int x2), .val (.int x3), .val (.int x4), .val (.ref xa), .val (.int x5), .val (.int x6), .val (.int y7), .unset, .unset, .unset, .unset] [])
      exact B43 _ _ x0 x1 x2 x3 x4 x5 x6 y7 xa g_sought X I N hF
    · replace hF := hF.trans (if_neg q25)
      refine own_st (fun _ => XS.ifNo X.here hx rfl (hb hby at_25) rfl (XT.i0_eq_f q25)) ?_
      show own_E p e below Qq T (mkF m 28 #[.val (.int x0), .val (.int x1), .val (.int x2), .val (.int x3), .val (.int x4), .val (.ref xa), .val (.int x5), .val (.int x6), .val (.int y7), .unset, .unset, .unset, .unset] [])
      refine own_st (fun _ => XS.iload X.here hx rfl (hb hby at_28) rfl) ?_
      show own_E p e below Qq T (mkF m 30 #[.val (.int x0), .val (.int x1), .val (.int x2), .val (.int x3), .val (.int x4), .val (.ref xa), .val (.int x5), .val (.int x6), .val (.int y7), .unset, .unset, .unset, .unset] [(.int y7)])
      refine own_st (fun _ => XS.iload X.here hx rfl (hb hby at_30) rfl) ?_
      show own_E p e below Qq T (mkF m 32 #[.val (.int x0), .val (.int x1), .val (.int x2), .val (.int x3), .val (.int x4), .val (.ref xa), .val (.int x5), .val (.int x6), .val (.int y7), .unset, .unset, .unset, .unset] [(.int x5), (.int y7)])
      refine own_st (fun _ => XS.iloadN X.here hx rfl (hb hby at_32) rfl) ?_
      show own_E p e below Qq T (mkF m 33 #[.val (.int x0), .val (.int x1), .val (.int x2), .val (.int x3), .val (.int x4), .val (.ref xa), .val (.int x5), .val (.int x6), .val (.int y7), .unset, .unset, .unset, .unset] [(.int x0), (.int x5), (.int y7)])
      refine own_callS X hx hZ hown (hw _ (List.mem_of_getElem? (i := 20) rfl)) (hw _ (List.mem_of_getElem? (i := 21) rfl)) (hw _ (List.mem_of_getElem? (i := 22) rfl)) (hw _ (List.mem_of_getElem? (i := 23) rfl)) (by decide) (W := 1) (argsL := [(.int x5), (.int x0)]) (rest := [(.int y7)]) (rm4 l Z a0 hw x5 x0 _ n0) (by decide) (by decide) (by decide) (by decide) rfl (by rw [hml]; rfl) (lenOf pd_4 rfl) rfl (by show 2 * 0 + _ ≤ _; exact Nat.le_of_eq rfl) (hb hby at_33) ?_
      intro T13 L13 v X' hq
      obtain ⟨rfl, N', e'⟩ := hq
      replace I := own_tr (P := fun h => own_I Z n0 h xa g_sought) e' I
      replace N := Fr.app N N'
      replace X : Stand p l e room_1 s m #[(.int p0), (.int p1), (.int p2), (.int p3), (.int p4)] below meth c T13 _ 2 19 := X'
      clear X' N' e'
      show own_E p e below Qq T13 (mkF m 36 #[.val (.int x0), .val (.int x1), .val (.int x2), .val (.int x3), .val (.int x4), .val (.ref xa), .val (.int x5), .val (.int x6), .val (.int y7), .unset, .unset, .unset, .unset] [(.int (F4_0 x5 x0)), (.int y7)])
      by_cases q36 : y7 = (F4_0 x5 x0)
      · replace hF := hF.trans (if_pos q36)
        refine own_st (fun _ => XS.icmpNo X.here hx rfl (hb hby at_36) rfl (XT.ii_ne_f q36)) ?_
        show own_E p e below Qq T13 (mkF m 39 #[.val (.int x0), .val (.int x1), .val (.int x2), .val (.int x3), .val (.int x4), .val (.ref xa), .val (.int x5), .val (.int x6), .val (.int y7), .unset, .unset, .unset, .unset] [])
        refine own_st (fun _ => XS.iconst X.here hx rfl (hb hby at_39)) ?_
        show own_E p e below Qq T13 (mkF m 40 #[.val (.int x0), .val (.int x1), .val (.int x2), .val (.int x3), .val (.int x4), .val (.ref xa), .val (.int x5), .val (.int x6), .val (.int y7), .unset, .unset, .unset, .unset] [(.int (1 : Int32))])
        refine own_st (fun _ => XS.goto X.here hx rfl (pc0 := 40) (pc' := 44) rfl (hb hby at_40) (by decide) (by decide)) ?_
        show own_E p e below Qq T13 (mkF m 44 #[.val (.int x0), .val (.int x1), .val (.int x2), .val (.int x3), .val (.int x4), .val (.ref xa), .val (.int x5), .val (.int x6), .val (.int y7), .unset, .unset, .unset, .unset] [(.int (1 : Int32))])
        exact B44 _ _ x0 x1 x2 x3 x4 x5 x6 y7 (1 : Int32) xa g_sought X I N hF
      · replace hF := hF.trans (if_neg q36)
        refine own_st (fun _ => XS.icmpYes X.here hx rfl (pc0 := 36) (pc' := 43) rfl (hb hby at_36) rfl (XT.ii_ne_t q36) (by decide) (by decide)) ?_
        show own_E p e below Qq T13 (mkF m 43 #[.val (.int x0), .val (.int x1), .val (.int x2), .val (.int x3), .val (.int x4), .val (.ref xa), .val (.int x5), .val (.int x6), .val (.int y7), .unset, .unset, .unset, .unset] [])
        exact B43 _ _ x0 x1 x2 x3 x4 x5 x6 y7 xa g_sought X I N hF
  have B7 : ∀ (T : State) (L : List Loc) (x0 : Int32) (x1 : Int32) (x2 : Int32) (x3 : Int32) (x4 : Int32) (xa : Addr) (g_sought : Int32), Stand p l e room_1 s m #[(.int p0), (.int p1), (.int p2), (.int p3), (.int p4)] below meth c T L 2 19 → own_I Z n0 T.heap xa g_sought → Fr n0 L → w = F0_7 x0 x1 x2 x3 x4 g_sought → own_E p e below Qq T (mkF m 7 #[.val (.int x0), .val (.int x1), .val (.int x2), .val (.int x3), .val (.int x4), .unset, .unset, .unset, .unset, .unset, .unset, .unset, .unset] [(.ref xa)]) := by
    intro T L x0 x1 x2 x3 x4 xa g_sought X I N hF
    refine own_st (fun _ => XS.astore X.here hx rfl (hb hby at_7) rfl rfl (l' := #[.val (.int x0), .val (.int x1), .val (.int x2), .val (.int x3), .val (.int x4), .val (.ref xa), .unset, .unset, .unset, .unset, .unset, .unset, .unset]) rfl) ?_
    show own_E p e below Qq T (mkF m 9 #[.val (.int x0), .val (.int x1), .val (.int x2), .val (.int x3), .val (.int x4), .val (.ref xa), .unset, .unset, .unset, .unset, .unset, .unset, .unset] [])
    refine own_st (fun _ => XS.iconst X.here hx rfl (hb hby at_9)) ?_
    show own_E p e below Qq T (mkF m 10 #[.val (.int x0), .val (.int x1), .val (.int x2), .val (.int x3), .val (.int x4), .val (.ref xa), .unset, .unset, .unset, .unset, .unset, .unset, .unset] [(.int (0 : Int32))])
    refine own_st (fun _ => XS.istore X.here hx rfl (hb hby at_10) rfl (l' := #[.val (.int x0), .val (.int x1), .val (.int x2), .val (.int x3), .val (.int x4), .val (.ref xa), .val (.int (0 : Int32)), .unset, .unset, .unset, .unset, .unset, .unset]) rfl) ?_
    show own_E p e below Qq T (mkF m 12 #[.val (.int x0), .val (.int x1), .val (.int x2), .val (.int x3), .val (.int x4), .val (.ref xa), .val (.int (0 : Int32)), .unset, .unset, .unset, .unset, .unset, .unset] [])
    refine own_st (fun _ => XS.iconst X.here hx rfl (hb hby at_12)) ?_
    show own_E p e below Qq T (mkF m 13 #[.val (.int x0), .val (.int x1), .val (.int x2), .val (.int x3), .val (.int x4), .val (.ref xa), .val (.int (0 : Int32)), .unset, .unset, .unset, .unset, .unset, .unset] [(.int (1 : Int32))])
    refine own_st (fun _ => XS.istore X.here hx rfl (hb hby at_13) rfl (l' := #[.val (.int x0), .val (.int x1), .val (.int x2), .val (.int x3), .val (.int x4), .val (.ref xa), .val (.int (0 : Int32)), .val (.int (1 : Int32)), .unset, .unset, .unset, .unset, .unset]) rfl) ?_
    show own_E p e below Qq T (mkF m 15 #[.val (.int x0), .val (.int x1), .val (.int x2), .val (.int x3), .val (.int x4), .val (.ref xa), .val (.int (0 : Int32)), .val (.int (1 : Int32)), .unset, .unset, .unset, .unset, .unset] [])
    refine own_st (fun _ => XS.aload X.here hx rfl (hb hby at_15) rfl rfl) ?_
    show own_E p e below Qq T (mkF m 17 #[.val (.int x0), .val (.int x1), .val (.int x2), .val (.int x3), .val (.int x4), .val (.ref xa), .val (.int (0 : Int32)), .val (.int (1 : Int32)), .unset, .unset, .unset, .unset, .unset] [(.ref xa)])
    refine own_st (fun _ => XS.iloadN X.here hx rfl (hb hby at_17) rfl) ?_
    show own_E p e below Qq T (mkF m 18 #[.val (.int x0), .val (.int x1), .val (.int x2), .val (.int x3), .val (.int x4), .val (.ref xa), .val (.int (0 : Int32)), .val (.int (1 : Int32)), .unset, .unset, .unset, .unset, .unset] [(.int x0), (.ref xa)])
    refine own_callV X hx hZ hown (hw _ (List.mem_of_getElem? (i := 13) rfl)) (hw _ (List.mem_of_getElem? (i := 14) rfl)) (hw _ (List.mem_of_getElem? (i := 16) rfl)) (hw _ (List.mem_of_getElem? (i := 15) rfl)) (hw _ (List.mem_of_getElem? (i := 2) rfl)) (hw _ (List.mem_of_getElem? (i := 17) rfl)) (by decide) (own_Iex I) (W := 0) (argsL := [(.int x0)]) (rest := []) (rm3 l Z a0 hw xa x0 g_sought _ n0 I) (by decide) (by decide) (by decide) (by decide) rfl (by rw [hml]; rfl) (lenOf pd_3 rfl) rfl (by show 2 * 0 + _ ≤ _; exact Nat.le_of_eq rfl) (hb hby at_18) ?_
    intro T14 L14 v X' hq
    obtain ⟨rfl, N', I'⟩ := hq
    replace I := I'
    replace N := Fr.app N N'
    replace X : Stand p l e room_1 s m #[(.int p0), (.int p1), (.int p2), (.int p3), (.int p4)] below meth c T14 _ 2 19 := X'
    clear X' N' I'
    show own_E p e below Qq T14 (mkF m 21 #[.val (.int x0), .val (.int x1), .val (.int x2), .val (.int x3), .val (.int x4), .val (.ref xa), .val (.int (0 : Int32)), .val (.int (1 : Int32)), .unset, .unset, .unset, .unset, .unset] [(.int (F3_0 x0 g_sought).1)])
    exact B21 _ _ x0 x1 x2 x3 x4 (0 : Int32) (1 : Int32) (F3_0 x0 g_sought).1 xa (F3_0 x0 g_sought).2 X I N hF
  show own_E p e below Qq T (mkF m 0 #[.val (.int p0), .val (.int p1), .val (.int p2), .val (.int p3), .val (.int p4), .unset, .unset, .unset, .unset, .unset, .unset, .unset, .unset] [])
  obtain ⟨T15, h15, X15, e15, E15, A15, D15, -, st15⟩ := newO X hx hZ hown (hw _ (List.mem_of_getElem? (i := 0) rfl)) (hw _ (List.mem_of_getElem? (i := 1) rfl)) (hw _ (List.mem_of_getElem? (i := 2) rfl)) rfl (g := (mkF m 0 #[.val (.int p0), .val (.int p1), .val (.int p2), .val (.int p3), .val (.int p4), .unset, .unset, .unset, .unset, .unset, .unset, .unset, .unset] [])) rfl (hb hby at_0) (by decide) (by decide)
  obtain ⟨a15, ga15⟩ : ∃ z, z = T.heap.size := ⟨_, rfl⟩
  rw [← ga15] at A15 D15 st15
  subst e15
  have I' := own_Inew hw (Nat.le_trans Z0 (Nat.le_of_eq ga15.symm)) A15 @D15
  have I := I'
  refine own_st st15 ?_
  replace X := X15
  clear I' st15 X15 A15 D15 E15
  show own_E p e below Qq T15 (mkF m 3 #[.val (.int p0), .val (.int p1), .val (.int p2), .val (.int p3), .val (.int p4), .unset, .unset, .unset, .unset, .unset, .unset, .unset, .unset] [(.ref a15)])
  refine own_st (fun _ => XS.dup X.here hx rfl (hb hby at_3) rfl rfl) ?_
  show own_E p e below Qq T15 (mkF m 4 #[.val (.int p0), .val (.int p1), .val (.int p2), .val (.int p3), .val (.int p4), .unset, .unset, .unset, .unset, .unset, .unset, .unset, .unset] [(.ref a15), (.ref a15)])
  refine own_callC X hx hZ (y := (⟨"org/jutewire/bind/Referents", "<init>", "()V"⟩ : MethodName)) rfl hown (hw _ (List.mem_of_getElem? (i := 3) rfl)) (hw _ (List.mem_of_getElem? (i := 4) rfl)) (hw _ (List.mem_of_getElem? (i := 2) rfl)) (hw _ (List.mem_of_getElem? (i := 5) rfl)) (by decide) (W := 1) (a := a15) (argsL := []) (rest := [(.ref a15)]) (rm1 l Z a0 hw a15 (0 : Int32) _ n0 I) (by decide) (by decide) (by decide) (by decide) rfl (by rw [hml]; rfl) (lenOf pd_1 rfl) rfl (by show 2 * 0 + _ ≤ _; exact Nat.le_of_eq rfl) (hb hby at_4) ?_
  intro T16 L16 v X' hq
  obtain ⟨rfl, N', I'⟩ := hq
  replace I := I'
  replace N := Fr.app N N'
  replace X : Stand p l e room_1 s m #[(.int p0), (.int p1), (.int p2), (.int p3), (.int p4)] below meth c T16 _ 2 19 := X'
  clear X' N' I'
  show own_E p e below Qq T16 (mkF m 7 #[.val (.int p0), .val (.int p1), .val (.int p2), .val (.int p3), .val (.int p4), .unset, .unset, .unset, .unset, .unset, .unset, .unset, .unset] [(.ref a15)])
  exact B7 _ _ p0 p1 p2 p3 p4 a15 (0 : Int32) X I N hF
theorem own_s1 (n g : Int32) : (F3_0 n g).1 = F4_0 g n := by
  unfold F3_0 F4_0
  split <;> rfl
theorem own_s2 (n g : Int32) (h : 0 ≤ g.toInt) : F5_0 g (F3_0 n g).1 = (F3_0 n g).2 := by
  have q : ¬ g < 0 := by rw [Int32.lt_iff_toInt_lt]; exact Int.not_lt.mpr h
  unfold F3_0
  split
  · rfl
  · show F5_0 g g = g + 1
    rw [F5_0, if_neg q]
theorem own_s3 (n g : Int32) (b : Int) (h0 : 0 ≤ g.toInt) (h1 : g.toInt ≤ b) (hb : b < 1000) : 0 ≤ (F3_0 n g).2.toInt ∧ (F3_0 n g).2.toInt ≤ b + 1 := by
  unfold F3_0
  split
  · show 0 ≤ g.toInt ∧ g.toInt ≤ b + 1
    omega
  · show 0 ≤ (g + 1).toInt ∧ (g + 1).toInt ≤ b + 1
    have e := c_iadd g 1
    have r := rng32 (g + 1)
    have d : (1 : Int32).toInt = 1 := rfl
    omega
theorem own_law (p0 p1 p2 p3 p4 : Int32) : F0_0 p0 p1 p2 p3 p4 = 1 := by
  have z : ¬ ((1 : Int32) = 0) := by decide
  have b0 : 0 ≤ (0 : Int32).toInt ∧ (0 : Int32).toInt ≤ 0 := by decide
  have b1 := own_s3 p0 0 0 b0.1 b0.2 (by decide)
  have b2 := own_s3 p1 (F3_0 p0 0).2 1 b1.1 b1.2 (by decide)
  have b3 := own_s3 p2 (F3_0 p1 (F3_0 p0 0).2).2 2 b2.1 b2.2 (by decide)
  have b4 := own_s3 p3 (F3_0 p2 (F3_0 p1 (F3_0 p0 0).2).2).2 3 b3.1 b3.2 (by decide)
  rw [F0_0, F0_7, F0_21, if_neg z, if_pos (own_s1 _ _), F0_44, own_s2 _ _ b0.1, F0_61, if_neg z, if_pos (own_s1 _ _), F0_84, own_s2 _ _ b1.1, F0_101, if_neg z, if_pos (own_s1 _ _), F0_124, own_s2 _ _ b2.1, F0_141, if_neg z, if_pos (own_s1 _ _), F0_164, own_s2 _ _ b3.1, F0_182, if_neg z, if_pos (own_s1 _ _)]
  rfl
set_option maxRecDepth 65536 in
set_option maxHeartbeats 40000000 in
theorem comes_1 {Post : Tables → Env → Array Value → State → Outcome → State → Prop} (hpost : ∀ tb e args s v u, (limb_1_1.after args s (.returned v) u = true ∧ limb_1_2.after args s (.returned v) u = true ∧ True) → FrameEnd s (.returned v) u (Jvm.fieldLocs frame_1_writes args s ++ Jvm.arrayLocs frame_1_arrays args s ++ Jvm.staticLocs frame_1_statics s) 16 128 → Post tb e args s (.returned v) u) :
    ArmFor flags0 classFile x code maxLocals ret World_1 tables_1 room_1 Calls_1 rest_1 Pre_1 Post := by
  intro l hfl _ _ p e ha hc hk s m args below hf hA hF happ hP
  obtain ⟨hcalls, hrest, hpre⟩ := hP
  obtain ⟨-, -, -, hnamed, -, -, -, hat⟩ := (Spec.applies_iff hf).mp happ
  obtain ⟨hg, hn⟩ := and_e (Cond.before_iff.mp (show (Jvm.Cond.and given_1 narrow_1).before args s = true from hpre))
  obtain ⟨g0, hg⟩ := and_e hg
  obtain ⟨w0, w1, w2, w3, w4, rfl⟩ : ∃ w0 w1 w2 w3 w4 : Value, args = #[w0, w1, w2, w3, w4] := by
    have hs : args.size = 5 := by simpa [Cond.value, given_1] using g0
    obtain ⟨L⟩ := args
    match L, hs with
    | [w0, w1, w2, w3, w4], _ => exact ⟨w0, w1, w2, w3, w4, rfl⟩
  have hw := fun d (hd : d ∈ tables_1) => atoms_spec (ws := Jvm.Cond.code x code maxLocals ret :: tables_1) hat d (List.mem_cons_of_mem _ hd)
  obtain ⟨g1, hg⟩ := and_e hg
  obtain ⟨g2, hg⟩ := and_e hg
  obtain ⟨g3, hg⟩ := and_e hg
  obtain ⟨g4, hg⟩ := and_e hg
  have g5 := hg
  obtain ⟨i0, e0⟩ := is_v g1
  obtain rfl : w0 = (.int i0) := Option.some.inj e0
  obtain ⟨i1, e1⟩ := is_v g2
  obtain rfl : w1 = (.int i1) := Option.some.inj e1
  obtain ⟨i2, e2⟩ := is_v g3
  obtain rfl : w2 = (.int i2) := Option.some.inj e2
  obtain ⟨i3, e3⟩ := is_v g4
  obtain rfl : w3 = (.int i3) := Option.some.inj e3
  obtain ⟨i4, e4⟩ := is_v g5
  obtain rfl : w4 = (.int i4) := Option.some.inj e4
  obtain ⟨n, o, h1, h2, h3, _, L, rfl, ⟨rfl, N, _⟩, hq⟩ := rm0 l s _ hw i0 i1 i2 i3 i4 s.heap s.heap.size (Nat.le_refl _) tables_1 p e ha hc hk s m _ below hf ((Spec.applies_iff_loose hf).mp happ).1 ⟨rfl, State.Warmed39.refl s, rfl⟩ trivial
  refine ⟨n, _, h1, h2, h3, hpost _ _ _ _ _ _ ⟨Cond.after_iff.mpr rfl, Cond.after_iff.mpr (eq_i res_at (Term.int_eval (1)) (by rw [own_law i0 i1 i2 i3 i4]) rfl), trivial⟩ ⟨hq.1, hq.2.1, (hq.2.2.sift fun y hy => Or.inr (N y hy)).mono (by decide) (by decide)⟩⟩
theorem main_1_1 : Claimed_1_1 := comes_1 fun _ _ _ _ _ _ h hF => ⟨h.1, hF⟩
theorem main_1_2 : Claimed_1_2 := comes_1 fun _ _ _ _ _ _ h hF => ⟨h.2.1, hF⟩
end Jvm.Pilot.@@N@@
namespace Jvm.Pilot.@@N@@
open Jvm Jvm.ClassFile Sem Op Lib Jvm.Free Jvm.Stand Jvm.Pilot.@@N@@.Jvm.D
/-! MADE BY PROGRAM (witnessworld.py) out of the Statement's table words and the real class files: 10 classes; the members and pool entries that the words name. The judged class is class 1, her method 3. -/
namespace start1
open Jvm.ClassFile
def u (s : String) : CpInfo := .utf8 (stringToUtf16 s)
/-- a pool by its gaps: so many unusable entries, then the entry; so many at the end -/
def gap : Nat → List CpInfo → List CpInfo
  | 0, r => r
  | n + 1, r => .unusable :: gap n r
def poolList (es : List (Nat × CpInfo)) (last : Nat) : List CpInfo := es.foldr (fun e r => gap e.1 (e.2 :: r)) (gap last [])
def pool (es : List (Nat × CpInfo)) (last : Nat) : Array CpInfo := ⟨poolList es last⟩
def fileOf (pool : Array CpInfo) (this : Nat) (attrs : Array Attribute := #[]) (ms : Array MethodInfo := #[]) (fl : Nat := 33) (sup : Nat := 0) (ifs : Array Nat := #[]) (fds : Array FieldInfo := #[]) : ClassFile where
  minorVersion := 0
  majorVersion := 65
  constantPool := pool
  accessFlags := fl
  thisClass := this
  superClass := sup
  interfaces := ifs
  fields := fds
  methods := ms
  attributes := attrs
def plain (name : String) (sup : Option ClassId) : Class where
  name := name
  kind := .ordinary
  loader := none
  accessFlags := 33
  super := sup
  interfaces := #[]
  cf := none
  fields := #[]
  methods := #[]
  instanceTypes := #[]
  staticTypes := #[]
  resolved := #[]
  callSites := []
  init := .initialized
  statics := none
  mirror := none

def pool0 : Array CpInfo := pool [(5, u "<init>"), (0, u "()V"), (1, .class_ 10), (1, u "java/lang/Object")] 113

def k0c0 : Code := { maxStack := 0, maxLocals := 1, code := object_method_1_code, exceptionTable := #[], attributes := #[] }
def k0m0 : Method := { name := "<init>", desc := "()V", sig := { parameters := [], returnType := none }, accessFlags := 1, code := some k0c0 }
/-- java/lang/Object -/
def k0 : Class := { plain "java/lang/Object" none with
  accessFlags := 33
  interfaces := #[]
  cf := some (fileOf pool0 8 #[] #[{ accessFlags := 1, nameIndex := 5, descriptorIndex := 6, attributes := #[] }] 33 0 #[] #[])
  fields := #[]
  methods := #[k0m0]
  instanceTypes := #[]
  staticTypes := #[]
  resolved := Array.replicate 124 none
  statics := none }

def pool1 : Array CpInfo := pool [(2, .class_ 4), (0, .nameAndType 5 6), (0, u "java/lang/Object"), (0, u "<init>"), (0, u "()V"), (0, .class_ 8), (0, u "org/jutewire/bind/Referents"), (0, .methodref 7 3), (0, .methodref 7 11), (0, .nameAndType 12 13), (0, u "seek"), (0, u "(I)I"), (0, .methodref 15 16), (0, .class_ 17), (0, .nameAndType 18 19), (0, u "org/jutewire/bind/ReferentsSeekPinLaw"), (0, u "expect"), (0, u "(II)I"), (0, .methodref 15 21), (0, .nameAndType 22 19), (0, u "advance"), (3, u "law"), (0, u "(IIIII)Z")] 2

def k1m0 : Method := { name := "<init>", desc := "()V", sig := { parameters := [], returnType := none }, accessFlags := 1, code := none }
def k1c1 : Code := { maxStack := 2, maxLocals := 2, code := method_2_code, exceptionTable := #[], attributes := #[] }
def k1m1 : Method := { name := "expect", desc := "(II)I", sig := { parameters := [.int, .int], returnType := some .int }, accessFlags := 10, code := some k1c1 }
def k1c2 : Code := { maxStack := 2, maxLocals := 2, code := method_3_code, exceptionTable := #[], attributes := #[] }
def k1m2 : Method := { name := "advance", desc := "(II)I", sig := { parameters := [.int, .int], returnType := some .int }, accessFlags := 10, code := some k1c2 }
def k1c3 : Code := { maxStack := 3, maxLocals := 13, code := code, exceptionTable := #[], attributes := #[] }
def k1m3 : Method := { name := "law", desc := "(IIIII)Z", sig := { parameters := [.int, .int, .int, .int, .int], returnType := some .boolean }, accessFlags := 9, code := some k1c3 }
/-- org/jutewire/bind/ReferentsSeekPinLaw -/
def k1 : Class := { plain "org/jutewire/bind/ReferentsSeekPinLaw" (some 0) with
  accessFlags := 49
  interfaces := #[]
  cf := some (fileOf pool1 15 #[] #[{ accessFlags := 1, nameIndex := 5, descriptorIndex := 6, attributes := #[] }, { accessFlags := 10, nameIndex := 18, descriptorIndex := 19, attributes := #[] }, { accessFlags := 10, nameIndex := 22, descriptorIndex := 19, attributes := #[] }, { accessFlags := 9, nameIndex := 26, descriptorIndex := 27, attributes := #[] }] 49 2 #[] #[])
  fields := #[]
  methods := #[k1m0, k1m1, k1m2, k1m3]
  instanceTypes := #[]
  staticTypes := #[]
  resolved := Array.replicate 30 none
  statics := none }

def pool2 : Array CpInfo := pool [(1, .methodref 2 3), (0, .class_ 4), (0, .nameAndType 5 6), (0, u "java/lang/Object"), (0, u "<init>"), (0, u "()V"), (0, .fieldref 8 9), (0, .class_ 10), (0, .nameAndType 11 12), (0, u "org/jutewire/bind/Referents"), (0, u "values"), (0, u "[Ljava/lang/Object;"), (14, u "count"), (0, u "I"), (2, u "UNREAD"), (0, u "Ljava/lang/Object;"), (0, .fieldref 8 34), (0, .nameAndType 35 28), (0, u "sought"), (8, u "seek"), (0, u "(I)I")] 3

def k2c0 : Code := { maxStack := 2, maxLocals := 1, code := prog_46_method_1_code, exceptionTable := #[], attributes := #[] }
def k2m0 : Method := { name := "<init>", desc := "()V", sig := { parameters := [], returnType := none }, accessFlags := 0, code := some k2c0 }
def k2c1 : Code := { maxStack := 4, maxLocals := 2, code := prog_46_method_5_code, exceptionTable := #[], attributes := #[] }
def k2m1 : Method := { name := "seek", desc := "(I)I", sig := { parameters := [.int], returnType := some .int }, accessFlags := 0, code := some k2c1 }
/-- org/jutewire/bind/Referents -/
def k2 : Class := { plain "org/jutewire/bind/Referents" (some 0) with
  accessFlags := 48
  interfaces := #[]
  cf := some (fileOf pool2 8 #[] #[{ accessFlags := 0, nameIndex := 5, descriptorIndex := 6, attributes := #[] }, { accessFlags := 0, nameIndex := 44, descriptorIndex := 45, attributes := #[] }] 48 2 #[] #[{ accessFlags := 24, nameIndex := 31, descriptorIndex := 32, attributes := #[] }, { accessFlags := 2, nameIndex := 11, descriptorIndex := 12, attributes := #[] }, { accessFlags := 2, nameIndex := 27, descriptorIndex := 28, attributes := #[] }, { accessFlags := 2, nameIndex := 35, descriptorIndex := 28, attributes := #[] }])
  fields := #[{ name := "UNREAD", type := (.object "java/lang/Object"), accessFlags := 24, slot := 0, constantValue := 0 }, { name := "values", type := (.array (.object "java/lang/Object")), accessFlags := 2, slot := 0, constantValue := 0 }, { name := "count", type := .int, accessFlags := 2, slot := 1, constantValue := 0 }, { name := "sought", type := .int, accessFlags := 2, slot := 2, constantValue := 0 }]
  methods := #[k2m0, k2m1]
  instanceTypes := #[(.array (.object "java/lang/Object")), .int, .int]
  staticTypes := #[(.object "java/lang/Object")]
  resolved := Array.replicate 49 none
  statics := none }

def pool3 : Array CpInfo := pool [(1, u "java/lang/Cloneable"), (0, .class_ 1), (0, u "java/lang/Object"), (0, .class_ 3)] 3

/-- java/lang/Cloneable -/
def k3 : Class := { plain "java/lang/Cloneable" (some 0) with
  accessFlags := 1537
  interfaces := #[]
  cf := some (fileOf pool3 2 #[] #[] 1537 4 #[] #[])
  fields := #[]
  methods := #[]
  instanceTypes := #[]
  staticTypes := #[]
  resolved := Array.replicate 8 none
  statics := none }

def pool4 : Array CpInfo := pool [(1, u "java/io/Serializable"), (0, .class_ 1), (0, u "java/lang/Object"), (0, .class_ 3)] 3

/-- java/io/Serializable -/
def k4 : Class := { plain "java/io/Serializable" (some 0) with
  accessFlags := 1537
  interfaces := #[]
  cf := some (fileOf pool4 2 #[] #[] 1537 4 #[] #[])
  fields := #[]
  methods := #[]
  instanceTypes := #[]
  staticTypes := #[]
  resolved := Array.replicate 8 none
  statics := none }

/-- the primitive byte -/
def k5 : Class := { plain "byte" none with kind := .primitive 'B', accessFlags := 0x411 }
/-- [B -/
def k6 : Class := { plain "[B" (some 0) with kind := .array 5 .byte, interfaces := #[3, 4], accessFlags := 1041 }

/-- the primitive int -/
def k7 : Class := { plain "int" none with kind := .primitive 'I', accessFlags := 0x411 }
/-- [I -/
def k8 : Class := { plain "[I" (some 0) with kind := .array 7 .int, interfaces := #[3, 4], accessFlags := 1041 }

/-- [Ljava/lang/Object; -/
def k9 : Class := { plain "[Ljava/lang/Object;" (some 0) with kind := .array 0 (.object "java/lang/Object"), interfaces := #[3, 4], accessFlags := 1041 }

def heap : Heap := #[]
def classes : Array Class := #[k0, k1, k2, k3, k4, k5, k6, k7, k8, k9]
def interned : List (Array UInt16 × Addr) := []
def slotsUsed : Nat := 0
def theMethod : MethodId := ⟨1, 3⟩
def args0 : Array Value := #[.int 5, .int 5, .int 5, .int 5, .int 5]
def aboutOver (below : List Frame) : State where
  vm := { classes := classes, interned := interned.toArray }
  heap := heap
  slotsUsed := slotsUsed
  threads := #[{ frames := .invoking theMethod args0 :: below }]
def below0 : List Frame := [.native { method := ⟨0, 0⟩, args := #[] }]
def about1 : State := aboutOver below0
def p0 : Program := .bare "" "" ""
def e0 : Env := launch0.env 0 0 0
theorem w_frames : about1.frames = Frame.invoking theMethod args0 :: below0 := rfl
set_option maxRecDepth 65536 in
theorem w_args : argsFit about1.vm theMethod args0 = true := by decide +kernel
set_option maxRecDepth 65536 in
theorem w_heap : heapFits about1 = true := by decide +kernel
set_option maxRecDepth 65536 in
theorem w_runnable : about1.curStatus? = some .runnable := by decide +kernel
set_option maxRecDepth 65536 in
theorem w_alone : about1.alone = true := by decide +kernel
set_option maxRecDepth 65536 in
theorem w_named : about1.methodNamed? x = some theMethod := by decide +kernel
set_option maxRecDepth 65536 in
theorem w_hears : about1.hears theMethod below0 = true := by decide +kernel
set_option maxRecDepth 65536 in
theorem w_ripe : about1.ripe theMethod args0 below0 = true := by decide +kernel
theorem w_running : about1.status = .running := rfl
set_option maxRecDepth 65536 in
theorem w_room : about1.hasRoom e0.platform room_1 = true :=
  launch0.hasRoom_least _ room_1 (by decide +kernel) (by decide +kernel) (by decide +kernel) (by decide +kernel) (by decide +kernel) (by decide +kernel)
theorem allAtoms_all (ts : List Jvm.Cond) (a : Array Jvm.Value) (st : Jvm.State) : (allAtoms ts).before a st = ts.all (fun c => c.before a st) := by
  induction ts with
  | nil => rfl
  | cons c t ih =>
    show (Jvm.Cond.and c (allAtoms t)).before a st = _
    rw [Jvm.Cond.before_and, ih, List.all_cons]
def words1 : List Jvm.Cond := Jvm.Cond.code x code maxLocals ret :: tables_1
/-- a 'code' word, met by the world's own term for the bytes: nothing is compared byte by byte -/
theorem code_word {y : MethodName} {bytes : ByteArray} {mx : Nat} {rt : Option FieldType} {a : Array Value} {s : State} {m : MethodId} {meth : Method} {c : Code} (h1 : s.methodNamed? y = some m) (h2 : s.vm.method? m = some meth) (h3 : meth.code = some c) (h4 : c.code = bytes)
    (h5 : (c.maxLocals == mx && c.exceptionTable.isEmpty && decide (c.maxStack ≤ mostOperands) && decide (meth.sig.returnType = rt) && !meth.locks && decide (parseMethodDescriptor y.desc = some meth.sig)) = true) : (Jvm.Cond.code y bytes mx rt).before a s = true := by
  simp only [Bool.and_eq_true, beq_iff_eq, Bool.not_eq_true', decide_eq_true_eq] at h5
  obtain ⟨⟨⟨⟨⟨g1, g2⟩, g3⟩, g4⟩, g5⟩, g6⟩ := h5
  simp [Cond.before, Cond.holds, Cond.value, h1, h2, h3, h4, g1, g2, g3, g4, g5, g6]
def isCode : Jvm.Cond → Bool
  | .code _ _ _ _ => true
  | _ => false
theorem all_split {L : List Jvm.Cond} {P : Jvm.Cond → Bool} (h1 : L.all (fun c => isCode c || P c) = true) (h2 : ∀ c ∈ L.filter isCode, P c = true) : L.all P = true := by
  refine List.all_eq_true.mpr fun c hc => ?_
  have h := List.all_eq_true.mp h1 c hc
  rcases Bool.eq_false_or_eq_true (isCode c) with hi | hi
  · exact h2 c (List.mem_filter.mpr ⟨hc, hi⟩)
  · simpa [hi] using h
set_option maxRecDepth 65536 in
theorem w_c0 : (Jvm.Cond.code x code maxLocals ret).before args0 about1 = true := code_word (m := ⟨1, 3⟩) (meth := k1m3) (c := k1c3) (by decide +kernel) rfl rfl rfl (by decide +kernel)
set_option maxRecDepth 65536 in
theorem w_c1 : (Jvm.Cond.code ({ cls := "org/jutewire/bind/Referents", name := "<init>", desc := "()V" } : Jvm.MethodName) prog_46_method_1_code (1 : Nat) (Option.none : Option Jvm.ClassFile.FieldType)).before args0 about1 = true := code_word (m := ⟨2, 0⟩) (meth := k2m0) (c := k2c0) (by decide +kernel) rfl rfl rfl (by decide +kernel)
set_option maxRecDepth 65536 in
theorem w_c2 : (Jvm.Cond.code ({ cls := "java/lang/Object", name := "<init>", desc := "()V" } : Jvm.MethodName) object_method_1_code (1 : Nat) (Option.none : Option Jvm.ClassFile.FieldType)).before args0 about1 = true := code_word (m := ⟨0, 0⟩) (meth := k0m0) (c := k0c0) (by decide +kernel) rfl rfl rfl (by decide +kernel)
set_option maxRecDepth 65536 in
theorem w_c3 : (Jvm.Cond.code ({ cls := "org/jutewire/bind/Referents", name := "seek", desc := "(I)I" } : Jvm.MethodName) prog_46_method_5_code (2 : Nat) (Option.some Jvm.ClassFile.FieldType.int)).before args0 about1 = true := code_word (m := ⟨2, 1⟩) (meth := k2m1) (c := k2c1) (by decide +kernel) rfl rfl rfl (by decide +kernel)
set_option maxRecDepth 65536 in
theorem w_c4 : (Jvm.Cond.code ({ cls := "org/jutewire/bind/ReferentsSeekPinLaw", name := "expect", desc := "(II)I" } : Jvm.MethodName) method_2_code (2 : Nat) (Option.some Jvm.ClassFile.FieldType.int)).before args0 about1 = true := code_word (m := ⟨1, 1⟩) (meth := k1m1) (c := k1c1) (by decide +kernel) rfl rfl rfl (by decide +kernel)
set_option maxRecDepth 65536 in
theorem w_c5 : (Jvm.Cond.code ({ cls := "org/jutewire/bind/ReferentsSeekPinLaw", name := "advance", desc := "(II)I" } : Jvm.MethodName) method_3_code (2 : Nat) (Option.some Jvm.ClassFile.FieldType.int)).before args0 about1 = true := code_word (m := ⟨1, 2⟩) (meth := k1m2) (c := k1c2) (by decide +kernel) rfl rfl rfl (by decide +kernel)
def codes1 : List Jvm.Cond := [Jvm.Cond.code x code maxLocals ret, Jvm.Cond.code ({ cls := "org/jutewire/bind/Referents", name := "<init>", desc := "()V" } : Jvm.MethodName) prog_46_method_1_code (1 : Nat) (Option.none : Option Jvm.ClassFile.FieldType), Jvm.Cond.code ({ cls := "java/lang/Object", name := "<init>", desc := "()V" } : Jvm.MethodName) object_method_1_code (1 : Nat) (Option.none : Option Jvm.ClassFile.FieldType), Jvm.Cond.code ({ cls := "org/jutewire/bind/Referents", name := "seek", desc := "(I)I" } : Jvm.MethodName) prog_46_method_5_code (2 : Nat) (Option.some Jvm.ClassFile.FieldType.int), Jvm.Cond.code ({ cls := "org/jutewire/bind/ReferentsSeekPinLaw", name := "expect", desc := "(II)I" } : Jvm.MethodName) method_2_code (2 : Nat) (Option.some Jvm.ClassFile.FieldType.int), Jvm.Cond.code ({ cls := "org/jutewire/bind/ReferentsSeekPinLaw", name := "advance", desc := "(II)I" } : Jvm.MethodName) method_3_code (2 : Nat) (Option.some Jvm.ClassFile.FieldType.int)]
set_option maxRecDepth 65536 in
theorem codes_eq : words1.filter isCode = codes1 := rfl
theorem w_codes : ∀ c ∈ words1.filter isCode, c.before args0 about1 = true := by
  rw [codes_eq]
  intro c hc
  simp only [codes1, List.mem_cons, List.not_mem_nil, or_false] at hc
  rcases hc with rfl | rfl | rfl | rfl | rfl | rfl
  · exact w_c0
  · exact w_c1
  · exact w_c2
  · exact w_c3
  · exact w_c4
  · exact w_c5
set_option maxRecDepth 65536 in
theorem w_t1 : (words1.take 24).all (fun c => isCode c || c.before args0 about1) = true := by decide +kernel
set_option maxRecDepth 65536 in
theorem w_t2 : (words1.drop 24).all (fun c => isCode c || c.before args0 about1) = true := by decide +kernel
theorem w_tables : (allAtoms (Jvm.Cond.code x code maxLocals ret :: tables_1)).before args0 about1 = true := by
  rw [allAtoms_all]
  show words1.all (fun c => c.before args0 about1) = true
  refine all_split ?_ w_codes
  rw [← List.take_append_drop 24 words1, List.all_append, w_t1, w_t2]
  rfl
set_option maxRecDepth 65536 in
theorem w_case : (Jvm.Cond.and given_1 narrow_1).before args0 about1 = true := by decide +kernel
theorem w_applies : (headSpec (Jvm.Cond.code x code maxLocals ret :: tables_1) room_1).applies x e0.platform about1 = true :=
  (Spec.applies_iff w_frames).mpr ⟨w_running, w_runnable, w_alone, w_named, w_hears, w_ripe, w_room, w_tables⟩
theorem atStart : AtStart classFile x code maxLocals ret World_1 tables_1 room_1 Calls_1 rest_1 Pre_1 launch0 p0 e0 about1 theMethod args0 below0 :=
  ⟨lists_1, trivial, launch0.admits_env _ _ _, launch0.least_env, fairChoices_fair.cas, fairChoices_fair.clock, w_frames, w_args, w_heap, w_applies, trivial, trivial, w_case⟩
end start1
theorem witness_1 : WitnessClaimed_1 := ⟨start1.p0, start1.e0, start1.about1, start1.theMethod, start1.args0, start1.below0, start1.atStart⟩
end Jvm.Pilot.@@N@@
