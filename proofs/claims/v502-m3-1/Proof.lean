import JvmDerived
import JvmDerived.Pilot.@@N@@Statement
import JvmDerived.Pilot.@@N@@Code
set_option linter.unusedVariables false
set_option linter.unusedSimpArgs false
namespace Jvm.RoadKit
open Sem ClassFile Op Lib Jvm.Stand Jvm.Free Jvm.LawKit
section New
variable {p : Program} {l : Launch} {e : Env} {R : Room} {s : State} {m : MethodId} {args : Array Value} {below : List Frame} {meth : Method} {c : Code} {T : State} {locs : List Loc} {cells slots : Nat}
theorem retI (X : Stand p l e R s m args below meth c T locs cells slots) (hx : p.tables.exec = Jvm.exec) {pc : Nat} {Ls : Array Slot} {z : Int32} {rest : List Value} (hret : meth.sig.returnType = some .int) (hd : decode c.code pc = .ok (.ireturn, 1)) {fs : List Frame}
    (hl : ∀ (f : JFrame) (acts : List Action), f.method = m → f.locked = none → f.entered = [] → (doReturn e (T.setTop f) acts (some (.int z))).1 = T.setFrames fs) : Steps p.tables e below (T.setTop (mkF m pc Ls (.int z :: rest))) (T.setFrames fs) := by
  have hm' : T.vm.method? m = some meth := X.method'
  have hn : narrow .int (.int z) = .int z := rfl
  show Steps p.tables e below (T.setTop { method := m, pc := pc, locals := Ls, stack := _ :: rest, locked := none }) _
  jvm_step X.here [X.here.top, hx, hd, hm', hret, hn]
  first | (intro acts; rw [hl _ acts rfl rfl rfl]) | rw [hl _ _ rfl rfl rfl]
  exact Steps.refl _
end New
end Jvm.RoadKit
namespace Jvm.Pilot.@@N@@
open Jvm Jvm.ClassFile Sem Op Lib Jvm.Free Jvm.Stand Jvm.LawKit Jvm.RoadKit Bundle Jvm.Pilot.@@N@@.Jvm.D
section Own
variable {p : Program} {l : Launch} {e : Env} {R : Room} {s : State} {m : MethodId} {args : Array Value} {below : List Frame} {meth : Method} {c : Code} {T : State} {locs : List Loc} {k j : Nat} {Z : State} {a0 : Array Value} {h : Heap}
/-- the run that stands at g goes on to an end as Q says -/
def own_E (p : Program) (e : Env) (below : List Frame) (Q : Outcome → State → Prop) (T : State) (g : JFrame) : Prop :=
  ∃ s₂ o, Steps p.tables e below (T.setTop g) s₂ ∧ s₂.status = .running ∧ Ended s₂ below o ∧ Q o s₂
/-- an end as a contract's Qr says, with so many cells and slots at the most -/
def own_Q (s : State) (Qr : Option Value → Heap → List Loc → Prop) (k j : Nat) (o : Outcome) (U : State) : Prop := ∃ v L, o = .returned v ∧ Qr v U.heap L ∧ FrameEnd s o U L k j
/-- a contract of a method at these arguments and this heap -/
def own_M (l : Launch) (Z : State) (y : MethodName) (bytes : ByteArray) (maxL : Nat) (ret : Option FieldType) (rm : Room) (as' : Array Value) (h : Heap) (Qr : Option Value → Heap → List Loc → Prop) : Prop :=
  ∀ ws : List Jvm.Cond, MetFree l y (head1 (Jvm.Cond.code y bytes maxL ret :: ws) rm) (fun a U => a = as' ∧ Z.Warmed39 U.vm ∧ U.heap = h) (fun _ _ _ _ _ => True) (fun _ U o U' => ∃ v L, o = .returned v ∧ Qr v U'.heap L ∧ FrameEnd U o U' L rm.cells rm.slots)
theorem own_st {Q : Outcome → State → Prop} {T' : State} {g g' : JFrame} (hs : ∀ t, Steps p.tables e below (T'.setTop g') t → Steps p.tables e below (T.setTop g) t) (k : own_E p e below Q T' g') : own_E p e below Q T g := by
  obtain ⟨s₂, o, h1, h2, h3, h4⟩ := k
  exact ⟨s₂, o, hs _ h1, h2, h3, h4⟩
theorem own_sy {Q : Outcome → State → Prop} {T' : State} {g g' : JFrame} (hs : Steps p.tables e below (T.setTop g) (T'.setTop g')) (k : own_E p e below Q T' g') : own_E p e below Q T g := by
  obtain ⟨s₂, o, h1, h2, h3, h4⟩ := k
  exact ⟨s₂, o, hs.trans h1, h2, h3, h4⟩
theorem own_bodyF {y : MethodName} {bytes : ByteArray} {maxL : Nat} {ret : Option FieldType} {rm : Room} {as' : Array Value} {Qr : Option Value → Heap → List Loc → Prop} (hp : plainFor y = true)
    (body : ∀ (p : Program) (e : Env) (s : State) (m : MethodId) (below : List Frame) (meth : Method) (c : Code) (T : State), p.tables.exec = Jvm.exec → c.code = bytes → c.maxLocals = maxL → s.vm.findClass y.cls = some m.cls → Z.Warmed39 s.vm → meth.sig.returnType = ret → meth.locks = false → meth.name = y.name →
      Stand p l e rm s m as' below meth c T [] 0 0 → T.heap = h → own_E p e below (own_Q s Qr rm.cells rm.slots) T (entryFrame m as' maxL)) : own_M l Z y bytes maxL ret rm as' h Qr := by
  intro ws
  refine MetFree.of_bodySF hp hisR ?_
  intro p e s m args below meth c s₁ Bd hml0 hP hK
  obtain ⟨rfl, hZ, hh⟩ := hP
  exact body p e s m below meth c s₁ Bd.exec Bd.bytes hml0 (findClass_of_methodNamed Bd.named) hZ Bd.returns Bd.notSynchronized (name_of_methodNamed Bd.named Bd.method).1 (Stand.of_body Bd) (by rw [← hh, Bd.state]; rfl)
theorem own_body {y : MethodName} {bytes : ByteArray} {maxL : Nat} {ret : Option FieldType} {rm : Room} {as' : Array Value} {Qr : Option Value → Heap → List Loc → Prop} (hp : plainName y.cls = true)
    (body : ∀ (p : Program) (e : Env) (s : State) (m : MethodId) (below : List Frame) (meth : Method) (c : Code) (T : State), p.tables.exec = Jvm.exec → c.code = bytes → c.maxLocals = maxL → s.vm.findClass y.cls = some m.cls → Z.Warmed39 s.vm → meth.sig.returnType = ret → meth.locks = false → meth.name = y.name →
      Stand p l e rm s m as' below meth c T [] 0 0 → T.heap = h → own_E p e below (own_Q s Qr rm.cells rm.slots) T (entryFrame m as' maxL)) : own_M l Z y bytes maxL ret rm as' h Qr := own_bodyF (plainFor_of_name hp) body
theorem own_retN {Qr : Option Value → Heap → List Loc → Prop} {kk jj pc : Nat} {Ls : Array Slot} {z : Int32} {t : FieldType} {rest : List Value} (X : Stand p l e R s m args below meth c T locs k j) (hx : p.tables.exec = Jvm.exec) (hlk : meth.locks = false) (hret : meth.sig.returnType = some t) (ht : t = .boolean ∨ t = .byte ∨ t = .char ∨ t = .short)
    (hd : decode c.code pc = .ok (.ireturn, 1)) (hk : k ≤ kk) (hj : j ≤ jj) (hq : Qr (some (.int (nar t z))) T.heap locs) : own_E p e below (own_Q s Qr kk jj) T (mkF m pc Ls (.int z :: rest)) := by
  obtain ⟨fs, hr, hrun, hended, hW, hsame⟩ := X.leave (v := some (.int (nar t z))) (fun q => by rw [hret] at q; cases q) hlk
  exact ⟨_, _, retN X hx hret ht hd hr, hrun, hended, _, _, rfl, hq, ⟨_, rfl⟩, hW, hsame.mono hk hj⟩
theorem own_retI {Qr : Option Value → Heap → List Loc → Prop} {kk jj pc : Nat} {Ls : Array Slot} {z : Int32} {rest : List Value} (X : Stand p l e R s m args below meth c T locs k j) (hx : p.tables.exec = Jvm.exec) (hlk : meth.locks = false) (hret : meth.sig.returnType = some .int)
    (hd : decode c.code pc = .ok (.ireturn, 1)) (hk : k ≤ kk) (hj : j ≤ jj) (hq : Qr (some (.int z)) T.heap locs) : own_E p e below (own_Q s Qr kk jj) T (mkF m pc Ls (.int z :: rest)) := by
  obtain ⟨fs, hr, hrun, hended, hW, hsame⟩ := X.leave (v := some (.int z)) (fun q => by rw [hret] at q; cases q) hlk
  exact ⟨_, _, retI X hx hret hd hr, hrun, hended, _, _, rfl, hq, ⟨_, rfl⟩, hW, hsame.mono hk hj⟩
theorem own_retJ {Qr : Option Value → Heap → List Loc → Prop} {kk jj pc : Nat} {Ls : Array Slot} {z : Int64} (X : Stand p l e R s m args below meth c T locs k j) (hx : p.tables.exec = Jvm.exec) (hlk : meth.locks = false) (hret : meth.sig.returnType = some .long)
    (hd : decode c.code pc = .ok (.lreturn, 1)) (hk : k ≤ kk) (hj : j ≤ jj) (hq : Qr (some (.long z)) T.heap locs) : own_E p e below (own_Q s Qr kk jj) T (mkF m pc Ls [.long z]) := by
  obtain ⟨fs, hr, hrun, hended, hW, hsame⟩ := X.leave (v := some (.long z)) (fun q => by rw [hret] at q; cases q) hlk
  exact ⟨_, _, X.lreturnOut hx hret hd hr, hrun, hended, _, _, rfl, hq, ⟨_, rfl⟩, hW, hsame.mono hk hj⟩
theorem own_retV {Qr : Option Value → Heap → List Loc → Prop} {kk jj pc : Nat} {Ls : Array Slot} (X : Stand p l e R s m args below meth c T locs k j) (hx : p.tables.exec = Jvm.exec) (hlk : meth.locks = false) (hret : meth.sig.returnType = none)
    (hd : decode c.code pc = .ok (.return_, 1)) (hk : k ≤ kk) (hj : j ≤ jj) (hq : Qr none T.heap locs) : own_E p e below (own_Q s Qr kk jj) T (mkF m pc Ls []) := by
  obtain ⟨fs, hr, hrun, hended, hW, hsame⟩ := X.leave (v := none) (fun _ => rfl) hlk
  exact ⟨_, _, X.returnOut hx hret hd hr, hrun, hended, _, _, rfl, hq, ⟨_, rfl⟩, hW, hsame.mono hk hj⟩
theorem own_retA {Qr : Option Value → Heap → List Loc → Prop} {kk jj pc : Nat} {Ls : Array Slot} {z : Value} {t : FieldType} {rest : List Value} (X : Stand p l e R s m args below meth c T locs k j) (hx : p.tables.exec = Jvm.exec) (hlk : meth.locks = false) (hret : meth.sig.returnType = some t) (ht : t.isReference = true) (hz : z.isRef = true) (hn : narrow t z = z)
    (hd : decode c.code pc = .ok (.areturn, 1)) (hk : k ≤ kk) (hj : j ≤ jj) (hq : Qr (some z) T.heap locs) : own_E p e below (own_Q s Qr kk jj) T (mkF m pc Ls (z :: rest)) := by
  obtain ⟨fs, hr, hrun, hended, hW, hsame⟩ := X.leave (v := some z) (fun q => by rw [hret] at q; cases q) hlk
  exact ⟨_, _, retOut X hx hret hn (Or.inr (Or.inr (Or.inr (Or.inr ⟨rfl, ht, hz⟩)))) hd hr, hrun, hended, _, _, rfl, hq, ⟨_, rfl⟩, hW, hsame.mono hk hj⟩
theorem own_callS {own : String} {index : Nat} {y : MethodName} {bytes : ByteArray} {maxL W : Nat} {ret : Option FieldType} {rm : Room} {Qr : Option Value → Heap → List Loc → Prop} {Q : Outcome → State → Prop} {g : JFrame} {argsL rest : List Value}
    (X : Stand p l e R s m args below meth c T locs k j) (hx : p.tables.exec = Jvm.exec) (hZ : Z.Warmed39 s.vm) (hown : s.vm.findClass own = some m.cls) (wl : (Cond.methodLink own index y).before a0 Z = true) (wst : (Cond.static y).before a0 Z = true) (wi : (Cond.initialized y.cls).before a0 Z = true) (wc : (Cond.code y bytes maxL ret).before a0 Z = true)
    (hy : y.cls ≠ "java/lang/invoke/MethodHandle" ∧ y.cls ≠ "java/lang/invoke/VarHandle") (hM : own_M l Z y bytes maxL ret rm argsL.toArray T.heap Qr) (hf : rm.frames + 1 ≤ R.frames) (hl : W + (maxL + 11) + rm.locals ≤ R.locals) (hck : k + rm.cells ≤ R.cells) (hcj : j + rm.slots ≤ R.slots)
    (hg : g.method = m) (hsize : g.locals.size = c.maxLocals) (hlen : ∀ sig, parseMethodDescriptor y.desc = some sig → argsL.length = sig.parameters.length) (hstack : g.stack = argsL.reverse ++ rest) (hW : 2 * g.monitorRoom + (rest.map fun v => v.category).sum ≤ W) (hdg : decode c.code g.pc = .ok (.invokestatic index, 3))
    (K : ∀ (T' : State) (L : List Loc) (v : Option Value), Stand p l e R s m args below meth c T' (locs ++ L) (k + rm.cells) (j + rm.slots) → Qr v T'.heap L → own_E p e below Q T' { g with pc := g.pc + 3, stack := v.toList ++ rest }) : own_E p e below Q T g := by
  obtain ⟨v, vm1, ⟨T', L', k', j'⟩, -, X', ⟨Lc, hQ, l', y', z'⟩, st⟩ := Jvm.LawKit.callS X hx (y := y) hown (mvT hZ wl) (mvT hZ wst) (mvT hZ wi) (mvT hZ wc) hy (backOf (W := W) (hM []) hZ wc wi hf hl) hg hsize hlen hstack hW hdg (fun _ _ => ⟨rfl, rfl, hck, hcj⟩)
  dsimp only [Pt.U, Pt.locs, Pt.cells, Pt.slots] at X' l' y' z' st hQ
  subst l' y' z'
  exact own_st st (K _ _ _ X' hQ)
theorem own_tr {P : Heap → Prop} {h h' : Heap} (q : h' = h) (i : P h) : P h' := q ▸ i
theorem own_pop2L {tb : Tables} [Ours tb] {target : State} {g : JFrame} (h : At T m c below) (hx : tb.exec = Jvm.exec) (hg : g.method = m) {x : Int64} {rest : List Value} (hd : decode c.code g.pc = .ok (.pop2, 1)) (hs : g.stack = .long x :: rest)
    (hr : Steps tb e below (T.setTop { g with pc := g.pc + 1, stack := rest }) target) : Steps tb e below (T.setTop g) target := by
  subst hg
  jvm_step h [h.top, hx, hd, hs]
  exact hr
theorem own_callC {own : String} {index : Nat} {y : MethodName} {bytes : ByteArray} {maxL W : Nat} {rm : Room} {Qr : Option Value → Heap → List Loc → Prop} {Q : Outcome → State → Prop} {g : JFrame} {a : Addr} {argsL rest : List Value}
    (X : Stand p l e R s m args below meth c T locs k j) (hx : p.tables.exec = Jvm.exec) (hZ : Z.Warmed39 s.vm) (hy1 : y.name = "<init>") (hown : s.vm.findClass own = some m.cls) (wl : (Cond.methodLink own index y).before a0 Z = true) (wm : (Cond.instanceMethod y).before a0 Z = true) (wi : (Cond.initialized y.cls).before a0 Z = true) (wc : (Cond.code y bytes maxL none).before a0 Z = true)
    (hy : y.cls ≠ "java/lang/invoke/MethodHandle" ∧ y.cls ≠ "java/lang/invoke/VarHandle") (hM : own_M l Z y bytes maxL none rm (.ref a :: argsL).toArray T.heap Qr) (hf : rm.frames + 1 ≤ R.frames) (hl : W + (maxL + 11) + rm.locals ≤ R.locals) (hck : k + rm.cells ≤ R.cells) (hcj : j + rm.slots ≤ R.slots)
    (hg : g.method = m) (hsize : g.locals.size = c.maxLocals) (hlen : ∀ sig, parseMethodDescriptor y.desc = some sig → argsL.length = sig.parameters.length) (hstack : g.stack = argsL.reverse ++ .ref a :: rest) (hW : 2 * g.monitorRoom + (rest.map fun v => v.category).sum ≤ W) (hdg : decode c.code g.pc = .ok (.invokespecial index, 3))
    (K : ∀ (T' : State) (L : List Loc) (v : Option Value), Stand p l e R s m args below meth c T' (locs ++ L) (k + rm.cells) (j + rm.slots) → Qr v T'.heap L → own_E p e below Q T' { g with pc := g.pc + 3, stack := v.toList ++ rest }) : own_E p e below Q T g := by
  obtain ⟨v, vm1, ⟨T', L', k', j'⟩, -, X', ⟨Lc, hQ, l', y', z'⟩, st⟩ := X.specialBack hx (y := y) hy1 hown (mvT hZ wl) (mvT hZ wm) (mvT hZ wc) hy (backOf (W := W) (hM []) hZ wc wi hf hl) hg hsize (Steps.refl _) (a := a) hlen hstack hW hdg (fun _ _ => ⟨rfl, rfl, hck, hcj⟩)
  dsimp only [Pt.U, Pt.locs, Pt.cells, Pt.slots] at X' l' y' z' st hQ
  subst l' y' z'
  exact own_sy st (K _ _ _ X' hQ)
theorem own_callV {own : String} {index : Nat} {y : MethodName} {bytes : ByteArray} {maxL W : Nat} {ret : Option FieldType} {rm : Room} {Qr : Option Value → Heap → List Loc → Prop} {Q : Outcome → State → Prop} {g : JFrame} {a : Addr} {argsL rest : List Value}
    (X : Stand p l e R s m args below meth c T locs k j) (hx : p.tables.exec = Jvm.exec) (hZ : Z.Warmed39 s.vm) (hown : s.vm.findClass own = some m.cls) (wl : (Cond.methodLink own index y).before a0 Z = true) (wd : (Cond.declares y).before a0 Z = true) (wsel : (Cond.selects y.cls y y).before a0 Z = true) (wm : (Cond.instanceMethod y).before a0 Z = true) (wi : (Cond.initialized y.cls).before a0 Z = true) (wc : (Cond.code y bytes maxL ret).before a0 Z = true)
    (hy : y.cls ≠ "java/lang/invoke/MethodHandle" ∧ y.cls ≠ "java/lang/invoke/VarHandle") (E : Exa Z T.heap a y.cls) (hM : own_M l Z y bytes maxL ret rm (.ref a :: argsL).toArray T.heap Qr) (hf : rm.frames + 1 ≤ R.frames) (hl : W + (maxL + 11) + rm.locals ≤ R.locals) (hck : k + rm.cells ≤ R.cells) (hcj : j + rm.slots ≤ R.slots)
    (hg : g.method = m) (hsize : g.locals.size = c.maxLocals) (hlen : ∀ sig, parseMethodDescriptor y.desc = some sig → argsL.length = sig.parameters.length) (hstack : g.stack = argsL.reverse ++ .ref a :: rest) (hW : 2 * g.monitorRoom + (rest.map fun v => v.category).sum ≤ W) (hdg : decode c.code g.pc = .ok (.invokevirtual index, 3))
    (K : ∀ (T' : State) (L : List Loc) (v : Option Value), Stand p l e R s m args below meth c T' (locs ++ L) (k + rm.cells) (j + rm.slots) → Qr v T'.heap L → own_E p e below Q T' { g with pc := g.pc + 3, stack := v.toList ++ rest }) : own_E p e below Q T g := by
  obtain ⟨cB, kB, qa, qb, qc⟩ := isOf (T := T) hZ rfl E
  obtain ⟨v, vm1, ⟨T', L', k', j'⟩, -, X', ⟨Lc, hQ, l', y', z'⟩, st⟩ := X.virtualBack hx (y := y) (z := y) hown (mvT hZ wl) (mvT hZ wd) (notFace_of_selects (args := #[]) (mvT hZ wsel)) (mvT hZ wsel) (mvT hZ wm) hy (backOf (W := W) (hM []) hZ wc wi hf hl) qa qc hg hsize (Steps.refl _) hlen hstack hW hdg (fun _ _ => ⟨rfl, rfl, hck, hcj⟩)
  dsimp only [Pt.U, Pt.locs, Pt.cells, Pt.slots] at X' l' y' z' st hQ
  subst l' y' z'
  exact own_sy st (K _ _ _ X' hQ)
theorem own_sel {y z : MethodName} (h : (Cond.selects z.cls z z).before args s = true) (hc : y.cls = z.cls) (hpriv : s.PrivateAt y) (hinst : (Cond.instanceMethod y).before args s = true) (hy : y.cls ≠ "java/lang/invoke/MethodHandle" ∧ y.cls ≠ "java/lang/invoke/VarHandle") : (Cond.selects y.cls y y).before args s = true := by
  obtain ⟨c2, r2, m2, -, -, q3, -, kP, hkP, hkPi⟩ := Cond.selects_spec h
  exact Stand.selects_self_of_private (by rw [hc]; exact findClass_of_methodNamed q3) hkP hkPi hpriv hinst hy
theorem own_callP {own : String} {index : Nat} {y z : MethodName} {bytes : ByteArray} {maxL W : Nat} {ret : Option FieldType} {rm : Room} {Qr : Option Value → Heap → List Loc → Prop} {Q : Outcome → State → Prop} {g : JFrame} {a : Addr} {argsL rest : List Value}
    (X : Stand p l e R s m args below meth c T locs k j) (hx : p.tables.exec = Jvm.exec) (hZ : Z.Warmed39 s.vm) (hown : s.vm.findClass own = some m.cls) (wl : (Cond.methodLink own index y).before a0 Z = true) (wsel : (Cond.selects z.cls z z).before a0 Z = true) (hc : y.cls = z.cls) (wp : (Cond.privateMethod y).before a0 Z = true) (wm : (Cond.instanceMethod y).before a0 Z = true) (wi : (Cond.initialized y.cls).before a0 Z = true) (wc : (Cond.code y bytes maxL ret).before a0 Z = true)
    (hy : y.cls ≠ "java/lang/invoke/MethodHandle" ∧ y.cls ≠ "java/lang/invoke/VarHandle") (E : Exa Z T.heap a y.cls) (hM : own_M l Z y bytes maxL ret rm (.ref a :: argsL).toArray T.heap Qr) (hf : rm.frames + 1 ≤ R.frames) (hl : W + (maxL + 11) + rm.locals ≤ R.locals) (hck : k + rm.cells ≤ R.cells) (hcj : j + rm.slots ≤ R.slots)
    (hg : g.method = m) (hsize : g.locals.size = c.maxLocals) (hlen : ∀ sig, parseMethodDescriptor y.desc = some sig → argsL.length = sig.parameters.length) (hstack : g.stack = argsL.reverse ++ .ref a :: rest) (hW : 2 * g.monitorRoom + (rest.map fun v => v.category).sum ≤ W) (hdg : decode c.code g.pc = .ok (.invokevirtual index, 3))
    (K : ∀ (T' : State) (L : List Loc) (v : Option Value), Stand p l e R s m args below meth c T' (locs ++ L) (k + rm.cells) (j + rm.slots) → Qr v T'.heap L → own_E p e below Q T' { g with pc := g.pc + 3, stack := v.toList ++ rest }) : own_E p e below Q T g := by
  obtain ⟨cq, q1, q2⟩ := E.cell
  have hpr := Cond.privateMethod_at (mvP hZ wp (args := args))
  obtain ⟨v, vm1, ⟨T', L', k', j'⟩, -, X', ⟨Lc, hQ, l', y', z'⟩, st⟩ := X.privateBack hx (y := y) hown (mvT hZ wl) (mvT hZ wm) (own_sel (z := z) (mvT hZ wsel) hc hpr (mvT hZ wm) hy) hpr (mvT hZ wc) hy (backOf (W := W) (hM []) hZ wc wi hf hl) hg hsize (Steps.refl _) (a := a) q1 q2 hlen hstack hW hdg (fun _ _ => ⟨rfl, rfl, hck, hcj⟩)
  dsimp only [Pt.U, Pt.locs, Pt.cells, Pt.slots] at X' l' y' z' st hQ
  subst l' y' z'
  exact own_sy st (K _ _ _ X' hQ)
end Own
def own_ok (Z : State) (h : Heap) (v : Value) : Prop := v = .null ∨ ∃ y, v = .ref y ∧ Ins Z h y "java/lang/Object" true
def own_upd (f : Nat → Value) (i : Nat) (x : Value) : Nat → Value := fun j => if j = i then x else f j
def own_cp (len : Int32) (f : Nat → Value) : Nat → Value := fun i => if i < len.toNatClampNeg then f i else .null
/-- at b lies an Object[len] that holds f's values -/
def own_R (Z : State) (h : Heap) (b : Addr) (len : Int32) (f : Nat → Value) : Prop := ¬ len < 0 ∧ Exa Z h b "[Ljava/lang/Object;" ∧ ∃ cl : Cell, Arr Z h b cl (.object "java/lang/Object") ∧ Ovr Z cl.cls "java/lang/Object" ∧ cl.slots.size = len.toNatClampNeg ∧ ∀ i, i < len.toNatClampNeg → cl.slots[i]? = some (f i) ∧ own_ok Z h (f i)
/-- at a lies a Referents whose array lies at b; u: what the static UNREAD holds; va, vb: two values that may be kept -/
def own_J (Z : State) (n0 : Nat) (h : Heap) (a b u : Addr) (va vb : Value) (count len : Int32) (f : Nat → Value) : Prop :=
  n0 ≤ a ∧ n0 ≤ b ∧ a ≠ b ∧ Exa Z h a "org/jutewire/bind/Referents" ∧ Fld Z h a "org/jutewire/bind/Referents" "values" "[Ljava/lang/Object;" (.ref b) ∧ Fld Z h a "org/jutewire/bind/Referents" "count" "I" (.int count) ∧ Sta Z h "org/jutewire/bind/Referents" "UNREAD" "Ljava/lang/Object;" (.ref u) ∧ own_ok Z h (.ref u) ∧ own_ok Z h va ∧ own_ok Z h vb ∧ own_R Z h b len f
def own_I (Z : State) (n0 : Nat) (h : Heap) (a u : Addr) (va vb : Value) (count len : Int32) (f : Nat → Value) : Prop := ∃ b, own_J Z n0 h a b u va vb count len f
/-- ahead of the Referents -/
def own_P (Z : State) (n0 : Nat) (h : Heap) (u : Addr) (va vb : Value) : Prop := n0 ≤ h.size ∧ Sta Z h "org/jutewire/bind/Referents" "UNREAD" "Ljava/lang/Object;" (.ref u) ∧ own_ok Z h (.ref u) ∧ own_ok Z h va ∧ own_ok Z h vb
/-- a new Referents, its constructor not yet run -/
def own_N (Z : State) (n0 : Nat) (h : Heap) (a u : Addr) (va vb : Value) : Prop := n0 ≤ a ∧ Exa Z h a "org/jutewire/bind/Referents" ∧ Fld Z h a "org/jutewire/bind/Referents" "values" "[Ljava/lang/Object;" .null ∧ Fld Z h a "org/jutewire/bind/Referents" "count" "I" (.int 0) ∧ own_P Z n0 h u va vb
/-- count and length of the array -/
def own_cl (c l : Int32) : Prop := 0 ≤ c.toInt ∧ c.toInt ≤ l.toInt ∧ (l = 16 ∨ l = 32)
/-- the mirror of Object[] is made -/
def own_mir (Z : State) (mir : Addr) : Prop := ∃ (c : ClassId) (k : Class), Z.vm.findClass "[Ljava/lang/Object;" = some c ∧ Z.vm.classes[c]? = some k ∧ k.mirror = some mir
section OwnI
variable {p : Program} {l : Launch} {e : Env} {R : Room} {s : State} {m : MethodId} {args : Array Value} {below : List Frame} {meth : Method} {c : Code} {T : State} {locs : List Loc} {cells slots : Nat} {Z : State} {n0 : Nat} {h h' : Heap} {a b u : Addr} {va vb v w : Value} {count len : Int32} {f : Nat → Value} {a0 : Array Value}
theorem own_nn {x : Int32} (h : 0 ≤ x.toInt) : ¬ x < 0 := by rw [Int32.lt_iff_toInt_lt]; exact Int.not_lt.mpr h
theorem own_okref (q : own_ok Z h v) : v.isRef = true := by rcases q with rfl | ⟨y, rfl, -⟩ <;> rfl
theorem own_okext (E : Ext h h') (q : own_ok Z h v) : own_ok Z h' v := q.imp id fun ⟨y, e, i⟩ => ⟨y, e, i.ext E⟩
theorem own_okwr {sl : Nat} (W : Wr h h' a sl w) (q : own_ok Z h v) : own_ok Z h' v := q.imp id fun ⟨y, e, i⟩ => ⟨y, e, i.wr W⟩
theorem own_oksto {cl : Cell} (A : Arr Z h b cl (.object "java/lang/Object")) (O : Ovr Z cl.cls "java/lang/Object") (q : own_ok Z h v) : Sto Z h b v := by
  rcases q with rfl | ⟨y, rfl, i⟩
  · exact Or.inl rfl
  · exact Sto.of A O i
theorem own_Rext (E : Ext h h') (r : own_R Z h b len f) : own_R Z h' b len f := by obtain ⟨q, X, cl, A, O, S, V⟩ := r; exact ⟨q, X.ext E, cl, A.ext E, O, S, fun i hi => ⟨(V i hi).1, own_okext E (V i hi).2⟩⟩
theorem own_Rother {sl : Nat} (W : Wr h h' a sl w) (r : own_R Z h b len f) (ne : b ≠ a) : own_R Z h' b len f := by obtain ⟨q, X, cl, A, O, S, V⟩ := r; exact ⟨q, X.wr W, cl, A.other W ne, O, S, fun i hi => ⟨(V i hi).1, own_okwr W (V i hi).2⟩⟩
theorem own_Rlt (r : own_R Z h b len f) : b < h.size := r.2.1.lt
theorem own_Rnew {k : ClassId} {n : Int32} (q : ¬ n < 0) (A : Arr Z h a (newA k (.object "java/lang/Object") n) (.object "java/lang/Object")) (X : Exa Z h a "[Ljava/lang/Object;") (O : Ovr Z k "java/lang/Object") : own_R Z h a n (fun _ => .null) := by
  refine ⟨q, X, _, A, O, sz_new _ _ _, fun i hi => ⟨?_, Or.inl rfl⟩⟩
  show (Array.replicate n.toNatClampNeg Value.null)[i]? = some Value.null
  rw [Array.getElem?_replicate, if_pos hi]
theorem own_alen (X : Stand p l e R s m args below meth c T locs cells slots) (hx : p.tables.exec = Jvm.exec) (hZ : Z.Warmed39 s.vm) (r : own_R Z T.heap b len f)
    {g : JFrame} (hg : g.method = m) {rest : List Value} (hs : g.stack = .ref b :: rest) (hd : decode c.code g.pc = .ok (.arraylength, 1)) {target : State}
    (hr : Steps p.tables e below (T.setTop { g with pc := g.pc + 1, stack := .int len :: rest }) target) : Steps p.tables e below (T.setTop g) target := by
  obtain ⟨q, -, cl, A, O, S, V⟩ := r
  exact X.arraylength hx A.1 (State.isArrayOf_alike hZ.alike A.2.1) hg hs hd _ (by rw [len_of S q]; exact hr)
theorem own_aaload (X : Stand p l e R s m args below meth c T locs cells slots) (hx : p.tables.exec = Jvm.exec) (hZ : Z.Warmed39 s.vm) (r : own_R Z T.heap b len f) {j : Int32} (hj : ¬ j < 0 ∧ j < len)
    {g : JFrame} (hg : g.method = m) {rest : List Value} (hs : g.stack = .int j :: .ref b :: rest) (hd : decode c.code g.pc = .ok (.aaload, 1)) {target : State}
    (hr : Steps p.tables e below (T.setTop { g with pc := g.pc + 1, stack := f j.toNatClampNeg :: rest }) target) : Steps p.tables e below (T.setTop g) target := by
  obtain ⟨q, -, cl, A, O, S, V⟩ := r
  have hin := inb_of S hj
  exact X.aaload hx A.1 (State.isArrayOf_alike hZ.alike A.2.1) rfl A.2.2 hin (V _ (by rw [← S]; exact Nat.lt_of_not_le fun z => hin (Or.inr z))).1 hg hs hd _ hr
theorem own_Rok {j : Int32} (r : own_R Z h b len f) (hj : ¬ j < 0 ∧ j < len) : own_ok Z h (f j.toNatClampNeg) := by
  obtain ⟨q, -, cl, A, O, S, V⟩ := r
  have hin := inb_of S hj
  exact (V _ (by rw [← S]; exact Nat.lt_of_not_le fun z => hin (Or.inr z))).2
theorem own_Iex (I : own_I Z n0 h a u va vb count len f) : Exa Z h a "org/jutewire/bind/Referents" := by obtain ⟨b, J⟩ := I; exact J.2.2.2.1
theorem own_Jex (J : own_J Z n0 h a b u va vb count len f) : Exa Z h a "org/jutewire/bind/Referents" := J.2.2.2.1
theorem own_Jt (J : own_J Z n0 h a b u va vb count len f) : Fld Z h a "org/jutewire/bind/Referents" "values" "[Ljava/lang/Object;" (.ref b) := J.2.2.2.2.1
theorem own_Jg_count (J : own_J Z n0 h a b u va vb count len f) : Fld Z h a "org/jutewire/bind/Referents" "count" "I" (.int count) := J.2.2.2.2.2.1
theorem own_Jsta (J : own_J Z n0 h a b u va vb count len f) : Sta Z h "org/jutewire/bind/Referents" "UNREAD" "Ljava/lang/Object;" (.ref u) := J.2.2.2.2.2.2.1
theorem own_Joku (J : own_J Z n0 h a b u va vb count len f) : own_ok Z h (.ref u) := J.2.2.2.2.2.2.2.1
theorem own_Joka (J : own_J Z n0 h a b u va vb count len f) : own_ok Z h va := J.2.2.2.2.2.2.2.2.1
theorem own_Jokb (J : own_J Z n0 h a b u va vb count len f) : own_ok Z h vb := J.2.2.2.2.2.2.2.2.2.1
theorem own_Jokv (J : own_J Z n0 h a b u va vb count len f) (q : v = va ∨ v = vb) : own_ok Z h v := by rcases q with rfl | rfl; exact own_Joka J; exact own_Jokb J
theorem own_okv (I : own_I Z n0 h a u va vb count len f) (q : v = va ∨ v = vb) : v.isRef = true := by obtain ⟨b, J⟩ := I; exact own_okref (own_Jokv J q)
theorem own_Jna (J : own_J Z n0 h a b u va vb count len f) : n0 ≤ a := J.1
theorem own_Jnb (J : own_J Z n0 h a b u va vb count len f) : n0 ≤ b := J.2.1
theorem own_Jr (J : own_J Z n0 h a b u va vb count len f) : own_R Z h b len f := J.2.2.2.2.2.2.2.2.2.2
theorem own_Jsz (J : own_J Z n0 h a b u va vb count len f) : n0 ≤ h.size := Nat.le_of_lt (Nat.lt_of_le_of_lt J.1 J.2.2.2.1.lt)
theorem own_Jext (E : Ext h h') (J : own_J Z n0 h a b u va vb count len f) : own_J Z n0 h' a b u va vb count len f := by
  obtain ⟨q1, q2, q3, A, f1, f2, f3, o1, o2, o3, r⟩ := J
  exact ⟨q1, q2, q3, A.ext E, f1.ext E, f2.ext E, f3.ext E, own_okext E o1, own_okext E o2, own_okext E o3, own_Rext E r⟩
theorem own_aastore (X : Stand p l e R s m args below meth c T locs cells slots) (hx : p.tables.exec = Jvm.exec) (hZ : Z.Warmed39 s.vm) (J : own_J Z n0 T.heap a b u va vb count len f) {j : Int32} (hj : (¬ j < 0 ∧ j < len) ∧ own_ok Z T.heap v)
    {g : JFrame} (hg : g.method = m) {rest : List Value} (hs : g.stack = v :: .int j :: .ref b :: rest) (hd : decode c.code g.pc = .ok (.aastore, 1)) :
    ∃ T', Stand p l e R s m args below meth c T' (locs ++ [⟨b, j.toNatClampNeg⟩]) cells slots ∧ own_J Z n0 T'.heap a b u va vb count len (own_upd f j.toNatClampNeg v) ∧ ∀ target, Steps p.tables e below (T'.setTop { g with pc := g.pc + 1, stack := rest }) target → Steps p.tables e below (T.setTop g) target := by
  obtain ⟨q1, q2, q3, A, f1, f2, f3, o1, o2, o3, q, Xb, cl, Ar, O, S, V⟩ := J
  have hin := inb_of S hj.1
  have hlt : j.toNatClampNeg < cl.slots.size := Nat.lt_of_not_le fun z => hin (Or.inr z)
  obtain ⟨T', h', X', e', W', st⟩ := stR X hx hZ rfl Ar (j := j) hin rfl (own_oksto Ar O hj.2) hg hs hd
  subst e'
  refine ⟨T', X', ⟨q1, q2, q3, A.wr W', f1.other W' (Or.inl q3), f2.other W' (Or.inl q3), f3.wr W', own_okwr W' o1, own_okwr W' o2, own_okwr W' o3, q, Xb.wr W', _, Ar.same W', O, by rw [sz_set]; exact S, fun i hi => ?_⟩, st⟩
  show (cl.slots.setIfInBounds j.toNatClampNeg v)[i]? = some (if i = j.toNatClampNeg then v else f i) ∧ own_ok Z T'.heap (if i = j.toNatClampNeg then v else f i)
  rw [Array.getElem?_setIfInBounds]
  by_cases z : j.toNatClampNeg = i
  · subst z
    rw [if_pos rfl, if_pos rfl, if_pos hlt]
    exact ⟨rfl, own_okwr W' hj.2⟩
  · rw [if_neg z, if_neg (fun y => z y.symm)]
    exact ⟨(V i hi).1, own_okwr W' (V i hi).2⟩
theorem own_sV (hw : ∀ d ∈ tables_1, d.before a0 Z = true) : Jvm.RoadKit.slotOf Z "org/jutewire/bind/Referents" "count" "I" ≠ Jvm.RoadKit.slotOf Z "org/jutewire/bind/Referents" "values" "[Ljava/lang/Object;" := slot_ne (a0 := a0) (C := "org/jutewire/bind/Referents") (Or.inl (hw _ (List.mem_of_getElem? (i := 25) rfl))) (Or.inl (hw _ (List.mem_of_getElem? (i := 16) rfl))) (by decide) (t := .int) (t' := .array (.object "java/lang/Object")) (by decide) (by decide)
theorem own_Js_count {x : Int32} (hw : ∀ d ∈ tables_1, d.before a0 Z = true) (W : Wr h h' a (Jvm.RoadKit.slotOf Z "org/jutewire/bind/Referents" "count" "I") (.int x)) (J : own_J Z n0 h a b u va vb count len f) : own_J Z n0 h' a b u va vb x len f := by
  obtain ⟨q1, q2, q3, A, f1, f2, f3, o1, o2, o3, r⟩ := J
  exact ⟨q1, q2, q3, A.wr W, f1.other W (Or.inr (own_sV hw).symm), f2.same W, f3.wr W, own_okwr W o1, own_okwr W o2, own_okwr W o3, own_Rother W r q3.symm⟩
theorem own_Jnew {b' : Addr} {len' : Int32} {f' : Nat → Value} {N : Nat} (hw : ∀ d ∈ tables_1, d.before a0 Z = true) (W : Wr h h' a (Jvm.RoadKit.slotOf Z "org/jutewire/bind/Referents" "values" "[Ljava/lang/Object;") (.ref b')) (J : own_J Z n0 h a b u va vb count len f) (r' : own_R Z h b' len' f') (hN : a < N) (hb : N ≤ b') : own_J Z n0 h' a b' u va vb count len' f' := by
  obtain ⟨q1, q2, q3, A, f1, f2, f3, o1, o2, o3, r⟩ := J
  have ne : a ≠ b' := Nat.ne_of_lt (Nat.lt_of_lt_of_le hN hb)
  exact ⟨q1, Nat.le_trans q1 (Nat.le_of_lt (Nat.lt_of_lt_of_le hN hb)), ne, A.wr W, f1.same W, f2.other W (Or.inr (own_sV hw)), f3.wr W, own_okwr W o1, own_okwr W o2, own_okwr W o3, own_Rother W r' ne.symm⟩
theorem own_Pext (E : Ext h h') (I : own_P Z n0 h u va vb) : own_P Z n0 h' u va vb := ⟨Nat.le_trans I.1 E.1, I.2.1.ext E, own_okext E I.2.2.1, own_okext E I.2.2.2.1, own_okext E I.2.2.2.2⟩
theorem own_Inew (hw : ∀ d ∈ tables_1, d.before a0 Z = true) (q : n0 ≤ a) (A : Exa Z h a "org/jutewire/bind/Referents") (P : own_P Z n0 h u va vb) (D : ∀ {O nm d : String} {ty : FieldType}, Laid Z a0 "org/jutewire/bind/Referents" O nm d → parseFieldDescriptor d = some ty → Fld Z h a O nm d (defaultValue ty)) : own_N Z n0 h a u va vb :=
  ⟨q, A, D (Or.inl (hw _ (List.mem_of_getElem? (i := 16) rfl))) (ty := .array (.object "java/lang/Object")) (by decide), D (Or.inl (hw _ (List.mem_of_getElem? (i := 25) rfl))) (ty := .int) (by decide), P⟩
theorem own_Next (E : Ext h h') (I : own_N Z n0 h a u va vb) : own_N Z n0 h' a u va vb := by
  obtain ⟨q, A, f1, f2, P⟩ := I
  exact ⟨q, A.ext E, f1.ext E, f2.ext E, own_Pext E P⟩
end OwnI
theorem own_d16 : (16 : Int32).toInt = 16 := rfl
theorem own_d32 : (32 : Int32).toInt = 32 := rfl
theorem own_d1 : (1 : Int32).toInt = 1 := rfl
theorem own_d0 : (0 : Int32).toInt = 0 := rfl
theorem own_cll {c l : Int32} (h : own_cl c l) : 16 ≤ l.toInt ∧ l.toInt ≤ 32 := by
  obtain ⟨-, -, rfl | rfl⟩ := h
  · exact ⟨by decide, by decide⟩
  · exact ⟨by decide, by decide⟩
theorem own_add1 (x : Int32) (h : -1000 ≤ x.toInt ∧ x.toInt ≤ 1000) : (x + 1).toInt = x.toInt + 1 := by
  have := c_iadd x 1; have := rng32 (x + 1); have := own_d1; omega
theorem own_k0 {x count len : Int32} {v va vb : Value} (h : (0 ≤ x.toInt ∧ x.toInt ≤ 31 ∧ own_cl count len) ∧ (v = va ∨ v = vb)) (q : x < len) : (0 ≤ x.toInt ∧ x.toInt ≤ 31 ∧ own_cl count len ∧ x < len) ∧ (v = va ∨ v = vb) ∧ x.toInt - count.toInt < ((40 : Nat) : Int) ∧ 0 < 40 := by
  obtain ⟨⟨h1, h2, h3⟩, h4⟩ := h
  have := h3.1
  exact ⟨⟨h1, h2, h3, q⟩, h4, by omega, by decide⟩
theorem own_k2 {x count len : Int32} {v va vb : Value} {n : Nat} (h : (0 ≤ x.toInt ∧ x.toInt ≤ 31 ∧ own_cl count len ∧ x < len) ∧ (v = va ∨ v = vb) ∧ x.toInt - count.toInt < ((n + 1 : Nat) : Int) ∧ 0 < n + 1) (q : count < x) : (0 ≤ x.toInt ∧ x.toInt ≤ 31 ∧ own_cl (count + 1) len ∧ x < len) ∧ (v = va ∨ v = vb) ∧ x.toInt - (count + 1).toInt < (n : Int) ∧ 0 < n := by
  obtain ⟨⟨h1, h2, ⟨c1, c2, c3⟩, h4⟩, h5, h6, -⟩ := h
  have h4' := h4
  rw [Int32.lt_iff_toInt_lt] at q h4'
  have a := own_add1 count (by omega)
  exact ⟨⟨h1, h2, ⟨by omega, by omega, c3⟩, h4⟩, h5, by omega, by omega⟩
theorem own_k4 {x count len : Int32} {v va vb : Value} {n : Nat} (h : (0 ≤ x.toInt ∧ x.toInt ≤ 31 ∧ own_cl count len ∧ x < len) ∧ (v = va ∨ v = vb) ∧ x.toInt - count.toInt < ((n + 1 : Nat) : Int) ∧ 0 < n + 1) (q : count < x) : ¬ count < 0 ∧ count < len := by
  obtain ⟨⟨h1, h2, ⟨c1, c2, c3⟩, h4⟩, -⟩ := h
  refine ⟨own_nn c1, ?_⟩
  rw [Int32.lt_iff_toInt_lt] at *
  omega
theorem own_k5 {x count len : Int32} {v va vb : Value} {n : Nat} (h : (0 ≤ x.toInt ∧ x.toInt ≤ 31 ∧ own_cl count len ∧ x < len) ∧ (v = va ∨ v = vb) ∧ x.toInt - count.toInt < ((n + 1 : Nat) : Int) ∧ 0 < n + 1) : ¬ x < 0 ∧ x < len := ⟨own_nn h.1.1, h.1.2.2.2⟩
theorem own_g0 {x count len : Int32} (h : 0 ≤ x.toInt ∧ own_cl count len) (q : x < count) : ¬ x < 0 ∧ x < len := by
  obtain ⟨h1, c1, c2, c3⟩ := h
  refine ⟨own_nn h1, ?_⟩
  rw [Int32.lt_iff_toInt_lt] at *
  omega
theorem own_b0 (x y z : Int32) : 0 ≤ (x &&& (31 : Int32)).toInt ∧ (x &&& (31 : Int32)).toInt ≤ 31 ∧ 0 ≤ (y &&& (31 : Int32)).toInt ∧ (y &&& (31 : Int32)).toInt ≤ 31 ∧ 0 ≤ (z &&& (63 : Int32)).toInt := by
  have m1 : (x &&& (31 : Int32)).toInt = x.toInt % (2 ^ 5 : Nat) := c_mask x 31 5 (by decide) (by decide)
  have m2 : (y &&& (31 : Int32)).toInt = y.toInt % (2 ^ 5 : Nat) := c_mask y 31 5 (by decide) (by decide)
  have m3 : (z &&& (63 : Int32)).toInt = z.toInt % (2 ^ 6 : Nat) := c_mask z 63 6 (by decide) (by decide)
  omega
theorem own_b0n (x y : Int32) {z : Int32} (q : ¬ z < 0) : 0 ≤ (x &&& (31 : Int32)).toInt ∧ (x &&& (31 : Int32)).toInt ≤ 31 ∧ 0 ≤ (y &&& (31 : Int32)).toInt ∧ (y &&& (31 : Int32)).toInt ≤ 31 ∧ 0 ≤ z.toInt := by
  have := own_b0 x y 0
  rw [Int32.lt_iff_toInt_lt, own_d0] at q
  omega
theorem pn_2 : plainName "org/jutewire/bind/Referents" = true := by first | (simp [plainName, overriddenIn]; done) | decide +kernel
theorem pd_2 : parseMethodDescriptor "()V" = some ⟨[], none⟩ := by decide +kernel
theorem d2_0 : decode prog_46_method_1_code 0 = .ok (.aload_n 0, 1) := by decide +kernel
theorem d2_1 : decode prog_46_method_1_code 1 = .ok (.invokespecial 1, 3) := by decide +kernel
theorem d2_4 : decode prog_46_method_1_code 4 = .ok (.aload_n 0, 1) := by decide +kernel
theorem d2_5 : decode prog_46_method_1_code 5 = .ok (.bipush 16, 2) := by decide +kernel
theorem d2_7 : decode prog_46_method_1_code 7 = .ok (.anewarray 2, 3) := by decide +kernel
theorem d2_10 : decode prog_46_method_1_code 10 = .ok (.putfield 7, 3) := by decide +kernel
theorem d2_13 : decode prog_46_method_1_code 13 = .ok (.return_, 1) := by decide +kernel
theorem ef_2 (m : MethodId) (a : Addr) : entryFrame m #[(.ref a)] 1 = mkF m 0 #[.val (.ref a)] [] := by first | (simp [entryFrame, mkF, argsToLocals, Value.category, maxLocals]; done) | rfl
set_option maxRecDepth 65536 in
set_option maxHeartbeats 40000000 in
theorem rm2 (l : Launch) (Z : State) (a0 : Array Value) (hw : ∀ d ∈ tables_1, d.before a0 Z = true) (a u : Addr) (va vb : Value) (h0 : Heap) (n0 : Nat) (I : own_N Z n0 h0 a u va vb) :
    own_M l Z (⟨"org/jutewire/bind/Referents", "<init>", "()V"⟩ : MethodName) prog_46_method_1_code 1 none ({ frames := 1, cells := 1, slots := 16, locals := 20 } : Room) #[(.ref a)] h0 (fun v h L => v = none ∧ Fr n0 L ∧ own_I Z n0 h a u va vb 0 16 (fun _ => .null)) := by
  refine own_body pn_2 ?_
  intro p e s m below meth c T hx hby hml hown hZ hret hlk hnm X eT
  have N := Fr.nil n0
  replace I : own_N Z n0 T.heap a u va vb := by rw [eT]; exact I
  clear eT
  generalize hQ : own_Q s _ _ _ = Qq
  refine own_st (fun _ k => castTop (ef_2 m a) k) ?_
  show own_E p e below Qq T (mkF m 0 #[.val (.ref a)] [])
  refine own_st (fun _ => XS.aloadN X.here hx rfl (hb hby d2_0) rfl rfl) ?_
  show own_E p e below Qq T (mkF m 1 #[.val (.ref a)] [(.ref a)])
  obtain ⟨T1, X1, e1, st1⟩ := initO X hx hZ hown (hw _ (List.mem_of_getElem? (i := 12) rfl)) (hw _ (List.mem_of_getElem? (i := 4) rfl)) (hw _ (List.mem_of_getElem? (i := 5) rfl)) rfl (g := (mkF m 1 #[.val (.ref a)] [(.ref a)])) rfl (by rw [hml]; rfl) rfl (hb hby d2_1) (by decide) (W := 0) (by show 2 * 0 + _ ≤ _; exact Nat.le_of_eq rfl) (by decide)
  refine own_st st1 ?_
  replace I := own_tr (P := fun h => own_N Z n0 h a u va vb) e1 I
  show own_E p e below Qq T1 (mkF m 4 #[.val (.ref a)] [])
  refine own_st (fun _ => XS.aloadN X1.here hx rfl (hb hby d2_4) rfl rfl) ?_
  show own_E p e below Qq T1 (mkF m 5 #[.val (.ref a)] [(.ref a)])
  refine own_st (fun _ => XS.bipush X1.here hx rfl (hb hby d2_5)) ?_
  show own_E p e below Qq T1 (mkF m 7 #[.val (.ref a)] [(.int (16 : Int32)), (.ref a)])
  obtain ⟨T2, h2, k2, X2, e2, E2, A2, Z2, O2, st2⟩ := newRE X1 hx hZ hown (hw _ (List.mem_of_getElem? (i := 13) rfl)) (hw _ (List.mem_of_getElem? (i := 14) rfl)) rfl (g := (mkF m 7 #[.val (.ref a)] [(.int (16 : Int32)), (.ref a)])) rfl (hb hby d2_7) rfl (by decide) (cap := 16) (by decide) (by decide) (by decide) (by decide) (ad := "[Ljava/lang/Object;") (by decide)
  obtain ⟨b2, gb2⟩ : ∃ z, z = T1.heap.size := ⟨_, rfl⟩
  rw [← gb2] at A2 Z2 st2
  subst e2
  have la : a < b2 := by rw [gb2]; exact I.2.1.lt
  refine own_st st2 ?_
  replace I := own_Next E2 I
  have r2 : own_R Z T2.heap b2 16 (fun _ => .null) := own_Rnew (by decide) A2 Z2 O2
  show own_E p e below Qq T2 (mkF m 10 #[.val (.ref a)] [(.ref b2), (.ref a)])
  obtain ⟨q, A, f1, f2, P⟩ := I
  obtain ⟨T3, h3, X3, e3, W3, st3⟩ := putF X2 hx hZ hown (host := "") (Or.inl (hw _ (List.mem_of_getElem? (i := 15) rfl))) Via.refl rfl f1 A (Or.inl (hw _ (List.mem_of_getElem? (i := 16) rfl))) (hw _ (List.mem_of_getElem? (i := 7) rfl)) (ty := (.array (.object "java/lang/Object"))) (by decide) rfl rfl (g := (mkF m 10 #[.val (.ref a)] [(.ref b2), (.ref a)])) rfl rfl (hb hby d2_10)
  subst e3
  refine own_st st3 ?_
  replace N := Fr.snoc X3 N q
  have ne : a ≠ b2 := Nat.ne_of_lt la
  replace f1 := f1.same W3
  replace f2 := f2.other W3 (Or.inr (own_sV hw))
  replace A := A.wr W3
  replace r2 := own_Rother W3 r2 ne.symm
  obtain ⟨-, p1, p2, p3, p4⟩ := P
  show own_E p e below Qq T3 (mkF m 13 #[.val (.ref a)] [])
  rw [← hQ]
  exact own_retV X3 hx hlk hret (hb hby d2_13) (by decide) (by decide) ⟨rfl, N, b2, q, Nat.le_trans q (Nat.le_of_lt la), ne, A, f1, f2, p1.wr W3, own_okwr W3 p2, own_okwr W3 p3, own_okwr W3 p4, r2⟩
theorem pf_5 : plainFor (⟨"java/lang/Math", "max", "(II)I"⟩ : MethodName) = true := by decide +kernel
theorem pd_5 : parseMethodDescriptor "(II)I" = some ⟨[.int, .int], some .int⟩ := by decide +kernel
theorem d5_0 : decode jdk_29_method_65_code 0 = .ok (.iload_n 0, 1) := by decide +kernel
theorem d5_1 : decode jdk_29_method_65_code 1 = .ok (.iload_n 1, 1) := by decide +kernel
theorem d5_2 : decode jdk_29_method_65_code 2 = .ok (.if_icmp .lt 7, 3) := by decide +kernel
theorem d5_5 : decode jdk_29_method_65_code 5 = .ok (.iload_n 0, 1) := by decide +kernel
theorem d5_6 : decode jdk_29_method_65_code 6 = .ok (.goto 4, 3) := by decide +kernel
theorem d5_9 : decode jdk_29_method_65_code 9 = .ok (.iload_n 1, 1) := by decide +kernel
theorem d5_10 : decode jdk_29_method_65_code 10 = .ok (.ireturn, 1) := by decide +kernel
theorem ef_5 (m : MethodId) (p0 : Int32) (p1 : Int32) : entryFrame m #[(.int p0), (.int p1)] 2 = (mkF m 0 #[.val (.int p0), .val (.int p1)] []) := by first | (simp [entryFrame, mkF, argsToLocals, Value.category, maxLocals]; done) | rfl
def F5_10 (x0 : Int32) (x1 : Int32) (y2 : Int32) (u : Addr) : Int32 := y2
def F5_0 (x0 : Int32) (x1 : Int32) (u : Addr) : Int32 := (if x0 < x1 then (F5_10 x0 x1 x1 u) else (F5_10 x0 x1 x0 u))
set_option maxRecDepth 65536 in
set_option maxHeartbeats 40000000 in
theorem rm5 (l : Launch) (Z : State) (a0 : Array Value) (hw : ∀ d ∈ tables_1, d.before a0 Z = true) (mir : Addr) (hm : own_mir Z mir) (p0 : Int32) (p1 : Int32) (u : Addr) (h0 : Heap) (n0 : Nat) :
    own_M l Z (⟨"java/lang/Math", "max", "(II)I"⟩ : MethodName) jdk_29_method_65_code 2 (some .int) ({ frames := 0, cells := 0, slots := 0, locals := 0 } : Room) #[(.int p0), (.int p1)] h0 (fun v h L => v = some (.int (F5_0 p0 p1 u)) ∧ Fr n0 L ∧ h = h0) := by
  refine own_bodyF pf_5 ?_
  intro p e s m below meth c T hx hby hml hown hZ hret hlk hnm X eT
  have N := Fr.nil n0
  obtain ⟨w, hF⟩ : ∃ w, w = F5_0 p0 p1 u := ⟨_, rfl⟩
  try rw [← hF]
  generalize hQ : own_Q s (fun v h L => v = some (.int w) ∧ Fr n0 L ∧ h = h0) ({ frames := 0, cells := 0, slots := 0, locals := 0 } : Room).cells ({ frames := 0, cells := 0, slots := 0, locals := 0 } : Room).slots = Qq
  refine own_st (fun _ k => castTop (ef_5 m p0 p1) k) ?_
  have B10 : ∀ (T : State) (L : List Loc) (x0 : Int32) (x1 : Int32) (y2 : Int32), Stand p l e ({ frames := 0, cells := 0, slots := 0, locals := 0 } : Room) s m #[(.int p0), (.int p1)] below meth c T L 0 0 → T.heap = h0 → Fr n0 L → w = F5_10 x0 x1 y2 u → own_E p e below Qq T (mkF m 10 #[.val (.int x0), .val (.int x1)] [(.int y2)]) := by
    intro T L x0 x1 y2 X eT N hF
    rw [← hQ]
    exact own_retI X hx hlk hret (hb hby d5_10) (by decide) (by decide) ⟨by (rw [hF]; try rfl), N, eT⟩
  show own_E p e below Qq T (mkF m 0 #[.val (.int p0), .val (.int p1)] [])
  refine own_st (fun _ => XS.iloadN X.here hx rfl (hb hby d5_0) rfl) ?_
  show own_E p e below Qq T (mkF m 1 #[.val (.int p0), .val (.int p1)] [(.int p0)])
  refine own_st (fun _ => XS.iloadN X.here hx rfl (hb hby d5_1) rfl) ?_
  show own_E p e below Qq T (mkF m 2 #[.val (.int p0), .val (.int p1)] [(.int p1), (.int p0)])
  by_cases q2 : p0 < p1
  · replace hF := hF.trans (if_pos q2)
    refine own_st (fun _ => XS.icmpYes X.here hx rfl (pc0 := 2) (pc' := 9) rfl (hb hby d5_2) rfl (XT.ii_lt_t q2) (by decide) (by decide)) ?_
    show own_E p e below Qq T (mkF m 9 #[.val (.int p0), .val (.int p1)] [])
    refine own_st (fun _ => XS.iloadN X.here hx rfl (hb hby d5_9) rfl) ?_
    show own_E p e below Qq T (mkF m 10 #[.val (.int p0), .val (.int p1)] [(.int p1)])
    exact B10 _ _ p0 p1 p1 X eT N hF
  · replace hF := hF.trans (if_neg q2)
    refine own_st (fun _ => XS.icmpNo X.here hx rfl (hb hby d5_2) rfl (XT.ii_lt_f q2)) ?_
    show own_E p e below Qq T (mkF m 5 #[.val (.int p0), .val (.int p1)] [])
    refine own_st (fun _ => XS.iloadN X.here hx rfl (hb hby d5_5) rfl) ?_
    show own_E p e below Qq T (mkF m 6 #[.val (.int p0), .val (.int p1)] [(.int p0)])
    refine own_st (fun _ => XS.goto X.here hx rfl (pc0 := 6) (pc' := 10) rfl (hb hby d5_6) (by decide) (by decide)) ?_
    show own_E p e below Qq T (mkF m 10 #[.val (.int p0), .val (.int p1)] [(.int p0)])
    exact B10 _ _ p0 p1 p0 X eT N hF
theorem pf_8 : plainFor (⟨"java/lang/Math", "min", "(II)I"⟩ : MethodName) = true := by decide +kernel
theorem d8_0 : decode jdk_29_method_69_code 0 = .ok (.iload_n 0, 1) := by decide +kernel
theorem d8_1 : decode jdk_29_method_69_code 1 = .ok (.iload_n 1, 1) := by decide +kernel
theorem d8_2 : decode jdk_29_method_69_code 2 = .ok (.if_icmp .gt 7, 3) := by decide +kernel
theorem d8_5 : decode jdk_29_method_69_code 5 = .ok (.iload_n 0, 1) := by decide +kernel
theorem d8_6 : decode jdk_29_method_69_code 6 = .ok (.goto 4, 3) := by decide +kernel
theorem d8_9 : decode jdk_29_method_69_code 9 = .ok (.iload_n 1, 1) := by decide +kernel
theorem d8_10 : decode jdk_29_method_69_code 10 = .ok (.ireturn, 1) := by decide +kernel
theorem ef_8 (m : MethodId) (p0 : Int32) (p1 : Int32) : entryFrame m #[(.int p0), (.int p1)] 2 = (mkF m 0 #[.val (.int p0), .val (.int p1)] []) := by first | (simp [entryFrame, mkF, argsToLocals, Value.category, maxLocals]; done) | rfl
def F8_10 (x0 : Int32) (x1 : Int32) (y2 : Int32) (u : Addr) : Int32 := y2
def F8_0 (x0 : Int32) (x1 : Int32) (u : Addr) : Int32 := (if x1 < x0 then (F8_10 x0 x1 x1 u) else (F8_10 x0 x1 x0 u))
set_option maxRecDepth 65536 in
set_option maxHeartbeats 40000000 in
theorem rm8 (l : Launch) (Z : State) (a0 : Array Value) (hw : ∀ d ∈ tables_1, d.before a0 Z = true) (mir : Addr) (hm : own_mir Z mir) (p0 : Int32) (p1 : Int32) (u : Addr) (h0 : Heap) (n0 : Nat) :
    own_M l Z (⟨"java/lang/Math", "min", "(II)I"⟩ : MethodName) jdk_29_method_69_code 2 (some .int) ({ frames := 0, cells := 0, slots := 0, locals := 0 } : Room) #[(.int p0), (.int p1)] h0 (fun v h L => v = some (.int (F8_0 p0 p1 u)) ∧ Fr n0 L ∧ h = h0) := by
  refine own_bodyF pf_8 ?_
  intro p e s m below meth c T hx hby hml hown hZ hret hlk hnm X eT
  have N := Fr.nil n0
  obtain ⟨w, hF⟩ : ∃ w, w = F8_0 p0 p1 u := ⟨_, rfl⟩
  try rw [← hF]
  generalize hQ : own_Q s (fun v h L => v = some (.int w) ∧ Fr n0 L ∧ h = h0) ({ frames := 0, cells := 0, slots := 0, locals := 0 } : Room).cells ({ frames := 0, cells := 0, slots := 0, locals := 0 } : Room).slots = Qq
  refine own_st (fun _ k => castTop (ef_8 m p0 p1) k) ?_
  have B10 : ∀ (T : State) (L : List Loc) (x0 : Int32) (x1 : Int32) (y2 : Int32), Stand p l e ({ frames := 0, cells := 0, slots := 0, locals := 0 } : Room) s m #[(.int p0), (.int p1)] below meth c T L 0 0 → T.heap = h0 → Fr n0 L → w = F8_10 x0 x1 y2 u → own_E p e below Qq T (mkF m 10 #[.val (.int x0), .val (.int x1)] [(.int y2)]) := by
    intro T L x0 x1 y2 X eT N hF
    rw [← hQ]
    exact own_retI X hx hlk hret (hb hby d8_10) (by decide) (by decide) ⟨by (rw [hF]; try rfl), N, eT⟩
  show own_E p e below Qq T (mkF m 0 #[.val (.int p0), .val (.int p1)] [])
  refine own_st (fun _ => XS.iloadN X.here hx rfl (hb hby d8_0) rfl) ?_
  show own_E p e below Qq T (mkF m 1 #[.val (.int p0), .val (.int p1)] [(.int p0)])
  refine own_st (fun _ => XS.iloadN X.here hx rfl (hb hby d8_1) rfl) ?_
  show own_E p e below Qq T (mkF m 2 #[.val (.int p0), .val (.int p1)] [(.int p1), (.int p0)])
  by_cases q2 : p1 < p0
  · replace hF := hF.trans (if_pos q2)
    refine own_st (fun _ => XS.icmpYes X.here hx rfl (pc0 := 2) (pc' := 9) rfl (hb hby d8_2) rfl (XT.ii_gt_t q2) (by decide) (by decide)) ?_
    show own_E p e below Qq T (mkF m 9 #[.val (.int p0), .val (.int p1)] [])
    refine own_st (fun _ => XS.iloadN X.here hx rfl (hb hby d8_9) rfl) ?_
    show own_E p e below Qq T (mkF m 10 #[.val (.int p0), .val (.int p1)] [(.int p1)])
    exact B10 _ _ p0 p1 p1 X eT N hF
  · replace hF := hF.trans (if_neg q2)
    refine own_st (fun _ => XS.icmpNo X.here hx rfl (hb hby d8_2) rfl (XT.ii_gt_f q2)) ?_
    show own_E p e below Qq T (mkF m 5 #[.val (.int p0), .val (.int p1)] [])
    refine own_st (fun _ => XS.iloadN X.here hx rfl (hb hby d8_5) rfl) ?_
    show own_E p e below Qq T (mkF m 6 #[.val (.int p0), .val (.int p1)] [(.int p0)])
    refine own_st (fun _ => XS.goto X.here hx rfl (pc0 := 6) (pc' := 10) rfl (hb hby d8_6) (by decide) (by decide)) ?_
    show own_E p e below Qq T (mkF m 10 #[.val (.int p0), .val (.int p1)] [(.int p0)])
    exact B10 _ _ p0 p1 p0 X eT N hF
theorem pn_7 : plainName "java/util/Arrays" = true := by first | (simp [plainName, overriddenIn]; done) | decide +kernel
theorem pd_7 : parseMethodDescriptor "([Ljava/lang/Object;ILjava/lang/Class;)[Ljava/lang/Object;" = some ⟨[(.array (.object "java/lang/Object")), .int, (.object "java/lang/Class")], some (.array (.object "java/lang/Object"))⟩ := by decide +kernel
theorem d7_0 : decode jdk_65_method_120_code 0 = .ok (.aload_n 2, 1) := by decide +kernel
theorem d7_1 : decode jdk_65_method_120_code 1 = .ok (.ldc 110, 2) := by decide +kernel
theorem d7_3 : decode jdk_65_method_120_code 3 = .ok (.if_acmp .ne 10, 3) := by decide +kernel
theorem d7_6 : decode jdk_65_method_120_code 6 = .ok (.iload_n 1, 1) := by decide +kernel
theorem d7_7 : decode jdk_65_method_120_code 7 = .ok (.anewarray 2, 3) := by decide +kernel
theorem d7_10 : decode jdk_65_method_120_code 10 = .ok (.goto 14, 3) := by decide +kernel
theorem d7_13 : decode jdk_65_method_120_code 13 = .ok (.aload_n 2, 1) := by decide +kernel
theorem d7_14 : decode jdk_65_method_120_code 14 = .ok (.invokevirtual 90, 3) := by decide +kernel
theorem d7_17 : decode jdk_65_method_120_code 17 = .ok (.iload_n 1, 1) := by decide +kernel
theorem d7_18 : decode jdk_65_method_120_code 18 = .ok (.invokestatic 95, 3) := by decide +kernel
theorem d7_21 : decode jdk_65_method_120_code 21 = .ok (.checkcast 110, 3) := by decide +kernel
theorem d7_24 : decode jdk_65_method_120_code 24 = .ok (.astore_n 3, 1) := by decide +kernel
theorem d7_25 : decode jdk_65_method_120_code 25 = .ok (.aload_n 0, 1) := by decide +kernel
theorem d7_26 : decode jdk_65_method_120_code 26 = .ok (.iconst 0, 1) := by decide +kernel
theorem d7_27 : decode jdk_65_method_120_code 27 = .ok (.aload_n 3, 1) := by decide +kernel
theorem d7_28 : decode jdk_65_method_120_code 28 = .ok (.iconst 0, 1) := by decide +kernel
theorem d7_29 : decode jdk_65_method_120_code 29 = .ok (.aload_n 0, 1) := by decide +kernel
theorem d7_30 : decode jdk_65_method_120_code 30 = .ok (.arraylength, 1) := by decide +kernel
theorem d7_31 : decode jdk_65_method_120_code 31 = .ok (.iload_n 1, 1) := by decide +kernel
theorem d7_32 : decode jdk_65_method_120_code 32 = .ok (.invokestatic 304, 3) := by decide +kernel
theorem d7_35 : decode jdk_65_method_120_code 35 = .ok (.invokestatic 150, 3) := by decide +kernel
theorem d7_38 : decode jdk_65_method_120_code 38 = .ok (.aload_n 3, 1) := by decide +kernel
theorem d7_39 : decode jdk_65_method_120_code 39 = .ok (.areturn, 1) := by decide +kernel
theorem ef_7 (m : MethodId) (a : Addr) (p0 : Int32) (b : Addr) : entryFrame m #[(.ref a), (.int p0), (.ref b)] 4 = mkF m 0 #[.val (.ref a), .val (.int p0), .val (.ref b), .unset] [] := by first | (simp [entryFrame, mkF, argsToLocals, Value.category, maxLocals]; done) | rfl
theorem own_min {x y : Int32} (h : x.toInt < y.toInt) (u : Addr) : F8_0 x y u = x := by
  have q : ¬ y < x := by rw [Int32.lt_iff_toInt_lt]; omega
  rw [F8_0, if_neg q]
  rfl
/-- the copy's cell -/
theorem own_copied {Z : State} {h h' : Heap} {b b' : Addr} {len n : Int32} {f : Nat → Value} {cl cd : Cell} (ql : ¬ len < 0) (qn : ¬ n < 0) (lt : len.toInt < n.toInt) (S : cl.slots.size = len.toNatClampNeg) (V : ∀ i, i < len.toNatClampNeg → cl.slots[i]? = some (f i) ∧ own_ok Z h' (f i)) (Sd : cd.slots.size = n.toNatClampNeg) (Vd : ∀ i, i < n.toNatClampNeg → cd.slots[i]? = some .null)
    (hX : Exa Z h b' "[Ljava/lang/Object;") (hO : Ovr Z (copied cl cd 0 0 len).cls "java/lang/Object") (hk : ∀ v, own_ok Z h' v → own_ok Z h v)
    (hc : h[b']? = some (copied cl cd 0 0 len)) (ia : Z.isArrayOf (copied cl cd 0 0 len) (.object "java/lang/Object")) (iv : (copied cl cd 0 0 len).vm ≠ .unknown) : own_R Z h b' n (own_cp len f) := by
  have hz : (0 : Int32).toNatClampNeg = 0 := rfl
  have le : len.toNatClampNeg ≤ n.toNatClampNeg := by show len.toInt.toNat ≤ n.toInt.toNat; omega
  have g : ∀ i, (copied cl cd 0 0 len).slots[i]? = if 0 ≤ i ∧ i < 0 + len.toNatClampNeg then (cl.stretch 0 len.toNatClampNeg)[i - 0]? else cd.slots[i]? := fun i => by
    show (cd.storeRun (0 : Int32).toNatClampNeg (cl.stretch (0 : Int32).toNatClampNeg len.toNatClampNeg)).slots[i]? = _
    rw [hz, Cell.storeRun_get _ _ _ _ (by rw [Cell.stretch_length]; omega), Cell.stretch_length]
  refine ⟨qn, hX, _, ⟨hc, ia, iv⟩, hO, ?_, fun i hi => ?_⟩
  · exact (Jvm.Free.SB.copied_facts cl cd 0 0 len).2.2.trans Sd
  · rw [g i]
    by_cases z : i < len.toNatClampNeg
    · rw [if_pos ⟨Nat.zero_le _, by omega⟩]
      have e : (own_cp len f) i = f i := if_pos z
      rw [e]
      have v := (V i z).1
      have : (cl.stretch 0 len.toNatClampNeg)[i - 0]? = some (cl.slots.getD (0 + i) .null) := by
        show ((List.range len.toNatClampNeg).map fun k => cl.slots.getD (0 + k) .null)[i]? = _
        rw [List.getElem?_map, List.getElem?_range z]; rfl
      rw [this, Nat.zero_add, Jvm.Free.SBG.getD_of v]
      exact ⟨rfl, hk _ (V i z).2⟩
    · rw [if_neg (by omega), Vd i hi]
      have e : (own_cp len f) i = .null := if_neg z
      rw [e]
      exact ⟨rfl, Or.inl rfl⟩
theorem own_mirT {Z s : State} {mir : Addr} {args : Array Value} (hZ : Z.Warmed39 s.vm) (hm : own_mir Z mir) : (Term.mirror "[Ljava/lang/Object;").eval args s none [] s = some (.ref mir) := by
  obtain ⟨c, k, h1, h2, h3⟩ := hm
  obtain ⟨k', h4, h5⟩ := hZ.alike.2.2 _ _ h2
  have h6 : s.vm.findClass "[Ljava/lang/Object;" = some c := by rw [hZ.alike.findClass]; exact h1
  have h7 : k'.mirror = some mir := by rw [h5]; exact h3
  simp [Term.eval, h6, h4, h7]
set_option maxRecDepth 65536 in
set_option maxHeartbeats 40000000 in
theorem rm7 (l : Launch) (Z : State) (a0 : Array Value) (hw : ∀ d ∈ tables_1, d.before a0 Z = true) (mir : Addr) (hm : own_mir Z mir) (b : Addr) (p0 len : Int32) (f : Nat → Value) (h0 : Heap) (n0 : Nat) (Z0 : n0 ≤ h0.size) (r : own_R Z h0 b len f) (hP : len.toInt < p0.toInt ∧ p0.toInt ≤ 32) :
    own_M l Z (⟨"java/util/Arrays", "copyOf", "([Ljava/lang/Object;ILjava/lang/Class;)[Ljava/lang/Object;"⟩ : MethodName) jdk_65_method_120_code 4 (some (.array (.object "java/lang/Object"))) ({ frames := 1, cells := 1, slots := 32, locals := 60 } : Room) #[(.ref b), (.int p0), (.ref mir)] h0 (fun v h L => ∃ b', v = some (.ref b') ∧ Fr n0 L ∧ Ext h0 h ∧ h0.size ≤ b' ∧ own_R Z h b' p0 (own_cp len f)) := by
  refine own_body pn_7 ?_
  intro p e s m below meth c T hx hby hml hown hZ hret hlk hnm X eT
  have N := Fr.nil n0
  subst eT
  have nl : 0 ≤ len.toInt := by
    have := r.1; rw [Int32.lt_iff_toInt_lt] at this; exact Int.not_lt.mp this
  have np : ¬ p0 < 0 := own_nn (by omega)
  generalize hQ : own_Q s _ _ _ = Qq
  refine own_st (fun _ k => castTop (ef_7 m b p0 mir) k) ?_
  show own_E p e below Qq T (mkF m 0 #[.val (.ref b), .val (.int p0), .val (.ref mir), .unset] [])
  refine own_st (fun _ => XS.aloadN X.here hx rfl (hb hby d7_0) rfl rfl) ?_
  show own_E p e below Qq T (mkF m 1 #[.val (.ref b), .val (.int p0), .val (.ref mir), .unset] [(.ref mir)])
  obtain ⟨vm0, X0, st0⟩ := X.ldcMirror hx hown (mvT hZ (hw _ (List.mem_of_getElem? (i := 50) rfl))) (own_mirT hZ hm) (g := (mkF m 1 #[.val (.ref b), .val (.int p0), .val (.ref mir), .unset] [(.ref mir)])) rfl (hb hby d7_1)
  refine own_st st0 ?_
  obtain ⟨T0, eT0⟩ : ∃ U, U = T.setVm vm0 := ⟨_, rfl⟩
  have e0 : T0.heap = T.heap := by rw [eT0]; rfl
  rw [← eT0] at X0 ⊢
  have r0 := own_tr (P := fun h => own_R Z h b len f) e0 r
  show own_E p e below Qq T0 (mkF m 3 #[.val (.ref b), .val (.int p0), .val (.ref mir), .unset] [(.ref mir), (.ref mir)])
  refine own_st (fun _ => XT.acmpNo X0.here hx rfl (hb hby d7_3) rfl rfl rfl (XT.aa_ne_f rfl)) ?_
  show own_E p e below Qq T0 (mkF m 6 #[.val (.ref b), .val (.int p0), .val (.ref mir), .unset] [])
  refine own_st (fun _ => XS.iloadN X0.here hx rfl (hb hby d7_6) rfl) ?_
  show own_E p e below Qq T0 (mkF m 7 #[.val (.ref b), .val (.int p0), .val (.ref mir), .unset] [(.int p0)])
  obtain ⟨T1, h1, k1, X1, e1, E1, A1, Z1, O1, st1⟩ := newRE X0 hx hZ hown (hw _ (List.mem_of_getElem? (i := 51) rfl)) (hw _ (List.mem_of_getElem? (i := 14) rfl)) rfl (g := (mkF m 7 #[.val (.ref b), .val (.int p0), .val (.ref mir), .unset] [(.int p0)])) rfl (hb hby d7_7) rfl np (cap := 32) (by show p0.toInt.toNat ≤ 32; omega) (by decide) (by decide) (by decide) (ad := "[Ljava/lang/Object;") (by decide)
  obtain ⟨b1, gb1⟩ : ∃ z, z = T0.heap.size := ⟨_, rfl⟩
  rw [← gb1] at A1 Z1 st1
  subst e1
  have lb : b < b1 := by rw [gb1]; exact own_Rlt r0
  refine own_st st1 ?_
  have r1 := own_Rext E1 r0
  have rd := own_Rnew np A1 Z1 O1
  show own_E p e below Qq T1 (mkF m 10 #[.val (.ref b), .val (.int p0), .val (.ref mir), .unset] [(.ref b1)])
  refine own_st (fun _ => XS.goto X1.here hx rfl (pc0 := 10) (pc' := 24) rfl (hb hby d7_10) (by decide) (by decide)) ?_
  show own_E p e below Qq T1 (mkF m 24 #[.val (.ref b), .val (.int p0), .val (.ref mir), .unset] [(.ref b1)])
  refine own_st (fun _ => XS.astoreN X1.here hx rfl (hb hby d7_24) rfl rfl (l' := #[.val (.ref b), .val (.int p0), .val (.ref mir), .val (.ref b1)]) rfl) ?_
  show own_E p e below Qq T1 (mkF m 25 #[.val (.ref b), .val (.int p0), .val (.ref mir), .val (.ref b1)] [])
  refine own_st (fun _ => XS.aloadN X1.here hx rfl (hb hby d7_25) rfl rfl) ?_
  show own_E p e below Qq T1 (mkF m 26 #[.val (.ref b), .val (.int p0), .val (.ref mir), .val (.ref b1)] [(.ref b)])
  refine own_st (fun _ => XS.iconst X1.here hx rfl (hb hby d7_26)) ?_
  show own_E p e below Qq T1 (mkF m 27 #[.val (.ref b), .val (.int p0), .val (.ref mir), .val (.ref b1)] [(.int (0 : Int32)), (.ref b)])
  refine own_st (fun _ => XS.aloadN X1.here hx rfl (hb hby d7_27) rfl rfl) ?_
  show own_E p e below Qq T1 (mkF m 28 #[.val (.ref b), .val (.int p0), .val (.ref mir), .val (.ref b1)] [(.ref b1), (.int (0 : Int32)), (.ref b)])
  refine own_st (fun _ => XS.iconst X1.here hx rfl (hb hby d7_28)) ?_
  show own_E p e below Qq T1 (mkF m 29 #[.val (.ref b), .val (.int p0), .val (.ref mir), .val (.ref b1)] [(.int (0 : Int32)), (.ref b1), (.int (0 : Int32)), (.ref b)])
  refine own_st (fun _ => XS.aloadN X1.here hx rfl (hb hby d7_29) rfl rfl) ?_
  show own_E p e below Qq T1 (mkF m 30 #[.val (.ref b), .val (.int p0), .val (.ref mir), .val (.ref b1)] [(.ref b), (.int (0 : Int32)), (.ref b1), (.int (0 : Int32)), (.ref b)])
  refine own_st (fun _ hr => own_alen (g := (mkF m 30 #[.val (.ref b), .val (.int p0), .val (.ref mir), .val (.ref b1)] [(.ref b), (.int (0 : Int32)), (.ref b1), (.int (0 : Int32)), (.ref b)])) X1 hx hZ r1 rfl rfl (hb hby d7_30) hr) ?_
  show own_E p e below Qq T1 (mkF m 31 #[.val (.ref b), .val (.int p0), .val (.ref mir), .val (.ref b1)] [(.int len), (.int (0 : Int32)), (.ref b1), (.int (0 : Int32)), (.ref b)])
  refine own_st (fun _ => XS.iloadN X1.here hx rfl (hb hby d7_31) rfl) ?_
  show own_E p e below Qq T1 (mkF m 32 #[.val (.ref b), .val (.int p0), .val (.ref mir), .val (.ref b1)] [(.int p0), (.int len), (.int (0 : Int32)), (.ref b1), (.int (0 : Int32)), (.ref b)])
  refine own_callS X1 hx hZ hown (hw _ (List.mem_of_getElem? (i := 52) rfl)) (hw _ (List.mem_of_getElem? (i := 53) rfl)) (hw _ (List.mem_of_getElem? (i := 35) rfl)) (hw _ (List.mem_of_getElem? (i := 54) rfl)) (by decide) (W := 4) (argsL := [(.int len), (.int p0)]) (rest := [(.int (0 : Int32)), (.ref b1), (.int (0 : Int32)), (.ref b)]) (rm8 l Z a0 hw mir hm len p0 b _ n0) (by decide) (by decide) (by decide) (by decide) rfl (by rw [hml]; rfl) (lenOf pd_5 rfl) rfl (by show 2 * 0 + _ ≤ _; exact Nat.le_of_eq rfl) (hb hby d7_32) ?_
  intro T2 L2 v X' hq
  obtain ⟨rfl, N', e'⟩ := hq
  replace N := Fr.app N N'
  have X2 : Stand p l e ({ frames := 1, cells := 1, slots := 32, locals := 60 } : Room) s m #[(.ref b), (.int p0), (.ref mir)] below meth c T2 ([] ++ L2) 1 32 := X'
  rw [own_min hP.1]
  show own_E p e below Qq T2 (mkF m 35 #[.val (.ref b), .val (.int p0), .val (.ref mir), .val (.ref b1)] [(.int len), (.int (0 : Int32)), (.ref b1), (.int (0 : Int32)), (.ref b)])
  have r2 := own_tr (P := fun h => own_R Z h b len f) e' r1
  have rd2 := own_tr (P := fun h => own_R Z h b1 p0 (fun _ => .null)) e' rd
  obtain ⟨q2, -, cl, A2, O2, S2, V2⟩ := r2
  obtain ⟨q3, Z3, cd, A3, O3, S3, V3⟩ := rd2
  obtain ⟨so, ks, hks, comp, hsk⟩ := State.isArrayOf_alike hZ.alike A2.2.1
  obtain ⟨so3, kd, hkd, comp3, hdk⟩ := State.isArrayOf_alike hZ.alike A3.2.1
  have z0 : (0 : Int32).toInt = 0 := rfl
  have zn : (0 : Int32).toNatClampNeg = 0 := rfl
  have cn : len.toNatClampNeg = len.toInt.toNat := rfl
  have cp : p0.toNatClampNeg = p0.toInt.toNat := rfl
  have tk : ∀ vm1, s.WarmedH vm1 → ∀ v, own_ok Z T2.heap v → fits (.object "java/lang/Object") v = true ∧ (T2.setVm vm1).takes comp3 v := fun vm1 hw1 v hv => by
    rcases hv with rfl | ⟨y, rfl, cy, cT, i1, i2, i3⟩
    · exact ⟨rfl, trivial⟩
    · refine ⟨rfl, ?_⟩
      obtain ⟨ko, co, o1, o2, o3⟩ := O3
      have al : Z.vm.Alike vm1 := hZ.alike.trans hw1.alike
      have ec : comp3 = cT := by
        obtain ⟨kz, k1, k2⟩ := hZ.alike.2.2 _ _ o1
        cases hkd.symm.trans k1
        have : kd.kind = ko.kind := by rw [k2]
        rw [hdk, o2] at this
        injection this with t1 t2
        rw [t1]
        exact Option.some.inj (o3.symm.trans i2)
      simp only [Bool.and_eq_true, Bool.not_eq_true'] at i3
      obtain ⟨kc, y1⟩ := Vm.classAt_of_findClass i2
      obtain ⟨kv, y2⟩ := Vm.classAt_of_assignable i3.2 ⟨kc, y1⟩
      obtain ⟨kc', y3, -⟩ := al.2.2 _ _ y1
      obtain ⟨kv', y4, -⟩ := al.2.2 _ _ y2
      rw [ec]
      exact ⟨cy, i1, fun z hz => by (have := i3.1; rw [hz] at this; cases this), ⟨kv', y4⟩, ⟨kc', y3⟩, by show vm1.assignable _ _ = true; rw [al.assignable]; exact i3.2⟩
  obtain ⟨vm3, hW3, X3, st3⟩ := X2.arraycopyK hx hown (mvT hZ (hw _ (List.mem_of_getElem? (i := 55) rfl))) (mvT hZ (hw _ (List.mem_of_getElem? (i := 58) rfl))) (mvT hZ (hw _ (List.mem_of_getElem? (i := 56) rfl))) (mvT hZ (hw _ (List.mem_of_getElem? (i := 57) rfl))) (src := b) (dst := b1) (srcPos := 0) (destPos := 0) (n := len) A2.1 A3.1 so so3 A2.2.2 A3.2.2 hks hkd hsk hdk rfl (by decide) (by decide) q2 (by rw [S2]; omega) (by rw [S3]; omega) (fun vm1 h1 i hi => by
      rw [zn, Nat.zero_add, Jvm.Free.SBG.getD_of (V2 i hi).1]; exact tk vm1 h1 _ (V2 i hi).2) (g := (mkF m 35 #[.val (.ref b), .val (.int p0), .val (.ref mir), .val (.ref b1)] [(.int len), (.int (0 : Int32)), (.ref b1), (.int (0 : Int32)), (.ref b)])) rfl (by rw [hml]; rfl) (rest := []) rfl (hb hby d7_35) (by decide) (by show 2 * 0 + 0 + (nativeFrameWords "java/lang/System" "arraycopy" 5 + 11) ≤ 60; decide)
  refine own_st st3 ?_
  have cf := Jvm.Free.SB.copied_facts cl cd 0 0 len
  have hc3 : ((T2.setVm vm3).setCell b1 (copied cl cd 0 0 len)).heap[b1]? = some (copied cl cd 0 0 len) := State.heap_setCell_self (s := T2.setVm vm3) A3.1
  have at3 : ∀ x : Addr, ∀ cx : Cell, T2.heap[x]? = some cx → x ≠ b1 → ((T2.setVm vm3).setCell b1 (copied cl cd 0 0 len)).heap[x]? = some cx := fun x cx hcx nx => by
    show (T2.heap.setIfInBounds b1 (copied cl cd 0 0 len))[x]? = some cx
    rw [Array.getElem?_setIfInBounds_ne (Ne.symm nx)]; exact hcx
  have ok3 : ∀ v, own_ok Z T2.heap v → own_ok Z ((T2.setVm vm3).setCell b1 (copied cl cd 0 0 len)).heap v := fun v hv => hv.imp id fun ⟨y, e, cy, cT, i1, i2, i3⟩ => by
    refine ⟨y, e, ?_⟩
    by_cases z : y = b1
    · subst z
      cases A3.1.symm.trans i1
      exact ⟨_, cT, hc3, i2, by rw [cf.1, cf.2.1]; exact i3⟩
    · exact ⟨cy, cT, at3 y cy i1 z, i2, i3⟩
  have X3a : Exa Z ((T2.setVm vm3).setCell b1 (copied cl cd 0 0 len)).heap b1 "[Ljava/lang/Object;" := by
    obtain ⟨cz, kz, y1, y2, y3, y4, y5⟩ := Z3
    cases A3.1.symm.trans y1
    exact ⟨_, kz, hc3, by rw [cf.1]; exact y2, by rw [cf.1]; exact y3, by rw [cf.2.1]; exact y4, fun z => by rw [cf.2.2]; exact y5 z⟩
  have r3 : own_R Z ((T2.setVm vm3).setCell b1 (copied cl cd 0 0 len)).heap b1 p0 (own_cp len f) := by
    refine own_copied (b := b) q2 np hP.1 S2 V2 S3 (fun i hi => (V3 i hi).1) X3a (by rw [cf.1]; exact O3) ok3 hc3 ?_ (by rw [cf.2.1]; exact A3.2.2)
    obtain ⟨i1, i2⟩ := A3.2.1
    exact ⟨by rw [cf.2.1]; exact i1, by rw [cf.1]; exact i2⟩
  have E3 : Ext T.heap ((T2.setVm vm3).setCell b1 (copied cl cd 0 0 len)).heap := by
    have ee : Ext T.heap T2.heap := by rw [e', ← e0]; exact E1
    refine ⟨?_, fun x cx hcx => ?_⟩
    · have : ((T2.setVm vm3).setCell b1 (copied cl cd 0 0 len)).heap.size = T2.heap.size := size_setCell (T2.setVm vm3) _ _
      rw [this]; exact ee.1
    · have hlt : x < T.heap.size := (Array.getElem?_eq_some_iff.mp hcx).1
      exact at3 x cx (ee.2 x cx hcx) (by rw [gb1, e0]; exact Nat.ne_of_lt hlt)
  have N3 : Fr n0 (([] ++ L2) ++ copyLocs b1 (0 : Int32).toNatClampNeg len.toNatClampNeg) := N.app fun y hy => by
    rw [copyLocs_base hy, gb1, e0]; exact Z0
  show own_E p e below Qq _ (mkF m 38 #[.val (.ref b), .val (.int p0), .val (.ref mir), .val (.ref b1)] [])
  refine own_st (fun _ => XS.aloadN X3.here hx rfl (hb hby d7_38) rfl rfl) ?_
  show own_E p e below Qq _ (mkF m 39 #[.val (.ref b), .val (.int p0), .val (.ref mir), .val (.ref b1)] [(.ref b1)])
  rw [← hQ]
  exact own_retA X3 hx hlk hret rfl rfl rfl (hb hby d7_39) (by decide) (by decide) ⟨b1, rfl, N3, E3, by rw [gb1, e0]; exact Nat.le_refl _, r3⟩
theorem pd_6 : parseMethodDescriptor "([Ljava/lang/Object;I)[Ljava/lang/Object;" = some ⟨[(.array (.object "java/lang/Object")), .int], some (.array (.object "java/lang/Object"))⟩ := by decide +kernel
theorem d6_0 : decode jdk_65_method_119_code 0 = .ok (.aload_n 0, 1) := by decide +kernel
theorem d6_1 : decode jdk_65_method_119_code 1 = .ok (.iload_n 1, 1) := by decide +kernel
theorem d6_2 : decode jdk_65_method_119_code 2 = .ok (.aload_n 0, 1) := by decide +kernel
theorem d6_3 : decode jdk_65_method_119_code 3 = .ok (.invokevirtual 86, 3) := by decide +kernel
theorem d6_6 : decode jdk_65_method_119_code 6 = .ok (.invokestatic 300, 3) := by decide +kernel
theorem d6_9 : decode jdk_65_method_119_code 9 = .ok (.areturn, 1) := by decide +kernel
theorem ef_6 (m : MethodId) (a : Addr) (p0 : Int32) : entryFrame m #[(.ref a), (.int p0)] 2 = mkF m 0 #[.val (.ref a), .val (.int p0)] [] := by first | (simp [entryFrame, mkF, argsToLocals, Value.category, maxLocals]; done) | rfl
set_option maxRecDepth 65536 in
set_option maxHeartbeats 40000000 in
theorem rm6 (l : Launch) (Z : State) (a0 : Array Value) (hw : ∀ d ∈ tables_1, d.before a0 Z = true) (mir : Addr) (hm : own_mir Z mir) (b : Addr) (p0 len : Int32) (f : Nat → Value) (h0 : Heap) (n0 : Nat) (Z0 : n0 ≤ h0.size) (r : own_R Z h0 b len f) (hP : len.toInt < p0.toInt ∧ p0.toInt ≤ 32) :
    own_M l Z (⟨"java/util/Arrays", "copyOf", "([Ljava/lang/Object;I)[Ljava/lang/Object;"⟩ : MethodName) jdk_65_method_119_code 2 (some (.array (.object "java/lang/Object"))) ({ frames := 3, cells := 1, slots := 32, locals := 90 } : Room) #[(.ref b), (.int p0)] h0 (fun v h L => ∃ b', v = some (.ref b') ∧ Fr n0 L ∧ Ext h0 h ∧ h0.size ≤ b' ∧ own_R Z h b' p0 (own_cp len f)) := by
  refine own_body pn_7 ?_
  intro p e s m below meth c T hx hby hml hown hZ hret hlk hnm X eT
  have N := Fr.nil n0
  subst eT
  generalize hQ : own_Q s _ _ _ = Qq
  refine own_st (fun _ k => castTop (ef_6 m b p0) k) ?_
  show own_E p e below Qq T (mkF m 0 #[.val (.ref b), .val (.int p0)] [])
  refine own_st (fun _ => XS.aloadN X.here hx rfl (hb hby d6_0) rfl rfl) ?_
  show own_E p e below Qq T (mkF m 1 #[.val (.ref b), .val (.int p0)] [(.ref b)])
  refine own_st (fun _ => XS.iloadN X.here hx rfl (hb hby d6_1) rfl) ?_
  show own_E p e below Qq T (mkF m 2 #[.val (.ref b), .val (.int p0)] [(.int p0), (.ref b)])
  refine own_st (fun _ => XS.aloadN X.here hx rfl (hb hby d6_2) rfl rfl) ?_
  show own_E p e below Qq T (mkF m 3 #[.val (.ref b), .val (.int p0)] [(.ref b), (.int p0), (.ref b)])
  obtain ⟨cB, kB, qa, qb, qc⟩ := isOf (T := T) hZ rfl r.2.1
  have mB : kB.mirror = some mir := by
    obtain ⟨c1, k1, h1, h2, h3⟩ := hm
    obtain ⟨k', h4, h5⟩ := hZ.alike.2.2 _ _ h2
    have : s.vm.findClass "[Ljava/lang/Object;" = some c1 := by rw [hZ.alike.findClass]; exact h1
    cases qa.symm.trans this
    cases qb.symm.trans h4
    rw [h5]; exact h3
  obtain ⟨vm1, X1, st1⟩ := X.getClassOf hx hown (mvT hZ (hw _ (List.mem_of_getElem? (i := 41) rfl))) (mvT hZ (hw _ (List.mem_of_getElem? (i := 42) rfl))) (notFace_of_selects (args := #[]) (mvT hZ (hw _ (List.mem_of_getElem? (i := 44) rfl)))) (mvT hZ (hw _ (List.mem_of_getElem? (i := 44) rfl))) (mvT hZ (hw _ (List.mem_of_getElem? (i := 43) rfl))) (mvT hZ (hw _ (List.mem_of_getElem? (i := 45) rfl))) qa qc qb mB (g := (mkF m 3 #[.val (.ref b), .val (.int p0)] [(.ref b), (.int p0), (.ref b)])) rfl (by rw [hml]; rfl) rfl (hb hby d6_3) (by decide) (by show 2 * 0 + (1 + (1 + 0)) + (nativeFrameWords "java/lang/Object" "getClass" 1 + 11) ≤ 90; decide)
  refine own_st st1 ?_
  obtain ⟨T1, eT1⟩ : ∃ U, U = T.setVm vm1 := ⟨_, rfl⟩
  have e1 : T1.heap = T.heap := by rw [eT1]; rfl
  rw [← eT1] at X1 ⊢
  have r1 := own_tr (P := fun h => own_R Z h b len f) e1 r
  have Z1 : n0 ≤ T1.heap.size := by rw [e1]; exact Z0
  show own_E p e below Qq T1 (mkF m 6 #[.val (.ref b), .val (.int p0)] [(.ref mir), (.int p0), (.ref b)])
  refine own_callS X1 hx hZ hown (hw _ (List.mem_of_getElem? (i := 47) rfl)) (hw _ (List.mem_of_getElem? (i := 48) rfl)) (hw _ (List.mem_of_getElem? (i := 39) rfl)) (hw _ (List.mem_of_getElem? (i := 49) rfl)) (by decide) (W := 0) (argsL := [(.ref b), (.int p0), (.ref mir)]) (rest := []) (rm7 l Z a0 hw mir hm b p0 len f _ n0 Z1 r1 hP) (by decide) (by decide) (by decide) (by decide) rfl (by rw [hml]; rfl) (lenOf pd_7 rfl) rfl (by show 2 * 0 + _ ≤ _; exact Nat.le_of_eq rfl) (hb hby d6_6) ?_
  intro T2 L2 v X2 hq
  obtain ⟨b', rfl, N2, E2, hb2, r2⟩ := hq
  replace N := Fr.app N N2
  rw [e1] at E2 hb2
  show own_E p e below Qq T2 (mkF m 9 #[.val (.ref b), .val (.int p0)] [(.ref b')])
  rw [← hQ]
  exact own_retA X2 hx hlk hret rfl rfl rfl (hb hby d6_9) (by decide) (by decide) ⟨b', rfl, N, E2, hb2, r2⟩
theorem own_gl {x len : Int32} (u : Addr) (h1 : 0 ≤ x.toInt) (h2 : x.toInt ≤ 31) (hl : len = 16 ∨ len = 32) (q : ¬ x < len) : len = 16 ∧ F5_0 ((2 : Int32) * len) (x + (1 : Int32)) u = 32 := by
  rw [Int32.lt_iff_toInt_lt] at q
  have a := own_add1 x (by omega)
  rcases hl with rfl | rfl
  · refine ⟨rfl, ?_⟩
    have e : (2 : Int32) * 16 = 32 := by decide
    have n : ¬ (32 : Int32) < x + 1 := by rw [Int32.lt_iff_toInt_lt, own_d32]; omega
    rw [e, F5_0, if_neg n]; rfl
  · rw [own_d32] at q; omega
theorem own_k1 {x count len : Int32} {v va vb : Value} {u : Addr} (h : (0 ≤ x.toInt ∧ x.toInt ≤ 31 ∧ own_cl count len) ∧ (v = va ∨ v = vb)) (q : ¬ x < len) : (0 ≤ x.toInt ∧ x.toInt ≤ 31 ∧ own_cl count (F5_0 ((2 : Int32) * len) (x + (1 : Int32)) u) ∧ x < F5_0 ((2 : Int32) * len) (x + (1 : Int32)) u) ∧ (v = va ∨ v = vb) ∧ x.toInt - count.toInt < ((40 : Nat) : Int) ∧ 0 < 40 := by
  obtain ⟨⟨h1, h2, c1, c2, c3⟩, h4⟩ := h
  obtain ⟨rfl, g⟩ := own_gl u h1 h2 c3 q
  rw [g]
  have d := own_d16
  have d' := own_d32
  exact ⟨⟨h1, h2, ⟨c1, by omega, Or.inr rfl⟩, by rw [Int32.lt_iff_toInt_lt]; omega⟩, h4, by omega, by decide⟩
theorem own_k3 {x count len : Int32} {v va vb : Value} {u : Addr} (h : (0 ≤ x.toInt ∧ x.toInt ≤ 31 ∧ own_cl count len) ∧ (v = va ∨ v = vb)) (q : ¬ x < len) : len.toInt < (F5_0 ((2 : Int32) * len) (x + (1 : Int32)) u).toInt ∧ (F5_0 ((2 : Int32) * len) (x + (1 : Int32)) u).toInt ≤ 32 := by
  obtain ⟨⟨h1, h2, c1, c2, c3⟩, h4⟩ := h
  obtain ⟨rfl, g⟩ := own_gl u h1 h2 c3 q
  rw [g]; exact ⟨by decide, by decide⟩
theorem pd_4 : parseMethodDescriptor "(ILjava/lang/Object;)V" = some ⟨[.int, (.object "java/lang/Object")], none⟩ := by decide +kernel
theorem d4_0 : decode prog_46_method_2_code 0 = .ok (.iload_n 1, 1) := by decide +kernel
theorem d4_1 : decode prog_46_method_2_code 1 = .ok (.aload_n 0, 1) := by decide +kernel
theorem d4_2 : decode prog_46_method_2_code 2 = .ok (.getfield 7, 3) := by decide +kernel
theorem d4_5 : decode prog_46_method_2_code 5 = .ok (.arraylength, 1) := by decide +kernel
theorem d4_6 : decode prog_46_method_2_code 6 = .ok (.if_icmp .lt 27, 3) := by decide +kernel
theorem d4_9 : decode prog_46_method_2_code 9 = .ok (.aload_n 0, 1) := by decide +kernel
theorem d4_10 : decode prog_46_method_2_code 10 = .ok (.aload_n 0, 1) := by decide +kernel
theorem d4_11 : decode prog_46_method_2_code 11 = .ok (.getfield 7, 3) := by decide +kernel
theorem d4_14 : decode prog_46_method_2_code 14 = .ok (.iconst 2, 1) := by decide +kernel
theorem d4_15 : decode prog_46_method_2_code 15 = .ok (.aload_n 0, 1) := by decide +kernel
theorem d4_16 : decode prog_46_method_2_code 16 = .ok (.getfield 7, 3) := by decide +kernel
theorem d4_19 : decode prog_46_method_2_code 19 = .ok (.arraylength, 1) := by decide +kernel
theorem d4_20 : decode prog_46_method_2_code 20 = .ok (.imul, 1) := by decide +kernel
theorem d4_21 : decode prog_46_method_2_code 21 = .ok (.iload_n 1, 1) := by decide +kernel
theorem d4_22 : decode prog_46_method_2_code 22 = .ok (.iconst 1, 1) := by decide +kernel
theorem d4_23 : decode prog_46_method_2_code 23 = .ok (.iadd, 1) := by decide +kernel
theorem d4_24 : decode prog_46_method_2_code 24 = .ok (.invokestatic 13, 3) := by decide +kernel
theorem d4_27 : decode prog_46_method_2_code 27 = .ok (.invokestatic 19, 3) := by decide +kernel
theorem d4_30 : decode prog_46_method_2_code 30 = .ok (.putfield 7, 3) := by decide +kernel
theorem d4_33 : decode prog_46_method_2_code 33 = .ok (.aload_n 0, 1) := by decide +kernel
theorem d4_34 : decode prog_46_method_2_code 34 = .ok (.getfield 25, 3) := by decide +kernel
theorem d4_37 : decode prog_46_method_2_code 37 = .ok (.iload_n 1, 1) := by decide +kernel
theorem d4_38 : decode prog_46_method_2_code 38 = .ok (.if_icmp .ge 25, 3) := by decide +kernel
theorem d4_41 : decode prog_46_method_2_code 41 = .ok (.aload_n 0, 1) := by decide +kernel
theorem d4_42 : decode prog_46_method_2_code 42 = .ok (.getfield 7, 3) := by decide +kernel
theorem d4_45 : decode prog_46_method_2_code 45 = .ok (.aload_n 0, 1) := by decide +kernel
theorem d4_46 : decode prog_46_method_2_code 46 = .ok (.dup, 1) := by decide +kernel
theorem d4_47 : decode prog_46_method_2_code 47 = .ok (.getfield 25, 3) := by decide +kernel
theorem d4_50 : decode prog_46_method_2_code 50 = .ok (.dup_x1, 1) := by decide +kernel
theorem d4_51 : decode prog_46_method_2_code 51 = .ok (.iconst 1, 1) := by decide +kernel
theorem d4_52 : decode prog_46_method_2_code 52 = .ok (.iadd, 1) := by decide +kernel
theorem d4_53 : decode prog_46_method_2_code 53 = .ok (.putfield 25, 3) := by decide +kernel
theorem d4_56 : decode prog_46_method_2_code 56 = .ok (.getstatic 29, 3) := by decide +kernel
theorem d4_59 : decode prog_46_method_2_code 59 = .ok (.aastore, 1) := by decide +kernel
theorem d4_60 : decode prog_46_method_2_code 60 = .ok (.goto (-27), 3) := by decide +kernel
theorem d4_63 : decode prog_46_method_2_code 63 = .ok (.aload_n 0, 1) := by decide +kernel
theorem d4_64 : decode prog_46_method_2_code 64 = .ok (.getfield 7, 3) := by decide +kernel
theorem d4_67 : decode prog_46_method_2_code 67 = .ok (.iload_n 1, 1) := by decide +kernel
theorem d4_68 : decode prog_46_method_2_code 68 = .ok (.aload_n 2, 1) := by decide +kernel
theorem d4_69 : decode prog_46_method_2_code 69 = .ok (.aastore, 1) := by decide +kernel
theorem d4_70 : decode prog_46_method_2_code 70 = .ok (.aload_n 0, 1) := by decide +kernel
theorem d4_71 : decode prog_46_method_2_code 71 = .ok (.aload_n 0, 1) := by decide +kernel
theorem d4_72 : decode prog_46_method_2_code 72 = .ok (.getfield 25, 3) := by decide +kernel
theorem d4_75 : decode prog_46_method_2_code 75 = .ok (.iload_n 1, 1) := by decide +kernel
theorem d4_76 : decode prog_46_method_2_code 76 = .ok (.iconst 1, 1) := by decide +kernel
theorem d4_77 : decode prog_46_method_2_code 77 = .ok (.iadd, 1) := by decide +kernel
theorem d4_78 : decode prog_46_method_2_code 78 = .ok (.invokestatic 13, 3) := by decide +kernel
theorem d4_81 : decode prog_46_method_2_code 81 = .ok (.putfield 25, 3) := by decide +kernel
theorem d4_84 : decode prog_46_method_2_code 84 = .ok (.return_, 1) := by decide +kernel
theorem ef_4 (m : MethodId) (a : Addr) (p0 : Int32) (p1 : Value) (hc_p1 : p1.isRef = true) : entryFrame m #[(.ref a), (.int p0), p1] 3 = (mkF m 0 #[.val (.ref a), .val (.int p0), .val p1] []) := by rcases ref_cases hc_p1 with rfl | ⟨y, rfl⟩ <;> first | (simp [entryFrame, mkF, argsToLocals, Value.category, maxLocals]; done) | rfl
def F4_84 (x0 : Int32) (x1 : Value) (g_count : Int32) (g_len : Int32) (g_f : (Nat → Value)) (u : Addr) : Int32 × Int32 × (Nat → Value) := (g_count, g_len, g_f)
def F4_33 (fuel : Nat) (x0 : Int32) (x1 : Value) (g_count : Int32) (g_len : Int32) (g_f : (Nat → Value)) (u : Addr) : Int32 × Int32 × (Nat → Value) := match fuel with
  | 0 => (0, 0, fun _ => .null)
  | n + 1 => (if g_count < x0 then (F4_33 n x0 x1 (g_count + (1 : Int32)) g_len (own_upd g_f (g_count).toNatClampNeg (.ref u)) u) else (F4_84 x0 x1 (F5_0 g_count (x0 + (1 : Int32)) u) g_len (own_upd g_f (x0).toNatClampNeg x1) u))
theorem F4_33_s (n : Nat) (x0 : Int32) (x1 : Value) (g_count : Int32) (g_len : Int32) (g_f : (Nat → Value)) (u : Addr) : F4_33 (n + 1) x0 x1 g_count g_len g_f u = (if g_count < x0 then (F4_33 n x0 x1 (g_count + (1 : Int32)) g_len (own_upd g_f (g_count).toNatClampNeg (.ref u)) u) else (F4_84 x0 x1 (F5_0 g_count (x0 + (1 : Int32)) u) g_len (own_upd g_f (x0).toNatClampNeg x1) u)) := rfl
def F4_0 (x0 : Int32) (x1 : Value) (g_count : Int32) (g_len : Int32) (g_f : (Nat → Value)) (u : Addr) : Int32 × Int32 × (Nat → Value) := (if x0 < g_len then (F4_33 40 x0 x1 g_count g_len g_f u) else (F4_33 40 x0 x1 g_count (F5_0 ((2 : Int32) * g_len) (x0 + (1 : Int32)) u) (own_cp g_len g_f) u))
set_option maxRecDepth 65536 in
set_option maxHeartbeats 40000000 in
theorem rm4 (l : Launch) (Z : State) (a0 : Array Value) (hw : ∀ d ∈ tables_1, d.before a0 Z = true) (mir : Addr) (hm : own_mir Z mir) (a : Addr) (p0 : Int32) (p1 : Value) (g_count : Int32) (g_len : Int32) (g_f : (Nat → Value)) (u : Addr) (va vb : Value) (h0 : Heap) (n0 : Nat) (I : own_I Z n0 h0 a u va vb g_count g_len g_f) (hP : ((0 ≤ p0.toInt ∧ p0.toInt ≤ 31 ∧ own_cl g_count g_len) ∧ (p1 = va ∨ p1 = vb))) :
    own_M l Z (⟨"org/jutewire/bind/Referents", "keep", "(ILjava/lang/Object;)V"⟩ : MethodName) prog_46_method_2_code 3 none ({ frames := 4, cells := 1, slots := 32, locals := 111 } : Room) #[(.ref a), (.int p0), p1] h0 (fun v h L => v = none ∧ Fr n0 L ∧ own_I Z n0 h a u va vb (F4_0 p0 p1 g_count g_len g_f u).1 (F4_0 p0 p1 g_count g_len g_f u).2.1 (F4_0 p0 p1 g_count g_len g_f u).2.2) := by
  refine own_body pn_2 ?_
  intro p e s m below meth c T hx hby hml hown hZ hret hlk hnm X eT
  have N := Fr.nil n0
  replace I : own_I Z n0 T.heap a u va vb g_count g_len g_f := by rw [eT]; exact I
  obtain ⟨w, hF⟩ : ∃ w, w = F4_0 p0 p1 g_count g_len g_f u := ⟨_, rfl⟩
  try rw [← hF]
  generalize hQ : own_Q s (fun v h L => v = none ∧ Fr n0 L ∧ own_I Z n0 h a u va vb w.1 w.2.1 w.2.2) ({ frames := 4, cells := 1, slots := 32, locals := 111 } : Room).cells ({ frames := 4, cells := 1, slots := 32, locals := 111 } : Room).slots = Qq
  refine own_st (fun _ k => castTop (ef_4 m a p0 p1 (own_okv I hP.2)) k) ?_
  clear eT
  have B84 : ∀ (T : State) (L : List Loc) (x0 : Int32) (x1 : Value) (g_count : Int32) (g_len : Int32) (g_f : (Nat → Value)), Stand p l e ({ frames := 4, cells := 1, slots := 32, locals := 111 } : Room) s m #[(.ref a), (.int p0), p1] below meth c T L 1 32 → own_I Z n0 T.heap a u va vb g_count g_len g_f → x1.isRef = true → Fr n0 L → w = F4_84 x0 x1 g_count g_len g_f u → own_E p e below Qq T (mkF m 84 #[.val (.ref a), .val (.int x0), .val x1] []) := by
    intro T L x0 x1 g_count g_len g_f X I hV_x1 N hF
    obtain ⟨b1, J⟩ := I
    rw [← hQ]
    exact own_retV X hx hlk hret (hb hby d4_84) (by decide) (by decide) ⟨rfl, N, (by first | (rw [hF]; exact ⟨_, J⟩) | exact ⟨_, J⟩)⟩
  have B33 : ∀ (fuel : Nat) (T : State) (L : List Loc) (x0 : Int32) (x1 : Value) (g_count : Int32) (g_len : Int32) (g_f : (Nat → Value)), Stand p l e ({ frames := 4, cells := 1, slots := 32, locals := 111 } : Room) s m #[(.ref a), (.int p0), p1] below meth c T L 1 32 → own_I Z n0 T.heap a u va vb g_count g_len g_f → x1.isRef = true → Fr n0 L → w = F4_33 fuel x0 x1 g_count g_len g_f u → ((0 ≤ x0.toInt ∧ x0.toInt ≤ 31 ∧ own_cl g_count g_len ∧ x0 < g_len) ∧ (x1 = va ∨ x1 = vb) ∧ x0.toInt - g_count.toInt < (fuel : Int) ∧ 0 < fuel) → own_E p e below Qq T (mkF m 33 #[.val (.ref a), .val (.int x0), .val x1] []) := by
    intro fuel
    induction fuel with
    | zero => intro T L x0 x1 g_count g_len g_f X I hV_x1 N hF hP; exact absurd hP.2.2.2 (Nat.lt_irrefl 0)
    | succ n ih =>
      intro T L x0 x1 g_count g_len g_f X I hV_x1 N hF hP
      replace hF := hF.trans (F4_33_s n x0 x1 g_count g_len g_f u)
      obtain ⟨b2, J⟩ := I
      refine own_st (fun _ => XS.aloadN X.here hx rfl (hb hby d4_33) rfl rfl) ?_
      show own_E p e below Qq T (mkF m 34 #[.val (.ref a), .val (.int x0), .val x1] [(.ref a)])
      obtain ⟨T3, X3, e3, st3⟩ := getF X hx hZ hown (host := "") (Or.inl (hw _ (List.mem_of_getElem? (i := 24) rfl))) Via.refl rfl (own_Jg_count J) (g := (mkF m 34 #[.val (.ref a), .val (.int x0), .val x1] [(.ref a)])) rfl rfl (hb hby d4_34)
      refine own_st st3 ?_
      replace J := own_tr (P := fun h => own_J Z n0 h a b2 u va vb g_count g_len g_f) e3 J
      replace X := X3
      clear st3 e3 X3
      show own_E p e below Qq T3 (mkF m 37 #[.val (.ref a), .val (.int x0), .val x1] [(.int g_count)])
      refine own_st (fun _ => XS.iloadN X.here hx rfl (hb hby d4_37) rfl) ?_
      show own_E p e below Qq T3 (mkF m 38 #[.val (.ref a), .val (.int x0), .val x1] [(.int x0), (.int g_count)])
      by_cases q38 : g_count < x0
      · replace hF := hF.trans (if_pos q38)
        refine own_st (fun _ => XS.icmpNo X.here hx rfl (hb hby d4_38) rfl (XT.ii_ge_f q38)) ?_
        show own_E p e below Qq T3 (mkF m 41 #[.val (.ref a), .val (.int x0), .val x1] [])
        refine own_st (fun _ => XS.aloadN X.here hx rfl (hb hby d4_41) rfl rfl) ?_
        show own_E p e below Qq T3 (mkF m 42 #[.val (.ref a), .val (.int x0), .val x1] [(.ref a)])
        obtain ⟨T4, X4, e4, st4⟩ := getF X hx hZ hown (host := "") (Or.inl (hw _ (List.mem_of_getElem? (i := 15) rfl))) Via.refl rfl (own_Jt J) (g := (mkF m 42 #[.val (.ref a), .val (.int x0), .val x1] [(.ref a)])) rfl rfl (hb hby d4_42)
        refine own_st st4 ?_
        replace J := own_tr (P := fun h => own_J Z n0 h a b2 u va vb g_count g_len g_f) e4 J
        replace X := X4
        clear st4 e4 X4
        show own_E p e below Qq T4 (mkF m 45 #[.val (.ref a), .val (.int x0), .val x1] [(.ref b2)])
        refine own_st (fun _ => XS.aloadN X.here hx rfl (hb hby d4_45) rfl rfl) ?_
        show own_E p e below Qq T4 (mkF m 46 #[.val (.ref a), .val (.int x0), .val x1] [(.ref a), (.ref b2)])
        refine own_st (fun _ => XS.dup X.here hx rfl (hb hby d4_46) rfl rfl) ?_
        show own_E p e below Qq T4 (mkF m 47 #[.val (.ref a), .val (.int x0), .val x1] [(.ref a), (.ref a), (.ref b2)])
        obtain ⟨T5, X5, e5, st5⟩ := getF X hx hZ hown (host := "") (Or.inl (hw _ (List.mem_of_getElem? (i := 24) rfl))) Via.refl rfl (own_Jg_count J) (g := (mkF m 47 #[.val (.ref a), .val (.int x0), .val x1] [(.ref a), (.ref a), (.ref b2)])) rfl rfl (hb hby d4_47)
        refine own_st st5 ?_
        replace J := own_tr (P := fun h => own_J Z n0 h a b2 u va vb g_count g_len g_f) e5 J
        replace X := X5
        clear st5 e5 X5
        show own_E p e below Qq T5 (mkF m 50 #[.val (.ref a), .val (.int x0), .val x1] [(.int g_count), (.ref a), (.ref b2)])
        refine own_st (fun _ => XT.dupX1 X.here hx rfl (hb hby d4_50) rfl rfl rfl) ?_
        show own_E p e below Qq T5 (mkF m 51 #[.val (.ref a), .val (.int x0), .val x1] [(.int g_count), (.ref a), (.int g_count), (.ref b2)])
        refine own_st (fun _ => XS.iconst X.here hx rfl (hb hby d4_51)) ?_
        show own_E p e below Qq T5 (mkF m 52 #[.val (.ref a), .val (.int x0), .val x1] [(.int (1 : Int32)), (.int g_count), (.ref a), (.int g_count), (.ref b2)])
        refine own_st (fun _ => XS.iadd X.here hx rfl (hb hby d4_52) rfl) ?_
        show own_E p e below Qq T5 (mkF m 53 #[.val (.ref a), .val (.int x0), .val x1] [(.int (g_count + (1 : Int32))), (.ref a), (.int g_count), (.ref b2)])
        obtain ⟨T6, h6, X6, e6, W6, st6⟩ := putF X hx hZ hown (host := "") (Or.inl (hw _ (List.mem_of_getElem? (i := 24) rfl))) Via.refl rfl (own_Jg_count J) (own_Jex J) (Or.inl (hw _ (List.mem_of_getElem? (i := 25) rfl))) (hw _ (List.mem_of_getElem? (i := 7) rfl)) (ty := .int) (by decide) rfl rfl (g := (mkF m 53 #[.val (.ref a), .val (.int x0), .val x1] [(.int (g_count + (1 : Int32))), (.ref a), (.int g_count), (.ref b2)])) rfl rfl (hb hby d4_53)
        subst e6
        refine own_st st6 ?_
        replace N := Fr.snoc X6 N (own_Jna J)
        replace J := own_Js_count hw W6 J
        replace X := X6
        clear st6 X6
        show own_E p e below Qq T6 (mkF m 56 #[.val (.ref a), .val (.int x0), .val x1] [(.int g_count), (.ref b2)])
        obtain ⟨T7, X7, e7, st7⟩ := getS X hx hZ hown (hw _ (List.mem_of_getElem? (i := 26) rfl)) Via.refl rfl (own_Jsta J) (host := "") (g := (mkF m 56 #[.val (.ref a), .val (.int x0), .val x1] [(.int g_count), (.ref b2)])) rfl (hb hby d4_56)
        refine own_st st7 ?_
        replace J := own_tr (P := fun h => own_J Z n0 h a b2 u va vb (g_count + (1 : Int32)) g_len g_f) e7 J
        replace X := X7
        clear st7 e7 X7
        show own_E p e below Qq T7 (mkF m 59 #[.val (.ref a), .val (.int x0), .val x1] [(.ref u), (.int g_count), (.ref b2)])
        obtain ⟨T8, X8, J8, st8⟩ := own_aastore X hx hZ J (j := g_count) ⟨own_k4 hP q38, own_Joku J⟩ (g := (mkF m 59 #[.val (.ref a), .val (.int x0), .val x1] [(.ref u), (.int g_count), (.ref b2)])) rfl rfl (hb hby d4_59)
        refine own_st st8 ?_
        replace N := Fr.snoc X8 N (own_Jnb J)
        replace X := X8
        replace J := J8
        clear st8 X8 J8
        show own_E p e below Qq T8 (mkF m 60 #[.val (.ref a), .val (.int x0), .val x1] [])
        refine own_st (fun _ => XS.goto X.here hx rfl (pc0 := 60) (pc' := 33) rfl (hb hby d4_60) (by decide) (by decide)) ?_
        show own_E p e below Qq T8 (mkF m 33 #[.val (.ref a), .val (.int x0), .val x1] [])
        exact ih _ _ x0 x1 (g_count + (1 : Int32)) g_len (own_upd g_f (g_count).toNatClampNeg (.ref u)) X ⟨_, J⟩ hV_x1 N hF (own_k2 hP q38)
      · replace hF := hF.trans (if_neg q38)
        refine own_st (fun _ => XS.icmpYes X.here hx rfl (pc0 := 38) (pc' := 63) rfl (hb hby d4_38) rfl (XT.ii_ge_t q38) (by decide) (by decide)) ?_
        show own_E p e below Qq T3 (mkF m 63 #[.val (.ref a), .val (.int x0), .val x1] [])
        refine own_st (fun _ => XS.aloadN X.here hx rfl (hb hby d4_63) rfl rfl) ?_
        show own_E p e below Qq T3 (mkF m 64 #[.val (.ref a), .val (.int x0), .val x1] [(.ref a)])
        obtain ⟨T9, X9, e9, st9⟩ := getF X hx hZ hown (host := "") (Or.inl (hw _ (List.mem_of_getElem? (i := 15) rfl))) Via.refl rfl (own_Jt J) (g := (mkF m 64 #[.val (.ref a), .val (.int x0), .val x1] [(.ref a)])) rfl rfl (hb hby d4_64)
        refine own_st st9 ?_
        replace J := own_tr (P := fun h => own_J Z n0 h a b2 u va vb g_count g_len g_f) e9 J
        replace X := X9
        clear st9 e9 X9
        show own_E p e below Qq T9 (mkF m 67 #[.val (.ref a), .val (.int x0), .val x1] [(.ref b2)])
        refine own_st (fun _ => XS.iloadN X.here hx rfl (hb hby d4_67) rfl) ?_
        show own_E p e below Qq T9 (mkF m 68 #[.val (.ref a), .val (.int x0), .val x1] [(.int x0), (.ref b2)])
        refine own_st (fun _ => XS.aloadN X.here hx rfl (hb hby d4_68) rfl hV_x1) ?_
        show own_E p e below Qq T9 (mkF m 69 #[.val (.ref a), .val (.int x0), .val x1] [x1, (.int x0), (.ref b2)])
        obtain ⟨T10, X10, J10, st10⟩ := own_aastore X hx hZ J (j := x0) ⟨own_k5 hP, own_Jokv J hP.2.1⟩ (g := (mkF m 69 #[.val (.ref a), .val (.int x0), .val x1] [x1, (.int x0), (.ref b2)])) rfl rfl (hb hby d4_69)
        refine own_st st10 ?_
        replace N := Fr.snoc X10 N (own_Jnb J)
        replace X := X10
        replace J := J10
        clear st10 X10 J10
        show own_E p e below Qq T10 (mkF m 70 #[.val (.ref a), .val (.int x0), .val x1] [])
        refine own_st (fun _ => XS.aloadN X.here hx rfl (hb hby d4_70) rfl rfl) ?_
        show own_E p e below Qq T10 (mkF m 71 #[.val (.ref a), .val (.int x0), .val x1] [(.ref a)])
        refine own_st (fun _ => XS.aloadN X.here hx rfl (hb hby d4_71) rfl rfl) ?_
        show own_E p e below Qq T10 (mkF m 72 #[.val (.ref a), .val (.int x0), .val x1] [(.ref a), (.ref a)])
        obtain ⟨T11, X11, e11, st11⟩ := getF X hx hZ hown (host := "") (Or.inl (hw _ (List.mem_of_getElem? (i := 24) rfl))) Via.refl rfl (own_Jg_count J) (g := (mkF m 72 #[.val (.ref a), .val (.int x0), .val x1] [(.ref a), (.ref a)])) rfl rfl (hb hby d4_72)
        refine own_st st11 ?_
        replace J := own_tr (P := fun h => own_J Z n0 h a b2 u va vb g_count g_len (own_upd g_f (x0).toNatClampNeg x1)) e11 J
        replace X := X11
        clear st11 e11 X11
        show own_E p e below Qq T11 (mkF m 75 #[.val (.ref a), .val (.int x0), .val x1] [(.int g_count), (.ref a)])
        refine own_st (fun _ => XS.iloadN X.here hx rfl (hb hby d4_75) rfl) ?_
        show own_E p e below Qq T11 (mkF m 76 #[.val (.ref a), .val (.int x0), .val x1] [(.int x0), (.int g_count), (.ref a)])
        refine own_st (fun _ => XS.iconst X.here hx rfl (hb hby d4_76)) ?_
        show own_E p e below Qq T11 (mkF m 77 #[.val (.ref a), .val (.int x0), .val x1] [(.int (1 : Int32)), (.int x0), (.int g_count), (.ref a)])
        refine own_st (fun _ => XS.iadd X.here hx rfl (hb hby d4_77) rfl) ?_
        show own_E p e below Qq T11 (mkF m 78 #[.val (.ref a), .val (.int x0), .val x1] [(.int (x0 + (1 : Int32))), (.int g_count), (.ref a)])
        refine own_callS X hx hZ hown (hw _ (List.mem_of_getElem? (i := 33) rfl)) (hw _ (List.mem_of_getElem? (i := 34) rfl)) (hw _ (List.mem_of_getElem? (i := 35) rfl)) (hw _ (List.mem_of_getElem? (i := 36) rfl)) (by decide) (W := 1) (argsL := [(.int g_count), (.int (x0 + (1 : Int32)))]) (rest := [(.ref a)]) (rm5 l Z a0 hw mir hm g_count (x0 + (1 : Int32)) u _ n0) (by decide) (by decide) (by decide) (by decide) rfl (by rw [hml]; rfl) (lenOf pd_5 rfl) rfl (by show 2 * 0 + _ ≤ _; exact Nat.le_of_eq rfl) (hb hby d4_78) ?_
        intro T12 L12 v X' hq
        obtain ⟨rfl, N', e'⟩ := hq
        replace J := own_tr (P := fun h => own_J Z n0 h a b2 u va vb g_count g_len (own_upd g_f (x0).toNatClampNeg x1)) e' J
        replace N := Fr.app N N'
        replace X : Stand p l e ({ frames := 4, cells := 1, slots := 32, locals := 111 } : Room) s m #[(.ref a), (.int p0), p1] below meth c T12 _ 1 32 := X'
        clear X' N' e'
        show own_E p e below Qq T12 (mkF m 81 #[.val (.ref a), .val (.int x0), .val x1] [(.int (F5_0 g_count (x0 + (1 : Int32)) u)), (.ref a)])
        obtain ⟨T13, h13, X13, e13, W13, st13⟩ := putF X hx hZ hown (host := "") (Or.inl (hw _ (List.mem_of_getElem? (i := 24) rfl))) Via.refl rfl (own_Jg_count J) (own_Jex J) (Or.inl (hw _ (List.mem_of_getElem? (i := 25) rfl))) (hw _ (List.mem_of_getElem? (i := 7) rfl)) (ty := .int) (by decide) rfl rfl (g := (mkF m 81 #[.val (.ref a), .val (.int x0), .val x1] [(.int (F5_0 g_count (x0 + (1 : Int32)) u)), (.ref a)])) rfl rfl (hb hby d4_81)
        subst e13
        refine own_st st13 ?_
        replace N := Fr.snoc X13 N (own_Jna J)
        replace J := own_Js_count hw W13 J
        replace X := X13
        clear st13 X13
        show own_E p e below Qq T13 (mkF m 84 #[.val (.ref a), .val (.int x0), .val x1] [])
        exact B84 _ _ x0 x1 (F5_0 g_count (x0 + (1 : Int32)) u) g_len (own_upd g_f (x0).toNatClampNeg x1) X ⟨_, J⟩ hV_x1 N hF
  show own_E p e below Qq T (mkF m 0 #[.val (.ref a), .val (.int p0), .val p1] [])
  obtain ⟨b14, J⟩ := I
  refine own_st (fun _ => XS.iloadN X.here hx rfl (hb hby d4_0) rfl) ?_
  show own_E p e below Qq T (mkF m 1 #[.val (.ref a), .val (.int p0), .val p1] [(.int p0)])
  refine own_st (fun _ => XS.aloadN X.here hx rfl (hb hby d4_1) rfl rfl) ?_
  show own_E p e below Qq T (mkF m 2 #[.val (.ref a), .val (.int p0), .val p1] [(.ref a), (.int p0)])
  obtain ⟨T15, X15, e15, st15⟩ := getF X hx hZ hown (host := "") (Or.inl (hw _ (List.mem_of_getElem? (i := 15) rfl))) Via.refl rfl (own_Jt J) (g := (mkF m 2 #[.val (.ref a), .val (.int p0), .val p1] [(.ref a), (.int p0)])) rfl rfl (hb hby d4_2)
  refine own_st st15 ?_
  replace J := own_tr (P := fun h => own_J Z n0 h a b14 u va vb g_count g_len g_f) e15 J
  replace X := X15
  clear st15 e15 X15
  show own_E p e below Qq T15 (mkF m 5 #[.val (.ref a), .val (.int p0), .val p1] [(.ref b14), (.int p0)])
  refine own_st (fun _ hr => own_alen (g := (mkF m 5 #[.val (.ref a), .val (.int p0), .val p1] [(.ref b14), (.int p0)])) X hx hZ (own_Jr J) rfl rfl (hb hby d4_5) hr) ?_
  show own_E p e below Qq T15 (mkF m 6 #[.val (.ref a), .val (.int p0), .val p1] [(.int g_len), (.int p0)])
  by_cases q6 : p0 < g_len
  · replace hF := hF.trans (if_pos q6)
    refine own_st (fun _ => XS.icmpYes X.here hx rfl (pc0 := 6) (pc' := 33) rfl (hb hby d4_6) rfl (XT.ii_lt_t q6) (by decide) (by decide)) ?_
    show own_E p e below Qq T15 (mkF m 33 #[.val (.ref a), .val (.int p0), .val p1] [])
    exact B33 40 _ _ p0 p1 g_count g_len g_f (X.more (by decide) (by decide)) ⟨_, J⟩ (own_okref (own_Jokv J hP.2)) N hF (by first | exact own_k0 hP q6 | exact own_k1 hP q6)
  · replace hF := hF.trans (if_neg q6)
    refine own_st (fun _ => XS.icmpNo X.here hx rfl (hb hby d4_6) rfl (XT.ii_lt_f q6)) ?_
    show own_E p e below Qq T15 (mkF m 9 #[.val (.ref a), .val (.int p0), .val p1] [])
    refine own_st (fun _ => XS.aloadN X.here hx rfl (hb hby d4_9) rfl rfl) ?_
    show own_E p e below Qq T15 (mkF m 10 #[.val (.ref a), .val (.int p0), .val p1] [(.ref a)])
    refine own_st (fun _ => XS.aloadN X.here hx rfl (hb hby d4_10) rfl rfl) ?_
    show own_E p e below Qq T15 (mkF m 11 #[.val (.ref a), .val (.int p0), .val p1] [(.ref a), (.ref a)])
    obtain ⟨T16, X16, e16, st16⟩ := getF X hx hZ hown (host := "") (Or.inl (hw _ (List.mem_of_getElem? (i := 15) rfl))) Via.refl rfl (own_Jt J) (g := (mkF m 11 #[.val (.ref a), .val (.int p0), .val p1] [(.ref a), (.ref a)])) rfl rfl (hb hby d4_11)
    refine own_st st16 ?_
    replace J := own_tr (P := fun h => own_J Z n0 h a b14 u va vb g_count g_len g_f) e16 J
    replace X := X16
    clear st16 e16 X16
    show own_E p e below Qq T16 (mkF m 14 #[.val (.ref a), .val (.int p0), .val p1] [(.ref b14), (.ref a)])
    refine own_st (fun _ => XS.iconst X.here hx rfl (hb hby d4_14)) ?_
    show own_E p e below Qq T16 (mkF m 15 #[.val (.ref a), .val (.int p0), .val p1] [(.int (2 : Int32)), (.ref b14), (.ref a)])
    refine own_st (fun _ => XS.aloadN X.here hx rfl (hb hby d4_15) rfl rfl) ?_
    show own_E p e below Qq T16 (mkF m 16 #[.val (.ref a), .val (.int p0), .val p1] [(.ref a), (.int (2 : Int32)), (.ref b14), (.ref a)])
    obtain ⟨T17, X17, e17, st17⟩ := getF X hx hZ hown (host := "") (Or.inl (hw _ (List.mem_of_getElem? (i := 15) rfl))) Via.refl rfl (own_Jt J) (g := (mkF m 16 #[.val (.ref a), .val (.int p0), .val p1] [(.ref a), (.int (2 : Int32)), (.ref b14), (.ref a)])) rfl rfl (hb hby d4_16)
    refine own_st st17 ?_
    replace J := own_tr (P := fun h => own_J Z n0 h a b14 u va vb g_count g_len g_f) e17 J
    replace X := X17
    clear st17 e17 X17
    show own_E p e below Qq T17 (mkF m 19 #[.val (.ref a), .val (.int p0), .val p1] [(.ref b14), (.int (2 : Int32)), (.ref b14), (.ref a)])
    refine own_st (fun _ hr => own_alen (g := (mkF m 19 #[.val (.ref a), .val (.int p0), .val p1] [(.ref b14), (.int (2 : Int32)), (.ref b14), (.ref a)])) X hx hZ (own_Jr J) rfl rfl (hb hby d4_19) hr) ?_
    show own_E p e below Qq T17 (mkF m 20 #[.val (.ref a), .val (.int p0), .val p1] [(.int g_len), (.int (2 : Int32)), (.ref b14), (.ref a)])
    refine own_st (fun _ => XS.imul X.here hx rfl (hb hby d4_20) rfl) ?_
    show own_E p e below Qq T17 (mkF m 21 #[.val (.ref a), .val (.int p0), .val p1] [(.int ((2 : Int32) * g_len)), (.ref b14), (.ref a)])
    refine own_st (fun _ => XS.iloadN X.here hx rfl (hb hby d4_21) rfl) ?_
    show own_E p e below Qq T17 (mkF m 22 #[.val (.ref a), .val (.int p0), .val p1] [(.int p0), (.int ((2 : Int32) * g_len)), (.ref b14), (.ref a)])
    refine own_st (fun _ => XS.iconst X.here hx rfl (hb hby d4_22)) ?_
    show own_E p e below Qq T17 (mkF m 23 #[.val (.ref a), .val (.int p0), .val p1] [(.int (1 : Int32)), (.int p0), (.int ((2 : Int32) * g_len)), (.ref b14), (.ref a)])
    refine own_st (fun _ => XS.iadd X.here hx rfl (hb hby d4_23) rfl) ?_
    show own_E p e below Qq T17 (mkF m 24 #[.val (.ref a), .val (.int p0), .val p1] [(.int (p0 + (1 : Int32))), (.int ((2 : Int32) * g_len)), (.ref b14), (.ref a)])
    refine own_callS X hx hZ hown (hw _ (List.mem_of_getElem? (i := 33) rfl)) (hw _ (List.mem_of_getElem? (i := 34) rfl)) (hw _ (List.mem_of_getElem? (i := 35) rfl)) (hw _ (List.mem_of_getElem? (i := 36) rfl)) (by decide) (W := 2) (argsL := [(.int ((2 : Int32) * g_len)), (.int (p0 + (1 : Int32)))]) (rest := [(.ref b14), (.ref a)]) (rm5 l Z a0 hw mir hm ((2 : Int32) * g_len) (p0 + (1 : Int32)) u _ n0) (by decide) (by decide) (by decide) (by decide) rfl (by rw [hml]; rfl) (lenOf pd_5 rfl) rfl (by show 2 * 0 + _ ≤ _; exact Nat.le_of_eq rfl) (hb hby d4_24) ?_
    intro T18 L18 v X' hq
    obtain ⟨rfl, N', e'⟩ := hq
    replace J := own_tr (P := fun h => own_J Z n0 h a b14 u va vb g_count g_len g_f) e' J
    replace N := Fr.app N N'
    replace X : Stand p l e ({ frames := 4, cells := 1, slots := 32, locals := 111 } : Room) s m #[(.ref a), (.int p0), p1] below meth c T18 _ 0 0 := X'
    clear X' N' e'
    show own_E p e below Qq T18 (mkF m 27 #[.val (.ref a), .val (.int p0), .val p1] [(.int (F5_0 ((2 : Int32) * g_len) (p0 + (1 : Int32)) u)), (.ref b14), (.ref a)])
    have lt19 := (own_Jex J).lt
    have nl := (own_Jr J).1
    refine own_callS X hx hZ hown (hw _ (List.mem_of_getElem? (i := 37) rfl)) (hw _ (List.mem_of_getElem? (i := 38) rfl)) (hw _ (List.mem_of_getElem? (i := 39) rfl)) (hw _ (List.mem_of_getElem? (i := 40) rfl)) (by decide) (W := 1) (argsL := [(.ref b14), (.int (F5_0 ((2 : Int32) * g_len) (p0 + (1 : Int32)) u))]) (rest := [(.ref a)]) (rm6 l Z a0 hw mir hm b14 (F5_0 ((2 : Int32) * g_len) (p0 + (1 : Int32)) u) g_len g_f _ n0 (own_Jsz J) (own_Jr J) (own_k3 hP q6)) (by decide) (by decide) (by decide) (by decide) rfl (by rw [hml]; rfl) (lenOf pd_6 rfl) rfl (by show 2 * 0 + _ ≤ _; exact Nat.le_of_eq rfl) (hb hby d4_27) ?_
    intro T19 L19 v X' hq
    obtain ⟨b19, rfl, N', E19, hb19, R19⟩ := hq
    replace J := own_Jext E19 J
    replace N := Fr.app N N'
    replace X : Stand p l e ({ frames := 4, cells := 1, slots := 32, locals := 111 } : Room) s m #[(.ref a), (.int p0), p1] below meth c T19 _ 1 32 := X'
    clear X' N'
    show own_E p e below Qq T19 (mkF m 30 #[.val (.ref a), .val (.int p0), .val p1] [(.ref b19), (.ref a)])
    obtain ⟨T20, h20, X20, e20, W20, st20⟩ := putF X hx hZ hown (host := "") (Or.inl (hw _ (List.mem_of_getElem? (i := 15) rfl))) Via.refl rfl (own_Jt J) (own_Jex J) (Or.inl (hw _ (List.mem_of_getElem? (i := 16) rfl))) (hw _ (List.mem_of_getElem? (i := 7) rfl)) (ty := (.array (.object "java/lang/Object"))) (by decide) rfl rfl (g := (mkF m 30 #[.val (.ref a), .val (.int p0), .val p1] [(.ref b19), (.ref a)])) rfl rfl (hb hby d4_30)
    subst e20
    refine own_st st20 ?_
    replace N := Fr.snoc X20 N (own_Jna J)
    replace J := own_Jnew hw W20 J R19 lt19 hb19
    replace X := X20
    clear st20 X20 R19
    show own_E p e below Qq T20 (mkF m 33 #[.val (.ref a), .val (.int p0), .val p1] [])
    exact B33 40 _ _ p0 p1 g_count (F5_0 ((2 : Int32) * g_len) (p0 + (1 : Int32)) u) (own_cp g_len g_f) X ⟨_, J⟩ (own_okref (own_Jokv J hP.2)) N hF (by first | exact own_k0 hP q6 | exact own_k1 hP q6)
theorem pd_3 : parseMethodDescriptor "(I)Ljava/lang/Object;" = some ⟨[.int], some (.object "java/lang/Object")⟩ := by decide +kernel
theorem d3_0 : decode prog_46_method_3_code 0 = .ok (.iload_n 1, 1) := by decide +kernel
theorem d3_1 : decode prog_46_method_3_code 1 = .ok (.aload_n 0, 1) := by decide +kernel
theorem d3_2 : decode prog_46_method_3_code 2 = .ok (.getfield 25, 3) := by decide +kernel
theorem d3_5 : decode prog_46_method_3_code 5 = .ok (.if_icmp .ge 12, 3) := by decide +kernel
theorem d3_8 : decode prog_46_method_3_code 8 = .ok (.aload_n 0, 1) := by decide +kernel
theorem d3_9 : decode prog_46_method_3_code 9 = .ok (.getfield 7, 3) := by decide +kernel
theorem d3_12 : decode prog_46_method_3_code 12 = .ok (.iload_n 1, 1) := by decide +kernel
theorem d3_13 : decode prog_46_method_3_code 13 = .ok (.aaload, 1) := by decide +kernel
theorem d3_14 : decode prog_46_method_3_code 14 = .ok (.goto 6, 3) := by decide +kernel
theorem d3_17 : decode prog_46_method_3_code 17 = .ok (.getstatic 29, 3) := by decide +kernel
theorem d3_20 : decode prog_46_method_3_code 20 = .ok (.areturn, 1) := by decide +kernel
theorem ef_3 (m : MethodId) (a : Addr) (p0 : Int32) : entryFrame m #[(.ref a), (.int p0)] 2 = (mkF m 0 #[.val (.ref a), .val (.int p0)] []) := by first | (simp [entryFrame, mkF, argsToLocals, Value.category, maxLocals]; done) | rfl
def F3_20 (x0 : Int32) (y1 : Value) (g_count : Int32) (g_len : Int32) (g_f : (Nat → Value)) (u : Addr) : Value := y1
def F3_0 (x0 : Int32) (g_count : Int32) (g_len : Int32) (g_f : (Nat → Value)) (u : Addr) : Value := (if x0 < g_count then (F3_20 x0 (g_f (x0).toNatClampNeg) g_count g_len g_f u) else (F3_20 x0 (.ref u) g_count g_len g_f u))
set_option maxRecDepth 65536 in
set_option maxHeartbeats 40000000 in
theorem rm3 (l : Launch) (Z : State) (a0 : Array Value) (hw : ∀ d ∈ tables_1, d.before a0 Z = true) (mir : Addr) (hm : own_mir Z mir) (a : Addr) (p0 : Int32) (g_count : Int32) (g_len : Int32) (g_f : (Nat → Value)) (u : Addr) (va vb : Value) (h0 : Heap) (n0 : Nat) (I : own_I Z n0 h0 a u va vb g_count g_len g_f) (hP : (0 ≤ p0.toInt ∧ own_cl g_count g_len)) :
    own_M l Z (⟨"org/jutewire/bind/Referents", "get", "(I)Ljava/lang/Object;"⟩ : MethodName) prog_46_method_3_code 2 (some (.object "java/lang/Object")) ({ frames := 0, cells := 0, slots := 0, locals := 0 } : Room) #[(.ref a), (.int p0)] h0 (fun v h L => v = some (F3_0 p0 g_count g_len g_f u) ∧ Fr n0 L ∧ own_I Z n0 h a u va vb g_count g_len g_f) := by
  refine own_body pn_2 ?_
  intro p e s m below meth c T hx hby hml hown hZ hret hlk hnm X eT
  have N := Fr.nil n0
  replace I : own_I Z n0 T.heap a u va vb g_count g_len g_f := by rw [eT]; exact I
  obtain ⟨w, hF⟩ : ∃ w, w = F3_0 p0 g_count g_len g_f u := ⟨_, rfl⟩
  try rw [← hF]
  generalize hQ : own_Q s (fun v h L => v = some w ∧ Fr n0 L ∧ own_I Z n0 h a u va vb g_count g_len g_f) ({ frames := 0, cells := 0, slots := 0, locals := 0 } : Room).cells ({ frames := 0, cells := 0, slots := 0, locals := 0 } : Room).slots = Qq
  refine own_st (fun _ k => castTop (ef_3 m a p0) k) ?_
  clear eT
  have B20 : ∀ (T : State) (L : List Loc) (x0 : Int32) (y1 : Value), Stand p l e ({ frames := 0, cells := 0, slots := 0, locals := 0 } : Room) s m #[(.ref a), (.int p0)] below meth c T L 0 0 → own_I Z n0 T.heap a u va vb g_count g_len g_f → y1.isRef = true → Fr n0 L → w = F3_20 x0 y1 g_count g_len g_f u → own_E p e below Qq T (mkF m 20 #[.val (.ref a), .val (.int x0)] [y1]) := by
    intro T L x0 y1 X I hV_y1 N hF
    obtain ⟨b1, J⟩ := I
    rw [← hQ]
    exact own_retA X hx hlk hret rfl hV_y1 rfl (hb hby d3_20) (by decide) (by decide) ⟨by (rw [hF]; try rfl), N, (by first | (rw [hF]; exact ⟨_, J⟩) | exact ⟨_, J⟩)⟩
  show own_E p e below Qq T (mkF m 0 #[.val (.ref a), .val (.int p0)] [])
  obtain ⟨b2, J⟩ := I
  refine own_st (fun _ => XS.iloadN X.here hx rfl (hb hby d3_0) rfl) ?_
  show own_E p e below Qq T (mkF m 1 #[.val (.ref a), .val (.int p0)] [(.int p0)])
  refine own_st (fun _ => XS.aloadN X.here hx rfl (hb hby d3_1) rfl rfl) ?_
  show own_E p e below Qq T (mkF m 2 #[.val (.ref a), .val (.int p0)] [(.ref a), (.int p0)])
  obtain ⟨T3, X3, e3, st3⟩ := getF X hx hZ hown (host := "") (Or.inl (hw _ (List.mem_of_getElem? (i := 24) rfl))) Via.refl rfl (own_Jg_count J) (g := (mkF m 2 #[.val (.ref a), .val (.int p0)] [(.ref a), (.int p0)])) rfl rfl (hb hby d3_2)
  refine own_st st3 ?_
  replace J := own_tr (P := fun h => own_J Z n0 h a b2 u va vb g_count g_len g_f) e3 J
  replace X := X3
  clear st3 e3 X3
  show own_E p e below Qq T3 (mkF m 5 #[.val (.ref a), .val (.int p0)] [(.int g_count), (.int p0)])
  by_cases q5 : p0 < g_count
  · replace hF := hF.trans (if_pos q5)
    refine own_st (fun _ => XS.icmpNo X.here hx rfl (hb hby d3_5) rfl (XT.ii_ge_f q5)) ?_
    show own_E p e below Qq T3 (mkF m 8 #[.val (.ref a), .val (.int p0)] [])
    refine own_st (fun _ => XS.aloadN X.here hx rfl (hb hby d3_8) rfl rfl) ?_
    show own_E p e below Qq T3 (mkF m 9 #[.val (.ref a), .val (.int p0)] [(.ref a)])
    obtain ⟨T4, X4, e4, st4⟩ := getF X hx hZ hown (host := "") (Or.inl (hw _ (List.mem_of_getElem? (i := 15) rfl))) Via.refl rfl (own_Jt J) (g := (mkF m 9 #[.val (.ref a), .val (.int p0)] [(.ref a)])) rfl rfl (hb hby d3_9)
    refine own_st st4 ?_
    replace J := own_tr (P := fun h => own_J Z n0 h a b2 u va vb g_count g_len g_f) e4 J
    replace X := X4
    clear st4 e4 X4
    show own_E p e below Qq T4 (mkF m 12 #[.val (.ref a), .val (.int p0)] [(.ref b2)])
    refine own_st (fun _ => XS.iloadN X.here hx rfl (hb hby d3_12) rfl) ?_
    show own_E p e below Qq T4 (mkF m 13 #[.val (.ref a), .val (.int p0)] [(.int p0), (.ref b2)])
    refine own_st (fun _ hr => own_aaload (g := (mkF m 13 #[.val (.ref a), .val (.int p0)] [(.int p0), (.ref b2)])) X hx hZ (own_Jr J) (j := p0) (own_g0 hP q5) rfl rfl (hb hby d3_13) hr) ?_
    show own_E p e below Qq T4 (mkF m 14 #[.val (.ref a), .val (.int p0)] [(g_f (p0).toNatClampNeg)])
    refine own_st (fun _ => XS.goto X.here hx rfl (pc0 := 14) (pc' := 20) rfl (hb hby d3_14) (by decide) (by decide)) ?_
    show own_E p e below Qq T4 (mkF m 20 #[.val (.ref a), .val (.int p0)] [(g_f (p0).toNatClampNeg)])
    exact B20 _ _ p0 (g_f (p0).toNatClampNeg) X ⟨_, J⟩ (own_okref (own_Rok (own_Jr J) (own_g0 hP q5))) N hF
  · replace hF := hF.trans (if_neg q5)
    refine own_st (fun _ => XS.icmpYes X.here hx rfl (pc0 := 5) (pc' := 17) rfl (hb hby d3_5) rfl (XT.ii_ge_t q5) (by decide) (by decide)) ?_
    show own_E p e below Qq T3 (mkF m 17 #[.val (.ref a), .val (.int p0)] [])
    obtain ⟨T5, X5, e5, st5⟩ := getS X hx hZ hown (hw _ (List.mem_of_getElem? (i := 26) rfl)) Via.refl rfl (own_Jsta J) (host := "") (g := (mkF m 17 #[.val (.ref a), .val (.int p0)] [])) rfl (hb hby d3_17)
    refine own_st st5 ?_
    replace J := own_tr (P := fun h => own_J Z n0 h a b2 u va vb g_count g_len g_f) e5 J
    replace X := X5
    clear st5 e5 X5
    show own_E p e below Qq T5 (mkF m 20 #[.val (.ref a), .val (.int p0)] [(.ref u)])
    exact B20 _ _ p0 (.ref u) X ⟨_, J⟩ rfl N hF
theorem pn_0 : plainName "org/jutewire/bind/ReferentsGetPinLaw" = true := by first | (simp [plainName, overriddenIn]; done) | decide +kernel
theorem ef_0 (m : MethodId) (p0 : Int32) (p1 : Int32) (p2 : Int32) (p3 : Int32) : entryFrame m #[(.int p0), (.int p1), (.int p2), (.int p3)] maxLocals = (mkF m 0 #[.val (.int p0), .val (.int p1), .val (.int p2), .val (.int p3), .unset, .unset, .unset, .unset, .unset, .unset, .unset, .unset, .unset, .unset] []) := by first | (simp [entryFrame, mkF, argsToLocals, Value.category, maxLocals]; done) | rfl
def F0_183 (x0 : Int32) (x1 : Int32) (x2 : Int32) (x3 : Int32) (x4 : Int32) (x5 : Int32) (x6 : Int32) (x7 : Int32) (x8 : Int32) (x9 : Int32) (x10 : Addr) (x11 : Value) (x12 : Value) (y13 : Int32) (g_count : Int32) (g_len : Int32) (g_f : (Nat → Value)) (u : Addr) : Int32 := (nar .boolean y13)
def F0_173 (x0 : Int32) (x1 : Int32) (x2 : Int32) (x3 : Int32) (x4 : Int32) (x5 : Int32) (x6 : Int32) (x7 : Int32) (x8 : Int32) (x9 : Int32) (x10 : Addr) (x11 : Value) (x12 : Value) (y13 : Value) (g_count : Int32) (g_len : Int32) (g_f : (Nat → Value)) (u : Addr) : Int32 := (if (y13 : Value) = x12 then (F0_183 x0 x1 x2 x3 x4 x5 x6 x7 x8 x9 x10 x11 x12 (1 : Int32) g_count g_len g_f u) else (F0_183 x0 x1 x2 x3 x4 x5 x6 x7 x8 x9 x10 x11 x12 (0 : Int32) g_count g_len g_f u))
def F0_166 (x0 : Int32) (x1 : Int32) (x2 : Int32) (x3 : Int32) (x4 : Int32) (x5 : Int32) (x6 : Int32) (x7 : Int32) (x8 : Int32) (x9 : Int32) (x10 : Addr) (x11 : Value) (x12 : Value) (g_count : Int32) (g_len : Int32) (g_f : (Nat → Value)) (u : Addr) : Int32 := (F0_173 x0 x1 x2 x3 x4 x5 x6 x7 x8 x9 x10 x11 x12 (F3_0 x9 g_count g_len g_f u) g_count g_len g_f u)
def F0_150 (x0 : Int32) (x1 : Int32) (x2 : Int32) (x3 : Int32) (x4 : Int32) (x5 : Int32) (x6 : Int32) (x7 : Int32) (x8 : Int32) (x9 : Int32) (x10 : Addr) (x11 : Value) (x12 : Addr) (g_count : Int32) (g_len : Int32) (g_f : (Nat → Value)) (u : Addr) : Int32 := (if x5 = (0 : Int32) then (F0_166 x0 x1 x2 x3 x4 x5 x6 x7 x8 x9 x10 x11 (.ref x12) g_count g_len g_f u) else (if x9 = x8 then (F0_166 x0 x1 x2 x3 x4 x5 x6 x7 x8 x9 x10 x11 x11 g_count g_len g_f u) else (F0_166 x0 x1 x2 x3 x4 x5 x6 x7 x8 x9 x10 x11 (.ref x12) g_count g_len g_f u)))
def F0_129 (x0 : Int32) (x1 : Int32) (x2 : Int32) (x3 : Int32) (x4 : Int32) (x5 : Int32) (x6 : Int32) (x7 : Int32) (x8 : Int32) (x9 : Int32) (x10 : Addr) (x11 : Value) (g_count : Int32) (g_len : Int32) (g_f : (Nat → Value)) (u : Addr) : Int32 := (if x4 = (0 : Int32) then (F0_150 x0 x1 x2 x3 x4 x5 x6 x7 x8 x9 x10 x11 u g_count g_len g_f u) else (if x9 = x7 then (F0_150 x0 x1 x2 x3 x4 x5 x6 x7 x8 x9 x10 x11 x10 g_count g_len g_f u) else (F0_150 x0 x1 x2 x3 x4 x5 x6 x7 x8 x9 x10 x11 u g_count g_len g_f u)))
def F0_115 (x0 : Int32) (x1 : Int32) (x2 : Int32) (x3 : Int32) (x4 : Int32) (x5 : Int32) (x6 : Int32) (x7 : Int32) (x8 : Int32) (x9 : Int32) (x10 : Addr) (x11 : Value) (g_count : Int32) (g_len : Int32) (g_f : (Nat → Value)) (u : Addr) : Int32 := (if x5 = (0 : Int32) then (F0_129 x0 x1 x2 x3 x4 x5 x6 x7 x8 x9 x10 x11 g_count g_len g_f u) else (F0_129 x0 x1 x2 x3 x4 x5 x6 x7 x8 x9 x10 x11 (F4_0 x8 x11 g_count g_len g_f u).1 (F4_0 x8 x11 g_count g_len g_f u).2.1 (F4_0 x8 x11 g_count g_len g_f u).2.2 u))
def F0_99 (x0 : Int32) (x1 : Int32) (x2 : Int32) (x3 : Int32) (x4 : Int32) (x5 : Int32) (x6 : Int32) (x7 : Int32) (x8 : Int32) (x9 : Int32) (x10 : Addr) (x11 : Value) (g_count : Int32) (g_len : Int32) (g_f : (Nat → Value)) (u : Addr) : Int32 := (if x4 = (0 : Int32) then (F0_115 x0 x1 x2 x3 x4 x5 x6 x7 x8 x9 x10 x11 g_count g_len g_f u) else (F0_115 x0 x1 x2 x3 x4 x5 x6 x7 x8 x9 x10 x11 (F4_0 x7 (.ref x10) g_count g_len g_f u).1 (F4_0 x7 (.ref x10) g_count g_len g_f u).2.1 (F4_0 x7 (.ref x10) g_count g_len g_f u).2.2 u))
def F0_65 (x0 : Int32) (x1 : Int32) (x2 : Int32) (x3 : Int32) (x4 : Int32) (x5 : Int32) (x6 : Int32) (x7 : Int32) (x8 : Int32) (x9 : Int32) (u : Addr) : Int32 := 1
def F0_63 (x0 : Int32) (x1 : Int32) (x2 : Int32) (x3 : Int32) (x4 : Int32) (x5 : Int32) (x6 : Int32) (x7 : Int32) (x8 : Int32) (y9 : Int32) (u : Addr) : Int32 := (F0_65 x0 x1 x2 x3 x4 x5 x6 x7 x8 y9 u)
def F0_37 (x0 : Int32) (x1 : Int32) (x2 : Int32) (x3 : Int32) (x4 : Int32) (x5 : Int32) (y6 : Int32) (u : Addr) : Int32 := (if x3 < (0 : Int32) then (F0_63 x0 x1 x2 x3 x4 x5 y6 (x1 &&& (31 : Int32)) (x2 &&& (31 : Int32)) (x3 &&& (63 : Int32)) u) else (F0_63 x0 x1 x2 x3 x4 x5 y6 (x1 &&& (31 : Int32)) (x2 &&& (31 : Int32)) x3 u))
def F0_24 (x0 : Int32) (x1 : Int32) (x2 : Int32) (x3 : Int32) (x4 : Int32) (y5 : Int32) (u : Addr) : Int32 := (if (x0 &&& (4 : Int32)) = (0 : Int32) then (F0_37 x0 x1 x2 x3 x4 y5 (0 : Int32) u) else (F0_37 x0 x1 x2 x3 x4 y5 (1 : Int32) u))
def F0_11 (x0 : Int32) (x1 : Int32) (x2 : Int32) (x3 : Int32) (y4 : Int32) (u : Addr) : Int32 := (if (x0 &&& (2 : Int32)) = (0 : Int32) then (F0_24 x0 x1 x2 x3 y4 (0 : Int32) u) else (F0_24 x0 x1 x2 x3 y4 (1 : Int32) u))
def F0_0 (x0 : Int32) (x1 : Int32) (x2 : Int32) (x3 : Int32) (u : Addr) : Int32 := (if (x0 &&& (1 : Int32)) = (0 : Int32) then (F0_11 x0 x1 x2 x3 (0 : Int32) u) else (F0_11 x0 x1 x2 x3 (1 : Int32) u))
def own_val (u : Addr) (count : Int32) (f : Nat → Value) (i : Int32) : Value := if i < count then f i.toNatClampNeg else .ref u
theorem own_idx {i m : Int32} (hi : 0 ≤ i.toInt) (hm : 0 ≤ m.toInt) (h : i.toNatClampNeg = m.toNatClampNeg) : i = m := by
  have h' : i.toInt.toNat = m.toInt.toNat := h
  exact Int32.toInt_inj.mp (by omega)
theorem own_33 (n : Int32) (v : Value) (len : Int32) (u : Addr) (hn : 0 ≤ n.toInt ∧ n.toInt ≤ 31) (hl : n < len ∧ (len = 16 ∨ len = 32)) : ∀ (fuel : Nat) (count : Int32) (f : Nat → Value), 0 ≤ count.toInt → count.toInt ≤ len.toInt → n.toInt - count.toInt < (fuel : Int) → 0 < fuel →
    own_cl (F4_33 fuel n v count len f u).1 (F4_33 fuel n v count len f u).2.1 ∧ ∀ i : Int32, 0 ≤ i.toInt → own_val u (F4_33 fuel n v count len f u).1 (F4_33 fuel n v count len f u).2.2 i = if i = n then v else own_val u count f i := by
  intro fuel
  have hl' := hl.1
  rw [Int32.lt_iff_toInt_lt] at hl'
  induction fuel with
  | zero => intro count f h1 h2 h3 h4; exact absurd h4 (Nat.lt_irrefl 0)
  | succ k ih =>
    intro count f h1 h2 h3 h4
    by_cases q : count < n
    · rw [F4_33_s, if_pos q]
      rw [Int32.lt_iff_toInt_lt] at q
      have ac := own_add1 count (by omega)
      obtain ⟨c, w⟩ := ih (count + 1) (own_upd f count.toNatClampNeg (.ref u)) (by omega) (by omega) (by omega) (by omega)
      refine ⟨c, fun i hi => ?_⟩
      rw [w i hi]
      by_cases z : i = n
      · rw [if_pos z, if_pos z]
      · rw [if_neg z, if_neg z]
        show (if i < count + 1 then own_upd f count.toNatClampNeg (.ref u) i.toNatClampNeg else Value.ref u) = if i < count then f i.toNatClampNeg else Value.ref u
        by_cases y : i < count
        · have y' := y
          rw [Int32.lt_iff_toInt_lt] at y'
          have y2 : i < count + 1 := by rw [Int32.lt_iff_toInt_lt]; omega
          rw [if_pos y2, if_pos y]
          exact if_neg (fun e => by have := own_idx hi h1 e; rw [this] at y'; omega)
        · rw [if_neg y]
          rw [Int32.lt_iff_toInt_lt] at y
          by_cases y2 : i < count + 1
          · rw [if_pos y2]
            rw [Int32.lt_iff_toInt_lt] at y2
            have : i = count := Int32.toInt_inj.mp (by omega)
            rw [this]; exact if_pos rfl
          · rw [if_neg y2]
    · rw [F4_33_s, if_neg q]
      rw [Int32.lt_iff_toInt_lt] at q
      have an := own_add1 n (by omega)
      have mx : F5_0 count (n + (1 : Int32)) u = if count < n + 1 then n + 1 else count := by unfold F5_0; split <;> rfl
      rw [F4_84, mx]
      refine ⟨⟨?_, ?_, hl.2⟩, fun i hi => ?_⟩
      · show 0 ≤ (if count < n + 1 then n + 1 else count).toInt
        split <;> omega
      · show (if count < n + 1 then n + 1 else count).toInt ≤ len.toInt
        split <;> omega
      · show (if i < (if count < n + 1 then n + 1 else count) then own_upd f n.toNatClampNeg v i.toNatClampNeg else Value.ref u) = _
        by_cases z : i = n
        · rw [if_pos z, z]
          have y : n < (if count < n + 1 then n + 1 else count) := by
            split
            · rw [Int32.lt_iff_toInt_lt]; omega
            · rename_i y; rw [Int32.lt_iff_toInt_lt] at y ⊢; omega
          rw [if_pos y]; exact if_pos rfl
        · rw [if_neg z]
          have ne : i.toInt ≠ n.toInt := fun e => z (Int32.toInt_inj.mp e)
          have up : own_upd f n.toNatClampNeg v i.toNatClampNeg = f i.toNatClampNeg := if_neg (fun e => z (own_idx hi hn.1 e))
          rw [up]
          show _ = if i < count then f i.toNatClampNeg else Value.ref u
          by_cases y : i < count
          · have y' := y
            rw [Int32.lt_iff_toInt_lt] at y'
            have y2 : i < (if count < n + 1 then n + 1 else count) := by
              split
              · rename_i y3; rw [Int32.lt_iff_toInt_lt] at y3 ⊢; omega
              · exact y
            rw [if_pos y2, if_pos y]
          · have y' := y
            rw [Int32.lt_iff_toInt_lt] at y'
            have y2 : ¬ i < (if count < n + 1 then n + 1 else count) := by
              split
              · rw [Int32.lt_iff_toInt_lt]; omega
              · exact y
            rw [if_neg y2, if_neg y]
theorem own_keep (n : Int32) (v : Value) (count len : Int32) (f : Nat → Value) (u : Addr) (hn : 0 ≤ n.toInt ∧ n.toInt ≤ 31) (hc : own_cl count len) :
    own_cl (F4_0 n v count len f u).1 (F4_0 n v count len f u).2.1 ∧ ∀ i : Int32, 0 ≤ i.toInt → own_val u (F4_0 n v count len f u).1 (F4_0 n v count len f u).2.2 i = if i = n then v else own_val u count f i := by
  obtain ⟨c1, c2, c3⟩ := hc
  by_cases q : n < len
  · have e : F4_0 n v count len f u = F4_33 40 n v count len f u := by rw [F4_0, if_pos q]
    rw [e]
    exact own_33 n v len u hn ⟨q, c3⟩ 40 count f c1 c2 (by omega) (by decide)
  · have e : F4_0 n v count len f u = F4_33 40 n v count (F5_0 ((2 : Int32) * len) (n + (1 : Int32)) u) (own_cp len f) u := by rw [F4_0, if_neg q]
    obtain ⟨rfl, g⟩ := own_gl u hn.1 hn.2 c3 q
    rw [e, g]
    have d16 := own_d16
    have d32 := own_d32
    obtain ⟨k1, k2⟩ := own_33 n v 32 u hn ⟨by rw [Int32.lt_iff_toInt_lt]; omega, Or.inr rfl⟩ 40 count (own_cp 16 f) c1 (by omega) (by omega) (by decide)
    refine ⟨k1, fun i hi => ?_⟩
    rw [k2 i hi]
    have : own_val u count (own_cp 16 f) i = own_val u count f i := by
      show (if i < count then own_cp 16 f i.toNatClampNeg else Value.ref u) = if i < count then f i.toNatClampNeg else Value.ref u
      by_cases y : i < count
      · rw [if_pos y, if_pos y]
        rw [Int32.lt_iff_toInt_lt] at y
        exact if_pos (show i.toInt.toNat < (16 : Int32).toInt.toNat by omega)
      · rw [if_neg y, if_neg y]
    rw [this]
theorem own_get (n count len : Int32) (f : Nat → Value) (u : Addr) : F3_0 n count len f u = own_val u count f n := by
  unfold F3_0 own_val
  split <;> rfl
theorem own_b1 {x7 x8 x9 count len : Int32} {v : Value} {f : Nat → Value} {u : Addr} (h : 0 ≤ x7.toInt ∧ x7.toInt ≤ 31 ∧ 0 ≤ x8.toInt ∧ x8.toInt ≤ 31 ∧ 0 ≤ x9.toInt ∧ own_cl count len) : 0 ≤ x7.toInt ∧ x7.toInt ≤ 31 ∧ 0 ≤ x8.toInt ∧ x8.toInt ≤ 31 ∧ 0 ≤ x9.toInt ∧ own_cl (F4_0 x7 v count len f u).1 (F4_0 x7 v count len f u).2.1 :=
  ⟨h.1, h.2.1, h.2.2.1, h.2.2.2.1, h.2.2.2.2.1, (own_keep x7 v count len f u ⟨h.1, h.2.1⟩ h.2.2.2.2.2).1⟩
theorem own_b2 {x7 x8 x9 count len : Int32} {v : Value} {f : Nat → Value} {u : Addr} (h : 0 ≤ x7.toInt ∧ x7.toInt ≤ 31 ∧ 0 ≤ x8.toInt ∧ x8.toInt ≤ 31 ∧ 0 ≤ x9.toInt ∧ own_cl count len) : 0 ≤ x7.toInt ∧ x7.toInt ≤ 31 ∧ 0 ≤ x8.toInt ∧ x8.toInt ≤ 31 ∧ 0 ≤ x9.toInt ∧ own_cl (F4_0 x8 v count len f u).1 (F4_0 x8 v count len f u).2.1 :=
  ⟨h.1, h.2.1, h.2.2.1, h.2.2.2.1, h.2.2.2.2.1, (own_keep x8 v count len f u ⟨h.2.2.1, h.2.2.2.1⟩ h.2.2.2.2.2).1⟩
theorem own_129 (x0 x1 x2 x3 x4 x5 x6 x7 x8 x9 : Int32) (va : Addr) (vb : Value) (count len : Int32) (f : Nat → Value) (u : Addr) (hv : own_val u count f x9 = if ¬ x5 = 0 ∧ x9 = x8 then vb else if ¬ x4 = 0 ∧ x9 = x7 then .ref va else .ref u) : F0_129 x0 x1 x2 x3 x4 x5 x6 x7 x8 x9 va vb count len f u = 1 := by
  have fin : ∀ z : Value, own_val u count f x9 = z → F0_166 x0 x1 x2 x3 x4 x5 x6 x7 x8 x9 va vb z count len f u = 1 := fun z hz => by
    rw [F0_166, own_get, F0_173, if_pos hz]; rfl
  have mid : ∀ w : Addr, (.ref w : Value) = (if ¬ x4 = 0 ∧ x9 = x7 then .ref va else .ref u) → F0_150 x0 x1 x2 x3 x4 x5 x6 x7 x8 x9 va vb w count len f u = 1 := fun w hw => by
    rw [← hw] at hv
    rw [F0_150]
    by_cases a : x5 = 0
    · rw [if_pos a]; exact fin _ (by rw [hv, if_neg (fun z => z.1 a)])
    · rw [if_neg a]
      by_cases b : x9 = x8
      · rw [if_pos b]; exact fin _ (by rw [hv, if_pos ⟨a, b⟩])
      · rw [if_neg b]; exact fin _ (by rw [hv, if_neg (fun z => b z.2)])
  rw [F0_129]
  by_cases a : x4 = 0
  · rw [if_pos a]; exact mid u (by rw [if_neg (fun z => z.1 a)])
  · rw [if_neg a]
    by_cases b : x9 = x7
    · rw [if_pos b]; exact mid va (by rw [if_pos ⟨a, b⟩])
    · rw [if_neg b]; exact mid u (by rw [if_neg (fun z => b z.2)])
theorem own_law99 (x0 x1 x2 x3 x4 x5 x6 x7 x8 x9 : Int32) (va : Addr) (vb : Value) (u : Addr) (h : 0 ≤ x7.toInt ∧ x7.toInt ≤ 31 ∧ 0 ≤ x8.toInt ∧ x8.toInt ≤ 31 ∧ 0 ≤ x9.toInt) : F0_99 x0 x1 x2 x3 x4 x5 x6 x7 x8 x9 va vb (0 : Int32) (16 : Int32) (fun _ => .null) u = 1 := by
  obtain ⟨h1, h2, h3, h4, h5⟩ := h
  have z9 : ¬ x9 < 0 := own_nn h5
  have v0 : own_val u 0 (fun _ => .null) x9 = .ref u := if_neg z9
  have c0 : own_cl 0 16 := ⟨by decide, by decide, Or.inl rfl⟩
  have snd : ∀ (count len : Int32) (f : Nat → Value), own_cl count len → own_val u count f x9 = (if ¬ x4 = 0 ∧ x9 = x7 then .ref va else .ref u) → F0_115 x0 x1 x2 x3 x4 x5 x6 x7 x8 x9 va vb count len f u = 1 := fun count len f hc hv => by
    rw [F0_115]
    by_cases a : x5 = 0
    · rw [if_pos a]
      refine own_129 _ _ _ _ _ _ _ _ _ _ _ _ _ _ _ _ ?_
      rw [hv]; exact (if_neg (fun z : ¬ x5 = 0 ∧ x9 = x8 => z.1 a)).symm
    · rw [if_neg a]
      refine own_129 _ _ _ _ _ _ _ _ _ _ _ _ _ _ _ _ ?_
      rw [(own_keep x8 vb count len f u ⟨h3, h4⟩ hc).2 x9 h5]
      by_cases b : x9 = x8
      · rw [if_pos b, if_pos ⟨a, b⟩]
      · rw [if_neg b, if_neg (fun z => b z.2), hv]
  rw [F0_99]
  by_cases a : x4 = 0
  · rw [if_pos a]
    exact snd _ _ _ c0 (by rw [v0, if_neg (fun z => z.1 a)])
  · rw [if_neg a]
    have k := own_keep x7 (.ref va) 0 16 (fun _ => .null) u ⟨h1, h2⟩ c0
    refine snd _ _ _ k.1 ?_
    rw [k.2 x9 h5, v0]
    by_cases b : x9 = x7
    · rw [if_pos b, if_pos ⟨a, b⟩]
    · rw [if_neg b, if_neg (fun z => b z.2)]
theorem own_getref {Z : State} {n0 : Nat} {h : Heap} {a b u : Addr} {va vb : Value} {n count len : Int32} {f : Nat → Value} (J : own_J Z n0 h a b u va vb count len f) (hn : 0 ≤ n.toInt ∧ own_cl count len) : (F3_0 n count len f u).isRef = true := by
  rw [own_get]
  unfold own_val
  split
  · rename_i q; exact own_okref (own_Rok (own_Jr J) (own_g0 hn q))
  · rfl
set_option maxRecDepth 65536 in
set_option maxHeartbeats 40000000 in
theorem rm0 (l : Launch) (Z : State) (a0 : Array Value) (hw : ∀ d ∈ tables_1, d.before a0 Z = true) (mir : Addr) (hm : own_mir Z mir) (p0 : Int32) (p1 : Int32) (p2 : Int32) (p3 : Int32) (u : Addr) (h0 : Heap) (n0 : Nat) (Z0 : own_P Z n0 h0 u .null .null) :
    own_M l Z x code maxLocals ret room_1 #[(.int p0), (.int p1), (.int p2), (.int p3)] h0 (fun v h L => v = some (.int (F0_0 p0 p1 p2 p3 u)) ∧ Fr n0 L ∧ True) := by
  refine own_body pn_0 ?_
  intro p e s m below meth c T hx hby hml hown hZ hret hlk hnm X eT
  have N := Fr.nil n0
  replace Z0 : own_P Z n0 T.heap u .null .null := by rw [eT]; exact Z0
  obtain ⟨w, hF⟩ : ∃ w, w = F0_0 p0 p1 p2 p3 u := ⟨_, rfl⟩
  try rw [← hF]
  generalize hQ : own_Q s (fun v h L => v = some (.int w) ∧ Fr n0 L ∧ True) room_1.cells room_1.slots = Qq
  refine own_st (fun _ k => castTop (ef_0 m p0 p1 p2 p3) k) ?_
  clear eT
  have B183 : ∀ (T : State) (L : List Loc) (x0 : Int32) (x1 : Int32) (x2 : Int32) (x3 : Int32) (x4 : Int32) (x5 : Int32) (x6 : Int32) (x7 : Int32) (x8 : Int32) (x9 : Int32) (x10 : Addr) (x11 : Value) (x12 : Value) (y13 : Int32) (xa : Addr) (g_count : Int32) (g_len : Int32) (g_f : (Nat → Value)), Stand p l e room_1 s m #[(.int p0), (.int p1), (.int p2), (.int p3)] below meth c T L 6 83 → own_I Z n0 T.heap xa u (.ref x10) x11 g_count g_len g_f → x11.isRef = true → x12.isRef = true → Fr n0 L → w = F0_183 x0 x1 x2 x3 x4 x5 x6 x7 x8 x9 x10 x11 x12 y13 g_count g_len g_f u → own_E p e below Qq T (mkF m 183 #[.val (.int x0), .val (.int x1), .val (.int x2), .val (.int x3), .val (.int x4), .val (.int x5), .val (.int x6), .val (.int x7), .val (.int x8), .val (.int x9), .val (.ref x10), .val x11, .val (.ref xa), .val x12] [(.int y13)]) := by
    intro T L x0 x1 x2 x3 x4 x5 x6 x7 x8 x9 x10 x11 x12 y13 xa g_count g_len g_f X I hV_x11 hV_x12 N hF
    obtain ⟨b1, J⟩ := I
    rw [← hQ]
    exact own_retN X hx hlk (t := .boolean) hret (by simp) (hb hby at_183) (by decide) (by decide) ⟨by (rw [hF]; try rfl), N, trivial⟩
  have B173 : ∀ (T : State) (L : List Loc) (x0 : Int32) (x1 : Int32) (x2 : Int32) (x3 : Int32) (x4 : Int32) (x5 : Int32) (x6 : Int32) (x7 : Int32) (x8 : Int32) (x9 : Int32) (x10 : Addr) (x11 : Value) (x12 : Value) (y13 : Value) (xa : Addr) (g_count : Int32) (g_len : Int32) (g_f : (Nat → Value)), Stand p l e room_1 s m #[(.int p0), (.int p1), (.int p2), (.int p3)] below meth c T L 6 83 → own_I Z n0 T.heap xa u (.ref x10) x11 g_count g_len g_f → x11.isRef = true → x12.isRef = true → y13.isRef = true → Fr n0 L → w = F0_173 x0 x1 x2 x3 x4 x5 x6 x7 x8 x9 x10 x11 x12 y13 g_count g_len g_f u → own_E p e below Qq T (mkF m 173 #[.val (.int x0), .val (.int x1), .val (.int x2), .val (.int x3), .val (.int x4), .val (.int x5), .val (.int x6), .val (.int x7), .val (.int x8), .val (.int x9), .val (.ref x10), .val x11, .val (.ref xa), .val x12] [y13]) := by
    intro T L x0 x1 x2 x3 x4 x5 x6 x7 x8 x9 x10 x11 x12 y13 xa g_count g_len g_f X I hV_x11 hV_x12 hV_y13 N hF
    obtain ⟨b2, J⟩ := I
    refine own_st (fun _ => XS.aload X.here hx rfl (hb hby at_173) rfl hV_x12) ?_
    show own_E p e below Qq T (mkF m 175 #[.val (.int x0), .val (.int x1), .val (.int x2), .val (.int x3), .val (.int x4), .val (.int x5), .val (.int x6), .val (.int x7), .val (.int x8), .val (.int x9), .val (.ref x10), .val x11, .val (.ref xa), .val x12] [x12, y13])
    by_cases q175 : (y13 : Value) = x12
    · replace hF := hF.trans (if_pos q175)
      refine own_st (fun _ => XT.acmpNo X.here hx rfl (hb hby at_175) rfl hV_y13 hV_x12 (XT.aa_ne_f q175)) ?_
      show own_E p e below Qq T (mkF m 178 #[.val (.int x0), .val (.int x1), .val (.int x2), .val (.int x3), .val (.int x4), .val (.int x5), .val (.int x6), .val (.int x7), .val (.int x8), .val (.int x9), .val (.ref x10), .val x11, .val (.ref xa), .val x12] [])
      refine own_st (fun _ => XS.iconst X.here hx rfl (hb hby at_178)) ?_
      show own_E p e below Qq T (mkF m 179 #[.val (.int x0), .val (.int x1), .val (.int x2), .val (.int x3), .val (.int x4), .val (.int x5), .val (.int x6), .val (.int x7), .val (.int x8), .val (.int x9), .val (.ref x10), .val x11, .val (.ref xa), .val x12] [(.int (1 : Int32))])
      refine own_st (fun _ => XS.goto X.here hx rfl (pc0 := 179) (pc' := 183) rfl (hb hby at_179) (by decide) (by decide)) ?_
      show own_E p e below Qq T (mkF m 183 #[.val (.int x0), .val (.int x1), .val (.int x2), .val (.int x3), .val (.int x4), .val (.int x5), .val (.int x6), .val (.int x7), .val (.int x8), .val (.int x9), .val (.ref x10), .val x11, .val (.ref xa), .val x12] [(.int (1 : Int32))])
      exact B183 _ _ x0 x1 x2 x3 x4 x5 x6 x7 x8 x9 x10 x11 x12 (1 : Int32) xa g_count g_len g_f X ⟨_, J⟩ hV_x11 hV_x12 N hF
    · replace hF := hF.trans (if_neg q175)
      refine own_st (fun _ => XT.acmpYes X.here hx rfl (pc0 := 175) (pc' := 182) rfl (hb hby at_175) rfl hV_y13 hV_x12 (XT.aa_ne_t q175) (by decide) (by decide)) ?_
      show own_E p e below Qq T (mkF m 182 #[.val (.int x0), .val (.int x1), .val (.int x2), .val (.int x3), .val (.int x4), .val (.int x5), .val (.int x6), .val (.int x7), .val (.int x8), .val (.int x9), .val (.ref x10), .val x11, .val (.ref xa), .val x12] [])
      refine own_st (fun _ => XS.iconst X.here hx rfl (hb hby at_182)) ?_
      show own_E p e below Qq T (mkF m 183 #[.val (.int x0), .val (.int x1), .val (.int x2), .val (.int x3), .val (.int x4), .val (.int x5), .val (.int x6), .val (.int x7), .val (.int x8), .val (.int x9), .val (.ref x10), .val x11, .val (.ref xa), .val x12] [(.int (0 : Int32))])
      exact B183 _ _ x0 x1 x2 x3 x4 x5 x6 x7 x8 x9 x10 x11 x12 (0 : Int32) xa g_count g_len g_f X ⟨_, J⟩ hV_x11 hV_x12 N hF
  have B166 : ∀ (T : State) (L : List Loc) (x0 : Int32) (x1 : Int32) (x2 : Int32) (x3 : Int32) (x4 : Int32) (x5 : Int32) (x6 : Int32) (x7 : Int32) (x8 : Int32) (x9 : Int32) (x10 : Addr) (x11 : Value) (x12 : Value) (xa : Addr) (g_count : Int32) (g_len : Int32) (g_f : (Nat → Value)), Stand p l e room_1 s m #[(.int p0), (.int p1), (.int p2), (.int p3)] below meth c T L 6 83 → own_I Z n0 T.heap xa u (.ref x10) x11 g_count g_len g_f → x11.isRef = true → x12.isRef = true → Fr n0 L → w = F0_166 x0 x1 x2 x3 x4 x5 x6 x7 x8 x9 x10 x11 x12 g_count g_len g_f u → (0 ≤ x7.toInt ∧ x7.toInt ≤ 31 ∧ 0 ≤ x8.toInt ∧ x8.toInt ≤ 31 ∧ 0 ≤ x9.toInt ∧ own_cl g_count g_len) → own_E p e below Qq T (mkF m 166 #[.val (.int x0), .val (.int x1), .val (.int x2), .val (.int x3), .val (.int x4), .val (.int x5), .val (.int x6), .val (.int x7), .val (.int x8), .val (.int x9), .val (.ref x10), .val x11, .val (.ref xa), .val x12] []) := by
    intro T L x0 x1 x2 x3 x4 x5 x6 x7 x8 x9 x10 x11 x12 xa g_count g_len g_f X I hV_x11 hV_x12 N hF hP
    obtain ⟨b3, J⟩ := I
    refine own_st (fun _ => XS.aload X.here hx rfl (hb hby at_166) rfl rfl) ?_
    show own_E p e below Qq T (mkF m 168 #[.val (.int x0), .val (.int x1), .val (.int x2), .val (.int x3), .val (.int x4), .val (.int x5), .val (.int x6), .val (.int x7), .val (.int x8), .val (.int x9), .val (.ref x10), .val x11, .val (.ref xa), .val x12] [(.ref xa)])
    refine own_st (fun _ => XS.iload X.here hx rfl (hb hby at_168) rfl) ?_
    show own_E p e below Qq T (mkF m 170 #[.val (.int x0), .val (.int x1), .val (.int x2), .val (.int x3), .val (.int x4), .val (.int x5), .val (.int x6), .val (.int x7), .val (.int x8), .val (.int x9), .val (.ref x10), .val x11, .val (.ref xa), .val x12] [(.int x9), (.ref xa)])
    refine own_callV X hx hZ hown (hw _ (List.mem_of_getElem? (i := 19) rfl)) (hw _ (List.mem_of_getElem? (i := 20) rfl)) (hw _ (List.mem_of_getElem? (i := 22) rfl)) (hw _ (List.mem_of_getElem? (i := 21) rfl)) (hw _ (List.mem_of_getElem? (i := 8) rfl)) (hw _ (List.mem_of_getElem? (i := 23) rfl)) (by decide) (own_Jex J) (W := 0) (argsL := [(.int x9)]) (rest := []) (rm3 l Z a0 hw mir hm xa x9 g_count g_len g_f u (.ref x10) x11 _ n0 ⟨_, J⟩ ⟨hP.2.2.2.2.1, hP.2.2.2.2.2⟩) (by decide) (by decide) (by decide) (by decide) rfl (by rw [hml]; rfl) (lenOf pd_3 rfl) rfl (by show 2 * 0 + _ ≤ _; exact Nat.le_of_eq rfl) (hb hby at_170) ?_
    intro T4 L4 v X' hq
    clear J
    obtain ⟨rfl, N', b5, J⟩ := hq
    replace N := Fr.app N N'
    replace X : Stand p l e room_1 s m #[(.int p0), (.int p1), (.int p2), (.int p3)] below meth c T4 _ 6 83 := X'
    clear X' N' 
    show own_E p e below Qq T4 (mkF m 173 #[.val (.int x0), .val (.int x1), .val (.int x2), .val (.int x3), .val (.int x4), .val (.int x5), .val (.int x6), .val (.int x7), .val (.int x8), .val (.int x9), .val (.ref x10), .val x11, .val (.ref xa), .val x12] [(F3_0 x9 g_count g_len g_f u)])
    exact B173 _ _ x0 x1 x2 x3 x4 x5 x6 x7 x8 x9 x10 x11 x12 (F3_0 x9 g_count g_len g_f u) xa g_count g_len g_f X ⟨_, J⟩ hV_x11 hV_x12 (own_getref J ⟨hP.2.2.2.2.1, hP.2.2.2.2.2⟩) N hF
  have B150 : ∀ (T : State) (L : List Loc) (x0 : Int32) (x1 : Int32) (x2 : Int32) (x3 : Int32) (x4 : Int32) (x5 : Int32) (x6 : Int32) (x7 : Int32) (x8 : Int32) (x9 : Int32) (x10 : Addr) (x11 : Value) (x12 : Addr) (xa : Addr) (g_count : Int32) (g_len : Int32) (g_f : (Nat → Value)), Stand p l e room_1 s m #[(.int p0), (.int p1), (.int p2), (.int p3)] below meth c T L 6 83 → own_I Z n0 T.heap xa u (.ref x10) x11 g_count g_len g_f → x11.isRef = true → Fr n0 L → w = F0_150 x0 x1 x2 x3 x4 x5 x6 x7 x8 x9 x10 x11 x12 g_count g_len g_f u → (0 ≤ x7.toInt ∧ x7.toInt ≤ 31 ∧ 0 ≤ x8.toInt ∧ x8.toInt ≤ 31 ∧ 0 ≤ x9.toInt ∧ own_cl g_count g_len) → own_E p e below Qq T (mkF m 150 #[.val (.int x0), .val (.int x1), .val (.int x2), .val (.int x3), .val (.int x4), .val (.int x5), .val (.int x6), .val (.int x7), .val (.int x8), .val (.int x9), .val (.ref x10), .val x11, .val (.ref xa), .val (.ref x12)] []) := by
    intro T L x0 x1 x2 x3 x4 x5 x6 x7 x8 x9 x10 x11 x12 xa g_count g_len g_f X I hV_x11 N hF hP
    obtain ⟨b6, J⟩ := I
    refine own_st (fun _ => XS.iload X.here hx rfl (hb hby at_150) rfl) ?_
    show own_E p e below Qq T (mkF m 152 #[.val (.int x0), .val (.int x1), .val (.int x2), .val (.int x3), .val (.int x4), .val (.int x5), .val (.int x6), .val (.int x7), .val (.int x8), .val (.int x9), .val (.ref x10), .val x11, .val (.ref xa), .val (.ref x12)] [(.int x5)])
    by_cases q152 : x5 = (0 : Int32)
    · replace hF := hF.trans (if_pos q152)
      refine own_st (fun _ => XS.ifYes X.here hx rfl (pc0 := 152) (pc' := 166) rfl (hb hby at_152) rfl (XT.i0_eq_t q152) (by decide) (by decide)) ?_
      show own_E p e below Qq T (mkF m 166 #[.val (.int x0), .val (.int x1), .val (.int x2), .val (.int x3), .val (.int x4), .val (.int x5), .val (.int x6), .val (.int x7), .val (.int x8), .val (.int x9), .val (.ref x10), .val x11, .val (.ref xa), .val (.ref x12)] [])
      exact B166 _ _ x0 x1 x2 x3 x4 x5 x6 x7 x8 x9 x10 x11 (.ref x12) xa g_count g_len g_f X ⟨_, J⟩ hV_x11 rfl N hF (by first | exact hP | decide)
    · replace hF := hF.trans (if_neg q152)
      refine own_st (fun _ => XS.ifNo X.here hx rfl (hb hby at_152) rfl (XT.i0_eq_f q152)) ?_
      show own_E p e below Qq T (mkF m 155 #[.val (.int x0), .val (.int x1), .val (.int x2), .val (.int x3), .val (.int x4), .val (.int x5), .val (.int x6), .val (.int x7), .val (.int x8), .val (.int x9), .val (.ref x10), .val x11, .val (.ref xa), .val (.ref x12)] [])
      refine own_st (fun _ => XS.iload X.here hx rfl (hb hby at_155) rfl) ?_
      show own_E p e below Qq T (mkF m 157 #[.val (.int x0), .val (.int x1), .val (.int x2), .val (.int x3), .val (.int x4), .val (.int x5), .val (.int x6), .val (.int x7), .val (.int x8), .val (.int x9), .val (.ref x10), .val x11, .val (.ref xa), .val (.ref x12)] [(.int x9)])
      refine own_st (fun _ => XS.iload X.here hx rfl (hb hby at_157) rfl) ?_
      show own_E p e below Qq T (mkF m 159 #[.val (.int x0), .val (.int x1), .val (.int x2), .val (.int x3), .val (.int x4), .val (.int x5), .val (.int x6), .val (.int x7), .val (.int x8), .val (.int x9), .val (.ref x10), .val x11, .val (.ref xa), .val (.ref x12)] [(.int x8), (.int x9)])
      by_cases q159 : x9 = x8
      · replace hF := hF.trans (if_pos q159)
        refine own_st (fun _ => XS.icmpNo X.here hx rfl (hb hby at_159) rfl (XT.ii_ne_f q159)) ?_
        show own_E p e below Qq T (mkF m 162 #[.val (.int x0), .val (.int x1), .val (.int x2), .val (.int x3), .val (.int x4), .val (.int x5), .val (.int x6), .val (.int x7), .val (.int x8), .val (.int x9), .val (.ref x10), .val x11, .val (.ref xa), .val (.ref x12)] [])
        refine own_st (fun _ => XS.aload X.here hx rfl (hb hby at_162) rfl hV_x11) ?_
        show own_E p e below Qq T (mkF m 164 #[.val (.int x0), .val (.int x1), .val (.int x2), .val (.int x3), .val (.int x4), .val (.int x5), .val (.int x6), .val (.int x7), .val (.int x8), .val (.int x9), .val (.ref x10), .val x11, .val (.ref xa), .val (.ref x12)] [x11])
        refine own_st (fun _ => XS.astoreS X.here hx rfl (hb hby at_164) rfl hV_x11 (XT.cat1 hV_x11) rfl (One.val rfl)) ?_
        show own_E p e below Qq T (mkF m 166 #[.val (.int x0), .val (.int x1), .val (.int x2), .val (.int x3), .val (.int x4), .val (.int x5), .val (.int x6), .val (.int x7), .val (.int x8), .val (.int x9), .val (.ref x10), .val x11, .val (.ref xa), .val x11] [])
        exact B166 _ _ x0 x1 x2 x3 x4 x5 x6 x7 x8 x9 x10 x11 x11 xa g_count g_len g_f X ⟨_, J⟩ hV_x11 hV_x11 N hF (by first | exact hP | decide)
      · replace hF := hF.trans (if_neg q159)
        refine own_st (fun _ => XS.icmpYes X.here hx rfl (pc0 := 159) (pc' := 166) rfl (hb hby at_159) rfl (XT.ii_ne_t q159) (by decide) (by decide)) ?_
        show own_E p e below Qq T (mkF m 166 #[.val (.int x0), .val (.int x1), .val (.int x2), .val (.int x3), .val (.int x4), .val (.int x5), .val (.int x6), .val (.int x7), .val (.int x8), .val (.int x9), .val (.ref x10), .val x11, .val (.ref xa), .val (.ref x12)] [])
        exact B166 _ _ x0 x1 x2 x3 x4 x5 x6 x7 x8 x9 x10 x11 (.ref x12) xa g_count g_len g_f X ⟨_, J⟩ hV_x11 rfl N hF (by first | exact hP | decide)
  have B129 : ∀ (T : State) (L : List Loc) (x0 : Int32) (x1 : Int32) (x2 : Int32) (x3 : Int32) (x4 : Int32) (x5 : Int32) (x6 : Int32) (x7 : Int32) (x8 : Int32) (x9 : Int32) (x10 : Addr) (x11 : Value) (xa : Addr) (g_count : Int32) (g_len : Int32) (g_f : (Nat → Value)), Stand p l e room_1 s m #[(.int p0), (.int p1), (.int p2), (.int p3)] below meth c T L 6 83 → own_I Z n0 T.heap xa u (.ref x10) x11 g_count g_len g_f → x11.isRef = true → Fr n0 L → w = F0_129 x0 x1 x2 x3 x4 x5 x6 x7 x8 x9 x10 x11 g_count g_len g_f u → (0 ≤ x7.toInt ∧ x7.toInt ≤ 31 ∧ 0 ≤ x8.toInt ∧ x8.toInt ≤ 31 ∧ 0 ≤ x9.toInt ∧ own_cl g_count g_len) → own_E p e below Qq T (mkF m 129 #[.val (.int x0), .val (.int x1), .val (.int x2), .val (.int x3), .val (.int x4), .val (.int x5), .val (.int x6), .val (.int x7), .val (.int x8), .val (.int x9), .val (.ref x10), .val x11, .val (.ref xa), .unset] []) := by
    intro T L x0 x1 x2 x3 x4 x5 x6 x7 x8 x9 x10 x11 xa g_count g_len g_f X I hV_x11 N hF hP
    obtain ⟨b7, J⟩ := I
    obtain ⟨T8, X8, e8, st8⟩ := getS X hx hZ hown (hw _ (List.mem_of_getElem? (i := 17) rfl)) Via.refl rfl (own_Jsta J) (host := "") (g := (mkF m 129 #[.val (.int x0), .val (.int x1), .val (.int x2), .val (.int x3), .val (.int x4), .val (.int x5), .val (.int x6), .val (.int x7), .val (.int x8), .val (.int x9), .val (.ref x10), .val x11, .val (.ref xa), .unset] [])) rfl (hb hby at_129)
    refine own_st st8 ?_
    replace J := own_tr (P := fun h => own_J Z n0 h xa b7 u (.ref x10) x11 g_count g_len g_f) e8 J
    replace X := X8
    clear st8 e8 X8
    show own_E p e below Qq T8 (mkF m 132 #[.val (.int x0), .val (.int x1), .val (.int x2), .val (.int x3), .val (.int x4), .val (.int x5), .val (.int x6), .val (.int x7), .val (.int x8), .val (.int x9), .val (.ref x10), .val x11, .val (.ref xa), .unset] [(.ref u)])
    refine own_st (fun _ => XS.astore X.here hx rfl (hb hby at_132) rfl rfl (l' := #[.val (.int x0), .val (.int x1), .val (.int x2), .val (.int x3), .val (.int x4), .val (.int x5), .val (.int x6), .val (.int x7), .val (.int x8), .val (.int x9), .val (.ref x10), .val x11, .val (.ref xa), .val (.ref u)]) rfl) ?_
    show own_E p e below Qq T8 (mkF m 134 #[.val (.int x0), .val (.int x1), .val (.int x2), .val (.int x3), .val (.int x4), .val (.int x5), .val (.int x6), .val (.int x7), .val (.int x8), .val (.int x9), .val (.ref x10), .val x11, .val (.ref xa), .val (.ref u)] [])
    refine own_st (fun _ => XS.iload X.here hx rfl (hb hby at_134) rfl) ?_
    show own_E p e below Qq T8 (mkF m 136 #[.val (.int x0), .val (.int x1), .val (.int x2), .val (.int x3), .val (.int x4), .val (.int x5), .val (.int x6), .val (.int x7), .val (.int x8), .val (.int x9), .val (.ref x10), .val x11, .val (.ref xa), .val (.ref u)] [(.int x4)])
    by_cases q136 : x4 = (0 : Int32)
    · replace hF := hF.trans (if_pos q136)
      refine own_st (fun _ => XS.ifYes X.here hx rfl (pc0 := 136) (pc' := 150) rfl (hb hby at_136) rfl (XT.i0_eq_t q136) (by decide) (by decide)) ?_
      show own_E p e below Qq T8 (mkF m 150 #[.val (.int x0), .val (.int x1), .val (.int x2), .val (.int x3), .val (.int x4), .val (.int x5), .val (.int x6), .val (.int x7), .val (.int x8), .val (.int x9), .val (.ref x10), .val x11, .val (.ref xa), .val (.ref u)] [])
      exact B150 _ _ x0 x1 x2 x3 x4 x5 x6 x7 x8 x9 x10 x11 u xa g_count g_len g_f X ⟨_, J⟩ hV_x11 N hF (by first | exact hP | decide)
    · replace hF := hF.trans (if_neg q136)
      refine own_st (fun _ => XS.ifNo X.here hx rfl (hb hby at_136) rfl (XT.i0_eq_f q136)) ?_
      show own_E p e below Qq T8 (mkF m 139 #[.val (.int x0), .val (.int x1), .val (.int x2), .val (.int x3), .val (.int x4), .val (.int x5), .val (.int x6), .val (.int x7), .val (.int x8), .val (.int x9), .val (.ref x10), .val x11, .val (.ref xa), .val (.ref u)] [])
      refine own_st (fun _ => XS.iload X.here hx rfl (hb hby at_139) rfl) ?_
      show own_E p e below Qq T8 (mkF m 141 #[.val (.int x0), .val (.int x1), .val (.int x2), .val (.int x3), .val (.int x4), .val (.int x5), .val (.int x6), .val (.int x7), .val (.int x8), .val (.int x9), .val (.ref x10), .val x11, .val (.ref xa), .val (.ref u)] [(.int x9)])
      refine own_st (fun _ => XS.iload X.here hx rfl (hb hby at_141) rfl) ?_
      show own_E p e below Qq T8 (mkF m 143 #[.val (.int x0), .val (.int x1), .val (.int x2), .val (.int x3), .val (.int x4), .val (.int x5), .val (.int x6), .val (.int x7), .val (.int x8), .val (.int x9), .val (.ref x10), .val x11, .val (.ref xa), .val (.ref u)] [(.int x7), (.int x9)])
      by_cases q143 : x9 = x7
      · replace hF := hF.trans (if_pos q143)
        refine own_st (fun _ => XS.icmpNo X.here hx rfl (hb hby at_143) rfl (XT.ii_ne_f q143)) ?_
        show own_E p e below Qq T8 (mkF m 146 #[.val (.int x0), .val (.int x1), .val (.int x2), .val (.int x3), .val (.int x4), .val (.int x5), .val (.int x6), .val (.int x7), .val (.int x8), .val (.int x9), .val (.ref x10), .val x11, .val (.ref xa), .val (.ref u)] [])
        refine own_st (fun _ => XS.aload X.here hx rfl (hb hby at_146) rfl rfl) ?_
        show own_E p e below Qq T8 (mkF m 148 #[.val (.int x0), .val (.int x1), .val (.int x2), .val (.int x3), .val (.int x4), .val (.int x5), .val (.int x6), .val (.int x7), .val (.int x8), .val (.int x9), .val (.ref x10), .val x11, .val (.ref xa), .val (.ref u)] [(.ref x10)])
        refine own_st (fun _ => XS.astore X.here hx rfl (hb hby at_148) rfl rfl (l' := #[.val (.int x0), .val (.int x1), .val (.int x2), .val (.int x3), .val (.int x4), .val (.int x5), .val (.int x6), .val (.int x7), .val (.int x8), .val (.int x9), .val (.ref x10), .val x11, .val (.ref xa), .val (.ref x10)]) rfl) ?_
        show own_E p e below Qq T8 (mkF m 150 #[.val (.int x0), .val (.int x1), .val (.int x2), .val (.int x3), .val (.int x4), .val (.int x5), .val (.int x6), .val (.int x7), .val (.int x8), .val (.int x9), .val (.ref x10), .val x11, .val (.ref xa), .val (.ref x10)] [])
        exact B150 _ _ x0 x1 x2 x3 x4 x5 x6 x7 x8 x9 x10 x11 x10 xa g_count g_len g_f X ⟨_, J⟩ hV_x11 N hF (by first | exact hP | decide)
      · replace hF := hF.trans (if_neg q143)
        refine own_st (fun _ => XS.icmpYes X.here hx rfl (pc0 := 143) (pc' := 150) rfl (hb hby at_143) rfl (XT.ii_ne_t q143) (by decide) (by decide)) ?_
        show own_E p e below Qq T8 (mkF m 150 #[.val (.int x0), .val (.int x1), .val (.int x2), .val (.int x3), .val (.int x4), .val (.int x5), .val (.int x6), .val (.int x7), .val (.int x8), .val (.int x9), .val (.ref x10), .val x11, .val (.ref xa), .val (.ref u)] [])
        exact B150 _ _ x0 x1 x2 x3 x4 x5 x6 x7 x8 x9 x10 x11 u xa g_count g_len g_f X ⟨_, J⟩ hV_x11 N hF (by first | exact hP | decide)
  have B115 : ∀ (T : State) (L : List Loc) (x0 : Int32) (x1 : Int32) (x2 : Int32) (x3 : Int32) (x4 : Int32) (x5 : Int32) (x6 : Int32) (x7 : Int32) (x8 : Int32) (x9 : Int32) (x10 : Addr) (x11 : Value) (xa : Addr) (g_count : Int32) (g_len : Int32) (g_f : (Nat → Value)), Stand p l e room_1 s m #[(.int p0), (.int p1), (.int p2), (.int p3)] below meth c T L 5 51 → own_I Z n0 T.heap xa u (.ref x10) x11 g_count g_len g_f → x11.isRef = true → Fr n0 L → w = F0_115 x0 x1 x2 x3 x4 x5 x6 x7 x8 x9 x10 x11 g_count g_len g_f u → (0 ≤ x7.toInt ∧ x7.toInt ≤ 31 ∧ 0 ≤ x8.toInt ∧ x8.toInt ≤ 31 ∧ 0 ≤ x9.toInt ∧ own_cl g_count g_len) → own_E p e below Qq T (mkF m 115 #[.val (.int x0), .val (.int x1), .val (.int x2), .val (.int x3), .val (.int x4), .val (.int x5), .val (.int x6), .val (.int x7), .val (.int x8), .val (.int x9), .val (.ref x10), .val x11, .val (.ref xa), .unset] []) := by
    intro T L x0 x1 x2 x3 x4 x5 x6 x7 x8 x9 x10 x11 xa g_count g_len g_f X I hV_x11 N hF hP
    obtain ⟨b9, J⟩ := I
    refine own_st (fun _ => XS.iload X.here hx rfl (hb hby at_115) rfl) ?_
    show own_E p e below Qq T (mkF m 117 #[.val (.int x0), .val (.int x1), .val (.int x2), .val (.int x3), .val (.int x4), .val (.int x5), .val (.int x6), .val (.int x7), .val (.int x8), .val (.int x9), .val (.ref x10), .val x11, .val (.ref xa), .unset] [(.int x5)])
    by_cases q117 : x5 = (0 : Int32)
    · replace hF := hF.trans (if_pos q117)
      refine own_st (fun _ => XS.ifYes X.here hx rfl (pc0 := 117) (pc' := 129) rfl (hb hby at_117) rfl (XT.i0_eq_t q117) (by decide) (by decide)) ?_
      show own_E p e below Qq T (mkF m 129 #[.val (.int x0), .val (.int x1), .val (.int x2), .val (.int x3), .val (.int x4), .val (.int x5), .val (.int x6), .val (.int x7), .val (.int x8), .val (.int x9), .val (.ref x10), .val x11, .val (.ref xa), .unset] [])
      exact B129 _ _ x0 x1 x2 x3 x4 x5 x6 x7 x8 x9 x10 x11 xa g_count g_len g_f (X.more (by decide) (by decide)) ⟨_, J⟩ hV_x11 N hF (by first | exact hP | exact own_b2 hP)
    · replace hF := hF.trans (if_neg q117)
      refine own_st (fun _ => XS.ifNo X.here hx rfl (hb hby at_117) rfl (XT.i0_eq_f q117)) ?_
      show own_E p e below Qq T (mkF m 120 #[.val (.int x0), .val (.int x1), .val (.int x2), .val (.int x3), .val (.int x4), .val (.int x5), .val (.int x6), .val (.int x7), .val (.int x8), .val (.int x9), .val (.ref x10), .val x11, .val (.ref xa), .unset] [])
      refine own_st (fun _ => XS.aload X.here hx rfl (hb hby at_120) rfl rfl) ?_
      show own_E p e below Qq T (mkF m 122 #[.val (.int x0), .val (.int x1), .val (.int x2), .val (.int x3), .val (.int x4), .val (.int x5), .val (.int x6), .val (.int x7), .val (.int x8), .val (.int x9), .val (.ref x10), .val x11, .val (.ref xa), .unset] [(.ref xa)])
      refine own_st (fun _ => XS.iload X.here hx rfl (hb hby at_122) rfl) ?_
      show own_E p e below Qq T (mkF m 124 #[.val (.int x0), .val (.int x1), .val (.int x2), .val (.int x3), .val (.int x4), .val (.int x5), .val (.int x6), .val (.int x7), .val (.int x8), .val (.int x9), .val (.ref x10), .val x11, .val (.ref xa), .unset] [(.int x8), (.ref xa)])
      refine own_st (fun _ => XS.aload X.here hx rfl (hb hby at_124) rfl hV_x11) ?_
      show own_E p e below Qq T (mkF m 126 #[.val (.int x0), .val (.int x1), .val (.int x2), .val (.int x3), .val (.int x4), .val (.int x5), .val (.int x6), .val (.int x7), .val (.int x8), .val (.int x9), .val (.ref x10), .val x11, .val (.ref xa), .unset] [x11, (.int x8), (.ref xa)])
      refine own_callV X hx hZ hown (hw _ (List.mem_of_getElem? (i := 27) rfl)) (hw _ (List.mem_of_getElem? (i := 28) rfl)) (hw _ (List.mem_of_getElem? (i := 30) rfl)) (hw _ (List.mem_of_getElem? (i := 29) rfl)) (hw _ (List.mem_of_getElem? (i := 8) rfl)) (hw _ (List.mem_of_getElem? (i := 31) rfl)) (by decide) (own_Jex J) (W := 0) (argsL := [(.int x8), x11]) (rest := []) (rm4 l Z a0 hw mir hm xa x8 x11 g_count g_len g_f u (.ref x10) x11 _ n0 ⟨_, J⟩ ⟨⟨hP.2.2.1, hP.2.2.2.1, hP.2.2.2.2.2⟩, Or.inr rfl⟩) (by decide) (by decide) (by decide) (by decide) rfl (by rw [hml]; rfl) (lenOf pd_4 rfl) rfl (by show 2 * 0 + _ ≤ _; exact Nat.le_of_eq rfl) (hb hby at_126) ?_
      intro T10 L10 v X' hq
      clear J
      obtain ⟨rfl, N', b11, J⟩ := hq
      replace N := Fr.app N N'
      replace X : Stand p l e room_1 s m #[(.int p0), (.int p1), (.int p2), (.int p3)] below meth c T10 _ 6 83 := X'
      clear X' N' 
      show own_E p e below Qq T10 (mkF m 129 #[.val (.int x0), .val (.int x1), .val (.int x2), .val (.int x3), .val (.int x4), .val (.int x5), .val (.int x6), .val (.int x7), .val (.int x8), .val (.int x9), .val (.ref x10), .val x11, .val (.ref xa), .unset] [])
      exact B129 _ _ x0 x1 x2 x3 x4 x5 x6 x7 x8 x9 x10 x11 xa (F4_0 x8 x11 g_count g_len g_f u).1 (F4_0 x8 x11 g_count g_len g_f u).2.1 (F4_0 x8 x11 g_count g_len g_f u).2.2 X ⟨_, J⟩ hV_x11 N hF (by first | exact hP | exact own_b2 hP)
  have B99 : ∀ (T : State) (L : List Loc) (x0 : Int32) (x1 : Int32) (x2 : Int32) (x3 : Int32) (x4 : Int32) (x5 : Int32) (x6 : Int32) (x7 : Int32) (x8 : Int32) (x9 : Int32) (x10 : Addr) (x11 : Value) (xa : Addr) (g_count : Int32) (g_len : Int32) (g_f : (Nat → Value)), Stand p l e room_1 s m #[(.int p0), (.int p1), (.int p2), (.int p3)] below meth c T L 4 19 → own_I Z n0 T.heap xa u (.ref x10) x11 g_count g_len g_f → x11.isRef = true → Fr n0 L → w = F0_99 x0 x1 x2 x3 x4 x5 x6 x7 x8 x9 x10 x11 g_count g_len g_f u → (0 ≤ x7.toInt ∧ x7.toInt ≤ 31 ∧ 0 ≤ x8.toInt ∧ x8.toInt ≤ 31 ∧ 0 ≤ x9.toInt ∧ own_cl g_count g_len) → own_E p e below Qq T (mkF m 99 #[.val (.int x0), .val (.int x1), .val (.int x2), .val (.int x3), .val (.int x4), .val (.int x5), .val (.int x6), .val (.int x7), .val (.int x8), .val (.int x9), .val (.ref x10), .val x11, .unset, .unset] [(.ref xa)]) := by
    intro T L x0 x1 x2 x3 x4 x5 x6 x7 x8 x9 x10 x11 xa g_count g_len g_f X I hV_x11 N hF hP
    obtain ⟨b12, J⟩ := I
    refine own_st (fun _ => XS.astore X.here hx rfl (hb hby at_99) rfl rfl (l' := #[.val (.int x0), .val (.int x1), .val (.int x2), .val (.int x3), .val (.int x4), .val (.int x5), .val (.int x6), .val (.int x7), .val (.int x8), .val (.int x9), .val (.ref x10), .val x11, .val (.ref xa), .unset]) rfl) ?_
    show own_E p e below Qq T (mkF m 101 #[.val (.int x0), .val (.int x1), .val (.int x2), .val (.int x3), .val (.int x4), .val (.int x5), .val (.int x6), .val (.int x7), .val (.int x8), .val (.int x9), .val (.ref x10), .val x11, .val (.ref xa), .unset] [])
    refine own_st (fun _ => XS.iload X.here hx rfl (hb hby at_101) rfl) ?_
    show own_E p e below Qq T (mkF m 103 #[.val (.int x0), .val (.int x1), .val (.int x2), .val (.int x3), .val (.int x4), .val (.int x5), .val (.int x6), .val (.int x7), .val (.int x8), .val (.int x9), .val (.ref x10), .val x11, .val (.ref xa), .unset] [(.int x4)])
    by_cases q103 : x4 = (0 : Int32)
    · replace hF := hF.trans (if_pos q103)
      refine own_st (fun _ => XS.ifYes X.here hx rfl (pc0 := 103) (pc' := 115) rfl (hb hby at_103) rfl (XT.i0_eq_t q103) (by decide) (by decide)) ?_
      show own_E p e below Qq T (mkF m 115 #[.val (.int x0), .val (.int x1), .val (.int x2), .val (.int x3), .val (.int x4), .val (.int x5), .val (.int x6), .val (.int x7), .val (.int x8), .val (.int x9), .val (.ref x10), .val x11, .val (.ref xa), .unset] [])
      exact B115 _ _ x0 x1 x2 x3 x4 x5 x6 x7 x8 x9 x10 x11 xa g_count g_len g_f (X.more (by decide) (by decide)) ⟨_, J⟩ hV_x11 N hF (by first | exact hP | exact own_b1 hP)
    · replace hF := hF.trans (if_neg q103)
      refine own_st (fun _ => XS.ifNo X.here hx rfl (hb hby at_103) rfl (XT.i0_eq_f q103)) ?_
      show own_E p e below Qq T (mkF m 106 #[.val (.int x0), .val (.int x1), .val (.int x2), .val (.int x3), .val (.int x4), .val (.int x5), .val (.int x6), .val (.int x7), .val (.int x8), .val (.int x9), .val (.ref x10), .val x11, .val (.ref xa), .unset] [])
      refine own_st (fun _ => XS.aload X.here hx rfl (hb hby at_106) rfl rfl) ?_
      show own_E p e below Qq T (mkF m 108 #[.val (.int x0), .val (.int x1), .val (.int x2), .val (.int x3), .val (.int x4), .val (.int x5), .val (.int x6), .val (.int x7), .val (.int x8), .val (.int x9), .val (.ref x10), .val x11, .val (.ref xa), .unset] [(.ref xa)])
      refine own_st (fun _ => XS.iload X.here hx rfl (hb hby at_108) rfl) ?_
      show own_E p e below Qq T (mkF m 110 #[.val (.int x0), .val (.int x1), .val (.int x2), .val (.int x3), .val (.int x4), .val (.int x5), .val (.int x6), .val (.int x7), .val (.int x8), .val (.int x9), .val (.ref x10), .val x11, .val (.ref xa), .unset] [(.int x7), (.ref xa)])
      refine own_st (fun _ => XS.aload X.here hx rfl (hb hby at_110) rfl rfl) ?_
      show own_E p e below Qq T (mkF m 112 #[.val (.int x0), .val (.int x1), .val (.int x2), .val (.int x3), .val (.int x4), .val (.int x5), .val (.int x6), .val (.int x7), .val (.int x8), .val (.int x9), .val (.ref x10), .val x11, .val (.ref xa), .unset] [(.ref x10), (.int x7), (.ref xa)])
      refine own_callV X hx hZ hown (hw _ (List.mem_of_getElem? (i := 27) rfl)) (hw _ (List.mem_of_getElem? (i := 28) rfl)) (hw _ (List.mem_of_getElem? (i := 30) rfl)) (hw _ (List.mem_of_getElem? (i := 29) rfl)) (hw _ (List.mem_of_getElem? (i := 8) rfl)) (hw _ (List.mem_of_getElem? (i := 31) rfl)) (by decide) (own_Jex J) (W := 0) (argsL := [(.int x7), (.ref x10)]) (rest := []) (rm4 l Z a0 hw mir hm xa x7 (.ref x10) g_count g_len g_f u (.ref x10) x11 _ n0 ⟨_, J⟩ ⟨⟨hP.1, hP.2.1, hP.2.2.2.2.2⟩, Or.inl rfl⟩) (by decide) (by decide) (by decide) (by decide) rfl (by rw [hml]; rfl) (lenOf pd_4 rfl) rfl (by show 2 * 0 + _ ≤ _; exact Nat.le_of_eq rfl) (hb hby at_112) ?_
      intro T13 L13 v X' hq
      clear J
      obtain ⟨rfl, N', b14, J⟩ := hq
      replace N := Fr.app N N'
      replace X : Stand p l e room_1 s m #[(.int p0), (.int p1), (.int p2), (.int p3)] below meth c T13 _ 5 51 := X'
      clear X' N' 
      show own_E p e below Qq T13 (mkF m 115 #[.val (.int x0), .val (.int x1), .val (.int x2), .val (.int x3), .val (.int x4), .val (.int x5), .val (.int x6), .val (.int x7), .val (.int x8), .val (.int x9), .val (.ref x10), .val x11, .val (.ref xa), .unset] [])
      exact B115 _ _ x0 x1 x2 x3 x4 x5 x6 x7 x8 x9 x10 x11 xa (F4_0 x7 (.ref x10) g_count g_len g_f u).1 (F4_0 x7 (.ref x10) g_count g_len g_f u).2.1 (F4_0 x7 (.ref x10) g_count g_len g_f u).2.2 X ⟨_, J⟩ hV_x11 N hF (by first | exact hP | exact own_b1 hP)
  have B65 : ∀ (T : State) (L : List Loc) (x0 : Int32) (x1 : Int32) (x2 : Int32) (x3 : Int32) (x4 : Int32) (x5 : Int32) (x6 : Int32) (x7 : Int32) (x8 : Int32) (x9 : Int32), Stand p l e room_1 s m #[(.int p0), (.int p1), (.int p2), (.int p3)] below meth c T L 0 0 → own_P Z n0 T.heap u .null .null → Fr n0 L → w = F0_65 x0 x1 x2 x3 x4 x5 x6 x7 x8 x9 u → (0 ≤ x7.toInt ∧ x7.toInt ≤ 31 ∧ 0 ≤ x8.toInt ∧ x8.toInt ≤ 31 ∧ 0 ≤ x9.toInt) → own_E p e below Qq T (mkF m 65 #[.val (.int x0), .val (.int x1), .val (.int x2), .val (.int x3), .val (.int x4), .val (.int x5), .val (.int x6), .val (.int x7), .val (.int x8), .val (.int x9), .unset, .unset, .unset, .unset] []) := by
    intro T L x0 x1 x2 x3 x4 x5 x6 x7 x8 x9 X Z0 N hF hP
    have K90 : ∀ (T : State) (L : List Loc) (va : Addr) (vb : Value), Stand p l e room_1 s m #[(.int p0), (.int p1), (.int p2), (.int p3)] below meth c T L 2 0 → own_P Z n0 T.heap u (.ref va) vb → vb.isRef = true → Fr n0 L → own_E p e below Qq T (mkF m 90 #[.val (.int x0), .val (.int x1), .val (.int x2), .val (.int x3), .val (.int x4), .val (.int x5), .val (.int x6), .val (.int x7), .val (.int x8), .val (.int x9), .val (.ref va), .unset, .unset, .unset] [vb]) := by
      intro T L va vb X P hv N
      refine own_st (fun _ => XS.astoreS X.here hx rfl (hb hby at_90) rfl hv (XT.cat1 hv) rfl One.u) ?_
      show own_E p e below Qq T (mkF m 92 #[.val (.int x0), .val (.int x1), .val (.int x2), .val (.int x3), .val (.int x4), .val (.int x5), .val (.int x6), .val (.int x7), .val (.int x8), .val (.int x9), .val (.ref va), .val vb, .unset, .unset] [])
      obtain ⟨T1, h1, X1, e1, E1, A1, D1, -, st1⟩ := newO X hx hZ hown (hw _ (List.mem_of_getElem? (i := 6) rfl)) (hw _ (List.mem_of_getElem? (i := 7) rfl)) (hw _ (List.mem_of_getElem? (i := 8) rfl)) rfl (g := (mkF m 92 #[.val (.int x0), .val (.int x1), .val (.int x2), .val (.int x3), .val (.int x4), .val (.int x5), .val (.int x6), .val (.int x7), .val (.int x8), .val (.int x9), .val (.ref va), .val vb, .unset, .unset] [])) rfl (hb hby at_92) (by decide) (by decide)
      obtain ⟨a1, ga1⟩ : ∃ z, z = T.heap.size := ⟨_, rfl⟩
      rw [← ga1] at A1 D1 st1
      subst e1
      have I := own_Inew hw (Nat.le_trans P.1 (Nat.le_of_eq ga1.symm)) A1 (own_Pext E1 P) @D1
      refine own_st st1 ?_
      show own_E p e below Qq T1 (mkF m 95 #[.val (.int x0), .val (.int x1), .val (.int x2), .val (.int x3), .val (.int x4), .val (.int x5), .val (.int x6), .val (.int x7), .val (.int x8), .val (.int x9), .val (.ref va), .val vb, .unset, .unset] [(.ref a1)])
      refine own_st (fun _ => XS.dup X1.here hx rfl (hb hby at_95) rfl rfl) ?_
      show own_E p e below Qq T1 (mkF m 96 #[.val (.int x0), .val (.int x1), .val (.int x2), .val (.int x3), .val (.int x4), .val (.int x5), .val (.int x6), .val (.int x7), .val (.int x8), .val (.int x9), .val (.ref va), .val vb, .unset, .unset] [(.ref a1), (.ref a1)])
      refine own_callC X1 hx hZ (y := (⟨"org/jutewire/bind/Referents", "<init>", "()V"⟩ : MethodName)) rfl hown (hw _ (List.mem_of_getElem? (i := 9) rfl)) (hw _ (List.mem_of_getElem? (i := 10) rfl)) (hw _ (List.mem_of_getElem? (i := 8) rfl)) (hw _ (List.mem_of_getElem? (i := 11) rfl)) (by decide) (W := 1) (a := a1) (argsL := []) (rest := [(.ref a1)]) (rm2 l Z a0 hw a1 u (.ref va) vb _ n0 I) (by decide) (by decide) (by decide) (by decide) rfl (by rw [hml]; rfl) (lenOf pd_2 rfl) rfl (by show 2 * 0 + _ ≤ _; exact Nat.le_of_eq rfl) (hb hby at_96) ?_
      intro T2 L2 v X2 hq
      obtain ⟨rfl, N', I'⟩ := hq
      replace N := Fr.app N N'
      replace X2 : Stand p l e room_1 s m #[(.int p0), (.int p1), (.int p2), (.int p3)] below meth c T2 _ 4 19 := X2
      show own_E p e below Qq T2 (mkF m 99 #[.val (.int x0), .val (.int x1), .val (.int x2), .val (.int x3), .val (.int x4), .val (.int x5), .val (.int x6), .val (.int x7), .val (.int x8), .val (.int x9), .val (.ref va), .val vb, .unset, .unset] [(.ref a1)])
      exact B99 _ _ x0 x1 x2 x3 x4 x5 x6 x7 x8 x9 va vb a1 (0 : Int32) (16 : Int32) (fun _ => .null) X2 I' hv N (hF.trans (own_law99 x0 x1 x2 x3 x4 x5 x6 x7 x8 x9 va vb u hP).symm) ⟨hP.1, hP.2.1, hP.2.2.1, hP.2.2.2.1, hP.2.2.2.2, by decide, by decide, Or.inl rfl⟩
    obtain ⟨T1, h1, X1, e1, E1, A1, -, -, st1⟩ := newO X hx hZ hown (hw _ (List.mem_of_getElem? (i := 0) rfl)) (hw _ (List.mem_of_getElem? (i := 1) rfl)) (hw _ (List.mem_of_getElem? (i := 2) rfl)) rfl (g := (mkF m 65 #[.val (.int x0), .val (.int x1), .val (.int x2), .val (.int x3), .val (.int x4), .val (.int x5), .val (.int x6), .val (.int x7), .val (.int x8), .val (.int x9), .unset, .unset, .unset, .unset] [])) rfl (hb hby at_65) (by decide) (by decide)
    obtain ⟨va, ga1⟩ : ∃ z, z = T.heap.size := ⟨_, rfl⟩
    rw [← ga1] at A1 st1
    subst e1
    have P1 : own_P Z n0 T1.heap u (.ref va) .null := by
      obtain ⟨y1, y2, y3, y4, y5⟩ := own_Pext E1 Z0
      exact ⟨y1, y2, y3, Or.inr ⟨va, rfl, Ins.self A1⟩, y5⟩
    refine own_st st1 ?_
    show own_E p e below Qq T1 (mkF m 68 #[.val (.int x0), .val (.int x1), .val (.int x2), .val (.int x3), .val (.int x4), .val (.int x5), .val (.int x6), .val (.int x7), .val (.int x8), .val (.int x9), .unset, .unset, .unset, .unset] [(.ref va)])
    refine own_st (fun _ => XS.dup X1.here hx rfl (hb hby at_68) rfl rfl) ?_
    show own_E p e below Qq T1 (mkF m 69 #[.val (.int x0), .val (.int x1), .val (.int x2), .val (.int x3), .val (.int x4), .val (.int x5), .val (.int x6), .val (.int x7), .val (.int x8), .val (.int x9), .unset, .unset, .unset, .unset] [(.ref va), (.ref va)])
    obtain ⟨T2, X2, e2, st2⟩ := initO X1 hx hZ hown (hw _ (List.mem_of_getElem? (i := 3) rfl)) (hw _ (List.mem_of_getElem? (i := 4) rfl)) (hw _ (List.mem_of_getElem? (i := 5) rfl)) rfl (g := (mkF m 69 #[.val (.int x0), .val (.int x1), .val (.int x2), .val (.int x3), .val (.int x4), .val (.int x5), .val (.int x6), .val (.int x7), .val (.int x8), .val (.int x9), .unset, .unset, .unset, .unset] [(.ref va), (.ref va)])) rfl (by rw [hml]; rfl) rfl (hb hby at_69) (by decide) (W := 1) (by show 2 * 0 + _ ≤ _; exact Nat.le_of_eq rfl) (by decide)
    refine own_st st2 ?_
    replace P1 := own_tr (P := fun h => own_P Z n0 h u (.ref va) .null) e2 P1
    show own_E p e below Qq T2 (mkF m 72 #[.val (.int x0), .val (.int x1), .val (.int x2), .val (.int x3), .val (.int x4), .val (.int x5), .val (.int x6), .val (.int x7), .val (.int x8), .val (.int x9), .unset, .unset, .unset, .unset] [(.ref va)])
    refine own_st (fun _ => XS.astore X2.here hx rfl (hb hby at_72) rfl rfl (l' := #[.val (.int x0), .val (.int x1), .val (.int x2), .val (.int x3), .val (.int x4), .val (.int x5), .val (.int x6), .val (.int x7), .val (.int x8), .val (.int x9), .val (.ref va), .unset, .unset, .unset]) rfl) ?_
    show own_E p e below Qq T2 (mkF m 74 #[.val (.int x0), .val (.int x1), .val (.int x2), .val (.int x3), .val (.int x4), .val (.int x5), .val (.int x6), .val (.int x7), .val (.int x8), .val (.int x9), .val (.ref va), .unset, .unset, .unset] [])
    refine own_st (fun _ => XS.iload X2.here hx rfl (hb hby at_74) rfl) ?_
    show own_E p e below Qq T2 (mkF m 76 #[.val (.int x0), .val (.int x1), .val (.int x2), .val (.int x3), .val (.int x4), .val (.int x5), .val (.int x6), .val (.int x7), .val (.int x8), .val (.int x9), .val (.ref va), .unset, .unset, .unset] [(.int x6)])
    by_cases q76 : x6 = (0 : Int32)
    · refine own_st (fun _ => XS.ifYes X2.here hx rfl (pc0 := 76) (pc' := 83) rfl (hb hby at_76) rfl (XT.i0_eq_t q76) (by decide) (by decide)) ?_
      show own_E p e below Qq T2 (mkF m 83 #[.val (.int x0), .val (.int x1), .val (.int x2), .val (.int x3), .val (.int x4), .val (.int x5), .val (.int x6), .val (.int x7), .val (.int x8), .val (.int x9), .val (.ref va), .unset, .unset, .unset] [])
      obtain ⟨T3, h3, X3, e3, E3, A3, -, -, st3⟩ := newO X2 hx hZ hown (hw _ (List.mem_of_getElem? (i := 0) rfl)) (hw _ (List.mem_of_getElem? (i := 1) rfl)) (hw _ (List.mem_of_getElem? (i := 2) rfl)) rfl (g := (mkF m 83 #[.val (.int x0), .val (.int x1), .val (.int x2), .val (.int x3), .val (.int x4), .val (.int x5), .val (.int x6), .val (.int x7), .val (.int x8), .val (.int x9), .val (.ref va), .unset, .unset, .unset] [])) rfl (hb hby at_83) (by decide) (by decide)
      obtain ⟨vb, ga3⟩ : ∃ z, z = T2.heap.size := ⟨_, rfl⟩
      rw [← ga3] at A3 st3
      subst e3
      have P3 : own_P Z n0 T3.heap u (.ref va) (.ref vb) := by
        obtain ⟨y1, y2, y3, y4, y5⟩ := own_Pext E3 P1
        exact ⟨y1, y2, y3, y4, Or.inr ⟨vb, rfl, Ins.self A3⟩⟩
      refine own_st st3 ?_
      show own_E p e below Qq T3 (mkF m 86 #[.val (.int x0), .val (.int x1), .val (.int x2), .val (.int x3), .val (.int x4), .val (.int x5), .val (.int x6), .val (.int x7), .val (.int x8), .val (.int x9), .val (.ref va), .unset, .unset, .unset] [(.ref vb)])
      refine own_st (fun _ => XS.dup X3.here hx rfl (hb hby at_86) rfl rfl) ?_
      show own_E p e below Qq T3 (mkF m 87 #[.val (.int x0), .val (.int x1), .val (.int x2), .val (.int x3), .val (.int x4), .val (.int x5), .val (.int x6), .val (.int x7), .val (.int x8), .val (.int x9), .val (.ref va), .unset, .unset, .unset] [(.ref vb), (.ref vb)])
      obtain ⟨T4, X4, e4, st4⟩ := initO X3 hx hZ hown (hw _ (List.mem_of_getElem? (i := 3) rfl)) (hw _ (List.mem_of_getElem? (i := 4) rfl)) (hw _ (List.mem_of_getElem? (i := 5) rfl)) rfl (g := (mkF m 87 #[.val (.int x0), .val (.int x1), .val (.int x2), .val (.int x3), .val (.int x4), .val (.int x5), .val (.int x6), .val (.int x7), .val (.int x8), .val (.int x9), .val (.ref va), .unset, .unset, .unset] [(.ref vb), (.ref vb)])) rfl (by rw [hml]; rfl) rfl (hb hby at_87) (by decide) (W := 1) (by show 2 * 0 + _ ≤ _; exact Nat.le_of_eq rfl) (by decide)
      refine own_st st4 ?_
      replace P3 := own_tr (P := fun h => own_P Z n0 h u (.ref va) (.ref vb)) e4 P3
      show own_E p e below Qq T4 (mkF m 90 #[.val (.int x0), .val (.int x1), .val (.int x2), .val (.int x3), .val (.int x4), .val (.int x5), .val (.int x6), .val (.int x7), .val (.int x8), .val (.int x9), .val (.ref va), .unset, .unset, .unset] [(.ref vb)])
      exact K90 _ _ va (.ref vb) X4 P3 rfl N
    · refine own_st (fun _ => XS.ifNo X2.here hx rfl (hb hby at_76) rfl (XT.i0_eq_f q76)) ?_
      show own_E p e below Qq T2 (mkF m 79 #[.val (.int x0), .val (.int x1), .val (.int x2), .val (.int x3), .val (.int x4), .val (.int x5), .val (.int x6), .val (.int x7), .val (.int x8), .val (.int x9), .val (.ref va), .unset, .unset, .unset] [])
      refine own_st (fun _ => XS.aconstNull X2.here hx rfl (hb hby at_79)) ?_
      show own_E p e below Qq T2 (mkF m 80 #[.val (.int x0), .val (.int x1), .val (.int x2), .val (.int x3), .val (.int x4), .val (.int x5), .val (.int x6), .val (.int x7), .val (.int x8), .val (.int x9), .val (.ref va), .unset, .unset, .unset] [.null])
      refine own_st (fun _ => XS.goto X2.here hx rfl (pc0 := 80) (pc' := 90) rfl (hb hby at_80) (by decide) (by decide)) ?_
      show own_E p e below Qq T2 (mkF m 90 #[.val (.int x0), .val (.int x1), .val (.int x2), .val (.int x3), .val (.int x4), .val (.int x5), .val (.int x6), .val (.int x7), .val (.int x8), .val (.int x9), .val (.ref va), .unset, .unset, .unset] [.null])
      exact K90 _ _ va .null (X2.more (by decide) (by decide)) P1 rfl N
  have B63 : ∀ (T : State) (L : List Loc) (x0 : Int32) (x1 : Int32) (x2 : Int32) (x3 : Int32) (x4 : Int32) (x5 : Int32) (x6 : Int32) (x7 : Int32) (x8 : Int32) (y9 : Int32), Stand p l e room_1 s m #[(.int p0), (.int p1), (.int p2), (.int p3)] below meth c T L 0 0 → own_P Z n0 T.heap u .null .null → Fr n0 L → w = F0_63 x0 x1 x2 x3 x4 x5 x6 x7 x8 y9 u → (0 ≤ x7.toInt ∧ x7.toInt ≤ 31 ∧ 0 ≤ x8.toInt ∧ x8.toInt ≤ 31 ∧ 0 ≤ y9.toInt) → own_E p e below Qq T (mkF m 63 #[.val (.int x0), .val (.int x1), .val (.int x2), .val (.int x3), .val (.int x4), .val (.int x5), .val (.int x6), .val (.int x7), .val (.int x8), .unset, .unset, .unset, .unset, .unset] [(.int y9)]) := by
    intro T L x0 x1 x2 x3 x4 x5 x6 x7 x8 y9 X Z0 N hF hP
    refine own_st (fun _ => XS.istore X.here hx rfl (hb hby at_63) rfl (l' := #[.val (.int x0), .val (.int x1), .val (.int x2), .val (.int x3), .val (.int x4), .val (.int x5), .val (.int x6), .val (.int x7), .val (.int x8), .val (.int y9), .unset, .unset, .unset, .unset]) rfl) ?_
    show own_E p e below Qq T (mkF m 65 #[.val (.int x0), .val (.int x1), .val (.int x2), .val (.int x3), .val (.int x4), .val (.int x5), .val (.int x6), .val (.int x7), .val (.int x8), .val (.int y9), .unset, .unset, .unset, .unset] [])
    exact B65 _ _ x0 x1 x2 x3 x4 x5 x6 x7 x8 y9 X Z0 N hF hP
  have B37 : ∀ (T : State) (L : List Loc) (x0 : Int32) (x1 : Int32) (x2 : Int32) (x3 : Int32) (x4 : Int32) (x5 : Int32) (y6 : Int32), Stand p l e room_1 s m #[(.int p0), (.int p1), (.int p2), (.int p3)] below meth c T L 0 0 → own_P Z n0 T.heap u .null .null → Fr n0 L → w = F0_37 x0 x1 x2 x3 x4 x5 y6 u → own_E p e below Qq T (mkF m 37 #[.val (.int x0), .val (.int x1), .val (.int x2), .val (.int x3), .val (.int x4), .val (.int x5), .unset, .unset, .unset, .unset, .unset, .unset, .unset, .unset] [(.int y6)]) := by
    intro T L x0 x1 x2 x3 x4 x5 y6 X Z0 N hF
    refine own_st (fun _ => XS.istore X.here hx rfl (hb hby at_37) rfl (l' := #[.val (.int x0), .val (.int x1), .val (.int x2), .val (.int x3), .val (.int x4), .val (.int x5), .val (.int y6), .unset, .unset, .unset, .unset, .unset, .unset, .unset]) rfl) ?_
    show own_E p e below Qq T (mkF m 39 #[.val (.int x0), .val (.int x1), .val (.int x2), .val (.int x3), .val (.int x4), .val (.int x5), .val (.int y6), .unset, .unset, .unset, .unset, .unset, .unset, .unset] [])
    refine own_st (fun _ => XS.iloadN X.here hx rfl (hb hby at_39) rfl) ?_
    show own_E p e below Qq T (mkF m 40 #[.val (.int x0), .val (.int x1), .val (.int x2), .val (.int x3), .val (.int x4), .val (.int x5), .val (.int y6), .unset, .unset, .unset, .unset, .unset, .unset, .unset] [(.int x1)])
    refine own_st (fun _ => XS.bipush X.here hx rfl (hb hby at_40)) ?_
    show own_E p e below Qq T (mkF m 42 #[.val (.int x0), .val (.int x1), .val (.int x2), .val (.int x3), .val (.int x4), .val (.int x5), .val (.int y6), .unset, .unset, .unset, .unset, .unset, .unset, .unset] [(.int (31 : Int32)), (.int x1)])
    refine own_st (fun _ => XS.iand X.here hx rfl (hb hby at_42) rfl) ?_
    show own_E p e below Qq T (mkF m 43 #[.val (.int x0), .val (.int x1), .val (.int x2), .val (.int x3), .val (.int x4), .val (.int x5), .val (.int y6), .unset, .unset, .unset, .unset, .unset, .unset, .unset] [(.int (x1 &&& (31 : Int32)))])
    refine own_st (fun _ => XS.istore X.here hx rfl (hb hby at_43) rfl (l' := #[.val (.int x0), .val (.int x1), .val (.int x2), .val (.int x3), .val (.int x4), .val (.int x5), .val (.int y6), .val (.int (x1 &&& (31 : Int32))), .unset, .unset, .unset, .unset, .unset, .unset]) rfl) ?_
    show own_E p e below Qq T (mkF m 45 #[.val (.int x0), .val (.int x1), .val (.int x2), .val (.int x3), .val (.int x4), .val (.int x5), .val (.int y6), .val (.int (x1 &&& (31 : Int32))), .unset, .unset, .unset, .unset, .unset, .unset] [])
    refine own_st (fun _ => XS.iloadN X.here hx rfl (hb hby at_45) rfl) ?_
    show own_E p e below Qq T (mkF m 46 #[.val (.int x0), .val (.int x1), .val (.int x2), .val (.int x3), .val (.int x4), .val (.int x5), .val (.int y6), .val (.int (x1 &&& (31 : Int32))), .unset, .unset, .unset, .unset, .unset, .unset] [(.int x2)])
    refine own_st (fun _ => XS.bipush X.here hx rfl (hb hby at_46)) ?_
    show own_E p e below Qq T (mkF m 48 #[.val (.int x0), .val (.int x1), .val (.int x2), .val (.int x3), .val (.int x4), .val (.int x5), .val (.int y6), .val (.int (x1 &&& (31 : Int32))), .unset, .unset, .unset, .unset, .unset, .unset] [(.int (31 : Int32)), (.int x2)])
    refine own_st (fun _ => XS.iand X.here hx rfl (hb hby at_48) rfl) ?_
    show own_E p e below Qq T (mkF m 49 #[.val (.int x0), .val (.int x1), .val (.int x2), .val (.int x3), .val (.int x4), .val (.int x5), .val (.int y6), .val (.int (x1 &&& (31 : Int32))), .unset, .unset, .unset, .unset, .unset, .unset] [(.int (x2 &&& (31 : Int32)))])
    refine own_st (fun _ => XS.istore X.here hx rfl (hb hby at_49) rfl (l' := #[.val (.int x0), .val (.int x1), .val (.int x2), .val (.int x3), .val (.int x4), .val (.int x5), .val (.int y6), .val (.int (x1 &&& (31 : Int32))), .val (.int (x2 &&& (31 : Int32))), .unset, .unset, .unset, .unset, .unset]) rfl) ?_
    show own_E p e below Qq T (mkF m 51 #[.val (.int x0), .val (.int x1), .val (.int x2), .val (.int x3), .val (.int x4), .val (.int x5), .val (.int y6), .val (.int (x1 &&& (31 : Int32))), .val (.int (x2 &&& (31 : Int32))), .unset, .unset, .unset, .unset, .unset] [])
    refine own_st (fun _ => XS.iloadN X.here hx rfl (hb hby at_51) rfl) ?_
    show own_E p e below Qq T (mkF m 52 #[.val (.int x0), .val (.int x1), .val (.int x2), .val (.int x3), .val (.int x4), .val (.int x5), .val (.int y6), .val (.int (x1 &&& (31 : Int32))), .val (.int (x2 &&& (31 : Int32))), .unset, .unset, .unset, .unset, .unset] [(.int x3)])
    by_cases q52 : x3 < (0 : Int32)
    · replace hF := hF.trans (if_pos q52)
      refine own_st (fun _ => XS.ifNo X.here hx rfl (hb hby at_52) rfl (XT.i0_ge_f q52)) ?_
      show own_E p e below Qq T (mkF m 55 #[.val (.int x0), .val (.int x1), .val (.int x2), .val (.int x3), .val (.int x4), .val (.int x5), .val (.int y6), .val (.int (x1 &&& (31 : Int32))), .val (.int (x2 &&& (31 : Int32))), .unset, .unset, .unset, .unset, .unset] [])
      refine own_st (fun _ => XS.iloadN X.here hx rfl (hb hby at_55) rfl) ?_
      show own_E p e below Qq T (mkF m 56 #[.val (.int x0), .val (.int x1), .val (.int x2), .val (.int x3), .val (.int x4), .val (.int x5), .val (.int y6), .val (.int (x1 &&& (31 : Int32))), .val (.int (x2 &&& (31 : Int32))), .unset, .unset, .unset, .unset, .unset] [(.int x3)])
      refine own_st (fun _ => XS.bipush X.here hx rfl (hb hby at_56)) ?_
      show own_E p e below Qq T (mkF m 58 #[.val (.int x0), .val (.int x1), .val (.int x2), .val (.int x3), .val (.int x4), .val (.int x5), .val (.int y6), .val (.int (x1 &&& (31 : Int32))), .val (.int (x2 &&& (31 : Int32))), .unset, .unset, .unset, .unset, .unset] [(.int (63 : Int32)), (.int x3)])
      refine own_st (fun _ => XS.iand X.here hx rfl (hb hby at_58) rfl) ?_
      show own_E p e below Qq T (mkF m 59 #[.val (.int x0), .val (.int x1), .val (.int x2), .val (.int x3), .val (.int x4), .val (.int x5), .val (.int y6), .val (.int (x1 &&& (31 : Int32))), .val (.int (x2 &&& (31 : Int32))), .unset, .unset, .unset, .unset, .unset] [(.int (x3 &&& (63 : Int32)))])
      refine own_st (fun _ => XS.goto X.here hx rfl (pc0 := 59) (pc' := 63) rfl (hb hby at_59) (by decide) (by decide)) ?_
      show own_E p e below Qq T (mkF m 63 #[.val (.int x0), .val (.int x1), .val (.int x2), .val (.int x3), .val (.int x4), .val (.int x5), .val (.int y6), .val (.int (x1 &&& (31 : Int32))), .val (.int (x2 &&& (31 : Int32))), .unset, .unset, .unset, .unset, .unset] [(.int (x3 &&& (63 : Int32)))])
      exact B63 _ _ x0 x1 x2 x3 x4 x5 y6 (x1 &&& (31 : Int32)) (x2 &&& (31 : Int32)) (x3 &&& (63 : Int32)) X Z0 N hF (by first | exact own_b0 _ _ _ | exact own_b0n _ _ q52)
    · replace hF := hF.trans (if_neg q52)
      refine own_st (fun _ => XS.ifYes X.here hx rfl (pc0 := 52) (pc' := 62) rfl (hb hby at_52) rfl (XT.i0_ge_t q52) (by decide) (by decide)) ?_
      show own_E p e below Qq T (mkF m 62 #[.val (.int x0), .val (.int x1), .val (.int x2), .val (.int x3), .val (.int x4), .val (.int x5), .val (.int y6), .val (.int (x1 &&& (31 : Int32))), .val (.int (x2 &&& (31 : Int32))), .unset, .unset, .unset, .unset, .unset] [])
      refine own_st (fun _ => XS.iloadN X.here hx rfl (hb hby at_62) rfl) ?_
      show own_E p e below Qq T (mkF m 63 #[.val (.int x0), .val (.int x1), .val (.int x2), .val (.int x3), .val (.int x4), .val (.int x5), .val (.int y6), .val (.int (x1 &&& (31 : Int32))), .val (.int (x2 &&& (31 : Int32))), .unset, .unset, .unset, .unset, .unset] [(.int x3)])
      exact B63 _ _ x0 x1 x2 x3 x4 x5 y6 (x1 &&& (31 : Int32)) (x2 &&& (31 : Int32)) x3 X Z0 N hF (by first | exact own_b0 _ _ _ | exact own_b0n _ _ q52)
  have B24 : ∀ (T : State) (L : List Loc) (x0 : Int32) (x1 : Int32) (x2 : Int32) (x3 : Int32) (x4 : Int32) (y5 : Int32), Stand p l e room_1 s m #[(.int p0), (.int p1), (.int p2), (.int p3)] below meth c T L 0 0 → own_P Z n0 T.heap u .null .null → Fr n0 L → w = F0_24 x0 x1 x2 x3 x4 y5 u → own_E p e below Qq T (mkF m 24 #[.val (.int x0), .val (.int x1), .val (.int x2), .val (.int x3), .val (.int x4), .unset, .unset, .unset, .unset, .unset, .unset, .unset, .unset, .unset] [(.int y5)]) := by
    intro T L x0 x1 x2 x3 x4 y5 X Z0 N hF
    refine own_st (fun _ => XS.istore X.here hx rfl (hb hby at_24) rfl (l' := #[.val (.int x0), .val (.int x1), .val (.int x2), .val (.int x3), .val (.int x4), .val (.int y5), .unset, .unset, .unset, .unset, .unset, .unset, .unset, .unset]) rfl) ?_
    show own_E p e below Qq T (mkF m 26 #[.val (.int x0), .val (.int x1), .val (.int x2), .val (.int x3), .val (.int x4), .val (.int y5), .unset, .unset, .unset, .unset, .unset, .unset, .unset, .unset] [])
    refine own_st (fun _ => XS.iloadN X.here hx rfl (hb hby at_26) rfl) ?_
    show own_E p e below Qq T (mkF m 27 #[.val (.int x0), .val (.int x1), .val (.int x2), .val (.int x3), .val (.int x4), .val (.int y5), .unset, .unset, .unset, .unset, .unset, .unset, .unset, .unset] [(.int x0)])
    refine own_st (fun _ => XS.iconst X.here hx rfl (hb hby at_27)) ?_
    show own_E p e below Qq T (mkF m 28 #[.val (.int x0), .val (.int x1), .val (.int x2), .val (.int x3), .val (.int x4), .val (.int y5), .unset, .unset, .unset, .unset, .unset, .unset, .unset, .unset] [(.int (4 : Int32)), (.int x0)])
    refine own_st (fun _ => XS.iand X.here hx rfl (hb hby at_28) rfl) ?_
    show own_E p e below Qq T (mkF m 29 #[.val (.int x0), .val (.int x1), .val (.int x2), .val (.int x3), .val (.int x4), .val (.int y5), .unset, .unset, .unset, .unset, .unset, .unset, .unset, .unset] [(.int (x0 &&& (4 : Int32)))])
    by_cases q29 : (x0 &&& (4 : Int32)) = (0 : Int32)
    · replace hF := hF.trans (if_pos q29)
      refine own_st (fun _ => XS.ifYes X.here hx rfl (pc0 := 29) (pc' := 36) rfl (hb hby at_29) rfl (XT.i0_eq_t q29) (by decide) (by decide)) ?_
      show own_E p e below Qq T (mkF m 36 #[.val (.int x0), .val (.int x1), .val (.int x2), .val (.int x3), .val (.int x4), .val (.int y5), .unset, .unset, .unset, .unset, .unset, .unset, .unset, .unset] [])
      refine own_st (fun _ => XS.iconst X.here hx rfl (hb hby at_36)) ?_
      show own_E p e below Qq T (mkF m 37 #[.val (.int x0), .val (.int x1), .val (.int x2), .val (.int x3), .val (.int x4), .val (.int y5), .unset, .unset, .unset, .unset, .unset, .unset, .unset, .unset] [(.int (0 : Int32))])
      exact B37 _ _ x0 x1 x2 x3 x4 y5 (0 : Int32) X Z0 N hF
    · replace hF := hF.trans (if_neg q29)
      refine own_st (fun _ => XS.ifNo X.here hx rfl (hb hby at_29) rfl (XT.i0_eq_f q29)) ?_
      show own_E p e below Qq T (mkF m 32 #[.val (.int x0), .val (.int x1), .val (.int x2), .val (.int x3), .val (.int x4), .val (.int y5), .unset, .unset, .unset, .unset, .unset, .unset, .unset, .unset] [])
      refine own_st (fun _ => XS.iconst X.here hx rfl (hb hby at_32)) ?_
      show own_E p e below Qq T (mkF m 33 #[.val (.int x0), .val (.int x1), .val (.int x2), .val (.int x3), .val (.int x4), .val (.int y5), .unset, .unset, .unset, .unset, .unset, .unset, .unset, .unset] [(.int (1 : Int32))])
      refine own_st (fun _ => XS.goto X.here hx rfl (pc0 := 33) (pc' := 37) rfl (hb hby at_33) (by decide) (by decide)) ?_
      show own_E p e below Qq T (mkF m 37 #[.val (.int x0), .val (.int x1), .val (.int x2), .val (.int x3), .val (.int x4), .val (.int y5), .unset, .unset, .unset, .unset, .unset, .unset, .unset, .unset] [(.int (1 : Int32))])
      exact B37 _ _ x0 x1 x2 x3 x4 y5 (1 : Int32) X Z0 N hF
  have B11 : ∀ (T : State) (L : List Loc) (x0 : Int32) (x1 : Int32) (x2 : Int32) (x3 : Int32) (y4 : Int32), Stand p l e room_1 s m #[(.int p0), (.int p1), (.int p2), (.int p3)] below meth c T L 0 0 → own_P Z n0 T.heap u .null .null → Fr n0 L → w = F0_11 x0 x1 x2 x3 y4 u → own_E p e below Qq T (mkF m 11 #[.val (.int x0), .val (.int x1), .val (.int x2), .val (.int x3), .unset, .unset, .unset, .unset, .unset, .unset, .unset, .unset, .unset, .unset] [(.int y4)]) := by
    intro T L x0 x1 x2 x3 y4 X Z0 N hF
    refine own_st (fun _ => XS.istore X.here hx rfl (hb hby at_11) rfl (l' := #[.val (.int x0), .val (.int x1), .val (.int x2), .val (.int x3), .val (.int y4), .unset, .unset, .unset, .unset, .unset, .unset, .unset, .unset, .unset]) rfl) ?_
    show own_E p e below Qq T (mkF m 13 #[.val (.int x0), .val (.int x1), .val (.int x2), .val (.int x3), .val (.int y4), .unset, .unset, .unset, .unset, .unset, .unset, .unset, .unset, .unset] [])
    refine own_st (fun _ => XS.iloadN X.here hx rfl (hb hby at_13) rfl) ?_
    show own_E p e below Qq T (mkF m 14 #[.val (.int x0), .val (.int x1), .val (.int x2), .val (.int x3), .val (.int y4), .unset, .unset, .unset, .unset, .unset, .unset, .unset, .unset, .unset] [(.int x0)])
    refine own_st (fun _ => XS.iconst X.here hx rfl (hb hby at_14)) ?_
    show own_E p e below Qq T (mkF m 15 #[.val (.int x0), .val (.int x1), .val (.int x2), .val (.int x3), .val (.int y4), .unset, .unset, .unset, .unset, .unset, .unset, .unset, .unset, .unset] [(.int (2 : Int32)), (.int x0)])
    refine own_st (fun _ => XS.iand X.here hx rfl (hb hby at_15) rfl) ?_
    show own_E p e below Qq T (mkF m 16 #[.val (.int x0), .val (.int x1), .val (.int x2), .val (.int x3), .val (.int y4), .unset, .unset, .unset, .unset, .unset, .unset, .unset, .unset, .unset] [(.int (x0 &&& (2 : Int32)))])
    by_cases q16 : (x0 &&& (2 : Int32)) = (0 : Int32)
    · replace hF := hF.trans (if_pos q16)
      refine own_st (fun _ => XS.ifYes X.here hx rfl (pc0 := 16) (pc' := 23) rfl (hb hby at_16) rfl (XT.i0_eq_t q16) (by decide) (by decide)) ?_
      show own_E p e below Qq T (mkF m 23 #[.val (.int x0), .val (.int x1), .val (.int x2), .val (.int x3), .val (.int y4), .unset, .unset, .unset, .unset, .unset, .unset, .unset, .unset, .unset] [])
      refine own_st (fun _ => XS.iconst X.here hx rfl (hb hby at_23)) ?_
      show own_E p e below Qq T (mkF m 24 #[.val (.int x0), .val (.int x1), .val (.int x2), .val (.int x3), .val (.int y4), .unset, .unset, .unset, .unset, .unset, .unset, .unset, .unset, .unset] [(.int (0 : Int32))])
      exact B24 _ _ x0 x1 x2 x3 y4 (0 : Int32) X Z0 N hF
    · replace hF := hF.trans (if_neg q16)
      refine own_st (fun _ => XS.ifNo X.here hx rfl (hb hby at_16) rfl (XT.i0_eq_f q16)) ?_
      show own_E p e below Qq T (mkF m 19 #[.val (.int x0), .val (.int x1), .val (.int x2), .val (.int x3), .val (.int y4), .unset, .unset, .unset, .unset, .unset, .unset, .unset, .unset, .unset] [])
      refine own_st (fun _ => XS.iconst X.here hx rfl (hb hby at_19)) ?_
      show own_E p e below Qq T (mkF m 20 #[.val (.int x0), .val (.int x1), .val (.int x2), .val (.int x3), .val (.int y4), .unset, .unset, .unset, .unset, .unset, .unset, .unset, .unset, .unset] [(.int (1 : Int32))])
      refine own_st (fun _ => XS.goto X.here hx rfl (pc0 := 20) (pc' := 24) rfl (hb hby at_20) (by decide) (by decide)) ?_
      show own_E p e below Qq T (mkF m 24 #[.val (.int x0), .val (.int x1), .val (.int x2), .val (.int x3), .val (.int y4), .unset, .unset, .unset, .unset, .unset, .unset, .unset, .unset, .unset] [(.int (1 : Int32))])
      exact B24 _ _ x0 x1 x2 x3 y4 (1 : Int32) X Z0 N hF
  show own_E p e below Qq T (mkF m 0 #[.val (.int p0), .val (.int p1), .val (.int p2), .val (.int p3), .unset, .unset, .unset, .unset, .unset, .unset, .unset, .unset, .unset, .unset] [])
  refine own_st (fun _ => XS.iloadN X.here hx rfl (hb hby at_0) rfl) ?_
  show own_E p e below Qq T (mkF m 1 #[.val (.int p0), .val (.int p1), .val (.int p2), .val (.int p3), .unset, .unset, .unset, .unset, .unset, .unset, .unset, .unset, .unset, .unset] [(.int p0)])
  refine own_st (fun _ => XS.iconst X.here hx rfl (hb hby at_1)) ?_
  show own_E p e below Qq T (mkF m 2 #[.val (.int p0), .val (.int p1), .val (.int p2), .val (.int p3), .unset, .unset, .unset, .unset, .unset, .unset, .unset, .unset, .unset, .unset] [(.int (1 : Int32)), (.int p0)])
  refine own_st (fun _ => XS.iand X.here hx rfl (hb hby at_2) rfl) ?_
  show own_E p e below Qq T (mkF m 3 #[.val (.int p0), .val (.int p1), .val (.int p2), .val (.int p3), .unset, .unset, .unset, .unset, .unset, .unset, .unset, .unset, .unset, .unset] [(.int (p0 &&& (1 : Int32)))])
  by_cases q3 : (p0 &&& (1 : Int32)) = (0 : Int32)
  · replace hF := hF.trans (if_pos q3)
    refine own_st (fun _ => XS.ifYes X.here hx rfl (pc0 := 3) (pc' := 10) rfl (hb hby at_3) rfl (XT.i0_eq_t q3) (by decide) (by decide)) ?_
    show own_E p e below Qq T (mkF m 10 #[.val (.int p0), .val (.int p1), .val (.int p2), .val (.int p3), .unset, .unset, .unset, .unset, .unset, .unset, .unset, .unset, .unset, .unset] [])
    refine own_st (fun _ => XS.iconst X.here hx rfl (hb hby at_10)) ?_
    show own_E p e below Qq T (mkF m 11 #[.val (.int p0), .val (.int p1), .val (.int p2), .val (.int p3), .unset, .unset, .unset, .unset, .unset, .unset, .unset, .unset, .unset, .unset] [(.int (0 : Int32))])
    exact B11 _ _ p0 p1 p2 p3 (0 : Int32) X Z0 N hF
  · replace hF := hF.trans (if_neg q3)
    refine own_st (fun _ => XS.ifNo X.here hx rfl (hb hby at_3) rfl (XT.i0_eq_f q3)) ?_
    show own_E p e below Qq T (mkF m 6 #[.val (.int p0), .val (.int p1), .val (.int p2), .val (.int p3), .unset, .unset, .unset, .unset, .unset, .unset, .unset, .unset, .unset, .unset] [])
    refine own_st (fun _ => XS.iconst X.here hx rfl (hb hby at_6)) ?_
    show own_E p e below Qq T (mkF m 7 #[.val (.int p0), .val (.int p1), .val (.int p2), .val (.int p3), .unset, .unset, .unset, .unset, .unset, .unset, .unset, .unset, .unset, .unset] [(.int (1 : Int32))])
    refine own_st (fun _ => XS.goto X.here hx rfl (pc0 := 7) (pc' := 11) rfl (hb hby at_7) (by decide) (by decide)) ?_
    show own_E p e below Qq T (mkF m 11 #[.val (.int p0), .val (.int p1), .val (.int p2), .val (.int p3), .unset, .unset, .unset, .unset, .unset, .unset, .unset, .unset, .unset, .unset] [(.int (1 : Int32))])
    exact B11 _ _ p0 p1 p2 p3 (1 : Int32) X Z0 N hF
theorem own_63 (x0 x1 x2 x3 x4 x5 x6 x7 x8 x9 : Int32) (u : Addr) : F0_63 x0 x1 x2 x3 x4 x5 x6 x7 x8 x9 u = 1 := rfl
theorem own_law (p0 p1 p2 p3 : Int32) (u : Addr) : F0_0 p0 p1 p2 p3 u = 1 := by
  have a37 : ∀ x0 x1 x2 x3 x4 x5 x6 : Int32, F0_37 x0 x1 x2 x3 x4 x5 x6 u = 1 := fun x0 x1 x2 x3 x4 x5 x6 => by unfold F0_37; split <;> rfl
  have a24 : ∀ x0 x1 x2 x3 x4 x5 : Int32, F0_24 x0 x1 x2 x3 x4 x5 u = 1 := fun x0 x1 x2 x3 x4 x5 => by unfold F0_24; split <;> exact a37 _ _ _ _ _ _ _
  have a11 : ∀ x0 x1 x2 x3 x4 : Int32, F0_11 x0 x1 x2 x3 x4 u = 1 := fun x0 x1 x2 x3 x4 => by unfold F0_11; split <;> exact a24 _ _ _ _ _ _
  unfold F0_0
  split <;> exact a11 _ _ _ _ _
set_option maxRecDepth 65536 in
set_option maxHeartbeats 40000000 in
theorem comes_1 {Post : Tables → Env → Array Value → State → Outcome → State → Prop} (hpost : ∀ tb e args s v u, (limb_1_1.after args s (.returned v) u = true ∧ limb_1_2.after args s (.returned v) u = true ∧ True) → FrameEnd s (.returned v) u (Jvm.fieldLocs frame_1_writes args s ++ Jvm.arrayLocs frame_1_arrays args s ++ Jvm.staticLocs frame_1_statics s) 24 192 → Post tb e args s (.returned v) u) :
    ArmFor flags0 classFile x code maxLocals ret World_1 tables_1 room_1 Calls_1 rest_1 Pre_1 Post := by
  intro l hfl _ _ p e ha hc hk s m args below hf hA hF happ hP
  obtain ⟨hcalls, hrest, hpre⟩ := hP
  obtain ⟨-, -, -, hnamed, -, -, -, hat⟩ := (Spec.applies_iff hf).mp happ
  obtain ⟨hg, hn⟩ := and_e (Cond.before_iff.mp (show (Jvm.Cond.and given_1 narrow_1).before args s = true from hpre))
  obtain ⟨g0, hg⟩ := and_e hg
  obtain ⟨w0, w1, w2, w3, rfl⟩ : ∃ w0 w1 w2 w3 : Value, args = #[w0, w1, w2, w3] := by
    have hs : args.size = 4 := by simpa [Cond.value, given_1] using g0
    obtain ⟨L⟩ := args
    match L, hs with
    | [w0, w1, w2, w3], _ => exact ⟨w0, w1, w2, w3, rfl⟩
  have hw := fun d (hd : d ∈ tables_1) => atoms_spec (ws := Jvm.Cond.code x code maxLocals ret :: tables_1) hat d (List.mem_cons_of_mem _ hd)
  obtain ⟨g1, hg⟩ := and_e hg
  obtain ⟨g2, hg⟩ := and_e hg
  obtain ⟨g3, g4⟩ := and_e hg
  obtain ⟨i0, e0⟩ := is_v g1
  obtain rfl : w0 = (.int i0) := Option.some.inj e0
  obtain ⟨i1, e1⟩ := is_v g2
  obtain rfl : w1 = (.int i1) := Option.some.inj e1
  obtain ⟨i2, e2⟩ := is_v g3
  obtain rfl : w2 = (.int i2) := Option.some.inj e2
  obtain ⟨i3, e3⟩ := is_v g4
  obtain rfl : w3 = (.int i3) := Option.some.inj e3
  obtain ⟨u, fu⟩ := exa_v hn
  have Su := Sta.start fu (Or.inr ⟨(hw _ (List.mem_of_getElem? (i := 8) rfl)), (hw _ (List.mem_of_getElem? (i := 18) rfl))⟩)
  have Xu := Exa.start fu hn
  have P0 : own_P s s.heap.size s.heap u .null .null := ⟨Nat.le_refl _, Su, Or.inr ⟨u, rfl, Ins.self Xu⟩, Or.inl rfl, Or.inl rfl⟩
  obtain ⟨cM, kM, mir, hM1, hM2, hM3⟩ : ∃ (c : ClassId) (k : Class) (mir : Addr), s.vm.findClass "[Ljava/lang/Object;" = some c ∧ s.vm.classes[c]? = some k ∧ k.mirror = some mir := by
    obtain ⟨y1, y2, y3, y4, y5, y6⟩ := hcalls.1
    first | exact ⟨y1, y2, y3, y4, y5, y6⟩ | exact ⟨y1, y2, y3, y4, y5, y6.1⟩
  obtain ⟨n, o, h1, h2, h3, _, L, rfl, ⟨rfl, N, _⟩, hq⟩ := rm0 l s _ hw mir ⟨cM, kM, hM1, hM2, hM3⟩ i0 i1 i2 i3 u s.heap s.heap.size P0 tables_1 p e ha hc hk s m _ below hf ((Spec.applies_iff_loose hf).mp happ).1 ⟨rfl, State.Warmed39.refl s, rfl⟩ trivial
  refine ⟨n, _, h1, h2, h3, hpost _ _ _ _ _ _ ⟨Cond.after_iff.mpr rfl, Cond.after_iff.mpr (eq_i res_at (Term.int_eval (1)) (by rw [own_law i0 i1 i2 i3 u]) rfl), trivial⟩ ⟨hq.1, hq.2.1, (hq.2.2.sift fun y hy => Or.inr (N y hy)).mono (by decide) (by decide)⟩⟩
theorem main_1_1 : Claimed_1_1 := comes_1 fun _ _ _ _ _ _ h hF => ⟨h.1, hF⟩
theorem main_1_2 : Claimed_1_2 := comes_1 fun _ _ _ _ _ _ h hF => ⟨h.2.1, hF⟩

end Jvm.Pilot.@@N@@
namespace Jvm.Pilot.@@N@@
open Jvm Jvm.ClassFile Sem Op Lib Jvm.Free Jvm.Stand Jvm.Pilot.@@N@@.Jvm.D
/-! MADE BY PROGRAM (witnessworld.py) out of the Statement's table words and the real class files: 14 classes; the members and pool entries that the words name. The judged class is class 1, her method 1. -/
namespace start1
open Jvm.ClassFile
def u (s : String) : CpInfo := .utf8 (stringToUtf16 s)
/-- a pool by its gaps: so many unusable entries, then the entry; so many at the end -/
def gap : Nat → List CpInfo → List CpInfo
  | 0, r => r
  | n + 1, r => .unusable :: gap n r
def poolList (es : List (Nat × CpInfo)) (last : Nat) : List CpInfo := es.foldr (fun e r => gap e.1 (e.2 :: r)) (gap last [])
def pool (es : List (Nat × CpInfo)) (last : Nat) : Array CpInfo := ⟨poolList es last⟩
def fileOf (pool : Array CpInfo) (this : Nat) (attrs : Array Attribute := #[]) (ms : Array MethodInfo := #[]) (fl : Nat := 33) (sup : Nat := 0) (ifs : Array Nat := #[]) (fds : Array FieldInfo := #[]) : ClassFile where
  minorVersion := 0
  majorVersion := 65
  constantPool := pool
  accessFlags := fl
  thisClass := this
  superClass := sup
  interfaces := ifs
  fields := fds
  methods := ms
  attributes := attrs
def plain (name : String) (sup : Option ClassId) : Class where
  name := name
  kind := .ordinary
  loader := none
  accessFlags := 33
  super := sup
  interfaces := #[]
  cf := none
  fields := #[]
  methods := #[]
  instanceTypes := #[]
  staticTypes := #[]
  resolved := #[]
  callSites := []
  init := .initialized
  statics := none
  mirror := none

def pool0 : Array CpInfo := pool [(5, u "<init>"), (0, u "()V"), (1, .class_ 10), (1, u "java/lang/Object"), (0, u "getClass"), (0, u "()Ljava/lang/Class;")] 111

def k0c0 : Code := { maxStack := 0, maxLocals := 1, code := object_method_1_code, exceptionTable := #[], attributes := #[] }
def k0m0 : Method := { name := "<init>", desc := "()V", sig := { parameters := [], returnType := none }, accessFlags := 1, code := some k0c0 }
def k0m1 : Method := { name := "getClass", desc := "()Ljava/lang/Class;", sig := { parameters := [], returnType := some (.object "java/lang/Class") }, accessFlags := 273, code := none }
/-- java/lang/Object -/
def k0 : Class := { plain "java/lang/Object" none with
  accessFlags := 33
  interfaces := #[]
  cf := some (fileOf pool0 8 #[] #[{ accessFlags := 1, nameIndex := 5, descriptorIndex := 6, attributes := #[] }, { accessFlags := 273, nameIndex := 11, descriptorIndex := 12, attributes := #[] }] 33 0 #[] #[])
  fields := #[]
  methods := #[k0m0, k0m1]
  instanceTypes := #[]
  staticTypes := #[]
  resolved := Array.replicate 124 none
  statics := none }

def pool1 : Array CpInfo := pool [(1, .methodref 2 3), (0, .class_ 4), (0, .nameAndType 5 6), (0, u "java/lang/Object"), (0, u "<init>"), (0, u "()V"), (0, .class_ 8), (0, u "org/jutewire/bind/Referents"), (0, .methodref 7 3), (0, .methodref 7 11), (0, .nameAndType 12 13), (0, u "keep"), (0, u "(ILjava/lang/Object;)V"), (0, .fieldref 7 15), (0, .nameAndType 16 17), (0, u "UNREAD"), (0, u "Ljava/lang/Object;"), (0, .methodref 7 19), (0, .nameAndType 20 21), (0, u "get"), (0, u "(I)Ljava/lang/Object;"), (0, .class_ 23), (0, u "org/jutewire/bind/ReferentsGetPinLaw"), (2, u "law"), (0, u "(IIII)Z")] 3

def k1m0 : Method := { name := "<init>", desc := "()V", sig := { parameters := [], returnType := none }, accessFlags := 1, code := none }
def k1c1 : Code := { maxStack := 3, maxLocals := 14, code := code, exceptionTable := #[], attributes := #[] }
def k1m1 : Method := { name := "law", desc := "(IIII)Z", sig := { parameters := [.int, .int, .int, .int], returnType := some .boolean }, accessFlags := 9, code := some k1c1 }
/-- org/jutewire/bind/ReferentsGetPinLaw -/
def k1 : Class := { plain "org/jutewire/bind/ReferentsGetPinLaw" (some 0) with
  accessFlags := 49
  interfaces := #[]
  cf := some (fileOf pool1 22 #[] #[{ accessFlags := 1, nameIndex := 5, descriptorIndex := 6, attributes := #[] }, { accessFlags := 9, nameIndex := 26, descriptorIndex := 27, attributes := #[] }] 49 2 #[] #[])
  fields := #[]
  methods := #[k1m0, k1m1]
  instanceTypes := #[]
  staticTypes := #[]
  resolved := Array.replicate 31 none
  statics := none }

def pool2 : Array CpInfo := pool [(1, .methodref 2 3), (0, .class_ 4), (0, .nameAndType 5 6), (0, u "java/lang/Object"), (0, u "<init>"), (0, u "()V"), (0, .fieldref 8 9), (0, .class_ 10), (0, .nameAndType 11 12), (0, u "org/jutewire/bind/Referents"), (0, u "values"), (0, u "[Ljava/lang/Object;"), (0, .methodref 14 15), (0, .class_ 16), (0, .nameAndType 17 18), (0, u "java/lang/Math"), (0, u "max"), (0, u "(II)I"), (0, .methodref 20 21), (0, .class_ 22), (0, .nameAndType 23 24), (0, u "java/util/Arrays"), (0, u "copyOf"), (0, u "([Ljava/lang/Object;I)[Ljava/lang/Object;"), (0, .fieldref 8 26), (0, .nameAndType 27 28), (0, u "count"), (0, u "I"), (0, .fieldref 8 30), (0, .nameAndType 31 32), (0, u "UNREAD"), (0, u "Ljava/lang/Object;"), (2, u "sought"), (2, u "keep"), (0, u "(ILjava/lang/Object;)V"), (1, u "get"), (0, u "(I)Ljava/lang/Object;")] 6

def k2c0 : Code := { maxStack := 2, maxLocals := 1, code := prog_46_method_1_code, exceptionTable := #[], attributes := #[] }
def k2m0 : Method := { name := "<init>", desc := "()V", sig := { parameters := [], returnType := none }, accessFlags := 0, code := some k2c0 }
def k2c1 : Code := { maxStack := 5, maxLocals := 3, code := prog_46_method_2_code, exceptionTable := #[], attributes := #[] }
def k2m1 : Method := { name := "keep", desc := "(ILjava/lang/Object;)V", sig := { parameters := [.int, (.object "java/lang/Object")], returnType := none }, accessFlags := 0, code := some k2c1 }
def k2c2 : Code := { maxStack := 2, maxLocals := 2, code := prog_46_method_3_code, exceptionTable := #[], attributes := #[] }
def k2m2 : Method := { name := "get", desc := "(I)Ljava/lang/Object;", sig := { parameters := [.int], returnType := some (.object "java/lang/Object") }, accessFlags := 0, code := some k2c2 }
/-- org/jutewire/bind/Referents -/
def k2 : Class := { plain "org/jutewire/bind/Referents" (some 0) with
  accessFlags := 48
  interfaces := #[]
  cf := some (fileOf pool2 8 #[] #[{ accessFlags := 0, nameIndex := 5, descriptorIndex := 6, attributes := #[] }, { accessFlags := 0, nameIndex := 38, descriptorIndex := 39, attributes := #[] }, { accessFlags := 0, nameIndex := 41, descriptorIndex := 42, attributes := #[] }] 48 2 #[] #[{ accessFlags := 24, nameIndex := 31, descriptorIndex := 32, attributes := #[] }, { accessFlags := 2, nameIndex := 11, descriptorIndex := 12, attributes := #[] }, { accessFlags := 2, nameIndex := 27, descriptorIndex := 28, attributes := #[] }, { accessFlags := 2, nameIndex := 35, descriptorIndex := 28, attributes := #[] }])
  fields := #[{ name := "UNREAD", type := (.object "java/lang/Object"), accessFlags := 24, slot := 0, constantValue := 0 }, { name := "values", type := (.array (.object "java/lang/Object")), accessFlags := 2, slot := 0, constantValue := 0 }, { name := "count", type := .int, accessFlags := 2, slot := 1, constantValue := 0 }, { name := "sought", type := .int, accessFlags := 2, slot := 2, constantValue := 0 }]
  methods := #[k2m0, k2m1, k2m2]
  instanceTypes := #[(.array (.object "java/lang/Object")), .int, .int]
  staticTypes := #[(.object "java/lang/Object")]
  resolved := Array.replicate 49 none
  statics := some 0 }

def pool3 : Array CpInfo := pool [(1, .class_ 2), (0, u "java/lang/Math"), (1, .class_ 6), (1, u "java/lang/Object"), (0, u "<init>"), (0, u "()V"), (89, .class_ 100), (1, u "java/lang/Math$RandomNumberGeneratorHolder"), (71, u "negativeZeroFloatBits"), (0, u "J"), (2, u "negativeZeroDoubleBits"), (21, u "max"), (2, u "min"), (43, u "$assertionsDisabled"), (0, u "Z"), (88, u "(II)I"), (2, u "twoToTheDoubleScaleDown"), (0, u "D"), (4, u "twoToTheDoubleScaleUp"), (9, u "E"), (3, u "PI"), (2, u "TAU"), (2, u "DEGREES_TO_RADIANS"), (0, u "RADIANS_TO_DEGREES")] 94

def k3m0 : Method := { name := "<init>", desc := "()V", sig := { parameters := [], returnType := none }, accessFlags := 2, code := none }
def k3c1 : Code := { maxStack := 2, maxLocals := 2, code := jdk_29_method_65_code, exceptionTable := #[], attributes := #[] }
def k3m1 : Method := { name := "max", desc := "(II)I", sig := { parameters := [.int, .int], returnType := some .int }, accessFlags := 9, code := some k3c1 }
def k3c2 : Code := { maxStack := 2, maxLocals := 2, code := jdk_29_method_69_code, exceptionTable := #[], attributes := #[] }
def k3m2 : Method := { name := "min", desc := "(II)I", sig := { parameters := [.int, .int], returnType := some .int }, accessFlags := 9, code := some k3c2 }
/-- java/lang/Math -/
def k3 : Class := { plain "java/lang/Math" (some 0) with
  accessFlags := 49
  interfaces := #[]
  cf := some (fileOf pool3 1 #[.nestMembers #[98]] #[{ accessFlags := 2, nameIndex := 7, descriptorIndex := 8, attributes := #[] }, { accessFlags := 9, nameIndex := 198, descriptorIndex := 335, attributes := #[] }, { accessFlags := 9, nameIndex := 201, descriptorIndex := 335, attributes := #[] }] 49 4 #[] #[{ accessFlags := 25, nameIndex := 354, descriptorIndex := 339, attributes := #[] }, { accessFlags := 25, nameIndex := 358, descriptorIndex := 339, attributes := #[] }, { accessFlags := 25, nameIndex := 361, descriptorIndex := 339, attributes := #[] }, { accessFlags := 26, nameIndex := 364, descriptorIndex := 339, attributes := #[] }, { accessFlags := 26, nameIndex := 365, descriptorIndex := 339, attributes := #[] }, { accessFlags := 26, nameIndex := 172, descriptorIndex := 173, attributes := #[] }, { accessFlags := 26, nameIndex := 176, descriptorIndex := 173, attributes := #[] }, { accessFlags := 8, nameIndex := 344, descriptorIndex := 339, attributes := #[] }, { accessFlags := 8, nameIndex := 338, descriptorIndex := 339, attributes := #[] }, { accessFlags := 4120, nameIndex := 245, descriptorIndex := 246, attributes := #[] }])
  fields := #[{ name := "E", type := .double, accessFlags := 25, slot := 0, constantValue := 0 }, { name := "PI", type := .double, accessFlags := 25, slot := 1, constantValue := 0 }, { name := "TAU", type := .double, accessFlags := 25, slot := 2, constantValue := 0 }, { name := "DEGREES_TO_RADIANS", type := .double, accessFlags := 26, slot := 3, constantValue := 0 }, { name := "RADIANS_TO_DEGREES", type := .double, accessFlags := 26, slot := 4, constantValue := 0 }, { name := "negativeZeroFloatBits", type := .long, accessFlags := 26, slot := 5, constantValue := 0 }, { name := "negativeZeroDoubleBits", type := .long, accessFlags := 26, slot := 6, constantValue := 0 }, { name := "twoToTheDoubleScaleUp", type := .double, accessFlags := 8, slot := 7, constantValue := 0 }, { name := "twoToTheDoubleScaleDown", type := .double, accessFlags := 8, slot := 8, constantValue := 0 }, { name := "$assertionsDisabled", type := .boolean, accessFlags := 4120, slot := 9, constantValue := 0 }]
  methods := #[k3m0, k3m1, k3m2]
  instanceTypes := #[]
  staticTypes := #[.double, .double, .double, .double, .double, .long, .long, .double, .double, .boolean]
  resolved := Array.replicate 460 none
  statics := none }

def pool4 : Array CpInfo := pool [(2, .class_ 4), (1, u "java/lang/Object"), (0, u "<init>"), (0, u "()V"), (7, .class_ 16), (1, u "java/util/Arrays"), (57, .class_ 76), (1, u "java/util/Arrays$NaturalOrder"), (9, .methodref 2 87), (0, .nameAndType 88 89), (0, u "getClass"), (0, u "()Ljava/lang/Class;"), (20, .class_ 111), (0, u "[Ljava/lang/Object;"), (1, .class_ 115), (1, u "java/util/Arrays$LegacyMergeSort"), (1, u "Z"), (32, .methodref 151 152), (0, .class_ 153), (0, .nameAndType 154 155), (0, u "java/lang/System"), (0, u "arraycopy"), (0, u "(Ljava/lang/Object;ILjava/lang/Object;II)V"), (144, .methodref 14 301), (0, .nameAndType 302 303), (0, u "copyOf"), (0, u "([Ljava/lang/Object;ILjava/lang/Class;)[Ljava/lang/Object;"), (0, .methodref 305 306), (0, .class_ 307), (0, .nameAndType 308 309), (0, u "java/lang/Math"), (0, u "min"), (0, u "(II)I"), (65, .class_ 376), (0, u "java/util/Arrays$ArrayList"), (68, u "$assertionsDisabled"), (269, u "MIN_ARRAY_SORT_GRAN"), (0, u "I"), (2, u "INSERTIONSORT_THRESHOLD"), (140, u "([Ljava/lang/Object;I)[Ljava/lang/Object;"), (114, .class_ 976), (0, u "java/util/Arrays$ArrayItr")] 52

def k4m0 : Method := { name := "<init>", desc := "()V", sig := { parameters := [], returnType := none }, accessFlags := 2, code := none }
def k4c1 : Code := { maxStack := 3, maxLocals := 2, code := jdk_65_method_119_code, exceptionTable := #[], attributes := #[] }
def k4m1 : Method := { name := "copyOf", desc := "([Ljava/lang/Object;I)[Ljava/lang/Object;", sig := { parameters := [(.array (.object "java/lang/Object")), .int], returnType := some (.array (.object "java/lang/Object")) }, accessFlags := 9, code := some k4c1 }
def k4c2 : Code := { maxStack := 6, maxLocals := 4, code := jdk_65_method_120_code, exceptionTable := #[], attributes := #[] }
def k4m2 : Method := { name := "copyOf", desc := "([Ljava/lang/Object;ILjava/lang/Class;)[Ljava/lang/Object;", sig := { parameters := [(.array (.object "java/lang/Object")), .int, (.object "java/lang/Class")], returnType := some (.array (.object "java/lang/Object")) }, accessFlags := 9, code := some k4c2 }
/-- java/util/Arrays -/
def k4 : Class := { plain "java/util/Arrays" (some 0) with
  accessFlags := 49
  interfaces := #[]
  cf := some (fileOf pool4 14 #[.nestMembers #[975, 375, 113, 74]] #[{ accessFlags := 2, nameIndex := 5, descriptorIndex := 6, attributes := #[] }, { accessFlags := 9, nameIndex := 302, descriptorIndex := 860, attributes := #[] }, { accessFlags := 9, nameIndex := 302, descriptorIndex := 303, attributes := #[] }] 49 2 #[] #[{ accessFlags := 26, nameIndex := 715, descriptorIndex := 716, attributes := #[] }, { accessFlags := 26, nameIndex := 719, descriptorIndex := 716, attributes := #[] }, { accessFlags := 4120, nameIndex := 445, descriptorIndex := 117, attributes := #[] }])
  fields := #[{ name := "MIN_ARRAY_SORT_GRAN", type := .int, accessFlags := 26, slot := 0, constantValue := 0 }, { name := "INSERTIONSORT_THRESHOLD", type := .int, accessFlags := 26, slot := 1, constantValue := 0 }, { name := "$assertionsDisabled", type := .boolean, accessFlags := 4120, slot := 2, constantValue := 0 }]
  methods := #[k4m0, k4m1, k4m2]
  instanceTypes := #[]
  staticTypes := #[.int, .int, .boolean]
  resolved := Array.replicate 1029 none
  statics := none }

def pool5 : Array CpInfo := pool [(2, .class_ 4), (1, u "java/lang/Object"), (0, u "<init>"), (0, u "()V"), (1, .class_ 10), (1, u "java/lang/System"), (0, u "allowSecurityManager"), (0, u "I"), (16, u "cons"), (0, u "Ljava/io/Console;"), (77, .class_ 110), (1, u "java/lang/System$CallersHolder"), (43, u "initialErrStream"), (0, u "Ljava/io/PrintStream;"), (19, u "security"), (0, u "Ljava/lang/SecurityManager;"), (31, .class_ 209), (0, u "java/lang/System$1"), (7, u "props"), (0, u "Ljava/util/Properties;"), (2, u "lineSeparator"), (0, u "Ljava/lang/String;"), (96, .class_ 321), (1, u "java/lang/System$LoggerFinder"), (5, .class_ 328), (0, u "java/lang/System$Logger"), (67, u "err"), (2, u "out"), (91, u "notSupportedJnuEncoding"), (15, u "in"), (17, u "initialIn"), (0, u "Ljava/io/InputStream;"), (35, u "bootLayer"), (0, u "Ljava/lang/ModuleLayer;"), (99, .class_ 664), (0, u "java/lang/System$2"), (9, u "NEVER"), (2, u "MAYBE"), (49, u "arraycopy"), (0, u "(Ljava/lang/Object;ILjava/lang/Object;II)V"), (72, .class_ 802), (0, u "java/lang/System$Logger$Level")] 31

def k5m0 : Method := { name := "<init>", desc := "()V", sig := { parameters := [], returnType := none }, accessFlags := 2, code := none }
def k5m1 : Method := { name := "arraycopy", desc := "(Ljava/lang/Object;ILjava/lang/Object;II)V", sig := { parameters := [(.object "java/lang/Object"), .int, (.object "java/lang/Object"), .int, .int], returnType := none }, accessFlags := 265, code := none }
/-- java/lang/System -/
def k5 : Class := { plain "java/lang/System" (some 0) with
  accessFlags := 49
  interfaces := #[]
  cf := some (fileOf pool5 8 #[.nestMembers #[319, 327, 801, 108, 663, 208]] #[{ accessFlags := 2, nameIndex := 5, descriptorIndex := 6, attributes := #[] }, { accessFlags := 265, nameIndex := 727, descriptorIndex := 728, attributes := #[] }] 49 2 #[] #[{ accessFlags := 25, nameIndex := 507, descriptorIndex := 526, attributes := #[] }, { accessFlags := 25, nameIndex := 399, descriptorIndex := 155, attributes := #[] }, { accessFlags := 25, nameIndex := 396, descriptorIndex := 155, attributes := #[] }, { accessFlags := 10, nameIndex := 525, descriptorIndex := 526, attributes := #[] }, { accessFlags := 26, nameIndex := 674, descriptorIndex := 12, attributes := #[] }, { accessFlags := 26, nameIndex := 677, descriptorIndex := 12, attributes := #[] }, { accessFlags := 10, nameIndex := 11, descriptorIndex := 12, attributes := #[] }, { accessFlags := 74, nameIndex := 175, descriptorIndex := 176, attributes := #[] }, { accessFlags := 10, nameIndex := 491, descriptorIndex := 222, attributes := #[] }, { accessFlags := 74, nameIndex := 29, descriptorIndex := 30, attributes := #[] }, { accessFlags := 74, nameIndex := 154, descriptorIndex := 155, attributes := #[] }, { accessFlags := 10, nameIndex := 217, descriptorIndex := 218, attributes := #[] }, { accessFlags := 10, nameIndex := 221, descriptorIndex := 222, attributes := #[] }, { accessFlags := 8, nameIndex := 562, descriptorIndex := 563, attributes := #[] }])
  fields := #[{ name := "in", type := (.object "java/io/InputStream"), accessFlags := 25, slot := 0, constantValue := 0 }, { name := "out", type := (.object "java/io/PrintStream"), accessFlags := 25, slot := 1, constantValue := 0 }, { name := "err", type := (.object "java/io/PrintStream"), accessFlags := 25, slot := 2, constantValue := 0 }, { name := "initialIn", type := (.object "java/io/InputStream"), accessFlags := 10, slot := 3, constantValue := 0 }, { name := "NEVER", type := .int, accessFlags := 26, slot := 4, constantValue := 0 }, { name := "MAYBE", type := .int, accessFlags := 26, slot := 5, constantValue := 0 }, { name := "allowSecurityManager", type := .int, accessFlags := 10, slot := 6, constantValue := 0 }, { name := "security", type := (.object "java/lang/SecurityManager"), accessFlags := 74, slot := 7, constantValue := 0 }, { name := "notSupportedJnuEncoding", type := (.object "java/lang/String"), accessFlags := 10, slot := 8, constantValue := 0 }, { name := "cons", type := (.object "java/io/Console"), accessFlags := 74, slot := 9, constantValue := 0 }, { name := "initialErrStream", type := (.object "java/io/PrintStream"), accessFlags := 74, slot := 10, constantValue := 0 }, { name := "props", type := (.object "java/util/Properties"), accessFlags := 10, slot := 11, constantValue := 0 }, { name := "lineSeparator", type := (.object "java/lang/String"), accessFlags := 10, slot := 12, constantValue := 0 }, { name := "bootLayer", type := (.object "java/lang/ModuleLayer"), accessFlags := 8, slot := 13, constantValue := 0 }]
  methods := #[k5m0, k5m1]
  instanceTypes := #[]
  staticTypes := #[(.object "java/io/InputStream"), (.object "java/io/PrintStream"), (.object "java/io/PrintStream"), (.object "java/io/InputStream"), .int, .int, .int, (.object "java/lang/SecurityManager"), (.object "java/lang/String"), (.object "java/io/Console"), (.object "java/io/PrintStream"), (.object "java/util/Properties"), (.object "java/lang/String"), (.object "java/lang/ModuleLayer")]
  resolved := Array.replicate 834 none
  statics := none }

def pool6 : Array CpInfo := pool [(1, u "java/lang/Class"), (0, .class_ 1), (0, u "java/lang/Object"), (0, .class_ 3)] 0

/-- java/lang/Class -/
def k6 : Class := { plain "java/lang/Class" (some 0) with
  accessFlags := 49
  interfaces := #[]
  cf := some (fileOf pool6 2 #[] #[] 49 4 #[] #[])
  fields := #[]
  methods := #[]
  instanceTypes := #[]
  staticTypes := #[]
  resolved := Array.replicate 5 none
  statics := none }

def pool7 : Array CpInfo := pool [(1, u "java/lang/Cloneable"), (0, .class_ 1), (0, u "java/lang/Object"), (0, .class_ 3)] 3

/-- java/lang/Cloneable -/
def k7 : Class := { plain "java/lang/Cloneable" (some 0) with
  accessFlags := 1537
  interfaces := #[]
  cf := some (fileOf pool7 2 #[] #[] 1537 4 #[] #[])
  fields := #[]
  methods := #[]
  instanceTypes := #[]
  staticTypes := #[]
  resolved := Array.replicate 8 none
  statics := none }

def pool8 : Array CpInfo := pool [(1, u "java/io/Serializable"), (0, .class_ 1), (0, u "java/lang/Object"), (0, .class_ 3)] 3

/-- java/io/Serializable -/
def k8 : Class := { plain "java/io/Serializable" (some 0) with
  accessFlags := 1537
  interfaces := #[]
  cf := some (fileOf pool8 2 #[] #[] 1537 4 #[] #[])
  fields := #[]
  methods := #[]
  instanceTypes := #[]
  staticTypes := #[]
  resolved := Array.replicate 8 none
  statics := none }

/-- the primitive byte -/
def k9 : Class := { plain "byte" none with kind := .primitive 'B', accessFlags := 0x411 }
/-- [B -/
def k10 : Class := { plain "[B" (some 0) with kind := .array 9 .byte, interfaces := #[7, 8], accessFlags := 1041 }

/-- the primitive int -/
def k11 : Class := { plain "int" none with kind := .primitive 'I', accessFlags := 0x411 }
/-- [I -/
def k12 : Class := { plain "[I" (some 0) with kind := .array 11 .int, interfaces := #[7, 8], accessFlags := 1041 }

/-- [Ljava/lang/Object; -/
def k13 : Class := { plain "[Ljava/lang/Object;" (some 0) with mirror := some 1, kind := .array 0 (.object "java/lang/Object"), interfaces := #[7, 8], accessFlags := 1041 }

def heap : Heap := #[{ cls := 2, slots := #[.ref 2], vm := .statics 2 },
  { cls := 6, slots := #[], vm := .mirror 13 },
  { cls := 0, slots := #[], vm := .none }]
def classes : Array Class := #[k0, k1, k2, k3, k4, k5, k6, k7, k8, k9, k10, k11, k12, k13]
def interned : List (Array UInt16 × Addr) := []
def slotsUsed : Nat := 1
def theMethod : MethodId := ⟨1, 1⟩
def args0 : Array Value := #[.int 5, .int 5, .int 5, .int 5]
def aboutOver (below : List Frame) : State where
  vm := { classes := classes, interned := interned.toArray }
  heap := heap
  slotsUsed := slotsUsed
  threads := #[{ frames := .invoking theMethod args0 :: below }]
def below0 : List Frame := [.native { method := ⟨0, 0⟩, args := #[] }]
def about1 : State := aboutOver below0
def p0 : Program := .bare "" "" ""
def e0 : Env := launch0.env 0 0 0
theorem w_frames : about1.frames = Frame.invoking theMethod args0 :: below0 := rfl
set_option maxRecDepth 65536 in
theorem w_args : argsFit about1.vm theMethod args0 = true := by decide +kernel
set_option maxRecDepth 65536 in
theorem w_heap : heapFits about1 = true := by decide +kernel
set_option maxRecDepth 65536 in
theorem w_runnable : about1.curStatus? = some .runnable := by decide +kernel
set_option maxRecDepth 65536 in
theorem w_alone : about1.alone = true := by decide +kernel
set_option maxRecDepth 65536 in
theorem w_named : about1.methodNamed? x = some theMethod := by decide +kernel
set_option maxRecDepth 65536 in
theorem w_hears : about1.hears theMethod below0 = true := by decide +kernel
set_option maxRecDepth 65536 in
theorem w_ripe : about1.ripe theMethod args0 below0 = true := by decide +kernel
theorem w_running : about1.status = .running := rfl
set_option maxRecDepth 65536 in
theorem w_room : about1.hasRoom e0.platform room_1 = true :=
  launch0.hasRoom_least _ room_1 (by decide +kernel) (by decide +kernel) (by decide +kernel) (by decide +kernel) (by decide +kernel) (by decide +kernel)
theorem allAtoms_all (ts : List Jvm.Cond) (a : Array Jvm.Value) (st : Jvm.State) : (allAtoms ts).before a st = ts.all (fun c => c.before a st) := by
  induction ts with
  | nil => rfl
  | cons c t ih =>
    show (Jvm.Cond.and c (allAtoms t)).before a st = _
    rw [Jvm.Cond.before_and, ih, List.all_cons]
def words1 : List Jvm.Cond := Jvm.Cond.code x code maxLocals ret :: tables_1
/-- a 'code' word, met by the world's own term for the bytes: nothing is compared byte by byte -/
theorem code_word {y : MethodName} {bytes : ByteArray} {mx : Nat} {rt : Option FieldType} {a : Array Value} {s : State} {m : MethodId} {meth : Method} {c : Code} (h1 : s.methodNamed? y = some m) (h2 : s.vm.method? m = some meth) (h3 : meth.code = some c) (h4 : c.code = bytes)
    (h5 : (c.maxLocals == mx && c.exceptionTable.isEmpty && decide (c.maxStack ≤ mostOperands) && decide (meth.sig.returnType = rt) && !meth.locks && decide (parseMethodDescriptor y.desc = some meth.sig)) = true) : (Jvm.Cond.code y bytes mx rt).before a s = true := by
  simp only [Bool.and_eq_true, beq_iff_eq, Bool.not_eq_true', decide_eq_true_eq] at h5
  obtain ⟨⟨⟨⟨⟨g1, g2⟩, g3⟩, g4⟩, g5⟩, g6⟩ := h5
  simp [Cond.before, Cond.holds, Cond.value, h1, h2, h3, h4, g1, g2, g3, g4, g5, g6]
def isCode : Jvm.Cond → Bool
  | .code _ _ _ _ => true
  | _ => false
theorem all_split {L : List Jvm.Cond} {P : Jvm.Cond → Bool} (h1 : L.all (fun c => isCode c || P c) = true) (h2 : ∀ c ∈ L.filter isCode, P c = true) : L.all P = true := by
  refine List.all_eq_true.mpr fun c hc => ?_
  have h := List.all_eq_true.mp h1 c hc
  rcases Bool.eq_false_or_eq_true (isCode c) with hi | hi
  · exact h2 c (List.mem_filter.mpr ⟨hc, hi⟩)
  · simpa [hi] using h
set_option maxRecDepth 65536 in
theorem w_c0 : (Jvm.Cond.code x code maxLocals ret).before args0 about1 = true := code_word (m := ⟨1, 1⟩) (meth := k1m1) (c := k1c1) (by decide +kernel) rfl rfl rfl (by decide +kernel)
set_option maxRecDepth 65536 in
theorem w_c1 : (Jvm.Cond.code ({ cls := "java/lang/Object", name := "<init>", desc := "()V" } : Jvm.MethodName) object_method_1_code (1 : Nat) (Option.none : Option Jvm.ClassFile.FieldType)).before args0 about1 = true := code_word (m := ⟨0, 0⟩) (meth := k0m0) (c := k0c0) (by decide +kernel) rfl rfl rfl (by decide +kernel)
set_option maxRecDepth 65536 in
theorem w_c2 : (Jvm.Cond.code ({ cls := "org/jutewire/bind/Referents", name := "<init>", desc := "()V" } : Jvm.MethodName) prog_46_method_1_code (1 : Nat) (Option.none : Option Jvm.ClassFile.FieldType)).before args0 about1 = true := code_word (m := ⟨2, 0⟩) (meth := k2m0) (c := k2c0) (by decide +kernel) rfl rfl rfl (by decide +kernel)
set_option maxRecDepth 65536 in
theorem w_c3 : (Jvm.Cond.code ({ cls := "org/jutewire/bind/Referents", name := "get", desc := "(I)Ljava/lang/Object;" } : Jvm.MethodName) prog_46_method_3_code (2 : Nat) (Option.some (Jvm.ClassFile.FieldType.object "java/lang/Object"))).before args0 about1 = true := code_word (m := ⟨2, 2⟩) (meth := k2m2) (c := k2c2) (by decide +kernel) rfl rfl rfl (by decide +kernel)
set_option maxRecDepth 65536 in
theorem w_c4 : (Jvm.Cond.code ({ cls := "org/jutewire/bind/Referents", name := "keep", desc := "(ILjava/lang/Object;)V" } : Jvm.MethodName) prog_46_method_2_code (3 : Nat) (Option.none : Option Jvm.ClassFile.FieldType)).before args0 about1 = true := code_word (m := ⟨2, 1⟩) (meth := k2m1) (c := k2c1) (by decide +kernel) rfl rfl rfl (by decide +kernel)
set_option maxRecDepth 65536 in
theorem w_c5 : (Jvm.Cond.code ({ cls := "java/lang/Math", name := "max", desc := "(II)I" } : Jvm.MethodName) jdk_29_method_65_code (2 : Nat) (Option.some Jvm.ClassFile.FieldType.int)).before args0 about1 = true := code_word (m := ⟨3, 1⟩) (meth := k3m1) (c := k3c1) (by decide +kernel) rfl rfl rfl (by decide +kernel)
set_option maxRecDepth 65536 in
theorem w_c6 : (Jvm.Cond.code ({ cls := "java/util/Arrays", name := "copyOf", desc := "([Ljava/lang/Object;I)[Ljava/lang/Object;" } : Jvm.MethodName) jdk_65_method_119_code (2 : Nat) (Option.some (Jvm.ClassFile.FieldType.array (Jvm.ClassFile.FieldType.object "java/lang/Object")))).before args0 about1 = true := code_word (m := ⟨4, 1⟩) (meth := k4m1) (c := k4c1) (by decide +kernel) rfl rfl rfl (by decide +kernel)
set_option maxRecDepth 65536 in
theorem w_c7 : (Jvm.Cond.code ({ cls := "java/util/Arrays", name := "copyOf", desc := "([Ljava/lang/Object;ILjava/lang/Class;)[Ljava/lang/Object;" } : Jvm.MethodName) jdk_65_method_120_code (4 : Nat) (Option.some (Jvm.ClassFile.FieldType.array (Jvm.ClassFile.FieldType.object "java/lang/Object")))).before args0 about1 = true := code_word (m := ⟨4, 2⟩) (meth := k4m2) (c := k4c2) (by decide +kernel) rfl rfl rfl (by decide +kernel)
set_option maxRecDepth 65536 in
theorem w_c8 : (Jvm.Cond.code ({ cls := "java/lang/Math", name := "min", desc := "(II)I" } : Jvm.MethodName) jdk_29_method_69_code (2 : Nat) (Option.some Jvm.ClassFile.FieldType.int)).before args0 about1 = true := code_word (m := ⟨3, 2⟩) (meth := k3m2) (c := k3c2) (by decide +kernel) rfl rfl rfl (by decide +kernel)
def codes1 : List Jvm.Cond := [Jvm.Cond.code x code maxLocals ret, Jvm.Cond.code ({ cls := "java/lang/Object", name := "<init>", desc := "()V" } : Jvm.MethodName) object_method_1_code (1 : Nat) (Option.none : Option Jvm.ClassFile.FieldType), Jvm.Cond.code ({ cls := "org/jutewire/bind/Referents", name := "<init>", desc := "()V" } : Jvm.MethodName) prog_46_method_1_code (1 : Nat) (Option.none : Option Jvm.ClassFile.FieldType), Jvm.Cond.code ({ cls := "org/jutewire/bind/Referents", name := "get", desc := "(I)Ljava/lang/Object;" } : Jvm.MethodName) prog_46_method_3_code (2 : Nat) (Option.some (Jvm.ClassFile.FieldType.object "java/lang/Object")), Jvm.Cond.code ({ cls := "org/jutewire/bind/Referents", name := "keep", desc := "(ILjava/lang/Object;)V" } : Jvm.MethodName) prog_46_method_2_code (3 : Nat) (Option.none : Option Jvm.ClassFile.FieldType), Jvm.Cond.code ({ cls := "java/lang/Math", name := "max", desc := "(II)I" } : Jvm.MethodName) jdk_29_method_65_code (2 : Nat) (Option.some Jvm.ClassFile.FieldType.int), Jvm.Cond.code ({ cls := "java/util/Arrays", name := "copyOf", desc := "([Ljava/lang/Object;I)[Ljava/lang/Object;" } : Jvm.MethodName) jdk_65_method_119_code (2 : Nat) (Option.some (Jvm.ClassFile.FieldType.array (Jvm.ClassFile.FieldType.object "java/lang/Object"))), Jvm.Cond.code ({ cls := "java/util/Arrays", name := "copyOf", desc := "([Ljava/lang/Object;ILjava/lang/Class;)[Ljava/lang/Object;" } : Jvm.MethodName) jdk_65_method_120_code (4 : Nat) (Option.some (Jvm.ClassFile.FieldType.array (Jvm.ClassFile.FieldType.object "java/lang/Object"))), Jvm.Cond.code ({ cls := "java/lang/Math", name := "min", desc := "(II)I" } : Jvm.MethodName) jdk_29_method_69_code (2 : Nat) (Option.some Jvm.ClassFile.FieldType.int)]
set_option maxRecDepth 65536 in
theorem codes_eq : words1.filter isCode = codes1 := rfl
theorem w_codes : ∀ c ∈ words1.filter isCode, c.before args0 about1 = true := by
  rw [codes_eq]
  intro c hc
  simp only [codes1, List.mem_cons, List.not_mem_nil, or_false] at hc
  rcases hc with rfl | rfl | rfl | rfl | rfl | rfl | rfl | rfl | rfl
  · exact w_c0
  · exact w_c1
  · exact w_c2
  · exact w_c3
  · exact w_c4
  · exact w_c5
  · exact w_c6
  · exact w_c7
  · exact w_c8
set_option maxRecDepth 65536 in
theorem w_t1 : (words1.take 24).all (fun c => isCode c || c.before args0 about1) = true := by decide +kernel
set_option maxRecDepth 65536 in
theorem w_t2 : ((words1.drop 24).take 24).all (fun c => isCode c || c.before args0 about1) = true := by decide +kernel
set_option maxRecDepth 65536 in
theorem w_t3 : ((words1.drop 24).drop 24).all (fun c => isCode c || c.before args0 about1) = true := by decide +kernel
theorem w_tables : (allAtoms (Jvm.Cond.code x code maxLocals ret :: tables_1)).before args0 about1 = true := by
  rw [allAtoms_all]
  show words1.all (fun c => c.before args0 about1) = true
  refine all_split ?_ w_codes
  rw [← List.take_append_drop 24 words1, List.all_append, w_t1, ← List.take_append_drop 24 (words1.drop 24), List.all_append, w_t2, w_t3]
  rfl
set_option maxRecDepth 65536 in
theorem w_case : (Jvm.Cond.and given_1 narrow_1).before args0 about1 = true := by decide +kernel
theorem w_applies : (headSpec (Jvm.Cond.code x code maxLocals ret :: tables_1) room_1).applies x e0.platform about1 = true :=
  (Spec.applies_iff w_frames).mpr ⟨w_running, w_runnable, w_alone, w_named, w_hears, w_ripe, w_room, w_tables⟩
theorem atStart : AtStart classFile x code maxLocals ret World_1 tables_1 room_1 Calls_1 rest_1 Pre_1 launch0 p0 e0 about1 theMethod args0 below0 :=
  ⟨lists_1, trivial, launch0.admits_env _ _ _, launch0.least_env, fairChoices_fair.cas, fairChoices_fair.clock, w_frames, w_args, w_heap, w_applies, ⟨⟨13, k13, 1, by decide +kernel, rfl, rfl, _, rfl, rfl⟩, trivial⟩, trivial, w_case⟩
end start1
theorem witness_1 : WitnessClaimed_1 := ⟨start1.p0, start1.e0, start1.about1, start1.theMethod, start1.args0, start1.below0, start1.atStart⟩
end Jvm.Pilot.@@N@@
