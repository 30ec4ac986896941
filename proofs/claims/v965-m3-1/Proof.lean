import JvmDerived
import JvmDerived.Pilot.@@N@@Statement
import JvmDerived.Pilot.@@N@@Code
set_option linter.unusedVariables false
set_option linter.unusedSimpArgs false
namespace Jvm.RoadKit
open Sem ClassFile Op Lib Jvm.Stand Jvm.Free Jvm.LawKit
section New
variable {p : Program} {l : Launch} {e : Env} {R : Room} {s : State} {m : MethodId} {args : Array Value} {below : List Frame} {meth : Method} {c : Code} {T : State} {locs : List Loc} {cells slots : Nat}
theorem retI (X : Stand p l e R s m args below meth c T locs cells slots) (hx : p.tables.exec = Jvm.exec) {pc : Nat} {Ls : Array Slot} {z : Int32} {rest : List Value} (hret : meth.sig.returnType = some .int) (hd : decode c.code pc = .ok (.ireturn, 1)) {fs : List Frame}
    (hl : ∀ (f : JFrame) (acts : List Action), f.method = m → f.locked = none → f.entered = [] → (doReturn e (T.setTop f) acts (some (.int z))).1 = T.setFrames fs) : Steps p.tables e below (T.setTop (mkF m pc Ls (.int z :: rest))) (T.setFrames fs) := by
  have hm' : T.vm.method? m = some meth := X.method'
  have hn : narrow .int (.int z) = .int z := rfl
  show Steps p.tables e below (T.setTop { method := m, pc := pc, locals := Ls, stack := _ :: rest, locked := none }) _
  jvm_step X.here [X.here.top, hx, hd, hm', hret, hn]
  first | (intro acts; rw [hl _ acts rfl rfl rfl]) | rw [hl _ _ rfl rfl rfl]
  exact Steps.refl _
end New
end Jvm.RoadKit
namespace Jvm.Pilot.@@N@@
open Jvm Jvm.ClassFile Sem Op Lib Jvm.Free Jvm.Stand Jvm.LawKit Jvm.RoadKit Bundle Jvm.Pilot.@@N@@.Jvm.D
section Own
variable {p : Program} {l : Launch} {e : Env} {R : Room} {s : State} {m : MethodId} {args : Array Value} {below : List Frame} {meth : Method} {c : Code} {T : State} {locs : List Loc} {k j : Nat} {Z : State} {a0 : Array Value} {h : Heap}
/-- the run that stands at g goes on to an end as Q says -/
def own_E (p : Program) (e : Env) (below : List Frame) (Q : Outcome → State → Prop) (T : State) (g : JFrame) : Prop :=
  ∃ s₂ o, Steps p.tables e below (T.setTop g) s₂ ∧ s₂.status = .running ∧ Ended s₂ below o ∧ Q o s₂
/-- an end as a contract's Qr says, with so many cells and slots at the most -/
def own_Q (s : State) (Qr : Option Value → Heap → List Loc → Prop) (k j : Nat) (o : Outcome) (U : State) : Prop := ∃ v L, o = .returned v ∧ Qr v U.heap L ∧ FrameEnd s o U L k j
/-- a contract of a method at these arguments and this heap -/
def own_M (l : Launch) (Z : State) (y : MethodName) (bytes : ByteArray) (maxL : Nat) (ret : Option FieldType) (rm : Room) (as' : Array Value) (h : Heap) (Qr : Option Value → Heap → List Loc → Prop) : Prop :=
  ∀ ws : List Jvm.Cond, MetFree l y (head1 (Jvm.Cond.code y bytes maxL ret :: ws) rm) (fun a U => a = as' ∧ Z.Warmed39 U.vm ∧ U.heap = h) (fun _ _ _ _ _ => True) (fun _ U o U' => ∃ v L, o = .returned v ∧ Qr v U'.heap L ∧ FrameEnd U o U' L rm.cells rm.slots)
theorem own_st {Q : Outcome → State → Prop} {T' : State} {g g' : JFrame} (hs : ∀ t, Steps p.tables e below (T'.setTop g') t → Steps p.tables e below (T.setTop g) t) (k : own_E p e below Q T' g') : own_E p e below Q T g := by
  obtain ⟨s₂, o, h1, h2, h3, h4⟩ := k
  exact ⟨s₂, o, hs _ h1, h2, h3, h4⟩
theorem own_sy {Q : Outcome → State → Prop} {T' : State} {g g' : JFrame} (hs : Steps p.tables e below (T.setTop g) (T'.setTop g')) (k : own_E p e below Q T' g') : own_E p e below Q T g := by
  obtain ⟨s₂, o, h1, h2, h3, h4⟩ := k
  exact ⟨s₂, o, hs.trans h1, h2, h3, h4⟩
theorem own_bodyF {y : MethodName} {bytes : ByteArray} {maxL : Nat} {ret : Option FieldType} {rm : Room} {as' : Array Value} {Qr : Option Value → Heap → List Loc → Prop} (hp : plainFor y = true)
    (body : ∀ (p : Program) (e : Env) (s : State) (m : MethodId) (below : List Frame) (meth : Method) (c : Code) (T : State), p.tables.exec = Jvm.exec → c.code = bytes → c.maxLocals = maxL → s.vm.findClass y.cls = some m.cls → Z.Warmed39 s.vm → meth.sig.returnType = ret → meth.locks = false → meth.name = y.name →
      Stand p l e rm s m as' below meth c T [] 0 0 → T.heap = h → own_E p e below (own_Q s Qr rm.cells rm.slots) T (entryFrame m as' maxL)) : own_M l Z y bytes maxL ret rm as' h Qr := by
  intro ws
  refine MetFree.of_bodySF hp hisR ?_
  intro p e s m args below meth c s₁ Bd hml0 hP hK
  obtain ⟨rfl, hZ, hh⟩ := hP
  exact body p e s m below meth c s₁ Bd.exec Bd.bytes hml0 (findClass_of_methodNamed Bd.named) hZ Bd.returns Bd.notSynchronized (name_of_methodNamed Bd.named Bd.method).1 (Stand.of_body Bd) (by rw [← hh, Bd.state]; rfl)
theorem own_body {y : MethodName} {bytes : ByteArray} {maxL : Nat} {ret : Option FieldType} {rm : Room} {as' : Array Value} {Qr : Option Value → Heap → List Loc → Prop} (hp : plainName y.cls = true)
    (body : ∀ (p : Program) (e : Env) (s : State) (m : MethodId) (below : List Frame) (meth : Method) (c : Code) (T : State), p.tables.exec = Jvm.exec → c.code = bytes → c.maxLocals = maxL → s.vm.findClass y.cls = some m.cls → Z.Warmed39 s.vm → meth.sig.returnType = ret → meth.locks = false → meth.name = y.name →
      Stand p l e rm s m as' below meth c T [] 0 0 → T.heap = h → own_E p e below (own_Q s Qr rm.cells rm.slots) T (entryFrame m as' maxL)) : own_M l Z y bytes maxL ret rm as' h Qr := own_bodyF (plainFor_of_name hp) body
theorem own_retN {Qr : Option Value → Heap → List Loc → Prop} {kk jj pc : Nat} {Ls : Array Slot} {z : Int32} {t : FieldType} {rest : List Value} (X : Stand p l e R s m args below meth c T locs k j) (hx : p.tables.exec = Jvm.exec) (hlk : meth.locks = false) (hret : meth.sig.returnType = some t) (ht : t = .boolean ∨ t = .byte ∨ t = .char ∨ t = .short)
    (hd : decode c.code pc = .ok (.ireturn, 1)) (hk : k ≤ kk) (hj : j ≤ jj) (hq : Qr (some (.int (nar t z))) T.heap locs) : own_E p e below (own_Q s Qr kk jj) T (mkF m pc Ls (.int z :: rest)) := by
  obtain ⟨fs, hr, hrun, hended, hW, hsame⟩ := X.leave (v := some (.int (nar t z))) (fun q => by rw [hret] at q; cases q) hlk
  exact ⟨_, _, retN X hx hret ht hd hr, hrun, hended, _, _, rfl, hq, ⟨_, rfl⟩, hW, hsame.mono hk hj⟩
theorem own_retI {Qr : Option Value → Heap → List Loc → Prop} {kk jj pc : Nat} {Ls : Array Slot} {z : Int32} {rest : List Value} (X : Stand p l e R s m args below meth c T locs k j) (hx : p.tables.exec = Jvm.exec) (hlk : meth.locks = false) (hret : meth.sig.returnType = some .int)
    (hd : decode c.code pc = .ok (.ireturn, 1)) (hk : k ≤ kk) (hj : j ≤ jj) (hq : Qr (some (.int z)) T.heap locs) : own_E p e below (own_Q s Qr kk jj) T (mkF m pc Ls (.int z :: rest)) := by
  obtain ⟨fs, hr, hrun, hended, hW, hsame⟩ := X.leave (v := some (.int z)) (fun q => by rw [hret] at q; cases q) hlk
  exact ⟨_, _, retI X hx hret hd hr, hrun, hended, _, _, rfl, hq, ⟨_, rfl⟩, hW, hsame.mono hk hj⟩
theorem own_retJ {Qr : Option Value → Heap → List Loc → Prop} {kk jj pc : Nat} {Ls : Array Slot} {z : Int64} (X : Stand p l e R s m args below meth c T locs k j) (hx : p.tables.exec = Jvm.exec) (hlk : meth.locks = false) (hret : meth.sig.returnType = some .long)
    (hd : decode c.code pc = .ok (.lreturn, 1)) (hk : k ≤ kk) (hj : j ≤ jj) (hq : Qr (some (.long z)) T.heap locs) : own_E p e below (own_Q s Qr kk jj) T (mkF m pc Ls [.long z]) := by
  obtain ⟨fs, hr, hrun, hended, hW, hsame⟩ := X.leave (v := some (.long z)) (fun q => by rw [hret] at q; cases q) hlk
  exact ⟨_, _, X.lreturnOut hx hret hd hr, hrun, hended, _, _, rfl, hq, ⟨_, rfl⟩, hW, hsame.mono hk hj⟩
theorem own_retV {Qr : Option Value → Heap → List Loc → Prop} {kk jj pc : Nat} {Ls : Array Slot} (X : Stand p l e R s m args below meth c T locs k j) (hx : p.tables.exec = Jvm.exec) (hlk : meth.locks = false) (hret : meth.sig.returnType = none)
    (hd : decode c.code pc = .ok (.return_, 1)) (hk : k ≤ kk) (hj : j ≤ jj) (hq : Qr none T.heap locs) : own_E p e below (own_Q s Qr kk jj) T (mkF m pc Ls []) := by
  obtain ⟨fs, hr, hrun, hended, hW, hsame⟩ := X.leave (v := none) (fun _ => rfl) hlk
  exact ⟨_, _, X.returnOut hx hret hd hr, hrun, hended, _, _, rfl, hq, ⟨_, rfl⟩, hW, hsame.mono hk hj⟩
theorem own_retA {Qr : Option Value → Heap → List Loc → Prop} {kk jj pc : Nat} {Ls : Array Slot} {z : Value} {t : FieldType} {rest : List Value} (X : Stand p l e R s m args below meth c T locs k j) (hx : p.tables.exec = Jvm.exec) (hlk : meth.locks = false) (hret : meth.sig.returnType = some t) (ht : t.isReference = true) (hz : z.isRef = true) (hn : narrow t z = z)
    (hd : decode c.code pc = .ok (.areturn, 1)) (hk : k ≤ kk) (hj : j ≤ jj) (hq : Qr (some z) T.heap locs) : own_E p e below (own_Q s Qr kk jj) T (mkF m pc Ls (z :: rest)) := by
  obtain ⟨fs, hr, hrun, hended, hW, hsame⟩ := X.leave (v := some z) (fun q => by rw [hret] at q; cases q) hlk
  exact ⟨_, _, retOut X hx hret hn (Or.inr (Or.inr (Or.inr (Or.inr ⟨rfl, ht, hz⟩)))) hd hr, hrun, hended, _, _, rfl, hq, ⟨_, rfl⟩, hW, hsame.mono hk hj⟩
theorem own_callS {own : String} {index : Nat} {y : MethodName} {bytes : ByteArray} {maxL W : Nat} {ret : Option FieldType} {rm : Room} {Qr : Option Value → Heap → List Loc → Prop} {Q : Outcome → State → Prop} {g : JFrame} {argsL rest : List Value}
    (X : Stand p l e R s m args below meth c T locs k j) (hx : p.tables.exec = Jvm.exec) (hZ : Z.Warmed39 s.vm) (hown : s.vm.findClass own = some m.cls) (wl : (Cond.methodLink own index y).before a0 Z = true) (wst : (Cond.static y).before a0 Z = true) (wi : (Cond.initialized y.cls).before a0 Z = true) (wc : (Cond.code y bytes maxL ret).before a0 Z = true)
    (hy : y.cls ≠ "java/lang/invoke/MethodHandle" ∧ y.cls ≠ "java/lang/invoke/VarHandle") (hM : own_M l Z y bytes maxL ret rm argsL.toArray T.heap Qr) (hf : rm.frames + 1 ≤ R.frames) (hl : W + (maxL + 11) + rm.locals ≤ R.locals) (hck : k + rm.cells ≤ R.cells) (hcj : j + rm.slots ≤ R.slots)
    (hg : g.method = m) (hsize : g.locals.size = c.maxLocals) (hlen : ∀ sig, parseMethodDescriptor y.desc = some sig → argsL.length = sig.parameters.length) (hstack : g.stack = argsL.reverse ++ rest) (hW : 2 * g.monitorRoom + (rest.map fun v => v.category).sum ≤ W) (hdg : decode c.code g.pc = .ok (.invokestatic index, 3))
    (K : ∀ (T' : State) (L : List Loc) (v : Option Value), Stand p l e R s m args below meth c T' (locs ++ L) (k + rm.cells) (j + rm.slots) → Qr v T'.heap L → own_E p e below Q T' { g with pc := g.pc + 3, stack := v.toList ++ rest }) : own_E p e below Q T g := by
  obtain ⟨v, vm1, ⟨T', L', k', j'⟩, -, X', ⟨Lc, hQ, l', y', z'⟩, st⟩ := Jvm.LawKit.callS X hx (y := y) hown (mvT hZ wl) (mvT hZ wst) (mvT hZ wi) (mvT hZ wc) hy (backOf (W := W) (hM []) hZ wc wi hf hl) hg hsize hlen hstack hW hdg (fun _ _ => ⟨rfl, rfl, hck, hcj⟩)
  dsimp only [Pt.U, Pt.locs, Pt.cells, Pt.slots] at X' l' y' z' st hQ
  subst l' y' z'
  exact own_st st (K _ _ _ X' hQ)
theorem own_tr {P : Heap → Prop} {h h' : Heap} (q : h' = h) (i : P h) : P h' := q ▸ i
theorem own_pop2L {tb : Tables} [Ours tb] {target : State} {g : JFrame} (h : At T m c below) (hx : tb.exec = Jvm.exec) (hg : g.method = m) {x : Int64} {rest : List Value} (hd : decode c.code g.pc = .ok (.pop2, 1)) (hs : g.stack = .long x :: rest)
    (hr : Steps tb e below (T.setTop { g with pc := g.pc + 1, stack := rest }) target) : Steps tb e below (T.setTop g) target := by
  subst hg
  jvm_step h [h.top, hx, hd, hs]
  exact hr
theorem own_callC {own : String} {index : Nat} {y : MethodName} {bytes : ByteArray} {maxL W : Nat} {rm : Room} {Qr : Option Value → Heap → List Loc → Prop} {Q : Outcome → State → Prop} {g : JFrame} {a : Addr} {argsL rest : List Value}
    (X : Stand p l e R s m args below meth c T locs k j) (hx : p.tables.exec = Jvm.exec) (hZ : Z.Warmed39 s.vm) (hy1 : y.name = "<init>") (hown : s.vm.findClass own = some m.cls) (wl : (Cond.methodLink own index y).before a0 Z = true) (wm : (Cond.instanceMethod y).before a0 Z = true) (wi : (Cond.initialized y.cls).before a0 Z = true) (wc : (Cond.code y bytes maxL none).before a0 Z = true)
    (hy : y.cls ≠ "java/lang/invoke/MethodHandle" ∧ y.cls ≠ "java/lang/invoke/VarHandle") (hM : own_M l Z y bytes maxL none rm (.ref a :: argsL).toArray T.heap Qr) (hf : rm.frames + 1 ≤ R.frames) (hl : W + (maxL + 11) + rm.locals ≤ R.locals) (hck : k + rm.cells ≤ R.cells) (hcj : j + rm.slots ≤ R.slots)
    (hg : g.method = m) (hsize : g.locals.size = c.maxLocals) (hlen : ∀ sig, parseMethodDescriptor y.desc = some sig → argsL.length = sig.parameters.length) (hstack : g.stack = argsL.reverse ++ .ref a :: rest) (hW : 2 * g.monitorRoom + (rest.map fun v => v.category).sum ≤ W) (hdg : decode c.code g.pc = .ok (.invokespecial index, 3))
    (K : ∀ (T' : State) (L : List Loc) (v : Option Value), Stand p l e R s m args below meth c T' (locs ++ L) (k + rm.cells) (j + rm.slots) → Qr v T'.heap L → own_E p e below Q T' { g with pc := g.pc + 3, stack := v.toList ++ rest }) : own_E p e below Q T g := by
  obtain ⟨v, vm1, ⟨T', L', k', j'⟩, -, X', ⟨Lc, hQ, l', y', z'⟩, st⟩ := X.specialBack hx (y := y) hy1 hown (mvT hZ wl) (mvT hZ wm) (mvT hZ wc) hy (backOf (W := W) (hM []) hZ wc wi hf hl) hg hsize (Steps.refl _) (a := a) hlen hstack hW hdg (fun _ _ => ⟨rfl, rfl, hck, hcj⟩)
  dsimp only [Pt.U, Pt.locs, Pt.cells, Pt.slots] at X' l' y' z' st hQ
  subst l' y' z'
  exact own_sy st (K _ _ _ X' hQ)
theorem own_callV {own : String} {index : Nat} {y : MethodName} {bytes : ByteArray} {maxL W : Nat} {ret : Option FieldType} {rm : Room} {Qr : Option Value → Heap → List Loc → Prop} {Q : Outcome → State → Prop} {g : JFrame} {a : Addr} {argsL rest : List Value}
    (X : Stand p l e R s m args below meth c T locs k j) (hx : p.tables.exec = Jvm.exec) (hZ : Z.Warmed39 s.vm) (hown : s.vm.findClass own = some m.cls) (wl : (Cond.methodLink own index y).before a0 Z = true) (wd : (Cond.declares y).before a0 Z = true) (wsel : (Cond.selects y.cls y y).before a0 Z = true) (wm : (Cond.instanceMethod y).before a0 Z = true) (wi : (Cond.initialized y.cls).before a0 Z = true) (wc : (Cond.code y bytes maxL ret).before a0 Z = true)
    (hy : y.cls ≠ "java/lang/invoke/MethodHandle" ∧ y.cls ≠ "java/lang/invoke/VarHandle") (E : Exa Z T.heap a y.cls) (hM : own_M l Z y bytes maxL ret rm (.ref a :: argsL).toArray T.heap Qr) (hf : rm.frames + 1 ≤ R.frames) (hl : W + (maxL + 11) + rm.locals ≤ R.locals) (hck : k + rm.cells ≤ R.cells) (hcj : j + rm.slots ≤ R.slots)
    (hg : g.method = m) (hsize : g.locals.size = c.maxLocals) (hlen : ∀ sig, parseMethodDescriptor y.desc = some sig → argsL.length = sig.parameters.length) (hstack : g.stack = argsL.reverse ++ .ref a :: rest) (hW : 2 * g.monitorRoom + (rest.map fun v => v.category).sum ≤ W) (hdg : decode c.code g.pc = .ok (.invokevirtual index, 3))
    (K : ∀ (T' : State) (L : List Loc) (v : Option Value), Stand p l e R s m args below meth c T' (locs ++ L) (k + rm.cells) (j + rm.slots) → Qr v T'.heap L → own_E p e below Q T' { g with pc := g.pc + 3, stack := v.toList ++ rest }) : own_E p e below Q T g := by
  obtain ⟨cB, kB, qa, qb, qc⟩ := isOf (T := T) hZ rfl E
  obtain ⟨v, vm1, ⟨T', L', k', j'⟩, -, X', ⟨Lc, hQ, l', y', z'⟩, st⟩ := X.virtualBack hx (y := y) (z := y) hown (mvT hZ wl) (mvT hZ wd) (notFace_of_selects (args := #[]) (mvT hZ wsel)) (mvT hZ wsel) (mvT hZ wm) hy (backOf (W := W) (hM []) hZ wc wi hf hl) qa qc hg hsize (Steps.refl _) hlen hstack hW hdg (fun _ _ => ⟨rfl, rfl, hck, hcj⟩)
  dsimp only [Pt.U, Pt.locs, Pt.cells, Pt.slots] at X' l' y' z' st hQ
  subst l' y' z'
  exact own_sy st (K _ _ _ X' hQ)
theorem own_sel {y z : MethodName} (h : (Cond.selects z.cls z z).before args s = true) (hc : y.cls = z.cls) (hpriv : s.PrivateAt y) (hinst : (Cond.instanceMethod y).before args s = true) (hy : y.cls ≠ "java/lang/invoke/MethodHandle" ∧ y.cls ≠ "java/lang/invoke/VarHandle") : (Cond.selects y.cls y y).before args s = true := by
  obtain ⟨c2, r2, m2, -, -, q3, -, kP, hkP, hkPi⟩ := Cond.selects_spec h
  exact Stand.selects_self_of_private (by rw [hc]; exact findClass_of_methodNamed q3) hkP hkPi hpriv hinst hy
theorem own_callP {own : String} {index : Nat} {y z : MethodName} {bytes : ByteArray} {maxL W : Nat} {ret : Option FieldType} {rm : Room} {Qr : Option Value → Heap → List Loc → Prop} {Q : Outcome → State → Prop} {g : JFrame} {a : Addr} {argsL rest : List Value}
    (X : Stand p l e R s m args below meth c T locs k j) (hx : p.tables.exec = Jvm.exec) (hZ : Z.Warmed39 s.vm) (hown : s.vm.findClass own = some m.cls) (wl : (Cond.methodLink own index y).before a0 Z = true) (wsel : (Cond.selects z.cls z z).before a0 Z = true) (hc : y.cls = z.cls) (wp : (Cond.privateMethod y).before a0 Z = true) (wm : (Cond.instanceMethod y).before a0 Z = true) (wi : (Cond.initialized y.cls).before a0 Z = true) (wc : (Cond.code y bytes maxL ret).before a0 Z = true)
    (hy : y.cls ≠ "java/lang/invoke/MethodHandle" ∧ y.cls ≠ "java/lang/invoke/VarHandle") (E : Exa Z T.heap a y.cls) (hM : own_M l Z y bytes maxL ret rm (.ref a :: argsL).toArray T.heap Qr) (hf : rm.frames + 1 ≤ R.frames) (hl : W + (maxL + 11) + rm.locals ≤ R.locals) (hck : k + rm.cells ≤ R.cells) (hcj : j + rm.slots ≤ R.slots)
    (hg : g.method = m) (hsize : g.locals.size = c.maxLocals) (hlen : ∀ sig, parseMethodDescriptor y.desc = some sig → argsL.length = sig.parameters.length) (hstack : g.stack = argsL.reverse ++ .ref a :: rest) (hW : 2 * g.monitorRoom + (rest.map fun v => v.category).sum ≤ W) (hdg : decode c.code g.pc = .ok (.invokevirtual index, 3))
    (K : ∀ (T' : State) (L : List Loc) (v : Option Value), Stand p l e R s m args below meth c T' (locs ++ L) (k + rm.cells) (j + rm.slots) → Qr v T'.heap L → own_E p e below Q T' { g with pc := g.pc + 3, stack := v.toList ++ rest }) : own_E p e below Q T g := by
  obtain ⟨cq, q1, q2⟩ := E.cell
  have hpr := Cond.privateMethod_at (mvP hZ wp (args := args))
  obtain ⟨v, vm1, ⟨T', L', k', j'⟩, -, X', ⟨Lc, hQ, l', y', z'⟩, st⟩ := X.privateBack hx (y := y) hown (mvT hZ wl) (mvT hZ wm) (own_sel (z := z) (mvT hZ wsel) hc hpr (mvT hZ wm) hy) hpr (mvT hZ wc) hy (backOf (W := W) (hM []) hZ wc wi hf hl) hg hsize (Steps.refl _) (a := a) q1 q2 hlen hstack hW hdg (fun _ _ => ⟨rfl, rfl, hck, hcj⟩)
  dsimp only [Pt.U, Pt.locs, Pt.cells, Pt.slots] at X' l' y' z' st hQ
  subst l' y' z'
  exact own_sy st (K _ _ _ X' hQ)
end Own
def own_upd (f : Nat → Int32) (i : Nat) (x : Int32) : Nat → Int32 := fun j => if j = i then x else f j
def own_cp (len : Int32) (f : Nat → Int32) : Nat → Int32 := fun i => if i < len.toNatClampNeg then f i else 0
/-- at b lies an int[len] that holds f's values -/
def own_R (Z : State) (h : Heap) (b : Addr) (len : Int32) (f : Nat → Int32) : Prop := ¬ len < 0 ∧ ∃ cl : Cell, Arr Z h b cl .int ∧ cl.slots.size = len.toNatClampNeg ∧ ∀ i, i < len.toNatClampNeg → cl.slots[i]? = some (.int (f i))
/-- at a lies a LatestRows whose array lies at b -/
def own_J (Z : State) (n0 : Nat) (h : Heap) (a b : Addr) (last mem len : Int32) (f : Nat → Int32) : Prop :=
  n0 ≤ a ∧ n0 ≤ b ∧ a ≠ b ∧ Exa Z h a "com/example/refstone/refstone/service/LatestRows" ∧ Fld Z h a "com/example/refstone/refstone/service/LatestRows" "times" "[I" (.ref b) ∧ Fld Z h a "com/example/refstone/refstone/service/LatestRows" "lastTime" "I" (.int last) ∧ Fld Z h a "com/example/refstone/refstone/service/LatestRows" "members" "I" (.int mem) ∧ own_R Z h b len f
def own_I (Z : State) (n0 : Nat) (h : Heap) (a : Addr) (last mem len : Int32) (f : Nat → Int32) : Prop := ∃ b, own_J Z n0 h a b last mem len f
/-- a new LatestRows, its constructor not yet run -/
def own_N (Z : State) (n0 : Nat) (h : Heap) (a : Addr) : Prop := n0 ≤ a ∧ Exa Z h a "com/example/refstone/refstone/service/LatestRows" ∧ Fld Z h a "com/example/refstone/refstone/service/LatestRows" "times" "[I" .null ∧ Fld Z h a "com/example/refstone/refstone/service/LatestRows" "lastTime" "I" (.int 0) ∧ Fld Z h a "com/example/refstone/refstone/service/LatestRows" "members" "I" (.int 0)
section OwnI
variable {p : Program} {l : Launch} {e : Env} {R : Room} {s : State} {m : MethodId} {args : Array Value} {below : List Frame} {meth : Method} {c : Code} {T : State} {locs : List Loc} {cells slots : Nat} {Z : State} {n0 : Nat} {h h' : Heap} {a b : Addr} {last mem len : Int32} {f : Nat → Int32} {a0 : Array Value}
theorem own_nn {x : Int32} (h : 0 ≤ x.toInt) : ¬ x < 0 := by rw [Int32.lt_iff_toInt_lt]; exact Int.not_lt.mpr h
theorem own_Rext (E : Ext h h') (r : own_R Z h b len f) : own_R Z h' b len f := by obtain ⟨q, cl, A, S, V⟩ := r; exact ⟨q, cl, A.ext E, S, V⟩
theorem own_Rother {sl : Nat} {v : Value} (W : Wr h h' a sl v) (r : own_R Z h b len f) (ne : b ≠ a) : own_R Z h' b len f := by obtain ⟨q, cl, A, S, V⟩ := r; exact ⟨q, cl, A.other W ne, S, V⟩
theorem own_Rlt (r : own_R Z h b len f) : b < h.size := by obtain ⟨q, cl, A, S, V⟩ := r; exact A.lt
theorem own_Rnew {k : ClassId} {n : Int32} (q : ¬ n < 0) (A : Arr Z h a (newA k .int n) .int) : own_R Z h a n (fun _ => 0) := by
  refine ⟨q, _, A, sz_new _ _ _, fun i hi => ?_⟩
  show (Array.replicate n.toNatClampNeg (Value.int 0))[i]? = some (Value.int 0)
  rw [Array.getElem?_replicate, if_pos hi]
theorem own_alen (X : Stand p l e R s m args below meth c T locs cells slots) (hx : p.tables.exec = Jvm.exec) (hZ : Z.Warmed39 s.vm) (r : own_R Z T.heap b len f)
    {g : JFrame} (hg : g.method = m) {rest : List Value} (hs : g.stack = .ref b :: rest) (hd : decode c.code g.pc = .ok (.arraylength, 1)) {target : State}
    (hr : Steps p.tables e below (T.setTop { g with pc := g.pc + 1, stack := .int len :: rest }) target) : Steps p.tables e below (T.setTop g) target := by
  obtain ⟨q, cl, A, S, V⟩ := r
  exact X.arraylength hx A.1 (State.isArrayOf_alike hZ.alike A.2.1) hg hs hd _ (by rw [len_of S q]; exact hr)
theorem own_iaload (X : Stand p l e R s m args below meth c T locs cells slots) (hx : p.tables.exec = Jvm.exec) (hZ : Z.Warmed39 s.vm) (r : own_R Z T.heap b len f) {j : Int32} (hj : ¬ j < 0 ∧ j < len)
    {g : JFrame} (hg : g.method = m) {rest : List Value} (hs : g.stack = .int j :: .ref b :: rest) (hd : decode c.code g.pc = .ok (.iaload, 1)) {target : State}
    (hr : Steps p.tables e below (T.setTop { g with pc := g.pc + 1, stack := .int (f j.toNatClampNeg) :: rest }) target) : Steps p.tables e below (T.setTop g) target := by
  obtain ⟨q, cl, A, S, V⟩ := r
  have hin := inb_of S hj
  exact X.iaload hx A.1 (State.isArrayOf_alike hZ.alike A.2.1) A.2.2 hin (V _ (by rw [← S]; exact Nat.lt_of_not_le fun z => hin (Or.inr z))) hg hs hd _ hr
theorem own_Ina (I : own_I Z n0 h a last mem len f) : n0 ≤ a := by obtain ⟨b, J⟩ := I; exact J.1
theorem own_Iex (I : own_I Z n0 h a last mem len f) : Exa Z h a "com/example/refstone/refstone/service/LatestRows" := by obtain ⟨b, J⟩ := I; exact J.2.2.2.1
theorem own_Isz (I : own_I Z n0 h a last mem len f) : n0 ≤ h.size := Nat.le_of_lt (Nat.lt_of_le_of_lt (own_Ina I) (own_Iex I).lt)
theorem own_Jg_lastTime (J : own_J Z n0 h a b last mem len f) : Fld Z h a "com/example/refstone/refstone/service/LatestRows" "lastTime" "I" (.int last) := J.2.2.2.2.2.1
theorem own_Jg_members (J : own_J Z n0 h a b last mem len f) : Fld Z h a "com/example/refstone/refstone/service/LatestRows" "members" "I" (.int mem) := J.2.2.2.2.2.2.1
theorem own_Jt (J : own_J Z n0 h a b last mem len f) : Fld Z h a "com/example/refstone/refstone/service/LatestRows" "times" "[I" (.ref b) := J.2.2.2.2.1
theorem own_Jex (J : own_J Z n0 h a b last mem len f) : Exa Z h a "com/example/refstone/refstone/service/LatestRows" := J.2.2.2.1
theorem own_Jna (J : own_J Z n0 h a b last mem len f) : n0 ≤ a := J.1
theorem own_Jnb (J : own_J Z n0 h a b last mem len f) : n0 ≤ b := J.2.1
theorem own_Jr (J : own_J Z n0 h a b last mem len f) : own_R Z h b len f := J.2.2.2.2.2.2.2
theorem own_Jsz (J : own_J Z n0 h a b last mem len f) : n0 ≤ h.size := Nat.le_of_lt (Nat.lt_of_le_of_lt J.1 J.2.2.2.1.lt)
theorem own_Jext (E : Ext h h') (J : own_J Z n0 h a b last mem len f) : own_J Z n0 h' a b last mem len f := by
  obtain ⟨q1, q2, q3, A, f1, f2, f3, r⟩ := J
  exact ⟨q1, q2, q3, A.ext E, f1.ext E, f2.ext E, f3.ext E, own_Rext E r⟩
theorem own_iastore (X : Stand p l e R s m args below meth c T locs cells slots) (hx : p.tables.exec = Jvm.exec) (hZ : Z.Warmed39 s.vm) (J : own_J Z n0 T.heap a b last mem len f) {j x : Int32} (hj : ¬ j < 0 ∧ j < len)
    {g : JFrame} (hg : g.method = m) {rest : List Value} (hs : g.stack = .int x :: .int j :: .ref b :: rest) (hd : decode c.code g.pc = .ok (.iastore, 1)) :
    ∃ T', Stand p l e R s m args below meth c T' (locs ++ [⟨b, j.toNatClampNeg⟩]) cells slots ∧ own_J Z n0 T'.heap a b last mem len (own_upd f j.toNatClampNeg x) ∧ ∀ target, Steps p.tables e below (T'.setTop { g with pc := g.pc + 1, stack := rest }) target → Steps p.tables e below (T.setTop g) target := by
  obtain ⟨q1, q2, q3, A, f1, f2, f3, q, cl, Ar, S, V⟩ := J
  have hin := inb_of S hj
  have hlt : j.toNatClampNeg < cl.slots.size := Nat.lt_of_not_le fun z => hin (Or.inr z)
  obtain ⟨T', h', X', e', W', st⟩ := stI X hx hZ rfl Ar (j := j) (x := x) hin hg hs hd
  subst e'
  refine ⟨T', X', ⟨q1, q2, q3, A.wr W', f1.other W' (Or.inl q3), f2.other W' (Or.inl q3), f3.other W' (Or.inl q3), q, _, Ar.same W', by rw [sz_set]; exact S, fun i hi => ?_⟩, st⟩
  show (cl.slots.setIfInBounds j.toNatClampNeg (Value.int x))[i]? = some (Value.int (if i = j.toNatClampNeg then x else f i))
  rw [Array.getElem?_setIfInBounds]
  by_cases z : j.toNatClampNeg = i
  · subst z
    rw [if_pos rfl, if_pos rfl, if_pos hlt]
  · rw [if_neg z, if_neg (fun y => z y.symm)]; exact V i hi
theorem own_sT (hw : ∀ d ∈ tables_1, d.before a0 Z = true) : Jvm.RoadKit.slotOf Z "com/example/refstone/refstone/service/LatestRows" "lastTime" "I" ≠ Jvm.RoadKit.slotOf Z "com/example/refstone/refstone/service/LatestRows" "times" "[I" := slot_ne (a0 := a0) (C := "com/example/refstone/refstone/service/LatestRows") (Or.inr (hw _ (List.mem_of_getElem? (i := 18) rfl))) (Or.inl (hw _ (List.mem_of_getElem? (i := 16) rfl))) (by decide) (t := .int) (t' := .array .int) (by decide) (by decide)
theorem own_sM (hw : ∀ d ∈ tables_1, d.before a0 Z = true) : Jvm.RoadKit.slotOf Z "com/example/refstone/refstone/service/LatestRows" "members" "I" ≠ Jvm.RoadKit.slotOf Z "com/example/refstone/refstone/service/LatestRows" "times" "[I" := slot_ne (a0 := a0) (C := "com/example/refstone/refstone/service/LatestRows") (Or.inl (hw _ (List.mem_of_getElem? (i := 33) rfl))) (Or.inl (hw _ (List.mem_of_getElem? (i := 16) rfl))) (by decide) (t := .int) (t' := .array .int) (by decide) (by decide)
theorem own_sL (hw : ∀ d ∈ tables_1, d.before a0 Z = true) : Jvm.RoadKit.slotOf Z "com/example/refstone/refstone/service/LatestRows" "members" "I" ≠ Jvm.RoadKit.slotOf Z "com/example/refstone/refstone/service/LatestRows" "lastTime" "I" := slot_ne (a0 := a0) (C := "com/example/refstone/refstone/service/LatestRows") (Or.inl (hw _ (List.mem_of_getElem? (i := 33) rfl))) (Or.inr (hw _ (List.mem_of_getElem? (i := 18) rfl))) (by decide) (t := .int) (t' := .int) (by decide) (by decide)
theorem own_Js_members {x : Int32} (hw : ∀ d ∈ tables_1, d.before a0 Z = true) (W : Wr h h' a (Jvm.RoadKit.slotOf Z "com/example/refstone/refstone/service/LatestRows" "members" "I") (.int x)) (J : own_J Z n0 h a b last mem len f) : own_J Z n0 h' a b last x len f := by
  obtain ⟨q1, q2, q3, A, f1, f2, f3, r⟩ := J
  exact ⟨q1, q2, q3, A.wr W, f1.other W (Or.inr (own_sM hw).symm), f2.other W (Or.inr (own_sL hw).symm), f3.same W, own_Rother W r q3.symm⟩
theorem own_Jnew {b' : Addr} {len' : Int32} {f' : Nat → Int32} {N : Nat} (hw : ∀ d ∈ tables_1, d.before a0 Z = true) (W : Wr h h' a (Jvm.RoadKit.slotOf Z "com/example/refstone/refstone/service/LatestRows" "times" "[I") (.ref b')) (J : own_J Z n0 h a b last mem len f) (r' : own_R Z h b' len' f') (hN : a < N) (hb : N ≤ b') : own_J Z n0 h' a b' last mem len' f' := by
  obtain ⟨q1, q2, q3, A, f1, f2, f3, r⟩ := J
  have ne : a ≠ b' := Nat.ne_of_lt (Nat.lt_of_lt_of_le hN hb)
  exact ⟨q1, Nat.le_trans q1 (Nat.le_of_lt (Nat.lt_of_lt_of_le hN hb)), ne, A.wr W, f1.same W, f2.other W (Or.inr (own_sT hw)), f3.other W (Or.inr (own_sM hw)), own_Rother W r' ne.symm⟩
theorem own_Inew (hw : ∀ d ∈ tables_1, d.before a0 Z = true) (q : n0 ≤ a) (A : Exa Z h a "com/example/refstone/refstone/service/LatestRows") (D : ∀ {O nm d : String} {ty : FieldType}, Laid Z a0 "com/example/refstone/refstone/service/LatestRows" O nm d → parseFieldDescriptor d = some ty → Fld Z h a O nm d (defaultValue ty)) : own_N Z n0 h a :=
  ⟨q, A, D (Or.inl (hw _ (List.mem_of_getElem? (i := 16) rfl))) (ty := .array .int) (by decide), D (Or.inr (hw _ (List.mem_of_getElem? (i := 18) rfl))) (ty := .int) (by decide), D (Or.inl (hw _ (List.mem_of_getElem? (i := 33) rfl))) (ty := .int) (by decide)⟩
theorem own_Next (E : Ext h h') (I : own_N Z n0 h a) : own_N Z n0 h' a := by
  obtain ⟨q, A, f1, f2, f3⟩ := I
  exact ⟨q, A.ext E, f1.ext E, f2.ext E, f3.ext E⟩
end OwnI
theorem pn_1 : plainName "com/example/refstone/refstone/service/LatestRowsHasVersionPinLaw" = true := by first | (simp [plainName, overriddenIn]; done) | decide +kernel
theorem pd_1 : parseMethodDescriptor "(III)I" = some ⟨[.int, .int, .int], some .int⟩ := by decide +kernel
theorem d1_0 : decode method_2_code 0 = .ok (.iload_n 0, 1) := by decide +kernel
theorem d1_1 : decode method_2_code 1 = .ok (.iconst 3, 1) := by decide +kernel
theorem d1_2 : decode method_2_code 2 = .ok (.iand, 1) := by decide +kernel
theorem d1_3 : decode method_2_code 3 = .ok (.istore_n 3, 1) := by decide +kernel
theorem d1_4 : decode method_2_code 4 = .ok (.iload_n 3, 1) := by decide +kernel
theorem d1_5 : decode method_2_code 5 = .ok (.ifCond .ne 5, 3) := by decide +kernel
theorem d1_8 : decode method_2_code 8 = .ok (.iload_n 1, 1) := by decide +kernel
theorem d1_9 : decode method_2_code 9 = .ok (.ireturn, 1) := by decide +kernel
theorem d1_10 : decode method_2_code 10 = .ok (.iload_n 3, 1) := by decide +kernel
theorem d1_11 : decode method_2_code 11 = .ok (.iconst 1, 1) := by decide +kernel
theorem d1_12 : decode method_2_code 12 = .ok (.if_icmp .ne 5, 3) := by decide +kernel
theorem d1_15 : decode method_2_code 15 = .ok (.iload_n 2, 1) := by decide +kernel
theorem d1_16 : decode method_2_code 16 = .ok (.ireturn, 1) := by decide +kernel
theorem d1_17 : decode method_2_code 17 = .ok (.iload_n 3, 1) := by decide +kernel
theorem d1_18 : decode method_2_code 18 = .ok (.iconst 2, 1) := by decide +kernel
theorem d1_19 : decode method_2_code 19 = .ok (.if_icmp .ne 11, 3) := by decide +kernel
theorem d1_22 : decode method_2_code 22 = .ok (.iload_n 0, 1) := by decide +kernel
theorem d1_23 : decode method_2_code 23 = .ok (.iconst 2, 1) := by decide +kernel
theorem d1_24 : decode method_2_code 24 = .ok (.iushr, 1) := by decide +kernel
theorem d1_25 : decode method_2_code 25 = .ok (.sipush 4095, 3) := by decide +kernel
theorem d1_28 : decode method_2_code 28 = .ok (.iand, 1) := by decide +kernel
theorem d1_29 : decode method_2_code 29 = .ok (.ireturn, 1) := by decide +kernel
theorem d1_30 : decode method_2_code 30 = .ok (.iload_n 0, 1) := by decide +kernel
theorem d1_31 : decode method_2_code 31 = .ok (.ldc 7, 2) := by decide +kernel
theorem d1_33 : decode method_2_code 33 = .ok (.iand, 1) := by decide +kernel
theorem d1_34 : decode method_2_code 34 = .ok (.ireturn, 1) := by decide +kernel
theorem ef_1 (m : MethodId) (p0 : Int32) (p1 : Int32) (p2 : Int32) : entryFrame m #[(.int p0), (.int p1), (.int p2)] 4 = (mkF m 0 #[.val (.int p0), .val (.int p1), .val (.int p2), .unset] []) := by first | (simp [entryFrame, mkF, argsToLocals, Value.category, maxLocals]; done) | rfl
def F1_0 (x0 : Int32) (x1 : Int32) (x2 : Int32) : Int32 := (if (x0 &&& (3 : Int32)) = (0 : Int32) then x1 else (if (x0 &&& (3 : Int32)) = (1 : Int32) then x2 else (if (x0 &&& (3 : Int32)) = (2 : Int32) then ((XT.ushr x0 (2 : Int32)) &&& (4095 : Int32)) else (x0 &&& (2147483647 : Int32)))))
set_option maxRecDepth 65536 in
set_option maxHeartbeats 40000000 in
theorem rm1 (l : Launch) (Z : State) (a0 : Array Value) (hw : ∀ d ∈ tables_1, d.before a0 Z = true) (p0 : Int32) (p1 : Int32) (p2 : Int32) (h0 : Heap) (n0 : Nat) :
    own_M l Z (⟨"com/example/refstone/refstone/service/LatestRowsHasVersionPinLaw", "pickQuery", "(III)I"⟩ : MethodName) method_2_code 4 (some .int) ({ frames := 0, cells := 0, slots := 0, locals := 0 } : Room) #[(.int p0), (.int p1), (.int p2)] h0 (fun v h L => v = some (.int (F1_0 p0 p1 p2)) ∧ Fr n0 L ∧ h = h0) := by
  refine own_body pn_1 ?_
  intro p e s m below meth c T hx hby hml hown hZ hret hlk hnm X eT
  have N := Fr.nil n0
  obtain ⟨w, hF⟩ : ∃ w, w = F1_0 p0 p1 p2 := ⟨_, rfl⟩
  try rw [← hF]
  generalize hQ : own_Q s (fun v h L => v = some (.int w) ∧ Fr n0 L ∧ h = h0) ({ frames := 0, cells := 0, slots := 0, locals := 0 } : Room).cells ({ frames := 0, cells := 0, slots := 0, locals := 0 } : Room).slots = Qq
  refine own_st (fun _ k => castTop (ef_1 m p0 p1 p2) k) ?_
  show own_E p e below Qq T (mkF m 0 #[.val (.int p0), .val (.int p1), .val (.int p2), .unset] [])
  refine own_st (fun _ => XS.iloadN X.here hx rfl (hb hby d1_0) rfl) ?_
  show own_E p e below Qq T (mkF m 1 #[.val (.int p0), .val (.int p1), .val (.int p2), .unset] [(.int p0)])
  refine own_st (fun _ => XS.iconst X.here hx rfl (hb hby d1_1)) ?_
  show own_E p e below Qq T (mkF m 2 #[.val (.int p0), .val (.int p1), .val (.int p2), .unset] [(.int (3 : Int32)), (.int p0)])
  refine own_st (fun _ => XS.iand X.here hx rfl (hb hby d1_2) rfl) ?_
  show own_E p e below Qq T (mkF m 3 #[.val (.int p0), .val (.int p1), .val (.int p2), .unset] [(.int (p0 &&& (3 : Int32)))])
  refine own_st (fun _ => XS.istoreN X.here hx rfl (hb hby d1_3) rfl (l' := #[.val (.int p0), .val (.int p1), .val (.int p2), .val (.int (p0 &&& (3 : Int32)))]) rfl) ?_
  show own_E p e below Qq T (mkF m 4 #[.val (.int p0), .val (.int p1), .val (.int p2), .val (.int (p0 &&& (3 : Int32)))] [])
  refine own_st (fun _ => XS.iloadN X.here hx rfl (hb hby d1_4) rfl) ?_
  show own_E p e below Qq T (mkF m 5 #[.val (.int p0), .val (.int p1), .val (.int p2), .val (.int (p0 &&& (3 : Int32)))] [(.int (p0 &&& (3 : Int32)))])
  by_cases q5 : (p0 &&& (3 : Int32)) = (0 : Int32)
  · replace hF := hF.trans (if_pos q5)
    refine own_st (fun _ => XS.ifNo X.here hx rfl (hb hby d1_5) rfl (XT.i0_ne_f q5)) ?_
    show own_E p e below Qq T (mkF m 8 #[.val (.int p0), .val (.int p1), .val (.int p2), .val (.int (p0 &&& (3 : Int32)))] [])
    refine own_st (fun _ => XS.iloadN X.here hx rfl (hb hby d1_8) rfl) ?_
    show own_E p e below Qq T (mkF m 9 #[.val (.int p0), .val (.int p1), .val (.int p2), .val (.int (p0 &&& (3 : Int32)))] [(.int p1)])
    rw [← hQ]
    exact own_retI X hx hlk hret (hb hby d1_9) (by decide) (by decide) ⟨by (rw [hF]; try rfl), N, eT⟩
  · replace hF := hF.trans (if_neg q5)
    refine own_st (fun _ => XS.ifYes X.here hx rfl (pc0 := 5) (pc' := 10) rfl (hb hby d1_5) rfl (XT.i0_ne_t q5) (by decide) (by decide)) ?_
    show own_E p e below Qq T (mkF m 10 #[.val (.int p0), .val (.int p1), .val (.int p2), .val (.int (p0 &&& (3 : Int32)))] [])
    refine own_st (fun _ => XS.iloadN X.here hx rfl (hb hby d1_10) rfl) ?_
    show own_E p e below Qq T (mkF m 11 #[.val (.int p0), .val (.int p1), .val (.int p2), .val (.int (p0 &&& (3 : Int32)))] [(.int (p0 &&& (3 : Int32)))])
    refine own_st (fun _ => XS.iconst X.here hx rfl (hb hby d1_11)) ?_
    show own_E p e below Qq T (mkF m 12 #[.val (.int p0), .val (.int p1), .val (.int p2), .val (.int (p0 &&& (3 : Int32)))] [(.int (1 : Int32)), (.int (p0 &&& (3 : Int32)))])
    by_cases q12 : (p0 &&& (3 : Int32)) = (1 : Int32)
    · replace hF := hF.trans (if_pos q12)
      refine own_st (fun _ => XS.icmpNo X.here hx rfl (hb hby d1_12) rfl (XT.ii_ne_f q12)) ?_
      show own_E p e below Qq T (mkF m 15 #[.val (.int p0), .val (.int p1), .val (.int p2), .val (.int (p0 &&& (3 : Int32)))] [])
      refine own_st (fun _ => XS.iloadN X.here hx rfl (hb hby d1_15) rfl) ?_
      show own_E p e below Qq T (mkF m 16 #[.val (.int p0), .val (.int p1), .val (.int p2), .val (.int (p0 &&& (3 : Int32)))] [(.int p2)])
      rw [← hQ]
      exact own_retI X hx hlk hret (hb hby d1_16) (by decide) (by decide) ⟨by (rw [hF]; try rfl), N, eT⟩
    · replace hF := hF.trans (if_neg q12)
      refine own_st (fun _ => XS.icmpYes X.here hx rfl (pc0 := 12) (pc' := 17) rfl (hb hby d1_12) rfl (XT.ii_ne_t q12) (by decide) (by decide)) ?_
      show own_E p e below Qq T (mkF m 17 #[.val (.int p0), .val (.int p1), .val (.int p2), .val (.int (p0 &&& (3 : Int32)))] [])
      refine own_st (fun _ => XS.iloadN X.here hx rfl (hb hby d1_17) rfl) ?_
      show own_E p e below Qq T (mkF m 18 #[.val (.int p0), .val (.int p1), .val (.int p2), .val (.int (p0 &&& (3 : Int32)))] [(.int (p0 &&& (3 : Int32)))])
      refine own_st (fun _ => XS.iconst X.here hx rfl (hb hby d1_18)) ?_
      show own_E p e below Qq T (mkF m 19 #[.val (.int p0), .val (.int p1), .val (.int p2), .val (.int (p0 &&& (3 : Int32)))] [(.int (2 : Int32)), (.int (p0 &&& (3 : Int32)))])
      by_cases q19 : (p0 &&& (3 : Int32)) = (2 : Int32)
      · replace hF := hF.trans (if_pos q19)
        refine own_st (fun _ => XS.icmpNo X.here hx rfl (hb hby d1_19) rfl (XT.ii_ne_f q19)) ?_
        show own_E p e below Qq T (mkF m 22 #[.val (.int p0), .val (.int p1), .val (.int p2), .val (.int (p0 &&& (3 : Int32)))] [])
        refine own_st (fun _ => XS.iloadN X.here hx rfl (hb hby d1_22) rfl) ?_
        show own_E p e below Qq T (mkF m 23 #[.val (.int p0), .val (.int p1), .val (.int p2), .val (.int (p0 &&& (3 : Int32)))] [(.int p0)])
        refine own_st (fun _ => XS.iconst X.here hx rfl (hb hby d1_23)) ?_
        show own_E p e below Qq T (mkF m 24 #[.val (.int p0), .val (.int p1), .val (.int p2), .val (.int (p0 &&& (3 : Int32)))] [(.int (2 : Int32)), (.int p0)])
        refine own_st (fun _ => XT.iushr X.here hx rfl (hb hby d1_24) rfl) ?_
        show own_E p e below Qq T (mkF m 25 #[.val (.int p0), .val (.int p1), .val (.int p2), .val (.int (p0 &&& (3 : Int32)))] [(.int (XT.ushr p0 (2 : Int32)))])
        refine own_st (fun _ => XS.sipush X.here hx rfl (hb hby d1_25)) ?_
        show own_E p e below Qq T (mkF m 28 #[.val (.int p0), .val (.int p1), .val (.int p2), .val (.int (p0 &&& (3 : Int32)))] [(.int (4095 : Int32)), (.int (XT.ushr p0 (2 : Int32)))])
        refine own_st (fun _ => XS.iand X.here hx rfl (hb hby d1_28) rfl) ?_
        show own_E p e below Qq T (mkF m 29 #[.val (.int p0), .val (.int p1), .val (.int p2), .val (.int (p0 &&& (3 : Int32)))] [(.int ((XT.ushr p0 (2 : Int32)) &&& (4095 : Int32)))])
        rw [← hQ]
        exact own_retI X hx hlk hret (hb hby d1_29) (by decide) (by decide) ⟨by (rw [hF]; try rfl), N, eT⟩
      · replace hF := hF.trans (if_neg q19)
        refine own_st (fun _ => XS.icmpYes X.here hx rfl (pc0 := 19) (pc' := 30) rfl (hb hby d1_19) rfl (XT.ii_ne_t q19) (by decide) (by decide)) ?_
        show own_E p e below Qq T (mkF m 30 #[.val (.int p0), .val (.int p1), .val (.int p2), .val (.int (p0 &&& (3 : Int32)))] [])
        refine own_st (fun _ => XS.iloadN X.here hx rfl (hb hby d1_30) rfl) ?_
        show own_E p e below Qq T (mkF m 31 #[.val (.int p0), .val (.int p1), .val (.int p2), .val (.int (p0 &&& (3 : Int32)))] [(.int p0)])
        refine own_st (fun _ => X.ldcI hx hown (mvT hZ (hw _ (List.mem_of_getElem? (i := 4) rfl))) rfl (hb hby d1_31)) ?_
        show own_E p e below Qq T (mkF m 33 #[.val (.int p0), .val (.int p1), .val (.int p2), .val (.int (p0 &&& (3 : Int32)))] [(.int (2147483647 : Int32)), (.int p0)])
        refine own_st (fun _ => XS.iand X.here hx rfl (hb hby d1_33) rfl) ?_
        show own_E p e below Qq T (mkF m 34 #[.val (.int p0), .val (.int p1), .val (.int p2), .val (.int (p0 &&& (3 : Int32)))] [(.int (p0 &&& (2147483647 : Int32)))])
        rw [← hQ]
        exact own_retI X hx hlk hret (hb hby d1_34) (by decide) (by decide) ⟨by (rw [hF]; try rfl), N, eT⟩
theorem pn_2 : plainName "com/example/refstone/refstone/service/LatestRows" = true := by first | (simp [plainName, overriddenIn]; done) | decide +kernel
theorem pd_2 : parseMethodDescriptor "(I)V" = some ⟨[.int], none⟩ := by decide +kernel
theorem d2_0 : decode prog_73_method_2_code 0 = .ok (.aload_n 0, 1) := by decide +kernel
theorem d2_1 : decode prog_73_method_2_code 1 = .ok (.invokespecial 10, 3) := by decide +kernel
theorem d2_4 : decode prog_73_method_2_code 4 = .ok (.aload_n 0, 1) := by decide +kernel
theorem d2_5 : decode prog_73_method_2_code 5 = .ok (.sipush 1024, 3) := by decide +kernel
theorem d2_8 : decode prog_73_method_2_code 8 = .ok (.newarray .int, 2) := by decide +kernel
theorem d2_10 : decode prog_73_method_2_code 10 = .ok (.putfield 17, 3) := by decide +kernel
theorem d2_13 : decode prog_73_method_2_code 13 = .ok (.aload_n 0, 1) := by decide +kernel
theorem d2_14 : decode prog_73_method_2_code 14 = .ok (.iload_n 1, 1) := by decide +kernel
theorem d2_15 : decode prog_73_method_2_code 15 = .ok (.putfield 21, 3) := by decide +kernel
theorem d2_18 : decode prog_73_method_2_code 18 = .ok (.return_, 1) := by decide +kernel
theorem ef_2 (m : MethodId) (a : Addr) (p0 : Int32) : entryFrame m #[(.ref a), (.int p0)] 2 = mkF m 0 #[.val (.ref a), .val (.int p0)] [] := by first | (simp [entryFrame, mkF, argsToLocals, Value.category, maxLocals]; done) | rfl
def F2_0 (p0 last mem len : Int32) (f : Nat → Int32) : Int32 × Int32 × Int32 × (Nat → Int32) := (p0, 0, 1024, fun _ => 0)
set_option maxRecDepth 65536 in
set_option maxHeartbeats 40000000 in
theorem rm2 (l : Launch) (Z : State) (a0 : Array Value) (hw : ∀ d ∈ tables_1, d.before a0 Z = true) (a : Addr) (p0 : Int32) (last mem len : Int32) (f : Nat → Int32) (h0 : Heap) (n0 : Nat) (I : own_N Z n0 h0 a) :
    own_M l Z (⟨"com/example/refstone/refstone/service/LatestRows", "<init>", "(I)V"⟩ : MethodName) prog_73_method_2_code 2 none ({ frames := 1, cells := 1, slots := 1024, locals := 20 } : Room) #[(.ref a), (.int p0)] h0 (fun v h L => v = none ∧ Fr n0 L ∧ own_I Z n0 h a (F2_0 p0 last mem len f).1 (F2_0 p0 last mem len f).2.1 (F2_0 p0 last mem len f).2.2.1 (F2_0 p0 last mem len f).2.2.2) := by
  refine own_body pn_2 ?_
  intro p e s m below meth c T hx hby hml hown hZ hret hlk hnm X eT
  have N := Fr.nil n0
  replace I : own_N Z n0 T.heap a := by rw [eT]; exact I
  clear eT
  generalize hQ : own_Q s _ _ _ = Qq
  refine own_st (fun _ k => castTop (ef_2 m a p0) k) ?_
  show own_E p e below Qq T (mkF m 0 #[.val (.ref a), .val (.int p0)] [])
  refine own_st (fun _ => XS.aloadN X.here hx rfl (hb hby d2_0) rfl rfl) ?_
  show own_E p e below Qq T (mkF m 1 #[.val (.ref a), .val (.int p0)] [(.ref a)])
  obtain ⟨T1, X1, e1, st1⟩ := initO X hx hZ hown (hw _ (List.mem_of_getElem? (i := 11) rfl)) (hw _ (List.mem_of_getElem? (i := 12) rfl)) (hw _ (List.mem_of_getElem? (i := 13) rfl)) rfl (g := (mkF m 1 #[.val (.ref a), .val (.int p0)] [(.ref a)])) rfl (by rw [hml]; rfl) rfl (hb hby d2_1) (by decide) (W := 0) (by show 2 * 0 + _ ≤ _; exact Nat.le_of_eq rfl) (by decide)
  refine own_st st1 ?_
  replace I := own_tr (P := fun h => own_N Z n0 h a) e1 I
  show own_E p e below Qq T1 (mkF m 4 #[.val (.ref a), .val (.int p0)] [])
  refine own_st (fun _ => XS.aloadN X1.here hx rfl (hb hby d2_4) rfl rfl) ?_
  show own_E p e below Qq T1 (mkF m 5 #[.val (.ref a), .val (.int p0)] [(.ref a)])
  refine own_st (fun _ => XS.sipush X1.here hx rfl (hb hby d2_5)) ?_
  show own_E p e below Qq T1 (mkF m 8 #[.val (.ref a), .val (.int p0)] [(.int (1024 : Int32)), (.ref a)])
  obtain ⟨T2, h2, k2, X2, e2, E2, A2, st2⟩ := newP X1 hx hZ (hw _ (List.mem_of_getElem? (i := 14) rfl)) rfl (g := (mkF m 8 #[.val (.ref a), .val (.int p0)] [(.int (1024 : Int32)), (.ref a)])) rfl (hb hby d2_8) rfl (by decide) (cap := 1024) (by decide) (by decide) (by decide) (by decide)
  obtain ⟨b2, gb2⟩ : ∃ z, z = T1.heap.size := ⟨_, rfl⟩
  rw [← gb2] at A2 st2
  subst e2
  have la : a < b2 := by rw [gb2]; exact I.2.1.lt
  refine own_st st2 ?_
  replace I := own_Next E2 I
  have r2 : own_R Z T2.heap b2 1024 (fun _ => 0) := own_Rnew (by decide) A2
  show own_E p e below Qq T2 (mkF m 10 #[.val (.ref a), .val (.int p0)] [(.ref b2), (.ref a)])
  obtain ⟨q, A, f1, f2, f3⟩ := I
  obtain ⟨T3, h3, X3, e3, W3, st3⟩ := putF X2 hx hZ hown (host := "") (Or.inl (hw _ (List.mem_of_getElem? (i := 15) rfl))) Via.refl rfl f1 A (Or.inl (hw _ (List.mem_of_getElem? (i := 16) rfl))) (hw _ (List.mem_of_getElem? (i := 6) rfl)) (ty := (.array .int)) (by decide) rfl rfl (g := (mkF m 10 #[.val (.ref a), .val (.int p0)] [(.ref b2), (.ref a)])) rfl rfl (hb hby d2_10)
  subst e3
  refine own_st st3 ?_
  replace N := Fr.snoc X3 N q
  have ne : a ≠ b2 := Nat.ne_of_lt la
  replace f1 := f1.same W3
  replace f2 := f2.other W3 (Or.inr (own_sT hw))
  replace f3 := f3.other W3 (Or.inr (own_sM hw))
  replace A := A.wr W3
  replace r2 := own_Rother W3 r2 ne.symm
  show own_E p e below Qq T3 (mkF m 13 #[.val (.ref a), .val (.int p0)] [])
  refine own_st (fun _ => XS.aloadN X3.here hx rfl (hb hby d2_13) rfl rfl) ?_
  show own_E p e below Qq T3 (mkF m 14 #[.val (.ref a), .val (.int p0)] [(.ref a)])
  refine own_st (fun _ => XS.iloadN X3.here hx rfl (hb hby d2_14) rfl) ?_
  show own_E p e below Qq T3 (mkF m 15 #[.val (.ref a), .val (.int p0)] [(.int p0), (.ref a)])
  obtain ⟨T4, h4, X4, e4, W4, st4⟩ := putF X3 hx hZ hown (host := "") (Or.inl (hw _ (List.mem_of_getElem? (i := 17) rfl))) Via.refl rfl f2 A (Or.inr ⟨(hw _ (List.mem_of_getElem? (i := 18) rfl)), rfl, hnm⟩) (hw _ (List.mem_of_getElem? (i := 6) rfl)) (ty := .int) (by decide) rfl rfl (g := (mkF m 15 #[.val (.ref a), .val (.int p0)] [(.int p0), (.ref a)])) rfl rfl (hb hby d2_15)
  subst e4
  refine own_st st4 ?_
  replace N := Fr.snoc X4 N q
  replace f1 := f1.other W4 (Or.inr (own_sT hw).symm)
  replace f2 := f2.same W4
  replace f3 := f3.other W4 (Or.inr (own_sL hw))
  replace A := A.wr W4
  replace r2 := own_Rother W4 r2 ne.symm
  show own_E p e below Qq T4 (mkF m 18 #[.val (.ref a), .val (.int p0)] [])
  rw [← hQ]
  exact own_retV X4 hx hlk hret (hb hby d2_18) (by decide) (by decide) ⟨rfl, N, b2, q, Nat.le_trans q (Nat.le_of_lt la), ne, A, f1, f2, f3, r2⟩
theorem own_PL (k a b : Int32) : 0 ≤ (a &&& (4095 : Int32)).toInt ∧ (a &&& (4095 : Int32)).toInt ≤ 4095 ∧ 0 ≤ (b &&& (4095 : Int32)).toInt ∧ (b &&& (4095 : Int32)).toInt ≤ 4095 ∧ 0 ≤ (F1_0 k (a &&& (4095 : Int32)) (b &&& (4095 : Int32))).toInt := by
  have m1 : (a &&& (4095 : Int32)).toInt = a.toInt % (2 ^ 12 : Nat) := c_mask a 4095 12 (by decide) (by decide)
  have m2 : (b &&& (4095 : Int32)).toInt = b.toInt % (2 ^ 12 : Nat) := c_mask b 4095 12 (by decide) (by decide)
  have m3 : ((XT.ushr k 2) &&& (4095 : Int32)).toInt = (XT.ushr k 2).toInt % (2 ^ 12 : Nat) := c_mask _ 4095 12 (by decide) (by decide)
  have m4 : (k &&& (2147483647 : Int32)).toInt = k.toInt % (2 ^ 31 : Nat) := c_mask k 2147483647 31 (by decide) (by decide)
  refine ⟨by omega, by omega, by omega, by omega, ?_⟩
  unfold F1_0
  split
  · omega
  · split
    · omega
    · split
      · omega
      · omega
theorem own_G {x len : Int32} (h : 0 ≤ x.toInt ∧ x.toInt ≤ 4095) (q : ¬ x < len) : len.toInt ≤ x.toInt ∧ x.toInt ≤ 4095 := by
  rw [Int32.lt_iff_toInt_lt] at q; omega
theorem pf_9 : plainFor (⟨"java/lang/Math", "max", "(II)I"⟩ : MethodName) = true := by decide +kernel
theorem pd_9 : parseMethodDescriptor "(II)I" = some ⟨[.int, .int], some .int⟩ := by decide +kernel
theorem d9_0 : decode jdk_29_method_65_code 0 = .ok (.iload_n 0, 1) := by decide +kernel
theorem d9_1 : decode jdk_29_method_65_code 1 = .ok (.iload_n 1, 1) := by decide +kernel
theorem d9_2 : decode jdk_29_method_65_code 2 = .ok (.if_icmp .lt 7, 3) := by decide +kernel
theorem d9_5 : decode jdk_29_method_65_code 5 = .ok (.iload_n 0, 1) := by decide +kernel
theorem d9_6 : decode jdk_29_method_65_code 6 = .ok (.goto 4, 3) := by decide +kernel
theorem d9_9 : decode jdk_29_method_65_code 9 = .ok (.iload_n 1, 1) := by decide +kernel
theorem d9_10 : decode jdk_29_method_65_code 10 = .ok (.ireturn, 1) := by decide +kernel
theorem ef_9 (m : MethodId) (p0 : Int32) (p1 : Int32) : entryFrame m #[(.int p0), (.int p1)] 2 = (mkF m 0 #[.val (.int p0), .val (.int p1)] []) := by first | (simp [entryFrame, mkF, argsToLocals, Value.category, maxLocals]; done) | rfl
def F9_10 (x0 : Int32) (x1 : Int32) (y2 : Int32) : Int32 := y2
def F9_0 (x0 : Int32) (x1 : Int32) : Int32 := (if x0 < x1 then (F9_10 x0 x1 x1) else (F9_10 x0 x1 x0))
set_option maxRecDepth 65536 in
set_option maxHeartbeats 40000000 in
theorem rm9 (l : Launch) (Z : State) (a0 : Array Value) (hw : ∀ d ∈ tables_1, d.before a0 Z = true) (p0 : Int32) (p1 : Int32) (h0 : Heap) (n0 : Nat) :
    own_M l Z (⟨"java/lang/Math", "max", "(II)I"⟩ : MethodName) jdk_29_method_65_code 2 (some .int) ({ frames := 0, cells := 0, slots := 0, locals := 0 } : Room) #[(.int p0), (.int p1)] h0 (fun v h L => v = some (.int (F9_0 p0 p1)) ∧ Fr n0 L ∧ h = h0) := by
  refine own_bodyF pf_9 ?_
  intro p e s m below meth c T hx hby hml hown hZ hret hlk hnm X eT
  have N := Fr.nil n0
  obtain ⟨w, hF⟩ : ∃ w, w = F9_0 p0 p1 := ⟨_, rfl⟩
  try rw [← hF]
  generalize hQ : own_Q s (fun v h L => v = some (.int w) ∧ Fr n0 L ∧ h = h0) ({ frames := 0, cells := 0, slots := 0, locals := 0 } : Room).cells ({ frames := 0, cells := 0, slots := 0, locals := 0 } : Room).slots = Qq
  refine own_st (fun _ k => castTop (ef_9 m p0 p1) k) ?_
  have B10 : ∀ (T : State) (L : List Loc) (x0 : Int32) (x1 : Int32) (y2 : Int32), Stand p l e ({ frames := 0, cells := 0, slots := 0, locals := 0 } : Room) s m #[(.int p0), (.int p1)] below meth c T L 0 0 → T.heap = h0 → Fr n0 L → w = F9_10 x0 x1 y2 → own_E p e below Qq T (mkF m 10 #[.val (.int x0), .val (.int x1)] [(.int y2)]) := by
    intro T L x0 x1 y2 X eT N hF
    rw [← hQ]
    exact own_retI X hx hlk hret (hb hby d9_10) (by decide) (by decide) ⟨by (rw [hF]; try rfl), N, eT⟩
  show own_E p e below Qq T (mkF m 0 #[.val (.int p0), .val (.int p1)] [])
  refine own_st (fun _ => XS.iloadN X.here hx rfl (hb hby d9_0) rfl) ?_
  show own_E p e below Qq T (mkF m 1 #[.val (.int p0), .val (.int p1)] [(.int p0)])
  refine own_st (fun _ => XS.iloadN X.here hx rfl (hb hby d9_1) rfl) ?_
  show own_E p e below Qq T (mkF m 2 #[.val (.int p0), .val (.int p1)] [(.int p1), (.int p0)])
  by_cases q2 : p0 < p1
  · replace hF := hF.trans (if_pos q2)
    refine own_st (fun _ => XS.icmpYes X.here hx rfl (pc0 := 2) (pc' := 9) rfl (hb hby d9_2) rfl (XT.ii_lt_t q2) (by decide) (by decide)) ?_
    show own_E p e below Qq T (mkF m 9 #[.val (.int p0), .val (.int p1)] [])
    refine own_st (fun _ => XS.iloadN X.here hx rfl (hb hby d9_9) rfl) ?_
    show own_E p e below Qq T (mkF m 10 #[.val (.int p0), .val (.int p1)] [(.int p1)])
    exact B10 _ _ p0 p1 p1 X eT N hF
  · replace hF := hF.trans (if_neg q2)
    refine own_st (fun _ => XS.icmpNo X.here hx rfl (hb hby d9_2) rfl (XT.ii_lt_f q2)) ?_
    show own_E p e below Qq T (mkF m 5 #[.val (.int p0), .val (.int p1)] [])
    refine own_st (fun _ => XS.iloadN X.here hx rfl (hb hby d9_5) rfl) ?_
    show own_E p e below Qq T (mkF m 6 #[.val (.int p0), .val (.int p1)] [(.int p0)])
    refine own_st (fun _ => XS.goto X.here hx rfl (pc0 := 6) (pc' := 10) rfl (hb hby d9_6) (by decide) (by decide)) ?_
    show own_E p e below Qq T (mkF m 10 #[.val (.int p0), .val (.int p1)] [(.int p0)])
    exact B10 _ _ p0 p1 p0 X eT N hF
theorem pn_8 : plainName "com/example/refstone/refstone/service/NumberedArrays" = true := by first | (simp [plainName, overriddenIn]; done) | decide +kernel
theorem d8_0 : decode prog_81_method_5_code 0 = .ok (.iload_n 0, 1) := by decide +kernel
theorem d8_1 : decode prog_81_method_5_code 1 = .ok (.iconst 1, 1) := by decide +kernel
theorem d8_2 : decode prog_81_method_5_code 2 = .ok (.ishr, 1) := by decide +kernel
theorem d8_3 : decode prog_81_method_5_code 3 = .ok (.istore_n 2, 1) := by decide +kernel
theorem d8_4 : decode prog_81_method_5_code 4 = .ok (.iload_n 0, 1) := by decide +kernel
theorem d8_5 : decode prog_81_method_5_code 5 = .ok (.ldc 27, 2) := by decide +kernel
theorem d8_7 : decode prog_81_method_5_code 7 = .ok (.iload_n 2, 1) := by decide +kernel
theorem d8_8 : decode prog_81_method_5_code 8 = .ok (.isub, 1) := by decide +kernel
theorem d8_9 : decode prog_81_method_5_code 9 = .ok (.if_icmp .le 8, 3) := by decide +kernel
theorem d8_12 : decode prog_81_method_5_code 12 = .ok (.ldc 27, 2) := by decide +kernel
theorem d8_14 : decode prog_81_method_5_code 14 = .ok (.goto 6, 3) := by decide +kernel
theorem d8_17 : decode prog_81_method_5_code 17 = .ok (.iload_n 0, 1) := by decide +kernel
theorem d8_18 : decode prog_81_method_5_code 18 = .ok (.iload_n 2, 1) := by decide +kernel
theorem d8_19 : decode prog_81_method_5_code 19 = .ok (.iadd, 1) := by decide +kernel
theorem d8_20 : decode prog_81_method_5_code 20 = .ok (.istore_n 3, 1) := by decide +kernel
theorem d8_21 : decode prog_81_method_5_code 21 = .ok (.iload_n 1, 1) := by decide +kernel
theorem d8_22 : decode prog_81_method_5_code 22 = .ok (.iconst 1, 1) := by decide +kernel
theorem d8_23 : decode prog_81_method_5_code 23 = .ok (.iadd, 1) := by decide +kernel
theorem d8_24 : decode prog_81_method_5_code 24 = .ok (.iload_n 3, 1) := by decide +kernel
theorem d8_25 : decode prog_81_method_5_code 25 = .ok (.invokestatic 28, 3) := by decide +kernel
theorem d8_28 : decode prog_81_method_5_code 28 = .ok (.ireturn, 1) := by decide +kernel
theorem ef_8 (m : MethodId) (p0 : Int32) (p1 : Int32) : entryFrame m #[(.int p0), (.int p1)] 4 = (mkF m 0 #[.val (.int p0), .val (.int p1), .unset, .unset] []) := by first | (simp [entryFrame, mkF, argsToLocals, Value.category, maxLocals]; done) | rfl
def F8_20 (x0 : Int32) (x1 : Int32) (x2 : Int32) (y3 : Int32) : Int32 := (F9_0 (x1 + (1 : Int32)) y3)
def F8_0 (x0 : Int32) (x1 : Int32) : Int32 := (if ((2147483639 : Int32) - (x0 >>> ((1 : Int32) &&& 31))) < x0 then (F8_20 x0 x1 (x0 >>> ((1 : Int32) &&& 31)) (2147483639 : Int32)) else (F8_20 x0 x1 (x0 >>> ((1 : Int32) &&& 31)) (x0 + (x0 >>> ((1 : Int32) &&& 31)))))
set_option maxRecDepth 65536 in
set_option maxHeartbeats 40000000 in
theorem rm8 (l : Launch) (Z : State) (a0 : Array Value) (hw : ∀ d ∈ tables_1, d.before a0 Z = true) (p0 : Int32) (p1 : Int32) (h0 : Heap) (n0 : Nat) :
    own_M l Z (⟨"com/example/refstone/refstone/service/NumberedArrays", "lengthToHold", "(II)I"⟩ : MethodName) prog_81_method_5_code 4 (some .int) ({ frames := 1, cells := 0, slots := 0, locals := 21 } : Room) #[(.int p0), (.int p1)] h0 (fun v h L => v = some (.int (F8_0 p0 p1)) ∧ Fr n0 L ∧ h = h0) := by
  refine own_body pn_8 ?_
  intro p e s m below meth c T hx hby hml hown hZ hret hlk hnm X eT
  have N := Fr.nil n0
  obtain ⟨w, hF⟩ : ∃ w, w = F8_0 p0 p1 := ⟨_, rfl⟩
  try rw [← hF]
  generalize hQ : own_Q s (fun v h L => v = some (.int w) ∧ Fr n0 L ∧ h = h0) ({ frames := 1, cells := 0, slots := 0, locals := 21 } : Room).cells ({ frames := 1, cells := 0, slots := 0, locals := 21 } : Room).slots = Qq
  refine own_st (fun _ k => castTop (ef_8 m p0 p1) k) ?_
  have B20 : ∀ (T : State) (L : List Loc) (x0 : Int32) (x1 : Int32) (x2 : Int32) (y3 : Int32), Stand p l e ({ frames := 1, cells := 0, slots := 0, locals := 21 } : Room) s m #[(.int p0), (.int p1)] below meth c T L 0 0 → T.heap = h0 → Fr n0 L → w = F8_20 x0 x1 x2 y3 → own_E p e below Qq T (mkF m 20 #[.val (.int x0), .val (.int x1), .val (.int x2), .unset] [(.int y3)]) := by
    intro T L x0 x1 x2 y3 X eT N hF
    refine own_st (fun _ => XS.istoreN X.here hx rfl (hb hby d8_20) rfl (l' := #[.val (.int x0), .val (.int x1), .val (.int x2), .val (.int y3)]) rfl) ?_
    show own_E p e below Qq T (mkF m 21 #[.val (.int x0), .val (.int x1), .val (.int x2), .val (.int y3)] [])
    refine own_st (fun _ => XS.iloadN X.here hx rfl (hb hby d8_21) rfl) ?_
    show own_E p e below Qq T (mkF m 22 #[.val (.int x0), .val (.int x1), .val (.int x2), .val (.int y3)] [(.int x1)])
    refine own_st (fun _ => XS.iconst X.here hx rfl (hb hby d8_22)) ?_
    show own_E p e below Qq T (mkF m 23 #[.val (.int x0), .val (.int x1), .val (.int x2), .val (.int y3)] [(.int (1 : Int32)), (.int x1)])
    refine own_st (fun _ => XS.iadd X.here hx rfl (hb hby d8_23) rfl) ?_
    show own_E p e below Qq T (mkF m 24 #[.val (.int x0), .val (.int x1), .val (.int x2), .val (.int y3)] [(.int (x1 + (1 : Int32)))])
    refine own_st (fun _ => XS.iloadN X.here hx rfl (hb hby d8_24) rfl) ?_
    show own_E p e below Qq T (mkF m 25 #[.val (.int x0), .val (.int x1), .val (.int x2), .val (.int y3)] [(.int y3), (.int (x1 + (1 : Int32)))])
    refine own_callS X hx hZ hown (hw _ (List.mem_of_getElem? (i := 42) rfl)) (hw _ (List.mem_of_getElem? (i := 43) rfl)) (hw _ (List.mem_of_getElem? (i := 44) rfl)) (hw _ (List.mem_of_getElem? (i := 45) rfl)) (by decide) (W := 0) (argsL := [(.int (x1 + (1 : Int32))), (.int y3)]) (rest := []) (rm9 l Z a0 hw (x1 + (1 : Int32)) y3 _ n0) (by decide) (by decide) (by decide) (by decide) rfl (by rw [hml]; rfl) (lenOf pd_9 rfl) rfl (by show 2 * 0 + _ ≤ _; exact Nat.le_of_eq rfl) (hb hby d8_25) ?_
    intro T1 L1 v X' hq
    obtain ⟨rfl, N', e'⟩ := hq
    replace eT := e'.trans eT
    replace N := Fr.app N N'
    replace X : Stand p l e ({ frames := 1, cells := 0, slots := 0, locals := 21 } : Room) s m #[(.int p0), (.int p1)] below meth c T1 _ 0 0 := X'
    clear X' N' e'
    show own_E p e below Qq T1 (mkF m 28 #[.val (.int x0), .val (.int x1), .val (.int x2), .val (.int y3)] [(.int (F9_0 (x1 + (1 : Int32)) y3))])
    rw [← hQ]
    exact own_retI X hx hlk hret (hb hby d8_28) (by decide) (by decide) ⟨by (rw [hF]; try rfl), N, eT⟩
  show own_E p e below Qq T (mkF m 0 #[.val (.int p0), .val (.int p1), .unset, .unset] [])
  refine own_st (fun _ => XS.iloadN X.here hx rfl (hb hby d8_0) rfl) ?_
  show own_E p e below Qq T (mkF m 1 #[.val (.int p0), .val (.int p1), .unset, .unset] [(.int p0)])
  refine own_st (fun _ => XS.iconst X.here hx rfl (hb hby d8_1)) ?_
  show own_E p e below Qq T (mkF m 2 #[.val (.int p0), .val (.int p1), .unset, .unset] [(.int (1 : Int32)), (.int p0)])
  refine own_st (fun _ => XT.ishr X.here hx rfl (hb hby d8_2) rfl) ?_
  show own_E p e below Qq T (mkF m 3 #[.val (.int p0), .val (.int p1), .unset, .unset] [(.int (p0 >>> ((1 : Int32) &&& 31)))])
  refine own_st (fun _ => XS.istoreN X.here hx rfl (hb hby d8_3) rfl (l' := #[.val (.int p0), .val (.int p1), .val (.int (p0 >>> ((1 : Int32) &&& 31))), .unset]) rfl) ?_
  show own_E p e below Qq T (mkF m 4 #[.val (.int p0), .val (.int p1), .val (.int (p0 >>> ((1 : Int32) &&& 31))), .unset] [])
  refine own_st (fun _ => XS.iloadN X.here hx rfl (hb hby d8_4) rfl) ?_
  show own_E p e below Qq T (mkF m 5 #[.val (.int p0), .val (.int p1), .val (.int (p0 >>> ((1 : Int32) &&& 31))), .unset] [(.int p0)])
  refine own_st (fun _ => X.ldcI hx hown (mvT hZ (hw _ (List.mem_of_getElem? (i := 41) rfl))) rfl (hb hby d8_5)) ?_
  show own_E p e below Qq T (mkF m 7 #[.val (.int p0), .val (.int p1), .val (.int (p0 >>> ((1 : Int32) &&& 31))), .unset] [(.int (2147483639 : Int32)), (.int p0)])
  refine own_st (fun _ => XS.iloadN X.here hx rfl (hb hby d8_7) rfl) ?_
  show own_E p e below Qq T (mkF m 8 #[.val (.int p0), .val (.int p1), .val (.int (p0 >>> ((1 : Int32) &&& 31))), .unset] [(.int (p0 >>> ((1 : Int32) &&& 31))), (.int (2147483639 : Int32)), (.int p0)])
  refine own_st (fun _ => XS.isub X.here hx rfl (hb hby d8_8) rfl) ?_
  show own_E p e below Qq T (mkF m 9 #[.val (.int p0), .val (.int p1), .val (.int (p0 >>> ((1 : Int32) &&& 31))), .unset] [(.int ((2147483639 : Int32) - (p0 >>> ((1 : Int32) &&& 31)))), (.int p0)])
  by_cases q9 : ((2147483639 : Int32) - (p0 >>> ((1 : Int32) &&& 31))) < p0
  · replace hF := hF.trans (if_pos q9)
    refine own_st (fun _ => XS.icmpNo X.here hx rfl (hb hby d8_9) rfl (XT.ii_le_f q9)) ?_
    show own_E p e below Qq T (mkF m 12 #[.val (.int p0), .val (.int p1), .val (.int (p0 >>> ((1 : Int32) &&& 31))), .unset] [])
    refine own_st (fun _ => X.ldcI hx hown (mvT hZ (hw _ (List.mem_of_getElem? (i := 41) rfl))) rfl (hb hby d8_12)) ?_
    show own_E p e below Qq T (mkF m 14 #[.val (.int p0), .val (.int p1), .val (.int (p0 >>> ((1 : Int32) &&& 31))), .unset] [(.int (2147483639 : Int32))])
    refine own_st (fun _ => XS.goto X.here hx rfl (pc0 := 14) (pc' := 20) rfl (hb hby d8_14) (by decide) (by decide)) ?_
    show own_E p e below Qq T (mkF m 20 #[.val (.int p0), .val (.int p1), .val (.int (p0 >>> ((1 : Int32) &&& 31))), .unset] [(.int (2147483639 : Int32))])
    exact B20 _ _ p0 p1 (p0 >>> ((1 : Int32) &&& 31)) (2147483639 : Int32) X eT N hF
  · replace hF := hF.trans (if_neg q9)
    refine own_st (fun _ => XS.icmpYes X.here hx rfl (pc0 := 9) (pc' := 17) rfl (hb hby d8_9) rfl (XT.ii_le_t q9) (by decide) (by decide)) ?_
    show own_E p e below Qq T (mkF m 17 #[.val (.int p0), .val (.int p1), .val (.int (p0 >>> ((1 : Int32) &&& 31))), .unset] [])
    refine own_st (fun _ => XS.iloadN X.here hx rfl (hb hby d8_17) rfl) ?_
    show own_E p e below Qq T (mkF m 18 #[.val (.int p0), .val (.int p1), .val (.int (p0 >>> ((1 : Int32) &&& 31))), .unset] [(.int p0)])
    refine own_st (fun _ => XS.iloadN X.here hx rfl (hb hby d8_18) rfl) ?_
    show own_E p e below Qq T (mkF m 19 #[.val (.int p0), .val (.int p1), .val (.int (p0 >>> ((1 : Int32) &&& 31))), .unset] [(.int (p0 >>> ((1 : Int32) &&& 31))), (.int p0)])
    refine own_st (fun _ => XS.iadd X.here hx rfl (hb hby d8_19) rfl) ?_
    show own_E p e below Qq T (mkF m 20 #[.val (.int p0), .val (.int p1), .val (.int (p0 >>> ((1 : Int32) &&& 31))), .unset] [(.int (p0 + (p0 >>> ((1 : Int32) &&& 31))))])
    exact B20 _ _ p0 p1 (p0 >>> ((1 : Int32) &&& 31)) (p0 + (p0 >>> ((1 : Int32) &&& 31))) X eT N hF
theorem pf_11 : plainFor (⟨"java/lang/Math", "min", "(II)I"⟩ : MethodName) = true := by decide +kernel
theorem d11_0 : decode jdk_29_method_69_code 0 = .ok (.iload_n 0, 1) := by decide +kernel
theorem d11_1 : decode jdk_29_method_69_code 1 = .ok (.iload_n 1, 1) := by decide +kernel
theorem d11_2 : decode jdk_29_method_69_code 2 = .ok (.if_icmp .gt 7, 3) := by decide +kernel
theorem d11_5 : decode jdk_29_method_69_code 5 = .ok (.iload_n 0, 1) := by decide +kernel
theorem d11_6 : decode jdk_29_method_69_code 6 = .ok (.goto 4, 3) := by decide +kernel
theorem d11_9 : decode jdk_29_method_69_code 9 = .ok (.iload_n 1, 1) := by decide +kernel
theorem d11_10 : decode jdk_29_method_69_code 10 = .ok (.ireturn, 1) := by decide +kernel
theorem ef_11 (m : MethodId) (p0 : Int32) (p1 : Int32) : entryFrame m #[(.int p0), (.int p1)] 2 = (mkF m 0 #[.val (.int p0), .val (.int p1)] []) := by first | (simp [entryFrame, mkF, argsToLocals, Value.category, maxLocals]; done) | rfl
def F11_10 (x0 : Int32) (x1 : Int32) (y2 : Int32) : Int32 := y2
def F11_0 (x0 : Int32) (x1 : Int32) : Int32 := (if x1 < x0 then (F11_10 x0 x1 x1) else (F11_10 x0 x1 x0))
set_option maxRecDepth 65536 in
set_option maxHeartbeats 40000000 in
theorem rm11 (l : Launch) (Z : State) (a0 : Array Value) (hw : ∀ d ∈ tables_1, d.before a0 Z = true) (p0 : Int32) (p1 : Int32) (h0 : Heap) (n0 : Nat) :
    own_M l Z (⟨"java/lang/Math", "min", "(II)I"⟩ : MethodName) jdk_29_method_69_code 2 (some .int) ({ frames := 0, cells := 0, slots := 0, locals := 0 } : Room) #[(.int p0), (.int p1)] h0 (fun v h L => v = some (.int (F11_0 p0 p1)) ∧ Fr n0 L ∧ h = h0) := by
  refine own_bodyF pf_11 ?_
  intro p e s m below meth c T hx hby hml hown hZ hret hlk hnm X eT
  have N := Fr.nil n0
  obtain ⟨w, hF⟩ : ∃ w, w = F11_0 p0 p1 := ⟨_, rfl⟩
  try rw [← hF]
  generalize hQ : own_Q s (fun v h L => v = some (.int w) ∧ Fr n0 L ∧ h = h0) ({ frames := 0, cells := 0, slots := 0, locals := 0 } : Room).cells ({ frames := 0, cells := 0, slots := 0, locals := 0 } : Room).slots = Qq
  refine own_st (fun _ k => castTop (ef_11 m p0 p1) k) ?_
  have B10 : ∀ (T : State) (L : List Loc) (x0 : Int32) (x1 : Int32) (y2 : Int32), Stand p l e ({ frames := 0, cells := 0, slots := 0, locals := 0 } : Room) s m #[(.int p0), (.int p1)] below meth c T L 0 0 → T.heap = h0 → Fr n0 L → w = F11_10 x0 x1 y2 → own_E p e below Qq T (mkF m 10 #[.val (.int x0), .val (.int x1)] [(.int y2)]) := by
    intro T L x0 x1 y2 X eT N hF
    rw [← hQ]
    exact own_retI X hx hlk hret (hb hby d11_10) (by decide) (by decide) ⟨by (rw [hF]; try rfl), N, eT⟩
  show own_E p e below Qq T (mkF m 0 #[.val (.int p0), .val (.int p1)] [])
  refine own_st (fun _ => XS.iloadN X.here hx rfl (hb hby d11_0) rfl) ?_
  show own_E p e below Qq T (mkF m 1 #[.val (.int p0), .val (.int p1)] [(.int p0)])
  refine own_st (fun _ => XS.iloadN X.here hx rfl (hb hby d11_1) rfl) ?_
  show own_E p e below Qq T (mkF m 2 #[.val (.int p0), .val (.int p1)] [(.int p1), (.int p0)])
  by_cases q2 : p1 < p0
  · replace hF := hF.trans (if_pos q2)
    refine own_st (fun _ => XS.icmpYes X.here hx rfl (pc0 := 2) (pc' := 9) rfl (hb hby d11_2) rfl (XT.ii_gt_t q2) (by decide) (by decide)) ?_
    show own_E p e below Qq T (mkF m 9 #[.val (.int p0), .val (.int p1)] [])
    refine own_st (fun _ => XS.iloadN X.here hx rfl (hb hby d11_9) rfl) ?_
    show own_E p e below Qq T (mkF m 10 #[.val (.int p0), .val (.int p1)] [(.int p1)])
    exact B10 _ _ p0 p1 p1 X eT N hF
  · replace hF := hF.trans (if_neg q2)
    refine own_st (fun _ => XS.icmpNo X.here hx rfl (hb hby d11_2) rfl (XT.ii_gt_f q2)) ?_
    show own_E p e below Qq T (mkF m 5 #[.val (.int p0), .val (.int p1)] [])
    refine own_st (fun _ => XS.iloadN X.here hx rfl (hb hby d11_5) rfl) ?_
    show own_E p e below Qq T (mkF m 6 #[.val (.int p0), .val (.int p1)] [(.int p0)])
    refine own_st (fun _ => XS.goto X.here hx rfl (pc0 := 6) (pc' := 10) rfl (hb hby d11_6) (by decide) (by decide)) ?_
    show own_E p e below Qq T (mkF m 10 #[.val (.int p0), .val (.int p1)] [(.int p0)])
    exact B10 _ _ p0 p1 p0 X eT N hF
theorem pn_10 : plainName "java/util/Arrays" = true := by first | (simp [plainName, overriddenIn]; done) | decide +kernel
theorem pd_10 : parseMethodDescriptor "([II)[I" = some ⟨[(.array .int), .int], some (.array .int)⟩ := by decide +kernel
theorem d10_0 : decode jdk_65_method_123_code 0 = .ok (.iload_n 1, 1) := by decide +kernel
theorem d10_1 : decode jdk_65_method_123_code 1 = .ok (.aload_n 0, 1) := by decide +kernel
theorem d10_2 : decode jdk_65_method_123_code 2 = .ok (.arraylength, 1) := by decide +kernel
theorem d10_3 : decode jdk_65_method_123_code 3 = .ok (.if_icmp .ne 11, 3) := by decide +kernel
theorem d10_6 : decode jdk_65_method_123_code 6 = .ok (.aload_n 0, 1) := by decide +kernel
theorem d10_7 : decode jdk_65_method_123_code 7 = .ok (.invokevirtual 316, 3) := by decide +kernel
theorem d10_10 : decode jdk_65_method_123_code 10 = .ok (.checkcast 317, 3) := by decide +kernel
theorem d10_13 : decode jdk_65_method_123_code 13 = .ok (.areturn, 1) := by decide +kernel
theorem d10_14 : decode jdk_65_method_123_code 14 = .ok (.iload_n 1, 1) := by decide +kernel
theorem d10_15 : decode jdk_65_method_123_code 15 = .ok (.newarray .int, 2) := by decide +kernel
theorem d10_17 : decode jdk_65_method_123_code 17 = .ok (.astore_n 2, 1) := by decide +kernel
theorem d10_18 : decode jdk_65_method_123_code 18 = .ok (.aload_n 0, 1) := by decide +kernel
theorem d10_19 : decode jdk_65_method_123_code 19 = .ok (.iconst 0, 1) := by decide +kernel
theorem d10_20 : decode jdk_65_method_123_code 20 = .ok (.aload_n 2, 1) := by decide +kernel
theorem d10_21 : decode jdk_65_method_123_code 21 = .ok (.iconst 0, 1) := by decide +kernel
theorem d10_22 : decode jdk_65_method_123_code 22 = .ok (.aload_n 0, 1) := by decide +kernel
theorem d10_23 : decode jdk_65_method_123_code 23 = .ok (.arraylength, 1) := by decide +kernel
theorem d10_24 : decode jdk_65_method_123_code 24 = .ok (.iload_n 1, 1) := by decide +kernel
theorem d10_25 : decode jdk_65_method_123_code 25 = .ok (.invokestatic 304, 3) := by decide +kernel
theorem d10_28 : decode jdk_65_method_123_code 28 = .ok (.invokestatic 150, 3) := by decide +kernel
theorem d10_31 : decode jdk_65_method_123_code 31 = .ok (.aload_n 2, 1) := by decide +kernel
theorem d10_32 : decode jdk_65_method_123_code 32 = .ok (.areturn, 1) := by decide +kernel
theorem ef_10 (m : MethodId) (a : Addr) (p0 : Int32) : entryFrame m #[(.ref a), (.int p0)] 3 = mkF m 0 #[.val (.ref a), .val (.int p0), .unset] [] := by first | (simp [entryFrame, mkF, argsToLocals, Value.category, maxLocals]; done) | rfl
theorem own_min {x y : Int32} (h : x.toInt < y.toInt) : F11_0 x y = x := by
  have q : ¬ y < x := by rw [Int32.lt_iff_toInt_lt]; omega
  rw [F11_0, if_neg q]
  rfl
/-- the copy's cell -/
theorem own_copied {Z : State} {h : Heap} {b b' : Addr} {len n : Int32} {f : Nat → Int32} {cl cd : Cell} (ql : ¬ len < 0) (qn : ¬ n < 0) (lt : len.toInt < n.toInt) (S : cl.slots.size = len.toNatClampNeg) (V : ∀ i, i < len.toNatClampNeg → cl.slots[i]? = some (.int (f i))) (Sd : cd.slots.size = n.toNatClampNeg) (Vd : ∀ i, i < n.toNatClampNeg → cd.slots[i]? = some (.int 0))
    (hc : h[b']? = some (copied cl cd 0 0 len)) (ia : Z.isArrayOf (copied cl cd 0 0 len) .int) (iv : (copied cl cd 0 0 len).vm ≠ .unknown) : own_R Z h b' n (own_cp len f) := by
  have hz : (0 : Int32).toNatClampNeg = 0 := rfl
  have le : len.toNatClampNeg ≤ n.toNatClampNeg := by show len.toInt.toNat ≤ n.toInt.toNat; omega
  have g : ∀ i, (copied cl cd 0 0 len).slots[i]? = if 0 ≤ i ∧ i < 0 + len.toNatClampNeg then (cl.stretch 0 len.toNatClampNeg)[i - 0]? else cd.slots[i]? := fun i => by
    show (cd.storeRun (0 : Int32).toNatClampNeg (cl.stretch (0 : Int32).toNatClampNeg len.toNatClampNeg)).slots[i]? = _
    rw [hz, Cell.storeRun_get _ _ _ _ (by rw [Cell.stretch_length]; omega), Cell.stretch_length]
  refine ⟨qn, _, ⟨hc, ia, iv⟩, ?_, fun i hi => ?_⟩
  · exact (Jvm.Free.SB.copied_facts cl cd 0 0 len).2.2.trans Sd
  · rw [g i]
    by_cases z : i < len.toNatClampNeg
    · rw [if_pos ⟨Nat.zero_le _, by omega⟩]
      have e : (own_cp len f) i = f i := if_pos z
      rw [e]
      have v := V i z
      have : (cl.stretch 0 len.toNatClampNeg)[i - 0]? = some (cl.slots.getD (0 + i) .null) := by
        show ((List.range len.toNatClampNeg).map fun k => cl.slots.getD (0 + k) .null)[i]? = _
        rw [List.getElem?_map, List.getElem?_range z]; rfl
      rw [this, Nat.zero_add, Jvm.Free.SBG.getD_of v]
    · rw [if_neg (by omega), Vd i hi]
      have e : (own_cp len f) i = 0 := if_neg z
      rw [e]
set_option maxRecDepth 65536 in
set_option maxHeartbeats 40000000 in
theorem rm10 (l : Launch) (Z : State) (a0 : Array Value) (hw : ∀ d ∈ tables_1, d.before a0 Z = true) (b : Addr) (p0 len : Int32) (f : Nat → Int32) (h0 : Heap) (n0 : Nat) (Z0 : n0 ≤ h0.size) (r : own_R Z h0 b len f) (hP : len.toInt < p0.toInt ∧ p0.toInt ≤ 6144) :
    own_M l Z (⟨"java/util/Arrays", "copyOf", "([II)[I"⟩ : MethodName) jdk_65_method_123_code 3 (some (.array .int)) ({ frames := 1, cells := 1, slots := 6144, locals := 40 } : Room) #[(.ref b), (.int p0)] h0 (fun v h L => ∃ b', v = some (.ref b') ∧ Fr n0 L ∧ Ext h0 h ∧ h0.size ≤ b' ∧ own_R Z h b' p0 (own_cp len f)) := by
  refine own_body pn_10 ?_
  intro p e s m below meth c T hx hby hml hown hZ hret hlk hnm X eT
  have N := Fr.nil n0
  subst eT
  have nl : 0 ≤ len.toInt := by
    have := r.1; rw [Int32.lt_iff_toInt_lt] at this; exact Int.not_lt.mp this
  have np : ¬ p0 < 0 := own_nn (by omega)
  have ne : ¬ p0 = len := fun z => by rw [z] at hP; omega
  generalize hQ : own_Q s _ _ _ = Qq
  refine own_st (fun _ k => castTop (ef_10 m b p0) k) ?_
  show own_E p e below Qq T (mkF m 0 #[.val (.ref b), .val (.int p0), .unset] [])
  refine own_st (fun _ => XS.iloadN X.here hx rfl (hb hby d10_0) rfl) ?_
  show own_E p e below Qq T (mkF m 1 #[.val (.ref b), .val (.int p0), .unset] [(.int p0)])
  refine own_st (fun _ => XS.aloadN X.here hx rfl (hb hby d10_1) rfl rfl) ?_
  show own_E p e below Qq T (mkF m 2 #[.val (.ref b), .val (.int p0), .unset] [(.ref b), (.int p0)])
  refine own_st (fun _ hr => own_alen (g := (mkF m 2 #[.val (.ref b), .val (.int p0), .unset] [(.ref b), (.int p0)])) X hx hZ r rfl rfl (hb hby d10_2) hr) ?_
  show own_E p e below Qq T (mkF m 3 #[.val (.ref b), .val (.int p0), .unset] [(.int len), (.int p0)])
  refine own_st (fun _ => XS.icmpYes X.here hx rfl (pc0 := 3) (pc' := 14) rfl (hb hby d10_3) rfl (XT.ii_ne_t ne) (by decide) (by decide)) ?_
  show own_E p e below Qq T (mkF m 14 #[.val (.ref b), .val (.int p0), .unset] [])
  refine own_st (fun _ => XS.iloadN X.here hx rfl (hb hby d10_14) rfl) ?_
  show own_E p e below Qq T (mkF m 15 #[.val (.ref b), .val (.int p0), .unset] [(.int p0)])
  obtain ⟨T1, h1, k1, X1, e1, E1, A1, st1⟩ := newP X hx hZ (hw _ (List.mem_of_getElem? (i := 14) rfl)) rfl (g := (mkF m 15 #[.val (.ref b), .val (.int p0), .unset] [(.int p0)])) rfl (hb hby d10_15) rfl np (cap := 6144) (by show p0.toInt.toNat ≤ 6144; omega) (by decide) (by decide) (by decide)
  obtain ⟨b1, gb1⟩ : ∃ z, z = T.heap.size := ⟨_, rfl⟩
  rw [← gb1] at A1 st1
  subst e1
  have lb : b < b1 := by rw [gb1]; exact own_Rlt r
  refine own_st st1 ?_
  have r1 := own_Rext E1 r
  have rd := own_Rnew np A1
  show own_E p e below Qq T1 (mkF m 17 #[.val (.ref b), .val (.int p0), .unset] [(.ref b1)])
  refine own_st (fun _ => XS.astoreN X1.here hx rfl (hb hby d10_17) rfl rfl (l' := #[.val (.ref b), .val (.int p0), .val (.ref b1)]) rfl) ?_
  show own_E p e below Qq T1 (mkF m 18 #[.val (.ref b), .val (.int p0), .val (.ref b1)] [])
  refine own_st (fun _ => XS.aloadN X1.here hx rfl (hb hby d10_18) rfl rfl) ?_
  show own_E p e below Qq T1 (mkF m 19 #[.val (.ref b), .val (.int p0), .val (.ref b1)] [(.ref b)])
  refine own_st (fun _ => XS.iconst X1.here hx rfl (hb hby d10_19)) ?_
  show own_E p e below Qq T1 (mkF m 20 #[.val (.ref b), .val (.int p0), .val (.ref b1)] [(.int (0 : Int32)), (.ref b)])
  refine own_st (fun _ => XS.aloadN X1.here hx rfl (hb hby d10_20) rfl rfl) ?_
  show own_E p e below Qq T1 (mkF m 21 #[.val (.ref b), .val (.int p0), .val (.ref b1)] [(.ref b1), (.int (0 : Int32)), (.ref b)])
  refine own_st (fun _ => XS.iconst X1.here hx rfl (hb hby d10_21)) ?_
  show own_E p e below Qq T1 (mkF m 22 #[.val (.ref b), .val (.int p0), .val (.ref b1)] [(.int (0 : Int32)), (.ref b1), (.int (0 : Int32)), (.ref b)])
  refine own_st (fun _ => XS.aloadN X1.here hx rfl (hb hby d10_22) rfl rfl) ?_
  show own_E p e below Qq T1 (mkF m 23 #[.val (.ref b), .val (.int p0), .val (.ref b1)] [(.ref b), (.int (0 : Int32)), (.ref b1), (.int (0 : Int32)), (.ref b)])
  refine own_st (fun _ hr => own_alen (g := (mkF m 23 #[.val (.ref b), .val (.int p0), .val (.ref b1)] [(.ref b), (.int (0 : Int32)), (.ref b1), (.int (0 : Int32)), (.ref b)])) X1 hx hZ r1 rfl rfl (hb hby d10_23) hr) ?_
  show own_E p e below Qq T1 (mkF m 24 #[.val (.ref b), .val (.int p0), .val (.ref b1)] [(.int len), (.int (0 : Int32)), (.ref b1), (.int (0 : Int32)), (.ref b)])
  refine own_st (fun _ => XS.iloadN X1.here hx rfl (hb hby d10_24) rfl) ?_
  show own_E p e below Qq T1 (mkF m 25 #[.val (.ref b), .val (.int p0), .val (.ref b1)] [(.int p0), (.int len), (.int (0 : Int32)), (.ref b1), (.int (0 : Int32)), (.ref b)])
  refine own_callS X1 hx hZ hown (hw _ (List.mem_of_getElem? (i := 50) rfl)) (hw _ (List.mem_of_getElem? (i := 51) rfl)) (hw _ (List.mem_of_getElem? (i := 44) rfl)) (hw _ (List.mem_of_getElem? (i := 52) rfl)) (by decide) (W := 4) (argsL := [(.int len), (.int p0)]) (rest := [(.int (0 : Int32)), (.ref b1), (.int (0 : Int32)), (.ref b)]) (rm11 l Z a0 hw len p0 _ n0) (by decide) (by decide) (by decide) (by decide) rfl (by rw [hml]; rfl) (lenOf pd_9 rfl) rfl (by show 2 * 0 + _ ≤ _; exact Nat.le_of_eq rfl) (hb hby d10_25) ?_
  intro T2 L2 v X' hq
  obtain ⟨rfl, N', e'⟩ := hq
  replace N := Fr.app N N'
  have X2 : Stand p l e ({ frames := 1, cells := 1, slots := 6144, locals := 40 } : Room) s m #[(.ref b), (.int p0)] below meth c T2 ([] ++ L2) 1 6144 := X'
  rw [own_min hP.1]
  show own_E p e below Qq T2 (mkF m 28 #[.val (.ref b), .val (.int p0), .val (.ref b1)] [(.int len), (.int (0 : Int32)), (.ref b1), (.int (0 : Int32)), (.ref b)])
  have r2 := own_tr (P := fun h => own_R Z h b len f) e' r1
  have rd2 := own_tr (P := fun h => own_R Z h b1 p0 (fun _ => 0)) e' rd
  obtain ⟨q2, cl, A2, S2, V2⟩ := r2
  obtain ⟨q3, cd, A3, S3, V3⟩ := rd2
  obtain ⟨so, ks, hks, comp, hsk⟩ := State.isArrayOf_alike hZ.alike A2.2.1
  obtain ⟨so3, kd, hkd, comp3, hdk⟩ := State.isArrayOf_alike hZ.alike A3.2.1
  have z0 : (0 : Int32).toInt = 0 := rfl
  have zn : (0 : Int32).toNatClampNeg = 0 := rfl
  have cn : len.toNatClampNeg = len.toInt.toNat := rfl
  have cp : p0.toNatClampNeg = p0.toInt.toNat := rfl
  obtain ⟨vm3, hW3, X3, st3⟩ := X2.arraycopyK hx hown (mvT hZ (hw _ (List.mem_of_getElem? (i := 53) rfl))) (mvT hZ (hw _ (List.mem_of_getElem? (i := 56) rfl))) (mvT hZ (hw _ (List.mem_of_getElem? (i := 54) rfl))) (mvT hZ (hw _ (List.mem_of_getElem? (i := 55) rfl))) (src := b) (dst := b1) (srcPos := 0) (destPos := 0) (n := len) A2.1 A3.1 so so3 A2.2.2 A3.2.2 hks hkd hsk hdk rfl (by decide) (by decide) q2 (by rw [S2]; omega) (by rw [S3]; omega) (fun vm1 _ i hi => by
      rw [zn, Nat.zero_add, Jvm.Free.SBG.getD_of (V2 i hi)]; exact ⟨rfl, trivial⟩) (g := (mkF m 28 #[.val (.ref b), .val (.int p0), .val (.ref b1)] [(.int len), (.int (0 : Int32)), (.ref b1), (.int (0 : Int32)), (.ref b)])) rfl (by rw [hml]; rfl) (rest := []) rfl (hb hby d10_28) (by decide) (by show 2 * 0 + 0 + (nativeFrameWords "java/lang/System" "arraycopy" 5 + 11) ≤ 40; decide)
  refine own_st st3 ?_
  have cf := Jvm.Free.SB.copied_facts cl cd 0 0 len
  have hc3 : ((T2.setVm vm3).setCell b1 (copied cl cd 0 0 len)).heap[b1]? = some (copied cl cd 0 0 len) := State.heap_setCell_self (s := T2.setVm vm3) A3.1
  have r3 : own_R Z ((T2.setVm vm3).setCell b1 (copied cl cd 0 0 len)).heap b1 p0 (own_cp len f) := by
    refine own_copied (b := b) q2 np hP.1 S2 V2 S3 V3 hc3 ?_ (by rw [cf.2.1]; exact A3.2.2)
    obtain ⟨i1, i2⟩ := A3.2.1
    exact ⟨by rw [cf.2.1]; exact i1, by rw [cf.1]; exact i2⟩
  have E3 : Ext T.heap ((T2.setVm vm3).setCell b1 (copied cl cd 0 0 len)).heap := by
    have ee : Ext T.heap T2.heap := by rw [e']; exact E1
    refine ⟨?_, fun x cx hcx => ?_⟩
    · have : ((T2.setVm vm3).setCell b1 (copied cl cd 0 0 len)).heap.size = T2.heap.size := size_setCell (T2.setVm vm3) _ _
      rw [this]; exact ee.1
    · have hlt : x < T.heap.size := (Array.getElem?_eq_some_iff.mp hcx).1
      have nx : b1 ≠ x := by rw [gb1]; exact (Nat.ne_of_lt hlt).symm
      show (T2.heap.setIfInBounds b1 (copied cl cd 0 0 len))[x]? = some cx
      rw [Array.getElem?_setIfInBounds_ne nx]; exact ee.2 x cx hcx
  have N3 : Fr n0 (([] ++ L2) ++ copyLocs b1 (0 : Int32).toNatClampNeg len.toNatClampNeg) := N.app fun y hy => by
    rw [copyLocs_base hy, gb1]; exact Z0
  show own_E p e below Qq _ (mkF m 31 #[.val (.ref b), .val (.int p0), .val (.ref b1)] [])
  refine own_st (fun _ => XS.aloadN X3.here hx rfl (hb hby d10_31) rfl rfl) ?_
  show own_E p e below Qq _ (mkF m 32 #[.val (.ref b), .val (.int p0), .val (.ref b1)] [(.ref b1)])
  rw [← hQ]
  exact own_retA X3 hx hlk hret rfl rfl rfl (hb hby d10_32) (by decide) (by decide) ⟨b1, rfl, N3, E3, Nat.le_of_eq gb1.symm, r3⟩
theorem d7_0 : decode prog_81_method_3_code 0 = .ok (.aload_n 0, 1) := by decide +kernel
theorem d7_1 : decode prog_81_method_3_code 1 = .ok (.aload_n 0, 1) := by decide +kernel
theorem d7_2 : decode prog_81_method_3_code 2 = .ok (.arraylength, 1) := by decide +kernel
theorem d7_3 : decode prog_81_method_3_code 3 = .ok (.iload_n 1, 1) := by decide +kernel
theorem d7_4 : decode prog_81_method_3_code 4 = .ok (.invokestatic 9, 3) := by decide +kernel
theorem d7_7 : decode prog_81_method_3_code 7 = .ok (.invokestatic 21, 3) := by decide +kernel
theorem d7_10 : decode prog_81_method_3_code 10 = .ok (.areturn, 1) := by decide +kernel
theorem ef_7 (m : MethodId) (a : Addr) (p0 : Int32) : entryFrame m #[(.ref a), (.int p0)] 2 = mkF m 0 #[.val (.ref a), .val (.int p0)] [] := by first | (simp [entryFrame, mkF, argsToLocals, Value.category, maxLocals]; done) | rfl
theorem own_lh (len q : Int32) (h0 : 0 ≤ len.toInt) (h1 : len.toInt ≤ q.toInt) (h2 : q.toInt ≤ 4095) : len.toInt < (F8_0 len q).toInt ∧ (F8_0 len q).toInt ≤ 6144 ∧ q.toInt < (F8_0 len q).toInt := by
  obtain ⟨S, hS⟩ : ∃ S : Int32, S = len >>> ((1 : Int32) &&& 31) := ⟨_, rfl⟩
  obtain ⟨K, hK⟩ : ∃ K : Int32, K = 2147483639 := ⟨_, rfl⟩
  have e1 : S.toInt = len.toInt / (2 ^ 1 : Nat) := by rw [hS]; exact c_ishr len 1 1 (by decide)
  have d1 : (1 : Int32).toInt = 1 := rfl
  have dm : K.toInt = 2147483639 := by rw [hK]; decide
  have n : ¬ (K - S) < len := by
    have a3 := c_isub K S
    have r3 := rng32 (K - S)
    rw [Int32.lt_iff_toInt_lt]; omega
  have mx : ∀ x y : Int32, F9_0 x y = if x < y then y else x := fun x y => by unfold F9_0; split <;> rfl
  have v : F8_0 len q = if (q + 1) < (len + S) then (len + S) else (q + 1) := by
    rw [← mx]
    unfold F8_0
    rw [hK, hS] at n
    rw [if_neg n, hS]
    rfl
  have a1 : (q + 1).toInt = q.toInt + 1 := by
    have a1 := c_iadd q 1
    have r1 := rng32 (q + 1)
    omega
  have s1 : 0 ≤ S.toInt ∧ S.toInt ≤ 2047 ∧ 2 * S.toInt ≤ len.toInt := by omega
  have a2 : (len + S).toInt = len.toInt + S.toInt := by
    have a2 := c_iadd len S
    have r2 := rng32 (len + S)
    omega
  rw [v]
  clear v n hS hK mx
  split
  · rename_i z; rw [Int32.lt_iff_toInt_lt] at z; omega
  · rename_i z; rw [Int32.lt_iff_toInt_lt] at z; omega
set_option maxRecDepth 65536 in
set_option maxHeartbeats 40000000 in
theorem rm7 (l : Launch) (Z : State) (a0 : Array Value) (hw : ∀ d ∈ tables_1, d.before a0 Z = true) (b : Addr) (p0 len : Int32) (f : Nat → Int32) (h0 : Heap) (n0 : Nat) (Z0 : n0 ≤ h0.size) (r : own_R Z h0 b len f) (hP : len.toInt ≤ p0.toInt ∧ p0.toInt ≤ 4095) :
    own_M l Z (⟨"com/example/refstone/refstone/service/NumberedArrays", "grown", "([II)[I"⟩ : MethodName) prog_81_method_3_code 2 (some (.array .int)) ({ frames := 2, cells := 1, slots := 6144, locals := 60 } : Room) #[(.ref b), (.int p0)] h0 (fun v h L => ∃ b', v = some (.ref b') ∧ Fr n0 L ∧ Ext h0 h ∧ h0.size ≤ b' ∧ own_R Z h b' (F8_0 len p0) (own_cp len f)) := by
  refine own_body pn_8 ?_
  intro p e s m below meth c T hx hby hml hown hZ hret hlk hnm X eT
  have N := Fr.nil n0
  subst eT
  have nl : 0 ≤ len.toInt := by
    have := r.1; rw [Int32.lt_iff_toInt_lt] at this; exact Int.not_lt.mp this
  have lh := own_lh len p0 nl hP.1 hP.2
  generalize hQ : own_Q s _ _ _ = Qq
  refine own_st (fun _ k => castTop (ef_7 m b p0) k) ?_
  show own_E p e below Qq T (mkF m 0 #[.val (.ref b), .val (.int p0)] [])
  refine own_st (fun _ => XS.aloadN X.here hx rfl (hb hby d7_0) rfl rfl) ?_
  show own_E p e below Qq T (mkF m 1 #[.val (.ref b), .val (.int p0)] [(.ref b)])
  refine own_st (fun _ => XS.aloadN X.here hx rfl (hb hby d7_1) rfl rfl) ?_
  show own_E p e below Qq T (mkF m 2 #[.val (.ref b), .val (.int p0)] [(.ref b), (.ref b)])
  refine own_st (fun _ hr => own_alen (g := (mkF m 2 #[.val (.ref b), .val (.int p0)] [(.ref b), (.ref b)])) X hx hZ r rfl rfl (hb hby d7_2) hr) ?_
  show own_E p e below Qq T (mkF m 3 #[.val (.ref b), .val (.int p0)] [(.int len), (.ref b)])
  refine own_st (fun _ => XS.iloadN X.here hx rfl (hb hby d7_3) rfl) ?_
  show own_E p e below Qq T (mkF m 4 #[.val (.ref b), .val (.int p0)] [(.int p0), (.int len), (.ref b)])
  refine own_callS X hx hZ hown (hw _ (List.mem_of_getElem? (i := 38) rfl)) (hw _ (List.mem_of_getElem? (i := 39) rfl)) (hw _ (List.mem_of_getElem? (i := 36) rfl)) (hw _ (List.mem_of_getElem? (i := 40) rfl)) (by decide) (W := 1) (argsL := [(.int len), (.int p0)]) (rest := [(.ref b)]) (rm8 l Z a0 hw len p0 _ n0) (by decide) (by decide) (by decide) (by decide) rfl (by rw [hml]; rfl) (lenOf pd_9 rfl) rfl (by show 2 * 0 + _ ≤ _; exact Nat.le_of_eq rfl) (hb hby d7_4) ?_
  intro T1 L1 v X' hq
  obtain ⟨rfl, N', e'⟩ := hq
  replace N := Fr.app N N'
  have X1 : Stand p l e ({ frames := 2, cells := 1, slots := 6144, locals := 60 } : Room) s m #[(.ref b), (.int p0)] below meth c T1 ([] ++ L1) 0 0 := X'
  have r1 := own_tr (P := fun h => own_R Z h b len f) e' r
  have Z1 : n0 ≤ T1.heap.size := by rw [e']; exact Z0
  show own_E p e below Qq T1 (mkF m 7 #[.val (.ref b), .val (.int p0)] [(.int (F8_0 len p0)), (.ref b)])
  refine own_callS X1 hx hZ hown (hw _ (List.mem_of_getElem? (i := 46) rfl)) (hw _ (List.mem_of_getElem? (i := 47) rfl)) (hw _ (List.mem_of_getElem? (i := 48) rfl)) (hw _ (List.mem_of_getElem? (i := 49) rfl)) (by decide) (W := 0) (argsL := [(.ref b), (.int (F8_0 len p0))]) (rest := []) (rm10 l Z a0 hw b (F8_0 len p0) len f _ n0 Z1 r1 ⟨lh.1, lh.2.1⟩) (by decide) (by decide) (by decide) (by decide) rfl (by rw [hml]; rfl) (lenOf pd_10 rfl) rfl (by show 2 * 0 + _ ≤ _; exact Nat.le_of_eq rfl) (hb hby d7_7) ?_
  intro T2 L2 v X2 hq
  obtain ⟨b', rfl, N2, E2, hb2, r2⟩ := hq
  replace N := Fr.app N N2
  rw [e'] at E2 hb2
  show own_E p e below Qq T2 (mkF m 10 #[.val (.ref b), .val (.int p0)] [(.ref b')])
  rw [← hQ]
  exact own_retA X2 hx hlk hret rfl rfl rfl (hb hby d7_10) (by decide) (by decide) ⟨b', rfl, N, E2, hb2, r2⟩
theorem own_G2 {x len : Int32} (h : 0 ≤ x.toInt ∧ x.toInt ≤ 4095) (q : ¬ x < len) (nl : ¬ len < 0) : ¬ x < 0 ∧ x < F8_0 len x := by
  rw [Int32.lt_iff_toInt_lt] at q nl
  have z : (0 : Int32).toInt = 0 := rfl
  have := own_lh len x (by omega) (by omega) h.2
  exact ⟨own_nn h.1, by rw [Int32.lt_iff_toInt_lt]; exact this.2.2⟩
theorem pd_4 : parseMethodDescriptor "(II)Z" = some ⟨[.int, .int], some .boolean⟩ := by decide +kernel
theorem d4_0 : decode prog_73_method_3_code 0 = .ok (.iload_n 2, 1) := by decide +kernel
theorem d4_1 : decode prog_73_method_3_code 1 = .ok (.aload_n 0, 1) := by decide +kernel
theorem d4_2 : decode prog_73_method_3_code 2 = .ok (.getfield 21, 3) := by decide +kernel
theorem d4_5 : decode prog_73_method_3_code 5 = .ok (.if_icmp .le 5, 3) := by decide +kernel
theorem d4_8 : decode prog_73_method_3_code 8 = .ok (.iconst 0, 1) := by decide +kernel
theorem d4_9 : decode prog_73_method_3_code 9 = .ok (.ireturn, 1) := by decide +kernel
theorem d4_10 : decode prog_73_method_3_code 10 = .ok (.iload_n 1, 1) := by decide +kernel
theorem d4_11 : decode prog_73_method_3_code 11 = .ok (.aload_n 0, 1) := by decide +kernel
theorem d4_12 : decode prog_73_method_3_code 12 = .ok (.getfield 17, 3) := by decide +kernel
theorem d4_15 : decode prog_73_method_3_code 15 = .ok (.arraylength, 1) := by decide +kernel
theorem d4_16 : decode prog_73_method_3_code 16 = .ok (.if_icmp .lt 15, 3) := by decide +kernel
theorem d4_19 : decode prog_73_method_3_code 19 = .ok (.aload_n 0, 1) := by decide +kernel
theorem d4_20 : decode prog_73_method_3_code 20 = .ok (.aload_n 0, 1) := by decide +kernel
theorem d4_21 : decode prog_73_method_3_code 21 = .ok (.getfield 17, 3) := by decide +kernel
theorem d4_24 : decode prog_73_method_3_code 24 = .ok (.iload_n 1, 1) := by decide +kernel
theorem d4_25 : decode prog_73_method_3_code 25 = .ok (.invokestatic 25, 3) := by decide +kernel
theorem d4_28 : decode prog_73_method_3_code 28 = .ok (.putfield 17, 3) := by decide +kernel
theorem d4_31 : decode prog_73_method_3_code 31 = .ok (.iload_n 2, 1) := by decide +kernel
theorem d4_32 : decode prog_73_method_3_code 32 = .ok (.aload_n 0, 1) := by decide +kernel
theorem d4_33 : decode prog_73_method_3_code 33 = .ok (.getfield 17, 3) := by decide +kernel
theorem d4_36 : decode prog_73_method_3_code 36 = .ok (.iload_n 1, 1) := by decide +kernel
theorem d4_37 : decode prog_73_method_3_code 37 = .ok (.iaload, 1) := by decide +kernel
theorem d4_38 : decode prog_73_method_3_code 38 = .ok (.if_icmp .le 31, 3) := by decide +kernel
theorem d4_41 : decode prog_73_method_3_code 41 = .ok (.aload_n 0, 1) := by decide +kernel
theorem d4_42 : decode prog_73_method_3_code 42 = .ok (.getfield 17, 3) := by decide +kernel
theorem d4_45 : decode prog_73_method_3_code 45 = .ok (.iload_n 1, 1) := by decide +kernel
theorem d4_46 : decode prog_73_method_3_code 46 = .ok (.iaload, 1) := by decide +kernel
theorem d4_47 : decode prog_73_method_3_code 47 = .ok (.ifCond .ne 13, 3) := by decide +kernel
theorem d4_50 : decode prog_73_method_3_code 50 = .ok (.aload_n 0, 1) := by decide +kernel
theorem d4_51 : decode prog_73_method_3_code 51 = .ok (.dup, 1) := by decide +kernel
theorem d4_52 : decode prog_73_method_3_code 52 = .ok (.getfield 29, 3) := by decide +kernel
theorem d4_55 : decode prog_73_method_3_code 55 = .ok (.iconst 1, 1) := by decide +kernel
theorem d4_56 : decode prog_73_method_3_code 56 = .ok (.iadd, 1) := by decide +kernel
theorem d4_57 : decode prog_73_method_3_code 57 = .ok (.putfield 29, 3) := by decide +kernel
theorem d4_60 : decode prog_73_method_3_code 60 = .ok (.aload_n 0, 1) := by decide +kernel
theorem d4_61 : decode prog_73_method_3_code 61 = .ok (.getfield 17, 3) := by decide +kernel
theorem d4_64 : decode prog_73_method_3_code 64 = .ok (.iload_n 1, 1) := by decide +kernel
theorem d4_65 : decode prog_73_method_3_code 65 = .ok (.iload_n 2, 1) := by decide +kernel
theorem d4_66 : decode prog_73_method_3_code 66 = .ok (.iastore, 1) := by decide +kernel
theorem d4_67 : decode prog_73_method_3_code 67 = .ok (.iconst 1, 1) := by decide +kernel
theorem d4_68 : decode prog_73_method_3_code 68 = .ok (.ireturn, 1) := by decide +kernel
theorem d4_69 : decode prog_73_method_3_code 69 = .ok (.iconst 0, 1) := by decide +kernel
theorem d4_70 : decode prog_73_method_3_code 70 = .ok (.ireturn, 1) := by decide +kernel
theorem ef_4 (m : MethodId) (a : Addr) (p0 : Int32) (p1 : Int32) : entryFrame m #[(.ref a), (.int p0), (.int p1)] 3 = (mkF m 0 #[.val (.ref a), .val (.int p0), .val (.int p1)] []) := by first | (simp [entryFrame, mkF, argsToLocals, Value.category, maxLocals]; done) | rfl
def F4_60 (x0 : Int32) (x1 : Int32) (g_lastTime : Int32) (g_members : Int32) (g_len : Int32) (g_f : (Nat → Int32)) : Int32 × Int32 × Int32 × (Nat → Int32) := ((1 : Int32), g_members, g_len, (own_upd g_f (x0).toNatClampNeg x1))
def F4_31 (x0 : Int32) (x1 : Int32) (g_lastTime : Int32) (g_members : Int32) (g_len : Int32) (g_f : (Nat → Int32)) : Int32 × Int32 × Int32 × (Nat → Int32) := (if (g_f (x0).toNatClampNeg) < x1 then (if (g_f (x0).toNatClampNeg) = (0 : Int32) then (F4_60 x0 x1 g_lastTime (g_members + (1 : Int32)) g_len g_f) else (F4_60 x0 x1 g_lastTime g_members g_len g_f)) else ((0 : Int32), g_members, g_len, g_f))
def F4_0 (x0 : Int32) (x1 : Int32) (g_lastTime : Int32) (g_members : Int32) (g_len : Int32) (g_f : (Nat → Int32)) : Int32 × Int32 × Int32 × (Nat → Int32) := (if g_lastTime < x1 then ((0 : Int32), g_members, g_len, g_f) else (if x0 < g_len then (F4_31 x0 x1 g_lastTime g_members g_len g_f) else (F4_31 x0 x1 g_lastTime g_members (F8_0 g_len x0) (own_cp g_len g_f))))
set_option maxRecDepth 65536 in
set_option maxHeartbeats 40000000 in
theorem rm4 (l : Launch) (Z : State) (a0 : Array Value) (hw : ∀ d ∈ tables_1, d.before a0 Z = true) (a : Addr) (p0 : Int32) (p1 : Int32) (g_lastTime : Int32) (g_members : Int32) (g_len : Int32) (g_f : (Nat → Int32)) (h0 : Heap) (n0 : Nat) (I : own_I Z n0 h0 a g_lastTime g_members g_len g_f) (hP : (0 ≤ p0.toInt ∧ p0.toInt ≤ 4095)) :
    own_M l Z (⟨"com/example/refstone/refstone/service/LatestRows", "offer", "(II)Z"⟩ : MethodName) prog_73_method_3_code 3 (some .boolean) ({ frames := 3, cells := 1, slots := 6144, locals := 81 } : Room) #[(.ref a), (.int p0), (.int p1)] h0 (fun v h L => v = some (.int (F4_0 p0 p1 g_lastTime g_members g_len g_f).1) ∧ Fr n0 L ∧ own_I Z n0 h a g_lastTime (F4_0 p0 p1 g_lastTime g_members g_len g_f).2.1 (F4_0 p0 p1 g_lastTime g_members g_len g_f).2.2.1 (F4_0 p0 p1 g_lastTime g_members g_len g_f).2.2.2) := by
  refine own_body pn_2 ?_
  intro p e s m below meth c T hx hby hml hown hZ hret hlk hnm X eT
  have N := Fr.nil n0
  replace I : own_I Z n0 T.heap a g_lastTime g_members g_len g_f := by rw [eT]; exact I
  obtain ⟨w, hF⟩ : ∃ w, w = F4_0 p0 p1 g_lastTime g_members g_len g_f := ⟨_, rfl⟩
  try rw [← hF]
  generalize hQ : own_Q s (fun v h L => v = some (.int w.1) ∧ Fr n0 L ∧ own_I Z n0 h a g_lastTime w.2.1 w.2.2.1 w.2.2.2) ({ frames := 3, cells := 1, slots := 6144, locals := 81 } : Room).cells ({ frames := 3, cells := 1, slots := 6144, locals := 81 } : Room).slots = Qq
  refine own_st (fun _ k => castTop (ef_4 m a p0 p1) k) ?_
  clear eT
  have B60 : ∀ (T : State) (L : List Loc) (x0 : Int32) (x1 : Int32) (g_members : Int32) (g_len : Int32) (g_f : (Nat → Int32)), Stand p l e ({ frames := 3, cells := 1, slots := 6144, locals := 81 } : Room) s m #[(.ref a), (.int p0), (.int p1)] below meth c T L 1 6144 → own_I Z n0 T.heap a g_lastTime g_members g_len g_f → Fr n0 L → w = F4_60 x0 x1 g_lastTime g_members g_len g_f → (¬ x0 < 0 ∧ x0 < g_len) → own_E p e below Qq T (mkF m 60 #[.val (.ref a), .val (.int x0), .val (.int x1)] []) := by
    intro T L x0 x1 g_members g_len g_f X I N hF hP
    obtain ⟨b1, J⟩ := I
    refine own_st (fun _ => XS.aloadN X.here hx rfl (hb hby d4_60) rfl rfl) ?_
    show own_E p e below Qq T (mkF m 61 #[.val (.ref a), .val (.int x0), .val (.int x1)] [(.ref a)])
    obtain ⟨T2, X2, e2, st2⟩ := getF X hx hZ hown (host := "") (Or.inl (hw _ (List.mem_of_getElem? (i := 15) rfl))) Via.refl rfl (own_Jt J) (g := (mkF m 61 #[.val (.ref a), .val (.int x0), .val (.int x1)] [(.ref a)])) rfl rfl (hb hby d4_61)
    refine own_st st2 ?_
    replace J := own_tr (P := fun h => own_J Z n0 h a b1 g_lastTime g_members g_len g_f) e2 J
    replace X := X2
    clear st2 e2 X2
    show own_E p e below Qq T2 (mkF m 64 #[.val (.ref a), .val (.int x0), .val (.int x1)] [(.ref b1)])
    refine own_st (fun _ => XS.iloadN X.here hx rfl (hb hby d4_64) rfl) ?_
    show own_E p e below Qq T2 (mkF m 65 #[.val (.ref a), .val (.int x0), .val (.int x1)] [(.int x0), (.ref b1)])
    refine own_st (fun _ => XS.iloadN X.here hx rfl (hb hby d4_65) rfl) ?_
    show own_E p e below Qq T2 (mkF m 66 #[.val (.ref a), .val (.int x0), .val (.int x1)] [(.int x1), (.int x0), (.ref b1)])
    obtain ⟨T3, X3, J3, st3⟩ := own_iastore X hx hZ J (j := x0) hP (g := (mkF m 66 #[.val (.ref a), .val (.int x0), .val (.int x1)] [(.int x1), (.int x0), (.ref b1)])) rfl rfl (hb hby d4_66)
    refine own_st st3 ?_
    replace N := Fr.snoc X3 N (own_Jnb J)
    replace X := X3
    replace J := J3
    clear st3 X3 J3
    show own_E p e below Qq T3 (mkF m 67 #[.val (.ref a), .val (.int x0), .val (.int x1)] [])
    refine own_st (fun _ => XS.iconst X.here hx rfl (hb hby d4_67)) ?_
    show own_E p e below Qq T3 (mkF m 68 #[.val (.ref a), .val (.int x0), .val (.int x1)] [(.int (1 : Int32))])
    rw [← hQ]
    exact own_retN X hx hlk (t := .boolean) hret (by simp) (hb hby d4_68) (by decide) (by decide) ⟨by (rw [hF]; try rfl), N, (by first | (rw [hF]; exact ⟨_, J⟩) | exact ⟨_, J⟩)⟩
  have B31 : ∀ (T : State) (L : List Loc) (x0 : Int32) (x1 : Int32) (g_members : Int32) (g_len : Int32) (g_f : (Nat → Int32)), Stand p l e ({ frames := 3, cells := 1, slots := 6144, locals := 81 } : Room) s m #[(.ref a), (.int p0), (.int p1)] below meth c T L 1 6144 → own_I Z n0 T.heap a g_lastTime g_members g_len g_f → Fr n0 L → w = F4_31 x0 x1 g_lastTime g_members g_len g_f → (¬ x0 < 0 ∧ x0 < g_len) → own_E p e below Qq T (mkF m 31 #[.val (.ref a), .val (.int x0), .val (.int x1)] []) := by
    intro T L x0 x1 g_members g_len g_f X I N hF hP
    obtain ⟨b4, J⟩ := I
    refine own_st (fun _ => XS.iloadN X.here hx rfl (hb hby d4_31) rfl) ?_
    show own_E p e below Qq T (mkF m 32 #[.val (.ref a), .val (.int x0), .val (.int x1)] [(.int x1)])
    refine own_st (fun _ => XS.aloadN X.here hx rfl (hb hby d4_32) rfl rfl) ?_
    show own_E p e below Qq T (mkF m 33 #[.val (.ref a), .val (.int x0), .val (.int x1)] [(.ref a), (.int x1)])
    obtain ⟨T5, X5, e5, st5⟩ := getF X hx hZ hown (host := "") (Or.inl (hw _ (List.mem_of_getElem? (i := 15) rfl))) Via.refl rfl (own_Jt J) (g := (mkF m 33 #[.val (.ref a), .val (.int x0), .val (.int x1)] [(.ref a), (.int x1)])) rfl rfl (hb hby d4_33)
    refine own_st st5 ?_
    replace J := own_tr (P := fun h => own_J Z n0 h a b4 g_lastTime g_members g_len g_f) e5 J
    replace X := X5
    clear st5 e5 X5
    show own_E p e below Qq T5 (mkF m 36 #[.val (.ref a), .val (.int x0), .val (.int x1)] [(.ref b4), (.int x1)])
    refine own_st (fun _ => XS.iloadN X.here hx rfl (hb hby d4_36) rfl) ?_
    show own_E p e below Qq T5 (mkF m 37 #[.val (.ref a), .val (.int x0), .val (.int x1)] [(.int x0), (.ref b4), (.int x1)])
    refine own_st (fun _ hr => own_iaload (g := (mkF m 37 #[.val (.ref a), .val (.int x0), .val (.int x1)] [(.int x0), (.ref b4), (.int x1)])) X hx hZ (own_Jr J) (j := x0) hP rfl rfl (hb hby d4_37) hr) ?_
    show own_E p e below Qq T5 (mkF m 38 #[.val (.ref a), .val (.int x0), .val (.int x1)] [(.int (g_f (x0).toNatClampNeg)), (.int x1)])
    by_cases q38 : (g_f (x0).toNatClampNeg) < x1
    · replace hF := hF.trans (if_pos q38)
      refine own_st (fun _ => XS.icmpNo X.here hx rfl (hb hby d4_38) rfl (XT.ii_le_f q38)) ?_
      show own_E p e below Qq T5 (mkF m 41 #[.val (.ref a), .val (.int x0), .val (.int x1)] [])
      refine own_st (fun _ => XS.aloadN X.here hx rfl (hb hby d4_41) rfl rfl) ?_
      show own_E p e below Qq T5 (mkF m 42 #[.val (.ref a), .val (.int x0), .val (.int x1)] [(.ref a)])
      obtain ⟨T6, X6, e6, st6⟩ := getF X hx hZ hown (host := "") (Or.inl (hw _ (List.mem_of_getElem? (i := 15) rfl))) Via.refl rfl (own_Jt J) (g := (mkF m 42 #[.val (.ref a), .val (.int x0), .val (.int x1)] [(.ref a)])) rfl rfl (hb hby d4_42)
      refine own_st st6 ?_
      replace J := own_tr (P := fun h => own_J Z n0 h a b4 g_lastTime g_members g_len g_f) e6 J
      replace X := X6
      clear st6 e6 X6
      show own_E p e below Qq T6 (mkF m 45 #[.val (.ref a), .val (.int x0), .val (.int x1)] [(.ref b4)])
      refine own_st (fun _ => XS.iloadN X.here hx rfl (hb hby d4_45) rfl) ?_
      show own_E p e below Qq T6 (mkF m 46 #[.val (.ref a), .val (.int x0), .val (.int x1)] [(.int x0), (.ref b4)])
      refine own_st (fun _ hr => own_iaload (g := (mkF m 46 #[.val (.ref a), .val (.int x0), .val (.int x1)] [(.int x0), (.ref b4)])) X hx hZ (own_Jr J) (j := x0) hP rfl rfl (hb hby d4_46) hr) ?_
      show own_E p e below Qq T6 (mkF m 47 #[.val (.ref a), .val (.int x0), .val (.int x1)] [(.int (g_f (x0).toNatClampNeg))])
      by_cases q47 : (g_f (x0).toNatClampNeg) = (0 : Int32)
      · replace hF := hF.trans (if_pos q47)
        refine own_st (fun _ => XS.ifNo X.here hx rfl (hb hby d4_47) rfl (XT.i0_ne_f q47)) ?_
        show own_E p e below Qq T6 (mkF m 50 #[.val (.ref a), .val (.int x0), .val (.int x1)] [])
        refine own_st (fun _ => XS.aloadN X.here hx rfl (hb hby d4_50) rfl rfl) ?_
        show own_E p e below Qq T6 (mkF m 51 #[.val (.ref a), .val (.int x0), .val (.int x1)] [(.ref a)])
        refine own_st (fun _ => XS.dup X.here hx rfl (hb hby d4_51) rfl rfl) ?_
        show own_E p e below Qq T6 (mkF m 52 #[.val (.ref a), .val (.int x0), .val (.int x1)] [(.ref a), (.ref a)])
        obtain ⟨T7, X7, e7, st7⟩ := getF X hx hZ hown (host := "") (Or.inl (hw _ (List.mem_of_getElem? (i := 32) rfl))) Via.refl rfl (own_Jg_members J) (g := (mkF m 52 #[.val (.ref a), .val (.int x0), .val (.int x1)] [(.ref a), (.ref a)])) rfl rfl (hb hby d4_52)
        refine own_st st7 ?_
        replace J := own_tr (P := fun h => own_J Z n0 h a b4 g_lastTime g_members g_len g_f) e7 J
        replace X := X7
        clear st7 e7 X7
        show own_E p e below Qq T7 (mkF m 55 #[.val (.ref a), .val (.int x0), .val (.int x1)] [(.int g_members), (.ref a)])
        refine own_st (fun _ => XS.iconst X.here hx rfl (hb hby d4_55)) ?_
        show own_E p e below Qq T7 (mkF m 56 #[.val (.ref a), .val (.int x0), .val (.int x1)] [(.int (1 : Int32)), (.int g_members), (.ref a)])
        refine own_st (fun _ => XS.iadd X.here hx rfl (hb hby d4_56) rfl) ?_
        show own_E p e below Qq T7 (mkF m 57 #[.val (.ref a), .val (.int x0), .val (.int x1)] [(.int (g_members + (1 : Int32))), (.ref a)])
        obtain ⟨T8, h8, X8, e8, W8, st8⟩ := putF X hx hZ hown (host := "") (Or.inl (hw _ (List.mem_of_getElem? (i := 32) rfl))) Via.refl rfl (own_Jg_members J) (own_Jex J) (Or.inl (hw _ (List.mem_of_getElem? (i := 33) rfl))) (hw _ (List.mem_of_getElem? (i := 6) rfl)) (ty := .int) (by decide) rfl rfl (g := (mkF m 57 #[.val (.ref a), .val (.int x0), .val (.int x1)] [(.int (g_members + (1 : Int32))), (.ref a)])) rfl rfl (hb hby d4_57)
        subst e8
        refine own_st st8 ?_
        replace N := Fr.snoc X8 N (own_Jna J)
        replace J := own_Js_members hw W8 J
        replace X := X8
        clear st8 X8
        show own_E p e below Qq T8 (mkF m 60 #[.val (.ref a), .val (.int x0), .val (.int x1)] [])
        exact B60 _ _ x0 x1 (g_members + (1 : Int32)) g_len g_f X ⟨_, J⟩ N hF (by first | exact hP | decide)
      · replace hF := hF.trans (if_neg q47)
        refine own_st (fun _ => XS.ifYes X.here hx rfl (pc0 := 47) (pc' := 60) rfl (hb hby d4_47) rfl (XT.i0_ne_t q47) (by decide) (by decide)) ?_
        show own_E p e below Qq T6 (mkF m 60 #[.val (.ref a), .val (.int x0), .val (.int x1)] [])
        exact B60 _ _ x0 x1 g_members g_len g_f X ⟨_, J⟩ N hF (by first | exact hP | decide)
    · replace hF := hF.trans (if_neg q38)
      refine own_st (fun _ => XS.icmpYes X.here hx rfl (pc0 := 38) (pc' := 69) rfl (hb hby d4_38) rfl (XT.ii_le_t q38) (by decide) (by decide)) ?_
      show own_E p e below Qq T5 (mkF m 69 #[.val (.ref a), .val (.int x0), .val (.int x1)] [])
      refine own_st (fun _ => XS.iconst X.here hx rfl (hb hby d4_69)) ?_
      show own_E p e below Qq T5 (mkF m 70 #[.val (.ref a), .val (.int x0), .val (.int x1)] [(.int (0 : Int32))])
      rw [← hQ]
      exact own_retN X hx hlk (t := .boolean) hret (by simp) (hb hby d4_70) (by decide) (by decide) ⟨by (rw [hF]; try rfl), N, (by first | (rw [hF]; exact ⟨_, J⟩) | exact ⟨_, J⟩)⟩
  show own_E p e below Qq T (mkF m 0 #[.val (.ref a), .val (.int p0), .val (.int p1)] [])
  obtain ⟨b9, J⟩ := I
  refine own_st (fun _ => XS.iloadN X.here hx rfl (hb hby d4_0) rfl) ?_
  show own_E p e below Qq T (mkF m 1 #[.val (.ref a), .val (.int p0), .val (.int p1)] [(.int p1)])
  refine own_st (fun _ => XS.aloadN X.here hx rfl (hb hby d4_1) rfl rfl) ?_
  show own_E p e below Qq T (mkF m 2 #[.val (.ref a), .val (.int p0), .val (.int p1)] [(.ref a), (.int p1)])
  obtain ⟨T10, X10, e10, st10⟩ := getF X hx hZ hown (host := "") (Or.inl (hw _ (List.mem_of_getElem? (i := 17) rfl))) Via.refl rfl (own_Jg_lastTime J) (g := (mkF m 2 #[.val (.ref a), .val (.int p0), .val (.int p1)] [(.ref a), (.int p1)])) rfl rfl (hb hby d4_2)
  refine own_st st10 ?_
  replace J := own_tr (P := fun h => own_J Z n0 h a b9 g_lastTime g_members g_len g_f) e10 J
  replace X := X10
  clear st10 e10 X10
  show own_E p e below Qq T10 (mkF m 5 #[.val (.ref a), .val (.int p0), .val (.int p1)] [(.int g_lastTime), (.int p1)])
  by_cases q5 : g_lastTime < p1
  · replace hF := hF.trans (if_pos q5)
    refine own_st (fun _ => XS.icmpNo X.here hx rfl (hb hby d4_5) rfl (XT.ii_le_f q5)) ?_
    show own_E p e below Qq T10 (mkF m 8 #[.val (.ref a), .val (.int p0), .val (.int p1)] [])
    refine own_st (fun _ => XS.iconst X.here hx rfl (hb hby d4_8)) ?_
    show own_E p e below Qq T10 (mkF m 9 #[.val (.ref a), .val (.int p0), .val (.int p1)] [(.int (0 : Int32))])
    rw [← hQ]
    exact own_retN X hx hlk (t := .boolean) hret (by simp) (hb hby d4_9) (by decide) (by decide) ⟨by (rw [hF]; try rfl), N, (by first | (rw [hF]; exact ⟨_, J⟩) | exact ⟨_, J⟩)⟩
  · replace hF := hF.trans (if_neg q5)
    refine own_st (fun _ => XS.icmpYes X.here hx rfl (pc0 := 5) (pc' := 10) rfl (hb hby d4_5) rfl (XT.ii_le_t q5) (by decide) (by decide)) ?_
    show own_E p e below Qq T10 (mkF m 10 #[.val (.ref a), .val (.int p0), .val (.int p1)] [])
    refine own_st (fun _ => XS.iloadN X.here hx rfl (hb hby d4_10) rfl) ?_
    show own_E p e below Qq T10 (mkF m 11 #[.val (.ref a), .val (.int p0), .val (.int p1)] [(.int p0)])
    refine own_st (fun _ => XS.aloadN X.here hx rfl (hb hby d4_11) rfl rfl) ?_
    show own_E p e below Qq T10 (mkF m 12 #[.val (.ref a), .val (.int p0), .val (.int p1)] [(.ref a), (.int p0)])
    obtain ⟨T11, X11, e11, st11⟩ := getF X hx hZ hown (host := "") (Or.inl (hw _ (List.mem_of_getElem? (i := 15) rfl))) Via.refl rfl (own_Jt J) (g := (mkF m 12 #[.val (.ref a), .val (.int p0), .val (.int p1)] [(.ref a), (.int p0)])) rfl rfl (hb hby d4_12)
    refine own_st st11 ?_
    replace J := own_tr (P := fun h => own_J Z n0 h a b9 g_lastTime g_members g_len g_f) e11 J
    replace X := X11
    clear st11 e11 X11
    show own_E p e below Qq T11 (mkF m 15 #[.val (.ref a), .val (.int p0), .val (.int p1)] [(.ref b9), (.int p0)])
    refine own_st (fun _ hr => own_alen (g := (mkF m 15 #[.val (.ref a), .val (.int p0), .val (.int p1)] [(.ref b9), (.int p0)])) X hx hZ (own_Jr J) rfl rfl (hb hby d4_15) hr) ?_
    show own_E p e below Qq T11 (mkF m 16 #[.val (.ref a), .val (.int p0), .val (.int p1)] [(.int g_len), (.int p0)])
    by_cases q16 : p0 < g_len
    · replace hF := hF.trans (if_pos q16)
      refine own_st (fun _ => XS.icmpYes X.here hx rfl (pc0 := 16) (pc' := 31) rfl (hb hby d4_16) rfl (XT.ii_lt_t q16) (by decide) (by decide)) ?_
      show own_E p e below Qq T11 (mkF m 31 #[.val (.ref a), .val (.int p0), .val (.int p1)] [])
      exact B31 _ _ p0 p1 g_members g_len g_f (X.more (by decide) (by decide)) ⟨_, J⟩ N hF (by first | exact ⟨own_nn hP.1, q16⟩ | exact own_G2 hP q16 nl)
    · replace hF := hF.trans (if_neg q16)
      refine own_st (fun _ => XS.icmpNo X.here hx rfl (hb hby d4_16) rfl (XT.ii_lt_f q16)) ?_
      show own_E p e below Qq T11 (mkF m 19 #[.val (.ref a), .val (.int p0), .val (.int p1)] [])
      refine own_st (fun _ => XS.aloadN X.here hx rfl (hb hby d4_19) rfl rfl) ?_
      show own_E p e below Qq T11 (mkF m 20 #[.val (.ref a), .val (.int p0), .val (.int p1)] [(.ref a)])
      refine own_st (fun _ => XS.aloadN X.here hx rfl (hb hby d4_20) rfl rfl) ?_
      show own_E p e below Qq T11 (mkF m 21 #[.val (.ref a), .val (.int p0), .val (.int p1)] [(.ref a), (.ref a)])
      obtain ⟨T12, X12, e12, st12⟩ := getF X hx hZ hown (host := "") (Or.inl (hw _ (List.mem_of_getElem? (i := 15) rfl))) Via.refl rfl (own_Jt J) (g := (mkF m 21 #[.val (.ref a), .val (.int p0), .val (.int p1)] [(.ref a), (.ref a)])) rfl rfl (hb hby d4_21)
      refine own_st st12 ?_
      replace J := own_tr (P := fun h => own_J Z n0 h a b9 g_lastTime g_members g_len g_f) e12 J
      replace X := X12
      clear st12 e12 X12
      show own_E p e below Qq T12 (mkF m 24 #[.val (.ref a), .val (.int p0), .val (.int p1)] [(.ref b9), (.ref a)])
      refine own_st (fun _ => XS.iloadN X.here hx rfl (hb hby d4_24) rfl) ?_
      show own_E p e below Qq T12 (mkF m 25 #[.val (.ref a), .val (.int p0), .val (.int p1)] [(.int p0), (.ref b9), (.ref a)])
      have lt13 := (own_Jex J).lt
      have nl := (own_Jr J).1
      refine own_callS X hx hZ hown (hw _ (List.mem_of_getElem? (i := 34) rfl)) (hw _ (List.mem_of_getElem? (i := 35) rfl)) (hw _ (List.mem_of_getElem? (i := 36) rfl)) (hw _ (List.mem_of_getElem? (i := 37) rfl)) (by decide) (W := 1) (argsL := [(.ref b9), (.int p0)]) (rest := [(.ref a)]) (rm7 l Z a0 hw b9 p0 g_len g_f _ n0 (own_Jsz J) (own_Jr J) (own_G hP q16)) (by decide) (by decide) (by decide) (by decide) rfl (by rw [hml]; rfl) (lenOf pd_10 rfl) rfl (by show 2 * 0 + _ ≤ _; exact Nat.le_of_eq rfl) (hb hby d4_25) ?_
      intro T13 L13 v X' hq
      obtain ⟨b13, rfl, N', E13, hb13, R13⟩ := hq
      replace J := own_Jext E13 J
      replace N := Fr.app N N'
      replace X : Stand p l e ({ frames := 3, cells := 1, slots := 6144, locals := 81 } : Room) s m #[(.ref a), (.int p0), (.int p1)] below meth c T13 _ 1 6144 := X'
      clear X' N'
      show own_E p e below Qq T13 (mkF m 28 #[.val (.ref a), .val (.int p0), .val (.int p1)] [(.ref b13), (.ref a)])
      obtain ⟨T14, h14, X14, e14, W14, st14⟩ := putF X hx hZ hown (host := "") (Or.inl (hw _ (List.mem_of_getElem? (i := 15) rfl))) Via.refl rfl (own_Jt J) (own_Jex J) (Or.inl (hw _ (List.mem_of_getElem? (i := 16) rfl))) (hw _ (List.mem_of_getElem? (i := 6) rfl)) (ty := (.array .int)) (by decide) rfl rfl (g := (mkF m 28 #[.val (.ref a), .val (.int p0), .val (.int p1)] [(.ref b13), (.ref a)])) rfl rfl (hb hby d4_28)
      subst e14
      refine own_st st14 ?_
      replace N := Fr.snoc X14 N (own_Jna J)
      replace J := own_Jnew hw W14 J R13 lt13 hb13
      replace X := X14
      clear st14 X14 R13
      show own_E p e below Qq T14 (mkF m 31 #[.val (.ref a), .val (.int p0), .val (.int p1)] [])
      exact B31 _ _ p0 p1 g_members (F8_0 g_len p0) (own_cp g_len g_f) X ⟨_, J⟩ N hF (by first | exact ⟨own_nn hP.1, q16⟩ | exact own_G2 hP q16 nl)
theorem pd_5 : parseMethodDescriptor "(IIII)Z" = some ⟨[.int, .int, .int, .int], some .boolean⟩ := by decide +kernel
theorem d5_0 : decode method_3_code 0 = .ok (.iload_n 0, 1) := by decide +kernel
theorem d5_1 : decode method_3_code 1 = .ok (.iload_n 1, 1) := by decide +kernel
theorem d5_2 : decode method_3_code 2 = .ok (.if_icmp .ne 16, 3) := by decide +kernel
theorem d5_5 : decode method_3_code 5 = .ok (.iload_n 2, 1) := by decide +kernel
theorem d5_6 : decode method_3_code 6 = .ok (.ifCond .le 12, 3) := by decide +kernel
theorem d5_9 : decode method_3_code 9 = .ok (.iload_n 2, 1) := by decide +kernel
theorem d5_10 : decode method_3_code 10 = .ok (.iload_n 3, 1) := by decide +kernel
theorem d5_11 : decode method_3_code 11 = .ok (.if_icmp .gt 7, 3) := by decide +kernel
theorem d5_14 : decode method_3_code 14 = .ok (.iconst 1, 1) := by decide +kernel
theorem d5_15 : decode method_3_code 15 = .ok (.goto 4, 3) := by decide +kernel
theorem d5_18 : decode method_3_code 18 = .ok (.iconst 0, 1) := by decide +kernel
theorem d5_19 : decode method_3_code 19 = .ok (.ireturn, 1) := by decide +kernel
theorem ef_5 (m : MethodId) (p0 : Int32) (p1 : Int32) (p2 : Int32) (p3 : Int32) : entryFrame m #[(.int p0), (.int p1), (.int p2), (.int p3)] 4 = (mkF m 0 #[.val (.int p0), .val (.int p1), .val (.int p2), .val (.int p3)] []) := by first | (simp [entryFrame, mkF, argsToLocals, Value.category, maxLocals]; done) | rfl
def F5_19 (x0 : Int32) (x1 : Int32) (x2 : Int32) (x3 : Int32) (y4 : Int32) : Int32 := (nar .boolean y4)
def F5_18 (x0 : Int32) (x1 : Int32) (x2 : Int32) (x3 : Int32) : Int32 := (F5_19 x0 x1 x2 x3 (0 : Int32))
def F5_0 (x0 : Int32) (x1 : Int32) (x2 : Int32) (x3 : Int32) : Int32 := (if x0 = x1 then (if (0 : Int32) < x2 then (if x3 < x2 then (F5_18 x0 x1 x2 x3) else (F5_19 x0 x1 x2 x3 (1 : Int32))) else (F5_18 x0 x1 x2 x3)) else (F5_18 x0 x1 x2 x3))
set_option maxRecDepth 65536 in
set_option maxHeartbeats 40000000 in
theorem rm5 (l : Launch) (Z : State) (a0 : Array Value) (hw : ∀ d ∈ tables_1, d.before a0 Z = true) (p0 : Int32) (p1 : Int32) (p2 : Int32) (p3 : Int32) (h0 : Heap) (n0 : Nat) :
    own_M l Z (⟨"com/example/refstone/refstone/service/LatestRowsHasVersionPinLaw", "taken", "(IIII)Z"⟩ : MethodName) method_3_code 4 (some .boolean) ({ frames := 0, cells := 0, slots := 0, locals := 0 } : Room) #[(.int p0), (.int p1), (.int p2), (.int p3)] h0 (fun v h L => v = some (.int (F5_0 p0 p1 p2 p3)) ∧ Fr n0 L ∧ h = h0) := by
  refine own_body pn_1 ?_
  intro p e s m below meth c T hx hby hml hown hZ hret hlk hnm X eT
  have N := Fr.nil n0
  obtain ⟨w, hF⟩ : ∃ w, w = F5_0 p0 p1 p2 p3 := ⟨_, rfl⟩
  try rw [← hF]
  generalize hQ : own_Q s (fun v h L => v = some (.int w) ∧ Fr n0 L ∧ h = h0) ({ frames := 0, cells := 0, slots := 0, locals := 0 } : Room).cells ({ frames := 0, cells := 0, slots := 0, locals := 0 } : Room).slots = Qq
  refine own_st (fun _ k => castTop (ef_5 m p0 p1 p2 p3) k) ?_
  have B19 : ∀ (T : State) (L : List Loc) (x0 : Int32) (x1 : Int32) (x2 : Int32) (x3 : Int32) (y4 : Int32), Stand p l e ({ frames := 0, cells := 0, slots := 0, locals := 0 } : Room) s m #[(.int p0), (.int p1), (.int p2), (.int p3)] below meth c T L 0 0 → T.heap = h0 → Fr n0 L → w = F5_19 x0 x1 x2 x3 y4 → own_E p e below Qq T (mkF m 19 #[.val (.int x0), .val (.int x1), .val (.int x2), .val (.int x3)] [(.int y4)]) := by
    intro T L x0 x1 x2 x3 y4 X eT N hF
    rw [← hQ]
    exact own_retN X hx hlk (t := .boolean) hret (by simp) (hb hby d5_19) (by decide) (by decide) ⟨by (rw [hF]; try rfl), N, eT⟩
  have B18 : ∀ (T : State) (L : List Loc) (x0 : Int32) (x1 : Int32) (x2 : Int32) (x3 : Int32), Stand p l e ({ frames := 0, cells := 0, slots := 0, locals := 0 } : Room) s m #[(.int p0), (.int p1), (.int p2), (.int p3)] below meth c T L 0 0 → T.heap = h0 → Fr n0 L → w = F5_18 x0 x1 x2 x3 → own_E p e below Qq T (mkF m 18 #[.val (.int x0), .val (.int x1), .val (.int x2), .val (.int x3)] []) := by
    intro T L x0 x1 x2 x3 X eT N hF
    refine own_st (fun _ => XS.iconst X.here hx rfl (hb hby d5_18)) ?_
    show own_E p e below Qq T (mkF m 19 #[.val (.int x0), .val (.int x1), .val (.int x2), .val (.int x3)] [(.int (0 : Int32))])
    exact B19 _ _ x0 x1 x2 x3 (0 : Int32) X eT N hF
  show own_E p e below Qq T (mkF m 0 #[.val (.int p0), .val (.int p1), .val (.int p2), .val (.int p3)] [])
  refine own_st (fun _ => XS.iloadN X.here hx rfl (hb hby d5_0) rfl) ?_
  show own_E p e below Qq T (mkF m 1 #[.val (.int p0), .val (.int p1), .val (.int p2), .val (.int p3)] [(.int p0)])
  refine own_st (fun _ => XS.iloadN X.here hx rfl (hb hby d5_1) rfl) ?_
  show own_E p e below Qq T (mkF m 2 #[.val (.int p0), .val (.int p1), .val (.int p2), .val (.int p3)] [(.int p1), (.int p0)])
  by_cases q2 : p0 = p1
  · replace hF := hF.trans (if_pos q2)
    refine own_st (fun _ => XS.icmpNo X.here hx rfl (hb hby d5_2) rfl (XT.ii_ne_f q2)) ?_
    show own_E p e below Qq T (mkF m 5 #[.val (.int p0), .val (.int p1), .val (.int p2), .val (.int p3)] [])
    refine own_st (fun _ => XS.iloadN X.here hx rfl (hb hby d5_5) rfl) ?_
    show own_E p e below Qq T (mkF m 6 #[.val (.int p0), .val (.int p1), .val (.int p2), .val (.int p3)] [(.int p2)])
    by_cases q6 : (0 : Int32) < p2
    · replace hF := hF.trans (if_pos q6)
      refine own_st (fun _ => XS.ifNo X.here hx rfl (hb hby d5_6) rfl (XT.i0_le_f q6)) ?_
      show own_E p e below Qq T (mkF m 9 #[.val (.int p0), .val (.int p1), .val (.int p2), .val (.int p3)] [])
      refine own_st (fun _ => XS.iloadN X.here hx rfl (hb hby d5_9) rfl) ?_
      show own_E p e below Qq T (mkF m 10 #[.val (.int p0), .val (.int p1), .val (.int p2), .val (.int p3)] [(.int p2)])
      refine own_st (fun _ => XS.iloadN X.here hx rfl (hb hby d5_10) rfl) ?_
      show own_E p e below Qq T (mkF m 11 #[.val (.int p0), .val (.int p1), .val (.int p2), .val (.int p3)] [(.int p3), (.int p2)])
      by_cases q11 : p3 < p2
      · replace hF := hF.trans (if_pos q11)
        refine own_st (fun _ => XS.icmpYes X.here hx rfl (pc0 := 11) (pc' := 18) rfl (hb hby d5_11) rfl (XT.ii_gt_t q11) (by decide) (by decide)) ?_
        show own_E p e below Qq T (mkF m 18 #[.val (.int p0), .val (.int p1), .val (.int p2), .val (.int p3)] [])
        exact B18 _ _ p0 p1 p2 p3 X eT N hF
      · replace hF := hF.trans (if_neg q11)
        refine own_st (fun _ => XS.icmpNo X.here hx rfl (hb hby d5_11) rfl (XT.ii_gt_f q11)) ?_
        show own_E p e below Qq T (mkF m 14 #[.val (.int p0), .val (.int p1), .val (.int p2), .val (.int p3)] [])
        refine own_st (fun _ => XS.iconst X.here hx rfl (hb hby d5_14)) ?_
        show own_E p e below Qq T (mkF m 15 #[.val (.int p0), .val (.int p1), .val (.int p2), .val (.int p3)] [(.int (1 : Int32))])
        refine own_st (fun _ => XS.goto X.here hx rfl (pc0 := 15) (pc' := 19) rfl (hb hby d5_15) (by decide) (by decide)) ?_
        show own_E p e below Qq T (mkF m 19 #[.val (.int p0), .val (.int p1), .val (.int p2), .val (.int p3)] [(.int (1 : Int32))])
        exact B19 _ _ p0 p1 p2 p3 (1 : Int32) X eT N hF
    · replace hF := hF.trans (if_neg q6)
      refine own_st (fun _ => XS.ifYes X.here hx rfl (pc0 := 6) (pc' := 18) rfl (hb hby d5_6) rfl (XT.i0_le_t q6) (by decide) (by decide)) ?_
      show own_E p e below Qq T (mkF m 18 #[.val (.int p0), .val (.int p1), .val (.int p2), .val (.int p3)] [])
      exact B18 _ _ p0 p1 p2 p3 X eT N hF
  · replace hF := hF.trans (if_neg q2)
    refine own_st (fun _ => XS.icmpYes X.here hx rfl (pc0 := 2) (pc' := 18) rfl (hb hby d5_2) rfl (XT.ii_ne_t q2) (by decide) (by decide)) ?_
    show own_E p e below Qq T (mkF m 18 #[.val (.int p0), .val (.int p1), .val (.int p2), .val (.int p3)] [])
    exact B18 _ _ p0 p1 p2 p3 X eT N hF
theorem pd_6 : parseMethodDescriptor "(I)Z" = some ⟨[.int], some .boolean⟩ := by decide +kernel
theorem d6_0 : decode prog_73_method_7_code 0 = .ok (.iload_n 1, 1) := by decide +kernel
theorem d6_1 : decode prog_73_method_7_code 1 = .ok (.aload_n 0, 1) := by decide +kernel
theorem d6_2 : decode prog_73_method_7_code 2 = .ok (.getfield 17, 3) := by decide +kernel
theorem d6_5 : decode prog_73_method_7_code 5 = .ok (.arraylength, 1) := by decide +kernel
theorem d6_6 : decode prog_73_method_7_code 6 = .ok (.if_icmp .ge 16, 3) := by decide +kernel
theorem d6_9 : decode prog_73_method_7_code 9 = .ok (.aload_n 0, 1) := by decide +kernel
theorem d6_10 : decode prog_73_method_7_code 10 = .ok (.getfield 17, 3) := by decide +kernel
theorem d6_13 : decode prog_73_method_7_code 13 = .ok (.iload_n 1, 1) := by decide +kernel
theorem d6_14 : decode prog_73_method_7_code 14 = .ok (.iaload, 1) := by decide +kernel
theorem d6_15 : decode prog_73_method_7_code 15 = .ok (.ifCond .eq 7, 3) := by decide +kernel
theorem d6_18 : decode prog_73_method_7_code 18 = .ok (.iconst 1, 1) := by decide +kernel
theorem d6_19 : decode prog_73_method_7_code 19 = .ok (.goto 4, 3) := by decide +kernel
theorem d6_22 : decode prog_73_method_7_code 22 = .ok (.iconst 0, 1) := by decide +kernel
theorem d6_23 : decode prog_73_method_7_code 23 = .ok (.ireturn, 1) := by decide +kernel
theorem ef_6 (m : MethodId) (a : Addr) (p0 : Int32) : entryFrame m #[(.ref a), (.int p0)] 2 = (mkF m 0 #[.val (.ref a), .val (.int p0)] []) := by first | (simp [entryFrame, mkF, argsToLocals, Value.category, maxLocals]; done) | rfl
def F6_23 (x0 : Int32) (y1 : Int32) (g_lastTime : Int32) (g_members : Int32) (g_len : Int32) (g_f : (Nat → Int32)) : Int32 := (nar .boolean y1)
def F6_22 (x0 : Int32) (g_lastTime : Int32) (g_members : Int32) (g_len : Int32) (g_f : (Nat → Int32)) : Int32 := (F6_23 x0 (0 : Int32) g_lastTime g_members g_len g_f)
def F6_0 (x0 : Int32) (g_lastTime : Int32) (g_members : Int32) (g_len : Int32) (g_f : (Nat → Int32)) : Int32 := (if x0 < g_len then (if (g_f (x0).toNatClampNeg) = (0 : Int32) then (F6_22 x0 g_lastTime g_members g_len g_f) else (F6_23 x0 (1 : Int32) g_lastTime g_members g_len g_f)) else (F6_22 x0 g_lastTime g_members g_len g_f))
set_option maxRecDepth 65536 in
set_option maxHeartbeats 40000000 in
theorem rm6 (l : Launch) (Z : State) (a0 : Array Value) (hw : ∀ d ∈ tables_1, d.before a0 Z = true) (a : Addr) (p0 : Int32) (g_lastTime : Int32) (g_members : Int32) (g_len : Int32) (g_f : (Nat → Int32)) (h0 : Heap) (n0 : Nat) (I : own_I Z n0 h0 a g_lastTime g_members g_len g_f) (hP : (0 ≤ p0.toInt)) :
    own_M l Z (⟨"com/example/refstone/refstone/service/LatestRows", "hasVersion", "(I)Z"⟩ : MethodName) prog_73_method_7_code 2 (some .boolean) ({ frames := 0, cells := 0, slots := 0, locals := 0 } : Room) #[(.ref a), (.int p0)] h0 (fun v h L => v = some (.int (F6_0 p0 g_lastTime g_members g_len g_f)) ∧ Fr n0 L ∧ own_I Z n0 h a g_lastTime g_members g_len g_f) := by
  refine own_body pn_2 ?_
  intro p e s m below meth c T hx hby hml hown hZ hret hlk hnm X eT
  have N := Fr.nil n0
  replace I : own_I Z n0 T.heap a g_lastTime g_members g_len g_f := by rw [eT]; exact I
  obtain ⟨w, hF⟩ : ∃ w, w = F6_0 p0 g_lastTime g_members g_len g_f := ⟨_, rfl⟩
  try rw [← hF]
  generalize hQ : own_Q s (fun v h L => v = some (.int w) ∧ Fr n0 L ∧ own_I Z n0 h a g_lastTime g_members g_len g_f) ({ frames := 0, cells := 0, slots := 0, locals := 0 } : Room).cells ({ frames := 0, cells := 0, slots := 0, locals := 0 } : Room).slots = Qq
  refine own_st (fun _ k => castTop (ef_6 m a p0) k) ?_
  clear eT
  have B23 : ∀ (T : State) (L : List Loc) (x0 : Int32) (y1 : Int32), Stand p l e ({ frames := 0, cells := 0, slots := 0, locals := 0 } : Room) s m #[(.ref a), (.int p0)] below meth c T L 0 0 → own_I Z n0 T.heap a g_lastTime g_members g_len g_f → Fr n0 L → w = F6_23 x0 y1 g_lastTime g_members g_len g_f → own_E p e below Qq T (mkF m 23 #[.val (.ref a), .val (.int x0)] [(.int y1)]) := by
    intro T L x0 y1 X I N hF
    obtain ⟨b1, J⟩ := I
    rw [← hQ]
    exact own_retN X hx hlk (t := .boolean) hret (by simp) (hb hby d6_23) (by decide) (by decide) ⟨by (rw [hF]; try rfl), N, (by first | (rw [hF]; exact ⟨_, J⟩) | exact ⟨_, J⟩)⟩
  have B22 : ∀ (T : State) (L : List Loc) (x0 : Int32), Stand p l e ({ frames := 0, cells := 0, slots := 0, locals := 0 } : Room) s m #[(.ref a), (.int p0)] below meth c T L 0 0 → own_I Z n0 T.heap a g_lastTime g_members g_len g_f → Fr n0 L → w = F6_22 x0 g_lastTime g_members g_len g_f → own_E p e below Qq T (mkF m 22 #[.val (.ref a), .val (.int x0)] []) := by
    intro T L x0 X I N hF
    obtain ⟨b2, J⟩ := I
    refine own_st (fun _ => XS.iconst X.here hx rfl (hb hby d6_22)) ?_
    show own_E p e below Qq T (mkF m 23 #[.val (.ref a), .val (.int x0)] [(.int (0 : Int32))])
    exact B23 _ _ x0 (0 : Int32) X ⟨_, J⟩ N hF
  show own_E p e below Qq T (mkF m 0 #[.val (.ref a), .val (.int p0)] [])
  obtain ⟨b3, J⟩ := I
  refine own_st (fun _ => XS.iloadN X.here hx rfl (hb hby d6_0) rfl) ?_
  show own_E p e below Qq T (mkF m 1 #[.val (.ref a), .val (.int p0)] [(.int p0)])
  refine own_st (fun _ => XS.aloadN X.here hx rfl (hb hby d6_1) rfl rfl) ?_
  show own_E p e below Qq T (mkF m 2 #[.val (.ref a), .val (.int p0)] [(.ref a), (.int p0)])
  obtain ⟨T4, X4, e4, st4⟩ := getF X hx hZ hown (host := "") (Or.inl (hw _ (List.mem_of_getElem? (i := 15) rfl))) Via.refl rfl (own_Jt J) (g := (mkF m 2 #[.val (.ref a), .val (.int p0)] [(.ref a), (.int p0)])) rfl rfl (hb hby d6_2)
  refine own_st st4 ?_
  replace J := own_tr (P := fun h => own_J Z n0 h a b3 g_lastTime g_members g_len g_f) e4 J
  replace X := X4
  clear st4 e4 X4
  show own_E p e below Qq T4 (mkF m 5 #[.val (.ref a), .val (.int p0)] [(.ref b3), (.int p0)])
  refine own_st (fun _ hr => own_alen (g := (mkF m 5 #[.val (.ref a), .val (.int p0)] [(.ref b3), (.int p0)])) X hx hZ (own_Jr J) rfl rfl (hb hby d6_5) hr) ?_
  show own_E p e below Qq T4 (mkF m 6 #[.val (.ref a), .val (.int p0)] [(.int g_len), (.int p0)])
  by_cases q6 : p0 < g_len
  · replace hF := hF.trans (if_pos q6)
    refine own_st (fun _ => XS.icmpNo X.here hx rfl (hb hby d6_6) rfl (XT.ii_ge_f q6)) ?_
    show own_E p e below Qq T4 (mkF m 9 #[.val (.ref a), .val (.int p0)] [])
    refine own_st (fun _ => XS.aloadN X.here hx rfl (hb hby d6_9) rfl rfl) ?_
    show own_E p e below Qq T4 (mkF m 10 #[.val (.ref a), .val (.int p0)] [(.ref a)])
    obtain ⟨T5, X5, e5, st5⟩ := getF X hx hZ hown (host := "") (Or.inl (hw _ (List.mem_of_getElem? (i := 15) rfl))) Via.refl rfl (own_Jt J) (g := (mkF m 10 #[.val (.ref a), .val (.int p0)] [(.ref a)])) rfl rfl (hb hby d6_10)
    refine own_st st5 ?_
    replace J := own_tr (P := fun h => own_J Z n0 h a b3 g_lastTime g_members g_len g_f) e5 J
    replace X := X5
    clear st5 e5 X5
    show own_E p e below Qq T5 (mkF m 13 #[.val (.ref a), .val (.int p0)] [(.ref b3)])
    refine own_st (fun _ => XS.iloadN X.here hx rfl (hb hby d6_13) rfl) ?_
    show own_E p e below Qq T5 (mkF m 14 #[.val (.ref a), .val (.int p0)] [(.int p0), (.ref b3)])
    refine own_st (fun _ hr => own_iaload (g := (mkF m 14 #[.val (.ref a), .val (.int p0)] [(.int p0), (.ref b3)])) X hx hZ (own_Jr J) (j := p0) ⟨own_nn hP, q6⟩ rfl rfl (hb hby d6_14) hr) ?_
    show own_E p e below Qq T5 (mkF m 15 #[.val (.ref a), .val (.int p0)] [(.int (g_f (p0).toNatClampNeg))])
    by_cases q15 : (g_f (p0).toNatClampNeg) = (0 : Int32)
    · replace hF := hF.trans (if_pos q15)
      refine own_st (fun _ => XS.ifYes X.here hx rfl (pc0 := 15) (pc' := 22) rfl (hb hby d6_15) rfl (XT.i0_eq_t q15) (by decide) (by decide)) ?_
      show own_E p e below Qq T5 (mkF m 22 #[.val (.ref a), .val (.int p0)] [])
      exact B22 _ _ p0 X ⟨_, J⟩ N hF
    · replace hF := hF.trans (if_neg q15)
      refine own_st (fun _ => XS.ifNo X.here hx rfl (hb hby d6_15) rfl (XT.i0_eq_f q15)) ?_
      show own_E p e below Qq T5 (mkF m 18 #[.val (.ref a), .val (.int p0)] [])
      refine own_st (fun _ => XS.iconst X.here hx rfl (hb hby d6_18)) ?_
      show own_E p e below Qq T5 (mkF m 19 #[.val (.ref a), .val (.int p0)] [(.int (1 : Int32))])
      refine own_st (fun _ => XS.goto X.here hx rfl (pc0 := 19) (pc' := 23) rfl (hb hby d6_19) (by decide) (by decide)) ?_
      show own_E p e below Qq T5 (mkF m 23 #[.val (.ref a), .val (.int p0)] [(.int (1 : Int32))])
      exact B23 _ _ p0 (1 : Int32) X ⟨_, J⟩ N hF
  · replace hF := hF.trans (if_neg q6)
    refine own_st (fun _ => XS.icmpYes X.here hx rfl (pc0 := 6) (pc' := 22) rfl (hb hby d6_6) rfl (XT.ii_ge_t q6) (by decide) (by decide)) ?_
    show own_E p e below Qq T4 (mkF m 22 #[.val (.ref a), .val (.int p0)] [])
    exact B22 _ _ p0 X ⟨_, J⟩ N hF
theorem ef_0 (m : MethodId) (p0 : Int32) (p1 : Int32) (p2 : Int32) (p3 : Int32) (p4 : Int32) (p5 : Int32) : entryFrame m #[(.int p0), (.int p1), (.int p2), (.int p3), (.int p4), (.int p5)] maxLocals = (mkF m 0 #[.val (.int p0), .val (.int p1), .val (.int p2), .val (.int p3), .val (.int p4), .val (.int p5), .unset, .unset, .unset, .unset, .unset] []) := by first | (simp [entryFrame, mkF, argsToLocals, Value.category, maxLocals]; done) | rfl
def F0_103 (x0 : Int32) (x1 : Int32) (x2 : Int32) (x3 : Int32) (x4 : Int32) (x5 : Int32) (x6 : Int32) (x7 : Int32) (x8 : Int32) (x9 : Int32) (y10 : Int32) (g_lastTime : Int32) (g_members : Int32) (g_len : Int32) (g_f : (Nat → Int32)) : Int32 := (nar .boolean y10)
def F0_93 (x0 : Int32) (x1 : Int32) (x2 : Int32) (x3 : Int32) (x4 : Int32) (x5 : Int32) (x6 : Int32) (x7 : Int32) (x8 : Int32) (x9 : Int32) (y10 : Int32) (g_lastTime : Int32) (g_members : Int32) (g_len : Int32) (g_f : (Nat → Int32)) : Int32 := (if y10 = x9 then (F0_103 x0 x1 x2 x3 x4 x5 x6 x7 x8 x9 (1 : Int32) g_lastTime g_members g_len g_f) else (F0_103 x0 x1 x2 x3 x4 x5 x6 x7 x8 x9 (0 : Int32) g_lastTime g_members g_len g_f))
def F0_84 (x0 : Int32) (x1 : Int32) (x2 : Int32) (x3 : Int32) (x4 : Int32) (x5 : Int32) (x6 : Int32) (x7 : Int32) (x8 : Int32) (y9 : Int32) (g_lastTime : Int32) (g_members : Int32) (g_len : Int32) (g_f : (Nat → Int32)) : Int32 := (F0_93 x0 x1 x2 x3 x4 x5 x6 x7 x8 y9 (F6_0 x8 g_lastTime g_members g_len g_f) g_lastTime g_members g_len g_f)
def F0_79 (x0 : Int32) (x1 : Int32) (x2 : Int32) (x3 : Int32) (x4 : Int32) (x5 : Int32) (x6 : Int32) (x7 : Int32) (x8 : Int32) (g_lastTime : Int32) (g_members : Int32) (g_len : Int32) (g_f : (Nat → Int32)) : Int32 := (F0_84 x0 x1 x2 x3 x4 x5 x6 x7 x8 (1 : Int32) g_lastTime g_members g_len g_f)
def F0_53 (x0 : Int32) (x1 : Int32) (x2 : Int32) (x3 : Int32) (x4 : Int32) (x5 : Int32) (x6 : Int32) (x7 : Int32) (x8 : Int32) (y9 : Int32) (g_lastTime : Int32) (g_members : Int32) (g_len : Int32) (g_f : (Nat → Int32)) : Int32 := (if (F5_0 x8 x6 x2 x0) = (0 : Int32) then (if (F5_0 x8 x7 x4 x0) = (0 : Int32) then (F0_84 x0 x1 x2 x3 x4 x5 x6 x7 x8 (0 : Int32) g_lastTime g_members g_len g_f) else (F0_79 x0 x1 x2 x3 x4 x5 x6 x7 x8 g_lastTime g_members g_len g_f)) else (F0_79 x0 x1 x2 x3 x4 x5 x6 x7 x8 g_lastTime g_members g_len g_f))
def F0_43 (x0 : Int32) (x1 : Int32) (x2 : Int32) (x3 : Int32) (x4 : Int32) (x5 : Int32) (x6 : Int32) (x7 : Int32) (x8 : Int32) (y9 : Int32) (g_lastTime : Int32) (g_members : Int32) (g_len : Int32) (g_f : (Nat → Int32)) : Int32 := (F0_53 x0 x1 x2 x3 x4 x5 x6 x7 x8 (F4_0 x7 x4 g_lastTime g_members g_len g_f).1 g_lastTime (F4_0 x7 x4 g_lastTime g_members g_len g_f).2.1 (F4_0 x7 x4 g_lastTime g_members g_len g_f).2.2.1 (F4_0 x7 x4 g_lastTime g_members g_len g_f).2.2.2)
def F0_33 (x0 : Int32) (x1 : Int32) (x2 : Int32) (x3 : Int32) (x4 : Int32) (x5 : Int32) (x6 : Int32) (x7 : Int32) (x8 : Int32) (g_lastTime : Int32) (g_members : Int32) (g_len : Int32) (g_f : (Nat → Int32)) : Int32 := (F0_43 x0 x1 x2 x3 x4 x5 x6 x7 x8 (F4_0 x6 x2 g_lastTime g_members g_len g_f).1 g_lastTime (F4_0 x6 x2 g_lastTime g_members g_len g_f).2.1 (F4_0 x6 x2 g_lastTime g_members g_len g_f).2.2.1 (F4_0 x6 x2 g_lastTime g_members g_len g_f).2.2.2)
def F0_0 (x0 : Int32) (x1 : Int32) (x2 : Int32) (x3 : Int32) (x4 : Int32) (x5 : Int32) : Int32 := (F0_33 x0 x1 x2 x3 x4 x5 (x1 &&& (4095 : Int32)) (x3 &&& (4095 : Int32)) (F1_0 x5 (x1 &&& (4095 : Int32)) (x3 &&& (4095 : Int32))) (F2_0 x0 (0 : Int32) (0 : Int32) (0 : Int32) (fun _ => 0)).1 (F2_0 x0 (0 : Int32) (0 : Int32) (0 : Int32) (fun _ => 0)).2.1 (F2_0 x0 (0 : Int32) (0 : Int32) (0 : Int32) (fun _ => 0)).2.2.1 (F2_0 x0 (0 : Int32) (0 : Int32) (0 : Int32) (fun _ => 0)).2.2.2)
set_option maxRecDepth 65536 in
set_option maxHeartbeats 40000000 in
theorem rm0 (l : Launch) (Z : State) (a0 : Array Value) (hw : ∀ d ∈ tables_1, d.before a0 Z = true) (p0 : Int32) (p1 : Int32) (p2 : Int32) (p3 : Int32) (p4 : Int32) (p5 : Int32) (h0 : Heap) (n0 : Nat) (Z0 : n0 ≤ h0.size) :
    own_M l Z x code maxLocals ret room_1 #[(.int p0), (.int p1), (.int p2), (.int p3), (.int p4), (.int p5)] h0 (fun v h L => v = some (.int (F0_0 p0 p1 p2 p3 p4 p5)) ∧ Fr n0 L ∧ True) := by
  refine own_body pn_1 ?_
  intro p e s m below meth c T hx hby hml hown hZ hret hlk hnm X eT
  have N := Fr.nil n0
  replace Z0 : n0 ≤ T.heap.size := by rw [eT]; exact Z0
  obtain ⟨w, hF⟩ : ∃ w, w = F0_0 p0 p1 p2 p3 p4 p5 := ⟨_, rfl⟩
  try rw [← hF]
  generalize hQ : own_Q s (fun v h L => v = some (.int w) ∧ Fr n0 L ∧ True) room_1.cells room_1.slots = Qq
  refine own_st (fun _ k => castTop (ef_0 m p0 p1 p2 p3 p4 p5) k) ?_
  clear eT
  have B103 : ∀ (T : State) (L : List Loc) (x0 : Int32) (x1 : Int32) (x2 : Int32) (x3 : Int32) (x4 : Int32) (x5 : Int32) (x6 : Int32) (x7 : Int32) (x8 : Int32) (x9 : Int32) (y10 : Int32) (xa : Addr) (g_lastTime : Int32) (g_members : Int32) (g_len : Int32) (g_f : (Nat → Int32)), Stand p l e room_1 s m #[(.int p0), (.int p1), (.int p2), (.int p3), (.int p4), (.int p5)] below meth c T L 4 13315 → own_I Z n0 T.heap xa g_lastTime g_members g_len g_f → Fr n0 L → w = F0_103 x0 x1 x2 x3 x4 x5 x6 x7 x8 x9 y10 g_lastTime g_members g_len g_f → own_E p e below Qq T (mkF m 103 #[.val (.int x0), .val (.int x1), .val (.int x2), .val (.int x3), .val (.int x4), .val (.int x5), .val (.int x6), .val (.int x7), .val (.int x8), .val (.ref xa), .val (.int x9)] [(.int y10)]) := by
    intro T L x0 x1 x2 x3 x4 x5 x6 x7 x8 x9 y10 xa g_lastTime g_members g_len g_f X I N hF
    obtain ⟨b1, J⟩ := I
    rw [← hQ]
    exact own_retN X hx hlk (t := .boolean) hret (by simp) (hb hby at_103) (by decide) (by decide) ⟨by (rw [hF]; try rfl), N, trivial⟩
  have B93 : ∀ (T : State) (L : List Loc) (x0 : Int32) (x1 : Int32) (x2 : Int32) (x3 : Int32) (x4 : Int32) (x5 : Int32) (x6 : Int32) (x7 : Int32) (x8 : Int32) (x9 : Int32) (y10 : Int32) (xa : Addr) (g_lastTime : Int32) (g_members : Int32) (g_len : Int32) (g_f : (Nat → Int32)), Stand p l e room_1 s m #[(.int p0), (.int p1), (.int p2), (.int p3), (.int p4), (.int p5)] below meth c T L 4 13315 → own_I Z n0 T.heap xa g_lastTime g_members g_len g_f → Fr n0 L → w = F0_93 x0 x1 x2 x3 x4 x5 x6 x7 x8 x9 y10 g_lastTime g_members g_len g_f → own_E p e below Qq T (mkF m 93 #[.val (.int x0), .val (.int x1), .val (.int x2), .val (.int x3), .val (.int x4), .val (.int x5), .val (.int x6), .val (.int x7), .val (.int x8), .val (.ref xa), .val (.int x9)] [(.int y10)]) := by
    intro T L x0 x1 x2 x3 x4 x5 x6 x7 x8 x9 y10 xa g_lastTime g_members g_len g_f X I N hF
    obtain ⟨b2, J⟩ := I
    refine own_st (fun _ => XS.iload X.here hx rfl (hb hby at_93) rfl) ?_
    show own_E p e below Qq T (mkF m 95 #[.val (.int x0), .val (.int x1), .val (.int x2), .val (.int x3), .val (.int x4), .val (.int x5), .val (.int x6), .val (.int x7), .val (.int x8), .val (.ref xa), .val (.int x9)] [(.int x9), (.int y10)])
    by_cases q95 : y10 = x9
    · replace hF := hF.trans (if_pos q95)
      refine own_st (fun _ => XS.icmpNo X.here hx rfl (hb hby at_95) rfl (XT.ii_ne_f q95)) ?_
      show own_E p e below Qq T (mkF m 98 #[.val (.int x0), .val (.int x1), .val (.int x2), .val (.int x3), .val (.int x4), .val (.int x5), .val (.int x6), .val (.int x7), .val (.int x8), .val (.ref xa), .val (.int x9)] [])
      refine own_st (fun _ => XS.iconst X.here hx rfl (hb hby at_98)) ?_
      show own_E p e below Qq T (mkF m 99 #[.val (.int x0), .val (.int x1), .val (.int x2), .val (.int x3), .val (.int x4), .val (.int x5), .val (.int x6), .val (.int x7), .val (.int x8), .val (.ref xa), .val (.int x9)] [(.int (1 : Int32))])
      refine own_st (fun _ => XS.goto X.here hx rfl (pc0 := 99) (pc' := 103) rfl (hb hby at_99) (by decide) (by decide)) ?_
      show own_E p e below Qq T (mkF m 103 #[.val (.int x0), .val (.int x1), .val (.int x2), .val (.int x3), .val (.int x4), .val (.int x5), .val (.int x6), .val (.int x7), .val (.int x8), .val (.ref xa), .val (.int x9)] [(.int (1 : Int32))])
      exact B103 _ _ x0 x1 x2 x3 x4 x5 x6 x7 x8 x9 (1 : Int32) xa g_lastTime g_members g_len g_f X ⟨_, J⟩ N hF
    · replace hF := hF.trans (if_neg q95)
      refine own_st (fun _ => XS.icmpYes X.here hx rfl (pc0 := 95) (pc' := 102) rfl (hb hby at_95) rfl (XT.ii_ne_t q95) (by decide) (by decide)) ?_
      show own_E p e below Qq T (mkF m 102 #[.val (.int x0), .val (.int x1), .val (.int x2), .val (.int x3), .val (.int x4), .val (.int x5), .val (.int x6), .val (.int x7), .val (.int x8), .val (.ref xa), .val (.int x9)] [])
      refine own_st (fun _ => XS.iconst X.here hx rfl (hb hby at_102)) ?_
      show own_E p e below Qq T (mkF m 103 #[.val (.int x0), .val (.int x1), .val (.int x2), .val (.int x3), .val (.int x4), .val (.int x5), .val (.int x6), .val (.int x7), .val (.int x8), .val (.ref xa), .val (.int x9)] [(.int (0 : Int32))])
      exact B103 _ _ x0 x1 x2 x3 x4 x5 x6 x7 x8 x9 (0 : Int32) xa g_lastTime g_members g_len g_f X ⟨_, J⟩ N hF
  have B84 : ∀ (T : State) (L : List Loc) (x0 : Int32) (x1 : Int32) (x2 : Int32) (x3 : Int32) (x4 : Int32) (x5 : Int32) (x6 : Int32) (x7 : Int32) (x8 : Int32) (y9 : Int32) (xa : Addr) (g_lastTime : Int32) (g_members : Int32) (g_len : Int32) (g_f : (Nat → Int32)), Stand p l e room_1 s m #[(.int p0), (.int p1), (.int p2), (.int p3), (.int p4), (.int p5)] below meth c T L 4 13315 → own_I Z n0 T.heap xa g_lastTime g_members g_len g_f → Fr n0 L → w = F0_84 x0 x1 x2 x3 x4 x5 x6 x7 x8 y9 g_lastTime g_members g_len g_f → (0 ≤ x6.toInt ∧ x6.toInt ≤ 4095 ∧ 0 ≤ x7.toInt ∧ x7.toInt ≤ 4095 ∧ 0 ≤ x8.toInt) → own_E p e below Qq T (mkF m 84 #[.val (.int x0), .val (.int x1), .val (.int x2), .val (.int x3), .val (.int x4), .val (.int x5), .val (.int x6), .val (.int x7), .val (.int x8), .val (.ref xa), .unset] [(.int y9)]) := by
    intro T L x0 x1 x2 x3 x4 x5 x6 x7 x8 y9 xa g_lastTime g_members g_len g_f X I N hF hP
    obtain ⟨b3, J⟩ := I
    refine own_st (fun _ => XS.istore X.here hx rfl (hb hby at_84) rfl (l' := #[.val (.int x0), .val (.int x1), .val (.int x2), .val (.int x3), .val (.int x4), .val (.int x5), .val (.int x6), .val (.int x7), .val (.int x8), .val (.ref xa), .val (.int y9)]) rfl) ?_
    show own_E p e below Qq T (mkF m 86 #[.val (.int x0), .val (.int x1), .val (.int x2), .val (.int x3), .val (.int x4), .val (.int x5), .val (.int x6), .val (.int x7), .val (.int x8), .val (.ref xa), .val (.int y9)] [])
    refine own_st (fun _ => XS.aload X.here hx rfl (hb hby at_86) rfl rfl) ?_
    show own_E p e below Qq T (mkF m 88 #[.val (.int x0), .val (.int x1), .val (.int x2), .val (.int x3), .val (.int x4), .val (.int x5), .val (.int x6), .val (.int x7), .val (.int x8), .val (.ref xa), .val (.int y9)] [(.ref xa)])
    refine own_st (fun _ => XS.iload X.here hx rfl (hb hby at_88) rfl) ?_
    show own_E p e below Qq T (mkF m 90 #[.val (.int x0), .val (.int x1), .val (.int x2), .val (.int x3), .val (.int x4), .val (.int x5), .val (.int x6), .val (.int x7), .val (.int x8), .val (.ref xa), .val (.int y9)] [(.int x8), (.ref xa)])
    refine own_callV X hx hZ hown (hw _ (List.mem_of_getElem? (i := 27) rfl)) (hw _ (List.mem_of_getElem? (i := 28) rfl)) (hw _ (List.mem_of_getElem? (i := 30) rfl)) (hw _ (List.mem_of_getElem? (i := 29) rfl)) (hw _ (List.mem_of_getElem? (i := 7) rfl)) (hw _ (List.mem_of_getElem? (i := 31) rfl)) (by decide) (own_Jex J) (W := 0) (argsL := [(.int x8)]) (rest := []) (rm6 l Z a0 hw xa x8 g_lastTime g_members g_len g_f _ n0 ⟨_, J⟩ hP.2.2.2.2) (by decide) (by decide) (by decide) (by decide) rfl (by rw [hml]; rfl) (lenOf pd_6 rfl) rfl (by show 2 * 0 + _ ≤ _; exact Nat.le_of_eq rfl) (hb hby at_90) ?_
    intro T4 L4 v X' hq
    clear J
    obtain ⟨rfl, N', b5, J⟩ := hq
    replace N := Fr.app N N'
    replace X : Stand p l e room_1 s m #[(.int p0), (.int p1), (.int p2), (.int p3), (.int p4), (.int p5)] below meth c T4 _ 4 13315 := X'
    clear X' N' 
    show own_E p e below Qq T4 (mkF m 93 #[.val (.int x0), .val (.int x1), .val (.int x2), .val (.int x3), .val (.int x4), .val (.int x5), .val (.int x6), .val (.int x7), .val (.int x8), .val (.ref xa), .val (.int y9)] [(.int (F6_0 x8 g_lastTime g_members g_len g_f))])
    exact B93 _ _ x0 x1 x2 x3 x4 x5 x6 x7 x8 y9 (F6_0 x8 g_lastTime g_members g_len g_f) xa g_lastTime g_members g_len g_f X ⟨_, J⟩ N hF
  have B79 : ∀ (T : State) (L : List Loc) (x0 : Int32) (x1 : Int32) (x2 : Int32) (x3 : Int32) (x4 : Int32) (x5 : Int32) (x6 : Int32) (x7 : Int32) (x8 : Int32) (xa : Addr) (g_lastTime : Int32) (g_members : Int32) (g_len : Int32) (g_f : (Nat → Int32)), Stand p l e room_1 s m #[(.int p0), (.int p1), (.int p2), (.int p3), (.int p4), (.int p5)] below meth c T L 4 13315 → own_I Z n0 T.heap xa g_lastTime g_members g_len g_f → Fr n0 L → w = F0_79 x0 x1 x2 x3 x4 x5 x6 x7 x8 g_lastTime g_members g_len g_f → (0 ≤ x6.toInt ∧ x6.toInt ≤ 4095 ∧ 0 ≤ x7.toInt ∧ x7.toInt ≤ 4095 ∧ 0 ≤ x8.toInt) → own_E p e below Qq T (mkF m 79 #[.val (.int x0), .val (.int x1), .val (.int x2), .val (.int x3), .val (.int x4), .val (.int x5), .val (.int x6), .val (.int x7), .val (.int x8), .val (.ref xa), .unset] []) := by
    intro T L x0 x1 x2 x3 x4 x5 x6 x7 x8 xa g_lastTime g_members g_len g_f X I N hF hP
    obtain ⟨b6, J⟩ := I
    refine own_st (fun _ => XS.iconst X.here hx rfl (hb hby at_79)) ?_
    show own_E p e below Qq T (mkF m 80 #[.val (.int x0), .val (.int x1), .val (.int x2), .val (.int x3), .val (.int x4), .val (.int x5), .val (.int x6), .val (.int x7), .val (.int x8), .val (.ref xa), .unset] [(.int (1 : Int32))])
    refine own_st (fun _ => XS.goto X.here hx rfl (pc0 := 80) (pc' := 84) rfl (hb hby at_80) (by decide) (by decide)) ?_
    show own_E p e below Qq T (mkF m 84 #[.val (.int x0), .val (.int x1), .val (.int x2), .val (.int x3), .val (.int x4), .val (.int x5), .val (.int x6), .val (.int x7), .val (.int x8), .val (.ref xa), .unset] [(.int (1 : Int32))])
    exact B84 _ _ x0 x1 x2 x3 x4 x5 x6 x7 x8 (1 : Int32) xa g_lastTime g_members g_len g_f X ⟨_, J⟩ N hF (by first | exact hP | decide)
  have B53 : ∀ (T : State) (L : List Loc) (x0 : Int32) (x1 : Int32) (x2 : Int32) (x3 : Int32) (x4 : Int32) (x5 : Int32) (x6 : Int32) (x7 : Int32) (x8 : Int32) (y9 : Int32) (xa : Addr) (g_lastTime : Int32) (g_members : Int32) (g_len : Int32) (g_f : (Nat → Int32)), Stand p l e room_1 s m #[(.int p0), (.int p1), (.int p2), (.int p3), (.int p4), (.int p5)] below meth c T L 4 13315 → own_I Z n0 T.heap xa g_lastTime g_members g_len g_f → Fr n0 L → w = F0_53 x0 x1 x2 x3 x4 x5 x6 x7 x8 y9 g_lastTime g_members g_len g_f → (0 ≤ x6.toInt ∧ x6.toInt ≤ 4095 ∧ 0 ≤ x7.toInt ∧ x7.toInt ≤ 4095 ∧ 0 ≤ x8.toInt) → own_E p e below Qq T (mkF m 53 #[.val (.int x0), .val (.int x1), .val (.int x2), .val (.int x3), .val (.int x4), .val (.int x5), .val (.int x6), .val (.int x7), .val (.int x8), .val (.ref xa), .unset] [(.int y9)]) := by
    intro T L x0 x1 x2 x3 x4 x5 x6 x7 x8 y9 xa g_lastTime g_members g_len g_f X I N hF hP
    obtain ⟨b7, J⟩ := I
    refine own_st (fun _ => XT.pop X.here hx rfl (hb hby at_53) rfl rfl) ?_
    show own_E p e below Qq T (mkF m 54 #[.val (.int x0), .val (.int x1), .val (.int x2), .val (.int x3), .val (.int x4), .val (.int x5), .val (.int x6), .val (.int x7), .val (.int x8), .val (.ref xa), .unset] [])
    refine own_st (fun _ => XS.iload X.here hx rfl (hb hby at_54) rfl) ?_
    show own_E p e below Qq T (mkF m 56 #[.val (.int x0), .val (.int x1), .val (.int x2), .val (.int x3), .val (.int x4), .val (.int x5), .val (.int x6), .val (.int x7), .val (.int x8), .val (.ref xa), .unset] [(.int x8)])
    refine own_st (fun _ => XS.iload X.here hx rfl (hb hby at_56) rfl) ?_
    show own_E p e below Qq T (mkF m 58 #[.val (.int x0), .val (.int x1), .val (.int x2), .val (.int x3), .val (.int x4), .val (.int x5), .val (.int x6), .val (.int x7), .val (.int x8), .val (.ref xa), .unset] [(.int x6), (.int x8)])
    refine own_st (fun _ => XS.iloadN X.here hx rfl (hb hby at_58) rfl) ?_
    show own_E p e below Qq T (mkF m 59 #[.val (.int x0), .val (.int x1), .val (.int x2), .val (.int x3), .val (.int x4), .val (.int x5), .val (.int x6), .val (.int x7), .val (.int x8), .val (.ref xa), .unset] [(.int x2), (.int x6), (.int x8)])
    refine own_st (fun _ => XS.iloadN X.here hx rfl (hb hby at_59) rfl) ?_
    show own_E p e below Qq T (mkF m 60 #[.val (.int x0), .val (.int x1), .val (.int x2), .val (.int x3), .val (.int x4), .val (.int x5), .val (.int x6), .val (.int x7), .val (.int x8), .val (.ref xa), .unset] [(.int x0), (.int x2), (.int x6), (.int x8)])
    refine own_callS X hx hZ hown (hw _ (List.mem_of_getElem? (i := 24) rfl)) (hw _ (List.mem_of_getElem? (i := 25) rfl)) (hw _ (List.mem_of_getElem? (i := 2) rfl)) (hw _ (List.mem_of_getElem? (i := 26) rfl)) (by decide) (W := 0) (argsL := [(.int x8), (.int x6), (.int x2), (.int x0)]) (rest := []) (rm5 l Z a0 hw x8 x6 x2 x0 _ n0) (by decide) (by decide) (by decide) (by decide) rfl (by rw [hml]; rfl) (lenOf pd_5 rfl) rfl (by show 2 * 0 + _ ≤ _; exact Nat.le_of_eq rfl) (hb hby at_60) ?_
    intro T8 L8 v X' hq
    obtain ⟨rfl, N', e'⟩ := hq
    replace J := own_tr (P := fun h => own_J Z n0 h xa b7 g_lastTime g_members g_len g_f) e' J
    replace N := Fr.app N N'
    replace X : Stand p l e room_1 s m #[(.int p0), (.int p1), (.int p2), (.int p3), (.int p4), (.int p5)] below meth c T8 _ 4 13315 := X'
    clear X' N' e'
    show own_E p e below Qq T8 (mkF m 63 #[.val (.int x0), .val (.int x1), .val (.int x2), .val (.int x3), .val (.int x4), .val (.int x5), .val (.int x6), .val (.int x7), .val (.int x8), .val (.ref xa), .unset] [(.int (F5_0 x8 x6 x2 x0))])
    by_cases q63 : (F5_0 x8 x6 x2 x0) = (0 : Int32)
    · replace hF := hF.trans (if_pos q63)
      refine own_st (fun _ => XS.ifNo X.here hx rfl (hb hby at_63) rfl (XT.i0_ne_f q63)) ?_
      show own_E p e below Qq T8 (mkF m 66 #[.val (.int x0), .val (.int x1), .val (.int x2), .val (.int x3), .val (.int x4), .val (.int x5), .val (.int x6), .val (.int x7), .val (.int x8), .val (.ref xa), .unset] [])
      refine own_st (fun _ => XS.iload X.here hx rfl (hb hby at_66) rfl) ?_
      show own_E p e below Qq T8 (mkF m 68 #[.val (.int x0), .val (.int x1), .val (.int x2), .val (.int x3), .val (.int x4), .val (.int x5), .val (.int x6), .val (.int x7), .val (.int x8), .val (.ref xa), .unset] [(.int x8)])
      refine own_st (fun _ => XS.iload X.here hx rfl (hb hby at_68) rfl) ?_
      show own_E p e below Qq T8 (mkF m 70 #[.val (.int x0), .val (.int x1), .val (.int x2), .val (.int x3), .val (.int x4), .val (.int x5), .val (.int x6), .val (.int x7), .val (.int x8), .val (.ref xa), .unset] [(.int x7), (.int x8)])
      refine own_st (fun _ => XS.iload X.here hx rfl (hb hby at_70) rfl) ?_
      show own_E p e below Qq T8 (mkF m 72 #[.val (.int x0), .val (.int x1), .val (.int x2), .val (.int x3), .val (.int x4), .val (.int x5), .val (.int x6), .val (.int x7), .val (.int x8), .val (.ref xa), .unset] [(.int x4), (.int x7), (.int x8)])
      refine own_st (fun _ => XS.iloadN X.here hx rfl (hb hby at_72) rfl) ?_
      show own_E p e below Qq T8 (mkF m 73 #[.val (.int x0), .val (.int x1), .val (.int x2), .val (.int x3), .val (.int x4), .val (.int x5), .val (.int x6), .val (.int x7), .val (.int x8), .val (.ref xa), .unset] [(.int x0), (.int x4), (.int x7), (.int x8)])
      refine own_callS X hx hZ hown (hw _ (List.mem_of_getElem? (i := 24) rfl)) (hw _ (List.mem_of_getElem? (i := 25) rfl)) (hw _ (List.mem_of_getElem? (i := 2) rfl)) (hw _ (List.mem_of_getElem? (i := 26) rfl)) (by decide) (W := 0) (argsL := [(.int x8), (.int x7), (.int x4), (.int x0)]) (rest := []) (rm5 l Z a0 hw x8 x7 x4 x0 _ n0) (by decide) (by decide) (by decide) (by decide) rfl (by rw [hml]; rfl) (lenOf pd_5 rfl) rfl (by show 2 * 0 + _ ≤ _; exact Nat.le_of_eq rfl) (hb hby at_73) ?_
      intro T9 L9 v X' hq
      obtain ⟨rfl, N', e'⟩ := hq
      replace J := own_tr (P := fun h => own_J Z n0 h xa b7 g_lastTime g_members g_len g_f) e' J
      replace N := Fr.app N N'
      replace X : Stand p l e room_1 s m #[(.int p0), (.int p1), (.int p2), (.int p3), (.int p4), (.int p5)] below meth c T9 _ 4 13315 := X'
      clear X' N' e'
      show own_E p e below Qq T9 (mkF m 76 #[.val (.int x0), .val (.int x1), .val (.int x2), .val (.int x3), .val (.int x4), .val (.int x5), .val (.int x6), .val (.int x7), .val (.int x8), .val (.ref xa), .unset] [(.int (F5_0 x8 x7 x4 x0))])
      by_cases q76 : (F5_0 x8 x7 x4 x0) = (0 : Int32)
      · replace hF := hF.trans (if_pos q76)
        refine own_st (fun _ => XS.ifYes X.here hx rfl (pc0 := 76) (pc' := 83) rfl (hb hby at_76) rfl (XT.i0_eq_t q76) (by decide) (by decide)) ?_
        show own_E p e below Qq T9 (mkF m 83 #[.val (.int x0), .val (.int x1), .val (.int x2), .val (.int x3), .val (.int x4), .val (.int x5), .val (.int x6), .val (.int x7), .val (.int x8), .val (.ref xa), .unset] [])
        refine own_st (fun _ => XS.iconst X.here hx rfl (hb hby at_83)) ?_
        show own_E p e below Qq T9 (mkF m 84 #[.val (.int x0), .val (.int x1), .val (.int x2), .val (.int x3), .val (.int x4), .val (.int x5), .val (.int x6), .val (.int x7), .val (.int x8), .val (.ref xa), .unset] [(.int (0 : Int32))])
        exact B84 _ _ x0 x1 x2 x3 x4 x5 x6 x7 x8 (0 : Int32) xa g_lastTime g_members g_len g_f X ⟨_, J⟩ N hF (by first | exact hP | decide)
      · replace hF := hF.trans (if_neg q76)
        refine own_st (fun _ => XS.ifNo X.here hx rfl (hb hby at_76) rfl (XT.i0_eq_f q76)) ?_
        show own_E p e below Qq T9 (mkF m 79 #[.val (.int x0), .val (.int x1), .val (.int x2), .val (.int x3), .val (.int x4), .val (.int x5), .val (.int x6), .val (.int x7), .val (.int x8), .val (.ref xa), .unset] [])
        exact B79 _ _ x0 x1 x2 x3 x4 x5 x6 x7 x8 xa g_lastTime g_members g_len g_f X ⟨_, J⟩ N hF (by first | exact hP | decide)
    · replace hF := hF.trans (if_neg q63)
      refine own_st (fun _ => XS.ifYes X.here hx rfl (pc0 := 63) (pc' := 79) rfl (hb hby at_63) rfl (XT.i0_ne_t q63) (by decide) (by decide)) ?_
      show own_E p e below Qq T8 (mkF m 79 #[.val (.int x0), .val (.int x1), .val (.int x2), .val (.int x3), .val (.int x4), .val (.int x5), .val (.int x6), .val (.int x7), .val (.int x8), .val (.ref xa), .unset] [])
      exact B79 _ _ x0 x1 x2 x3 x4 x5 x6 x7 x8 xa g_lastTime g_members g_len g_f X ⟨_, J⟩ N hF (by first | exact hP | decide)
  have B43 : ∀ (T : State) (L : List Loc) (x0 : Int32) (x1 : Int32) (x2 : Int32) (x3 : Int32) (x4 : Int32) (x5 : Int32) (x6 : Int32) (x7 : Int32) (x8 : Int32) (y9 : Int32) (xa : Addr) (g_lastTime : Int32) (g_members : Int32) (g_len : Int32) (g_f : (Nat → Int32)), Stand p l e room_1 s m #[(.int p0), (.int p1), (.int p2), (.int p3), (.int p4), (.int p5)] below meth c T L 3 7171 → own_I Z n0 T.heap xa g_lastTime g_members g_len g_f → Fr n0 L → w = F0_43 x0 x1 x2 x3 x4 x5 x6 x7 x8 y9 g_lastTime g_members g_len g_f → (0 ≤ x6.toInt ∧ x6.toInt ≤ 4095 ∧ 0 ≤ x7.toInt ∧ x7.toInt ≤ 4095 ∧ 0 ≤ x8.toInt) → own_E p e below Qq T (mkF m 43 #[.val (.int x0), .val (.int x1), .val (.int x2), .val (.int x3), .val (.int x4), .val (.int x5), .val (.int x6), .val (.int x7), .val (.int x8), .val (.ref xa), .unset] [(.int y9)]) := by
    intro T L x0 x1 x2 x3 x4 x5 x6 x7 x8 y9 xa g_lastTime g_members g_len g_f X I N hF hP
    obtain ⟨b10, J⟩ := I
    refine own_st (fun _ => XT.pop X.here hx rfl (hb hby at_43) rfl rfl) ?_
    show own_E p e below Qq T (mkF m 44 #[.val (.int x0), .val (.int x1), .val (.int x2), .val (.int x3), .val (.int x4), .val (.int x5), .val (.int x6), .val (.int x7), .val (.int x8), .val (.ref xa), .unset] [])
    refine own_st (fun _ => XS.aload X.here hx rfl (hb hby at_44) rfl rfl) ?_
    show own_E p e below Qq T (mkF m 46 #[.val (.int x0), .val (.int x1), .val (.int x2), .val (.int x3), .val (.int x4), .val (.int x5), .val (.int x6), .val (.int x7), .val (.int x8), .val (.ref xa), .unset] [(.ref xa)])
    refine own_st (fun _ => XS.iload X.here hx rfl (hb hby at_46) rfl) ?_
    show own_E p e below Qq T (mkF m 48 #[.val (.int x0), .val (.int x1), .val (.int x2), .val (.int x3), .val (.int x4), .val (.int x5), .val (.int x6), .val (.int x7), .val (.int x8), .val (.ref xa), .unset] [(.int x7), (.ref xa)])
    refine own_st (fun _ => XS.iload X.here hx rfl (hb hby at_48) rfl) ?_
    show own_E p e below Qq T (mkF m 50 #[.val (.int x0), .val (.int x1), .val (.int x2), .val (.int x3), .val (.int x4), .val (.int x5), .val (.int x6), .val (.int x7), .val (.int x8), .val (.ref xa), .unset] [(.int x4), (.int x7), (.ref xa)])
    refine own_callV X hx hZ hown (hw _ (List.mem_of_getElem? (i := 19) rfl)) (hw _ (List.mem_of_getElem? (i := 20) rfl)) (hw _ (List.mem_of_getElem? (i := 22) rfl)) (hw _ (List.mem_of_getElem? (i := 21) rfl)) (hw _ (List.mem_of_getElem? (i := 7) rfl)) (hw _ (List.mem_of_getElem? (i := 23) rfl)) (by decide) (own_Jex J) (W := 0) (argsL := [(.int x7), (.int x4)]) (rest := []) (rm4 l Z a0 hw xa x7 x4 g_lastTime g_members g_len g_f _ n0 ⟨_, J⟩ ⟨hP.2.2.1, hP.2.2.2.1⟩) (by decide) (by decide) (by decide) (by decide) rfl (by rw [hml]; rfl) (lenOf pd_4 rfl) rfl (by show 2 * 0 + _ ≤ _; exact Nat.le_of_eq rfl) (hb hby at_50) ?_
    intro T11 L11 v X' hq
    clear J
    obtain ⟨rfl, N', b12, J⟩ := hq
    replace N := Fr.app N N'
    replace X : Stand p l e room_1 s m #[(.int p0), (.int p1), (.int p2), (.int p3), (.int p4), (.int p5)] below meth c T11 _ 4 13315 := X'
    clear X' N' 
    show own_E p e below Qq T11 (mkF m 53 #[.val (.int x0), .val (.int x1), .val (.int x2), .val (.int x3), .val (.int x4), .val (.int x5), .val (.int x6), .val (.int x7), .val (.int x8), .val (.ref xa), .unset] [(.int (F4_0 x7 x4 g_lastTime g_members g_len g_f).1)])
    exact B53 _ _ x0 x1 x2 x3 x4 x5 x6 x7 x8 (F4_0 x7 x4 g_lastTime g_members g_len g_f).1 xa g_lastTime (F4_0 x7 x4 g_lastTime g_members g_len g_f).2.1 (F4_0 x7 x4 g_lastTime g_members g_len g_f).2.2.1 (F4_0 x7 x4 g_lastTime g_members g_len g_f).2.2.2 X ⟨_, J⟩ N hF (by first | exact hP | decide)
  have B33 : ∀ (T : State) (L : List Loc) (x0 : Int32) (x1 : Int32) (x2 : Int32) (x3 : Int32) (x4 : Int32) (x5 : Int32) (x6 : Int32) (x7 : Int32) (x8 : Int32) (xa : Addr) (g_lastTime : Int32) (g_members : Int32) (g_len : Int32) (g_f : (Nat → Int32)), Stand p l e room_1 s m #[(.int p0), (.int p1), (.int p2), (.int p3), (.int p4), (.int p5)] below meth c T L 2 1027 → own_I Z n0 T.heap xa g_lastTime g_members g_len g_f → Fr n0 L → w = F0_33 x0 x1 x2 x3 x4 x5 x6 x7 x8 g_lastTime g_members g_len g_f → (0 ≤ x6.toInt ∧ x6.toInt ≤ 4095 ∧ 0 ≤ x7.toInt ∧ x7.toInt ≤ 4095 ∧ 0 ≤ x8.toInt) → own_E p e below Qq T (mkF m 33 #[.val (.int x0), .val (.int x1), .val (.int x2), .val (.int x3), .val (.int x4), .val (.int x5), .val (.int x6), .val (.int x7), .val (.int x8), .unset, .unset] [(.ref xa)]) := by
    intro T L x0 x1 x2 x3 x4 x5 x6 x7 x8 xa g_lastTime g_members g_len g_f X I N hF hP
    obtain ⟨b13, J⟩ := I
    refine own_st (fun _ => XS.astore X.here hx rfl (hb hby at_33) rfl rfl (l' := #[.val (.int x0), .val (.int x1), .val (.int x2), .val (.int x3), .val (.int x4), .val (.int x5), .val (.int x6), .val (.int x7), .val (.int x8), .val (.ref xa), .unset]) rfl) ?_
    show own_E p e below Qq T (mkF m 35 #[.val (.int x0), .val (.int x1), .val (.int x2), .val (.int x3), .val (.int x4), .val (.int x5), .val (.int x6), .val (.int x7), .val (.int x8), .val (.ref xa), .unset] [])
    refine own_st (fun _ => XS.aload X.here hx rfl (hb hby at_35) rfl rfl) ?_
    show own_E p e below Qq T (mkF m 37 #[.val (.int x0), .val (.int x1), .val (.int x2), .val (.int x3), .val (.int x4), .val (.int x5), .val (.int x6), .val (.int x7), .val (.int x8), .val (.ref xa), .unset] [(.ref xa)])
    refine own_st (fun _ => XS.iload X.here hx rfl (hb hby at_37) rfl) ?_
    show own_E p e below Qq T (mkF m 39 #[.val (.int x0), .val (.int x1), .val (.int x2), .val (.int x3), .val (.int x4), .val (.int x5), .val (.int x6), .val (.int x7), .val (.int x8), .val (.ref xa), .unset] [(.int x6), (.ref xa)])
    refine own_st (fun _ => XS.iloadN X.here hx rfl (hb hby at_39) rfl) ?_
    show own_E p e below Qq T (mkF m 40 #[.val (.int x0), .val (.int x1), .val (.int x2), .val (.int x3), .val (.int x4), .val (.int x5), .val (.int x6), .val (.int x7), .val (.int x8), .val (.ref xa), .unset] [(.int x2), (.int x6), (.ref xa)])
    refine own_callV X hx hZ hown (hw _ (List.mem_of_getElem? (i := 19) rfl)) (hw _ (List.mem_of_getElem? (i := 20) rfl)) (hw _ (List.mem_of_getElem? (i := 22) rfl)) (hw _ (List.mem_of_getElem? (i := 21) rfl)) (hw _ (List.mem_of_getElem? (i := 7) rfl)) (hw _ (List.mem_of_getElem? (i := 23) rfl)) (by decide) (own_Jex J) (W := 0) (argsL := [(.int x6), (.int x2)]) (rest := []) (rm4 l Z a0 hw xa x6 x2 g_lastTime g_members g_len g_f _ n0 ⟨_, J⟩ ⟨hP.1, hP.2.1⟩) (by decide) (by decide) (by decide) (by decide) rfl (by rw [hml]; rfl) (lenOf pd_4 rfl) rfl (by show 2 * 0 + _ ≤ _; exact Nat.le_of_eq rfl) (hb hby at_40) ?_
    intro T14 L14 v X' hq
    clear J
    obtain ⟨rfl, N', b15, J⟩ := hq
    replace N := Fr.app N N'
    replace X : Stand p l e room_1 s m #[(.int p0), (.int p1), (.int p2), (.int p3), (.int p4), (.int p5)] below meth c T14 _ 3 7171 := X'
    clear X' N' 
    show own_E p e below Qq T14 (mkF m 43 #[.val (.int x0), .val (.int x1), .val (.int x2), .val (.int x3), .val (.int x4), .val (.int x5), .val (.int x6), .val (.int x7), .val (.int x8), .val (.ref xa), .unset] [(.int (F4_0 x6 x2 g_lastTime g_members g_len g_f).1)])
    exact B43 _ _ x0 x1 x2 x3 x4 x5 x6 x7 x8 (F4_0 x6 x2 g_lastTime g_members g_len g_f).1 xa g_lastTime (F4_0 x6 x2 g_lastTime g_members g_len g_f).2.1 (F4_0 x6 x2 g_lastTime g_members g_len g_f).2.2.1 (F4_0 x6 x2 g_lastTime g_members g_len g_f).2.2.2 X ⟨_, J⟩ N hF (by first | exact hP | decide)
  show own_E p e below Qq T (mkF m 0 #[.val (.int p0), .val (.int p1), .val (.int p2), .val (.int p3), .val (.int p4), .val (.int p5), .unset, .unset, .unset, .unset, .unset] [])
  refine own_st (fun _ => XS.iloadN X.here hx rfl (hb hby at_0) rfl) ?_
  show own_E p e below Qq T (mkF m 1 #[.val (.int p0), .val (.int p1), .val (.int p2), .val (.int p3), .val (.int p4), .val (.int p5), .unset, .unset, .unset, .unset, .unset] [(.int p1)])
  refine own_st (fun _ => XS.sipush X.here hx rfl (hb hby at_1)) ?_
  show own_E p e below Qq T (mkF m 4 #[.val (.int p0), .val (.int p1), .val (.int p2), .val (.int p3), .val (.int p4), .val (.int p5), .unset, .unset, .unset, .unset, .unset] [(.int (4095 : Int32)), (.int p1)])
  refine own_st (fun _ => XS.iand X.here hx rfl (hb hby at_4) rfl) ?_
  show own_E p e below Qq T (mkF m 5 #[.val (.int p0), .val (.int p1), .val (.int p2), .val (.int p3), .val (.int p4), .val (.int p5), .unset, .unset, .unset, .unset, .unset] [(.int (p1 &&& (4095 : Int32)))])
  refine own_st (fun _ => XS.istore X.here hx rfl (hb hby at_5) rfl (l' := #[.val (.int p0), .val (.int p1), .val (.int p2), .val (.int p3), .val (.int p4), .val (.int p5), .val (.int (p1 &&& (4095 : Int32))), .unset, .unset, .unset, .unset]) rfl) ?_
  show own_E p e below Qq T (mkF m 7 #[.val (.int p0), .val (.int p1), .val (.int p2), .val (.int p3), .val (.int p4), .val (.int p5), .val (.int (p1 &&& (4095 : Int32))), .unset, .unset, .unset, .unset] [])
  refine own_st (fun _ => XS.iloadN X.here hx rfl (hb hby at_7) rfl) ?_
  show own_E p e below Qq T (mkF m 8 #[.val (.int p0), .val (.int p1), .val (.int p2), .val (.int p3), .val (.int p4), .val (.int p5), .val (.int (p1 &&& (4095 : Int32))), .unset, .unset, .unset, .unset] [(.int p3)])
  refine own_st (fun _ => XS.sipush X.here hx rfl (hb hby at_8)) ?_
  show own_E p e below Qq T (mkF m 11 #[.val (.int p0), .val (.int p1), .val (.int p2), .val (.int p3), .val (.int p4), .val (.int p5), .val (.int (p1 &&& (4095 : Int32))), .unset, .unset, .unset, .unset] [(.int (4095 : Int32)), (.int p3)])
  refine own_st (fun _ => XS.iand X.here hx rfl (hb hby at_11) rfl) ?_
  show own_E p e below Qq T (mkF m 12 #[.val (.int p0), .val (.int p1), .val (.int p2), .val (.int p3), .val (.int p4), .val (.int p5), .val (.int (p1 &&& (4095 : Int32))), .unset, .unset, .unset, .unset] [(.int (p3 &&& (4095 : Int32)))])
  refine own_st (fun _ => XS.istore X.here hx rfl (hb hby at_12) rfl (l' := #[.val (.int p0), .val (.int p1), .val (.int p2), .val (.int p3), .val (.int p4), .val (.int p5), .val (.int (p1 &&& (4095 : Int32))), .val (.int (p3 &&& (4095 : Int32))), .unset, .unset, .unset]) rfl) ?_
  show own_E p e below Qq T (mkF m 14 #[.val (.int p0), .val (.int p1), .val (.int p2), .val (.int p3), .val (.int p4), .val (.int p5), .val (.int (p1 &&& (4095 : Int32))), .val (.int (p3 &&& (4095 : Int32))), .unset, .unset, .unset] [])
  refine own_st (fun _ => XS.iload X.here hx rfl (hb hby at_14) rfl) ?_
  show own_E p e below Qq T (mkF m 16 #[.val (.int p0), .val (.int p1), .val (.int p2), .val (.int p3), .val (.int p4), .val (.int p5), .val (.int (p1 &&& (4095 : Int32))), .val (.int (p3 &&& (4095 : Int32))), .unset, .unset, .unset] [(.int p5)])
  refine own_st (fun _ => XS.iload X.here hx rfl (hb hby at_16) rfl) ?_
  show own_E p e below Qq T (mkF m 18 #[.val (.int p0), .val (.int p1), .val (.int p2), .val (.int p3), .val (.int p4), .val (.int p5), .val (.int (p1 &&& (4095 : Int32))), .val (.int (p3 &&& (4095 : Int32))), .unset, .unset, .unset] [(.int (p1 &&& (4095 : Int32))), (.int p5)])
  refine own_st (fun _ => XS.iload X.here hx rfl (hb hby at_18) rfl) ?_
  show own_E p e below Qq T (mkF m 20 #[.val (.int p0), .val (.int p1), .val (.int p2), .val (.int p3), .val (.int p4), .val (.int p5), .val (.int (p1 &&& (4095 : Int32))), .val (.int (p3 &&& (4095 : Int32))), .unset, .unset, .unset] [(.int (p3 &&& (4095 : Int32))), (.int (p1 &&& (4095 : Int32))), (.int p5)])
  refine own_callS X hx hZ hown (hw _ (List.mem_of_getElem? (i := 0) rfl)) (hw _ (List.mem_of_getElem? (i := 1) rfl)) (hw _ (List.mem_of_getElem? (i := 2) rfl)) (hw _ (List.mem_of_getElem? (i := 3) rfl)) (by decide) (W := 0) (argsL := [(.int p5), (.int (p1 &&& (4095 : Int32))), (.int (p3 &&& (4095 : Int32)))]) (rest := []) (rm1 l Z a0 hw p5 (p1 &&& (4095 : Int32)) (p3 &&& (4095 : Int32)) _ n0) (by decide) (by decide) (by decide) (by decide) rfl (by rw [hml]; rfl) (lenOf pd_1 rfl) rfl (by show 2 * 0 + _ ≤ _; exact Nat.le_of_eq rfl) (hb hby at_20) ?_
  intro T16 L16 v X' hq
  obtain ⟨rfl, N', e'⟩ := hq
  replace Z0 : n0 ≤ T16.heap.size := by rw [e']; exact Z0
  replace N := Fr.app N N'
  replace X : Stand p l e room_1 s m #[(.int p0), (.int p1), (.int p2), (.int p3), (.int p4), (.int p5)] below meth c T16 _ 0 0 := X'
  clear X' N' e'
  show own_E p e below Qq T16 (mkF m 23 #[.val (.int p0), .val (.int p1), .val (.int p2), .val (.int p3), .val (.int p4), .val (.int p5), .val (.int (p1 &&& (4095 : Int32))), .val (.int (p3 &&& (4095 : Int32))), .unset, .unset, .unset] [(.int (F1_0 p5 (p1 &&& (4095 : Int32)) (p3 &&& (4095 : Int32))))])
  refine own_st (fun _ => XS.istore X.here hx rfl (hb hby at_23) rfl (l' := #[.val (.int p0), .val (.int p1), .val (.int p2), .val (.int p3), .val (.int p4), .val (.int p5), .val (.int (p1 &&& (4095 : Int32))), .val (.int (p3 &&& (4095 : Int32))), .val (.int (F1_0 p5 (p1 &&& (4095 : Int32)) (p3 &&& (4095 : Int32)))), .unset, .unset]) rfl) ?_
  show own_E p e below Qq T16 (mkF m 25 #[.val (.int p0), .val (.int p1), .val (.int p2), .val (.int p3), .val (.int p4), .val (.int p5), .val (.int (p1 &&& (4095 : Int32))), .val (.int (p3 &&& (4095 : Int32))), .val (.int (F1_0 p5 (p1 &&& (4095 : Int32)) (p3 &&& (4095 : Int32)))), .unset, .unset] [])
  obtain ⟨T17, h17, X17, e17, E17, A17, D17, -, st17⟩ := newO X hx hZ hown (hw _ (List.mem_of_getElem? (i := 5) rfl)) (hw _ (List.mem_of_getElem? (i := 6) rfl)) (hw _ (List.mem_of_getElem? (i := 7) rfl)) rfl (g := (mkF m 25 #[.val (.int p0), .val (.int p1), .val (.int p2), .val (.int p3), .val (.int p4), .val (.int p5), .val (.int (p1 &&& (4095 : Int32))), .val (.int (p3 &&& (4095 : Int32))), .val (.int (F1_0 p5 (p1 &&& (4095 : Int32)) (p3 &&& (4095 : Int32)))), .unset, .unset] [])) rfl (hb hby at_25) (by decide) (by decide)
  obtain ⟨a17, ga17⟩ : ∃ z, z = T16.heap.size := ⟨_, rfl⟩
  rw [← ga17] at A17 D17 st17
  subst e17
  have I' := own_Inew hw (Nat.le_trans Z0 (Nat.le_of_eq ga17.symm)) A17 @D17
  have I := I'
  refine own_st st17 ?_
  replace X := X17
  clear I' st17 X17 A17 D17 E17
  show own_E p e below Qq T17 (mkF m 28 #[.val (.int p0), .val (.int p1), .val (.int p2), .val (.int p3), .val (.int p4), .val (.int p5), .val (.int (p1 &&& (4095 : Int32))), .val (.int (p3 &&& (4095 : Int32))), .val (.int (F1_0 p5 (p1 &&& (4095 : Int32)) (p3 &&& (4095 : Int32)))), .unset, .unset] [(.ref a17)])
  refine own_st (fun _ => XS.dup X.here hx rfl (hb hby at_28) rfl rfl) ?_
  show own_E p e below Qq T17 (mkF m 29 #[.val (.int p0), .val (.int p1), .val (.int p2), .val (.int p3), .val (.int p4), .val (.int p5), .val (.int (p1 &&& (4095 : Int32))), .val (.int (p3 &&& (4095 : Int32))), .val (.int (F1_0 p5 (p1 &&& (4095 : Int32)) (p3 &&& (4095 : Int32)))), .unset, .unset] [(.ref a17), (.ref a17)])
  refine own_st (fun _ => XS.iloadN X.here hx rfl (hb hby at_29) rfl) ?_
  show own_E p e below Qq T17 (mkF m 30 #[.val (.int p0), .val (.int p1), .val (.int p2), .val (.int p3), .val (.int p4), .val (.int p5), .val (.int (p1 &&& (4095 : Int32))), .val (.int (p3 &&& (4095 : Int32))), .val (.int (F1_0 p5 (p1 &&& (4095 : Int32)) (p3 &&& (4095 : Int32)))), .unset, .unset] [(.int p0), (.ref a17), (.ref a17)])
  refine own_callC X hx hZ (y := (⟨"com/example/refstone/refstone/service/LatestRows", "<init>", "(I)V"⟩ : MethodName)) rfl hown (hw _ (List.mem_of_getElem? (i := 8) rfl)) (hw _ (List.mem_of_getElem? (i := 9) rfl)) (hw _ (List.mem_of_getElem? (i := 7) rfl)) (hw _ (List.mem_of_getElem? (i := 10) rfl)) (by decide) (W := 1) (a := a17) (argsL := [(.int p0)]) (rest := [(.ref a17)]) (rm2 l Z a0 hw a17 p0 (0 : Int32) (0 : Int32) (0 : Int32) (fun _ => 0) _ n0 I) (by decide) (by decide) (by decide) (by decide) rfl (by rw [hml]; rfl) (lenOf pd_2 rfl) rfl (by show 2 * 0 + _ ≤ _; exact Nat.le_of_eq rfl) (hb hby at_30) ?_
  intro T18 L18 v X' hq
  obtain ⟨rfl, N', b19, J⟩ := hq
  replace N := Fr.app N N'
  replace X : Stand p l e room_1 s m #[(.int p0), (.int p1), (.int p2), (.int p3), (.int p4), (.int p5)] below meth c T18 _ 2 1027 := X'
  clear X' N' 
  show own_E p e below Qq T18 (mkF m 33 #[.val (.int p0), .val (.int p1), .val (.int p2), .val (.int p3), .val (.int p4), .val (.int p5), .val (.int (p1 &&& (4095 : Int32))), .val (.int (p3 &&& (4095 : Int32))), .val (.int (F1_0 p5 (p1 &&& (4095 : Int32)) (p3 &&& (4095 : Int32)))), .unset, .unset] [(.ref a17)])
  exact B33 _ _ p0 p1 p2 p3 p4 p5 (p1 &&& (4095 : Int32)) (p3 &&& (4095 : Int32)) (F1_0 p5 (p1 &&& (4095 : Int32)) (p3 &&& (4095 : Int32))) a17 (F2_0 p0 (0 : Int32) (0 : Int32) (0 : Int32) (fun _ => 0)).1 (F2_0 p0 (0 : Int32) (0 : Int32) (0 : Int32) (fun _ => 0)).2.1 (F2_0 p0 (0 : Int32) (0 : Int32) (0 : Int32) (fun _ => 0)).2.2.1 (F2_0 p0 (0 : Int32) (0 : Int32) (0 : Int32) (fun _ => 0)).2.2.2 X ⟨_, J⟩ N hF (own_PL _ _ _)
def own_val (len : Int32) (f : Nat → Int32) (i : Int32) : Int32 := if i < len then f i.toNatClampNeg else 0
theorem own_idx {i m : Int32} (hi : 0 ≤ i.toInt) (hm : 0 ≤ m.toInt) (h : i.toNatClampNeg = m.toNatClampNeg) : i = m := by
  have h' : i.toInt.toNat = m.toInt.toNat := h
  exact Int32.toInt_inj.mp (by omega)
theorem own_31 (m t last mem len : Int32) (f : Nat → Int32) (i : Int32) (hm : 0 ≤ m.toInt) (hi : 0 ≤ i.toInt) (hl : m < len) :
    (F4_31 m t last mem len f).2.2.1 = len ∧ own_val len (F4_31 m t last mem len f).2.2.2 i = if i = m ∧ own_val len f i < t then t else own_val len f i := by
  have v : own_val len f m = f m.toNatClampNeg := if_pos hl
  by_cases q : f m.toNatClampNeg < t
  · have e : (F4_31 m t last mem len f).2.2.1 = len ∧ (F4_31 m t last mem len f).2.2.2 = own_upd f m.toNatClampNeg t := by
      rw [F4_31, if_pos q]
      split <;> exact ⟨rfl, rfl⟩
    refine ⟨e.1, ?_⟩
    rw [e.2]
    by_cases z : i = m
    · subst z
      rw [if_pos ⟨rfl, by rw [v]; exact q⟩]
      show (if i < len then own_upd f i.toNatClampNeg t i.toNatClampNeg else 0) = t
      rw [if_pos hl]
      exact if_pos rfl
    · rw [if_neg (fun y => z y.1)]
      show (if i < len then own_upd f m.toNatClampNeg t i.toNatClampNeg else 0) = if i < len then f i.toNatClampNeg else 0
      have : own_upd f m.toNatClampNeg t i.toNatClampNeg = f i.toNatClampNeg := if_neg (fun y => z (own_idx hi hm y))
      rw [this]
  · have e : F4_31 m t last mem len f = ((0 : Int32), mem, len, f) := by rw [F4_31, if_neg q]
    rw [e]
    refine ⟨rfl, ?_⟩
    rw [if_neg (fun y => q (by rw [← v, ← y.1]; exact y.2))]
theorem own_cpv (len len' : Int32) (f : Nat → Int32) (i : Int32) (hl : 0 ≤ len.toInt) (h : len.toInt < len'.toInt) (hi : 0 ≤ i.toInt) : own_val len' (own_cp len f) i = own_val len f i := by
  by_cases q : i < len
  · have q' := q
    rw [Int32.lt_iff_toInt_lt] at q'
    have q2 : i < len' := by rw [Int32.lt_iff_toInt_lt]; omega
    show (if i < len' then own_cp len f i.toNatClampNeg else 0) = if i < len then f i.toNatClampNeg else 0
    rw [if_pos q2, if_pos q]
    exact if_pos (show i.toInt.toNat < len.toInt.toNat by omega)
  · have q' := q
    rw [Int32.lt_iff_toInt_lt] at q'
    show (if i < len' then own_cp len f i.toNatClampNeg else 0) = if i < len then f i.toNatClampNeg else 0
    rw [if_neg q]
    split
    · exact if_neg (show ¬ i.toInt.toNat < len.toInt.toNat by omega)
    · rfl
theorem own_off (m t last mem len : Int32) (f : Nat → Int32) (i : Int32) (hm : 0 ≤ m.toInt ∧ m.toInt ≤ 4095) (hi : 0 ≤ i.toInt) (nl : 0 ≤ len.toInt) :
    0 ≤ (F4_0 m t last mem len f).2.2.1.toInt ∧ own_val (F4_0 m t last mem len f).2.2.1 (F4_0 m t last mem len f).2.2.2 i = if ¬ last < t ∧ i = m ∧ own_val len f i < t then t else own_val len f i := by
  by_cases q : last < t
  · have e : F4_0 m t last mem len f = ((0 : Int32), mem, len, f) := by rw [F4_0, if_pos q]
    rw [e]
    refine ⟨nl, ?_⟩
    rw [if_neg (fun y => y.1 q)]
  · by_cases ml : m < len
    · have e : F4_0 m t last mem len f = F4_31 m t last mem len f := by rw [F4_0, if_neg q, if_pos ml]
      rw [e]
      have k := own_31 m t last mem len f i hm.1 hi ml
      rw [k.1, k.2]
      refine ⟨nl, ?_⟩
      by_cases y : i = m ∧ own_val len f i < t
      · rw [if_pos y, if_pos ⟨q, y⟩]
      · rw [if_neg y, if_neg (fun z => y z.2)]
    · have e : F4_0 m t last mem len f = F4_31 m t last mem (F8_0 len m) (own_cp len f) := by rw [F4_0, if_neg q, if_neg ml]
      rw [e]
      have ml' := ml
      rw [Int32.lt_iff_toInt_lt] at ml'
      have lh := own_lh len m nl (by omega) hm.2
      have ml2 : m < F8_0 len m := by rw [Int32.lt_iff_toInt_lt]; exact lh.2.2
      have k := own_31 m t last mem (F8_0 len m) (own_cp len f) i hm.1 hi ml2
      rw [k.1, k.2, own_cpv len _ f i nl lh.1 hi]
      refine ⟨by omega, ?_⟩
      by_cases y : i = m ∧ own_val len f i < t
      · rw [if_pos y, if_pos ⟨q, y⟩]
      · rw [if_neg y, if_neg (fun z => y z.2)]
theorem own_has (x last mem len : Int32) (f : Nat → Int32) : F6_0 x last mem len f = if own_val len f x = 0 then 0 else 1 := by
  unfold F6_0 own_val
  by_cases q : x < len
  · rw [if_pos q, if_pos q]
    split <;> rfl
  · rw [if_neg q, if_neg q, if_pos rfl]; rfl
theorem own_tak (x m t last : Int32) : F5_0 x m t last = if x = m ∧ 0 < t ∧ ¬ last < t then 1 else 0 := by
  unfold F5_0
  by_cases a : x = m
  · by_cases b : 0 < t
    · by_cases c : last < t
      · rw [if_pos a, if_pos b, if_pos c, if_neg (fun z => z.2.2 c)]; rfl
      · rw [if_pos a, if_pos b, if_neg c, if_pos ⟨a, b, c⟩]; rfl
    · rw [if_pos a, if_neg b, if_neg (fun z => b z.2.1)]; rfl
  · rw [if_neg a, if_neg (fun z => a z.1)]; rfl
theorem own_law (p0 p1 p2 p3 p4 p5 : Int32) : F0_0 p0 p1 p2 p3 p4 p5 = 1 := by
  have P := own_PL p5 p1 p3
  have e : F0_0 p0 p1 p2 p3 p4 p5 = F0_33 p0 p1 p2 p3 p4 p5 (p1 &&& (4095 : Int32)) (p3 &&& (4095 : Int32)) (F1_0 p5 (p1 &&& (4095 : Int32)) (p3 &&& (4095 : Int32))) p0 0 1024 (fun _ => 0) := rfl
  rw [e]
  generalize F1_0 p5 (p1 &&& (4095 : Int32)) (p3 &&& (4095 : Int32)) = q at P ⊢
  generalize (p1 &&& (4095 : Int32)) = m1 at P ⊢
  generalize (p3 &&& (4095 : Int32)) = m2 at P ⊢
  obtain ⟨a1, a2, b1, b2, hq⟩ := P
  have o1 := own_off m1 p2 p0 0 1024 (fun _ => 0) q ⟨a1, a2⟩ hq (by decide)
  rw [F0_33, F0_43]
  generalize F4_0 m1 p2 p0 0 1024 (fun _ => 0) = r1 at o1 ⊢
  have o2 := own_off m2 p4 p0 r1.2.1 r1.2.2.1 r1.2.2.2 q ⟨b1, b2⟩ hq o1.1
  generalize F4_0 m2 p4 p0 r1.2.1 r1.2.2.1 r1.2.2.2 = r2 at o2 ⊢
  have z : own_val 1024 (fun _ => 0) q = 0 := by unfold own_val; split <;> rfl
  rw [z] at o1
  rw [o1.2] at o2
  have hh := own_has q p0 r2.2.1 r2.2.2.1 r2.2.2.2
  rw [o2.2] at hh
  have fin : ∀ y : Int32, F6_0 q p0 r2.2.1 r2.2.2.1 r2.2.2.2 = y → F0_84 p0 p1 p2 p3 p4 p5 m1 m2 q y p0 r2.2.1 r2.2.2.1 r2.2.2.2 = 1 := fun y hy => by
    rw [F0_84, F0_93, if_pos hy]; rfl
  rw [F0_53, own_tak, own_tak]
  have t0 : (0 : Int32).toInt = 0 := rfl
  by_cases A1 : q = m1 ∧ 0 < p2 ∧ ¬ p0 < p2
  · rw [if_pos A1, if_neg (by decide), F0_79]
    refine fin 1 ?_
    rw [hh, if_pos (show ¬ p0 < p2 ∧ q = m1 ∧ 0 < p2 from ⟨A1.2.2, A1.1, A1.2.1⟩)]
    have p := A1.2.1
    rw [Int32.lt_iff_toInt_lt] at p
    by_cases c : ¬ p0 < p4 ∧ q = m2 ∧ p2 < p4
    · rw [if_pos c]
      have p' := c.2.2
      rw [Int32.lt_iff_toInt_lt] at p'
      rw [if_neg (fun w => by rw [w] at p'; omega)]
    · rw [if_neg c, if_neg (fun w => by rw [w] at p; omega)]
  · have n1 : ¬ (¬ p0 < p2 ∧ q = m1 ∧ 0 < p2) := fun w => A1 ⟨w.2.1, w.2.2, w.1⟩
    rw [if_neg n1] at hh
    rw [if_neg A1, if_pos rfl]
    by_cases A2 : q = m2 ∧ 0 < p4 ∧ ¬ p0 < p4
    · rw [if_pos A2, if_neg (by decide), F0_79]
      refine fin 1 ?_
      have p := A2.2.1
      rw [Int32.lt_iff_toInt_lt] at p
      rw [hh, if_pos (show ¬ p0 < p4 ∧ q = m2 ∧ 0 < p4 from ⟨A2.2.2, A2.1, A2.2.1⟩), if_neg (fun w => by rw [w] at p; omega)]
    · have n2 : ¬ (¬ p0 < p4 ∧ q = m2 ∧ 0 < p4) := fun w => A2 ⟨w.2.1, w.2.2, w.1⟩
      rw [if_neg A2, if_pos rfl]
      refine fin 0 ?_
      rw [hh, if_neg n2, if_pos rfl]
set_option maxRecDepth 65536 in
set_option maxHeartbeats 40000000 in
theorem comes_1 {Post : Tables → Env → Array Value → State → Outcome → State → Prop} (hpost : ∀ tb e args s v u, (limb_1_1.after args s (.returned v) u = true ∧ limb_1_2.after args s (.returned v) u = true ∧ True) → FrameEnd s (.returned v) u (Jvm.fieldLocs frame_1_writes args s ++ Jvm.arrayLocs frame_1_arrays args s ++ Jvm.staticLocs frame_1_statics s) 16 22592 → Post tb e args s (.returned v) u) :
    ArmFor flags0 classFile x code maxLocals ret World_1 tables_1 room_1 Calls_1 rest_1 Pre_1 Post := by
  intro l hfl _ _ p e ha hc hk s m args below hf hA hF happ hP
  obtain ⟨hcalls, hrest, hpre⟩ := hP
  obtain ⟨-, -, -, hnamed, -, -, -, hat⟩ := (Spec.applies_iff hf).mp happ
  obtain ⟨hg, hn⟩ := and_e (Cond.before_iff.mp (show (Jvm.Cond.and given_1 narrow_1).before args s = true from hpre))
  obtain ⟨g0, hg⟩ := and_e hg
  obtain ⟨w0, w1, w2, w3, w4, w5, rfl⟩ : ∃ w0 w1 w2 w3 w4 w5 : Value, args = #[w0, w1, w2, w3, w4, w5] := by
    have hs : args.size = 6 := by simpa [Cond.value, given_1] using g0
    obtain ⟨L⟩ := args
    match L, hs with
    | [w0, w1, w2, w3, w4, w5], _ => exact ⟨w0, w1, w2, w3, w4, w5, rfl⟩
  have hw := fun d (hd : d ∈ tables_1) => atoms_spec (ws := Jvm.Cond.code x code maxLocals ret :: tables_1) hat d (List.mem_cons_of_mem _ hd)
  obtain ⟨g1, hg⟩ := and_e hg
  obtain ⟨g2, hg⟩ := and_e hg
  obtain ⟨g3, hg⟩ := and_e hg
  obtain ⟨g4, hg⟩ := and_e hg
  obtain ⟨g5, hg⟩ := and_e hg
  have g6 := hg
  obtain ⟨i0, e0⟩ := is_v g1
  obtain rfl : w0 = (.int i0) := Option.some.inj e0
  obtain ⟨i1, e1⟩ := is_v g2
  obtain rfl : w1 = (.int i1) := Option.some.inj e1
  obtain ⟨i2, e2⟩ := is_v g3
  obtain rfl : w2 = (.int i2) := Option.some.inj e2
  obtain ⟨i3, e3⟩ := is_v g4
  obtain rfl : w3 = (.int i3) := Option.some.inj e3
  obtain ⟨i4, e4⟩ := is_v g5
  obtain rfl : w4 = (.int i4) := Option.some.inj e4
  obtain ⟨i5, e5⟩ := is_v g6
  obtain rfl : w5 = (.int i5) := Option.some.inj e5
  obtain ⟨n, o, h1, h2, h3, _, L, rfl, ⟨rfl, N, _⟩, hq⟩ := rm0 l s _ hw i0 i1 i2 i3 i4 i5 s.heap s.heap.size (Nat.le_refl _) tables_1 p e ha hc hk s m _ below hf ((Spec.applies_iff_loose hf).mp happ).1 ⟨rfl, State.Warmed39.refl s, rfl⟩ trivial
  refine ⟨n, _, h1, h2, h3, hpost _ _ _ _ _ _ ⟨Cond.after_iff.mpr rfl, Cond.after_iff.mpr (eq_i res_at (Term.int_eval (1)) (by rw [own_law i0 i1 i2 i3 i4 i5]) rfl), trivial⟩ ⟨hq.1, hq.2.1, (hq.2.2.sift fun y hy => Or.inr (N y hy)).mono (by decide) (by decide)⟩⟩
theorem main_1_1 : Claimed_1_1 := comes_1 fun _ _ _ _ _ _ h hF => ⟨h.1, hF⟩
theorem main_1_2 : Claimed_1_2 := comes_1 fun _ _ _ _ _ _ h hF => ⟨h.2.1, hF⟩
end Jvm.Pilot.@@N@@
namespace Jvm.Pilot.@@N@@
open Jvm Jvm.ClassFile Sem Op Lib Jvm.Free Jvm.Stand Jvm.Pilot.@@N@@.Jvm.D
/-! MADE BY PROGRAM (witnessworld.py) out of the Statement's table words and the real class files: 13 classes; the members and pool entries that the words name. The judged class is class 1, her method 3. -/
namespace start1
open Jvm.ClassFile
def u (s : String) : CpInfo := .utf8 (stringToUtf16 s)
/-- a pool by its gaps: so many unusable entries, then the entry; so many at the end -/
def gap : Nat → List CpInfo → List CpInfo
  | 0, r => r
  | n + 1, r => .unusable :: gap n r
def poolList (es : List (Nat × CpInfo)) (last : Nat) : List CpInfo := es.foldr (fun e r => gap e.1 (e.2 :: r)) (gap last [])
def pool (es : List (Nat × CpInfo)) (last : Nat) : Array CpInfo := ⟨poolList es last⟩
def fileOf (pool : Array CpInfo) (this : Nat) (attrs : Array Attribute := #[]) (ms : Array MethodInfo := #[]) (fl : Nat := 33) (sup : Nat := 0) (ifs : Array Nat := #[]) (fds : Array FieldInfo := #[]) : ClassFile where
  minorVersion := 0
  majorVersion := 65
  constantPool := pool
  accessFlags := fl
  thisClass := this
  superClass := sup
  interfaces := ifs
  fields := fds
  methods := ms
  attributes := attrs
def plain (name : String) (sup : Option ClassId) : Class where
  name := name
  kind := .ordinary
  loader := none
  accessFlags := 33
  super := sup
  interfaces := #[]
  cf := none
  fields := #[]
  methods := #[]
  instanceTypes := #[]
  staticTypes := #[]
  resolved := #[]
  callSites := []
  init := .initialized
  statics := none
  mirror := none

def pool0 : Array CpInfo := pool [(5, u "<init>"), (0, u "()V"), (1, .class_ 10), (1, u "java/lang/Object")] 113

def k0c0 : Code := { maxStack := 0, maxLocals := 1, code := object_method_1_code, exceptionTable := #[], attributes := #[] }
def k0m0 : Method := { name := "<init>", desc := "()V", sig := { parameters := [], returnType := none }, accessFlags := 1, code := some k0c0 }
/-- java/lang/Object -/
def k0 : Class := { plain "java/lang/Object" none with
  accessFlags := 33
  interfaces := #[]
  cf := some (fileOf pool0 8 #[] #[{ accessFlags := 1, nameIndex := 5, descriptorIndex := 6, attributes := #[] }] 33 0 #[] #[])
  fields := #[]
  methods := #[k0m0]
  instanceTypes := #[]
  staticTypes := #[]
  resolved := Array.replicate 124 none
  statics := none }

def pool1 : Array CpInfo := pool [(2, .class_ 4), (1, u "java/lang/Object"), (0, u "<init>"), (0, u "()V"), (0, .integer 2147483647), (0, .methodref 9 10), (0, .class_ 11), (0, .nameAndType 12 13), (0, u "com/example/refstone/refstone/service/LatestRowsHasVersionPinLaw"), (0, u "pickQuery"), (0, u "(III)I"), (0, .class_ 15), (0, u "com/example/refstone/refstone/service/LatestRows"), (0, .methodref 14 17), (0, .nameAndType 5 18), (0, u "(I)V"), (0, .methodref 14 20), (0, .nameAndType 21 22), (0, u "offer"), (0, u "(II)Z"), (0, .methodref 9 24), (0, .nameAndType 25 26), (0, u "taken"), (0, u "(IIII)Z"), (0, .methodref 14 28), (0, .nameAndType 29 30), (0, u "hasVersion"), (0, u "(I)Z"), (3, u "law"), (0, u "(IIIIII)Z")] 2

def k1m0 : Method := { name := "<init>", desc := "()V", sig := { parameters := [], returnType := none }, accessFlags := 2, code := none }
def k1c1 : Code := { maxStack := 2, maxLocals := 4, code := method_2_code, exceptionTable := #[], attributes := #[] }
def k1m1 : Method := { name := "pickQuery", desc := "(III)I", sig := { parameters := [.int, .int, .int], returnType := some .int }, accessFlags := 10, code := some k1c1 }
def k1c2 : Code := { maxStack := 2, maxLocals := 4, code := method_3_code, exceptionTable := #[], attributes := #[] }
def k1m2 : Method := { name := "taken", desc := "(IIII)Z", sig := { parameters := [.int, .int, .int, .int], returnType := some .boolean }, accessFlags := 10, code := some k1c2 }
def k1c3 : Code := { maxStack := 4, maxLocals := 11, code := code, exceptionTable := #[], attributes := #[] }
def k1m3 : Method := { name := "law", desc := "(IIIIII)Z", sig := { parameters := [.int, .int, .int, .int, .int, .int], returnType := some .boolean }, accessFlags := 9, code := some k1c3 }
/-- com/example/refstone/refstone/service/LatestRowsHasVersionPinLaw -/
def k1 : Class := { plain "com/example/refstone/refstone/service/LatestRowsHasVersionPinLaw" (some 0) with
  accessFlags := 49
  interfaces := #[]
  cf := some (fileOf pool1 9 #[] #[{ accessFlags := 2, nameIndex := 5, descriptorIndex := 6, attributes := #[] }, { accessFlags := 10, nameIndex := 12, descriptorIndex := 13, attributes := #[] }, { accessFlags := 10, nameIndex := 25, descriptorIndex := 26, attributes := #[] }, { accessFlags := 9, nameIndex := 34, descriptorIndex := 35, attributes := #[] }] 49 2 #[] #[])
  fields := #[]
  methods := #[k1m0, k1m1, k1m2, k1m3]
  instanceTypes := #[]
  staticTypes := #[]
  resolved := Array.replicate 38 none
  statics := none }

def pool2 : Array CpInfo := pool [(5, .class_ 7), (1, u "com/example/refstone/refstone/service/LatestRows"), (0, u "<init>"), (0, u "(I)V"), (0, .methodref 11 12), (0, .class_ 13), (0, .nameAndType 8 14), (0, u "java/lang/Object"), (0, u "()V"), (0, .class_ 16), (0, u "com/example/refstone/refstone/service/NumberedArrays"), (0, .fieldref 5 18), (0, .nameAndType 19 20), (0, u "times"), (0, u "[I"), (0, .fieldref 5 22), (0, .nameAndType 23 24), (0, u "lastTime"), (0, u "I"), (0, .methodref 15 26), (0, .nameAndType 27 28), (0, u "grown"), (0, u "([II)[I"), (0, .fieldref 5 30), (0, .nameAndType 31 24), (0, u "members"), (8, u "offer"), (0, u "(II)Z"), (5, u "hasVersion"), (0, u "(I)Z")] 2

def k2m0 : Method := { name := "<init>", desc := "()V", sig := { parameters := [], returnType := none }, accessFlags := 0, code := none }
def k2c1 : Code := { maxStack := 2, maxLocals := 2, code := prog_73_method_2_code, exceptionTable := #[], attributes := #[] }
def k2m1 : Method := { name := "<init>", desc := "(I)V", sig := { parameters := [.int], returnType := none }, accessFlags := 0, code := some k2c1 }
def k2c2 : Code := { maxStack := 3, maxLocals := 3, code := prog_73_method_3_code, exceptionTable := #[], attributes := #[] }
def k2m2 : Method := { name := "offer", desc := "(II)Z", sig := { parameters := [.int, .int], returnType := some .boolean }, accessFlags := 0, code := some k2c2 }
def k2c3 : Code := { maxStack := 2, maxLocals := 2, code := prog_73_method_7_code, exceptionTable := #[], attributes := #[] }
def k2m3 : Method := { name := "hasVersion", desc := "(I)Z", sig := { parameters := [.int], returnType := some .boolean }, accessFlags := 0, code := some k2c3 }
/-- com/example/refstone/refstone/service/LatestRows -/
def k2 : Class := { plain "com/example/refstone/refstone/service/LatestRows" (some 0) with
  accessFlags := 48
  interfaces := #[]
  cf := some (fileOf pool2 5 #[] #[{ accessFlags := 0, nameIndex := 8, descriptorIndex := 14, attributes := #[] }, { accessFlags := 0, nameIndex := 8, descriptorIndex := 9, attributes := #[] }, { accessFlags := 0, nameIndex := 40, descriptorIndex := 41, attributes := #[] }, { accessFlags := 0, nameIndex := 47, descriptorIndex := 48, attributes := #[] }] 48 11 #[] #[{ accessFlags := 2, nameIndex := 19, descriptorIndex := 20, attributes := #[] }, { accessFlags := 18, nameIndex := 23, descriptorIndex := 24, attributes := #[] }, { accessFlags := 2, nameIndex := 31, descriptorIndex := 24, attributes := #[] }])
  fields := #[{ name := "times", type := (.array .int), accessFlags := 2, slot := 0, constantValue := 0 }, { name := "lastTime", type := .int, accessFlags := 18, slot := 1, constantValue := 0 }, { name := "members", type := .int, accessFlags := 2, slot := 2, constantValue := 0 }]
  methods := #[k2m0, k2m1, k2m2, k2m3]
  instanceTypes := #[(.array .int), .int, .int]
  staticTypes := #[]
  resolved := Array.replicate 51 none
  statics := none }

def pool3 : Array CpInfo := pool [(4, .class_ 6), (1, u "java/lang/Object"), (0, u "<init>"), (0, u "()V"), (0, .methodref 10 11), (0, .class_ 12), (0, .nameAndType 13 14), (0, u "com/example/refstone/refstone/service/NumberedArrays"), (0, u "lengthToHold"), (0, u "(II)I"), (1, .class_ 18), (1, u "java/util/Arrays"), (0, u "copyOf"), (1, .methodref 16 22), (0, .nameAndType 19 23), (0, u "([II)[I"), (3, .integer 2147483639), (0, .methodref 29 30), (0, .class_ 31), (0, .nameAndType 32 14), (0, u "java/lang/Math"), (0, u "max"), (0, u "INITIAL_LENGTH"), (0, u "I"), (2, u "MAX_LENGTH"), (2, u "grown")] 3

def k3m0 : Method := { name := "<init>", desc := "()V", sig := { parameters := [], returnType := none }, accessFlags := 2, code := none }
def k3c1 : Code := { maxStack := 3, maxLocals := 2, code := prog_81_method_3_code, exceptionTable := #[], attributes := #[] }
def k3m1 : Method := { name := "grown", desc := "([II)[I", sig := { parameters := [(.array .int), .int], returnType := some (.array .int) }, accessFlags := 8, code := some k3c1 }
def k3c2 : Code := { maxStack := 3, maxLocals := 4, code := prog_81_method_5_code, exceptionTable := #[], attributes := #[] }
def k3m2 : Method := { name := "lengthToHold", desc := "(II)I", sig := { parameters := [.int, .int], returnType := some .int }, accessFlags := 8, code := some k3c2 }
/-- com/example/refstone/refstone/service/NumberedArrays -/
def k3 : Class := { plain "com/example/refstone/refstone/service/NumberedArrays" (some 0) with
  accessFlags := 48
  interfaces := #[]
  cf := some (fileOf pool3 10 #[] #[{ accessFlags := 2, nameIndex := 7, descriptorIndex := 8, attributes := #[] }, { accessFlags := 8, nameIndex := 40, descriptorIndex := 23, attributes := #[] }, { accessFlags := 8, nameIndex := 13, descriptorIndex := 14, attributes := #[] }] 48 4 #[] #[{ accessFlags := 24, nameIndex := 33, descriptorIndex := 34, attributes := #[] }, { accessFlags := 26, nameIndex := 37, descriptorIndex := 34, attributes := #[] }])
  fields := #[{ name := "INITIAL_LENGTH", type := .int, accessFlags := 24, slot := 0, constantValue := 0 }, { name := "MAX_LENGTH", type := .int, accessFlags := 26, slot := 1, constantValue := 0 }]
  methods := #[k3m0, k3m1, k3m2]
  instanceTypes := #[]
  staticTypes := #[.int, .int]
  resolved := Array.replicate 44 none
  statics := none }

def pool4 : Array CpInfo := pool [(1, .class_ 2), (0, u "java/lang/Math"), (1, .class_ 6), (1, u "java/lang/Object"), (0, u "<init>"), (0, u "()V"), (89, .class_ 100), (1, u "java/lang/Math$RandomNumberGeneratorHolder"), (71, u "negativeZeroFloatBits"), (0, u "J"), (2, u "negativeZeroDoubleBits"), (21, u "max"), (2, u "min"), (43, u "$assertionsDisabled"), (0, u "Z"), (88, u "(II)I"), (2, u "twoToTheDoubleScaleDown"), (0, u "D"), (4, u "twoToTheDoubleScaleUp"), (9, u "E"), (3, u "PI"), (2, u "TAU"), (2, u "DEGREES_TO_RADIANS"), (0, u "RADIANS_TO_DEGREES")] 94

def k4m0 : Method := { name := "<init>", desc := "()V", sig := { parameters := [], returnType := none }, accessFlags := 2, code := none }
def k4c1 : Code := { maxStack := 2, maxLocals := 2, code := jdk_29_method_65_code, exceptionTable := #[], attributes := #[] }
def k4m1 : Method := { name := "max", desc := "(II)I", sig := { parameters := [.int, .int], returnType := some .int }, accessFlags := 9, code := some k4c1 }
def k4c2 : Code := { maxStack := 2, maxLocals := 2, code := jdk_29_method_69_code, exceptionTable := #[], attributes := #[] }
def k4m2 : Method := { name := "min", desc := "(II)I", sig := { parameters := [.int, .int], returnType := some .int }, accessFlags := 9, code := some k4c2 }
/-- java/lang/Math -/
def k4 : Class := { plain "java/lang/Math" (some 0) with
  accessFlags := 49
  interfaces := #[]
  cf := some (fileOf pool4 1 #[.nestMembers #[98]] #[{ accessFlags := 2, nameIndex := 7, descriptorIndex := 8, attributes := #[] }, { accessFlags := 9, nameIndex := 198, descriptorIndex := 335, attributes := #[] }, { accessFlags := 9, nameIndex := 201, descriptorIndex := 335, attributes := #[] }] 49 4 #[] #[{ accessFlags := 25, nameIndex := 354, descriptorIndex := 339, attributes := #[] }, { accessFlags := 25, nameIndex := 358, descriptorIndex := 339, attributes := #[] }, { accessFlags := 25, nameIndex := 361, descriptorIndex := 339, attributes := #[] }, { accessFlags := 26, nameIndex := 364, descriptorIndex := 339, attributes := #[] }, { accessFlags := 26, nameIndex := 365, descriptorIndex := 339, attributes := #[] }, { accessFlags := 26, nameIndex := 172, descriptorIndex := 173, attributes := #[] }, { accessFlags := 26, nameIndex := 176, descriptorIndex := 173, attributes := #[] }, { accessFlags := 8, nameIndex := 344, descriptorIndex := 339, attributes := #[] }, { accessFlags := 8, nameIndex := 338, descriptorIndex := 339, attributes := #[] }, { accessFlags := 4120, nameIndex := 245, descriptorIndex := 246, attributes := #[] }])
  fields := #[{ name := "E", type := .double, accessFlags := 25, slot := 0, constantValue := 0 }, { name := "PI", type := .double, accessFlags := 25, slot := 1, constantValue := 0 }, { name := "TAU", type := .double, accessFlags := 25, slot := 2, constantValue := 0 }, { name := "DEGREES_TO_RADIANS", type := .double, accessFlags := 26, slot := 3, constantValue := 0 }, { name := "RADIANS_TO_DEGREES", type := .double, accessFlags := 26, slot := 4, constantValue := 0 }, { name := "negativeZeroFloatBits", type := .long, accessFlags := 26, slot := 5, constantValue := 0 }, { name := "negativeZeroDoubleBits", type := .long, accessFlags := 26, slot := 6, constantValue := 0 }, { name := "twoToTheDoubleScaleUp", type := .double, accessFlags := 8, slot := 7, constantValue := 0 }, { name := "twoToTheDoubleScaleDown", type := .double, accessFlags := 8, slot := 8, constantValue := 0 }, { name := "$assertionsDisabled", type := .boolean, accessFlags := 4120, slot := 9, constantValue := 0 }]
  methods := #[k4m0, k4m1, k4m2]
  instanceTypes := #[]
  staticTypes := #[.double, .double, .double, .double, .double, .long, .long, .double, .double, .boolean]
  resolved := Array.replicate 460 none
  statics := none }

def pool5 : Array CpInfo := pool [(2, .class_ 4), (1, u "java/lang/Object"), (0, u "<init>"), (0, u "()V"), (7, .class_ 16), (1, u "java/util/Arrays"), (57, .class_ 76), (1, u "java/util/Arrays$NaturalOrder"), (36, .class_ 115), (1, u "java/util/Arrays$LegacyMergeSort"), (1, u "Z"), (32, .methodref 151 152), (0, .class_ 153), (0, .nameAndType 154 155), (0, u "java/lang/System"), (0, u "arraycopy"), (0, u "(Ljava/lang/Object;ILjava/lang/Object;II)V"), (146, u "copyOf"), (1, .methodref 305 306), (0, .class_ 307), (0, .nameAndType 308 309), (0, u "java/lang/Math"), (0, u "min"), (0, u "(II)I"), (65, .class_ 376), (0, u "java/util/Arrays$ArrayList"), (68, u "$assertionsDisabled"), (269, u "MIN_ARRAY_SORT_GRAN"), (0, u "I"), (2, u "INSERTIONSORT_THRESHOLD"), (151, u "([II)[I"), (103, .class_ 976), (0, u "java/util/Arrays$ArrayItr")] 52

def k5m0 : Method := { name := "<init>", desc := "()V", sig := { parameters := [], returnType := none }, accessFlags := 2, code := none }
def k5c1 : Code := { maxStack := 6, maxLocals := 3, code := jdk_65_method_123_code, exceptionTable := #[], attributes := #[] }
def k5m1 : Method := { name := "copyOf", desc := "([II)[I", sig := { parameters := [(.array .int), .int], returnType := some (.array .int) }, accessFlags := 9, code := some k5c1 }
/-- java/util/Arrays -/
def k5 : Class := { plain "java/util/Arrays" (some 0) with
  accessFlags := 49
  interfaces := #[]
  cf := some (fileOf pool5 14 #[.nestMembers #[975, 375, 113, 74]] #[{ accessFlags := 2, nameIndex := 5, descriptorIndex := 6, attributes := #[] }, { accessFlags := 9, nameIndex := 302, descriptorIndex := 871, attributes := #[] }] 49 2 #[] #[{ accessFlags := 26, nameIndex := 715, descriptorIndex := 716, attributes := #[] }, { accessFlags := 26, nameIndex := 719, descriptorIndex := 716, attributes := #[] }, { accessFlags := 4120, nameIndex := 445, descriptorIndex := 117, attributes := #[] }])
  fields := #[{ name := "MIN_ARRAY_SORT_GRAN", type := .int, accessFlags := 26, slot := 0, constantValue := 0 }, { name := "INSERTIONSORT_THRESHOLD", type := .int, accessFlags := 26, slot := 1, constantValue := 0 }, { name := "$assertionsDisabled", type := .boolean, accessFlags := 4120, slot := 2, constantValue := 0 }]
  methods := #[k5m0, k5m1]
  instanceTypes := #[]
  staticTypes := #[.int, .int, .boolean]
  resolved := Array.replicate 1029 none
  statics := none }

def pool6 : Array CpInfo := pool [(2, .class_ 4), (1, u "java/lang/Object"), (0, u "<init>"), (0, u "()V"), (1, .class_ 10), (1, u "java/lang/System"), (0, u "allowSecurityManager"), (0, u "I"), (16, u "cons"), (0, u "Ljava/io/Console;"), (77, .class_ 110), (1, u "java/lang/System$CallersHolder"), (43, u "initialErrStream"), (0, u "Ljava/io/PrintStream;"), (19, u "security"), (0, u "Ljava/lang/SecurityManager;"), (31, .class_ 209), (0, u "java/lang/System$1"), (7, u "props"), (0, u "Ljava/util/Properties;"), (2, u "lineSeparator"), (0, u "Ljava/lang/String;"), (96, .class_ 321), (1, u "java/lang/System$LoggerFinder"), (5, .class_ 328), (0, u "java/lang/System$Logger"), (67, u "err"), (2, u "out"), (91, u "notSupportedJnuEncoding"), (15, u "in"), (17, u "initialIn"), (0, u "Ljava/io/InputStream;"), (35, u "bootLayer"), (0, u "Ljava/lang/ModuleLayer;"), (99, .class_ 664), (0, u "java/lang/System$2"), (9, u "NEVER"), (2, u "MAYBE"), (49, u "arraycopy"), (0, u "(Ljava/lang/Object;ILjava/lang/Object;II)V"), (72, .class_ 802), (0, u "java/lang/System$Logger$Level")] 31

def k6m0 : Method := { name := "<init>", desc := "()V", sig := { parameters := [], returnType := none }, accessFlags := 2, code := none }
def k6m1 : Method := { name := "arraycopy", desc := "(Ljava/lang/Object;ILjava/lang/Object;II)V", sig := { parameters := [(.object "java/lang/Object"), .int, (.object "java/lang/Object"), .int, .int], returnType := none }, accessFlags := 265, code := none }
/-- java/lang/System -/
def k6 : Class := { plain "java/lang/System" (some 0) with
  accessFlags := 49
  interfaces := #[]
  cf := some (fileOf pool6 8 #[.nestMembers #[319, 327, 801, 108, 663, 208]] #[{ accessFlags := 2, nameIndex := 5, descriptorIndex := 6, attributes := #[] }, { accessFlags := 265, nameIndex := 727, descriptorIndex := 728, attributes := #[] }] 49 2 #[] #[{ accessFlags := 25, nameIndex := 507, descriptorIndex := 526, attributes := #[] }, { accessFlags := 25, nameIndex := 399, descriptorIndex := 155, attributes := #[] }, { accessFlags := 25, nameIndex := 396, descriptorIndex := 155, attributes := #[] }, { accessFlags := 10, nameIndex := 525, descriptorIndex := 526, attributes := #[] }, { accessFlags := 26, nameIndex := 674, descriptorIndex := 12, attributes := #[] }, { accessFlags := 26, nameIndex := 677, descriptorIndex := 12, attributes := #[] }, { accessFlags := 10, nameIndex := 11, descriptorIndex := 12, attributes := #[] }, { accessFlags := 74, nameIndex := 175, descriptorIndex := 176, attributes := #[] }, { accessFlags := 10, nameIndex := 491, descriptorIndex := 222, attributes := #[] }, { accessFlags := 74, nameIndex := 29, descriptorIndex := 30, attributes := #[] }, { accessFlags := 74, nameIndex := 154, descriptorIndex := 155, attributes := #[] }, { accessFlags := 10, nameIndex := 217, descriptorIndex := 218, attributes := #[] }, { accessFlags := 10, nameIndex := 221, descriptorIndex := 222, attributes := #[] }, { accessFlags := 8, nameIndex := 562, descriptorIndex := 563, attributes := #[] }])
  fields := #[{ name := "in", type := (.object "java/io/InputStream"), accessFlags := 25, slot := 0, constantValue := 0 }, { name := "out", type := (.object "java/io/PrintStream"), accessFlags := 25, slot := 1, constantValue := 0 }, { name := "err", type := (.object "java/io/PrintStream"), accessFlags := 25, slot := 2, constantValue := 0 }, { name := "initialIn", type := (.object "java/io/InputStream"), accessFlags := 10, slot := 3, constantValue := 0 }, { name := "NEVER", type := .int, accessFlags := 26, slot := 4, constantValue := 0 }, { name := "MAYBE", type := .int, accessFlags := 26, slot := 5, constantValue := 0 }, { name := "allowSecurityManager", type := .int, accessFlags := 10, slot := 6, constantValue := 0 }, { name := "security", type := (.object "java/lang/SecurityManager"), accessFlags := 74, slot := 7, constantValue := 0 }, { name := "notSupportedJnuEncoding", type := (.object "java/lang/String"), accessFlags := 10, slot := 8, constantValue := 0 }, { name := "cons", type := (.object "java/io/Console"), accessFlags := 74, slot := 9, constantValue := 0 }, { name := "initialErrStream", type := (.object "java/io/PrintStream"), accessFlags := 74, slot := 10, constantValue := 0 }, { name := "props", type := (.object "java/util/Properties"), accessFlags := 10, slot := 11, constantValue := 0 }, { name := "lineSeparator", type := (.object "java/lang/String"), accessFlags := 10, slot := 12, constantValue := 0 }, { name := "bootLayer", type := (.object "java/lang/ModuleLayer"), accessFlags := 8, slot := 13, constantValue := 0 }]
  methods := #[k6m0, k6m1]
  instanceTypes := #[]
  staticTypes := #[(.object "java/io/InputStream"), (.object "java/io/PrintStream"), (.object "java/io/PrintStream"), (.object "java/io/InputStream"), .int, .int, .int, (.object "java/lang/SecurityManager"), (.object "java/lang/String"), (.object "java/io/Console"), (.object "java/io/PrintStream"), (.object "java/util/Properties"), (.object "java/lang/String"), (.object "java/lang/ModuleLayer")]
  resolved := Array.replicate 834 none
  statics := none }

def pool7 : Array CpInfo := pool [(1, u "java/lang/Cloneable"), (0, .class_ 1), (0, u "java/lang/Object"), (0, .class_ 3)] 3

/-- java/lang/Cloneable -/
def k7 : Class := { plain "java/lang/Cloneable" (some 0) with
  accessFlags := 1537
  interfaces := #[]
  cf := some (fileOf pool7 2 #[] #[] 1537 4 #[] #[])
  fields := #[]
  methods := #[]
  instanceTypes := #[]
  staticTypes := #[]
  resolved := Array.replicate 8 none
  statics := none }

def pool8 : Array CpInfo := pool [(1, u "java/io/Serializable"), (0, .class_ 1), (0, u "java/lang/Object"), (0, .class_ 3)] 3

/-- java/io/Serializable -/
def k8 : Class := { plain "java/io/Serializable" (some 0) with
  accessFlags := 1537
  interfaces := #[]
  cf := some (fileOf pool8 2 #[] #[] 1537 4 #[] #[])
  fields := #[]
  methods := #[]
  instanceTypes := #[]
  staticTypes := #[]
  resolved := Array.replicate 8 none
  statics := none }

/-- the primitive byte -/
def k9 : Class := { plain "byte" none with kind := .primitive 'B', accessFlags := 0x411 }
/-- [B -/
def k10 : Class := { plain "[B" (some 0) with kind := .array 9 .byte, interfaces := #[7, 8], accessFlags := 1041 }

/-- the primitive int -/
def k11 : Class := { plain "int" none with kind := .primitive 'I', accessFlags := 0x411 }
/-- [I -/
def k12 : Class := { plain "[I" (some 0) with kind := .array 11 .int, interfaces := #[7, 8], accessFlags := 1041 }

def heap : Heap := #[]
def classes : Array Class := #[k0, k1, k2, k3, k4, k5, k6, k7, k8, k9, k10, k11, k12]
def interned : List (Array UInt16 × Addr) := []
def slotsUsed : Nat := 0
def theMethod : MethodId := ⟨1, 3⟩
def args0 : Array Value := #[.int 5, .int 5, .int 5, .int 5, .int 5, .int 5]
def aboutOver (below : List Frame) : State where
  vm := { classes := classes, interned := interned.toArray }
  heap := heap
  slotsUsed := slotsUsed
  threads := #[{ frames := .invoking theMethod args0 :: below }]
def below0 : List Frame := [.native { method := ⟨0, 0⟩, args := #[] }]
def about1 : State := aboutOver below0
def p0 : Program := .bare "" "" ""
def e0 : Env := launch0.env 0 0 0
theorem w_frames : about1.frames = Frame.invoking theMethod args0 :: below0 := rfl
set_option maxRecDepth 65536 in
theorem w_args : argsFit about1.vm theMethod args0 = true := by decide +kernel
set_option maxRecDepth 65536 in
theorem w_heap : heapFits about1 = true := by decide +kernel
set_option maxRecDepth 65536 in
theorem w_runnable : about1.curStatus? = some .runnable := by decide +kernel
set_option maxRecDepth 65536 in
theorem w_alone : about1.alone = true := by decide +kernel
set_option maxRecDepth 65536 in
theorem w_named : about1.methodNamed? x = some theMethod := by decide +kernel
set_option maxRecDepth 65536 in
theorem w_hears : about1.hears theMethod below0 = true := by decide +kernel
set_option maxRecDepth 65536 in
theorem w_ripe : about1.ripe theMethod args0 below0 = true := by decide +kernel
theorem w_running : about1.status = .running := rfl
set_option maxRecDepth 65536 in
theorem w_room : about1.hasRoom e0.platform room_1 = true :=
  launch0.hasRoom_least _ room_1 (by decide +kernel) (by decide +kernel) (by decide +kernel) (by decide +kernel) (by decide +kernel) (by decide +kernel)
theorem allAtoms_all (ts : List Jvm.Cond) (a : Array Jvm.Value) (st : Jvm.State) : (allAtoms ts).before a st = ts.all (fun c => c.before a st) := by
  induction ts with
  | nil => rfl
  | cons c t ih =>
    show (Jvm.Cond.and c (allAtoms t)).before a st = _
    rw [Jvm.Cond.before_and, ih, List.all_cons]
def words1 : List Jvm.Cond := Jvm.Cond.code x code maxLocals ret :: tables_1
/-- a 'code' word, met by the world's own term for the bytes: nothing is compared byte by byte -/
theorem code_word {y : MethodName} {bytes : ByteArray} {mx : Nat} {rt : Option FieldType} {a : Array Value} {s : State} {m : MethodId} {meth : Method} {c : Code} (h1 : s.methodNamed? y = some m) (h2 : s.vm.method? m = some meth) (h3 : meth.code = some c) (h4 : c.code = bytes)
    (h5 : (c.maxLocals == mx && c.exceptionTable.isEmpty && decide (c.maxStack ≤ mostOperands) && decide (meth.sig.returnType = rt) && !meth.locks && decide (parseMethodDescriptor y.desc = some meth.sig)) = true) : (Jvm.Cond.code y bytes mx rt).before a s = true := by
  simp only [Bool.and_eq_true, beq_iff_eq, Bool.not_eq_true', decide_eq_true_eq] at h5
  obtain ⟨⟨⟨⟨⟨g1, g2⟩, g3⟩, g4⟩, g5⟩, g6⟩ := h5
  simp [Cond.before, Cond.holds, Cond.value, h1, h2, h3, h4, g1, g2, g3, g4, g5, g6]
def isCode : Jvm.Cond → Bool
  | .code _ _ _ _ => true
  | _ => false
theorem all_split {L : List Jvm.Cond} {P : Jvm.Cond → Bool} (h1 : L.all (fun c => isCode c || P c) = true) (h2 : ∀ c ∈ L.filter isCode, P c = true) : L.all P = true := by
  refine List.all_eq_true.mpr fun c hc => ?_
  have h := List.all_eq_true.mp h1 c hc
  rcases Bool.eq_false_or_eq_true (isCode c) with hi | hi
  · exact h2 c (List.mem_filter.mpr ⟨hc, hi⟩)
  · simpa [hi] using h
set_option maxRecDepth 65536 in
theorem w_c0 : (Jvm.Cond.code x code maxLocals ret).before args0 about1 = true := code_word (m := ⟨1, 3⟩) (meth := k1m3) (c := k1c3) (by decide +kernel) rfl rfl rfl (by decide +kernel)
set_option maxRecDepth 65536 in
theorem w_c1 : (Jvm.Cond.code ({ cls := "com/example/refstone/refstone/service/LatestRowsHasVersionPinLaw", name := "pickQuery", desc := "(III)I" } : Jvm.MethodName) method_2_code (4 : Nat) (Option.some Jvm.ClassFile.FieldType.int)).before args0 about1 = true := code_word (m := ⟨1, 1⟩) (meth := k1m1) (c := k1c1) (by decide +kernel) rfl rfl rfl (by decide +kernel)
set_option maxRecDepth 65536 in
theorem w_c2 : (Jvm.Cond.code ({ cls := "com/example/refstone/refstone/service/LatestRows", name := "<init>", desc := "(I)V" } : Jvm.MethodName) prog_73_method_2_code (2 : Nat) (Option.none : Option Jvm.ClassFile.FieldType)).before args0 about1 = true := code_word (m := ⟨2, 1⟩) (meth := k2m1) (c := k2c1) (by decide +kernel) rfl rfl rfl (by decide +kernel)
set_option maxRecDepth 65536 in
theorem w_c3 : (Jvm.Cond.code ({ cls := "java/lang/Object", name := "<init>", desc := "()V" } : Jvm.MethodName) object_method_1_code (1 : Nat) (Option.none : Option Jvm.ClassFile.FieldType)).before args0 about1 = true := code_word (m := ⟨0, 0⟩) (meth := k0m0) (c := k0c0) (by decide +kernel) rfl rfl rfl (by decide +kernel)
set_option maxRecDepth 65536 in
theorem w_c4 : (Jvm.Cond.code ({ cls := "com/example/refstone/refstone/service/LatestRows", name := "offer", desc := "(II)Z" } : Jvm.MethodName) prog_73_method_3_code (3 : Nat) (Option.some Jvm.ClassFile.FieldType.boolean)).before args0 about1 = true := code_word (m := ⟨2, 2⟩) (meth := k2m2) (c := k2c2) (by decide +kernel) rfl rfl rfl (by decide +kernel)
set_option maxRecDepth 65536 in
theorem w_c5 : (Jvm.Cond.code ({ cls := "com/example/refstone/refstone/service/LatestRowsHasVersionPinLaw", name := "taken", desc := "(IIII)Z" } : Jvm.MethodName) method_3_code (4 : Nat) (Option.some Jvm.ClassFile.FieldType.boolean)).before args0 about1 = true := code_word (m := ⟨1, 2⟩) (meth := k1m2) (c := k1c2) (by decide +kernel) rfl rfl rfl (by decide +kernel)
set_option maxRecDepth 65536 in
theorem w_c6 : (Jvm.Cond.code ({ cls := "com/example/refstone/refstone/service/LatestRows", name := "hasVersion", desc := "(I)Z" } : Jvm.MethodName) prog_73_method_7_code (2 : Nat) (Option.some Jvm.ClassFile.FieldType.boolean)).before args0 about1 = true := code_word (m := ⟨2, 3⟩) (meth := k2m3) (c := k2c3) (by decide +kernel) rfl rfl rfl (by decide +kernel)
set_option maxRecDepth 65536 in
theorem w_c7 : (Jvm.Cond.code ({ cls := "com/example/refstone/refstone/service/NumberedArrays", name := "grown", desc := "([II)[I" } : Jvm.MethodName) prog_81_method_3_code (2 : Nat) (Option.some (Jvm.ClassFile.FieldType.array Jvm.ClassFile.FieldType.int))).before args0 about1 = true := code_word (m := ⟨3, 1⟩) (meth := k3m1) (c := k3c1) (by decide +kernel) rfl rfl rfl (by decide +kernel)
set_option maxRecDepth 65536 in
theorem w_c8 : (Jvm.Cond.code ({ cls := "com/example/refstone/refstone/service/NumberedArrays", name := "lengthToHold", desc := "(II)I" } : Jvm.MethodName) prog_81_method_5_code (4 : Nat) (Option.some Jvm.ClassFile.FieldType.int)).before args0 about1 = true := code_word (m := ⟨3, 2⟩) (meth := k3m2) (c := k3c2) (by decide +kernel) rfl rfl rfl (by decide +kernel)
set_option maxRecDepth 65536 in
theorem w_c9 : (Jvm.Cond.code ({ cls := "java/lang/Math", name := "max", desc := "(II)I" } : Jvm.MethodName) jdk_29_method_65_code (2 : Nat) (Option.some Jvm.ClassFile.FieldType.int)).before args0 about1 = true := code_word (m := ⟨4, 1⟩) (meth := k4m1) (c := k4c1) (by decide +kernel) rfl rfl rfl (by decide +kernel)
set_option maxRecDepth 65536 in
theorem w_c10 : (Jvm.Cond.code ({ cls := "java/util/Arrays", name := "copyOf", desc := "([II)[I" } : Jvm.MethodName) jdk_65_method_123_code (3 : Nat) (Option.some (Jvm.ClassFile.FieldType.array Jvm.ClassFile.FieldType.int))).before args0 about1 = true := code_word (m := ⟨5, 1⟩) (meth := k5m1) (c := k5c1) (by decide +kernel) rfl rfl rfl (by decide +kernel)
set_option maxRecDepth 65536 in
theorem w_c11 : (Jvm.Cond.code ({ cls := "java/lang/Math", name := "min", desc := "(II)I" } : Jvm.MethodName) jdk_29_method_69_code (2 : Nat) (Option.some Jvm.ClassFile.FieldType.int)).before args0 about1 = true := code_word (m := ⟨4, 2⟩) (meth := k4m2) (c := k4c2) (by decide +kernel) rfl rfl rfl (by decide +kernel)
def codes1 : List Jvm.Cond := [Jvm.Cond.code x code maxLocals ret, Jvm.Cond.code ({ cls := "com/example/refstone/refstone/service/LatestRowsHasVersionPinLaw", name := "pickQuery", desc := "(III)I" } : Jvm.MethodName) method_2_code (4 : Nat) (Option.some Jvm.ClassFile.FieldType.int), Jvm.Cond.code ({ cls := "com/example/refstone/refstone/service/LatestRows", name := "<init>", desc := "(I)V" } : Jvm.MethodName) prog_73_method_2_code (2 : Nat) (Option.none : Option Jvm.ClassFile.FieldType), Jvm.Cond.code ({ cls := "java/lang/Object", name := "<init>", desc := "()V" } : Jvm.MethodName) object_method_1_code (1 : Nat) (Option.none : Option Jvm.ClassFile.FieldType), Jvm.Cond.code ({ cls := "com/example/refstone/refstone/service/LatestRows", name := "offer", desc := "(II)Z" } : Jvm.MethodName) prog_73_method_3_code (3 : Nat) (Option.some Jvm.ClassFile.FieldType.boolean), Jvm.Cond.code ({ cls := "com/example/refstone/refstone/service/LatestRowsHasVersionPinLaw", name := "taken", desc := "(IIII)Z" } : Jvm.MethodName) method_3_code (4 : Nat) (Option.some Jvm.ClassFile.FieldType.boolean), Jvm.Cond.code ({ cls := "com/example/refstone/refstone/service/LatestRows", name := "hasVersion", desc := "(I)Z" } : Jvm.MethodName) prog_73_method_7_code (2 : Nat) (Option.some Jvm.ClassFile.FieldType.boolean), Jvm.Cond.code ({ cls := "com/example/refstone/refstone/service/NumberedArrays", name := "grown", desc := "([II)[I" } : Jvm.MethodName) prog_81_method_3_code (2 : Nat) (Option.some (Jvm.ClassFile.FieldType.array Jvm.ClassFile.FieldType.int)), Jvm.Cond.code ({ cls := "com/example/refstone/refstone/service/NumberedArrays", name := "lengthToHold", desc := "(II)I" } : Jvm.MethodName) prog_81_method_5_code (4 : Nat) (Option.some Jvm.ClassFile.FieldType.int), Jvm.Cond.code ({ cls := "java/lang/Math", name := "max", desc := "(II)I" } : Jvm.MethodName) jdk_29_method_65_code (2 : Nat) (Option.some Jvm.ClassFile.FieldType.int), Jvm.Cond.code ({ cls := "java/util/Arrays", name := "copyOf", desc := "([II)[I" } : Jvm.MethodName) jdk_65_method_123_code (3 : Nat) (Option.some (Jvm.ClassFile.FieldType.array Jvm.ClassFile.FieldType.int)), Jvm.Cond.code ({ cls := "java/lang/Math", name := "min", desc := "(II)I" } : Jvm.MethodName) jdk_29_method_69_code (2 : Nat) (Option.some Jvm.ClassFile.FieldType.int)]
set_option maxRecDepth 65536 in
theorem codes_eq : words1.filter isCode = codes1 := rfl
theorem w_codes : ∀ c ∈ words1.filter isCode, c.before args0 about1 = true := by
  rw [codes_eq]
  intro c hc
  simp only [codes1, List.mem_cons, List.not_mem_nil, or_false] at hc
  rcases hc with rfl | rfl | rfl | rfl | rfl | rfl | rfl | rfl | rfl | rfl | rfl | rfl
  · exact w_c0
  · exact w_c1
  · exact w_c2
  · exact w_c3
  · exact w_c4
  · exact w_c5
  · exact w_c6
  · exact w_c7
  · exact w_c8
  · exact w_c9
  · exact w_c10
  · exact w_c11
set_option maxRecDepth 65536 in
theorem w_t1 : (words1.take 24).all (fun c => isCode c || c.before args0 about1) = true := by decide +kernel
set_option maxRecDepth 65536 in
theorem w_t2 : ((words1.drop 24).take 24).all (fun c => isCode c || c.before args0 about1) = true := by decide +kernel
set_option maxRecDepth 65536 in
theorem w_t3 : ((words1.drop 24).drop 24).all (fun c => isCode c || c.before args0 about1) = true := by decide +kernel
theorem w_tables : (allAtoms (Jvm.Cond.code x code maxLocals ret :: tables_1)).before args0 about1 = true := by
  rw [allAtoms_all]
  show words1.all (fun c => c.before args0 about1) = true
  refine all_split ?_ w_codes
  rw [← List.take_append_drop 24 words1, List.all_append, w_t1, ← List.take_append_drop 24 (words1.drop 24), List.all_append, w_t2, w_t3]
  rfl
set_option maxRecDepth 65536 in
theorem w_case : (Jvm.Cond.and given_1 narrow_1).before args0 about1 = true := by decide +kernel
theorem w_applies : (headSpec (Jvm.Cond.code x code maxLocals ret :: tables_1) room_1).applies x e0.platform about1 = true :=
  (Spec.applies_iff w_frames).mpr ⟨w_running, w_runnable, w_alone, w_named, w_hears, w_ripe, w_room, w_tables⟩
theorem atStart : AtStart classFile x code maxLocals ret World_1 tables_1 room_1 Calls_1 rest_1 Pre_1 launch0 p0 e0 about1 theMethod args0 below0 :=
  ⟨lists_1, trivial, launch0.admits_env _ _ _, launch0.least_env, fairChoices_fair.cas, fairChoices_fair.clock, w_frames, w_args, w_heap, w_applies, trivial, trivial, w_case⟩
end start1
theorem witness_1 : WitnessClaimed_1 := ⟨start1.p0, start1.e0, start1.about1, start1.theMethod, start1.args0, start1.below0, start1.atStart⟩
end Jvm.Pilot.@@N@@
