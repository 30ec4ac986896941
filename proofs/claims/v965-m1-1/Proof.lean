import JvmDerived
import JvmDerived.Pilot.@@N@@Statement
import JvmDerived.Pilot.@@N@@Code
set_option linter.unusedVariables false
set_option linter.unusedSimpArgs false
namespace Jvm.RoadKit
open Sem ClassFile Op Lib Jvm.Stand Jvm.Free Jvm.LawKit
section New
variable {p : Program} {l : Launch} {e : Env} {R : Room} {s : State} {m : MethodId} {args : Array Value} {below : List Frame} {meth : Method} {c : Code} {T : State} {locs : List Loc} {cells slots : Nat}
theorem retI (X : Stand p l e R s m args below meth c T locs cells slots) (hx : p.tables.exec = Jvm.exec) {pc : Nat} {Ls : Array Slot} {z : Int32} {rest : List Value} (hret : meth.sig.returnType = some .int) (hd : decode c.code pc = .ok (.ireturn, 1)) {fs : List Frame}
    (hl : ∀ (f : JFrame) (acts : List Action), f.method = m → f.locked = none → f.entered = [] → (doReturn e (T.setTop f) acts (some (.int z))).1 = T.setFrames fs) : Steps p.tables e below (T.setTop (mkF m pc Ls (.int z :: rest))) (T.setFrames fs) := by
  have hm' : T.vm.method? m = some meth := X.method'
  have hn : narrow .int (.int z) = .int z := rfl
  show Steps p.tables e below (T.setTop { method := m, pc := pc, locals := Ls, stack := _ :: rest, locked := none }) _
  jvm_step X.here [X.here.top, hx, hd, hm', hret, hn]
  first | (intro acts; rw [hl _ acts rfl rfl rfl]) | rw [hl _ _ rfl rfl rfl]
  exact Steps.refl _
end New
end Jvm.RoadKit
namespace Jvm.Pilot.@@N@@
open Jvm Jvm.ClassFile Sem Op Lib Jvm.Free Jvm.Stand Jvm.LawKit Jvm.RoadKit Bundle Jvm.Pilot.@@N@@.Jvm.D
section Own
variable {p : Program} {l : Launch} {e : Env} {R : Room} {s : State} {m : MethodId} {args : Array Value} {below : List Frame} {meth : Method} {c : Code} {T : State} {locs : List Loc} {k j : Nat} {Z : State} {a0 : Array Value} {h : Heap}
/-- the run that stands at g goes on to an end as Q says -/
def own_E (p : Program) (e : Env) (below : List Frame) (Q : Outcome → State → Prop) (T : State) (g : JFrame) : Prop :=
  ∃ s₂ o, Steps p.tables e below (T.setTop g) s₂ ∧ s₂.status = .running ∧ Ended s₂ below o ∧ Q o s₂
/-- an end as a contract's Qr says, with so many cells and slots at the most -/
def own_Q (s : State) (Qr : Option Value → Heap → List Loc → Prop) (k j : Nat) (o : Outcome) (U : State) : Prop := ∃ v L, o = .returned v ∧ Qr v U.heap L ∧ FrameEnd s o U L k j
/-- a contract of a method at these arguments and this heap -/
def own_M (l : Launch) (Z : State) (y : MethodName) (bytes : ByteArray) (maxL : Nat) (ret : Option FieldType) (rm : Room) (as' : Array Value) (h : Heap) (Qr : Option Value → Heap → List Loc → Prop) : Prop :=
  ∀ ws : List Jvm.Cond, MetFree l y (head1 (Jvm.Cond.code y bytes maxL ret :: ws) rm) (fun a U => a = as' ∧ Z.Warmed39 U.vm ∧ U.heap = h) (fun _ _ _ _ _ => True) (fun _ U o U' => ∃ v L, o = .returned v ∧ Qr v U'.heap L ∧ FrameEnd U o U' L rm.cells rm.slots)
theorem own_st {Q : Outcome → State → Prop} {T' : State} {g g' : JFrame} (hs : ∀ t, Steps p.tables e below (T'.setTop g') t → Steps p.tables e below (T.setTop g) t) (k : own_E p e below Q T' g') : own_E p e below Q T g := by
  obtain ⟨s₂, o, h1, h2, h3, h4⟩ := k
  exact ⟨s₂, o, hs _ h1, h2, h3, h4⟩
theorem own_sy {Q : Outcome → State → Prop} {T' : State} {g g' : JFrame} (hs : Steps p.tables e below (T.setTop g) (T'.setTop g')) (k : own_E p e below Q T' g') : own_E p e below Q T g := by
  obtain ⟨s₂, o, h1, h2, h3, h4⟩ := k
  exact ⟨s₂, o, hs.trans h1, h2, h3, h4⟩
theorem own_body {y : MethodName} {bytes : ByteArray} {maxL : Nat} {ret : Option FieldType} {rm : Room} {as' : Array Value} {Qr : Option Value → Heap → List Loc → Prop} (hp : plainName y.cls = true)
    (body : ∀ (p : Program) (e : Env) (s : State) (m : MethodId) (below : List Frame) (meth : Method) (c : Code) (T : State), p.tables.exec = Jvm.exec → c.code = bytes → c.maxLocals = maxL → s.vm.findClass y.cls = some m.cls → Z.Warmed39 s.vm → meth.sig.returnType = ret → meth.locks = false → meth.name = y.name →
      Stand p l e rm s m as' below meth c T [] 0 0 → T.heap = h → own_E p e below (own_Q s Qr rm.cells rm.slots) T (entryFrame m as' maxL)) : own_M l Z y bytes maxL ret rm as' h Qr := by
  intro ws
  refine MetFree.of_bodySF (plainFor_of_name hp) hisR ?_
  intro p e s m args below meth c s₁ Bd hml0 hP hK
  obtain ⟨rfl, hZ, hh⟩ := hP
  exact body p e s m below meth c s₁ Bd.exec Bd.bytes hml0 (findClass_of_methodNamed Bd.named) hZ Bd.returns Bd.notSynchronized (name_of_methodNamed Bd.named Bd.method).1 (Stand.of_body Bd) (by rw [← hh, Bd.state]; rfl)
theorem own_retN {Qr : Option Value → Heap → List Loc → Prop} {kk jj pc : Nat} {Ls : Array Slot} {z : Int32} {t : FieldType} {rest : List Value} (X : Stand p l e R s m args below meth c T locs k j) (hx : p.tables.exec = Jvm.exec) (hlk : meth.locks = false) (hret : meth.sig.returnType = some t) (ht : t = .boolean ∨ t = .byte ∨ t = .char ∨ t = .short)
    (hd : decode c.code pc = .ok (.ireturn, 1)) (hk : k ≤ kk) (hj : j ≤ jj) (hq : Qr (some (.int (nar t z))) T.heap locs) : own_E p e below (own_Q s Qr kk jj) T (mkF m pc Ls (.int z :: rest)) := by
  obtain ⟨fs, hr, hrun, hended, hW, hsame⟩ := X.leave (v := some (.int (nar t z))) (fun q => by rw [hret] at q; cases q) hlk
  exact ⟨_, _, retN X hx hret ht hd hr, hrun, hended, _, _, rfl, hq, ⟨_, rfl⟩, hW, hsame.mono hk hj⟩
theorem own_retI {Qr : Option Value → Heap → List Loc → Prop} {kk jj pc : Nat} {Ls : Array Slot} {z : Int32} {rest : List Value} (X : Stand p l e R s m args below meth c T locs k j) (hx : p.tables.exec = Jvm.exec) (hlk : meth.locks = false) (hret : meth.sig.returnType = some .int)
    (hd : decode c.code pc = .ok (.ireturn, 1)) (hk : k ≤ kk) (hj : j ≤ jj) (hq : Qr (some (.int z)) T.heap locs) : own_E p e below (own_Q s Qr kk jj) T (mkF m pc Ls (.int z :: rest)) := by
  obtain ⟨fs, hr, hrun, hended, hW, hsame⟩ := X.leave (v := some (.int z)) (fun q => by rw [hret] at q; cases q) hlk
  exact ⟨_, _, retI X hx hret hd hr, hrun, hended, _, _, rfl, hq, ⟨_, rfl⟩, hW, hsame.mono hk hj⟩
theorem own_retJ {Qr : Option Value → Heap → List Loc → Prop} {kk jj pc : Nat} {Ls : Array Slot} {z : Int64} (X : Stand p l e R s m args below meth c T locs k j) (hx : p.tables.exec = Jvm.exec) (hlk : meth.locks = false) (hret : meth.sig.returnType = some .long)
    (hd : decode c.code pc = .ok (.lreturn, 1)) (hk : k ≤ kk) (hj : j ≤ jj) (hq : Qr (some (.long z)) T.heap locs) : own_E p e below (own_Q s Qr kk jj) T (mkF m pc Ls [.long z]) := by
  obtain ⟨fs, hr, hrun, hended, hW, hsame⟩ := X.leave (v := some (.long z)) (fun q => by rw [hret] at q; cases q) hlk
  exact ⟨_, _, X.lreturnOut hx hret hd hr, hrun, hended, _, _, rfl, hq, ⟨_, rfl⟩, hW, hsame.mono hk hj⟩
theorem own_retV {Qr : Option Value → Heap → List Loc → Prop} {kk jj pc : Nat} {Ls : Array Slot} (X : Stand p l e R s m args below meth c T locs k j) (hx : p.tables.exec = Jvm.exec) (hlk : meth.locks = false) (hret : meth.sig.returnType = none)
    (hd : decode c.code pc = .ok (.return_, 1)) (hk : k ≤ kk) (hj : j ≤ jj) (hq : Qr none T.heap locs) : own_E p e below (own_Q s Qr kk jj) T (mkF m pc Ls []) := by
  obtain ⟨fs, hr, hrun, hended, hW, hsame⟩ := X.leave (v := none) (fun _ => rfl) hlk
  exact ⟨_, _, X.returnOut hx hret hd hr, hrun, hended, _, _, rfl, hq, ⟨_, rfl⟩, hW, hsame.mono hk hj⟩
theorem own_retA {Qr : Option Value → Heap → List Loc → Prop} {kk jj pc : Nat} {Ls : Array Slot} {z : Value} {t : FieldType} {rest : List Value} (X : Stand p l e R s m args below meth c T locs k j) (hx : p.tables.exec = Jvm.exec) (hlk : meth.locks = false) (hret : meth.sig.returnType = some t) (ht : t.isReference = true) (hz : z.isRef = true) (hn : narrow t z = z)
    (hd : decode c.code pc = .ok (.areturn, 1)) (hk : k ≤ kk) (hj : j ≤ jj) (hq : Qr (some z) T.heap locs) : own_E p e below (own_Q s Qr kk jj) T (mkF m pc Ls (z :: rest)) := by
  obtain ⟨fs, hr, hrun, hended, hW, hsame⟩ := X.leave (v := some z) (fun q => by rw [hret] at q; cases q) hlk
  exact ⟨_, _, retOut X hx hret hn (Or.inr (Or.inr (Or.inr (Or.inr ⟨rfl, ht, hz⟩)))) hd hr, hrun, hended, _, _, rfl, hq, ⟨_, rfl⟩, hW, hsame.mono hk hj⟩
theorem own_callS {own : String} {index : Nat} {y : MethodName} {bytes : ByteArray} {maxL W : Nat} {ret : Option FieldType} {rm : Room} {Qr : Option Value → Heap → List Loc → Prop} {Q : Outcome → State → Prop} {g : JFrame} {argsL rest : List Value}
    (X : Stand p l e R s m args below meth c T locs k j) (hx : p.tables.exec = Jvm.exec) (hZ : Z.Warmed39 s.vm) (hown : s.vm.findClass own = some m.cls) (wl : (Cond.methodLink own index y).before a0 Z = true) (wst : (Cond.static y).before a0 Z = true) (wi : (Cond.initialized y.cls).before a0 Z = true) (wc : (Cond.code y bytes maxL ret).before a0 Z = true)
    (hy : y.cls ≠ "java/lang/invoke/MethodHandle" ∧ y.cls ≠ "java/lang/invoke/VarHandle") (hM : own_M l Z y bytes maxL ret rm argsL.toArray T.heap Qr) (hf : rm.frames + 1 ≤ R.frames) (hl : W + (maxL + 11) + rm.locals ≤ R.locals) (hck : k + rm.cells ≤ R.cells) (hcj : j + rm.slots ≤ R.slots)
    (hg : g.method = m) (hsize : g.locals.size = c.maxLocals) (hlen : ∀ sig, parseMethodDescriptor y.desc = some sig → argsL.length = sig.parameters.length) (hstack : g.stack = argsL.reverse ++ rest) (hW : 2 * g.monitorRoom + (rest.map fun v => v.category).sum ≤ W) (hdg : decode c.code g.pc = .ok (.invokestatic index, 3))
    (K : ∀ (T' : State) (L : List Loc) (v : Option Value), Stand p l e R s m args below meth c T' (locs ++ L) (k + rm.cells) (j + rm.slots) → Qr v T'.heap L → own_E p e below Q T' { g with pc := g.pc + 3, stack := v.toList ++ rest }) : own_E p e below Q T g := by
  obtain ⟨v, vm1, ⟨T', L', k', j'⟩, -, X', ⟨Lc, hQ, l', y', z'⟩, st⟩ := Jvm.LawKit.callS X hx (y := y) hown (mvT hZ wl) (mvT hZ wst) (mvT hZ wi) (mvT hZ wc) hy (backOf (W := W) (hM []) hZ wc wi hf hl) hg hsize hlen hstack hW hdg (fun _ _ => ⟨rfl, rfl, hck, hcj⟩)
  dsimp only [Pt.U, Pt.locs, Pt.cells, Pt.slots] at X' l' y' z' st hQ
  subst l' y' z'
  exact own_st st (K _ _ _ X' hQ)
theorem own_tr {P : Heap → Prop} {h h' : Heap} (q : h' = h) (i : P h) : P h' := q ▸ i
theorem own_pop2L {tb : Tables} [Ours tb] {target : State} {g : JFrame} (h : At T m c below) (hx : tb.exec = Jvm.exec) (hg : g.method = m) {x : Int64} {rest : List Value} (hd : decode c.code g.pc = .ok (.pop2, 1)) (hs : g.stack = .long x :: rest)
    (hr : Steps tb e below (T.setTop { g with pc := g.pc + 1, stack := rest }) target) : Steps tb e below (T.setTop g) target := by
  subst hg
  jvm_step h [h.top, hx, hd, hs]
  exact hr
theorem own_callC {own : String} {index : Nat} {y : MethodName} {bytes : ByteArray} {maxL W : Nat} {rm : Room} {Qr : Option Value → Heap → List Loc → Prop} {Q : Outcome → State → Prop} {g : JFrame} {a : Addr} {argsL rest : List Value}
    (X : Stand p l e R s m args below meth c T locs k j) (hx : p.tables.exec = Jvm.exec) (hZ : Z.Warmed39 s.vm) (hy1 : y.name = "<init>") (hown : s.vm.findClass own = some m.cls) (wl : (Cond.methodLink own index y).before a0 Z = true) (wm : (Cond.instanceMethod y).before a0 Z = true) (wi : (Cond.initialized y.cls).before a0 Z = true) (wc : (Cond.code y bytes maxL none).before a0 Z = true)
    (hy : y.cls ≠ "java/lang/invoke/MethodHandle" ∧ y.cls ≠ "java/lang/invoke/VarHandle") (hM : own_M l Z y bytes maxL none rm (.ref a :: argsL).toArray T.heap Qr) (hf : rm.frames + 1 ≤ R.frames) (hl : W + (maxL + 11) + rm.locals ≤ R.locals) (hck : k + rm.cells ≤ R.cells) (hcj : j + rm.slots ≤ R.slots)
    (hg : g.method = m) (hsize : g.locals.size = c.maxLocals) (hlen : ∀ sig, parseMethodDescriptor y.desc = some sig → argsL.length = sig.parameters.length) (hstack : g.stack = argsL.reverse ++ .ref a :: rest) (hW : 2 * g.monitorRoom + (rest.map fun v => v.category).sum ≤ W) (hdg : decode c.code g.pc = .ok (.invokespecial index, 3))
    (K : ∀ (T' : State) (L : List Loc) (v : Option Value), Stand p l e R s m args below meth c T' (locs ++ L) (k + rm.cells) (j + rm.slots) → Qr v T'.heap L → own_E p e below Q T' { g with pc := g.pc + 3, stack := v.toList ++ rest }) : own_E p e below Q T g := by
  obtain ⟨v, vm1, ⟨T', L', k', j'⟩, -, X', ⟨Lc, hQ, l', y', z'⟩, st⟩ := X.specialBack hx (y := y) hy1 hown (mvT hZ wl) (mvT hZ wm) (mvT hZ wc) hy (backOf (W := W) (hM []) hZ wc wi hf hl) hg hsize (Steps.refl _) (a := a) hlen hstack hW hdg (fun _ _ => ⟨rfl, rfl, hck, hcj⟩)
  dsimp only [Pt.U, Pt.locs, Pt.cells, Pt.slots] at X' l' y' z' st hQ
  subst l' y' z'
  exact own_sy st (K _ _ _ X' hQ)
theorem own_callV {own : String} {index : Nat} {y : MethodName} {bytes : ByteArray} {maxL W : Nat} {ret : Option FieldType} {rm : Room} {Qr : Option Value → Heap → List Loc → Prop} {Q : Outcome → State → Prop} {g : JFrame} {a : Addr} {argsL rest : List Value}
    (X : Stand p l e R s m args below meth c T locs k j) (hx : p.tables.exec = Jvm.exec) (hZ : Z.Warmed39 s.vm) (hown : s.vm.findClass own = some m.cls) (wl : (Cond.methodLink own index y).before a0 Z = true) (wd : (Cond.declares y).before a0 Z = true) (wsel : (Cond.selects y.cls y y).before a0 Z = true) (wm : (Cond.instanceMethod y).before a0 Z = true) (wi : (Cond.initialized y.cls).before a0 Z = true) (wc : (Cond.code y bytes maxL ret).before a0 Z = true)
    (hy : y.cls ≠ "java/lang/invoke/MethodHandle" ∧ y.cls ≠ "java/lang/invoke/VarHandle") (E : Exa Z T.heap a y.cls) (hM : own_M l Z y bytes maxL ret rm (.ref a :: argsL).toArray T.heap Qr) (hf : rm.frames + 1 ≤ R.frames) (hl : W + (maxL + 11) + rm.locals ≤ R.locals) (hck : k + rm.cells ≤ R.cells) (hcj : j + rm.slots ≤ R.slots)
    (hg : g.method = m) (hsize : g.locals.size = c.maxLocals) (hlen : ∀ sig, parseMethodDescriptor y.desc = some sig → argsL.length = sig.parameters.length) (hstack : g.stack = argsL.reverse ++ .ref a :: rest) (hW : 2 * g.monitorRoom + (rest.map fun v => v.category).sum ≤ W) (hdg : decode c.code g.pc = .ok (.invokevirtual index, 3))
    (K : ∀ (T' : State) (L : List Loc) (v : Option Value), Stand p l e R s m args below meth c T' (locs ++ L) (k + rm.cells) (j + rm.slots) → Qr v T'.heap L → own_E p e below Q T' { g with pc := g.pc + 3, stack := v.toList ++ rest }) : own_E p e below Q T g := by
  obtain ⟨cB, kB, qa, qb, qc⟩ := isOf (T := T) hZ rfl E
  obtain ⟨v, vm1, ⟨T', L', k', j'⟩, -, X', ⟨Lc, hQ, l', y', z'⟩, st⟩ := X.virtualBack hx (y := y) (z := y) hown (mvT hZ wl) (mvT hZ wd) (notFace_of_selects (args := #[]) (mvT hZ wsel)) (mvT hZ wsel) (mvT hZ wm) hy (backOf (W := W) (hM []) hZ wc wi hf hl) qa qc hg hsize (Steps.refl _) hlen hstack hW hdg (fun _ _ => ⟨rfl, rfl, hck, hcj⟩)
  dsimp only [Pt.U, Pt.locs, Pt.cells, Pt.slots] at X' l' y' z' st hQ
  subst l' y' z'
  exact own_sy st (K _ _ _ X' hQ)
theorem own_sel {y z : MethodName} (h : (Cond.selects z.cls z z).before args s = true) (hc : y.cls = z.cls) (hpriv : s.PrivateAt y) (hinst : (Cond.instanceMethod y).before args s = true) (hy : y.cls ≠ "java/lang/invoke/MethodHandle" ∧ y.cls ≠ "java/lang/invoke/VarHandle") : (Cond.selects y.cls y y).before args s = true := by
  obtain ⟨c2, r2, m2, -, -, q3, -, kP, hkP, hkPi⟩ := Cond.selects_spec h
  exact Stand.selects_self_of_private (by rw [hc]; exact findClass_of_methodNamed q3) hkP hkPi hpriv hinst hy
theorem own_callP {own : String} {index : Nat} {y z : MethodName} {bytes : ByteArray} {maxL W : Nat} {ret : Option FieldType} {rm : Room} {Qr : Option Value → Heap → List Loc → Prop} {Q : Outcome → State → Prop} {g : JFrame} {a : Addr} {argsL rest : List Value}
    (X : Stand p l e R s m args below meth c T locs k j) (hx : p.tables.exec = Jvm.exec) (hZ : Z.Warmed39 s.vm) (hown : s.vm.findClass own = some m.cls) (wl : (Cond.methodLink own index y).before a0 Z = true) (wsel : (Cond.selects z.cls z z).before a0 Z = true) (hc : y.cls = z.cls) (wp : (Cond.privateMethod y).before a0 Z = true) (wm : (Cond.instanceMethod y).before a0 Z = true) (wi : (Cond.initialized y.cls).before a0 Z = true) (wc : (Cond.code y bytes maxL ret).before a0 Z = true)
    (hy : y.cls ≠ "java/lang/invoke/MethodHandle" ∧ y.cls ≠ "java/lang/invoke/VarHandle") (E : Exa Z T.heap a y.cls) (hM : own_M l Z y bytes maxL ret rm (.ref a :: argsL).toArray T.heap Qr) (hf : rm.frames + 1 ≤ R.frames) (hl : W + (maxL + 11) + rm.locals ≤ R.locals) (hck : k + rm.cells ≤ R.cells) (hcj : j + rm.slots ≤ R.slots)
    (hg : g.method = m) (hsize : g.locals.size = c.maxLocals) (hlen : ∀ sig, parseMethodDescriptor y.desc = some sig → argsL.length = sig.parameters.length) (hstack : g.stack = argsL.reverse ++ .ref a :: rest) (hW : 2 * g.monitorRoom + (rest.map fun v => v.category).sum ≤ W) (hdg : decode c.code g.pc = .ok (.invokevirtual index, 3))
    (K : ∀ (T' : State) (L : List Loc) (v : Option Value), Stand p l e R s m args below meth c T' (locs ++ L) (k + rm.cells) (j + rm.slots) → Qr v T'.heap L → own_E p e below Q T' { g with pc := g.pc + 3, stack := v.toList ++ rest }) : own_E p e below Q T g := by
  obtain ⟨cq, q1, q2⟩ := E.cell
  have hpr := Cond.privateMethod_at (mvP hZ wp (args := args))
  obtain ⟨v, vm1, ⟨T', L', k', j'⟩, -, X', ⟨Lc, hQ, l', y', z'⟩, st⟩ := X.privateBack hx (y := y) hown (mvT hZ wl) (mvT hZ wm) (own_sel (z := z) (mvT hZ wsel) hc hpr (mvT hZ wm) hy) hpr (mvT hZ wc) hy (backOf (W := W) (hM []) hZ wc wi hf hl) hg hsize (Steps.refl _) (a := a) q1 q2 hlen hstack hW hdg (fun _ _ => ⟨rfl, rfl, hck, hcj⟩)
  dsimp only [Pt.U, Pt.locs, Pt.cells, Pt.slots] at X' l' y' z' st hQ
  subst l' y' z'
  exact own_sy st (K _ _ _ X' hQ)
end Own
def own_upd (f : Nat → Int32) (i : Nat) (x : Int32) : Nat → Int32 := fun j => if j = i then x else f j
/-- at a lies a byte[20] whose bytes are f's; it is new -/
def own_I (Z : State) (n0 : Nat) (h : Heap) (a : Addr) (f : Nat → Int32) : Prop := n0 ≤ a ∧ ∃ cl : Cell, Arr Z h a cl .byte ∧ cl.slots.size = 20 ∧ ∀ i, i < 20 → cl.slots[i]? = some (.int (f i))
section OwnI
variable {p : Program} {l : Launch} {e : Env} {R : Room} {s : State} {m : MethodId} {args : Array Value} {below : List Frame} {meth : Method} {c : Code} {T : State} {locs : List Loc} {cells slots : Nat} {Z : State} {n0 : Nat} {h : Heap} {a : Addr} {f : Nat → Int32}
theorem own_Ina (I : own_I Z n0 h a f) : n0 ≤ a := I.1
theorem own_Isz (I : own_I Z n0 h a f) : n0 ≤ h.size := by obtain ⟨q, cl, A, -⟩ := I; exact Nat.le_of_lt (Nat.lt_of_le_of_lt q A.lt)
theorem own_Inew (q : n0 ≤ a) {k : ClassId} (A : Arr Z h a (newA k .byte 20) .byte) : own_I Z n0 h a (fun _ => 0) := by
  refine ⟨q, _, A, by rw [sz_new]; rfl, fun i hi => ?_⟩
  show (Array.replicate ((20 : Int32).toNatClampNeg) (Value.int 0))[i]? = some (Value.int 0)
  rw [Array.getElem?_replicate, if_pos (show i < (20 : Int32).toNatClampNeg from hi)]
theorem own_bastore (X : Stand p l e R s m args below meth c T locs cells slots) (hx : p.tables.exec = Jvm.exec) (hZ : Z.Warmed39 s.vm) (I : own_I Z n0 T.heap a f) {j x : Int32} {i : Nat} (hji : j.toNatClampNeg = i) (hi : i < 20) (h0 : ¬ j < 0)
    {g : JFrame} (hg : g.method = m) {rest : List Value} (hs : g.stack = .int x :: .int j :: .ref a :: rest) (hd : decode c.code g.pc = .ok (.bastore, 1)) :
    ∃ T', Stand p l e R s m args below meth c T' (locs ++ [⟨a, j.toNatClampNeg⟩]) cells slots ∧ own_I Z n0 T'.heap a (own_upd f i (nar .byte x)) ∧ ∀ target, Steps p.tables e below (T'.setTop { g with pc := g.pc + 1, stack := rest }) target → Steps p.tables e below (T.setTop g) target := by
  obtain ⟨q, cl, A, S, V⟩ := I
  obtain ⟨T', h', X', e', W', st⟩ := stB X hx hZ rfl A (j := j) (x := x) (fun z => by
    rcases z with z | z
    · exact h0 z
    · rw [S, hji] at z; omega) hg hs hd
  subst e'
  refine ⟨T', X', ⟨q, _, A.same W', by rw [sz_set]; exact S, fun i' hi' => ?_⟩, st⟩
  show (cl.slots.setIfInBounds j.toNatClampNeg (Value.int (nar .byte x)))[i']? = some (Value.int (if i' = i then nar .byte x else f i'))
  rw [hji, Array.getElem?_setIfInBounds]
  by_cases z : i = i'
  · subst z
    rw [if_pos rfl, if_pos rfl, if_pos (by rw [S]; exact hi)]
  · rw [if_neg z, if_neg (fun y => z y.symm)]; exact V i' hi'
theorem own_baload (X : Stand p l e R s m args below meth c T locs cells slots) (hx : p.tables.exec = Jvm.exec) (hZ : Z.Warmed39 s.vm) (I : own_I Z n0 T.heap a f) {j : Int32} (hj : 0 ≤ j.toInt ∧ j.toInt < 20)
    {g : JFrame} (hg : g.method = m) {rest : List Value} (hs : g.stack = .int j :: .ref a :: rest) (hd : decode c.code g.pc = .ok (.baload, 1)) {target : State}
    (hr : Steps p.tables e below (T.setTop { g with pc := g.pc + 1, stack := .int (f j.toNatClampNeg) :: rest }) target) : Steps p.tables e below (T.setTop g) target := by
  obtain ⟨q, cl, A, S, V⟩ := I
  have b : j.toNatClampNeg < 20 := by show j.toInt.toNat < 20; omega
  exact X.baloadBytes hx A.1 (State.isArrayOf_alike hZ.alike A.2.1) A.2.2 (fun z => by
    rcases z with z | z
    · rw [Int32.lt_iff_toInt_lt] at z; have : (0 : Int32).toInt = 0 := rfl; omega
    · rw [S] at z; omega) (V _ b) hg hs hd _ hr
end OwnI
theorem own_d1 : (1 : Int32).toInt = 1 := rfl
theorem own_d18 : (18 : Int32).toInt = 18 := rfl
theorem own_sub (x y : Int32) (h : -1000 ≤ x.toInt - y.toInt ∧ x.toInt - y.toInt ≤ 1000) : (x - y).toInt = x.toInt - y.toInt := by
  have := c_isub x y; have := rng32 (x - y); omega
theorem own_add1 (x : Int32) (h : -1000 ≤ x.toInt ∧ x.toInt ≤ 1000) : (x + 1).toInt = x.toInt + 1 := by
  have := c_iadd x 1; have := rng32 (x + 1); have := own_d1; omega
theorem own_rem (x : Int32) : 0 ≤ ((x &&& (2147483647 : Int32)) - ((x &&& (2147483647 : Int32)) / (21 : Int32)) * (21 : Int32)).toInt ∧ ((x &&& (2147483647 : Int32)) - ((x &&& (2147483647 : Int32)) / (21 : Int32)) * (21 : Int32)).toInt ≤ 20 := by
  have m0 : (x &&& (2147483647 : Int32)).toInt = x.toInt % (2 ^ 31 : Nat) := c_mask x 2147483647 31 (by decide) (by decide)
  have rt := rem_toInt (x &&& (2147483647 : Int32)) 21
  rw [Int.tmod_eq_emod_of_nonneg (by omega)] at rt
  have d : (21 : Int32).toInt = 21 := rfl
  rw [d] at rt
  omega
theorem own_B0 (x y : Int32) : 0 ≤ ((x &&& (2147483647 : Int32)) - ((x &&& (2147483647 : Int32)) / (21 : Int32)) * (21 : Int32)).toInt ∧ ((x &&& (2147483647 : Int32)) - ((x &&& (2147483647 : Int32)) / (21 : Int32)) * (21 : Int32)).toInt ≤ 20 ∧ 0 ≤ ((y &&& (2147483647 : Int32)) - ((y &&& (2147483647 : Int32)) / (21 : Int32)) * (21 : Int32)).toInt ∧ ((y &&& (2147483647 : Int32)) - ((y &&& (2147483647 : Int32)) / (21 : Int32)) * (21 : Int32)).toInt ≤ 20 := ⟨(own_rem x).1, (own_rem x).2, (own_rem y).1, (own_rem y).2⟩
theorem own_B1 {x y : Int32} (h : 0 ≤ x.toInt ∧ x.toInt ≤ 20 ∧ 0 ≤ y.toInt ∧ y.toInt ≤ 20) : 0 ≤ x.toInt ∧ x.toInt ≤ 20 ∧ -1 ≤ y.toInt ∧ y.toInt ≤ 20 := by omega
theorem own_B2 {x y : Int32} (h : 0 ≤ x.toInt ∧ x.toInt ≤ 20 ∧ 0 ≤ y.toInt ∧ y.toInt ≤ 20) : 0 ≤ x.toInt ∧ x.toInt ≤ 20 ∧ -1 ≤ (y - 1).toInt ∧ (y - 1).toInt ≤ 20 := by
  have := own_d1; have := own_sub y 1 (by omega); omega
theorem own_B3 {x y : Int32} (h : 0 ≤ x.toInt ∧ x.toInt ≤ 20 ∧ 0 ≤ y.toInt ∧ y.toInt ≤ 20) (q : ¬ (y - x) < (1 : Int32)) : 0 ≤ (y - 1).toInt ∧ (y - 1).toInt < 20 := by
  have := own_d1; have := own_sub y 1 (by omega); have := own_sub y x (by omega)
  rw [Int32.lt_iff_toInt_lt] at q; omega
theorem own_L0 {s e : Int32} (h : 0 ≤ s.toInt ∧ s.toInt ≤ 20 ∧ -1 ≤ e.toInt ∧ e.toInt ≤ 20) (q1 : ¬ (e - s) < (1 : Int32)) (q2 : ¬ (18 : Int32) < (e - s)) : 0 ≤ s.toInt ∧ s.toInt ≤ e.toInt ∧ e.toInt ≤ 20 ∧ e.toInt - s.toInt < ((20 : Nat) : Int) := by
  rw [Int32.lt_iff_toInt_lt] at q1 q2
  have := own_d1; have := own_d18; have := c_isub e s; have := rng32 (e - s); have := rng32 e; have := rng32 s
  omega
theorem own_L1 {e i : Int32} {n : Nat} (h : 0 ≤ i.toInt ∧ i.toInt ≤ e.toInt ∧ e.toInt ≤ 20 ∧ e.toInt - i.toInt < ((n + 1 : Nat) : Int)) (q : i < e) : 0 ≤ (i + 1).toInt ∧ (i + 1).toInt ≤ e.toInt ∧ e.toInt ≤ 20 ∧ e.toInt - (i + 1).toInt < (n : Int) := by
  rw [Int32.lt_iff_toInt_lt] at q
  have := own_add1 i (by omega); omega
theorem own_L2 {e i : Int32} {n : Nat} (h : 0 ≤ i.toInt ∧ i.toInt ≤ e.toInt ∧ e.toInt ≤ 20 ∧ e.toInt - i.toInt < ((n + 1 : Nat) : Int)) (q : i < e) : 0 ≤ i.toInt ∧ i.toInt < 20 := by
  rw [Int32.lt_iff_toInt_lt] at q; omega
theorem pn_1 : plainName "com/example/refstone/refstone/model/SctidDigitsValuePinLaw" = true := by first | (simp [plainName, overriddenIn]; done) | decide +kernel
theorem pd_1 : parseMethodDescriptor "(JIII)B" = some ⟨[.long, .int, .int, .int], some .byte⟩ := by decide +kernel
theorem d1_0 : decode method_2_code 0 = .ok (.lload_n 0, 1) := by decide +kernel
theorem d1_1 : decode method_2_code 1 = .ok (.bipush 8, 2) := by decide +kernel
theorem d1_3 : decode method_2_code 3 = .ok (.iload_n 2, 1) := by decide +kernel
theorem d1_4 : decode method_2_code 4 = .ok (.imul, 1) := by decide +kernel
theorem d1_5 : decode method_2_code 5 = .ok (.lushr, 1) := by decide +kernel
theorem d1_6 : decode method_2_code 6 = .ok (.l2i, 1) := by decide +kernel
theorem d1_7 : decode method_2_code 7 = .ok (.i2b, 1) := by decide +kernel
theorem d1_8 : decode method_2_code 8 = .ok (.istore 5, 2) := by decide +kernel
theorem d1_10 : decode method_2_code 10 = .ok (.iload 4, 2) := by decide +kernel
theorem d1_12 : decode method_2_code 12 = .ok (.iconst 1, 1) := by decide +kernel
theorem d1_13 : decode method_2_code 13 = .ok (.iand, 1) := by decide +kernel
theorem d1_14 : decode method_2_code 14 = .ok (.ifCond .eq 28, 3) := by decide +kernel
theorem d1_17 : decode method_2_code 17 = .ok (.iload_n 3, 1) := by decide +kernel
theorem d1_18 : decode method_2_code 18 = .ok (.iload 4, 2) := by decide +kernel
theorem d1_20 : decode method_2_code 20 = .ok (.iconst 1, 1) := by decide +kernel
theorem d1_21 : decode method_2_code 21 = .ok (.iushr, 1) := by decide +kernel
theorem d1_22 : decode method_2_code 22 = .ok (.bipush 31, 2) := by decide +kernel
theorem d1_24 : decode method_2_code 24 = .ok (.iand, 1) := by decide +kernel
theorem d1_25 : decode method_2_code 25 = .ok (.if_icmp .eq 17, 3) := by decide +kernel
theorem d1_28 : decode method_2_code 28 = .ok (.bipush 48, 2) := by decide +kernel
theorem d1_30 : decode method_2_code 30 = .ok (.iload 5, 2) := by decide +kernel
theorem d1_32 : decode method_2_code 32 = .ok (.sipush 255, 3) := by decide +kernel
theorem d1_35 : decode method_2_code 35 = .ok (.iand, 1) := by decide +kernel
theorem d1_36 : decode method_2_code 36 = .ok (.bipush 10, 2) := by decide +kernel
theorem d1_38 : decode method_2_code 38 = .ok (.irem, 1) := by decide +kernel
theorem d1_39 : decode method_2_code 39 = .ok (.iadd, 1) := by decide +kernel
theorem d1_40 : decode method_2_code 40 = .ok (.i2b, 1) := by decide +kernel
theorem d1_41 : decode method_2_code 41 = .ok (.ireturn, 1) := by decide +kernel
theorem d1_42 : decode method_2_code 42 = .ok (.iload 5, 2) := by decide +kernel
theorem d1_44 : decode method_2_code 44 = .ok (.ireturn, 1) := by decide +kernel
theorem ef_1 (m : MethodId) (p0 : Int64) (p1 : Int32) (p2 : Int32) (p3 : Int32) : entryFrame m #[(.long p0), (.int p1), (.int p2), (.int p3)] 6 = (mkF m 0 #[.val (.long p0), .second, .val (.int p1), .val (.int p2), .val (.int p3), .unset] []) := by first | (simp [entryFrame, mkF, argsToLocals, Value.category, maxLocals]; done) | rfl
def F1_42 (x0 : Int64) (x1 : Int32) (x2 : Int32) (x3 : Int32) (x4 : Int32) : Int32 := (nar .byte x4)
def F1_0 (x0 : Int64) (x1 : Int32) (x2 : Int32) (x3 : Int32) : Int32 := (if (x3 &&& (1 : Int32)) = (0 : Int32) then (F1_42 x0 x1 x2 x3 (((XT.ushrL x0 ((8 : Int32) * x1)).toInt32).toInt8.toInt32)) else (if x2 = ((XT.ushr x3 (1 : Int32)) &&& (31 : Int32)) then (F1_42 x0 x1 x2 x3 (((XT.ushrL x0 ((8 : Int32) * x1)).toInt32).toInt8.toInt32)) else (nar .byte (((48 : Int32) + (((((XT.ushrL x0 ((8 : Int32) * x1)).toInt32).toInt8.toInt32) &&& (255 : Int32)) - (((((XT.ushrL x0 ((8 : Int32) * x1)).toInt32).toInt8.toInt32) &&& (255 : Int32)) / (10 : Int32)) * (10 : Int32))).toInt8.toInt32))))
set_option maxRecDepth 65536 in
set_option maxHeartbeats 40000000 in
theorem rm1 (l : Launch) (Z : State) (a0 : Array Value) (hw : ∀ d ∈ tables_1, d.before a0 Z = true) (p0 : Int64) (p1 : Int32) (p2 : Int32) (p3 : Int32) (h0 : Heap) (n0 : Nat) :
    own_M l Z (⟨"com/example/refstone/refstone/model/SctidDigitsValuePinLaw", "cell", "(JIII)B"⟩ : MethodName) method_2_code 6 (some .byte) ({ frames := 0, cells := 0, slots := 0, locals := 0 } : Room) #[(.long p0), (.int p1), (.int p2), (.int p3)] h0 (fun v h L => v = some (.int (F1_0 p0 p1 p2 p3)) ∧ Fr n0 L ∧ h = h0) := by
  refine own_body pn_1 ?_
  intro p e s m below meth c T hx hby hml hown hZ hret hlk hnm X eT
  have N := Fr.nil n0
  obtain ⟨w, hF⟩ : ∃ w, w = F1_0 p0 p1 p2 p3 := ⟨_, rfl⟩
  try rw [← hF]
  generalize hQ : own_Q s (fun v h L => v = some (.int w) ∧ Fr n0 L ∧ h = h0) ({ frames := 0, cells := 0, slots := 0, locals := 0 } : Room).cells ({ frames := 0, cells := 0, slots := 0, locals := 0 } : Room).slots = Qq
  refine own_st (fun _ k => castTop (ef_1 m p0 p1 p2 p3) k) ?_
  have B42 : ∀ (T : State) (L : List Loc) (x0 : Int64) (x1 : Int32) (x2 : Int32) (x3 : Int32) (x4 : Int32), Stand p l e ({ frames := 0, cells := 0, slots := 0, locals := 0 } : Room) s m #[(.long p0), (.int p1), (.int p2), (.int p3)] below meth c T L 0 0 → T.heap = h0 → Fr n0 L → w = F1_42 x0 x1 x2 x3 x4 → own_E p e below Qq T (mkF m 42 #[.val (.long x0), .second, .val (.int x1), .val (.int x2), .val (.int x3), .val (.int x4)] []) := by
    intro T L x0 x1 x2 x3 x4 X eT N hF
    refine own_st (fun _ => XS.iload X.here hx rfl (hb hby d1_42) rfl) ?_
    show own_E p e below Qq T (mkF m 44 #[.val (.long x0), .second, .val (.int x1), .val (.int x2), .val (.int x3), .val (.int x4)] [(.int x4)])
    rw [← hQ]
    exact own_retN X hx hlk (t := .byte) hret (by simp) (hb hby d1_44) (by decide) (by decide) ⟨by (rw [hF]; try rfl), N, eT⟩
  show own_E p e below Qq T (mkF m 0 #[.val (.long p0), .second, .val (.int p1), .val (.int p2), .val (.int p3), .unset] [])
  refine own_st (fun _ => XT.lloadN X.here hx rfl (hb hby d1_0) rfl) ?_
  show own_E p e below Qq T (mkF m 1 #[.val (.long p0), .second, .val (.int p1), .val (.int p2), .val (.int p3), .unset] [(.long p0)])
  refine own_st (fun _ => XS.bipush X.here hx rfl (hb hby d1_1)) ?_
  show own_E p e below Qq T (mkF m 3 #[.val (.long p0), .second, .val (.int p1), .val (.int p2), .val (.int p3), .unset] [(.int (8 : Int32)), (.long p0)])
  refine own_st (fun _ => XS.iloadN X.here hx rfl (hb hby d1_3) rfl) ?_
  show own_E p e below Qq T (mkF m 4 #[.val (.long p0), .second, .val (.int p1), .val (.int p2), .val (.int p3), .unset] [(.int p1), (.int (8 : Int32)), (.long p0)])
  refine own_st (fun _ => XS.imul X.here hx rfl (hb hby d1_4) rfl) ?_
  show own_E p e below Qq T (mkF m 5 #[.val (.long p0), .second, .val (.int p1), .val (.int p2), .val (.int p3), .unset] [(.int ((8 : Int32) * p1)), (.long p0)])
  refine own_st (fun _ => XT.lushr X.here hx rfl (hb hby d1_5) rfl) ?_
  show own_E p e below Qq T (mkF m 6 #[.val (.long p0), .second, .val (.int p1), .val (.int p2), .val (.int p3), .unset] [(.long (XT.ushrL p0 ((8 : Int32) * p1)))])
  refine own_st (fun _ => XT.l2i X.here hx rfl (hb hby d1_6) rfl) ?_
  show own_E p e below Qq T (mkF m 7 #[.val (.long p0), .second, .val (.int p1), .val (.int p2), .val (.int p3), .unset] [(.int ((XT.ushrL p0 ((8 : Int32) * p1)).toInt32))])
  refine own_st (fun _ => XT.i2b X.here hx rfl (hb hby d1_7) rfl) ?_
  show own_E p e below Qq T (mkF m 8 #[.val (.long p0), .second, .val (.int p1), .val (.int p2), .val (.int p3), .unset] [(.int (((XT.ushrL p0 ((8 : Int32) * p1)).toInt32).toInt8.toInt32))])
  refine own_st (fun _ => XS.istore X.here hx rfl (hb hby d1_8) rfl (l' := #[.val (.long p0), .second, .val (.int p1), .val (.int p2), .val (.int p3), .val (.int (((XT.ushrL p0 ((8 : Int32) * p1)).toInt32).toInt8.toInt32))]) rfl) ?_
  show own_E p e below Qq T (mkF m 10 #[.val (.long p0), .second, .val (.int p1), .val (.int p2), .val (.int p3), .val (.int (((XT.ushrL p0 ((8 : Int32) * p1)).toInt32).toInt8.toInt32))] [])
  refine own_st (fun _ => XS.iload X.here hx rfl (hb hby d1_10) rfl) ?_
  show own_E p e below Qq T (mkF m 12 #[.val (.long p0), .second, .val (.int p1), .val (.int p2), .val (.int p3), .val (.int (((XT.ushrL p0 ((8 : Int32) * p1)).toInt32).toInt8.toInt32))] [(.int p3)])
  refine own_st (fun _ => XS.iconst X.here hx rfl (hb hby d1_12)) ?_
  show own_E p e below Qq T (mkF m 13 #[.val (.long p0), .second, .val (.int p1), .val (.int p2), .val (.int p3), .val (.int (((XT.ushrL p0 ((8 : Int32) * p1)).toInt32).toInt8.toInt32))] [(.int (1 : Int32)), (.int p3)])
  refine own_st (fun _ => XS.iand X.here hx rfl (hb hby d1_13) rfl) ?_
  show own_E p e below Qq T (mkF m 14 #[.val (.long p0), .second, .val (.int p1), .val (.int p2), .val (.int p3), .val (.int (((XT.ushrL p0 ((8 : Int32) * p1)).toInt32).toInt8.toInt32))] [(.int (p3 &&& (1 : Int32)))])
  by_cases q14 : (p3 &&& (1 : Int32)) = (0 : Int32)
  · replace hF := hF.trans (if_pos q14)
    refine own_st (fun _ => XS.ifYes X.here hx rfl (pc0 := 14) (pc' := 42) rfl (hb hby d1_14) rfl (XT.i0_eq_t q14) (by decide) (by decide)) ?_
    show own_E p e below Qq T (mkF m 42 #[.val (.long p0), .second, .val (.int p1), .val (.int p2), .val (.int p3), .val (.int (((XT.ushrL p0 ((8 : Int32) * p1)).toInt32).toInt8.toInt32))] [])
    exact B42 _ _ p0 p1 p2 p3 (((XT.ushrL p0 ((8 : Int32) * p1)).toInt32).toInt8.toInt32) X eT N hF
  · replace hF := hF.trans (if_neg q14)
    refine own_st (fun _ => XS.ifNo X.here hx rfl (hb hby d1_14) rfl (XT.i0_eq_f q14)) ?_
    show own_E p e below Qq T (mkF m 17 #[.val (.long p0), .second, .val (.int p1), .val (.int p2), .val (.int p3), .val (.int (((XT.ushrL p0 ((8 : Int32) * p1)).toInt32).toInt8.toInt32))] [])
    refine own_st (fun _ => XS.iloadN X.here hx rfl (hb hby d1_17) rfl) ?_
    show own_E p e below Qq T (mkF m 18 #[.val (.long p0), .second, .val (.int p1), .val (.int p2), .val (.int p3), .val (.int (((XT.ushrL p0 ((8 : Int32) * p1)).toInt32).toInt8.toInt32))] [(.int p2)])
    refine own_st (fun _ => XS.iload X.here hx rfl (hb hby d1_18) rfl) ?_
    show own_E p e below Qq T (mkF m 20 #[.val (.long p0), .second, .val (.int p1), .val (.int p2), .val (.int p3), .val (.int (((XT.ushrL p0 ((8 : Int32) * p1)).toInt32).toInt8.toInt32))] [(.int p3), (.int p2)])
    refine own_st (fun _ => XS.iconst X.here hx rfl (hb hby d1_20)) ?_
    show own_E p e below Qq T (mkF m 21 #[.val (.long p0), .second, .val (.int p1), .val (.int p2), .val (.int p3), .val (.int (((XT.ushrL p0 ((8 : Int32) * p1)).toInt32).toInt8.toInt32))] [(.int (1 : Int32)), (.int p3), (.int p2)])
    refine own_st (fun _ => XT.iushr X.here hx rfl (hb hby d1_21) rfl) ?_
    show own_E p e below Qq T (mkF m 22 #[.val (.long p0), .second, .val (.int p1), .val (.int p2), .val (.int p3), .val (.int (((XT.ushrL p0 ((8 : Int32) * p1)).toInt32).toInt8.toInt32))] [(.int (XT.ushr p3 (1 : Int32))), (.int p2)])
    refine own_st (fun _ => XS.bipush X.here hx rfl (hb hby d1_22)) ?_
    show own_E p e below Qq T (mkF m 24 #[.val (.long p0), .second, .val (.int p1), .val (.int p2), .val (.int p3), .val (.int (((XT.ushrL p0 ((8 : Int32) * p1)).toInt32).toInt8.toInt32))] [(.int (31 : Int32)), (.int (XT.ushr p3 (1 : Int32))), (.int p2)])
    refine own_st (fun _ => XS.iand X.here hx rfl (hb hby d1_24) rfl) ?_
    show own_E p e below Qq T (mkF m 25 #[.val (.long p0), .second, .val (.int p1), .val (.int p2), .val (.int p3), .val (.int (((XT.ushrL p0 ((8 : Int32) * p1)).toInt32).toInt8.toInt32))] [(.int ((XT.ushr p3 (1 : Int32)) &&& (31 : Int32))), (.int p2)])
    by_cases q25 : p2 = ((XT.ushr p3 (1 : Int32)) &&& (31 : Int32))
    · replace hF := hF.trans (if_pos q25)
      refine own_st (fun _ => XS.icmpYes X.here hx rfl (pc0 := 25) (pc' := 42) rfl (hb hby d1_25) rfl (XT.ii_eq_t q25) (by decide) (by decide)) ?_
      show own_E p e below Qq T (mkF m 42 #[.val (.long p0), .second, .val (.int p1), .val (.int p2), .val (.int p3), .val (.int (((XT.ushrL p0 ((8 : Int32) * p1)).toInt32).toInt8.toInt32))] [])
      exact B42 _ _ p0 p1 p2 p3 (((XT.ushrL p0 ((8 : Int32) * p1)).toInt32).toInt8.toInt32) X eT N hF
    · replace hF := hF.trans (if_neg q25)
      refine own_st (fun _ => XS.icmpNo X.here hx rfl (hb hby d1_25) rfl (XT.ii_eq_f q25)) ?_
      show own_E p e below Qq T (mkF m 28 #[.val (.long p0), .second, .val (.int p1), .val (.int p2), .val (.int p3), .val (.int (((XT.ushrL p0 ((8 : Int32) * p1)).toInt32).toInt8.toInt32))] [])
      refine own_st (fun _ => XS.bipush X.here hx rfl (hb hby d1_28)) ?_
      show own_E p e below Qq T (mkF m 30 #[.val (.long p0), .second, .val (.int p1), .val (.int p2), .val (.int p3), .val (.int (((XT.ushrL p0 ((8 : Int32) * p1)).toInt32).toInt8.toInt32))] [(.int (48 : Int32))])
      refine own_st (fun _ => XS.iload X.here hx rfl (hb hby d1_30) rfl) ?_
      show own_E p e below Qq T (mkF m 32 #[.val (.long p0), .second, .val (.int p1), .val (.int p2), .val (.int p3), .val (.int (((XT.ushrL p0 ((8 : Int32) * p1)).toInt32).toInt8.toInt32))] [(.int (((XT.ushrL p0 ((8 : Int32) * p1)).toInt32).toInt8.toInt32)), (.int (48 : Int32))])
      refine own_st (fun _ => XS.sipush X.here hx rfl (hb hby d1_32)) ?_
      show own_E p e below Qq T (mkF m 35 #[.val (.long p0), .second, .val (.int p1), .val (.int p2), .val (.int p3), .val (.int (((XT.ushrL p0 ((8 : Int32) * p1)).toInt32).toInt8.toInt32))] [(.int (255 : Int32)), (.int (((XT.ushrL p0 ((8 : Int32) * p1)).toInt32).toInt8.toInt32)), (.int (48 : Int32))])
      refine own_st (fun _ => XS.iand X.here hx rfl (hb hby d1_35) rfl) ?_
      show own_E p e below Qq T (mkF m 36 #[.val (.long p0), .second, .val (.int p1), .val (.int p2), .val (.int p3), .val (.int (((XT.ushrL p0 ((8 : Int32) * p1)).toInt32).toInt8.toInt32))] [(.int ((((XT.ushrL p0 ((8 : Int32) * p1)).toInt32).toInt8.toInt32) &&& (255 : Int32))), (.int (48 : Int32))])
      refine own_st (fun _ => XS.bipush X.here hx rfl (hb hby d1_36)) ?_
      show own_E p e below Qq T (mkF m 38 #[.val (.long p0), .second, .val (.int p1), .val (.int p2), .val (.int p3), .val (.int (((XT.ushrL p0 ((8 : Int32) * p1)).toInt32).toInt8.toInt32))] [(.int (10 : Int32)), (.int ((((XT.ushrL p0 ((8 : Int32) * p1)).toInt32).toInt8.toInt32) &&& (255 : Int32))), (.int (48 : Int32))])
      refine own_st (fun _ => XS.irem X.here hx rfl (hb hby d1_38) rfl (by first | exact hP | decide)) ?_
      show own_E p e below Qq T (mkF m 39 #[.val (.long p0), .second, .val (.int p1), .val (.int p2), .val (.int p3), .val (.int (((XT.ushrL p0 ((8 : Int32) * p1)).toInt32).toInt8.toInt32))] [(.int (((((XT.ushrL p0 ((8 : Int32) * p1)).toInt32).toInt8.toInt32) &&& (255 : Int32)) - (((((XT.ushrL p0 ((8 : Int32) * p1)).toInt32).toInt8.toInt32) &&& (255 : Int32)) / (10 : Int32)) * (10 : Int32))), (.int (48 : Int32))])
      refine own_st (fun _ => XS.iadd X.here hx rfl (hb hby d1_39) rfl) ?_
      show own_E p e below Qq T (mkF m 40 #[.val (.long p0), .second, .val (.int p1), .val (.int p2), .val (.int p3), .val (.int (((XT.ushrL p0 ((8 : Int32) * p1)).toInt32).toInt8.toInt32))] [(.int ((48 : Int32) + (((((XT.ushrL p0 ((8 : Int32) * p1)).toInt32).toInt8.toInt32) &&& (255 : Int32)) - (((((XT.ushrL p0 ((8 : Int32) * p1)).toInt32).toInt8.toInt32) &&& (255 : Int32)) / (10 : Int32)) * (10 : Int32))))])
      refine own_st (fun _ => XT.i2b X.here hx rfl (hb hby d1_40) rfl) ?_
      show own_E p e below Qq T (mkF m 41 #[.val (.long p0), .second, .val (.int p1), .val (.int p2), .val (.int p3), .val (.int (((XT.ushrL p0 ((8 : Int32) * p1)).toInt32).toInt8.toInt32))] [(.int (((48 : Int32) + (((((XT.ushrL p0 ((8 : Int32) * p1)).toInt32).toInt8.toInt32) &&& (255 : Int32)) - (((((XT.ushrL p0 ((8 : Int32) * p1)).toInt32).toInt8.toInt32) &&& (255 : Int32)) / (10 : Int32)) * (10 : Int32))).toInt8.toInt32))])
      rw [← hQ]
      exact own_retN X hx hlk (t := .byte) hret (by simp) (hb hby d1_41) (by decide) (by decide) ⟨by (rw [hF]; try rfl), N, eT⟩
theorem pn_2 : plainName "com/example/refstone/refstone/model/Sctid" = true := by first | (simp [plainName, overriddenIn]; done) | decide +kernel
theorem pd_2 : parseMethodDescriptor "([BII)J" = some ⟨[(.array .byte), .int, .int], some .long⟩ := by decide +kernel
theorem d2_0 : decode prog_49_method_4_code 0 = .ok (.iload_n 2, 1) := by decide +kernel
theorem d2_1 : decode prog_49_method_4_code 1 = .ok (.iload_n 1, 1) := by decide +kernel
theorem d2_2 : decode prog_49_method_4_code 2 = .ok (.isub, 1) := by decide +kernel
theorem d2_3 : decode prog_49_method_4_code 3 = .ok (.iconst 1, 1) := by decide +kernel
theorem d2_4 : decode prog_49_method_4_code 4 = .ok (.if_icmp .lt 11, 3) := by decide +kernel
theorem d2_7 : decode prog_49_method_4_code 7 = .ok (.iload_n 2, 1) := by decide +kernel
theorem d2_8 : decode prog_49_method_4_code 8 = .ok (.iload_n 1, 1) := by decide +kernel
theorem d2_9 : decode prog_49_method_4_code 9 = .ok (.isub, 1) := by decide +kernel
theorem d2_10 : decode prog_49_method_4_code 10 = .ok (.bipush 18, 2) := by decide +kernel
theorem d2_12 : decode prog_49_method_4_code 12 = .ok (.if_icmp .le 7, 3) := by decide +kernel
theorem d2_15 : decode prog_49_method_4_code 15 = .ok (.ldc2_w 27, 3) := by decide +kernel
theorem d2_18 : decode prog_49_method_4_code 18 = .ok (.lreturn, 1) := by decide +kernel
theorem d2_19 : decode prog_49_method_4_code 19 = .ok (.lconst 0, 1) := by decide +kernel
theorem d2_20 : decode prog_49_method_4_code 20 = .ok (.lstore_n 3, 1) := by decide +kernel
theorem d2_21 : decode prog_49_method_4_code 21 = .ok (.iload_n 1, 1) := by decide +kernel
theorem d2_22 : decode prog_49_method_4_code 22 = .ok (.istore 5, 2) := by decide +kernel
theorem d2_24 : decode prog_49_method_4_code 24 = .ok (.iload 5, 2) := by decide +kernel
theorem d2_26 : decode prog_49_method_4_code 26 = .ok (.iload_n 2, 1) := by decide +kernel
theorem d2_27 : decode prog_49_method_4_code 27 = .ok (.if_icmp .ge 44, 3) := by decide +kernel
theorem d2_30 : decode prog_49_method_4_code 30 = .ok (.aload_n 0, 1) := by decide +kernel
theorem d2_31 : decode prog_49_method_4_code 31 = .ok (.iload 5, 2) := by decide +kernel
theorem d2_33 : decode prog_49_method_4_code 33 = .ok (.baload, 1) := by decide +kernel
theorem d2_34 : decode prog_49_method_4_code 34 = .ok (.bipush 48, 2) := by decide +kernel
theorem d2_36 : decode prog_49_method_4_code 36 = .ok (.isub, 1) := by decide +kernel
theorem d2_37 : decode prog_49_method_4_code 37 = .ok (.istore 6, 2) := by decide +kernel
theorem d2_39 : decode prog_49_method_4_code 39 = .ok (.iload 6, 2) := by decide +kernel
theorem d2_41 : decode prog_49_method_4_code 41 = .ok (.ifCond .lt 10, 3) := by decide +kernel
theorem d2_44 : decode prog_49_method_4_code 44 = .ok (.iload 6, 2) := by decide +kernel
theorem d2_46 : decode prog_49_method_4_code 46 = .ok (.bipush 9, 2) := by decide +kernel
theorem d2_48 : decode prog_49_method_4_code 48 = .ok (.if_icmp .le 7, 3) := by decide +kernel
theorem d2_51 : decode prog_49_method_4_code 51 = .ok (.ldc2_w 27, 3) := by decide +kernel
theorem d2_54 : decode prog_49_method_4_code 54 = .ok (.lreturn, 1) := by decide +kernel
theorem d2_55 : decode prog_49_method_4_code 55 = .ok (.lload_n 3, 1) := by decide +kernel
theorem d2_56 : decode prog_49_method_4_code 56 = .ok (.ldc2_w 29, 3) := by decide +kernel
theorem d2_59 : decode prog_49_method_4_code 59 = .ok (.lmul, 1) := by decide +kernel
theorem d2_60 : decode prog_49_method_4_code 60 = .ok (.iload 6, 2) := by decide +kernel
theorem d2_62 : decode prog_49_method_4_code 62 = .ok (.i2l, 1) := by decide +kernel
theorem d2_63 : decode prog_49_method_4_code 63 = .ok (.ladd, 1) := by decide +kernel
theorem d2_64 : decode prog_49_method_4_code 64 = .ok (.lstore_n 3, 1) := by decide +kernel
theorem d2_65 : decode prog_49_method_4_code 65 = .ok (.iinc 5 1, 3) := by decide +kernel
theorem d2_68 : decode prog_49_method_4_code 68 = .ok (.goto (-44), 3) := by decide +kernel
theorem d2_71 : decode prog_49_method_4_code 71 = .ok (.lload_n 3, 1) := by decide +kernel
theorem d2_72 : decode prog_49_method_4_code 72 = .ok (.lreturn, 1) := by decide +kernel
theorem ef_2 (m : MethodId) (a : Addr) (p0 : Int32) (p1 : Int32) : entryFrame m #[(.ref a), (.int p0), (.int p1)] 7 = (mkF m 0 #[.val (.ref a), .val (.int p0), .val (.int p1), .unset, .unset, .unset, .unset] []) := by first | (simp [entryFrame, mkF, argsToLocals, Value.category, maxLocals]; done) | rfl
def F2_24 (fuel : Nat) (x0 : Int32) (x1 : Int32) (x2 : Int64) (x3 : Int32) (g_f : (Nat → Int32)) : Int64 := match fuel with
  | 0 => 0
  | n + 1 => (if x3 < x1 then (if ((g_f (x3).toNatClampNeg) - (48 : Int32)) < (0 : Int32) then (-1 : Int64) else (if (9 : Int32) < ((g_f (x3).toNatClampNeg) - (48 : Int32)) then (-1 : Int64) else (F2_24 n x0 x1 ((x2 * (10 : Int64)) + (((g_f (x3).toNatClampNeg) - (48 : Int32)).toInt64)) (x3 + (1 : Int32)) g_f))) else x2)
theorem F2_24_s (n : Nat) (x0 : Int32) (x1 : Int32) (x2 : Int64) (x3 : Int32) (g_f : (Nat → Int32)) : F2_24 (n + 1) x0 x1 x2 x3 g_f = (if x3 < x1 then (if ((g_f (x3).toNatClampNeg) - (48 : Int32)) < (0 : Int32) then (-1 : Int64) else (if (9 : Int32) < ((g_f (x3).toNatClampNeg) - (48 : Int32)) then (-1 : Int64) else (F2_24 n x0 x1 ((x2 * (10 : Int64)) + (((g_f (x3).toNatClampNeg) - (48 : Int32)).toInt64)) (x3 + (1 : Int32)) g_f))) else x2) := rfl
def F2_15 (x0 : Int32) (x1 : Int32) (g_f : (Nat → Int32)) : Int64 := (-1 : Int64)
def F2_0 (x0 : Int32) (x1 : Int32) (g_f : (Nat → Int32)) : Int64 := (if (x1 - x0) < (1 : Int32) then (F2_15 x0 x1 g_f) else (if (18 : Int32) < (x1 - x0) then (F2_15 x0 x1 g_f) else (F2_24 20 x0 x1 (0 : Int64) x0 g_f)))
set_option maxRecDepth 65536 in
set_option maxHeartbeats 40000000 in
theorem rm2 (l : Launch) (Z : State) (a0 : Array Value) (hw : ∀ d ∈ tables_1, d.before a0 Z = true) (a : Addr) (p0 : Int32) (p1 : Int32) (g_f : (Nat → Int32)) (h0 : Heap) (n0 : Nat) (I : own_I Z n0 h0 a g_f) (hP : (0 ≤ p0.toInt ∧ p0.toInt ≤ 20 ∧ -1 ≤ p1.toInt ∧ p1.toInt ≤ 20)) :
    own_M l Z (⟨"com/example/refstone/refstone/model/Sctid", "digitsValue", "([BII)J"⟩ : MethodName) prog_49_method_4_code 7 (some .long) ({ frames := 0, cells := 0, slots := 0, locals := 0 } : Room) #[(.ref a), (.int p0), (.int p1)] h0 (fun v h L => v = some (.long (F2_0 p0 p1 g_f)) ∧ Fr n0 L ∧ own_I Z n0 h a g_f) := by
  refine own_body pn_2 ?_
  intro p e s m below meth c T hx hby hml hown hZ hret hlk hnm X eT
  have N := Fr.nil n0
  replace I : own_I Z n0 T.heap a g_f := by rw [eT]; exact I
  obtain ⟨w, hF⟩ : ∃ w, w = F2_0 p0 p1 g_f := ⟨_, rfl⟩
  try rw [← hF]
  generalize hQ : own_Q s (fun v h L => v = some (.long w) ∧ Fr n0 L ∧ own_I Z n0 h a g_f) ({ frames := 0, cells := 0, slots := 0, locals := 0 } : Room).cells ({ frames := 0, cells := 0, slots := 0, locals := 0 } : Room).slots = Qq
  refine own_st (fun _ k => castTop (ef_2 m a p0 p1) k) ?_
  clear eT
  have B24 : ∀ (fuel : Nat) (T : State) (L : List Loc) (x0 : Int32) (x1 : Int32) (x2 : Int64) (x3 : Int32) (z4 : Slot), Stand p l e ({ frames := 0, cells := 0, slots := 0, locals := 0 } : Room) s m #[(.ref a), (.int p0), (.int p1)] below meth c T L 0 0 → own_I Z n0 T.heap a g_f → One z4 → Fr n0 L → w = F2_24 fuel x0 x1 x2 x3 g_f → (0 ≤ x3.toInt ∧ x3.toInt ≤ x1.toInt ∧ x1.toInt ≤ 20 ∧ x1.toInt - x3.toInt < (fuel : Int)) → own_E p e below Qq T (mkF m 24 #[.val (.ref a), .val (.int x0), .val (.int x1), .val (.long x2), .second, .val (.int x3), z4] []) := by
    intro fuel
    induction fuel with
    | zero => intro T L x0 x1 x2 x3 z4 X I hO_z4 N hF hP; exact absurd hP (by omega)
    | succ n ih =>
      intro T L x0 x1 x2 x3 z4 X I hO_z4 N hF hP
      replace hF := hF.trans (F2_24_s n x0 x1 x2 x3 g_f)
      refine own_st (fun _ => XS.iload X.here hx rfl (hb hby d2_24) rfl) ?_
      show own_E p e below Qq T (mkF m 26 #[.val (.ref a), .val (.int x0), .val (.int x1), .val (.long x2), .second, .val (.int x3), z4] [(.int x3)])
      refine own_st (fun _ => XS.iloadN X.here hx rfl (hb hby d2_26) rfl) ?_
      show own_E p e below Qq T (mkF m 27 #[.val (.ref a), .val (.int x0), .val (.int x1), .val (.long x2), .second, .val (.int x3), z4] [(.int x1), (.int x3)])
      by_cases q27 : x3 < x1
      · replace hF := hF.trans (if_pos q27)
        refine own_st (fun _ => XS.icmpNo X.here hx rfl (hb hby d2_27) rfl (XT.ii_ge_f q27)) ?_
        show own_E p e below Qq T (mkF m 30 #[.val (.ref a), .val (.int x0), .val (.int x1), .val (.long x2), .second, .val (.int x3), z4] [])
        refine own_st (fun _ => XS.aloadN X.here hx rfl (hb hby d2_30) rfl rfl) ?_
        show own_E p e below Qq T (mkF m 31 #[.val (.ref a), .val (.int x0), .val (.int x1), .val (.long x2), .second, .val (.int x3), z4] [(.ref a)])
        refine own_st (fun _ => XS.iload X.here hx rfl (hb hby d2_31) rfl) ?_
        show own_E p e below Qq T (mkF m 33 #[.val (.ref a), .val (.int x0), .val (.int x1), .val (.long x2), .second, .val (.int x3), z4] [(.int x3), (.ref a)])
        refine own_st (fun _ hr => own_baload (g := (mkF m 33 #[.val (.ref a), .val (.int x0), .val (.int x1), .val (.long x2), .second, .val (.int x3), z4] [(.int x3), (.ref a)])) X hx hZ I (j := x3) (own_L2 hP q27) rfl rfl (hb hby d2_33) hr) ?_
        show own_E p e below Qq T (mkF m 34 #[.val (.ref a), .val (.int x0), .val (.int x1), .val (.long x2), .second, .val (.int x3), z4] [(.int (g_f (x3).toNatClampNeg))])
        refine own_st (fun _ => XS.bipush X.here hx rfl (hb hby d2_34)) ?_
        show own_E p e below Qq T (mkF m 36 #[.val (.ref a), .val (.int x0), .val (.int x1), .val (.long x2), .second, .val (.int x3), z4] [(.int (48 : Int32)), (.int (g_f (x3).toNatClampNeg))])
        refine own_st (fun _ => XS.isub X.here hx rfl (hb hby d2_36) rfl) ?_
        show own_E p e below Qq T (mkF m 37 #[.val (.ref a), .val (.int x0), .val (.int x1), .val (.long x2), .second, .val (.int x3), z4] [(.int ((g_f (x3).toNatClampNeg) - (48 : Int32)))])
        refine own_st (fun _ => XS.istoreS X.here hx rfl (hb hby d2_37) rfl rfl hO_z4) ?_
        show own_E p e below Qq T (mkF m 39 #[.val (.ref a), .val (.int x0), .val (.int x1), .val (.long x2), .second, .val (.int x3), .val (.int ((g_f (x3).toNatClampNeg) - (48 : Int32)))] [])
        refine own_st (fun _ => XS.iload X.here hx rfl (hb hby d2_39) rfl) ?_
        show own_E p e below Qq T (mkF m 41 #[.val (.ref a), .val (.int x0), .val (.int x1), .val (.long x2), .second, .val (.int x3), .val (.int ((g_f (x3).toNatClampNeg) - (48 : Int32)))] [(.int ((g_f (x3).toNatClampNeg) - (48 : Int32)))])
        by_cases q41 : ((g_f (x3).toNatClampNeg) - (48 : Int32)) < (0 : Int32)
        · replace hF := hF.trans (if_pos q41)
          refine own_st (fun _ => XS.ifYes X.here hx rfl (pc0 := 41) (pc' := 51) rfl (hb hby d2_41) rfl (XT.i0_lt_t q41) (by decide) (by decide)) ?_
          show own_E p e below Qq T (mkF m 51 #[.val (.ref a), .val (.int x0), .val (.int x1), .val (.long x2), .second, .val (.int x3), .val (.int ((g_f (x3).toNatClampNeg) - (48 : Int32)))] [])
          refine own_st (fun _ => X.ldc2J hx hown (mvT hZ (hw _ (List.mem_of_getElem? (i := 11) rfl))) rfl (hb hby d2_51)) ?_
          show own_E p e below Qq T (mkF m 54 #[.val (.ref a), .val (.int x0), .val (.int x1), .val (.long x2), .second, .val (.int x3), .val (.int ((g_f (x3).toNatClampNeg) - (48 : Int32)))] [(.long (-1 : Int64))])
          rw [← hQ]
          exact own_retJ X hx hlk hret (hb hby d2_54) (by decide) (by decide) ⟨by (rw [hF]; try rfl), N, (by first | (rw [hF]; exact I) | exact I)⟩
        · replace hF := hF.trans (if_neg q41)
          refine own_st (fun _ => XS.ifNo X.here hx rfl (hb hby d2_41) rfl (XT.i0_lt_f q41)) ?_
          show own_E p e below Qq T (mkF m 44 #[.val (.ref a), .val (.int x0), .val (.int x1), .val (.long x2), .second, .val (.int x3), .val (.int ((g_f (x3).toNatClampNeg) - (48 : Int32)))] [])
          refine own_st (fun _ => XS.iload X.here hx rfl (hb hby d2_44) rfl) ?_
          show own_E p e below Qq T (mkF m 46 #[.val (.ref a), .val (.int x0), .val (.int x1), .val (.long x2), .second, .val (.int x3), .val (.int ((g_f (x3).toNatClampNeg) - (48 : Int32)))] [(.int ((g_f (x3).toNatClampNeg) - (48 : Int32)))])
          refine own_st (fun _ => XS.bipush X.here hx rfl (hb hby d2_46)) ?_
          show own_E p e below Qq T (mkF m 48 #[.val (.ref a), .val (.int x0), .val (.int x1), .val (.long x2), .second, .val (.int x3), .val (.int ((g_f (x3).toNatClampNeg) - (48 : Int32)))] [(.int (9 : Int32)), (.int ((g_f (x3).toNatClampNeg) - (48 : Int32)))])
          by_cases q48 : (9 : Int32) < ((g_f (x3).toNatClampNeg) - (48 : Int32))
          · replace hF := hF.trans (if_pos q48)
            refine own_st (fun _ => XS.icmpNo X.here hx rfl (hb hby d2_48) rfl (XT.ii_le_f q48)) ?_
            show own_E p e below Qq T (mkF m 51 #[.val (.ref a), .val (.int x0), .val (.int x1), .val (.long x2), .second, .val (.int x3), .val (.int ((g_f (x3).toNatClampNeg) - (48 : Int32)))] [])
            refine own_st (fun _ => X.ldc2J hx hown (mvT hZ (hw _ (List.mem_of_getElem? (i := 11) rfl))) rfl (hb hby d2_51)) ?_
            show own_E p e below Qq T (mkF m 54 #[.val (.ref a), .val (.int x0), .val (.int x1), .val (.long x2), .second, .val (.int x3), .val (.int ((g_f (x3).toNatClampNeg) - (48 : Int32)))] [(.long (-1 : Int64))])
            rw [← hQ]
            exact own_retJ X hx hlk hret (hb hby d2_54) (by decide) (by decide) ⟨by (rw [hF]; try rfl), N, (by first | (rw [hF]; exact I) | exact I)⟩
          · replace hF := hF.trans (if_neg q48)
            refine own_st (fun _ => XS.icmpYes X.here hx rfl (pc0 := 48) (pc' := 55) rfl (hb hby d2_48) rfl (XT.ii_le_t q48) (by decide) (by decide)) ?_
            show own_E p e below Qq T (mkF m 55 #[.val (.ref a), .val (.int x0), .val (.int x1), .val (.long x2), .second, .val (.int x3), .val (.int ((g_f (x3).toNatClampNeg) - (48 : Int32)))] [])
            refine own_st (fun _ => XT.lloadN X.here hx rfl (hb hby d2_55) rfl) ?_
            show own_E p e below Qq T (mkF m 56 #[.val (.ref a), .val (.int x0), .val (.int x1), .val (.long x2), .second, .val (.int x3), .val (.int ((g_f (x3).toNatClampNeg) - (48 : Int32)))] [(.long x2)])
            refine own_st (fun _ => X.ldc2J hx hown (mvT hZ (hw _ (List.mem_of_getElem? (i := 10) rfl))) rfl (hb hby d2_56)) ?_
            show own_E p e below Qq T (mkF m 59 #[.val (.ref a), .val (.int x0), .val (.int x1), .val (.long x2), .second, .val (.int x3), .val (.int ((g_f (x3).toNatClampNeg) - (48 : Int32)))] [(.long (10 : Int64)), (.long x2)])
            refine own_st (fun _ => XT.lmul X.here hx rfl (hb hby d2_59) rfl) ?_
            show own_E p e below Qq T (mkF m 60 #[.val (.ref a), .val (.int x0), .val (.int x1), .val (.long x2), .second, .val (.int x3), .val (.int ((g_f (x3).toNatClampNeg) - (48 : Int32)))] [(.long (x2 * (10 : Int64)))])
            refine own_st (fun _ => XS.iload X.here hx rfl (hb hby d2_60) rfl) ?_
            show own_E p e below Qq T (mkF m 62 #[.val (.ref a), .val (.int x0), .val (.int x1), .val (.long x2), .second, .val (.int x3), .val (.int ((g_f (x3).toNatClampNeg) - (48 : Int32)))] [(.int ((g_f (x3).toNatClampNeg) - (48 : Int32))), (.long (x2 * (10 : Int64)))])
            refine own_st (fun _ => XT.i2l X.here hx rfl (hb hby d2_62) rfl) ?_
            show own_E p e below Qq T (mkF m 63 #[.val (.ref a), .val (.int x0), .val (.int x1), .val (.long x2), .second, .val (.int x3), .val (.int ((g_f (x3).toNatClampNeg) - (48 : Int32)))] [(.long (((g_f (x3).toNatClampNeg) - (48 : Int32)).toInt64)), (.long (x2 * (10 : Int64)))])
            refine own_st (fun _ => XT.ladd X.here hx rfl (hb hby d2_63) rfl) ?_
            show own_E p e below Qq T (mkF m 64 #[.val (.ref a), .val (.int x0), .val (.int x1), .val (.long x2), .second, .val (.int x3), .val (.int ((g_f (x3).toNatClampNeg) - (48 : Int32)))] [(.long ((x2 * (10 : Int64)) + (((g_f (x3).toNatClampNeg) - (48 : Int32)).toInt64)))])
            refine own_st (fun _ => XT.lstoreN X.here hx rfl (hb hby d2_64) rfl (l' := #[.val (.ref a), .val (.int x0), .val (.int x1), .val (.long ((x2 * (10 : Int64)) + (((g_f (x3).toNatClampNeg) - (48 : Int32)).toInt64))), .second, .val (.int x3), .val (.int ((g_f (x3).toNatClampNeg) - (48 : Int32)))]) rfl) ?_
            show own_E p e below Qq T (mkF m 65 #[.val (.ref a), .val (.int x0), .val (.int x1), .val (.long ((x2 * (10 : Int64)) + (((g_f (x3).toNatClampNeg) - (48 : Int32)).toInt64))), .second, .val (.int x3), .val (.int ((g_f (x3).toNatClampNeg) - (48 : Int32)))] [])
            refine own_st (fun _ => XS.iinc X.here hx rfl (hb hby d2_65) rfl (l' := #[.val (.ref a), .val (.int x0), .val (.int x1), .val (.long ((x2 * (10 : Int64)) + (((g_f (x3).toNatClampNeg) - (48 : Int32)).toInt64))), .second, .val (.int (x3 + (1 : Int32))), .val (.int ((g_f (x3).toNatClampNeg) - (48 : Int32)))]) rfl) ?_
            show own_E p e below Qq T (mkF m 68 #[.val (.ref a), .val (.int x0), .val (.int x1), .val (.long ((x2 * (10 : Int64)) + (((g_f (x3).toNatClampNeg) - (48 : Int32)).toInt64))), .second, .val (.int (x3 + (1 : Int32))), .val (.int ((g_f (x3).toNatClampNeg) - (48 : Int32)))] [])
            refine own_st (fun _ => XS.goto X.here hx rfl (pc0 := 68) (pc' := 24) rfl (hb hby d2_68) (by decide) (by decide)) ?_
            show own_E p e below Qq T (mkF m 24 #[.val (.ref a), .val (.int x0), .val (.int x1), .val (.long ((x2 * (10 : Int64)) + (((g_f (x3).toNatClampNeg) - (48 : Int32)).toInt64))), .second, .val (.int (x3 + (1 : Int32))), .val (.int ((g_f (x3).toNatClampNeg) - (48 : Int32)))] [])
            exact ih _ _ x0 x1 ((x2 * (10 : Int64)) + (((g_f (x3).toNatClampNeg) - (48 : Int32)).toInt64)) (x3 + (1 : Int32)) (.val (.int ((g_f (x3).toNatClampNeg) - (48 : Int32)))) X I (One.val rfl) N hF (own_L1 hP q27)
      · replace hF := hF.trans (if_neg q27)
        refine own_st (fun _ => XS.icmpYes X.here hx rfl (pc0 := 27) (pc' := 71) rfl (hb hby d2_27) rfl (XT.ii_ge_t q27) (by decide) (by decide)) ?_
        show own_E p e below Qq T (mkF m 71 #[.val (.ref a), .val (.int x0), .val (.int x1), .val (.long x2), .second, .val (.int x3), z4] [])
        refine own_st (fun _ => XT.lloadN X.here hx rfl (hb hby d2_71) rfl) ?_
        show own_E p e below Qq T (mkF m 72 #[.val (.ref a), .val (.int x0), .val (.int x1), .val (.long x2), .second, .val (.int x3), z4] [(.long x2)])
        rw [← hQ]
        exact own_retJ X hx hlk hret (hb hby d2_72) (by decide) (by decide) ⟨by (rw [hF]; try rfl), N, (by first | (rw [hF]; exact I) | exact I)⟩
  have B15 : ∀ (T : State) (L : List Loc) (x0 : Int32) (x1 : Int32), Stand p l e ({ frames := 0, cells := 0, slots := 0, locals := 0 } : Room) s m #[(.ref a), (.int p0), (.int p1)] below meth c T L 0 0 → own_I Z n0 T.heap a g_f → Fr n0 L → w = F2_15 x0 x1 g_f → own_E p e below Qq T (mkF m 15 #[.val (.ref a), .val (.int x0), .val (.int x1), .unset, .unset, .unset, .unset] []) := by
    intro T L x0 x1 X I N hF
    refine own_st (fun _ => X.ldc2J hx hown (mvT hZ (hw _ (List.mem_of_getElem? (i := 11) rfl))) rfl (hb hby d2_15)) ?_
    show own_E p e below Qq T (mkF m 18 #[.val (.ref a), .val (.int x0), .val (.int x1), .unset, .unset, .unset, .unset] [(.long (-1 : Int64))])
    rw [← hQ]
    exact own_retJ X hx hlk hret (hb hby d2_18) (by decide) (by decide) ⟨by (rw [hF]; try rfl), N, (by first | (rw [hF]; exact I) | exact I)⟩
  show own_E p e below Qq T (mkF m 0 #[.val (.ref a), .val (.int p0), .val (.int p1), .unset, .unset, .unset, .unset] [])
  refine own_st (fun _ => XS.iloadN X.here hx rfl (hb hby d2_0) rfl) ?_
  show own_E p e below Qq T (mkF m 1 #[.val (.ref a), .val (.int p0), .val (.int p1), .unset, .unset, .unset, .unset] [(.int p1)])
  refine own_st (fun _ => XS.iloadN X.here hx rfl (hb hby d2_1) rfl) ?_
  show own_E p e below Qq T (mkF m 2 #[.val (.ref a), .val (.int p0), .val (.int p1), .unset, .unset, .unset, .unset] [(.int p0), (.int p1)])
  refine own_st (fun _ => XS.isub X.here hx rfl (hb hby d2_2) rfl) ?_
  show own_E p e below Qq T (mkF m 3 #[.val (.ref a), .val (.int p0), .val (.int p1), .unset, .unset, .unset, .unset] [(.int (p1 - p0))])
  refine own_st (fun _ => XS.iconst X.here hx rfl (hb hby d2_3)) ?_
  show own_E p e below Qq T (mkF m 4 #[.val (.ref a), .val (.int p0), .val (.int p1), .unset, .unset, .unset, .unset] [(.int (1 : Int32)), (.int (p1 - p0))])
  by_cases q4 : (p1 - p0) < (1 : Int32)
  · replace hF := hF.trans (if_pos q4)
    refine own_st (fun _ => XS.icmpYes X.here hx rfl (pc0 := 4) (pc' := 15) rfl (hb hby d2_4) rfl (XT.ii_lt_t q4) (by decide) (by decide)) ?_
    show own_E p e below Qq T (mkF m 15 #[.val (.ref a), .val (.int p0), .val (.int p1), .unset, .unset, .unset, .unset] [])
    exact B15 _ _ p0 p1 X I N hF
  · replace hF := hF.trans (if_neg q4)
    refine own_st (fun _ => XS.icmpNo X.here hx rfl (hb hby d2_4) rfl (XT.ii_lt_f q4)) ?_
    show own_E p e below Qq T (mkF m 7 #[.val (.ref a), .val (.int p0), .val (.int p1), .unset, .unset, .unset, .unset] [])
    refine own_st (fun _ => XS.iloadN X.here hx rfl (hb hby d2_7) rfl) ?_
    show own_E p e below Qq T (mkF m 8 #[.val (.ref a), .val (.int p0), .val (.int p1), .unset, .unset, .unset, .unset] [(.int p1)])
    refine own_st (fun _ => XS.iloadN X.here hx rfl (hb hby d2_8) rfl) ?_
    show own_E p e below Qq T (mkF m 9 #[.val (.ref a), .val (.int p0), .val (.int p1), .unset, .unset, .unset, .unset] [(.int p0), (.int p1)])
    refine own_st (fun _ => XS.isub X.here hx rfl (hb hby d2_9) rfl) ?_
    show own_E p e below Qq T (mkF m 10 #[.val (.ref a), .val (.int p0), .val (.int p1), .unset, .unset, .unset, .unset] [(.int (p1 - p0))])
    refine own_st (fun _ => XS.bipush X.here hx rfl (hb hby d2_10)) ?_
    show own_E p e below Qq T (mkF m 12 #[.val (.ref a), .val (.int p0), .val (.int p1), .unset, .unset, .unset, .unset] [(.int (18 : Int32)), (.int (p1 - p0))])
    by_cases q12 : (18 : Int32) < (p1 - p0)
    · replace hF := hF.trans (if_pos q12)
      refine own_st (fun _ => XS.icmpNo X.here hx rfl (hb hby d2_12) rfl (XT.ii_le_f q12)) ?_
      show own_E p e below Qq T (mkF m 15 #[.val (.ref a), .val (.int p0), .val (.int p1), .unset, .unset, .unset, .unset] [])
      exact B15 _ _ p0 p1 X I N hF
    · replace hF := hF.trans (if_neg q12)
      refine own_st (fun _ => XS.icmpYes X.here hx rfl (pc0 := 12) (pc' := 19) rfl (hb hby d2_12) rfl (XT.ii_le_t q12) (by decide) (by decide)) ?_
      show own_E p e below Qq T (mkF m 19 #[.val (.ref a), .val (.int p0), .val (.int p1), .unset, .unset, .unset, .unset] [])
      refine own_st (fun _ => XT.lconst X.here hx rfl (hb hby d2_19)) ?_
      show own_E p e below Qq T (mkF m 20 #[.val (.ref a), .val (.int p0), .val (.int p1), .unset, .unset, .unset, .unset] [(.long (0 : Int64))])
      refine own_st (fun _ => XT.lstoreN X.here hx rfl (hb hby d2_20) rfl (l' := #[.val (.ref a), .val (.int p0), .val (.int p1), .val (.long (0 : Int64)), .second, .unset, .unset]) rfl) ?_
      show own_E p e below Qq T (mkF m 21 #[.val (.ref a), .val (.int p0), .val (.int p1), .val (.long (0 : Int64)), .second, .unset, .unset] [])
      refine own_st (fun _ => XS.iloadN X.here hx rfl (hb hby d2_21) rfl) ?_
      show own_E p e below Qq T (mkF m 22 #[.val (.ref a), .val (.int p0), .val (.int p1), .val (.long (0 : Int64)), .second, .unset, .unset] [(.int p0)])
      refine own_st (fun _ => XS.istore X.here hx rfl (hb hby d2_22) rfl (l' := #[.val (.ref a), .val (.int p0), .val (.int p1), .val (.long (0 : Int64)), .second, .val (.int p0), .unset]) rfl) ?_
      show own_E p e below Qq T (mkF m 24 #[.val (.ref a), .val (.int p0), .val (.int p1), .val (.long (0 : Int64)), .second, .val (.int p0), .unset] [])
      exact B24 20 _ _ p0 p1 (0 : Int64) p0 (.unset) X I One.u N hF (own_L0 hP q4 q12)
theorem ef_0 (m : MethodId) (p0 : Int64) (p1 : Int64) (p2 : Int64) (p3 : Int32) (p4 : Int32) (p5 : Int32) : entryFrame m #[(.long p0), (.long p1), (.long p2), (.int p3), (.int p4), (.int p5)] maxLocals = (mkF m 0 #[.val (.long p0), .second, .val (.long p1), .second, .val (.long p2), .second, .val (.int p3), .val (.int p4), .val (.int p5), .unset, .unset, .unset, .unset, .unset, .unset, .unset, .unset, .unset, .unset] []) := by first | (simp [entryFrame, mkF, argsToLocals, Value.category, maxLocals]; done) | rfl
def F0_472 (x0 : Int64) (x1 : Int64) (x2 : Int64) (x3 : Int32) (x4 : Int32) (x5 : Int32) (x6 : Int32) (x7 : Int32) (x8 : Int64) (x9 : Int32) (x10 : Int32) (x11 : Int32) (x12 : Int64) (y13 : Int32) (g_f : (Nat → Int32)) : Int32 := (nar .boolean y13)
def F0_450 (x0 : Int64) (x1 : Int64) (x2 : Int64) (x3 : Int32) (x4 : Int32) (x5 : Int32) (x6 : Int32) (x7 : Int32) (x8 : Int64) (x9 : Int32) (x10 : Int32) (x11 : Int32) (x12 : Int64) (y13 : Int32) (g_f : (Nat → Int32)) : Int32 := (nar .boolean y13)
def F0_436 (x0 : Int64) (x1 : Int64) (x2 : Int64) (x3 : Int32) (x4 : Int32) (x5 : Int32) (x6 : Int32) (x7 : Int32) (x8 : Int64) (x9 : Int32) (x10 : Int32) (x11 : Int32) (x12 : Int64) (g_f : (Nat → Int32)) : Int32 := (if x8 = (-1 : Int64) then (F0_450 x0 x1 x2 x3 x4 x5 x6 x7 x8 x9 x10 x11 x12 (1 : Int32) g_f) else (F0_450 x0 x1 x2 x3 x4 x5 x6 x7 x8 x9 x10 x11 x12 (0 : Int32) g_f))
def F0_422 (x0 : Int64) (x1 : Int64) (x2 : Int64) (x3 : Int32) (x4 : Int32) (x5 : Int32) (x6 : Int32) (x7 : Int32) (x8 : Int64) (x9 : Int32) (x10 : Int32) (x11 : Int32) (y12 : Int64) (g_f : (Nat → Int32)) : Int32 := (if y12 < (0 : Int64) then (F0_436 x0 x1 x2 x3 x4 x5 x6 x7 x8 x9 x10 x11 y12 g_f) else (if x11 = (0 : Int32) then (F0_436 x0 x1 x2 x3 x4 x5 x6 x7 x8 x9 x10 x11 y12 g_f) else (if x8 = ((y12 * (10 : Int64)) + (x10.toInt64)) then (F0_472 x0 x1 x2 x3 x4 x5 x6 x7 x8 x9 x10 x11 y12 (1 : Int32) g_f) else (F0_472 x0 x1 x2 x3 x4 x5 x6 x7 x8 x9 x10 x11 y12 (0 : Int32) g_f))))
def F0_410 (x0 : Int64) (x1 : Int64) (x2 : Int64) (x3 : Int32) (x4 : Int32) (x5 : Int32) (x6 : Int32) (x7 : Int32) (x8 : Int64) (x9 : Int32) (x10 : Int32) (x11 : Int32) (y12 : Int32) (g_f : (Nat → Int32)) : Int32 := (nar .boolean y12)
def F0_401 (x0 : Int64) (x1 : Int64) (x2 : Int64) (x3 : Int32) (x4 : Int32) (x5 : Int32) (x6 : Int32) (x7 : Int32) (x8 : Int64) (x9 : Int32) (x10 : Int32) (x11 : Int32) (y12 : Int64) (y13 : Int64) (g_f : (Nat → Int32)) : Int32 := (if y13 = y12 then (F0_410 x0 x1 x2 x3 x4 x5 x6 x7 x8 x9 x10 x11 (1 : Int32) g_f) else (F0_410 x0 x1 x2 x3 x4 x5 x6 x7 x8 x9 x10 x11 (0 : Int32) g_f))
def F0_377 (x0 : Int64) (x1 : Int64) (x2 : Int64) (x3 : Int32) (x4 : Int32) (x5 : Int32) (x6 : Int32) (x7 : Int32) (x8 : Int64) (x9 : Int32) (x10 : Int32) (y11 : Int32) (g_f : (Nat → Int32)) : Int32 := (if x9 = (1 : Int32) then (if y11 = (0 : Int32) then (F0_401 x0 x1 x2 x3 x4 x5 x6 x7 x8 x9 x10 y11 (-1 : Int64) x8 g_f) else (F0_401 x0 x1 x2 x3 x4 x5 x6 x7 x8 x9 x10 y11 (x10.toInt64) x8 g_f)) else (F0_422 x0 x1 x2 x3 x4 x5 x6 x7 x8 x9 x10 y11 (F2_0 x6 (x7 - (1 : Int32)) g_f) g_f))
def F0_376 (x0 : Int64) (x1 : Int64) (x2 : Int64) (x3 : Int32) (x4 : Int32) (x5 : Int32) (x6 : Int32) (x7 : Int32) (x8 : Int64) (x9 : Int32) (x10 : Int32) (g_f : (Nat → Int32)) : Int32 := (F0_377 x0 x1 x2 x3 x4 x5 x6 x7 x8 x9 x10 (0 : Int32) g_f)
def F0_347 (x0 : Int64) (x1 : Int64) (x2 : Int64) (x3 : Int32) (x4 : Int32) (x5 : Int32) (x6 : Int32) (x7 : Int32) (x8 : Int64) (x9 : Int32) (y10 : Int32) (g_f : (Nat → Int32)) : Int32 := (nar .boolean y10)
def F0_333 (x0 : Int64) (x1 : Int64) (x2 : Int64) (x3 : Int32) (x4 : Int32) (x5 : Int32) (x6 : Int32) (x7 : Int32) (x8 : Int64) (x9 : Int32) (g_f : (Nat → Int32)) : Int32 := (if x8 = (-1 : Int64) then (F0_347 x0 x1 x2 x3 x4 x5 x6 x7 x8 x9 (1 : Int32) g_f) else (F0_347 x0 x1 x2 x3 x4 x5 x6 x7 x8 x9 (0 : Int32) g_f))
def F0_311 (x0 : Int64) (x1 : Int64) (x2 : Int64) (x3 : Int32) (x4 : Int32) (x5 : Int32) (x6 : Int32) (x7 : Int32) (y8 : Int64) (g_f : (Nat → Int32)) : Int32 := (if (x7 - x6) < (1 : Int32) then (F0_333 x0 x1 x2 x3 x4 x5 x6 x7 y8 (x7 - x6) g_f) else (if (18 : Int32) < (x7 - x6) then (F0_333 x0 x1 x2 x3 x4 x5 x6 x7 y8 (x7 - x6) g_f) else (if ((g_f ((x7 - (1 : Int32))).toNatClampNeg) - (48 : Int32)) < (0 : Int32) then (F0_376 x0 x1 x2 x3 x4 x5 x6 x7 y8 (x7 - x6) ((g_f ((x7 - (1 : Int32))).toNatClampNeg) - (48 : Int32)) g_f) else (if (9 : Int32) < ((g_f ((x7 - (1 : Int32))).toNatClampNeg) - (48 : Int32)) then (F0_376 x0 x1 x2 x3 x4 x5 x6 x7 y8 (x7 - x6) ((g_f ((x7 - (1 : Int32))).toNatClampNeg) - (48 : Int32)) g_f) else (F0_377 x0 x1 x2 x3 x4 x5 x6 x7 y8 (x7 - x6) ((g_f ((x7 - (1 : Int32))).toNatClampNeg) - (48 : Int32)) (1 : Int32) g_f)))))
def F0_302 (x0 : Int64) (x1 : Int64) (x2 : Int64) (x3 : Int32) (x4 : Int32) (x5 : Int32) (x6 : Int32) (x7 : Int32) (g_f : (Nat → Int32)) : Int32 := (F0_311 x0 x1 x2 x3 x4 x5 x6 x7 (F2_0 x6 x7 g_f) g_f)
def F0_282 (x0 : Int64) (x1 : Int64) (x2 : Int64) (x3 : Int32) (x4 : Int32) (x5 : Int32) (g_f : (Nat → Int32)) : Int32 := (F0_302 x0 x1 x2 x3 x4 x5 ((x3 &&& (2147483647 : Int32)) - ((x3 &&& (2147483647 : Int32)) / (21 : Int32)) * (21 : Int32)) ((x4 &&& (2147483647 : Int32)) - ((x4 &&& (2147483647 : Int32)) / (21 : Int32)) * (21 : Int32)) g_f)
def F0_267 (x0 : Int64) (x1 : Int64) (x2 : Int64) (x3 : Int32) (x4 : Int32) (x5 : Int32) (g_f : (Nat → Int32)) : Int32 := (F0_282 x0 x1 x2 x3 x4 x5 (own_upd g_f 19 (nar .byte (F1_0 x2 (3 : Int32) (19 : Int32) x5))))
def F0_252 (x0 : Int64) (x1 : Int64) (x2 : Int64) (x3 : Int32) (x4 : Int32) (x5 : Int32) (g_f : (Nat → Int32)) : Int32 := (F0_267 x0 x1 x2 x3 x4 x5 (own_upd g_f 18 (nar .byte (F1_0 x2 (2 : Int32) (18 : Int32) x5))))
def F0_237 (x0 : Int64) (x1 : Int64) (x2 : Int64) (x3 : Int32) (x4 : Int32) (x5 : Int32) (g_f : (Nat → Int32)) : Int32 := (F0_252 x0 x1 x2 x3 x4 x5 (own_upd g_f 17 (nar .byte (F1_0 x2 (1 : Int32) (17 : Int32) x5))))
def F0_222 (x0 : Int64) (x1 : Int64) (x2 : Int64) (x3 : Int32) (x4 : Int32) (x5 : Int32) (g_f : (Nat → Int32)) : Int32 := (F0_237 x0 x1 x2 x3 x4 x5 (own_upd g_f 16 (nar .byte (F1_0 x2 (0 : Int32) (16 : Int32) x5))))
def F0_207 (x0 : Int64) (x1 : Int64) (x2 : Int64) (x3 : Int32) (x4 : Int32) (x5 : Int32) (g_f : (Nat → Int32)) : Int32 := (F0_222 x0 x1 x2 x3 x4 x5 (own_upd g_f 15 (nar .byte (F1_0 x1 (7 : Int32) (15 : Int32) x5))))
def F0_192 (x0 : Int64) (x1 : Int64) (x2 : Int64) (x3 : Int32) (x4 : Int32) (x5 : Int32) (g_f : (Nat → Int32)) : Int32 := (F0_207 x0 x1 x2 x3 x4 x5 (own_upd g_f 14 (nar .byte (F1_0 x1 (6 : Int32) (14 : Int32) x5))))
def F0_178 (x0 : Int64) (x1 : Int64) (x2 : Int64) (x3 : Int32) (x4 : Int32) (x5 : Int32) (g_f : (Nat → Int32)) : Int32 := (F0_192 x0 x1 x2 x3 x4 x5 (own_upd g_f 13 (nar .byte (F1_0 x1 (5 : Int32) (13 : Int32) x5))))
def F0_164 (x0 : Int64) (x1 : Int64) (x2 : Int64) (x3 : Int32) (x4 : Int32) (x5 : Int32) (g_f : (Nat → Int32)) : Int32 := (F0_178 x0 x1 x2 x3 x4 x5 (own_upd g_f 12 (nar .byte (F1_0 x1 (4 : Int32) (12 : Int32) x5))))
def F0_150 (x0 : Int64) (x1 : Int64) (x2 : Int64) (x3 : Int32) (x4 : Int32) (x5 : Int32) (g_f : (Nat → Int32)) : Int32 := (F0_164 x0 x1 x2 x3 x4 x5 (own_upd g_f 11 (nar .byte (F1_0 x1 (3 : Int32) (11 : Int32) x5))))
def F0_136 (x0 : Int64) (x1 : Int64) (x2 : Int64) (x3 : Int32) (x4 : Int32) (x5 : Int32) (g_f : (Nat → Int32)) : Int32 := (F0_150 x0 x1 x2 x3 x4 x5 (own_upd g_f 10 (nar .byte (F1_0 x1 (2 : Int32) (10 : Int32) x5))))
def F0_122 (x0 : Int64) (x1 : Int64) (x2 : Int64) (x3 : Int32) (x4 : Int32) (x5 : Int32) (g_f : (Nat → Int32)) : Int32 := (F0_136 x0 x1 x2 x3 x4 x5 (own_upd g_f 9 (nar .byte (F1_0 x1 (1 : Int32) (9 : Int32) x5))))
def F0_108 (x0 : Int64) (x1 : Int64) (x2 : Int64) (x3 : Int32) (x4 : Int32) (x5 : Int32) (g_f : (Nat → Int32)) : Int32 := (F0_122 x0 x1 x2 x3 x4 x5 (own_upd g_f 8 (nar .byte (F1_0 x1 (0 : Int32) (8 : Int32) x5))))
def F0_93 (x0 : Int64) (x1 : Int64) (x2 : Int64) (x3 : Int32) (x4 : Int32) (x5 : Int32) (g_f : (Nat → Int32)) : Int32 := (F0_108 x0 x1 x2 x3 x4 x5 (own_upd g_f 7 (nar .byte (F1_0 x0 (7 : Int32) (7 : Int32) x5))))
def F0_78 (x0 : Int64) (x1 : Int64) (x2 : Int64) (x3 : Int32) (x4 : Int32) (x5 : Int32) (g_f : (Nat → Int32)) : Int32 := (F0_93 x0 x1 x2 x3 x4 x5 (own_upd g_f 6 (nar .byte (F1_0 x0 (6 : Int32) (6 : Int32) x5))))
def F0_66 (x0 : Int64) (x1 : Int64) (x2 : Int64) (x3 : Int32) (x4 : Int32) (x5 : Int32) (g_f : (Nat → Int32)) : Int32 := (F0_78 x0 x1 x2 x3 x4 x5 (own_upd g_f 5 (nar .byte (F1_0 x0 (5 : Int32) (5 : Int32) x5))))
def F0_54 (x0 : Int64) (x1 : Int64) (x2 : Int64) (x3 : Int32) (x4 : Int32) (x5 : Int32) (g_f : (Nat → Int32)) : Int32 := (F0_66 x0 x1 x2 x3 x4 x5 (own_upd g_f 4 (nar .byte (F1_0 x0 (4 : Int32) (4 : Int32) x5))))
def F0_42 (x0 : Int64) (x1 : Int64) (x2 : Int64) (x3 : Int32) (x4 : Int32) (x5 : Int32) (g_f : (Nat → Int32)) : Int32 := (F0_54 x0 x1 x2 x3 x4 x5 (own_upd g_f 3 (nar .byte (F1_0 x0 (3 : Int32) (3 : Int32) x5))))
def F0_30 (x0 : Int64) (x1 : Int64) (x2 : Int64) (x3 : Int32) (x4 : Int32) (x5 : Int32) (g_f : (Nat → Int32)) : Int32 := (F0_42 x0 x1 x2 x3 x4 x5 (own_upd g_f 2 (nar .byte (F1_0 x0 (2 : Int32) (2 : Int32) x5))))
def F0_18 (x0 : Int64) (x1 : Int64) (x2 : Int64) (x3 : Int32) (x4 : Int32) (x5 : Int32) (g_f : (Nat → Int32)) : Int32 := (F0_30 x0 x1 x2 x3 x4 x5 (own_upd g_f 1 (nar .byte (F1_0 x0 (1 : Int32) (1 : Int32) x5))))
def F0_0 (x0 : Int64) (x1 : Int64) (x2 : Int64) (x3 : Int32) (x4 : Int32) (x5 : Int32) : Int32 := (F0_18 x0 x1 x2 x3 x4 x5 (own_upd (fun _ => 0) 0 (nar .byte (F1_0 x0 (0 : Int32) (0 : Int32) x5))))
set_option maxRecDepth 65536 in
set_option maxHeartbeats 40000000 in
theorem rm0 (l : Launch) (Z : State) (a0 : Array Value) (hw : ∀ d ∈ tables_1, d.before a0 Z = true) (p0 : Int64) (p1 : Int64) (p2 : Int64) (p3 : Int32) (p4 : Int32) (p5 : Int32) (h0 : Heap) (n0 : Nat) (Z0 : n0 ≤ h0.size) :
    own_M l Z x code maxLocals ret room_1 #[(.long p0), (.long p1), (.long p2), (.int p3), (.int p4), (.int p5)] h0 (fun v h L => v = some (.int (F0_0 p0 p1 p2 p3 p4 p5)) ∧ Fr n0 L ∧ True) := by
  refine own_body pn_1 ?_
  intro p e s m below meth c T hx hby hml hown hZ hret hlk hnm X eT
  have N := Fr.nil n0
  replace Z0 : n0 ≤ T.heap.size := by rw [eT]; exact Z0
  obtain ⟨w, hF⟩ : ∃ w, w = F0_0 p0 p1 p2 p3 p4 p5 := ⟨_, rfl⟩
  try rw [← hF]
  generalize hQ : own_Q s (fun v h L => v = some (.int w) ∧ Fr n0 L ∧ True) room_1.cells room_1.slots = Qq
  refine own_st (fun _ k => castTop (ef_0 m p0 p1 p2 p3 p4 p5) k) ?_
  clear eT
  have B472 : ∀ (T : State) (L : List Loc) (x0 : Int64) (x1 : Int64) (x2 : Int64) (x3 : Int32) (x4 : Int32) (x5 : Int32) (x6 : Int32) (x7 : Int32) (x8 : Int64) (x9 : Int32) (x10 : Int32) (x11 : Int32) (x12 : Int64) (y13 : Int32) (xa : Addr) (g_f : (Nat → Int32)), Stand p l e room_1 s m #[(.long p0), (.long p1), (.long p2), (.int p3), (.int p4), (.int p5)] below meth c T L 1 20 → own_I Z n0 T.heap xa g_f → Fr n0 L → w = F0_472 x0 x1 x2 x3 x4 x5 x6 x7 x8 x9 x10 x11 x12 y13 g_f → own_E p e below Qq T (mkF m 472 #[.val (.long x0), .second, .val (.long x1), .second, .val (.long x2), .second, .val (.int x3), .val (.int x4), .val (.int x5), .val (.ref xa), .val (.int x6), .val (.int x7), .val (.long x8), .second, .val (.int x9), .val (.int x10), .val (.int x11), .val (.long x12), .second] [(.int y13)]) := by
    intro T L x0 x1 x2 x3 x4 x5 x6 x7 x8 x9 x10 x11 x12 y13 xa g_f X I N hF
    rw [← hQ]
    exact own_retN X hx hlk (t := .boolean) hret (by simp) (hb hby at_472) (by decide) (by decide) ⟨by (rw [hF]; try rfl), N, trivial⟩
  have B450 : ∀ (T : State) (L : List Loc) (x0 : Int64) (x1 : Int64) (x2 : Int64) (x3 : Int32) (x4 : Int32) (x5 : Int32) (x6 : Int32) (x7 : Int32) (x8 : Int64) (x9 : Int32) (x10 : Int32) (x11 : Int32) (x12 : Int64) (y13 : Int32) (xa : Addr) (g_f : (Nat → Int32)), Stand p l e room_1 s m #[(.long p0), (.long p1), (.long p2), (.int p3), (.int p4), (.int p5)] below meth c T L 1 20 → own_I Z n0 T.heap xa g_f → Fr n0 L → w = F0_450 x0 x1 x2 x3 x4 x5 x6 x7 x8 x9 x10 x11 x12 y13 g_f → own_E p e below Qq T (mkF m 450 #[.val (.long x0), .second, .val (.long x1), .second, .val (.long x2), .second, .val (.int x3), .val (.int x4), .val (.int x5), .val (.ref xa), .val (.int x6), .val (.int x7), .val (.long x8), .second, .val (.int x9), .val (.int x10), .val (.int x11), .val (.long x12), .second] [(.int y13)]) := by
    intro T L x0 x1 x2 x3 x4 x5 x6 x7 x8 x9 x10 x11 x12 y13 xa g_f X I N hF
    rw [← hQ]
    exact own_retN X hx hlk (t := .boolean) hret (by simp) (hb hby at_450) (by decide) (by decide) ⟨by (rw [hF]; try rfl), N, trivial⟩
  have B436 : ∀ (T : State) (L : List Loc) (x0 : Int64) (x1 : Int64) (x2 : Int64) (x3 : Int32) (x4 : Int32) (x5 : Int32) (x6 : Int32) (x7 : Int32) (x8 : Int64) (x9 : Int32) (x10 : Int32) (x11 : Int32) (x12 : Int64) (xa : Addr) (g_f : (Nat → Int32)), Stand p l e room_1 s m #[(.long p0), (.long p1), (.long p2), (.int p3), (.int p4), (.int p5)] below meth c T L 1 20 → own_I Z n0 T.heap xa g_f → Fr n0 L → w = F0_436 x0 x1 x2 x3 x4 x5 x6 x7 x8 x9 x10 x11 x12 g_f → own_E p e below Qq T (mkF m 436 #[.val (.long x0), .second, .val (.long x1), .second, .val (.long x2), .second, .val (.int x3), .val (.int x4), .val (.int x5), .val (.ref xa), .val (.int x6), .val (.int x7), .val (.long x8), .second, .val (.int x9), .val (.int x10), .val (.int x11), .val (.long x12), .second] []) := by
    intro T L x0 x1 x2 x3 x4 x5 x6 x7 x8 x9 x10 x11 x12 xa g_f X I N hF
    refine own_st (fun _ => XT.lload X.here hx rfl (hb hby at_436) rfl) ?_
    show own_E p e below Qq T (mkF m 438 #[.val (.long x0), .second, .val (.long x1), .second, .val (.long x2), .second, .val (.int x3), .val (.int x4), .val (.int x5), .val (.ref xa), .val (.int x6), .val (.int x7), .val (.long x8), .second, .val (.int x9), .val (.int x10), .val (.int x11), .val (.long x12), .second] [(.long x8)])
    refine own_st (fun _ => X.ldc2J hx hown (mvT hZ (hw _ (List.mem_of_getElem? (i := 12) rfl))) rfl (hb hby at_438)) ?_
    show own_E p e below Qq T (mkF m 441 #[.val (.long x0), .second, .val (.long x1), .second, .val (.long x2), .second, .val (.int x3), .val (.int x4), .val (.int x5), .val (.ref xa), .val (.int x6), .val (.int x7), .val (.long x8), .second, .val (.int x9), .val (.int x10), .val (.int x11), .val (.long x12), .second] [(.long (-1 : Int64)), (.long x8)])
    refine own_st (fun _ => XT.lcmp X.here hx rfl (hb hby at_441) rfl) ?_
    show own_E p e below Qq T (mkF m 442 #[.val (.long x0), .second, .val (.long x1), .second, .val (.long x2), .second, .val (.int x3), .val (.int x4), .val (.int x5), .val (.ref xa), .val (.int x6), .val (.int x7), .val (.long x8), .second, .val (.int x9), .val (.int x10), .val (.int x11), .val (.long x12), .second] [(.int (XT.cmpL x8 (-1 : Int64)))])
    by_cases q442 : x8 = (-1 : Int64)
    · replace hF := hF.trans (if_pos q442)
      refine own_st (fun _ => XS.ifNo X.here hx rfl (hb hby at_442) rfl (XT.ll_ne_f q442)) ?_
      show own_E p e below Qq T (mkF m 445 #[.val (.long x0), .second, .val (.long x1), .second, .val (.long x2), .second, .val (.int x3), .val (.int x4), .val (.int x5), .val (.ref xa), .val (.int x6), .val (.int x7), .val (.long x8), .second, .val (.int x9), .val (.int x10), .val (.int x11), .val (.long x12), .second] [])
      refine own_st (fun _ => XS.iconst X.here hx rfl (hb hby at_445)) ?_
      show own_E p e below Qq T (mkF m 446 #[.val (.long x0), .second, .val (.long x1), .second, .val (.long x2), .second, .val (.int x3), .val (.int x4), .val (.int x5), .val (.ref xa), .val (.int x6), .val (.int x7), .val (.long x8), .second, .val (.int x9), .val (.int x10), .val (.int x11), .val (.long x12), .second] [(.int (1 : Int32))])
      refine own_st (fun _ => XS.goto X.here hx rfl (pc0 := 446) (pc' := 450) rfl (hb hby at_446) (by decide) (by decide)) ?_
      show own_E p e below Qq T (mkF m 450 #[.val (.long x0), .second, .val (.long x1), .second, .val (.long x2), .second, .val (.int x3), .val (.int x4), .val (.int x5), .val (.ref xa), .val (.int x6), .val (.int x7), .val (.long x8), .second, .val (.int x9), .val (.int x10), .val (.int x11), .val (.long x12), .second] [(.int (1 : Int32))])
      exact B450 _ _ x0 x1 x2 x3 x4 x5 x6 x7 x8 x9 x10 x11 x12 (1 : Int32) xa g_f X I N hF
    · replace hF := hF.trans (if_neg q442)
      refine own_st (fun _ => XS.ifYes X.here hx rfl (pc0 := 442) (pc' := 449) rfl (hb hby at_442) rfl (XT.ll_ne_t q442) (by decide) (by decide)) ?_
      show own_E p e below Qq T (mkF m 449 #[.val (.long x0), .second, .val (.long x1), .second, .val (.long x2), .second, .val (.int x3), .val (.int x4), .val (.int x5), .val (.ref xa), .val (.int x6), .val (.int x7), .val (.long x8), .second, .val (.int x9), .val (.int x10), .val (.int x11), .val (.long x12), .second] [])
      refine own_st (fun _ => XS.iconst X.here hx rfl (hb hby at_449)) ?_
      show own_E p e below Qq T (mkF m 450 #[.val (.long x0), .second, .val (.long x1), .second, .val (.long x2), .second, .val (.int x3), .val (.int x4), .val (.int x5), .val (.ref xa), .val (.int x6), .val (.int x7), .val (.long x8), .second, .val (.int x9), .val (.int x10), .val (.int x11), .val (.long x12), .second] [(.int (0 : Int32))])
      exact B450 _ _ x0 x1 x2 x3 x4 x5 x6 x7 x8 x9 x10 x11 x12 (0 : Int32) xa g_f X I N hF
  have B422 : ∀ (T : State) (L : List Loc) (x0 : Int64) (x1 : Int64) (x2 : Int64) (x3 : Int32) (x4 : Int32) (x5 : Int32) (x6 : Int32) (x7 : Int32) (x8 : Int64) (x9 : Int32) (x10 : Int32) (x11 : Int32) (y12 : Int64) (xa : Addr) (g_f : (Nat → Int32)), Stand p l e room_1 s m #[(.long p0), (.long p1), (.long p2), (.int p3), (.int p4), (.int p5)] below meth c T L 1 20 → own_I Z n0 T.heap xa g_f → Fr n0 L → w = F0_422 x0 x1 x2 x3 x4 x5 x6 x7 x8 x9 x10 x11 y12 g_f → own_E p e below Qq T (mkF m 422 #[.val (.long x0), .second, .val (.long x1), .second, .val (.long x2), .second, .val (.int x3), .val (.int x4), .val (.int x5), .val (.ref xa), .val (.int x6), .val (.int x7), .val (.long x8), .second, .val (.int x9), .val (.int x10), .val (.int x11), .unset, .unset] [(.long y12)]) := by
    intro T L x0 x1 x2 x3 x4 x5 x6 x7 x8 x9 x10 x11 y12 xa g_f X I N hF
    refine own_st (fun _ => XT.lstore X.here hx rfl (hb hby at_422) rfl (l' := #[.val (.long x0), .second, .val (.long x1), .second, .val (.long x2), .second, .val (.int x3), .val (.int x4), .val (.int x5), .val (.ref xa), .val (.int x6), .val (.int x7), .val (.long x8), .second, .val (.int x9), .val (.int x10), .val (.int x11), .val (.long y12), .second]) rfl) ?_
    show own_E p e below Qq T (mkF m 424 #[.val (.long x0), .second, .val (.long x1), .second, .val (.long x2), .second, .val (.int x3), .val (.int x4), .val (.int x5), .val (.ref xa), .val (.int x6), .val (.int x7), .val (.long x8), .second, .val (.int x9), .val (.int x10), .val (.int x11), .val (.long y12), .second] [])
    refine own_st (fun _ => XT.lload X.here hx rfl (hb hby at_424) rfl) ?_
    show own_E p e below Qq T (mkF m 426 #[.val (.long x0), .second, .val (.long x1), .second, .val (.long x2), .second, .val (.int x3), .val (.int x4), .val (.int x5), .val (.ref xa), .val (.int x6), .val (.int x7), .val (.long x8), .second, .val (.int x9), .val (.int x10), .val (.int x11), .val (.long y12), .second] [(.long y12)])
    refine own_st (fun _ => XT.lconst X.here hx rfl (hb hby at_426)) ?_
    show own_E p e below Qq T (mkF m 427 #[.val (.long x0), .second, .val (.long x1), .second, .val (.long x2), .second, .val (.int x3), .val (.int x4), .val (.int x5), .val (.ref xa), .val (.int x6), .val (.int x7), .val (.long x8), .second, .val (.int x9), .val (.int x10), .val (.int x11), .val (.long y12), .second] [(.long (0 : Int64)), (.long y12)])
    refine own_st (fun _ => XT.lcmp X.here hx rfl (hb hby at_427) rfl) ?_
    show own_E p e below Qq T (mkF m 428 #[.val (.long x0), .second, .val (.long x1), .second, .val (.long x2), .second, .val (.int x3), .val (.int x4), .val (.int x5), .val (.ref xa), .val (.int x6), .val (.int x7), .val (.long x8), .second, .val (.int x9), .val (.int x10), .val (.int x11), .val (.long y12), .second] [(.int (XT.cmpL y12 (0 : Int64)))])
    by_cases q428 : y12 < (0 : Int64)
    · replace hF := hF.trans (if_pos q428)
      refine own_st (fun _ => XS.ifYes X.here hx rfl (pc0 := 428) (pc' := 436) rfl (hb hby at_428) rfl (XT.ll_lt_t q428) (by decide) (by decide)) ?_
      show own_E p e below Qq T (mkF m 436 #[.val (.long x0), .second, .val (.long x1), .second, .val (.long x2), .second, .val (.int x3), .val (.int x4), .val (.int x5), .val (.ref xa), .val (.int x6), .val (.int x7), .val (.long x8), .second, .val (.int x9), .val (.int x10), .val (.int x11), .val (.long y12), .second] [])
      exact B436 _ _ x0 x1 x2 x3 x4 x5 x6 x7 x8 x9 x10 x11 y12 xa g_f X I N hF
    · replace hF := hF.trans (if_neg q428)
      refine own_st (fun _ => XS.ifNo X.here hx rfl (hb hby at_428) rfl (XT.ll_lt_f q428)) ?_
      show own_E p e below Qq T (mkF m 431 #[.val (.long x0), .second, .val (.long x1), .second, .val (.long x2), .second, .val (.int x3), .val (.int x4), .val (.int x5), .val (.ref xa), .val (.int x6), .val (.int x7), .val (.long x8), .second, .val (.int x9), .val (.int x10), .val (.int x11), .val (.long y12), .second] [])
      refine own_st (fun _ => XS.iload X.here hx rfl (hb hby at_431) rfl) ?_
      show own_E p e below Qq T (mkF m 433 #[.val (.long x0), .second, .val (.long x1), .second, .val (.long x2), .second, .val (.int x3), .val (.int x4), .val (.int x5), .val (.ref xa), .val (.int x6), .val (.int x7), .val (.long x8), .second, .val (.int x9), .val (.int x10), .val (.int x11), .val (.long y12), .second] [(.int x11)])
      by_cases q433 : x11 = (0 : Int32)
      · replace hF := hF.trans (if_pos q433)
        refine own_st (fun _ => XS.ifNo X.here hx rfl (hb hby at_433) rfl (XT.i0_ne_f q433)) ?_
        show own_E p e below Qq T (mkF m 436 #[.val (.long x0), .second, .val (.long x1), .second, .val (.long x2), .second, .val (.int x3), .val (.int x4), .val (.int x5), .val (.ref xa), .val (.int x6), .val (.int x7), .val (.long x8), .second, .val (.int x9), .val (.int x10), .val (.int x11), .val (.long y12), .second] [])
        exact B436 _ _ x0 x1 x2 x3 x4 x5 x6 x7 x8 x9 x10 x11 y12 xa g_f X I N hF
      · replace hF := hF.trans (if_neg q433)
        refine own_st (fun _ => XS.ifYes X.here hx rfl (pc0 := 433) (pc' := 451) rfl (hb hby at_433) rfl (XT.i0_ne_t q433) (by decide) (by decide)) ?_
        show own_E p e below Qq T (mkF m 451 #[.val (.long x0), .second, .val (.long x1), .second, .val (.long x2), .second, .val (.int x3), .val (.int x4), .val (.int x5), .val (.ref xa), .val (.int x6), .val (.int x7), .val (.long x8), .second, .val (.int x9), .val (.int x10), .val (.int x11), .val (.long y12), .second] [])
        refine own_st (fun _ => XT.lload X.here hx rfl (hb hby at_451) rfl) ?_
        show own_E p e below Qq T (mkF m 453 #[.val (.long x0), .second, .val (.long x1), .second, .val (.long x2), .second, .val (.int x3), .val (.int x4), .val (.int x5), .val (.ref xa), .val (.int x6), .val (.int x7), .val (.long x8), .second, .val (.int x9), .val (.int x10), .val (.int x11), .val (.long y12), .second] [(.long x8)])
        refine own_st (fun _ => XT.lload X.here hx rfl (hb hby at_453) rfl) ?_
        show own_E p e below Qq T (mkF m 455 #[.val (.long x0), .second, .val (.long x1), .second, .val (.long x2), .second, .val (.int x3), .val (.int x4), .val (.int x5), .val (.ref xa), .val (.int x6), .val (.int x7), .val (.long x8), .second, .val (.int x9), .val (.int x10), .val (.int x11), .val (.long y12), .second] [(.long y12), (.long x8)])
        refine own_st (fun _ => X.ldc2J hx hown (mvT hZ (hw _ (List.mem_of_getElem? (i := 13) rfl))) rfl (hb hby at_455)) ?_
        show own_E p e below Qq T (mkF m 458 #[.val (.long x0), .second, .val (.long x1), .second, .val (.long x2), .second, .val (.int x3), .val (.int x4), .val (.int x5), .val (.ref xa), .val (.int x6), .val (.int x7), .val (.long x8), .second, .val (.int x9), .val (.int x10), .val (.int x11), .val (.long y12), .second] [(.long (10 : Int64)), (.long y12), (.long x8)])
        refine own_st (fun _ => XT.lmul X.here hx rfl (hb hby at_458) rfl) ?_
        show own_E p e below Qq T (mkF m 459 #[.val (.long x0), .second, .val (.long x1), .second, .val (.long x2), .second, .val (.int x3), .val (.int x4), .val (.int x5), .val (.ref xa), .val (.int x6), .val (.int x7), .val (.long x8), .second, .val (.int x9), .val (.int x10), .val (.int x11), .val (.long y12), .second] [(.long (y12 * (10 : Int64))), (.long x8)])
        refine own_st (fun _ => XS.iload X.here hx rfl (hb hby at_459) rfl) ?_
        show own_E p e below Qq T (mkF m 461 #[.val (.long x0), .second, .val (.long x1), .second, .val (.long x2), .second, .val (.int x3), .val (.int x4), .val (.int x5), .val (.ref xa), .val (.int x6), .val (.int x7), .val (.long x8), .second, .val (.int x9), .val (.int x10), .val (.int x11), .val (.long y12), .second] [(.int x10), (.long (y12 * (10 : Int64))), (.long x8)])
        refine own_st (fun _ => XT.i2l X.here hx rfl (hb hby at_461) rfl) ?_
        show own_E p e below Qq T (mkF m 462 #[.val (.long x0), .second, .val (.long x1), .second, .val (.long x2), .second, .val (.int x3), .val (.int x4), .val (.int x5), .val (.ref xa), .val (.int x6), .val (.int x7), .val (.long x8), .second, .val (.int x9), .val (.int x10), .val (.int x11), .val (.long y12), .second] [(.long (x10.toInt64)), (.long (y12 * (10 : Int64))), (.long x8)])
        refine own_st (fun _ => XT.ladd X.here hx rfl (hb hby at_462) rfl) ?_
        show own_E p e below Qq T (mkF m 463 #[.val (.long x0), .second, .val (.long x1), .second, .val (.long x2), .second, .val (.int x3), .val (.int x4), .val (.int x5), .val (.ref xa), .val (.int x6), .val (.int x7), .val (.long x8), .second, .val (.int x9), .val (.int x10), .val (.int x11), .val (.long y12), .second] [(.long ((y12 * (10 : Int64)) + (x10.toInt64))), (.long x8)])
        refine own_st (fun _ => XT.lcmp X.here hx rfl (hb hby at_463) rfl) ?_
        show own_E p e below Qq T (mkF m 464 #[.val (.long x0), .second, .val (.long x1), .second, .val (.long x2), .second, .val (.int x3), .val (.int x4), .val (.int x5), .val (.ref xa), .val (.int x6), .val (.int x7), .val (.long x8), .second, .val (.int x9), .val (.int x10), .val (.int x11), .val (.long y12), .second] [(.int (XT.cmpL x8 ((y12 * (10 : Int64)) + (x10.toInt64))))])
        by_cases q464 : x8 = ((y12 * (10 : Int64)) + (x10.toInt64))
        · replace hF := hF.trans (if_pos q464)
          refine own_st (fun _ => XS.ifNo X.here hx rfl (hb hby at_464) rfl (XT.ll_ne_f q464)) ?_
          show own_E p e below Qq T (mkF m 467 #[.val (.long x0), .second, .val (.long x1), .second, .val (.long x2), .second, .val (.int x3), .val (.int x4), .val (.int x5), .val (.ref xa), .val (.int x6), .val (.int x7), .val (.long x8), .second, .val (.int x9), .val (.int x10), .val (.int x11), .val (.long y12), .second] [])
          refine own_st (fun _ => XS.iconst X.here hx rfl (hb hby at_467)) ?_
          show own_E p e below Qq T (mkF m 468 #[.val (.long x0), .second, .val (.long x1), .second, .val (.long x2), .second, .val (.int x3), .val (.int x4), .val (.int x5), .val (.ref xa), .val (.int x6), .val (.int x7), .val (.long x8), .second, .val (.int x9), .val (.int x10), .val (.int x11), .val (.long y12), .second] [(.int (1 : Int32))])
          refine own_st (fun _ => XS.goto X.here hx rfl (pc0 := 468) (pc' := 472) rfl (hb hby at_468) (by decide) (by decide)) ?_
          show own_E p e below Qq T (mkF m 472 #[.val (.long x0), .second, .val (.long x1), .second, .val (.long x2), .second, .val (.int x3), .val (.int x4), .val (.int x5), .val (.ref xa), .val (.int x6), .val (.int x7), .val (.long x8), .second, .val (.int x9), .val (.int x10), .val (.int x11), .val (.long y12), .second] [(.int (1 : Int32))])
          exact B472 _ _ x0 x1 x2 x3 x4 x5 x6 x7 x8 x9 x10 x11 y12 (1 : Int32) xa g_f X I N hF
        · replace hF := hF.trans (if_neg q464)
          refine own_st (fun _ => XS.ifYes X.here hx rfl (pc0 := 464) (pc' := 471) rfl (hb hby at_464) rfl (XT.ll_ne_t q464) (by decide) (by decide)) ?_
          show own_E p e below Qq T (mkF m 471 #[.val (.long x0), .second, .val (.long x1), .second, .val (.long x2), .second, .val (.int x3), .val (.int x4), .val (.int x5), .val (.ref xa), .val (.int x6), .val (.int x7), .val (.long x8), .second, .val (.int x9), .val (.int x10), .val (.int x11), .val (.long y12), .second] [])
          refine own_st (fun _ => XS.iconst X.here hx rfl (hb hby at_471)) ?_
          show own_E p e below Qq T (mkF m 472 #[.val (.long x0), .second, .val (.long x1), .second, .val (.long x2), .second, .val (.int x3), .val (.int x4), .val (.int x5), .val (.ref xa), .val (.int x6), .val (.int x7), .val (.long x8), .second, .val (.int x9), .val (.int x10), .val (.int x11), .val (.long y12), .second] [(.int (0 : Int32))])
          exact B472 _ _ x0 x1 x2 x3 x4 x5 x6 x7 x8 x9 x10 x11 y12 (0 : Int32) xa g_f X I N hF
  have B410 : ∀ (T : State) (L : List Loc) (x0 : Int64) (x1 : Int64) (x2 : Int64) (x3 : Int32) (x4 : Int32) (x5 : Int32) (x6 : Int32) (x7 : Int32) (x8 : Int64) (x9 : Int32) (x10 : Int32) (x11 : Int32) (y12 : Int32) (xa : Addr) (g_f : (Nat → Int32)), Stand p l e room_1 s m #[(.long p0), (.long p1), (.long p2), (.int p3), (.int p4), (.int p5)] below meth c T L 1 20 → own_I Z n0 T.heap xa g_f → Fr n0 L → w = F0_410 x0 x1 x2 x3 x4 x5 x6 x7 x8 x9 x10 x11 y12 g_f → own_E p e below Qq T (mkF m 410 #[.val (.long x0), .second, .val (.long x1), .second, .val (.long x2), .second, .val (.int x3), .val (.int x4), .val (.int x5), .val (.ref xa), .val (.int x6), .val (.int x7), .val (.long x8), .second, .val (.int x9), .val (.int x10), .val (.int x11), .unset, .unset] [(.int y12)]) := by
    intro T L x0 x1 x2 x3 x4 x5 x6 x7 x8 x9 x10 x11 y12 xa g_f X I N hF
    rw [← hQ]
    exact own_retN X hx hlk (t := .boolean) hret (by simp) (hb hby at_410) (by decide) (by decide) ⟨by (rw [hF]; try rfl), N, trivial⟩
  have B401 : ∀ (T : State) (L : List Loc) (x0 : Int64) (x1 : Int64) (x2 : Int64) (x3 : Int32) (x4 : Int32) (x5 : Int32) (x6 : Int32) (x7 : Int32) (x8 : Int64) (x9 : Int32) (x10 : Int32) (x11 : Int32) (y12 : Int64) (y13 : Int64) (xa : Addr) (g_f : (Nat → Int32)), Stand p l e room_1 s m #[(.long p0), (.long p1), (.long p2), (.int p3), (.int p4), (.int p5)] below meth c T L 1 20 → own_I Z n0 T.heap xa g_f → Fr n0 L → w = F0_401 x0 x1 x2 x3 x4 x5 x6 x7 x8 x9 x10 x11 y12 y13 g_f → own_E p e below Qq T (mkF m 401 #[.val (.long x0), .second, .val (.long x1), .second, .val (.long x2), .second, .val (.int x3), .val (.int x4), .val (.int x5), .val (.ref xa), .val (.int x6), .val (.int x7), .val (.long x8), .second, .val (.int x9), .val (.int x10), .val (.int x11), .unset, .unset] [(.long y12), (.long y13)]) := by
    intro T L x0 x1 x2 x3 x4 x5 x6 x7 x8 x9 x10 x11 y12 y13 xa g_f X I N hF
    refine own_st (fun _ => XT.lcmp X.here hx rfl (hb hby at_401) rfl) ?_
    show own_E p e below Qq T (mkF m 402 #[.val (.long x0), .second, .val (.long x1), .second, .val (.long x2), .second, .val (.int x3), .val (.int x4), .val (.int x5), .val (.ref xa), .val (.int x6), .val (.int x7), .val (.long x8), .second, .val (.int x9), .val (.int x10), .val (.int x11), .unset, .unset] [(.int (XT.cmpL y13 y12))])
    by_cases q402 : y13 = y12
    · replace hF := hF.trans (if_pos q402)
      refine own_st (fun _ => XS.ifNo X.here hx rfl (hb hby at_402) rfl (XT.ll_ne_f q402)) ?_
      show own_E p e below Qq T (mkF m 405 #[.val (.long x0), .second, .val (.long x1), .second, .val (.long x2), .second, .val (.int x3), .val (.int x4), .val (.int x5), .val (.ref xa), .val (.int x6), .val (.int x7), .val (.long x8), .second, .val (.int x9), .val (.int x10), .val (.int x11), .unset, .unset] [])
      refine own_st (fun _ => XS.iconst X.here hx rfl (hb hby at_405)) ?_
      show own_E p e below Qq T (mkF m 406 #[.val (.long x0), .second, .val (.long x1), .second, .val (.long x2), .second, .val (.int x3), .val (.int x4), .val (.int x5), .val (.ref xa), .val (.int x6), .val (.int x7), .val (.long x8), .second, .val (.int x9), .val (.int x10), .val (.int x11), .unset, .unset] [(.int (1 : Int32))])
      refine own_st (fun _ => XS.goto X.here hx rfl (pc0 := 406) (pc' := 410) rfl (hb hby at_406) (by decide) (by decide)) ?_
      show own_E p e below Qq T (mkF m 410 #[.val (.long x0), .second, .val (.long x1), .second, .val (.long x2), .second, .val (.int x3), .val (.int x4), .val (.int x5), .val (.ref xa), .val (.int x6), .val (.int x7), .val (.long x8), .second, .val (.int x9), .val (.int x10), .val (.int x11), .unset, .unset] [(.int (1 : Int32))])
      exact B410 _ _ x0 x1 x2 x3 x4 x5 x6 x7 x8 x9 x10 x11 (1 : Int32) xa g_f X I N hF
    · replace hF := hF.trans (if_neg q402)
      refine own_st (fun _ => XS.ifYes X.here hx rfl (pc0 := 402) (pc' := 409) rfl (hb hby at_402) rfl (XT.ll_ne_t q402) (by decide) (by decide)) ?_
      show own_E p e below Qq T (mkF m 409 #[.val (.long x0), .second, .val (.long x1), .second, .val (.long x2), .second, .val (.int x3), .val (.int x4), .val (.int x5), .val (.ref xa), .val (.int x6), .val (.int x7), .val (.long x8), .second, .val (.int x9), .val (.int x10), .val (.int x11), .unset, .unset] [])
      refine own_st (fun _ => XS.iconst X.here hx rfl (hb hby at_409)) ?_
      show own_E p e below Qq T (mkF m 410 #[.val (.long x0), .second, .val (.long x1), .second, .val (.long x2), .second, .val (.int x3), .val (.int x4), .val (.int x5), .val (.ref xa), .val (.int x6), .val (.int x7), .val (.long x8), .second, .val (.int x9), .val (.int x10), .val (.int x11), .unset, .unset] [(.int (0 : Int32))])
      exact B410 _ _ x0 x1 x2 x3 x4 x5 x6 x7 x8 x9 x10 x11 (0 : Int32) xa g_f X I N hF
  have B377 : ∀ (T : State) (L : List Loc) (x0 : Int64) (x1 : Int64) (x2 : Int64) (x3 : Int32) (x4 : Int32) (x5 : Int32) (x6 : Int32) (x7 : Int32) (x8 : Int64) (x9 : Int32) (x10 : Int32) (y11 : Int32) (xa : Addr) (g_f : (Nat → Int32)), Stand p l e room_1 s m #[(.long p0), (.long p1), (.long p2), (.int p3), (.int p4), (.int p5)] below meth c T L 1 20 → own_I Z n0 T.heap xa g_f → Fr n0 L → w = F0_377 x0 x1 x2 x3 x4 x5 x6 x7 x8 x9 x10 y11 g_f → (0 ≤ x6.toInt ∧ x6.toInt ≤ 20 ∧ 0 ≤ x7.toInt ∧ x7.toInt ≤ 20) → own_E p e below Qq T (mkF m 377 #[.val (.long x0), .second, .val (.long x1), .second, .val (.long x2), .second, .val (.int x3), .val (.int x4), .val (.int x5), .val (.ref xa), .val (.int x6), .val (.int x7), .val (.long x8), .second, .val (.int x9), .val (.int x10), .unset, .unset, .unset] [(.int y11)]) := by
    intro T L x0 x1 x2 x3 x4 x5 x6 x7 x8 x9 x10 y11 xa g_f X I N hF hP
    refine own_st (fun _ => XS.istore X.here hx rfl (hb hby at_377) rfl (l' := #[.val (.long x0), .second, .val (.long x1), .second, .val (.long x2), .second, .val (.int x3), .val (.int x4), .val (.int x5), .val (.ref xa), .val (.int x6), .val (.int x7), .val (.long x8), .second, .val (.int x9), .val (.int x10), .val (.int y11), .unset, .unset]) rfl) ?_
    show own_E p e below Qq T (mkF m 379 #[.val (.long x0), .second, .val (.long x1), .second, .val (.long x2), .second, .val (.int x3), .val (.int x4), .val (.int x5), .val (.ref xa), .val (.int x6), .val (.int x7), .val (.long x8), .second, .val (.int x9), .val (.int x10), .val (.int y11), .unset, .unset] [])
    refine own_st (fun _ => XS.iload X.here hx rfl (hb hby at_379) rfl) ?_
    show own_E p e below Qq T (mkF m 381 #[.val (.long x0), .second, .val (.long x1), .second, .val (.long x2), .second, .val (.int x3), .val (.int x4), .val (.int x5), .val (.ref xa), .val (.int x6), .val (.int x7), .val (.long x8), .second, .val (.int x9), .val (.int x10), .val (.int y11), .unset, .unset] [(.int x9)])
    refine own_st (fun _ => XS.iconst X.here hx rfl (hb hby at_381)) ?_
    show own_E p e below Qq T (mkF m 382 #[.val (.long x0), .second, .val (.long x1), .second, .val (.long x2), .second, .val (.int x3), .val (.int x4), .val (.int x5), .val (.ref xa), .val (.int x6), .val (.int x7), .val (.long x8), .second, .val (.int x9), .val (.int x10), .val (.int y11), .unset, .unset] [(.int (1 : Int32)), (.int x9)])
    by_cases q382 : x9 = (1 : Int32)
    · replace hF := hF.trans (if_pos q382)
      refine own_st (fun _ => XS.icmpNo X.here hx rfl (hb hby at_382) rfl (XT.ii_ne_f q382)) ?_
      show own_E p e below Qq T (mkF m 385 #[.val (.long x0), .second, .val (.long x1), .second, .val (.long x2), .second, .val (.int x3), .val (.int x4), .val (.int x5), .val (.ref xa), .val (.int x6), .val (.int x7), .val (.long x8), .second, .val (.int x9), .val (.int x10), .val (.int y11), .unset, .unset] [])
      refine own_st (fun _ => XT.lload X.here hx rfl (hb hby at_385) rfl) ?_
      show own_E p e below Qq T (mkF m 387 #[.val (.long x0), .second, .val (.long x1), .second, .val (.long x2), .second, .val (.int x3), .val (.int x4), .val (.int x5), .val (.ref xa), .val (.int x6), .val (.int x7), .val (.long x8), .second, .val (.int x9), .val (.int x10), .val (.int y11), .unset, .unset] [(.long x8)])
      refine own_st (fun _ => XS.iload X.here hx rfl (hb hby at_387) rfl) ?_
      show own_E p e below Qq T (mkF m 389 #[.val (.long x0), .second, .val (.long x1), .second, .val (.long x2), .second, .val (.int x3), .val (.int x4), .val (.int x5), .val (.ref xa), .val (.int x6), .val (.int x7), .val (.long x8), .second, .val (.int x9), .val (.int x10), .val (.int y11), .unset, .unset] [(.int y11), (.long x8)])
      by_cases q389 : y11 = (0 : Int32)
      · replace hF := hF.trans (if_pos q389)
        refine own_st (fun _ => XS.ifYes X.here hx rfl (pc0 := 389) (pc' := 398) rfl (hb hby at_389) rfl (XT.i0_eq_t q389) (by decide) (by decide)) ?_
        show own_E p e below Qq T (mkF m 398 #[.val (.long x0), .second, .val (.long x1), .second, .val (.long x2), .second, .val (.int x3), .val (.int x4), .val (.int x5), .val (.ref xa), .val (.int x6), .val (.int x7), .val (.long x8), .second, .val (.int x9), .val (.int x10), .val (.int y11), .unset, .unset] [(.long x8)])
        refine own_st (fun _ => X.ldc2J hx hown (mvT hZ (hw _ (List.mem_of_getElem? (i := 12) rfl))) rfl (hb hby at_398)) ?_
        show own_E p e below Qq T (mkF m 401 #[.val (.long x0), .second, .val (.long x1), .second, .val (.long x2), .second, .val (.int x3), .val (.int x4), .val (.int x5), .val (.ref xa), .val (.int x6), .val (.int x7), .val (.long x8), .second, .val (.int x9), .val (.int x10), .val (.int y11), .unset, .unset] [(.long (-1 : Int64)), (.long x8)])
        exact B401 _ _ x0 x1 x2 x3 x4 x5 x6 x7 x8 x9 x10 y11 (-1 : Int64) x8 xa g_f X I N hF
      · replace hF := hF.trans (if_neg q389)
        refine own_st (fun _ => XS.ifNo X.here hx rfl (hb hby at_389) rfl (XT.i0_eq_f q389)) ?_
        show own_E p e below Qq T (mkF m 392 #[.val (.long x0), .second, .val (.long x1), .second, .val (.long x2), .second, .val (.int x3), .val (.int x4), .val (.int x5), .val (.ref xa), .val (.int x6), .val (.int x7), .val (.long x8), .second, .val (.int x9), .val (.int x10), .val (.int y11), .unset, .unset] [(.long x8)])
        refine own_st (fun _ => XS.iload X.here hx rfl (hb hby at_392) rfl) ?_
        show own_E p e below Qq T (mkF m 394 #[.val (.long x0), .second, .val (.long x1), .second, .val (.long x2), .second, .val (.int x3), .val (.int x4), .val (.int x5), .val (.ref xa), .val (.int x6), .val (.int x7), .val (.long x8), .second, .val (.int x9), .val (.int x10), .val (.int y11), .unset, .unset] [(.int x10), (.long x8)])
        refine own_st (fun _ => XT.i2l X.here hx rfl (hb hby at_394) rfl) ?_
        show own_E p e below Qq T (mkF m 395 #[.val (.long x0), .second, .val (.long x1), .second, .val (.long x2), .second, .val (.int x3), .val (.int x4), .val (.int x5), .val (.ref xa), .val (.int x6), .val (.int x7), .val (.long x8), .second, .val (.int x9), .val (.int x10), .val (.int y11), .unset, .unset] [(.long (x10.toInt64)), (.long x8)])
        refine own_st (fun _ => XS.goto X.here hx rfl (pc0 := 395) (pc' := 401) rfl (hb hby at_395) (by decide) (by decide)) ?_
        show own_E p e below Qq T (mkF m 401 #[.val (.long x0), .second, .val (.long x1), .second, .val (.long x2), .second, .val (.int x3), .val (.int x4), .val (.int x5), .val (.ref xa), .val (.int x6), .val (.int x7), .val (.long x8), .second, .val (.int x9), .val (.int x10), .val (.int y11), .unset, .unset] [(.long (x10.toInt64)), (.long x8)])
        exact B401 _ _ x0 x1 x2 x3 x4 x5 x6 x7 x8 x9 x10 y11 (x10.toInt64) x8 xa g_f X I N hF
    · replace hF := hF.trans (if_neg q382)
      refine own_st (fun _ => XS.icmpYes X.here hx rfl (pc0 := 382) (pc' := 411) rfl (hb hby at_382) rfl (XT.ii_ne_t q382) (by decide) (by decide)) ?_
      show own_E p e below Qq T (mkF m 411 #[.val (.long x0), .second, .val (.long x1), .second, .val (.long x2), .second, .val (.int x3), .val (.int x4), .val (.int x5), .val (.ref xa), .val (.int x6), .val (.int x7), .val (.long x8), .second, .val (.int x9), .val (.int x10), .val (.int y11), .unset, .unset] [])
      refine own_st (fun _ => XS.aload X.here hx rfl (hb hby at_411) rfl rfl) ?_
      show own_E p e below Qq T (mkF m 413 #[.val (.long x0), .second, .val (.long x1), .second, .val (.long x2), .second, .val (.int x3), .val (.int x4), .val (.int x5), .val (.ref xa), .val (.int x6), .val (.int x7), .val (.long x8), .second, .val (.int x9), .val (.int x10), .val (.int y11), .unset, .unset] [(.ref xa)])
      refine own_st (fun _ => XS.iload X.here hx rfl (hb hby at_413) rfl) ?_
      show own_E p e below Qq T (mkF m 415 #[.val (.long x0), .second, .val (.long x1), .second, .val (.long x2), .second, .val (.int x3), .val (.int x4), .val (.int x5), .val (.ref xa), .val (.int x6), .val (.int x7), .val (.long x8), .second, .val (.int x9), .val (.int x10), .val (.int y11), .unset, .unset] [(.int x6), (.ref xa)])
      refine own_st (fun _ => XS.iload X.here hx rfl (hb hby at_415) rfl) ?_
      show own_E p e below Qq T (mkF m 417 #[.val (.long x0), .second, .val (.long x1), .second, .val (.long x2), .second, .val (.int x3), .val (.int x4), .val (.int x5), .val (.ref xa), .val (.int x6), .val (.int x7), .val (.long x8), .second, .val (.int x9), .val (.int x10), .val (.int y11), .unset, .unset] [(.int x7), (.int x6), (.ref xa)])
      refine own_st (fun _ => XS.iconst X.here hx rfl (hb hby at_417)) ?_
      show own_E p e below Qq T (mkF m 418 #[.val (.long x0), .second, .val (.long x1), .second, .val (.long x2), .second, .val (.int x3), .val (.int x4), .val (.int x5), .val (.ref xa), .val (.int x6), .val (.int x7), .val (.long x8), .second, .val (.int x9), .val (.int x10), .val (.int y11), .unset, .unset] [(.int (1 : Int32)), (.int x7), (.int x6), (.ref xa)])
      refine own_st (fun _ => XS.isub X.here hx rfl (hb hby at_418) rfl) ?_
      show own_E p e below Qq T (mkF m 419 #[.val (.long x0), .second, .val (.long x1), .second, .val (.long x2), .second, .val (.int x3), .val (.int x4), .val (.int x5), .val (.ref xa), .val (.int x6), .val (.int x7), .val (.long x8), .second, .val (.int x9), .val (.int x10), .val (.int y11), .unset, .unset] [(.int (x7 - (1 : Int32))), (.int x6), (.ref xa)])
      refine own_callS X hx hZ hown (hw _ (List.mem_of_getElem? (i := 6) rfl)) (hw _ (List.mem_of_getElem? (i := 7) rfl)) (hw _ (List.mem_of_getElem? (i := 8) rfl)) (hw _ (List.mem_of_getElem? (i := 9) rfl)) (by decide) (W := 0) (argsL := [(.ref xa), (.int x6), (.int (x7 - (1 : Int32)))]) (rest := []) (rm2 l Z a0 hw xa x6 (x7 - (1 : Int32)) g_f _ n0 I (own_B2 hP)) (by decide) (by decide) (by decide) (by decide) rfl (by rw [hml]; rfl) (lenOf pd_2 rfl) rfl (by show 2 * 0 + _ ≤ _; exact Nat.le_of_eq rfl) (hb hby at_419) ?_
      intro T1 L1 v X' hq
      obtain ⟨rfl, N', I'⟩ := hq
      replace I := I'
      replace N := Fr.app N N'
      replace X : Stand p l e room_1 s m #[(.long p0), (.long p1), (.long p2), (.int p3), (.int p4), (.int p5)] below meth c T1 _ 1 20 := X'
      clear X' N' I'
      show own_E p e below Qq T1 (mkF m 422 #[.val (.long x0), .second, .val (.long x1), .second, .val (.long x2), .second, .val (.int x3), .val (.int x4), .val (.int x5), .val (.ref xa), .val (.int x6), .val (.int x7), .val (.long x8), .second, .val (.int x9), .val (.int x10), .val (.int y11), .unset, .unset] [(.long (F2_0 x6 (x7 - (1 : Int32)) g_f))])
      exact B422 _ _ x0 x1 x2 x3 x4 x5 x6 x7 x8 x9 x10 y11 (F2_0 x6 (x7 - (1 : Int32)) g_f) xa g_f X I N hF
  have B376 : ∀ (T : State) (L : List Loc) (x0 : Int64) (x1 : Int64) (x2 : Int64) (x3 : Int32) (x4 : Int32) (x5 : Int32) (x6 : Int32) (x7 : Int32) (x8 : Int64) (x9 : Int32) (x10 : Int32) (xa : Addr) (g_f : (Nat → Int32)), Stand p l e room_1 s m #[(.long p0), (.long p1), (.long p2), (.int p3), (.int p4), (.int p5)] below meth c T L 1 20 → own_I Z n0 T.heap xa g_f → Fr n0 L → w = F0_376 x0 x1 x2 x3 x4 x5 x6 x7 x8 x9 x10 g_f → (0 ≤ x6.toInt ∧ x6.toInt ≤ 20 ∧ 0 ≤ x7.toInt ∧ x7.toInt ≤ 20) → own_E p e below Qq T (mkF m 376 #[.val (.long x0), .second, .val (.long x1), .second, .val (.long x2), .second, .val (.int x3), .val (.int x4), .val (.int x5), .val (.ref xa), .val (.int x6), .val (.int x7), .val (.long x8), .second, .val (.int x9), .val (.int x10), .unset, .unset, .unset] []) := by
    intro T L x0 x1 x2 x3 x4 x5 x6 x7 x8 x9 x10 xa g_f X I N hF hP
    refine own_st (fun _ => XS.iconst X.here hx rfl (hb hby at_376)) ?_
    show own_E p e below Qq T (mkF m 377 #[.val (.long x0), .second, .val (.long x1), .second, .val (.long x2), .second, .val (.int x3), .val (.int x4), .val (.int x5), .val (.ref xa), .val (.int x6), .val (.int x7), .val (.long x8), .second, .val (.int x9), .val (.int x10), .unset, .unset, .unset] [(.int (0 : Int32))])
    exact B377 _ _ x0 x1 x2 x3 x4 x5 x6 x7 x8 x9 x10 (0 : Int32) xa g_f X I N hF (by first | exact hP | decide)
  have B347 : ∀ (T : State) (L : List Loc) (x0 : Int64) (x1 : Int64) (x2 : Int64) (x3 : Int32) (x4 : Int32) (x5 : Int32) (x6 : Int32) (x7 : Int32) (x8 : Int64) (x9 : Int32) (y10 : Int32) (xa : Addr) (g_f : (Nat → Int32)), Stand p l e room_1 s m #[(.long p0), (.long p1), (.long p2), (.int p3), (.int p4), (.int p5)] below meth c T L 1 20 → own_I Z n0 T.heap xa g_f → Fr n0 L → w = F0_347 x0 x1 x2 x3 x4 x5 x6 x7 x8 x9 y10 g_f → own_E p e below Qq T (mkF m 347 #[.val (.long x0), .second, .val (.long x1), .second, .val (.long x2), .second, .val (.int x3), .val (.int x4), .val (.int x5), .val (.ref xa), .val (.int x6), .val (.int x7), .val (.long x8), .second, .val (.int x9), .unset, .unset, .unset, .unset] [(.int y10)]) := by
    intro T L x0 x1 x2 x3 x4 x5 x6 x7 x8 x9 y10 xa g_f X I N hF
    rw [← hQ]
    exact own_retN X hx hlk (t := .boolean) hret (by simp) (hb hby at_347) (by decide) (by decide) ⟨by (rw [hF]; try rfl), N, trivial⟩
  have B333 : ∀ (T : State) (L : List Loc) (x0 : Int64) (x1 : Int64) (x2 : Int64) (x3 : Int32) (x4 : Int32) (x5 : Int32) (x6 : Int32) (x7 : Int32) (x8 : Int64) (x9 : Int32) (xa : Addr) (g_f : (Nat → Int32)), Stand p l e room_1 s m #[(.long p0), (.long p1), (.long p2), (.int p3), (.int p4), (.int p5)] below meth c T L 1 20 → own_I Z n0 T.heap xa g_f → Fr n0 L → w = F0_333 x0 x1 x2 x3 x4 x5 x6 x7 x8 x9 g_f → own_E p e below Qq T (mkF m 333 #[.val (.long x0), .second, .val (.long x1), .second, .val (.long x2), .second, .val (.int x3), .val (.int x4), .val (.int x5), .val (.ref xa), .val (.int x6), .val (.int x7), .val (.long x8), .second, .val (.int x9), .unset, .unset, .unset, .unset] []) := by
    intro T L x0 x1 x2 x3 x4 x5 x6 x7 x8 x9 xa g_f X I N hF
    refine own_st (fun _ => XT.lload X.here hx rfl (hb hby at_333) rfl) ?_
    show own_E p e below Qq T (mkF m 335 #[.val (.long x0), .second, .val (.long x1), .second, .val (.long x2), .second, .val (.int x3), .val (.int x4), .val (.int x5), .val (.ref xa), .val (.int x6), .val (.int x7), .val (.long x8), .second, .val (.int x9), .unset, .unset, .unset, .unset] [(.long x8)])
    refine own_st (fun _ => X.ldc2J hx hown (mvT hZ (hw _ (List.mem_of_getElem? (i := 12) rfl))) rfl (hb hby at_335)) ?_
    show own_E p e below Qq T (mkF m 338 #[.val (.long x0), .second, .val (.long x1), .second, .val (.long x2), .second, .val (.int x3), .val (.int x4), .val (.int x5), .val (.ref xa), .val (.int x6), .val (.int x7), .val (.long x8), .second, .val (.int x9), .unset, .unset, .unset, .unset] [(.long (-1 : Int64)), (.long x8)])
    refine own_st (fun _ => XT.lcmp X.here hx rfl (hb hby at_338) rfl) ?_
    show own_E p e below Qq T (mkF m 339 #[.val (.long x0), .second, .val (.long x1), .second, .val (.long x2), .second, .val (.int x3), .val (.int x4), .val (.int x5), .val (.ref xa), .val (.int x6), .val (.int x7), .val (.long x8), .second, .val (.int x9), .unset, .unset, .unset, .unset] [(.int (XT.cmpL x8 (-1 : Int64)))])
    by_cases q339 : x8 = (-1 : Int64)
    · replace hF := hF.trans (if_pos q339)
      refine own_st (fun _ => XS.ifNo X.here hx rfl (hb hby at_339) rfl (XT.ll_ne_f q339)) ?_
      show own_E p e below Qq T (mkF m 342 #[.val (.long x0), .second, .val (.long x1), .second, .val (.long x2), .second, .val (.int x3), .val (.int x4), .val (.int x5), .val (.ref xa), .val (.int x6), .val (.int x7), .val (.long x8), .second, .val (.int x9), .unset, .unset, .unset, .unset] [])
      refine own_st (fun _ => XS.iconst X.here hx rfl (hb hby at_342)) ?_
      show own_E p e below Qq T (mkF m 343 #[.val (.long x0), .second, .val (.long x1), .second, .val (.long x2), .second, .val (.int x3), .val (.int x4), .val (.int x5), .val (.ref xa), .val (.int x6), .val (.int x7), .val (.long x8), .second, .val (.int x9), .unset, .unset, .unset, .unset] [(.int (1 : Int32))])
      refine own_st (fun _ => XS.goto X.here hx rfl (pc0 := 343) (pc' := 347) rfl (hb hby at_343) (by decide) (by decide)) ?_
      show own_E p e below Qq T (mkF m 347 #[.val (.long x0), .second, .val (.long x1), .second, .val (.long x2), .second, .val (.int x3), .val (.int x4), .val (.int x5), .val (.ref xa), .val (.int x6), .val (.int x7), .val (.long x8), .second, .val (.int x9), .unset, .unset, .unset, .unset] [(.int (1 : Int32))])
      exact B347 _ _ x0 x1 x2 x3 x4 x5 x6 x7 x8 x9 (1 : Int32) xa g_f X I N hF
    · replace hF := hF.trans (if_neg q339)
      refine own_st (fun _ => XS.ifYes X.here hx rfl (pc0 := 339) (pc' := 346) rfl (hb hby at_339) rfl (XT.ll_ne_t q339) (by decide) (by decide)) ?_
      show own_E p e below Qq T (mkF m 346 #[.val (.long x0), .second, .val (.long x1), .second, .val (.long x2), .second, .val (.int x3), .val (.int x4), .val (.int x5), .val (.ref xa), .val (.int x6), .val (.int x7), .val (.long x8), .second, .val (.int x9), .unset, .unset, .unset, .unset] [])
      refine own_st (fun _ => XS.iconst X.here hx rfl (hb hby at_346)) ?_
      show own_E p e below Qq T (mkF m 347 #[.val (.long x0), .second, .val (.long x1), .second, .val (.long x2), .second, .val (.int x3), .val (.int x4), .val (.int x5), .val (.ref xa), .val (.int x6), .val (.int x7), .val (.long x8), .second, .val (.int x9), .unset, .unset, .unset, .unset] [(.int (0 : Int32))])
      exact B347 _ _ x0 x1 x2 x3 x4 x5 x6 x7 x8 x9 (0 : Int32) xa g_f X I N hF
  have B311 : ∀ (T : State) (L : List Loc) (x0 : Int64) (x1 : Int64) (x2 : Int64) (x3 : Int32) (x4 : Int32) (x5 : Int32) (x6 : Int32) (x7 : Int32) (y8 : Int64) (xa : Addr) (g_f : (Nat → Int32)), Stand p l e room_1 s m #[(.long p0), (.long p1), (.long p2), (.int p3), (.int p4), (.int p5)] below meth c T L 1 20 → own_I Z n0 T.heap xa g_f → Fr n0 L → w = F0_311 x0 x1 x2 x3 x4 x5 x6 x7 y8 g_f → (0 ≤ x6.toInt ∧ x6.toInt ≤ 20 ∧ 0 ≤ x7.toInt ∧ x7.toInt ≤ 20) → own_E p e below Qq T (mkF m 311 #[.val (.long x0), .second, .val (.long x1), .second, .val (.long x2), .second, .val (.int x3), .val (.int x4), .val (.int x5), .val (.ref xa), .val (.int x6), .val (.int x7), .unset, .unset, .unset, .unset, .unset, .unset, .unset] [(.long y8)]) := by
    intro T L x0 x1 x2 x3 x4 x5 x6 x7 y8 xa g_f X I N hF hP
    refine own_st (fun _ => XT.lstore X.here hx rfl (hb hby at_311) rfl (l' := #[.val (.long x0), .second, .val (.long x1), .second, .val (.long x2), .second, .val (.int x3), .val (.int x4), .val (.int x5), .val (.ref xa), .val (.int x6), .val (.int x7), .val (.long y8), .second, .unset, .unset, .unset, .unset, .unset]) rfl) ?_
    show own_E p e below Qq T (mkF m 313 #[.val (.long x0), .second, .val (.long x1), .second, .val (.long x2), .second, .val (.int x3), .val (.int x4), .val (.int x5), .val (.ref xa), .val (.int x6), .val (.int x7), .val (.long y8), .second, .unset, .unset, .unset, .unset, .unset] [])
    refine own_st (fun _ => XS.iload X.here hx rfl (hb hby at_313) rfl) ?_
    show own_E p e below Qq T (mkF m 315 #[.val (.long x0), .second, .val (.long x1), .second, .val (.long x2), .second, .val (.int x3), .val (.int x4), .val (.int x5), .val (.ref xa), .val (.int x6), .val (.int x7), .val (.long y8), .second, .unset, .unset, .unset, .unset, .unset] [(.int x7)])
    refine own_st (fun _ => XS.iload X.here hx rfl (hb hby at_315) rfl) ?_
    show own_E p e below Qq T (mkF m 317 #[.val (.long x0), .second, .val (.long x1), .second, .val (.long x2), .second, .val (.int x3), .val (.int x4), .val (.int x5), .val (.ref xa), .val (.int x6), .val (.int x7), .val (.long y8), .second, .unset, .unset, .unset, .unset, .unset] [(.int x6), (.int x7)])
    refine own_st (fun _ => XS.isub X.here hx rfl (hb hby at_317) rfl) ?_
    show own_E p e below Qq T (mkF m 318 #[.val (.long x0), .second, .val (.long x1), .second, .val (.long x2), .second, .val (.int x3), .val (.int x4), .val (.int x5), .val (.ref xa), .val (.int x6), .val (.int x7), .val (.long y8), .second, .unset, .unset, .unset, .unset, .unset] [(.int (x7 - x6))])
    refine own_st (fun _ => XS.istore X.here hx rfl (hb hby at_318) rfl (l' := #[.val (.long x0), .second, .val (.long x1), .second, .val (.long x2), .second, .val (.int x3), .val (.int x4), .val (.int x5), .val (.ref xa), .val (.int x6), .val (.int x7), .val (.long y8), .second, .val (.int (x7 - x6)), .unset, .unset, .unset, .unset]) rfl) ?_
    show own_E p e below Qq T (mkF m 320 #[.val (.long x0), .second, .val (.long x1), .second, .val (.long x2), .second, .val (.int x3), .val (.int x4), .val (.int x5), .val (.ref xa), .val (.int x6), .val (.int x7), .val (.long y8), .second, .val (.int (x7 - x6)), .unset, .unset, .unset, .unset] [])
    refine own_st (fun _ => XS.iload X.here hx rfl (hb hby at_320) rfl) ?_
    show own_E p e below Qq T (mkF m 322 #[.val (.long x0), .second, .val (.long x1), .second, .val (.long x2), .second, .val (.int x3), .val (.int x4), .val (.int x5), .val (.ref xa), .val (.int x6), .val (.int x7), .val (.long y8), .second, .val (.int (x7 - x6)), .unset, .unset, .unset, .unset] [(.int (x7 - x6))])
    refine own_st (fun _ => XS.iconst X.here hx rfl (hb hby at_322)) ?_
    show own_E p e below Qq T (mkF m 323 #[.val (.long x0), .second, .val (.long x1), .second, .val (.long x2), .second, .val (.int x3), .val (.int x4), .val (.int x5), .val (.ref xa), .val (.int x6), .val (.int x7), .val (.long y8), .second, .val (.int (x7 - x6)), .unset, .unset, .unset, .unset] [(.int (1 : Int32)), (.int (x7 - x6))])
    by_cases q323 : (x7 - x6) < (1 : Int32)
    · replace hF := hF.trans (if_pos q323)
      refine own_st (fun _ => XS.icmpYes X.here hx rfl (pc0 := 323) (pc' := 333) rfl (hb hby at_323) rfl (XT.ii_lt_t q323) (by decide) (by decide)) ?_
      show own_E p e below Qq T (mkF m 333 #[.val (.long x0), .second, .val (.long x1), .second, .val (.long x2), .second, .val (.int x3), .val (.int x4), .val (.int x5), .val (.ref xa), .val (.int x6), .val (.int x7), .val (.long y8), .second, .val (.int (x7 - x6)), .unset, .unset, .unset, .unset] [])
      exact B333 _ _ x0 x1 x2 x3 x4 x5 x6 x7 y8 (x7 - x6) xa g_f X I N hF
    · replace hF := hF.trans (if_neg q323)
      refine own_st (fun _ => XS.icmpNo X.here hx rfl (hb hby at_323) rfl (XT.ii_lt_f q323)) ?_
      show own_E p e below Qq T (mkF m 326 #[.val (.long x0), .second, .val (.long x1), .second, .val (.long x2), .second, .val (.int x3), .val (.int x4), .val (.int x5), .val (.ref xa), .val (.int x6), .val (.int x7), .val (.long y8), .second, .val (.int (x7 - x6)), .unset, .unset, .unset, .unset] [])
      refine own_st (fun _ => XS.iload X.here hx rfl (hb hby at_326) rfl) ?_
      show own_E p e below Qq T (mkF m 328 #[.val (.long x0), .second, .val (.long x1), .second, .val (.long x2), .second, .val (.int x3), .val (.int x4), .val (.int x5), .val (.ref xa), .val (.int x6), .val (.int x7), .val (.long y8), .second, .val (.int (x7 - x6)), .unset, .unset, .unset, .unset] [(.int (x7 - x6))])
      refine own_st (fun _ => XS.bipush X.here hx rfl (hb hby at_328)) ?_
      show own_E p e below Qq T (mkF m 330 #[.val (.long x0), .second, .val (.long x1), .second, .val (.long x2), .second, .val (.int x3), .val (.int x4), .val (.int x5), .val (.ref xa), .val (.int x6), .val (.int x7), .val (.long y8), .second, .val (.int (x7 - x6)), .unset, .unset, .unset, .unset] [(.int (18 : Int32)), (.int (x7 - x6))])
      by_cases q330 : (18 : Int32) < (x7 - x6)
      · replace hF := hF.trans (if_pos q330)
        refine own_st (fun _ => XS.icmpNo X.here hx rfl (hb hby at_330) rfl (XT.ii_le_f q330)) ?_
        show own_E p e below Qq T (mkF m 333 #[.val (.long x0), .second, .val (.long x1), .second, .val (.long x2), .second, .val (.int x3), .val (.int x4), .val (.int x5), .val (.ref xa), .val (.int x6), .val (.int x7), .val (.long y8), .second, .val (.int (x7 - x6)), .unset, .unset, .unset, .unset] [])
        exact B333 _ _ x0 x1 x2 x3 x4 x5 x6 x7 y8 (x7 - x6) xa g_f X I N hF
      · replace hF := hF.trans (if_neg q330)
        refine own_st (fun _ => XS.icmpYes X.here hx rfl (pc0 := 330) (pc' := 348) rfl (hb hby at_330) rfl (XT.ii_le_t q330) (by decide) (by decide)) ?_
        show own_E p e below Qq T (mkF m 348 #[.val (.long x0), .second, .val (.long x1), .second, .val (.long x2), .second, .val (.int x3), .val (.int x4), .val (.int x5), .val (.ref xa), .val (.int x6), .val (.int x7), .val (.long y8), .second, .val (.int (x7 - x6)), .unset, .unset, .unset, .unset] [])
        refine own_st (fun _ => XS.aload X.here hx rfl (hb hby at_348) rfl rfl) ?_
        show own_E p e below Qq T (mkF m 350 #[.val (.long x0), .second, .val (.long x1), .second, .val (.long x2), .second, .val (.int x3), .val (.int x4), .val (.int x5), .val (.ref xa), .val (.int x6), .val (.int x7), .val (.long y8), .second, .val (.int (x7 - x6)), .unset, .unset, .unset, .unset] [(.ref xa)])
        refine own_st (fun _ => XS.iload X.here hx rfl (hb hby at_350) rfl) ?_
        show own_E p e below Qq T (mkF m 352 #[.val (.long x0), .second, .val (.long x1), .second, .val (.long x2), .second, .val (.int x3), .val (.int x4), .val (.int x5), .val (.ref xa), .val (.int x6), .val (.int x7), .val (.long y8), .second, .val (.int (x7 - x6)), .unset, .unset, .unset, .unset] [(.int x7), (.ref xa)])
        refine own_st (fun _ => XS.iconst X.here hx rfl (hb hby at_352)) ?_
        show own_E p e below Qq T (mkF m 353 #[.val (.long x0), .second, .val (.long x1), .second, .val (.long x2), .second, .val (.int x3), .val (.int x4), .val (.int x5), .val (.ref xa), .val (.int x6), .val (.int x7), .val (.long y8), .second, .val (.int (x7 - x6)), .unset, .unset, .unset, .unset] [(.int (1 : Int32)), (.int x7), (.ref xa)])
        refine own_st (fun _ => XS.isub X.here hx rfl (hb hby at_353) rfl) ?_
        show own_E p e below Qq T (mkF m 354 #[.val (.long x0), .second, .val (.long x1), .second, .val (.long x2), .second, .val (.int x3), .val (.int x4), .val (.int x5), .val (.ref xa), .val (.int x6), .val (.int x7), .val (.long y8), .second, .val (.int (x7 - x6)), .unset, .unset, .unset, .unset] [(.int (x7 - (1 : Int32))), (.ref xa)])
        refine own_st (fun _ hr => own_baload (g := (mkF m 354 #[.val (.long x0), .second, .val (.long x1), .second, .val (.long x2), .second, .val (.int x3), .val (.int x4), .val (.int x5), .val (.ref xa), .val (.int x6), .val (.int x7), .val (.long y8), .second, .val (.int (x7 - x6)), .unset, .unset, .unset, .unset] [(.int (x7 - (1 : Int32))), (.ref xa)])) X hx hZ I (j := (x7 - (1 : Int32))) (own_B3 hP q323) rfl rfl (hb hby at_354) hr) ?_
        show own_E p e below Qq T (mkF m 355 #[.val (.long x0), .second, .val (.long x1), .second, .val (.long x2), .second, .val (.int x3), .val (.int x4), .val (.int x5), .val (.ref xa), .val (.int x6), .val (.int x7), .val (.long y8), .second, .val (.int (x7 - x6)), .unset, .unset, .unset, .unset] [(.int (g_f ((x7 - (1 : Int32))).toNatClampNeg))])
        refine own_st (fun _ => XS.bipush X.here hx rfl (hb hby at_355)) ?_
        show own_E p e below Qq T (mkF m 357 #[.val (.long x0), .second, .val (.long x1), .second, .val (.long x2), .second, .val (.int x3), .val (.int x4), .val (.int x5), .val (.ref xa), .val (.int x6), .val (.int x7), .val (.long y8), .second, .val (.int (x7 - x6)), .unset, .unset, .unset, .unset] [(.int (48 : Int32)), (.int (g_f ((x7 - (1 : Int32))).toNatClampNeg))])
        refine own_st (fun _ => XS.isub X.here hx rfl (hb hby at_357) rfl) ?_
        show own_E p e below Qq T (mkF m 358 #[.val (.long x0), .second, .val (.long x1), .second, .val (.long x2), .second, .val (.int x3), .val (.int x4), .val (.int x5), .val (.ref xa), .val (.int x6), .val (.int x7), .val (.long y8), .second, .val (.int (x7 - x6)), .unset, .unset, .unset, .unset] [(.int ((g_f ((x7 - (1 : Int32))).toNatClampNeg) - (48 : Int32)))])
        refine own_st (fun _ => XS.istore X.here hx rfl (hb hby at_358) rfl (l' := #[.val (.long x0), .second, .val (.long x1), .second, .val (.long x2), .second, .val (.int x3), .val (.int x4), .val (.int x5), .val (.ref xa), .val (.int x6), .val (.int x7), .val (.long y8), .second, .val (.int (x7 - x6)), .val (.int ((g_f ((x7 - (1 : Int32))).toNatClampNeg) - (48 : Int32))), .unset, .unset, .unset]) rfl) ?_
        show own_E p e below Qq T (mkF m 360 #[.val (.long x0), .second, .val (.long x1), .second, .val (.long x2), .second, .val (.int x3), .val (.int x4), .val (.int x5), .val (.ref xa), .val (.int x6), .val (.int x7), .val (.long y8), .second, .val (.int (x7 - x6)), .val (.int ((g_f ((x7 - (1 : Int32))).toNatClampNeg) - (48 : Int32))), .unset, .unset, .unset] [])
        refine own_st (fun _ => XS.iload X.here hx rfl (hb hby at_360) rfl) ?_
        show own_E p e below Qq T (mkF m 362 #[.val (.long x0), .second, .val (.long x1), .second, .val (.long x2), .second, .val (.int x3), .val (.int x4), .val (.int x5), .val (.ref xa), .val (.int x6), .val (.int x7), .val (.long y8), .second, .val (.int (x7 - x6)), .val (.int ((g_f ((x7 - (1 : Int32))).toNatClampNeg) - (48 : Int32))), .unset, .unset, .unset] [(.int ((g_f ((x7 - (1 : Int32))).toNatClampNeg) - (48 : Int32)))])
        by_cases q362 : ((g_f ((x7 - (1 : Int32))).toNatClampNeg) - (48 : Int32)) < (0 : Int32)
        · replace hF := hF.trans (if_pos q362)
          refine own_st (fun _ => XS.ifYes X.here hx rfl (pc0 := 362) (pc' := 376) rfl (hb hby at_362) rfl (XT.i0_lt_t q362) (by decide) (by decide)) ?_
          show own_E p e below Qq T (mkF m 376 #[.val (.long x0), .second, .val (.long x1), .second, .val (.long x2), .second, .val (.int x3), .val (.int x4), .val (.int x5), .val (.ref xa), .val (.int x6), .val (.int x7), .val (.long y8), .second, .val (.int (x7 - x6)), .val (.int ((g_f ((x7 - (1 : Int32))).toNatClampNeg) - (48 : Int32))), .unset, .unset, .unset] [])
          exact B376 _ _ x0 x1 x2 x3 x4 x5 x6 x7 y8 (x7 - x6) ((g_f ((x7 - (1 : Int32))).toNatClampNeg) - (48 : Int32)) xa g_f X I N hF (by first | exact hP | decide)
        · replace hF := hF.trans (if_neg q362)
          refine own_st (fun _ => XS.ifNo X.here hx rfl (hb hby at_362) rfl (XT.i0_lt_f q362)) ?_
          show own_E p e below Qq T (mkF m 365 #[.val (.long x0), .second, .val (.long x1), .second, .val (.long x2), .second, .val (.int x3), .val (.int x4), .val (.int x5), .val (.ref xa), .val (.int x6), .val (.int x7), .val (.long y8), .second, .val (.int (x7 - x6)), .val (.int ((g_f ((x7 - (1 : Int32))).toNatClampNeg) - (48 : Int32))), .unset, .unset, .unset] [])
          refine own_st (fun _ => XS.iload X.here hx rfl (hb hby at_365) rfl) ?_
          show own_E p e below Qq T (mkF m 367 #[.val (.long x0), .second, .val (.long x1), .second, .val (.long x2), .second, .val (.int x3), .val (.int x4), .val (.int x5), .val (.ref xa), .val (.int x6), .val (.int x7), .val (.long y8), .second, .val (.int (x7 - x6)), .val (.int ((g_f ((x7 - (1 : Int32))).toNatClampNeg) - (48 : Int32))), .unset, .unset, .unset] [(.int ((g_f ((x7 - (1 : Int32))).toNatClampNeg) - (48 : Int32)))])
          refine own_st (fun _ => XS.bipush X.here hx rfl (hb hby at_367)) ?_
          show own_E p e below Qq T (mkF m 369 #[.val (.long x0), .second, .val (.long x1), .second, .val (.long x2), .second, .val (.int x3), .val (.int x4), .val (.int x5), .val (.ref xa), .val (.int x6), .val (.int x7), .val (.long y8), .second, .val (.int (x7 - x6)), .val (.int ((g_f ((x7 - (1 : Int32))).toNatClampNeg) - (48 : Int32))), .unset, .unset, .unset] [(.int (9 : Int32)), (.int ((g_f ((x7 - (1 : Int32))).toNatClampNeg) - (48 : Int32)))])
          by_cases q369 : (9 : Int32) < ((g_f ((x7 - (1 : Int32))).toNatClampNeg) - (48 : Int32))
          · replace hF := hF.trans (if_pos q369)
            refine own_st (fun _ => XS.icmpYes X.here hx rfl (pc0 := 369) (pc' := 376) rfl (hb hby at_369) rfl (XT.ii_gt_t q369) (by decide) (by decide)) ?_
            show own_E p e below Qq T (mkF m 376 #[.val (.long x0), .second, .val (.long x1), .second, .val (.long x2), .second, .val (.int x3), .val (.int x4), .val (.int x5), .val (.ref xa), .val (.int x6), .val (.int x7), .val (.long y8), .second, .val (.int (x7 - x6)), .val (.int ((g_f ((x7 - (1 : Int32))).toNatClampNeg) - (48 : Int32))), .unset, .unset, .unset] [])
            exact B376 _ _ x0 x1 x2 x3 x4 x5 x6 x7 y8 (x7 - x6) ((g_f ((x7 - (1 : Int32))).toNatClampNeg) - (48 : Int32)) xa g_f X I N hF (by first | exact hP | decide)
          · replace hF := hF.trans (if_neg q369)
            refine own_st (fun _ => XS.icmpNo X.here hx rfl (hb hby at_369) rfl (XT.ii_gt_f q369)) ?_
            show own_E p e below Qq T (mkF m 372 #[.val (.long x0), .second, .val (.long x1), .second, .val (.long x2), .second, .val (.int x3), .val (.int x4), .val (.int x5), .val (.ref xa), .val (.int x6), .val (.int x7), .val (.long y8), .second, .val (.int (x7 - x6)), .val (.int ((g_f ((x7 - (1 : Int32))).toNatClampNeg) - (48 : Int32))), .unset, .unset, .unset] [])
            refine own_st (fun _ => XS.iconst X.here hx rfl (hb hby at_372)) ?_
            show own_E p e below Qq T (mkF m 373 #[.val (.long x0), .second, .val (.long x1), .second, .val (.long x2), .second, .val (.int x3), .val (.int x4), .val (.int x5), .val (.ref xa), .val (.int x6), .val (.int x7), .val (.long y8), .second, .val (.int (x7 - x6)), .val (.int ((g_f ((x7 - (1 : Int32))).toNatClampNeg) - (48 : Int32))), .unset, .unset, .unset] [(.int (1 : Int32))])
            refine own_st (fun _ => XS.goto X.here hx rfl (pc0 := 373) (pc' := 377) rfl (hb hby at_373) (by decide) (by decide)) ?_
            show own_E p e below Qq T (mkF m 377 #[.val (.long x0), .second, .val (.long x1), .second, .val (.long x2), .second, .val (.int x3), .val (.int x4), .val (.int x5), .val (.ref xa), .val (.int x6), .val (.int x7), .val (.long y8), .second, .val (.int (x7 - x6)), .val (.int ((g_f ((x7 - (1 : Int32))).toNatClampNeg) - (48 : Int32))), .unset, .unset, .unset] [(.int (1 : Int32))])
            exact B377 _ _ x0 x1 x2 x3 x4 x5 x6 x7 y8 (x7 - x6) ((g_f ((x7 - (1 : Int32))).toNatClampNeg) - (48 : Int32)) (1 : Int32) xa g_f X I N hF (by first | exact hP | decide)
  have B302 : ∀ (T : State) (L : List Loc) (x0 : Int64) (x1 : Int64) (x2 : Int64) (x3 : Int32) (x4 : Int32) (x5 : Int32) (x6 : Int32) (x7 : Int32) (xa : Addr) (g_f : (Nat → Int32)), Stand p l e room_1 s m #[(.long p0), (.long p1), (.long p2), (.int p3), (.int p4), (.int p5)] below meth c T L 1 20 → own_I Z n0 T.heap xa g_f → Fr n0 L → w = F0_302 x0 x1 x2 x3 x4 x5 x6 x7 g_f → (0 ≤ x6.toInt ∧ x6.toInt ≤ 20 ∧ 0 ≤ x7.toInt ∧ x7.toInt ≤ 20) → own_E p e below Qq T (mkF m 302 #[.val (.long x0), .second, .val (.long x1), .second, .val (.long x2), .second, .val (.int x3), .val (.int x4), .val (.int x5), .val (.ref xa), .val (.int x6), .val (.int x7), .unset, .unset, .unset, .unset, .unset, .unset, .unset] []) := by
    intro T L x0 x1 x2 x3 x4 x5 x6 x7 xa g_f X I N hF hP
    refine own_st (fun _ => XS.aload X.here hx rfl (hb hby at_302) rfl rfl) ?_
    show own_E p e below Qq T (mkF m 304 #[.val (.long x0), .second, .val (.long x1), .second, .val (.long x2), .second, .val (.int x3), .val (.int x4), .val (.int x5), .val (.ref xa), .val (.int x6), .val (.int x7), .unset, .unset, .unset, .unset, .unset, .unset, .unset] [(.ref xa)])
    refine own_st (fun _ => XS.iload X.here hx rfl (hb hby at_304) rfl) ?_
    show own_E p e below Qq T (mkF m 306 #[.val (.long x0), .second, .val (.long x1), .second, .val (.long x2), .second, .val (.int x3), .val (.int x4), .val (.int x5), .val (.ref xa), .val (.int x6), .val (.int x7), .unset, .unset, .unset, .unset, .unset, .unset, .unset] [(.int x6), (.ref xa)])
    refine own_st (fun _ => XS.iload X.here hx rfl (hb hby at_306) rfl) ?_
    show own_E p e below Qq T (mkF m 308 #[.val (.long x0), .second, .val (.long x1), .second, .val (.long x2), .second, .val (.int x3), .val (.int x4), .val (.int x5), .val (.ref xa), .val (.int x6), .val (.int x7), .unset, .unset, .unset, .unset, .unset, .unset, .unset] [(.int x7), (.int x6), (.ref xa)])
    refine own_callS X hx hZ hown (hw _ (List.mem_of_getElem? (i := 6) rfl)) (hw _ (List.mem_of_getElem? (i := 7) rfl)) (hw _ (List.mem_of_getElem? (i := 8) rfl)) (hw _ (List.mem_of_getElem? (i := 9) rfl)) (by decide) (W := 0) (argsL := [(.ref xa), (.int x6), (.int x7)]) (rest := []) (rm2 l Z a0 hw xa x6 x7 g_f _ n0 I (own_B1 hP)) (by decide) (by decide) (by decide) (by decide) rfl (by rw [hml]; rfl) (lenOf pd_2 rfl) rfl (by show 2 * 0 + _ ≤ _; exact Nat.le_of_eq rfl) (hb hby at_308) ?_
    intro T2 L2 v X' hq
    obtain ⟨rfl, N', I'⟩ := hq
    replace I := I'
    replace N := Fr.app N N'
    replace X : Stand p l e room_1 s m #[(.long p0), (.long p1), (.long p2), (.int p3), (.int p4), (.int p5)] below meth c T2 _ 1 20 := X'
    clear X' N' I'
    show own_E p e below Qq T2 (mkF m 311 #[.val (.long x0), .second, .val (.long x1), .second, .val (.long x2), .second, .val (.int x3), .val (.int x4), .val (.int x5), .val (.ref xa), .val (.int x6), .val (.int x7), .unset, .unset, .unset, .unset, .unset, .unset, .unset] [(.long (F2_0 x6 x7 g_f))])
    exact B311 _ _ x0 x1 x2 x3 x4 x5 x6 x7 (F2_0 x6 x7 g_f) xa g_f X I N hF (by first | exact hP | decide)
  have B282 : ∀ (T : State) (L : List Loc) (x0 : Int64) (x1 : Int64) (x2 : Int64) (x3 : Int32) (x4 : Int32) (x5 : Int32) (xa : Addr) (g_f : (Nat → Int32)), Stand p l e room_1 s m #[(.long p0), (.long p1), (.long p2), (.int p3), (.int p4), (.int p5)] below meth c T L 1 20 → own_I Z n0 T.heap xa g_f → Fr n0 L → w = F0_282 x0 x1 x2 x3 x4 x5 g_f → own_E p e below Qq T (mkF m 282 #[.val (.long x0), .second, .val (.long x1), .second, .val (.long x2), .second, .val (.int x3), .val (.int x4), .val (.int x5), .val (.ref xa), .unset, .unset, .unset, .unset, .unset, .unset, .unset, .unset, .unset] []) := by
    intro T L x0 x1 x2 x3 x4 x5 xa g_f X I N hF
    refine own_st (fun _ => XS.iload X.here hx rfl (hb hby at_282) rfl) ?_
    show own_E p e below Qq T (mkF m 284 #[.val (.long x0), .second, .val (.long x1), .second, .val (.long x2), .second, .val (.int x3), .val (.int x4), .val (.int x5), .val (.ref xa), .unset, .unset, .unset, .unset, .unset, .unset, .unset, .unset, .unset] [(.int x3)])
    refine own_st (fun _ => X.ldcI hx hown (mvT hZ (hw _ (List.mem_of_getElem? (i := 5) rfl))) rfl (hb hby at_284)) ?_
    show own_E p e below Qq T (mkF m 286 #[.val (.long x0), .second, .val (.long x1), .second, .val (.long x2), .second, .val (.int x3), .val (.int x4), .val (.int x5), .val (.ref xa), .unset, .unset, .unset, .unset, .unset, .unset, .unset, .unset, .unset] [(.int (2147483647 : Int32)), (.int x3)])
    refine own_st (fun _ => XS.iand X.here hx rfl (hb hby at_286) rfl) ?_
    show own_E p e below Qq T (mkF m 287 #[.val (.long x0), .second, .val (.long x1), .second, .val (.long x2), .second, .val (.int x3), .val (.int x4), .val (.int x5), .val (.ref xa), .unset, .unset, .unset, .unset, .unset, .unset, .unset, .unset, .unset] [(.int (x3 &&& (2147483647 : Int32)))])
    refine own_st (fun _ => XS.bipush X.here hx rfl (hb hby at_287)) ?_
    show own_E p e below Qq T (mkF m 289 #[.val (.long x0), .second, .val (.long x1), .second, .val (.long x2), .second, .val (.int x3), .val (.int x4), .val (.int x5), .val (.ref xa), .unset, .unset, .unset, .unset, .unset, .unset, .unset, .unset, .unset] [(.int (21 : Int32)), (.int (x3 &&& (2147483647 : Int32)))])
    refine own_st (fun _ => XS.irem X.here hx rfl (hb hby at_289) rfl (by first | exact hP | decide)) ?_
    show own_E p e below Qq T (mkF m 290 #[.val (.long x0), .second, .val (.long x1), .second, .val (.long x2), .second, .val (.int x3), .val (.int x4), .val (.int x5), .val (.ref xa), .unset, .unset, .unset, .unset, .unset, .unset, .unset, .unset, .unset] [(.int ((x3 &&& (2147483647 : Int32)) - ((x3 &&& (2147483647 : Int32)) / (21 : Int32)) * (21 : Int32)))])
    refine own_st (fun _ => XS.istore X.here hx rfl (hb hby at_290) rfl (l' := #[.val (.long x0), .second, .val (.long x1), .second, .val (.long x2), .second, .val (.int x3), .val (.int x4), .val (.int x5), .val (.ref xa), .val (.int ((x3 &&& (2147483647 : Int32)) - ((x3 &&& (2147483647 : Int32)) / (21 : Int32)) * (21 : Int32))), .unset, .unset, .unset, .unset, .unset, .unset, .unset, .unset]) rfl) ?_
    show own_E p e below Qq T (mkF m 292 #[.val (.long x0), .second, .val (.long x1), .second, .val (.long x2), .second, .val (.int x3), .val (.int x4), .val (.int x5), .val (.ref xa), .val (.int ((x3 &&& (2147483647 : Int32)) - ((x3 &&& (2147483647 : Int32)) / (21 : Int32)) * (21 : Int32))), .unset, .unset, .unset, .unset, .unset, .unset, .unset, .unset] [])
    refine own_st (fun _ => XS.iload X.here hx rfl (hb hby at_292) rfl) ?_
    show own_E p e below Qq T (mkF m 294 #[.val (.long x0), .second, .val (.long x1), .second, .val (.long x2), .second, .val (.int x3), .val (.int x4), .val (.int x5), .val (.ref xa), .val (.int ((x3 &&& (2147483647 : Int32)) - ((x3 &&& (2147483647 : Int32)) / (21 : Int32)) * (21 : Int32))), .unset, .unset, .unset, .unset, .unset, .unset, .unset, .unset] [(.int x4)])
    refine own_st (fun _ => X.ldcI hx hown (mvT hZ (hw _ (List.mem_of_getElem? (i := 5) rfl))) rfl (hb hby at_294)) ?_
    show own_E p e below Qq T (mkF m 296 #[.val (.long x0), .second, .val (.long x1), .second, .val (.long x2), .second, .val (.int x3), .val (.int x4), .val (.int x5), .val (.ref xa), .val (.int ((x3 &&& (2147483647 : Int32)) - ((x3 &&& (2147483647 : Int32)) / (21 : Int32)) * (21 : Int32))), .unset, .unset, .unset, .unset, .unset, .unset, .unset, .unset] [(.int (2147483647 : Int32)), (.int x4)])
    refine own_st (fun _ => XS.iand X.here hx rfl (hb hby at_296) rfl) ?_
    show own_E p e below Qq T (mkF m 297 #[.val (.long x0), .second, .val (.long x1), .second, .val (.long x2), .second, .val (.int x3), .val (.int x4), .val (.int x5), .val (.ref xa), .val (.int ((x3 &&& (2147483647 : Int32)) - ((x3 &&& (2147483647 : Int32)) / (21 : Int32)) * (21 : Int32))), .unset, .unset, .unset, .unset, .unset, .unset, .unset, .unset] [(.int (x4 &&& (2147483647 : Int32)))])
    refine own_st (fun _ => XS.bipush X.here hx rfl (hb hby at_297)) ?_
    show own_E p e below Qq T (mkF m 299 #[.val (.long x0), .second, .val (.long x1), .second, .val (.long x2), .second, .val (.int x3), .val (.int x4), .val (.int x5), .val (.ref xa), .val (.int ((x3 &&& (2147483647 : Int32)) - ((x3 &&& (2147483647 : Int32)) / (21 : Int32)) * (21 : Int32))), .unset, .unset, .unset, .unset, .unset, .unset, .unset, .unset] [(.int (21 : Int32)), (.int (x4 &&& (2147483647 : Int32)))])
    refine own_st (fun _ => XS.irem X.here hx rfl (hb hby at_299) rfl (by first | exact hP | decide)) ?_
    show own_E p e below Qq T (mkF m 300 #[.val (.long x0), .second, .val (.long x1), .second, .val (.long x2), .second, .val (.int x3), .val (.int x4), .val (.int x5), .val (.ref xa), .val (.int ((x3 &&& (2147483647 : Int32)) - ((x3 &&& (2147483647 : Int32)) / (21 : Int32)) * (21 : Int32))), .unset, .unset, .unset, .unset, .unset, .unset, .unset, .unset] [(.int ((x4 &&& (2147483647 : Int32)) - ((x4 &&& (2147483647 : Int32)) / (21 : Int32)) * (21 : Int32)))])
    refine own_st (fun _ => XS.istore X.here hx rfl (hb hby at_300) rfl (l' := #[.val (.long x0), .second, .val (.long x1), .second, .val (.long x2), .second, .val (.int x3), .val (.int x4), .val (.int x5), .val (.ref xa), .val (.int ((x3 &&& (2147483647 : Int32)) - ((x3 &&& (2147483647 : Int32)) / (21 : Int32)) * (21 : Int32))), .val (.int ((x4 &&& (2147483647 : Int32)) - ((x4 &&& (2147483647 : Int32)) / (21 : Int32)) * (21 : Int32))), .unset, .unset, .unset, .unset, .unset, .unset, .unset]) rfl) ?_
    show own_E p e below Qq T (mkF m 302 #[.val (.long x0), .second, .val (.long x1), .second, .val (.long x2), .second, .val (.int x3), .val (.int x4), .val (.int x5), .val (.ref xa), .val (.int ((x3 &&& (2147483647 : Int32)) - ((x3 &&& (2147483647 : Int32)) / (21 : Int32)) * (21 : Int32))), .val (.int ((x4 &&& (2147483647 : Int32)) - ((x4 &&& (2147483647 : Int32)) / (21 : Int32)) * (21 : Int32))), .unset, .unset, .unset, .unset, .unset, .unset, .unset] [])
    exact B302 _ _ x0 x1 x2 x3 x4 x5 ((x3 &&& (2147483647 : Int32)) - ((x3 &&& (2147483647 : Int32)) / (21 : Int32)) * (21 : Int32)) ((x4 &&& (2147483647 : Int32)) - ((x4 &&& (2147483647 : Int32)) / (21 : Int32)) * (21 : Int32)) xa g_f X I N hF (own_B0 _ _)
  have B267 : ∀ (T : State) (L : List Loc) (x0 : Int64) (x1 : Int64) (x2 : Int64) (x3 : Int32) (x4 : Int32) (x5 : Int32) (xa : Addr) (g_f : (Nat → Int32)), Stand p l e room_1 s m #[(.long p0), (.long p1), (.long p2), (.int p3), (.int p4), (.int p5)] below meth c T L 1 20 → own_I Z n0 T.heap xa g_f → Fr n0 L → w = F0_267 x0 x1 x2 x3 x4 x5 g_f → own_E p e below Qq T (mkF m 267 #[.val (.long x0), .second, .val (.long x1), .second, .val (.long x2), .second, .val (.int x3), .val (.int x4), .val (.int x5), .val (.ref xa), .unset, .unset, .unset, .unset, .unset, .unset, .unset, .unset, .unset] []) := by
    intro T L x0 x1 x2 x3 x4 x5 xa g_f X I N hF
    refine own_st (fun _ => XS.aload X.here hx rfl (hb hby at_267) rfl rfl) ?_
    show own_E p e below Qq T (mkF m 269 #[.val (.long x0), .second, .val (.long x1), .second, .val (.long x2), .second, .val (.int x3), .val (.int x4), .val (.int x5), .val (.ref xa), .unset, .unset, .unset, .unset, .unset, .unset, .unset, .unset, .unset] [(.ref xa)])
    refine own_st (fun _ => XS.bipush X.here hx rfl (hb hby at_269)) ?_
    show own_E p e below Qq T (mkF m 271 #[.val (.long x0), .second, .val (.long x1), .second, .val (.long x2), .second, .val (.int x3), .val (.int x4), .val (.int x5), .val (.ref xa), .unset, .unset, .unset, .unset, .unset, .unset, .unset, .unset, .unset] [(.int (19 : Int32)), (.ref xa)])
    refine own_st (fun _ => XT.lload X.here hx rfl (hb hby at_271) rfl) ?_
    show own_E p e below Qq T (mkF m 273 #[.val (.long x0), .second, .val (.long x1), .second, .val (.long x2), .second, .val (.int x3), .val (.int x4), .val (.int x5), .val (.ref xa), .unset, .unset, .unset, .unset, .unset, .unset, .unset, .unset, .unset] [(.long x2), (.int (19 : Int32)), (.ref xa)])
    refine own_st (fun _ => XS.iconst X.here hx rfl (hb hby at_273)) ?_
    show own_E p e below Qq T (mkF m 274 #[.val (.long x0), .second, .val (.long x1), .second, .val (.long x2), .second, .val (.int x3), .val (.int x4), .val (.int x5), .val (.ref xa), .unset, .unset, .unset, .unset, .unset, .unset, .unset, .unset, .unset] [(.int (3 : Int32)), (.long x2), (.int (19 : Int32)), (.ref xa)])
    refine own_st (fun _ => XS.bipush X.here hx rfl (hb hby at_274)) ?_
    show own_E p e below Qq T (mkF m 276 #[.val (.long x0), .second, .val (.long x1), .second, .val (.long x2), .second, .val (.int x3), .val (.int x4), .val (.int x5), .val (.ref xa), .unset, .unset, .unset, .unset, .unset, .unset, .unset, .unset, .unset] [(.int (19 : Int32)), (.int (3 : Int32)), (.long x2), (.int (19 : Int32)), (.ref xa)])
    refine own_st (fun _ => XS.iload X.here hx rfl (hb hby at_276) rfl) ?_
    show own_E p e below Qq T (mkF m 278 #[.val (.long x0), .second, .val (.long x1), .second, .val (.long x2), .second, .val (.int x3), .val (.int x4), .val (.int x5), .val (.ref xa), .unset, .unset, .unset, .unset, .unset, .unset, .unset, .unset, .unset] [(.int x5), (.int (19 : Int32)), (.int (3 : Int32)), (.long x2), (.int (19 : Int32)), (.ref xa)])
    refine own_callS X hx hZ hown (hw _ (List.mem_of_getElem? (i := 1) rfl)) (hw _ (List.mem_of_getElem? (i := 2) rfl)) (hw _ (List.mem_of_getElem? (i := 3) rfl)) (hw _ (List.mem_of_getElem? (i := 4) rfl)) (by decide) (W := 2) (argsL := [(.long x2), (.int (3 : Int32)), (.int (19 : Int32)), (.int x5)]) (rest := [(.int (19 : Int32)), (.ref xa)]) (rm1 l Z a0 hw x2 (3 : Int32) (19 : Int32) x5 _ n0) (by decide) (by decide) (by decide) (by decide) rfl (by rw [hml]; rfl) (lenOf pd_1 rfl) rfl (by show 2 * 0 + _ ≤ _; exact Nat.le_of_eq rfl) (hb hby at_278) ?_
    intro T3 L3 v X' hq
    obtain ⟨rfl, N', e'⟩ := hq
    replace I := own_tr (P := fun h => own_I Z n0 h xa g_f) e' I
    replace N := Fr.app N N'
    replace X : Stand p l e room_1 s m #[(.long p0), (.long p1), (.long p2), (.int p3), (.int p4), (.int p5)] below meth c T3 _ 1 20 := X'
    clear X' N' e'
    show own_E p e below Qq T3 (mkF m 281 #[.val (.long x0), .second, .val (.long x1), .second, .val (.long x2), .second, .val (.int x3), .val (.int x4), .val (.int x5), .val (.ref xa), .unset, .unset, .unset, .unset, .unset, .unset, .unset, .unset, .unset] [(.int (F1_0 x2 (3 : Int32) (19 : Int32) x5)), (.int (19 : Int32)), (.ref xa)])
    obtain ⟨T4, X4, I4, st4⟩ := own_bastore X hx hZ I (j := (19 : Int32)) (i := 19) rfl (by decide) (by decide) (g := (mkF m 281 #[.val (.long x0), .second, .val (.long x1), .second, .val (.long x2), .second, .val (.int x3), .val (.int x4), .val (.int x5), .val (.ref xa), .unset, .unset, .unset, .unset, .unset, .unset, .unset, .unset, .unset] [(.int (F1_0 x2 (3 : Int32) (19 : Int32) x5)), (.int (19 : Int32)), (.ref xa)])) rfl rfl (hb hby at_281)
    refine own_st st4 ?_
    replace N := Fr.snoc X4 N (own_Ina I)
    replace X := X4
    replace I := I4
    clear st4 X4 I4
    show own_E p e below Qq T4 (mkF m 282 #[.val (.long x0), .second, .val (.long x1), .second, .val (.long x2), .second, .val (.int x3), .val (.int x4), .val (.int x5), .val (.ref xa), .unset, .unset, .unset, .unset, .unset, .unset, .unset, .unset, .unset] [])
    exact B282 _ _ x0 x1 x2 x3 x4 x5 xa (own_upd g_f 19 (nar .byte (F1_0 x2 (3 : Int32) (19 : Int32) x5))) X I N hF
  have B252 : ∀ (T : State) (L : List Loc) (x0 : Int64) (x1 : Int64) (x2 : Int64) (x3 : Int32) (x4 : Int32) (x5 : Int32) (xa : Addr) (g_f : (Nat → Int32)), Stand p l e room_1 s m #[(.long p0), (.long p1), (.long p2), (.int p3), (.int p4), (.int p5)] below meth c T L 1 20 → own_I Z n0 T.heap xa g_f → Fr n0 L → w = F0_252 x0 x1 x2 x3 x4 x5 g_f → own_E p e below Qq T (mkF m 252 #[.val (.long x0), .second, .val (.long x1), .second, .val (.long x2), .second, .val (.int x3), .val (.int x4), .val (.int x5), .val (.ref xa), .unset, .unset, .unset, .unset, .unset, .unset, .unset, .unset, .unset] []) := by
    intro T L x0 x1 x2 x3 x4 x5 xa g_f X I N hF
    refine own_st (fun _ => XS.aload X.here hx rfl (hb hby at_252) rfl rfl) ?_
    show own_E p e below Qq T (mkF m 254 #[.val (.long x0), .second, .val (.long x1), .second, .val (.long x2), .second, .val (.int x3), .val (.int x4), .val (.int x5), .val (.ref xa), .unset, .unset, .unset, .unset, .unset, .unset, .unset, .unset, .unset] [(.ref xa)])
    refine own_st (fun _ => XS.bipush X.here hx rfl (hb hby at_254)) ?_
    show own_E p e below Qq T (mkF m 256 #[.val (.long x0), .second, .val (.long x1), .second, .val (.long x2), .second, .val (.int x3), .val (.int x4), .val (.int x5), .val (.ref xa), .unset, .unset, .unset, .unset, .unset, .unset, .unset, .unset, .unset] [(.int (18 : Int32)), (.ref xa)])
    refine own_st (fun _ => XT.lload X.here hx rfl (hb hby at_256) rfl) ?_
    show own_E p e below Qq T (mkF m 258 #[.val (.long x0), .second, .val (.long x1), .second, .val (.long x2), .second, .val (.int x3), .val (.int x4), .val (.int x5), .val (.ref xa), .unset, .unset, .unset, .unset, .unset, .unset, .unset, .unset, .unset] [(.long x2), (.int (18 : Int32)), (.ref xa)])
    refine own_st (fun _ => XS.iconst X.here hx rfl (hb hby at_258)) ?_
    show own_E p e below Qq T (mkF m 259 #[.val (.long x0), .second, .val (.long x1), .second, .val (.long x2), .second, .val (.int x3), .val (.int x4), .val (.int x5), .val (.ref xa), .unset, .unset, .unset, .unset, .unset, .unset, .unset, .unset, .unset] [(.int (2 : Int32)), (.long x2), (.int (18 : Int32)), (.ref xa)])
    refine own_st (fun _ => XS.bipush X.here hx rfl (hb hby at_259)) ?_
    show own_E p e below Qq T (mkF m 261 #[.val (.long x0), .second, .val (.long x1), .second, .val (.long x2), .second, .val (.int x3), .val (.int x4), .val (.int x5), .val (.ref xa), .unset, .unset, .unset, .unset, .unset, .unset, .unset, .unset, .unset] [(.int (18 : Int32)), (.int (2 : Int32)), (.long x2), (.int (18 : Int32)), (.ref xa)])
    refine own_st (fun _ => XS.iload X.here hx rfl (hb hby at_261) rfl) ?_
    show own_E p e below Qq T (mkF m 263 #[.val (.long x0), .second, .val (.long x1), .second, .val (.long x2), .second, .val (.int x3), .val (.int x4), .val (.int x5), .val (.ref xa), .unset, .unset, .unset, .unset, .unset, .unset, .unset, .unset, .unset] [(.int x5), (.int (18 : Int32)), (.int (2 : Int32)), (.long x2), (.int (18 : Int32)), (.ref xa)])
    refine own_callS X hx hZ hown (hw _ (List.mem_of_getElem? (i := 1) rfl)) (hw _ (List.mem_of_getElem? (i := 2) rfl)) (hw _ (List.mem_of_getElem? (i := 3) rfl)) (hw _ (List.mem_of_getElem? (i := 4) rfl)) (by decide) (W := 2) (argsL := [(.long x2), (.int (2 : Int32)), (.int (18 : Int32)), (.int x5)]) (rest := [(.int (18 : Int32)), (.ref xa)]) (rm1 l Z a0 hw x2 (2 : Int32) (18 : Int32) x5 _ n0) (by decide) (by decide) (by decide) (by decide) rfl (by rw [hml]; rfl) (lenOf pd_1 rfl) rfl (by show 2 * 0 + _ ≤ _; exact Nat.le_of_eq rfl) (hb hby at_263) ?_
    intro T5 L5 v X' hq
    obtain ⟨rfl, N', e'⟩ := hq
    replace I := own_tr (P := fun h => own_I Z n0 h xa g_f) e' I
    replace N := Fr.app N N'
    replace X : Stand p l e room_1 s m #[(.long p0), (.long p1), (.long p2), (.int p3), (.int p4), (.int p5)] below meth c T5 _ 1 20 := X'
    clear X' N' e'
    show own_E p e below Qq T5 (mkF m 266 #[.val (.long x0), .second, .val (.long x1), .second, .val (.long x2), .second, .val (.int x3), .val (.int x4), .val (.int x5), .val (.ref xa), .unset, .unset, .unset, .unset, .unset, .unset, .unset, .unset, .unset] [(.int (F1_0 x2 (2 : Int32) (18 : Int32) x5)), (.int (18 : Int32)), (.ref xa)])
    obtain ⟨T6, X6, I6, st6⟩ := own_bastore X hx hZ I (j := (18 : Int32)) (i := 18) rfl (by decide) (by decide) (g := (mkF m 266 #[.val (.long x0), .second, .val (.long x1), .second, .val (.long x2), .second, .val (.int x3), .val (.int x4), .val (.int x5), .val (.ref xa), .unset, .unset, .unset, .unset, .unset, .unset, .unset, .unset, .unset] [(.int (F1_0 x2 (2 : Int32) (18 : Int32) x5)), (.int (18 : Int32)), (.ref xa)])) rfl rfl (hb hby at_266)
    refine own_st st6 ?_
    replace N := Fr.snoc X6 N (own_Ina I)
    replace X := X6
    replace I := I6
    clear st6 X6 I6
    show own_E p e below Qq T6 (mkF m 267 #[.val (.long x0), .second, .val (.long x1), .second, .val (.long x2), .second, .val (.int x3), .val (.int x4), .val (.int x5), .val (.ref xa), .unset, .unset, .unset, .unset, .unset, .unset, .unset, .unset, .unset] [])
    exact B267 _ _ x0 x1 x2 x3 x4 x5 xa (own_upd g_f 18 (nar .byte (F1_0 x2 (2 : Int32) (18 : Int32) x5))) X I N hF
  have B237 : ∀ (T : State) (L : List Loc) (x0 : Int64) (x1 : Int64) (x2 : Int64) (x3 : Int32) (x4 : Int32) (x5 : Int32) (xa : Addr) (g_f : (Nat → Int32)), Stand p l e room_1 s m #[(.long p0), (.long p1), (.long p2), (.int p3), (.int p4), (.int p5)] below meth c T L 1 20 → own_I Z n0 T.heap xa g_f → Fr n0 L → w = F0_237 x0 x1 x2 x3 x4 x5 g_f → own_E p e below Qq T (mkF m 237 #[.val (.long x0), .second, .val (.long x1), .second, .val (.long x2), .second, .val (.int x3), .val (.int x4), .val (.int x5), .val (.ref xa), .unset, .unset, .unset, .unset, .unset, .unset, .unset, .unset, .unset] []) := by
    intro T L x0 x1 x2 x3 x4 x5 xa g_f X I N hF
    refine own_st (fun _ => XS.aload X.here hx rfl (hb hby at_237) rfl rfl) ?_
    show own_E p e below Qq T (mkF m 239 #[.val (.long x0), .second, .val (.long x1), .second, .val (.long x2), .second, .val (.int x3), .val (.int x4), .val (.int x5), .val (.ref xa), .unset, .unset, .unset, .unset, .unset, .unset, .unset, .unset, .unset] [(.ref xa)])
    refine own_st (fun _ => XS.bipush X.here hx rfl (hb hby at_239)) ?_
    show own_E p e below Qq T (mkF m 241 #[.val (.long x0), .second, .val (.long x1), .second, .val (.long x2), .second, .val (.int x3), .val (.int x4), .val (.int x5), .val (.ref xa), .unset, .unset, .unset, .unset, .unset, .unset, .unset, .unset, .unset] [(.int (17 : Int32)), (.ref xa)])
    refine own_st (fun _ => XT.lload X.here hx rfl (hb hby at_241) rfl) ?_
    show own_E p e below Qq T (mkF m 243 #[.val (.long x0), .second, .val (.long x1), .second, .val (.long x2), .second, .val (.int x3), .val (.int x4), .val (.int x5), .val (.ref xa), .unset, .unset, .unset, .unset, .unset, .unset, .unset, .unset, .unset] [(.long x2), (.int (17 : Int32)), (.ref xa)])
    refine own_st (fun _ => XS.iconst X.here hx rfl (hb hby at_243)) ?_
    show own_E p e below Qq T (mkF m 244 #[.val (.long x0), .second, .val (.long x1), .second, .val (.long x2), .second, .val (.int x3), .val (.int x4), .val (.int x5), .val (.ref xa), .unset, .unset, .unset, .unset, .unset, .unset, .unset, .unset, .unset] [(.int (1 : Int32)), (.long x2), (.int (17 : Int32)), (.ref xa)])
    refine own_st (fun _ => XS.bipush X.here hx rfl (hb hby at_244)) ?_
    show own_E p e below Qq T (mkF m 246 #[.val (.long x0), .second, .val (.long x1), .second, .val (.long x2), .second, .val (.int x3), .val (.int x4), .val (.int x5), .val (.ref xa), .unset, .unset, .unset, .unset, .unset, .unset, .unset, .unset, .unset] [(.int (17 : Int32)), (.int (1 : Int32)), (.long x2), (.int (17 : Int32)), (.ref xa)])
    refine own_st (fun _ => XS.iload X.here hx rfl (hb hby at_246) rfl) ?_
    show own_E p e below Qq T (mkF m 248 #[.val (.long x0), .second, .val (.long x1), .second, .val (.long x2), .second, .val (.int x3), .val (.int x4), .val (.int x5), .val (.ref xa), .unset, .unset, .unset, .unset, .unset, .unset, .unset, .unset, .unset] [(.int x5), (.int (17 : Int32)), (.int (1 : Int32)), (.long x2), (.int (17 : Int32)), (.ref xa)])
    refine own_callS X hx hZ hown (hw _ (List.mem_of_getElem? (i := 1) rfl)) (hw _ (List.mem_of_getElem? (i := 2) rfl)) (hw _ (List.mem_of_getElem? (i := 3) rfl)) (hw _ (List.mem_of_getElem? (i := 4) rfl)) (by decide) (W := 2) (argsL := [(.long x2), (.int (1 : Int32)), (.int (17 : Int32)), (.int x5)]) (rest := [(.int (17 : Int32)), (.ref xa)]) (rm1 l Z a0 hw x2 (1 : Int32) (17 : Int32) x5 _ n0) (by decide) (by decide) (by decide) (by decide) rfl (by rw [hml]; rfl) (lenOf pd_1 rfl) rfl (by show 2 * 0 + _ ≤ _; exact Nat.le_of_eq rfl) (hb hby at_248) ?_
    intro T7 L7 v X' hq
    obtain ⟨rfl, N', e'⟩ := hq
    replace I := own_tr (P := fun h => own_I Z n0 h xa g_f) e' I
    replace N := Fr.app N N'
    replace X : Stand p l e room_1 s m #[(.long p0), (.long p1), (.long p2), (.int p3), (.int p4), (.int p5)] below meth c T7 _ 1 20 := X'
    clear X' N' e'
    show own_E p e below Qq T7 (mkF m 251 #[.val (.long x0), .second, .val (.long x1), .second, .val (.long x2), .second, .val (.int x3), .val (.int x4), .val (.int x5), .val (.ref xa), .unset, .unset, .unset, .unset, .unset, .unset, .unset, .unset, .unset] [(.int (F1_0 x2 (1 : Int32) (17 : Int32) x5)), (.int (17 : Int32)), (.ref xa)])
    obtain ⟨T8, X8, I8, st8⟩ := own_bastore X hx hZ I (j := (17 : Int32)) (i := 17) rfl (by decide) (by decide) (g := (mkF m 251 #[.val (.long x0), .second, .val (.long x1), .second, .val (.long x2), .second, .val (.int x3), .val (.int x4), .val (.int x5), .val (.ref xa), .unset, .unset, .unset, .unset, .unset, .unset, .unset, .unset, .unset] [(.int (F1_0 x2 (1 : Int32) (17 : Int32) x5)), (.int (17 : Int32)), (.ref xa)])) rfl rfl (hb hby at_251)
    refine own_st st8 ?_
    replace N := Fr.snoc X8 N (own_Ina I)
    replace X := X8
    replace I := I8
    clear st8 X8 I8
    show own_E p e below Qq T8 (mkF m 252 #[.val (.long x0), .second, .val (.long x1), .second, .val (.long x2), .second, .val (.int x3), .val (.int x4), .val (.int x5), .val (.ref xa), .unset, .unset, .unset, .unset, .unset, .unset, .unset, .unset, .unset] [])
    exact B252 _ _ x0 x1 x2 x3 x4 x5 xa (own_upd g_f 17 (nar .byte (F1_0 x2 (1 : Int32) (17 : Int32) x5))) X I N hF
  have B222 : ∀ (T : State) (L : List Loc) (x0 : Int64) (x1 : Int64) (x2 : Int64) (x3 : Int32) (x4 : Int32) (x5 : Int32) (xa : Addr) (g_f : (Nat → Int32)), Stand p l e room_1 s m #[(.long p0), (.long p1), (.long p2), (.int p3), (.int p4), (.int p5)] below meth c T L 1 20 → own_I Z n0 T.heap xa g_f → Fr n0 L → w = F0_222 x0 x1 x2 x3 x4 x5 g_f → own_E p e below Qq T (mkF m 222 #[.val (.long x0), .second, .val (.long x1), .second, .val (.long x2), .second, .val (.int x3), .val (.int x4), .val (.int x5), .val (.ref xa), .unset, .unset, .unset, .unset, .unset, .unset, .unset, .unset, .unset] []) := by
    intro T L x0 x1 x2 x3 x4 x5 xa g_f X I N hF
    refine own_st (fun _ => XS.aload X.here hx rfl (hb hby at_222) rfl rfl) ?_
    show own_E p e below Qq T (mkF m 224 #[.val (.long x0), .second, .val (.long x1), .second, .val (.long x2), .second, .val (.int x3), .val (.int x4), .val (.int x5), .val (.ref xa), .unset, .unset, .unset, .unset, .unset, .unset, .unset, .unset, .unset] [(.ref xa)])
    refine own_st (fun _ => XS.bipush X.here hx rfl (hb hby at_224)) ?_
    show own_E p e below Qq T (mkF m 226 #[.val (.long x0), .second, .val (.long x1), .second, .val (.long x2), .second, .val (.int x3), .val (.int x4), .val (.int x5), .val (.ref xa), .unset, .unset, .unset, .unset, .unset, .unset, .unset, .unset, .unset] [(.int (16 : Int32)), (.ref xa)])
    refine own_st (fun _ => XT.lload X.here hx rfl (hb hby at_226) rfl) ?_
    show own_E p e below Qq T (mkF m 228 #[.val (.long x0), .second, .val (.long x1), .second, .val (.long x2), .second, .val (.int x3), .val (.int x4), .val (.int x5), .val (.ref xa), .unset, .unset, .unset, .unset, .unset, .unset, .unset, .unset, .unset] [(.long x2), (.int (16 : Int32)), (.ref xa)])
    refine own_st (fun _ => XS.iconst X.here hx rfl (hb hby at_228)) ?_
    show own_E p e below Qq T (mkF m 229 #[.val (.long x0), .second, .val (.long x1), .second, .val (.long x2), .second, .val (.int x3), .val (.int x4), .val (.int x5), .val (.ref xa), .unset, .unset, .unset, .unset, .unset, .unset, .unset, .unset, .unset] [(.int (0 : Int32)), (.long x2), (.int (16 : Int32)), (.ref xa)])
    refine own_st (fun _ => XS.bipush X.here hx rfl (hb hby at_229)) ?_
    show own_E p e below Qq T (mkF m 231 #[.val (.long x0), .second, .val (.long x1), .second, .val (.long x2), .second, .val (.int x3), .val (.int x4), .val (.int x5), .val (.ref xa), .unset, .unset, .unset, .unset, .unset, .unset, .unset, .unset, .unset] [(.int (16 : Int32)), (.int (0 : Int32)), (.long x2), (.int (16 : Int32)), (.ref xa)])
    refine own_st (fun _ => XS.iload X.here hx rfl (hb hby at_231) rfl) ?_
    show own_E p e below Qq T (mkF m 233 #[.val (.long x0), .second, .val (.long x1), .second, .val (.long x2), .second, .val (.int x3), .val (.int x4), .val (.int x5), .val (.ref xa), .unset, .unset, .unset, .unset, .unset, .unset, .unset, .unset, .unset] [(.int x5), (.int (16 : Int32)), (.int (0 : Int32)), (.long x2), (.int (16 : Int32)), (.ref xa)])
    refine own_callS X hx hZ hown (hw _ (List.mem_of_getElem? (i := 1) rfl)) (hw _ (List.mem_of_getElem? (i := 2) rfl)) (hw _ (List.mem_of_getElem? (i := 3) rfl)) (hw _ (List.mem_of_getElem? (i := 4) rfl)) (by decide) (W := 2) (argsL := [(.long x2), (.int (0 : Int32)), (.int (16 : Int32)), (.int x5)]) (rest := [(.int (16 : Int32)), (.ref xa)]) (rm1 l Z a0 hw x2 (0 : Int32) (16 : Int32) x5 _ n0) (by decide) (by decide) (by decide) (by decide) rfl (by rw [hml]; rfl) (lenOf pd_1 rfl) rfl (by show 2 * 0 + _ ≤ _; exact Nat.le_of_eq rfl) (hb hby at_233) ?_
    intro T9 L9 v X' hq
    obtain ⟨rfl, N', e'⟩ := hq
    replace I := own_tr (P := fun h => own_I Z n0 h xa g_f) e' I
    replace N := Fr.app N N'
    replace X : Stand p l e room_1 s m #[(.long p0), (.long p1), (.long p2), (.int p3), (.int p4), (.int p5)] below meth c T9 _ 1 20 := X'
    clear X' N' e'
    show own_E p e below Qq T9 (mkF m 236 #[.val (.long x0), .second, .val (.long x1), .second, .val (.long x2), .second, .val (.int x3), .val (.int x4), .val (.int x5), .val (.ref xa), .unset, .unset, .unset, .unset, .unset, .unset, .unset, .unset, .unset] [(.int (F1_0 x2 (0 : Int32) (16 : Int32) x5)), (.int (16 : Int32)), (.ref xa)])
    obtain ⟨T10, X10, I10, st10⟩ := own_bastore X hx hZ I (j := (16 : Int32)) (i := 16) rfl (by decide) (by decide) (g := (mkF m 236 #[.val (.long x0), .second, .val (.long x1), .second, .val (.long x2), .second, .val (.int x3), .val (.int x4), .val (.int x5), .val (.ref xa), .unset, .unset, .unset, .unset, .unset, .unset, .unset, .unset, .unset] [(.int (F1_0 x2 (0 : Int32) (16 : Int32) x5)), (.int (16 : Int32)), (.ref xa)])) rfl rfl (hb hby at_236)
    refine own_st st10 ?_
    replace N := Fr.snoc X10 N (own_Ina I)
    replace X := X10
    replace I := I10
    clear st10 X10 I10
    show own_E p e below Qq T10 (mkF m 237 #[.val (.long x0), .second, .val (.long x1), .second, .val (.long x2), .second, .val (.int x3), .val (.int x4), .val (.int x5), .val (.ref xa), .unset, .unset, .unset, .unset, .unset, .unset, .unset, .unset, .unset] [])
    exact B237 _ _ x0 x1 x2 x3 x4 x5 xa (own_upd g_f 16 (nar .byte (F1_0 x2 (0 : Int32) (16 : Int32) x5))) X I N hF
  have B207 : ∀ (T : State) (L : List Loc) (x0 : Int64) (x1 : Int64) (x2 : Int64) (x3 : Int32) (x4 : Int32) (x5 : Int32) (xa : Addr) (g_f : (Nat → Int32)), Stand p l e room_1 s m #[(.long p0), (.long p1), (.long p2), (.int p3), (.int p4), (.int p5)] below meth c T L 1 20 → own_I Z n0 T.heap xa g_f → Fr n0 L → w = F0_207 x0 x1 x2 x3 x4 x5 g_f → own_E p e below Qq T (mkF m 207 #[.val (.long x0), .second, .val (.long x1), .second, .val (.long x2), .second, .val (.int x3), .val (.int x4), .val (.int x5), .val (.ref xa), .unset, .unset, .unset, .unset, .unset, .unset, .unset, .unset, .unset] []) := by
    intro T L x0 x1 x2 x3 x4 x5 xa g_f X I N hF
    refine own_st (fun _ => XS.aload X.here hx rfl (hb hby at_207) rfl rfl) ?_
    show own_E p e below Qq T (mkF m 209 #[.val (.long x0), .second, .val (.long x1), .second, .val (.long x2), .second, .val (.int x3), .val (.int x4), .val (.int x5), .val (.ref xa), .unset, .unset, .unset, .unset, .unset, .unset, .unset, .unset, .unset] [(.ref xa)])
    refine own_st (fun _ => XS.bipush X.here hx rfl (hb hby at_209)) ?_
    show own_E p e below Qq T (mkF m 211 #[.val (.long x0), .second, .val (.long x1), .second, .val (.long x2), .second, .val (.int x3), .val (.int x4), .val (.int x5), .val (.ref xa), .unset, .unset, .unset, .unset, .unset, .unset, .unset, .unset, .unset] [(.int (15 : Int32)), (.ref xa)])
    refine own_st (fun _ => XT.lloadN X.here hx rfl (hb hby at_211) rfl) ?_
    show own_E p e below Qq T (mkF m 212 #[.val (.long x0), .second, .val (.long x1), .second, .val (.long x2), .second, .val (.int x3), .val (.int x4), .val (.int x5), .val (.ref xa), .unset, .unset, .unset, .unset, .unset, .unset, .unset, .unset, .unset] [(.long x1), (.int (15 : Int32)), (.ref xa)])
    refine own_st (fun _ => XS.bipush X.here hx rfl (hb hby at_212)) ?_
    show own_E p e below Qq T (mkF m 214 #[.val (.long x0), .second, .val (.long x1), .second, .val (.long x2), .second, .val (.int x3), .val (.int x4), .val (.int x5), .val (.ref xa), .unset, .unset, .unset, .unset, .unset, .unset, .unset, .unset, .unset] [(.int (7 : Int32)), (.long x1), (.int (15 : Int32)), (.ref xa)])
    refine own_st (fun _ => XS.bipush X.here hx rfl (hb hby at_214)) ?_
    show own_E p e below Qq T (mkF m 216 #[.val (.long x0), .second, .val (.long x1), .second, .val (.long x2), .second, .val (.int x3), .val (.int x4), .val (.int x5), .val (.ref xa), .unset, .unset, .unset, .unset, .unset, .unset, .unset, .unset, .unset] [(.int (15 : Int32)), (.int (7 : Int32)), (.long x1), (.int (15 : Int32)), (.ref xa)])
    refine own_st (fun _ => XS.iload X.here hx rfl (hb hby at_216) rfl) ?_
    show own_E p e below Qq T (mkF m 218 #[.val (.long x0), .second, .val (.long x1), .second, .val (.long x2), .second, .val (.int x3), .val (.int x4), .val (.int x5), .val (.ref xa), .unset, .unset, .unset, .unset, .unset, .unset, .unset, .unset, .unset] [(.int x5), (.int (15 : Int32)), (.int (7 : Int32)), (.long x1), (.int (15 : Int32)), (.ref xa)])
    refine own_callS X hx hZ hown (hw _ (List.mem_of_getElem? (i := 1) rfl)) (hw _ (List.mem_of_getElem? (i := 2) rfl)) (hw _ (List.mem_of_getElem? (i := 3) rfl)) (hw _ (List.mem_of_getElem? (i := 4) rfl)) (by decide) (W := 2) (argsL := [(.long x1), (.int (7 : Int32)), (.int (15 : Int32)), (.int x5)]) (rest := [(.int (15 : Int32)), (.ref xa)]) (rm1 l Z a0 hw x1 (7 : Int32) (15 : Int32) x5 _ n0) (by decide) (by decide) (by decide) (by decide) rfl (by rw [hml]; rfl) (lenOf pd_1 rfl) rfl (by show 2 * 0 + _ ≤ _; exact Nat.le_of_eq rfl) (hb hby at_218) ?_
    intro T11 L11 v X' hq
    obtain ⟨rfl, N', e'⟩ := hq
    replace I := own_tr (P := fun h => own_I Z n0 h xa g_f) e' I
    replace N := Fr.app N N'
    replace X : Stand p l e room_1 s m #[(.long p0), (.long p1), (.long p2), (.int p3), (.int p4), (.int p5)] below meth c T11 _ 1 20 := X'
    clear X' N' e'
    show own_E p e below Qq T11 (mkF m 221 #[.val (.long x0), .second, .val (.long x1), .second, .val (.long x2), .second, .val (.int x3), .val (.int x4), .val (.int x5), .val (.ref xa), .unset, .unset, .unset, .unset, .unset, .unset, .unset, .unset, .unset] [(.int (F1_0 x1 (7 : Int32) (15 : Int32) x5)), (.int (15 : Int32)), (.ref xa)])
    obtain ⟨T12, X12, I12, st12⟩ := own_bastore X hx hZ I (j := (15 : Int32)) (i := 15) rfl (by decide) (by decide) (g := (mkF m 221 #[.val (.long x0), .second, .val (.long x1), .second, .val (.long x2), .second, .val (.int x3), .val (.int x4), .val (.int x5), .val (.ref xa), .unset, .unset, .unset, .unset, .unset, .unset, .unset, .unset, .unset] [(.int (F1_0 x1 (7 : Int32) (15 : Int32) x5)), (.int (15 : Int32)), (.ref xa)])) rfl rfl (hb hby at_221)
    refine own_st st12 ?_
    replace N := Fr.snoc X12 N (own_Ina I)
    replace X := X12
    replace I := I12
    clear st12 X12 I12
    show own_E p e below Qq T12 (mkF m 222 #[.val (.long x0), .second, .val (.long x1), .second, .val (.long x2), .second, .val (.int x3), .val (.int x4), .val (.int x5), .val (.ref xa), .unset, .unset, .unset, .unset, .unset, .unset, .unset, .unset, .unset] [])
    exact B222 _ _ x0 x1 x2 x3 x4 x5 xa (own_upd g_f 15 (nar .byte (F1_0 x1 (7 : Int32) (15 : Int32) x5))) X I N hF
  have B192 : ∀ (T : State) (L : List Loc) (x0 : Int64) (x1 : Int64) (x2 : Int64) (x3 : Int32) (x4 : Int32) (x5 : Int32) (xa : Addr) (g_f : (Nat → Int32)), Stand p l e room_1 s m #[(.long p0), (.long p1), (.long p2), (.int p3), (.int p4), (.int p5)] below meth c T L 1 20 → own_I Z n0 T.heap xa g_f → Fr n0 L → w = F0_192 x0 x1 x2 x3 x4 x5 g_f → own_E p e below Qq T (mkF m 192 #[.val (.long x0), .second, .val (.long x1), .second, .val (.long x2), .second, .val (.int x3), .val (.int x4), .val (.int x5), .val (.ref xa), .unset, .unset, .unset, .unset, .unset, .unset, .unset, .unset, .unset] []) := by
    intro T L x0 x1 x2 x3 x4 x5 xa g_f X I N hF
    refine own_st (fun _ => XS.aload X.here hx rfl (hb hby at_192) rfl rfl) ?_
    show own_E p e below Qq T (mkF m 194 #[.val (.long x0), .second, .val (.long x1), .second, .val (.long x2), .second, .val (.int x3), .val (.int x4), .val (.int x5), .val (.ref xa), .unset, .unset, .unset, .unset, .unset, .unset, .unset, .unset, .unset] [(.ref xa)])
    refine own_st (fun _ => XS.bipush X.here hx rfl (hb hby at_194)) ?_
    show own_E p e below Qq T (mkF m 196 #[.val (.long x0), .second, .val (.long x1), .second, .val (.long x2), .second, .val (.int x3), .val (.int x4), .val (.int x5), .val (.ref xa), .unset, .unset, .unset, .unset, .unset, .unset, .unset, .unset, .unset] [(.int (14 : Int32)), (.ref xa)])
    refine own_st (fun _ => XT.lloadN X.here hx rfl (hb hby at_196) rfl) ?_
    show own_E p e below Qq T (mkF m 197 #[.val (.long x0), .second, .val (.long x1), .second, .val (.long x2), .second, .val (.int x3), .val (.int x4), .val (.int x5), .val (.ref xa), .unset, .unset, .unset, .unset, .unset, .unset, .unset, .unset, .unset] [(.long x1), (.int (14 : Int32)), (.ref xa)])
    refine own_st (fun _ => XS.bipush X.here hx rfl (hb hby at_197)) ?_
    show own_E p e below Qq T (mkF m 199 #[.val (.long x0), .second, .val (.long x1), .second, .val (.long x2), .second, .val (.int x3), .val (.int x4), .val (.int x5), .val (.ref xa), .unset, .unset, .unset, .unset, .unset, .unset, .unset, .unset, .unset] [(.int (6 : Int32)), (.long x1), (.int (14 : Int32)), (.ref xa)])
    refine own_st (fun _ => XS.bipush X.here hx rfl (hb hby at_199)) ?_
    show own_E p e below Qq T (mkF m 201 #[.val (.long x0), .second, .val (.long x1), .second, .val (.long x2), .second, .val (.int x3), .val (.int x4), .val (.int x5), .val (.ref xa), .unset, .unset, .unset, .unset, .unset, .unset, .unset, .unset, .unset] [(.int (14 : Int32)), (.int (6 : Int32)), (.long x1), (.int (14 : Int32)), (.ref xa)])
    refine own_st (fun _ => XS.iload X.here hx rfl (hb hby at_201) rfl) ?_
    show own_E p e below Qq T (mkF m 203 #[.val (.long x0), .second, .val (.long x1), .second, .val (.long x2), .second, .val (.int x3), .val (.int x4), .val (.int x5), .val (.ref xa), .unset, .unset, .unset, .unset, .unset, .unset, .unset, .unset, .unset] [(.int x5), (.int (14 : Int32)), (.int (6 : Int32)), (.long x1), (.int (14 : Int32)), (.ref xa)])
    refine own_callS X hx hZ hown (hw _ (List.mem_of_getElem? (i := 1) rfl)) (hw _ (List.mem_of_getElem? (i := 2) rfl)) (hw _ (List.mem_of_getElem? (i := 3) rfl)) (hw _ (List.mem_of_getElem? (i := 4) rfl)) (by decide) (W := 2) (argsL := [(.long x1), (.int (6 : Int32)), (.int (14 : Int32)), (.int x5)]) (rest := [(.int (14 : Int32)), (.ref xa)]) (rm1 l Z a0 hw x1 (6 : Int32) (14 : Int32) x5 _ n0) (by decide) (by decide) (by decide) (by decide) rfl (by rw [hml]; rfl) (lenOf pd_1 rfl) rfl (by show 2 * 0 + _ ≤ _; exact Nat.le_of_eq rfl) (hb hby at_203) ?_
    intro T13 L13 v X' hq
    obtain ⟨rfl, N', e'⟩ := hq
    replace I := own_tr (P := fun h => own_I Z n0 h xa g_f) e' I
    replace N := Fr.app N N'
    replace X : Stand p l e room_1 s m #[(.long p0), (.long p1), (.long p2), (.int p3), (.int p4), (.int p5)] below meth c T13 _ 1 20 := X'
    clear X' N' e'
    show own_E p e below Qq T13 (mkF m 206 #[.val (.long x0), .second, .val (.long x1), .second, .val (.long x2), .second, .val (.int x3), .val (.int x4), .val (.int x5), .val (.ref xa), .unset, .unset, .unset, .unset, .unset, .unset, .unset, .unset, .unset] [(.int (F1_0 x1 (6 : Int32) (14 : Int32) x5)), (.int (14 : Int32)), (.ref xa)])
    obtain ⟨T14, X14, I14, st14⟩ := own_bastore X hx hZ I (j := (14 : Int32)) (i := 14) rfl (by decide) (by decide) (g := (mkF m 206 #[.val (.long x0), .second, .val (.long x1), .second, .val (.long x2), .second, .val (.int x3), .val (.int x4), .val (.int x5), .val (.ref xa), .unset, .unset, .unset, .unset, .unset, .unset, .unset, .unset, .unset] [(.int (F1_0 x1 (6 : Int32) (14 : Int32) x5)), (.int (14 : Int32)), (.ref xa)])) rfl rfl (hb hby at_206)
    refine own_st st14 ?_
    replace N := Fr.snoc X14 N (own_Ina I)
    replace X := X14
    replace I := I14
    clear st14 X14 I14
    show own_E p e below Qq T14 (mkF m 207 #[.val (.long x0), .second, .val (.long x1), .second, .val (.long x2), .second, .val (.int x3), .val (.int x4), .val (.int x5), .val (.ref xa), .unset, .unset, .unset, .unset, .unset, .unset, .unset, .unset, .unset] [])
    exact B207 _ _ x0 x1 x2 x3 x4 x5 xa (own_upd g_f 14 (nar .byte (F1_0 x1 (6 : Int32) (14 : Int32) x5))) X I N hF
  have B178 : ∀ (T : State) (L : List Loc) (x0 : Int64) (x1 : Int64) (x2 : Int64) (x3 : Int32) (x4 : Int32) (x5 : Int32) (xa : Addr) (g_f : (Nat → Int32)), Stand p l e room_1 s m #[(.long p0), (.long p1), (.long p2), (.int p3), (.int p4), (.int p5)] below meth c T L 1 20 → own_I Z n0 T.heap xa g_f → Fr n0 L → w = F0_178 x0 x1 x2 x3 x4 x5 g_f → own_E p e below Qq T (mkF m 178 #[.val (.long x0), .second, .val (.long x1), .second, .val (.long x2), .second, .val (.int x3), .val (.int x4), .val (.int x5), .val (.ref xa), .unset, .unset, .unset, .unset, .unset, .unset, .unset, .unset, .unset] []) := by
    intro T L x0 x1 x2 x3 x4 x5 xa g_f X I N hF
    refine own_st (fun _ => XS.aload X.here hx rfl (hb hby at_178) rfl rfl) ?_
    show own_E p e below Qq T (mkF m 180 #[.val (.long x0), .second, .val (.long x1), .second, .val (.long x2), .second, .val (.int x3), .val (.int x4), .val (.int x5), .val (.ref xa), .unset, .unset, .unset, .unset, .unset, .unset, .unset, .unset, .unset] [(.ref xa)])
    refine own_st (fun _ => XS.bipush X.here hx rfl (hb hby at_180)) ?_
    show own_E p e below Qq T (mkF m 182 #[.val (.long x0), .second, .val (.long x1), .second, .val (.long x2), .second, .val (.int x3), .val (.int x4), .val (.int x5), .val (.ref xa), .unset, .unset, .unset, .unset, .unset, .unset, .unset, .unset, .unset] [(.int (13 : Int32)), (.ref xa)])
    refine own_st (fun _ => XT.lloadN X.here hx rfl (hb hby at_182) rfl) ?_
    show own_E p e below Qq T (mkF m 183 #[.val (.long x0), .second, .val (.long x1), .second, .val (.long x2), .second, .val (.int x3), .val (.int x4), .val (.int x5), .val (.ref xa), .unset, .unset, .unset, .unset, .unset, .unset, .unset, .unset, .unset] [(.long x1), (.int (13 : Int32)), (.ref xa)])
    refine own_st (fun _ => XS.iconst X.here hx rfl (hb hby at_183)) ?_
    show own_E p e below Qq T (mkF m 184 #[.val (.long x0), .second, .val (.long x1), .second, .val (.long x2), .second, .val (.int x3), .val (.int x4), .val (.int x5), .val (.ref xa), .unset, .unset, .unset, .unset, .unset, .unset, .unset, .unset, .unset] [(.int (5 : Int32)), (.long x1), (.int (13 : Int32)), (.ref xa)])
    refine own_st (fun _ => XS.bipush X.here hx rfl (hb hby at_184)) ?_
    show own_E p e below Qq T (mkF m 186 #[.val (.long x0), .second, .val (.long x1), .second, .val (.long x2), .second, .val (.int x3), .val (.int x4), .val (.int x5), .val (.ref xa), .unset, .unset, .unset, .unset, .unset, .unset, .unset, .unset, .unset] [(.int (13 : Int32)), (.int (5 : Int32)), (.long x1), (.int (13 : Int32)), (.ref xa)])
    refine own_st (fun _ => XS.iload X.here hx rfl (hb hby at_186) rfl) ?_
    show own_E p e below Qq T (mkF m 188 #[.val (.long x0), .second, .val (.long x1), .second, .val (.long x2), .second, .val (.int x3), .val (.int x4), .val (.int x5), .val (.ref xa), .unset, .unset, .unset, .unset, .unset, .unset, .unset, .unset, .unset] [(.int x5), (.int (13 : Int32)), (.int (5 : Int32)), (.long x1), (.int (13 : Int32)), (.ref xa)])
    refine own_callS X hx hZ hown (hw _ (List.mem_of_getElem? (i := 1) rfl)) (hw _ (List.mem_of_getElem? (i := 2) rfl)) (hw _ (List.mem_of_getElem? (i := 3) rfl)) (hw _ (List.mem_of_getElem? (i := 4) rfl)) (by decide) (W := 2) (argsL := [(.long x1), (.int (5 : Int32)), (.int (13 : Int32)), (.int x5)]) (rest := [(.int (13 : Int32)), (.ref xa)]) (rm1 l Z a0 hw x1 (5 : Int32) (13 : Int32) x5 _ n0) (by decide) (by decide) (by decide) (by decide) rfl (by rw [hml]; rfl) (lenOf pd_1 rfl) rfl (by show 2 * 0 + _ ≤ _; exact Nat.le_of_eq rfl) (hb hby at_188) ?_
    intro T15 L15 v X' hq
    obtain ⟨rfl, N', e'⟩ := hq
    replace I := own_tr (P := fun h => own_I Z n0 h xa g_f) e' I
    replace N := Fr.app N N'
    replace X : Stand p l e room_1 s m #[(.long p0), (.long p1), (.long p2), (.int p3), (.int p4), (.int p5)] below meth c T15 _ 1 20 := X'
    clear X' N' e'
    show own_E p e below Qq T15 (mkF m 191 #[.val (.long x0), .second, .val (.long x1), .second, .val (.long x2), .second, .val (.int x3), .val (.int x4), .val (.int x5), .val (.ref xa), .unset, .unset, .unset, .unset, .unset, .unset, .unset, .unset, .unset] [(.int (F1_0 x1 (5 : Int32) (13 : Int32) x5)), (.int (13 : Int32)), (.ref xa)])
    obtain ⟨T16, X16, I16, st16⟩ := own_bastore X hx hZ I (j := (13 : Int32)) (i := 13) rfl (by decide) (by decide) (g := (mkF m 191 #[.val (.long x0), .second, .val (.long x1), .second, .val (.long x2), .second, .val (.int x3), .val (.int x4), .val (.int x5), .val (.ref xa), .unset, .unset, .unset, .unset, .unset, .unset, .unset, .unset, .unset] [(.int (F1_0 x1 (5 : Int32) (13 : Int32) x5)), (.int (13 : Int32)), (.ref xa)])) rfl rfl (hb hby at_191)
    refine own_st st16 ?_
    replace N := Fr.snoc X16 N (own_Ina I)
    replace X := X16
    replace I := I16
    clear st16 X16 I16
    show own_E p e below Qq T16 (mkF m 192 #[.val (.long x0), .second, .val (.long x1), .second, .val (.long x2), .second, .val (.int x3), .val (.int x4), .val (.int x5), .val (.ref xa), .unset, .unset, .unset, .unset, .unset, .unset, .unset, .unset, .unset] [])
    exact B192 _ _ x0 x1 x2 x3 x4 x5 xa (own_upd g_f 13 (nar .byte (F1_0 x1 (5 : Int32) (13 : Int32) x5))) X I N hF
  have B164 : ∀ (T : State) (L : List Loc) (x0 : Int64) (x1 : Int64) (x2 : Int64) (x3 : Int32) (x4 : Int32) (x5 : Int32) (xa : Addr) (g_f : (Nat → Int32)), Stand p l e room_1 s m #[(.long p0), (.long p1), (.long p2), (.int p3), (.int p4), (.int p5)] below meth c T L 1 20 → own_I Z n0 T.heap xa g_f → Fr n0 L → w = F0_164 x0 x1 x2 x3 x4 x5 g_f → own_E p e below Qq T (mkF m 164 #[.val (.long x0), .second, .val (.long x1), .second, .val (.long x2), .second, .val (.int x3), .val (.int x4), .val (.int x5), .val (.ref xa), .unset, .unset, .unset, .unset, .unset, .unset, .unset, .unset, .unset] []) := by
    intro T L x0 x1 x2 x3 x4 x5 xa g_f X I N hF
    refine own_st (fun _ => XS.aload X.here hx rfl (hb hby at_164) rfl rfl) ?_
    show own_E p e below Qq T (mkF m 166 #[.val (.long x0), .second, .val (.long x1), .second, .val (.long x2), .second, .val (.int x3), .val (.int x4), .val (.int x5), .val (.ref xa), .unset, .unset, .unset, .unset, .unset, .unset, .unset, .unset, .unset] [(.ref xa)])
    refine own_st (fun _ => XS.bipush X.here hx rfl (hb hby at_166)) ?_
    show own_E p e below Qq T (mkF m 168 #[.val (.long x0), .second, .val (.long x1), .second, .val (.long x2), .second, .val (.int x3), .val (.int x4), .val (.int x5), .val (.ref xa), .unset, .unset, .unset, .unset, .unset, .unset, .unset, .unset, .unset] [(.int (12 : Int32)), (.ref xa)])
    refine own_st (fun _ => XT.lloadN X.here hx rfl (hb hby at_168) rfl) ?_
    show own_E p e below Qq T (mkF m 169 #[.val (.long x0), .second, .val (.long x1), .second, .val (.long x2), .second, .val (.int x3), .val (.int x4), .val (.int x5), .val (.ref xa), .unset, .unset, .unset, .unset, .unset, .unset, .unset, .unset, .unset] [(.long x1), (.int (12 : Int32)), (.ref xa)])
    refine own_st (fun _ => XS.iconst X.here hx rfl (hb hby at_169)) ?_
    show own_E p e below Qq T (mkF m 170 #[.val (.long x0), .second, .val (.long x1), .second, .val (.long x2), .second, .val (.int x3), .val (.int x4), .val (.int x5), .val (.ref xa), .unset, .unset, .unset, .unset, .unset, .unset, .unset, .unset, .unset] [(.int (4 : Int32)), (.long x1), (.int (12 : Int32)), (.ref xa)])
    refine own_st (fun _ => XS.bipush X.here hx rfl (hb hby at_170)) ?_
    show own_E p e below Qq T (mkF m 172 #[.val (.long x0), .second, .val (.long x1), .second, .val (.long x2), .second, .val (.int x3), .val (.int x4), .val (.int x5), .val (.ref xa), .unset, .unset, .unset, .unset, .unset, .unset, .unset, .unset, .unset] [(.int (12 : Int32)), (.int (4 : Int32)), (.long x1), (.int (12 : Int32)), (.ref xa)])
    refine own_st (fun _ => XS.iload X.here hx rfl (hb hby at_172) rfl) ?_
    show own_E p e below Qq T (mkF m 174 #[.val (.long x0), .second, .val (.long x1), .second, .val (.long x2), .second, .val (.int x3), .val (.int x4), .val (.int x5), .val (.ref xa), .unset, .unset, .unset, .unset, .unset, .unset, .unset, .unset, .unset] [(.int x5), (.int (12 : Int32)), (.int (4 : Int32)), (.long x1), (.int (12 : Int32)), (.ref xa)])
    refine own_callS X hx hZ hown (hw _ (List.mem_of_getElem? (i := 1) rfl)) (hw _ (List.mem_of_getElem? (i := 2) rfl)) (hw _ (List.mem_of_getElem? (i := 3) rfl)) (hw _ (List.mem_of_getElem? (i := 4) rfl)) (by decide) (W := 2) (argsL := [(.long x1), (.int (4 : Int32)), (.int (12 : Int32)), (.int x5)]) (rest := [(.int (12 : Int32)), (.ref xa)]) (rm1 l Z a0 hw x1 (4 : Int32) (12 : Int32) x5 _ n0) (by decide) (by decide) (by decide) (by decide) rfl (by rw [hml]; rfl) (lenOf pd_1 rfl) rfl (by show 2 * 0 + _ ≤ _; exact Nat.le_of_eq rfl) (hb hby at_174) ?_
    intro T17 L17 v X' hq
    obtain ⟨rfl, N', e'⟩ := hq
    replace I := own_tr (P := fun h => own_I Z n0 h xa g_f) e' I
    replace N := Fr.app N N'
    replace X : Stand p l e room_1 s m #[(.long p0), (.long p1), (.long p2), (.int p3), (.int p4), (.int p5)] below meth c T17 _ 1 20 := X'
    clear X' N' e'
    show own_E p e below Qq T17 (mkF m 177 #[.val (.long x0), .second, .val (.long x1), .second, .val (.long x2), .second, .val (.int x3), .val (.int x4), .val (.int x5), .val (.ref xa), .unset, .unset, .unset, .unset, .unset, .unset, .unset, .unset, .unset] [(.int (F1_0 x1 (4 : Int32) (12 : Int32) x5)), (.int (12 : Int32)), (.ref xa)])
    obtain ⟨T18, X18, I18, st18⟩ := own_bastore X hx hZ I (j := (12 : Int32)) (i := 12) rfl (by decide) (by decide) (g := (mkF m 177 #[.val (.long x0), .second, .val (.long x1), .second, .val (.long x2), .second, .val (.int x3), .val (.int x4), .val (.int x5), .val (.ref xa), .unset, .unset, .unset, .unset, .unset, .unset, .unset, .unset, .unset] [(.int (F1_0 x1 (4 : Int32) (12 : Int32) x5)), (.int (12 : Int32)), (.ref xa)])) rfl rfl (hb hby at_177)
    refine own_st st18 ?_
    replace N := Fr.snoc X18 N (own_Ina I)
    replace X := X18
    replace I := I18
    clear st18 X18 I18
    show own_E p e below Qq T18 (mkF m 178 #[.val (.long x0), .second, .val (.long x1), .second, .val (.long x2), .second, .val (.int x3), .val (.int x4), .val (.int x5), .val (.ref xa), .unset, .unset, .unset, .unset, .unset, .unset, .unset, .unset, .unset] [])
    exact B178 _ _ x0 x1 x2 x3 x4 x5 xa (own_upd g_f 12 (nar .byte (F1_0 x1 (4 : Int32) (12 : Int32) x5))) X I N hF
  have B150 : ∀ (T : State) (L : List Loc) (x0 : Int64) (x1 : Int64) (x2 : Int64) (x3 : Int32) (x4 : Int32) (x5 : Int32) (xa : Addr) (g_f : (Nat → Int32)), Stand p l e room_1 s m #[(.long p0), (.long p1), (.long p2), (.int p3), (.int p4), (.int p5)] below meth c T L 1 20 → own_I Z n0 T.heap xa g_f → Fr n0 L → w = F0_150 x0 x1 x2 x3 x4 x5 g_f → own_E p e below Qq T (mkF m 150 #[.val (.long x0), .second, .val (.long x1), .second, .val (.long x2), .second, .val (.int x3), .val (.int x4), .val (.int x5), .val (.ref xa), .unset, .unset, .unset, .unset, .unset, .unset, .unset, .unset, .unset] []) := by
    intro T L x0 x1 x2 x3 x4 x5 xa g_f X I N hF
    refine own_st (fun _ => XS.aload X.here hx rfl (hb hby at_150) rfl rfl) ?_
    show own_E p e below Qq T (mkF m 152 #[.val (.long x0), .second, .val (.long x1), .second, .val (.long x2), .second, .val (.int x3), .val (.int x4), .val (.int x5), .val (.ref xa), .unset, .unset, .unset, .unset, .unset, .unset, .unset, .unset, .unset] [(.ref xa)])
    refine own_st (fun _ => XS.bipush X.here hx rfl (hb hby at_152)) ?_
    show own_E p e below Qq T (mkF m 154 #[.val (.long x0), .second, .val (.long x1), .second, .val (.long x2), .second, .val (.int x3), .val (.int x4), .val (.int x5), .val (.ref xa), .unset, .unset, .unset, .unset, .unset, .unset, .unset, .unset, .unset] [(.int (11 : Int32)), (.ref xa)])
    refine own_st (fun _ => XT.lloadN X.here hx rfl (hb hby at_154) rfl) ?_
    show own_E p e below Qq T (mkF m 155 #[.val (.long x0), .second, .val (.long x1), .second, .val (.long x2), .second, .val (.int x3), .val (.int x4), .val (.int x5), .val (.ref xa), .unset, .unset, .unset, .unset, .unset, .unset, .unset, .unset, .unset] [(.long x1), (.int (11 : Int32)), (.ref xa)])
    refine own_st (fun _ => XS.iconst X.here hx rfl (hb hby at_155)) ?_
    show own_E p e below Qq T (mkF m 156 #[.val (.long x0), .second, .val (.long x1), .second, .val (.long x2), .second, .val (.int x3), .val (.int x4), .val (.int x5), .val (.ref xa), .unset, .unset, .unset, .unset, .unset, .unset, .unset, .unset, .unset] [(.int (3 : Int32)), (.long x1), (.int (11 : Int32)), (.ref xa)])
    refine own_st (fun _ => XS.bipush X.here hx rfl (hb hby at_156)) ?_
    show own_E p e below Qq T (mkF m 158 #[.val (.long x0), .second, .val (.long x1), .second, .val (.long x2), .second, .val (.int x3), .val (.int x4), .val (.int x5), .val (.ref xa), .unset, .unset, .unset, .unset, .unset, .unset, .unset, .unset, .unset] [(.int (11 : Int32)), (.int (3 : Int32)), (.long x1), (.int (11 : Int32)), (.ref xa)])
    refine own_st (fun _ => XS.iload X.here hx rfl (hb hby at_158) rfl) ?_
    show own_E p e below Qq T (mkF m 160 #[.val (.long x0), .second, .val (.long x1), .second, .val (.long x2), .second, .val (.int x3), .val (.int x4), .val (.int x5), .val (.ref xa), .unset, .unset, .unset, .unset, .unset, .unset, .unset, .unset, .unset] [(.int x5), (.int (11 : Int32)), (.int (3 : Int32)), (.long x1), (.int (11 : Int32)), (.ref xa)])
    refine own_callS X hx hZ hown (hw _ (List.mem_of_getElem? (i := 1) rfl)) (hw _ (List.mem_of_getElem? (i := 2) rfl)) (hw _ (List.mem_of_getElem? (i := 3) rfl)) (hw _ (List.mem_of_getElem? (i := 4) rfl)) (by decide) (W := 2) (argsL := [(.long x1), (.int (3 : Int32)), (.int (11 : Int32)), (.int x5)]) (rest := [(.int (11 : Int32)), (.ref xa)]) (rm1 l Z a0 hw x1 (3 : Int32) (11 : Int32) x5 _ n0) (by decide) (by decide) (by decide) (by decide) rfl (by rw [hml]; rfl) (lenOf pd_1 rfl) rfl (by show 2 * 0 + _ ≤ _; exact Nat.le_of_eq rfl) (hb hby at_160) ?_
    intro T19 L19 v X' hq
    obtain ⟨rfl, N', e'⟩ := hq
    replace I := own_tr (P := fun h => own_I Z n0 h xa g_f) e' I
    replace N := Fr.app N N'
    replace X : Stand p l e room_1 s m #[(.long p0), (.long p1), (.long p2), (.int p3), (.int p4), (.int p5)] below meth c T19 _ 1 20 := X'
    clear X' N' e'
    show own_E p e below Qq T19 (mkF m 163 #[.val (.long x0), .second, .val (.long x1), .second, .val (.long x2), .second, .val (.int x3), .val (.int x4), .val (.int x5), .val (.ref xa), .unset, .unset, .unset, .unset, .unset, .unset, .unset, .unset, .unset] [(.int (F1_0 x1 (3 : Int32) (11 : Int32) x5)), (.int (11 : Int32)), (.ref xa)])
    obtain ⟨T20, X20, I20, st20⟩ := own_bastore X hx hZ I (j := (11 : Int32)) (i := 11) rfl (by decide) (by decide) (g := (mkF m 163 #[.val (.long x0), .second, .val (.long x1), .second, .val (.long x2), .second, .val (.int x3), .val (.int x4), .val (.int x5), .val (.ref xa), .unset, .unset, .unset, .unset, .unset, .unset, .unset, .unset, .unset] [(.int (F1_0 x1 (3 : Int32) (11 : Int32) x5)), (.int (11 : Int32)), (.ref xa)])) rfl rfl (hb hby at_163)
    refine own_st st20 ?_
    replace N := Fr.snoc X20 N (own_Ina I)
    replace X := X20
    replace I := I20
    clear st20 X20 I20
    show own_E p e below Qq T20 (mkF m 164 #[.val (.long x0), .second, .val (.long x1), .second, .val (.long x2), .second, .val (.int x3), .val (.int x4), .val (.int x5), .val (.ref xa), .unset, .unset, .unset, .unset, .unset, .unset, .unset, .unset, .unset] [])
    exact B164 _ _ x0 x1 x2 x3 x4 x5 xa (own_upd g_f 11 (nar .byte (F1_0 x1 (3 : Int32) (11 : Int32) x5))) X I N hF
  have B136 : ∀ (T : State) (L : List Loc) (x0 : Int64) (x1 : Int64) (x2 : Int64) (x3 : Int32) (x4 : Int32) (x5 : Int32) (xa : Addr) (g_f : (Nat → Int32)), Stand p l e room_1 s m #[(.long p0), (.long p1), (.long p2), (.int p3), (.int p4), (.int p5)] below meth c T L 1 20 → own_I Z n0 T.heap xa g_f → Fr n0 L → w = F0_136 x0 x1 x2 x3 x4 x5 g_f → own_E p e below Qq T (mkF m 136 #[.val (.long x0), .second, .val (.long x1), .second, .val (.long x2), .second, .val (.int x3), .val (.int x4), .val (.int x5), .val (.ref xa), .unset, .unset, .unset, .unset, .unset, .unset, .unset, .unset, .unset] []) := by
    intro T L x0 x1 x2 x3 x4 x5 xa g_f X I N hF
    refine own_st (fun _ => XS.aload X.here hx rfl (hb hby at_136) rfl rfl) ?_
    show own_E p e below Qq T (mkF m 138 #[.val (.long x0), .second, .val (.long x1), .second, .val (.long x2), .second, .val (.int x3), .val (.int x4), .val (.int x5), .val (.ref xa), .unset, .unset, .unset, .unset, .unset, .unset, .unset, .unset, .unset] [(.ref xa)])
    refine own_st (fun _ => XS.bipush X.here hx rfl (hb hby at_138)) ?_
    show own_E p e below Qq T (mkF m 140 #[.val (.long x0), .second, .val (.long x1), .second, .val (.long x2), .second, .val (.int x3), .val (.int x4), .val (.int x5), .val (.ref xa), .unset, .unset, .unset, .unset, .unset, .unset, .unset, .unset, .unset] [(.int (10 : Int32)), (.ref xa)])
    refine own_st (fun _ => XT.lloadN X.here hx rfl (hb hby at_140) rfl) ?_
    show own_E p e below Qq T (mkF m 141 #[.val (.long x0), .second, .val (.long x1), .second, .val (.long x2), .second, .val (.int x3), .val (.int x4), .val (.int x5), .val (.ref xa), .unset, .unset, .unset, .unset, .unset, .unset, .unset, .unset, .unset] [(.long x1), (.int (10 : Int32)), (.ref xa)])
    refine own_st (fun _ => XS.iconst X.here hx rfl (hb hby at_141)) ?_
    show own_E p e below Qq T (mkF m 142 #[.val (.long x0), .second, .val (.long x1), .second, .val (.long x2), .second, .val (.int x3), .val (.int x4), .val (.int x5), .val (.ref xa), .unset, .unset, .unset, .unset, .unset, .unset, .unset, .unset, .unset] [(.int (2 : Int32)), (.long x1), (.int (10 : Int32)), (.ref xa)])
    refine own_st (fun _ => XS.bipush X.here hx rfl (hb hby at_142)) ?_
    show own_E p e below Qq T (mkF m 144 #[.val (.long x0), .second, .val (.long x1), .second, .val (.long x2), .second, .val (.int x3), .val (.int x4), .val (.int x5), .val (.ref xa), .unset, .unset, .unset, .unset, .unset, .unset, .unset, .unset, .unset] [(.int (10 : Int32)), (.int (2 : Int32)), (.long x1), (.int (10 : Int32)), (.ref xa)])
    refine own_st (fun _ => XS.iload X.here hx rfl (hb hby at_144) rfl) ?_
    show own_E p e below Qq T (mkF m 146 #[.val (.long x0), .second, .val (.long x1), .second, .val (.long x2), .second, .val (.int x3), .val (.int x4), .val (.int x5), .val (.ref xa), .unset, .unset, .unset, .unset, .unset, .unset, .unset, .unset, .unset] [(.int x5), (.int (10 : Int32)), (.int (2 : Int32)), (.long x1), (.int (10 : Int32)), (.ref xa)])
    refine own_callS X hx hZ hown (hw _ (List.mem_of_getElem? (i := 1) rfl)) (hw _ (List.mem_of_getElem? (i := 2) rfl)) (hw _ (List.mem_of_getElem? (i := 3) rfl)) (hw _ (List.mem_of_getElem? (i := 4) rfl)) (by decide) (W := 2) (argsL := [(.long x1), (.int (2 : Int32)), (.int (10 : Int32)), (.int x5)]) (rest := [(.int (10 : Int32)), (.ref xa)]) (rm1 l Z a0 hw x1 (2 : Int32) (10 : Int32) x5 _ n0) (by decide) (by decide) (by decide) (by decide) rfl (by rw [hml]; rfl) (lenOf pd_1 rfl) rfl (by show 2 * 0 + _ ≤ _; exact Nat.le_of_eq rfl) (hb hby at_146) ?_
    intro T21 L21 v X' hq
    obtain ⟨rfl, N', e'⟩ := hq
    replace I := own_tr (P := fun h => own_I Z n0 h xa g_f) e' I
    replace N := Fr.app N N'
    replace X : Stand p l e room_1 s m #[(.long p0), (.long p1), (.long p2), (.int p3), (.int p4), (.int p5)] below meth c T21 _ 1 20 := X'
    clear X' N' e'
    show own_E p e below Qq T21 (mkF m 149 #[.val (.long x0), .second, .val (.long x1), .second, .val (.long x2), .second, .val (.int x3), .val (.int x4), .val (.int x5), .val (.ref xa), .unset, .unset, .unset, .unset, .unset, .unset, .unset, .unset, .unset] [(.int (F1_0 x1 (2 : Int32) (10 : Int32) x5)), (.int (10 : Int32)), (.ref xa)])
    obtain ⟨T22, X22, I22, st22⟩ := own_bastore X hx hZ I (j := (10 : Int32)) (i := 10) rfl (by decide) (by decide) (g := (mkF m 149 #[.val (.long x0), .second, .val (.long x1), .second, .val (.long x2), .second, .val (.int x3), .val (.int x4), .val (.int x5), .val (.ref xa), .unset, .unset, .unset, .unset, .unset, .unset, .unset, .unset, .unset] [(.int (F1_0 x1 (2 : Int32) (10 : Int32) x5)), (.int (10 : Int32)), (.ref xa)])) rfl rfl (hb hby at_149)
    refine own_st st22 ?_
    replace N := Fr.snoc X22 N (own_Ina I)
    replace X := X22
    replace I := I22
    clear st22 X22 I22
    show own_E p e below Qq T22 (mkF m 150 #[.val (.long x0), .second, .val (.long x1), .second, .val (.long x2), .second, .val (.int x3), .val (.int x4), .val (.int x5), .val (.ref xa), .unset, .unset, .unset, .unset, .unset, .unset, .unset, .unset, .unset] [])
    exact B150 _ _ x0 x1 x2 x3 x4 x5 xa (own_upd g_f 10 (nar .byte (F1_0 x1 (2 : Int32) (10 : Int32) x5))) X I N hF
  have B122 : ∀ (T : State) (L : List Loc) (x0 : Int64) (x1 : Int64) (x2 : Int64) (x3 : Int32) (x4 : Int32) (x5 : Int32) (xa : Addr) (g_f : (Nat → Int32)), Stand p l e room_1 s m #[(.long p0), (.long p1), (.long p2), (.int p3), (.int p4), (.int p5)] below meth c T L 1 20 → own_I Z n0 T.heap xa g_f → Fr n0 L → w = F0_122 x0 x1 x2 x3 x4 x5 g_f → own_E p e below Qq T (mkF m 122 #[.val (.long x0), .second, .val (.long x1), .second, .val (.long x2), .second, .val (.int x3), .val (.int x4), .val (.int x5), .val (.ref xa), .unset, .unset, .unset, .unset, .unset, .unset, .unset, .unset, .unset] []) := by
    intro T L x0 x1 x2 x3 x4 x5 xa g_f X I N hF
    refine own_st (fun _ => XS.aload X.here hx rfl (hb hby at_122) rfl rfl) ?_
    show own_E p e below Qq T (mkF m 124 #[.val (.long x0), .second, .val (.long x1), .second, .val (.long x2), .second, .val (.int x3), .val (.int x4), .val (.int x5), .val (.ref xa), .unset, .unset, .unset, .unset, .unset, .unset, .unset, .unset, .unset] [(.ref xa)])
    refine own_st (fun _ => XS.bipush X.here hx rfl (hb hby at_124)) ?_
    show own_E p e below Qq T (mkF m 126 #[.val (.long x0), .second, .val (.long x1), .second, .val (.long x2), .second, .val (.int x3), .val (.int x4), .val (.int x5), .val (.ref xa), .unset, .unset, .unset, .unset, .unset, .unset, .unset, .unset, .unset] [(.int (9 : Int32)), (.ref xa)])
    refine own_st (fun _ => XT.lloadN X.here hx rfl (hb hby at_126) rfl) ?_
    show own_E p e below Qq T (mkF m 127 #[.val (.long x0), .second, .val (.long x1), .second, .val (.long x2), .second, .val (.int x3), .val (.int x4), .val (.int x5), .val (.ref xa), .unset, .unset, .unset, .unset, .unset, .unset, .unset, .unset, .unset] [(.long x1), (.int (9 : Int32)), (.ref xa)])
    refine own_st (fun _ => XS.iconst X.here hx rfl (hb hby at_127)) ?_
    show own_E p e below Qq T (mkF m 128 #[.val (.long x0), .second, .val (.long x1), .second, .val (.long x2), .second, .val (.int x3), .val (.int x4), .val (.int x5), .val (.ref xa), .unset, .unset, .unset, .unset, .unset, .unset, .unset, .unset, .unset] [(.int (1 : Int32)), (.long x1), (.int (9 : Int32)), (.ref xa)])
    refine own_st (fun _ => XS.bipush X.here hx rfl (hb hby at_128)) ?_
    show own_E p e below Qq T (mkF m 130 #[.val (.long x0), .second, .val (.long x1), .second, .val (.long x2), .second, .val (.int x3), .val (.int x4), .val (.int x5), .val (.ref xa), .unset, .unset, .unset, .unset, .unset, .unset, .unset, .unset, .unset] [(.int (9 : Int32)), (.int (1 : Int32)), (.long x1), (.int (9 : Int32)), (.ref xa)])
    refine own_st (fun _ => XS.iload X.here hx rfl (hb hby at_130) rfl) ?_
    show own_E p e below Qq T (mkF m 132 #[.val (.long x0), .second, .val (.long x1), .second, .val (.long x2), .second, .val (.int x3), .val (.int x4), .val (.int x5), .val (.ref xa), .unset, .unset, .unset, .unset, .unset, .unset, .unset, .unset, .unset] [(.int x5), (.int (9 : Int32)), (.int (1 : Int32)), (.long x1), (.int (9 : Int32)), (.ref xa)])
    refine own_callS X hx hZ hown (hw _ (List.mem_of_getElem? (i := 1) rfl)) (hw _ (List.mem_of_getElem? (i := 2) rfl)) (hw _ (List.mem_of_getElem? (i := 3) rfl)) (hw _ (List.mem_of_getElem? (i := 4) rfl)) (by decide) (W := 2) (argsL := [(.long x1), (.int (1 : Int32)), (.int (9 : Int32)), (.int x5)]) (rest := [(.int (9 : Int32)), (.ref xa)]) (rm1 l Z a0 hw x1 (1 : Int32) (9 : Int32) x5 _ n0) (by decide) (by decide) (by decide) (by decide) rfl (by rw [hml]; rfl) (lenOf pd_1 rfl) rfl (by show 2 * 0 + _ ≤ _; exact Nat.le_of_eq rfl) (hb hby at_132) ?_
    intro T23 L23 v X' hq
    obtain ⟨rfl, N', e'⟩ := hq
    replace I := own_tr (P := fun h => own_I Z n0 h xa g_f) e' I
    replace N := Fr.app N N'
    replace X : Stand p l e room_1 s m #[(.long p0), (.long p1), (.long p2), (.int p3), (.int p4), (.int p5)] below meth c T23 _ 1 20 := X'
    clear X' N' e'
    show own_E p e below Qq T23 (mkF m 135 #[.val (.long x0), .second, .val (.long x1), .second, .val (.long x2), .second, .val (.int x3), .val (.int x4), .val (.int x5), .val (.ref xa), .unset, .unset, .unset, .unset, .unset, .unset, .unset, .unset, .unset] [(.int (F1_0 x1 (1 : Int32) (9 : Int32) x5)), (.int (9 : Int32)), (.ref xa)])
    obtain ⟨T24, X24, I24, st24⟩ := own_bastore X hx hZ I (j := (9 : Int32)) (i := 9) rfl (by decide) (by decide) (g := (mkF m 135 #[.val (.long x0), .second, .val (.long x1), .second, .val (.long x2), .second, .val (.int x3), .val (.int x4), .val (.int x5), .val (.ref xa), .unset, .unset, .unset, .unset, .unset, .unset, .unset, .unset, .unset] [(.int (F1_0 x1 (1 : Int32) (9 : Int32) x5)), (.int (9 : Int32)), (.ref xa)])) rfl rfl (hb hby at_135)
    refine own_st st24 ?_
    replace N := Fr.snoc X24 N (own_Ina I)
    replace X := X24
    replace I := I24
    clear st24 X24 I24
    show own_E p e below Qq T24 (mkF m 136 #[.val (.long x0), .second, .val (.long x1), .second, .val (.long x2), .second, .val (.int x3), .val (.int x4), .val (.int x5), .val (.ref xa), .unset, .unset, .unset, .unset, .unset, .unset, .unset, .unset, .unset] [])
    exact B136 _ _ x0 x1 x2 x3 x4 x5 xa (own_upd g_f 9 (nar .byte (F1_0 x1 (1 : Int32) (9 : Int32) x5))) X I N hF
  have B108 : ∀ (T : State) (L : List Loc) (x0 : Int64) (x1 : Int64) (x2 : Int64) (x3 : Int32) (x4 : Int32) (x5 : Int32) (xa : Addr) (g_f : (Nat → Int32)), Stand p l e room_1 s m #[(.long p0), (.long p1), (.long p2), (.int p3), (.int p4), (.int p5)] below meth c T L 1 20 → own_I Z n0 T.heap xa g_f → Fr n0 L → w = F0_108 x0 x1 x2 x3 x4 x5 g_f → own_E p e below Qq T (mkF m 108 #[.val (.long x0), .second, .val (.long x1), .second, .val (.long x2), .second, .val (.int x3), .val (.int x4), .val (.int x5), .val (.ref xa), .unset, .unset, .unset, .unset, .unset, .unset, .unset, .unset, .unset] []) := by
    intro T L x0 x1 x2 x3 x4 x5 xa g_f X I N hF
    refine own_st (fun _ => XS.aload X.here hx rfl (hb hby at_108) rfl rfl) ?_
    show own_E p e below Qq T (mkF m 110 #[.val (.long x0), .second, .val (.long x1), .second, .val (.long x2), .second, .val (.int x3), .val (.int x4), .val (.int x5), .val (.ref xa), .unset, .unset, .unset, .unset, .unset, .unset, .unset, .unset, .unset] [(.ref xa)])
    refine own_st (fun _ => XS.bipush X.here hx rfl (hb hby at_110)) ?_
    show own_E p e below Qq T (mkF m 112 #[.val (.long x0), .second, .val (.long x1), .second, .val (.long x2), .second, .val (.int x3), .val (.int x4), .val (.int x5), .val (.ref xa), .unset, .unset, .unset, .unset, .unset, .unset, .unset, .unset, .unset] [(.int (8 : Int32)), (.ref xa)])
    refine own_st (fun _ => XT.lloadN X.here hx rfl (hb hby at_112) rfl) ?_
    show own_E p e below Qq T (mkF m 113 #[.val (.long x0), .second, .val (.long x1), .second, .val (.long x2), .second, .val (.int x3), .val (.int x4), .val (.int x5), .val (.ref xa), .unset, .unset, .unset, .unset, .unset, .unset, .unset, .unset, .unset] [(.long x1), (.int (8 : Int32)), (.ref xa)])
    refine own_st (fun _ => XS.iconst X.here hx rfl (hb hby at_113)) ?_
    show own_E p e below Qq T (mkF m 114 #[.val (.long x0), .second, .val (.long x1), .second, .val (.long x2), .second, .val (.int x3), .val (.int x4), .val (.int x5), .val (.ref xa), .unset, .unset, .unset, .unset, .unset, .unset, .unset, .unset, .unset] [(.int (0 : Int32)), (.long x1), (.int (8 : Int32)), (.ref xa)])
    refine own_st (fun _ => XS.bipush X.here hx rfl (hb hby at_114)) ?_
    show own_E p e below Qq T (mkF m 116 #[.val (.long x0), .second, .val (.long x1), .second, .val (.long x2), .second, .val (.int x3), .val (.int x4), .val (.int x5), .val (.ref xa), .unset, .unset, .unset, .unset, .unset, .unset, .unset, .unset, .unset] [(.int (8 : Int32)), (.int (0 : Int32)), (.long x1), (.int (8 : Int32)), (.ref xa)])
    refine own_st (fun _ => XS.iload X.here hx rfl (hb hby at_116) rfl) ?_
    show own_E p e below Qq T (mkF m 118 #[.val (.long x0), .second, .val (.long x1), .second, .val (.long x2), .second, .val (.int x3), .val (.int x4), .val (.int x5), .val (.ref xa), .unset, .unset, .unset, .unset, .unset, .unset, .unset, .unset, .unset] [(.int x5), (.int (8 : Int32)), (.int (0 : Int32)), (.long x1), (.int (8 : Int32)), (.ref xa)])
    refine own_callS X hx hZ hown (hw _ (List.mem_of_getElem? (i := 1) rfl)) (hw _ (List.mem_of_getElem? (i := 2) rfl)) (hw _ (List.mem_of_getElem? (i := 3) rfl)) (hw _ (List.mem_of_getElem? (i := 4) rfl)) (by decide) (W := 2) (argsL := [(.long x1), (.int (0 : Int32)), (.int (8 : Int32)), (.int x5)]) (rest := [(.int (8 : Int32)), (.ref xa)]) (rm1 l Z a0 hw x1 (0 : Int32) (8 : Int32) x5 _ n0) (by decide) (by decide) (by decide) (by decide) rfl (by rw [hml]; rfl) (lenOf pd_1 rfl) rfl (by show 2 * 0 + _ ≤ _; exact Nat.le_of_eq rfl) (hb hby at_118) ?_
    intro T25 L25 v X' hq
    obtain ⟨rfl, N', e'⟩ := hq
    replace I := own_tr (P := fun h => own_I Z n0 h xa g_f) e' I
    replace N := Fr.app N N'
    replace X : Stand p l e room_1 s m #[(.long p0), (.long p1), (.long p2), (.int p3), (.int p4), (.int p5)] below meth c T25 _ 1 20 := X'
    clear X' N' e'
    show own_E p e below Qq T25 (mkF m 121 #[.val (.long x0), .second, .val (.long x1), .second, .val (.long x2), .second, .val (.int x3), .val (.int x4), .val (.int x5), .val (.ref xa), .unset, .unset, .unset, .unset, .unset, .unset, .unset, .unset, .unset] [(.int (F1_0 x1 (0 : Int32) (8 : Int32) x5)), (.int (8 : Int32)), (.ref xa)])
    obtain ⟨T26, X26, I26, st26⟩ := own_bastore X hx hZ I (j := (8 : Int32)) (i := 8) rfl (by decide) (by decide) (g := (mkF m 121 #[.val (.long x0), .second, .val (.long x1), .second, .val (.long x2), .second, .val (.int x3), .val (.int x4), .val (.int x5), .val (.ref xa), .unset, .unset, .unset, .unset, .unset, .unset, .unset, .unset, .unset] [(.int (F1_0 x1 (0 : Int32) (8 : Int32) x5)), (.int (8 : Int32)), (.ref xa)])) rfl rfl (hb hby at_121)
    refine own_st st26 ?_
    replace N := Fr.snoc X26 N (own_Ina I)
    replace X := X26
    replace I := I26
    clear st26 X26 I26
    show own_E p e below Qq T26 (mkF m 122 #[.val (.long x0), .second, .val (.long x1), .second, .val (.long x2), .second, .val (.int x3), .val (.int x4), .val (.int x5), .val (.ref xa), .unset, .unset, .unset, .unset, .unset, .unset, .unset, .unset, .unset] [])
    exact B122 _ _ x0 x1 x2 x3 x4 x5 xa (own_upd g_f 8 (nar .byte (F1_0 x1 (0 : Int32) (8 : Int32) x5))) X I N hF
  have B93 : ∀ (T : State) (L : List Loc) (x0 : Int64) (x1 : Int64) (x2 : Int64) (x3 : Int32) (x4 : Int32) (x5 : Int32) (xa : Addr) (g_f : (Nat → Int32)), Stand p l e room_1 s m #[(.long p0), (.long p1), (.long p2), (.int p3), (.int p4), (.int p5)] below meth c T L 1 20 → own_I Z n0 T.heap xa g_f → Fr n0 L → w = F0_93 x0 x1 x2 x3 x4 x5 g_f → own_E p e below Qq T (mkF m 93 #[.val (.long x0), .second, .val (.long x1), .second, .val (.long x2), .second, .val (.int x3), .val (.int x4), .val (.int x5), .val (.ref xa), .unset, .unset, .unset, .unset, .unset, .unset, .unset, .unset, .unset] []) := by
    intro T L x0 x1 x2 x3 x4 x5 xa g_f X I N hF
    refine own_st (fun _ => XS.aload X.here hx rfl (hb hby at_93) rfl rfl) ?_
    show own_E p e below Qq T (mkF m 95 #[.val (.long x0), .second, .val (.long x1), .second, .val (.long x2), .second, .val (.int x3), .val (.int x4), .val (.int x5), .val (.ref xa), .unset, .unset, .unset, .unset, .unset, .unset, .unset, .unset, .unset] [(.ref xa)])
    refine own_st (fun _ => XS.bipush X.here hx rfl (hb hby at_95)) ?_
    show own_E p e below Qq T (mkF m 97 #[.val (.long x0), .second, .val (.long x1), .second, .val (.long x2), .second, .val (.int x3), .val (.int x4), .val (.int x5), .val (.ref xa), .unset, .unset, .unset, .unset, .unset, .unset, .unset, .unset, .unset] [(.int (7 : Int32)), (.ref xa)])
    refine own_st (fun _ => XT.lloadN X.here hx rfl (hb hby at_97) rfl) ?_
    show own_E p e below Qq T (mkF m 98 #[.val (.long x0), .second, .val (.long x1), .second, .val (.long x2), .second, .val (.int x3), .val (.int x4), .val (.int x5), .val (.ref xa), .unset, .unset, .unset, .unset, .unset, .unset, .unset, .unset, .unset] [(.long x0), (.int (7 : Int32)), (.ref xa)])
    refine own_st (fun _ => XS.bipush X.here hx rfl (hb hby at_98)) ?_
    show own_E p e below Qq T (mkF m 100 #[.val (.long x0), .second, .val (.long x1), .second, .val (.long x2), .second, .val (.int x3), .val (.int x4), .val (.int x5), .val (.ref xa), .unset, .unset, .unset, .unset, .unset, .unset, .unset, .unset, .unset] [(.int (7 : Int32)), (.long x0), (.int (7 : Int32)), (.ref xa)])
    refine own_st (fun _ => XS.bipush X.here hx rfl (hb hby at_100)) ?_
    show own_E p e below Qq T (mkF m 102 #[.val (.long x0), .second, .val (.long x1), .second, .val (.long x2), .second, .val (.int x3), .val (.int x4), .val (.int x5), .val (.ref xa), .unset, .unset, .unset, .unset, .unset, .unset, .unset, .unset, .unset] [(.int (7 : Int32)), (.int (7 : Int32)), (.long x0), (.int (7 : Int32)), (.ref xa)])
    refine own_st (fun _ => XS.iload X.here hx rfl (hb hby at_102) rfl) ?_
    show own_E p e below Qq T (mkF m 104 #[.val (.long x0), .second, .val (.long x1), .second, .val (.long x2), .second, .val (.int x3), .val (.int x4), .val (.int x5), .val (.ref xa), .unset, .unset, .unset, .unset, .unset, .unset, .unset, .unset, .unset] [(.int x5), (.int (7 : Int32)), (.int (7 : Int32)), (.long x0), (.int (7 : Int32)), (.ref xa)])
    refine own_callS X hx hZ hown (hw _ (List.mem_of_getElem? (i := 1) rfl)) (hw _ (List.mem_of_getElem? (i := 2) rfl)) (hw _ (List.mem_of_getElem? (i := 3) rfl)) (hw _ (List.mem_of_getElem? (i := 4) rfl)) (by decide) (W := 2) (argsL := [(.long x0), (.int (7 : Int32)), (.int (7 : Int32)), (.int x5)]) (rest := [(.int (7 : Int32)), (.ref xa)]) (rm1 l Z a0 hw x0 (7 : Int32) (7 : Int32) x5 _ n0) (by decide) (by decide) (by decide) (by decide) rfl (by rw [hml]; rfl) (lenOf pd_1 rfl) rfl (by show 2 * 0 + _ ≤ _; exact Nat.le_of_eq rfl) (hb hby at_104) ?_
    intro T27 L27 v X' hq
    obtain ⟨rfl, N', e'⟩ := hq
    replace I := own_tr (P := fun h => own_I Z n0 h xa g_f) e' I
    replace N := Fr.app N N'
    replace X : Stand p l e room_1 s m #[(.long p0), (.long p1), (.long p2), (.int p3), (.int p4), (.int p5)] below meth c T27 _ 1 20 := X'
    clear X' N' e'
    show own_E p e below Qq T27 (mkF m 107 #[.val (.long x0), .second, .val (.long x1), .second, .val (.long x2), .second, .val (.int x3), .val (.int x4), .val (.int x5), .val (.ref xa), .unset, .unset, .unset, .unset, .unset, .unset, .unset, .unset, .unset] [(.int (F1_0 x0 (7 : Int32) (7 : Int32) x5)), (.int (7 : Int32)), (.ref xa)])
    obtain ⟨T28, X28, I28, st28⟩ := own_bastore X hx hZ I (j := (7 : Int32)) (i := 7) rfl (by decide) (by decide) (g := (mkF m 107 #[.val (.long x0), .second, .val (.long x1), .second, .val (.long x2), .second, .val (.int x3), .val (.int x4), .val (.int x5), .val (.ref xa), .unset, .unset, .unset, .unset, .unset, .unset, .unset, .unset, .unset] [(.int (F1_0 x0 (7 : Int32) (7 : Int32) x5)), (.int (7 : Int32)), (.ref xa)])) rfl rfl (hb hby at_107)
    refine own_st st28 ?_
    replace N := Fr.snoc X28 N (own_Ina I)
    replace X := X28
    replace I := I28
    clear st28 X28 I28
    show own_E p e below Qq T28 (mkF m 108 #[.val (.long x0), .second, .val (.long x1), .second, .val (.long x2), .second, .val (.int x3), .val (.int x4), .val (.int x5), .val (.ref xa), .unset, .unset, .unset, .unset, .unset, .unset, .unset, .unset, .unset] [])
    exact B108 _ _ x0 x1 x2 x3 x4 x5 xa (own_upd g_f 7 (nar .byte (F1_0 x0 (7 : Int32) (7 : Int32) x5))) X I N hF
  have B78 : ∀ (T : State) (L : List Loc) (x0 : Int64) (x1 : Int64) (x2 : Int64) (x3 : Int32) (x4 : Int32) (x5 : Int32) (xa : Addr) (g_f : (Nat → Int32)), Stand p l e room_1 s m #[(.long p0), (.long p1), (.long p2), (.int p3), (.int p4), (.int p5)] below meth c T L 1 20 → own_I Z n0 T.heap xa g_f → Fr n0 L → w = F0_78 x0 x1 x2 x3 x4 x5 g_f → own_E p e below Qq T (mkF m 78 #[.val (.long x0), .second, .val (.long x1), .second, .val (.long x2), .second, .val (.int x3), .val (.int x4), .val (.int x5), .val (.ref xa), .unset, .unset, .unset, .unset, .unset, .unset, .unset, .unset, .unset] []) := by
    intro T L x0 x1 x2 x3 x4 x5 xa g_f X I N hF
    refine own_st (fun _ => XS.aload X.here hx rfl (hb hby at_78) rfl rfl) ?_
    show own_E p e below Qq T (mkF m 80 #[.val (.long x0), .second, .val (.long x1), .second, .val (.long x2), .second, .val (.int x3), .val (.int x4), .val (.int x5), .val (.ref xa), .unset, .unset, .unset, .unset, .unset, .unset, .unset, .unset, .unset] [(.ref xa)])
    refine own_st (fun _ => XS.bipush X.here hx rfl (hb hby at_80)) ?_
    show own_E p e below Qq T (mkF m 82 #[.val (.long x0), .second, .val (.long x1), .second, .val (.long x2), .second, .val (.int x3), .val (.int x4), .val (.int x5), .val (.ref xa), .unset, .unset, .unset, .unset, .unset, .unset, .unset, .unset, .unset] [(.int (6 : Int32)), (.ref xa)])
    refine own_st (fun _ => XT.lloadN X.here hx rfl (hb hby at_82) rfl) ?_
    show own_E p e below Qq T (mkF m 83 #[.val (.long x0), .second, .val (.long x1), .second, .val (.long x2), .second, .val (.int x3), .val (.int x4), .val (.int x5), .val (.ref xa), .unset, .unset, .unset, .unset, .unset, .unset, .unset, .unset, .unset] [(.long x0), (.int (6 : Int32)), (.ref xa)])
    refine own_st (fun _ => XS.bipush X.here hx rfl (hb hby at_83)) ?_
    show own_E p e below Qq T (mkF m 85 #[.val (.long x0), .second, .val (.long x1), .second, .val (.long x2), .second, .val (.int x3), .val (.int x4), .val (.int x5), .val (.ref xa), .unset, .unset, .unset, .unset, .unset, .unset, .unset, .unset, .unset] [(.int (6 : Int32)), (.long x0), (.int (6 : Int32)), (.ref xa)])
    refine own_st (fun _ => XS.bipush X.here hx rfl (hb hby at_85)) ?_
    show own_E p e below Qq T (mkF m 87 #[.val (.long x0), .second, .val (.long x1), .second, .val (.long x2), .second, .val (.int x3), .val (.int x4), .val (.int x5), .val (.ref xa), .unset, .unset, .unset, .unset, .unset, .unset, .unset, .unset, .unset] [(.int (6 : Int32)), (.int (6 : Int32)), (.long x0), (.int (6 : Int32)), (.ref xa)])
    refine own_st (fun _ => XS.iload X.here hx rfl (hb hby at_87) rfl) ?_
    show own_E p e below Qq T (mkF m 89 #[.val (.long x0), .second, .val (.long x1), .second, .val (.long x2), .second, .val (.int x3), .val (.int x4), .val (.int x5), .val (.ref xa), .unset, .unset, .unset, .unset, .unset, .unset, .unset, .unset, .unset] [(.int x5), (.int (6 : Int32)), (.int (6 : Int32)), (.long x0), (.int (6 : Int32)), (.ref xa)])
    refine own_callS X hx hZ hown (hw _ (List.mem_of_getElem? (i := 1) rfl)) (hw _ (List.mem_of_getElem? (i := 2) rfl)) (hw _ (List.mem_of_getElem? (i := 3) rfl)) (hw _ (List.mem_of_getElem? (i := 4) rfl)) (by decide) (W := 2) (argsL := [(.long x0), (.int (6 : Int32)), (.int (6 : Int32)), (.int x5)]) (rest := [(.int (6 : Int32)), (.ref xa)]) (rm1 l Z a0 hw x0 (6 : Int32) (6 : Int32) x5 _ n0) (by decide) (by decide) (by decide) (by decide) rfl (by rw [hml]; rfl) (lenOf pd_1 rfl) rfl (by show 2 * 0 + _ ≤ _; exact Nat.le_of_eq rfl) (hb hby at_89) ?_
    intro T29 L29 v X' hq
    obtain ⟨rfl, N', e'⟩ := hq
    replace I := own_tr (P := fun h => own_I Z n0 h xa g_f) e' I
    replace N := Fr.app N N'
    replace X : Stand p l e room_1 s m #[(.long p0), (.long p1), (.long p2), (.int p3), (.int p4), (.int p5)] below meth c T29 _ 1 20 := X'
    clear X' N' e'
    show own_E p e below Qq T29 (mkF m 92 #[.val (.long x0), .second, .val (.long x1), .second, .val (.long x2), .second, .val (.int x3), .val (.int x4), .val (.int x5), .val (.ref xa), .unset, .unset, .unset, .unset, .unset, .unset, .unset, .unset, .unset] [(.int (F1_0 x0 (6 : Int32) (6 : Int32) x5)), (.int (6 : Int32)), (.ref xa)])
    obtain ⟨T30, X30, I30, st30⟩ := own_bastore X hx hZ I (j := (6 : Int32)) (i := 6) rfl (by decide) (by decide) (g := (mkF m 92 #[.val (.long x0), .second, .val (.long x1), .second, .val (.long x2), .second, .val (.int x3), .val (.int x4), .val (.int x5), .val (.ref xa), .unset, .unset, .unset, .unset, .unset, .unset, .unset, .unset, .unset] [(.int (F1_0 x0 (6 : Int32) (6 : Int32) x5)), (.int (6 : Int32)), (.ref xa)])) rfl rfl (hb hby at_92)
    refine own_st st30 ?_
    replace N := Fr.snoc X30 N (own_Ina I)
    replace X := X30
    replace I := I30
    clear st30 X30 I30
    show own_E p e below Qq T30 (mkF m 93 #[.val (.long x0), .second, .val (.long x1), .second, .val (.long x2), .second, .val (.int x3), .val (.int x4), .val (.int x5), .val (.ref xa), .unset, .unset, .unset, .unset, .unset, .unset, .unset, .unset, .unset] [])
    exact B93 _ _ x0 x1 x2 x3 x4 x5 xa (own_upd g_f 6 (nar .byte (F1_0 x0 (6 : Int32) (6 : Int32) x5))) X I N hF
  have B66 : ∀ (T : State) (L : List Loc) (x0 : Int64) (x1 : Int64) (x2 : Int64) (x3 : Int32) (x4 : Int32) (x5 : Int32) (xa : Addr) (g_f : (Nat → Int32)), Stand p l e room_1 s m #[(.long p0), (.long p1), (.long p2), (.int p3), (.int p4), (.int p5)] below meth c T L 1 20 → own_I Z n0 T.heap xa g_f → Fr n0 L → w = F0_66 x0 x1 x2 x3 x4 x5 g_f → own_E p e below Qq T (mkF m 66 #[.val (.long x0), .second, .val (.long x1), .second, .val (.long x2), .second, .val (.int x3), .val (.int x4), .val (.int x5), .val (.ref xa), .unset, .unset, .unset, .unset, .unset, .unset, .unset, .unset, .unset] []) := by
    intro T L x0 x1 x2 x3 x4 x5 xa g_f X I N hF
    refine own_st (fun _ => XS.aload X.here hx rfl (hb hby at_66) rfl rfl) ?_
    show own_E p e below Qq T (mkF m 68 #[.val (.long x0), .second, .val (.long x1), .second, .val (.long x2), .second, .val (.int x3), .val (.int x4), .val (.int x5), .val (.ref xa), .unset, .unset, .unset, .unset, .unset, .unset, .unset, .unset, .unset] [(.ref xa)])
    refine own_st (fun _ => XS.iconst X.here hx rfl (hb hby at_68)) ?_
    show own_E p e below Qq T (mkF m 69 #[.val (.long x0), .second, .val (.long x1), .second, .val (.long x2), .second, .val (.int x3), .val (.int x4), .val (.int x5), .val (.ref xa), .unset, .unset, .unset, .unset, .unset, .unset, .unset, .unset, .unset] [(.int (5 : Int32)), (.ref xa)])
    refine own_st (fun _ => XT.lloadN X.here hx rfl (hb hby at_69) rfl) ?_
    show own_E p e below Qq T (mkF m 70 #[.val (.long x0), .second, .val (.long x1), .second, .val (.long x2), .second, .val (.int x3), .val (.int x4), .val (.int x5), .val (.ref xa), .unset, .unset, .unset, .unset, .unset, .unset, .unset, .unset, .unset] [(.long x0), (.int (5 : Int32)), (.ref xa)])
    refine own_st (fun _ => XS.iconst X.here hx rfl (hb hby at_70)) ?_
    show own_E p e below Qq T (mkF m 71 #[.val (.long x0), .second, .val (.long x1), .second, .val (.long x2), .second, .val (.int x3), .val (.int x4), .val (.int x5), .val (.ref xa), .unset, .unset, .unset, .unset, .unset, .unset, .unset, .unset, .unset] [(.int (5 : Int32)), (.long x0), (.int (5 : Int32)), (.ref xa)])
    refine own_st (fun _ => XS.iconst X.here hx rfl (hb hby at_71)) ?_
    show own_E p e below Qq T (mkF m 72 #[.val (.long x0), .second, .val (.long x1), .second, .val (.long x2), .second, .val (.int x3), .val (.int x4), .val (.int x5), .val (.ref xa), .unset, .unset, .unset, .unset, .unset, .unset, .unset, .unset, .unset] [(.int (5 : Int32)), (.int (5 : Int32)), (.long x0), (.int (5 : Int32)), (.ref xa)])
    refine own_st (fun _ => XS.iload X.here hx rfl (hb hby at_72) rfl) ?_
    show own_E p e below Qq T (mkF m 74 #[.val (.long x0), .second, .val (.long x1), .second, .val (.long x2), .second, .val (.int x3), .val (.int x4), .val (.int x5), .val (.ref xa), .unset, .unset, .unset, .unset, .unset, .unset, .unset, .unset, .unset] [(.int x5), (.int (5 : Int32)), (.int (5 : Int32)), (.long x0), (.int (5 : Int32)), (.ref xa)])
    refine own_callS X hx hZ hown (hw _ (List.mem_of_getElem? (i := 1) rfl)) (hw _ (List.mem_of_getElem? (i := 2) rfl)) (hw _ (List.mem_of_getElem? (i := 3) rfl)) (hw _ (List.mem_of_getElem? (i := 4) rfl)) (by decide) (W := 2) (argsL := [(.long x0), (.int (5 : Int32)), (.int (5 : Int32)), (.int x5)]) (rest := [(.int (5 : Int32)), (.ref xa)]) (rm1 l Z a0 hw x0 (5 : Int32) (5 : Int32) x5 _ n0) (by decide) (by decide) (by decide) (by decide) rfl (by rw [hml]; rfl) (lenOf pd_1 rfl) rfl (by show 2 * 0 + _ ≤ _; exact Nat.le_of_eq rfl) (hb hby at_74) ?_
    intro T31 L31 v X' hq
    obtain ⟨rfl, N', e'⟩ := hq
    replace I := own_tr (P := fun h => own_I Z n0 h xa g_f) e' I
    replace N := Fr.app N N'
    replace X : Stand p l e room_1 s m #[(.long p0), (.long p1), (.long p2), (.int p3), (.int p4), (.int p5)] below meth c T31 _ 1 20 := X'
    clear X' N' e'
    show own_E p e below Qq T31 (mkF m 77 #[.val (.long x0), .second, .val (.long x1), .second, .val (.long x2), .second, .val (.int x3), .val (.int x4), .val (.int x5), .val (.ref xa), .unset, .unset, .unset, .unset, .unset, .unset, .unset, .unset, .unset] [(.int (F1_0 x0 (5 : Int32) (5 : Int32) x5)), (.int (5 : Int32)), (.ref xa)])
    obtain ⟨T32, X32, I32, st32⟩ := own_bastore X hx hZ I (j := (5 : Int32)) (i := 5) rfl (by decide) (by decide) (g := (mkF m 77 #[.val (.long x0), .second, .val (.long x1), .second, .val (.long x2), .second, .val (.int x3), .val (.int x4), .val (.int x5), .val (.ref xa), .unset, .unset, .unset, .unset, .unset, .unset, .unset, .unset, .unset] [(.int (F1_0 x0 (5 : Int32) (5 : Int32) x5)), (.int (5 : Int32)), (.ref xa)])) rfl rfl (hb hby at_77)
    refine own_st st32 ?_
    replace N := Fr.snoc X32 N (own_Ina I)
    replace X := X32
    replace I := I32
    clear st32 X32 I32
    show own_E p e below Qq T32 (mkF m 78 #[.val (.long x0), .second, .val (.long x1), .second, .val (.long x2), .second, .val (.int x3), .val (.int x4), .val (.int x5), .val (.ref xa), .unset, .unset, .unset, .unset, .unset, .unset, .unset, .unset, .unset] [])
    exact B78 _ _ x0 x1 x2 x3 x4 x5 xa (own_upd g_f 5 (nar .byte (F1_0 x0 (5 : Int32) (5 : Int32) x5))) X I N hF
  have B54 : ∀ (T : State) (L : List Loc) (x0 : Int64) (x1 : Int64) (x2 : Int64) (x3 : Int32) (x4 : Int32) (x5 : Int32) (xa : Addr) (g_f : (Nat → Int32)), Stand p l e room_1 s m #[(.long p0), (.long p1), (.long p2), (.int p3), (.int p4), (.int p5)] below meth c T L 1 20 → own_I Z n0 T.heap xa g_f → Fr n0 L → w = F0_54 x0 x1 x2 x3 x4 x5 g_f → own_E p e below Qq T (mkF m 54 #[.val (.long x0), .second, .val (.long x1), .second, .val (.long x2), .second, .val (.int x3), .val (.int x4), .val (.int x5), .val (.ref xa), .unset, .unset, .unset, .unset, .unset, .unset, .unset, .unset, .unset] []) := by
    intro T L x0 x1 x2 x3 x4 x5 xa g_f X I N hF
    refine own_st (fun _ => XS.aload X.here hx rfl (hb hby at_54) rfl rfl) ?_
    show own_E p e below Qq T (mkF m 56 #[.val (.long x0), .second, .val (.long x1), .second, .val (.long x2), .second, .val (.int x3), .val (.int x4), .val (.int x5), .val (.ref xa), .unset, .unset, .unset, .unset, .unset, .unset, .unset, .unset, .unset] [(.ref xa)])
    refine own_st (fun _ => XS.iconst X.here hx rfl (hb hby at_56)) ?_
    show own_E p e below Qq T (mkF m 57 #[.val (.long x0), .second, .val (.long x1), .second, .val (.long x2), .second, .val (.int x3), .val (.int x4), .val (.int x5), .val (.ref xa), .unset, .unset, .unset, .unset, .unset, .unset, .unset, .unset, .unset] [(.int (4 : Int32)), (.ref xa)])
    refine own_st (fun _ => XT.lloadN X.here hx rfl (hb hby at_57) rfl) ?_
    show own_E p e below Qq T (mkF m 58 #[.val (.long x0), .second, .val (.long x1), .second, .val (.long x2), .second, .val (.int x3), .val (.int x4), .val (.int x5), .val (.ref xa), .unset, .unset, .unset, .unset, .unset, .unset, .unset, .unset, .unset] [(.long x0), (.int (4 : Int32)), (.ref xa)])
    refine own_st (fun _ => XS.iconst X.here hx rfl (hb hby at_58)) ?_
    show own_E p e below Qq T (mkF m 59 #[.val (.long x0), .second, .val (.long x1), .second, .val (.long x2), .second, .val (.int x3), .val (.int x4), .val (.int x5), .val (.ref xa), .unset, .unset, .unset, .unset, .unset, .unset, .unset, .unset, .unset] [(.int (4 : Int32)), (.long x0), (.int (4 : Int32)), (.ref xa)])
    refine own_st (fun _ => XS.iconst X.here hx rfl (hb hby at_59)) ?_
    show own_E p e below Qq T (mkF m 60 #[.val (.long x0), .second, .val (.long x1), .second, .val (.long x2), .second, .val (.int x3), .val (.int x4), .val (.int x5), .val (.ref xa), .unset, .unset, .unset, .unset, .unset, .unset, .unset, .unset, .unset] [(.int (4 : Int32)), (.int (4 : Int32)), (.long x0), (.int (4 : Int32)), (.ref xa)])
    refine own_st (fun _ => XS.iload X.here hx rfl (hb hby at_60) rfl) ?_
    show own_E p e below Qq T (mkF m 62 #[.val (.long x0), .second, .val (.long x1), .second, .val (.long x2), .second, .val (.int x3), .val (.int x4), .val (.int x5), .val (.ref xa), .unset, .unset, .unset, .unset, .unset, .unset, .unset, .unset, .unset] [(.int x5), (.int (4 : Int32)), (.int (4 : Int32)), (.long x0), (.int (4 : Int32)), (.ref xa)])
    refine own_callS X hx hZ hown (hw _ (List.mem_of_getElem? (i := 1) rfl)) (hw _ (List.mem_of_getElem? (i := 2) rfl)) (hw _ (List.mem_of_getElem? (i := 3) rfl)) (hw _ (List.mem_of_getElem? (i := 4) rfl)) (by decide) (W := 2) (argsL := [(.long x0), (.int (4 : Int32)), (.int (4 : Int32)), (.int x5)]) (rest := [(.int (4 : Int32)), (.ref xa)]) (rm1 l Z a0 hw x0 (4 : Int32) (4 : Int32) x5 _ n0) (by decide) (by decide) (by decide) (by decide) rfl (by rw [hml]; rfl) (lenOf pd_1 rfl) rfl (by show 2 * 0 + _ ≤ _; exact Nat.le_of_eq rfl) (hb hby at_62) ?_
    intro T33 L33 v X' hq
    obtain ⟨rfl, N', e'⟩ := hq
    replace I := own_tr (P := fun h => own_I Z n0 h xa g_f) e' I
    replace N := Fr.app N N'
    replace X : Stand p l e room_1 s m #[(.long p0), (.long p1), (.long p2), (.int p3), (.int p4), (.int p5)] below meth c T33 _ 1 20 := X'
    clear X' N' e'
    show own_E p e below Qq T33 (mkF m 65 #[.val (.long x0), .second, .val (.long x1), .second, .val (.long x2), .second, .val (.int x3), .val (.int x4), .val (.int x5), .val (.ref xa), .unset, .unset, .unset, .unset, .unset, .unset, .unset, .unset, .unset] [(.int (F1_0 x0 (4 : Int32) (4 : Int32) x5)), (.int (4 : Int32)), (.ref xa)])
    obtain ⟨T34, X34, I34, st34⟩ := own_bastore X hx hZ I (j := (4 : Int32)) (i := 4) rfl (by decide) (by decide) (g := (mkF m 65 #[.val (.long x0), .second, .val (.long x1), .second, .val (.long x2), .second, .val (.int x3), .val (.int x4), .val (.int x5), .val (.ref xa), .unset, .unset, .unset, .unset, .unset, .unset, .unset, .unset, .unset] [(.int (F1_0 x0 (4 : Int32) (4 : Int32) x5)), (.int (4 : Int32)), (.ref xa)])) rfl rfl (hb hby at_65)
    refine own_st st34 ?_
    replace N := Fr.snoc X34 N (own_Ina I)
    replace X := X34
    replace I := I34
    clear st34 X34 I34
    show own_E p e below Qq T34 (mkF m 66 #[.val (.long x0), .second, .val (.long x1), .second, .val (.long x2), .second, .val (.int x3), .val (.int x4), .val (.int x5), .val (.ref xa), .unset, .unset, .unset, .unset, .unset, .unset, .unset, .unset, .unset] [])
    exact B66 _ _ x0 x1 x2 x3 x4 x5 xa (own_upd g_f 4 (nar .byte (F1_0 x0 (4 : Int32) (4 : Int32) x5))) X I N hF
  have B42 : ∀ (T : State) (L : List Loc) (x0 : Int64) (x1 : Int64) (x2 : Int64) (x3 : Int32) (x4 : Int32) (x5 : Int32) (xa : Addr) (g_f : (Nat → Int32)), Stand p l e room_1 s m #[(.long p0), (.long p1), (.long p2), (.int p3), (.int p4), (.int p5)] below meth c T L 1 20 → own_I Z n0 T.heap xa g_f → Fr n0 L → w = F0_42 x0 x1 x2 x3 x4 x5 g_f → own_E p e below Qq T (mkF m 42 #[.val (.long x0), .second, .val (.long x1), .second, .val (.long x2), .second, .val (.int x3), .val (.int x4), .val (.int x5), .val (.ref xa), .unset, .unset, .unset, .unset, .unset, .unset, .unset, .unset, .unset] []) := by
    intro T L x0 x1 x2 x3 x4 x5 xa g_f X I N hF
    refine own_st (fun _ => XS.aload X.here hx rfl (hb hby at_42) rfl rfl) ?_
    show own_E p e below Qq T (mkF m 44 #[.val (.long x0), .second, .val (.long x1), .second, .val (.long x2), .second, .val (.int x3), .val (.int x4), .val (.int x5), .val (.ref xa), .unset, .unset, .unset, .unset, .unset, .unset, .unset, .unset, .unset] [(.ref xa)])
    refine own_st (fun _ => XS.iconst X.here hx rfl (hb hby at_44)) ?_
    show own_E p e below Qq T (mkF m 45 #[.val (.long x0), .second, .val (.long x1), .second, .val (.long x2), .second, .val (.int x3), .val (.int x4), .val (.int x5), .val (.ref xa), .unset, .unset, .unset, .unset, .unset, .unset, .unset, .unset, .unset] [(.int (3 : Int32)), (.ref xa)])
    refine own_st (fun _ => XT.lloadN X.here hx rfl (hb hby at_45) rfl) ?_
    show own_E p e below Qq T (mkF m 46 #[.val (.long x0), .second, .val (.long x1), .second, .val (.long x2), .second, .val (.int x3), .val (.int x4), .val (.int x5), .val (.ref xa), .unset, .unset, .unset, .unset, .unset, .unset, .unset, .unset, .unset] [(.long x0), (.int (3 : Int32)), (.ref xa)])
    refine own_st (fun _ => XS.iconst X.here hx rfl (hb hby at_46)) ?_
    show own_E p e below Qq T (mkF m 47 #[.val (.long x0), .second, .val (.long x1), .second, .val (.long x2), .second, .val (.int x3), .val (.int x4), .val (.int x5), .val (.ref xa), .unset, .unset, .unset, .unset, .unset, .unset, .unset, .unset, .unset] [(.int (3 : Int32)), (.long x0), (.int (3 : Int32)), (.ref xa)])
    refine own_st (fun _ => XS.iconst X.here hx rfl (hb hby at_47)) ?_
    show own_E p e below Qq T (mkF m 48 #[.val (.long x0), .second, .val (.long x1), .second, .val (.long x2), .second, .val (.int x3), .val (.int x4), .val (.int x5), .val (.ref xa), .unset, .unset, .unset, .unset, .unset, .unset, .unset, .unset, .unset] [(.int (3 : Int32)), (.int (3 : Int32)), (.long x0), (.int (3 : Int32)), (.ref xa)])
    refine own_st (fun _ => XS.iload X.here hx rfl (hb hby at_48) rfl) ?_
    show own_E p e below Qq T (mkF m 50 #[.val (.long x0), .second, .val (.long x1), .second, .val (.long x2), .second, .val (.int x3), .val (.int x4), .val (.int x5), .val (.ref xa), .unset, .unset, .unset, .unset, .unset, .unset, .unset, .unset, .unset] [(.int x5), (.int (3 : Int32)), (.int (3 : Int32)), (.long x0), (.int (3 : Int32)), (.ref xa)])
    refine own_callS X hx hZ hown (hw _ (List.mem_of_getElem? (i := 1) rfl)) (hw _ (List.mem_of_getElem? (i := 2) rfl)) (hw _ (List.mem_of_getElem? (i := 3) rfl)) (hw _ (List.mem_of_getElem? (i := 4) rfl)) (by decide) (W := 2) (argsL := [(.long x0), (.int (3 : Int32)), (.int (3 : Int32)), (.int x5)]) (rest := [(.int (3 : Int32)), (.ref xa)]) (rm1 l Z a0 hw x0 (3 : Int32) (3 : Int32) x5 _ n0) (by decide) (by decide) (by decide) (by decide) rfl (by rw [hml]; rfl) (lenOf pd_1 rfl) rfl (by show 2 * 0 + _ ≤ _; exact Nat.le_of_eq rfl) (hb hby at_50) ?_
    intro T35 L35 v X' hq
    obtain ⟨rfl, N', e'⟩ := hq
    replace I := own_tr (P := fun h => own_I Z n0 h xa g_f) e' I
    replace N := Fr.app N N'
    replace X : Stand p l e room_1 s m #[(.long p0), (.long p1), (.long p2), (.int p3), (.int p4), (.int p5)] below meth c T35 _ 1 20 := X'
    clear X' N' e'
    show own_E p e below Qq T35 (mkF m 53 #[.val (.long x0), .second, .val (.long x1), .second, .val (.long x2), .second, .val (.int x3), .val (.int x4), .val (.int x5), .val (.ref xa), .unset, .unset, .unset, .unset, .unset, .unset, .unset, .unset, .unset] [(.int (F1_0 x0 (3 : Int32) (3 : Int32) x5)), (.int (3 : Int32)), (.ref xa)])
    obtain ⟨T36, X36, I36, st36⟩ := own_bastore X hx hZ I (j := (3 : Int32)) (i := 3) rfl (by decide) (by decide) (g := (mkF m 53 #[.val (.long x0), .second, .val (.long x1), .second, .val (.long x2), .second, .val (.int x3), .val (.int x4), .val (.int x5), .val (.ref xa), .unset, .unset, .unset, .unset, .unset, .unset, .unset, .unset, .unset] [(.int (F1_0 x0 (3 : Int32) (3 : Int32) x5)), (.int (3 : Int32)), (.ref xa)])) rfl rfl (hb hby at_53)
    refine own_st st36 ?_
    replace N := Fr.snoc X36 N (own_Ina I)
    replace X := X36
    replace I := I36
    clear st36 X36 I36
    show own_E p e below Qq T36 (mkF m 54 #[.val (.long x0), .second, .val (.long x1), .second, .val (.long x2), .second, .val (.int x3), .val (.int x4), .val (.int x5), .val (.ref xa), .unset, .unset, .unset, .unset, .unset, .unset, .unset, .unset, .unset] [])
    exact B54 _ _ x0 x1 x2 x3 x4 x5 xa (own_upd g_f 3 (nar .byte (F1_0 x0 (3 : Int32) (3 : Int32) x5))) X I N hF
  have B30 : ∀ (T : State) (L : List Loc) (x0 : Int64) (x1 : Int64) (x2 : Int64) (x3 : Int32) (x4 : Int32) (x5 : Int32) (xa : Addr) (g_f : (Nat → Int32)), Stand p l e room_1 s m #[(.long p0), (.long p1), (.long p2), (.int p3), (.int p4), (.int p5)] below meth c T L 1 20 → own_I Z n0 T.heap xa g_f → Fr n0 L → w = F0_30 x0 x1 x2 x3 x4 x5 g_f → own_E p e below Qq T (mkF m 30 #[.val (.long x0), .second, .val (.long x1), .second, .val (.long x2), .second, .val (.int x3), .val (.int x4), .val (.int x5), .val (.ref xa), .unset, .unset, .unset, .unset, .unset, .unset, .unset, .unset, .unset] []) := by
    intro T L x0 x1 x2 x3 x4 x5 xa g_f X I N hF
    refine own_st (fun _ => XS.aload X.here hx rfl (hb hby at_30) rfl rfl) ?_
    show own_E p e below Qq T (mkF m 32 #[.val (.long x0), .second, .val (.long x1), .second, .val (.long x2), .second, .val (.int x3), .val (.int x4), .val (.int x5), .val (.ref xa), .unset, .unset, .unset, .unset, .unset, .unset, .unset, .unset, .unset] [(.ref xa)])
    refine own_st (fun _ => XS.iconst X.here hx rfl (hb hby at_32)) ?_
    show own_E p e below Qq T (mkF m 33 #[.val (.long x0), .second, .val (.long x1), .second, .val (.long x2), .second, .val (.int x3), .val (.int x4), .val (.int x5), .val (.ref xa), .unset, .unset, .unset, .unset, .unset, .unset, .unset, .unset, .unset] [(.int (2 : Int32)), (.ref xa)])
    refine own_st (fun _ => XT.lloadN X.here hx rfl (hb hby at_33) rfl) ?_
    show own_E p e below Qq T (mkF m 34 #[.val (.long x0), .second, .val (.long x1), .second, .val (.long x2), .second, .val (.int x3), .val (.int x4), .val (.int x5), .val (.ref xa), .unset, .unset, .unset, .unset, .unset, .unset, .unset, .unset, .unset] [(.long x0), (.int (2 : Int32)), (.ref xa)])
    refine own_st (fun _ => XS.iconst X.here hx rfl (hb hby at_34)) ?_
    show own_E p e below Qq T (mkF m 35 #[.val (.long x0), .second, .val (.long x1), .second, .val (.long x2), .second, .val (.int x3), .val (.int x4), .val (.int x5), .val (.ref xa), .unset, .unset, .unset, .unset, .unset, .unset, .unset, .unset, .unset] [(.int (2 : Int32)), (.long x0), (.int (2 : Int32)), (.ref xa)])
    refine own_st (fun _ => XS.iconst X.here hx rfl (hb hby at_35)) ?_
    show own_E p e below Qq T (mkF m 36 #[.val (.long x0), .second, .val (.long x1), .second, .val (.long x2), .second, .val (.int x3), .val (.int x4), .val (.int x5), .val (.ref xa), .unset, .unset, .unset, .unset, .unset, .unset, .unset, .unset, .unset] [(.int (2 : Int32)), (.int (2 : Int32)), (.long x0), (.int (2 : Int32)), (.ref xa)])
    refine own_st (fun _ => XS.iload X.here hx rfl (hb hby at_36) rfl) ?_
    show own_E p e below Qq T (mkF m 38 #[.val (.long x0), .second, .val (.long x1), .second, .val (.long x2), .second, .val (.int x3), .val (.int x4), .val (.int x5), .val (.ref xa), .unset, .unset, .unset, .unset, .unset, .unset, .unset, .unset, .unset] [(.int x5), (.int (2 : Int32)), (.int (2 : Int32)), (.long x0), (.int (2 : Int32)), (.ref xa)])
    refine own_callS X hx hZ hown (hw _ (List.mem_of_getElem? (i := 1) rfl)) (hw _ (List.mem_of_getElem? (i := 2) rfl)) (hw _ (List.mem_of_getElem? (i := 3) rfl)) (hw _ (List.mem_of_getElem? (i := 4) rfl)) (by decide) (W := 2) (argsL := [(.long x0), (.int (2 : Int32)), (.int (2 : Int32)), (.int x5)]) (rest := [(.int (2 : Int32)), (.ref xa)]) (rm1 l Z a0 hw x0 (2 : Int32) (2 : Int32) x5 _ n0) (by decide) (by decide) (by decide) (by decide) rfl (by rw [hml]; rfl) (lenOf pd_1 rfl) rfl (by show 2 * 0 + _ ≤ _; exact Nat.le_of_eq rfl) (hb hby at_38) ?_
    intro T37 L37 v X' hq
    obtain ⟨rfl, N', e'⟩ := hq
    replace I := own_tr (P := fun h => own_I Z n0 h xa g_f) e' I
    replace N := Fr.app N N'
    replace X : Stand p l e room_1 s m #[(.long p0), (.long p1), (.long p2), (.int p3), (.int p4), (.int p5)] below meth c T37 _ 1 20 := X'
    clear X' N' e'
    show own_E p e below Qq T37 (mkF m 41 #[.val (.long x0), .second, .val (.long x1), .second, .val (.long x2), .second, .val (.int x3), .val (.int x4), .val (.int x5), .val (.ref xa), .unset, .unset, .unset, .unset, .unset, .unset, .unset, .unset, .unset] [(.int (F1_0 x0 (2 : Int32) (2 : Int32) x5)), (.int (2 : Int32)), (.ref xa)])
    obtain ⟨T38, X38, I38, st38⟩ := own_bastore X hx hZ I (j := (2 : Int32)) (i := 2) rfl (by decide) (by decide) (g := (mkF m 41 #[.val (.long x0), .second, .val (.long x1), .second, .val (.long x2), .second, .val (.int x3), .val (.int x4), .val (.int x5), .val (.ref xa), .unset, .unset, .unset, .unset, .unset, .unset, .unset, .unset, .unset] [(.int (F1_0 x0 (2 : Int32) (2 : Int32) x5)), (.int (2 : Int32)), (.ref xa)])) rfl rfl (hb hby at_41)
    refine own_st st38 ?_
    replace N := Fr.snoc X38 N (own_Ina I)
    replace X := X38
    replace I := I38
    clear st38 X38 I38
    show own_E p e below Qq T38 (mkF m 42 #[.val (.long x0), .second, .val (.long x1), .second, .val (.long x2), .second, .val (.int x3), .val (.int x4), .val (.int x5), .val (.ref xa), .unset, .unset, .unset, .unset, .unset, .unset, .unset, .unset, .unset] [])
    exact B42 _ _ x0 x1 x2 x3 x4 x5 xa (own_upd g_f 2 (nar .byte (F1_0 x0 (2 : Int32) (2 : Int32) x5))) X I N hF
  have B18 : ∀ (T : State) (L : List Loc) (x0 : Int64) (x1 : Int64) (x2 : Int64) (x3 : Int32) (x4 : Int32) (x5 : Int32) (xa : Addr) (g_f : (Nat → Int32)), Stand p l e room_1 s m #[(.long p0), (.long p1), (.long p2), (.int p3), (.int p4), (.int p5)] below meth c T L 1 20 → own_I Z n0 T.heap xa g_f → Fr n0 L → w = F0_18 x0 x1 x2 x3 x4 x5 g_f → own_E p e below Qq T (mkF m 18 #[.val (.long x0), .second, .val (.long x1), .second, .val (.long x2), .second, .val (.int x3), .val (.int x4), .val (.int x5), .val (.ref xa), .unset, .unset, .unset, .unset, .unset, .unset, .unset, .unset, .unset] []) := by
    intro T L x0 x1 x2 x3 x4 x5 xa g_f X I N hF
    refine own_st (fun _ => XS.aload X.here hx rfl (hb hby at_18) rfl rfl) ?_
    show own_E p e below Qq T (mkF m 20 #[.val (.long x0), .second, .val (.long x1), .second, .val (.long x2), .second, .val (.int x3), .val (.int x4), .val (.int x5), .val (.ref xa), .unset, .unset, .unset, .unset, .unset, .unset, .unset, .unset, .unset] [(.ref xa)])
    refine own_st (fun _ => XS.iconst X.here hx rfl (hb hby at_20)) ?_
    show own_E p e below Qq T (mkF m 21 #[.val (.long x0), .second, .val (.long x1), .second, .val (.long x2), .second, .val (.int x3), .val (.int x4), .val (.int x5), .val (.ref xa), .unset, .unset, .unset, .unset, .unset, .unset, .unset, .unset, .unset] [(.int (1 : Int32)), (.ref xa)])
    refine own_st (fun _ => XT.lloadN X.here hx rfl (hb hby at_21) rfl) ?_
    show own_E p e below Qq T (mkF m 22 #[.val (.long x0), .second, .val (.long x1), .second, .val (.long x2), .second, .val (.int x3), .val (.int x4), .val (.int x5), .val (.ref xa), .unset, .unset, .unset, .unset, .unset, .unset, .unset, .unset, .unset] [(.long x0), (.int (1 : Int32)), (.ref xa)])
    refine own_st (fun _ => XS.iconst X.here hx rfl (hb hby at_22)) ?_
    show own_E p e below Qq T (mkF m 23 #[.val (.long x0), .second, .val (.long x1), .second, .val (.long x2), .second, .val (.int x3), .val (.int x4), .val (.int x5), .val (.ref xa), .unset, .unset, .unset, .unset, .unset, .unset, .unset, .unset, .unset] [(.int (1 : Int32)), (.long x0), (.int (1 : Int32)), (.ref xa)])
    refine own_st (fun _ => XS.iconst X.here hx rfl (hb hby at_23)) ?_
    show own_E p e below Qq T (mkF m 24 #[.val (.long x0), .second, .val (.long x1), .second, .val (.long x2), .second, .val (.int x3), .val (.int x4), .val (.int x5), .val (.ref xa), .unset, .unset, .unset, .unset, .unset, .unset, .unset, .unset, .unset] [(.int (1 : Int32)), (.int (1 : Int32)), (.long x0), (.int (1 : Int32)), (.ref xa)])
    refine own_st (fun _ => XS.iload X.here hx rfl (hb hby at_24) rfl) ?_
    show own_E p e below Qq T (mkF m 26 #[.val (.long x0), .second, .val (.long x1), .second, .val (.long x2), .second, .val (.int x3), .val (.int x4), .val (.int x5), .val (.ref xa), .unset, .unset, .unset, .unset, .unset, .unset, .unset, .unset, .unset] [(.int x5), (.int (1 : Int32)), (.int (1 : Int32)), (.long x0), (.int (1 : Int32)), (.ref xa)])
    refine own_callS X hx hZ hown (hw _ (List.mem_of_getElem? (i := 1) rfl)) (hw _ (List.mem_of_getElem? (i := 2) rfl)) (hw _ (List.mem_of_getElem? (i := 3) rfl)) (hw _ (List.mem_of_getElem? (i := 4) rfl)) (by decide) (W := 2) (argsL := [(.long x0), (.int (1 : Int32)), (.int (1 : Int32)), (.int x5)]) (rest := [(.int (1 : Int32)), (.ref xa)]) (rm1 l Z a0 hw x0 (1 : Int32) (1 : Int32) x5 _ n0) (by decide) (by decide) (by decide) (by decide) rfl (by rw [hml]; rfl) (lenOf pd_1 rfl) rfl (by show 2 * 0 + _ ≤ _; exact Nat.le_of_eq rfl) (hb hby at_26) ?_
    intro T39 L39 v X' hq
    obtain ⟨rfl, N', e'⟩ := hq
    replace I := own_tr (P := fun h => own_I Z n0 h xa g_f) e' I
    replace N := Fr.app N N'
    replace X : Stand p l e room_1 s m #[(.long p0), (.long p1), (.long p2), (.int p3), (.int p4), (.int p5)] below meth c T39 _ 1 20 := X'
    clear X' N' e'
    show own_E p e below Qq T39 (mkF m 29 #[.val (.long x0), .second, .val (.long x1), .second, .val (.long x2), .second, .val (.int x3), .val (.int x4), .val (.int x5), .val (.ref xa), .unset, .unset, .unset, .unset, .unset, .unset, .unset, .unset, .unset] [(.int (F1_0 x0 (1 : Int32) (1 : Int32) x5)), (.int (1 : Int32)), (.ref xa)])
    obtain ⟨T40, X40, I40, st40⟩ := own_bastore X hx hZ I (j := (1 : Int32)) (i := 1) rfl (by decide) (by decide) (g := (mkF m 29 #[.val (.long x0), .second, .val (.long x1), .second, .val (.long x2), .second, .val (.int x3), .val (.int x4), .val (.int x5), .val (.ref xa), .unset, .unset, .unset, .unset, .unset, .unset, .unset, .unset, .unset] [(.int (F1_0 x0 (1 : Int32) (1 : Int32) x5)), (.int (1 : Int32)), (.ref xa)])) rfl rfl (hb hby at_29)
    refine own_st st40 ?_
    replace N := Fr.snoc X40 N (own_Ina I)
    replace X := X40
    replace I := I40
    clear st40 X40 I40
    show own_E p e below Qq T40 (mkF m 30 #[.val (.long x0), .second, .val (.long x1), .second, .val (.long x2), .second, .val (.int x3), .val (.int x4), .val (.int x5), .val (.ref xa), .unset, .unset, .unset, .unset, .unset, .unset, .unset, .unset, .unset] [])
    exact B30 _ _ x0 x1 x2 x3 x4 x5 xa (own_upd g_f 1 (nar .byte (F1_0 x0 (1 : Int32) (1 : Int32) x5))) X I N hF
  show own_E p e below Qq T (mkF m 0 #[.val (.long p0), .second, .val (.long p1), .second, .val (.long p2), .second, .val (.int p3), .val (.int p4), .val (.int p5), .unset, .unset, .unset, .unset, .unset, .unset, .unset, .unset, .unset, .unset] [])
  refine own_st (fun _ => XS.bipush X.here hx rfl (hb hby at_0)) ?_
  show own_E p e below Qq T (mkF m 2 #[.val (.long p0), .second, .val (.long p1), .second, .val (.long p2), .second, .val (.int p3), .val (.int p4), .val (.int p5), .unset, .unset, .unset, .unset, .unset, .unset, .unset, .unset, .unset, .unset] [(.int (20 : Int32))])
  obtain ⟨T41, h41, k41, X41, e41, E41, A41, st41⟩ := newP X hx hZ (hw _ (List.mem_of_getElem? (i := 0) rfl)) rfl (g := (mkF m 2 #[.val (.long p0), .second, .val (.long p1), .second, .val (.long p2), .second, .val (.int p3), .val (.int p4), .val (.int p5), .unset, .unset, .unset, .unset, .unset, .unset, .unset, .unset, .unset, .unset] [(.int (20 : Int32))])) rfl (hb hby at_2) rfl (by decide) (cap := 20) (by decide) (by decide) (by decide) (by decide)
  obtain ⟨b41, gb41⟩ : ∃ z, z = T.heap.size := ⟨_, rfl⟩
  rw [← gb41] at A41 st41
  subst e41
  have I := own_Inew (Nat.le_trans Z0 (Nat.le_of_eq gb41.symm)) A41
  refine own_st st41 ?_
  replace X := X41
  clear st41 X41 A41 E41
  show own_E p e below Qq T41 (mkF m 4 #[.val (.long p0), .second, .val (.long p1), .second, .val (.long p2), .second, .val (.int p3), .val (.int p4), .val (.int p5), .unset, .unset, .unset, .unset, .unset, .unset, .unset, .unset, .unset, .unset] [(.ref b41)])
  refine own_st (fun _ => XS.astore X.here hx rfl (hb hby at_4) rfl rfl (l' := #[.val (.long p0), .second, .val (.long p1), .second, .val (.long p2), .second, .val (.int p3), .val (.int p4), .val (.int p5), .val (.ref b41), .unset, .unset, .unset, .unset, .unset, .unset, .unset, .unset, .unset]) rfl) ?_
  show own_E p e below Qq T41 (mkF m 6 #[.val (.long p0), .second, .val (.long p1), .second, .val (.long p2), .second, .val (.int p3), .val (.int p4), .val (.int p5), .val (.ref b41), .unset, .unset, .unset, .unset, .unset, .unset, .unset, .unset, .unset] [])
  refine own_st (fun _ => XS.aload X.here hx rfl (hb hby at_6) rfl rfl) ?_
  show own_E p e below Qq T41 (mkF m 8 #[.val (.long p0), .second, .val (.long p1), .second, .val (.long p2), .second, .val (.int p3), .val (.int p4), .val (.int p5), .val (.ref b41), .unset, .unset, .unset, .unset, .unset, .unset, .unset, .unset, .unset] [(.ref b41)])
  refine own_st (fun _ => XS.iconst X.here hx rfl (hb hby at_8)) ?_
  show own_E p e below Qq T41 (mkF m 9 #[.val (.long p0), .second, .val (.long p1), .second, .val (.long p2), .second, .val (.int p3), .val (.int p4), .val (.int p5), .val (.ref b41), .unset, .unset, .unset, .unset, .unset, .unset, .unset, .unset, .unset] [(.int (0 : Int32)), (.ref b41)])
  refine own_st (fun _ => XT.lloadN X.here hx rfl (hb hby at_9) rfl) ?_
  show own_E p e below Qq T41 (mkF m 10 #[.val (.long p0), .second, .val (.long p1), .second, .val (.long p2), .second, .val (.int p3), .val (.int p4), .val (.int p5), .val (.ref b41), .unset, .unset, .unset, .unset, .unset, .unset, .unset, .unset, .unset] [(.long p0), (.int (0 : Int32)), (.ref b41)])
  refine own_st (fun _ => XS.iconst X.here hx rfl (hb hby at_10)) ?_
  show own_E p e below Qq T41 (mkF m 11 #[.val (.long p0), .second, .val (.long p1), .second, .val (.long p2), .second, .val (.int p3), .val (.int p4), .val (.int p5), .val (.ref b41), .unset, .unset, .unset, .unset, .unset, .unset, .unset, .unset, .unset] [(.int (0 : Int32)), (.long p0), (.int (0 : Int32)), (.ref b41)])
  refine own_st (fun _ => XS.iconst X.here hx rfl (hb hby at_11)) ?_
  show own_E p e below Qq T41 (mkF m 12 #[.val (.long p0), .second, .val (.long p1), .second, .val (.long p2), .second, .val (.int p3), .val (.int p4), .val (.int p5), .val (.ref b41), .unset, .unset, .unset, .unset, .unset, .unset, .unset, .unset, .unset] [(.int (0 : Int32)), (.int (0 : Int32)), (.long p0), (.int (0 : Int32)), (.ref b41)])
  refine own_st (fun _ => XS.iload X.here hx rfl (hb hby at_12) rfl) ?_
  show own_E p e below Qq T41 (mkF m 14 #[.val (.long p0), .second, .val (.long p1), .second, .val (.long p2), .second, .val (.int p3), .val (.int p4), .val (.int p5), .val (.ref b41), .unset, .unset, .unset, .unset, .unset, .unset, .unset, .unset, .unset] [(.int p5), (.int (0 : Int32)), (.int (0 : Int32)), (.long p0), (.int (0 : Int32)), (.ref b41)])
  refine own_callS X hx hZ hown (hw _ (List.mem_of_getElem? (i := 1) rfl)) (hw _ (List.mem_of_getElem? (i := 2) rfl)) (hw _ (List.mem_of_getElem? (i := 3) rfl)) (hw _ (List.mem_of_getElem? (i := 4) rfl)) (by decide) (W := 2) (argsL := [(.long p0), (.int (0 : Int32)), (.int (0 : Int32)), (.int p5)]) (rest := [(.int (0 : Int32)), (.ref b41)]) (rm1 l Z a0 hw p0 (0 : Int32) (0 : Int32) p5 _ n0) (by decide) (by decide) (by decide) (by decide) rfl (by rw [hml]; rfl) (lenOf pd_1 rfl) rfl (by show 2 * 0 + _ ≤ _; exact Nat.le_of_eq rfl) (hb hby at_14) ?_
  intro T42 L42 v X' hq
  obtain ⟨rfl, N', e'⟩ := hq
  replace I := own_tr (P := fun h => own_I Z n0 h b41 (fun _ => 0)) e' I
  replace N := Fr.app N N'
  replace X : Stand p l e room_1 s m #[(.long p0), (.long p1), (.long p2), (.int p3), (.int p4), (.int p5)] below meth c T42 _ 1 20 := X'
  clear X' N' e'
  show own_E p e below Qq T42 (mkF m 17 #[.val (.long p0), .second, .val (.long p1), .second, .val (.long p2), .second, .val (.int p3), .val (.int p4), .val (.int p5), .val (.ref b41), .unset, .unset, .unset, .unset, .unset, .unset, .unset, .unset, .unset] [(.int (F1_0 p0 (0 : Int32) (0 : Int32) p5)), (.int (0 : Int32)), (.ref b41)])
  obtain ⟨T43, X43, I43, st43⟩ := own_bastore X hx hZ I (j := (0 : Int32)) (i := 0) rfl (by decide) (by decide) (g := (mkF m 17 #[.val (.long p0), .second, .val (.long p1), .second, .val (.long p2), .second, .val (.int p3), .val (.int p4), .val (.int p5), .val (.ref b41), .unset, .unset, .unset, .unset, .unset, .unset, .unset, .unset, .unset] [(.int (F1_0 p0 (0 : Int32) (0 : Int32) p5)), (.int (0 : Int32)), (.ref b41)])) rfl rfl (hb hby at_17)
  refine own_st st43 ?_
  replace N := Fr.snoc X43 N (own_Ina I)
  replace X := X43
  replace I := I43
  clear st43 X43 I43
  show own_E p e below Qq T43 (mkF m 18 #[.val (.long p0), .second, .val (.long p1), .second, .val (.long p2), .second, .val (.int p3), .val (.int p4), .val (.int p5), .val (.ref b41), .unset, .unset, .unset, .unset, .unset, .unset, .unset, .unset, .unset] [])
  exact B18 _ _ p0 p1 p2 p3 p4 p5 b41 (own_upd (fun _ => 0) 0 (nar .byte (F1_0 p0 (0 : Int32) (0 : Int32) p5))) X I N hF
theorem own_acc (acc : Int64) (d : Int32) (b : Int) (h0 : 0 ≤ acc.toInt) (h1 : acc.toInt ≤ b) (hb : b ≤ 10000000000000000) (d0 : 0 ≤ d.toInt) (d9 : d.toInt ≤ 9) : (acc * (10 : Int64) + d.toInt64).toInt = acc.toInt * 10 + d.toInt := by
  have t10 : (10 : Int64).toInt = 10 := rfl
  have e1 := c_lmul acc 10
  have e2 := c_ladd (acc * 10) d.toInt64
  have e3 := c_i2l d
  have r1 := rng64 (acc * 10)
  have r2 := rng64 (acc * 10 + d.toInt64)
  rw [t10] at e1
  omega
theorem own_A (g : Nat → Int32) (x0 : Int32) : ∀ (k f : Nat) (e i : Int32) (acc : Int64), 0 ≤ i.toInt → e.toInt ≤ 20 → i.toInt + k + 1 = e.toInt → k + 1 < f → 0 ≤ acc.toInt → (acc.toInt + 1) * 10 ^ k ≤ 100000000000000000 →
    (F2_24 f x0 (e - 1) acc i g = -1 ∧ F2_24 f x0 e acc i g = -1) ∨ (0 ≤ (F2_24 f x0 (e - 1) acc i g).toInt ∧ F2_24 f x0 e acc i g = if g (e - 1).toNatClampNeg - 48 < 0 then -1 else if 9 < g (e - 1).toNatClampNeg - 48 then -1 else F2_24 f x0 (e - 1) acc i g * 10 + (g (e - 1).toNatClampNeg - 48).toInt64) := by
  intro k
  induction k with
  | zero =>
    intro f e i acc hi he hk hf ha hp
    obtain ⟨m, rfl⟩ : ∃ m, f = m + 1 + 1 := ⟨f - 2, by omega⟩
    have e1 := own_sub e 1 (by have := own_d1; omega)
    have d1 := own_d1
    have hie : i = e - 1 := Int32.toInt_inj.mp (by omega)
    subst hie
    right
    have n1 : ¬ (e - 1) < (e - 1) := by rw [Int32.lt_iff_toInt_lt]; omega
    have n2 : (e - 1) < e := by rw [Int32.lt_iff_toInt_lt]; omega
    have n3 : ¬ (e - 1 + 1) < e := by
      have := own_add1 (e - 1) (by omega)
      rw [Int32.lt_iff_toInt_lt]; omega
    rw [F2_24_s, if_neg n1, F2_24_s, if_pos n2]
    refine ⟨ha, ?_⟩
    split
    · rfl
    · split
      · rfl
      · rw [F2_24_s, if_neg n3]
  | succ k ih =>
    intro f e i acc hi he hk hf ha hp
    obtain ⟨m, rfl⟩ : ∃ m, f = m + 1 := ⟨f - 1, by omega⟩
    have d1 := own_d1
    have e1 := own_sub e 1 (by omega)
    have i1 := own_add1 i (by omega)
    have n1 : i < (e - 1) := by rw [Int32.lt_iff_toInt_lt]; omega
    have n2 : i < e := by rw [Int32.lt_iff_toInt_lt]; omega
    rw [F2_24_s, if_pos n1, F2_24_s, if_pos n2]
    by_cases q1 : g i.toNatClampNeg - 48 < 0
    · left; rw [if_pos q1, if_pos q1]; exact ⟨rfl, rfl⟩
    · by_cases q2 : 9 < g i.toNatClampNeg - 48
      · left; rw [if_neg q1, if_neg q1, if_pos q2, if_pos q2]; exact ⟨rfl, rfl⟩
      · rw [if_neg q1, if_neg q1, if_neg q2, if_neg q2]
        rw [Int32.lt_iff_toInt_lt] at q1 q2
        have z0 : (0 : Int32).toInt = 0 := rfl
        have z9 : (9 : Int32).toInt = 9 := rfl
        have p1 : (1 : Int) ≤ 10 ^ k := by
          have : 0 < (10 : Int) ^ k := Int.pow_pos (by decide)
          omega
        have p2 : (10 : Int) ^ (k + 1) = 10 ^ k * 10 := Int.pow_succ _ _
        rw [p2] at hp
        have p3 : acc.toInt + 1 ≤ (acc.toInt + 1) * 10 ^ k := by
          have := Int.mul_le_mul_of_nonneg_left p1 (show (0 : Int) ≤ acc.toInt + 1 by omega)
          omega
        have p4 : (acc.toInt + 1) * (10 ^ k * 10) = ((acc.toInt + 1) * 10 ^ k) * 10 := by rw [Int.mul_assoc]
        have a1 := own_acc acc (g i.toNatClampNeg - 48) (acc.toInt) ha (Int.le_refl _) (by omega) (by omega) (by omega)
        refine ih m e (i + 1) _ (by omega) he (by push_cast at hk ⊢; omega) (by omega) (by omega) ?_
        have p5 : (acc * 10 + (g i.toNatClampNeg - 48).toInt64).toInt + 1 ≤ (acc.toInt + 1) * 10 := by omega
        have p6 := Int.mul_le_mul_of_nonneg_right p5 (show (0 : Int) ≤ 10 ^ k by omega)
        have p7 : (acc.toInt + 1) * 10 * 10 ^ k = (acc.toInt + 1) * (10 ^ k * 10) := by rw [Int.mul_assoc, Int.mul_comm 10]
        omega
theorem own_302 (x0 x1 x2 : Int64) (x3 x4 x5 s e : Int32) (g : Nat → Int32) (h : 0 ≤ s.toInt ∧ s.toInt ≤ 20 ∧ 0 ≤ e.toInt ∧ e.toInt ≤ 20) : F0_302 x0 x1 x2 x3 x4 x5 s e g = 1 := by
  have d1 := own_d1
  have d18 := own_d18
  have es := own_sub e s (by omega)
  have e1 := own_sub e 1 (by omega)
  rw [F0_302, F0_311]
  by_cases q1 : (e - s) < (1 : Int32)
  · have v : F2_0 s e g = -1 := by rw [F2_0, if_pos q1, F2_15]
    rw [if_pos q1, v, F0_333, if_pos rfl]; rfl
  by_cases q2 : (18 : Int32) < (e - s)
  · have v : F2_0 s e g = -1 := by rw [F2_0, if_neg q1, if_pos q2, F2_15]
    rw [if_neg q1, if_pos q2, v, F0_333, if_pos rfl]; rfl
  have V : F2_0 s e g = F2_24 20 s e 0 s g := by rw [F2_0, if_neg q1, if_neg q2]
  have q1' := q1
  have q2' := q2
  rw [Int32.lt_iff_toInt_lt] at q1' q2'
  rw [if_neg q1, if_neg q2, V]
  have A := own_A g s (e.toInt - s.toInt - 1).toNat 20 e s 0 h.1 h.2.2.2 (by omega) (by omega) (by decide) (by
    have : (e.toInt - s.toInt - 1).toNat ≤ 17 := by omega
    have := Nat.pow_le_pow_right (show 0 < 10 by decide) this
    have t0 : (0 : Int64).toInt = 0 := rfl
    rw [t0]
    have c : ((10 ^ (e.toInt - s.toInt - 1).toNat : Nat) : Int) = (10 : Int) ^ (e.toInt - s.toInt - 1).toNat := by push_cast; rfl
    have : ((10 ^ (e.toInt - s.toInt - 1).toNat : Nat) : Int) ≤ ((10 ^ 17 : Nat) : Int) := by exact_mod_cast this
    rw [c] at this
    omega)
  have W : ¬ (e - s = 1) → F2_0 s (e - 1) g = F2_24 20 s (e - 1) 0 s g := fun ne => by
    have t := own_sub (e - 1) s (by omega)
    have ne' : ¬ (e - s).toInt = 1 := fun z => ne (Int32.toInt_inj.mp (by omega))
    have u1 : ¬ ((e - 1) - s) < (1 : Int32) := by rw [Int32.lt_iff_toInt_lt]; omega
    have u2 : ¬ (18 : Int32) < ((e - 1) - s) := by rw [Int32.lt_iff_toInt_lt]; omega
    rw [F2_0, if_neg u1, if_neg u2]
  generalize g (e - 1).toNatClampNeg - 48 = d at A ⊢
  have key : ∀ y : Int32, ((y = 0 ∧ (d < 0 ∨ 9 < d)) ∨ (y = 1 ∧ ¬ d < 0 ∧ ¬ 9 < d)) → F0_377 x0 x1 x2 x3 x4 x5 s e (F2_24 20 s e 0 s g) (e - s) d y g = 1 := by
    intro y hy
    rw [F0_377]
    by_cases L : e - s = 1
    · rw [if_pos L]
      have z : (e.toInt - s.toInt - 1).toNat = 0 := by
        have := congrArg Int32.toInt L
        omega
      have r0 : F2_24 20 s (e - 1) 0 s g = 0 := by
        have n1 : ¬ s < (e - 1) := by
          have := congrArg Int32.toInt L
          rw [Int32.lt_iff_toInt_lt]; omega
        rw [show (20 : Nat) = 19 + 1 from rfl, F2_24_s, if_neg n1]
      rw [r0] at A
      rcases A with ⟨A, -⟩ | ⟨-, A⟩
      · exact absurd A (by decide)
      · rcases hy with ⟨rfl, hd⟩ | ⟨rfl, hd0, hd9⟩
        · have v : F2_24 20 s e 0 s g = -1 := by
            rw [A]
            rcases hd with hd | hd
            · rw [if_pos hd]
            · split
              · rfl
              · rfl
          rw [if_pos rfl, F0_401, if_pos v]; rfl
        · have v : F2_24 20 s e 0 s g = d.toInt64 := by
            rw [A, if_neg hd0, if_neg hd9]
            apply Int64.toInt_inj.mp
            have := own_acc 0 d 0 (by decide) (by decide) (by decide) (by
              rw [Int32.lt_iff_toInt_lt] at hd0; have z0 : (0 : Int32).toInt = 0 := rfl; omega) (by
              rw [Int32.lt_iff_toInt_lt] at hd9; have z9 : (9 : Int32).toInt = 9 := rfl; omega)
            have t0 : (0 : Int64).toInt = 0 := rfl
            have := c_i2l d
            omega
          rw [if_neg (by decide), F0_401, if_pos v]; rfl
    · rw [if_neg L, W L, F0_422]
      rcases A with ⟨A, v⟩ | ⟨A, v⟩
      · rw [A, if_pos (by decide), F0_436, if_pos v]; rfl
      · have nn : ¬ F2_24 20 s (e - 1) 0 s g < 0 := by rw [Int64.lt_iff_toInt_lt]; exact Int.not_lt.mpr A
        rw [if_neg nn]
        rcases hy with ⟨rfl, hd⟩ | ⟨rfl, hd0, hd9⟩
        · have v' : F2_24 20 s e 0 s g = -1 := by
            rw [v]
            rcases hd with hd | hd
            · rw [if_pos hd]
            · split
              · rfl
              · rfl
          rw [if_pos rfl, F0_436, if_pos v']; rfl
        · rw [if_neg hd0, if_neg hd9] at v
          rw [if_neg (by decide), if_pos v]; rfl
  by_cases c0 : d < 0
  · rw [if_pos c0, F0_376]; exact key 0 (Or.inl ⟨rfl, Or.inl c0⟩)
  · by_cases c9 : 9 < d
    · rw [if_neg c0, if_pos c9, F0_376]; exact key 0 (Or.inl ⟨rfl, Or.inr c9⟩)
    · rw [if_neg c0, if_neg c9]; exact key 1 (Or.inr ⟨rfl, c0, c9⟩)
theorem own_law (p0 p1 p2 : Int64) (p3 p4 p5 : Int32) : F0_0 p0 p1 p2 p3 p4 p5 = 1 := by
  obtain ⟨g, hg⟩ : ∃ g, F0_0 p0 p1 p2 p3 p4 p5 = F0_282 p0 p1 p2 p3 p4 p5 g := ⟨_, rfl⟩
  rw [hg, F0_282]
  exact own_302 _ _ _ _ _ _ _ _ _ (own_B0 _ _)
set_option maxRecDepth 65536 in
set_option maxHeartbeats 40000000 in
theorem comes_1 {Post : Tables → Env → Array Value → State → Outcome → State → Prop} (hpost : ∀ tb e args s v u, (limb_1_1.after args s (.returned v) u = true ∧ limb_1_2.after args s (.returned v) u = true ∧ True) → FrameEnd s (.returned v) u (Jvm.fieldLocs frame_1_writes args s ++ Jvm.arrayLocs frame_1_arrays args s ++ Jvm.staticLocs frame_1_statics s) 16 128 → Post tb e args s (.returned v) u) :
    ArmFor flags0 classFile x code maxLocals ret World_1 tables_1 room_1 Calls_1 rest_1 Pre_1 Post := by
  intro l hfl _ _ p e ha hc hk s m args below hf hA hF happ hP
  obtain ⟨hcalls, hrest, hpre⟩ := hP
  obtain ⟨-, -, -, hnamed, -, -, -, hat⟩ := (Spec.applies_iff hf).mp happ
  obtain ⟨hg, hn⟩ := and_e (Cond.before_iff.mp (show (Jvm.Cond.and given_1 narrow_1).before args s = true from hpre))
  obtain ⟨g0, hg⟩ := and_e hg
  obtain ⟨w0, w1, w2, w3, w4, w5, rfl⟩ : ∃ w0 w1 w2 w3 w4 w5 : Value, args = #[w0, w1, w2, w3, w4, w5] := by
    have hs : args.size = 6 := by simpa [Cond.value, given_1] using g0
    obtain ⟨L⟩ := args
    match L, hs with
    | [w0, w1, w2, w3, w4, w5], _ => exact ⟨w0, w1, w2, w3, w4, w5, rfl⟩
  have hw := fun d (hd : d ∈ tables_1) => atoms_spec (ws := Jvm.Cond.code x code maxLocals ret :: tables_1) hat d (List.mem_cons_of_mem _ hd)
  obtain ⟨g1, hg⟩ := and_e hg
  obtain ⟨g2, hg⟩ := and_e hg
  obtain ⟨g3, hg⟩ := and_e hg
  obtain ⟨g4, hg⟩ := and_e hg
  obtain ⟨g5, hg⟩ := and_e hg
  have g6 := hg
  obtain ⟨i0, e0⟩ := isL_v g1
  obtain rfl : w0 = (.long i0) := Option.some.inj e0
  obtain ⟨i1, e1⟩ := isL_v g2
  obtain rfl : w1 = (.long i1) := Option.some.inj e1
  obtain ⟨i2, e2⟩ := isL_v g3
  obtain rfl : w2 = (.long i2) := Option.some.inj e2
  obtain ⟨i3, e3⟩ := is_v g4
  obtain rfl : w3 = (.int i3) := Option.some.inj e3
  obtain ⟨i4, e4⟩ := is_v g5
  obtain rfl : w4 = (.int i4) := Option.some.inj e4
  obtain ⟨i5, e5⟩ := is_v g6
  obtain rfl : w5 = (.int i5) := Option.some.inj e5
  obtain ⟨n, o, h1, h2, h3, _, L, rfl, ⟨rfl, N, _⟩, hq⟩ := rm0 l s _ hw i0 i1 i2 i3 i4 i5 s.heap s.heap.size (Nat.le_refl _) tables_1 p e ha hc hk s m _ below hf ((Spec.applies_iff_loose hf).mp happ).1 ⟨rfl, State.Warmed39.refl s, rfl⟩ trivial
  refine ⟨n, _, h1, h2, h3, hpost _ _ _ _ _ _ ⟨Cond.after_iff.mpr rfl, Cond.after_iff.mpr (eq_i res_at (Term.int_eval (1)) (by rw [own_law i0 i1 i2 i3 i4 i5]) rfl), trivial⟩ ⟨hq.1, hq.2.1, (hq.2.2.sift fun y hy => Or.inr (N y hy)).mono (by decide) (by decide)⟩⟩
theorem main_1_1 : Claimed_1_1 := comes_1 fun _ _ _ _ _ _ h hF => ⟨h.1, hF⟩
theorem main_1_2 : Claimed_1_2 := comes_1 fun _ _ _ _ _ _ h hF => ⟨h.2.1, hF⟩
end Jvm.Pilot.@@N@@
namespace Jvm.Pilot.@@N@@
open Jvm Jvm.ClassFile Sem Op Lib Jvm.Free Jvm.Stand Jvm.Pilot.@@N@@.Jvm.D
/-! MADE BY PROGRAM (witnessworld.py) out of the Statement's table words and the real class files: 9 classes; the members and pool entries that the words name. The judged class is class 1, her method 2. -/
namespace start1
open Jvm.ClassFile
def u (s : String) : CpInfo := .utf8 (stringToUtf16 s)
/-- a pool by its gaps: so many unusable entries, then the entry; so many at the end -/
def gap : Nat → List CpInfo → List CpInfo
  | 0, r => r
  | n + 1, r => .unusable :: gap n r
def poolList (es : List (Nat × CpInfo)) (last : Nat) : List CpInfo := es.foldr (fun e r => gap e.1 (e.2 :: r)) (gap last [])
def pool (es : List (Nat × CpInfo)) (last : Nat) : Array CpInfo := ⟨poolList es last⟩
def fileOf (pool : Array CpInfo) (this : Nat) (attrs : Array Attribute := #[]) (ms : Array MethodInfo := #[]) (fl : Nat := 33) (sup : Nat := 0) (ifs : Array Nat := #[]) (fds : Array FieldInfo := #[]) : ClassFile where
  minorVersion := 0
  majorVersion := 65
  constantPool := pool
  accessFlags := fl
  thisClass := this
  superClass := sup
  interfaces := ifs
  fields := fds
  methods := ms
  attributes := attrs
def plain (name : String) (sup : Option ClassId) : Class where
  name := name
  kind := .ordinary
  loader := none
  accessFlags := 33
  super := sup
  interfaces := #[]
  cf := none
  fields := #[]
  methods := #[]
  instanceTypes := #[]
  staticTypes := #[]
  resolved := #[]
  callSites := []
  init := .initialized
  statics := none
  mirror := none

def pool0 : Array CpInfo := pool [(5, u "<init>"), (0, u "()V"), (1, .class_ 10), (1, u "java/lang/Object")] 113

def k0m0 : Method := { name := "<init>", desc := "()V", sig := { parameters := [], returnType := none }, accessFlags := 1, code := none }
/-- java/lang/Object -/
def k0 : Class := { plain "java/lang/Object" none with
  accessFlags := 33
  interfaces := #[]
  cf := some (fileOf pool0 8 #[] #[{ accessFlags := 1, nameIndex := 5, descriptorIndex := 6, attributes := #[] }] 33 0 #[] #[])
  fields := #[]
  methods := #[k0m0]
  instanceTypes := #[]
  staticTypes := #[]
  resolved := Array.replicate 124 none
  statics := none }

def pool1 : Array CpInfo := pool [(2, .class_ 4), (1, u "java/lang/Object"), (0, u "<init>"), (0, u "()V"), (0, .methodref 8 9), (0, .class_ 10), (0, .nameAndType 11 12), (0, u "com/example/refstone/refstone/model/SctidDigitsValuePinLaw"), (0, u "cell"), (0, u "(JIII)B"), (0, .integer 2147483647), (0, .methodref 15 16), (0, .class_ 17), (0, .nameAndType 18 19), (0, u "com/example/refstone/refstone/model/Sctid"), (0, u "digitsValue"), (0, u "([BII)J"), (0, .long 18446744073709551615), (1, .long 10), (4, u "law"), (0, u "(JJJIII)Z")] 4

def k1m0 : Method := { name := "<init>", desc := "()V", sig := { parameters := [], returnType := none }, accessFlags := 2, code := none }
def k1c1 : Code := { maxStack := 4, maxLocals := 6, code := method_2_code, exceptionTable := #[], attributes := #[] }
def k1m1 : Method := { name := "cell", desc := "(JIII)B", sig := { parameters := [.long, .int, .int, .int], returnType := some .byte }, accessFlags := 10, code := some k1c1 }
def k1c2 : Code := { maxStack := 7, maxLocals := 19, code := code, exceptionTable := #[], attributes := #[] }
def k1m2 : Method := { name := "law", desc := "(JJJIII)Z", sig := { parameters := [.long, .long, .long, .int, .int, .int], returnType := some .boolean }, accessFlags := 9, code := some k1c2 }
/-- com/example/refstone/refstone/model/SctidDigitsValuePinLaw -/
def k1 : Class := { plain "com/example/refstone/refstone/model/SctidDigitsValuePinLaw" (some 0) with
  accessFlags := 49
  interfaces := #[]
  cf := some (fileOf pool1 8 #[] #[{ accessFlags := 2, nameIndex := 5, descriptorIndex := 6, attributes := #[] }, { accessFlags := 10, nameIndex := 11, descriptorIndex := 12, attributes := #[] }, { accessFlags := 9, nameIndex := 27, descriptorIndex := 28, attributes := #[] }] 49 2 #[] #[])
  fields := #[]
  methods := #[k1m0, k1m1, k1m2]
  instanceTypes := #[]
  staticTypes := #[]
  resolved := Array.replicate 33 none
  statics := none }

def pool2 : Array CpInfo := pool [(1, .class_ 2), (0, u "com/example/refstone/refstone/model/Sctid"), (1, .class_ 6), (1, u "java/lang/Object"), (0, u "<init>"), (0, u "()V"), (18, .long 18446744073709551615), (1, .long 10), (20, u "PRODUCTS"), (0, u "[I"), (2, u "PERMUTATIONS"), (0, u "[[I"), (10, u "PERMUTATION"), (8, u "CONCEPT"), (0, u "Ljava/lang/String;"), (3, u "DESCRIPTION"), (2, u "RELATIONSHIP"), (2, u "ANY_KIND"), (2, u "MAX_DIGITS"), (0, u "I"), (5, u "digitsValue"), (0, u "([BII)J")] 24

def k2m0 : Method := { name := "<init>", desc := "()V", sig := { parameters := [], returnType := none }, accessFlags := 2, code := none }
def k2c1 : Code := { maxStack := 4, maxLocals := 7, code := prog_49_method_4_code, exceptionTable := #[], attributes := #[] }
def k2m1 : Method := { name := "digitsValue", desc := "([BII)J", sig := { parameters := [(.array .byte), .int, .int], returnType := some .long }, accessFlags := 9, code := some k2c1 }
/-- com/example/refstone/refstone/model/Sctid -/
def k2 : Class := { plain "com/example/refstone/refstone/model/Sctid" (some 0) with
  accessFlags := 49
  interfaces := #[]
  cf := some (fileOf pool2 1 #[] #[{ accessFlags := 2, nameIndex := 7, descriptorIndex := 8, attributes := #[] }, { accessFlags := 9, nameIndex := 96, descriptorIndex := 97, attributes := #[] }] 49 4 #[] #[{ accessFlags := 24, nameIndex := 75, descriptorIndex := 76, attributes := #[] }, { accessFlags := 24, nameIndex := 80, descriptorIndex := 76, attributes := #[] }, { accessFlags := 24, nameIndex := 83, descriptorIndex := 76, attributes := #[] }, { accessFlags := 24, nameIndex := 86, descriptorIndex := 76, attributes := #[] }, { accessFlags := 26, nameIndex := 66, descriptorIndex := 51, attributes := #[] }, { accessFlags := 26, nameIndex := 54, descriptorIndex := 55, attributes := #[] }, { accessFlags := 26, nameIndex := 50, descriptorIndex := 51, attributes := #[] }, { accessFlags := 26, nameIndex := 89, descriptorIndex := 90, attributes := #[] }])
  fields := #[{ name := "CONCEPT", type := (.object "java/lang/String"), accessFlags := 24, slot := 0, constantValue := 0 }, { name := "DESCRIPTION", type := (.object "java/lang/String"), accessFlags := 24, slot := 1, constantValue := 0 }, { name := "RELATIONSHIP", type := (.object "java/lang/String"), accessFlags := 24, slot := 2, constantValue := 0 }, { name := "ANY_KIND", type := (.object "java/lang/String"), accessFlags := 24, slot := 3, constantValue := 0 }, { name := "PERMUTATION", type := (.array .int), accessFlags := 26, slot := 4, constantValue := 0 }, { name := "PERMUTATIONS", type := (.array (.array .int)), accessFlags := 26, slot := 5, constantValue := 0 }, { name := "PRODUCTS", type := (.array .int), accessFlags := 26, slot := 6, constantValue := 0 }, { name := "MAX_DIGITS", type := .int, accessFlags := 26, slot := 7, constantValue := 0 }]
  methods := #[k2m0, k2m1]
  instanceTypes := #[]
  staticTypes := #[(.object "java/lang/String"), (.object "java/lang/String"), (.object "java/lang/String"), (.object "java/lang/String"), (.array .int), (.array (.array .int)), (.array .int), .int]
  resolved := Array.replicate 122 none
  statics := none }

def pool3 : Array CpInfo := pool [(1, u "java/lang/Cloneable"), (0, .class_ 1), (0, u "java/lang/Object"), (0, .class_ 3)] 3

/-- java/lang/Cloneable -/
def k3 : Class := { plain "java/lang/Cloneable" (some 0) with
  accessFlags := 1537
  interfaces := #[]
  cf := some (fileOf pool3 2 #[] #[] 1537 4 #[] #[])
  fields := #[]
  methods := #[]
  instanceTypes := #[]
  staticTypes := #[]
  resolved := Array.replicate 8 none
  statics := none }

def pool4 : Array CpInfo := pool [(1, u "java/io/Serializable"), (0, .class_ 1), (0, u "java/lang/Object"), (0, .class_ 3)] 3

/-- java/io/Serializable -/
def k4 : Class := { plain "java/io/Serializable" (some 0) with
  accessFlags := 1537
  interfaces := #[]
  cf := some (fileOf pool4 2 #[] #[] 1537 4 #[] #[])
  fields := #[]
  methods := #[]
  instanceTypes := #[]
  staticTypes := #[]
  resolved := Array.replicate 8 none
  statics := none }

/-- the primitive byte -/
def k5 : Class := { plain "byte" none with kind := .primitive 'B', accessFlags := 0x411 }
/-- [B -/
def k6 : Class := { plain "[B" (some 0) with kind := .array 5 .byte, interfaces := #[3, 4], accessFlags := 1041 }

/-- the primitive int -/
def k7 : Class := { plain "int" none with kind := .primitive 'I', accessFlags := 0x411 }
/-- [I -/
def k8 : Class := { plain "[I" (some 0) with kind := .array 7 .int, interfaces := #[3, 4], accessFlags := 1041 }

def heap : Heap := #[]
def classes : Array Class := #[k0, k1, k2, k3, k4, k5, k6, k7, k8]
def interned : List (Array UInt16 × Addr) := []
def slotsUsed : Nat := 0
def theMethod : MethodId := ⟨1, 2⟩
def args0 : Array Value := #[.long 5, .long 5, .long 5, .int 5, .int 5, .int 5]
def aboutOver (below : List Frame) : State where
  vm := { classes := classes, interned := interned.toArray }
  heap := heap
  slotsUsed := slotsUsed
  threads := #[{ frames := .invoking theMethod args0 :: below }]
def below0 : List Frame := [.native { method := ⟨0, 0⟩, args := #[] }]
def about1 : State := aboutOver below0
def p0 : Program := .bare "" "" ""
def e0 : Env := launch0.env 0 0 0
theorem w_frames : about1.frames = Frame.invoking theMethod args0 :: below0 := rfl
set_option maxRecDepth 65536 in
theorem w_args : argsFit about1.vm theMethod args0 = true := by decide +kernel
set_option maxRecDepth 65536 in
theorem w_heap : heapFits about1 = true := by decide +kernel
set_option maxRecDepth 65536 in
theorem w_runnable : about1.curStatus? = some .runnable := by decide +kernel
set_option maxRecDepth 65536 in
theorem w_alone : about1.alone = true := by decide +kernel
set_option maxRecDepth 65536 in
theorem w_named : about1.methodNamed? x = some theMethod := by decide +kernel
set_option maxRecDepth 65536 in
theorem w_hears : about1.hears theMethod below0 = true := by decide +kernel
set_option maxRecDepth 65536 in
theorem w_ripe : about1.ripe theMethod args0 below0 = true := by decide +kernel
theorem w_running : about1.status = .running := rfl
set_option maxRecDepth 65536 in
theorem w_room : about1.hasRoom e0.platform room_1 = true :=
  launch0.hasRoom_least _ room_1 (by decide +kernel) (by decide +kernel) (by decide +kernel) (by decide +kernel) (by decide +kernel) (by decide +kernel)
theorem allAtoms_all (ts : List Jvm.Cond) (a : Array Jvm.Value) (st : Jvm.State) : (allAtoms ts).before a st = ts.all (fun c => c.before a st) := by
  induction ts with
  | nil => rfl
  | cons c t ih =>
    show (Jvm.Cond.and c (allAtoms t)).before a st = _
    rw [Jvm.Cond.before_and, ih, List.all_cons]
def words1 : List Jvm.Cond := Jvm.Cond.code x code maxLocals ret :: tables_1
/-- a 'code' word, met by the world's own term for the bytes: nothing is compared byte by byte -/
theorem code_word {y : MethodName} {bytes : ByteArray} {mx : Nat} {rt : Option FieldType} {a : Array Value} {s : State} {m : MethodId} {meth : Method} {c : Code} (h1 : s.methodNamed? y = some m) (h2 : s.vm.method? m = some meth) (h3 : meth.code = some c) (h4 : c.code = bytes)
    (h5 : (c.maxLocals == mx && c.exceptionTable.isEmpty && decide (c.maxStack ≤ mostOperands) && decide (meth.sig.returnType = rt) && !meth.locks && decide (parseMethodDescriptor y.desc = some meth.sig)) = true) : (Jvm.Cond.code y bytes mx rt).before a s = true := by
  simp only [Bool.and_eq_true, beq_iff_eq, Bool.not_eq_true', decide_eq_true_eq] at h5
  obtain ⟨⟨⟨⟨⟨g1, g2⟩, g3⟩, g4⟩, g5⟩, g6⟩ := h5
  simp [Cond.before, Cond.holds, Cond.value, h1, h2, h3, h4, g1, g2, g3, g4, g5, g6]
def isCode : Jvm.Cond → Bool
  | .code _ _ _ _ => true
  | _ => false
theorem all_split {L : List Jvm.Cond} {P : Jvm.Cond → Bool} (h1 : L.all (fun c => isCode c || P c) = true) (h2 : ∀ c ∈ L.filter isCode, P c = true) : L.all P = true := by
  refine List.all_eq_true.mpr fun c hc => ?_
  have h := List.all_eq_true.mp h1 c hc
  rcases Bool.eq_false_or_eq_true (isCode c) with hi | hi
  · exact h2 c (List.mem_filter.mpr ⟨hc, hi⟩)
  · simpa [hi] using h
set_option maxRecDepth 65536 in
theorem w_c0 : (Jvm.Cond.code x code maxLocals ret).before args0 about1 = true := code_word (m := ⟨1, 2⟩) (meth := k1m2) (c := k1c2) (by decide +kernel) rfl rfl rfl (by decide +kernel)
set_option maxRecDepth 65536 in
theorem w_c1 : (Jvm.Cond.code ({ cls := "com/example/refstone/refstone/model/SctidDigitsValuePinLaw", name := "cell", desc := "(JIII)B" } : Jvm.MethodName) method_2_code (6 : Nat) (Option.some Jvm.ClassFile.FieldType.byte)).before args0 about1 = true := code_word (m := ⟨1, 1⟩) (meth := k1m1) (c := k1c1) (by decide +kernel) rfl rfl rfl (by decide +kernel)
set_option maxRecDepth 65536 in
theorem w_c2 : (Jvm.Cond.code ({ cls := "com/example/refstone/refstone/model/Sctid", name := "digitsValue", desc := "([BII)J" } : Jvm.MethodName) prog_49_method_4_code (7 : Nat) (Option.some Jvm.ClassFile.FieldType.long)).before args0 about1 = true := code_word (m := ⟨2, 1⟩) (meth := k2m1) (c := k2c1) (by decide +kernel) rfl rfl rfl (by decide +kernel)
def codes1 : List Jvm.Cond := [Jvm.Cond.code x code maxLocals ret, Jvm.Cond.code ({ cls := "com/example/refstone/refstone/model/SctidDigitsValuePinLaw", name := "cell", desc := "(JIII)B" } : Jvm.MethodName) method_2_code (6 : Nat) (Option.some Jvm.ClassFile.FieldType.byte), Jvm.Cond.code ({ cls := "com/example/refstone/refstone/model/Sctid", name := "digitsValue", desc := "([BII)J" } : Jvm.MethodName) prog_49_method_4_code (7 : Nat) (Option.some Jvm.ClassFile.FieldType.long)]
set_option maxRecDepth 65536 in
theorem codes_eq : words1.filter isCode = codes1 := rfl
theorem w_codes : ∀ c ∈ words1.filter isCode, c.before args0 about1 = true := by
  rw [codes_eq]
  intro c hc
  simp only [codes1, List.mem_cons, List.not_mem_nil, or_false] at hc
  rcases hc with rfl | rfl | rfl
  · exact w_c0
  · exact w_c1
  · exact w_c2
set_option maxRecDepth 65536 in
theorem w_t1 : words1.all (fun c => isCode c || c.before args0 about1) = true := by decide +kernel
theorem w_tables : (allAtoms (Jvm.Cond.code x code maxLocals ret :: tables_1)).before args0 about1 = true := by
  rw [allAtoms_all]
  show words1.all (fun c => c.before args0 about1) = true
  refine all_split ?_ w_codes
  rw [w_t1]
set_option maxRecDepth 65536 in
theorem w_case : (Jvm.Cond.and given_1 narrow_1).before args0 about1 = true := by decide +kernel
theorem w_applies : (headSpec (Jvm.Cond.code x code maxLocals ret :: tables_1) room_1).applies x e0.platform about1 = true :=
  (Spec.applies_iff w_frames).mpr ⟨w_running, w_runnable, w_alone, w_named, w_hears, w_ripe, w_room, w_tables⟩
theorem atStart : AtStart classFile x code maxLocals ret World_1 tables_1 room_1 Calls_1 rest_1 Pre_1 launch0 p0 e0 about1 theMethod args0 below0 :=
  ⟨lists_1, trivial, launch0.admits_env _ _ _, launch0.least_env, fairChoices_fair.cas, fairChoices_fair.clock, w_frames, w_args, w_heap, w_applies, trivial, trivial, w_case⟩
end start1
theorem witness_1 : WitnessClaimed_1 := ⟨start1.p0, start1.e0, start1.about1, start1.theMethod, start1.args0, start1.below0, start1.atStart⟩
end Jvm.Pilot.@@N@@
