import JvmDerived
import JvmDerived.Pilot.@@N@@Statement
import JvmDerived.Pilot.@@N@@Code
set_option linter.unusedVariables false
set_option linter.unusedSimpArgs false
namespace Jvm.RoadKit
open Sem ClassFile Op Lib Jvm.Stand Jvm.Free Jvm.LawKit
section New
variable {p : Program} {l : Launch} {e : Env} {R : Room} {s : State} {m : MethodId} {args : Array Value} {below : List Frame} {meth : Method} {c : Code} {T : State} {locs : List Loc} {cells slots : Nat}
theorem retI (X : Stand p l e R s m args below meth c T locs cells slots) (hx : p.tables.exec = Jvm.exec) {pc : Nat} {Ls : Array Slot} {z : Int32} {rest : List Value} (hret : meth.sig.returnType = some .int) (hd : decode c.code pc = .ok (.ireturn, 1)) {fs : List Frame}
    (hl : ∀ (f : JFrame) (acts : List Action), f.method = m → f.locked = none → f.entered = [] → (doReturn e (T.setTop f) acts (some (.int z))).1 = T.setFrames fs) : Steps p.tables e below (T.setTop (mkF m pc Ls (.int z :: rest))) (T.setFrames fs) := by
  have hm' : T.vm.method? m = some meth := X.method'
  have hn : narrow .int (.int z) = .int z := rfl
  show Steps p.tables e below (T.setTop { method := m, pc := pc, locals := Ls, stack := _ :: rest, locked := none }) _
  jvm_step X.here [X.here.top, hx, hd, hm', hret, hn]
  first | (intro acts; rw [hl _ acts rfl rfl rfl]) | rw [hl _ _ rfl rfl rfl]
  exact Steps.refl _
end New
end Jvm.RoadKit
namespace Jvm.Pilot.@@N@@
open Jvm Jvm.ClassFile Sem Op Lib Jvm.Free Jvm.Stand Jvm.LawKit Jvm.RoadKit Bundle Jvm.Pilot.@@N@@.Jvm.D
section Own
variable {p : Program} {l : Launch} {e : Env} {R : Room} {s : State} {m : MethodId} {args : Array Value} {below : List Frame} {meth : Method} {c : Code} {T : State} {locs : List Loc} {k j : Nat} {Z : State} {a0 : Array Value} {h : Heap}
/-- the run that stands at g goes on to an end as Q says -/
def own_E (p : Program) (e : Env) (below : List Frame) (Q : Outcome → State → Prop) (T : State) (g : JFrame) : Prop :=
  ∃ s₂ o, Steps p.tables e below (T.setTop g) s₂ ∧ s₂.status = .running ∧ Ended s₂ below o ∧ Q o s₂
/-- an end as a contract's Qr says, with so many cells and slots at the most -/
def own_Q (s : State) (Qr : Option Value → Heap → List Loc → Prop) (k j : Nat) (o : Outcome) (U : State) : Prop := ∃ v L, o = .returned v ∧ Qr v U.heap L ∧ FrameEnd s o U L k j
/-- a contract of a method at these arguments and this heap -/
def own_M (l : Launch) (Z : State) (y : MethodName) (bytes : ByteArray) (maxL : Nat) (ret : Option FieldType) (rm : Room) (as' : Array Value) (h : Heap) (Qr : Option Value → Heap → List Loc → Prop) : Prop :=
  ∀ ws : List Jvm.Cond, MetFree l y (head1 (Jvm.Cond.code y bytes maxL ret :: ws) rm) (fun a U => a = as' ∧ Z.Warmed39 U.vm ∧ U.heap = h) (fun _ _ _ _ _ => True) (fun _ U o U' => ∃ v L, o = .returned v ∧ Qr v U'.heap L ∧ FrameEnd U o U' L rm.cells rm.slots)
theorem own_st {Q : Outcome → State → Prop} {T' : State} {g g' : JFrame} (hs : ∀ t, Steps p.tables e below (T'.setTop g') t → Steps p.tables e below (T.setTop g) t) (k : own_E p e below Q T' g') : own_E p e below Q T g := by
  obtain ⟨s₂, o, h1, h2, h3, h4⟩ := k
  exact ⟨s₂, o, hs _ h1, h2, h3, h4⟩
theorem own_sy {Q : Outcome → State → Prop} {T' : State} {g g' : JFrame} (hs : Steps p.tables e below (T.setTop g) (T'.setTop g')) (k : own_E p e below Q T' g') : own_E p e below Q T g := by
  obtain ⟨s₂, o, h1, h2, h3, h4⟩ := k
  exact ⟨s₂, o, hs.trans h1, h2, h3, h4⟩
theorem own_body {y : MethodName} {bytes : ByteArray} {maxL : Nat} {ret : Option FieldType} {rm : Room} {as' : Array Value} {Qr : Option Value → Heap → List Loc → Prop} (hp : plainName y.cls = true)
    (body : ∀ (p : Program) (e : Env) (s : State) (m : MethodId) (below : List Frame) (meth : Method) (c : Code) (T : State), p.tables.exec = Jvm.exec → c.code = bytes → c.maxLocals = maxL → s.vm.findClass y.cls = some m.cls → Z.Warmed39 s.vm → meth.sig.returnType = ret → meth.locks = false → meth.name = y.name →
      Stand p l e rm s m as' below meth c T [] 0 0 → T.heap = h → own_E p e below (own_Q s Qr rm.cells rm.slots) T (entryFrame m as' maxL)) : own_M l Z y bytes maxL ret rm as' h Qr := by
  intro ws
  refine MetFree.of_bodySF (plainFor_of_name hp) hisR ?_
  intro p e s m args below meth c s₁ Bd hml0 hP hK
  obtain ⟨rfl, hZ, hh⟩ := hP
  exact body p e s m below meth c s₁ Bd.exec Bd.bytes hml0 (findClass_of_methodNamed Bd.named) hZ Bd.returns Bd.notSynchronized (name_of_methodNamed Bd.named Bd.method).1 (Stand.of_body Bd) (by rw [← hh, Bd.state]; rfl)
theorem own_retN {Qr : Option Value → Heap → List Loc → Prop} {kk jj pc : Nat} {Ls : Array Slot} {z : Int32} {t : FieldType} {rest : List Value} (X : Stand p l e R s m args below meth c T locs k j) (hx : p.tables.exec = Jvm.exec) (hlk : meth.locks = false) (hret : meth.sig.returnType = some t) (ht : t = .boolean ∨ t = .byte ∨ t = .char ∨ t = .short)
    (hd : decode c.code pc = .ok (.ireturn, 1)) (hk : k ≤ kk) (hj : j ≤ jj) (hq : Qr (some (.int (nar t z))) T.heap locs) : own_E p e below (own_Q s Qr kk jj) T (mkF m pc Ls (.int z :: rest)) := by
  obtain ⟨fs, hr, hrun, hended, hW, hsame⟩ := X.leave (v := some (.int (nar t z))) (fun q => by rw [hret] at q; cases q) hlk
  exact ⟨_, _, retN X hx hret ht hd hr, hrun, hended, _, _, rfl, hq, ⟨_, rfl⟩, hW, hsame.mono hk hj⟩
theorem own_retI {Qr : Option Value → Heap → List Loc → Prop} {kk jj pc : Nat} {Ls : Array Slot} {z : Int32} {rest : List Value} (X : Stand p l e R s m args below meth c T locs k j) (hx : p.tables.exec = Jvm.exec) (hlk : meth.locks = false) (hret : meth.sig.returnType = some .int)
    (hd : decode c.code pc = .ok (.ireturn, 1)) (hk : k ≤ kk) (hj : j ≤ jj) (hq : Qr (some (.int z)) T.heap locs) : own_E p e below (own_Q s Qr kk jj) T (mkF m pc Ls (.int z :: rest)) := by
  obtain ⟨fs, hr, hrun, hended, hW, hsame⟩ := X.leave (v := some (.int z)) (fun q => by rw [hret] at q; cases q) hlk
  exact ⟨_, _, retI X hx hret hd hr, hrun, hended, _, _, rfl, hq, ⟨_, rfl⟩, hW, hsame.mono hk hj⟩
theorem own_retJ {Qr : Option Value → Heap → List Loc → Prop} {kk jj pc : Nat} {Ls : Array Slot} {z : Int64} (X : Stand p l e R s m args below meth c T locs k j) (hx : p.tables.exec = Jvm.exec) (hlk : meth.locks = false) (hret : meth.sig.returnType = some .long)
    (hd : decode c.code pc = .ok (.lreturn, 1)) (hk : k ≤ kk) (hj : j ≤ jj) (hq : Qr (some (.long z)) T.heap locs) : own_E p e below (own_Q s Qr kk jj) T (mkF m pc Ls [.long z]) := by
  obtain ⟨fs, hr, hrun, hended, hW, hsame⟩ := X.leave (v := some (.long z)) (fun q => by rw [hret] at q; cases q) hlk
  exact ⟨_, _, X.lreturnOut hx hret hd hr, hrun, hended, _, _, rfl, hq, ⟨_, rfl⟩, hW, hsame.mono hk hj⟩
theorem own_retV {Qr : Option Value → Heap → List Loc → Prop} {kk jj pc : Nat} {Ls : Array Slot} (X : Stand p l e R s m args below meth c T locs k j) (hx : p.tables.exec = Jvm.exec) (hlk : meth.locks = false) (hret : meth.sig.returnType = none)
    (hd : decode c.code pc = .ok (.return_, 1)) (hk : k ≤ kk) (hj : j ≤ jj) (hq : Qr none T.heap locs) : own_E p e below (own_Q s Qr kk jj) T (mkF m pc Ls []) := by
  obtain ⟨fs, hr, hrun, hended, hW, hsame⟩ := X.leave (v := none) (fun _ => rfl) hlk
  exact ⟨_, _, X.returnOut hx hret hd hr, hrun, hended, _, _, rfl, hq, ⟨_, rfl⟩, hW, hsame.mono hk hj⟩
theorem own_retA {Qr : Option Value → Heap → List Loc → Prop} {kk jj pc : Nat} {Ls : Array Slot} {z : Value} {t : FieldType} {rest : List Value} (X : Stand p l e R s m args below meth c T locs k j) (hx : p.tables.exec = Jvm.exec) (hlk : meth.locks = false) (hret : meth.sig.returnType = some t) (ht : t.isReference = true) (hz : z.isRef = true) (hn : narrow t z = z)
    (hd : decode c.code pc = .ok (.areturn, 1)) (hk : k ≤ kk) (hj : j ≤ jj) (hq : Qr (some z) T.heap locs) : own_E p e below (own_Q s Qr kk jj) T (mkF m pc Ls (z :: rest)) := by
  obtain ⟨fs, hr, hrun, hended, hW, hsame⟩ := X.leave (v := some z) (fun q => by rw [hret] at q; cases q) hlk
  exact ⟨_, _, retOut X hx hret hn (Or.inr (Or.inr (Or.inr (Or.inr ⟨rfl, ht, hz⟩)))) hd hr, hrun, hended, _, _, rfl, hq, ⟨_, rfl⟩, hW, hsame.mono hk hj⟩
theorem own_callS {own : String} {index : Nat} {y : MethodName} {bytes : ByteArray} {maxL W : Nat} {ret : Option FieldType} {rm : Room} {Qr : Option Value → Heap → List Loc → Prop} {Q : Outcome → State → Prop} {g : JFrame} {argsL rest : List Value}
    (X : Stand p l e R s m args below meth c T locs k j) (hx : p.tables.exec = Jvm.exec) (hZ : Z.Warmed39 s.vm) (hown : s.vm.findClass own = some m.cls) (wl : (Cond.methodLink own index y).before a0 Z = true) (wst : (Cond.static y).before a0 Z = true) (wi : (Cond.initialized y.cls).before a0 Z = true) (wc : (Cond.code y bytes maxL ret).before a0 Z = true)
    (hy : y.cls ≠ "java/lang/invoke/MethodHandle" ∧ y.cls ≠ "java/lang/invoke/VarHandle") (hM : own_M l Z y bytes maxL ret rm argsL.toArray T.heap Qr) (hf : rm.frames + 1 ≤ R.frames) (hl : W + (maxL + 11) + rm.locals ≤ R.locals) (hck : k + rm.cells ≤ R.cells) (hcj : j + rm.slots ≤ R.slots)
    (hg : g.method = m) (hsize : g.locals.size = c.maxLocals) (hlen : ∀ sig, parseMethodDescriptor y.desc = some sig → argsL.length = sig.parameters.length) (hstack : g.stack = argsL.reverse ++ rest) (hW : 2 * g.monitorRoom + (rest.map fun v => v.category).sum ≤ W) (hdg : decode c.code g.pc = .ok (.invokestatic index, 3))
    (K : ∀ (T' : State) (L : List Loc) (v : Option Value), Stand p l e R s m args below meth c T' (locs ++ L) (k + rm.cells) (j + rm.slots) → Qr v T'.heap L → own_E p e below Q T' { g with pc := g.pc + 3, stack := v.toList ++ rest }) : own_E p e below Q T g := by
  obtain ⟨v, vm1, ⟨T', L', k', j'⟩, -, X', ⟨Lc, hQ, l', y', z'⟩, st⟩ := Jvm.LawKit.callS X hx (y := y) hown (mvT hZ wl) (mvT hZ wst) (mvT hZ wi) (mvT hZ wc) hy (backOf (W := W) (hM []) hZ wc wi hf hl) hg hsize hlen hstack hW hdg (fun _ _ => ⟨rfl, rfl, hck, hcj⟩)
  dsimp only [Pt.U, Pt.locs, Pt.cells, Pt.slots] at X' l' y' z' st hQ
  subst l' y' z'
  exact own_st st (K _ _ _ X' hQ)
theorem own_tr {P : Heap → Prop} {h h' : Heap} (q : h' = h) (i : P h) : P h' := q ▸ i
theorem own_pop2L {tb : Tables} [Ours tb] {target : State} {g : JFrame} (h : At T m c below) (hx : tb.exec = Jvm.exec) (hg : g.method = m) {x : Int64} {rest : List Value} (hd : decode c.code g.pc = .ok (.pop2, 1)) (hs : g.stack = .long x :: rest)
    (hr : Steps tb e below (T.setTop { g with pc := g.pc + 1, stack := rest }) target) : Steps tb e below (T.setTop g) target := by
  subst hg
  jvm_step h [h.top, hx, hd, hs]
  exact hr
theorem own_callC {own : String} {index : Nat} {y : MethodName} {bytes : ByteArray} {maxL W : Nat} {rm : Room} {Qr : Option Value → Heap → List Loc → Prop} {Q : Outcome → State → Prop} {g : JFrame} {a : Addr} {argsL rest : List Value}
    (X : Stand p l e R s m args below meth c T locs k j) (hx : p.tables.exec = Jvm.exec) (hZ : Z.Warmed39 s.vm) (hy1 : y.name = "<init>") (hown : s.vm.findClass own = some m.cls) (wl : (Cond.methodLink own index y).before a0 Z = true) (wm : (Cond.instanceMethod y).before a0 Z = true) (wi : (Cond.initialized y.cls).before a0 Z = true) (wc : (Cond.code y bytes maxL none).before a0 Z = true)
    (hy : y.cls ≠ "java/lang/invoke/MethodHandle" ∧ y.cls ≠ "java/lang/invoke/VarHandle") (hM : own_M l Z y bytes maxL none rm (.ref a :: argsL).toArray T.heap Qr) (hf : rm.frames + 1 ≤ R.frames) (hl : W + (maxL + 11) + rm.locals ≤ R.locals) (hck : k + rm.cells ≤ R.cells) (hcj : j + rm.slots ≤ R.slots)
    (hg : g.method = m) (hsize : g.locals.size = c.maxLocals) (hlen : ∀ sig, parseMethodDescriptor y.desc = some sig → argsL.length = sig.parameters.length) (hstack : g.stack = argsL.reverse ++ .ref a :: rest) (hW : 2 * g.monitorRoom + (rest.map fun v => v.category).sum ≤ W) (hdg : decode c.code g.pc = .ok (.invokespecial index, 3))
    (K : ∀ (T' : State) (L : List Loc) (v : Option Value), Stand p l e R s m args below meth c T' (locs ++ L) (k + rm.cells) (j + rm.slots) → Qr v T'.heap L → own_E p e below Q T' { g with pc := g.pc + 3, stack := v.toList ++ rest }) : own_E p e below Q T g := by
  obtain ⟨v, vm1, ⟨T', L', k', j'⟩, -, X', ⟨Lc, hQ, l', y', z'⟩, st⟩ := X.specialBack hx (y := y) hy1 hown (mvT hZ wl) (mvT hZ wm) (mvT hZ wc) hy (backOf (W := W) (hM []) hZ wc wi hf hl) hg hsize (Steps.refl _) (a := a) hlen hstack hW hdg (fun _ _ => ⟨rfl, rfl, hck, hcj⟩)
  dsimp only [Pt.U, Pt.locs, Pt.cells, Pt.slots] at X' l' y' z' st hQ
  subst l' y' z'
  exact own_sy st (K _ _ _ X' hQ)
theorem own_callV {own : String} {index : Nat} {y : MethodName} {bytes : ByteArray} {maxL W : Nat} {ret : Option FieldType} {rm : Room} {Qr : Option Value → Heap → List Loc → Prop} {Q : Outcome → State → Prop} {g : JFrame} {a : Addr} {argsL rest : List Value}
    (X : Stand p l e R s m args below meth c T locs k j) (hx : p.tables.exec = Jvm.exec) (hZ : Z.Warmed39 s.vm) (hown : s.vm.findClass own = some m.cls) (wl : (Cond.methodLink own index y).before a0 Z = true) (wd : (Cond.declares y).before a0 Z = true) (wsel : (Cond.selects y.cls y y).before a0 Z = true) (wm : (Cond.instanceMethod y).before a0 Z = true) (wi : (Cond.initialized y.cls).before a0 Z = true) (wc : (Cond.code y bytes maxL ret).before a0 Z = true)
    (hy : y.cls ≠ "java/lang/invoke/MethodHandle" ∧ y.cls ≠ "java/lang/invoke/VarHandle") (E : Exa Z T.heap a y.cls) (hM : own_M l Z y bytes maxL ret rm (.ref a :: argsL).toArray T.heap Qr) (hf : rm.frames + 1 ≤ R.frames) (hl : W + (maxL + 11) + rm.locals ≤ R.locals) (hck : k + rm.cells ≤ R.cells) (hcj : j + rm.slots ≤ R.slots)
    (hg : g.method = m) (hsize : g.locals.size = c.maxLocals) (hlen : ∀ sig, parseMethodDescriptor y.desc = some sig → argsL.length = sig.parameters.length) (hstack : g.stack = argsL.reverse ++ .ref a :: rest) (hW : 2 * g.monitorRoom + (rest.map fun v => v.category).sum ≤ W) (hdg : decode c.code g.pc = .ok (.invokevirtual index, 3))
    (K : ∀ (T' : State) (L : List Loc) (v : Option Value), Stand p l e R s m args below meth c T' (locs ++ L) (k + rm.cells) (j + rm.slots) → Qr v T'.heap L → own_E p e below Q T' { g with pc := g.pc + 3, stack := v.toList ++ rest }) : own_E p e below Q T g := by
  obtain ⟨cB, kB, qa, qb, qc⟩ := isOf (T := T) hZ rfl E
  obtain ⟨v, vm1, ⟨T', L', k', j'⟩, -, X', ⟨Lc, hQ, l', y', z'⟩, st⟩ := X.virtualBack hx (y := y) (z := y) hown (mvT hZ wl) (mvT hZ wd) (notFace_of_selects (args := #[]) (mvT hZ wsel)) (mvT hZ wsel) (mvT hZ wm) hy (backOf (W := W) (hM []) hZ wc wi hf hl) qa qc hg hsize (Steps.refl _) hlen hstack hW hdg (fun _ _ => ⟨rfl, rfl, hck, hcj⟩)
  dsimp only [Pt.U, Pt.locs, Pt.cells, Pt.slots] at X' l' y' z' st hQ
  subst l' y' z'
  exact own_sy st (K _ _ _ X' hQ)
theorem own_sel {y z : MethodName} (h : (Cond.selects z.cls z z).before args s = true) (hc : y.cls = z.cls) (hpriv : s.PrivateAt y) (hinst : (Cond.instanceMethod y).before args s = true) (hy : y.cls ≠ "java/lang/invoke/MethodHandle" ∧ y.cls ≠ "java/lang/invoke/VarHandle") : (Cond.selects y.cls y y).before args s = true := by
  obtain ⟨c2, r2, m2, -, -, q3, -, kP, hkP, hkPi⟩ := Cond.selects_spec h
  exact Stand.selects_self_of_private (by rw [hc]; exact findClass_of_methodNamed q3) hkP hkPi hpriv hinst hy
theorem own_callP {own : String} {index : Nat} {y z : MethodName} {bytes : ByteArray} {maxL W : Nat} {ret : Option FieldType} {rm : Room} {Qr : Option Value → Heap → List Loc → Prop} {Q : Outcome → State → Prop} {g : JFrame} {a : Addr} {argsL rest : List Value}
    (X : Stand p l e R s m args below meth c T locs k j) (hx : p.tables.exec = Jvm.exec) (hZ : Z.Warmed39 s.vm) (hown : s.vm.findClass own = some m.cls) (wl : (Cond.methodLink own index y).before a0 Z = true) (wsel : (Cond.selects z.cls z z).before a0 Z = true) (hc : y.cls = z.cls) (wp : (Cond.privateMethod y).before a0 Z = true) (wm : (Cond.instanceMethod y).before a0 Z = true) (wi : (Cond.initialized y.cls).before a0 Z = true) (wc : (Cond.code y bytes maxL ret).before a0 Z = true)
    (hy : y.cls ≠ "java/lang/invoke/MethodHandle" ∧ y.cls ≠ "java/lang/invoke/VarHandle") (E : Exa Z T.heap a y.cls) (hM : own_M l Z y bytes maxL ret rm (.ref a :: argsL).toArray T.heap Qr) (hf : rm.frames + 1 ≤ R.frames) (hl : W + (maxL + 11) + rm.locals ≤ R.locals) (hck : k + rm.cells ≤ R.cells) (hcj : j + rm.slots ≤ R.slots)
    (hg : g.method = m) (hsize : g.locals.size = c.maxLocals) (hlen : ∀ sig, parseMethodDescriptor y.desc = some sig → argsL.length = sig.parameters.length) (hstack : g.stack = argsL.reverse ++ .ref a :: rest) (hW : 2 * g.monitorRoom + (rest.map fun v => v.category).sum ≤ W) (hdg : decode c.code g.pc = .ok (.invokevirtual index, 3))
    (K : ∀ (T' : State) (L : List Loc) (v : Option Value), Stand p l e R s m args below meth c T' (locs ++ L) (k + rm.cells) (j + rm.slots) → Qr v T'.heap L → own_E p e below Q T' { g with pc := g.pc + 3, stack := v.toList ++ rest }) : own_E p e below Q T g := by
  obtain ⟨cq, q1, q2⟩ := E.cell
  have hpr := Cond.privateMethod_at (mvP hZ wp (args := args))
  obtain ⟨v, vm1, ⟨T', L', k', j'⟩, -, X', ⟨Lc, hQ, l', y', z'⟩, st⟩ := X.privateBack hx (y := y) hown (mvT hZ wl) (mvT hZ wm) (own_sel (z := z) (mvT hZ wsel) hc hpr (mvT hZ wm) hy) hpr (mvT hZ wc) hy (backOf (W := W) (hM []) hZ wc wi hf hl) hg hsize (Steps.refl _) (a := a) q1 q2 hlen hstack hW hdg (fun _ _ => ⟨rfl, rfl, hck, hcj⟩)
  dsimp only [Pt.U, Pt.locs, Pt.cells, Pt.slots] at X' l' y' z' st hQ
  subst l' y' z'
  exact own_sy st (K _ _ _ X' hQ)
end Own
section OwnS
variable {p : Program} {l : Launch} {e : Env} {R : Room} {s : State} {m : MethodId} {args : Array Value} {below : List Frame} {meth : Method} {c : Code} {T : State} {locs : List Loc} {k j : Nat} {Z : State} {a0 : Array Value} {h h' : Heap} {EL : List (String × Nat)} {vm0 : Vm} {a b b' : Addr} {z z' : Int32} {t t' : List Int32} {cs bs an : Int32} {fv : Value}
/-- at b lies a byte[z] that holds t -/
def own_B (Z : State) (h : Heap) (b : Addr) (z : Int32) (t : List Int32) : Prop := ∃ kc : ClassId, Arv Z h b kc .byte z (t.map Value.int) (.int 0)
/-- at a lies a String, Latin-1, its bytes at b -/
def own_S (Z : State) (h : Heap) (a b : Addr) (z : Int32) (t : List Int32) : Prop := Exa Z h a "java/lang/String" ∧ Fld Z h a "java/lang/String" "coder" "B" (.int 0) ∧ Fld Z h a "java/lang/String" "value" "[B" (.ref b) ∧ own_B Z h b z t
/-- the JDK's two statics -/
def own_C (Z : State) (h : Heap) (cs : Int32) (fv : Value) : Prop := Sta Z h "java/lang/String" "COMPACT_STRINGS" "Z" (.int cs) ∧ ¬ cs = 0 ∧ Sta Z h "jdk/internal/util/Preconditions" "SIOOBE_FORMATTER" "Ljava/util/function/BiFunction;" fv ∧ fv.isRef = true
/-- at a lies a MariadbSql -/
def own_G (Z : State) (h : Heap) (a : Addr) (bs an : Int32) : Prop := Exa Z h a "com/example/rowbridge/rowbridge/jdbc/MariadbSql" ∧ Fld Z h a "com/example/rowbridge/rowbridge/jdbc/MariadbSql" "backslashEscapes" "Z" (.int bs) ∧ Fld Z h a "com/example/rowbridge/rowbridge/jdbc/MariadbSql" "ansiQuotes" "Z" (.int an)
theorem own_Bx (E : Ext h h') (q : own_B Z h b z t) : own_B Z h' b z t := by obtain ⟨kc, A⟩ := q; exact ⟨kc, A.ext E⟩
theorem own_Sx (E : Ext h h') (q : own_S Z h a b z t) : own_S Z h' a b z t := ⟨q.1.ext E, q.2.1.ext E, q.2.2.1.ext E, own_Bx E q.2.2.2⟩
theorem own_Cx (E : Ext h h') (q : own_C Z h cs fv) : own_C Z h' cs fv := ⟨q.1.ext E, q.2.1, q.2.2.1.ext E, q.2.2.2⟩
theorem own_Gx (E : Ext h h') (q : own_G Z h a bs an) : own_G Z h' a bs an := ⟨q.1.ext E, q.2.1.ext E, q.2.2.ext E⟩
theorem own_eqx (q : h' = h) : Ext h h' := by rw [q]; exact ⟨Nat.le_refl _, fun _ _ z => z⟩
theorem own_extT {h1 : Heap} (E : Ext h h1) (E' : Ext h1 h') : Ext h h' := ⟨Nat.le_trans E.1 E'.1, fun x cx q => E'.2 x cx (E.2 x cx q)⟩
theorem own_gd : ∀ (t : List Int32) (i : Nat), (t.map Value.int).getD i (.int 0) = .int (t.getD i 0)
  | [], _ => rfl
  | _ :: _, 0 => rfl
  | _ :: t, i + 1 => own_gd t i
theorem own_Bz (q : own_B Z h b z t) (q' : own_B Z h b z' t') : z = z' := by
  obtain ⟨k1, c1, A1, -, S1, n1, -⟩ := q
  obtain ⟨k2, c2, A2, -, S2, n2, -⟩ := q'
  cases A1.1.symm.trans A2.1
  exact (len_of S1 n1).symm.trans (len_of S2 n2)
theorem own_Fv {v w : Value} {C n d : String} (q : Fld Z h a C n d v) (q' : Fld Z h a C n d w) : v = w := by
  obtain ⟨c1, f1, k1, i1, g1, x1, x2, -, -, -, -, x7⟩ := q
  obtain ⟨c2, f2, k2, i2, g2, y1, y2, -, -, -, -, y7⟩ := q'
  cases x1.symm.trans y1
  cases x2.symm.trans y2
  exact Option.some.inj (x7.symm.trans y7)
theorem own_Sz (q : own_S Z h a b z t) (q' : own_S Z h a b' z' t') : z = z' := by
  have e1 := own_Fv q.2.2.1 q'.2.2.1
  cases e1
  exact own_Bz q.2.2.2 q'.2.2.2
theorem own_blen (X : Stand p l e R s m args below meth c T locs k j) (hx : p.tables.exec = Jvm.exec) (hZ : Z.Warmed39 s.vm) (eT : T.heap = h) (B : own_B Z h b z t)
    {g : JFrame} (hg : g.method = m) {rest : List Value} (hs : g.stack = .ref b :: rest) (hd : decode c.code g.pc = .ok (.arraylength, 1)) {target : State}
    (hr : Steps p.tables e below (T.setTop { g with pc := g.pc + 1, stack := .int z :: rest }) target) : Steps p.tables e below (T.setTop g) target := by
  obtain ⟨kc, cl, A, -, S, q, H, F⟩ := B
  exact X.arraylength hx (by rw [eT]; exact A.1) (State.isArrayOf_alike hZ.alike A.2.1) hg hs hd _ (by rw [len_of S q]; exact hr)
theorem own_bload (X : Stand p l e R s m args below meth c T locs k j) (hx : p.tables.exec = Jvm.exec) (hZ : Z.Warmed39 s.vm) (eT : T.heap = h) (B : own_B Z h b z t) {i : Int32} (hi : ¬ i < 0 ∧ i < z)
    {g : JFrame} (hg : g.method = m) {rest : List Value} (hs : g.stack = .int i :: .ref b :: rest) (hd : decode c.code g.pc = .ok (.baload, 1)) {target : State}
    (hr : Steps p.tables e below (T.setTop { g with pc := g.pc + 1, stack := .int (t.getD i.toNatClampNeg 0) :: rest }) target) : Steps p.tables e below (T.setTop g) target := by
  obtain ⟨kc, cl, A, -, S, q, H, F⟩ := B
  have hb := inb_of S hi
  exact X.baloadBytes hx (by rw [eT]; exact A.1) (State.isArrayOf_alike hZ.alike A.2.1) A.2.2 hb ((H _ (Nat.lt_of_not_le fun z => hb (Or.inr z))).trans (congrArg some (own_gd t _))) hg hs hd _ hr
/-- an end as a contract says, of a road that may intern -/
def own_QS (Z : State) (EL : List (String × Nat)) (s : State) (Qr : Option Value → Heap → List Loc → Prop) (k j : Nat) (o : Outcome) (U : State) : Prop := ∃ v L, o = .returned v ∧ Qr v U.heap L ∧ CHr Z EL s.vm s.heap U.vm U.heap ∧ ReturnedEndW s o U L k j
def own_MS (l : Launch) (Z : State) (EL : List (String × Nat)) (y : MethodName) (bytes : ByteArray) (maxL : Nat) (ret : Option FieldType) (rm : Room) (as' : Array Value) (h : Heap) (Qr : Option Value → Heap → List Loc → Prop) : Prop :=
  ∀ ws : List Jvm.Cond, MetFree l y (head1 (Jvm.Cond.code y bytes maxL ret :: ws) rm) (fun a U => a = as' ∧ Z.Warmed39 U.vm ∧ U.heap = h ∧ CHv Z EL U.vm h) (fun _ _ _ _ _ => True) (fun _ U o U' => ∃ v L, o = .returned v ∧ Qr v U'.heap L ∧ CHr Z EL U.vm U.heap U'.vm U'.heap ∧ ReturnedEndW U o U' L rm.cells rm.slots)
/-- what stands beside the Stand of a road that may intern -/
def own_T (Z : State) (EL : List (String × Nat)) (s : State) (own : String) (cls : ClassId) (vm0 : Vm) (h : Heap) : Prop := (∃ k0, s.Since vm0 k0 ∧ k0 ≤ h.size) ∧ Z.Warmed39 vm0 ∧ vm0.findClass own = some cls ∧ CHr Z EL s.vm s.heap vm0 h
theorem own_Tx {own : String} {cls : ClassId} (E : Ext h h') (M : own_T Z EL s own cls vm0 h) : own_T Z EL s own cls vm0 h' := by
  obtain ⟨⟨k0, hS, hk⟩, hZ, ho, hC⟩ := M
  exact ⟨⟨k0, hS, Nat.le_trans hk E.1⟩, hZ, ho, hC.trans (CHr.ext E hC.1)⟩
theorem own_bodyS {y : MethodName} {bytes : ByteArray} {maxL : Nat} {ret : Option FieldType} {rm : Room} {as' : Array Value} {Qr : Option Value → Heap → List Loc → Prop} (hp : plainName y.cls = true)
    (body : ∀ (p : Program) (e : Env) (s : State) (m : MethodId) (below : List Frame) (meth : Method) (c : Code) (T : State), p.tables.exec = Jvm.exec → c.code = bytes → c.maxLocals = maxL → meth.sig.returnType = ret → meth.locks = false → meth.name = y.name →
      Stand p l e rm (s.setVm s.vm) m as' below meth c T [] 0 0 → T.heap = h → own_T Z EL s y.cls m.cls s.vm T.heap → own_E p e below (own_QS Z EL s Qr rm.cells rm.slots) T (entryFrame m as' maxL)) : own_MS l Z EL y bytes maxL ret rm as' h Qr := by
  intro ws
  refine MetFree.of_bodySF (plainFor_of_name hp) hisR ?_
  intro p e s m args below meth c s₁ Bd hml0 hP hK
  obtain ⟨rfl, hZ, hh, hC⟩ := hP
  have e1 : s₁.heap = s.heap := by rw [Bd.state]; rfl
  subst hh
  exact body p e s m below meth c s₁ Bd.exec Bd.bytes hml0 Bd.returns Bd.notSynchronized (name_of_methodNamed Bd.named Bd.method).1 (Stand.of_body Bd) e1 (by rw [e1]; exact ⟨⟨s.heap.size, (State.WarmedH.refl s).since _, Nat.le_refl _⟩, hZ, findClass_of_methodNamed Bd.named, CHr.refl hC⟩)
theorem own_rw {o : Outcome} {U : State} {L : List Loc} {n k' n' : Nat} (q : ReturnedEndW s o U L k n) (hk : k ≤ k') (hn : n ≤ n') : ReturnedEndW s o U L k' n' := ⟨q.1, q.2.1, q.2.2.1, q.2.2.2.mono hk hn⟩
theorem own_retAS {Qr : Option Value → Heap → List Loc → Prop} {kk jj pc : Nat} {Ls : Array Slot} {v : Value} {ty : FieldType} {rest : List Value} {own : String} (X : Stand p l e R (s.setVm vm0) m args below meth c T locs k j) (hx : p.tables.exec = Jvm.exec) (hlk : meth.locks = false) (hret : meth.sig.returnType = some ty) (ht : ty.isReference = true) (hz : v.isRef = true) (hn : narrow ty v = v)
    (hEL : EW Z a0 EL) (M : own_T Z EL s own m.cls vm0 T.heap) (hd : decode c.code pc = .ok (.areturn, 1)) (hk : k ≤ kk) (hj : j ≤ jj) (hq : Qr (some v) T.heap locs) : own_E p e below (own_QS Z EL s Qr kk jj) T (mkF m pc Ls (v :: rest)) := by
  obtain ⟨⟨k0, hS, hk0⟩, hZ, hown, hC⟩ := M
  have hC2 : CHr Z EL s.vm s.heap T.vm T.heap := hC.trans (CHv.at X hZ hEL hC.1)
  obtain ⟨fs, hr, hrun, hended, hW⟩ := X.leaveW hS hk0 (v := some v) (fun q => by rw [hret] at q; cases q) hlk
  exact ⟨_, _, retOut X hx hret hn (Or.inr (Or.inr (Or.inr (Or.inr ⟨rfl, ht, hz⟩)))) hd hr, hrun, hended, _, _, rfl, hq, hC2, own_rw hW hk hj⟩
theorem own_retNS {Qr : Option Value → Heap → List Loc → Prop} {kk jj pc : Nat} {Ls : Array Slot} {v : Int32} {ty : FieldType} {rest : List Value} {own : String} (X : Stand p l e R (s.setVm vm0) m args below meth c T locs k j) (hx : p.tables.exec = Jvm.exec) (hlk : meth.locks = false) (hret : meth.sig.returnType = some ty) (ht : ty = .boolean ∨ ty = .byte ∨ ty = .char ∨ ty = .short)
    (hEL : EW Z a0 EL) (M : own_T Z EL s own m.cls vm0 T.heap) (hd : decode c.code pc = .ok (.ireturn, 1)) (hk : k ≤ kk) (hj : j ≤ jj) (hq : Qr (some (.int (nar ty v))) T.heap locs) : own_E p e below (own_QS Z EL s Qr kk jj) T (mkF m pc Ls (.int v :: rest)) := by
  obtain ⟨⟨k0, hS, hk0⟩, hZ, hown, hC⟩ := M
  have hC2 : CHr Z EL s.vm s.heap T.vm T.heap := hC.trans (CHv.at X hZ hEL hC.1)
  obtain ⟨fs, hr, hrun, hended, hW⟩ := X.leaveW hS hk0 (v := some (.int (nar ty v))) (fun q => by rw [hret] at q; cases q) hlk
  exact ⟨_, _, retN X hx hret ht hd hr, hrun, hended, _, _, rfl, hq, hC2, own_rw hW hk hj⟩
theorem own_ldc {Q : Outcome → State → Prop} {own text : String} {index n : Nat} {g : JFrame} (X : Stand p l e R (s.setVm vm0) m args below meth c T locs k j) (hx : p.tables.exec = Jvm.exec) (hEL : EW Z a0 EL) (M : own_T Z EL s own m.cls vm0 T.heap) (w : (Cond.stringLink own index text).before a0 Z = true) (wS : ∀ a ∈ Bundle.stringAtoms, a.before a0 Z = true) (hmem : (own, index) ∈ EL)
    (ht : (∀ c ∈ text.toList, c.toNat < 256) ∧ text.toList.map (fun c => Value.int (Jvm.Lit.byteI c.toNat.toUInt16)) = t.map Value.int) (hz : ¬ z < 0) (hl : z.toNatClampNeg = (t.map Value.int).length) (hn : 4 * text.toList.length ≤ n) (hbig : n ≤ 536870912) (hc : k + 2 ≤ R.cells) (hl' : j + (n + 4) ≤ R.slots) (hg : g.method = m) (hd : decode c.code g.pc = .ok (.ldc index, 2))
    (K : ∀ (T' : State) (vm1 : Vm) (a b : Addr), Stand p l e R (s.setVm vm1) m args below meth c T' locs (k + 2) (j + (n + 4)) → own_T Z EL s own m.cls vm1 T'.heap → Ext T.heap T'.heap → own_S Z T'.heap a b z t → own_E p e below Q T' { g with pc := g.pc + 2, stack := .ref a :: g.stack }) : own_E p e below Q T g := by
  obtain ⟨⟨k0, hS, hk0⟩, hZ, hown, hC⟩ := M
  obtain ⟨a, T', h', k1, b, kc, X', rfl, E, hS', hk1, hZ', hown', x1, x2, x3, x4, -, -, hC', -, -, st⟩ := ldcCH X hx hZ hown w wS rfl hS hk0 hEL hmem hC.1 ht hz hl hg hd hn hbig hc hl'
  exact own_st st (K T' T'.vm a b X' ⟨⟨k1, hS', hk1⟩, hZ', hown', hC.trans hC'⟩ E ⟨x1, x2, x3, kc, x4⟩)
theorem own_callVS {own : String} {index : Nat} {y : MethodName} {bytes : ByteArray} {maxL W : Nat} {ret : Option FieldType} {rm : Room} {Qr : Option Value → Heap → List Loc → Prop} {Q : Outcome → State → Prop} {g : JFrame} {a : Addr} {argsL rest : List Value}
    (X : Stand p l e R (s.setVm vm0) m args below meth c T locs k j) (hx : p.tables.exec = Jvm.exec) (hEL : EW Z a0 EL) (M : own_T Z EL s own m.cls vm0 T.heap) (wl : (Cond.methodLink own index y).before a0 Z = true) (wd : (Cond.declares y).before a0 Z = true) (wsel : (Cond.selects y.cls y y).before a0 Z = true) (wm : (Cond.instanceMethod y).before a0 Z = true) (wi : (Cond.initialized y.cls).before a0 Z = true) (wc : (Cond.code y bytes maxL ret).before a0 Z = true)
    (hy : y.cls ≠ "java/lang/invoke/MethodHandle" ∧ y.cls ≠ "java/lang/invoke/VarHandle") (E : Exa Z T.heap a y.cls) (hM : own_MS l Z EL y bytes maxL ret rm (.ref a :: argsL).toArray T.heap Qr) (hf : rm.frames + 1 ≤ R.frames) (hl : W + (maxL + 11) + rm.locals ≤ R.locals) (hck : k + rm.cells ≤ R.cells) (hcj : j + rm.slots ≤ R.slots)
    (hg : g.method = m) (hsize : g.locals.size = c.maxLocals) (hlen : ∀ sig, parseMethodDescriptor y.desc = some sig → argsL.length = sig.parameters.length) (hstack : g.stack = argsL.reverse ++ .ref a :: rest) (hW : 2 * g.monitorRoom + (rest.map fun v => v.category).sum ≤ W) (hdg : decode c.code g.pc = .ok (.invokevirtual index, 3))
    (K : ∀ (T' : State) (vm1 : Vm) (L : List Loc) (v : Option Value), Stand p l e R (s.setVm vm1) m args below meth c T' (locs ++ L) (k + rm.cells) (j + rm.slots) → own_T Z EL s own m.cls vm1 T'.heap → Qr v T'.heap L → own_E p e below Q T' { g with pc := g.pc + 3, stack := v.toList ++ rest }) : own_E p e below Q T g := by
  obtain ⟨⟨k0, hS, hk0⟩, hZ, hown, hC⟩ := M
  have hZ1 : Z.Warmed39 (s.setVm vm0).vm := hZ
  obtain ⟨cB, kB, qa, qb, qc⟩ := isOf (T := T) hZ1 rfl E
  obtain ⟨v, vm1, ⟨T', L', k', j'⟩, -, X', hS', hsz, ⟨Lc, hQ, l', y', z', hC'⟩, st⟩ := X.virtualBackS hx (y := y) (z := y) hown (mvT hZ1 wl) (mvT hZ1 wd) (notFace_of_selects (args := #[]) (mvT hZ1 wsel)) (mvT hZ1 wsel) (mvT hZ1 wm) hy (backOfSH (W := W) (hM []) hZ wc wi hf hl hEL hC.1) qa qc hg hsize (Steps.refl _) hlen hstack hW hdg (fun _ _ => ⟨rfl, rfl, hck, hcj⟩)
  dsimp only [Pt.U, Pt.locs, Pt.cells, Pt.slots] at X' l' y' z' st hQ hS' hsz hC'
  subst l' y' z'
  exact own_sy st (K T' T'.vm _ _ X' ⟨⟨_, hS.trans hS' (Nat.le_trans hk0 hsz), Nat.le_refl _⟩, State.Warmed39.trans (t := s.setVm vm0) hZ hS'.1, by rw [hS'.1.alike.findClass]; exact hown, hC.trans hC'⟩ hQ)
theorem own_callSS {own : String} {index : Nat} {y : MethodName} {bytes : ByteArray} {maxL W : Nat} {ret : Option FieldType} {rm : Room} {Qr : Option Value → Heap → List Loc → Prop} {Q : Outcome → State → Prop} {g : JFrame} {argsL rest : List Value}
    (X : Stand p l e R (s.setVm vm0) m args below meth c T locs k j) (hx : p.tables.exec = Jvm.exec) (hEL : EW Z a0 EL) (M : own_T Z EL s own m.cls vm0 T.heap) (wl : (Cond.methodLink own index y).before a0 Z = true) (wst : (Cond.static y).before a0 Z = true) (wi : (Cond.initialized y.cls).before a0 Z = true) (wc : (Cond.code y bytes maxL ret).before a0 Z = true)
    (hy : y.cls ≠ "java/lang/invoke/MethodHandle" ∧ y.cls ≠ "java/lang/invoke/VarHandle") (hM : own_MS l Z EL y bytes maxL ret rm argsL.toArray T.heap Qr) (hf : rm.frames + 1 ≤ R.frames) (hl : W + (maxL + 11) + rm.locals ≤ R.locals) (hck : k + rm.cells ≤ R.cells) (hcj : j + rm.slots ≤ R.slots)
    (hg : g.method = m) (hsize : g.locals.size = c.maxLocals) (hlen : ∀ sig, parseMethodDescriptor y.desc = some sig → argsL.length = sig.parameters.length) (hstack : g.stack = argsL.reverse ++ rest) (hW : 2 * g.monitorRoom + (rest.map fun v => v.category).sum ≤ W) (hdg : decode c.code g.pc = .ok (.invokestatic index, 3))
    (K : ∀ (T' : State) (vm1 : Vm) (L : List Loc) (v : Option Value), Stand p l e R (s.setVm vm1) m args below meth c T' (locs ++ L) (k + rm.cells) (j + rm.slots) → own_T Z EL s own m.cls vm1 T'.heap → Qr v T'.heap L → own_E p e below Q T' { g with pc := g.pc + 3, stack := v.toList ++ rest }) : own_E p e below Q T g := by
  obtain ⟨⟨k0, hS, hk0⟩, hZ, hown, hC⟩ := M
  have hZ1 : Z.Warmed39 (s.setVm vm0).vm := hZ
  obtain ⟨v, vm1, ⟨T', L', k', j'⟩, -, X', hS', hsz, ⟨Lc, hQ, l', y', z', hC'⟩, st⟩ := Jvm.RoadKit.callSS X hx (y := y) hown (mvT hZ1 wl) (mvT hZ1 wst) (mvT hZ1 wi) (mvT hZ1 wc) hy (backOfSH (W := W) (hM []) hZ wc wi hf hl hEL hC.1) hg hsize hlen hstack hW hdg (fun _ _ => ⟨rfl, rfl, hck, hcj⟩)
  dsimp only [Pt.U, Pt.locs, Pt.cells, Pt.slots] at X' l' y' z' st hQ hS' hsz hC'
  subst l' y' z'
  exact own_sy st (K T' T'.vm _ _ X' ⟨⟨_, hS.trans hS' (Nat.le_trans hk0 hsz), Nat.le_refl _⟩, State.Warmed39.trans (t := s.setVm vm0) hZ hS'.1, by rw [hS'.1.alike.findClass]; exact hown, hC.trans hC'⟩ hQ)
/-- all but the cell at a is as it was -/
def own_K (h h' : Heap) (a : Addr) : Prop := h.size ≤ h'.size ∧ ∀ (x : Addr) (cx : Cell), h[x]? = some cx → x ≠ a → h'[x]? = some cx
theorem own_Kr (h : Heap) (a : Addr) : own_K h h a := ⟨Nat.le_refl _, fun _ _ q _ => q⟩
theorem own_Kw {h1 : Heap} {sl : Nat} {v : Value} (q : own_K h h1 a) (W : Wr h1 h' a sl v) : own_K h h' a := by
  obtain ⟨cell, h1', -, -, rfl⟩ := W
  exact ⟨by rw [Array.size_setIfInBounds]; exact q.1, fun x cx hcx ne => by rw [Array.getElem?_setIfInBounds_ne (Ne.symm ne)]; exact q.2 x cx hcx ne⟩
theorem own_Kx {h1 : Heap} (E : Ext h h1) (ha : h.size ≤ a) (q : own_K h1 h' a) : Ext h h' := ⟨Nat.le_trans E.1 q.1, fun x cx hcx => q.2 x cx (E.2 x cx hcx) (Nat.ne_of_lt (Nat.lt_of_lt_of_le (Array.getElem?_eq_some_iff.mp hcx).1 ha))⟩
end OwnS
def own_NB : List Int32 := [119, 104, 101, 114, 101, 32, 115, 113, 108, 95, 109, 111, 100, 101, 32, 104, 111, 108, 100, 115, 32, 78, 79, 95, 66, 65, 67, 75, 83, 76, 65, 83, 72, 95, 69, 83, 67, 65, 80, 69, 83]
def own_AQ : List Int32 := [119, 104, 101, 114, 101, 32, 115, 113, 108, 95, 109, 111, 100, 101, 32, 104, 111, 108, 100, 115, 32, 65, 78, 83, 73, 95, 81, 85, 79, 84, 69, 83]
def own_z (bs an : Int32) : Int32 := if bs = 0 then 41 else if an = 0 then 0 else 32
def own_t (bs an : Int32) : List Int32 := if bs = 0 then own_NB else if an = 0 then [] else own_AQ
def own_le (q bs an : Int32) : Int32 := if q = 39 then (if bs = 0 then 3 else 4) else if bs = 0 then 3 else if an = 0 then 4 else 3
def own_ch (t : List Int32) (i : Int32) : Int32 := ((t.getD i.toNatClampNeg 0) &&& (255 : Int32)).toUInt32.toUInt16.toUInt32.toInt32
theorem own_tx41 : (∀ c ∈ "where sql_mode holds NO_BACKSLASH_ESCAPES".toList, c.toNat < 256) ∧ "where sql_mode holds NO_BACKSLASH_ESCAPES".toList.map (fun c => Value.int (Jvm.Lit.byteI c.toNat.toUInt16)) = own_NB.map Value.int := by decide +kernel
theorem own_tx32 : (∀ c ∈ "where sql_mode holds ANSI_QUOTES".toList, c.toNat < 256) ∧ "where sql_mode holds ANSI_QUOTES".toList.map (fun c => Value.int (Jvm.Lit.byteI c.toNat.toUInt16)) = own_AQ.map Value.int := by decide +kernel
theorem own_tx0 : (∀ c ∈ "".toList, c.toNat < 256) ∧ "".toList.map (fun c => Value.int (Jvm.Lit.byteI c.toNat.toUInt16)) = ([] : List Int32).map Value.int := by decide +kernel
theorem own_tx39 : (∀ c ∈ "'\\''".toList, c.toNat < 256) ∧ "'\\''".toList.map (fun c => Value.int (Jvm.Lit.byteI c.toNat.toUInt16)) = ([39, 92, 39, 39] : List Int32).map Value.int := by decide +kernel
theorem own_tx34 : (∀ c ∈ "\"\\\"\"".toList, c.toNat < 256) ∧ "\"\\\"\"".toList.map (fun c => Value.int (Jvm.Lit.byteI c.toNat.toUInt16)) = ([34, 92, 34, 34] : List Int32).map Value.int := by decide +kernel
theorem own_len41 : 4 * "where sql_mode holds NO_BACKSLASH_ESCAPES".toList.length ≤ 164 := by decide +kernel
theorem own_len32 : 4 * "where sql_mode holds ANSI_QUOTES".toList.length ≤ 128 := by decide +kernel
theorem own_len0 : 4 * "".toList.length ≤ 0 := by decide +kernel
theorem own_len39 : 4 * "'\\''".toList.length ≤ 16 := by decide +kernel
theorem own_len34 : 4 * "\"\\\"\"".toList.length ≤ 16 := by decide +kernel
theorem own_wS {a0 : Array Value} {Z : State} (hw : ∀ d ∈ tables_1, d.before a0 Z = true) : ∀ a ∈ Bundle.stringAtoms, a.before a0 Z = true := by
  intro d hd
  simp only [Bundle.stringAtoms, List.mem_cons, List.not_mem_nil, or_false] at hd
  rcases hd with rfl | rfl | rfl | rfl | rfl | rfl | rfl
  all_goals first | exact hw _ (List.mem_of_getElem? (i := 24) rfl) | exact hw _ (List.mem_of_getElem? (i := 25) rfl) | exact hw _ (List.mem_of_getElem? (i := 26) rfl) | exact hw _ (List.mem_of_getElem? (i := 27) rfl) | exact hw _ (List.mem_of_getElem? (i := 28) rfl) | exact hw _ (List.mem_of_getElem? (i := 29) rfl) | exact hw _ (List.mem_of_getElem? (i := 30) rfl)
theorem own_EW {a0 : Array Value} {Z : State} (hw : ∀ d ∈ tables_1, d.before a0 Z = true) : EW Z a0 consts_1 :=
  EW.cons (hw _ (List.mem_of_getElem? (i := 23) rfl)) own_tx41.1 (EW.cons (hw _ (List.mem_of_getElem? (i := 31) rfl)) own_tx32.1 (EW.cons (hw _ (List.mem_of_getElem? (i := 100) rfl)) own_tx0.1 (EW.cons (hw _ (List.mem_of_getElem? (i := 98) rfl)) own_tx41.1 (EW.cons (hw _ (List.mem_of_getElem? (i := 99) rfl)) own_tx32.1 (EW.cons (hw _ (List.mem_of_getElem? (i := 101) rfl)) own_tx0.1 (EW.cons (hw _ (List.mem_of_getElem? (i := 32) rfl)) own_tx39.1 (EW.cons (hw _ (List.mem_of_getElem? (i := 78) rfl)) own_tx34.1 EW.nil)))))))
theorem own_zt {a b c d : Int32} (ha : a = 0 ∨ a = 1) (hb : b = 0 ∨ b = 1) (hc : c = 0 ∨ c = 1) (hd : d = 0 ∨ d = 1) : own_z a b = own_z c d → own_t a b = own_t c d := by
  rcases ha with rfl | rfl <;> rcases hb with rfl | rfl <;> rcases hc with rfl | rfl <;> rcases hd with rfl | rfl <;> first | exact fun _ => rfl | exact fun q => absurd q (by decide)
theorem own_rd {a b c d : Int32} (ha : a = 0 ∨ a = 1) (hb : b = 0 ∨ b = 1) (hc : c = 0 ∨ c = 1) (hd : d = 0 ∨ d = 1) : (own_le 39 a b = own_le 39 c d ∧ own_le 34 a b = own_le 34 c d) ↔ own_z a b = own_z c d := by
  rcases ha with rfl | rfl <;> rcases hb with rfl | rfl <;> rcases hc with rfl | rfl <;> rcases hd with rfl | rfl <;> decide
theorem own_extT_ {h h1 h2 : Heap} (E : Ext h1 h2) (q : Ext h h1) : Ext h h2 := own_extT q E
theorem pn_10 : plainName "jdk/internal/util/Preconditions" = true := by first | (simp [plainName, overriddenIn]; done) | decide +kernel
theorem pd_10 : parseMethodDescriptor "(IILjava/util/function/BiFunction;)I" = some ⟨[.int, .int, (.object "java/util/function/BiFunction")], some .int⟩ := by decide +kernel
theorem d10_0 : decode jdk_41_method_11_code 0 = .ok (.iload_n 0, 1) := by decide +kernel
theorem d10_1 : decode jdk_41_method_11_code 1 = .ok (.ifCond .lt 8, 3) := by decide +kernel
theorem d10_4 : decode jdk_41_method_11_code 4 = .ok (.iload_n 0, 1) := by decide +kernel
theorem d10_5 : decode jdk_41_method_11_code 5 = .ok (.iload_n 1, 1) := by decide +kernel
theorem d10_6 : decode jdk_41_method_11_code 6 = .ok (.if_icmp .lt 10, 3) := by decide +kernel
theorem d10_9 : decode jdk_41_method_11_code 9 = .ok (.aload_n 2, 1) := by decide +kernel
theorem d10_10 : decode jdk_41_method_11_code 10 = .ok (.iload_n 0, 1) := by decide +kernel
theorem d10_11 : decode jdk_41_method_11_code 11 = .ok (.iload_n 1, 1) := by decide +kernel
theorem d10_12 : decode jdk_41_method_11_code 12 = .ok (.invokestatic 95, 3) := by decide +kernel
theorem d10_15 : decode jdk_41_method_11_code 15 = .ok (.athrow, 1) := by decide +kernel
theorem d10_16 : decode jdk_41_method_11_code 16 = .ok (.iload_n 0, 1) := by decide +kernel
theorem d10_17 : decode jdk_41_method_11_code 17 = .ok (.ireturn, 1) := by decide +kernel
theorem ef_rm10 (m : MethodId) (p0 p1 : Int32) (fw : Value) (hc : fw.isRef = true) : entryFrame m #[(.int p0), (.int p1), fw] 3 = (mkF m 0 #[.val (.int p0), .val (.int p1), .val fw] []) := by rcases ref_cases hc with rfl | ⟨y, rfl⟩ <;> first | (simp [entryFrame, mkF, argsToLocals, Value.category, maxLocals]; done) | rfl
set_option maxRecDepth 65536 in
set_option maxHeartbeats 40000000 in
theorem rm10 (l : Launch) (Z : State) (a0 : Array Value) (hw : ∀ d ∈ tables_1, d.before a0 Z = true) (p0 p1 : Int32) (fw : Value) (cs : Int32) (fv : Value) (h0 : Heap) (n0 : Nat) (hi : ¬ p0 < 0 ∧ p0 < p1) (hf : fw.isRef = true) :
    own_M l Z (⟨"jdk/internal/util/Preconditions", "checkIndex", "(IILjava/util/function/BiFunction;)I"⟩ : MethodName) jdk_41_method_11_code 3 (some .int) ({ frames := 0, cells := 0, slots := 0, locals := 0 } : Room) #[(.int p0), (.int p1), fw] h0 (fun v h L => v = some (.int p0) ∧ Fr n0 L ∧ h = h0) := by
  refine own_body pn_10 ?_
  intro p e s m below meth c T hx hby hml hown hZ hret hlk hnm X eT
  have N := Fr.nil n0
  generalize hQ : own_Q s (fun v h L => v = some (.int p0) ∧ Fr n0 L ∧ h = h0) ({ frames := 0, cells := 0, slots := 0, locals := 0 } : Room).cells ({ frames := 0, cells := 0, slots := 0, locals := 0 } : Room).slots = Qq
  refine own_st (fun _ k => castTop (ef_rm10 m p0 p1 fw hf) k) ?_
  show own_E p e below Qq T (mkF m 0 #[.val (.int p0), .val (.int p1), .val fw] [])
  refine own_st (fun _ => XS.iloadN X.here hx rfl (hb hby d10_0) rfl) ?_
  show own_E p e below Qq T (mkF m 1 #[.val (.int p0), .val (.int p1), .val fw] [(.int p0)])
  refine own_st (fun _ => XS.ifNo X.here hx rfl (hb hby d10_1) rfl (XT.i0_lt_f hi.1)) ?_
  show own_E p e below Qq T (mkF m 4 #[.val (.int p0), .val (.int p1), .val fw] [])
  refine own_st (fun _ => XS.iloadN X.here hx rfl (hb hby d10_4) rfl) ?_
  show own_E p e below Qq T (mkF m 5 #[.val (.int p0), .val (.int p1), .val fw] [(.int p0)])
  refine own_st (fun _ => XS.iloadN X.here hx rfl (hb hby d10_5) rfl) ?_
  show own_E p e below Qq T (mkF m 6 #[.val (.int p0), .val (.int p1), .val fw] [(.int p1), (.int p0)])
  refine own_st (fun _ => XS.icmpYes X.here hx rfl (pc0 := 6) (pc' := 16) rfl (hb hby d10_6) rfl (XT.ii_lt_t hi.2) (by decide) (by decide)) ?_
  show own_E p e below Qq T (mkF m 16 #[.val (.int p0), .val (.int p1), .val fw] [])
  refine own_st (fun _ => XS.iloadN X.here hx rfl (hb hby d10_16) rfl) ?_
  show own_E p e below Qq T (mkF m 17 #[.val (.int p0), .val (.int p1), .val fw] [(.int p0)])
  rw [← hQ]
  exact own_retI X hx hlk hret (hb hby d10_17) (by decide) (by decide) ⟨rfl, N, eT⟩
theorem pn_9 : plainName "java/lang/String" = true := by first | (simp [plainName, overriddenIn]; done) | decide +kernel
theorem pd_9 : parseMethodDescriptor "(II)V" = some ⟨[.int, .int], none⟩ := by decide +kernel
theorem d9_0 : decode jdk_42_method_155_code 0 = .ok (.iload_n 0, 1) := by decide +kernel
theorem d9_1 : decode jdk_42_method_155_code 1 = .ok (.iload_n 1, 1) := by decide +kernel
theorem d9_2 : decode jdk_42_method_155_code 2 = .ok (.getstatic 1053, 3) := by decide +kernel
theorem d9_5 : decode jdk_42_method_155_code 5 = .ok (.invokestatic 1059, 3) := by decide +kernel
theorem d9_8 : decode jdk_42_method_155_code 8 = .ok (.pop, 1) := by decide +kernel
theorem d9_9 : decode jdk_42_method_155_code 9 = .ok (.return_, 1) := by decide +kernel
theorem ef_rm9 (m : MethodId) (p0 p1 : Int32) : entryFrame m #[(.int p0), (.int p1)] 2 = (mkF m 0 #[.val (.int p0), .val (.int p1)] []) := by first | (simp [entryFrame, mkF, argsToLocals, Value.category, maxLocals]; done) | rfl
set_option maxRecDepth 65536 in
set_option maxHeartbeats 40000000 in
theorem rm9 (l : Launch) (Z : State) (a0 : Array Value) (hw : ∀ d ∈ tables_1, d.before a0 Z = true) (p0 p1 : Int32) (cs : Int32) (fv : Value) (h0 : Heap) (n0 : Nat) (C : own_C Z h0 cs fv) (hi : ¬ p0 < 0 ∧ p0 < p1) :
    own_M l Z (⟨"java/lang/String", "checkIndex", "(II)V"⟩ : MethodName) jdk_42_method_155_code 2 none ({ frames := 1, cells := 0, slots := 0, locals := 14 } : Room) #[(.int p0), (.int p1)] h0 (fun v h L => v = none ∧ Fr n0 L ∧ h = h0) := by
  refine own_body pn_9 ?_
  intro p e s m below meth c T hx hby hml hown hZ hret hlk hnm X eT
  have N := Fr.nil n0
  generalize hQ : own_Q s (fun v h L => v = none ∧ Fr n0 L ∧ h = h0) ({ frames := 1, cells := 0, slots := 0, locals := 14 } : Room).cells ({ frames := 1, cells := 0, slots := 0, locals := 14 } : Room).slots = Qq
  refine own_st (fun _ k => castTop (ef_rm9 m p0 p1) k) ?_
  show own_E p e below Qq T (mkF m 0 #[.val (.int p0), .val (.int p1)] [])
  refine own_st (fun _ => XS.iloadN X.here hx rfl (hb hby d9_0) rfl) ?_
  show own_E p e below Qq T (mkF m 1 #[.val (.int p0), .val (.int p1)] [(.int p0)])
  refine own_st (fun _ => XS.iloadN X.here hx rfl (hb hby d9_1) rfl) ?_
  show own_E p e below Qq T (mkF m 2 #[.val (.int p0), .val (.int p1)] [(.int p1), (.int p0)])
  obtain ⟨T1, X1, e1, st1⟩ := getS X hx hZ hown (hw _ (List.mem_of_getElem? (i := 58) rfl)) Via.refl eT (C.2.2.1) (host := "") (g := (mkF m 2 #[.val (.int p0), .val (.int p1)] [(.int p1), (.int p0)])) rfl (hb hby d9_2)
  refine own_st st1 ?_
  replace eT := e1
  replace X := X1
  clear X1 st1
  show own_E p e below Qq T1 (mkF m 5 #[.val (.int p0), .val (.int p1)] [fv, (.int p1), (.int p0)])
  refine own_callS X hx hZ hown (hw _ (List.mem_of_getElem? (i := 60) rfl)) (hw _ (List.mem_of_getElem? (i := 61) rfl)) (hw _ (List.mem_of_getElem? (i := 59) rfl)) (hw _ (List.mem_of_getElem? (i := 62) rfl)) (by decide) (W := 0) (argsL := [(.int p0), (.int p1), fv]) (rest := []) (rm10 l Z a0 hw p0 p1 fv cs fv _ n0 hi C.2.2.2) (by decide) (by decide) (by decide) (by decide) rfl (by rw [hml]; rfl) (lenOf pd_10 rfl) rfl (by show 2 * 0 + _ ≤ _; exact Nat.le_of_eq rfl) (hb hby d9_5) ?_
  intro T2 L2 v X' hq
  obtain ⟨rfl, N', e'⟩ := hq
  replace eT := e'.trans eT
  clear e'
  replace N := Fr.app N N'
  replace X : Stand p l e ({ frames := 1, cells := 0, slots := 0, locals := 14 } : Room) s m #[(.int p0), (.int p1)] below meth c T2 _ 0 0 := X'
  clear X' N'
  show own_E p e below Qq T2 (mkF m 8 #[.val (.int p0), .val (.int p1)] [(.int p0)])
  refine own_st (fun _ => XT.pop X.here hx rfl (hb hby d9_8) rfl rfl) ?_
  show own_E p e below Qq T2 (mkF m 9 #[.val (.int p0), .val (.int p1)] [])
  rw [← hQ]
  exact own_retV X hx hlk hret (hb hby d9_9) (by decide) (by decide) ⟨rfl, N, eT⟩
theorem pn_8 : plainName "java/lang/StringLatin1" = true := by first | (simp [plainName, overriddenIn]; done) | decide +kernel
theorem pd_8 : parseMethodDescriptor "([BI)C" = some ⟨[(.array .byte), .int], some .char⟩ := by decide +kernel
theorem d8_0 : decode jdk_43_method_2_code 0 = .ok (.iload_n 1, 1) := by decide +kernel
theorem d8_1 : decode jdk_43_method_2_code 1 = .ok (.aload_n 0, 1) := by decide +kernel
theorem d8_2 : decode jdk_43_method_2_code 2 = .ok (.arraylength, 1) := by decide +kernel
theorem d8_3 : decode jdk_43_method_2_code 3 = .ok (.invokestatic 9, 3) := by decide +kernel
theorem d8_6 : decode jdk_43_method_2_code 6 = .ok (.aload_n 0, 1) := by decide +kernel
theorem d8_7 : decode jdk_43_method_2_code 7 = .ok (.iload_n 1, 1) := by decide +kernel
theorem d8_8 : decode jdk_43_method_2_code 8 = .ok (.baload, 1) := by decide +kernel
theorem d8_9 : decode jdk_43_method_2_code 9 = .ok (.sipush 255, 3) := by decide +kernel
theorem d8_12 : decode jdk_43_method_2_code 12 = .ok (.iand, 1) := by decide +kernel
theorem d8_13 : decode jdk_43_method_2_code 13 = .ok (.i2c, 1) := by decide +kernel
theorem d8_14 : decode jdk_43_method_2_code 14 = .ok (.ireturn, 1) := by decide +kernel
theorem ef_rm8 (m : MethodId) (b : Addr) (p0 : Int32) : entryFrame m #[(.ref b), (.int p0)] 2 = (mkF m 0 #[.val (.ref b), .val (.int p0)] []) := by first | (simp [entryFrame, mkF, argsToLocals, Value.category, maxLocals]; done) | rfl
set_option maxRecDepth 65536 in
set_option maxHeartbeats 40000000 in
theorem rm8 (l : Launch) (Z : State) (a0 : Array Value) (hw : ∀ d ∈ tables_1, d.before a0 Z = true) (b : Addr) (p0 : Int32) (cs : Int32) (fv : Value) (h0 : Heap) (n0 : Nat) (z : Int32) (t : List Int32) (Bf : own_B Z h0 b z t) (C : own_C Z h0 cs fv) (hi : ¬ p0 < 0 ∧ p0 < z) (cc : Int32) (hc : nar .char (own_ch t p0) = cc) :
    own_M l Z (⟨"java/lang/StringLatin1", "charAt", "([BI)C"⟩ : MethodName) jdk_43_method_2_code 2 (some .char) ({ frames := 2, cells := 0, slots := 0, locals := 27 } : Room) #[(.ref b), (.int p0)] h0 (fun v h L => v = some (.int cc) ∧ Fr n0 L ∧ h = h0) := by
  refine own_body pn_8 ?_
  intro p e s m below meth c T hx hby hml hown hZ hret hlk hnm X eT
  have N := Fr.nil n0
  generalize hQ : own_Q s (fun v h L => v = some (.int cc) ∧ Fr n0 L ∧ h = h0) ({ frames := 2, cells := 0, slots := 0, locals := 27 } : Room).cells ({ frames := 2, cells := 0, slots := 0, locals := 27 } : Room).slots = Qq
  refine own_st (fun _ k => castTop (ef_rm8 m b p0) k) ?_
  show own_E p e below Qq T (mkF m 0 #[.val (.ref b), .val (.int p0)] [])
  refine own_st (fun _ => XS.iloadN X.here hx rfl (hb hby d8_0) rfl) ?_
  show own_E p e below Qq T (mkF m 1 #[.val (.ref b), .val (.int p0)] [(.int p0)])
  refine own_st (fun _ => XS.aloadN X.here hx rfl (hb hby d8_1) rfl rfl) ?_
  show own_E p e below Qq T (mkF m 2 #[.val (.ref b), .val (.int p0)] [(.ref b), (.int p0)])
  refine own_st (fun _ hr => own_blen (g := (mkF m 2 #[.val (.ref b), .val (.int p0)] [(.ref b), (.int p0)])) X hx hZ eT (Bf) rfl rfl (hb hby d8_2) hr) ?_
  show own_E p e below Qq T (mkF m 3 #[.val (.ref b), .val (.int p0)] [(.int z), (.int p0)])
  refine own_callS X hx hZ hown (hw _ (List.mem_of_getElem? (i := 55) rfl)) (hw _ (List.mem_of_getElem? (i := 56) rfl)) (hw _ (List.mem_of_getElem? (i := 24) rfl)) (hw _ (List.mem_of_getElem? (i := 57) rfl)) (by decide) (W := 0) (argsL := [(.int p0), (.int z)]) (rest := []) (rm9 l Z a0 hw p0 z cs fv _ n0 (own_tr (P := fun h => own_C Z h cs fv) eT C) hi) (by decide) (by decide) (by decide) (by decide) rfl (by rw [hml]; rfl) (lenOf pd_9 rfl) rfl (by show 2 * 0 + _ ≤ _; exact Nat.le_of_eq rfl) (hb hby d8_3) ?_
  intro T1 L1 v X' hq
  obtain ⟨rfl, N', e'⟩ := hq
  replace eT := e'.trans eT
  clear e'
  replace N := Fr.app N N'
  replace X : Stand p l e ({ frames := 2, cells := 0, slots := 0, locals := 27 } : Room) s m #[(.ref b), (.int p0)] below meth c T1 _ 0 0 := X'
  clear X' N'
  show own_E p e below Qq T1 (mkF m 6 #[.val (.ref b), .val (.int p0)] [])
  refine own_st (fun _ => XS.aloadN X.here hx rfl (hb hby d8_6) rfl rfl) ?_
  show own_E p e below Qq T1 (mkF m 7 #[.val (.ref b), .val (.int p0)] [(.ref b)])
  refine own_st (fun _ => XS.iloadN X.here hx rfl (hb hby d8_7) rfl) ?_
  show own_E p e below Qq T1 (mkF m 8 #[.val (.ref b), .val (.int p0)] [(.int p0), (.ref b)])
  refine own_st (fun _ hr => own_bload (g := (mkF m 8 #[.val (.ref b), .val (.int p0)] [(.int p0), (.ref b)])) X hx hZ eT (Bf) (i := p0) hi rfl rfl (hb hby d8_8) hr) ?_
  show own_E p e below Qq T1 (mkF m 9 #[.val (.ref b), .val (.int p0)] [(.int (t.getD (p0).toNatClampNeg 0))])
  refine own_st (fun _ => XS.sipush X.here hx rfl (hb hby d8_9)) ?_
  show own_E p e below Qq T1 (mkF m 12 #[.val (.ref b), .val (.int p0)] [(.int (255 : Int32)), (.int (t.getD (p0).toNatClampNeg 0))])
  refine own_st (fun _ => XS.iand X.here hx rfl (hb hby d8_12) rfl) ?_
  show own_E p e below Qq T1 (mkF m 13 #[.val (.ref b), .val (.int p0)] [(.int ((t.getD (p0).toNatClampNeg 0) &&& (255 : Int32)))])
  refine own_st (fun _ => XT.i2c X.here hx rfl (hb hby d8_13) rfl) ?_
  show own_E p e below Qq T1 (mkF m 14 #[.val (.ref b), .val (.int p0)] [(.int (((t.getD (p0).toNatClampNeg 0) &&& (255 : Int32)).toUInt32.toUInt16.toUInt32.toInt32))])
  rw [← hQ]
  exact own_retN X hx hlk (t := .char) hret (by simp) (hb hby d8_14) (by decide) (by decide) ⟨by rw [← hc]; rfl, N, eT⟩
theorem pd_7 : parseMethodDescriptor "()Z" = some ⟨[], some .boolean⟩ := by decide +kernel
theorem d7_0 : decode jdk_42_method_154_code 0 = .ok (.getstatic 38, 3) := by decide +kernel
theorem d7_3 : decode jdk_42_method_154_code 3 = .ok (.ifCond .eq 14, 3) := by decide +kernel
theorem d7_6 : decode jdk_42_method_154_code 6 = .ok (.aload_n 0, 1) := by decide +kernel
theorem d7_7 : decode jdk_42_method_154_code 7 = .ok (.getfield 15, 3) := by decide +kernel
theorem d7_10 : decode jdk_42_method_154_code 10 = .ok (.ifCond .ne 7, 3) := by decide +kernel
theorem d7_13 : decode jdk_42_method_154_code 13 = .ok (.iconst 1, 1) := by decide +kernel
theorem d7_14 : decode jdk_42_method_154_code 14 = .ok (.goto 4, 3) := by decide +kernel
theorem d7_17 : decode jdk_42_method_154_code 17 = .ok (.iconst 0, 1) := by decide +kernel
theorem d7_18 : decode jdk_42_method_154_code 18 = .ok (.ireturn, 1) := by decide +kernel
theorem ef_rm7 (m : MethodId) (a : Addr) : entryFrame m #[(.ref a)] 1 = (mkF m 0 #[.val (.ref a)] []) := by first | (simp [entryFrame, mkF, argsToLocals, Value.category, maxLocals]; done) | rfl
set_option maxRecDepth 65536 in
set_option maxHeartbeats 40000000 in
theorem rm7 (l : Launch) (Z : State) (a0 : Array Value) (hw : ∀ d ∈ tables_1, d.before a0 Z = true) (a : Addr) (cs : Int32) (fv : Value) (h0 : Heap) (n0 : Nat) (b : Addr) (z : Int32) (t : List Int32) (S : own_S Z h0 a b z t) (C : own_C Z h0 cs fv) :
    own_M l Z (⟨"java/lang/String", "isLatin1", "()Z"⟩ : MethodName) jdk_42_method_154_code 1 (some .boolean) ({ frames := 0, cells := 0, slots := 0, locals := 0 } : Room) #[(.ref a)] h0 (fun v h L => v = some (.int 1) ∧ Fr n0 L ∧ h = h0) := by
  refine own_body pn_9 ?_
  intro p e s m below meth c T hx hby hml hown hZ hret hlk hnm X eT
  have N := Fr.nil n0
  generalize hQ : own_Q s (fun v h L => v = some (.int 1) ∧ Fr n0 L ∧ h = h0) ({ frames := 0, cells := 0, slots := 0, locals := 0 } : Room).cells ({ frames := 0, cells := 0, slots := 0, locals := 0 } : Room).slots = Qq
  refine own_st (fun _ k => castTop (ef_rm7 m a) k) ?_
  show own_E p e below Qq T (mkF m 0 #[.val (.ref a)] [])
  obtain ⟨T1, X1, e1, st1⟩ := getS X hx hZ hown (hw _ (List.mem_of_getElem? (i := 48) rfl)) Via.refl eT (C.1) (host := "") (g := (mkF m 0 #[.val (.ref a)] [])) rfl (hb hby d7_0)
  refine own_st st1 ?_
  replace eT := e1
  replace X := X1
  clear X1 st1
  show own_E p e below Qq T1 (mkF m 3 #[.val (.ref a)] [(.int cs)])
  refine own_st (fun _ => XS.ifNo X.here hx rfl (hb hby d7_3) rfl (XT.i0_eq_f C.2.1)) ?_
  show own_E p e below Qq T1 (mkF m 6 #[.val (.ref a)] [])
  refine own_st (fun _ => XS.aloadN X.here hx rfl (hb hby d7_6) rfl rfl) ?_
  show own_E p e below Qq T1 (mkF m 7 #[.val (.ref a)] [(.ref a)])
  obtain ⟨T2, X2, e2, st2⟩ := getF X hx hZ hown (host := "") (Or.inl (hw _ (List.mem_of_getElem? (i := 49) rfl))) Via.refl eT (S.2.1) (g := (mkF m 7 #[.val (.ref a)] [(.ref a)])) rfl rfl (hb hby d7_7)
  refine own_st st2 ?_
  replace eT := e2
  replace X := X2
  clear X2 st2
  show own_E p e below Qq T2 (mkF m 10 #[.val (.ref a)] [(.int (0 : Int32))])
  refine own_st (fun _ => XS.ifNo X.here hx rfl (hb hby d7_10) rfl (XT.i0_ne_f rfl)) ?_
  show own_E p e below Qq T2 (mkF m 13 #[.val (.ref a)] [])
  refine own_st (fun _ => XS.iconst X.here hx rfl (hb hby d7_13)) ?_
  show own_E p e below Qq T2 (mkF m 14 #[.val (.ref a)] [(.int (1 : Int32))])
  refine own_st (fun _ => XS.goto X.here hx rfl (pc0 := 14) (pc' := 18) rfl (hb hby d7_14) (by decide) (by decide)) ?_
  show own_E p e below Qq T2 (mkF m 18 #[.val (.ref a)] [(.int (1 : Int32))])
  rw [← hQ]
  exact own_retN X hx hlk (t := .boolean) hret (by simp) (hb hby d7_18) (by decide) (by decide) ⟨rfl, N, eT⟩
theorem pd_13 : parseMethodDescriptor "()B" = some ⟨[], some .byte⟩ := by decide +kernel
theorem d13_0 : decode jdk_42_method_152_code 0 = .ok (.getstatic 38, 3) := by decide +kernel
theorem d13_3 : decode jdk_42_method_152_code 3 = .ok (.ifCond .eq 10, 3) := by decide +kernel
theorem d13_6 : decode jdk_42_method_152_code 6 = .ok (.aload_n 0, 1) := by decide +kernel
theorem d13_7 : decode jdk_42_method_152_code 7 = .ok (.getfield 15, 3) := by decide +kernel
theorem d13_10 : decode jdk_42_method_152_code 10 = .ok (.goto 4, 3) := by decide +kernel
theorem d13_13 : decode jdk_42_method_152_code 13 = .ok (.iconst 1, 1) := by decide +kernel
theorem d13_14 : decode jdk_42_method_152_code 14 = .ok (.ireturn, 1) := by decide +kernel
theorem ef_rm13 (m : MethodId) (a : Addr) : entryFrame m #[(.ref a)] 1 = (mkF m 0 #[.val (.ref a)] []) := by first | (simp [entryFrame, mkF, argsToLocals, Value.category, maxLocals]; done) | rfl
set_option maxRecDepth 65536 in
set_option maxHeartbeats 40000000 in
theorem rm13 (l : Launch) (Z : State) (a0 : Array Value) (hw : ∀ d ∈ tables_1, d.before a0 Z = true) (a : Addr) (cs : Int32) (fv : Value) (h0 : Heap) (n0 : Nat) (b : Addr) (z : Int32) (t : List Int32) (S : own_S Z h0 a b z t) (C : own_C Z h0 cs fv) :
    own_M l Z (⟨"java/lang/String", "coder", "()B"⟩ : MethodName) jdk_42_method_152_code 1 (some .byte) ({ frames := 0, cells := 0, slots := 0, locals := 0 } : Room) #[(.ref a)] h0 (fun v h L => v = some (.int 0) ∧ Fr n0 L ∧ h = h0) := by
  refine own_body pn_9 ?_
  intro p e s m below meth c T hx hby hml hown hZ hret hlk hnm X eT
  have N := Fr.nil n0
  generalize hQ : own_Q s (fun v h L => v = some (.int 0) ∧ Fr n0 L ∧ h = h0) ({ frames := 0, cells := 0, slots := 0, locals := 0 } : Room).cells ({ frames := 0, cells := 0, slots := 0, locals := 0 } : Room).slots = Qq
  refine own_st (fun _ k => castTop (ef_rm13 m a) k) ?_
  show own_E p e below Qq T (mkF m 0 #[.val (.ref a)] [])
  obtain ⟨T1, X1, e1, st1⟩ := getS X hx hZ hown (hw _ (List.mem_of_getElem? (i := 48) rfl)) Via.refl eT (C.1) (host := "") (g := (mkF m 0 #[.val (.ref a)] [])) rfl (hb hby d13_0)
  refine own_st st1 ?_
  replace eT := e1
  replace X := X1
  clear X1 st1
  show own_E p e below Qq T1 (mkF m 3 #[.val (.ref a)] [(.int cs)])
  refine own_st (fun _ => XS.ifNo X.here hx rfl (hb hby d13_3) rfl (XT.i0_eq_f C.2.1)) ?_
  show own_E p e below Qq T1 (mkF m 6 #[.val (.ref a)] [])
  refine own_st (fun _ => XS.aloadN X.here hx rfl (hb hby d13_6) rfl rfl) ?_
  show own_E p e below Qq T1 (mkF m 7 #[.val (.ref a)] [(.ref a)])
  obtain ⟨T2, X2, e2, st2⟩ := getF X hx hZ hown (host := "") (Or.inl (hw _ (List.mem_of_getElem? (i := 49) rfl))) Via.refl eT (S.2.1) (g := (mkF m 7 #[.val (.ref a)] [(.ref a)])) rfl rfl (hb hby d13_7)
  refine own_st st2 ?_
  replace eT := e2
  replace X := X2
  clear X2 st2
  show own_E p e below Qq T2 (mkF m 10 #[.val (.ref a)] [(.int (0 : Int32))])
  refine own_st (fun _ => XS.goto X.here hx rfl (pc0 := 10) (pc' := 14) rfl (hb hby d13_10) (by decide) (by decide)) ?_
  show own_E p e below Qq T2 (mkF m 14 #[.val (.ref a)] [(.int (0 : Int32))])
  rw [← hQ]
  exact own_retN X hx hlk (t := .byte) hret (by simp) (hb hby d13_14) (by decide) (by decide) ⟨rfl, N, eT⟩
theorem pd_12 : parseMethodDescriptor "()I" = some ⟨[], some .int⟩ := by decide +kernel
theorem d12_0 : decode jdk_42_method_54_code 0 = .ok (.aload_n 0, 1) := by decide +kernel
theorem d12_1 : decode jdk_42_method_54_code 1 = .ok (.getfield 9, 3) := by decide +kernel
theorem d12_4 : decode jdk_42_method_54_code 4 = .ok (.arraylength, 1) := by decide +kernel
theorem d12_5 : decode jdk_42_method_54_code 5 = .ok (.aload_n 0, 1) := by decide +kernel
theorem d12_6 : decode jdk_42_method_54_code 6 = .ok (.invokevirtual 335, 3) := by decide +kernel
theorem d12_9 : decode jdk_42_method_54_code 9 = .ok (.ishr, 1) := by decide +kernel
theorem d12_10 : decode jdk_42_method_54_code 10 = .ok (.ireturn, 1) := by decide +kernel
theorem ef_rm12 (m : MethodId) (a : Addr) : entryFrame m #[(.ref a)] 1 = (mkF m 0 #[.val (.ref a)] []) := by first | (simp [entryFrame, mkF, argsToLocals, Value.category, maxLocals]; done) | rfl
set_option maxRecDepth 65536 in
set_option maxHeartbeats 40000000 in
theorem rm12 (l : Launch) (Z : State) (a0 : Array Value) (hw : ∀ d ∈ tables_1, d.before a0 Z = true) (a : Addr) (cs : Int32) (fv : Value) (h0 : Heap) (n0 : Nat) (b : Addr) (z : Int32) (t : List Int32) (S : own_S Z h0 a b z t) (C : own_C Z h0 cs fv) (hs : z >>> ((0 : Int32) &&& 31) = z) :
    own_M l Z (⟨"java/lang/String", "length", "()I"⟩ : MethodName) jdk_42_method_54_code 1 (some .int) ({ frames := 1, cells := 0, slots := 0, locals := 14 } : Room) #[(.ref a)] h0 (fun v h L => v = some (.int z) ∧ Fr n0 L ∧ h = h0) := by
  refine own_body pn_9 ?_
  intro p e s m below meth c T hx hby hml hown hZ hret hlk hnm X eT
  have N := Fr.nil n0
  generalize hQ : own_Q s (fun v h L => v = some (.int z) ∧ Fr n0 L ∧ h = h0) ({ frames := 1, cells := 0, slots := 0, locals := 14 } : Room).cells ({ frames := 1, cells := 0, slots := 0, locals := 14 } : Room).slots = Qq
  refine own_st (fun _ k => castTop (ef_rm12 m a) k) ?_
  show own_E p e below Qq T (mkF m 0 #[.val (.ref a)] [])
  refine own_st (fun _ => XS.aloadN X.here hx rfl (hb hby d12_0) rfl rfl) ?_
  show own_E p e below Qq T (mkF m 1 #[.val (.ref a)] [(.ref a)])
  obtain ⟨T1, X1, e1, st1⟩ := getF X hx hZ hown (host := "") (Or.inl (hw _ (List.mem_of_getElem? (i := 50) rfl))) Via.refl eT (S.2.2.1) (g := (mkF m 1 #[.val (.ref a)] [(.ref a)])) rfl rfl (hb hby d12_1)
  refine own_st st1 ?_
  replace eT := e1
  replace X := X1
  clear X1 st1
  show own_E p e below Qq T1 (mkF m 4 #[.val (.ref a)] [(.ref b)])
  refine own_st (fun _ hr => own_blen (g := (mkF m 4 #[.val (.ref a)] [(.ref b)])) X hx hZ eT (S.2.2.2) rfl rfl (hb hby d12_4) hr) ?_
  show own_E p e below Qq T1 (mkF m 5 #[.val (.ref a)] [(.int z)])
  refine own_st (fun _ => XS.aloadN X.here hx rfl (hb hby d12_5) rfl rfl) ?_
  show own_E p e below Qq T1 (mkF m 6 #[.val (.ref a)] [(.ref a), (.int z)])
  refine own_callV X hx hZ hown (hw _ (List.mem_of_getElem? (i := 72) rfl)) (hw _ (List.mem_of_getElem? (i := 73) rfl)) (hw _ (List.mem_of_getElem? (i := 75) rfl)) (hw _ (List.mem_of_getElem? (i := 74) rfl)) (hw _ (List.mem_of_getElem? (i := 24) rfl)) (hw _ (List.mem_of_getElem? (i := 76) rfl)) (by decide) ((own_tr (P := fun h => own_S Z h a b z t) eT S).1) (W := 1) (argsL := []) (rest := [(.int z)]) (rm13 l Z a0 hw a cs fv _ n0 b z t (own_tr (P := fun h => own_S Z h a b z t) eT S) (own_tr (P := fun h => own_C Z h cs fv) eT C)) (by decide) (by decide) (by decide) (by decide) rfl (by rw [hml]; rfl) (lenOf pd_13 rfl) rfl (by show 2 * 0 + _ ≤ _; exact Nat.le_of_eq rfl) (hb hby d12_6) ?_
  intro T2 L2 v X' hq
  obtain ⟨rfl, N', e'⟩ := hq
  replace eT := e'.trans eT
  clear e'
  replace N := Fr.app N N'
  replace X : Stand p l e ({ frames := 1, cells := 0, slots := 0, locals := 14 } : Room) s m #[(.ref a)] below meth c T2 _ 0 0 := X'
  clear X' N'
  show own_E p e below Qq T2 (mkF m 9 #[.val (.ref a)] [(.int (0 : Int32)), (.int z)])
  refine own_st (fun _ => XT.ishr X.here hx rfl (hb hby d12_9) rfl) ?_
  show own_E p e below Qq T2 (mkF m 10 #[.val (.ref a)] [(.int (z >>> ((0 : Int32) &&& 31)))])
  rw [← hQ]
  exact own_retI X hx hlk hret (hb hby d12_10) (by decide) (by decide) ⟨by rw [hs], N, eT⟩
theorem pd_6 : parseMethodDescriptor "(I)C" = some ⟨[.int], some .char⟩ := by decide +kernel
theorem d6_0 : decode jdk_42_method_56_code 0 = .ok (.aload_n 0, 1) := by decide +kernel
theorem d6_1 : decode jdk_42_method_56_code 1 = .ok (.invokevirtual 492, 3) := by decide +kernel
theorem d6_4 : decode jdk_42_method_56_code 4 = .ok (.ifCond .eq 12, 3) := by decide +kernel
theorem d6_7 : decode jdk_42_method_56_code 7 = .ok (.aload_n 0, 1) := by decide +kernel
theorem d6_8 : decode jdk_42_method_56_code 8 = .ok (.getfield 9, 3) := by decide +kernel
theorem d6_11 : decode jdk_42_method_56_code 11 = .ok (.iload_n 1, 1) := by decide +kernel
theorem d6_12 : decode jdk_42_method_56_code 12 = .ok (.invokestatic 495, 3) := by decide +kernel
theorem d6_15 : decode jdk_42_method_56_code 15 = .ok (.ireturn, 1) := by decide +kernel
theorem d6_16 : decode jdk_42_method_56_code 16 = .ok (.aload_n 0, 1) := by decide +kernel
theorem d6_17 : decode jdk_42_method_56_code 17 = .ok (.getfield 9, 3) := by decide +kernel
theorem d6_20 : decode jdk_42_method_56_code 20 = .ok (.iload_n 1, 1) := by decide +kernel
theorem d6_21 : decode jdk_42_method_56_code 21 = .ok (.invokestatic 498, 3) := by decide +kernel
theorem d6_24 : decode jdk_42_method_56_code 24 = .ok (.ireturn, 1) := by decide +kernel
theorem ef_rm6 (m : MethodId) (a : Addr) (p0 : Int32) : entryFrame m #[(.ref a), (.int p0)] 2 = (mkF m 0 #[.val (.ref a), .val (.int p0)] []) := by first | (simp [entryFrame, mkF, argsToLocals, Value.category, maxLocals]; done) | rfl
set_option maxRecDepth 65536 in
set_option maxHeartbeats 40000000 in
theorem rm6 (l : Launch) (Z : State) (a0 : Array Value) (hw : ∀ d ∈ tables_1, d.before a0 Z = true) (a : Addr) (p0 : Int32) (cs : Int32) (fv : Value) (h0 : Heap) (n0 : Nat) (b : Addr) (z : Int32) (t : List Int32) (S : own_S Z h0 a b z t) (C : own_C Z h0 cs fv) (hi : ¬ p0 < 0 ∧ p0 < z) (cc : Int32) (hc : nar .char (own_ch t p0) = cc) (hc2 : nar .char cc = cc) :
    own_M l Z (⟨"java/lang/String", "charAt", "(I)C"⟩ : MethodName) jdk_42_method_56_code 2 (some .char) ({ frames := 3, cells := 0, slots := 0, locals := 40 } : Room) #[(.ref a), (.int p0)] h0 (fun v h L => v = some (.int cc) ∧ Fr n0 L ∧ h = h0) := by
  refine own_body pn_9 ?_
  intro p e s m below meth c T hx hby hml hown hZ hret hlk hnm X eT
  have N := Fr.nil n0
  generalize hQ : own_Q s (fun v h L => v = some (.int cc) ∧ Fr n0 L ∧ h = h0) ({ frames := 3, cells := 0, slots := 0, locals := 40 } : Room).cells ({ frames := 3, cells := 0, slots := 0, locals := 40 } : Room).slots = Qq
  refine own_st (fun _ k => castTop (ef_rm6 m a p0) k) ?_
  show own_E p e below Qq T (mkF m 0 #[.val (.ref a), .val (.int p0)] [])
  refine own_st (fun _ => XS.aloadN X.here hx rfl (hb hby d6_0) rfl rfl) ?_
  show own_E p e below Qq T (mkF m 1 #[.val (.ref a), .val (.int p0)] [(.ref a)])
  refine own_callV X hx hZ hown (hw _ (List.mem_of_getElem? (i := 43) rfl)) (hw _ (List.mem_of_getElem? (i := 44) rfl)) (hw _ (List.mem_of_getElem? (i := 46) rfl)) (hw _ (List.mem_of_getElem? (i := 45) rfl)) (hw _ (List.mem_of_getElem? (i := 24) rfl)) (hw _ (List.mem_of_getElem? (i := 47) rfl)) (by decide) ((own_tr (P := fun h => own_S Z h a b z t) eT S).1) (W := 0) (argsL := []) (rest := []) (rm7 l Z a0 hw a cs fv _ n0 b z t (own_tr (P := fun h => own_S Z h a b z t) eT S) (own_tr (P := fun h => own_C Z h cs fv) eT C)) (by decide) (by decide) (by decide) (by decide) rfl (by rw [hml]; rfl) (lenOf pd_7 rfl) rfl (by show 2 * 0 + _ ≤ _; exact Nat.le_of_eq rfl) (hb hby d6_1) ?_
  intro T1 L1 v X' hq
  obtain ⟨rfl, N', e'⟩ := hq
  replace eT := e'.trans eT
  clear e'
  replace N := Fr.app N N'
  replace X : Stand p l e ({ frames := 3, cells := 0, slots := 0, locals := 40 } : Room) s m #[(.ref a), (.int p0)] below meth c T1 _ 0 0 := X'
  clear X' N'
  show own_E p e below Qq T1 (mkF m 4 #[.val (.ref a), .val (.int p0)] [(.int (1 : Int32))])
  refine own_st (fun _ => XS.ifNo X.here hx rfl (hb hby d6_4) rfl (XT.i0_eq_f (by decide))) ?_
  show own_E p e below Qq T1 (mkF m 7 #[.val (.ref a), .val (.int p0)] [])
  refine own_st (fun _ => XS.aloadN X.here hx rfl (hb hby d6_7) rfl rfl) ?_
  show own_E p e below Qq T1 (mkF m 8 #[.val (.ref a), .val (.int p0)] [(.ref a)])
  obtain ⟨T2, X2, e2, st2⟩ := getF X hx hZ hown (host := "") (Or.inl (hw _ (List.mem_of_getElem? (i := 50) rfl))) Via.refl eT (S.2.2.1) (g := (mkF m 8 #[.val (.ref a), .val (.int p0)] [(.ref a)])) rfl rfl (hb hby d6_8)
  refine own_st st2 ?_
  replace eT := e2
  replace X := X2
  clear X2 st2
  show own_E p e below Qq T2 (mkF m 11 #[.val (.ref a), .val (.int p0)] [(.ref b)])
  refine own_st (fun _ => XS.iloadN X.here hx rfl (hb hby d6_11) rfl) ?_
  show own_E p e below Qq T2 (mkF m 12 #[.val (.ref a), .val (.int p0)] [(.int p0), (.ref b)])
  refine own_callS X hx hZ hown (hw _ (List.mem_of_getElem? (i := 51) rfl)) (hw _ (List.mem_of_getElem? (i := 52) rfl)) (hw _ (List.mem_of_getElem? (i := 53) rfl)) (hw _ (List.mem_of_getElem? (i := 54) rfl)) (by decide) (W := 0) (argsL := [(.ref b), (.int p0)]) (rest := []) (rm8 l Z a0 hw b p0 cs fv _ n0 z t (own_tr (P := fun h => own_B Z h b z t) eT S.2.2.2) (own_tr (P := fun h => own_C Z h cs fv) eT C) hi cc hc) (by decide) (by decide) (by decide) (by decide) rfl (by rw [hml]; rfl) (lenOf pd_8 rfl) rfl (by show 2 * 0 + _ ≤ _; exact Nat.le_of_eq rfl) (hb hby d6_12) ?_
  intro T3 L3 v X' hq
  obtain ⟨rfl, N', e'⟩ := hq
  replace eT := e'.trans eT
  clear e'
  replace N := Fr.app N N'
  replace X : Stand p l e ({ frames := 3, cells := 0, slots := 0, locals := 40 } : Room) s m #[(.ref a), (.int p0)] below meth c T3 _ 0 0 := X'
  clear X' N'
  show own_E p e below Qq T3 (mkF m 15 #[.val (.ref a), .val (.int p0)] [(.int cc)])
  rw [← hQ]
  exact own_retN X hx hlk (t := .char) hret (by simp) (hb hby d6_15) (by decide) (by decide) ⟨by rw [hc2], N, eT⟩
theorem pn_11 : plainName "com/example/rowbridge/rowbridge/jdbc/SqlGrammar" = true := by first | (simp [plainName, overriddenIn]; done) | decide +kernel
theorem pd_11 : parseMethodDescriptor "(Ljava/lang/String;ICZ)I" = some ⟨[(.object "java/lang/String"), .int, .char, .boolean], some .int⟩ := by decide +kernel
theorem d11_0 : decode prog_28_method_5_code 0 = .ok (.iload_n 1, 1) := by decide +kernel
theorem d11_1 : decode prog_28_method_5_code 1 = .ok (.istore 4, 2) := by decide +kernel
theorem d11_3 : decode prog_28_method_5_code 3 = .ok (.iload 4, 2) := by decide +kernel
theorem d11_5 : decode prog_28_method_5_code 5 = .ok (.aload_n 0, 1) := by decide +kernel
theorem d11_6 : decode prog_28_method_5_code 6 = .ok (.invokevirtual 7, 3) := by decide +kernel
theorem d11_9 : decode prog_28_method_5_code 9 = .ok (.if_icmp .ge 46, 3) := by decide +kernel
theorem d11_12 : decode prog_28_method_5_code 12 = .ok (.aload_n 0, 1) := by decide +kernel
theorem d11_13 : decode prog_28_method_5_code 13 = .ok (.iload 4, 2) := by decide +kernel
theorem d11_15 : decode prog_28_method_5_code 15 = .ok (.invokevirtual 22, 3) := by decide +kernel
theorem d11_18 : decode prog_28_method_5_code 18 = .ok (.istore 5, 2) := by decide +kernel
theorem d11_20 : decode prog_28_method_5_code 20 = .ok (.iload 5, 2) := by decide +kernel
theorem d11_22 : decode prog_28_method_5_code 22 = .ok (.iload_n 2, 1) := by decide +kernel
theorem d11_23 : decode prog_28_method_5_code 23 = .ok (.if_icmp .ne 8, 3) := by decide +kernel
theorem d11_26 : decode prog_28_method_5_code 26 = .ok (.iload 4, 2) := by decide +kernel
theorem d11_28 : decode prog_28_method_5_code 28 = .ok (.iconst 1, 1) := by decide +kernel
theorem d11_29 : decode prog_28_method_5_code 29 = .ok (.iadd, 1) := by decide +kernel
theorem d11_30 : decode prog_28_method_5_code 30 = .ok (.ireturn, 1) := by decide +kernel
theorem d11_31 : decode prog_28_method_5_code 31 = .ok (.iload 4, 2) := by decide +kernel
theorem d11_33 : decode prog_28_method_5_code 33 = .ok (.iload_n 3, 1) := by decide +kernel
theorem d11_34 : decode prog_28_method_5_code 34 = .ok (.ifCond .eq 14, 3) := by decide +kernel
theorem d11_37 : decode prog_28_method_5_code 37 = .ok (.iload 5, 2) := by decide +kernel
theorem d11_39 : decode prog_28_method_5_code 39 = .ok (.bipush 92, 2) := by decide +kernel
theorem d11_41 : decode prog_28_method_5_code 41 = .ok (.if_icmp .ne 7, 3) := by decide +kernel
theorem d11_44 : decode prog_28_method_5_code 44 = .ok (.iconst 2, 1) := by decide +kernel
theorem d11_45 : decode prog_28_method_5_code 45 = .ok (.goto 4, 3) := by decide +kernel
theorem d11_48 : decode prog_28_method_5_code 48 = .ok (.iconst 1, 1) := by decide +kernel
theorem d11_49 : decode prog_28_method_5_code 49 = .ok (.iadd, 1) := by decide +kernel
theorem d11_50 : decode prog_28_method_5_code 50 = .ok (.istore 4, 2) := by decide +kernel
theorem d11_52 : decode prog_28_method_5_code 52 = .ok (.goto (-49), 3) := by decide +kernel
theorem d11_55 : decode prog_28_method_5_code 55 = .ok (.aload_n 0, 1) := by decide +kernel
theorem d11_56 : decode prog_28_method_5_code 56 = .ok (.invokevirtual 7, 3) := by decide +kernel
theorem d11_59 : decode prog_28_method_5_code 59 = .ok (.ireturn, 1) := by decide +kernel
theorem ef_rm11 (m : MethodId) (a : Addr) (q es : Int32) : entryFrame m #[(.ref a), (.int ((0 : Int32) + (1 : Int32))), (.int q), (.int es)] 6 = (mkF m 0 #[.val (.ref a), .val (.int ((0 : Int32) + (1 : Int32))), .val (.int q), .val (.int es), .unset, .unset] []) := by first | (simp [entryFrame, mkF, argsToLocals, Value.category, maxLocals]; done) | rfl
set_option maxRecDepth 65536 in
set_option maxHeartbeats 40000000 in
theorem rm11 (l : Launch) (Z : State) (a0 : Array Value) (hw : ∀ d ∈ tables_1, d.before a0 Z = true) (a : Addr) (q es : Int32) (cs : Int32) (fv : Value) (h0 : Heap) (n0 : Nat) (b : Addr) (S : own_S Z h0 a b (4 : Int32) [q, 92, q, q]) (C : own_C Z h0 cs fv) (hq : q = 39 ∨ q = 34) :
    own_M l Z (⟨"com/example/rowbridge/rowbridge/jdbc/SqlGrammar", "closedBy", "(Ljava/lang/String;ICZ)I"⟩ : MethodName) prog_28_method_5_code 6 (some .int) ({ frames := 4, cells := 0, slots := 0, locals := 60 } : Room) #[(.ref a), (.int ((0 : Int32) + (1 : Int32))), (.int q), (.int es)] h0 (fun v h L => v = some (.int (if es = 0 then 3 else 4)) ∧ Fr n0 L ∧ h = h0) := by
  refine own_body pn_11 ?_
  intro p e s m below meth c T hx hby hml hown hZ hret hlk hnm X eT
  have N := Fr.nil n0
  generalize hQ : own_Q s (fun v h L => v = some (.int (if es = 0 then 3 else 4)) ∧ Fr n0 L ∧ h = h0) ({ frames := 4, cells := 0, slots := 0, locals := 60 } : Room).cells ({ frames := 4, cells := 0, slots := 0, locals := 60 } : Room).slots = Qq
  refine own_st (fun _ k => castTop (ef_rm11 m a q es) k) ?_
  show own_E p e below Qq T (mkF m 0 #[.val (.ref a), .val (.int ((0 : Int32) + (1 : Int32))), .val (.int q), .val (.int es), .unset, .unset] [])
  refine own_st (fun _ => XS.iloadN X.here hx rfl (hb hby d11_0) rfl) ?_
  show own_E p e below Qq T (mkF m 1 #[.val (.ref a), .val (.int ((0 : Int32) + (1 : Int32))), .val (.int q), .val (.int es), .unset, .unset] [(.int ((0 : Int32) + (1 : Int32)))])
  refine own_st (fun _ => XS.istore X.here hx rfl (hb hby d11_1) rfl (l' := #[.val (.ref a), .val (.int ((0 : Int32) + (1 : Int32))), .val (.int q), .val (.int es), .val (.int ((0 : Int32) + (1 : Int32))), .unset]) rfl) ?_
  show own_E p e below Qq T (mkF m 3 #[.val (.ref a), .val (.int ((0 : Int32) + (1 : Int32))), .val (.int q), .val (.int es), .val (.int ((0 : Int32) + (1 : Int32))), .unset] [])
  refine own_st (fun _ => XS.iload X.here hx rfl (hb hby d11_3) rfl) ?_
  show own_E p e below Qq T (mkF m 5 #[.val (.ref a), .val (.int ((0 : Int32) + (1 : Int32))), .val (.int q), .val (.int es), .val (.int ((0 : Int32) + (1 : Int32))), .unset] [(.int ((0 : Int32) + (1 : Int32)))])
  refine own_st (fun _ => XS.aloadN X.here hx rfl (hb hby d11_5) rfl rfl) ?_
  show own_E p e below Qq T (mkF m 6 #[.val (.ref a), .val (.int ((0 : Int32) + (1 : Int32))), .val (.int q), .val (.int es), .val (.int ((0 : Int32) + (1 : Int32))), .unset] [(.ref a), (.int ((0 : Int32) + (1 : Int32)))])
  refine own_callV X hx hZ hown (hw _ (List.mem_of_getElem? (i := 67) rfl)) (hw _ (List.mem_of_getElem? (i := 68) rfl)) (hw _ (List.mem_of_getElem? (i := 70) rfl)) (hw _ (List.mem_of_getElem? (i := 69) rfl)) (hw _ (List.mem_of_getElem? (i := 24) rfl)) (hw _ (List.mem_of_getElem? (i := 71) rfl)) (by decide) ((own_tr (P := fun h => own_S Z h a b (4 : Int32) [q, 92, q, q]) eT S).1) (W := 1) (argsL := []) (rest := [(.int ((0 : Int32) + (1 : Int32)))]) (rm12 l Z a0 hw a cs fv _ n0 b (4 : Int32) [q, 92, q, q] (own_tr (P := fun h => own_S Z h a b (4 : Int32) [q, 92, q, q]) eT S) (own_tr (P := fun h => own_C Z h cs fv) eT C) (by decide)) (by decide) (by decide) (by decide) (by decide) rfl (by rw [hml]; rfl) (lenOf pd_12 rfl) rfl (by show 2 * 0 + _ ≤ _; exact Nat.le_of_eq rfl) (hb hby d11_6) ?_
  intro T1 L1 v X' hq
  obtain ⟨rfl, N', e'⟩ := hq
  replace eT := e'.trans eT
  clear e'
  replace N := Fr.app N N'
  replace X : Stand p l e ({ frames := 4, cells := 0, slots := 0, locals := 60 } : Room) s m #[(.ref a), (.int ((0 : Int32) + (1 : Int32))), (.int q), (.int es)] below meth c T1 _ 0 0 := X'
  clear X' N'
  show own_E p e below Qq T1 (mkF m 9 #[.val (.ref a), .val (.int ((0 : Int32) + (1 : Int32))), .val (.int q), .val (.int es), .val (.int ((0 : Int32) + (1 : Int32))), .unset] [(.int (4 : Int32)), (.int ((0 : Int32) + (1 : Int32)))])
  refine own_st (fun _ => XS.icmpNo X.here hx rfl (hb hby d11_9) rfl (XT.ii_ge_f (by decide))) ?_
  show own_E p e below Qq T1 (mkF m 12 #[.val (.ref a), .val (.int ((0 : Int32) + (1 : Int32))), .val (.int q), .val (.int es), .val (.int ((0 : Int32) + (1 : Int32))), .unset] [])
  refine own_st (fun _ => XS.aloadN X.here hx rfl (hb hby d11_12) rfl rfl) ?_
  show own_E p e below Qq T1 (mkF m 13 #[.val (.ref a), .val (.int ((0 : Int32) + (1 : Int32))), .val (.int q), .val (.int es), .val (.int ((0 : Int32) + (1 : Int32))), .unset] [(.ref a)])
  refine own_st (fun _ => XS.iload X.here hx rfl (hb hby d11_13) rfl) ?_
  show own_E p e below Qq T1 (mkF m 15 #[.val (.ref a), .val (.int ((0 : Int32) + (1 : Int32))), .val (.int q), .val (.int es), .val (.int ((0 : Int32) + (1 : Int32))), .unset] [(.int ((0 : Int32) + (1 : Int32))), (.ref a)])
  refine own_callV X hx hZ hown (hw _ (List.mem_of_getElem? (i := 77) rfl)) (hw _ (List.mem_of_getElem? (i := 39) rfl)) (hw _ (List.mem_of_getElem? (i := 41) rfl)) (hw _ (List.mem_of_getElem? (i := 40) rfl)) (hw _ (List.mem_of_getElem? (i := 24) rfl)) (hw _ (List.mem_of_getElem? (i := 42) rfl)) (by decide) ((own_tr (P := fun h => own_S Z h a b (4 : Int32) [q, 92, q, q]) eT S).1) (W := 0) (argsL := [(.int ((0 : Int32) + (1 : Int32)))]) (rest := []) (rm6 l Z a0 hw a ((0 : Int32) + (1 : Int32)) cs fv _ n0 b (4 : Int32) [q, 92, q, q] (own_tr (P := fun h => own_S Z h a b (4 : Int32) [q, 92, q, q]) eT S) (own_tr (P := fun h => own_C Z h cs fv) eT C) (by decide) (92 : Int32) (by rcases hq with rfl | rfl <;> decide) (by rcases hq with rfl | rfl <;> decide)) (by decide) (by decide) (by decide) (by decide) rfl (by rw [hml]; rfl) (lenOf pd_6 rfl) rfl (by show 2 * 0 + _ ≤ _; exact Nat.le_of_eq rfl) (hb hby d11_15) ?_
  intro T2 L2 v X' hq
  obtain ⟨rfl, N', e'⟩ := hq
  replace eT := e'.trans eT
  clear e'
  replace N := Fr.app N N'
  replace X : Stand p l e ({ frames := 4, cells := 0, slots := 0, locals := 60 } : Room) s m #[(.ref a), (.int ((0 : Int32) + (1 : Int32))), (.int q), (.int es)] below meth c T2 _ 0 0 := X'
  clear X' N'
  show own_E p e below Qq T2 (mkF m 18 #[.val (.ref a), .val (.int ((0 : Int32) + (1 : Int32))), .val (.int q), .val (.int es), .val (.int ((0 : Int32) + (1 : Int32))), .unset] [(.int (92 : Int32))])
  refine own_st (fun _ => XS.istore X.here hx rfl (hb hby d11_18) rfl (l' := #[.val (.ref a), .val (.int ((0 : Int32) + (1 : Int32))), .val (.int q), .val (.int es), .val (.int ((0 : Int32) + (1 : Int32))), .val (.int (92 : Int32))]) rfl) ?_
  show own_E p e below Qq T2 (mkF m 20 #[.val (.ref a), .val (.int ((0 : Int32) + (1 : Int32))), .val (.int q), .val (.int es), .val (.int ((0 : Int32) + (1 : Int32))), .val (.int (92 : Int32))] [])
  refine own_st (fun _ => XS.iload X.here hx rfl (hb hby d11_20) rfl) ?_
  show own_E p e below Qq T2 (mkF m 22 #[.val (.ref a), .val (.int ((0 : Int32) + (1 : Int32))), .val (.int q), .val (.int es), .val (.int ((0 : Int32) + (1 : Int32))), .val (.int (92 : Int32))] [(.int (92 : Int32))])
  refine own_st (fun _ => XS.iloadN X.here hx rfl (hb hby d11_22) rfl) ?_
  show own_E p e below Qq T2 (mkF m 23 #[.val (.ref a), .val (.int ((0 : Int32) + (1 : Int32))), .val (.int q), .val (.int es), .val (.int ((0 : Int32) + (1 : Int32))), .val (.int (92 : Int32))] [(.int q), (.int (92 : Int32))])
  refine own_st (fun _ => XS.icmpYes X.here hx rfl (pc0 := 23) (pc' := 31) rfl (hb hby d11_23) rfl (XT.ii_ne_t (by rcases hq with rfl | rfl <;> decide)) (by decide) (by decide)) ?_
  show own_E p e below Qq T2 (mkF m 31 #[.val (.ref a), .val (.int ((0 : Int32) + (1 : Int32))), .val (.int q), .val (.int es), .val (.int ((0 : Int32) + (1 : Int32))), .val (.int (92 : Int32))] [])
  refine own_st (fun _ => XS.iload X.here hx rfl (hb hby d11_31) rfl) ?_
  show own_E p e below Qq T2 (mkF m 33 #[.val (.ref a), .val (.int ((0 : Int32) + (1 : Int32))), .val (.int q), .val (.int es), .val (.int ((0 : Int32) + (1 : Int32))), .val (.int (92 : Int32))] [(.int ((0 : Int32) + (1 : Int32)))])
  refine own_st (fun _ => XS.iloadN X.here hx rfl (hb hby d11_33) rfl) ?_
  show own_E p e below Qq T2 (mkF m 34 #[.val (.ref a), .val (.int ((0 : Int32) + (1 : Int32))), .val (.int q), .val (.int es), .val (.int ((0 : Int32) + (1 : Int32))), .val (.int (92 : Int32))] [(.int es), (.int ((0 : Int32) + (1 : Int32)))])
  by_cases q34 : es = (0 : Int32)
  · have _ := Nat.zero_le 0
    refine own_st (fun _ => XS.ifYes X.here hx rfl (pc0 := 34) (pc' := 48) rfl (hb hby d11_34) rfl (XT.i0_eq_t q34) (by decide) (by decide)) ?_
    show own_E p e below Qq T2 (mkF m 48 #[.val (.ref a), .val (.int ((0 : Int32) + (1 : Int32))), .val (.int q), .val (.int es), .val (.int ((0 : Int32) + (1 : Int32))), .val (.int (92 : Int32))] [(.int ((0 : Int32) + (1 : Int32)))])
    refine own_st (fun _ => XS.iconst X.here hx rfl (hb hby d11_48)) ?_
    show own_E p e below Qq T2 (mkF m 49 #[.val (.ref a), .val (.int ((0 : Int32) + (1 : Int32))), .val (.int q), .val (.int es), .val (.int ((0 : Int32) + (1 : Int32))), .val (.int (92 : Int32))] [(.int (1 : Int32)), (.int ((0 : Int32) + (1 : Int32)))])
    refine own_st (fun _ => XS.iadd X.here hx rfl (hb hby d11_49) rfl) ?_
    show own_E p e below Qq T2 (mkF m 50 #[.val (.ref a), .val (.int ((0 : Int32) + (1 : Int32))), .val (.int q), .val (.int es), .val (.int ((0 : Int32) + (1 : Int32))), .val (.int (92 : Int32))] [(.int (((0 : Int32) + (1 : Int32)) + (1 : Int32)))])
    refine own_st (fun _ => XS.istore X.here hx rfl (hb hby d11_50) rfl (l' := #[.val (.ref a), .val (.int ((0 : Int32) + (1 : Int32))), .val (.int q), .val (.int es), .val (.int (((0 : Int32) + (1 : Int32)) + (1 : Int32))), .val (.int (92 : Int32))]) rfl) ?_
    show own_E p e below Qq T2 (mkF m 52 #[.val (.ref a), .val (.int ((0 : Int32) + (1 : Int32))), .val (.int q), .val (.int es), .val (.int (((0 : Int32) + (1 : Int32)) + (1 : Int32))), .val (.int (92 : Int32))] [])
    refine own_st (fun _ => XS.goto X.here hx rfl (pc0 := 52) (pc' := 3) rfl (hb hby d11_52) (by decide) (by decide)) ?_
    show own_E p e below Qq T2 (mkF m 3 #[.val (.ref a), .val (.int ((0 : Int32) + (1 : Int32))), .val (.int q), .val (.int es), .val (.int (((0 : Int32) + (1 : Int32)) + (1 : Int32))), .val (.int (92 : Int32))] [])
    refine own_st (fun _ => XS.iload X.here hx rfl (hb hby d11_3) rfl) ?_
    show own_E p e below Qq T2 (mkF m 5 #[.val (.ref a), .val (.int ((0 : Int32) + (1 : Int32))), .val (.int q), .val (.int es), .val (.int (((0 : Int32) + (1 : Int32)) + (1 : Int32))), .val (.int (92 : Int32))] [(.int (((0 : Int32) + (1 : Int32)) + (1 : Int32)))])
    refine own_st (fun _ => XS.aloadN X.here hx rfl (hb hby d11_5) rfl rfl) ?_
    show own_E p e below Qq T2 (mkF m 6 #[.val (.ref a), .val (.int ((0 : Int32) + (1 : Int32))), .val (.int q), .val (.int es), .val (.int (((0 : Int32) + (1 : Int32)) + (1 : Int32))), .val (.int (92 : Int32))] [(.ref a), (.int (((0 : Int32) + (1 : Int32)) + (1 : Int32)))])
    refine own_callV X hx hZ hown (hw _ (List.mem_of_getElem? (i := 67) rfl)) (hw _ (List.mem_of_getElem? (i := 68) rfl)) (hw _ (List.mem_of_getElem? (i := 70) rfl)) (hw _ (List.mem_of_getElem? (i := 69) rfl)) (hw _ (List.mem_of_getElem? (i := 24) rfl)) (hw _ (List.mem_of_getElem? (i := 71) rfl)) (by decide) ((own_tr (P := fun h => own_S Z h a b (4 : Int32) [q, 92, q, q]) eT S).1) (W := 1) (argsL := []) (rest := [(.int (((0 : Int32) + (1 : Int32)) + (1 : Int32)))]) (rm12 l Z a0 hw a cs fv _ n0 b (4 : Int32) [q, 92, q, q] (own_tr (P := fun h => own_S Z h a b (4 : Int32) [q, 92, q, q]) eT S) (own_tr (P := fun h => own_C Z h cs fv) eT C) (by decide)) (by decide) (by decide) (by decide) (by decide) rfl (by rw [hml]; rfl) (lenOf pd_12 rfl) rfl (by show 2 * 0 + _ ≤ _; exact Nat.le_of_eq rfl) (hb hby d11_6) ?_
    intro T3 L3 v X' hq
    obtain ⟨rfl, N', e'⟩ := hq
    replace eT := e'.trans eT
    clear e'
    replace N := Fr.app N N'
    replace X : Stand p l e ({ frames := 4, cells := 0, slots := 0, locals := 60 } : Room) s m #[(.ref a), (.int ((0 : Int32) + (1 : Int32))), (.int q), (.int es)] below meth c T3 _ 0 0 := X'
    clear X' N'
    show own_E p e below Qq T3 (mkF m 9 #[.val (.ref a), .val (.int ((0 : Int32) + (1 : Int32))), .val (.int q), .val (.int es), .val (.int (((0 : Int32) + (1 : Int32)) + (1 : Int32))), .val (.int (92 : Int32))] [(.int (4 : Int32)), (.int (((0 : Int32) + (1 : Int32)) + (1 : Int32)))])
    refine own_st (fun _ => XS.icmpNo X.here hx rfl (hb hby d11_9) rfl (XT.ii_ge_f (by decide))) ?_
    show own_E p e below Qq T3 (mkF m 12 #[.val (.ref a), .val (.int ((0 : Int32) + (1 : Int32))), .val (.int q), .val (.int es), .val (.int (((0 : Int32) + (1 : Int32)) + (1 : Int32))), .val (.int (92 : Int32))] [])
    refine own_st (fun _ => XS.aloadN X.here hx rfl (hb hby d11_12) rfl rfl) ?_
    show own_E p e below Qq T3 (mkF m 13 #[.val (.ref a), .val (.int ((0 : Int32) + (1 : Int32))), .val (.int q), .val (.int es), .val (.int (((0 : Int32) + (1 : Int32)) + (1 : Int32))), .val (.int (92 : Int32))] [(.ref a)])
    refine own_st (fun _ => XS.iload X.here hx rfl (hb hby d11_13) rfl) ?_
    show own_E p e below Qq T3 (mkF m 15 #[.val (.ref a), .val (.int ((0 : Int32) + (1 : Int32))), .val (.int q), .val (.int es), .val (.int (((0 : Int32) + (1 : Int32)) + (1 : Int32))), .val (.int (92 : Int32))] [(.int (((0 : Int32) + (1 : Int32)) + (1 : Int32))), (.ref a)])
    refine own_callV X hx hZ hown (hw _ (List.mem_of_getElem? (i := 77) rfl)) (hw _ (List.mem_of_getElem? (i := 39) rfl)) (hw _ (List.mem_of_getElem? (i := 41) rfl)) (hw _ (List.mem_of_getElem? (i := 40) rfl)) (hw _ (List.mem_of_getElem? (i := 24) rfl)) (hw _ (List.mem_of_getElem? (i := 42) rfl)) (by decide) ((own_tr (P := fun h => own_S Z h a b (4 : Int32) [q, 92, q, q]) eT S).1) (W := 0) (argsL := [(.int (((0 : Int32) + (1 : Int32)) + (1 : Int32)))]) (rest := []) (rm6 l Z a0 hw a (((0 : Int32) + (1 : Int32)) + (1 : Int32)) cs fv _ n0 b (4 : Int32) [q, 92, q, q] (own_tr (P := fun h => own_S Z h a b (4 : Int32) [q, 92, q, q]) eT S) (own_tr (P := fun h => own_C Z h cs fv) eT C) (by decide) q (by rcases hq with rfl | rfl <;> decide) (by rcases hq with rfl | rfl <;> decide)) (by decide) (by decide) (by decide) (by decide) rfl (by rw [hml]; rfl) (lenOf pd_6 rfl) rfl (by show 2 * 0 + _ ≤ _; exact Nat.le_of_eq rfl) (hb hby d11_15) ?_
    intro T4 L4 v X' hq
    obtain ⟨rfl, N', e'⟩ := hq
    replace eT := e'.trans eT
    clear e'
    replace N := Fr.app N N'
    replace X : Stand p l e ({ frames := 4, cells := 0, slots := 0, locals := 60 } : Room) s m #[(.ref a), (.int ((0 : Int32) + (1 : Int32))), (.int q), (.int es)] below meth c T4 _ 0 0 := X'
    clear X' N'
    show own_E p e below Qq T4 (mkF m 18 #[.val (.ref a), .val (.int ((0 : Int32) + (1 : Int32))), .val (.int q), .val (.int es), .val (.int (((0 : Int32) + (1 : Int32)) + (1 : Int32))), .val (.int (92 : Int32))] [(.int q)])
    refine own_st (fun _ => XS.istore X.here hx rfl (hb hby d11_18) rfl (l' := #[.val (.ref a), .val (.int ((0 : Int32) + (1 : Int32))), .val (.int q), .val (.int es), .val (.int (((0 : Int32) + (1 : Int32)) + (1 : Int32))), .val (.int q)]) rfl) ?_
    show own_E p e below Qq T4 (mkF m 20 #[.val (.ref a), .val (.int ((0 : Int32) + (1 : Int32))), .val (.int q), .val (.int es), .val (.int (((0 : Int32) + (1 : Int32)) + (1 : Int32))), .val (.int q)] [])
    refine own_st (fun _ => XS.iload X.here hx rfl (hb hby d11_20) rfl) ?_
    show own_E p e below Qq T4 (mkF m 22 #[.val (.ref a), .val (.int ((0 : Int32) + (1 : Int32))), .val (.int q), .val (.int es), .val (.int (((0 : Int32) + (1 : Int32)) + (1 : Int32))), .val (.int q)] [(.int q)])
    refine own_st (fun _ => XS.iloadN X.here hx rfl (hb hby d11_22) rfl) ?_
    show own_E p e below Qq T4 (mkF m 23 #[.val (.ref a), .val (.int ((0 : Int32) + (1 : Int32))), .val (.int q), .val (.int es), .val (.int (((0 : Int32) + (1 : Int32)) + (1 : Int32))), .val (.int q)] [(.int q), (.int q)])
    refine own_st (fun _ => XS.icmpNo X.here hx rfl (hb hby d11_23) rfl (XT.ii_ne_f rfl)) ?_
    show own_E p e below Qq T4 (mkF m 26 #[.val (.ref a), .val (.int ((0 : Int32) + (1 : Int32))), .val (.int q), .val (.int es), .val (.int (((0 : Int32) + (1 : Int32)) + (1 : Int32))), .val (.int q)] [])
    refine own_st (fun _ => XS.iload X.here hx rfl (hb hby d11_26) rfl) ?_
    show own_E p e below Qq T4 (mkF m 28 #[.val (.ref a), .val (.int ((0 : Int32) + (1 : Int32))), .val (.int q), .val (.int es), .val (.int (((0 : Int32) + (1 : Int32)) + (1 : Int32))), .val (.int q)] [(.int (((0 : Int32) + (1 : Int32)) + (1 : Int32)))])
    refine own_st (fun _ => XS.iconst X.here hx rfl (hb hby d11_28)) ?_
    show own_E p e below Qq T4 (mkF m 29 #[.val (.ref a), .val (.int ((0 : Int32) + (1 : Int32))), .val (.int q), .val (.int es), .val (.int (((0 : Int32) + (1 : Int32)) + (1 : Int32))), .val (.int q)] [(.int (1 : Int32)), (.int (((0 : Int32) + (1 : Int32)) + (1 : Int32)))])
    refine own_st (fun _ => XS.iadd X.here hx rfl (hb hby d11_29) rfl) ?_
    show own_E p e below Qq T4 (mkF m 30 #[.val (.ref a), .val (.int ((0 : Int32) + (1 : Int32))), .val (.int q), .val (.int es), .val (.int (((0 : Int32) + (1 : Int32)) + (1 : Int32))), .val (.int q)] [(.int ((((0 : Int32) + (1 : Int32)) + (1 : Int32)) + (1 : Int32)))])
    rw [← hQ]
    exact own_retI X hx hlk hret (hb hby d11_30) (by decide) (by decide) ⟨by rw [if_pos q34]; rfl, N, eT⟩
  · have _ := Nat.zero_le 0
    refine own_st (fun _ => XS.ifNo X.here hx rfl (hb hby d11_34) rfl (XT.i0_eq_f q34)) ?_
    show own_E p e below Qq T2 (mkF m 37 #[.val (.ref a), .val (.int ((0 : Int32) + (1 : Int32))), .val (.int q), .val (.int es), .val (.int ((0 : Int32) + (1 : Int32))), .val (.int (92 : Int32))] [(.int ((0 : Int32) + (1 : Int32)))])
    refine own_st (fun _ => XS.iload X.here hx rfl (hb hby d11_37) rfl) ?_
    show own_E p e below Qq T2 (mkF m 39 #[.val (.ref a), .val (.int ((0 : Int32) + (1 : Int32))), .val (.int q), .val (.int es), .val (.int ((0 : Int32) + (1 : Int32))), .val (.int (92 : Int32))] [(.int (92 : Int32)), (.int ((0 : Int32) + (1 : Int32)))])
    refine own_st (fun _ => XS.bipush X.here hx rfl (hb hby d11_39)) ?_
    show own_E p e below Qq T2 (mkF m 41 #[.val (.ref a), .val (.int ((0 : Int32) + (1 : Int32))), .val (.int q), .val (.int es), .val (.int ((0 : Int32) + (1 : Int32))), .val (.int (92 : Int32))] [(.int (92 : Int32)), (.int (92 : Int32)), (.int ((0 : Int32) + (1 : Int32)))])
    refine own_st (fun _ => XS.icmpNo X.here hx rfl (hb hby d11_41) rfl (XT.ii_ne_f rfl)) ?_
    show own_E p e below Qq T2 (mkF m 44 #[.val (.ref a), .val (.int ((0 : Int32) + (1 : Int32))), .val (.int q), .val (.int es), .val (.int ((0 : Int32) + (1 : Int32))), .val (.int (92 : Int32))] [(.int ((0 : Int32) + (1 : Int32)))])
    refine own_st (fun _ => XS.iconst X.here hx rfl (hb hby d11_44)) ?_
    show own_E p e below Qq T2 (mkF m 45 #[.val (.ref a), .val (.int ((0 : Int32) + (1 : Int32))), .val (.int q), .val (.int es), .val (.int ((0 : Int32) + (1 : Int32))), .val (.int (92 : Int32))] [(.int (2 : Int32)), (.int ((0 : Int32) + (1 : Int32)))])
    refine own_st (fun _ => XS.goto X.here hx rfl (pc0 := 45) (pc' := 49) rfl (hb hby d11_45) (by decide) (by decide)) ?_
    show own_E p e below Qq T2 (mkF m 49 #[.val (.ref a), .val (.int ((0 : Int32) + (1 : Int32))), .val (.int q), .val (.int es), .val (.int ((0 : Int32) + (1 : Int32))), .val (.int (92 : Int32))] [(.int (2 : Int32)), (.int ((0 : Int32) + (1 : Int32)))])
    refine own_st (fun _ => XS.iadd X.here hx rfl (hb hby d11_49) rfl) ?_
    show own_E p e below Qq T2 (mkF m 50 #[.val (.ref a), .val (.int ((0 : Int32) + (1 : Int32))), .val (.int q), .val (.int es), .val (.int ((0 : Int32) + (1 : Int32))), .val (.int (92 : Int32))] [(.int (((0 : Int32) + (1 : Int32)) + (2 : Int32)))])
    refine own_st (fun _ => XS.istore X.here hx rfl (hb hby d11_50) rfl (l' := #[.val (.ref a), .val (.int ((0 : Int32) + (1 : Int32))), .val (.int q), .val (.int es), .val (.int (((0 : Int32) + (1 : Int32)) + (2 : Int32))), .val (.int (92 : Int32))]) rfl) ?_
    show own_E p e below Qq T2 (mkF m 52 #[.val (.ref a), .val (.int ((0 : Int32) + (1 : Int32))), .val (.int q), .val (.int es), .val (.int (((0 : Int32) + (1 : Int32)) + (2 : Int32))), .val (.int (92 : Int32))] [])
    refine own_st (fun _ => XS.goto X.here hx rfl (pc0 := 52) (pc' := 3) rfl (hb hby d11_52) (by decide) (by decide)) ?_
    show own_E p e below Qq T2 (mkF m 3 #[.val (.ref a), .val (.int ((0 : Int32) + (1 : Int32))), .val (.int q), .val (.int es), .val (.int (((0 : Int32) + (1 : Int32)) + (2 : Int32))), .val (.int (92 : Int32))] [])
    refine own_st (fun _ => XS.iload X.here hx rfl (hb hby d11_3) rfl) ?_
    show own_E p e below Qq T2 (mkF m 5 #[.val (.ref a), .val (.int ((0 : Int32) + (1 : Int32))), .val (.int q), .val (.int es), .val (.int (((0 : Int32) + (1 : Int32)) + (2 : Int32))), .val (.int (92 : Int32))] [(.int (((0 : Int32) + (1 : Int32)) + (2 : Int32)))])
    refine own_st (fun _ => XS.aloadN X.here hx rfl (hb hby d11_5) rfl rfl) ?_
    show own_E p e below Qq T2 (mkF m 6 #[.val (.ref a), .val (.int ((0 : Int32) + (1 : Int32))), .val (.int q), .val (.int es), .val (.int (((0 : Int32) + (1 : Int32)) + (2 : Int32))), .val (.int (92 : Int32))] [(.ref a), (.int (((0 : Int32) + (1 : Int32)) + (2 : Int32)))])
    refine own_callV X hx hZ hown (hw _ (List.mem_of_getElem? (i := 67) rfl)) (hw _ (List.mem_of_getElem? (i := 68) rfl)) (hw _ (List.mem_of_getElem? (i := 70) rfl)) (hw _ (List.mem_of_getElem? (i := 69) rfl)) (hw _ (List.mem_of_getElem? (i := 24) rfl)) (hw _ (List.mem_of_getElem? (i := 71) rfl)) (by decide) ((own_tr (P := fun h => own_S Z h a b (4 : Int32) [q, 92, q, q]) eT S).1) (W := 1) (argsL := []) (rest := [(.int (((0 : Int32) + (1 : Int32)) + (2 : Int32)))]) (rm12 l Z a0 hw a cs fv _ n0 b (4 : Int32) [q, 92, q, q] (own_tr (P := fun h => own_S Z h a b (4 : Int32) [q, 92, q, q]) eT S) (own_tr (P := fun h => own_C Z h cs fv) eT C) (by decide)) (by decide) (by decide) (by decide) (by decide) rfl (by rw [hml]; rfl) (lenOf pd_12 rfl) rfl (by show 2 * 0 + _ ≤ _; exact Nat.le_of_eq rfl) (hb hby d11_6) ?_
    intro T5 L5 v X' hq
    obtain ⟨rfl, N', e'⟩ := hq
    replace eT := e'.trans eT
    clear e'
    replace N := Fr.app N N'
    replace X : Stand p l e ({ frames := 4, cells := 0, slots := 0, locals := 60 } : Room) s m #[(.ref a), (.int ((0 : Int32) + (1 : Int32))), (.int q), (.int es)] below meth c T5 _ 0 0 := X'
    clear X' N'
    show own_E p e below Qq T5 (mkF m 9 #[.val (.ref a), .val (.int ((0 : Int32) + (1 : Int32))), .val (.int q), .val (.int es), .val (.int (((0 : Int32) + (1 : Int32)) + (2 : Int32))), .val (.int (92 : Int32))] [(.int (4 : Int32)), (.int (((0 : Int32) + (1 : Int32)) + (2 : Int32)))])
    refine own_st (fun _ => XS.icmpNo X.here hx rfl (hb hby d11_9) rfl (XT.ii_ge_f (by decide))) ?_
    show own_E p e below Qq T5 (mkF m 12 #[.val (.ref a), .val (.int ((0 : Int32) + (1 : Int32))), .val (.int q), .val (.int es), .val (.int (((0 : Int32) + (1 : Int32)) + (2 : Int32))), .val (.int (92 : Int32))] [])
    refine own_st (fun _ => XS.aloadN X.here hx rfl (hb hby d11_12) rfl rfl) ?_
    show own_E p e below Qq T5 (mkF m 13 #[.val (.ref a), .val (.int ((0 : Int32) + (1 : Int32))), .val (.int q), .val (.int es), .val (.int (((0 : Int32) + (1 : Int32)) + (2 : Int32))), .val (.int (92 : Int32))] [(.ref a)])
    refine own_st (fun _ => XS.iload X.here hx rfl (hb hby d11_13) rfl) ?_
    show own_E p e below Qq T5 (mkF m 15 #[.val (.ref a), .val (.int ((0 : Int32) + (1 : Int32))), .val (.int q), .val (.int es), .val (.int (((0 : Int32) + (1 : Int32)) + (2 : Int32))), .val (.int (92 : Int32))] [(.int (((0 : Int32) + (1 : Int32)) + (2 : Int32))), (.ref a)])
    refine own_callV X hx hZ hown (hw _ (List.mem_of_getElem? (i := 77) rfl)) (hw _ (List.mem_of_getElem? (i := 39) rfl)) (hw _ (List.mem_of_getElem? (i := 41) rfl)) (hw _ (List.mem_of_getElem? (i := 40) rfl)) (hw _ (List.mem_of_getElem? (i := 24) rfl)) (hw _ (List.mem_of_getElem? (i := 42) rfl)) (by decide) ((own_tr (P := fun h => own_S Z h a b (4 : Int32) [q, 92, q, q]) eT S).1) (W := 0) (argsL := [(.int (((0 : Int32) + (1 : Int32)) + (2 : Int32)))]) (rest := []) (rm6 l Z a0 hw a (((0 : Int32) + (1 : Int32)) + (2 : Int32)) cs fv _ n0 b (4 : Int32) [q, 92, q, q] (own_tr (P := fun h => own_S Z h a b (4 : Int32) [q, 92, q, q]) eT S) (own_tr (P := fun h => own_C Z h cs fv) eT C) (by decide) q (by rcases hq with rfl | rfl <;> decide) (by rcases hq with rfl | rfl <;> decide)) (by decide) (by decide) (by decide) (by decide) rfl (by rw [hml]; rfl) (lenOf pd_6 rfl) rfl (by show 2 * 0 + _ ≤ _; exact Nat.le_of_eq rfl) (hb hby d11_15) ?_
    intro T6 L6 v X' hq
    obtain ⟨rfl, N', e'⟩ := hq
    replace eT := e'.trans eT
    clear e'
    replace N := Fr.app N N'
    replace X : Stand p l e ({ frames := 4, cells := 0, slots := 0, locals := 60 } : Room) s m #[(.ref a), (.int ((0 : Int32) + (1 : Int32))), (.int q), (.int es)] below meth c T6 _ 0 0 := X'
    clear X' N'
    show own_E p e below Qq T6 (mkF m 18 #[.val (.ref a), .val (.int ((0 : Int32) + (1 : Int32))), .val (.int q), .val (.int es), .val (.int (((0 : Int32) + (1 : Int32)) + (2 : Int32))), .val (.int (92 : Int32))] [(.int q)])
    refine own_st (fun _ => XS.istore X.here hx rfl (hb hby d11_18) rfl (l' := #[.val (.ref a), .val (.int ((0 : Int32) + (1 : Int32))), .val (.int q), .val (.int es), .val (.int (((0 : Int32) + (1 : Int32)) + (2 : Int32))), .val (.int q)]) rfl) ?_
    show own_E p e below Qq T6 (mkF m 20 #[.val (.ref a), .val (.int ((0 : Int32) + (1 : Int32))), .val (.int q), .val (.int es), .val (.int (((0 : Int32) + (1 : Int32)) + (2 : Int32))), .val (.int q)] [])
    refine own_st (fun _ => XS.iload X.here hx rfl (hb hby d11_20) rfl) ?_
    show own_E p e below Qq T6 (mkF m 22 #[.val (.ref a), .val (.int ((0 : Int32) + (1 : Int32))), .val (.int q), .val (.int es), .val (.int (((0 : Int32) + (1 : Int32)) + (2 : Int32))), .val (.int q)] [(.int q)])
    refine own_st (fun _ => XS.iloadN X.here hx rfl (hb hby d11_22) rfl) ?_
    show own_E p e below Qq T6 (mkF m 23 #[.val (.ref a), .val (.int ((0 : Int32) + (1 : Int32))), .val (.int q), .val (.int es), .val (.int (((0 : Int32) + (1 : Int32)) + (2 : Int32))), .val (.int q)] [(.int q), (.int q)])
    refine own_st (fun _ => XS.icmpNo X.here hx rfl (hb hby d11_23) rfl (XT.ii_ne_f rfl)) ?_
    show own_E p e below Qq T6 (mkF m 26 #[.val (.ref a), .val (.int ((0 : Int32) + (1 : Int32))), .val (.int q), .val (.int es), .val (.int (((0 : Int32) + (1 : Int32)) + (2 : Int32))), .val (.int q)] [])
    refine own_st (fun _ => XS.iload X.here hx rfl (hb hby d11_26) rfl) ?_
    show own_E p e below Qq T6 (mkF m 28 #[.val (.ref a), .val (.int ((0 : Int32) + (1 : Int32))), .val (.int q), .val (.int es), .val (.int (((0 : Int32) + (1 : Int32)) + (2 : Int32))), .val (.int q)] [(.int (((0 : Int32) + (1 : Int32)) + (2 : Int32)))])
    refine own_st (fun _ => XS.iconst X.here hx rfl (hb hby d11_28)) ?_
    show own_E p e below Qq T6 (mkF m 29 #[.val (.ref a), .val (.int ((0 : Int32) + (1 : Int32))), .val (.int q), .val (.int es), .val (.int (((0 : Int32) + (1 : Int32)) + (2 : Int32))), .val (.int q)] [(.int (1 : Int32)), (.int (((0 : Int32) + (1 : Int32)) + (2 : Int32)))])
    refine own_st (fun _ => XS.iadd X.here hx rfl (hb hby d11_29) rfl) ?_
    show own_E p e below Qq T6 (mkF m 30 #[.val (.ref a), .val (.int ((0 : Int32) + (1 : Int32))), .val (.int q), .val (.int es), .val (.int (((0 : Int32) + (1 : Int32)) + (2 : Int32))), .val (.int q)] [(.int ((((0 : Int32) + (1 : Int32)) + (2 : Int32)) + (1 : Int32)))])
    rw [← hQ]
    exact own_retI X hx hlk hret (hb hby d11_30) (by decide) (by decide) ⟨by rw [if_neg q34]; rfl, N, eT⟩
theorem own_le39 {bs an : Int32} : own_le 39 bs an = if bs = 0 then 3 else 4 := if_pos rfl
theorem own_le34 {bs an : Int32} : own_le 34 bs an = if bs = 0 then 3 else if an = 0 then 4 else 3 := if_neg (by decide)
theorem pn_5 : plainName "com/example/rowbridge/rowbridge/jdbc/MariadbSql" = true := by first | (simp [plainName, overriddenIn]; done) | decide +kernel
theorem pd_5 : parseMethodDescriptor "(Ljava/lang/String;I)I" = some ⟨[(.object "java/lang/String"), .int], some .int⟩ := by decide +kernel
theorem d5_0 : decode prog_20_method_3_code 0 = .ok (.aload_n 1, 1) := by decide +kernel
theorem d5_1 : decode prog_20_method_3_code 1 = .ok (.iload_n 2, 1) := by decide +kernel
theorem d5_2 : decode prog_20_method_3_code 2 = .ok (.invokevirtual 22, 3) := by decide +kernel
theorem d5_5 : decode prog_20_method_3_code 5 = .ok (.istore_n 3, 1) := by decide +kernel
theorem d5_6 : decode prog_20_method_3_code 6 = .ok (.iload_n 3, 1) := by decide +kernel
theorem d5_7 : decode prog_20_method_3_code 7 = .ok (.bipush 39, 2) := by decide +kernel
theorem d5_9 : decode prog_20_method_3_code 9 = .ok (.if_icmp .ne 20, 3) := by decide +kernel
theorem d5_12 : decode prog_20_method_3_code 12 = .ok (.aload_n 1, 1) := by decide +kernel
theorem d5_13 : decode prog_20_method_3_code 13 = .ok (.iload_n 2, 1) := by decide +kernel
theorem d5_14 : decode prog_20_method_3_code 14 = .ok (.iconst 1, 1) := by decide +kernel
theorem d5_15 : decode prog_20_method_3_code 15 = .ok (.iadd, 1) := by decide +kernel
theorem d5_16 : decode prog_20_method_3_code 16 = .ok (.iload_n 3, 1) := by decide +kernel
theorem d5_17 : decode prog_20_method_3_code 17 = .ok (.aload_n 0, 1) := by decide +kernel
theorem d5_18 : decode prog_20_method_3_code 18 = .ok (.getfield 7, 3) := by decide +kernel
theorem d5_21 : decode prog_20_method_3_code 21 = .ok (.invokestatic 28, 3) := by decide +kernel
theorem d5_24 : decode prog_20_method_3_code 24 = .ok (.istore 4, 2) := by decide +kernel
theorem d5_26 : decode prog_20_method_3_code 26 = .ok (.goto 64, 3) := by decide +kernel
theorem d5_29 : decode prog_20_method_3_code 29 = .ok (.iload_n 3, 1) := by decide +kernel
theorem d5_30 : decode prog_20_method_3_code 30 = .ok (.bipush 34, 2) := by decide +kernel
theorem d5_32 : decode prog_20_method_3_code 32 = .ok (.if_icmp .ne 35, 3) := by decide +kernel
theorem d5_35 : decode prog_20_method_3_code 35 = .ok (.aload_n 1, 1) := by decide +kernel
theorem d5_36 : decode prog_20_method_3_code 36 = .ok (.iload_n 2, 1) := by decide +kernel
theorem d5_37 : decode prog_20_method_3_code 37 = .ok (.iconst 1, 1) := by decide +kernel
theorem d5_38 : decode prog_20_method_3_code 38 = .ok (.iadd, 1) := by decide +kernel
theorem d5_39 : decode prog_20_method_3_code 39 = .ok (.iload_n 3, 1) := by decide +kernel
theorem d5_40 : decode prog_20_method_3_code 40 = .ok (.aload_n 0, 1) := by decide +kernel
theorem d5_41 : decode prog_20_method_3_code 41 = .ok (.getfield 7, 3) := by decide +kernel
theorem d5_44 : decode prog_20_method_3_code 44 = .ok (.ifCond .eq 14, 3) := by decide +kernel
theorem d5_47 : decode prog_20_method_3_code 47 = .ok (.aload_n 0, 1) := by decide +kernel
theorem d5_48 : decode prog_20_method_3_code 48 = .ok (.getfield 13, 3) := by decide +kernel
theorem d5_51 : decode prog_20_method_3_code 51 = .ok (.ifCond .ne 7, 3) := by decide +kernel
theorem d5_54 : decode prog_20_method_3_code 54 = .ok (.iconst 1, 1) := by decide +kernel
theorem d5_55 : decode prog_20_method_3_code 55 = .ok (.goto 4, 3) := by decide +kernel
theorem d5_58 : decode prog_20_method_3_code 58 = .ok (.iconst 0, 1) := by decide +kernel
theorem d5_59 : decode prog_20_method_3_code 59 = .ok (.invokestatic 28, 3) := by decide +kernel
theorem d5_62 : decode prog_20_method_3_code 62 = .ok (.istore 4, 2) := by decide +kernel
theorem d5_64 : decode prog_20_method_3_code 64 = .ok (.goto 26, 3) := by decide +kernel
theorem d5_67 : decode prog_20_method_3_code 67 = .ok (.iload_n 3, 1) := by decide +kernel
theorem d5_68 : decode prog_20_method_3_code 68 = .ok (.bipush 96, 2) := by decide +kernel
theorem d5_70 : decode prog_20_method_3_code 70 = .ok (.if_icmp .ne 17, 3) := by decide +kernel
theorem d5_73 : decode prog_20_method_3_code 73 = .ok (.aload_n 1, 1) := by decide +kernel
theorem d5_74 : decode prog_20_method_3_code 74 = .ok (.iload_n 2, 1) := by decide +kernel
theorem d5_75 : decode prog_20_method_3_code 75 = .ok (.iconst 1, 1) := by decide +kernel
theorem d5_76 : decode prog_20_method_3_code 76 = .ok (.iadd, 1) := by decide +kernel
theorem d5_77 : decode prog_20_method_3_code 77 = .ok (.iload_n 3, 1) := by decide +kernel
theorem d5_78 : decode prog_20_method_3_code 78 = .ok (.iconst 0, 1) := by decide +kernel
theorem d5_79 : decode prog_20_method_3_code 79 = .ok (.invokestatic 28, 3) := by decide +kernel
theorem d5_82 : decode prog_20_method_3_code 82 = .ok (.istore 4, 2) := by decide +kernel
theorem d5_84 : decode prog_20_method_3_code 84 = .ok (.goto 6, 3) := by decide +kernel
theorem d5_87 : decode prog_20_method_3_code 87 = .ok (.iload_n 2, 1) := by decide +kernel
theorem d5_88 : decode prog_20_method_3_code 88 = .ok (.istore 4, 2) := by decide +kernel
theorem d5_90 : decode prog_20_method_3_code 90 = .ok (.iload 4, 2) := by decide +kernel
theorem d5_92 : decode prog_20_method_3_code 92 = .ok (.ireturn, 1) := by decide +kernel
theorem ef_rm5_39 (m : MethodId) (g a : Addr) : entryFrame m #[(.ref g), (.ref a), (.int (0 : Int32))] 5 = (mkF m 0 #[.val (.ref g), .val (.ref a), .val (.int (0 : Int32)), .unset, .unset] []) := by first | (simp [entryFrame, mkF, argsToLocals, Value.category, maxLocals]; done) | rfl
set_option maxRecDepth 65536 in
set_option maxHeartbeats 40000000 in
theorem rm5_39 (l : Launch) (Z : State) (a0 : Array Value) (hw : ∀ d ∈ tables_1, d.before a0 Z = true) (g a : Addr) (cs : Int32) (fv : Value) (h0 : Heap) (n0 : Nat) (bs an : Int32) (b : Addr) (Gf : own_G Z h0 g bs an) (S : own_S Z h0 a b (4 : Int32) [(39 : Int32), 92, (39 : Int32), (39 : Int32)]) (C : own_C Z h0 cs fv) :
    own_M l Z (⟨"com/example/rowbridge/rowbridge/jdbc/MariadbSql", "literalEnd", "(Ljava/lang/String;I)I"⟩ : MethodName) prog_20_method_3_code 5 (some .int) ({ frames := 5, cells := 0, slots := 0, locals := 80 } : Room) #[(.ref g), (.ref a), (.int (0 : Int32))] h0 (fun v h L => v = some (.int (own_le 39 bs an)) ∧ Fr n0 L ∧ h = h0) := by
  refine own_body pn_5 ?_
  intro p e s m below meth c T hx hby hml hown hZ hret hlk hnm X eT
  have N := Fr.nil n0
  generalize hQ : own_Q s (fun v h L => v = some (.int (own_le 39 bs an)) ∧ Fr n0 L ∧ h = h0) ({ frames := 5, cells := 0, slots := 0, locals := 80 } : Room).cells ({ frames := 5, cells := 0, slots := 0, locals := 80 } : Room).slots = Qq
  refine own_st (fun _ k => castTop (ef_rm5_39 m g a) k) ?_
  show own_E p e below Qq T (mkF m 0 #[.val (.ref g), .val (.ref a), .val (.int (0 : Int32)), .unset, .unset] [])
  refine own_st (fun _ => XS.aloadN X.here hx rfl (hb hby d5_0) rfl rfl) ?_
  show own_E p e below Qq T (mkF m 1 #[.val (.ref g), .val (.ref a), .val (.int (0 : Int32)), .unset, .unset] [(.ref a)])
  refine own_st (fun _ => XS.iloadN X.here hx rfl (hb hby d5_1) rfl) ?_
  show own_E p e below Qq T (mkF m 2 #[.val (.ref g), .val (.ref a), .val (.int (0 : Int32)), .unset, .unset] [(.int (0 : Int32)), (.ref a)])
  refine own_callV X hx hZ hown (hw _ (List.mem_of_getElem? (i := 38) rfl)) (hw _ (List.mem_of_getElem? (i := 39) rfl)) (hw _ (List.mem_of_getElem? (i := 41) rfl)) (hw _ (List.mem_of_getElem? (i := 40) rfl)) (hw _ (List.mem_of_getElem? (i := 24) rfl)) (hw _ (List.mem_of_getElem? (i := 42) rfl)) (by decide) ((own_tr (P := fun h => own_S Z h a b (4 : Int32) [(39 : Int32), 92, (39 : Int32), (39 : Int32)]) eT S).1) (W := 0) (argsL := [(.int (0 : Int32))]) (rest := []) (rm6 l Z a0 hw a (0 : Int32) cs fv _ n0 b (4 : Int32) [(39 : Int32), 92, (39 : Int32), (39 : Int32)] (own_tr (P := fun h => own_S Z h a b (4 : Int32) [(39 : Int32), 92, (39 : Int32), (39 : Int32)]) eT S) (own_tr (P := fun h => own_C Z h cs fv) eT C) (by decide) (39 : Int32) (by decide) (by decide)) (by decide) (by decide) (by decide) (by decide) rfl (by rw [hml]; rfl) (lenOf pd_6 rfl) rfl (by show 2 * 0 + _ ≤ _; exact Nat.le_of_eq rfl) (hb hby d5_2) ?_
  intro T1 L1 v X' hq
  obtain ⟨rfl, N', e'⟩ := hq
  replace eT := e'.trans eT
  clear e'
  replace N := Fr.app N N'
  replace X : Stand p l e ({ frames := 5, cells := 0, slots := 0, locals := 80 } : Room) s m #[(.ref g), (.ref a), (.int (0 : Int32))] below meth c T1 _ 0 0 := X'
  clear X' N'
  show own_E p e below Qq T1 (mkF m 5 #[.val (.ref g), .val (.ref a), .val (.int (0 : Int32)), .unset, .unset] [(.int (39 : Int32))])
  refine own_st (fun _ => XS.istoreN X.here hx rfl (hb hby d5_5) rfl (l' := #[.val (.ref g), .val (.ref a), .val (.int (0 : Int32)), .val (.int (39 : Int32)), .unset]) rfl) ?_
  show own_E p e below Qq T1 (mkF m 6 #[.val (.ref g), .val (.ref a), .val (.int (0 : Int32)), .val (.int (39 : Int32)), .unset] [])
  refine own_st (fun _ => XS.iloadN X.here hx rfl (hb hby d5_6) rfl) ?_
  show own_E p e below Qq T1 (mkF m 7 #[.val (.ref g), .val (.ref a), .val (.int (0 : Int32)), .val (.int (39 : Int32)), .unset] [(.int (39 : Int32))])
  refine own_st (fun _ => XS.bipush X.here hx rfl (hb hby d5_7)) ?_
  show own_E p e below Qq T1 (mkF m 9 #[.val (.ref g), .val (.ref a), .val (.int (0 : Int32)), .val (.int (39 : Int32)), .unset] [(.int (39 : Int32)), (.int (39 : Int32))])
  refine own_st (fun _ => XS.icmpNo X.here hx rfl (hb hby d5_9) rfl (XT.ii_ne_f rfl)) ?_
  show own_E p e below Qq T1 (mkF m 12 #[.val (.ref g), .val (.ref a), .val (.int (0 : Int32)), .val (.int (39 : Int32)), .unset] [])
  refine own_st (fun _ => XS.aloadN X.here hx rfl (hb hby d5_12) rfl rfl) ?_
  show own_E p e below Qq T1 (mkF m 13 #[.val (.ref g), .val (.ref a), .val (.int (0 : Int32)), .val (.int (39 : Int32)), .unset] [(.ref a)])
  refine own_st (fun _ => XS.iloadN X.here hx rfl (hb hby d5_13) rfl) ?_
  show own_E p e below Qq T1 (mkF m 14 #[.val (.ref g), .val (.ref a), .val (.int (0 : Int32)), .val (.int (39 : Int32)), .unset] [(.int (0 : Int32)), (.ref a)])
  refine own_st (fun _ => XS.iconst X.here hx rfl (hb hby d5_14)) ?_
  show own_E p e below Qq T1 (mkF m 15 #[.val (.ref g), .val (.ref a), .val (.int (0 : Int32)), .val (.int (39 : Int32)), .unset] [(.int (1 : Int32)), (.int (0 : Int32)), (.ref a)])
  refine own_st (fun _ => XS.iadd X.here hx rfl (hb hby d5_15) rfl) ?_
  show own_E p e below Qq T1 (mkF m 16 #[.val (.ref g), .val (.ref a), .val (.int (0 : Int32)), .val (.int (39 : Int32)), .unset] [(.int ((0 : Int32) + (1 : Int32))), (.ref a)])
  refine own_st (fun _ => XS.iloadN X.here hx rfl (hb hby d5_16) rfl) ?_
  show own_E p e below Qq T1 (mkF m 17 #[.val (.ref g), .val (.ref a), .val (.int (0 : Int32)), .val (.int (39 : Int32)), .unset] [(.int (39 : Int32)), (.int ((0 : Int32) + (1 : Int32))), (.ref a)])
  refine own_st (fun _ => XS.aloadN X.here hx rfl (hb hby d5_17) rfl rfl) ?_
  show own_E p e below Qq T1 (mkF m 18 #[.val (.ref g), .val (.ref a), .val (.int (0 : Int32)), .val (.int (39 : Int32)), .unset] [(.ref g), (.int (39 : Int32)), (.int ((0 : Int32) + (1 : Int32))), (.ref a)])
  obtain ⟨T2, X2, e2, st2⟩ := getF X hx hZ hown (host := "") (Or.inl (hw _ (List.mem_of_getElem? (i := 14) rfl))) Via.refl eT (Gf.2.1) (g := (mkF m 18 #[.val (.ref g), .val (.ref a), .val (.int (0 : Int32)), .val (.int (39 : Int32)), .unset] [(.ref g), (.int (39 : Int32)), (.int ((0 : Int32) + (1 : Int32))), (.ref a)])) rfl rfl (hb hby d5_18)
  refine own_st st2 ?_
  replace eT := e2
  replace X := X2
  clear X2 st2
  show own_E p e below Qq T2 (mkF m 21 #[.val (.ref g), .val (.ref a), .val (.int (0 : Int32)), .val (.int (39 : Int32)), .unset] [(.int bs), (.int (39 : Int32)), (.int ((0 : Int32) + (1 : Int32))), (.ref a)])
  refine own_callS X hx hZ hown (hw _ (List.mem_of_getElem? (i := 63) rfl)) (hw _ (List.mem_of_getElem? (i := 64) rfl)) (hw _ (List.mem_of_getElem? (i := 65) rfl)) (hw _ (List.mem_of_getElem? (i := 66) rfl)) (by decide) (W := 0) (argsL := [(.ref a), (.int ((0 : Int32) + (1 : Int32))), (.int (39 : Int32)), (.int bs)]) (rest := []) (rm11 l Z a0 hw a (39 : Int32) bs cs fv _ n0 b (own_tr (P := fun h => own_S Z h a b (4 : Int32) [(39 : Int32), 92, (39 : Int32), (39 : Int32)]) eT S) (own_tr (P := fun h => own_C Z h cs fv) eT C) (by decide)) (by decide) (by decide) (by decide) (by decide) rfl (by rw [hml]; rfl) (lenOf pd_11 rfl) rfl (by show 2 * 0 + _ ≤ _; exact Nat.le_of_eq rfl) (hb hby d5_21) ?_
  intro T3 L3 v X' hq
  obtain ⟨rfl, N', e'⟩ := hq
  replace eT := e'.trans eT
  clear e'
  replace N := Fr.app N N'
  replace X : Stand p l e ({ frames := 5, cells := 0, slots := 0, locals := 80 } : Room) s m #[(.ref g), (.ref a), (.int (0 : Int32))] below meth c T3 _ 0 0 := X'
  clear X' N'
  show own_E p e below Qq T3 (mkF m 24 #[.val (.ref g), .val (.ref a), .val (.int (0 : Int32)), .val (.int (39 : Int32)), .unset] [(.int (if bs = 0 then 3 else 4))])
  refine own_st (fun _ => XS.istore X.here hx rfl (hb hby d5_24) rfl (l' := #[.val (.ref g), .val (.ref a), .val (.int (0 : Int32)), .val (.int (39 : Int32)), .val (.int (if bs = 0 then 3 else 4))]) rfl) ?_
  show own_E p e below Qq T3 (mkF m 26 #[.val (.ref g), .val (.ref a), .val (.int (0 : Int32)), .val (.int (39 : Int32)), .val (.int (if bs = 0 then 3 else 4))] [])
  refine own_st (fun _ => XS.goto X.here hx rfl (pc0 := 26) (pc' := 90) rfl (hb hby d5_26) (by decide) (by decide)) ?_
  show own_E p e below Qq T3 (mkF m 90 #[.val (.ref g), .val (.ref a), .val (.int (0 : Int32)), .val (.int (39 : Int32)), .val (.int (if bs = 0 then 3 else 4))] [])
  refine own_st (fun _ => XS.iload X.here hx rfl (hb hby d5_90) rfl) ?_
  show own_E p e below Qq T3 (mkF m 92 #[.val (.ref g), .val (.ref a), .val (.int (0 : Int32)), .val (.int (39 : Int32)), .val (.int (if bs = 0 then 3 else 4))] [(.int (if bs = 0 then 3 else 4))])
  rw [← hQ]
  exact own_retI X hx hlk hret (hb hby d5_92) (by decide) (by decide) ⟨by rw [own_le39], N, eT⟩
theorem ef_rm5_34 (m : MethodId) (g a : Addr) : entryFrame m #[(.ref g), (.ref a), (.int (0 : Int32))] 5 = (mkF m 0 #[.val (.ref g), .val (.ref a), .val (.int (0 : Int32)), .unset, .unset] []) := by first | (simp [entryFrame, mkF, argsToLocals, Value.category, maxLocals]; done) | rfl
set_option maxRecDepth 65536 in
set_option maxHeartbeats 40000000 in
theorem rm5_34 (l : Launch) (Z : State) (a0 : Array Value) (hw : ∀ d ∈ tables_1, d.before a0 Z = true) (g a : Addr) (cs : Int32) (fv : Value) (h0 : Heap) (n0 : Nat) (bs an : Int32) (b : Addr) (Gf : own_G Z h0 g bs an) (S : own_S Z h0 a b (4 : Int32) [(34 : Int32), 92, (34 : Int32), (34 : Int32)]) (C : own_C Z h0 cs fv) :
    own_M l Z (⟨"com/example/rowbridge/rowbridge/jdbc/MariadbSql", "literalEnd", "(Ljava/lang/String;I)I"⟩ : MethodName) prog_20_method_3_code 5 (some .int) ({ frames := 5, cells := 0, slots := 0, locals := 80 } : Room) #[(.ref g), (.ref a), (.int (0 : Int32))] h0 (fun v h L => v = some (.int (own_le 34 bs an)) ∧ Fr n0 L ∧ h = h0) := by
  refine own_body pn_5 ?_
  intro p e s m below meth c T hx hby hml hown hZ hret hlk hnm X eT
  have N := Fr.nil n0
  generalize hQ : own_Q s (fun v h L => v = some (.int (own_le 34 bs an)) ∧ Fr n0 L ∧ h = h0) ({ frames := 5, cells := 0, slots := 0, locals := 80 } : Room).cells ({ frames := 5, cells := 0, slots := 0, locals := 80 } : Room).slots = Qq
  refine own_st (fun _ k => castTop (ef_rm5_34 m g a) k) ?_
  show own_E p e below Qq T (mkF m 0 #[.val (.ref g), .val (.ref a), .val (.int (0 : Int32)), .unset, .unset] [])
  refine own_st (fun _ => XS.aloadN X.here hx rfl (hb hby d5_0) rfl rfl) ?_
  show own_E p e below Qq T (mkF m 1 #[.val (.ref g), .val (.ref a), .val (.int (0 : Int32)), .unset, .unset] [(.ref a)])
  refine own_st (fun _ => XS.iloadN X.here hx rfl (hb hby d5_1) rfl) ?_
  show own_E p e below Qq T (mkF m 2 #[.val (.ref g), .val (.ref a), .val (.int (0 : Int32)), .unset, .unset] [(.int (0 : Int32)), (.ref a)])
  refine own_callV X hx hZ hown (hw _ (List.mem_of_getElem? (i := 38) rfl)) (hw _ (List.mem_of_getElem? (i := 39) rfl)) (hw _ (List.mem_of_getElem? (i := 41) rfl)) (hw _ (List.mem_of_getElem? (i := 40) rfl)) (hw _ (List.mem_of_getElem? (i := 24) rfl)) (hw _ (List.mem_of_getElem? (i := 42) rfl)) (by decide) ((own_tr (P := fun h => own_S Z h a b (4 : Int32) [(34 : Int32), 92, (34 : Int32), (34 : Int32)]) eT S).1) (W := 0) (argsL := [(.int (0 : Int32))]) (rest := []) (rm6 l Z a0 hw a (0 : Int32) cs fv _ n0 b (4 : Int32) [(34 : Int32), 92, (34 : Int32), (34 : Int32)] (own_tr (P := fun h => own_S Z h a b (4 : Int32) [(34 : Int32), 92, (34 : Int32), (34 : Int32)]) eT S) (own_tr (P := fun h => own_C Z h cs fv) eT C) (by decide) (34 : Int32) (by decide) (by decide)) (by decide) (by decide) (by decide) (by decide) rfl (by rw [hml]; rfl) (lenOf pd_6 rfl) rfl (by show 2 * 0 + _ ≤ _; exact Nat.le_of_eq rfl) (hb hby d5_2) ?_
  intro T1 L1 v X' hq
  obtain ⟨rfl, N', e'⟩ := hq
  replace eT := e'.trans eT
  clear e'
  replace N := Fr.app N N'
  replace X : Stand p l e ({ frames := 5, cells := 0, slots := 0, locals := 80 } : Room) s m #[(.ref g), (.ref a), (.int (0 : Int32))] below meth c T1 _ 0 0 := X'
  clear X' N'
  show own_E p e below Qq T1 (mkF m 5 #[.val (.ref g), .val (.ref a), .val (.int (0 : Int32)), .unset, .unset] [(.int (34 : Int32))])
  refine own_st (fun _ => XS.istoreN X.here hx rfl (hb hby d5_5) rfl (l' := #[.val (.ref g), .val (.ref a), .val (.int (0 : Int32)), .val (.int (34 : Int32)), .unset]) rfl) ?_
  show own_E p e below Qq T1 (mkF m 6 #[.val (.ref g), .val (.ref a), .val (.int (0 : Int32)), .val (.int (34 : Int32)), .unset] [])
  refine own_st (fun _ => XS.iloadN X.here hx rfl (hb hby d5_6) rfl) ?_
  show own_E p e below Qq T1 (mkF m 7 #[.val (.ref g), .val (.ref a), .val (.int (0 : Int32)), .val (.int (34 : Int32)), .unset] [(.int (34 : Int32))])
  refine own_st (fun _ => XS.bipush X.here hx rfl (hb hby d5_7)) ?_
  show own_E p e below Qq T1 (mkF m 9 #[.val (.ref g), .val (.ref a), .val (.int (0 : Int32)), .val (.int (34 : Int32)), .unset] [(.int (39 : Int32)), (.int (34 : Int32))])
  refine own_st (fun _ => XS.icmpYes X.here hx rfl (pc0 := 9) (pc' := 29) rfl (hb hby d5_9) rfl (XT.ii_ne_t (by decide)) (by decide) (by decide)) ?_
  show own_E p e below Qq T1 (mkF m 29 #[.val (.ref g), .val (.ref a), .val (.int (0 : Int32)), .val (.int (34 : Int32)), .unset] [])
  refine own_st (fun _ => XS.iloadN X.here hx rfl (hb hby d5_29) rfl) ?_
  show own_E p e below Qq T1 (mkF m 30 #[.val (.ref g), .val (.ref a), .val (.int (0 : Int32)), .val (.int (34 : Int32)), .unset] [(.int (34 : Int32))])
  refine own_st (fun _ => XS.bipush X.here hx rfl (hb hby d5_30)) ?_
  show own_E p e below Qq T1 (mkF m 32 #[.val (.ref g), .val (.ref a), .val (.int (0 : Int32)), .val (.int (34 : Int32)), .unset] [(.int (34 : Int32)), (.int (34 : Int32))])
  refine own_st (fun _ => XS.icmpNo X.here hx rfl (hb hby d5_32) rfl (XT.ii_ne_f rfl)) ?_
  show own_E p e below Qq T1 (mkF m 35 #[.val (.ref g), .val (.ref a), .val (.int (0 : Int32)), .val (.int (34 : Int32)), .unset] [])
  refine own_st (fun _ => XS.aloadN X.here hx rfl (hb hby d5_35) rfl rfl) ?_
  show own_E p e below Qq T1 (mkF m 36 #[.val (.ref g), .val (.ref a), .val (.int (0 : Int32)), .val (.int (34 : Int32)), .unset] [(.ref a)])
  refine own_st (fun _ => XS.iloadN X.here hx rfl (hb hby d5_36) rfl) ?_
  show own_E p e below Qq T1 (mkF m 37 #[.val (.ref g), .val (.ref a), .val (.int (0 : Int32)), .val (.int (34 : Int32)), .unset] [(.int (0 : Int32)), (.ref a)])
  refine own_st (fun _ => XS.iconst X.here hx rfl (hb hby d5_37)) ?_
  show own_E p e below Qq T1 (mkF m 38 #[.val (.ref g), .val (.ref a), .val (.int (0 : Int32)), .val (.int (34 : Int32)), .unset] [(.int (1 : Int32)), (.int (0 : Int32)), (.ref a)])
  refine own_st (fun _ => XS.iadd X.here hx rfl (hb hby d5_38) rfl) ?_
  show own_E p e below Qq T1 (mkF m 39 #[.val (.ref g), .val (.ref a), .val (.int (0 : Int32)), .val (.int (34 : Int32)), .unset] [(.int ((0 : Int32) + (1 : Int32))), (.ref a)])
  refine own_st (fun _ => XS.iloadN X.here hx rfl (hb hby d5_39) rfl) ?_
  show own_E p e below Qq T1 (mkF m 40 #[.val (.ref g), .val (.ref a), .val (.int (0 : Int32)), .val (.int (34 : Int32)), .unset] [(.int (34 : Int32)), (.int ((0 : Int32) + (1 : Int32))), (.ref a)])
  refine own_st (fun _ => XS.aloadN X.here hx rfl (hb hby d5_40) rfl rfl) ?_
  show own_E p e below Qq T1 (mkF m 41 #[.val (.ref g), .val (.ref a), .val (.int (0 : Int32)), .val (.int (34 : Int32)), .unset] [(.ref g), (.int (34 : Int32)), (.int ((0 : Int32) + (1 : Int32))), (.ref a)])
  obtain ⟨T2, X2, e2, st2⟩ := getF X hx hZ hown (host := "") (Or.inl (hw _ (List.mem_of_getElem? (i := 14) rfl))) Via.refl eT (Gf.2.1) (g := (mkF m 41 #[.val (.ref g), .val (.ref a), .val (.int (0 : Int32)), .val (.int (34 : Int32)), .unset] [(.ref g), (.int (34 : Int32)), (.int ((0 : Int32) + (1 : Int32))), (.ref a)])) rfl rfl (hb hby d5_41)
  refine own_st st2 ?_
  replace eT := e2
  replace X := X2
  clear X2 st2
  show own_E p e below Qq T2 (mkF m 44 #[.val (.ref g), .val (.ref a), .val (.int (0 : Int32)), .val (.int (34 : Int32)), .unset] [(.int bs), (.int (34 : Int32)), (.int ((0 : Int32) + (1 : Int32))), (.ref a)])
  by_cases q44 : bs = (0 : Int32)
  · have _ := Nat.zero_le 0
    refine own_st (fun _ => XS.ifYes X.here hx rfl (pc0 := 44) (pc' := 58) rfl (hb hby d5_44) rfl (XT.i0_eq_t q44) (by decide) (by decide)) ?_
    show own_E p e below Qq T2 (mkF m 58 #[.val (.ref g), .val (.ref a), .val (.int (0 : Int32)), .val (.int (34 : Int32)), .unset] [(.int (34 : Int32)), (.int ((0 : Int32) + (1 : Int32))), (.ref a)])
    refine own_st (fun _ => XS.iconst X.here hx rfl (hb hby d5_58)) ?_
    show own_E p e below Qq T2 (mkF m 59 #[.val (.ref g), .val (.ref a), .val (.int (0 : Int32)), .val (.int (34 : Int32)), .unset] [(.int (0 : Int32)), (.int (34 : Int32)), (.int ((0 : Int32) + (1 : Int32))), (.ref a)])
    refine own_callS X hx hZ hown (hw _ (List.mem_of_getElem? (i := 63) rfl)) (hw _ (List.mem_of_getElem? (i := 64) rfl)) (hw _ (List.mem_of_getElem? (i := 65) rfl)) (hw _ (List.mem_of_getElem? (i := 66) rfl)) (by decide) (W := 0) (argsL := [(.ref a), (.int ((0 : Int32) + (1 : Int32))), (.int (34 : Int32)), (.int (0 : Int32))]) (rest := []) (rm11 l Z a0 hw a (34 : Int32) (0 : Int32) cs fv _ n0 b (own_tr (P := fun h => own_S Z h a b (4 : Int32) [(34 : Int32), 92, (34 : Int32), (34 : Int32)]) eT S) (own_tr (P := fun h => own_C Z h cs fv) eT C) (by decide)) (by decide) (by decide) (by decide) (by decide) rfl (by rw [hml]; rfl) (lenOf pd_11 rfl) rfl (by show 2 * 0 + _ ≤ _; exact Nat.le_of_eq rfl) (hb hby d5_59) ?_
    intro T3 L3 v X' hq
    obtain ⟨rfl, N', e'⟩ := hq
    replace eT := e'.trans eT
    clear e'
    replace N := Fr.app N N'
    replace X : Stand p l e ({ frames := 5, cells := 0, slots := 0, locals := 80 } : Room) s m #[(.ref g), (.ref a), (.int (0 : Int32))] below meth c T3 _ 0 0 := X'
    clear X' N'
    show own_E p e below Qq T3 (mkF m 62 #[.val (.ref g), .val (.ref a), .val (.int (0 : Int32)), .val (.int (34 : Int32)), .unset] [(.int (if (0 : Int32) = 0 then 3 else 4))])
    refine own_st (fun _ => XS.istore X.here hx rfl (hb hby d5_62) rfl (l' := #[.val (.ref g), .val (.ref a), .val (.int (0 : Int32)), .val (.int (34 : Int32)), .val (.int (if (0 : Int32) = 0 then 3 else 4))]) rfl) ?_
    show own_E p e below Qq T3 (mkF m 64 #[.val (.ref g), .val (.ref a), .val (.int (0 : Int32)), .val (.int (34 : Int32)), .val (.int (if (0 : Int32) = 0 then 3 else 4))] [])
    refine own_st (fun _ => XS.goto X.here hx rfl (pc0 := 64) (pc' := 90) rfl (hb hby d5_64) (by decide) (by decide)) ?_
    show own_E p e below Qq T3 (mkF m 90 #[.val (.ref g), .val (.ref a), .val (.int (0 : Int32)), .val (.int (34 : Int32)), .val (.int (if (0 : Int32) = 0 then 3 else 4))] [])
    refine own_st (fun _ => XS.iload X.here hx rfl (hb hby d5_90) rfl) ?_
    show own_E p e below Qq T3 (mkF m 92 #[.val (.ref g), .val (.ref a), .val (.int (0 : Int32)), .val (.int (34 : Int32)), .val (.int (if (0 : Int32) = 0 then 3 else 4))] [(.int (if (0 : Int32) = 0 then 3 else 4))])
    rw [← hQ]
    exact own_retI X hx hlk hret (hb hby d5_92) (by decide) (by decide) ⟨by rw [own_le34, if_pos q44]; rfl, N, eT⟩
  · have _ := Nat.zero_le 0
    refine own_st (fun _ => XS.ifNo X.here hx rfl (hb hby d5_44) rfl (XT.i0_eq_f q44)) ?_
    show own_E p e below Qq T2 (mkF m 47 #[.val (.ref g), .val (.ref a), .val (.int (0 : Int32)), .val (.int (34 : Int32)), .unset] [(.int (34 : Int32)), (.int ((0 : Int32) + (1 : Int32))), (.ref a)])
    refine own_st (fun _ => XS.aloadN X.here hx rfl (hb hby d5_47) rfl rfl) ?_
    show own_E p e below Qq T2 (mkF m 48 #[.val (.ref g), .val (.ref a), .val (.int (0 : Int32)), .val (.int (34 : Int32)), .unset] [(.ref g), (.int (34 : Int32)), (.int ((0 : Int32) + (1 : Int32))), (.ref a)])
    obtain ⟨T4, X4, e4, st4⟩ := getF X hx hZ hown (host := "") (Or.inl (hw _ (List.mem_of_getElem? (i := 16) rfl))) Via.refl eT (Gf.2.2) (g := (mkF m 48 #[.val (.ref g), .val (.ref a), .val (.int (0 : Int32)), .val (.int (34 : Int32)), .unset] [(.ref g), (.int (34 : Int32)), (.int ((0 : Int32) + (1 : Int32))), (.ref a)])) rfl rfl (hb hby d5_48)
    refine own_st st4 ?_
    replace eT := e4
    replace X := X4
    clear X4 st4
    show own_E p e below Qq T4 (mkF m 51 #[.val (.ref g), .val (.ref a), .val (.int (0 : Int32)), .val (.int (34 : Int32)), .unset] [(.int an), (.int (34 : Int32)), (.int ((0 : Int32) + (1 : Int32))), (.ref a)])
    by_cases q51 : an = (0 : Int32)
    · have _ := Nat.zero_le 0
      refine own_st (fun _ => XS.ifNo X.here hx rfl (hb hby d5_51) rfl (XT.i0_ne_f q51)) ?_
      show own_E p e below Qq T4 (mkF m 54 #[.val (.ref g), .val (.ref a), .val (.int (0 : Int32)), .val (.int (34 : Int32)), .unset] [(.int (34 : Int32)), (.int ((0 : Int32) + (1 : Int32))), (.ref a)])
      refine own_st (fun _ => XS.iconst X.here hx rfl (hb hby d5_54)) ?_
      show own_E p e below Qq T4 (mkF m 55 #[.val (.ref g), .val (.ref a), .val (.int (0 : Int32)), .val (.int (34 : Int32)), .unset] [(.int (1 : Int32)), (.int (34 : Int32)), (.int ((0 : Int32) + (1 : Int32))), (.ref a)])
      refine own_st (fun _ => XS.goto X.here hx rfl (pc0 := 55) (pc' := 59) rfl (hb hby d5_55) (by decide) (by decide)) ?_
      show own_E p e below Qq T4 (mkF m 59 #[.val (.ref g), .val (.ref a), .val (.int (0 : Int32)), .val (.int (34 : Int32)), .unset] [(.int (1 : Int32)), (.int (34 : Int32)), (.int ((0 : Int32) + (1 : Int32))), (.ref a)])
      refine own_callS X hx hZ hown (hw _ (List.mem_of_getElem? (i := 63) rfl)) (hw _ (List.mem_of_getElem? (i := 64) rfl)) (hw _ (List.mem_of_getElem? (i := 65) rfl)) (hw _ (List.mem_of_getElem? (i := 66) rfl)) (by decide) (W := 0) (argsL := [(.ref a), (.int ((0 : Int32) + (1 : Int32))), (.int (34 : Int32)), (.int (1 : Int32))]) (rest := []) (rm11 l Z a0 hw a (34 : Int32) (1 : Int32) cs fv _ n0 b (own_tr (P := fun h => own_S Z h a b (4 : Int32) [(34 : Int32), 92, (34 : Int32), (34 : Int32)]) eT S) (own_tr (P := fun h => own_C Z h cs fv) eT C) (by decide)) (by decide) (by decide) (by decide) (by decide) rfl (by rw [hml]; rfl) (lenOf pd_11 rfl) rfl (by show 2 * 0 + _ ≤ _; exact Nat.le_of_eq rfl) (hb hby d5_59) ?_
      intro T5 L5 v X' hq
      obtain ⟨rfl, N', e'⟩ := hq
      replace eT := e'.trans eT
      clear e'
      replace N := Fr.app N N'
      replace X : Stand p l e ({ frames := 5, cells := 0, slots := 0, locals := 80 } : Room) s m #[(.ref g), (.ref a), (.int (0 : Int32))] below meth c T5 _ 0 0 := X'
      clear X' N'
      show own_E p e below Qq T5 (mkF m 62 #[.val (.ref g), .val (.ref a), .val (.int (0 : Int32)), .val (.int (34 : Int32)), .unset] [(.int (if (1 : Int32) = 0 then 3 else 4))])
      refine own_st (fun _ => XS.istore X.here hx rfl (hb hby d5_62) rfl (l' := #[.val (.ref g), .val (.ref a), .val (.int (0 : Int32)), .val (.int (34 : Int32)), .val (.int (if (1 : Int32) = 0 then 3 else 4))]) rfl) ?_
      show own_E p e below Qq T5 (mkF m 64 #[.val (.ref g), .val (.ref a), .val (.int (0 : Int32)), .val (.int (34 : Int32)), .val (.int (if (1 : Int32) = 0 then 3 else 4))] [])
      refine own_st (fun _ => XS.goto X.here hx rfl (pc0 := 64) (pc' := 90) rfl (hb hby d5_64) (by decide) (by decide)) ?_
      show own_E p e below Qq T5 (mkF m 90 #[.val (.ref g), .val (.ref a), .val (.int (0 : Int32)), .val (.int (34 : Int32)), .val (.int (if (1 : Int32) = 0 then 3 else 4))] [])
      refine own_st (fun _ => XS.iload X.here hx rfl (hb hby d5_90) rfl) ?_
      show own_E p e below Qq T5 (mkF m 92 #[.val (.ref g), .val (.ref a), .val (.int (0 : Int32)), .val (.int (34 : Int32)), .val (.int (if (1 : Int32) = 0 then 3 else 4))] [(.int (if (1 : Int32) = 0 then 3 else 4))])
      rw [← hQ]
      exact own_retI X hx hlk hret (hb hby d5_92) (by decide) (by decide) ⟨by rw [own_le34, if_neg q44, if_pos q51]; rfl, N, eT⟩
    · have _ := Nat.zero_le 0
      refine own_st (fun _ => XS.ifYes X.here hx rfl (pc0 := 51) (pc' := 58) rfl (hb hby d5_51) rfl (XT.i0_ne_t q51) (by decide) (by decide)) ?_
      show own_E p e below Qq T4 (mkF m 58 #[.val (.ref g), .val (.ref a), .val (.int (0 : Int32)), .val (.int (34 : Int32)), .unset] [(.int (34 : Int32)), (.int ((0 : Int32) + (1 : Int32))), (.ref a)])
      refine own_st (fun _ => XS.iconst X.here hx rfl (hb hby d5_58)) ?_
      show own_E p e below Qq T4 (mkF m 59 #[.val (.ref g), .val (.ref a), .val (.int (0 : Int32)), .val (.int (34 : Int32)), .unset] [(.int (0 : Int32)), (.int (34 : Int32)), (.int ((0 : Int32) + (1 : Int32))), (.ref a)])
      refine own_callS X hx hZ hown (hw _ (List.mem_of_getElem? (i := 63) rfl)) (hw _ (List.mem_of_getElem? (i := 64) rfl)) (hw _ (List.mem_of_getElem? (i := 65) rfl)) (hw _ (List.mem_of_getElem? (i := 66) rfl)) (by decide) (W := 0) (argsL := [(.ref a), (.int ((0 : Int32) + (1 : Int32))), (.int (34 : Int32)), (.int (0 : Int32))]) (rest := []) (rm11 l Z a0 hw a (34 : Int32) (0 : Int32) cs fv _ n0 b (own_tr (P := fun h => own_S Z h a b (4 : Int32) [(34 : Int32), 92, (34 : Int32), (34 : Int32)]) eT S) (own_tr (P := fun h => own_C Z h cs fv) eT C) (by decide)) (by decide) (by decide) (by decide) (by decide) rfl (by rw [hml]; rfl) (lenOf pd_11 rfl) rfl (by show 2 * 0 + _ ≤ _; exact Nat.le_of_eq rfl) (hb hby d5_59) ?_
      intro T6 L6 v X' hq
      obtain ⟨rfl, N', e'⟩ := hq
      replace eT := e'.trans eT
      clear e'
      replace N := Fr.app N N'
      replace X : Stand p l e ({ frames := 5, cells := 0, slots := 0, locals := 80 } : Room) s m #[(.ref g), (.ref a), (.int (0 : Int32))] below meth c T6 _ 0 0 := X'
      clear X' N'
      show own_E p e below Qq T6 (mkF m 62 #[.val (.ref g), .val (.ref a), .val (.int (0 : Int32)), .val (.int (34 : Int32)), .unset] [(.int (if (0 : Int32) = 0 then 3 else 4))])
      refine own_st (fun _ => XS.istore X.here hx rfl (hb hby d5_62) rfl (l' := #[.val (.ref g), .val (.ref a), .val (.int (0 : Int32)), .val (.int (34 : Int32)), .val (.int (if (0 : Int32) = 0 then 3 else 4))]) rfl) ?_
      show own_E p e below Qq T6 (mkF m 64 #[.val (.ref g), .val (.ref a), .val (.int (0 : Int32)), .val (.int (34 : Int32)), .val (.int (if (0 : Int32) = 0 then 3 else 4))] [])
      refine own_st (fun _ => XS.goto X.here hx rfl (pc0 := 64) (pc' := 90) rfl (hb hby d5_64) (by decide) (by decide)) ?_
      show own_E p e below Qq T6 (mkF m 90 #[.val (.ref g), .val (.ref a), .val (.int (0 : Int32)), .val (.int (34 : Int32)), .val (.int (if (0 : Int32) = 0 then 3 else 4))] [])
      refine own_st (fun _ => XS.iload X.here hx rfl (hb hby d5_90) rfl) ?_
      show own_E p e below Qq T6 (mkF m 92 #[.val (.ref g), .val (.ref a), .val (.int (0 : Int32)), .val (.int (34 : Int32)), .val (.int (if (0 : Int32) = 0 then 3 else 4))] [(.int (if (0 : Int32) = 0 then 3 else 4))])
      rw [← hQ]
      exact own_retI X hx hlk hret (hb hby d5_92) (by decide) (by decide) ⟨by rw [own_le34, if_neg q44, if_neg q51]; rfl, N, eT⟩
theorem d16_0 : decode jdk_42_method_55_code 0 = .ok (.aload_n 0, 1) := by decide +kernel
theorem d16_1 : decode jdk_42_method_55_code 1 = .ok (.getfield 9, 3) := by decide +kernel
theorem d16_4 : decode jdk_42_method_55_code 4 = .ok (.arraylength, 1) := by decide +kernel
theorem d16_5 : decode jdk_42_method_55_code 5 = .ok (.ifCond .ne 7, 3) := by decide +kernel
theorem d16_8 : decode jdk_42_method_55_code 8 = .ok (.iconst 1, 1) := by decide +kernel
theorem d16_9 : decode jdk_42_method_55_code 9 = .ok (.goto 4, 3) := by decide +kernel
theorem d16_12 : decode jdk_42_method_55_code 12 = .ok (.iconst 0, 1) := by decide +kernel
theorem d16_13 : decode jdk_42_method_55_code 13 = .ok (.ireturn, 1) := by decide +kernel
theorem ef_rm16 (m : MethodId) (a : Addr) : entryFrame m #[(.ref a)] 1 = (mkF m 0 #[.val (.ref a)] []) := by first | (simp [entryFrame, mkF, argsToLocals, Value.category, maxLocals]; done) | rfl
set_option maxRecDepth 65536 in
set_option maxHeartbeats 40000000 in
theorem rm16 (l : Launch) (Z : State) (a0 : Array Value) (hw : ∀ d ∈ tables_1, d.before a0 Z = true) (a : Addr) (cs : Int32) (fv : Value) (h0 : Heap) (n0 : Nat) (b : Addr) (z : Int32) (t : List Int32) (S : own_S Z h0 a b z t) (C : own_C Z h0 cs fv) :
    own_M l Z (⟨"java/lang/String", "isEmpty", "()Z"⟩ : MethodName) jdk_42_method_55_code 1 (some .boolean) ({ frames := 0, cells := 0, slots := 0, locals := 0 } : Room) #[(.ref a)] h0 (fun v h L => v = some (.int (if z = 0 then 1 else 0)) ∧ Fr n0 L ∧ h = h0) := by
  refine own_body pn_9 ?_
  intro p e s m below meth c T hx hby hml hown hZ hret hlk hnm X eT
  have N := Fr.nil n0
  generalize hQ : own_Q s (fun v h L => v = some (.int (if z = 0 then 1 else 0)) ∧ Fr n0 L ∧ h = h0) ({ frames := 0, cells := 0, slots := 0, locals := 0 } : Room).cells ({ frames := 0, cells := 0, slots := 0, locals := 0 } : Room).slots = Qq
  refine own_st (fun _ k => castTop (ef_rm16 m a) k) ?_
  show own_E p e below Qq T (mkF m 0 #[.val (.ref a)] [])
  refine own_st (fun _ => XS.aloadN X.here hx rfl (hb hby d16_0) rfl rfl) ?_
  show own_E p e below Qq T (mkF m 1 #[.val (.ref a)] [(.ref a)])
  obtain ⟨T1, X1, e1, st1⟩ := getF X hx hZ hown (host := "") (Or.inl (hw _ (List.mem_of_getElem? (i := 50) rfl))) Via.refl eT (S.2.2.1) (g := (mkF m 1 #[.val (.ref a)] [(.ref a)])) rfl rfl (hb hby d16_1)
  refine own_st st1 ?_
  replace eT := e1
  replace X := X1
  clear X1 st1
  show own_E p e below Qq T1 (mkF m 4 #[.val (.ref a)] [(.ref b)])
  refine own_st (fun _ hr => own_blen (g := (mkF m 4 #[.val (.ref a)] [(.ref b)])) X hx hZ eT (S.2.2.2) rfl rfl (hb hby d16_4) hr) ?_
  show own_E p e below Qq T1 (mkF m 5 #[.val (.ref a)] [(.int z)])
  by_cases q5 : z = (0 : Int32)
  · have _ := Nat.zero_le 0
    refine own_st (fun _ => XS.ifNo X.here hx rfl (hb hby d16_5) rfl (XT.i0_ne_f q5)) ?_
    show own_E p e below Qq T1 (mkF m 8 #[.val (.ref a)] [])
    refine own_st (fun _ => XS.iconst X.here hx rfl (hb hby d16_8)) ?_
    show own_E p e below Qq T1 (mkF m 9 #[.val (.ref a)] [(.int (1 : Int32))])
    refine own_st (fun _ => XS.goto X.here hx rfl (pc0 := 9) (pc' := 13) rfl (hb hby d16_9) (by decide) (by decide)) ?_
    show own_E p e below Qq T1 (mkF m 13 #[.val (.ref a)] [(.int (1 : Int32))])
    rw [← hQ]
    exact own_retN X hx hlk (t := .boolean) hret (by simp) (hb hby d16_13) (by decide) (by decide) ⟨by rw [if_pos q5]; rfl, N, eT⟩
  · have _ := Nat.zero_le 0
    refine own_st (fun _ => XS.ifYes X.here hx rfl (pc0 := 5) (pc' := 12) rfl (hb hby d16_5) rfl (XT.i0_ne_t q5) (by decide) (by decide)) ?_
    show own_E p e below Qq T1 (mkF m 12 #[.val (.ref a)] [])
    refine own_st (fun _ => XS.iconst X.here hx rfl (hb hby d16_12)) ?_
    show own_E p e below Qq T1 (mkF m 13 #[.val (.ref a)] [(.int (0 : Int32))])
    rw [← hQ]
    exact own_retN X hx hlk (t := .boolean) hret (by simp) (hb hby d16_13) (by decide) (by decide) ⟨by rw [if_neg q5]; rfl, N, eT⟩
theorem own_b01 {P : Prop} [Decidable P] (q : ¬ (if P then (1 : Int32) else 0) = 0) : (if P then (1 : Int32) else 0) = 1 := if h : P then if_pos h else absurd (if_neg h) q
theorem own_nn {x : Int32} (h : 0 ≤ x.toInt) : ¬ x < 0 := by rw [Int32.lt_iff_toInt_lt]; exact Int.not_lt.mpr h
theorem own_d1 : (1 : Int32).toInt = 1 := rfl
theorem own_lp {i z : Int32} {n : Nat} (h : 0 ≤ i.toInt ∧ z.toInt - i.toInt < ((n + 1 : Nat) : Int)) (q : i < z) : 0 ≤ (i + 1).toInt ∧ z.toInt - (i + 1).toInt < (n : Int) := by
  rw [Int32.lt_iff_toInt_lt] at q
  have := c_iadd i 1; have := rng32 (i + 1); have := rng32 z; have := own_d1; omega
theorem own_l0 (z : Int32) : 0 ≤ (0 : Int32).toInt ∧ z.toInt - (0 : Int32).toInt < ((4294967296 : Nat) : Int) := by
  have := rng32 z; have d : (0 : Int32).toInt = 0 := rfl; omega
theorem own_lz {i z : Int32} (h : 0 ≤ i.toInt ∧ z.toInt - i.toInt < ((0 : Nat) : Int)) : ¬ i < z := by rw [Int32.lt_iff_toInt_lt]; omega
theorem pd_15 : parseMethodDescriptor "([B[B)Z" = some ⟨[(.array .byte), (.array .byte)], some .boolean⟩ := by decide +kernel
theorem d15_0 : decode jdk_43_method_13_code 0 = .ok (.aload_n 0, 1) := by decide +kernel
theorem d15_1 : decode jdk_43_method_13_code 1 = .ok (.arraylength, 1) := by decide +kernel
theorem d15_2 : decode jdk_43_method_13_code 2 = .ok (.aload_n 1, 1) := by decide +kernel
theorem d15_3 : decode jdk_43_method_13_code 3 = .ok (.arraylength, 1) := by decide +kernel
theorem d15_4 : decode jdk_43_method_13_code 4 = .ok (.if_icmp .ne 30, 3) := by decide +kernel
theorem d15_7 : decode jdk_43_method_13_code 7 = .ok (.iconst 0, 1) := by decide +kernel
theorem d15_8 : decode jdk_43_method_13_code 8 = .ok (.istore_n 2, 1) := by decide +kernel
theorem d15_9 : decode jdk_43_method_13_code 9 = .ok (.iload_n 2, 1) := by decide +kernel
theorem d15_10 : decode jdk_43_method_13_code 10 = .ok (.aload_n 0, 1) := by decide +kernel
theorem d15_11 : decode jdk_43_method_13_code 11 = .ok (.arraylength, 1) := by decide +kernel
theorem d15_12 : decode jdk_43_method_13_code 12 = .ok (.if_icmp .ge 20, 3) := by decide +kernel
theorem d15_15 : decode jdk_43_method_13_code 15 = .ok (.aload_n 0, 1) := by decide +kernel
theorem d15_16 : decode jdk_43_method_13_code 16 = .ok (.iload_n 2, 1) := by decide +kernel
theorem d15_17 : decode jdk_43_method_13_code 17 = .ok (.baload, 1) := by decide +kernel
theorem d15_18 : decode jdk_43_method_13_code 18 = .ok (.aload_n 1, 1) := by decide +kernel
theorem d15_19 : decode jdk_43_method_13_code 19 = .ok (.iload_n 2, 1) := by decide +kernel
theorem d15_20 : decode jdk_43_method_13_code 20 = .ok (.baload, 1) := by decide +kernel
theorem d15_21 : decode jdk_43_method_13_code 21 = .ok (.if_icmp .eq 5, 3) := by decide +kernel
theorem d15_24 : decode jdk_43_method_13_code 24 = .ok (.iconst 0, 1) := by decide +kernel
theorem d15_25 : decode jdk_43_method_13_code 25 = .ok (.ireturn, 1) := by decide +kernel
theorem d15_26 : decode jdk_43_method_13_code 26 = .ok (.iinc 2 1, 3) := by decide +kernel
theorem d15_29 : decode jdk_43_method_13_code 29 = .ok (.goto (-20), 3) := by decide +kernel
theorem d15_32 : decode jdk_43_method_13_code 32 = .ok (.iconst 1, 1) := by decide +kernel
theorem d15_33 : decode jdk_43_method_13_code 33 = .ok (.ireturn, 1) := by decide +kernel
theorem d15_34 : decode jdk_43_method_13_code 34 = .ok (.iconst 0, 1) := by decide +kernel
theorem d15_35 : decode jdk_43_method_13_code 35 = .ok (.ireturn, 1) := by decide +kernel
theorem ef_rm15 (m : MethodId) (b1 b2 : Addr) : entryFrame m #[(.ref b1), (.ref b2)] 3 = (mkF m 0 #[.val (.ref b1), .val (.ref b2), .unset] []) := by first | (simp [entryFrame, mkF, argsToLocals, Value.category, maxLocals]; done) | rfl
set_option maxRecDepth 65536 in
set_option maxHeartbeats 40000000 in
theorem rm15 (l : Launch) (Z : State) (a0 : Array Value) (hw : ∀ d ∈ tables_1, d.before a0 Z = true) (b1 b2 : Addr) (cs : Int32) (fv : Value) (h0 : Heap) (n0 : Nat) (z1 z2 : Int32) (t1 t2 : List Int32) (B1 : own_B Z h0 b1 z1 t1) (B2 : own_B Z h0 b2 z2 t2) (ht : z1 = z2 → t1 = t2) :
    own_M l Z (⟨"java/lang/StringLatin1", "equals", "([B[B)Z"⟩ : MethodName) jdk_43_method_13_code 3 (some .boolean) ({ frames := 0, cells := 0, slots := 0, locals := 0 } : Room) #[(.ref b1), (.ref b2)] h0 (fun v h L => v = some (.int (if z1 = z2 then 1 else 0)) ∧ Fr n0 L ∧ h = h0) := by
  refine own_body pn_8 ?_
  intro p e s m below meth c T hx hby hml hown hZ hret hlk hnm X eT
  have N := Fr.nil n0
  generalize hQ : own_Q s (fun v h L => v = some (.int (if z1 = z2 then 1 else 0)) ∧ Fr n0 L ∧ h = h0) ({ frames := 0, cells := 0, slots := 0, locals := 0 } : Room).cells ({ frames := 0, cells := 0, slots := 0, locals := 0 } : Room).slots = Qq
  refine own_st (fun _ k => castTop (ef_rm15 m b1 b2) k) ?_
  show own_E p e below Qq T (mkF m 0 #[.val (.ref b1), .val (.ref b2), .unset] [])
  refine own_st (fun _ => XS.aloadN X.here hx rfl (hb hby d15_0) rfl rfl) ?_
  show own_E p e below Qq T (mkF m 1 #[.val (.ref b1), .val (.ref b2), .unset] [(.ref b1)])
  refine own_st (fun _ hr => own_blen (g := (mkF m 1 #[.val (.ref b1), .val (.ref b2), .unset] [(.ref b1)])) X hx hZ eT (B1) rfl rfl (hb hby d15_1) hr) ?_
  show own_E p e below Qq T (mkF m 2 #[.val (.ref b1), .val (.ref b2), .unset] [(.int z1)])
  refine own_st (fun _ => XS.aloadN X.here hx rfl (hb hby d15_2) rfl rfl) ?_
  show own_E p e below Qq T (mkF m 3 #[.val (.ref b1), .val (.ref b2), .unset] [(.ref b2), (.int z1)])
  refine own_st (fun _ hr => own_blen (g := (mkF m 3 #[.val (.ref b1), .val (.ref b2), .unset] [(.ref b2), (.int z1)])) X hx hZ eT (B2) rfl rfl (hb hby d15_3) hr) ?_
  show own_E p e below Qq T (mkF m 4 #[.val (.ref b1), .val (.ref b2), .unset] [(.int z2), (.int z1)])
  by_cases q4 : z1 = z2
  · have _ := Nat.zero_le 0
    refine own_st (fun _ => XS.icmpNo X.here hx rfl (hb hby d15_4) rfl (XT.ii_ne_f q4)) ?_
    show own_E p e below Qq T (mkF m 7 #[.val (.ref b1), .val (.ref b2), .unset] [])
    subst q4
    obtain rfl := ht rfl
    have K9 : ∀ (n : Nat) (i : Int32), 0 ≤ i.toInt ∧ z1.toInt - i.toInt < (n : Int) → own_E p e below Qq T (mkF m 9 #[.val (.ref b1), .val (.ref b2), .val (.int i)] []) := by
      intro n
      induction n with
      | zero =>
        intro i hI
        refine own_st (fun _ => XS.iloadN X.here hx rfl (hb hby d15_9) rfl) ?_
        show own_E p e below Qq T (mkF m 10 #[.val (.ref b1), .val (.ref b2), .val (.int i)] [(.int i)])
        refine own_st (fun _ => XS.aloadN X.here hx rfl (hb hby d15_10) rfl rfl) ?_
        show own_E p e below Qq T (mkF m 11 #[.val (.ref b1), .val (.ref b2), .val (.int i)] [(.ref b1), (.int i)])
        refine own_st (fun _ hr => own_blen (g := (mkF m 11 #[.val (.ref b1), .val (.ref b2), .val (.int i)] [(.ref b1), (.int i)])) X hx hZ eT (B1) rfl rfl (hb hby d15_11) hr) ?_
        show own_E p e below Qq T (mkF m 12 #[.val (.ref b1), .val (.ref b2), .val (.int i)] [(.int z1), (.int i)])
        refine own_st (fun _ => XS.icmpYes X.here hx rfl (pc0 := 12) (pc' := 32) rfl (hb hby d15_12) rfl (XT.ii_ge_t (own_lz hI)) (by decide) (by decide)) ?_
        show own_E p e below Qq T (mkF m 32 #[.val (.ref b1), .val (.ref b2), .val (.int i)] [])
        refine own_st (fun _ => XS.iconst X.here hx rfl (hb hby d15_32)) ?_
        show own_E p e below Qq T (mkF m 33 #[.val (.ref b1), .val (.ref b2), .val (.int i)] [(.int (1 : Int32))])
        rw [← hQ]
        exact own_retN X hx hlk (t := .boolean) hret (by simp) (hb hby d15_33) (by decide) (by decide) ⟨by rw [if_pos rfl]; rfl, N, eT⟩
      | succ n ih =>
        intro i hI
        refine own_st (fun _ => XS.iloadN X.here hx rfl (hb hby d15_9) rfl) ?_
        show own_E p e below Qq T (mkF m 10 #[.val (.ref b1), .val (.ref b2), .val (.int i)] [(.int i)])
        refine own_st (fun _ => XS.aloadN X.here hx rfl (hb hby d15_10) rfl rfl) ?_
        show own_E p e below Qq T (mkF m 11 #[.val (.ref b1), .val (.ref b2), .val (.int i)] [(.ref b1), (.int i)])
        refine own_st (fun _ hr => own_blen (g := (mkF m 11 #[.val (.ref b1), .val (.ref b2), .val (.int i)] [(.ref b1), (.int i)])) X hx hZ eT (B1) rfl rfl (hb hby d15_11) hr) ?_
        show own_E p e below Qq T (mkF m 12 #[.val (.ref b1), .val (.ref b2), .val (.int i)] [(.int z1), (.int i)])
        by_cases q12 : i < z1
        · have _ := Nat.zero_le 0
          refine own_st (fun _ => XS.icmpNo X.here hx rfl (hb hby d15_12) rfl (XT.ii_ge_f q12)) ?_
          show own_E p e below Qq T (mkF m 15 #[.val (.ref b1), .val (.ref b2), .val (.int i)] [])
          refine own_st (fun _ => XS.aloadN X.here hx rfl (hb hby d15_15) rfl rfl) ?_
          show own_E p e below Qq T (mkF m 16 #[.val (.ref b1), .val (.ref b2), .val (.int i)] [(.ref b1)])
          refine own_st (fun _ => XS.iloadN X.here hx rfl (hb hby d15_16) rfl) ?_
          show own_E p e below Qq T (mkF m 17 #[.val (.ref b1), .val (.ref b2), .val (.int i)] [(.int i), (.ref b1)])
          refine own_st (fun _ hr => own_bload (g := (mkF m 17 #[.val (.ref b1), .val (.ref b2), .val (.int i)] [(.int i), (.ref b1)])) X hx hZ eT (B1) (i := i) ⟨own_nn hI.1, q12⟩ rfl rfl (hb hby d15_17) hr) ?_
          show own_E p e below Qq T (mkF m 18 #[.val (.ref b1), .val (.ref b2), .val (.int i)] [(.int (t1.getD (i).toNatClampNeg 0))])
          refine own_st (fun _ => XS.aloadN X.here hx rfl (hb hby d15_18) rfl rfl) ?_
          show own_E p e below Qq T (mkF m 19 #[.val (.ref b1), .val (.ref b2), .val (.int i)] [(.ref b2), (.int (t1.getD (i).toNatClampNeg 0))])
          refine own_st (fun _ => XS.iloadN X.here hx rfl (hb hby d15_19) rfl) ?_
          show own_E p e below Qq T (mkF m 20 #[.val (.ref b1), .val (.ref b2), .val (.int i)] [(.int i), (.ref b2), (.int (t1.getD (i).toNatClampNeg 0))])
          refine own_st (fun _ hr => own_bload (g := (mkF m 20 #[.val (.ref b1), .val (.ref b2), .val (.int i)] [(.int i), (.ref b2), (.int (t1.getD (i).toNatClampNeg 0))])) X hx hZ eT (B2) (i := i) ⟨own_nn hI.1, q12⟩ rfl rfl (hb hby d15_20) hr) ?_
          show own_E p e below Qq T (mkF m 21 #[.val (.ref b1), .val (.ref b2), .val (.int i)] [(.int (t1.getD (i).toNatClampNeg 0)), (.int (t1.getD (i).toNatClampNeg 0))])
          refine own_st (fun _ => XS.icmpYes X.here hx rfl (pc0 := 21) (pc' := 26) rfl (hb hby d15_21) rfl (XT.ii_eq_t rfl) (by decide) (by decide)) ?_
          show own_E p e below Qq T (mkF m 26 #[.val (.ref b1), .val (.ref b2), .val (.int i)] [])
          refine own_st (fun _ => XS.iinc X.here hx rfl (hb hby d15_26) rfl (l' := #[.val (.ref b1), .val (.ref b2), .val (.int (i + (1 : Int32)))]) rfl) ?_
          show own_E p e below Qq T (mkF m 29 #[.val (.ref b1), .val (.ref b2), .val (.int (i + (1 : Int32)))] [])
          refine own_st (fun _ => XS.goto X.here hx rfl (pc0 := 29) (pc' := 9) rfl (hb hby d15_29) (by decide) (by decide)) ?_
          show own_E p e below Qq T (mkF m 9 #[.val (.ref b1), .val (.ref b2), .val (.int (i + (1 : Int32)))] [])
          exact ih _ (own_lp hI q12)
        · have _ := Nat.zero_le 0
          refine own_st (fun _ => XS.icmpYes X.here hx rfl (pc0 := 12) (pc' := 32) rfl (hb hby d15_12) rfl (XT.ii_ge_t q12) (by decide) (by decide)) ?_
          show own_E p e below Qq T (mkF m 32 #[.val (.ref b1), .val (.ref b2), .val (.int i)] [])
          refine own_st (fun _ => XS.iconst X.here hx rfl (hb hby d15_32)) ?_
          show own_E p e below Qq T (mkF m 33 #[.val (.ref b1), .val (.ref b2), .val (.int i)] [(.int (1 : Int32))])
          rw [← hQ]
          exact own_retN X hx hlk (t := .boolean) hret (by simp) (hb hby d15_33) (by decide) (by decide) ⟨by rw [if_pos rfl]; rfl, N, eT⟩
    refine own_st (fun _ => XS.iconst X.here hx rfl (hb hby d15_7)) ?_
    show own_E p e below Qq T (mkF m 8 #[.val (.ref b1), .val (.ref b2), .unset] [(.int (0 : Int32))])
    refine own_st (fun _ => XS.istoreN X.here hx rfl (hb hby d15_8) rfl (l' := #[.val (.ref b1), .val (.ref b2), .val (.int (0 : Int32))]) rfl) ?_
    show own_E p e below Qq T (mkF m 9 #[.val (.ref b1), .val (.ref b2), .val (.int (0 : Int32))] [])
    exact K9 4294967296 _ (own_l0 z1)
  · have _ := Nat.zero_le 0
    refine own_st (fun _ => XS.icmpYes X.here hx rfl (pc0 := 4) (pc' := 34) rfl (hb hby d15_4) rfl (XT.ii_ne_t q4) (by decide) (by decide)) ?_
    show own_E p e below Qq T (mkF m 34 #[.val (.ref b1), .val (.ref b2), .unset] [])
    refine own_st (fun _ => XS.iconst X.here hx rfl (hb hby d15_34)) ?_
    show own_E p e below Qq T (mkF m 35 #[.val (.ref b1), .val (.ref b2), .unset] [(.int (0 : Int32))])
    rw [← hQ]
    exact own_retN X hx hlk (t := .boolean) hret (by simp) (hb hby d15_35) (by decide) (by decide) ⟨by rw [if_neg q4]; rfl, N, eT⟩
theorem own_trA {P : Addr → Prop} {x y : Addr} (q : x = y) (i : P y) : P x := q ▸ i
theorem pd_14 : parseMethodDescriptor "(Ljava/lang/Object;)Z" = some ⟨[(.object "java/lang/Object")], some .boolean⟩ := by decide +kernel
theorem d14_0 : decode jdk_42_method_66_code 0 = .ok (.aload_n 0, 1) := by decide +kernel
theorem d14_1 : decode jdk_42_method_66_code 1 = .ok (.aload_n 1, 1) := by decide +kernel
theorem d14_2 : decode jdk_42_method_66_code 2 = .ok (.if_acmp .ne 5, 3) := by decide +kernel
theorem d14_5 : decode jdk_42_method_66_code 5 = .ok (.iconst 1, 1) := by decide +kernel
theorem d14_6 : decode jdk_42_method_66_code 6 = .ok (.ireturn, 1) := by decide +kernel
theorem d14_7 : decode jdk_42_method_66_code 7 = .ok (.aload_n 1, 1) := by decide +kernel
theorem d14_8 : decode jdk_42_method_66_code 8 = .ok (.instanceof 10, 3) := by decide +kernel
theorem d14_11 : decode jdk_42_method_66_code 11 = .ok (.ifCond .eq 43, 3) := by decide +kernel
theorem d14_14 : decode jdk_42_method_66_code 14 = .ok (.aload_n 1, 1) := by decide +kernel
theorem d14_15 : decode jdk_42_method_66_code 15 = .ok (.checkcast 10, 3) := by decide +kernel
theorem d14_18 : decode jdk_42_method_66_code 18 = .ok (.astore_n 2, 1) := by decide +kernel
theorem d14_19 : decode jdk_42_method_66_code 19 = .ok (.getstatic 38, 3) := by decide +kernel
theorem d14_22 : decode jdk_42_method_66_code 22 = .ok (.ifCond .eq 14, 3) := by decide +kernel
theorem d14_25 : decode jdk_42_method_66_code 25 = .ok (.aload_n 0, 1) := by decide +kernel
theorem d14_26 : decode jdk_42_method_66_code 26 = .ok (.getfield 15, 3) := by decide +kernel
theorem d14_29 : decode jdk_42_method_66_code 29 = .ok (.aload_n 2, 1) := by decide +kernel
theorem d14_30 : decode jdk_42_method_66_code 30 = .ok (.getfield 15, 3) := by decide +kernel
theorem d14_33 : decode jdk_42_method_66_code 33 = .ok (.if_icmp .ne 21, 3) := by decide +kernel
theorem d14_36 : decode jdk_42_method_66_code 36 = .ok (.aload_n 0, 1) := by decide +kernel
theorem d14_37 : decode jdk_42_method_66_code 37 = .ok (.getfield 9, 3) := by decide +kernel
theorem d14_40 : decode jdk_42_method_66_code 40 = .ok (.aload_n 2, 1) := by decide +kernel
theorem d14_41 : decode jdk_42_method_66_code 41 = .ok (.getfield 9, 3) := by decide +kernel
theorem d14_44 : decode jdk_42_method_66_code 44 = .ok (.invokestatic 541, 3) := by decide +kernel
theorem d14_47 : decode jdk_42_method_66_code 47 = .ok (.ifCond .eq 7, 3) := by decide +kernel
theorem d14_50 : decode jdk_42_method_66_code 50 = .ok (.iconst 1, 1) := by decide +kernel
theorem d14_51 : decode jdk_42_method_66_code 51 = .ok (.goto 4, 3) := by decide +kernel
theorem d14_54 : decode jdk_42_method_66_code 54 = .ok (.iconst 0, 1) := by decide +kernel
theorem d14_55 : decode jdk_42_method_66_code 55 = .ok (.ireturn, 1) := by decide +kernel
theorem ef_rm14 (m : MethodId) (a1 a2 : Addr) : entryFrame m #[(.ref a1), (.ref a2)] 3 = (mkF m 0 #[.val (.ref a1), .val (.ref a2), .unset] []) := by first | (simp [entryFrame, mkF, argsToLocals, Value.category, maxLocals]; done) | rfl
set_option maxRecDepth 65536 in
set_option maxHeartbeats 40000000 in
theorem rm14 (l : Launch) (Z : State) (a0 : Array Value) (hw : ∀ d ∈ tables_1, d.before a0 Z = true) (a1 a2 : Addr) (cs : Int32) (fv : Value) (h0 : Heap) (n0 : Nat) (b1 b2 : Addr) (z1 z2 : Int32) (t1 t2 : List Int32) (S1 : own_S Z h0 a1 b1 z1 t1) (S2 : own_S Z h0 a2 b2 z2 t2) (C : own_C Z h0 cs fv) (ht : z1 = z2 → t1 = t2) :
    own_M l Z (⟨"java/lang/String", "equals", "(Ljava/lang/Object;)Z"⟩ : MethodName) jdk_42_method_66_code 3 (some .boolean) ({ frames := 1, cells := 0, slots := 0, locals := 16 } : Room) #[(.ref a1), (.ref a2)] h0 (fun v h L => v = some (.int (if z1 = z2 then 1 else 0)) ∧ Fr n0 L ∧ h = h0) := by
  refine own_body pn_9 ?_
  intro p e s m below meth c T hx hby hml hown hZ hret hlk hnm X eT
  have N := Fr.nil n0
  generalize hQ : own_Q s (fun v h L => v = some (.int (if z1 = z2 then 1 else 0)) ∧ Fr n0 L ∧ h = h0) ({ frames := 1, cells := 0, slots := 0, locals := 16 } : Room).cells ({ frames := 1, cells := 0, slots := 0, locals := 16 } : Room).slots = Qq
  refine own_st (fun _ k => castTop (ef_rm14 m a1 a2) k) ?_
  show own_E p e below Qq T (mkF m 0 #[.val (.ref a1), .val (.ref a2), .unset] [])
  refine own_st (fun _ => XS.aloadN X.here hx rfl (hb hby d14_0) rfl rfl) ?_
  show own_E p e below Qq T (mkF m 1 #[.val (.ref a1), .val (.ref a2), .unset] [(.ref a1)])
  refine own_st (fun _ => XS.aloadN X.here hx rfl (hb hby d14_1) rfl rfl) ?_
  show own_E p e below Qq T (mkF m 2 #[.val (.ref a1), .val (.ref a2), .unset] [(.ref a2), (.ref a1)])
  by_cases q2 : ((.ref a1) : Value) = (.ref a2)
  · have _ := Nat.zero_le 0
    refine own_st (fun _ => XT.acmpNo X.here hx rfl (hb hby d14_2) rfl rfl rfl (XT.aa_ne_f q2)) ?_
    show own_E p e below Qq T (mkF m 5 #[.val (.ref a1), .val (.ref a2), .unset] [])
    refine own_st (fun _ => XS.iconst X.here hx rfl (hb hby d14_5)) ?_
    show own_E p e below Qq T (mkF m 6 #[.val (.ref a1), .val (.ref a2), .unset] [(.int (1 : Int32))])
    rw [← hQ]
    exact own_retN X hx hlk (t := .boolean) hret (by simp) (hb hby d14_6) (by decide) (by decide) ⟨by rw [if_pos (own_Sz S1 (own_trA (P := fun a => own_S Z h0 a b2 z2 t2) (Value.ref.inj q2) S2))]; rfl, N, eT⟩
  · have _ := Nat.zero_le 0
    refine own_st (fun _ => XT.acmpYes X.here hx rfl (pc0 := 2) (pc' := 7) rfl (hb hby d14_2) rfl rfl rfl (XT.aa_ne_t q2) (by decide) (by decide)) ?_
    show own_E p e below Qq T (mkF m 7 #[.val (.ref a1), .val (.ref a2), .unset] [])
    refine own_st (fun _ => XS.aloadN X.here hx rfl (hb hby d14_7) rfl rfl) ?_
    show own_E p e below Qq T (mkF m 8 #[.val (.ref a1), .val (.ref a2), .unset] [(.ref a2)])
    obtain ⟨T1, X1, e1, st1⟩ := instY X hx hZ hown (hw _ (List.mem_of_getElem? (i := 84) rfl)) eT (Ins.self S2.1) (g := (mkF m 8 #[.val (.ref a1), .val (.ref a2), .unset] [(.ref a2)])) rfl rfl (hb hby d14_8)
    refine own_st st1 ?_
    replace eT := e1
    replace X := X1
    clear X1 st1
    show own_E p e below Qq T1 (mkF m 11 #[.val (.ref a1), .val (.ref a2), .unset] [(.int (1 : Int32))])
    refine own_st (fun _ => XS.ifNo X.here hx rfl (hb hby d14_11) rfl (XT.i0_eq_f (by decide))) ?_
    show own_E p e below Qq T1 (mkF m 14 #[.val (.ref a1), .val (.ref a2), .unset] [])
    refine own_st (fun _ => XS.aloadN X.here hx rfl (hb hby d14_14) rfl rfl) ?_
    show own_E p e below Qq T1 (mkF m 15 #[.val (.ref a1), .val (.ref a2), .unset] [(.ref a2)])
    obtain ⟨T2, X2, e2, st2⟩ := castY X hx hZ hown (hw _ (List.mem_of_getElem? (i := 84) rfl)) eT (Ins.self S2.1) (g := (mkF m 15 #[.val (.ref a1), .val (.ref a2), .unset] [(.ref a2)])) rfl rfl (hb hby d14_15)
    refine own_st st2 ?_
    replace eT := e2
    replace X := X2
    clear X2 st2
    show own_E p e below Qq T2 (mkF m 18 #[.val (.ref a1), .val (.ref a2), .unset] [(.ref a2)])
    refine own_st (fun _ => XS.astoreN X.here hx rfl (hb hby d14_18) rfl rfl (l' := #[.val (.ref a1), .val (.ref a2), .val (.ref a2)]) rfl) ?_
    show own_E p e below Qq T2 (mkF m 19 #[.val (.ref a1), .val (.ref a2), .val (.ref a2)] [])
    obtain ⟨T3, X3, e3, st3⟩ := getS X hx hZ hown (hw _ (List.mem_of_getElem? (i := 48) rfl)) Via.refl eT (C.1) (host := "") (g := (mkF m 19 #[.val (.ref a1), .val (.ref a2), .val (.ref a2)] [])) rfl (hb hby d14_19)
    refine own_st st3 ?_
    replace eT := e3
    replace X := X3
    clear X3 st3
    show own_E p e below Qq T3 (mkF m 22 #[.val (.ref a1), .val (.ref a2), .val (.ref a2)] [(.int cs)])
    refine own_st (fun _ => XS.ifNo X.here hx rfl (hb hby d14_22) rfl (XT.i0_eq_f C.2.1)) ?_
    show own_E p e below Qq T3 (mkF m 25 #[.val (.ref a1), .val (.ref a2), .val (.ref a2)] [])
    refine own_st (fun _ => XS.aloadN X.here hx rfl (hb hby d14_25) rfl rfl) ?_
    show own_E p e below Qq T3 (mkF m 26 #[.val (.ref a1), .val (.ref a2), .val (.ref a2)] [(.ref a1)])
    obtain ⟨T4, X4, e4, st4⟩ := getF X hx hZ hown (host := "") (Or.inl (hw _ (List.mem_of_getElem? (i := 49) rfl))) Via.refl eT (S1.2.1) (g := (mkF m 26 #[.val (.ref a1), .val (.ref a2), .val (.ref a2)] [(.ref a1)])) rfl rfl (hb hby d14_26)
    refine own_st st4 ?_
    replace eT := e4
    replace X := X4
    clear X4 st4
    show own_E p e below Qq T4 (mkF m 29 #[.val (.ref a1), .val (.ref a2), .val (.ref a2)] [(.int (0 : Int32))])
    refine own_st (fun _ => XS.aloadN X.here hx rfl (hb hby d14_29) rfl rfl) ?_
    show own_E p e below Qq T4 (mkF m 30 #[.val (.ref a1), .val (.ref a2), .val (.ref a2)] [(.ref a2), (.int (0 : Int32))])
    obtain ⟨T5, X5, e5, st5⟩ := getF X hx hZ hown (host := "") (Or.inl (hw _ (List.mem_of_getElem? (i := 49) rfl))) Via.refl eT (S2.2.1) (g := (mkF m 30 #[.val (.ref a1), .val (.ref a2), .val (.ref a2)] [(.ref a2), (.int (0 : Int32))])) rfl rfl (hb hby d14_30)
    refine own_st st5 ?_
    replace eT := e5
    replace X := X5
    clear X5 st5
    show own_E p e below Qq T5 (mkF m 33 #[.val (.ref a1), .val (.ref a2), .val (.ref a2)] [(.int (0 : Int32)), (.int (0 : Int32))])
    refine own_st (fun _ => XS.icmpNo X.here hx rfl (hb hby d14_33) rfl (XT.ii_ne_f rfl)) ?_
    show own_E p e below Qq T5 (mkF m 36 #[.val (.ref a1), .val (.ref a2), .val (.ref a2)] [])
    refine own_st (fun _ => XS.aloadN X.here hx rfl (hb hby d14_36) rfl rfl) ?_
    show own_E p e below Qq T5 (mkF m 37 #[.val (.ref a1), .val (.ref a2), .val (.ref a2)] [(.ref a1)])
    obtain ⟨T6, X6, e6, st6⟩ := getF X hx hZ hown (host := "") (Or.inl (hw _ (List.mem_of_getElem? (i := 50) rfl))) Via.refl eT (S1.2.2.1) (g := (mkF m 37 #[.val (.ref a1), .val (.ref a2), .val (.ref a2)] [(.ref a1)])) rfl rfl (hb hby d14_37)
    refine own_st st6 ?_
    replace eT := e6
    replace X := X6
    clear X6 st6
    show own_E p e below Qq T6 (mkF m 40 #[.val (.ref a1), .val (.ref a2), .val (.ref a2)] [(.ref b1)])
    refine own_st (fun _ => XS.aloadN X.here hx rfl (hb hby d14_40) rfl rfl) ?_
    show own_E p e below Qq T6 (mkF m 41 #[.val (.ref a1), .val (.ref a2), .val (.ref a2)] [(.ref a2), (.ref b1)])
    obtain ⟨T7, X7, e7, st7⟩ := getF X hx hZ hown (host := "") (Or.inl (hw _ (List.mem_of_getElem? (i := 50) rfl))) Via.refl eT (S2.2.2.1) (g := (mkF m 41 #[.val (.ref a1), .val (.ref a2), .val (.ref a2)] [(.ref a2), (.ref b1)])) rfl rfl (hb hby d14_41)
    refine own_st st7 ?_
    replace eT := e7
    replace X := X7
    clear X7 st7
    show own_E p e below Qq T7 (mkF m 44 #[.val (.ref a1), .val (.ref a2), .val (.ref a2)] [(.ref b2), (.ref b1)])
    refine own_callS X hx hZ hown (hw _ (List.mem_of_getElem? (i := 86) rfl)) (hw _ (List.mem_of_getElem? (i := 87) rfl)) (hw _ (List.mem_of_getElem? (i := 53) rfl)) (hw _ (List.mem_of_getElem? (i := 88) rfl)) (by decide) (W := 0) (argsL := [(.ref b1), (.ref b2)]) (rest := []) (rm15 l Z a0 hw b1 b2 cs fv _ n0 z1 z2 t1 t2 (own_tr (P := fun h => own_B Z h b1 z1 t1) eT S1.2.2.2) (own_tr (P := fun h => own_B Z h b2 z2 t2) eT S2.2.2.2) ht) (by decide) (by decide) (by decide) (by decide) rfl (by rw [hml]; rfl) (lenOf pd_15 rfl) rfl (by show 2 * 0 + _ ≤ _; exact Nat.le_of_eq rfl) (hb hby d14_44) ?_
    intro T8 L8 v X' hq
    obtain ⟨rfl, N', e'⟩ := hq
    replace eT := e'.trans eT
    clear e'
    replace N := Fr.app N N'
    replace X : Stand p l e ({ frames := 1, cells := 0, slots := 0, locals := 16 } : Room) s m #[(.ref a1), (.ref a2)] below meth c T8 _ 0 0 := X'
    clear X' N'
    show own_E p e below Qq T8 (mkF m 47 #[.val (.ref a1), .val (.ref a2), .val (.ref a2)] [(.int (if z1 = z2 then (1 : Int32) else 0))])
    by_cases q47 : (if z1 = z2 then (1 : Int32) else 0) = (0 : Int32)
    · have _ := Nat.zero_le 0
      refine own_st (fun _ => XS.ifYes X.here hx rfl (pc0 := 47) (pc' := 54) rfl (hb hby d14_47) rfl (XT.i0_eq_t q47) (by decide) (by decide)) ?_
      show own_E p e below Qq T8 (mkF m 54 #[.val (.ref a1), .val (.ref a2), .val (.ref a2)] [])
      refine own_st (fun _ => XS.iconst X.here hx rfl (hb hby d14_54)) ?_
      show own_E p e below Qq T8 (mkF m 55 #[.val (.ref a1), .val (.ref a2), .val (.ref a2)] [(.int (0 : Int32))])
      rw [← hQ]
      exact own_retN X hx hlk (t := .boolean) hret (by simp) (hb hby d14_55) (by decide) (by decide) ⟨by rw [q47]; rfl, N, eT⟩
    · have _ := Nat.zero_le 0
      refine own_st (fun _ => XS.ifNo X.here hx rfl (hb hby d14_47) rfl (XT.i0_eq_f q47)) ?_
      show own_E p e below Qq T8 (mkF m 50 #[.val (.ref a1), .val (.ref a2), .val (.ref a2)] [])
      refine own_st (fun _ => XS.iconst X.here hx rfl (hb hby d14_50)) ?_
      show own_E p e below Qq T8 (mkF m 51 #[.val (.ref a1), .val (.ref a2), .val (.ref a2)] [(.int (1 : Int32))])
      refine own_st (fun _ => XS.goto X.here hx rfl (pc0 := 51) (pc' := 55) rfl (hb hby d14_51) (by decide) (by decide)) ?_
      show own_E p e below Qq T8 (mkF m 55 #[.val (.ref a1), .val (.ref a2), .val (.ref a2)] [(.int (1 : Int32))])
      rw [← hQ]
      exact own_retN X hx hlk (t := .boolean) hret (by simp) (hb hby d14_55) (by decide) (by decide) ⟨by rw [own_b01 q47]; rfl, N, eT⟩
theorem pn_2 : plainName "java/lang/Record" = true := by first | (simp [plainName, overriddenIn]; done) | decide +kernel
theorem pd_2 : parseMethodDescriptor "()V" = some ⟨[], none⟩ := by decide +kernel
theorem d2_0 : decode jdk_30_method_1_code 0 = .ok (.aload_n 0, 1) := by decide +kernel
theorem d2_1 : decode jdk_30_method_1_code 1 = .ok (.invokespecial 1, 3) := by decide +kernel
theorem d2_4 : decode jdk_30_method_1_code 4 = .ok (.return_, 1) := by decide +kernel
theorem ef_rm2 (m : MethodId) (a : Addr) : entryFrame m #[(.ref a)] 1 = (mkF m 0 #[.val (.ref a)] []) := by first | (simp [entryFrame, mkF, argsToLocals, Value.category, maxLocals]; done) | rfl
set_option maxRecDepth 65536 in
set_option maxHeartbeats 40000000 in
theorem rm2 (l : Launch) (Z : State) (a0 : Array Value) (hw : ∀ d ∈ tables_1, d.before a0 Z = true) (a : Addr) (cs : Int32) (fv : Value) (h0 : Heap) (n0 : Nat) :
    own_M l Z (⟨"java/lang/Record", "<init>", "()V"⟩ : MethodName) jdk_30_method_1_code 1 none ({ frames := 1, cells := 0, slots := 0, locals := 12 } : Room) #[(.ref a)] h0 (fun v h L => v = none ∧ Fr n0 L ∧ h = h0) := by
  refine own_body pn_2 ?_
  intro p e s m below meth c T hx hby hml hown hZ hret hlk hnm X eT
  have N := Fr.nil n0
  generalize hQ : own_Q s (fun v h L => v = none ∧ Fr n0 L ∧ h = h0) ({ frames := 1, cells := 0, slots := 0, locals := 12 } : Room).cells ({ frames := 1, cells := 0, slots := 0, locals := 12 } : Room).slots = Qq
  refine own_st (fun _ k => castTop (ef_rm2 m a) k) ?_
  show own_E p e below Qq T (mkF m 0 #[.val (.ref a)] [])
  refine own_st (fun _ => XS.aloadN X.here hx rfl (hb hby d2_0) rfl rfl) ?_
  show own_E p e below Qq T (mkF m 1 #[.val (.ref a)] [(.ref a)])
  obtain ⟨T1, X1, e1, st1⟩ := initO X hx hZ hown (hw _ (List.mem_of_getElem? (i := 11) rfl)) (hw _ (List.mem_of_getElem? (i := 12) rfl)) (hw _ (List.mem_of_getElem? (i := 13) rfl)) eT (g := (mkF m 1 #[.val (.ref a)] [(.ref a)])) rfl (by rw [hml]; rfl) rfl (hb hby d2_1) (by decide) (W := 0) (by show 2 * 0 + _ ≤ _; exact Nat.le_of_eq rfl) (by decide)
  refine own_st st1 ?_
  replace eT := e1
  replace X := X1
  clear X1 st1
  show own_E p e below Qq T1 (mkF m 4 #[.val (.ref a)] [])
  rw [← hQ]
  exact own_retV X hx hlk hret (hb hby d2_4) (by decide) (by decide) ⟨rfl, N, eT⟩
theorem pd_1 : parseMethodDescriptor "(ZZ)V" = some ⟨[.boolean, .boolean], none⟩ := by decide +kernel
theorem d1_0 : decode prog_20_method_1_code 0 = .ok (.aload_n 0, 1) := by decide +kernel
theorem d1_1 : decode prog_20_method_1_code 1 = .ok (.invokespecial 1, 3) := by decide +kernel
theorem d1_4 : decode prog_20_method_1_code 4 = .ok (.aload_n 0, 1) := by decide +kernel
theorem d1_5 : decode prog_20_method_1_code 5 = .ok (.iload_n 1, 1) := by decide +kernel
theorem d1_6 : decode prog_20_method_1_code 6 = .ok (.putfield 7, 3) := by decide +kernel
theorem d1_9 : decode prog_20_method_1_code 9 = .ok (.aload_n 0, 1) := by decide +kernel
theorem d1_10 : decode prog_20_method_1_code 10 = .ok (.iload_n 2, 1) := by decide +kernel
theorem d1_11 : decode prog_20_method_1_code 11 = .ok (.putfield 13, 3) := by decide +kernel
theorem d1_14 : decode prog_20_method_1_code 14 = .ok (.return_, 1) := by decide +kernel
theorem ef_rm1 (m : MethodId) (a : Addr) (bs an : Int32) : entryFrame m #[(.ref a), (.int bs), (.int an)] 3 = (mkF m 0 #[.val (.ref a), .val (.int bs), .val (.int an)] []) := by first | (simp [entryFrame, mkF, argsToLocals, Value.category, maxLocals]; done) | rfl
set_option maxRecDepth 65536 in
set_option maxHeartbeats 40000000 in
theorem rm1 (l : Launch) (Z : State) (a0 : Array Value) (hw : ∀ d ∈ tables_1, d.before a0 Z = true) (a : Addr) (bs an : Int32) (cs : Int32) (fv : Value) (h0 : Heap) (n0 : Nat) (hn : n0 ≤ a) (A1 : Exa Z h0 a "com/example/rowbridge/rowbridge/jdbc/MariadbSql") (F1 : Fld Z h0 a "com/example/rowbridge/rowbridge/jdbc/MariadbSql" "backslashEscapes" "Z" (.int 0)) (F2 : Fld Z h0 a "com/example/rowbridge/rowbridge/jdbc/MariadbSql" "ansiQuotes" "Z" (.int 0)) (hb1 : bs = 0 ∨ bs = 1) (ha1 : an = 0 ∨ an = 1) :
    own_M l Z (⟨"com/example/rowbridge/rowbridge/jdbc/MariadbSql", "<init>", "(ZZ)V"⟩ : MethodName) prog_20_method_1_code 3 none ({ frames := 2, cells := 0, slots := 0, locals := 26 } : Room) #[(.ref a), (.int bs), (.int an)] h0 (fun v h L => v = none ∧ Fr n0 L ∧ own_K h0 h a ∧ own_G Z h a bs an) := by
  refine own_body pn_5 ?_
  intro p e s m below meth c T hx hby hml hown hZ hret hlk hnm X eT
  have N := Fr.nil n0
  generalize hQ : own_Q s (fun v h L => v = none ∧ Fr n0 L ∧ own_K h0 h a ∧ own_G Z h a bs an) ({ frames := 2, cells := 0, slots := 0, locals := 26 } : Room).cells ({ frames := 2, cells := 0, slots := 0, locals := 26 } : Room).slots = Qq
  refine own_st (fun _ k => castTop (ef_rm1 m a bs an) k) ?_
  show own_E p e below Qq T (mkF m 0 #[.val (.ref a), .val (.int bs), .val (.int an)] [])
  refine own_st (fun _ => XS.aloadN X.here hx rfl (hb hby d1_0) rfl rfl) ?_
  show own_E p e below Qq T (mkF m 1 #[.val (.ref a), .val (.int bs), .val (.int an)] [(.ref a)])
  refine own_callC X hx hZ (y := (⟨"java/lang/Record", "<init>", "()V"⟩ : MethodName)) rfl hown (hw _ (List.mem_of_getElem? (i := 6) rfl)) (hw _ (List.mem_of_getElem? (i := 7) rfl)) (hw _ (List.mem_of_getElem? (i := 9) rfl)) (hw _ (List.mem_of_getElem? (i := 10) rfl)) (by decide) (W := 0) (a := a) (argsL := []) (rest := []) (rm2 l Z a0 hw a cs fv _ n0) (by decide) (by decide) (by decide) (by decide) rfl (by rw [hml]; rfl) (lenOf pd_2 rfl) rfl (by show 2 * 0 + _ ≤ _; exact Nat.le_of_eq rfl) (hb hby d1_1) ?_
  intro T1 L1 v X' hq
  obtain ⟨rfl, N', e'⟩ := hq
  replace eT := e'.trans eT
  clear e'
  replace N := Fr.app N N'
  replace X : Stand p l e ({ frames := 2, cells := 0, slots := 0, locals := 26 } : Room) s m #[(.ref a), (.int bs), (.int an)] below meth c T1 _ 0 0 := X'
  clear X' N'
  show own_E p e below Qq T1 (mkF m 4 #[.val (.ref a), .val (.int bs), .val (.int an)] [])
  refine own_st (fun _ => XS.aloadN X.here hx rfl (hb hby d1_4) rfl rfl) ?_
  show own_E p e below Qq T1 (mkF m 5 #[.val (.ref a), .val (.int bs), .val (.int an)] [(.ref a)])
  refine own_st (fun _ => XS.iloadN X.here hx rfl (hb hby d1_5) rfl) ?_
  show own_E p e below Qq T1 (mkF m 6 #[.val (.ref a), .val (.int bs), .val (.int an)] [(.int bs), (.ref a)])
  have K := own_Kr h0 a
  subst eT
  obtain ⟨T2, h2, X2, e2, W2, st2⟩ := putF X hx hZ hown (host := "") (Or.inl (hw _ (List.mem_of_getElem? (i := 14) rfl))) Via.refl rfl F1 A1 (Or.inr ⟨(hw _ (List.mem_of_getElem? (i := 15) rfl)), rfl, hnm⟩) (hw _ (List.mem_of_getElem? (i := 1) rfl)) (ty := .boolean) (by decide) (by rcases hb1 with rfl | rfl <;> rfl) (by rcases hb1 with rfl | rfl <;> rfl) (g := (mkF m 6 #[.val (.ref a), .val (.int bs), .val (.int an)] [(.int bs), (.ref a)])) rfl rfl (hb hby d1_6)
  subst e2
  refine own_st st2 ?_
  replace N := Fr.snoc X2 N hn
  replace K := own_Kw K W2
  replace F2 := F2.other W2 (Or.inr (slot_ne (a0 := a0) (C := "com/example/rowbridge/rowbridge/jdbc/MariadbSql") (Or.inr (hw _ (List.mem_of_getElem? (i := 17) rfl))) (Or.inr (hw _ (List.mem_of_getElem? (i := 15) rfl))) (by decide) (t := .boolean) (t' := .boolean) (by decide) (by decide)))
  replace F1 := F1.same W2
  replace A1 := A1.wr W2
  replace X := X2
  clear st2 X2
  show own_E p e below Qq T2 (mkF m 9 #[.val (.ref a), .val (.int bs), .val (.int an)] [])
  refine own_st (fun _ => XS.aloadN X.here hx rfl (hb hby d1_9) rfl rfl) ?_
  show own_E p e below Qq T2 (mkF m 10 #[.val (.ref a), .val (.int bs), .val (.int an)] [(.ref a)])
  refine own_st (fun _ => XS.iloadN X.here hx rfl (hb hby d1_10) rfl) ?_
  show own_E p e below Qq T2 (mkF m 11 #[.val (.ref a), .val (.int bs), .val (.int an)] [(.int an), (.ref a)])
  obtain ⟨T3, h3, X3, e3, W3, st3⟩ := putF X hx hZ hown (host := "") (Or.inl (hw _ (List.mem_of_getElem? (i := 16) rfl))) Via.refl rfl F2 A1 (Or.inr ⟨(hw _ (List.mem_of_getElem? (i := 17) rfl)), rfl, hnm⟩) (hw _ (List.mem_of_getElem? (i := 1) rfl)) (ty := .boolean) (by decide) (by rcases ha1 with rfl | rfl <;> rfl) (by rcases ha1 with rfl | rfl <;> rfl) (g := (mkF m 11 #[.val (.ref a), .val (.int bs), .val (.int an)] [(.int an), (.ref a)])) rfl rfl (hb hby d1_11)
  subst e3
  refine own_st st3 ?_
  replace N := Fr.snoc X3 N hn
  replace K := own_Kw K W3
  replace F1 := F1.other W3 (Or.inr (slot_ne (a0 := a0) (C := "com/example/rowbridge/rowbridge/jdbc/MariadbSql") (Or.inr (hw _ (List.mem_of_getElem? (i := 15) rfl))) (Or.inr (hw _ (List.mem_of_getElem? (i := 17) rfl))) (by decide) (t := .boolean) (t' := .boolean) (by decide) (by decide)))
  replace F2 := F2.same W3
  replace A1 := A1.wr W3
  replace X := X3
  clear st3 X3
  show own_E p e below Qq T3 (mkF m 14 #[.val (.ref a), .val (.int bs), .val (.int an)] [])
  rw [← hQ]
  exact own_retV X hx hlk hret (hb hby d1_14) (by decide) (by decide) ⟨rfl, N, ⟨K, A1, F1, F2⟩⟩
theorem pn_17 : plainName "com/example/rowbridge/rowbridge/jdbc/MariadbSqlSessionPinLaw" = true := by first | (simp [plainName, overriddenIn]; done) | decide +kernel
theorem pd_17 : parseMethodDescriptor "(ZZ)Ljava/lang/String;" = some ⟨[.boolean, .boolean], some (.object "java/lang/String")⟩ := by decide +kernel
theorem d17_0 : decode method_2_code 0 = .ok (.iload_n 0, 1) := by decide +kernel
theorem d17_1 : decode method_2_code 1 = .ok (.ifCond .ne 6, 3) := by decide +kernel
theorem d17_4 : decode method_2_code 4 = .ok (.ldc 7, 2) := by decide +kernel
theorem d17_6 : decode method_2_code 6 = .ok (.areturn, 1) := by decide +kernel
theorem d17_7 : decode method_2_code 7 = .ok (.iload_n 1, 1) := by decide +kernel
theorem d17_8 : decode method_2_code 8 = .ok (.ifCond .eq 6, 3) := by decide +kernel
theorem d17_11 : decode method_2_code 11 = .ok (.ldc 9, 2) := by decide +kernel
theorem d17_13 : decode method_2_code 13 = .ok (.areturn, 1) := by decide +kernel
theorem d17_14 : decode method_2_code 14 = .ok (.ldc 11, 2) := by decide +kernel
theorem d17_16 : decode method_2_code 16 = .ok (.areturn, 1) := by decide +kernel
theorem ef_rm17 (m : MethodId) (bs an : Int32) : entryFrame m #[(.int bs), (.int an)] 2 = (mkF m 0 #[.val (.int bs), .val (.int an)] []) := by first | (simp [entryFrame, mkF, argsToLocals, Value.category, maxLocals]; done) | rfl
set_option maxRecDepth 65536 in
set_option maxHeartbeats 40000000 in
theorem rm17 (l : Launch) (Z : State) (a0 : Array Value) (hw : ∀ d ∈ tables_1, d.before a0 Z = true) (bs an : Int32) (cs : Int32) (fv : Value) (h0 : Heap) (n0 : Nat) :
    own_MS l Z consts_1 (⟨"com/example/rowbridge/rowbridge/jdbc/MariadbSqlSessionPinLaw", "expected", "(ZZ)Ljava/lang/String;"⟩ : MethodName) method_2_code 2 (some (.object "java/lang/String")) ({ frames := 0, cells := 2, slots := 168, locals := 0 } : Room) #[(.int bs), (.int an)] h0 (fun v h L => ∃ a b, v = some (.ref a) ∧ Fr n0 L ∧ Ext h0 h ∧ own_S Z h a b (own_z bs an) (own_t bs an)) := by
  refine own_bodyS pn_17 ?_
  intro p e s m below meth c T hx hby hml hret hlk hnm X eT M
  have hEL := own_EW hw
  have N := Fr.nil n0
  subst eT
  generalize hQ : own_QS Z consts_1 s (fun v h L => ∃ a b, v = some (.ref a) ∧ Fr n0 L ∧ Ext T.heap h ∧ own_S Z h a b (own_z bs an) (own_t bs an)) ({ frames := 0, cells := 2, slots := 168, locals := 0 } : Room).cells ({ frames := 0, cells := 2, slots := 168, locals := 0 } : Room).slots = Qq
  refine own_st (fun _ k => castTop (ef_rm17 m bs an) k) ?_
  show own_E p e below Qq T (mkF m 0 #[.val (.int bs), .val (.int an)] [])
  have E0 : Ext T.heap T.heap := own_eqx rfl
  refine own_st (fun _ => XS.iloadN X.here hx rfl (hb hby d17_0) rfl) ?_
  show own_E p e below Qq T (mkF m 1 #[.val (.int bs), .val (.int an)] [(.int bs)])
  by_cases q1 : bs = (0 : Int32)
  · have _ := Nat.zero_le 0
    refine own_st (fun _ => XS.ifNo X.here hx rfl (hb hby d17_1) rfl (XT.i0_ne_f q1)) ?_
    show own_E p e below Qq T (mkF m 4 #[.val (.int bs), .val (.int an)] [])
    refine own_ldc X hx hEL M (hw _ (List.mem_of_getElem? (i := 98) rfl)) (own_wS hw) (List.mem_of_getElem? (i := 3) rfl) (t := own_NB) (z := (41 : Int32)) own_tx41 (by decide) (by decide) (n := 164) own_len41 (by decide) (by decide) (by decide) (g := (mkF m 4 #[.val (.int bs), .val (.int an)] [])) rfl (hb hby d17_4) ?_
    intro T1 vm1 a1 b1 X' M' E' S1
    clear M
    have M := M'
    clear M'
    replace E0 := own_extT_ (E') E0
    replace X : Stand p l e ({ frames := 0, cells := 2, slots := 168, locals := 0 } : Room) (s.setVm vm1) m #[(.int bs), (.int an)] below meth c T1 _ 2 168 := X'
    clear X' E'
    show own_E p e below Qq T1 (mkF m 6 #[.val (.int bs), .val (.int an)] [(.ref a1)])
    rw [← hQ]
    exact own_retAS X hx hlk hret rfl rfl rfl hEL M (hb hby d17_6) (by decide) (by decide) ⟨a1, b1, rfl, N, E0, by rw [show own_z bs an = (41 : Int32) from if_pos q1, show own_t bs an = own_NB from if_pos q1]; exact S1⟩
  · have _ := Nat.zero_le 0
    refine own_st (fun _ => XS.ifYes X.here hx rfl (pc0 := 1) (pc' := 7) rfl (hb hby d17_1) rfl (XT.i0_ne_t q1) (by decide) (by decide)) ?_
    show own_E p e below Qq T (mkF m 7 #[.val (.int bs), .val (.int an)] [])
    refine own_st (fun _ => XS.iloadN X.here hx rfl (hb hby d17_7) rfl) ?_
    show own_E p e below Qq T (mkF m 8 #[.val (.int bs), .val (.int an)] [(.int an)])
    by_cases q8 : an = (0 : Int32)
    · have _ := Nat.zero_le 0
      refine own_st (fun _ => XS.ifYes X.here hx rfl (pc0 := 8) (pc' := 14) rfl (hb hby d17_8) rfl (XT.i0_eq_t q8) (by decide) (by decide)) ?_
      show own_E p e below Qq T (mkF m 14 #[.val (.int bs), .val (.int an)] [])
      refine own_ldc X hx hEL M (hw _ (List.mem_of_getElem? (i := 101) rfl)) (own_wS hw) (List.mem_of_getElem? (i := 5) rfl) (t := []) (z := (0 : Int32)) own_tx0 (by decide) (by decide) (n := 0) own_len0 (by decide) (by decide) (by decide) (g := (mkF m 14 #[.val (.int bs), .val (.int an)] [])) rfl (hb hby d17_14) ?_
      intro T2 vm2 a2 b2 X' M' E' S2
      clear M
      have M := M'
      clear M'
      replace E0 := own_extT_ (E') E0
      replace X : Stand p l e ({ frames := 0, cells := 2, slots := 168, locals := 0 } : Room) (s.setVm vm2) m #[(.int bs), (.int an)] below meth c T2 _ 2 4 := X'
      clear X' E'
      show own_E p e below Qq T2 (mkF m 16 #[.val (.int bs), .val (.int an)] [(.ref a2)])
      rw [← hQ]
      exact own_retAS X hx hlk hret rfl rfl rfl hEL M (hb hby d17_16) (by decide) (by decide) ⟨a2, b2, rfl, N, E0, by rw [show own_z bs an = (0 : Int32) from (if_neg q1).trans (if_pos q8), show own_t bs an = [] from (if_neg q1).trans (if_pos q8)]; exact S2⟩
    · have _ := Nat.zero_le 0
      refine own_st (fun _ => XS.ifNo X.here hx rfl (hb hby d17_8) rfl (XT.i0_eq_f q8)) ?_
      show own_E p e below Qq T (mkF m 11 #[.val (.int bs), .val (.int an)] [])
      refine own_ldc X hx hEL M (hw _ (List.mem_of_getElem? (i := 99) rfl)) (own_wS hw) (List.mem_of_getElem? (i := 4) rfl) (t := own_AQ) (z := (32 : Int32)) own_tx32 (by decide) (by decide) (n := 128) own_len32 (by decide) (by decide) (by decide) (g := (mkF m 11 #[.val (.int bs), .val (.int an)] [])) rfl (hb hby d17_11) ?_
      intro T3 vm3 a3 b3 X' M' E' S3
      clear M
      have M := M'
      clear M'
      replace E0 := own_extT_ (E') E0
      replace X : Stand p l e ({ frames := 0, cells := 2, slots := 168, locals := 0 } : Room) (s.setVm vm3) m #[(.int bs), (.int an)] below meth c T3 _ 2 132 := X'
      clear X' E'
      show own_E p e below Qq T3 (mkF m 13 #[.val (.int bs), .val (.int an)] [(.ref a3)])
      rw [← hQ]
      exact own_retAS X hx hlk hret rfl rfl rfl hEL M (hb hby d17_13) (by decide) (by decide) ⟨a3, b3, rfl, N, E0, by rw [show own_z bs an = (32 : Int32) from (if_neg q1).trans (if_neg q8), show own_t bs an = own_AQ from (if_neg q1).trans (if_neg q8)]; exact S3⟩
theorem pd_4 : parseMethodDescriptor "()Ljava/lang/String;" = some ⟨[], some (.object "java/lang/String")⟩ := by decide +kernel
theorem d4_0 : decode prog_20_method_2_code 0 = .ok (.aload_n 0, 1) := by decide +kernel
theorem d4_1 : decode prog_20_method_2_code 1 = .ok (.getfield 7, 3) := by decide +kernel
theorem d4_4 : decode prog_20_method_2_code 4 = .ok (.ifCond .ne 9, 3) := by decide +kernel
theorem d4_7 : decode prog_20_method_2_code 7 = .ok (.ldc 16, 2) := by decide +kernel
theorem d4_9 : decode prog_20_method_2_code 9 = .ok (.astore_n 1, 1) := by decide +kernel
theorem d4_10 : decode prog_20_method_2_code 10 = .ok (.goto 19, 3) := by decide +kernel
theorem d4_13 : decode prog_20_method_2_code 13 = .ok (.aload_n 0, 1) := by decide +kernel
theorem d4_14 : decode prog_20_method_2_code 14 = .ok (.getfield 13, 3) := by decide +kernel
theorem d4_17 : decode prog_20_method_2_code 17 = .ok (.ifCond .eq 9, 3) := by decide +kernel
theorem d4_20 : decode prog_20_method_2_code 20 = .ok (.ldc 18, 2) := by decide +kernel
theorem d4_22 : decode prog_20_method_2_code 22 = .ok (.astore_n 1, 1) := by decide +kernel
theorem d4_23 : decode prog_20_method_2_code 23 = .ok (.goto 6, 3) := by decide +kernel
theorem d4_26 : decode prog_20_method_2_code 26 = .ok (.ldc 20, 2) := by decide +kernel
theorem d4_28 : decode prog_20_method_2_code 28 = .ok (.astore_n 1, 1) := by decide +kernel
theorem d4_29 : decode prog_20_method_2_code 29 = .ok (.aload_n 1, 1) := by decide +kernel
theorem d4_30 : decode prog_20_method_2_code 30 = .ok (.areturn, 1) := by decide +kernel
theorem ef_rm4 (m : MethodId) (g : Addr) : entryFrame m #[(.ref g)] 2 = (mkF m 0 #[.val (.ref g), .unset] []) := by first | (simp [entryFrame, mkF, argsToLocals, Value.category, maxLocals]; done) | rfl
set_option maxRecDepth 65536 in
set_option maxHeartbeats 40000000 in
theorem rm4 (l : Launch) (Z : State) (a0 : Array Value) (hw : ∀ d ∈ tables_1, d.before a0 Z = true) (g : Addr) (cs : Int32) (fv : Value) (h0 : Heap) (n0 : Nat) (bs an : Int32) (Gf : own_G Z h0 g bs an) :
    own_MS l Z consts_1 (⟨"com/example/rowbridge/rowbridge/jdbc/MariadbSql", "session", "()Ljava/lang/String;"⟩ : MethodName) prog_20_method_2_code 2 (some (.object "java/lang/String")) ({ frames := 0, cells := 2, slots := 168, locals := 0 } : Room) #[(.ref g)] h0 (fun v h L => ∃ a b, v = some (.ref a) ∧ Fr n0 L ∧ Ext h0 h ∧ own_S Z h a b (own_z bs an) (own_t bs an)) := by
  refine own_bodyS pn_5 ?_
  intro p e s m below meth c T hx hby hml hret hlk hnm X eT M
  have hEL := own_EW hw
  have N := Fr.nil n0
  subst eT
  generalize hQ : own_QS Z consts_1 s (fun v h L => ∃ a b, v = some (.ref a) ∧ Fr n0 L ∧ Ext T.heap h ∧ own_S Z h a b (own_z bs an) (own_t bs an)) ({ frames := 0, cells := 2, slots := 168, locals := 0 } : Room).cells ({ frames := 0, cells := 2, slots := 168, locals := 0 } : Room).slots = Qq
  refine own_st (fun _ k => castTop (ef_rm4 m g) k) ?_
  show own_E p e below Qq T (mkF m 0 #[.val (.ref g), .unset] [])
  have E0 : Ext T.heap T.heap := own_eqx rfl
  refine own_st (fun _ => XS.aloadN X.here hx rfl (hb hby d4_0) rfl rfl) ?_
  show own_E p e below Qq T (mkF m 1 #[.val (.ref g), .unset] [(.ref g)])
  obtain ⟨T1, X1, e1, st1⟩ := getF X hx M.2.1 M.2.2.1 (host := "") (Or.inl (hw _ (List.mem_of_getElem? (i := 14) rfl))) Via.refl rfl (Gf.2.1) (g := (mkF m 1 #[.val (.ref g), .unset] [(.ref g)])) rfl rfl (hb hby d4_1)
  refine own_st st1 ?_
  replace M := own_Tx (own_eqx e1) M
  replace Gf := own_Gx (own_eqx e1) Gf
  replace E0 := own_extT_ (own_eqx e1) E0
  replace X := X1
  clear X1 st1
  show own_E p e below Qq T1 (mkF m 4 #[.val (.ref g), .unset] [(.int bs)])
  by_cases q4 : bs = (0 : Int32)
  · have _ := Nat.zero_le 0
    refine own_st (fun _ => XS.ifNo X.here hx rfl (hb hby d4_4) rfl (XT.i0_ne_f q4)) ?_
    show own_E p e below Qq T1 (mkF m 7 #[.val (.ref g), .unset] [])
    refine own_ldc X hx hEL M (hw _ (List.mem_of_getElem? (i := 23) rfl)) (own_wS hw) (List.mem_of_getElem? (i := 0) rfl) (t := own_NB) (z := (41 : Int32)) own_tx41 (by decide) (by decide) (n := 164) own_len41 (by decide) (by decide) (by decide) (g := (mkF m 7 #[.val (.ref g), .unset] [])) rfl (hb hby d4_7) ?_
    intro T2 vm2 a2 b2 X' M' E' S2
    clear M
    have M := M'
    clear M'
    replace Gf := own_Gx (E') Gf
    replace E0 := own_extT_ (E') E0
    replace X : Stand p l e ({ frames := 0, cells := 2, slots := 168, locals := 0 } : Room) (s.setVm vm2) m #[(.ref g)] below meth c T2 _ 2 168 := X'
    clear X' E'
    show own_E p e below Qq T2 (mkF m 9 #[.val (.ref g), .unset] [(.ref a2)])
    refine own_st (fun _ => XS.astoreN X.here hx rfl (hb hby d4_9) rfl rfl (l' := #[.val (.ref g), .val (.ref a2)]) rfl) ?_
    show own_E p e below Qq T2 (mkF m 10 #[.val (.ref g), .val (.ref a2)] [])
    refine own_st (fun _ => XS.goto X.here hx rfl (pc0 := 10) (pc' := 29) rfl (hb hby d4_10) (by decide) (by decide)) ?_
    show own_E p e below Qq T2 (mkF m 29 #[.val (.ref g), .val (.ref a2)] [])
    refine own_st (fun _ => XS.aloadN X.here hx rfl (hb hby d4_29) rfl rfl) ?_
    show own_E p e below Qq T2 (mkF m 30 #[.val (.ref g), .val (.ref a2)] [(.ref a2)])
    rw [← hQ]
    exact own_retAS X hx hlk hret rfl rfl rfl hEL M (hb hby d4_30) (by decide) (by decide) ⟨a2, b2, rfl, N, E0, by rw [show own_z bs an = (41 : Int32) from if_pos q4, show own_t bs an = own_NB from if_pos q4]; exact S2⟩
  · have _ := Nat.zero_le 0
    refine own_st (fun _ => XS.ifYes X.here hx rfl (pc0 := 4) (pc' := 13) rfl (hb hby d4_4) rfl (XT.i0_ne_t q4) (by decide) (by decide)) ?_
    show own_E p e below Qq T1 (mkF m 13 #[.val (.ref g), .unset] [])
    refine own_st (fun _ => XS.aloadN X.here hx rfl (hb hby d4_13) rfl rfl) ?_
    show own_E p e below Qq T1 (mkF m 14 #[.val (.ref g), .unset] [(.ref g)])
    obtain ⟨T3, X3, e3, st3⟩ := getF X hx M.2.1 M.2.2.1 (host := "") (Or.inl (hw _ (List.mem_of_getElem? (i := 16) rfl))) Via.refl rfl (Gf.2.2) (g := (mkF m 14 #[.val (.ref g), .unset] [(.ref g)])) rfl rfl (hb hby d4_14)
    refine own_st st3 ?_
    replace M := own_Tx (own_eqx e3) M
    replace Gf := own_Gx (own_eqx e3) Gf
    replace E0 := own_extT_ (own_eqx e3) E0
    replace X := X3
    clear X3 st3
    show own_E p e below Qq T3 (mkF m 17 #[.val (.ref g), .unset] [(.int an)])
    by_cases q17 : an = (0 : Int32)
    · have _ := Nat.zero_le 0
      refine own_st (fun _ => XS.ifYes X.here hx rfl (pc0 := 17) (pc' := 26) rfl (hb hby d4_17) rfl (XT.i0_eq_t q17) (by decide) (by decide)) ?_
      show own_E p e below Qq T3 (mkF m 26 #[.val (.ref g), .unset] [])
      refine own_ldc X hx hEL M (hw _ (List.mem_of_getElem? (i := 100) rfl)) (own_wS hw) (List.mem_of_getElem? (i := 2) rfl) (t := []) (z := (0 : Int32)) own_tx0 (by decide) (by decide) (n := 0) own_len0 (by decide) (by decide) (by decide) (g := (mkF m 26 #[.val (.ref g), .unset] [])) rfl (hb hby d4_26) ?_
      intro T4 vm4 a4 b4 X' M' E' S4
      clear M
      have M := M'
      clear M'
      replace Gf := own_Gx (E') Gf
      replace E0 := own_extT_ (E') E0
      replace X : Stand p l e ({ frames := 0, cells := 2, slots := 168, locals := 0 } : Room) (s.setVm vm4) m #[(.ref g)] below meth c T4 _ 2 4 := X'
      clear X' E'
      show own_E p e below Qq T4 (mkF m 28 #[.val (.ref g), .unset] [(.ref a4)])
      refine own_st (fun _ => XS.astoreN X.here hx rfl (hb hby d4_28) rfl rfl (l' := #[.val (.ref g), .val (.ref a4)]) rfl) ?_
      show own_E p e below Qq T4 (mkF m 29 #[.val (.ref g), .val (.ref a4)] [])
      refine own_st (fun _ => XS.aloadN X.here hx rfl (hb hby d4_29) rfl rfl) ?_
      show own_E p e below Qq T4 (mkF m 30 #[.val (.ref g), .val (.ref a4)] [(.ref a4)])
      rw [← hQ]
      exact own_retAS X hx hlk hret rfl rfl rfl hEL M (hb hby d4_30) (by decide) (by decide) ⟨a4, b4, rfl, N, E0, by rw [show own_z bs an = (0 : Int32) from (if_neg q4).trans (if_pos q17), show own_t bs an = [] from (if_neg q4).trans (if_pos q17)]; exact S4⟩
    · have _ := Nat.zero_le 0
      refine own_st (fun _ => XS.ifNo X.here hx rfl (hb hby d4_17) rfl (XT.i0_eq_f q17)) ?_
      show own_E p e below Qq T3 (mkF m 20 #[.val (.ref g), .unset] [])
      refine own_ldc X hx hEL M (hw _ (List.mem_of_getElem? (i := 31) rfl)) (own_wS hw) (List.mem_of_getElem? (i := 1) rfl) (t := own_AQ) (z := (32 : Int32)) own_tx32 (by decide) (by decide) (n := 128) own_len32 (by decide) (by decide) (by decide) (g := (mkF m 20 #[.val (.ref g), .unset] [])) rfl (hb hby d4_20) ?_
      intro T5 vm5 a5 b5 X' M' E' S5
      clear M
      have M := M'
      clear M'
      replace Gf := own_Gx (E') Gf
      replace E0 := own_extT_ (E') E0
      replace X : Stand p l e ({ frames := 0, cells := 2, slots := 168, locals := 0 } : Room) (s.setVm vm5) m #[(.ref g)] below meth c T5 _ 2 132 := X'
      clear X' E'
      show own_E p e below Qq T5 (mkF m 22 #[.val (.ref g), .unset] [(.ref a5)])
      refine own_st (fun _ => XS.astoreN X.here hx rfl (hb hby d4_22) rfl rfl (l' := #[.val (.ref g), .val (.ref a5)]) rfl) ?_
      show own_E p e below Qq T5 (mkF m 23 #[.val (.ref g), .val (.ref a5)] [])
      refine own_st (fun _ => XS.goto X.here hx rfl (pc0 := 23) (pc' := 29) rfl (hb hby d4_23) (by decide) (by decide)) ?_
      show own_E p e below Qq T5 (mkF m 29 #[.val (.ref g), .val (.ref a5)] [])
      refine own_st (fun _ => XS.aloadN X.here hx rfl (hb hby d4_29) rfl rfl) ?_
      show own_E p e below Qq T5 (mkF m 30 #[.val (.ref g), .val (.ref a5)] [(.ref a5)])
      rw [← hQ]
      exact own_retAS X hx hlk hret rfl rfl rfl hEL M (hb hby d4_30) (by decide) (by decide) ⟨a5, b5, rfl, N, E0, by rw [show own_z bs an = (32 : Int32) from (if_neg q4).trans (if_neg q17), show own_t bs an = own_AQ from (if_neg q4).trans (if_neg q17)]; exact S5⟩
theorem ef_rm0 (m : MethodId) (p0 p1 : Int32) : entryFrame m #[(.int p0), (.int p1)] maxLocals = (mkF m 0 #[.val (.int p0), .val (.int p1), .unset, .unset, .unset, .unset, .unset, .unset, .unset, .unset, .unset, .unset, .unset, .unset, .unset, .unset, .unset, .unset] []) := by first | (simp [entryFrame, mkF, argsToLocals, Value.category, maxLocals]; done) | rfl
set_option maxRecDepth 65536 in
set_option maxHeartbeats 40000000 in
theorem rm0 (l : Launch) (Z : State) (a0 : Array Value) (hw : ∀ d ∈ tables_1, d.before a0 Z = true) (p0 p1 : Int32) (cs : Int32) (fv : Value) (h0 : Heap) (n0 : Nat) (C : own_C Z h0 cs fv) (Zn : n0 ≤ h0.size) :
    own_MS l Z consts_1 x code maxLocals ret room_1 #[(.int p0), (.int p1)] h0 (fun v h L => v = some (.int 1) ∧ Fr n0 L ∧ True) := by
  refine own_bodyS pn_17 ?_
  intro p e s m below meth c T hx hby hml hret hlk hnm X eT M
  have hEL := own_EW hw
  have N := Fr.nil n0
  subst eT
  generalize hQ : own_QS Z consts_1 s (fun v h L => v = some (.int 1) ∧ Fr n0 L ∧ True) room_1.cells room_1.slots = Qq
  refine own_st (fun _ k => castTop (ef_rm0 m p0 p1) k) ?_
  show own_E p e below Qq T (mkF m 0 #[.val (.int p0), .val (.int p1), .unset, .unset, .unset, .unset, .unset, .unset, .unset, .unset, .unset, .unset, .unset, .unset, .unset, .unset, .unset, .unset] [])
  have K50 : ∀ x2 x3 x4 x5 : Int32, (x2 = 0 ∨ x2 = 1) → (x3 = 0 ∨ x3 = 1) → (x4 = 0 ∨ x4 = 1) → (x5 = 0 ∨ x5 = 1) → own_E p e below Qq T (mkF m 50 #[.val (.int p0), .val (.int p1), .val (.int x2), .val (.int x3), .val (.int x4), .val (.int x5), .unset, .unset, .unset, .unset, .unset, .unset, .unset, .unset, .unset, .unset, .unset, .unset] []) := by
    intro x2 x3 x4 x5 hx2 hx3 hx4 hx5
    have ES : Ext T.heap T.heap := own_eqx rfl
    obtain ⟨T1, h1, X1, e1, E1, A1, D1, -, st1⟩ := newO X hx M.2.1 M.2.2.1 (hw _ (List.mem_of_getElem? (i := 0) rfl)) (hw _ (List.mem_of_getElem? (i := 1) rfl)) (hw _ (List.mem_of_getElem? (i := 2) rfl)) rfl (g := (mkF m 50 #[.val (.int p0), .val (.int p1), .val (.int x2), .val (.int x3), .val (.int x4), .val (.int x5), .unset, .unset, .unset, .unset, .unset, .unset, .unset, .unset, .unset, .unset, .unset, .unset] [])) rfl (hb hby at_50) (by decide) (by decide)
    obtain ⟨a1, ga1⟩ : ∃ z, z = T.heap.size := ⟨_, rfl⟩
    rw [← ga1] at A1 D1 st1
    subst e1
    refine own_st st1 ?_
    have FA1 := D1 (Or.inr (hw _ (List.mem_of_getElem? (i := 15) rfl))) (ty := .boolean) (by decide)
    have FB1 := D1 (Or.inr (hw _ (List.mem_of_getElem? (i := 17) rfl))) (ty := .boolean) (by decide)
    have MM := M
    replace M := own_Tx E1 M
    replace X := X1
    clear st1 X1
    show own_E p e below Qq T1 (mkF m 53 #[.val (.int p0), .val (.int p1), .val (.int x2), .val (.int x3), .val (.int x4), .val (.int x5), .unset, .unset, .unset, .unset, .unset, .unset, .unset, .unset, .unset, .unset, .unset, .unset] [(.ref a1)])
    refine own_st (fun _ => XS.dup X.here hx rfl (hb hby at_53) rfl rfl) ?_
    show own_E p e below Qq T1 (mkF m 54 #[.val (.int p0), .val (.int p1), .val (.int x2), .val (.int x3), .val (.int x4), .val (.int x5), .unset, .unset, .unset, .unset, .unset, .unset, .unset, .unset, .unset, .unset, .unset, .unset] [(.ref a1), (.ref a1)])
    refine own_st (fun _ => XS.iloadN X.here hx rfl (hb hby at_54) rfl) ?_
    show own_E p e below Qq T1 (mkF m 55 #[.val (.int p0), .val (.int p1), .val (.int x2), .val (.int x3), .val (.int x4), .val (.int x5), .unset, .unset, .unset, .unset, .unset, .unset, .unset, .unset, .unset, .unset, .unset, .unset] [(.int x2), (.ref a1), (.ref a1)])
    refine own_st (fun _ => XS.iloadN X.here hx rfl (hb hby at_55) rfl) ?_
    show own_E p e below Qq T1 (mkF m 56 #[.val (.int p0), .val (.int p1), .val (.int x2), .val (.int x3), .val (.int x4), .val (.int x5), .unset, .unset, .unset, .unset, .unset, .unset, .unset, .unset, .unset, .unset, .unset, .unset] [(.int x3), (.int x2), (.ref a1), (.ref a1)])
    refine own_callC X hx M.2.1 (y := (⟨"com/example/rowbridge/rowbridge/jdbc/MariadbSql", "<init>", "(ZZ)V"⟩ : MethodName)) rfl M.2.2.1 (hw _ (List.mem_of_getElem? (i := 3) rfl)) (hw _ (List.mem_of_getElem? (i := 4) rfl)) (hw _ (List.mem_of_getElem? (i := 2) rfl)) (hw _ (List.mem_of_getElem? (i := 5) rfl)) (by decide) (W := 1) (a := a1) (argsL := [(.int x2), (.int x3)]) (rest := [(.ref a1)]) (rm1 l Z a0 hw a1 x2 x3 cs fv _ n0 (Nat.le_trans Zn (Nat.le_trans ES.1 (Nat.le_of_eq ga1.symm))) A1 FA1 FB1 hx2 hx3) (by decide) (by decide) (by decide) (by decide) rfl (by rw [hml]; rfl) (lenOf pd_1 rfl) rfl (by show 2 * 0 + _ ≤ _; exact Nat.le_of_eq rfl) (hb hby at_56) ?_
    intro T2 L2 v X' hq
    obtain ⟨rfl, N', K', G'⟩ := hq
    have EE := own_Kx E1 (Nat.le_of_eq ga1.symm) K'
    clear M
    have M := own_Tx EE MM
    clear MM
    replace C := own_Cx (EE) C
    replace ES := own_extT_ (EE) ES
    have G1 := G'
    clear EE K' G'
    replace N := Fr.app N N'
    replace X : Stand p l e room_1 (s.setVm s.vm) m #[(.int p0), (.int p1)] below meth c T2 _ 1 2 := X'
    clear X' N'
    show own_E p e below Qq T2 (mkF m 59 #[.val (.int p0), .val (.int p1), .val (.int x2), .val (.int x3), .val (.int x4), .val (.int x5), .unset, .unset, .unset, .unset, .unset, .unset, .unset, .unset, .unset, .unset, .unset, .unset] [(.ref a1)])
    refine own_st (fun _ => XS.astore X.here hx rfl (hb hby at_59) rfl rfl (l' := #[.val (.int p0), .val (.int p1), .val (.int x2), .val (.int x3), .val (.int x4), .val (.int x5), .val (.ref a1), .unset, .unset, .unset, .unset, .unset, .unset, .unset, .unset, .unset, .unset, .unset]) rfl) ?_
    show own_E p e below Qq T2 (mkF m 61 #[.val (.int p0), .val (.int p1), .val (.int x2), .val (.int x3), .val (.int x4), .val (.int x5), .val (.ref a1), .unset, .unset, .unset, .unset, .unset, .unset, .unset, .unset, .unset, .unset, .unset] [])
    obtain ⟨T3, h3, X3, e3, E3, A3, D3, -, st3⟩ := newO X hx M.2.1 M.2.2.1 (hw _ (List.mem_of_getElem? (i := 0) rfl)) (hw _ (List.mem_of_getElem? (i := 1) rfl)) (hw _ (List.mem_of_getElem? (i := 2) rfl)) rfl (g := (mkF m 61 #[.val (.int p0), .val (.int p1), .val (.int x2), .val (.int x3), .val (.int x4), .val (.int x5), .val (.ref a1), .unset, .unset, .unset, .unset, .unset, .unset, .unset, .unset, .unset, .unset, .unset] [])) rfl (hb hby at_61) (by decide) (by decide)
    obtain ⟨a3, ga3⟩ : ∃ z, z = T2.heap.size := ⟨_, rfl⟩
    rw [← ga3] at A3 D3 st3
    subst e3
    refine own_st st3 ?_
    have FA3 := D3 (Or.inr (hw _ (List.mem_of_getElem? (i := 15) rfl))) (ty := .boolean) (by decide)
    have FB3 := D3 (Or.inr (hw _ (List.mem_of_getElem? (i := 17) rfl))) (ty := .boolean) (by decide)
    have MM := M
    replace M := own_Tx E3 M
    replace X := X3
    clear st3 X3
    show own_E p e below Qq T3 (mkF m 64 #[.val (.int p0), .val (.int p1), .val (.int x2), .val (.int x3), .val (.int x4), .val (.int x5), .val (.ref a1), .unset, .unset, .unset, .unset, .unset, .unset, .unset, .unset, .unset, .unset, .unset] [(.ref a3)])
    refine own_st (fun _ => XS.dup X.here hx rfl (hb hby at_64) rfl rfl) ?_
    show own_E p e below Qq T3 (mkF m 65 #[.val (.int p0), .val (.int p1), .val (.int x2), .val (.int x3), .val (.int x4), .val (.int x5), .val (.ref a1), .unset, .unset, .unset, .unset, .unset, .unset, .unset, .unset, .unset, .unset, .unset] [(.ref a3), (.ref a3)])
    refine own_st (fun _ => XS.iload X.here hx rfl (hb hby at_65) rfl) ?_
    show own_E p e below Qq T3 (mkF m 67 #[.val (.int p0), .val (.int p1), .val (.int x2), .val (.int x3), .val (.int x4), .val (.int x5), .val (.ref a1), .unset, .unset, .unset, .unset, .unset, .unset, .unset, .unset, .unset, .unset, .unset] [(.int x4), (.ref a3), (.ref a3)])
    refine own_st (fun _ => XS.iload X.here hx rfl (hb hby at_67) rfl) ?_
    show own_E p e below Qq T3 (mkF m 69 #[.val (.int p0), .val (.int p1), .val (.int x2), .val (.int x3), .val (.int x4), .val (.int x5), .val (.ref a1), .unset, .unset, .unset, .unset, .unset, .unset, .unset, .unset, .unset, .unset, .unset] [(.int x5), (.int x4), (.ref a3), (.ref a3)])
    refine own_callC X hx M.2.1 (y := (⟨"com/example/rowbridge/rowbridge/jdbc/MariadbSql", "<init>", "(ZZ)V"⟩ : MethodName)) rfl M.2.2.1 (hw _ (List.mem_of_getElem? (i := 3) rfl)) (hw _ (List.mem_of_getElem? (i := 4) rfl)) (hw _ (List.mem_of_getElem? (i := 2) rfl)) (hw _ (List.mem_of_getElem? (i := 5) rfl)) (by decide) (W := 1) (a := a3) (argsL := [(.int x4), (.int x5)]) (rest := [(.ref a3)]) (rm1 l Z a0 hw a3 x4 x5 cs fv _ n0 (Nat.le_trans Zn (Nat.le_trans ES.1 (Nat.le_of_eq ga3.symm))) A3 FA3 FB3 hx4 hx5) (by decide) (by decide) (by decide) (by decide) rfl (by rw [hml]; rfl) (lenOf pd_1 rfl) rfl (by show 2 * 0 + _ ≤ _; exact Nat.le_of_eq rfl) (hb hby at_69) ?_
    intro T4 L4 v X' hq
    obtain ⟨rfl, N', K', G'⟩ := hq
    have EE := own_Kx E3 (Nat.le_of_eq ga3.symm) K'
    clear M
    have M := own_Tx EE MM
    clear MM
    replace C := own_Cx (EE) C
    replace ES := own_extT_ (EE) ES
    replace G1 := own_Gx (EE) G1
    have G3 := G'
    clear EE K' G'
    replace N := Fr.app N N'
    replace X : Stand p l e room_1 (s.setVm s.vm) m #[(.int p0), (.int p1)] below meth c T4 _ 2 4 := X'
    clear X' N'
    show own_E p e below Qq T4 (mkF m 72 #[.val (.int p0), .val (.int p1), .val (.int x2), .val (.int x3), .val (.int x4), .val (.int x5), .val (.ref a1), .unset, .unset, .unset, .unset, .unset, .unset, .unset, .unset, .unset, .unset, .unset] [(.ref a3)])
    refine own_st (fun _ => XS.astore X.here hx rfl (hb hby at_72) rfl rfl (l' := #[.val (.int p0), .val (.int p1), .val (.int x2), .val (.int x3), .val (.int x4), .val (.int x5), .val (.ref a1), .val (.ref a3), .unset, .unset, .unset, .unset, .unset, .unset, .unset, .unset, .unset, .unset]) rfl) ?_
    show own_E p e below Qq T4 (mkF m 74 #[.val (.int p0), .val (.int p1), .val (.int x2), .val (.int x3), .val (.int x4), .val (.int x5), .val (.ref a1), .val (.ref a3), .unset, .unset, .unset, .unset, .unset, .unset, .unset, .unset, .unset, .unset] [])
    refine own_st (fun _ => XS.aload X.here hx rfl (hb hby at_74) rfl rfl) ?_
    show own_E p e below Qq T4 (mkF m 76 #[.val (.int p0), .val (.int p1), .val (.int x2), .val (.int x3), .val (.int x4), .val (.int x5), .val (.ref a1), .val (.ref a3), .unset, .unset, .unset, .unset, .unset, .unset, .unset, .unset, .unset, .unset] [(.ref a1)])
    refine own_callVS X hx hEL M (hw _ (List.mem_of_getElem? (i := 18) rfl)) (hw _ (List.mem_of_getElem? (i := 19) rfl)) (hw _ (List.mem_of_getElem? (i := 21) rfl)) (hw _ (List.mem_of_getElem? (i := 20) rfl)) (hw _ (List.mem_of_getElem? (i := 2) rfl)) (hw _ (List.mem_of_getElem? (i := 22) rfl)) (by decide) (G1.1) (W := 0) (argsL := []) (rest := []) (rm4 l Z a0 hw a1 cs fv _ n0 x2 x3 G1) (by decide) (by decide) (by decide) (by decide) rfl (by rw [hml]; rfl) (lenOf pd_4 rfl) rfl (by show 2 * 0 + _ ≤ _; exact Nat.le_of_eq rfl) (hb hby at_76) ?_
    intro T5 vm5 L5 v X' M' hq
    obtain ⟨a5, b5, rfl, N', E', S5⟩ := hq
    clear M
    have M := M'
    clear M'
    replace C := own_Cx (E') C
    replace ES := own_extT_ (E') ES
    replace G1 := own_Gx (E') G1
    replace G3 := own_Gx (E') G3
    replace N := Fr.app N N'
    replace X : Stand p l e room_1 (s.setVm vm5) m #[(.int p0), (.int p1)] below meth c T5 _ 4 172 := X'
    clear X' N' E'
    show own_E p e below Qq T5 (mkF m 79 #[.val (.int p0), .val (.int p1), .val (.int x2), .val (.int x3), .val (.int x4), .val (.int x5), .val (.ref a1), .val (.ref a3), .unset, .unset, .unset, .unset, .unset, .unset, .unset, .unset, .unset, .unset] [(.ref a5)])
    refine own_st (fun _ => XS.astore X.here hx rfl (hb hby at_79) rfl rfl (l' := #[.val (.int p0), .val (.int p1), .val (.int x2), .val (.int x3), .val (.int x4), .val (.int x5), .val (.ref a1), .val (.ref a3), .val (.ref a5), .unset, .unset, .unset, .unset, .unset, .unset, .unset, .unset, .unset]) rfl) ?_
    show own_E p e below Qq T5 (mkF m 81 #[.val (.int p0), .val (.int p1), .val (.int x2), .val (.int x3), .val (.int x4), .val (.int x5), .val (.ref a1), .val (.ref a3), .val (.ref a5), .unset, .unset, .unset, .unset, .unset, .unset, .unset, .unset, .unset] [])
    refine own_st (fun _ => XS.aload X.here hx rfl (hb hby at_81) rfl rfl) ?_
    show own_E p e below Qq T5 (mkF m 83 #[.val (.int p0), .val (.int p1), .val (.int x2), .val (.int x3), .val (.int x4), .val (.int x5), .val (.ref a1), .val (.ref a3), .val (.ref a5), .unset, .unset, .unset, .unset, .unset, .unset, .unset, .unset, .unset] [(.ref a3)])
    refine own_callVS X hx hEL M (hw _ (List.mem_of_getElem? (i := 18) rfl)) (hw _ (List.mem_of_getElem? (i := 19) rfl)) (hw _ (List.mem_of_getElem? (i := 21) rfl)) (hw _ (List.mem_of_getElem? (i := 20) rfl)) (hw _ (List.mem_of_getElem? (i := 2) rfl)) (hw _ (List.mem_of_getElem? (i := 22) rfl)) (by decide) (G3.1) (W := 0) (argsL := []) (rest := []) (rm4 l Z a0 hw a3 cs fv _ n0 x4 x5 G3) (by decide) (by decide) (by decide) (by decide) rfl (by rw [hml]; rfl) (lenOf pd_4 rfl) rfl (by show 2 * 0 + _ ≤ _; exact Nat.le_of_eq rfl) (hb hby at_83) ?_
    intro T6 vm6 L6 v X' M' hq
    obtain ⟨a6, b6, rfl, N', E', S6⟩ := hq
    clear M
    have M := M'
    clear M'
    replace C := own_Cx (E') C
    replace ES := own_extT_ (E') ES
    replace G1 := own_Gx (E') G1
    replace G3 := own_Gx (E') G3
    replace S5 := own_Sx (E') S5
    replace N := Fr.app N N'
    replace X : Stand p l e room_1 (s.setVm vm6) m #[(.int p0), (.int p1)] below meth c T6 _ 6 340 := X'
    clear X' N' E'
    show own_E p e below Qq T6 (mkF m 86 #[.val (.int p0), .val (.int p1), .val (.int x2), .val (.int x3), .val (.int x4), .val (.int x5), .val (.ref a1), .val (.ref a3), .val (.ref a5), .unset, .unset, .unset, .unset, .unset, .unset, .unset, .unset, .unset] [(.ref a6)])
    refine own_st (fun _ => XS.astore X.here hx rfl (hb hby at_86) rfl rfl (l' := #[.val (.int p0), .val (.int p1), .val (.int x2), .val (.int x3), .val (.int x4), .val (.int x5), .val (.ref a1), .val (.ref a3), .val (.ref a5), .val (.ref a6), .unset, .unset, .unset, .unset, .unset, .unset, .unset, .unset]) rfl) ?_
    show own_E p e below Qq T6 (mkF m 88 #[.val (.int p0), .val (.int p1), .val (.int x2), .val (.int x3), .val (.int x4), .val (.int x5), .val (.ref a1), .val (.ref a3), .val (.ref a5), .val (.ref a6), .unset, .unset, .unset, .unset, .unset, .unset, .unset, .unset] [])
    refine own_st (fun _ => XS.aload X.here hx rfl (hb hby at_88) rfl rfl) ?_
    show own_E p e below Qq T6 (mkF m 90 #[.val (.int p0), .val (.int p1), .val (.int x2), .val (.int x3), .val (.int x4), .val (.int x5), .val (.ref a1), .val (.ref a3), .val (.ref a5), .val (.ref a6), .unset, .unset, .unset, .unset, .unset, .unset, .unset, .unset] [(.ref a1)])
    refine own_ldc X hx hEL M (hw _ (List.mem_of_getElem? (i := 32) rfl)) (own_wS hw) (List.mem_of_getElem? (i := 6) rfl) (t := [39, 92, 39, 39]) (z := (4 : Int32)) own_tx39 (by decide) (by decide) (n := 16) own_len39 (by decide) (by decide) (by decide) (g := (mkF m 90 #[.val (.int p0), .val (.int p1), .val (.int x2), .val (.int x3), .val (.int x4), .val (.int x5), .val (.ref a1), .val (.ref a3), .val (.ref a5), .val (.ref a6), .unset, .unset, .unset, .unset, .unset, .unset, .unset, .unset] [(.ref a1)])) rfl (hb hby at_90) ?_
    intro T7 vm7 a7 b7 X' M' E' S7
    clear M
    have M := M'
    clear M'
    replace C := own_Cx (E') C
    replace ES := own_extT_ (E') ES
    replace G1 := own_Gx (E') G1
    replace G3 := own_Gx (E') G3
    replace S5 := own_Sx (E') S5
    replace S6 := own_Sx (E') S6
    replace X : Stand p l e room_1 (s.setVm vm7) m #[(.int p0), (.int p1)] below meth c T7 _ 8 360 := X'
    clear X' E'
    show own_E p e below Qq T7 (mkF m 92 #[.val (.int p0), .val (.int p1), .val (.int x2), .val (.int x3), .val (.int x4), .val (.int x5), .val (.ref a1), .val (.ref a3), .val (.ref a5), .val (.ref a6), .unset, .unset, .unset, .unset, .unset, .unset, .unset, .unset] [(.ref a7), (.ref a1)])
    refine own_st (fun _ => XS.iconst X.here hx rfl (hb hby at_92)) ?_
    show own_E p e below Qq T7 (mkF m 93 #[.val (.int p0), .val (.int p1), .val (.int x2), .val (.int x3), .val (.int x4), .val (.int x5), .val (.ref a1), .val (.ref a3), .val (.ref a5), .val (.ref a6), .unset, .unset, .unset, .unset, .unset, .unset, .unset, .unset] [(.int (0 : Int32)), (.ref a7), (.ref a1)])
    refine own_callV X hx M.2.1 M.2.2.1 (hw _ (List.mem_of_getElem? (i := 33) rfl)) (hw _ (List.mem_of_getElem? (i := 34) rfl)) (hw _ (List.mem_of_getElem? (i := 36) rfl)) (hw _ (List.mem_of_getElem? (i := 35) rfl)) (hw _ (List.mem_of_getElem? (i := 2) rfl)) (hw _ (List.mem_of_getElem? (i := 37) rfl)) (by decide) (G1.1) (W := 0) (argsL := [(.ref a7), (.int (0 : Int32))]) (rest := []) (rm5_39 l Z a0 hw a1 a7 cs fv _ n0 x2 x3 b7 G1 S7 C) (by decide) (by decide) (by decide) (by decide) rfl (by rw [hml]; rfl) (lenOf pd_5 rfl) rfl (by show 2 * 0 + _ ≤ _; exact Nat.le_of_eq rfl) (hb hby at_93) ?_
    intro T8 L8 v X' hq
    obtain ⟨rfl, N', e'⟩ := hq
    replace M := own_Tx (own_eqx e') M
    replace C := own_Cx (own_eqx e') C
    replace ES := own_extT_ (own_eqx e') ES
    replace G1 := own_Gx (own_eqx e') G1
    replace G3 := own_Gx (own_eqx e') G3
    replace S5 := own_Sx (own_eqx e') S5
    replace S6 := own_Sx (own_eqx e') S6
    replace S7 := own_Sx (own_eqx e') S7
    clear e'
    replace N := Fr.app N N'
    replace X : Stand p l e room_1 (s.setVm vm7) m #[(.int p0), (.int p1)] below meth c T8 _ 8 360 := X'
    clear X' N'
    show own_E p e below Qq T8 (mkF m 96 #[.val (.int p0), .val (.int p1), .val (.int x2), .val (.int x3), .val (.int x4), .val (.int x5), .val (.ref a1), .val (.ref a3), .val (.ref a5), .val (.ref a6), .unset, .unset, .unset, .unset, .unset, .unset, .unset, .unset] [(.int (own_le 39 x2 x3))])
    refine own_st (fun _ => XS.istore X.here hx rfl (hb hby at_96) rfl (l' := #[.val (.int p0), .val (.int p1), .val (.int x2), .val (.int x3), .val (.int x4), .val (.int x5), .val (.ref a1), .val (.ref a3), .val (.ref a5), .val (.ref a6), .val (.int (own_le 39 x2 x3)), .unset, .unset, .unset, .unset, .unset, .unset, .unset]) rfl) ?_
    show own_E p e below Qq T8 (mkF m 98 #[.val (.int p0), .val (.int p1), .val (.int x2), .val (.int x3), .val (.int x4), .val (.int x5), .val (.ref a1), .val (.ref a3), .val (.ref a5), .val (.ref a6), .val (.int (own_le 39 x2 x3)), .unset, .unset, .unset, .unset, .unset, .unset, .unset] [])
    refine own_st (fun _ => XS.aload X.here hx rfl (hb hby at_98) rfl rfl) ?_
    show own_E p e below Qq T8 (mkF m 100 #[.val (.int p0), .val (.int p1), .val (.int x2), .val (.int x3), .val (.int x4), .val (.int x5), .val (.ref a1), .val (.ref a3), .val (.ref a5), .val (.ref a6), .val (.int (own_le 39 x2 x3)), .unset, .unset, .unset, .unset, .unset, .unset, .unset] [(.ref a1)])
    refine own_ldc X hx hEL M (hw _ (List.mem_of_getElem? (i := 78) rfl)) (own_wS hw) (List.mem_of_getElem? (i := 7) rfl) (t := [34, 92, 34, 34]) (z := (4 : Int32)) own_tx34 (by decide) (by decide) (n := 16) own_len34 (by decide) (by decide) (by decide) (g := (mkF m 100 #[.val (.int p0), .val (.int p1), .val (.int x2), .val (.int x3), .val (.int x4), .val (.int x5), .val (.ref a1), .val (.ref a3), .val (.ref a5), .val (.ref a6), .val (.int (own_le 39 x2 x3)), .unset, .unset, .unset, .unset, .unset, .unset, .unset] [(.ref a1)])) rfl (hb hby at_100) ?_
    intro T9 vm9 a9 b9 X' M' E' S9
    clear M
    have M := M'
    clear M'
    replace C := own_Cx (E') C
    replace ES := own_extT_ (E') ES
    replace G1 := own_Gx (E') G1
    replace G3 := own_Gx (E') G3
    replace S5 := own_Sx (E') S5
    replace S6 := own_Sx (E') S6
    replace S7 := own_Sx (E') S7
    replace X : Stand p l e room_1 (s.setVm vm9) m #[(.int p0), (.int p1)] below meth c T9 _ 10 380 := X'
    clear X' E'
    show own_E p e below Qq T9 (mkF m 102 #[.val (.int p0), .val (.int p1), .val (.int x2), .val (.int x3), .val (.int x4), .val (.int x5), .val (.ref a1), .val (.ref a3), .val (.ref a5), .val (.ref a6), .val (.int (own_le 39 x2 x3)), .unset, .unset, .unset, .unset, .unset, .unset, .unset] [(.ref a9), (.ref a1)])
    refine own_st (fun _ => XS.iconst X.here hx rfl (hb hby at_102)) ?_
    show own_E p e below Qq T9 (mkF m 103 #[.val (.int p0), .val (.int p1), .val (.int x2), .val (.int x3), .val (.int x4), .val (.int x5), .val (.ref a1), .val (.ref a3), .val (.ref a5), .val (.ref a6), .val (.int (own_le 39 x2 x3)), .unset, .unset, .unset, .unset, .unset, .unset, .unset] [(.int (0 : Int32)), (.ref a9), (.ref a1)])
    refine own_callV X hx M.2.1 M.2.2.1 (hw _ (List.mem_of_getElem? (i := 33) rfl)) (hw _ (List.mem_of_getElem? (i := 34) rfl)) (hw _ (List.mem_of_getElem? (i := 36) rfl)) (hw _ (List.mem_of_getElem? (i := 35) rfl)) (hw _ (List.mem_of_getElem? (i := 2) rfl)) (hw _ (List.mem_of_getElem? (i := 37) rfl)) (by decide) (G1.1) (W := 0) (argsL := [(.ref a9), (.int (0 : Int32))]) (rest := []) (rm5_34 l Z a0 hw a1 a9 cs fv _ n0 x2 x3 b9 G1 S9 C) (by decide) (by decide) (by decide) (by decide) rfl (by rw [hml]; rfl) (lenOf pd_5 rfl) rfl (by show 2 * 0 + _ ≤ _; exact Nat.le_of_eq rfl) (hb hby at_103) ?_
    intro T10 L10 v X' hq
    obtain ⟨rfl, N', e'⟩ := hq
    replace M := own_Tx (own_eqx e') M
    replace C := own_Cx (own_eqx e') C
    replace ES := own_extT_ (own_eqx e') ES
    replace G1 := own_Gx (own_eqx e') G1
    replace G3 := own_Gx (own_eqx e') G3
    replace S5 := own_Sx (own_eqx e') S5
    replace S6 := own_Sx (own_eqx e') S6
    replace S7 := own_Sx (own_eqx e') S7
    replace S9 := own_Sx (own_eqx e') S9
    clear e'
    replace N := Fr.app N N'
    replace X : Stand p l e room_1 (s.setVm vm9) m #[(.int p0), (.int p1)] below meth c T10 _ 10 380 := X'
    clear X' N'
    show own_E p e below Qq T10 (mkF m 106 #[.val (.int p0), .val (.int p1), .val (.int x2), .val (.int x3), .val (.int x4), .val (.int x5), .val (.ref a1), .val (.ref a3), .val (.ref a5), .val (.ref a6), .val (.int (own_le 39 x2 x3)), .unset, .unset, .unset, .unset, .unset, .unset, .unset] [(.int (own_le 34 x2 x3))])
    refine own_st (fun _ => XS.istore X.here hx rfl (hb hby at_106) rfl (l' := #[.val (.int p0), .val (.int p1), .val (.int x2), .val (.int x3), .val (.int x4), .val (.int x5), .val (.ref a1), .val (.ref a3), .val (.ref a5), .val (.ref a6), .val (.int (own_le 39 x2 x3)), .val (.int (own_le 34 x2 x3)), .unset, .unset, .unset, .unset, .unset, .unset]) rfl) ?_
    show own_E p e below Qq T10 (mkF m 108 #[.val (.int p0), .val (.int p1), .val (.int x2), .val (.int x3), .val (.int x4), .val (.int x5), .val (.ref a1), .val (.ref a3), .val (.ref a5), .val (.ref a6), .val (.int (own_le 39 x2 x3)), .val (.int (own_le 34 x2 x3)), .unset, .unset, .unset, .unset, .unset, .unset] [])
    refine own_st (fun _ => XS.aload X.here hx rfl (hb hby at_108) rfl rfl) ?_
    show own_E p e below Qq T10 (mkF m 110 #[.val (.int p0), .val (.int p1), .val (.int x2), .val (.int x3), .val (.int x4), .val (.int x5), .val (.ref a1), .val (.ref a3), .val (.ref a5), .val (.ref a6), .val (.int (own_le 39 x2 x3)), .val (.int (own_le 34 x2 x3)), .unset, .unset, .unset, .unset, .unset, .unset] [(.ref a3)])
    refine own_ldc X hx hEL M (hw _ (List.mem_of_getElem? (i := 32) rfl)) (own_wS hw) (List.mem_of_getElem? (i := 6) rfl) (t := [39, 92, 39, 39]) (z := (4 : Int32)) own_tx39 (by decide) (by decide) (n := 16) own_len39 (by decide) (by decide) (by decide) (g := (mkF m 110 #[.val (.int p0), .val (.int p1), .val (.int x2), .val (.int x3), .val (.int x4), .val (.int x5), .val (.ref a1), .val (.ref a3), .val (.ref a5), .val (.ref a6), .val (.int (own_le 39 x2 x3)), .val (.int (own_le 34 x2 x3)), .unset, .unset, .unset, .unset, .unset, .unset] [(.ref a3)])) rfl (hb hby at_110) ?_
    intro T11 vm11 a11 b11 X' M' E' S11
    clear M
    have M := M'
    clear M'
    replace C := own_Cx (E') C
    replace ES := own_extT_ (E') ES
    replace G1 := own_Gx (E') G1
    replace G3 := own_Gx (E') G3
    replace S5 := own_Sx (E') S5
    replace S6 := own_Sx (E') S6
    replace S7 := own_Sx (E') S7
    replace S9 := own_Sx (E') S9
    replace X : Stand p l e room_1 (s.setVm vm11) m #[(.int p0), (.int p1)] below meth c T11 _ 12 400 := X'
    clear X' E'
    show own_E p e below Qq T11 (mkF m 112 #[.val (.int p0), .val (.int p1), .val (.int x2), .val (.int x3), .val (.int x4), .val (.int x5), .val (.ref a1), .val (.ref a3), .val (.ref a5), .val (.ref a6), .val (.int (own_le 39 x2 x3)), .val (.int (own_le 34 x2 x3)), .unset, .unset, .unset, .unset, .unset, .unset] [(.ref a11), (.ref a3)])
    refine own_st (fun _ => XS.iconst X.here hx rfl (hb hby at_112)) ?_
    show own_E p e below Qq T11 (mkF m 113 #[.val (.int p0), .val (.int p1), .val (.int x2), .val (.int x3), .val (.int x4), .val (.int x5), .val (.ref a1), .val (.ref a3), .val (.ref a5), .val (.ref a6), .val (.int (own_le 39 x2 x3)), .val (.int (own_le 34 x2 x3)), .unset, .unset, .unset, .unset, .unset, .unset] [(.int (0 : Int32)), (.ref a11), (.ref a3)])
    refine own_callV X hx M.2.1 M.2.2.1 (hw _ (List.mem_of_getElem? (i := 33) rfl)) (hw _ (List.mem_of_getElem? (i := 34) rfl)) (hw _ (List.mem_of_getElem? (i := 36) rfl)) (hw _ (List.mem_of_getElem? (i := 35) rfl)) (hw _ (List.mem_of_getElem? (i := 2) rfl)) (hw _ (List.mem_of_getElem? (i := 37) rfl)) (by decide) (G3.1) (W := 0) (argsL := [(.ref a11), (.int (0 : Int32))]) (rest := []) (rm5_39 l Z a0 hw a3 a11 cs fv _ n0 x4 x5 b11 G3 S11 C) (by decide) (by decide) (by decide) (by decide) rfl (by rw [hml]; rfl) (lenOf pd_5 rfl) rfl (by show 2 * 0 + _ ≤ _; exact Nat.le_of_eq rfl) (hb hby at_113) ?_
    intro T12 L12 v X' hq
    obtain ⟨rfl, N', e'⟩ := hq
    replace M := own_Tx (own_eqx e') M
    replace C := own_Cx (own_eqx e') C
    replace ES := own_extT_ (own_eqx e') ES
    replace G1 := own_Gx (own_eqx e') G1
    replace G3 := own_Gx (own_eqx e') G3
    replace S5 := own_Sx (own_eqx e') S5
    replace S6 := own_Sx (own_eqx e') S6
    replace S7 := own_Sx (own_eqx e') S7
    replace S9 := own_Sx (own_eqx e') S9
    replace S11 := own_Sx (own_eqx e') S11
    clear e'
    replace N := Fr.app N N'
    replace X : Stand p l e room_1 (s.setVm vm11) m #[(.int p0), (.int p1)] below meth c T12 _ 12 400 := X'
    clear X' N'
    show own_E p e below Qq T12 (mkF m 116 #[.val (.int p0), .val (.int p1), .val (.int x2), .val (.int x3), .val (.int x4), .val (.int x5), .val (.ref a1), .val (.ref a3), .val (.ref a5), .val (.ref a6), .val (.int (own_le 39 x2 x3)), .val (.int (own_le 34 x2 x3)), .unset, .unset, .unset, .unset, .unset, .unset] [(.int (own_le 39 x4 x5))])
    refine own_st (fun _ => XS.istore X.here hx rfl (hb hby at_116) rfl (l' := #[.val (.int p0), .val (.int p1), .val (.int x2), .val (.int x3), .val (.int x4), .val (.int x5), .val (.ref a1), .val (.ref a3), .val (.ref a5), .val (.ref a6), .val (.int (own_le 39 x2 x3)), .val (.int (own_le 34 x2 x3)), .val (.int (own_le 39 x4 x5)), .unset, .unset, .unset, .unset, .unset]) rfl) ?_
    show own_E p e below Qq T12 (mkF m 118 #[.val (.int p0), .val (.int p1), .val (.int x2), .val (.int x3), .val (.int x4), .val (.int x5), .val (.ref a1), .val (.ref a3), .val (.ref a5), .val (.ref a6), .val (.int (own_le 39 x2 x3)), .val (.int (own_le 34 x2 x3)), .val (.int (own_le 39 x4 x5)), .unset, .unset, .unset, .unset, .unset] [])
    refine own_st (fun _ => XS.aload X.here hx rfl (hb hby at_118) rfl rfl) ?_
    show own_E p e below Qq T12 (mkF m 120 #[.val (.int p0), .val (.int p1), .val (.int x2), .val (.int x3), .val (.int x4), .val (.int x5), .val (.ref a1), .val (.ref a3), .val (.ref a5), .val (.ref a6), .val (.int (own_le 39 x2 x3)), .val (.int (own_le 34 x2 x3)), .val (.int (own_le 39 x4 x5)), .unset, .unset, .unset, .unset, .unset] [(.ref a3)])
    refine own_ldc X hx hEL M (hw _ (List.mem_of_getElem? (i := 78) rfl)) (own_wS hw) (List.mem_of_getElem? (i := 7) rfl) (t := [34, 92, 34, 34]) (z := (4 : Int32)) own_tx34 (by decide) (by decide) (n := 16) own_len34 (by decide) (by decide) (by decide) (g := (mkF m 120 #[.val (.int p0), .val (.int p1), .val (.int x2), .val (.int x3), .val (.int x4), .val (.int x5), .val (.ref a1), .val (.ref a3), .val (.ref a5), .val (.ref a6), .val (.int (own_le 39 x2 x3)), .val (.int (own_le 34 x2 x3)), .val (.int (own_le 39 x4 x5)), .unset, .unset, .unset, .unset, .unset] [(.ref a3)])) rfl (hb hby at_120) ?_
    intro T13 vm13 a13 b13 X' M' E' S13
    clear M
    have M := M'
    clear M'
    replace C := own_Cx (E') C
    replace ES := own_extT_ (E') ES
    replace G1 := own_Gx (E') G1
    replace G3 := own_Gx (E') G3
    replace S5 := own_Sx (E') S5
    replace S6 := own_Sx (E') S6
    replace S7 := own_Sx (E') S7
    replace S9 := own_Sx (E') S9
    replace S11 := own_Sx (E') S11
    replace X : Stand p l e room_1 (s.setVm vm13) m #[(.int p0), (.int p1)] below meth c T13 _ 14 420 := X'
    clear X' E'
    show own_E p e below Qq T13 (mkF m 122 #[.val (.int p0), .val (.int p1), .val (.int x2), .val (.int x3), .val (.int x4), .val (.int x5), .val (.ref a1), .val (.ref a3), .val (.ref a5), .val (.ref a6), .val (.int (own_le 39 x2 x3)), .val (.int (own_le 34 x2 x3)), .val (.int (own_le 39 x4 x5)), .unset, .unset, .unset, .unset, .unset] [(.ref a13), (.ref a3)])
    refine own_st (fun _ => XS.iconst X.here hx rfl (hb hby at_122)) ?_
    show own_E p e below Qq T13 (mkF m 123 #[.val (.int p0), .val (.int p1), .val (.int x2), .val (.int x3), .val (.int x4), .val (.int x5), .val (.ref a1), .val (.ref a3), .val (.ref a5), .val (.ref a6), .val (.int (own_le 39 x2 x3)), .val (.int (own_le 34 x2 x3)), .val (.int (own_le 39 x4 x5)), .unset, .unset, .unset, .unset, .unset] [(.int (0 : Int32)), (.ref a13), (.ref a3)])
    refine own_callV X hx M.2.1 M.2.2.1 (hw _ (List.mem_of_getElem? (i := 33) rfl)) (hw _ (List.mem_of_getElem? (i := 34) rfl)) (hw _ (List.mem_of_getElem? (i := 36) rfl)) (hw _ (List.mem_of_getElem? (i := 35) rfl)) (hw _ (List.mem_of_getElem? (i := 2) rfl)) (hw _ (List.mem_of_getElem? (i := 37) rfl)) (by decide) (G3.1) (W := 0) (argsL := [(.ref a13), (.int (0 : Int32))]) (rest := []) (rm5_34 l Z a0 hw a3 a13 cs fv _ n0 x4 x5 b13 G3 S13 C) (by decide) (by decide) (by decide) (by decide) rfl (by rw [hml]; rfl) (lenOf pd_5 rfl) rfl (by show 2 * 0 + _ ≤ _; exact Nat.le_of_eq rfl) (hb hby at_123) ?_
    intro T14 L14 v X' hq
    obtain ⟨rfl, N', e'⟩ := hq
    replace M := own_Tx (own_eqx e') M
    replace C := own_Cx (own_eqx e') C
    replace ES := own_extT_ (own_eqx e') ES
    replace G1 := own_Gx (own_eqx e') G1
    replace G3 := own_Gx (own_eqx e') G3
    replace S5 := own_Sx (own_eqx e') S5
    replace S6 := own_Sx (own_eqx e') S6
    replace S7 := own_Sx (own_eqx e') S7
    replace S9 := own_Sx (own_eqx e') S9
    replace S11 := own_Sx (own_eqx e') S11
    replace S13 := own_Sx (own_eqx e') S13
    clear e'
    replace N := Fr.app N N'
    replace X : Stand p l e room_1 (s.setVm vm13) m #[(.int p0), (.int p1)] below meth c T14 _ 14 420 := X'
    clear X' N'
    show own_E p e below Qq T14 (mkF m 126 #[.val (.int p0), .val (.int p1), .val (.int x2), .val (.int x3), .val (.int x4), .val (.int x5), .val (.ref a1), .val (.ref a3), .val (.ref a5), .val (.ref a6), .val (.int (own_le 39 x2 x3)), .val (.int (own_le 34 x2 x3)), .val (.int (own_le 39 x4 x5)), .unset, .unset, .unset, .unset, .unset] [(.int (own_le 34 x4 x5))])
    refine own_st (fun _ => XS.istore X.here hx rfl (hb hby at_126) rfl (l' := #[.val (.int p0), .val (.int p1), .val (.int x2), .val (.int x3), .val (.int x4), .val (.int x5), .val (.ref a1), .val (.ref a3), .val (.ref a5), .val (.ref a6), .val (.int (own_le 39 x2 x3)), .val (.int (own_le 34 x2 x3)), .val (.int (own_le 39 x4 x5)), .val (.int (own_le 34 x4 x5)), .unset, .unset, .unset, .unset]) rfl) ?_
    show own_E p e below Qq T14 (mkF m 128 #[.val (.int p0), .val (.int p1), .val (.int x2), .val (.int x3), .val (.int x4), .val (.int x5), .val (.ref a1), .val (.ref a3), .val (.ref a5), .val (.ref a6), .val (.int (own_le 39 x2 x3)), .val (.int (own_le 34 x2 x3)), .val (.int (own_le 39 x4 x5)), .val (.int (own_le 34 x4 x5)), .unset, .unset, .unset, .unset] [])
    have K190 : ∀ (T : State) (vm : Vm) (L : List Loc) (y14 y15 y16 y17 : Int32), Stand p l e room_1 (s.setVm vm) m #[(.int p0), (.int p1)] below meth c T L 14 420 → own_T Z consts_1 s x.cls m.cls vm T.heap → own_C Z T.heap cs fv → own_S Z T.heap a5 b5 (own_z x2 x3) (own_t x2 x3) → own_S Z T.heap a6 b6 (own_z x4 x5) (own_t x4 x5) → Fr n0 L → y14 = (if (own_z x2 x3) = (own_z x4 x5) then (1 : Int32) else 0) → y15 = (if (own_z x2 x3) = (own_z x4 x5) then (1 : Int32) else 0) → y16 = (if (own_z x2 x3) = 0 then (1 : Int32) else 0) → y17 = (if (own_z x4 x5) = 0 then (1 : Int32) else 0) → own_E p e below Qq T (mkF m 190 #[.val (.int p0), .val (.int p1), .val (.int x2), .val (.int x3), .val (.int x4), .val (.int x5), .val (.ref a1), .val (.ref a3), .val (.ref a5), .val (.ref a6), .val (.int (own_le 39 x2 x3)), .val (.int (own_le 34 x2 x3)), .val (.int (own_le 39 x4 x5)), .val (.int (own_le 34 x4 x5)), .val (.int y14), .val (.int y15), .val (.int y16), .val (.int y17)] []) := by
      intro T vm L y14 y15 y16 y17 X M C S5 S6 N hy14 hy15 hy16 hy17
      refine own_st (fun _ => XS.iload X.here hx rfl (hb hby at_190) rfl) ?_
      show own_E p e below Qq T (mkF m 192 #[.val (.int p0), .val (.int p1), .val (.int x2), .val (.int x3), .val (.int x4), .val (.int x5), .val (.ref a1), .val (.ref a3), .val (.ref a5), .val (.ref a6), .val (.int (own_le 39 x2 x3)), .val (.int (own_le 34 x2 x3)), .val (.int (own_le 39 x4 x5)), .val (.int (own_le 34 x4 x5)), .val (.int y14), .val (.int y15), .val (.int y16), .val (.int y17)] [(.int y14)])
      refine own_st (fun _ => XS.iload X.here hx rfl (hb hby at_192) rfl) ?_
      show own_E p e below Qq T (mkF m 194 #[.val (.int p0), .val (.int p1), .val (.int x2), .val (.int x3), .val (.int x4), .val (.int x5), .val (.ref a1), .val (.ref a3), .val (.ref a5), .val (.ref a6), .val (.int (own_le 39 x2 x3)), .val (.int (own_le 34 x2 x3)), .val (.int (own_le 39 x4 x5)), .val (.int (own_le 34 x4 x5)), .val (.int y14), .val (.int y15), .val (.int y16), .val (.int y17)] [(.int y15), (.int y14)])
      refine own_st (fun _ => XS.icmpNo X.here hx rfl (hb hby at_194) rfl (XT.ii_ne_f (hy14.trans hy15.symm))) ?_
      show own_E p e below Qq T (mkF m 197 #[.val (.int p0), .val (.int p1), .val (.int x2), .val (.int x3), .val (.int x4), .val (.int x5), .val (.ref a1), .val (.ref a3), .val (.ref a5), .val (.ref a6), .val (.int (own_le 39 x2 x3)), .val (.int (own_le 34 x2 x3)), .val (.int (own_le 39 x4 x5)), .val (.int (own_le 34 x4 x5)), .val (.int y14), .val (.int y15), .val (.int y16), .val (.int y17)] [])
      refine own_st (fun _ => XS.aload X.here hx rfl (hb hby at_197) rfl rfl) ?_
      show own_E p e below Qq T (mkF m 199 #[.val (.int p0), .val (.int p1), .val (.int x2), .val (.int x3), .val (.int x4), .val (.int x5), .val (.ref a1), .val (.ref a3), .val (.ref a5), .val (.ref a6), .val (.int (own_le 39 x2 x3)), .val (.int (own_le 34 x2 x3)), .val (.int (own_le 39 x4 x5)), .val (.int (own_le 34 x4 x5)), .val (.int y14), .val (.int y15), .val (.int y16), .val (.int y17)] [(.ref a5)])
      refine own_callV X hx M.2.1 M.2.2.1 (hw _ (List.mem_of_getElem? (i := 89) rfl)) (hw _ (List.mem_of_getElem? (i := 90) rfl)) (hw _ (List.mem_of_getElem? (i := 92) rfl)) (hw _ (List.mem_of_getElem? (i := 91) rfl)) (hw _ (List.mem_of_getElem? (i := 24) rfl)) (hw _ (List.mem_of_getElem? (i := 93) rfl)) (by decide) (S5.1) (W := 0) (argsL := []) (rest := []) (rm16 l Z a0 hw a5 cs fv _ n0 b5 (own_z x2 x3) (own_t x2 x3) S5 C) (by decide) (by decide) (by decide) (by decide) rfl (by rw [hml]; rfl) (lenOf pd_7 rfl) rfl (by show 2 * 0 + _ ≤ _; exact Nat.le_of_eq rfl) (hb hby at_199) ?_
      intro T15 L15 v X' hq
      obtain ⟨rfl, N', e'⟩ := hq
      replace M := own_Tx (own_eqx e') M
      replace C := own_Cx (own_eqx e') C
      replace S5 := own_Sx (own_eqx e') S5
      replace S6 := own_Sx (own_eqx e') S6
      clear e'
      replace N := Fr.app N N'
      replace X : Stand p l e room_1 (s.setVm vm) m #[(.int p0), (.int p1)] below meth c T15 _ 14 420 := X'
      clear X' N'
      show own_E p e below Qq T15 (mkF m 202 #[.val (.int p0), .val (.int p1), .val (.int x2), .val (.int x3), .val (.int x4), .val (.int x5), .val (.ref a1), .val (.ref a3), .val (.ref a5), .val (.ref a6), .val (.int (own_le 39 x2 x3)), .val (.int (own_le 34 x2 x3)), .val (.int (own_le 39 x4 x5)), .val (.int (own_le 34 x4 x5)), .val (.int y14), .val (.int y15), .val (.int y16), .val (.int y17)] [(.int (if (own_z x2 x3) = 0 then (1 : Int32) else 0))])
      refine own_st (fun _ => XS.iload X.here hx rfl (hb hby at_202) rfl) ?_
      show own_E p e below Qq T15 (mkF m 204 #[.val (.int p0), .val (.int p1), .val (.int x2), .val (.int x3), .val (.int x4), .val (.int x5), .val (.ref a1), .val (.ref a3), .val (.ref a5), .val (.ref a6), .val (.int (own_le 39 x2 x3)), .val (.int (own_le 34 x2 x3)), .val (.int (own_le 39 x4 x5)), .val (.int (own_le 34 x4 x5)), .val (.int y14), .val (.int y15), .val (.int y16), .val (.int y17)] [(.int y16), (.int (if (own_z x2 x3) = 0 then (1 : Int32) else 0))])
      refine own_st (fun _ => XS.icmpNo X.here hx rfl (hb hby at_204) rfl (XT.ii_ne_f hy16.symm)) ?_
      show own_E p e below Qq T15 (mkF m 207 #[.val (.int p0), .val (.int p1), .val (.int x2), .val (.int x3), .val (.int x4), .val (.int x5), .val (.ref a1), .val (.ref a3), .val (.ref a5), .val (.ref a6), .val (.int (own_le 39 x2 x3)), .val (.int (own_le 34 x2 x3)), .val (.int (own_le 39 x4 x5)), .val (.int (own_le 34 x4 x5)), .val (.int y14), .val (.int y15), .val (.int y16), .val (.int y17)] [])
      refine own_st (fun _ => XS.aload X.here hx rfl (hb hby at_207) rfl rfl) ?_
      show own_E p e below Qq T15 (mkF m 209 #[.val (.int p0), .val (.int p1), .val (.int x2), .val (.int x3), .val (.int x4), .val (.int x5), .val (.ref a1), .val (.ref a3), .val (.ref a5), .val (.ref a6), .val (.int (own_le 39 x2 x3)), .val (.int (own_le 34 x2 x3)), .val (.int (own_le 39 x4 x5)), .val (.int (own_le 34 x4 x5)), .val (.int y14), .val (.int y15), .val (.int y16), .val (.int y17)] [(.ref a6)])
      refine own_callV X hx M.2.1 M.2.2.1 (hw _ (List.mem_of_getElem? (i := 89) rfl)) (hw _ (List.mem_of_getElem? (i := 90) rfl)) (hw _ (List.mem_of_getElem? (i := 92) rfl)) (hw _ (List.mem_of_getElem? (i := 91) rfl)) (hw _ (List.mem_of_getElem? (i := 24) rfl)) (hw _ (List.mem_of_getElem? (i := 93) rfl)) (by decide) (S6.1) (W := 0) (argsL := []) (rest := []) (rm16 l Z a0 hw a6 cs fv _ n0 b6 (own_z x4 x5) (own_t x4 x5) S6 C) (by decide) (by decide) (by decide) (by decide) rfl (by rw [hml]; rfl) (lenOf pd_7 rfl) rfl (by show 2 * 0 + _ ≤ _; exact Nat.le_of_eq rfl) (hb hby at_209) ?_
      intro T16 L16 v X' hq
      obtain ⟨rfl, N', e'⟩ := hq
      replace M := own_Tx (own_eqx e') M
      replace C := own_Cx (own_eqx e') C
      replace S5 := own_Sx (own_eqx e') S5
      replace S6 := own_Sx (own_eqx e') S6
      clear e'
      replace N := Fr.app N N'
      replace X : Stand p l e room_1 (s.setVm vm) m #[(.int p0), (.int p1)] below meth c T16 _ 14 420 := X'
      clear X' N'
      show own_E p e below Qq T16 (mkF m 212 #[.val (.int p0), .val (.int p1), .val (.int x2), .val (.int x3), .val (.int x4), .val (.int x5), .val (.ref a1), .val (.ref a3), .val (.ref a5), .val (.ref a6), .val (.int (own_le 39 x2 x3)), .val (.int (own_le 34 x2 x3)), .val (.int (own_le 39 x4 x5)), .val (.int (own_le 34 x4 x5)), .val (.int y14), .val (.int y15), .val (.int y16), .val (.int y17)] [(.int (if (own_z x4 x5) = 0 then (1 : Int32) else 0))])
      refine own_st (fun _ => XS.iload X.here hx rfl (hb hby at_212) rfl) ?_
      show own_E p e below Qq T16 (mkF m 214 #[.val (.int p0), .val (.int p1), .val (.int x2), .val (.int x3), .val (.int x4), .val (.int x5), .val (.ref a1), .val (.ref a3), .val (.ref a5), .val (.ref a6), .val (.int (own_le 39 x2 x3)), .val (.int (own_le 34 x2 x3)), .val (.int (own_le 39 x4 x5)), .val (.int (own_le 34 x4 x5)), .val (.int y14), .val (.int y15), .val (.int y16), .val (.int y17)] [(.int y17), (.int (if (own_z x4 x5) = 0 then (1 : Int32) else 0))])
      refine own_st (fun _ => XS.icmpNo X.here hx rfl (hb hby at_214) rfl (XT.ii_ne_f hy17.symm)) ?_
      show own_E p e below Qq T16 (mkF m 217 #[.val (.int p0), .val (.int p1), .val (.int x2), .val (.int x3), .val (.int x4), .val (.int x5), .val (.ref a1), .val (.ref a3), .val (.ref a5), .val (.ref a6), .val (.int (own_le 39 x2 x3)), .val (.int (own_le 34 x2 x3)), .val (.int (own_le 39 x4 x5)), .val (.int (own_le 34 x4 x5)), .val (.int y14), .val (.int y15), .val (.int y16), .val (.int y17)] [])
      refine own_st (fun _ => XS.aload X.here hx rfl (hb hby at_217) rfl rfl) ?_
      show own_E p e below Qq T16 (mkF m 219 #[.val (.int p0), .val (.int p1), .val (.int x2), .val (.int x3), .val (.int x4), .val (.int x5), .val (.ref a1), .val (.ref a3), .val (.ref a5), .val (.ref a6), .val (.int (own_le 39 x2 x3)), .val (.int (own_le 34 x2 x3)), .val (.int (own_le 39 x4 x5)), .val (.int (own_le 34 x4 x5)), .val (.int y14), .val (.int y15), .val (.int y16), .val (.int y17)] [(.ref a5)])
      refine own_st (fun _ => XS.iloadN X.here hx rfl (hb hby at_219) rfl) ?_
      show own_E p e below Qq T16 (mkF m 220 #[.val (.int p0), .val (.int p1), .val (.int x2), .val (.int x3), .val (.int x4), .val (.int x5), .val (.ref a1), .val (.ref a3), .val (.ref a5), .val (.ref a6), .val (.int (own_le 39 x2 x3)), .val (.int (own_le 34 x2 x3)), .val (.int (own_le 39 x4 x5)), .val (.int (own_le 34 x4 x5)), .val (.int y14), .val (.int y15), .val (.int y16), .val (.int y17)] [(.int x2), (.ref a5)])
      refine own_st (fun _ => XS.iloadN X.here hx rfl (hb hby at_220) rfl) ?_
      show own_E p e below Qq T16 (mkF m 221 #[.val (.int p0), .val (.int p1), .val (.int x2), .val (.int x3), .val (.int x4), .val (.int x5), .val (.ref a1), .val (.ref a3), .val (.ref a5), .val (.ref a6), .val (.int (own_le 39 x2 x3)), .val (.int (own_le 34 x2 x3)), .val (.int (own_le 39 x4 x5)), .val (.int (own_le 34 x4 x5)), .val (.int y14), .val (.int y15), .val (.int y16), .val (.int y17)] [(.int x3), (.int x2), (.ref a5)])
      refine own_callSS X hx hEL M (hw _ (List.mem_of_getElem? (i := 94) rfl)) (hw _ (List.mem_of_getElem? (i := 95) rfl)) (hw _ (List.mem_of_getElem? (i := 96) rfl)) (hw _ (List.mem_of_getElem? (i := 97) rfl)) (by decide) (W := 1) (argsL := [(.int x2), (.int x3)]) (rest := [(.ref a5)]) (rm17 l Z a0 hw x2 x3 cs fv _ n0) (by decide) (by decide) (by decide) (by decide) rfl (by rw [hml]; rfl) (lenOf pd_17 rfl) rfl (by show 2 * 0 + _ ≤ _; exact Nat.le_of_eq rfl) (hb hby at_221) ?_
      intro T17 vm17 L17 v X' M' hq
      obtain ⟨a17, b17, rfl, N', E', S17⟩ := hq
      clear M
      have M := M'
      clear M'
      replace C := own_Cx (E') C
      replace S5 := own_Sx (E') S5
      replace S6 := own_Sx (E') S6
      replace N := Fr.app N N'
      replace X : Stand p l e room_1 (s.setVm vm17) m #[(.int p0), (.int p1)] below meth c T17 _ 16 588 := X'
      clear X' N' E'
      show own_E p e below Qq T17 (mkF m 224 #[.val (.int p0), .val (.int p1), .val (.int x2), .val (.int x3), .val (.int x4), .val (.int x5), .val (.ref a1), .val (.ref a3), .val (.ref a5), .val (.ref a6), .val (.int (own_le 39 x2 x3)), .val (.int (own_le 34 x2 x3)), .val (.int (own_le 39 x4 x5)), .val (.int (own_le 34 x4 x5)), .val (.int y14), .val (.int y15), .val (.int y16), .val (.int y17)] [(.ref a17), (.ref a5)])
      refine own_callV X hx M.2.1 M.2.2.1 (hw _ (List.mem_of_getElem? (i := 79) rfl)) (hw _ (List.mem_of_getElem? (i := 80) rfl)) (hw _ (List.mem_of_getElem? (i := 82) rfl)) (hw _ (List.mem_of_getElem? (i := 81) rfl)) (hw _ (List.mem_of_getElem? (i := 24) rfl)) (hw _ (List.mem_of_getElem? (i := 83) rfl)) (by decide) (S5.1) (W := 0) (argsL := [(.ref a17)]) (rest := []) (rm14 l Z a0 hw a5 a17 cs fv _ n0 b5 b17 (own_z x2 x3) (own_z x2 x3) (own_t x2 x3) (own_t x2 x3) S5 S17 C (fun _ => rfl)) (by decide) (by decide) (by decide) (by decide) rfl (by rw [hml]; rfl) (lenOf pd_14 rfl) rfl (by show 2 * 0 + _ ≤ _; exact Nat.le_of_eq rfl) (hb hby at_224) ?_
      intro T18 L18 v X' hq
      obtain ⟨rfl, N', e'⟩ := hq
      replace M := own_Tx (own_eqx e') M
      replace C := own_Cx (own_eqx e') C
      replace S5 := own_Sx (own_eqx e') S5
      replace S6 := own_Sx (own_eqx e') S6
      replace S17 := own_Sx (own_eqx e') S17
      clear e'
      replace N := Fr.app N N'
      replace X : Stand p l e room_1 (s.setVm vm17) m #[(.int p0), (.int p1)] below meth c T18 _ 16 588 := X'
      clear X' N'
      show own_E p e below Qq T18 (mkF m 227 #[.val (.int p0), .val (.int p1), .val (.int x2), .val (.int x3), .val (.int x4), .val (.int x5), .val (.ref a1), .val (.ref a3), .val (.ref a5), .val (.ref a6), .val (.int (own_le 39 x2 x3)), .val (.int (own_le 34 x2 x3)), .val (.int (own_le 39 x4 x5)), .val (.int (own_le 34 x4 x5)), .val (.int y14), .val (.int y15), .val (.int y16), .val (.int y17)] [(.int (if (own_z x2 x3) = (own_z x2 x3) then (1 : Int32) else 0))])
      refine own_st (fun _ => XS.ifNo X.here hx rfl (hb hby at_227) rfl (XT.i0_eq_f (by rw [if_pos rfl]; decide))) ?_
      show own_E p e below Qq T18 (mkF m 230 #[.val (.int p0), .val (.int p1), .val (.int x2), .val (.int x3), .val (.int x4), .val (.int x5), .val (.ref a1), .val (.ref a3), .val (.ref a5), .val (.ref a6), .val (.int (own_le 39 x2 x3)), .val (.int (own_le 34 x2 x3)), .val (.int (own_le 39 x4 x5)), .val (.int (own_le 34 x4 x5)), .val (.int y14), .val (.int y15), .val (.int y16), .val (.int y17)] [])
      refine own_st (fun _ => XS.aload X.here hx rfl (hb hby at_230) rfl rfl) ?_
      show own_E p e below Qq T18 (mkF m 232 #[.val (.int p0), .val (.int p1), .val (.int x2), .val (.int x3), .val (.int x4), .val (.int x5), .val (.ref a1), .val (.ref a3), .val (.ref a5), .val (.ref a6), .val (.int (own_le 39 x2 x3)), .val (.int (own_le 34 x2 x3)), .val (.int (own_le 39 x4 x5)), .val (.int (own_le 34 x4 x5)), .val (.int y14), .val (.int y15), .val (.int y16), .val (.int y17)] [(.ref a6)])
      refine own_st (fun _ => XS.iload X.here hx rfl (hb hby at_232) rfl) ?_
      show own_E p e below Qq T18 (mkF m 234 #[.val (.int p0), .val (.int p1), .val (.int x2), .val (.int x3), .val (.int x4), .val (.int x5), .val (.ref a1), .val (.ref a3), .val (.ref a5), .val (.ref a6), .val (.int (own_le 39 x2 x3)), .val (.int (own_le 34 x2 x3)), .val (.int (own_le 39 x4 x5)), .val (.int (own_le 34 x4 x5)), .val (.int y14), .val (.int y15), .val (.int y16), .val (.int y17)] [(.int x4), (.ref a6)])
      refine own_st (fun _ => XS.iload X.here hx rfl (hb hby at_234) rfl) ?_
      show own_E p e below Qq T18 (mkF m 236 #[.val (.int p0), .val (.int p1), .val (.int x2), .val (.int x3), .val (.int x4), .val (.int x5), .val (.ref a1), .val (.ref a3), .val (.ref a5), .val (.ref a6), .val (.int (own_le 39 x2 x3)), .val (.int (own_le 34 x2 x3)), .val (.int (own_le 39 x4 x5)), .val (.int (own_le 34 x4 x5)), .val (.int y14), .val (.int y15), .val (.int y16), .val (.int y17)] [(.int x5), (.int x4), (.ref a6)])
      refine own_callSS X hx hEL M (hw _ (List.mem_of_getElem? (i := 94) rfl)) (hw _ (List.mem_of_getElem? (i := 95) rfl)) (hw _ (List.mem_of_getElem? (i := 96) rfl)) (hw _ (List.mem_of_getElem? (i := 97) rfl)) (by decide) (W := 1) (argsL := [(.int x4), (.int x5)]) (rest := [(.ref a6)]) (rm17 l Z a0 hw x4 x5 cs fv _ n0) (by decide) (by decide) (by decide) (by decide) rfl (by rw [hml]; rfl) (lenOf pd_17 rfl) rfl (by show 2 * 0 + _ ≤ _; exact Nat.le_of_eq rfl) (hb hby at_236) ?_
      intro T19 vm19 L19 v X' M' hq
      obtain ⟨a19, b19, rfl, N', E', S19⟩ := hq
      clear M
      have M := M'
      clear M'
      replace C := own_Cx (E') C
      replace S5 := own_Sx (E') S5
      replace S6 := own_Sx (E') S6
      replace S17 := own_Sx (E') S17
      replace N := Fr.app N N'
      replace X : Stand p l e room_1 (s.setVm vm19) m #[(.int p0), (.int p1)] below meth c T19 _ 18 756 := X'
      clear X' N' E'
      show own_E p e below Qq T19 (mkF m 239 #[.val (.int p0), .val (.int p1), .val (.int x2), .val (.int x3), .val (.int x4), .val (.int x5), .val (.ref a1), .val (.ref a3), .val (.ref a5), .val (.ref a6), .val (.int (own_le 39 x2 x3)), .val (.int (own_le 34 x2 x3)), .val (.int (own_le 39 x4 x5)), .val (.int (own_le 34 x4 x5)), .val (.int y14), .val (.int y15), .val (.int y16), .val (.int y17)] [(.ref a19), (.ref a6)])
      refine own_callV X hx M.2.1 M.2.2.1 (hw _ (List.mem_of_getElem? (i := 79) rfl)) (hw _ (List.mem_of_getElem? (i := 80) rfl)) (hw _ (List.mem_of_getElem? (i := 82) rfl)) (hw _ (List.mem_of_getElem? (i := 81) rfl)) (hw _ (List.mem_of_getElem? (i := 24) rfl)) (hw _ (List.mem_of_getElem? (i := 83) rfl)) (by decide) (S6.1) (W := 0) (argsL := [(.ref a19)]) (rest := []) (rm14 l Z a0 hw a6 a19 cs fv _ n0 b6 b19 (own_z x4 x5) (own_z x4 x5) (own_t x4 x5) (own_t x4 x5) S6 S19 C (fun _ => rfl)) (by decide) (by decide) (by decide) (by decide) rfl (by rw [hml]; rfl) (lenOf pd_14 rfl) rfl (by show 2 * 0 + _ ≤ _; exact Nat.le_of_eq rfl) (hb hby at_239) ?_
      intro T20 L20 v X' hq
      obtain ⟨rfl, N', e'⟩ := hq
      replace M := own_Tx (own_eqx e') M
      replace C := own_Cx (own_eqx e') C
      replace S5 := own_Sx (own_eqx e') S5
      replace S6 := own_Sx (own_eqx e') S6
      replace S17 := own_Sx (own_eqx e') S17
      replace S19 := own_Sx (own_eqx e') S19
      clear e'
      replace N := Fr.app N N'
      replace X : Stand p l e room_1 (s.setVm vm19) m #[(.int p0), (.int p1)] below meth c T20 _ 18 756 := X'
      clear X' N'
      show own_E p e below Qq T20 (mkF m 242 #[.val (.int p0), .val (.int p1), .val (.int x2), .val (.int x3), .val (.int x4), .val (.int x5), .val (.ref a1), .val (.ref a3), .val (.ref a5), .val (.ref a6), .val (.int (own_le 39 x2 x3)), .val (.int (own_le 34 x2 x3)), .val (.int (own_le 39 x4 x5)), .val (.int (own_le 34 x4 x5)), .val (.int y14), .val (.int y15), .val (.int y16), .val (.int y17)] [(.int (if (own_z x4 x5) = (own_z x4 x5) then (1 : Int32) else 0))])
      refine own_st (fun _ => XS.ifNo X.here hx rfl (hb hby at_242) rfl (XT.i0_eq_f (by rw [if_pos rfl]; decide))) ?_
      show own_E p e below Qq T20 (mkF m 245 #[.val (.int p0), .val (.int p1), .val (.int x2), .val (.int x3), .val (.int x4), .val (.int x5), .val (.ref a1), .val (.ref a3), .val (.ref a5), .val (.ref a6), .val (.int (own_le 39 x2 x3)), .val (.int (own_le 34 x2 x3)), .val (.int (own_le 39 x4 x5)), .val (.int (own_le 34 x4 x5)), .val (.int y14), .val (.int y15), .val (.int y16), .val (.int y17)] [])
      refine own_st (fun _ => XS.iconst X.here hx rfl (hb hby at_245)) ?_
      show own_E p e below Qq T20 (mkF m 246 #[.val (.int p0), .val (.int p1), .val (.int x2), .val (.int x3), .val (.int x4), .val (.int x5), .val (.ref a1), .val (.ref a3), .val (.ref a5), .val (.ref a6), .val (.int (own_le 39 x2 x3)), .val (.int (own_le 34 x2 x3)), .val (.int (own_le 39 x4 x5)), .val (.int (own_le 34 x4 x5)), .val (.int y14), .val (.int y15), .val (.int y16), .val (.int y17)] [(.int (1 : Int32))])
      refine own_st (fun _ => XS.goto X.here hx rfl (pc0 := 246) (pc' := 250) rfl (hb hby at_246) (by decide) (by decide)) ?_
      show own_E p e below Qq T20 (mkF m 250 #[.val (.int p0), .val (.int p1), .val (.int x2), .val (.int x3), .val (.int x4), .val (.int x5), .val (.ref a1), .val (.ref a3), .val (.ref a5), .val (.ref a6), .val (.int (own_le 39 x2 x3)), .val (.int (own_le 34 x2 x3)), .val (.int (own_le 39 x4 x5)), .val (.int (own_le 34 x4 x5)), .val (.int y14), .val (.int y15), .val (.int y16), .val (.int y17)] [(.int (1 : Int32))])
      rw [← hQ]
      exact own_retNS X hx hlk (ty := .boolean) hret (by simp) hEL M (hb hby at_250) (by decide) (by decide) ⟨rfl, N, trivial⟩
    have K173 : ∀ (T : State) (vm : Vm) (L : List Loc) (y14 y15 y16 : Int32), Stand p l e room_1 (s.setVm vm) m #[(.int p0), (.int p1)] below meth c T L 14 420 → own_T Z consts_1 s x.cls m.cls vm T.heap → own_C Z T.heap cs fv → own_S Z T.heap a5 b5 (own_z x2 x3) (own_t x2 x3) → own_S Z T.heap a6 b6 (own_z x4 x5) (own_t x4 x5) → Fr n0 L → y14 = (if (own_z x2 x3) = (own_z x4 x5) then (1 : Int32) else 0) → y15 = (if (own_z x2 x3) = (own_z x4 x5) then (1 : Int32) else 0) → y16 = (if (own_z x2 x3) = 0 then (1 : Int32) else 0) → own_E p e below Qq T (mkF m 173 #[.val (.int p0), .val (.int p1), .val (.int x2), .val (.int x3), .val (.int x4), .val (.int x5), .val (.ref a1), .val (.ref a3), .val (.ref a5), .val (.ref a6), .val (.int (own_le 39 x2 x3)), .val (.int (own_le 34 x2 x3)), .val (.int (own_le 39 x4 x5)), .val (.int (own_le 34 x4 x5)), .val (.int y14), .val (.int y15), .val (.int y16), .unset] []) := by
      intro T vm L y14 y15 y16 X M C S5 S6 N hy14 hy15 hy16
      refine own_st (fun _ => XS.iload X.here hx rfl (hb hby at_173) rfl) ?_
      show own_E p e below Qq T (mkF m 175 #[.val (.int p0), .val (.int p1), .val (.int x2), .val (.int x3), .val (.int x4), .val (.int x5), .val (.ref a1), .val (.ref a3), .val (.ref a5), .val (.ref a6), .val (.int (own_le 39 x2 x3)), .val (.int (own_le 34 x2 x3)), .val (.int (own_le 39 x4 x5)), .val (.int (own_le 34 x4 x5)), .val (.int y14), .val (.int y15), .val (.int y16), .unset] [(.int x4)])
      by_cases q175 : x4 = (0 : Int32)
      · have _ := Nat.zero_le 0
        refine own_st (fun _ => XS.ifYes X.here hx rfl (pc0 := 175) (pc' := 187) rfl (hb hby at_175) rfl (XT.i0_eq_t q175) (by decide) (by decide)) ?_
        show own_E p e below Qq T (mkF m 187 #[.val (.int p0), .val (.int p1), .val (.int x2), .val (.int x3), .val (.int x4), .val (.int x5), .val (.ref a1), .val (.ref a3), .val (.ref a5), .val (.ref a6), .val (.int (own_le 39 x2 x3)), .val (.int (own_le 34 x2 x3)), .val (.int (own_le 39 x4 x5)), .val (.int (own_le 34 x4 x5)), .val (.int y14), .val (.int y15), .val (.int y16), .unset] [])
        refine own_st (fun _ => XS.iconst X.here hx rfl (hb hby at_187)) ?_
        show own_E p e below Qq T (mkF m 188 #[.val (.int p0), .val (.int p1), .val (.int x2), .val (.int x3), .val (.int x4), .val (.int x5), .val (.ref a1), .val (.ref a3), .val (.ref a5), .val (.ref a6), .val (.int (own_le 39 x2 x3)), .val (.int (own_le 34 x2 x3)), .val (.int (own_le 39 x4 x5)), .val (.int (own_le 34 x4 x5)), .val (.int y14), .val (.int y15), .val (.int y16), .unset] [(.int (0 : Int32))])
        refine own_st (fun _ => XS.istore X.here hx rfl (hb hby at_188) rfl (l' := #[.val (.int p0), .val (.int p1), .val (.int x2), .val (.int x3), .val (.int x4), .val (.int x5), .val (.ref a1), .val (.ref a3), .val (.ref a5), .val (.ref a6), .val (.int (own_le 39 x2 x3)), .val (.int (own_le 34 x2 x3)), .val (.int (own_le 39 x4 x5)), .val (.int (own_le 34 x4 x5)), .val (.int y14), .val (.int y15), .val (.int y16), .val (.int (0 : Int32))]) rfl) ?_
        show own_E p e below Qq T (mkF m 190 #[.val (.int p0), .val (.int p1), .val (.int x2), .val (.int x3), .val (.int x4), .val (.int x5), .val (.ref a1), .val (.ref a3), .val (.ref a5), .val (.ref a6), .val (.int (own_le 39 x2 x3)), .val (.int (own_le 34 x2 x3)), .val (.int (own_le 39 x4 x5)), .val (.int (own_le 34 x4 x5)), .val (.int y14), .val (.int y15), .val (.int y16), .val (.int (0 : Int32))] [])
        exact K190 _ _ _ _ _ _ _ X M C S5 S6 N hy14 hy15 hy16 (by rw [show own_z x4 x5 = 41 from if_pos q175]; rfl)
      · have _ := Nat.zero_le 0
        refine own_st (fun _ => XS.ifNo X.here hx rfl (hb hby at_175) rfl (XT.i0_eq_f q175)) ?_
        show own_E p e below Qq T (mkF m 178 #[.val (.int p0), .val (.int p1), .val (.int x2), .val (.int x3), .val (.int x4), .val (.int x5), .val (.ref a1), .val (.ref a3), .val (.ref a5), .val (.ref a6), .val (.int (own_le 39 x2 x3)), .val (.int (own_le 34 x2 x3)), .val (.int (own_le 39 x4 x5)), .val (.int (own_le 34 x4 x5)), .val (.int y14), .val (.int y15), .val (.int y16), .unset] [])
        refine own_st (fun _ => XS.iload X.here hx rfl (hb hby at_178) rfl) ?_
        show own_E p e below Qq T (mkF m 180 #[.val (.int p0), .val (.int p1), .val (.int x2), .val (.int x3), .val (.int x4), .val (.int x5), .val (.ref a1), .val (.ref a3), .val (.ref a5), .val (.ref a6), .val (.int (own_le 39 x2 x3)), .val (.int (own_le 34 x2 x3)), .val (.int (own_le 39 x4 x5)), .val (.int (own_le 34 x4 x5)), .val (.int y14), .val (.int y15), .val (.int y16), .unset] [(.int x5)])
        by_cases q180 : x5 = (0 : Int32)
        · have _ := Nat.zero_le 0
          refine own_st (fun _ => XS.ifNo X.here hx rfl (hb hby at_180) rfl (XT.i0_ne_f q180)) ?_
          show own_E p e below Qq T (mkF m 183 #[.val (.int p0), .val (.int p1), .val (.int x2), .val (.int x3), .val (.int x4), .val (.int x5), .val (.ref a1), .val (.ref a3), .val (.ref a5), .val (.ref a6), .val (.int (own_le 39 x2 x3)), .val (.int (own_le 34 x2 x3)), .val (.int (own_le 39 x4 x5)), .val (.int (own_le 34 x4 x5)), .val (.int y14), .val (.int y15), .val (.int y16), .unset] [])
          refine own_st (fun _ => XS.iconst X.here hx rfl (hb hby at_183)) ?_
          show own_E p e below Qq T (mkF m 184 #[.val (.int p0), .val (.int p1), .val (.int x2), .val (.int x3), .val (.int x4), .val (.int x5), .val (.ref a1), .val (.ref a3), .val (.ref a5), .val (.ref a6), .val (.int (own_le 39 x2 x3)), .val (.int (own_le 34 x2 x3)), .val (.int (own_le 39 x4 x5)), .val (.int (own_le 34 x4 x5)), .val (.int y14), .val (.int y15), .val (.int y16), .unset] [(.int (1 : Int32))])
          refine own_st (fun _ => XS.goto X.here hx rfl (pc0 := 184) (pc' := 188) rfl (hb hby at_184) (by decide) (by decide)) ?_
          show own_E p e below Qq T (mkF m 188 #[.val (.int p0), .val (.int p1), .val (.int x2), .val (.int x3), .val (.int x4), .val (.int x5), .val (.ref a1), .val (.ref a3), .val (.ref a5), .val (.ref a6), .val (.int (own_le 39 x2 x3)), .val (.int (own_le 34 x2 x3)), .val (.int (own_le 39 x4 x5)), .val (.int (own_le 34 x4 x5)), .val (.int y14), .val (.int y15), .val (.int y16), .unset] [(.int (1 : Int32))])
          refine own_st (fun _ => XS.istore X.here hx rfl (hb hby at_188) rfl (l' := #[.val (.int p0), .val (.int p1), .val (.int x2), .val (.int x3), .val (.int x4), .val (.int x5), .val (.ref a1), .val (.ref a3), .val (.ref a5), .val (.ref a6), .val (.int (own_le 39 x2 x3)), .val (.int (own_le 34 x2 x3)), .val (.int (own_le 39 x4 x5)), .val (.int (own_le 34 x4 x5)), .val (.int y14), .val (.int y15), .val (.int y16), .val (.int (1 : Int32))]) rfl) ?_
          show own_E p e below Qq T (mkF m 190 #[.val (.int p0), .val (.int p1), .val (.int x2), .val (.int x3), .val (.int x4), .val (.int x5), .val (.ref a1), .val (.ref a3), .val (.ref a5), .val (.ref a6), .val (.int (own_le 39 x2 x3)), .val (.int (own_le 34 x2 x3)), .val (.int (own_le 39 x4 x5)), .val (.int (own_le 34 x4 x5)), .val (.int y14), .val (.int y15), .val (.int y16), .val (.int (1 : Int32))] [])
          exact K190 _ _ _ _ _ _ _ X M C S5 S6 N hy14 hy15 hy16 (by rw [show own_z x4 x5 = 0 from (if_neg q175).trans (if_pos q180)]; rfl)
        · have _ := Nat.zero_le 0
          refine own_st (fun _ => XS.ifYes X.here hx rfl (pc0 := 180) (pc' := 187) rfl (hb hby at_180) rfl (XT.i0_ne_t q180) (by decide) (by decide)) ?_
          show own_E p e below Qq T (mkF m 187 #[.val (.int p0), .val (.int p1), .val (.int x2), .val (.int x3), .val (.int x4), .val (.int x5), .val (.ref a1), .val (.ref a3), .val (.ref a5), .val (.ref a6), .val (.int (own_le 39 x2 x3)), .val (.int (own_le 34 x2 x3)), .val (.int (own_le 39 x4 x5)), .val (.int (own_le 34 x4 x5)), .val (.int y14), .val (.int y15), .val (.int y16), .unset] [])
          refine own_st (fun _ => XS.iconst X.here hx rfl (hb hby at_187)) ?_
          show own_E p e below Qq T (mkF m 188 #[.val (.int p0), .val (.int p1), .val (.int x2), .val (.int x3), .val (.int x4), .val (.int x5), .val (.ref a1), .val (.ref a3), .val (.ref a5), .val (.ref a6), .val (.int (own_le 39 x2 x3)), .val (.int (own_le 34 x2 x3)), .val (.int (own_le 39 x4 x5)), .val (.int (own_le 34 x4 x5)), .val (.int y14), .val (.int y15), .val (.int y16), .unset] [(.int (0 : Int32))])
          refine own_st (fun _ => XS.istore X.here hx rfl (hb hby at_188) rfl (l' := #[.val (.int p0), .val (.int p1), .val (.int x2), .val (.int x3), .val (.int x4), .val (.int x5), .val (.ref a1), .val (.ref a3), .val (.ref a5), .val (.ref a6), .val (.int (own_le 39 x2 x3)), .val (.int (own_le 34 x2 x3)), .val (.int (own_le 39 x4 x5)), .val (.int (own_le 34 x4 x5)), .val (.int y14), .val (.int y15), .val (.int y16), .val (.int (0 : Int32))]) rfl) ?_
          show own_E p e below Qq T (mkF m 190 #[.val (.int p0), .val (.int p1), .val (.int x2), .val (.int x3), .val (.int x4), .val (.int x5), .val (.ref a1), .val (.ref a3), .val (.ref a5), .val (.ref a6), .val (.int (own_le 39 x2 x3)), .val (.int (own_le 34 x2 x3)), .val (.int (own_le 39 x4 x5)), .val (.int (own_le 34 x4 x5)), .val (.int y14), .val (.int y15), .val (.int y16), .val (.int (0 : Int32))] [])
          exact K190 _ _ _ _ _ _ _ X M C S5 S6 N hy14 hy15 hy16 (by rw [show own_z x4 x5 = 32 from (if_neg q175).trans (if_neg q180)]; rfl)
    have K158 : ∀ (T : State) (vm : Vm) (L : List Loc) (y14 y15 : Int32), Stand p l e room_1 (s.setVm vm) m #[(.int p0), (.int p1)] below meth c T L 14 420 → own_T Z consts_1 s x.cls m.cls vm T.heap → own_C Z T.heap cs fv → own_S Z T.heap a5 b5 (own_z x2 x3) (own_t x2 x3) → own_S Z T.heap a6 b6 (own_z x4 x5) (own_t x4 x5) → Fr n0 L → y14 = (if (own_z x2 x3) = (own_z x4 x5) then (1 : Int32) else 0) → y15 = (if (own_z x2 x3) = (own_z x4 x5) then (1 : Int32) else 0) → own_E p e below Qq T (mkF m 158 #[.val (.int p0), .val (.int p1), .val (.int x2), .val (.int x3), .val (.int x4), .val (.int x5), .val (.ref a1), .val (.ref a3), .val (.ref a5), .val (.ref a6), .val (.int (own_le 39 x2 x3)), .val (.int (own_le 34 x2 x3)), .val (.int (own_le 39 x4 x5)), .val (.int (own_le 34 x4 x5)), .val (.int y14), .val (.int y15), .unset, .unset] []) := by
      intro T vm L y14 y15 X M C S5 S6 N hy14 hy15
      refine own_st (fun _ => XS.iloadN X.here hx rfl (hb hby at_158) rfl) ?_
      show own_E p e below Qq T (mkF m 159 #[.val (.int p0), .val (.int p1), .val (.int x2), .val (.int x3), .val (.int x4), .val (.int x5), .val (.ref a1), .val (.ref a3), .val (.ref a5), .val (.ref a6), .val (.int (own_le 39 x2 x3)), .val (.int (own_le 34 x2 x3)), .val (.int (own_le 39 x4 x5)), .val (.int (own_le 34 x4 x5)), .val (.int y14), .val (.int y15), .unset, .unset] [(.int x2)])
      by_cases q159 : x2 = (0 : Int32)
      · have _ := Nat.zero_le 0
        refine own_st (fun _ => XS.ifYes X.here hx rfl (pc0 := 159) (pc' := 170) rfl (hb hby at_159) rfl (XT.i0_eq_t q159) (by decide) (by decide)) ?_
        show own_E p e below Qq T (mkF m 170 #[.val (.int p0), .val (.int p1), .val (.int x2), .val (.int x3), .val (.int x4), .val (.int x5), .val (.ref a1), .val (.ref a3), .val (.ref a5), .val (.ref a6), .val (.int (own_le 39 x2 x3)), .val (.int (own_le 34 x2 x3)), .val (.int (own_le 39 x4 x5)), .val (.int (own_le 34 x4 x5)), .val (.int y14), .val (.int y15), .unset, .unset] [])
        refine own_st (fun _ => XS.iconst X.here hx rfl (hb hby at_170)) ?_
        show own_E p e below Qq T (mkF m 171 #[.val (.int p0), .val (.int p1), .val (.int x2), .val (.int x3), .val (.int x4), .val (.int x5), .val (.ref a1), .val (.ref a3), .val (.ref a5), .val (.ref a6), .val (.int (own_le 39 x2 x3)), .val (.int (own_le 34 x2 x3)), .val (.int (own_le 39 x4 x5)), .val (.int (own_le 34 x4 x5)), .val (.int y14), .val (.int y15), .unset, .unset] [(.int (0 : Int32))])
        refine own_st (fun _ => XS.istore X.here hx rfl (hb hby at_171) rfl (l' := #[.val (.int p0), .val (.int p1), .val (.int x2), .val (.int x3), .val (.int x4), .val (.int x5), .val (.ref a1), .val (.ref a3), .val (.ref a5), .val (.ref a6), .val (.int (own_le 39 x2 x3)), .val (.int (own_le 34 x2 x3)), .val (.int (own_le 39 x4 x5)), .val (.int (own_le 34 x4 x5)), .val (.int y14), .val (.int y15), .val (.int (0 : Int32)), .unset]) rfl) ?_
        show own_E p e below Qq T (mkF m 173 #[.val (.int p0), .val (.int p1), .val (.int x2), .val (.int x3), .val (.int x4), .val (.int x5), .val (.ref a1), .val (.ref a3), .val (.ref a5), .val (.ref a6), .val (.int (own_le 39 x2 x3)), .val (.int (own_le 34 x2 x3)), .val (.int (own_le 39 x4 x5)), .val (.int (own_le 34 x4 x5)), .val (.int y14), .val (.int y15), .val (.int (0 : Int32)), .unset] [])
        exact K173 _ _ _ _ _ _ X M C S5 S6 N hy14 hy15 (by rw [show own_z x2 x3 = 41 from if_pos q159]; rfl)
      · have _ := Nat.zero_le 0
        refine own_st (fun _ => XS.ifNo X.here hx rfl (hb hby at_159) rfl (XT.i0_eq_f q159)) ?_
        show own_E p e below Qq T (mkF m 162 #[.val (.int p0), .val (.int p1), .val (.int x2), .val (.int x3), .val (.int x4), .val (.int x5), .val (.ref a1), .val (.ref a3), .val (.ref a5), .val (.ref a6), .val (.int (own_le 39 x2 x3)), .val (.int (own_le 34 x2 x3)), .val (.int (own_le 39 x4 x5)), .val (.int (own_le 34 x4 x5)), .val (.int y14), .val (.int y15), .unset, .unset] [])
        refine own_st (fun _ => XS.iloadN X.here hx rfl (hb hby at_162) rfl) ?_
        show own_E p e below Qq T (mkF m 163 #[.val (.int p0), .val (.int p1), .val (.int x2), .val (.int x3), .val (.int x4), .val (.int x5), .val (.ref a1), .val (.ref a3), .val (.ref a5), .val (.ref a6), .val (.int (own_le 39 x2 x3)), .val (.int (own_le 34 x2 x3)), .val (.int (own_le 39 x4 x5)), .val (.int (own_le 34 x4 x5)), .val (.int y14), .val (.int y15), .unset, .unset] [(.int x3)])
        by_cases q163 : x3 = (0 : Int32)
        · have _ := Nat.zero_le 0
          refine own_st (fun _ => XS.ifNo X.here hx rfl (hb hby at_163) rfl (XT.i0_ne_f q163)) ?_
          show own_E p e below Qq T (mkF m 166 #[.val (.int p0), .val (.int p1), .val (.int x2), .val (.int x3), .val (.int x4), .val (.int x5), .val (.ref a1), .val (.ref a3), .val (.ref a5), .val (.ref a6), .val (.int (own_le 39 x2 x3)), .val (.int (own_le 34 x2 x3)), .val (.int (own_le 39 x4 x5)), .val (.int (own_le 34 x4 x5)), .val (.int y14), .val (.int y15), .unset, .unset] [])
          refine own_st (fun _ => XS.iconst X.here hx rfl (hb hby at_166)) ?_
          show own_E p e below Qq T (mkF m 167 #[.val (.int p0), .val (.int p1), .val (.int x2), .val (.int x3), .val (.int x4), .val (.int x5), .val (.ref a1), .val (.ref a3), .val (.ref a5), .val (.ref a6), .val (.int (own_le 39 x2 x3)), .val (.int (own_le 34 x2 x3)), .val (.int (own_le 39 x4 x5)), .val (.int (own_le 34 x4 x5)), .val (.int y14), .val (.int y15), .unset, .unset] [(.int (1 : Int32))])
          refine own_st (fun _ => XS.goto X.here hx rfl (pc0 := 167) (pc' := 171) rfl (hb hby at_167) (by decide) (by decide)) ?_
          show own_E p e below Qq T (mkF m 171 #[.val (.int p0), .val (.int p1), .val (.int x2), .val (.int x3), .val (.int x4), .val (.int x5), .val (.ref a1), .val (.ref a3), .val (.ref a5), .val (.ref a6), .val (.int (own_le 39 x2 x3)), .val (.int (own_le 34 x2 x3)), .val (.int (own_le 39 x4 x5)), .val (.int (own_le 34 x4 x5)), .val (.int y14), .val (.int y15), .unset, .unset] [(.int (1 : Int32))])
          refine own_st (fun _ => XS.istore X.here hx rfl (hb hby at_171) rfl (l' := #[.val (.int p0), .val (.int p1), .val (.int x2), .val (.int x3), .val (.int x4), .val (.int x5), .val (.ref a1), .val (.ref a3), .val (.ref a5), .val (.ref a6), .val (.int (own_le 39 x2 x3)), .val (.int (own_le 34 x2 x3)), .val (.int (own_le 39 x4 x5)), .val (.int (own_le 34 x4 x5)), .val (.int y14), .val (.int y15), .val (.int (1 : Int32)), .unset]) rfl) ?_
          show own_E p e below Qq T (mkF m 173 #[.val (.int p0), .val (.int p1), .val (.int x2), .val (.int x3), .val (.int x4), .val (.int x5), .val (.ref a1), .val (.ref a3), .val (.ref a5), .val (.ref a6), .val (.int (own_le 39 x2 x3)), .val (.int (own_le 34 x2 x3)), .val (.int (own_le 39 x4 x5)), .val (.int (own_le 34 x4 x5)), .val (.int y14), .val (.int y15), .val (.int (1 : Int32)), .unset] [])
          exact K173 _ _ _ _ _ _ X M C S5 S6 N hy14 hy15 (by rw [show own_z x2 x3 = 0 from (if_neg q159).trans (if_pos q163)]; rfl)
        · have _ := Nat.zero_le 0
          refine own_st (fun _ => XS.ifYes X.here hx rfl (pc0 := 163) (pc' := 170) rfl (hb hby at_163) rfl (XT.i0_ne_t q163) (by decide) (by decide)) ?_
          show own_E p e below Qq T (mkF m 170 #[.val (.int p0), .val (.int p1), .val (.int x2), .val (.int x3), .val (.int x4), .val (.int x5), .val (.ref a1), .val (.ref a3), .val (.ref a5), .val (.ref a6), .val (.int (own_le 39 x2 x3)), .val (.int (own_le 34 x2 x3)), .val (.int (own_le 39 x4 x5)), .val (.int (own_le 34 x4 x5)), .val (.int y14), .val (.int y15), .unset, .unset] [])
          refine own_st (fun _ => XS.iconst X.here hx rfl (hb hby at_170)) ?_
          show own_E p e below Qq T (mkF m 171 #[.val (.int p0), .val (.int p1), .val (.int x2), .val (.int x3), .val (.int x4), .val (.int x5), .val (.ref a1), .val (.ref a3), .val (.ref a5), .val (.ref a6), .val (.int (own_le 39 x2 x3)), .val (.int (own_le 34 x2 x3)), .val (.int (own_le 39 x4 x5)), .val (.int (own_le 34 x4 x5)), .val (.int y14), .val (.int y15), .unset, .unset] [(.int (0 : Int32))])
          refine own_st (fun _ => XS.istore X.here hx rfl (hb hby at_171) rfl (l' := #[.val (.int p0), .val (.int p1), .val (.int x2), .val (.int x3), .val (.int x4), .val (.int x5), .val (.ref a1), .val (.ref a3), .val (.ref a5), .val (.ref a6), .val (.int (own_le 39 x2 x3)), .val (.int (own_le 34 x2 x3)), .val (.int (own_le 39 x4 x5)), .val (.int (own_le 34 x4 x5)), .val (.int y14), .val (.int y15), .val (.int (0 : Int32)), .unset]) rfl) ?_
          show own_E p e below Qq T (mkF m 173 #[.val (.int p0), .val (.int p1), .val (.int x2), .val (.int x3), .val (.int x4), .val (.int x5), .val (.ref a1), .val (.ref a3), .val (.ref a5), .val (.ref a6), .val (.int (own_le 39 x2 x3)), .val (.int (own_le 34 x2 x3)), .val (.int (own_le 39 x4 x5)), .val (.int (own_le 34 x4 x5)), .val (.int y14), .val (.int y15), .val (.int (0 : Int32)), .unset] [])
          exact K173 _ _ _ _ _ _ X M C S5 S6 N hy14 hy15 (by rw [show own_z x2 x3 = 32 from (if_neg q159).trans (if_neg q163)]; rfl)
    have K149 : ∀ (T : State) (vm : Vm) (L : List Loc) (y14 : Int32), Stand p l e room_1 (s.setVm vm) m #[(.int p0), (.int p1)] below meth c T L 14 420 → own_T Z consts_1 s x.cls m.cls vm T.heap → own_C Z T.heap cs fv → own_S Z T.heap a5 b5 (own_z x2 x3) (own_t x2 x3) → own_S Z T.heap a6 b6 (own_z x4 x5) (own_t x4 x5) → Fr n0 L → y14 = (if (own_z x2 x3) = (own_z x4 x5) then (1 : Int32) else 0) → own_E p e below Qq T (mkF m 149 #[.val (.int p0), .val (.int p1), .val (.int x2), .val (.int x3), .val (.int x4), .val (.int x5), .val (.ref a1), .val (.ref a3), .val (.ref a5), .val (.ref a6), .val (.int (own_le 39 x2 x3)), .val (.int (own_le 34 x2 x3)), .val (.int (own_le 39 x4 x5)), .val (.int (own_le 34 x4 x5)), .val (.int y14), .unset, .unset, .unset] []) := by
      intro T vm L y14 X M C S5 S6 N hy14
      refine own_st (fun _ => XS.aload X.here hx rfl (hb hby at_149) rfl rfl) ?_
      show own_E p e below Qq T (mkF m 151 #[.val (.int p0), .val (.int p1), .val (.int x2), .val (.int x3), .val (.int x4), .val (.int x5), .val (.ref a1), .val (.ref a3), .val (.ref a5), .val (.ref a6), .val (.int (own_le 39 x2 x3)), .val (.int (own_le 34 x2 x3)), .val (.int (own_le 39 x4 x5)), .val (.int (own_le 34 x4 x5)), .val (.int y14), .unset, .unset, .unset] [(.ref a5)])
      refine own_st (fun _ => XS.aload X.here hx rfl (hb hby at_151) rfl rfl) ?_
      show own_E p e below Qq T (mkF m 153 #[.val (.int p0), .val (.int p1), .val (.int x2), .val (.int x3), .val (.int x4), .val (.int x5), .val (.ref a1), .val (.ref a3), .val (.ref a5), .val (.ref a6), .val (.int (own_le 39 x2 x3)), .val (.int (own_le 34 x2 x3)), .val (.int (own_le 39 x4 x5)), .val (.int (own_le 34 x4 x5)), .val (.int y14), .unset, .unset, .unset] [(.ref a6), (.ref a5)])
      refine own_callV X hx M.2.1 M.2.2.1 (hw _ (List.mem_of_getElem? (i := 79) rfl)) (hw _ (List.mem_of_getElem? (i := 80) rfl)) (hw _ (List.mem_of_getElem? (i := 82) rfl)) (hw _ (List.mem_of_getElem? (i := 81) rfl)) (hw _ (List.mem_of_getElem? (i := 24) rfl)) (hw _ (List.mem_of_getElem? (i := 83) rfl)) (by decide) (S5.1) (W := 0) (argsL := [(.ref a6)]) (rest := []) (rm14 l Z a0 hw a5 a6 cs fv _ n0 b5 b6 (own_z x2 x3) (own_z x4 x5) (own_t x2 x3) (own_t x4 x5) S5 S6 C (own_zt hx2 hx3 hx4 hx5)) (by decide) (by decide) (by decide) (by decide) rfl (by rw [hml]; rfl) (lenOf pd_14 rfl) rfl (by show 2 * 0 + _ ≤ _; exact Nat.le_of_eq rfl) (hb hby at_153) ?_
      intro T21 L21 v X' hq
      obtain ⟨rfl, N', e'⟩ := hq
      replace M := own_Tx (own_eqx e') M
      replace C := own_Cx (own_eqx e') C
      replace S5 := own_Sx (own_eqx e') S5
      replace S6 := own_Sx (own_eqx e') S6
      clear e'
      replace N := Fr.app N N'
      replace X : Stand p l e room_1 (s.setVm vm) m #[(.int p0), (.int p1)] below meth c T21 _ 14 420 := X'
      clear X' N'
      show own_E p e below Qq T21 (mkF m 156 #[.val (.int p0), .val (.int p1), .val (.int x2), .val (.int x3), .val (.int x4), .val (.int x5), .val (.ref a1), .val (.ref a3), .val (.ref a5), .val (.ref a6), .val (.int (own_le 39 x2 x3)), .val (.int (own_le 34 x2 x3)), .val (.int (own_le 39 x4 x5)), .val (.int (own_le 34 x4 x5)), .val (.int y14), .unset, .unset, .unset] [(.int (if (own_z x2 x3) = (own_z x4 x5) then (1 : Int32) else 0))])
      refine own_st (fun _ => XS.istore X.here hx rfl (hb hby at_156) rfl (l' := #[.val (.int p0), .val (.int p1), .val (.int x2), .val (.int x3), .val (.int x4), .val (.int x5), .val (.ref a1), .val (.ref a3), .val (.ref a5), .val (.ref a6), .val (.int (own_le 39 x2 x3)), .val (.int (own_le 34 x2 x3)), .val (.int (own_le 39 x4 x5)), .val (.int (own_le 34 x4 x5)), .val (.int y14), .val (.int (if (own_z x2 x3) = (own_z x4 x5) then (1 : Int32) else 0)), .unset, .unset]) rfl) ?_
      show own_E p e below Qq T21 (mkF m 158 #[.val (.int p0), .val (.int p1), .val (.int x2), .val (.int x3), .val (.int x4), .val (.int x5), .val (.ref a1), .val (.ref a3), .val (.ref a5), .val (.ref a6), .val (.int (own_le 39 x2 x3)), .val (.int (own_le 34 x2 x3)), .val (.int (own_le 39 x4 x5)), .val (.int (own_le 34 x4 x5)), .val (.int y14), .val (.int (if (own_z x2 x3) = (own_z x4 x5) then (1 : Int32) else 0)), .unset, .unset] [])
      exact K158 _ _ _ _ _ X M C S5 S6 N hy14 rfl
    refine own_st (fun _ => XS.iload X.here hx rfl (hb hby at_128) rfl) ?_
    show own_E p e below Qq T14 (mkF m 130 #[.val (.int p0), .val (.int p1), .val (.int x2), .val (.int x3), .val (.int x4), .val (.int x5), .val (.ref a1), .val (.ref a3), .val (.ref a5), .val (.ref a6), .val (.int (own_le 39 x2 x3)), .val (.int (own_le 34 x2 x3)), .val (.int (own_le 39 x4 x5)), .val (.int (own_le 34 x4 x5)), .unset, .unset, .unset, .unset] [(.int (own_le 39 x2 x3))])
    refine own_st (fun _ => XS.iload X.here hx rfl (hb hby at_130) rfl) ?_
    show own_E p e below Qq T14 (mkF m 132 #[.val (.int p0), .val (.int p1), .val (.int x2), .val (.int x3), .val (.int x4), .val (.int x5), .val (.ref a1), .val (.ref a3), .val (.ref a5), .val (.ref a6), .val (.int (own_le 39 x2 x3)), .val (.int (own_le 34 x2 x3)), .val (.int (own_le 39 x4 x5)), .val (.int (own_le 34 x4 x5)), .unset, .unset, .unset, .unset] [(.int (own_le 39 x4 x5)), (.int (own_le 39 x2 x3))])
    by_cases q132 : (own_le 39 x2 x3) = (own_le 39 x4 x5)
    · have _ := Nat.zero_le 0
      refine own_st (fun _ => XS.icmpNo X.here hx rfl (hb hby at_132) rfl (XT.ii_ne_f q132)) ?_
      show own_E p e below Qq T14 (mkF m 135 #[.val (.int p0), .val (.int p1), .val (.int x2), .val (.int x3), .val (.int x4), .val (.int x5), .val (.ref a1), .val (.ref a3), .val (.ref a5), .val (.ref a6), .val (.int (own_le 39 x2 x3)), .val (.int (own_le 34 x2 x3)), .val (.int (own_le 39 x4 x5)), .val (.int (own_le 34 x4 x5)), .unset, .unset, .unset, .unset] [])
      refine own_st (fun _ => XS.iload X.here hx rfl (hb hby at_135) rfl) ?_
      show own_E p e below Qq T14 (mkF m 137 #[.val (.int p0), .val (.int p1), .val (.int x2), .val (.int x3), .val (.int x4), .val (.int x5), .val (.ref a1), .val (.ref a3), .val (.ref a5), .val (.ref a6), .val (.int (own_le 39 x2 x3)), .val (.int (own_le 34 x2 x3)), .val (.int (own_le 39 x4 x5)), .val (.int (own_le 34 x4 x5)), .unset, .unset, .unset, .unset] [(.int (own_le 34 x2 x3))])
      refine own_st (fun _ => XS.iload X.here hx rfl (hb hby at_137) rfl) ?_
      show own_E p e below Qq T14 (mkF m 139 #[.val (.int p0), .val (.int p1), .val (.int x2), .val (.int x3), .val (.int x4), .val (.int x5), .val (.ref a1), .val (.ref a3), .val (.ref a5), .val (.ref a6), .val (.int (own_le 39 x2 x3)), .val (.int (own_le 34 x2 x3)), .val (.int (own_le 39 x4 x5)), .val (.int (own_le 34 x4 x5)), .unset, .unset, .unset, .unset] [(.int (own_le 34 x4 x5)), (.int (own_le 34 x2 x3))])
      by_cases q139 : (own_le 34 x2 x3) = (own_le 34 x4 x5)
      · have _ := Nat.zero_le 0
        refine own_st (fun _ => XS.icmpNo X.here hx rfl (hb hby at_139) rfl (XT.ii_ne_f q139)) ?_
        show own_E p e below Qq T14 (mkF m 142 #[.val (.int p0), .val (.int p1), .val (.int x2), .val (.int x3), .val (.int x4), .val (.int x5), .val (.ref a1), .val (.ref a3), .val (.ref a5), .val (.ref a6), .val (.int (own_le 39 x2 x3)), .val (.int (own_le 34 x2 x3)), .val (.int (own_le 39 x4 x5)), .val (.int (own_le 34 x4 x5)), .unset, .unset, .unset, .unset] [])
        refine own_st (fun _ => XS.iconst X.here hx rfl (hb hby at_142)) ?_
        show own_E p e below Qq T14 (mkF m 143 #[.val (.int p0), .val (.int p1), .val (.int x2), .val (.int x3), .val (.int x4), .val (.int x5), .val (.ref a1), .val (.ref a3), .val (.ref a5), .val (.ref a6), .val (.int (own_le 39 x2 x3)), .val (.int (own_le 34 x2 x3)), .val (.int (own_le 39 x4 x5)), .val (.int (own_le 34 x4 x5)), .unset, .unset, .unset, .unset] [(.int (1 : Int32))])
        refine own_st (fun _ => XS.goto X.here hx rfl (pc0 := 143) (pc' := 147) rfl (hb hby at_143) (by decide) (by decide)) ?_
        show own_E p e below Qq T14 (mkF m 147 #[.val (.int p0), .val (.int p1), .val (.int x2), .val (.int x3), .val (.int x4), .val (.int x5), .val (.ref a1), .val (.ref a3), .val (.ref a5), .val (.ref a6), .val (.int (own_le 39 x2 x3)), .val (.int (own_le 34 x2 x3)), .val (.int (own_le 39 x4 x5)), .val (.int (own_le 34 x4 x5)), .unset, .unset, .unset, .unset] [(.int (1 : Int32))])
        refine own_st (fun _ => XS.istore X.here hx rfl (hb hby at_147) rfl (l' := #[.val (.int p0), .val (.int p1), .val (.int x2), .val (.int x3), .val (.int x4), .val (.int x5), .val (.ref a1), .val (.ref a3), .val (.ref a5), .val (.ref a6), .val (.int (own_le 39 x2 x3)), .val (.int (own_le 34 x2 x3)), .val (.int (own_le 39 x4 x5)), .val (.int (own_le 34 x4 x5)), .val (.int (1 : Int32)), .unset, .unset, .unset]) rfl) ?_
        show own_E p e below Qq T14 (mkF m 149 #[.val (.int p0), .val (.int p1), .val (.int x2), .val (.int x3), .val (.int x4), .val (.int x5), .val (.ref a1), .val (.ref a3), .val (.ref a5), .val (.ref a6), .val (.int (own_le 39 x2 x3)), .val (.int (own_le 34 x2 x3)), .val (.int (own_le 39 x4 x5)), .val (.int (own_le 34 x4 x5)), .val (.int (1 : Int32)), .unset, .unset, .unset] [])
        exact K149 _ _ _ _ X M C S5 S6 N (if_pos ((own_rd hx2 hx3 hx4 hx5).mp ⟨q132, q139⟩)).symm
      · have _ := Nat.zero_le 0
        refine own_st (fun _ => XS.icmpYes X.here hx rfl (pc0 := 139) (pc' := 146) rfl (hb hby at_139) rfl (XT.ii_ne_t q139) (by decide) (by decide)) ?_
        show own_E p e below Qq T14 (mkF m 146 #[.val (.int p0), .val (.int p1), .val (.int x2), .val (.int x3), .val (.int x4), .val (.int x5), .val (.ref a1), .val (.ref a3), .val (.ref a5), .val (.ref a6), .val (.int (own_le 39 x2 x3)), .val (.int (own_le 34 x2 x3)), .val (.int (own_le 39 x4 x5)), .val (.int (own_le 34 x4 x5)), .unset, .unset, .unset, .unset] [])
        refine own_st (fun _ => XS.iconst X.here hx rfl (hb hby at_146)) ?_
        show own_E p e below Qq T14 (mkF m 147 #[.val (.int p0), .val (.int p1), .val (.int x2), .val (.int x3), .val (.int x4), .val (.int x5), .val (.ref a1), .val (.ref a3), .val (.ref a5), .val (.ref a6), .val (.int (own_le 39 x2 x3)), .val (.int (own_le 34 x2 x3)), .val (.int (own_le 39 x4 x5)), .val (.int (own_le 34 x4 x5)), .unset, .unset, .unset, .unset] [(.int (0 : Int32))])
        refine own_st (fun _ => XS.istore X.here hx rfl (hb hby at_147) rfl (l' := #[.val (.int p0), .val (.int p1), .val (.int x2), .val (.int x3), .val (.int x4), .val (.int x5), .val (.ref a1), .val (.ref a3), .val (.ref a5), .val (.ref a6), .val (.int (own_le 39 x2 x3)), .val (.int (own_le 34 x2 x3)), .val (.int (own_le 39 x4 x5)), .val (.int (own_le 34 x4 x5)), .val (.int (0 : Int32)), .unset, .unset, .unset]) rfl) ?_
        show own_E p e below Qq T14 (mkF m 149 #[.val (.int p0), .val (.int p1), .val (.int x2), .val (.int x3), .val (.int x4), .val (.int x5), .val (.ref a1), .val (.ref a3), .val (.ref a5), .val (.ref a6), .val (.int (own_le 39 x2 x3)), .val (.int (own_le 34 x2 x3)), .val (.int (own_le 39 x4 x5)), .val (.int (own_le 34 x4 x5)), .val (.int (0 : Int32)), .unset, .unset, .unset] [])
        exact K149 _ _ _ _ X M C S5 S6 N (if_neg (fun z => q139 ((own_rd hx2 hx3 hx4 hx5).mpr z).2)).symm
    · have _ := Nat.zero_le 0
      refine own_st (fun _ => XS.icmpYes X.here hx rfl (pc0 := 132) (pc' := 146) rfl (hb hby at_132) rfl (XT.ii_ne_t q132) (by decide) (by decide)) ?_
      show own_E p e below Qq T14 (mkF m 146 #[.val (.int p0), .val (.int p1), .val (.int x2), .val (.int x3), .val (.int x4), .val (.int x5), .val (.ref a1), .val (.ref a3), .val (.ref a5), .val (.ref a6), .val (.int (own_le 39 x2 x3)), .val (.int (own_le 34 x2 x3)), .val (.int (own_le 39 x4 x5)), .val (.int (own_le 34 x4 x5)), .unset, .unset, .unset, .unset] [])
      refine own_st (fun _ => XS.iconst X.here hx rfl (hb hby at_146)) ?_
      show own_E p e below Qq T14 (mkF m 147 #[.val (.int p0), .val (.int p1), .val (.int x2), .val (.int x3), .val (.int x4), .val (.int x5), .val (.ref a1), .val (.ref a3), .val (.ref a5), .val (.ref a6), .val (.int (own_le 39 x2 x3)), .val (.int (own_le 34 x2 x3)), .val (.int (own_le 39 x4 x5)), .val (.int (own_le 34 x4 x5)), .unset, .unset, .unset, .unset] [(.int (0 : Int32))])
      refine own_st (fun _ => XS.istore X.here hx rfl (hb hby at_147) rfl (l' := #[.val (.int p0), .val (.int p1), .val (.int x2), .val (.int x3), .val (.int x4), .val (.int x5), .val (.ref a1), .val (.ref a3), .val (.ref a5), .val (.ref a6), .val (.int (own_le 39 x2 x3)), .val (.int (own_le 34 x2 x3)), .val (.int (own_le 39 x4 x5)), .val (.int (own_le 34 x4 x5)), .val (.int (0 : Int32)), .unset, .unset, .unset]) rfl) ?_
      show own_E p e below Qq T14 (mkF m 149 #[.val (.int p0), .val (.int p1), .val (.int x2), .val (.int x3), .val (.int x4), .val (.int x5), .val (.ref a1), .val (.ref a3), .val (.ref a5), .val (.ref a6), .val (.int (own_le 39 x2 x3)), .val (.int (own_le 34 x2 x3)), .val (.int (own_le 39 x4 x5)), .val (.int (own_le 34 x4 x5)), .val (.int (0 : Int32)), .unset, .unset, .unset] [])
      exact K149 _ _ _ _ X M C S5 S6 N (if_neg (fun z => q132 ((own_rd hx2 hx3 hx4 hx5).mpr z).1)).symm
  have K37 : ∀ x2 x3 x4 : Int32, (x2 = 0 ∨ x2 = 1) → (x3 = 0 ∨ x3 = 1) → (x4 = 0 ∨ x4 = 1) → own_E p e below Qq T (mkF m 37 #[.val (.int p0), .val (.int p1), .val (.int x2), .val (.int x3), .val (.int x4), .unset, .unset, .unset, .unset, .unset, .unset, .unset, .unset, .unset, .unset, .unset, .unset, .unset] []) := by
    intro x2 x3 x4 hx2 hx3 hx4
    refine own_st (fun _ => XS.iloadN X.here hx rfl (hb hby at_37) rfl) ?_
    show own_E p e below Qq T (mkF m 38 #[.val (.int p0), .val (.int p1), .val (.int x2), .val (.int x3), .val (.int x4), .unset, .unset, .unset, .unset, .unset, .unset, .unset, .unset, .unset, .unset, .unset, .unset, .unset] [(.int p1)])
    refine own_st (fun _ => XS.iconst X.here hx rfl (hb hby at_38)) ?_
    show own_E p e below Qq T (mkF m 39 #[.val (.int p0), .val (.int p1), .val (.int x2), .val (.int x3), .val (.int x4), .unset, .unset, .unset, .unset, .unset, .unset, .unset, .unset, .unset, .unset, .unset, .unset, .unset] [(.int (2 : Int32)), (.int p1)])
    refine own_st (fun _ => XS.iand X.here hx rfl (hb hby at_39) rfl) ?_
    show own_E p e below Qq T (mkF m 40 #[.val (.int p0), .val (.int p1), .val (.int x2), .val (.int x3), .val (.int x4), .unset, .unset, .unset, .unset, .unset, .unset, .unset, .unset, .unset, .unset, .unset, .unset, .unset] [(.int (p1 &&& (2 : Int32)))])
    by_cases q40 : (p1 &&& (2 : Int32)) = (0 : Int32)
    · have _ := Nat.zero_le 0
      refine own_st (fun _ => XS.ifYes X.here hx rfl (pc0 := 40) (pc' := 47) rfl (hb hby at_40) rfl (XT.i0_eq_t q40) (by decide) (by decide)) ?_
      show own_E p e below Qq T (mkF m 47 #[.val (.int p0), .val (.int p1), .val (.int x2), .val (.int x3), .val (.int x4), .unset, .unset, .unset, .unset, .unset, .unset, .unset, .unset, .unset, .unset, .unset, .unset, .unset] [])
      refine own_st (fun _ => XS.iconst X.here hx rfl (hb hby at_47)) ?_
      show own_E p e below Qq T (mkF m 48 #[.val (.int p0), .val (.int p1), .val (.int x2), .val (.int x3), .val (.int x4), .unset, .unset, .unset, .unset, .unset, .unset, .unset, .unset, .unset, .unset, .unset, .unset, .unset] [(.int (0 : Int32))])
      refine own_st (fun _ => XS.istore X.here hx rfl (hb hby at_48) rfl (l' := #[.val (.int p0), .val (.int p1), .val (.int x2), .val (.int x3), .val (.int x4), .val (.int (0 : Int32)), .unset, .unset, .unset, .unset, .unset, .unset, .unset, .unset, .unset, .unset, .unset, .unset]) rfl) ?_
      show own_E p e below Qq T (mkF m 50 #[.val (.int p0), .val (.int p1), .val (.int x2), .val (.int x3), .val (.int x4), .val (.int (0 : Int32)), .unset, .unset, .unset, .unset, .unset, .unset, .unset, .unset, .unset, .unset, .unset, .unset] [])
      exact K50 x2 x3 x4 (0 : Int32) hx2 hx3 hx4 (Or.inl rfl)
    · have _ := Nat.zero_le 0
      refine own_st (fun _ => XS.ifNo X.here hx rfl (hb hby at_40) rfl (XT.i0_eq_f q40)) ?_
      show own_E p e below Qq T (mkF m 43 #[.val (.int p0), .val (.int p1), .val (.int x2), .val (.int x3), .val (.int x4), .unset, .unset, .unset, .unset, .unset, .unset, .unset, .unset, .unset, .unset, .unset, .unset, .unset] [])
      refine own_st (fun _ => XS.iconst X.here hx rfl (hb hby at_43)) ?_
      show own_E p e below Qq T (mkF m 44 #[.val (.int p0), .val (.int p1), .val (.int x2), .val (.int x3), .val (.int x4), .unset, .unset, .unset, .unset, .unset, .unset, .unset, .unset, .unset, .unset, .unset, .unset, .unset] [(.int (1 : Int32))])
      refine own_st (fun _ => XS.goto X.here hx rfl (pc0 := 44) (pc' := 48) rfl (hb hby at_44) (by decide) (by decide)) ?_
      show own_E p e below Qq T (mkF m 48 #[.val (.int p0), .val (.int p1), .val (.int x2), .val (.int x3), .val (.int x4), .unset, .unset, .unset, .unset, .unset, .unset, .unset, .unset, .unset, .unset, .unset, .unset, .unset] [(.int (1 : Int32))])
      refine own_st (fun _ => XS.istore X.here hx rfl (hb hby at_48) rfl (l' := #[.val (.int p0), .val (.int p1), .val (.int x2), .val (.int x3), .val (.int x4), .val (.int (1 : Int32)), .unset, .unset, .unset, .unset, .unset, .unset, .unset, .unset, .unset, .unset, .unset, .unset]) rfl) ?_
      show own_E p e below Qq T (mkF m 50 #[.val (.int p0), .val (.int p1), .val (.int x2), .val (.int x3), .val (.int x4), .val (.int (1 : Int32)), .unset, .unset, .unset, .unset, .unset, .unset, .unset, .unset, .unset, .unset, .unset, .unset] [])
      exact K50 x2 x3 x4 (1 : Int32) hx2 hx3 hx4 (Or.inr rfl)
  have K24 : ∀ x2 x3 : Int32, (x2 = 0 ∨ x2 = 1) → (x3 = 0 ∨ x3 = 1) → own_E p e below Qq T (mkF m 24 #[.val (.int p0), .val (.int p1), .val (.int x2), .val (.int x3), .unset, .unset, .unset, .unset, .unset, .unset, .unset, .unset, .unset, .unset, .unset, .unset, .unset, .unset] []) := by
    intro x2 x3 hx2 hx3
    refine own_st (fun _ => XS.iloadN X.here hx rfl (hb hby at_24) rfl) ?_
    show own_E p e below Qq T (mkF m 25 #[.val (.int p0), .val (.int p1), .val (.int x2), .val (.int x3), .unset, .unset, .unset, .unset, .unset, .unset, .unset, .unset, .unset, .unset, .unset, .unset, .unset, .unset] [(.int p1)])
    refine own_st (fun _ => XS.iconst X.here hx rfl (hb hby at_25)) ?_
    show own_E p e below Qq T (mkF m 26 #[.val (.int p0), .val (.int p1), .val (.int x2), .val (.int x3), .unset, .unset, .unset, .unset, .unset, .unset, .unset, .unset, .unset, .unset, .unset, .unset, .unset, .unset] [(.int (1 : Int32)), (.int p1)])
    refine own_st (fun _ => XS.iand X.here hx rfl (hb hby at_26) rfl) ?_
    show own_E p e below Qq T (mkF m 27 #[.val (.int p0), .val (.int p1), .val (.int x2), .val (.int x3), .unset, .unset, .unset, .unset, .unset, .unset, .unset, .unset, .unset, .unset, .unset, .unset, .unset, .unset] [(.int (p1 &&& (1 : Int32)))])
    by_cases q27 : (p1 &&& (1 : Int32)) = (0 : Int32)
    · have _ := Nat.zero_le 0
      refine own_st (fun _ => XS.ifYes X.here hx rfl (pc0 := 27) (pc' := 34) rfl (hb hby at_27) rfl (XT.i0_eq_t q27) (by decide) (by decide)) ?_
      show own_E p e below Qq T (mkF m 34 #[.val (.int p0), .val (.int p1), .val (.int x2), .val (.int x3), .unset, .unset, .unset, .unset, .unset, .unset, .unset, .unset, .unset, .unset, .unset, .unset, .unset, .unset] [])
      refine own_st (fun _ => XS.iconst X.here hx rfl (hb hby at_34)) ?_
      show own_E p e below Qq T (mkF m 35 #[.val (.int p0), .val (.int p1), .val (.int x2), .val (.int x3), .unset, .unset, .unset, .unset, .unset, .unset, .unset, .unset, .unset, .unset, .unset, .unset, .unset, .unset] [(.int (0 : Int32))])
      refine own_st (fun _ => XS.istore X.here hx rfl (hb hby at_35) rfl (l' := #[.val (.int p0), .val (.int p1), .val (.int x2), .val (.int x3), .val (.int (0 : Int32)), .unset, .unset, .unset, .unset, .unset, .unset, .unset, .unset, .unset, .unset, .unset, .unset, .unset]) rfl) ?_
      show own_E p e below Qq T (mkF m 37 #[.val (.int p0), .val (.int p1), .val (.int x2), .val (.int x3), .val (.int (0 : Int32)), .unset, .unset, .unset, .unset, .unset, .unset, .unset, .unset, .unset, .unset, .unset, .unset, .unset] [])
      exact K37 x2 x3 (0 : Int32) hx2 hx3 (Or.inl rfl)
    · have _ := Nat.zero_le 0
      refine own_st (fun _ => XS.ifNo X.here hx rfl (hb hby at_27) rfl (XT.i0_eq_f q27)) ?_
      show own_E p e below Qq T (mkF m 30 #[.val (.int p0), .val (.int p1), .val (.int x2), .val (.int x3), .unset, .unset, .unset, .unset, .unset, .unset, .unset, .unset, .unset, .unset, .unset, .unset, .unset, .unset] [])
      refine own_st (fun _ => XS.iconst X.here hx rfl (hb hby at_30)) ?_
      show own_E p e below Qq T (mkF m 31 #[.val (.int p0), .val (.int p1), .val (.int x2), .val (.int x3), .unset, .unset, .unset, .unset, .unset, .unset, .unset, .unset, .unset, .unset, .unset, .unset, .unset, .unset] [(.int (1 : Int32))])
      refine own_st (fun _ => XS.goto X.here hx rfl (pc0 := 31) (pc' := 35) rfl (hb hby at_31) (by decide) (by decide)) ?_
      show own_E p e below Qq T (mkF m 35 #[.val (.int p0), .val (.int p1), .val (.int x2), .val (.int x3), .unset, .unset, .unset, .unset, .unset, .unset, .unset, .unset, .unset, .unset, .unset, .unset, .unset, .unset] [(.int (1 : Int32))])
      refine own_st (fun _ => XS.istore X.here hx rfl (hb hby at_35) rfl (l' := #[.val (.int p0), .val (.int p1), .val (.int x2), .val (.int x3), .val (.int (1 : Int32)), .unset, .unset, .unset, .unset, .unset, .unset, .unset, .unset, .unset, .unset, .unset, .unset, .unset]) rfl) ?_
      show own_E p e below Qq T (mkF m 37 #[.val (.int p0), .val (.int p1), .val (.int x2), .val (.int x3), .val (.int (1 : Int32)), .unset, .unset, .unset, .unset, .unset, .unset, .unset, .unset, .unset, .unset, .unset, .unset, .unset] [])
      exact K37 x2 x3 (1 : Int32) hx2 hx3 (Or.inr rfl)
  have K12 : ∀ x2 : Int32, (x2 = 0 ∨ x2 = 1) → own_E p e below Qq T (mkF m 12 #[.val (.int p0), .val (.int p1), .val (.int x2), .unset, .unset, .unset, .unset, .unset, .unset, .unset, .unset, .unset, .unset, .unset, .unset, .unset, .unset, .unset] []) := by
    intro x2 hx2
    refine own_st (fun _ => XS.iloadN X.here hx rfl (hb hby at_12) rfl) ?_
    show own_E p e below Qq T (mkF m 13 #[.val (.int p0), .val (.int p1), .val (.int x2), .unset, .unset, .unset, .unset, .unset, .unset, .unset, .unset, .unset, .unset, .unset, .unset, .unset, .unset, .unset] [(.int p0)])
    refine own_st (fun _ => XS.iconst X.here hx rfl (hb hby at_13)) ?_
    show own_E p e below Qq T (mkF m 14 #[.val (.int p0), .val (.int p1), .val (.int x2), .unset, .unset, .unset, .unset, .unset, .unset, .unset, .unset, .unset, .unset, .unset, .unset, .unset, .unset, .unset] [(.int (2 : Int32)), (.int p0)])
    refine own_st (fun _ => XS.iand X.here hx rfl (hb hby at_14) rfl) ?_
    show own_E p e below Qq T (mkF m 15 #[.val (.int p0), .val (.int p1), .val (.int x2), .unset, .unset, .unset, .unset, .unset, .unset, .unset, .unset, .unset, .unset, .unset, .unset, .unset, .unset, .unset] [(.int (p0 &&& (2 : Int32)))])
    by_cases q15 : (p0 &&& (2 : Int32)) = (0 : Int32)
    · have _ := Nat.zero_le 0
      refine own_st (fun _ => XS.ifYes X.here hx rfl (pc0 := 15) (pc' := 22) rfl (hb hby at_15) rfl (XT.i0_eq_t q15) (by decide) (by decide)) ?_
      show own_E p e below Qq T (mkF m 22 #[.val (.int p0), .val (.int p1), .val (.int x2), .unset, .unset, .unset, .unset, .unset, .unset, .unset, .unset, .unset, .unset, .unset, .unset, .unset, .unset, .unset] [])
      refine own_st (fun _ => XS.iconst X.here hx rfl (hb hby at_22)) ?_
      show own_E p e below Qq T (mkF m 23 #[.val (.int p0), .val (.int p1), .val (.int x2), .unset, .unset, .unset, .unset, .unset, .unset, .unset, .unset, .unset, .unset, .unset, .unset, .unset, .unset, .unset] [(.int (0 : Int32))])
      refine own_st (fun _ => XS.istoreN X.here hx rfl (hb hby at_23) rfl (l' := #[.val (.int p0), .val (.int p1), .val (.int x2), .val (.int (0 : Int32)), .unset, .unset, .unset, .unset, .unset, .unset, .unset, .unset, .unset, .unset, .unset, .unset, .unset, .unset]) rfl) ?_
      show own_E p e below Qq T (mkF m 24 #[.val (.int p0), .val (.int p1), .val (.int x2), .val (.int (0 : Int32)), .unset, .unset, .unset, .unset, .unset, .unset, .unset, .unset, .unset, .unset, .unset, .unset, .unset, .unset] [])
      exact K24 x2 (0 : Int32) hx2 (Or.inl rfl)
    · have _ := Nat.zero_le 0
      refine own_st (fun _ => XS.ifNo X.here hx rfl (hb hby at_15) rfl (XT.i0_eq_f q15)) ?_
      show own_E p e below Qq T (mkF m 18 #[.val (.int p0), .val (.int p1), .val (.int x2), .unset, .unset, .unset, .unset, .unset, .unset, .unset, .unset, .unset, .unset, .unset, .unset, .unset, .unset, .unset] [])
      refine own_st (fun _ => XS.iconst X.here hx rfl (hb hby at_18)) ?_
      show own_E p e below Qq T (mkF m 19 #[.val (.int p0), .val (.int p1), .val (.int x2), .unset, .unset, .unset, .unset, .unset, .unset, .unset, .unset, .unset, .unset, .unset, .unset, .unset, .unset, .unset] [(.int (1 : Int32))])
      refine own_st (fun _ => XS.goto X.here hx rfl (pc0 := 19) (pc' := 23) rfl (hb hby at_19) (by decide) (by decide)) ?_
      show own_E p e below Qq T (mkF m 23 #[.val (.int p0), .val (.int p1), .val (.int x2), .unset, .unset, .unset, .unset, .unset, .unset, .unset, .unset, .unset, .unset, .unset, .unset, .unset, .unset, .unset] [(.int (1 : Int32))])
      refine own_st (fun _ => XS.istoreN X.here hx rfl (hb hby at_23) rfl (l' := #[.val (.int p0), .val (.int p1), .val (.int x2), .val (.int (1 : Int32)), .unset, .unset, .unset, .unset, .unset, .unset, .unset, .unset, .unset, .unset, .unset, .unset, .unset, .unset]) rfl) ?_
      show own_E p e below Qq T (mkF m 24 #[.val (.int p0), .val (.int p1), .val (.int x2), .val (.int (1 : Int32)), .unset, .unset, .unset, .unset, .unset, .unset, .unset, .unset, .unset, .unset, .unset, .unset, .unset, .unset] [])
      exact K24 x2 (1 : Int32) hx2 (Or.inr rfl)
  refine own_st (fun _ => XS.iloadN X.here hx rfl (hb hby at_0) rfl) ?_
  show own_E p e below Qq T (mkF m 1 #[.val (.int p0), .val (.int p1), .unset, .unset, .unset, .unset, .unset, .unset, .unset, .unset, .unset, .unset, .unset, .unset, .unset, .unset, .unset, .unset] [(.int p0)])
  refine own_st (fun _ => XS.iconst X.here hx rfl (hb hby at_1)) ?_
  show own_E p e below Qq T (mkF m 2 #[.val (.int p0), .val (.int p1), .unset, .unset, .unset, .unset, .unset, .unset, .unset, .unset, .unset, .unset, .unset, .unset, .unset, .unset, .unset, .unset] [(.int (1 : Int32)), (.int p0)])
  refine own_st (fun _ => XS.iand X.here hx rfl (hb hby at_2) rfl) ?_
  show own_E p e below Qq T (mkF m 3 #[.val (.int p0), .val (.int p1), .unset, .unset, .unset, .unset, .unset, .unset, .unset, .unset, .unset, .unset, .unset, .unset, .unset, .unset, .unset, .unset] [(.int (p0 &&& (1 : Int32)))])
  by_cases q3 : (p0 &&& (1 : Int32)) = (0 : Int32)
  · have _ := Nat.zero_le 0
    refine own_st (fun _ => XS.ifYes X.here hx rfl (pc0 := 3) (pc' := 10) rfl (hb hby at_3) rfl (XT.i0_eq_t q3) (by decide) (by decide)) ?_
    show own_E p e below Qq T (mkF m 10 #[.val (.int p0), .val (.int p1), .unset, .unset, .unset, .unset, .unset, .unset, .unset, .unset, .unset, .unset, .unset, .unset, .unset, .unset, .unset, .unset] [])
    refine own_st (fun _ => XS.iconst X.here hx rfl (hb hby at_10)) ?_
    show own_E p e below Qq T (mkF m 11 #[.val (.int p0), .val (.int p1), .unset, .unset, .unset, .unset, .unset, .unset, .unset, .unset, .unset, .unset, .unset, .unset, .unset, .unset, .unset, .unset] [(.int (0 : Int32))])
    refine own_st (fun _ => XS.istoreN X.here hx rfl (hb hby at_11) rfl (l' := #[.val (.int p0), .val (.int p1), .val (.int (0 : Int32)), .unset, .unset, .unset, .unset, .unset, .unset, .unset, .unset, .unset, .unset, .unset, .unset, .unset, .unset, .unset]) rfl) ?_
    show own_E p e below Qq T (mkF m 12 #[.val (.int p0), .val (.int p1), .val (.int (0 : Int32)), .unset, .unset, .unset, .unset, .unset, .unset, .unset, .unset, .unset, .unset, .unset, .unset, .unset, .unset, .unset] [])
    exact K12  (0 : Int32)  (Or.inl rfl)
  · have _ := Nat.zero_le 0
    refine own_st (fun _ => XS.ifNo X.here hx rfl (hb hby at_3) rfl (XT.i0_eq_f q3)) ?_
    show own_E p e below Qq T (mkF m 6 #[.val (.int p0), .val (.int p1), .unset, .unset, .unset, .unset, .unset, .unset, .unset, .unset, .unset, .unset, .unset, .unset, .unset, .unset, .unset, .unset] [])
    refine own_st (fun _ => XS.iconst X.here hx rfl (hb hby at_6)) ?_
    show own_E p e below Qq T (mkF m 7 #[.val (.int p0), .val (.int p1), .unset, .unset, .unset, .unset, .unset, .unset, .unset, .unset, .unset, .unset, .unset, .unset, .unset, .unset, .unset, .unset] [(.int (1 : Int32))])
    refine own_st (fun _ => XS.goto X.here hx rfl (pc0 := 7) (pc' := 11) rfl (hb hby at_7) (by decide) (by decide)) ?_
    show own_E p e below Qq T (mkF m 11 #[.val (.int p0), .val (.int p1), .unset, .unset, .unset, .unset, .unset, .unset, .unset, .unset, .unset, .unset, .unset, .unset, .unset, .unset, .unset, .unset] [(.int (1 : Int32))])
    refine own_st (fun _ => XS.istoreN X.here hx rfl (hb hby at_11) rfl (l' := #[.val (.int p0), .val (.int p1), .val (.int (1 : Int32)), .unset, .unset, .unset, .unset, .unset, .unset, .unset, .unset, .unset, .unset, .unset, .unset, .unset, .unset, .unset]) rfl) ?_
    show own_E p e below Qq T (mkF m 12 #[.val (.int p0), .val (.int p1), .val (.int (1 : Int32)), .unset, .unset, .unset, .unset, .unset, .unset, .unset, .unset, .unset, .unset, .unset, .unset, .unset, .unset, .unset] [])
    exact K12  (1 : Int32)  (Or.inr rfl)
set_option maxRecDepth 65536 in
set_option maxHeartbeats 40000000 in
theorem comes_1 {Post : Tables → Env → Array Value → State → Outcome → State → Prop} (hpost : ∀ tb e args s v u, (limb_1_1.after args s (.returned v) u = true ∧ limb_1_2.after args s (.returned v) u = true ∧ True) → ReturnedEndW s (.returned v) u (Jvm.fieldLocs frame_1_writes args s ++ Jvm.arrayLocs frame_1_arrays args s ++ Jvm.staticLocs frame_1_statics s) 32 8320 → Post tb e args s (.returned v) u) :
    ArmFor flags0 classFile x code maxLocals ret World_1 tables_1 room_1 Calls_1 rest_1 Pre_1 Post := by
  intro l hfl _ _ p e ha hc hk s m args below hf hA hF happ hP
  obtain ⟨hcalls, hrest, hpre⟩ := hP
  obtain ⟨-, -, -, hnamed, -, -, -, hat⟩ := (Spec.applies_iff hf).mp happ
  obtain ⟨hg, hn⟩ := and_e (Cond.before_iff.mp (show (Jvm.Cond.and given_1 narrow_1).before args s = true from hpre))
  obtain ⟨g0, hg⟩ := and_e hg
  obtain ⟨w0, w1, rfl⟩ : ∃ w0 w1 : Value, args = #[w0, w1] := by
    have hs : args.size = 2 := by simpa [Cond.value, given_1] using g0
    obtain ⟨L⟩ := args
    match L, hs with
    | [w0, w1], _ => exact ⟨w0, w1, rfl⟩
  have hw := fun d (hd : d ∈ tables_1) => atoms_spec (ws := Jvm.Cond.code x code maxLocals ret :: tables_1) hat d (List.mem_cons_of_mem _ hd)
  obtain ⟨g1, g2⟩ := and_e hg
  obtain ⟨i0, e0⟩ := is_v g1
  obtain rfl : w0 = (.int i0) := Option.some.inj e0
  obtain ⟨i1, e1⟩ := is_v g2
  obtain rfl : w1 = (.int i1) := Option.some.inj e1
  have hr : rest_1_c.value #[.int i0, .int i1] s none s [] = some true := Cond.before_iff.mp (show rest_1_c.before _ s = true from hrest)
  obtain ⟨r1, hr⟩ := and_e hr
  obtain ⟨r2, hr⟩ := and_e hr
  obtain ⟨r3, hr⟩ := and_e hr
  obtain ⟨r4, hr⟩ := and_e hr
  obtain ⟨r5, hr⟩ := and_e hr
  obtain ⟨r6, hr⟩ := and_e hr
  obtain ⟨r7, hr⟩ := and_e hr
  obtain ⟨r8, hr⟩ := and_e hr
  obtain ⟨r9, hr⟩ := and_e hr
  obtain ⟨cs, f1⟩ := is_v r2
  obtain ⟨fv, f2, f3⟩ := isR_v r9
  have cs0 : ¬ cs = 0 := fun z => by
    have y1 := eq_i f1 (Term.int_eval (0)) (by rw [z]) rfl
    have y2 := not_v r3
    rw [y1] at y2
    cases y2
  have C : own_C s s.heap cs fv := ⟨Sta.start f1 (Or.inl (Cond.before_iff.mpr r1)), cs0, Sta.start f2 (Or.inl (Cond.before_iff.mpr r8)), f3⟩
  have hEL := own_EW hw
  have H : CHv s consts_1 s.vm s.heap := CHv.start hEL (fun q hq => hcalls.1 q hq) (Cond.before_iff.mpr r3) (hw _ (List.mem_of_getElem? (i := 26) rfl)) (hw _ (List.mem_of_getElem? (i := 25) rfl))
  obtain ⟨n, o, h1, h2, h3, _, L, rfl, ⟨rfl, N, _⟩, -, hq⟩ := rm0 l s _ hw i0 i1 cs fv s.heap s.heap.size C (Nat.le_refl _) tables_1 p e ha hc hk s m _ below hf ((Spec.applies_iff_loose hf).mp happ).1 ⟨rfl, State.Warmed39.refl s, rfl, H⟩ trivial
  refine ⟨n, _, h1, h2, h3, hpost _ _ _ _ _ _ ⟨Cond.after_iff.mpr rfl, Cond.after_iff.mpr (eq_i res_at (Term.int_eval (1)) rfl rfl), trivial⟩ ⟨hq.1, hq.2.1, hq.2.2.1, (hq.2.2.2.sift fun y hy => Or.inr (N y hy)).mono (by decide) (by decide)⟩⟩
theorem main_1_1 : Claimed_1_1 := comes_1 fun _ _ _ _ _ _ h hF => ⟨h.1, hF⟩
theorem main_1_2 : Claimed_1_2 := comes_1 fun _ _ _ _ _ _ h hF => ⟨h.2.1, hF⟩
end Jvm.Pilot.@@N@@
namespace Jvm.Pilot.@@N@@
open Jvm Jvm.ClassFile Sem Op Lib Jvm.Free Jvm.Stand Jvm.Pilot.@@N@@.Jvm.D
/-! MADE BY PROGRAM (witnessworld.py) out of the Statement's table words and the real class files: 19 classes; the members and pool entries that the words name. The judged class is class 1, her method 2. -/
namespace start1
open Jvm.ClassFile
def u (s : String) : CpInfo := .utf8 (stringToUtf16 s)
/-- a pool by its gaps: so many unusable entries, then the entry; so many at the end -/
def gap : Nat → List CpInfo → List CpInfo
  | 0, r => r
  | n + 1, r => .unusable :: gap n r
def poolList (es : List (Nat × CpInfo)) (last : Nat) : List CpInfo := es.foldr (fun e r => gap e.1 (e.2 :: r)) (gap last [])
def pool (es : List (Nat × CpInfo)) (last : Nat) : Array CpInfo := ⟨poolList es last⟩
def fileOf (pool : Array CpInfo) (this : Nat) (attrs : Array Attribute := #[]) (ms : Array MethodInfo := #[]) (fl : Nat := 33) (sup : Nat := 0) (ifs : Array Nat := #[]) (fds : Array FieldInfo := #[]) : ClassFile where
  minorVersion := 0
  majorVersion := 65
  constantPool := pool
  accessFlags := fl
  thisClass := this
  superClass := sup
  interfaces := ifs
  fields := fds
  methods := ms
  attributes := attrs
def plain (name : String) (sup : Option ClassId) : Class where
  name := name
  kind := .ordinary
  loader := none
  accessFlags := 33
  super := sup
  interfaces := #[]
  cf := none
  fields := #[]
  methods := #[]
  instanceTypes := #[]
  staticTypes := #[]
  resolved := #[]
  callSites := []
  init := .initialized
  statics := none
  mirror := none

def pool0 : Array CpInfo := pool [(5, u "<init>"), (0, u "()V"), (1, .class_ 10), (1, u "java/lang/Object")] 113

def k0c0 : Code := { maxStack := 0, maxLocals := 1, code := object_method_1_code, exceptionTable := #[], attributes := #[] }
def k0m0 : Method := { name := "<init>", desc := "()V", sig := { parameters := [], returnType := none }, accessFlags := 1, code := some k0c0 }
/-- java/lang/Object -/
def k0 : Class := { plain "java/lang/Object" none with
  accessFlags := 33
  interfaces := #[]
  cf := some (fileOf pool0 8 #[] #[{ accessFlags := 1, nameIndex := 5, descriptorIndex := 6, attributes := #[] }] 33 0 #[] #[])
  fields := #[]
  methods := #[k0m0]
  instanceTypes := #[]
  staticTypes := #[]
  resolved := Array.replicate 124 none
  statics := none }

def pool1 : Array CpInfo := pool [(2, .class_ 4), (1, u "java/lang/Object"), (0, u "<init>"), (0, u "()V"), (0, .string 8), (0, u "where sql_mode holds NO_BACKSLASH_ESCAPES"), (0, .string 10), (0, u "where sql_mode holds ANSI_QUOTES"), (0, .string 12), (0, u ""), (0, .class_ 14), (0, u "com/example/rowbridge/rowbridge/jdbc/MariadbSql"), (0, .methodref 13 16), (0, .nameAndType 5 17), (0, u "(ZZ)V"), (0, .methodref 13 19), (0, .nameAndType 20 21), (0, u "session"), (0, u "()Ljava/lang/String;"), (0, .string 23), (0, u "'\\''"), (0, .methodref 13 25), (0, .nameAndType 26 27), (0, u "literalEnd"), (0, u "(Ljava/lang/String;I)I"), (0, .string 29), (0, u "\"\\\"\""), (0, .methodref 31 32), (0, .class_ 33), (0, .nameAndType 34 35), (0, u "java/lang/String"), (0, u "equals"), (0, u "(Ljava/lang/Object;)Z"), (0, .methodref 31 37), (0, .nameAndType 38 39), (0, u "isEmpty"), (0, u "()Z"), (0, .methodref 41 42), (0, .class_ 43), (0, .nameAndType 44 45), (0, u "com/example/rowbridge/rowbridge/jdbc/MariadbSqlSessionPinLaw"), (0, u "expected"), (0, u "(ZZ)Ljava/lang/String;"), (3, u "law"), (0, u "(II)Z")] 2

def k1m0 : Method := { name := "<init>", desc := "()V", sig := { parameters := [], returnType := none }, accessFlags := 1, code := none }
def k1c1 : Code := { maxStack := 1, maxLocals := 2, code := method_2_code, exceptionTable := #[], attributes := #[] }
def k1m1 : Method := { name := "expected", desc := "(ZZ)Ljava/lang/String;", sig := { parameters := [.boolean, .boolean], returnType := some (.object "java/lang/String") }, accessFlags := 10, code := some k1c1 }
def k1c2 : Code := { maxStack := 4, maxLocals := 18, code := code, exceptionTable := #[], attributes := #[] }
def k1m2 : Method := { name := "law", desc := "(II)Z", sig := { parameters := [.int, .int], returnType := some .boolean }, accessFlags := 9, code := some k1c2 }
/-- com/example/rowbridge/rowbridge/jdbc/MariadbSqlSessionPinLaw -/
def k1 : Class := { plain "com/example/rowbridge/rowbridge/jdbc/MariadbSqlSessionPinLaw" (some 0) with
  accessFlags := 49
  interfaces := #[]
  cf := some (fileOf pool1 41 #[] #[{ accessFlags := 1, nameIndex := 5, descriptorIndex := 6, attributes := #[] }, { accessFlags := 10, nameIndex := 44, descriptorIndex := 45, attributes := #[] }, { accessFlags := 9, nameIndex := 49, descriptorIndex := 50, attributes := #[] }] 49 2 #[] #[])
  fields := #[]
  methods := #[k1m0, k1m1, k1m2]
  instanceTypes := #[]
  staticTypes := #[]
  resolved := Array.replicate 53 none
  statics := none }

def pool2 : Array CpInfo := pool [(1, .methodref 2 3), (0, .class_ 4), (0, .nameAndType 5 6), (0, u "java/lang/Object"), (0, u "<init>"), (0, u "()V"), (0, .class_ 8), (0, u "java/lang/Record")] 13

def k2c0 : Code := { maxStack := 1, maxLocals := 1, code := jdk_30_method_1_code, exceptionTable := #[], attributes := #[] }
def k2m0 : Method := { name := "<init>", desc := "()V", sig := { parameters := [], returnType := none }, accessFlags := 4, code := some k2c0 }
/-- java/lang/Record -/
def k2 : Class := { plain "java/lang/Record" (some 0) with
  accessFlags := 1057
  interfaces := #[]
  cf := some (fileOf pool2 7 #[] #[{ accessFlags := 4, nameIndex := 5, descriptorIndex := 6, attributes := #[] }] 1057 2 #[] #[])
  fields := #[]
  methods := #[k2m0]
  instanceTypes := #[]
  staticTypes := #[]
  resolved := Array.replicate 22 none
  statics := none }

def pool3 : Array CpInfo := pool [(7, .methodref 8 9), (0, .class_ 10), (0, .nameAndType 11 12), (0, u "java/lang/String"), (0, u "length"), (0, u "()I"), (1, .class_ 16), (1, u "com/example/rowbridge/rowbridge/jdbc/SqlGrammar"), (5, .methodref 8 23), (0, .nameAndType 24 25), (0, u "charAt"), (0, u "(I)C"), (28, .class_ 55), (0, u "java/lang/Object"), (9, u "closedBy"), (0, u "(Ljava/lang/String;ICZ)I")] 4

def k3c0 : Code := { maxStack := 3, maxLocals := 6, code := prog_28_method_5_code, exceptionTable := #[], attributes := #[] }
def k3m0 : Method := { name := "closedBy", desc := "(Ljava/lang/String;ICZ)I", sig := { parameters := [(.object "java/lang/String"), .int, .char, .boolean], returnType := some .int }, accessFlags := 9, code := some k3c0 }
/-- com/example/rowbridge/rowbridge/jdbc/SqlGrammar -/
def k3 : Class := { plain "com/example/rowbridge/rowbridge/jdbc/SqlGrammar" (some 0) with
  accessFlags := 1536
  interfaces := #[]
  cf := some (fileOf pool3 14 #[] #[{ accessFlags := 9, nameIndex := 65, descriptorIndex := 66, attributes := #[] }] 1536 54 #[] #[])
  fields := #[]
  methods := #[k3m0]
  instanceTypes := #[]
  staticTypes := #[]
  resolved := Array.replicate 71 none
  statics := none }

def pool4 : Array CpInfo := pool [(1, .methodref 2 3), (0, .class_ 4), (0, .nameAndType 5 6), (0, u "java/lang/Record"), (0, u "<init>"), (0, u "()V"), (0, .fieldref 8 9), (0, .class_ 10), (0, .nameAndType 11 12), (0, u "com/example/rowbridge/rowbridge/jdbc/MariadbSql"), (0, u "backslashEscapes"), (0, u "Z"), (0, .fieldref 8 14), (0, .nameAndType 15 12), (0, u "ansiQuotes"), (0, .string 17), (0, u "where sql_mode holds NO_BACKSLASH_ESCAPES"), (0, .string 19), (0, u "where sql_mode holds ANSI_QUOTES"), (0, .string 21), (0, u ""), (0, .methodref 23 24), (0, .class_ 25), (0, .nameAndType 26 27), (0, u "java/lang/String"), (0, u "charAt"), (0, u "(I)C"), (0, .interfaceMethodref 29 30), (0, .class_ 31), (0, .nameAndType 32 33), (0, u "com/example/rowbridge/rowbridge/jdbc/SqlGrammar"), (0, u "closedBy"), (0, u "(Ljava/lang/String;ICZ)I"), (26, u "(Ljava/lang/String;I)I"), (24, u "(ZZ)V"), (3, u "session"), (0, u "()Ljava/lang/String;"), (1, u "literalEnd")] 24

def k4c0 : Code := { maxStack := 2, maxLocals := 3, code := prog_20_method_1_code, exceptionTable := #[], attributes := #[] }
def k4m0 : Method := { name := "<init>", desc := "(ZZ)V", sig := { parameters := [.boolean, .boolean], returnType := none }, accessFlags := 0, code := some k4c0 }
def k4c1 : Code := { maxStack := 1, maxLocals := 2, code := prog_20_method_2_code, exceptionTable := #[], attributes := #[] }
def k4m1 : Method := { name := "session", desc := "()Ljava/lang/String;", sig := { parameters := [], returnType := some (.object "java/lang/String") }, accessFlags := 1, code := some k4c1 }
def k4c2 : Code := { maxStack := 4, maxLocals := 5, code := prog_20_method_3_code, exceptionTable := #[], attributes := #[] }
def k4m2 : Method := { name := "literalEnd", desc := "(Ljava/lang/String;I)I", sig := { parameters := [(.object "java/lang/String"), .int], returnType := some .int }, accessFlags := 1, code := some k4c2 }
/-- com/example/rowbridge/rowbridge/jdbc/MariadbSql -/
def k4 : Class := { plain "com/example/rowbridge/rowbridge/jdbc/MariadbSql" (some 2) with
  accessFlags := 48
  interfaces := #[3]
  cf := some (fileOf pool4 8 #[] #[{ accessFlags := 0, nameIndex := 5, descriptorIndex := 85, attributes := #[] }, { accessFlags := 1, nameIndex := 89, descriptorIndex := 90, attributes := #[] }, { accessFlags := 1, nameIndex := 92, descriptorIndex := 60, attributes := #[] }] 48 2 #[29] #[{ accessFlags := 18, nameIndex := 11, descriptorIndex := 12, attributes := #[] }, { accessFlags := 18, nameIndex := 15, descriptorIndex := 12, attributes := #[] }])
  fields := #[{ name := "backslashEscapes", type := .boolean, accessFlags := 18, slot := 0, constantValue := 0 }, { name := "ansiQuotes", type := .boolean, accessFlags := 18, slot := 1, constantValue := 0 }]
  methods := #[k4m0, k4m1, k4m2]
  instanceTypes := #[.boolean, .boolean]
  staticTypes := #[]
  resolved := Array.replicate 117 none
  statics := none }

def pool5 : Array CpInfo := pool [(1, .class_ 2), (0, u "java/io/Serializable"), (0, .class_ 4), (0, u "java/lang/Object")] 2

/-- java/io/Serializable -/
def k5 : Class := { plain "java/io/Serializable" (some 0) with
  accessFlags := 1537
  interfaces := #[]
  cf := some (fileOf pool5 1 #[] #[] 1537 3 #[] #[])
  fields := #[]
  methods := #[]
  instanceTypes := #[]
  staticTypes := #[]
  resolved := Array.replicate 7 none
  statics := none }

def pool6 : Array CpInfo := pool [(1, .class_ 2), (0, u "java/lang/Comparable"), (0, .class_ 4), (0, u "java/lang/Object")] 7

/-- java/lang/Comparable -/
def k6 : Class := { plain "java/lang/Comparable" (some 0) with
  accessFlags := 1537
  interfaces := #[]
  cf := some (fileOf pool6 1 #[] #[] 1537 3 #[] #[])
  fields := #[]
  methods := #[]
  instanceTypes := #[]
  staticTypes := #[]
  resolved := Array.replicate 12 none
  statics := none }

def pool7 : Array CpInfo := pool [(2, .class_ 4), (1, u "java/lang/CharSequence"), (42, .class_ 48), (0, u "java/lang/CharSequence$1CodePointIterator"), (10, .class_ 60), (0, u "java/lang/CharSequence$1CharIterator"), (5, .class_ 67), (0, u "java/lang/Object")] 63

/-- java/lang/CharSequence -/
def k7 : Class := { plain "java/lang/CharSequence" (some 0) with
  accessFlags := 1537
  interfaces := #[]
  cf := some (fileOf pool7 2 #[.nestMembers #[47, 59]] #[] 1537 66 #[] #[])
  fields := #[]
  methods := #[]
  instanceTypes := #[]
  staticTypes := #[]
  resolved := Array.replicate 131 none
  statics := none }

def pool8 : Array CpInfo := pool [(1, .class_ 2), (0, u "java/lang/constant/Constable"), (0, .class_ 4), (0, u "java/lang/Object")] 6

/-- java/lang/constant/Constable -/
def k8 : Class := { plain "java/lang/constant/Constable" (some 0) with
  accessFlags := 1537
  interfaces := #[]
  cf := some (fileOf pool8 1 #[] #[] 1537 3 #[] #[])
  fields := #[]
  methods := #[]
  instanceTypes := #[]
  staticTypes := #[]
  resolved := Array.replicate 11 none
  statics := none }

def pool9 : Array CpInfo := pool [(1, .class_ 2), (0, u "java/lang/constant/ConstantDesc"), (0, .class_ 4), (0, u "java/lang/Object")] 32

/-- java/lang/constant/ConstantDesc -/
def k9 : Class := { plain "java/lang/constant/ConstantDesc" (some 0) with
  accessFlags := 1537
  interfaces := #[]
  cf := some (fileOf pool9 1 #[] #[] 1537 3 #[] #[])
  fields := #[]
  methods := #[]
  instanceTypes := #[]
  staticTypes := #[]
  resolved := Array.replicate 37 none
  statics := none }

def pool10 : Array CpInfo := pool [(2, .class_ 4), (1, u "java/lang/Object"), (0, u "<init>"), (0, u "()V"), (2, .fieldref 10 11), (0, .class_ 12), (0, .nameAndType 13 14), (0, u "java/lang/String"), (0, u "value"), (0, u "[B"), (0, .fieldref 10 16), (0, .nameAndType 17 18), (0, u "coder"), (0, u "B"), (2, u "hash"), (0, u "I"), (2, u "hashIsZero"), (0, u "Z"), (11, .fieldref 10 39), (0, .nameAndType 40 26), (0, u "COMPACT_STRINGS"), (66, .class_ 109), (1, u "java/lang/StringLatin1"), (32, u "()Z"), (191, u "()I"), (0, .methodref 10 336), (0, .nameAndType 17 337), (0, u "()B"), (25, u "([BI)C"), (27, u "(II)V"), (35, u "(I)C"), (64, .methodref 10 493), (0, .nameAndType 494 142), (0, u "isLatin1"), (0, .methodref 107 496), (0, .nameAndType 497 363), (0, u "charAt"), (3, u "checkIndex"), (5, u "length"), (33, .methodref 107 542), (0, .nameAndType 543 544), (0, u "equals"), (0, u "([B[B)Z"), (28, u "(Ljava/lang/Object;)Z"), (1, .class_ 576), (0, u "java/lang/CharSequence"), (22, u "CASE_INSENSITIVE_ORDER"), (0, u "Ljava/util/Comparator;"), (91, u "isEmpty"), (360, .fieldref 1054 1055), (0, .class_ 1056), (0, .nameAndType 1057 1058), (0, u "jdk/internal/util/Preconditions"), (0, u "SIOOBE_FORMATTER"), (0, u "Ljava/util/function/BiFunction;"), (0, .methodref 1054 1060), (0, .nameAndType 501 1061), (0, u "(IILjava/util/function/BiFunction;)I"), (39, u "serialPersistentFields"), (0, u "[Ljava/io/ObjectStreamField;"), (0, .class_ 1104), (0, u "java/lang/String$CaseInsensitiveComparator"), (1, .class_ 1107), (0, u "java/io/Serializable"), (0, .class_ 1109), (0, u "java/lang/Comparable"), (0, .class_ 1111), (0, u "java/lang/constant/Constable"), (0, .class_ 1113), (0, u "java/lang/constant/ConstantDesc"), (2, u "serialVersionUID"), (0, u "J"), (3, u "REPL"), (0, u "C"), (2, u "LATIN1"), (1, u "UTF16")] 323

def k10m0 : Method := { name := "<init>", desc := "()V", sig := { parameters := [], returnType := none }, accessFlags := 1, code := none }
def k10c1 : Code := { maxStack := 2, maxLocals := 1, code := jdk_42_method_54_code, exceptionTable := #[], attributes := #[] }
def k10m1 : Method := { name := "length", desc := "()I", sig := { parameters := [], returnType := some .int }, accessFlags := 1, code := some k10c1 }
def k10c2 : Code := { maxStack := 1, maxLocals := 1, code := jdk_42_method_55_code, exceptionTable := #[], attributes := #[] }
def k10m2 : Method := { name := "isEmpty", desc := "()Z", sig := { parameters := [], returnType := some .boolean }, accessFlags := 1, code := some k10c2 }
def k10c3 : Code := { maxStack := 2, maxLocals := 2, code := jdk_42_method_56_code, exceptionTable := #[], attributes := #[] }
def k10m3 : Method := { name := "charAt", desc := "(I)C", sig := { parameters := [.int], returnType := some .char }, accessFlags := 1, code := some k10c3 }
def k10c4 : Code := { maxStack := 2, maxLocals := 3, code := jdk_42_method_66_code, exceptionTable := #[], attributes := #[] }
def k10m4 : Method := { name := "equals", desc := "(Ljava/lang/Object;)Z", sig := { parameters := [(.object "java/lang/Object")], returnType := some .boolean }, accessFlags := 1, code := some k10c4 }
def k10c5 : Code := { maxStack := 1, maxLocals := 1, code := jdk_42_method_152_code, exceptionTable := #[], attributes := #[] }
def k10m5 : Method := { name := "coder", desc := "()B", sig := { parameters := [], returnType := some .byte }, accessFlags := 0, code := some k10c5 }
def k10c6 : Code := { maxStack := 1, maxLocals := 1, code := jdk_42_method_154_code, exceptionTable := #[], attributes := #[] }
def k10m6 : Method := { name := "isLatin1", desc := "()Z", sig := { parameters := [], returnType := some .boolean }, accessFlags := 0, code := some k10c6 }
def k10c7 : Code := { maxStack := 3, maxLocals := 2, code := jdk_42_method_155_code, exceptionTable := #[], attributes := #[] }
def k10m7 : Method := { name := "checkIndex", desc := "(II)V", sig := { parameters := [.int, .int], returnType := none }, accessFlags := 8, code := some k10c7 }
/-- java/lang/String -/
def k10 : Class := { plain "java/lang/String" (some 0) with
  accessFlags := 49
  interfaces := #[5, 6, 7, 8, 9]
  cf := some (fileOf pool10 10 #[.nestMembers #[1103]] #[{ accessFlags := 1, nameIndex := 5, descriptorIndex := 6, attributes := #[] }, { accessFlags := 1, nameIndex := 507, descriptorIndex := 334, attributes := #[] }, { accessFlags := 1, nameIndex := 692, descriptorIndex := 142, attributes := #[] }, { accessFlags := 1, nameIndex := 497, descriptorIndex := 427, attributes := #[] }, { accessFlags := 1, nameIndex := 543, descriptorIndex := 573, attributes := #[] }, { accessFlags := 0, nameIndex := 17, descriptorIndex := 337, attributes := #[] }, { accessFlags := 0, nameIndex := 494, descriptorIndex := 142, attributes := #[] }, { accessFlags := 8, nameIndex := 501, descriptorIndex := 391, attributes := #[] }] 49 2 #[1106, 1108, 575, 1110, 1112] #[{ accessFlags := 18, nameIndex := 13, descriptorIndex := 14, attributes := #[] }, { accessFlags := 18, nameIndex := 17, descriptorIndex := 18, attributes := #[] }, { accessFlags := 2, nameIndex := 21, descriptorIndex := 22, attributes := #[] }, { accessFlags := 2, nameIndex := 25, descriptorIndex := 26, attributes := #[] }, { accessFlags := 26, nameIndex := 1116, descriptorIndex := 1117, attributes := #[] }, { accessFlags := 24, nameIndex := 40, descriptorIndex := 26, attributes := #[] }, { accessFlags := 26, nameIndex := 1101, descriptorIndex := 1102, attributes := #[] }, { accessFlags := 26, nameIndex := 1121, descriptorIndex := 1122, attributes := #[] }, { accessFlags := 25, nameIndex := 599, descriptorIndex := 600, attributes := #[] }, { accessFlags := 24, nameIndex := 1125, descriptorIndex := 18, attributes := #[] }, { accessFlags := 24, nameIndex := 1127, descriptorIndex := 18, attributes := #[] }])
  fields := #[{ name := "value", type := (.array .byte), accessFlags := 18, slot := 0, constantValue := 0 }, { name := "coder", type := .byte, accessFlags := 18, slot := 1, constantValue := 0 }, { name := "hash", type := .int, accessFlags := 2, slot := 2, constantValue := 0 }, { name := "hashIsZero", type := .boolean, accessFlags := 2, slot := 3, constantValue := 0 }, { name := "serialVersionUID", type := .long, accessFlags := 26, slot := 0, constantValue := 0 }, { name := "COMPACT_STRINGS", type := .boolean, accessFlags := 24, slot := 1, constantValue := 0 }, { name := "serialPersistentFields", type := (.array (.object "java/io/ObjectStreamField")), accessFlags := 26, slot := 2, constantValue := 0 }, { name := "REPL", type := .char, accessFlags := 26, slot := 3, constantValue := 0 }, { name := "CASE_INSENSITIVE_ORDER", type := (.object "java/util/Comparator"), accessFlags := 25, slot := 4, constantValue := 0 }, { name := "LATIN1", type := .byte, accessFlags := 24, slot := 5, constantValue := 0 }, { name := "UTF16", type := .byte, accessFlags := 24, slot := 6, constantValue := 0 }]
  methods := #[k10m0, k10m1, k10m2, k10m3, k10m4, k10m5, k10m6, k10m7]
  instanceTypes := #[(.array .byte), .byte, .int, .boolean]
  staticTypes := #[.long, .boolean, (.array (.object "java/io/ObjectStreamField")), .char, (.object "java/util/Comparator"), .byte, .byte]
  resolved := Array.replicate 1451 none
  statics := some 0 }

def pool11 : Array CpInfo := pool [(1, .class_ 2), (0, u "java/lang/String"), (1, .class_ 6), (1, u "java/lang/Object"), (0, u "<init>"), (0, u "()V"), (0, .methodref 1 10), (0, .nameAndType 11 12), (0, u "checkIndex"), (0, u "(II)V"), (1, .class_ 16), (1, u "java/lang/StringLatin1"), (36, u "([BI)C"), (67, u "$assertionsDisabled"), (0, u "Z"), (98, .class_ 223), (1, u "java/lang/StringLatin1$LinesSpliterator"), (28, u "charAt"), (28, u "equals"), (0, u "([B[B)Z"), (107, .class_ 391), (0, u "java/lang/StringLatin1$CharsSpliterator")] 3

def k11m0 : Method := { name := "<init>", desc := "()V", sig := { parameters := [], returnType := none }, accessFlags := 0, code := none }
def k11c1 : Code := { maxStack := 2, maxLocals := 2, code := jdk_43_method_2_code, exceptionTable := #[], attributes := #[] }
def k11m1 : Method := { name := "charAt", desc := "([BI)C", sig := { parameters := [(.array .byte), .int], returnType := some .char }, accessFlags := 9, code := some k11c1 }
def k11c2 : Code := { maxStack := 3, maxLocals := 3, code := jdk_43_method_13_code, exceptionTable := #[], attributes := #[] }
def k11m2 : Method := { name := "equals", desc := "([B[B)Z", sig := { parameters := [(.array .byte), (.array .byte)], returnType := some .boolean }, accessFlags := 9, code := some k11c2 }
/-- java/lang/StringLatin1 -/
def k11 : Class := { plain "java/lang/StringLatin1" (some 0) with
  accessFlags := 48
  interfaces := #[]
  cf := some (fileOf pool11 14 #[.nestMembers #[390, 221]] #[{ accessFlags := 0, nameIndex := 7, descriptorIndex := 8, attributes := #[] }, { accessFlags := 9, nameIndex := 252, descriptorIndex := 53, attributes := #[] }, { accessFlags := 9, nameIndex := 281, descriptorIndex := 282, attributes := #[] }] 48 4 #[] #[{ accessFlags := 4120, nameIndex := 121, descriptorIndex := 122, attributes := #[] }])
  fields := #[{ name := "$assertionsDisabled", type := .boolean, accessFlags := 4120, slot := 0, constantValue := 0 }]
  methods := #[k11m0, k11m1, k11m2]
  instanceTypes := #[]
  staticTypes := #[.boolean]
  resolved := Array.replicate 395 none
  statics := none }

def pool12 : Array CpInfo := pool [(2, .class_ 4), (1, u "java/lang/Object"), (0, u "<init>"), (0, u "()V"), (17, .class_ 26), (1, u "jdk/internal/util/Preconditions"), (6, u "checkIndex"), (21, .class_ 56), (0, u "jdk/internal/util/Preconditions$4"), (57, .class_ 115), (0, u "jdk/internal/util/Preconditions$1"), (7, u "SIOOBE_FORMATTER"), (0, u "Ljava/util/function/BiFunction;"), (0, .class_ 126), (0, u "jdk/internal/util/Preconditions$2"), (3, u "AIOOBE_FORMATTER"), (0, .class_ 132), (0, u "jdk/internal/util/Preconditions$3"), (3, u "IOOBE_FORMATTER"), (41, u "(IILjava/util/function/BiFunction;)I")] 15

def k12m0 : Method := { name := "<init>", desc := "()V", sig := { parameters := [], returnType := none }, accessFlags := 1, code := none }
def k12c1 : Code := { maxStack := 3, maxLocals := 3, code := jdk_41_method_11_code, exceptionTable := #[], attributes := #[] }
def k12m1 : Method := { name := "checkIndex", desc := "(IILjava/util/function/BiFunction;)I", sig := { parameters := [.int, .int, (.object "java/util/function/BiFunction")], returnType := some .int }, accessFlags := 9, code := some k12c1 }
/-- jdk/internal/util/Preconditions -/
def k12 : Class := { plain "jdk/internal/util/Preconditions" (some 0) with
  accessFlags := 33
  interfaces := #[]
  cf := some (fileOf pool12 24 #[.nestMembers #[55, 131, 125, 114]] #[{ accessFlags := 1, nameIndex := 5, descriptorIndex := 6, attributes := #[] }, { accessFlags := 9, nameIndex := 33, descriptorIndex := 178, attributes := #[] }] 33 2 #[] #[{ accessFlags := 25, nameIndex := 123, descriptorIndex := 124, attributes := #[] }, { accessFlags := 25, nameIndex := 130, descriptorIndex := 124, attributes := #[] }, { accessFlags := 25, nameIndex := 136, descriptorIndex := 124, attributes := #[] }])
  fields := #[{ name := "SIOOBE_FORMATTER", type := (.object "java/util/function/BiFunction"), accessFlags := 25, slot := 0, constantValue := 0 }, { name := "AIOOBE_FORMATTER", type := (.object "java/util/function/BiFunction"), accessFlags := 25, slot := 1, constantValue := 0 }, { name := "IOOBE_FORMATTER", type := (.object "java/util/function/BiFunction"), accessFlags := 25, slot := 2, constantValue := 0 }]
  methods := #[k12m0, k12m1]
  instanceTypes := #[]
  staticTypes := #[(.object "java/util/function/BiFunction"), (.object "java/util/function/BiFunction"), (.object "java/util/function/BiFunction")]
  resolved := Array.replicate 194 none
  statics := some 1 }

def pool13 : Array CpInfo := pool [(9, u "<init>"), (6, .class_ 18), (1, u "java/lang/Object"), (0, u "()V"), (1, .class_ 23), (1, u "jdk/internal/util/ArraysSupport"), (0, u "LOG2_ARRAY_LONG_INDEX_SCALE"), (0, u "I"), (2, u "U"), (0, u "Ljdk/internal/misc/Unsafe;"), (8, u "BIG_ENDIAN"), (0, u "Z"), (8, u "LOG2_BYTE_BIT_SIZE"), (4, u "LOG2_ARRAY_INT_INDEX_SCALE"), (54, u "JLA"), (0, u "Ljdk/internal/access/JavaLangAccess;"), (11, u "LOG2_ARRAY_BOOLEAN_INDEX_SCALE"), (9, u "LOG2_ARRAY_BYTE_INDEX_SCALE"), (5, u "LOG2_ARRAY_CHAR_INDEX_SCALE"), (5, u "LOG2_ARRAY_SHORT_INDEX_SCALE"), (18, u "LOG2_ARRAY_FLOAT_INDEX_SCALE"), (24, u "LOG2_ARRAY_DOUBLE_INDEX_SCALE"), (89, u "T_BOOLEAN"), (2, u "T_CHAR"), (1, u "T_FLOAT"), (1, u "T_DOUBLE"), (1, u "T_BYTE"), (1, u "T_SHORT"), (1, u "T_INT"), (1, u "T_LONG"), (1, u "SOFT_MAX_ARRAY_LENGTH")] 83

def k13m0 : Method := { name := "<init>", desc := "()V", sig := { parameters := [], returnType := none }, accessFlags := 2, code := none }
/-- jdk/internal/util/ArraysSupport -/
def k13 : Class := { plain "jdk/internal/util/ArraysSupport" (some 0) with
  accessFlags := 33
  interfaces := #[]
  cf := some (fileOf pool13 21 #[] #[{ accessFlags := 2, nameIndex := 9, descriptorIndex := 19, attributes := #[] }] 33 16 #[] #[{ accessFlags := 24, nameIndex := 28, descriptorIndex := 29, attributes := #[] }, { accessFlags := 26, nameIndex := 38, descriptorIndex := 39, attributes := #[] }, { accessFlags := 25, nameIndex := 121, descriptorIndex := 25, attributes := #[] }, { accessFlags := 25, nameIndex := 131, descriptorIndex := 25, attributes := #[] }, { accessFlags := 25, nameIndex := 137, descriptorIndex := 25, attributes := #[] }, { accessFlags := 25, nameIndex := 143, descriptorIndex := 25, attributes := #[] }, { accessFlags := 25, nameIndex := 53, descriptorIndex := 25, attributes := #[] }, { accessFlags := 25, nameIndex := 24, descriptorIndex := 25, attributes := #[] }, { accessFlags := 25, nameIndex := 162, descriptorIndex := 25, attributes := #[] }, { accessFlags := 25, nameIndex := 187, descriptorIndex := 25, attributes := #[] }, { accessFlags := 26, nameIndex := 48, descriptorIndex := 25, attributes := #[] }, { accessFlags := 25, nameIndex := 277, descriptorIndex := 25, attributes := #[] }, { accessFlags := 25, nameIndex := 280, descriptorIndex := 25, attributes := #[] }, { accessFlags := 25, nameIndex := 282, descriptorIndex := 25, attributes := #[] }, { accessFlags := 25, nameIndex := 284, descriptorIndex := 25, attributes := #[] }, { accessFlags := 25, nameIndex := 286, descriptorIndex := 25, attributes := #[] }, { accessFlags := 25, nameIndex := 288, descriptorIndex := 25, attributes := #[] }, { accessFlags := 25, nameIndex := 290, descriptorIndex := 25, attributes := #[] }, { accessFlags := 25, nameIndex := 292, descriptorIndex := 25, attributes := #[] }, { accessFlags := 26, nameIndex := 108, descriptorIndex := 109, attributes := #[] }, { accessFlags := 25, nameIndex := 294, descriptorIndex := 25, attributes := #[] }])
  fields := #[{ name := "U", type := (.object "jdk/internal/misc/Unsafe"), accessFlags := 24, slot := 0, constantValue := 0 }, { name := "BIG_ENDIAN", type := .boolean, accessFlags := 26, slot := 1, constantValue := 0 }, { name := "LOG2_ARRAY_BOOLEAN_INDEX_SCALE", type := .int, accessFlags := 25, slot := 2, constantValue := 0 }, { name := "LOG2_ARRAY_BYTE_INDEX_SCALE", type := .int, accessFlags := 25, slot := 3, constantValue := 0 }, { name := "LOG2_ARRAY_CHAR_INDEX_SCALE", type := .int, accessFlags := 25, slot := 4, constantValue := 0 }, { name := "LOG2_ARRAY_SHORT_INDEX_SCALE", type := .int, accessFlags := 25, slot := 5, constantValue := 0 }, { name := "LOG2_ARRAY_INT_INDEX_SCALE", type := .int, accessFlags := 25, slot := 6, constantValue := 0 }, { name := "LOG2_ARRAY_LONG_INDEX_SCALE", type := .int, accessFlags := 25, slot := 7, constantValue := 0 }, { name := "LOG2_ARRAY_FLOAT_INDEX_SCALE", type := .int, accessFlags := 25, slot := 8, constantValue := 0 }, { name := "LOG2_ARRAY_DOUBLE_INDEX_SCALE", type := .int, accessFlags := 25, slot := 9, constantValue := 0 }, { name := "LOG2_BYTE_BIT_SIZE", type := .int, accessFlags := 26, slot := 10, constantValue := 0 }, { name := "T_BOOLEAN", type := .int, accessFlags := 25, slot := 11, constantValue := 0 }, { name := "T_CHAR", type := .int, accessFlags := 25, slot := 12, constantValue := 0 }, { name := "T_FLOAT", type := .int, accessFlags := 25, slot := 13, constantValue := 0 }, { name := "T_DOUBLE", type := .int, accessFlags := 25, slot := 14, constantValue := 0 }, { name := "T_BYTE", type := .int, accessFlags := 25, slot := 15, constantValue := 0 }, { name := "T_SHORT", type := .int, accessFlags := 25, slot := 16, constantValue := 0 }, { name := "T_INT", type := .int, accessFlags := 25, slot := 17, constantValue := 0 }, { name := "T_LONG", type := .int, accessFlags := 25, slot := 18, constantValue := 0 }, { name := "JLA", type := (.object "jdk/internal/access/JavaLangAccess"), accessFlags := 26, slot := 19, constantValue := 0 }, { name := "SOFT_MAX_ARRAY_LENGTH", type := .int, accessFlags := 25, slot := 20, constantValue := 0 }]
  methods := #[k13m0]
  instanceTypes := #[]
  staticTypes := #[(.object "jdk/internal/misc/Unsafe"), .boolean, .int, .int, .int, .int, .int, .int, .int, .int, .int, .int, .int, .int, .int, .int, .int, .int, .int, (.object "jdk/internal/access/JavaLangAccess"), .int]
  resolved := Array.replicate 378 none
  statics := none }

def pool14 : Array CpInfo := pool [(1, u "java/lang/Cloneable"), (0, .class_ 1), (0, u "java/lang/Object"), (0, .class_ 3)] 3

/-- java/lang/Cloneable -/
def k14 : Class := { plain "java/lang/Cloneable" (some 0) with
  accessFlags := 1537
  interfaces := #[]
  cf := some (fileOf pool14 2 #[] #[] 1537 4 #[] #[])
  fields := #[]
  methods := #[]
  instanceTypes := #[]
  staticTypes := #[]
  resolved := Array.replicate 8 none
  statics := none }

/-- the primitive byte -/
def k15 : Class := { plain "byte" none with kind := .primitive 'B', accessFlags := 0x411 }
/-- [B -/
def k16 : Class := { plain "[B" (some 0) with kind := .array 15 .byte, interfaces := #[14, 5], accessFlags := 1041 }

/-- the primitive int -/
def k17 : Class := { plain "int" none with kind := .primitive 'I', accessFlags := 0x411 }
/-- [I -/
def k18 : Class := { plain "[I" (some 0) with kind := .array 17 .int, interfaces := #[14, 5], accessFlags := 1041 }

def heap : Heap := #[{ cls := 10, slots := #[.long 0, .int 1, .null, .int 0, .null, .int 0, .int 0], vm := .statics 10 },
  { cls := 12, slots := #[.null, .null, .null], vm := .statics 12 }]
def classes : Array Class := #[k0, k1, k2, k3, k4, k5, k6, k7, k8, k9, k10, k11, k12, k13, k14, k15, k16, k17, k18]
def interned : List (Array UInt16 × Addr) := []
def slotsUsed : Nat := 10
def theMethod : MethodId := ⟨1, 2⟩
def args0 : Array Value := #[.int 5, .int 5]
def aboutOver (below : List Frame) : State where
  vm := { classes := classes, interned := interned.toArray }
  heap := heap
  slotsUsed := slotsUsed
  threads := #[{ frames := .invoking theMethod args0 :: below }]
def below0 : List Frame := [.native { method := ⟨0, 0⟩, args := #[] }]
def about1 : State := aboutOver below0
def p0 : Program := .bare "" "" ""
def e0 : Env := launch0.env 0 0 0
theorem w_frames : about1.frames = Frame.invoking theMethod args0 :: below0 := rfl
set_option maxRecDepth 65536 in
theorem w_args : argsFit about1.vm theMethod args0 = true := by decide +kernel
set_option maxRecDepth 65536 in
theorem w_heap : heapFits about1 = true := by decide +kernel
set_option maxRecDepth 65536 in
theorem w_runnable : about1.curStatus? = some .runnable := by decide +kernel
set_option maxRecDepth 65536 in
theorem w_alone : about1.alone = true := by decide +kernel
set_option maxRecDepth 65536 in
theorem w_named : about1.methodNamed? x = some theMethod := by decide +kernel
set_option maxRecDepth 65536 in
theorem w_hears : about1.hears theMethod below0 = true := by decide +kernel
set_option maxRecDepth 65536 in
theorem w_ripe : about1.ripe theMethod args0 below0 = true := by decide +kernel
theorem w_running : about1.status = .running := rfl
set_option maxRecDepth 65536 in
theorem w_room : about1.hasRoom e0.platform room_1 = true :=
  launch0.hasRoom_least _ room_1 (by decide +kernel) (by decide +kernel) (by decide +kernel) (by decide +kernel) (by decide +kernel) (by decide +kernel)
theorem allAtoms_all (ts : List Jvm.Cond) (a : Array Jvm.Value) (st : Jvm.State) : (allAtoms ts).before a st = ts.all (fun c => c.before a st) := by
  induction ts with
  | nil => rfl
  | cons c t ih =>
    show (Jvm.Cond.and c (allAtoms t)).before a st = _
    rw [Jvm.Cond.before_and, ih, List.all_cons]
def words1 : List Jvm.Cond := Jvm.Cond.code x code maxLocals ret :: tables_1
/-- a 'code' word, met by the world's own term for the bytes: nothing is compared byte by byte -/
theorem code_word {y : MethodName} {bytes : ByteArray} {mx : Nat} {rt : Option FieldType} {a : Array Value} {s : State} {m : MethodId} {meth : Method} {c : Code} (h1 : s.methodNamed? y = some m) (h2 : s.vm.method? m = some meth) (h3 : meth.code = some c) (h4 : c.code = bytes)
    (h5 : (c.maxLocals == mx && c.exceptionTable.isEmpty && decide (c.maxStack ≤ mostOperands) && decide (meth.sig.returnType = rt) && !meth.locks && decide (parseMethodDescriptor y.desc = some meth.sig)) = true) : (Jvm.Cond.code y bytes mx rt).before a s = true := by
  simp only [Bool.and_eq_true, beq_iff_eq, Bool.not_eq_true', decide_eq_true_eq] at h5
  obtain ⟨⟨⟨⟨⟨g1, g2⟩, g3⟩, g4⟩, g5⟩, g6⟩ := h5
  simp [Cond.before, Cond.holds, Cond.value, h1, h2, h3, h4, g1, g2, g3, g4, g5, g6]
def isCode : Jvm.Cond → Bool
  | .code _ _ _ _ => true
  | _ => false
theorem all_split {L : List Jvm.Cond} {P : Jvm.Cond → Bool} (h1 : L.all (fun c => isCode c || P c) = true) (h2 : ∀ c ∈ L.filter isCode, P c = true) : L.all P = true := by
  refine List.all_eq_true.mpr fun c hc => ?_
  have h := List.all_eq_true.mp h1 c hc
  rcases Bool.eq_false_or_eq_true (isCode c) with hi | hi
  · exact h2 c (List.mem_filter.mpr ⟨hc, hi⟩)
  · simpa [hi] using h
set_option maxRecDepth 65536 in
theorem w_c0 : (Jvm.Cond.code x code maxLocals ret).before args0 about1 = true := code_word (m := ⟨1, 2⟩) (meth := k1m2) (c := k1c2) (by decide +kernel) rfl rfl rfl (by decide +kernel)
set_option maxRecDepth 65536 in
theorem w_c1 : (Jvm.Cond.code ({ cls := "com/example/rowbridge/rowbridge/jdbc/MariadbSql", name := "<init>", desc := "(ZZ)V" } : Jvm.MethodName) prog_20_method_1_code (3 : Nat) (Option.none : Option Jvm.ClassFile.FieldType)).before args0 about1 = true := code_word (m := ⟨4, 0⟩) (meth := k4m0) (c := k4c0) (by decide +kernel) rfl rfl rfl (by decide +kernel)
set_option maxRecDepth 65536 in
theorem w_c2 : (Jvm.Cond.code ({ cls := "java/lang/Record", name := "<init>", desc := "()V" } : Jvm.MethodName) jdk_30_method_1_code (1 : Nat) (Option.none : Option Jvm.ClassFile.FieldType)).before args0 about1 = true := code_word (m := ⟨2, 0⟩) (meth := k2m0) (c := k2c0) (by decide +kernel) rfl rfl rfl (by decide +kernel)
set_option maxRecDepth 65536 in
theorem w_c3 : (Jvm.Cond.code ({ cls := "java/lang/Object", name := "<init>", desc := "()V" } : Jvm.MethodName) object_method_1_code (1 : Nat) (Option.none : Option Jvm.ClassFile.FieldType)).before args0 about1 = true := code_word (m := ⟨0, 0⟩) (meth := k0m0) (c := k0c0) (by decide +kernel) rfl rfl rfl (by decide +kernel)
set_option maxRecDepth 65536 in
theorem w_c4 : (Jvm.Cond.code ({ cls := "com/example/rowbridge/rowbridge/jdbc/MariadbSql", name := "session", desc := "()Ljava/lang/String;" } : Jvm.MethodName) prog_20_method_2_code (2 : Nat) (Option.some (Jvm.ClassFile.FieldType.object "java/lang/String"))).before args0 about1 = true := code_word (m := ⟨4, 1⟩) (meth := k4m1) (c := k4c1) (by decide +kernel) rfl rfl rfl (by decide +kernel)
set_option maxRecDepth 65536 in
theorem w_c5 : (Jvm.Cond.code ({ cls := "com/example/rowbridge/rowbridge/jdbc/MariadbSql", name := "literalEnd", desc := "(Ljava/lang/String;I)I" } : Jvm.MethodName) prog_20_method_3_code (5 : Nat) (Option.some Jvm.ClassFile.FieldType.int)).before args0 about1 = true := code_word (m := ⟨4, 2⟩) (meth := k4m2) (c := k4c2) (by decide +kernel) rfl rfl rfl (by decide +kernel)
set_option maxRecDepth 65536 in
theorem w_c6 : (Jvm.Cond.code ({ cls := "java/lang/String", name := "charAt", desc := "(I)C" } : Jvm.MethodName) jdk_42_method_56_code (2 : Nat) (Option.some Jvm.ClassFile.FieldType.char)).before args0 about1 = true := code_word (m := ⟨10, 3⟩) (meth := k10m3) (c := k10c3) (by decide +kernel) rfl rfl rfl (by decide +kernel)
set_option maxRecDepth 65536 in
theorem w_c7 : (Jvm.Cond.code ({ cls := "java/lang/String", name := "isLatin1", desc := "()Z" } : Jvm.MethodName) jdk_42_method_154_code (1 : Nat) (Option.some Jvm.ClassFile.FieldType.boolean)).before args0 about1 = true := code_word (m := ⟨10, 6⟩) (meth := k10m6) (c := k10c6) (by decide +kernel) rfl rfl rfl (by decide +kernel)
set_option maxRecDepth 65536 in
theorem w_c8 : (Jvm.Cond.code ({ cls := "java/lang/StringLatin1", name := "charAt", desc := "([BI)C" } : Jvm.MethodName) jdk_43_method_2_code (2 : Nat) (Option.some Jvm.ClassFile.FieldType.char)).before args0 about1 = true := code_word (m := ⟨11, 1⟩) (meth := k11m1) (c := k11c1) (by decide +kernel) rfl rfl rfl (by decide +kernel)
set_option maxRecDepth 65536 in
theorem w_c9 : (Jvm.Cond.code ({ cls := "java/lang/String", name := "checkIndex", desc := "(II)V" } : Jvm.MethodName) jdk_42_method_155_code (2 : Nat) (Option.none : Option Jvm.ClassFile.FieldType)).before args0 about1 = true := code_word (m := ⟨10, 7⟩) (meth := k10m7) (c := k10c7) (by decide +kernel) rfl rfl rfl (by decide +kernel)
set_option maxRecDepth 65536 in
theorem w_c10 : (Jvm.Cond.code ({ cls := "jdk/internal/util/Preconditions", name := "checkIndex", desc := "(IILjava/util/function/BiFunction;)I" } : Jvm.MethodName) jdk_41_method_11_code (3 : Nat) (Option.some Jvm.ClassFile.FieldType.int)).before args0 about1 = true := code_word (m := ⟨12, 1⟩) (meth := k12m1) (c := k12c1) (by decide +kernel) rfl rfl rfl (by decide +kernel)
set_option maxRecDepth 65536 in
theorem w_c11 : (Jvm.Cond.code ({ cls := "com/example/rowbridge/rowbridge/jdbc/SqlGrammar", name := "closedBy", desc := "(Ljava/lang/String;ICZ)I" } : Jvm.MethodName) prog_28_method_5_code (6 : Nat) (Option.some Jvm.ClassFile.FieldType.int)).before args0 about1 = true := code_word (m := ⟨3, 0⟩) (meth := k3m0) (c := k3c0) (by decide +kernel) rfl rfl rfl (by decide +kernel)
set_option maxRecDepth 65536 in
theorem w_c12 : (Jvm.Cond.code ({ cls := "java/lang/String", name := "length", desc := "()I" } : Jvm.MethodName) jdk_42_method_54_code (1 : Nat) (Option.some Jvm.ClassFile.FieldType.int)).before args0 about1 = true := code_word (m := ⟨10, 1⟩) (meth := k10m1) (c := k10c1) (by decide +kernel) rfl rfl rfl (by decide +kernel)
set_option maxRecDepth 65536 in
theorem w_c13 : (Jvm.Cond.code ({ cls := "java/lang/String", name := "coder", desc := "()B" } : Jvm.MethodName) jdk_42_method_152_code (1 : Nat) (Option.some Jvm.ClassFile.FieldType.byte)).before args0 about1 = true := code_word (m := ⟨10, 5⟩) (meth := k10m5) (c := k10c5) (by decide +kernel) rfl rfl rfl (by decide +kernel)
set_option maxRecDepth 65536 in
theorem w_c14 : (Jvm.Cond.code ({ cls := "java/lang/String", name := "equals", desc := "(Ljava/lang/Object;)Z" } : Jvm.MethodName) jdk_42_method_66_code (3 : Nat) (Option.some Jvm.ClassFile.FieldType.boolean)).before args0 about1 = true := code_word (m := ⟨10, 4⟩) (meth := k10m4) (c := k10c4) (by decide +kernel) rfl rfl rfl (by decide +kernel)
set_option maxRecDepth 65536 in
theorem w_c15 : (Jvm.Cond.code ({ cls := "java/lang/StringLatin1", name := "equals", desc := "([B[B)Z" } : Jvm.MethodName) jdk_43_method_13_code (3 : Nat) (Option.some Jvm.ClassFile.FieldType.boolean)).before args0 about1 = true := code_word (m := ⟨11, 2⟩) (meth := k11m2) (c := k11c2) (by decide +kernel) rfl rfl rfl (by decide +kernel)
set_option maxRecDepth 65536 in
theorem w_c16 : (Jvm.Cond.code ({ cls := "java/lang/String", name := "isEmpty", desc := "()Z" } : Jvm.MethodName) jdk_42_method_55_code (1 : Nat) (Option.some Jvm.ClassFile.FieldType.boolean)).before args0 about1 = true := code_word (m := ⟨10, 2⟩) (meth := k10m2) (c := k10c2) (by decide +kernel) rfl rfl rfl (by decide +kernel)
set_option maxRecDepth 65536 in
theorem w_c17 : (Jvm.Cond.code ({ cls := "com/example/rowbridge/rowbridge/jdbc/MariadbSqlSessionPinLaw", name := "expected", desc := "(ZZ)Ljava/lang/String;" } : Jvm.MethodName) method_2_code (2 : Nat) (Option.some (Jvm.ClassFile.FieldType.object "java/lang/String"))).before args0 about1 = true := code_word (m := ⟨1, 1⟩) (meth := k1m1) (c := k1c1) (by decide +kernel) rfl rfl rfl (by decide +kernel)
def codes1 : List Jvm.Cond := [Jvm.Cond.code x code maxLocals ret, Jvm.Cond.code ({ cls := "com/example/rowbridge/rowbridge/jdbc/MariadbSql", name := "<init>", desc := "(ZZ)V" } : Jvm.MethodName) prog_20_method_1_code (3 : Nat) (Option.none : Option Jvm.ClassFile.FieldType), Jvm.Cond.code ({ cls := "java/lang/Record", name := "<init>", desc := "()V" } : Jvm.MethodName) jdk_30_method_1_code (1 : Nat) (Option.none : Option Jvm.ClassFile.FieldType), Jvm.Cond.code ({ cls := "java/lang/Object", name := "<init>", desc := "()V" } : Jvm.MethodName) object_method_1_code (1 : Nat) (Option.none : Option Jvm.ClassFile.FieldType), Jvm.Cond.code ({ cls := "com/example/rowbridge/rowbridge/jdbc/MariadbSql", name := "session", desc := "()Ljava/lang/String;" } : Jvm.MethodName) prog_20_method_2_code (2 : Nat) (Option.some (Jvm.ClassFile.FieldType.object "java/lang/String")), Jvm.Cond.code ({ cls := "com/example/rowbridge/rowbridge/jdbc/MariadbSql", name := "literalEnd", desc := "(Ljava/lang/String;I)I" } : Jvm.MethodName) prog_20_method_3_code (5 : Nat) (Option.some Jvm.ClassFile.FieldType.int), Jvm.Cond.code ({ cls := "java/lang/String", name := "charAt", desc := "(I)C" } : Jvm.MethodName) jdk_42_method_56_code (2 : Nat) (Option.some Jvm.ClassFile.FieldType.char), Jvm.Cond.code ({ cls := "java/lang/String", name := "isLatin1", desc := "()Z" } : Jvm.MethodName) jdk_42_method_154_code (1 : Nat) (Option.some Jvm.ClassFile.FieldType.boolean), Jvm.Cond.code ({ cls := "java/lang/StringLatin1", name := "charAt", desc := "([BI)C" } : Jvm.MethodName) jdk_43_method_2_code (2 : Nat) (Option.some Jvm.ClassFile.FieldType.char), Jvm.Cond.code ({ cls := "java/lang/String", name := "checkIndex", desc := "(II)V" } : Jvm.MethodName) jdk_42_method_155_code (2 : Nat) (Option.none : Option Jvm.ClassFile.FieldType), Jvm.Cond.code ({ cls := "jdk/internal/util/Preconditions", name := "checkIndex", desc := "(IILjava/util/function/BiFunction;)I" } : Jvm.MethodName) jdk_41_method_11_code (3 : Nat) (Option.some Jvm.ClassFile.FieldType.int), Jvm.Cond.code ({ cls := "com/example/rowbridge/rowbridge/jdbc/SqlGrammar", name := "closedBy", desc := "(Ljava/lang/String;ICZ)I" } : Jvm.MethodName) prog_28_method_5_code (6 : Nat) (Option.some Jvm.ClassFile.FieldType.int), Jvm.Cond.code ({ cls := "java/lang/String", name := "length", desc := "()I" } : Jvm.MethodName) jdk_42_method_54_code (1 : Nat) (Option.some Jvm.ClassFile.FieldType.int), Jvm.Cond.code ({ cls := "java/lang/String", name := "coder", desc := "()B" } : Jvm.MethodName) jdk_42_method_152_code (1 : Nat) (Option.some Jvm.ClassFile.FieldType.byte), Jvm.Cond.code ({ cls := "java/lang/String", name := "equals", desc := "(Ljava/lang/Object;)Z" } : Jvm.MethodName) jdk_42_method_66_code (3 : Nat) (Option.some Jvm.ClassFile.FieldType.boolean), Jvm.Cond.code ({ cls := "java/lang/StringLatin1", name := "equals", desc := "([B[B)Z" } : Jvm.MethodName) jdk_43_method_13_code (3 : Nat) (Option.some Jvm.ClassFile.FieldType.boolean), Jvm.Cond.code ({ cls := "java/lang/String", name := "isEmpty", desc := "()Z" } : Jvm.MethodName) jdk_42_method_55_code (1 : Nat) (Option.some Jvm.ClassFile.FieldType.boolean), Jvm.Cond.code ({ cls := "com/example/rowbridge/rowbridge/jdbc/MariadbSqlSessionPinLaw", name := "expected", desc := "(ZZ)Ljava/lang/String;" } : Jvm.MethodName) method_2_code (2 : Nat) (Option.some (Jvm.ClassFile.FieldType.object "java/lang/String"))]
set_option maxRecDepth 65536 in
theorem codes_eq : words1.filter isCode = codes1 := rfl
theorem w_codes : ∀ c ∈ words1.filter isCode, c.before args0 about1 = true := by
  rw [codes_eq]
  intro c hc
  simp only [codes1, List.mem_cons, List.not_mem_nil, or_false] at hc
  rcases hc with rfl | rfl | rfl | rfl | rfl | rfl | rfl | rfl | rfl | rfl | rfl | rfl | rfl | rfl | rfl | rfl | rfl | rfl
  · exact w_c0
  · exact w_c1
  · exact w_c2
  · exact w_c3
  · exact w_c4
  · exact w_c5
  · exact w_c6
  · exact w_c7
  · exact w_c8
  · exact w_c9
  · exact w_c10
  · exact w_c11
  · exact w_c12
  · exact w_c13
  · exact w_c14
  · exact w_c15
  · exact w_c16
  · exact w_c17
set_option maxRecDepth 65536 in
theorem w_t1 : (words1.take 24).all (fun c => isCode c || c.before args0 about1) = true := by decide +kernel
set_option maxRecDepth 65536 in
theorem w_t2 : ((words1.drop 24).take 24).all (fun c => isCode c || c.before args0 about1) = true := by decide +kernel
set_option maxRecDepth 65536 in
theorem w_t3 : (((words1.drop 24).drop 24).take 24).all (fun c => isCode c || c.before args0 about1) = true := by decide +kernel
set_option maxRecDepth 65536 in
theorem w_t4 : ((((words1.drop 24).drop 24).drop 24).take 24).all (fun c => isCode c || c.before args0 about1) = true := by decide +kernel
set_option maxRecDepth 65536 in
theorem w_t5 : ((((words1.drop 24).drop 24).drop 24).drop 24).all (fun c => isCode c || c.before args0 about1) = true := by decide +kernel
theorem w_tables : (allAtoms (Jvm.Cond.code x code maxLocals ret :: tables_1)).before args0 about1 = true := by
  rw [allAtoms_all]
  show words1.all (fun c => c.before args0 about1) = true
  refine all_split ?_ w_codes
  rw [← List.take_append_drop 24 words1, List.all_append, w_t1, ← List.take_append_drop 24 (words1.drop 24), List.all_append, w_t2, ← List.take_append_drop 24 ((words1.drop 24).drop 24), List.all_append, w_t3, ← List.take_append_drop 24 (((words1.drop 24).drop 24).drop 24), List.all_append, w_t4, w_t5]
  rfl
set_option maxRecDepth 65536 in
theorem w_rest : rest_1_c.before args0 about1 = true := by decide +kernel
set_option maxRecDepth 65536 in
theorem w_case : (Jvm.Cond.and given_1 narrow_1).before args0 about1 = true := by decide +kernel
set_option maxRecDepth 65536 in
theorem w_consts : constsHeld consts_1 about1 := Jvm.Lit.constsHeldB_iff.mp (by decide +kernel)
theorem w_applies : (headSpec (Jvm.Cond.code x code maxLocals ret :: tables_1) room_1).applies x e0.platform about1 = true :=
  (Spec.applies_iff w_frames).mpr ⟨w_running, w_runnable, w_alone, w_named, w_hears, w_ripe, w_room, w_tables⟩
theorem atStart : AtStart classFile x code maxLocals ret World_1 tables_1 room_1 Calls_1 rest_1 Pre_1 launch0 p0 e0 about1 theMethod args0 below0 :=
  ⟨lists_1, trivial, launch0.admits_env _ _ _, launch0.least_env, fairChoices_fair.cas, fairChoices_fair.clock, w_frames, w_args, w_heap, w_applies, ⟨w_consts, trivial⟩, w_rest, w_case⟩
end start1
theorem witness_1 : WitnessClaimed_1 := ⟨start1.p0, start1.e0, start1.about1, start1.theMethod, start1.args0, start1.below0, start1.atStart⟩
end Jvm.Pilot.@@N@@
