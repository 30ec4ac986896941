import JvmDerived
import JvmDerived.Pilot.@@N@@Statement
import JvmDerived.Pilot.@@N@@Code
set_option linter.unusedVariables false
set_option linter.unusedSimpArgs false
namespace Jvm.RoadKit
open Sem ClassFile Op Lib Jvm.Stand Jvm.Free Jvm.LawKit
section New
variable {p : Program} {l : Launch} {e : Env} {R : Room} {s : State} {m : MethodId} {args : Array Value} {below : List Frame} {meth : Method} {c : Code} {T : State} {locs : List Loc} {cells slots : Nat}
theorem retI (X : Stand p l e R s m args below meth c T locs cells slots) (hx : p.tables.exec = Jvm.exec) {pc : Nat} {Ls : Array Slot} {z : Int32} {rest : List Value} (hret : meth.sig.returnType = some .int) (hd : decode c.code pc = .ok (.ireturn, 1)) {fs : List Frame}
    (hl : ∀ (f : JFrame) (acts : List Action), f.method = m → f.locked = none → f.entered = [] → (doReturn e (T.setTop f) acts (some (.int z))).1 = T.setFrames fs) : Steps p.tables e below (T.setTop (mkF m pc Ls (.int z :: rest))) (T.setFrames fs) := by
  have hm' : T.vm.method? m = some meth := X.method'
  have hn : narrow .int (.int z) = .int z := rfl
  show Steps p.tables e below (T.setTop { method := m, pc := pc, locals := Ls, stack := _ :: rest, locked := none }) _
  jvm_step X.here [X.here.top, hx, hd, hm', hret, hn]
  first | (intro acts; rw [hl _ acts rfl rfl rfl]) | rw [hl _ _ rfl rfl rfl]
  exact Steps.refl _
end New
end Jvm.RoadKit
namespace Jvm.Pilot.@@N@@
open Jvm Jvm.ClassFile Sem Op Lib Jvm.Free Jvm.Stand Jvm.LawKit Jvm.RoadKit Bundle Jvm.Pilot.@@N@@.Jvm.D
section Own
variable {p : Program} {l : Launch} {e : Env} {R : Room} {s : State} {m : MethodId} {args : Array Value} {below : List Frame} {meth : Method} {c : Code} {T : State} {locs : List Loc} {k j : Nat} {Z : State} {a0 : Array Value} {h : Heap}
/-- the run that stands at g goes on to an end as Q says -/
def own_E (p : Program) (e : Env) (below : List Frame) (Q : Outcome → State → Prop) (T : State) (g : JFrame) : Prop :=
  ∃ s₂ o, Steps p.tables e below (T.setTop g) s₂ ∧ s₂.status = .running ∧ Ended s₂ below o ∧ Q o s₂
/-- an end as a contract's Qr says, with so many cells and slots at the most -/
def own_Q (s : State) (Qr : Option Value → Heap → List Loc → Prop) (k j : Nat) (o : Outcome) (U : State) : Prop := ∃ v L, o = .returned v ∧ Qr v U.heap L ∧ FrameEnd s o U L k j
/-- a contract of a method at these arguments and this heap -/
def own_M (l : Launch) (Z : State) (y : MethodName) (bytes : ByteArray) (maxL : Nat) (ret : Option FieldType) (rm : Room) (as' : Array Value) (h : Heap) (Qr : Option Value → Heap → List Loc → Prop) : Prop :=
  ∀ ws : List Jvm.Cond, MetFree l y (head1 (Jvm.Cond.code y bytes maxL ret :: ws) rm) (fun a U => a = as' ∧ Z.Warmed39 U.vm ∧ U.heap = h) (fun _ _ _ _ _ => True) (fun _ U o U' => ∃ v L, o = .returned v ∧ Qr v U'.heap L ∧ FrameEnd U o U' L rm.cells rm.slots)
theorem own_st {Q : Outcome → State → Prop} {T' : State} {g g' : JFrame} (hs : ∀ t, Steps p.tables e below (T'.setTop g') t → Steps p.tables e below (T.setTop g) t) (k : own_E p e below Q T' g') : own_E p e below Q T g := by
  obtain ⟨s₂, o, h1, h2, h3, h4⟩ := k
  exact ⟨s₂, o, hs _ h1, h2, h3, h4⟩
theorem own_sy {Q : Outcome → State → Prop} {T' : State} {g g' : JFrame} (hs : Steps p.tables e below (T.setTop g) (T'.setTop g')) (k : own_E p e below Q T' g') : own_E p e below Q T g := by
  obtain ⟨s₂, o, h1, h2, h3, h4⟩ := k
  exact ⟨s₂, o, hs.trans h1, h2, h3, h4⟩
theorem own_body {y : MethodName} {bytes : ByteArray} {maxL : Nat} {ret : Option FieldType} {rm : Room} {as' : Array Value} {Qr : Option Value → Heap → List Loc → Prop} (hp : plainName y.cls = true)
    (body : ∀ (p : Program) (e : Env) (s : State) (m : MethodId) (below : List Frame) (meth : Method) (c : Code) (T : State), p.tables.exec = Jvm.exec → c.code = bytes → c.maxLocals = maxL → s.vm.findClass y.cls = some m.cls → Z.Warmed39 s.vm → meth.sig.returnType = ret → meth.locks = false → meth.name = y.name →
      Stand p l e rm s m as' below meth c T [] 0 0 → T.heap = h → own_E p e below (own_Q s Qr rm.cells rm.slots) T (entryFrame m as' maxL)) : own_M l Z y bytes maxL ret rm as' h Qr := by
  intro ws
  refine MetFree.of_bodySF (plainFor_of_name hp) hisR ?_
  intro p e s m args below meth c s₁ Bd hml0 hP hK
  obtain ⟨rfl, hZ, hh⟩ := hP
  exact body p e s m below meth c s₁ Bd.exec Bd.bytes hml0 (findClass_of_methodNamed Bd.named) hZ Bd.returns Bd.notSynchronized (name_of_methodNamed Bd.named Bd.method).1 (Stand.of_body Bd) (by rw [← hh, Bd.state]; rfl)
theorem own_retN {Qr : Option Value → Heap → List Loc → Prop} {kk jj pc : Nat} {Ls : Array Slot} {z : Int32} {t : FieldType} {rest : List Value} (X : Stand p l e R s m args below meth c T locs k j) (hx : p.tables.exec = Jvm.exec) (hlk : meth.locks = false) (hret : meth.sig.returnType = some t) (ht : t = .boolean ∨ t = .byte ∨ t = .char ∨ t = .short)
    (hd : decode c.code pc = .ok (.ireturn, 1)) (hk : k ≤ kk) (hj : j ≤ jj) (hq : Qr (some (.int (nar t z))) T.heap locs) : own_E p e below (own_Q s Qr kk jj) T (mkF m pc Ls (.int z :: rest)) := by
  obtain ⟨fs, hr, hrun, hended, hW, hsame⟩ := X.leave (v := some (.int (nar t z))) (fun q => by rw [hret] at q; cases q) hlk
  exact ⟨_, _, retN X hx hret ht hd hr, hrun, hended, _, _, rfl, hq, ⟨_, rfl⟩, hW, hsame.mono hk hj⟩
theorem own_retI {Qr : Option Value → Heap → List Loc → Prop} {kk jj pc : Nat} {Ls : Array Slot} {z : Int32} {rest : List Value} (X : Stand p l e R s m args below meth c T locs k j) (hx : p.tables.exec = Jvm.exec) (hlk : meth.locks = false) (hret : meth.sig.returnType = some .int)
    (hd : decode c.code pc = .ok (.ireturn, 1)) (hk : k ≤ kk) (hj : j ≤ jj) (hq : Qr (some (.int z)) T.heap locs) : own_E p e below (own_Q s Qr kk jj) T (mkF m pc Ls (.int z :: rest)) := by
  obtain ⟨fs, hr, hrun, hended, hW, hsame⟩ := X.leave (v := some (.int z)) (fun q => by rw [hret] at q; cases q) hlk
  exact ⟨_, _, retI X hx hret hd hr, hrun, hended, _, _, rfl, hq, ⟨_, rfl⟩, hW, hsame.mono hk hj⟩
theorem own_retJ {Qr : Option Value → Heap → List Loc → Prop} {kk jj pc : Nat} {Ls : Array Slot} {z : Int64} (X : Stand p l e R s m args below meth c T locs k j) (hx : p.tables.exec = Jvm.exec) (hlk : meth.locks = false) (hret : meth.sig.returnType = some .long)
    (hd : decode c.code pc = .ok (.lreturn, 1)) (hk : k ≤ kk) (hj : j ≤ jj) (hq : Qr (some (.long z)) T.heap locs) : own_E p e below (own_Q s Qr kk jj) T (mkF m pc Ls [.long z]) := by
  obtain ⟨fs, hr, hrun, hended, hW, hsame⟩ := X.leave (v := some (.long z)) (fun q => by rw [hret] at q; cases q) hlk
  exact ⟨_, _, X.lreturnOut hx hret hd hr, hrun, hended, _, _, rfl, hq, ⟨_, rfl⟩, hW, hsame.mono hk hj⟩
theorem own_retV {Qr : Option Value → Heap → List Loc → Prop} {kk jj pc : Nat} {Ls : Array Slot} (X : Stand p l e R s m args below meth c T locs k j) (hx : p.tables.exec = Jvm.exec) (hlk : meth.locks = false) (hret : meth.sig.returnType = none)
    (hd : decode c.code pc = .ok (.return_, 1)) (hk : k ≤ kk) (hj : j ≤ jj) (hq : Qr none T.heap locs) : own_E p e below (own_Q s Qr kk jj) T (mkF m pc Ls []) := by
  obtain ⟨fs, hr, hrun, hended, hW, hsame⟩ := X.leave (v := none) (fun _ => rfl) hlk
  exact ⟨_, _, X.returnOut hx hret hd hr, hrun, hended, _, _, rfl, hq, ⟨_, rfl⟩, hW, hsame.mono hk hj⟩
theorem own_retA {Qr : Option Value → Heap → List Loc → Prop} {kk jj pc : Nat} {Ls : Array Slot} {z : Value} {t : FieldType} {rest : List Value} (X : Stand p l e R s m args below meth c T locs k j) (hx : p.tables.exec = Jvm.exec) (hlk : meth.locks = false) (hret : meth.sig.returnType = some t) (ht : t.isReference = true) (hz : z.isRef = true) (hn : narrow t z = z)
    (hd : decode c.code pc = .ok (.areturn, 1)) (hk : k ≤ kk) (hj : j ≤ jj) (hq : Qr (some z) T.heap locs) : own_E p e below (own_Q s Qr kk jj) T (mkF m pc Ls (z :: rest)) := by
  obtain ⟨fs, hr, hrun, hended, hW, hsame⟩ := X.leave (v := some z) (fun q => by rw [hret] at q; cases q) hlk
  exact ⟨_, _, retOut X hx hret hn (Or.inr (Or.inr (Or.inr (Or.inr ⟨rfl, ht, hz⟩)))) hd hr, hrun, hended, _, _, rfl, hq, ⟨_, rfl⟩, hW, hsame.mono hk hj⟩
theorem own_callS {own : String} {index : Nat} {y : MethodName} {bytes : ByteArray} {maxL W : Nat} {ret : Option FieldType} {rm : Room} {Qr : Option Value → Heap → List Loc → Prop} {Q : Outcome → State → Prop} {g : JFrame} {argsL rest : List Value}
    (X : Stand p l e R s m args below meth c T locs k j) (hx : p.tables.exec = Jvm.exec) (hZ : Z.Warmed39 s.vm) (hown : s.vm.findClass own = some m.cls) (wl : (Cond.methodLink own index y).before a0 Z = true) (wst : (Cond.static y).before a0 Z = true) (wi : (Cond.initialized y.cls).before a0 Z = true) (wc : (Cond.code y bytes maxL ret).before a0 Z = true)
    (hy : y.cls ≠ "java/lang/invoke/MethodHandle" ∧ y.cls ≠ "java/lang/invoke/VarHandle") (hM : own_M l Z y bytes maxL ret rm argsL.toArray T.heap Qr) (hf : rm.frames + 1 ≤ R.frames) (hl : W + (maxL + 11) + rm.locals ≤ R.locals) (hck : k + rm.cells ≤ R.cells) (hcj : j + rm.slots ≤ R.slots)
    (hg : g.method = m) (hsize : g.locals.size = c.maxLocals) (hlen : ∀ sig, parseMethodDescriptor y.desc = some sig → argsL.length = sig.parameters.length) (hstack : g.stack = argsL.reverse ++ rest) (hW : 2 * g.monitorRoom + (rest.map fun v => v.category).sum ≤ W) (hdg : decode c.code g.pc = .ok (.invokestatic index, 3))
    (K : ∀ (T' : State) (L : List Loc) (v : Option Value), Stand p l e R s m args below meth c T' (locs ++ L) (k + rm.cells) (j + rm.slots) → Qr v T'.heap L → own_E p e below Q T' { g with pc := g.pc + 3, stack := v.toList ++ rest }) : own_E p e below Q T g := by
  obtain ⟨v, vm1, ⟨T', L', k', j'⟩, -, X', ⟨Lc, hQ, l', y', z'⟩, st⟩ := Jvm.LawKit.callS X hx (y := y) hown (mvT hZ wl) (mvT hZ wst) (mvT hZ wi) (mvT hZ wc) hy (backOf (W := W) (hM []) hZ wc wi hf hl) hg hsize hlen hstack hW hdg (fun _ _ => ⟨rfl, rfl, hck, hcj⟩)
  dsimp only [Pt.U, Pt.locs, Pt.cells, Pt.slots] at X' l' y' z' st hQ
  subst l' y' z'
  exact own_st st (K _ _ _ X' hQ)
theorem own_tr {P : Heap → Prop} {h h' : Heap} (q : h' = h) (i : P h) : P h' := q ▸ i
theorem own_pop2L {tb : Tables} [Ours tb] {target : State} {g : JFrame} (h : At T m c below) (hx : tb.exec = Jvm.exec) (hg : g.method = m) {x : Int64} {rest : List Value} (hd : decode c.code g.pc = .ok (.pop2, 1)) (hs : g.stack = .long x :: rest)
    (hr : Steps tb e below (T.setTop { g with pc := g.pc + 1, stack := rest }) target) : Steps tb e below (T.setTop g) target := by
  subst hg
  jvm_step h [h.top, hx, hd, hs]
  exact hr
theorem own_callC {own : String} {index : Nat} {y : MethodName} {bytes : ByteArray} {maxL W : Nat} {rm : Room} {Qr : Option Value → Heap → List Loc → Prop} {Q : Outcome → State → Prop} {g : JFrame} {a : Addr} {argsL rest : List Value}
    (X : Stand p l e R s m args below meth c T locs k j) (hx : p.tables.exec = Jvm.exec) (hZ : Z.Warmed39 s.vm) (hy1 : y.name = "<init>") (hown : s.vm.findClass own = some m.cls) (wl : (Cond.methodLink own index y).before a0 Z = true) (wm : (Cond.instanceMethod y).before a0 Z = true) (wi : (Cond.initialized y.cls).before a0 Z = true) (wc : (Cond.code y bytes maxL none).before a0 Z = true)
    (hy : y.cls ≠ "java/lang/invoke/MethodHandle" ∧ y.cls ≠ "java/lang/invoke/VarHandle") (hM : own_M l Z y bytes maxL none rm (.ref a :: argsL).toArray T.heap Qr) (hf : rm.frames + 1 ≤ R.frames) (hl : W + (maxL + 11) + rm.locals ≤ R.locals) (hck : k + rm.cells ≤ R.cells) (hcj : j + rm.slots ≤ R.slots)
    (hg : g.method = m) (hsize : g.locals.size = c.maxLocals) (hlen : ∀ sig, parseMethodDescriptor y.desc = some sig → argsL.length = sig.parameters.length) (hstack : g.stack = argsL.reverse ++ .ref a :: rest) (hW : 2 * g.monitorRoom + (rest.map fun v => v.category).sum ≤ W) (hdg : decode c.code g.pc = .ok (.invokespecial index, 3))
    (K : ∀ (T' : State) (L : List Loc) (v : Option Value), Stand p l e R s m args below meth c T' (locs ++ L) (k + rm.cells) (j + rm.slots) → Qr v T'.heap L → own_E p e below Q T' { g with pc := g.pc + 3, stack := v.toList ++ rest }) : own_E p e below Q T g := by
  obtain ⟨v, vm1, ⟨T', L', k', j'⟩, -, X', ⟨Lc, hQ, l', y', z'⟩, st⟩ := X.specialBack hx (y := y) hy1 hown (mvT hZ wl) (mvT hZ wm) (mvT hZ wc) hy (backOf (W := W) (hM []) hZ wc wi hf hl) hg hsize (Steps.refl _) (a := a) hlen hstack hW hdg (fun _ _ => ⟨rfl, rfl, hck, hcj⟩)
  dsimp only [Pt.U, Pt.locs, Pt.cells, Pt.slots] at X' l' y' z' st hQ
  subst l' y' z'
  exact own_sy st (K _ _ _ X' hQ)
theorem own_callV {own : String} {index : Nat} {y : MethodName} {bytes : ByteArray} {maxL W : Nat} {ret : Option FieldType} {rm : Room} {Qr : Option Value → Heap → List Loc → Prop} {Q : Outcome → State → Prop} {g : JFrame} {a : Addr} {argsL rest : List Value}
    (X : Stand p l e R s m args below meth c T locs k j) (hx : p.tables.exec = Jvm.exec) (hZ : Z.Warmed39 s.vm) (hown : s.vm.findClass own = some m.cls) (wl : (Cond.methodLink own index y).before a0 Z = true) (wd : (Cond.declares y).before a0 Z = true) (wsel : (Cond.selects y.cls y y).before a0 Z = true) (wm : (Cond.instanceMethod y).before a0 Z = true) (wi : (Cond.initialized y.cls).before a0 Z = true) (wc : (Cond.code y bytes maxL ret).before a0 Z = true)
    (hy : y.cls ≠ "java/lang/invoke/MethodHandle" ∧ y.cls ≠ "java/lang/invoke/VarHandle") (E : Exa Z T.heap a y.cls) (hM : own_M l Z y bytes maxL ret rm (.ref a :: argsL).toArray T.heap Qr) (hf : rm.frames + 1 ≤ R.frames) (hl : W + (maxL + 11) + rm.locals ≤ R.locals) (hck : k + rm.cells ≤ R.cells) (hcj : j + rm.slots ≤ R.slots)
    (hg : g.method = m) (hsize : g.locals.size = c.maxLocals) (hlen : ∀ sig, parseMethodDescriptor y.desc = some sig → argsL.length = sig.parameters.length) (hstack : g.stack = argsL.reverse ++ .ref a :: rest) (hW : 2 * g.monitorRoom + (rest.map fun v => v.category).sum ≤ W) (hdg : decode c.code g.pc = .ok (.invokevirtual index, 3))
    (K : ∀ (T' : State) (L : List Loc) (v : Option Value), Stand p l e R s m args below meth c T' (locs ++ L) (k + rm.cells) (j + rm.slots) → Qr v T'.heap L → own_E p e below Q T' { g with pc := g.pc + 3, stack := v.toList ++ rest }) : own_E p e below Q T g := by
  obtain ⟨cB, kB, qa, qb, qc⟩ := isOf (T := T) hZ rfl E
  obtain ⟨v, vm1, ⟨T', L', k', j'⟩, -, X', ⟨Lc, hQ, l', y', z'⟩, st⟩ := X.virtualBack hx (y := y) (z := y) hown (mvT hZ wl) (mvT hZ wd) (notFace_of_selects (args := #[]) (mvT hZ wsel)) (mvT hZ wsel) (mvT hZ wm) hy (backOf (W := W) (hM []) hZ wc wi hf hl) qa qc hg hsize (Steps.refl _) hlen hstack hW hdg (fun _ _ => ⟨rfl, rfl, hck, hcj⟩)
  dsimp only [Pt.U, Pt.locs, Pt.cells, Pt.slots] at X' l' y' z' st hQ
  subst l' y' z'
  exact own_sy st (K _ _ _ X' hQ)
theorem own_sel {y z : MethodName} (h : (Cond.selects z.cls z z).before args s = true) (hc : y.cls = z.cls) (hpriv : s.PrivateAt y) (hinst : (Cond.instanceMethod y).before args s = true) (hy : y.cls ≠ "java/lang/invoke/MethodHandle" ∧ y.cls ≠ "java/lang/invoke/VarHandle") : (Cond.selects y.cls y y).before args s = true := by
  obtain ⟨c2, r2, m2, -, -, q3, -, kP, hkP, hkPi⟩ := Cond.selects_spec h
  exact Stand.selects_self_of_private (by rw [hc]; exact findClass_of_methodNamed q3) hkP hkPi hpriv hinst hy
theorem own_callP {own : String} {index : Nat} {y z : MethodName} {bytes : ByteArray} {maxL W : Nat} {ret : Option FieldType} {rm : Room} {Qr : Option Value → Heap → List Loc → Prop} {Q : Outcome → State → Prop} {g : JFrame} {a : Addr} {argsL rest : List Value}
    (X : Stand p l e R s m args below meth c T locs k j) (hx : p.tables.exec = Jvm.exec) (hZ : Z.Warmed39 s.vm) (hown : s.vm.findClass own = some m.cls) (wl : (Cond.methodLink own index y).before a0 Z = true) (wsel : (Cond.selects z.cls z z).before a0 Z = true) (hc : y.cls = z.cls) (wp : (Cond.privateMethod y).before a0 Z = true) (wm : (Cond.instanceMethod y).before a0 Z = true) (wi : (Cond.initialized y.cls).before a0 Z = true) (wc : (Cond.code y bytes maxL ret).before a0 Z = true)
    (hy : y.cls ≠ "java/lang/invoke/MethodHandle" ∧ y.cls ≠ "java/lang/invoke/VarHandle") (E : Exa Z T.heap a y.cls) (hM : own_M l Z y bytes maxL ret rm (.ref a :: argsL).toArray T.heap Qr) (hf : rm.frames + 1 ≤ R.frames) (hl : W + (maxL + 11) + rm.locals ≤ R.locals) (hck : k + rm.cells ≤ R.cells) (hcj : j + rm.slots ≤ R.slots)
    (hg : g.method = m) (hsize : g.locals.size = c.maxLocals) (hlen : ∀ sig, parseMethodDescriptor y.desc = some sig → argsL.length = sig.parameters.length) (hstack : g.stack = argsL.reverse ++ .ref a :: rest) (hW : 2 * g.monitorRoom + (rest.map fun v => v.category).sum ≤ W) (hdg : decode c.code g.pc = .ok (.invokevirtual index, 3))
    (K : ∀ (T' : State) (L : List Loc) (v : Option Value), Stand p l e R s m args below meth c T' (locs ++ L) (k + rm.cells) (j + rm.slots) → Qr v T'.heap L → own_E p e below Q T' { g with pc := g.pc + 3, stack := v.toList ++ rest }) : own_E p e below Q T g := by
  obtain ⟨cq, q1, q2⟩ := E.cell
  have hpr := Cond.privateMethod_at (mvP hZ wp (args := args))
  obtain ⟨v, vm1, ⟨T', L', k', j'⟩, -, X', ⟨Lc, hQ, l', y', z'⟩, st⟩ := X.privateBack hx (y := y) hown (mvT hZ wl) (mvT hZ wm) (own_sel (z := z) (mvT hZ wsel) hc hpr (mvT hZ wm) hy) hpr (mvT hZ wc) hy (backOf (W := W) (hM []) hZ wc wi hf hl) hg hsize (Steps.refl _) (a := a) q1 q2 hlen hstack hW hdg (fun _ _ => ⟨rfl, rfl, hck, hcj⟩)
  dsimp only [Pt.U, Pt.locs, Pt.cells, Pt.slots] at X' l' y' z' st hQ
  subst l' y' z'
  exact own_sy st (K _ _ _ X' hQ)
end Own
section OwnL
variable {p : Program} {l : Launch} {e : Env} {R : Room} {s : State} {m : MethodId} {args : Array Value} {below : List Frame} {meth : Method} {c : Code} {T : State} {locs : List Loc} {k j : Nat} {target : State} {g : JFrame}
theorem own_lswIn (X : Stand p l e R s m args below meth c T locs k j) (hx : p.tables.exec = Jvm.exec) (hg : g.method = m) {dflt : Int} {pairs : Array (Int × Int)} {len : Nat} {a o : Int} {pc0 pc' : Nat} (hpc : g.pc = pc0) (hd : decode c.code g.pc = .ok (.lookupswitch dflt pairs, len)) {i : Int32} {rest : List Value} (hs : g.stack = .int i :: rest)
    (hsort : (pairs.toList.zip (pairs.toList.drop 1)).all (fun (a, next) => a.1 < next.1) = true) (hfind : pairs.find? (·.1 == i.toInt) = some (a, o)) (ho : 0 ≤ (pc0 : Int) + o) (hp : ((pc0 : Int) + o).toNat = pc') (hr : Steps p.tables e below (T.setTop { g with pc := pc', stack := rest }) target) : Steps p.tables e below (T.setTop g) target := by
  subst hpc hp
  exact X.lookupswitchHit hx hg hs hd hsort hfind ho _ hr
theorem own_lswOut (X : Stand p l e R s m args below meth c T locs k j) (hx : p.tables.exec = Jvm.exec) (hg : g.method = m) {dflt : Int} {pairs : Array (Int × Int)} {len : Nat} {pc0 pc' : Nat} (hpc : g.pc = pc0) (hd : decode c.code g.pc = .ok (.lookupswitch dflt pairs, len)) {i : Int32} {rest : List Value} (hs : g.stack = .int i :: rest)
    (hsort : (pairs.toList.zip (pairs.toList.drop 1)).all (fun (a, next) => a.1 < next.1) = true) (hfind : pairs.find? (·.1 == i.toInt) = none) (ho : 0 ≤ (pc0 : Int) + dflt) (hp : ((pc0 : Int) + dflt).toNat = pc') (hr : Steps p.tables e below (T.setTop { g with pc := pc', stack := rest }) target) : Steps p.tables e below (T.setTop g) target := by
  subst hpc hp
  exact X.lookupswitchMiss hx hg hs hd hsort hfind ho _ hr
theorem own_neI (x : Int32) (k : Int) {y : Int32} (hk : y.toInt = k) (q : ¬ x = y) : k ≠ x.toInt := fun z => q (Int32.toInt_inj.mp (by rw [hk]; exact z.symm))
end OwnL
theorem pn_1 : plainName "org/jutewire/codec/HessianVersion" = true := by first | (simp [plainName, overriddenIn]; done) | decide +kernel
theorem pd_1 : parseMethodDescriptor "(I)Lorg/jutewire/codec/HessianVersion;" = some ⟨[.int], some (.object "org/jutewire/codec/HessianVersion")⟩ := by decide +kernel
theorem d1_0 : decode prog_61_method_5_code 0 = .ok (.iload_n 0, 1) := by decide +kernel
theorem d1_1 : decode prog_61_method_5_code 1 = .ok (.lookupswitch 47 #[(72, 41), (99, 35), (114, 35)], 35) := by decide +kernel
theorem d1_36 : decode prog_61_method_5_code 36 = .ok (.getstatic 3, 3) := by decide +kernel
theorem d1_39 : decode prog_61_method_5_code 39 = .ok (.goto 10, 3) := by decide +kernel
theorem d1_42 : decode prog_61_method_5_code 42 = .ok (.getstatic 7, 3) := by decide +kernel
theorem d1_45 : decode prog_61_method_5_code 45 = .ok (.goto 4, 3) := by decide +kernel
theorem d1_48 : decode prog_61_method_5_code 48 = .ok (.aconst_null, 1) := by decide +kernel
theorem d1_49 : decode prog_61_method_5_code 49 = .ok (.areturn, 1) := by decide +kernel
theorem ef_1 (m : MethodId) (p0 : Int32) : entryFrame m #[(.int p0)] 1 = (mkF m 0 #[.val (.int p0)] []) := by first | (simp [entryFrame, mkF, argsToLocals, Value.category, maxLocals]; done) | rfl
def F1_36 (x0 : Int32) (v1 : Addr) (v2 : Addr) : Value := (.ref v1)
def F1_0 (x0 : Int32) (v1 : Addr) (v2 : Addr) : Value := (if x0 = (72 : Int32) then (.ref v2) else (if x0 = (99 : Int32) then (F1_36 x0 v1 v2) else (if x0 = (114 : Int32) then (F1_36 x0 v1 v2) else .null)))
theorem own_ref1 (p0 : Int32) (v1 : Addr) (v2 : Addr) : (F1_0 p0 v1 v2).isRef = true := by
  unfold F1_0
  repeat (first | (split; · rfl) | rfl)
set_option maxRecDepth 65536 in
set_option maxHeartbeats 40000000 in
theorem rm1 (l : Launch) (Z : State) (a0 : Array Value) (hw : ∀ d ∈ tables_1, d.before a0 Z = true) (p0 : Int32) (v1 : Addr) (v2 : Addr) (h0 : Heap) (n0 : Nat) (S_v1 : Sta Z h0 "org/jutewire/codec/HessianVersion" "V1" "Lorg/jutewire/codec/HessianVersion;" (.ref v1)) (S_v2 : Sta Z h0 "org/jutewire/codec/HessianVersion" "V2" "Lorg/jutewire/codec/HessianVersion;" (.ref v2)) :
    own_M l Z (⟨"org/jutewire/codec/HessianVersion", "ofFirstOctet", "(I)Lorg/jutewire/codec/HessianVersion;"⟩ : MethodName) prog_61_method_5_code 1 (some (.object "org/jutewire/codec/HessianVersion")) ({ frames := 0, cells := 0, slots := 0, locals := 0 } : Room) #[(.int p0)] h0 (fun v h L => v = some (F1_0 p0 v1 v2) ∧ Fr n0 L ∧ h = h0) := by
  refine own_body pn_1 ?_
  intro p e s m below meth c T hx hby hml hown hZ hret hlk hnm X eT
  have N := Fr.nil n0
  obtain ⟨w, hF⟩ : ∃ w, w = F1_0 p0 v1 v2 := ⟨_, rfl⟩
  try rw [← hF]
  generalize hQ : own_Q s (fun v h L => v = some w ∧ Fr n0 L ∧ h = h0) ({ frames := 0, cells := 0, slots := 0, locals := 0 } : Room).cells ({ frames := 0, cells := 0, slots := 0, locals := 0 } : Room).slots = Qq
  refine own_st (fun _ k => castTop (ef_1 m p0) k) ?_
  have B36 : ∀ (T : State) (L : List Loc) (x0 : Int32), Stand p l e ({ frames := 0, cells := 0, slots := 0, locals := 0 } : Room) s m #[(.int p0)] below meth c T L 0 0 → T.heap = h0 → Fr n0 L → w = F1_36 x0 v1 v2 → own_E p e below Qq T (mkF m 36 #[.val (.int x0)] []) := by
    intro T L x0 X eT N hF
    obtain ⟨T1, X1, e1, st1⟩ := getS X hx hZ hown (hw _ (List.mem_of_getElem? (i := 10) rfl)) Via.refl eT S_v1 (host := "") (g := (mkF m 36 #[.val (.int x0)] [])) rfl (hb hby d1_36)
    refine own_st st1 ?_
    replace eT := e1
    replace X := X1
    clear st1 e1 X1
    show own_E p e below Qq T1 (mkF m 39 #[.val (.int x0)] [(.ref v1)])
    refine own_st (fun _ => XS.goto X.here hx rfl (pc0 := 39) (pc' := 49) rfl (hb hby d1_39) (by decide) (by decide)) ?_
    show own_E p e below Qq T1 (mkF m 49 #[.val (.int x0)] [(.ref v1)])
    rw [← hQ]
    exact own_retA X hx hlk hret rfl rfl rfl (hb hby d1_49) (by decide) (by decide) ⟨by (rw [hF]; try rfl), N, eT⟩
  show own_E p e below Qq T (mkF m 0 #[.val (.int p0)] [])
  refine own_st (fun _ => XS.iloadN X.here hx rfl (hb hby d1_0) rfl) ?_
  show own_E p e below Qq T (mkF m 1 #[.val (.int p0)] [(.int p0)])
  by_cases q1_0 : p0 = (72 : Int32)
  · replace hF := hF.trans (if_pos q1_0)
    refine own_st (fun _ hr => own_lswIn (g := (mkF m 1 #[.val (.int p0)] [(.int p0)])) X hx rfl (pc0 := 1) (pc' := 42) (a := 72) (o := 41) rfl (hb hby d1_1) rfl (by decide) (by rw [q1_0]; rfl) (by decide) (by decide) hr) ?_
    show own_E p e below Qq T (mkF m 42 #[.val (.int p0)] [])
    obtain ⟨T2, X2, e2, st2⟩ := getS X hx hZ hown (hw _ (List.mem_of_getElem? (i := 7) rfl)) Via.refl eT S_v2 (host := "") (g := (mkF m 42 #[.val (.int p0)] [])) rfl (hb hby d1_42)
    refine own_st st2 ?_
    replace eT := e2
    replace X := X2
    clear st2 e2 X2
    show own_E p e below Qq T2 (mkF m 45 #[.val (.int p0)] [(.ref v2)])
    refine own_st (fun _ => XS.goto X.here hx rfl (pc0 := 45) (pc' := 49) rfl (hb hby d1_45) (by decide) (by decide)) ?_
    show own_E p e below Qq T2 (mkF m 49 #[.val (.int p0)] [(.ref v2)])
    rw [← hQ]
    exact own_retA X hx hlk hret rfl rfl rfl (hb hby d1_49) (by decide) (by decide) ⟨by (rw [hF]; try rfl), N, eT⟩
  replace hF := hF.trans (if_neg q1_0)
  by_cases q1_1 : p0 = (99 : Int32)
  · replace hF := hF.trans (if_pos q1_1)
    refine own_st (fun _ hr => own_lswIn (g := (mkF m 1 #[.val (.int p0)] [(.int p0)])) X hx rfl (pc0 := 1) (pc' := 36) (a := 99) (o := 35) rfl (hb hby d1_1) rfl (by decide) (by rw [q1_1]; rfl) (by decide) (by decide) hr) ?_
    show own_E p e below Qq T (mkF m 36 #[.val (.int p0)] [])
    exact B36 _ _ p0 X eT N hF
  replace hF := hF.trans (if_neg q1_1)
  by_cases q1_2 : p0 = (114 : Int32)
  · replace hF := hF.trans (if_pos q1_2)
    refine own_st (fun _ hr => own_lswIn (g := (mkF m 1 #[.val (.int p0)] [(.int p0)])) X hx rfl (pc0 := 1) (pc' := 36) (a := 114) (o := 35) rfl (hb hby d1_1) rfl (by decide) (by rw [q1_2]; rfl) (by decide) (by decide) hr) ?_
    show own_E p e below Qq T (mkF m 36 #[.val (.int p0)] [])
    exact B36 _ _ p0 X eT N hF
  replace hF := hF.trans (if_neg q1_2)
  refine own_st (fun _ hr => own_lswOut (g := (mkF m 1 #[.val (.int p0)] [(.int p0)])) X hx rfl (pc0 := 1) (pc' := 48) rfl (hb hby d1_1) rfl (by decide) (find_miss (by simp only [List.mem_cons, List.not_mem_nil, or_false, forall_eq_or_imp, forall_eq]; exact ⟨own_neI p0 72 rfl q1_0, own_neI p0 99 rfl q1_1, own_neI p0 114 rfl q1_2⟩)) (by decide) (by decide) hr) ?_
  show own_E p e below Qq T (mkF m 48 #[.val (.int p0)] [])
  refine own_st (fun _ => XS.aconstNull X.here hx rfl (hb hby d1_48)) ?_
  show own_E p e below Qq T (mkF m 49 #[.val (.int p0)] [.null])
  rw [← hQ]
  exact own_retA X hx hlk hret rfl rfl rfl (hb hby d1_49) (by decide) (by decide) ⟨by (rw [hF]; try rfl), N, eT⟩
theorem pn_0 : plainName "org/jutewire/codec/HessianVersionOfFirstOctetPinLaw" = true := by first | (simp [plainName, overriddenIn]; done) | decide +kernel
theorem ef_0 (m : MethodId) (p0 : Int32) (p1 : Int32) : entryFrame m #[(.int p0), (.int p1)] maxLocals = (mkF m 0 #[.val (.int p0), .val (.int p1), .unset, .unset, .unset, .unset, .unset] []) := by first | (simp [entryFrame, mkF, argsToLocals, Value.category, maxLocals]; done) | rfl
def F0_141 (x0 : Int32) (x1 : Int32) (x2 : Int32) (x3 : Int32) (x4 : Int32) (x5 : Int32) (x6 : Value) (y7 : Int32) (v1 : Addr) (v2 : Addr) : Int32 := (nar .boolean y7)
def F0_100 (x0 : Int32) (x1 : Int32) (x2 : Int32) (x3 : Int32) (x4 : Int32) (x5 : Int32) (v1 : Addr) (v2 : Addr) : Int32 := (if ((F1_0 x5 v1 v2) : Value) = (.ref v1) then (F0_141 x0 x1 x2 x3 x4 x5 (.ref v1) (1 : Int32) v1 v2) else (F0_141 x0 x1 x2 x3 x4 x5 (.ref v1) (0 : Int32) v1 v2))
def F0_86 (x0 : Int32) (x1 : Int32) (x2 : Int32) (x3 : Int32) (x4 : Int32) (x5 : Int32) (v1 : Addr) (v2 : Addr) : Int32 := (if x5 = (99 : Int32) then (F0_100 x0 x1 x2 x3 x4 x5 v1 v2) else (if x5 = (114 : Int32) then (F0_100 x0 x1 x2 x3 x4 x5 v1 v2) else (if x5 = (72 : Int32) then (if ((F1_0 x5 v1 v2) : Value) = (.ref v2) then (F0_141 x0 x1 x2 x3 x4 x5 (.ref v2) (1 : Int32) v1 v2) else (F0_141 x0 x1 x2 x3 x4 x5 (.ref v2) (0 : Int32) v1 v2)) else (if ((F1_0 x5 v1 v2) : Value) = .null then (F0_141 x0 x1 x2 x3 x4 x5 .null (1 : Int32) v1 v2) else (F0_141 x0 x1 x2 x3 x4 x5 .null (0 : Int32) v1 v2)))))
def F0_28 (x0 : Int32) (x1 : Int32) (x2 : Int32) (y3 : Int32) (v1 : Addr) (v2 : Addr) : Int32 := (if (x1 &&& (3 : Int32)) = (0 : Int32) then (F0_86 x0 x1 x2 y3 (x1 &&& (3 : Int32)) (((x0 &&& (511 : Int32)) - ((x0 &&& (511 : Int32)) / (257 : Int32)) * (257 : Int32)) - (1 : Int32)) v1 v2) else (if (x1 &&& (3 : Int32)) = (1 : Int32) then (F0_86 x0 x1 x2 y3 (x1 &&& (3 : Int32)) y3 v1 v2) else (if (x1 &&& (3 : Int32)) = (2 : Int32) then (F0_86 x0 x1 x2 y3 (x1 &&& (3 : Int32)) (y3 - (1 : Int32)) v1 v2) else (F0_86 x0 x1 x2 y3 (x1 &&& (3 : Int32)) (y3 + (1 : Int32)) v1 v2))))
def F0_0 (x0 : Int32) (x1 : Int32) (v1 : Addr) (v2 : Addr) : Int32 := (if ((x0 &&& (2147483647 : Int32)) - ((x0 &&& (2147483647 : Int32)) / (3 : Int32)) * (3 : Int32)) = (0 : Int32) then (F0_28 x0 x1 ((x0 &&& (2147483647 : Int32)) - ((x0 &&& (2147483647 : Int32)) / (3 : Int32)) * (3 : Int32)) (99 : Int32) v1 v2) else (if ((x0 &&& (2147483647 : Int32)) - ((x0 &&& (2147483647 : Int32)) / (3 : Int32)) * (3 : Int32)) = (1 : Int32) then (F0_28 x0 x1 ((x0 &&& (2147483647 : Int32)) - ((x0 &&& (2147483647 : Int32)) / (3 : Int32)) * (3 : Int32)) (114 : Int32) v1 v2) else (F0_28 x0 x1 ((x0 &&& (2147483647 : Int32)) - ((x0 &&& (2147483647 : Int32)) / (3 : Int32)) * (3 : Int32)) (72 : Int32) v1 v2)))
set_option maxRecDepth 65536 in
set_option maxHeartbeats 40000000 in
theorem rm0 (l : Launch) (Z : State) (a0 : Array Value) (hw : ∀ d ∈ tables_1, d.before a0 Z = true) (p0 : Int32) (p1 : Int32) (v1 : Addr) (v2 : Addr) (h0 : Heap) (n0 : Nat) (S_v1 : Sta Z h0 "org/jutewire/codec/HessianVersion" "V1" "Lorg/jutewire/codec/HessianVersion;" (.ref v1)) (S_v2 : Sta Z h0 "org/jutewire/codec/HessianVersion" "V2" "Lorg/jutewire/codec/HessianVersion;" (.ref v2)) (Z0 : n0 ≤ h0.size) :
    own_M l Z x code maxLocals ret room_1 #[(.int p0), (.int p1)] h0 (fun v h L => v = some (.int (F0_0 p0 p1 v1 v2)) ∧ Fr n0 L ∧ h = h0) := by
  refine own_body pn_0 ?_
  intro p e s m below meth c T hx hby hml hown hZ hret hlk hnm X eT
  have N := Fr.nil n0
  obtain ⟨w, hF⟩ : ∃ w, w = F0_0 p0 p1 v1 v2 := ⟨_, rfl⟩
  try rw [← hF]
  generalize hQ : own_Q s (fun v h L => v = some (.int w) ∧ Fr n0 L ∧ h = h0) room_1.cells room_1.slots = Qq
  refine own_st (fun _ k => castTop (ef_0 m p0 p1) k) ?_
  have B141 : ∀ (T : State) (L : List Loc) (x0 : Int32) (x1 : Int32) (x2 : Int32) (x3 : Int32) (x4 : Int32) (x5 : Int32) (x6 : Value) (y7 : Int32), Stand p l e room_1 s m #[(.int p0), (.int p1)] below meth c T L 0 0 → T.heap = h0 → x6.isRef = true → Fr n0 L → w = F0_141 x0 x1 x2 x3 x4 x5 x6 y7 v1 v2 → own_E p e below Qq T (mkF m 141 #[.val (.int x0), .val (.int x1), .val (.int x2), .val (.int x3), .val (.int x4), .val (.int x5), .val x6] [(.int y7)]) := by
    intro T L x0 x1 x2 x3 x4 x5 x6 y7 X eT hV_x6 N hF
    rw [← hQ]
    exact own_retN X hx hlk (t := .boolean) hret (by simp) (hb hby at_141) (by decide) (by decide) ⟨by (rw [hF]; try rfl), N, eT⟩
  have B100 : ∀ (T : State) (L : List Loc) (x0 : Int32) (x1 : Int32) (x2 : Int32) (x3 : Int32) (x4 : Int32) (x5 : Int32), Stand p l e room_1 s m #[(.int p0), (.int p1)] below meth c T L 0 0 → T.heap = h0 → Fr n0 L → w = F0_100 x0 x1 x2 x3 x4 x5 v1 v2 → own_E p e below Qq T (mkF m 100 #[.val (.int x0), .val (.int x1), .val (.int x2), .val (.int x3), .val (.int x4), .val (.int x5), .unset] []) := by
    intro T L x0 x1 x2 x3 x4 x5 X eT N hF
    obtain ⟨T1, X1, e1, st1⟩ := getS X hx hZ hown (hw _ (List.mem_of_getElem? (i := 8) rfl)) Via.refl eT S_v1 (host := "") (g := (mkF m 100 #[.val (.int x0), .val (.int x1), .val (.int x2), .val (.int x3), .val (.int x4), .val (.int x5), .unset] [])) rfl (hb hby at_100)
    refine own_st st1 ?_
    replace eT := e1
    replace X := X1
    clear st1 e1 X1
    show own_E p e below Qq T1 (mkF m 103 #[.val (.int x0), .val (.int x1), .val (.int x2), .val (.int x3), .val (.int x4), .val (.int x5), .unset] [(.ref v1)])
    refine own_st (fun _ => XS.astore X.here hx rfl (hb hby at_103) rfl rfl (l' := #[.val (.int x0), .val (.int x1), .val (.int x2), .val (.int x3), .val (.int x4), .val (.int x5), .val (.ref v1)]) rfl) ?_
    show own_E p e below Qq T1 (mkF m 105 #[.val (.int x0), .val (.int x1), .val (.int x2), .val (.int x3), .val (.int x4), .val (.int x5), .val (.ref v1)] [])
    refine own_st (fun _ => XS.goto X.here hx rfl (pc0 := 105) (pc' := 126) rfl (hb hby at_105) (by decide) (by decide)) ?_
    show own_E p e below Qq T1 (mkF m 126 #[.val (.int x0), .val (.int x1), .val (.int x2), .val (.int x3), .val (.int x4), .val (.int x5), .val (.ref v1)] [])
    refine own_st (fun _ => XS.iload X.here hx rfl (hb hby at_126) rfl) ?_
    show own_E p e below Qq T1 (mkF m 128 #[.val (.int x0), .val (.int x1), .val (.int x2), .val (.int x3), .val (.int x4), .val (.int x5), .val (.ref v1)] [(.int x5)])
    refine own_callS X hx hZ hown (hw _ (List.mem_of_getElem? (i := 1) rfl)) (hw _ (List.mem_of_getElem? (i := 2) rfl)) (hw _ (List.mem_of_getElem? (i := 3) rfl)) (hw _ (List.mem_of_getElem? (i := 4) rfl)) (by decide) (W := 0) (argsL := [(.int x5)]) (rest := []) (rm1 l Z a0 hw x5 v1 v2 _ n0 (own_tr (P := fun h => Sta Z h "org/jutewire/codec/HessianVersion" "V1" "Lorg/jutewire/codec/HessianVersion;" (.ref v1)) eT S_v1) (own_tr (P := fun h => Sta Z h "org/jutewire/codec/HessianVersion" "V2" "Lorg/jutewire/codec/HessianVersion;" (.ref v2)) eT S_v2)) (by decide) (by decide) (by decide) (by decide) rfl (by rw [hml]; rfl) (lenOf pd_1 rfl) rfl (by show 2 * 0 + _ ≤ _; exact Nat.le_of_eq rfl) (hb hby at_128) ?_
    intro T2 L2 v X' hq
    obtain ⟨rfl, N', e'⟩ := hq
    replace eT := e'.trans eT
    replace N := Fr.app N N'
    replace X : Stand p l e room_1 s m #[(.int p0), (.int p1)] below meth c T2 _ 0 0 := X'
    clear X' N' e'
    show own_E p e below Qq T2 (mkF m 131 #[.val (.int x0), .val (.int x1), .val (.int x2), .val (.int x3), .val (.int x4), .val (.int x5), .val (.ref v1)] [(F1_0 x5 v1 v2)])
    refine own_st (fun _ => XS.aload X.here hx rfl (hb hby at_131) rfl rfl) ?_
    show own_E p e below Qq T2 (mkF m 133 #[.val (.int x0), .val (.int x1), .val (.int x2), .val (.int x3), .val (.int x4), .val (.int x5), .val (.ref v1)] [(.ref v1), (F1_0 x5 v1 v2)])
    by_cases q133 : ((F1_0 x5 v1 v2) : Value) = (.ref v1)
    · replace hF := hF.trans (if_pos q133)
      refine own_st (fun _ => XT.acmpNo X.here hx rfl (hb hby at_133) rfl (own_ref1 _ _ _) rfl (XT.aa_ne_f q133)) ?_
      show own_E p e below Qq T2 (mkF m 136 #[.val (.int x0), .val (.int x1), .val (.int x2), .val (.int x3), .val (.int x4), .val (.int x5), .val (.ref v1)] [])
      refine own_st (fun _ => XS.iconst X.here hx rfl (hb hby at_136)) ?_
      show own_E p e below Qq T2 (mkF m 137 #[.val (.int x0), .val (.int x1), .val (.int x2), .val (.int x3), .val (.int x4), .val (.int x5), .val (.ref v1)] [(.int (1 : Int32))])
      refine own_st (fun _ => XS.goto X.here hx rfl (pc0 := 137) (pc' := 141) rfl (hb hby at_137) (by decide) (by decide)) ?_
      show own_E p e below Qq T2 (mkF m 141 #[.val (.int x0), .val (.int x1), .val (.int x2), .val (.int x3), .val (.int x4), .val (.int x5), .val (.ref v1)] [(.int (1 : Int32))])
      exact B141 _ _ x0 x1 x2 x3 x4 x5 (.ref v1) (1 : Int32) X eT rfl N hF
    · replace hF := hF.trans (if_neg q133)
      refine own_st (fun _ => XT.acmpYes X.here hx rfl (pc0 := 133) (pc' := 140) rfl (hb hby at_133) rfl (own_ref1 _ _ _) rfl (XT.aa_ne_t q133) (by decide) (by decide)) ?_
      show own_E p e below Qq T2 (mkF m 140 #[.val (.int x0), .val (.int x1), .val (.int x2), .val (.int x3), .val (.int x4), .val (.int x5), .val (.ref v1)] [])
      refine own_st (fun _ => XS.iconst X.here hx rfl (hb hby at_140)) ?_
      show own_E p e below Qq T2 (mkF m 141 #[.val (.int x0), .val (.int x1), .val (.int x2), .val (.int x3), .val (.int x4), .val (.int x5), .val (.ref v1)] [(.int (0 : Int32))])
      exact B141 _ _ x0 x1 x2 x3 x4 x5 (.ref v1) (0 : Int32) X eT rfl N hF
  have B86 : ∀ (T : State) (L : List Loc) (x0 : Int32) (x1 : Int32) (x2 : Int32) (x3 : Int32) (x4 : Int32) (x5 : Int32), Stand p l e room_1 s m #[(.int p0), (.int p1)] below meth c T L 0 0 → T.heap = h0 → Fr n0 L → w = F0_86 x0 x1 x2 x3 x4 x5 v1 v2 → own_E p e below Qq T (mkF m 86 #[.val (.int x0), .val (.int x1), .val (.int x2), .val (.int x3), .val (.int x4), .val (.int x5), .unset] []) := by
    intro T L x0 x1 x2 x3 x4 x5 X eT N hF
    refine own_st (fun _ => XS.iload X.here hx rfl (hb hby at_86) rfl) ?_
    show own_E p e below Qq T (mkF m 88 #[.val (.int x0), .val (.int x1), .val (.int x2), .val (.int x3), .val (.int x4), .val (.int x5), .unset] [(.int x5)])
    refine own_st (fun _ => XS.bipush X.here hx rfl (hb hby at_88)) ?_
    show own_E p e below Qq T (mkF m 90 #[.val (.int x0), .val (.int x1), .val (.int x2), .val (.int x3), .val (.int x4), .val (.int x5), .unset] [(.int (99 : Int32)), (.int x5)])
    by_cases q90 : x5 = (99 : Int32)
    · replace hF := hF.trans (if_pos q90)
      refine own_st (fun _ => XS.icmpYes X.here hx rfl (pc0 := 90) (pc' := 100) rfl (hb hby at_90) rfl (XT.ii_eq_t q90) (by decide) (by decide)) ?_
      show own_E p e below Qq T (mkF m 100 #[.val (.int x0), .val (.int x1), .val (.int x2), .val (.int x3), .val (.int x4), .val (.int x5), .unset] [])
      exact B100 _ _ x0 x1 x2 x3 x4 x5 X eT N hF
    · replace hF := hF.trans (if_neg q90)
      refine own_st (fun _ => XS.icmpNo X.here hx rfl (hb hby at_90) rfl (XT.ii_eq_f q90)) ?_
      show own_E p e below Qq T (mkF m 93 #[.val (.int x0), .val (.int x1), .val (.int x2), .val (.int x3), .val (.int x4), .val (.int x5), .unset] [])
      refine own_st (fun _ => XS.iload X.here hx rfl (hb hby at_93) rfl) ?_
      show own_E p e below Qq T (mkF m 95 #[.val (.int x0), .val (.int x1), .val (.int x2), .val (.int x3), .val (.int x4), .val (.int x5), .unset] [(.int x5)])
      refine own_st (fun _ => XS.bipush X.here hx rfl (hb hby at_95)) ?_
      show own_E p e below Qq T (mkF m 97 #[.val (.int x0), .val (.int x1), .val (.int x2), .val (.int x3), .val (.int x4), .val (.int x5), .unset] [(.int (114 : Int32)), (.int x5)])
      by_cases q97 : x5 = (114 : Int32)
      · replace hF := hF.trans (if_pos q97)
        refine own_st (fun _ => XS.icmpNo X.here hx rfl (hb hby at_97) rfl (XT.ii_ne_f q97)) ?_
        show own_E p e below Qq T (mkF m 100 #[.val (.int x0), .val (.int x1), .val (.int x2), .val (.int x3), .val (.int x4), .val (.int x5), .unset] [])
        exact B100 _ _ x0 x1 x2 x3 x4 x5 X eT N hF
      · replace hF := hF.trans (if_neg q97)
        refine own_st (fun _ => XS.icmpYes X.here hx rfl (pc0 := 97) (pc' := 108) rfl (hb hby at_97) rfl (XT.ii_ne_t q97) (by decide) (by decide)) ?_
        show own_E p e below Qq T (mkF m 108 #[.val (.int x0), .val (.int x1), .val (.int x2), .val (.int x3), .val (.int x4), .val (.int x5), .unset] [])
        refine own_st (fun _ => XS.iload X.here hx rfl (hb hby at_108) rfl) ?_
        show own_E p e below Qq T (mkF m 110 #[.val (.int x0), .val (.int x1), .val (.int x2), .val (.int x3), .val (.int x4), .val (.int x5), .unset] [(.int x5)])
        refine own_st (fun _ => XS.bipush X.here hx rfl (hb hby at_110)) ?_
        show own_E p e below Qq T (mkF m 112 #[.val (.int x0), .val (.int x1), .val (.int x2), .val (.int x3), .val (.int x4), .val (.int x5), .unset] [(.int (72 : Int32)), (.int x5)])
        by_cases q112 : x5 = (72 : Int32)
        · replace hF := hF.trans (if_pos q112)
          refine own_st (fun _ => XS.icmpNo X.here hx rfl (hb hby at_112) rfl (XT.ii_ne_f q112)) ?_
          show own_E p e below Qq T (mkF m 115 #[.val (.int x0), .val (.int x1), .val (.int x2), .val (.int x3), .val (.int x4), .val (.int x5), .unset] [])
          obtain ⟨T3, X3, e3, st3⟩ := getS X hx hZ hown (hw _ (List.mem_of_getElem? (i := 5) rfl)) Via.refl eT S_v2 (host := "") (g := (mkF m 115 #[.val (.int x0), .val (.int x1), .val (.int x2), .val (.int x3), .val (.int x4), .val (.int x5), .unset] [])) rfl (hb hby at_115)
          refine own_st st3 ?_
          replace eT := e3
          replace X := X3
          clear st3 e3 X3
          show own_E p e below Qq T3 (mkF m 118 #[.val (.int x0), .val (.int x1), .val (.int x2), .val (.int x3), .val (.int x4), .val (.int x5), .unset] [(.ref v2)])
          refine own_st (fun _ => XS.astore X.here hx rfl (hb hby at_118) rfl rfl (l' := #[.val (.int x0), .val (.int x1), .val (.int x2), .val (.int x3), .val (.int x4), .val (.int x5), .val (.ref v2)]) rfl) ?_
          show own_E p e below Qq T3 (mkF m 120 #[.val (.int x0), .val (.int x1), .val (.int x2), .val (.int x3), .val (.int x4), .val (.int x5), .val (.ref v2)] [])
          refine own_st (fun _ => XS.goto X.here hx rfl (pc0 := 120) (pc' := 126) rfl (hb hby at_120) (by decide) (by decide)) ?_
          show own_E p e below Qq T3 (mkF m 126 #[.val (.int x0), .val (.int x1), .val (.int x2), .val (.int x3), .val (.int x4), .val (.int x5), .val (.ref v2)] [])
          refine own_st (fun _ => XS.iload X.here hx rfl (hb hby at_126) rfl) ?_
          show own_E p e below Qq T3 (mkF m 128 #[.val (.int x0), .val (.int x1), .val (.int x2), .val (.int x3), .val (.int x4), .val (.int x5), .val (.ref v2)] [(.int x5)])
          refine own_callS X hx hZ hown (hw _ (List.mem_of_getElem? (i := 1) rfl)) (hw _ (List.mem_of_getElem? (i := 2) rfl)) (hw _ (List.mem_of_getElem? (i := 3) rfl)) (hw _ (List.mem_of_getElem? (i := 4) rfl)) (by decide) (W := 0) (argsL := [(.int x5)]) (rest := []) (rm1 l Z a0 hw x5 v1 v2 _ n0 (own_tr (P := fun h => Sta Z h "org/jutewire/codec/HessianVersion" "V1" "Lorg/jutewire/codec/HessianVersion;" (.ref v1)) eT S_v1) (own_tr (P := fun h => Sta Z h "org/jutewire/codec/HessianVersion" "V2" "Lorg/jutewire/codec/HessianVersion;" (.ref v2)) eT S_v2)) (by decide) (by decide) (by decide) (by decide) rfl (by rw [hml]; rfl) (lenOf pd_1 rfl) rfl (by show 2 * 0 + _ ≤ _; exact Nat.le_of_eq rfl) (hb hby at_128) ?_
          intro T4 L4 v X' hq
          obtain ⟨rfl, N', e'⟩ := hq
          replace eT := e'.trans eT
          replace N := Fr.app N N'
          replace X : Stand p l e room_1 s m #[(.int p0), (.int p1)] below meth c T4 _ 0 0 := X'
          clear X' N' e'
          show own_E p e below Qq T4 (mkF m 131 #[.val (.int x0), .val (.int x1), .val (.int x2), .val (.int x3), .val (.int x4), .val (.int x5), .val (.ref v2)] [(F1_0 x5 v1 v2)])
          refine own_st (fun _ => XS.aload X.here hx rfl (hb hby at_131) rfl rfl) ?_
          show own_E p e below Qq T4 (mkF m 133 #[.val (.int x0), .val (.int x1), .val (.int x2), .val (.int x3), .val (.int x4), .val (.int x5), .val (.ref v2)] [(.ref v2), (F1_0 x5 v1 v2)])
          by_cases q133 : ((F1_0 x5 v1 v2) : Value) = (.ref v2)
          · replace hF := hF.trans (if_pos q133)
            refine own_st (fun _ => XT.acmpNo X.here hx rfl (hb hby at_133) rfl (own_ref1 _ _ _) rfl (XT.aa_ne_f q133)) ?_
            show own_E p e below Qq T4 (mkF m 136 #[.val (.int x0), .val (.int x1), .val (.int x2), .val (.int x3), .val (.int x4), .val (.int x5), .val (.ref v2)] [])
            refine own_st (fun _ => XS.iconst X.here hx rfl (hb hby at_136)) ?_
            show own_E p e below Qq T4 (mkF m 137 #[.val (.int x0), .val (.int x1), .val (.int x2), .val (.int x3), .val (.int x4), .val (.int x5), .val (.ref v2)] [(.int (1 : Int32))])
            refine own_st (fun _ => XS.goto X.here hx rfl (pc0 := 137) (pc' := 141) rfl (hb hby at_137) (by decide) (by decide)) ?_
            show own_E p e below Qq T4 (mkF m 141 #[.val (.int x0), .val (.int x1), .val (.int x2), .val (.int x3), .val (.int x4), .val (.int x5), .val (.ref v2)] [(.int (1 : Int32))])
            exact B141 _ _ x0 x1 x2 x3 x4 x5 (.ref v2) (1 : Int32) X eT rfl N hF
          · replace hF := hF.trans (if_neg q133)
            refine own_st (fun _ => XT.acmpYes X.here hx rfl (pc0 := 133) (pc' := 140) rfl (hb hby at_133) rfl (own_ref1 _ _ _) rfl (XT.aa_ne_t q133) (by decide) (by decide)) ?_
            show own_E p e below Qq T4 (mkF m 140 #[.val (.int x0), .val (.int x1), .val (.int x2), .val (.int x3), .val (.int x4), .val (.int x5), .val (.ref v2)] [])
            refine own_st (fun _ => XS.iconst X.here hx rfl (hb hby at_140)) ?_
            show own_E p e below Qq T4 (mkF m 141 #[.val (.int x0), .val (.int x1), .val (.int x2), .val (.int x3), .val (.int x4), .val (.int x5), .val (.ref v2)] [(.int (0 : Int32))])
            exact B141 _ _ x0 x1 x2 x3 x4 x5 (.ref v2) (0 : Int32) X eT rfl N hF
        · replace hF := hF.trans (if_neg q112)
          refine own_st (fun _ => XS.icmpYes X.here hx rfl (pc0 := 112) (pc' := 123) rfl (hb hby at_112) rfl (XT.ii_ne_t q112) (by decide) (by decide)) ?_
          show own_E p e below Qq T (mkF m 123 #[.val (.int x0), .val (.int x1), .val (.int x2), .val (.int x3), .val (.int x4), .val (.int x5), .unset] [])
          refine own_st (fun _ => XS.aconstNull X.here hx rfl (hb hby at_123)) ?_
          show own_E p e below Qq T (mkF m 124 #[.val (.int x0), .val (.int x1), .val (.int x2), .val (.int x3), .val (.int x4), .val (.int x5), .unset] [.null])
          refine own_st (fun _ => XS.astore X.here hx rfl (hb hby at_124) rfl rfl (l' := #[.val (.int x0), .val (.int x1), .val (.int x2), .val (.int x3), .val (.int x4), .val (.int x5), .val .null]) rfl) ?_
          show own_E p e below Qq T (mkF m 126 #[.val (.int x0), .val (.int x1), .val (.int x2), .val (.int x3), .val (.int x4), .val (.int x5), .val .null] [])
          refine own_st (fun _ => XS.iload X.here hx rfl (hb hby at_126) rfl) ?_
          show own_E p e below Qq T (mkF m 128 #[.val (.int x0), .val (.int x1), .val (.int x2), .val (.int x3), .val (.int x4), .val (.int x5), .val .null] [(.int x5)])
          refine own_callS X hx hZ hown (hw _ (List.mem_of_getElem? (i := 1) rfl)) (hw _ (List.mem_of_getElem? (i := 2) rfl)) (hw _ (List.mem_of_getElem? (i := 3) rfl)) (hw _ (List.mem_of_getElem? (i := 4) rfl)) (by decide) (W := 0) (argsL := [(.int x5)]) (rest := []) (rm1 l Z a0 hw x5 v1 v2 _ n0 (own_tr (P := fun h => Sta Z h "org/jutewire/codec/HessianVersion" "V1" "Lorg/jutewire/codec/HessianVersion;" (.ref v1)) eT S_v1) (own_tr (P := fun h => Sta Z h "org/jutewire/codec/HessianVersion" "V2" "Lorg/jutewire/codec/HessianVersion;" (.ref v2)) eT S_v2)) (by decide) (by decide) (by decide) (by decide) rfl (by rw [hml]; rfl) (lenOf pd_1 rfl) rfl (by show 2 * 0 + _ ≤ _; exact Nat.le_of_eq rfl) (hb hby at_128) ?_
          intro T5 L5 v X' hq
          obtain ⟨rfl, N', e'⟩ := hq
          replace eT := e'.trans eT
          replace N := Fr.app N N'
          replace X : Stand p l e room_1 s m #[(.int p0), (.int p1)] below meth c T5 _ 0 0 := X'
          clear X' N' e'
          show own_E p e below Qq T5 (mkF m 131 #[.val (.int x0), .val (.int x1), .val (.int x2), .val (.int x3), .val (.int x4), .val (.int x5), .val .null] [(F1_0 x5 v1 v2)])
          refine own_st (fun _ => XS.aload X.here hx rfl (hb hby at_131) rfl rfl) ?_
          show own_E p e below Qq T5 (mkF m 133 #[.val (.int x0), .val (.int x1), .val (.int x2), .val (.int x3), .val (.int x4), .val (.int x5), .val .null] [.null, (F1_0 x5 v1 v2)])
          by_cases q133 : ((F1_0 x5 v1 v2) : Value) = .null
          · replace hF := hF.trans (if_pos q133)
            refine own_st (fun _ => XT.acmpNo X.here hx rfl (hb hby at_133) rfl (own_ref1 _ _ _) rfl (XT.aa_ne_f q133)) ?_
            show own_E p e below Qq T5 (mkF m 136 #[.val (.int x0), .val (.int x1), .val (.int x2), .val (.int x3), .val (.int x4), .val (.int x5), .val .null] [])
            refine own_st (fun _ => XS.iconst X.here hx rfl (hb hby at_136)) ?_
            show own_E p e below Qq T5 (mkF m 137 #[.val (.int x0), .val (.int x1), .val (.int x2), .val (.int x3), .val (.int x4), .val (.int x5), .val .null] [(.int (1 : Int32))])
            refine own_st (fun _ => XS.goto X.here hx rfl (pc0 := 137) (pc' := 141) rfl (hb hby at_137) (by decide) (by decide)) ?_
            show own_E p e below Qq T5 (mkF m 141 #[.val (.int x0), .val (.int x1), .val (.int x2), .val (.int x3), .val (.int x4), .val (.int x5), .val .null] [(.int (1 : Int32))])
            exact B141 _ _ x0 x1 x2 x3 x4 x5 .null (1 : Int32) X eT rfl N hF
          · replace hF := hF.trans (if_neg q133)
            refine own_st (fun _ => XT.acmpYes X.here hx rfl (pc0 := 133) (pc' := 140) rfl (hb hby at_133) rfl (own_ref1 _ _ _) rfl (XT.aa_ne_t q133) (by decide) (by decide)) ?_
            show own_E p e below Qq T5 (mkF m 140 #[.val (.int x0), .val (.int x1), .val (.int x2), .val (.int x3), .val (.int x4), .val (.int x5), .val .null] [])
            refine own_st (fun _ => XS.iconst X.here hx rfl (hb hby at_140)) ?_
            show own_E p e below Qq T5 (mkF m 141 #[.val (.int x0), .val (.int x1), .val (.int x2), .val (.int x3), .val (.int x4), .val (.int x5), .val .null] [(.int (0 : Int32))])
            exact B141 _ _ x0 x1 x2 x3 x4 x5 .null (0 : Int32) X eT rfl N hF
  have B28 : ∀ (T : State) (L : List Loc) (x0 : Int32) (x1 : Int32) (x2 : Int32) (y3 : Int32), Stand p l e room_1 s m #[(.int p0), (.int p1)] below meth c T L 0 0 → T.heap = h0 → Fr n0 L → w = F0_28 x0 x1 x2 y3 v1 v2 → own_E p e below Qq T (mkF m 28 #[.val (.int x0), .val (.int x1), .val (.int x2), .unset, .unset, .unset, .unset] [(.int y3)]) := by
    intro T L x0 x1 x2 y3 X eT N hF
    refine own_st (fun _ => XS.istoreN X.here hx rfl (hb hby at_28) rfl (l' := #[.val (.int x0), .val (.int x1), .val (.int x2), .val (.int y3), .unset, .unset, .unset]) rfl) ?_
    show own_E p e below Qq T (mkF m 29 #[.val (.int x0), .val (.int x1), .val (.int x2), .val (.int y3), .unset, .unset, .unset] [])
    refine own_st (fun _ => XS.iloadN X.here hx rfl (hb hby at_29) rfl) ?_
    show own_E p e below Qq T (mkF m 30 #[.val (.int x0), .val (.int x1), .val (.int x2), .val (.int y3), .unset, .unset, .unset] [(.int x1)])
    refine own_st (fun _ => XS.iconst X.here hx rfl (hb hby at_30)) ?_
    show own_E p e below Qq T (mkF m 31 #[.val (.int x0), .val (.int x1), .val (.int x2), .val (.int y3), .unset, .unset, .unset] [(.int (3 : Int32)), (.int x1)])
    refine own_st (fun _ => XS.iand X.here hx rfl (hb hby at_31) rfl) ?_
    show own_E p e below Qq T (mkF m 32 #[.val (.int x0), .val (.int x1), .val (.int x2), .val (.int y3), .unset, .unset, .unset] [(.int (x1 &&& (3 : Int32)))])
    refine own_st (fun _ => XS.istore X.here hx rfl (hb hby at_32) rfl (l' := #[.val (.int x0), .val (.int x1), .val (.int x2), .val (.int y3), .val (.int (x1 &&& (3 : Int32))), .unset, .unset]) rfl) ?_
    show own_E p e below Qq T (mkF m 34 #[.val (.int x0), .val (.int x1), .val (.int x2), .val (.int y3), .val (.int (x1 &&& (3 : Int32))), .unset, .unset] [])
    refine own_st (fun _ => XS.iload X.here hx rfl (hb hby at_34) rfl) ?_
    show own_E p e below Qq T (mkF m 36 #[.val (.int x0), .val (.int x1), .val (.int x2), .val (.int y3), .val (.int (x1 &&& (3 : Int32))), .unset, .unset] [(.int (x1 &&& (3 : Int32)))])
    by_cases q36 : (x1 &&& (3 : Int32)) = (0 : Int32)
    · replace hF := hF.trans (if_pos q36)
      refine own_st (fun _ => XS.ifNo X.here hx rfl (hb hby at_36) rfl (XT.i0_ne_f q36)) ?_
      show own_E p e below Qq T (mkF m 39 #[.val (.int x0), .val (.int x1), .val (.int x2), .val (.int y3), .val (.int (x1 &&& (3 : Int32))), .unset, .unset] [])
      refine own_st (fun _ => XS.iloadN X.here hx rfl (hb hby at_39) rfl) ?_
      show own_E p e below Qq T (mkF m 40 #[.val (.int x0), .val (.int x1), .val (.int x2), .val (.int y3), .val (.int (x1 &&& (3 : Int32))), .unset, .unset] [(.int x0)])
      refine own_st (fun _ => XS.sipush X.here hx rfl (hb hby at_40)) ?_
      show own_E p e below Qq T (mkF m 43 #[.val (.int x0), .val (.int x1), .val (.int x2), .val (.int y3), .val (.int (x1 &&& (3 : Int32))), .unset, .unset] [(.int (511 : Int32)), (.int x0)])
      refine own_st (fun _ => XS.iand X.here hx rfl (hb hby at_43) rfl) ?_
      show own_E p e below Qq T (mkF m 44 #[.val (.int x0), .val (.int x1), .val (.int x2), .val (.int y3), .val (.int (x1 &&& (3 : Int32))), .unset, .unset] [(.int (x0 &&& (511 : Int32)))])
      refine own_st (fun _ => XS.sipush X.here hx rfl (hb hby at_44)) ?_
      show own_E p e below Qq T (mkF m 47 #[.val (.int x0), .val (.int x1), .val (.int x2), .val (.int y3), .val (.int (x1 &&& (3 : Int32))), .unset, .unset] [(.int (257 : Int32)), (.int (x0 &&& (511 : Int32)))])
      refine own_st (fun _ => XS.irem X.here hx rfl (hb hby at_47) rfl (by first | exact hP | decide)) ?_
      show own_E p e below Qq T (mkF m 48 #[.val (.int x0), .val (.int x1), .val (.int x2), .val (.int y3), .val (.int (x1 &&& (3 : Int32))), .unset, .unset] [(.int ((x0 &&& (511 : Int32)) - ((x0 &&& (511 : Int32)) / (257 : Int32)) * (257 : Int32)))])
      refine own_st (fun _ => XS.iconst X.here hx rfl (hb hby at_48)) ?_
      show own_E p e below Qq T (mkF m 49 #[.val (.int x0), .val (.int x1), .val (.int x2), .val (.int y3), .val (.int (x1 &&& (3 : Int32))), .unset, .unset] [(.int (1 : Int32)), (.int ((x0 &&& (511 : Int32)) - ((x0 &&& (511 : Int32)) / (257 : Int32)) * (257 : Int32)))])
      refine own_st (fun _ => XS.isub X.here hx rfl (hb hby at_49) rfl) ?_
      show own_E p e below Qq T (mkF m 50 #[.val (.int x0), .val (.int x1), .val (.int x2), .val (.int y3), .val (.int (x1 &&& (3 : Int32))), .unset, .unset] [(.int (((x0 &&& (511 : Int32)) - ((x0 &&& (511 : Int32)) / (257 : Int32)) * (257 : Int32)) - (1 : Int32)))])
      refine own_st (fun _ => XS.istore X.here hx rfl (hb hby at_50) rfl (l' := #[.val (.int x0), .val (.int x1), .val (.int x2), .val (.int y3), .val (.int (x1 &&& (3 : Int32))), .val (.int (((x0 &&& (511 : Int32)) - ((x0 &&& (511 : Int32)) / (257 : Int32)) * (257 : Int32)) - (1 : Int32))), .unset]) rfl) ?_
      show own_E p e below Qq T (mkF m 52 #[.val (.int x0), .val (.int x1), .val (.int x2), .val (.int y3), .val (.int (x1 &&& (3 : Int32))), .val (.int (((x0 &&& (511 : Int32)) - ((x0 &&& (511 : Int32)) / (257 : Int32)) * (257 : Int32)) - (1 : Int32))), .unset] [])
      refine own_st (fun _ => XS.goto X.here hx rfl (pc0 := 52) (pc' := 86) rfl (hb hby at_52) (by decide) (by decide)) ?_
      show own_E p e below Qq T (mkF m 86 #[.val (.int x0), .val (.int x1), .val (.int x2), .val (.int y3), .val (.int (x1 &&& (3 : Int32))), .val (.int (((x0 &&& (511 : Int32)) - ((x0 &&& (511 : Int32)) / (257 : Int32)) * (257 : Int32)) - (1 : Int32))), .unset] [])
      exact B86 _ _ x0 x1 x2 y3 (x1 &&& (3 : Int32)) (((x0 &&& (511 : Int32)) - ((x0 &&& (511 : Int32)) / (257 : Int32)) * (257 : Int32)) - (1 : Int32)) X eT N hF
    · replace hF := hF.trans (if_neg q36)
      refine own_st (fun _ => XS.ifYes X.here hx rfl (pc0 := 36) (pc' := 55) rfl (hb hby at_36) rfl (XT.i0_ne_t q36) (by decide) (by decide)) ?_
      show own_E p e below Qq T (mkF m 55 #[.val (.int x0), .val (.int x1), .val (.int x2), .val (.int y3), .val (.int (x1 &&& (3 : Int32))), .unset, .unset] [])
      refine own_st (fun _ => XS.iload X.here hx rfl (hb hby at_55) rfl) ?_
      show own_E p e below Qq T (mkF m 57 #[.val (.int x0), .val (.int x1), .val (.int x2), .val (.int y3), .val (.int (x1 &&& (3 : Int32))), .unset, .unset] [(.int (x1 &&& (3 : Int32)))])
      refine own_st (fun _ => XS.iconst X.here hx rfl (hb hby at_57)) ?_
      show own_E p e below Qq T (mkF m 58 #[.val (.int x0), .val (.int x1), .val (.int x2), .val (.int y3), .val (.int (x1 &&& (3 : Int32))), .unset, .unset] [(.int (1 : Int32)), (.int (x1 &&& (3 : Int32)))])
      by_cases q58 : (x1 &&& (3 : Int32)) = (1 : Int32)
      · replace hF := hF.trans (if_pos q58)
        refine own_st (fun _ => XS.icmpNo X.here hx rfl (hb hby at_58) rfl (XT.ii_ne_f q58)) ?_
        show own_E p e below Qq T (mkF m 61 #[.val (.int x0), .val (.int x1), .val (.int x2), .val (.int y3), .val (.int (x1 &&& (3 : Int32))), .unset, .unset] [])
        refine own_st (fun _ => XS.iloadN X.here hx rfl (hb hby at_61) rfl) ?_
        show own_E p e below Qq T (mkF m 62 #[.val (.int x0), .val (.int x1), .val (.int x2), .val (.int y3), .val (.int (x1 &&& (3 : Int32))), .unset, .unset] [(.int y3)])
        refine own_st (fun _ => XS.istore X.here hx rfl (hb hby at_62) rfl (l' := #[.val (.int x0), .val (.int x1), .val (.int x2), .val (.int y3), .val (.int (x1 &&& (3 : Int32))), .val (.int y3), .unset]) rfl) ?_
        show own_E p e below Qq T (mkF m 64 #[.val (.int x0), .val (.int x1), .val (.int x2), .val (.int y3), .val (.int (x1 &&& (3 : Int32))), .val (.int y3), .unset] [])
        refine own_st (fun _ => XS.goto X.here hx rfl (pc0 := 64) (pc' := 86) rfl (hb hby at_64) (by decide) (by decide)) ?_
        show own_E p e below Qq T (mkF m 86 #[.val (.int x0), .val (.int x1), .val (.int x2), .val (.int y3), .val (.int (x1 &&& (3 : Int32))), .val (.int y3), .unset] [])
        exact B86 _ _ x0 x1 x2 y3 (x1 &&& (3 : Int32)) y3 X eT N hF
      · replace hF := hF.trans (if_neg q58)
        refine own_st (fun _ => XS.icmpYes X.here hx rfl (pc0 := 58) (pc' := 67) rfl (hb hby at_58) rfl (XT.ii_ne_t q58) (by decide) (by decide)) ?_
        show own_E p e below Qq T (mkF m 67 #[.val (.int x0), .val (.int x1), .val (.int x2), .val (.int y3), .val (.int (x1 &&& (3 : Int32))), .unset, .unset] [])
        refine own_st (fun _ => XS.iload X.here hx rfl (hb hby at_67) rfl) ?_
        show own_E p e below Qq T (mkF m 69 #[.val (.int x0), .val (.int x1), .val (.int x2), .val (.int y3), .val (.int (x1 &&& (3 : Int32))), .unset, .unset] [(.int (x1 &&& (3 : Int32)))])
        refine own_st (fun _ => XS.iconst X.here hx rfl (hb hby at_69)) ?_
        show own_E p e below Qq T (mkF m 70 #[.val (.int x0), .val (.int x1), .val (.int x2), .val (.int y3), .val (.int (x1 &&& (3 : Int32))), .unset, .unset] [(.int (2 : Int32)), (.int (x1 &&& (3 : Int32)))])
        by_cases q70 : (x1 &&& (3 : Int32)) = (2 : Int32)
        · replace hF := hF.trans (if_pos q70)
          refine own_st (fun _ => XS.icmpNo X.here hx rfl (hb hby at_70) rfl (XT.ii_ne_f q70)) ?_
          show own_E p e below Qq T (mkF m 73 #[.val (.int x0), .val (.int x1), .val (.int x2), .val (.int y3), .val (.int (x1 &&& (3 : Int32))), .unset, .unset] [])
          refine own_st (fun _ => XS.iloadN X.here hx rfl (hb hby at_73) rfl) ?_
          show own_E p e below Qq T (mkF m 74 #[.val (.int x0), .val (.int x1), .val (.int x2), .val (.int y3), .val (.int (x1 &&& (3 : Int32))), .unset, .unset] [(.int y3)])
          refine own_st (fun _ => XS.iconst X.here hx rfl (hb hby at_74)) ?_
          show own_E p e below Qq T (mkF m 75 #[.val (.int x0), .val (.int x1), .val (.int x2), .val (.int y3), .val (.int (x1 &&& (3 : Int32))), .unset, .unset] [(.int (1 : Int32)), (.int y3)])
          refine own_st (fun _ => XS.isub X.here hx rfl (hb hby at_75) rfl) ?_
          show own_E p e below Qq T (mkF m 76 #[.val (.int x0), .val (.int x1), .val (.int x2), .val (.int y3), .val (.int (x1 &&& (3 : Int32))), .unset, .unset] [(.int (y3 - (1 : Int32)))])
          refine own_st (fun _ => XS.istore X.here hx rfl (hb hby at_76) rfl (l' := #[.val (.int x0), .val (.int x1), .val (.int x2), .val (.int y3), .val (.int (x1 &&& (3 : Int32))), .val (.int (y3 - (1 : Int32))), .unset]) rfl) ?_
          show own_E p e below Qq T (mkF m 78 #[.val (.int x0), .val (.int x1), .val (.int x2), .val (.int y3), .val (.int (x1 &&& (3 : Int32))), .val (.int (y3 - (1 : Int32))), .unset] [])
          refine own_st (fun _ => XS.goto X.here hx rfl (pc0 := 78) (pc' := 86) rfl (hb hby at_78) (by decide) (by decide)) ?_
          show own_E p e below Qq T (mkF m 86 #[.val (.int x0), .val (.int x1), .val (.int x2), .val (.int y3), .val (.int (x1 &&& (3 : Int32))), .val (.int (y3 - (1 : Int32))), .unset] [])
          exact B86 _ _ x0 x1 x2 y3 (x1 &&& (3 : Int32)) (y3 - (1 : Int32)) X eT N hF
        · replace hF := hF.trans (if_neg q70)
          refine own_st (fun _ => XS.icmpYes X.here hx rfl (pc0 := 70) (pc' := 81) rfl (hb hby at_70) rfl (XT.ii_ne_t q70) (by decide) (by decide)) ?_
          show own_E p e below Qq T (mkF m 81 #[.val (.int x0), .val (.int x1), .val (.int x2), .val (.int y3), .val (.int (x1 &&& (3 : Int32))), .unset, .unset] [])
          refine own_st (fun _ => XS.iloadN X.here hx rfl (hb hby at_81) rfl) ?_
          show own_E p e below Qq T (mkF m 82 #[.val (.int x0), .val (.int x1), .val (.int x2), .val (.int y3), .val (.int (x1 &&& (3 : Int32))), .unset, .unset] [(.int y3)])
          refine own_st (fun _ => XS.iconst X.here hx rfl (hb hby at_82)) ?_
          show own_E p e below Qq T (mkF m 83 #[.val (.int x0), .val (.int x1), .val (.int x2), .val (.int y3), .val (.int (x1 &&& (3 : Int32))), .unset, .unset] [(.int (1 : Int32)), (.int y3)])
          refine own_st (fun _ => XS.iadd X.here hx rfl (hb hby at_83) rfl) ?_
          show own_E p e below Qq T (mkF m 84 #[.val (.int x0), .val (.int x1), .val (.int x2), .val (.int y3), .val (.int (x1 &&& (3 : Int32))), .unset, .unset] [(.int (y3 + (1 : Int32)))])
          refine own_st (fun _ => XS.istore X.here hx rfl (hb hby at_84) rfl (l' := #[.val (.int x0), .val (.int x1), .val (.int x2), .val (.int y3), .val (.int (x1 &&& (3 : Int32))), .val (.int (y3 + (1 : Int32))), .unset]) rfl) ?_
          show own_E p e below Qq T (mkF m 86 #[.val (.int x0), .val (.int x1), .val (.int x2), .val (.int y3), .val (.int (x1 &&& (3 : Int32))), .val (.int (y3 + (1 : Int32))), .unset] [])
          exact B86 _ _ x0 x1 x2 y3 (x1 &&& (3 : Int32)) (y3 + (1 : Int32)) X eT N hF
  show own_E p e below Qq T (mkF m 0 #[.val (.int p0), .val (.int p1), .unset, .unset, .unset, .unset, .unset] [])
  refine own_st (fun _ => XS.iloadN X.here hx rfl (hb hby at_0) rfl) ?_
  show own_E p e below Qq T (mkF m 1 #[.val (.int p0), .val (.int p1), .unset, .unset, .unset, .unset, .unset] [(.int p0)])
  refine own_st (fun _ => X.ldcI hx hown (mvT hZ (hw _ (List.mem_of_getElem? (i := 0) rfl))) rfl (hb hby at_1)) ?_
  show own_E p e below Qq T (mkF m 3 #[.val (.int p0), .val (.int p1), .unset, .unset, .unset, .unset, .unset] [(.int (2147483647 : Int32)), (.int p0)])
  refine own_st (fun _ => XS.iand X.here hx rfl (hb hby at_3) rfl) ?_
  show own_E p e below Qq T (mkF m 4 #[.val (.int p0), .val (.int p1), .unset, .unset, .unset, .unset, .unset] [(.int (p0 &&& (2147483647 : Int32)))])
  refine own_st (fun _ => XS.iconst X.here hx rfl (hb hby at_4)) ?_
  show own_E p e below Qq T (mkF m 5 #[.val (.int p0), .val (.int p1), .unset, .unset, .unset, .unset, .unset] [(.int (3 : Int32)), (.int (p0 &&& (2147483647 : Int32)))])
  refine own_st (fun _ => XS.irem X.here hx rfl (hb hby at_5) rfl (by first | exact hP | decide)) ?_
  show own_E p e below Qq T (mkF m 6 #[.val (.int p0), .val (.int p1), .unset, .unset, .unset, .unset, .unset] [(.int ((p0 &&& (2147483647 : Int32)) - ((p0 &&& (2147483647 : Int32)) / (3 : Int32)) * (3 : Int32)))])
  refine own_st (fun _ => XS.istoreN X.here hx rfl (hb hby at_6) rfl (l' := #[.val (.int p0), .val (.int p1), .val (.int ((p0 &&& (2147483647 : Int32)) - ((p0 &&& (2147483647 : Int32)) / (3 : Int32)) * (3 : Int32))), .unset, .unset, .unset, .unset]) rfl) ?_
  show own_E p e below Qq T (mkF m 7 #[.val (.int p0), .val (.int p1), .val (.int ((p0 &&& (2147483647 : Int32)) - ((p0 &&& (2147483647 : Int32)) / (3 : Int32)) * (3 : Int32))), .unset, .unset, .unset, .unset] [])
  refine own_st (fun _ => XS.iloadN X.here hx rfl (hb hby at_7) rfl) ?_
  show own_E p e below Qq T (mkF m 8 #[.val (.int p0), .val (.int p1), .val (.int ((p0 &&& (2147483647 : Int32)) - ((p0 &&& (2147483647 : Int32)) / (3 : Int32)) * (3 : Int32))), .unset, .unset, .unset, .unset] [(.int ((p0 &&& (2147483647 : Int32)) - ((p0 &&& (2147483647 : Int32)) / (3 : Int32)) * (3 : Int32)))])
  by_cases q8 : ((p0 &&& (2147483647 : Int32)) - ((p0 &&& (2147483647 : Int32)) / (3 : Int32)) * (3 : Int32)) = (0 : Int32)
  · replace hF := hF.trans (if_pos q8)
    refine own_st (fun _ => XS.ifNo X.here hx rfl (hb hby at_8) rfl (XT.i0_ne_f q8)) ?_
    show own_E p e below Qq T (mkF m 11 #[.val (.int p0), .val (.int p1), .val (.int ((p0 &&& (2147483647 : Int32)) - ((p0 &&& (2147483647 : Int32)) / (3 : Int32)) * (3 : Int32))), .unset, .unset, .unset, .unset] [])
    refine own_st (fun _ => XS.bipush X.here hx rfl (hb hby at_11)) ?_
    show own_E p e below Qq T (mkF m 13 #[.val (.int p0), .val (.int p1), .val (.int ((p0 &&& (2147483647 : Int32)) - ((p0 &&& (2147483647 : Int32)) / (3 : Int32)) * (3 : Int32))), .unset, .unset, .unset, .unset] [(.int (99 : Int32))])
    refine own_st (fun _ => XS.goto X.here hx rfl (pc0 := 13) (pc' := 28) rfl (hb hby at_13) (by decide) (by decide)) ?_
    show own_E p e below Qq T (mkF m 28 #[.val (.int p0), .val (.int p1), .val (.int ((p0 &&& (2147483647 : Int32)) - ((p0 &&& (2147483647 : Int32)) / (3 : Int32)) * (3 : Int32))), .unset, .unset, .unset, .unset] [(.int (99 : Int32))])
    exact B28 _ _ p0 p1 ((p0 &&& (2147483647 : Int32)) - ((p0 &&& (2147483647 : Int32)) / (3 : Int32)) * (3 : Int32)) (99 : Int32) X eT N hF
  · replace hF := hF.trans (if_neg q8)
    refine own_st (fun _ => XS.ifYes X.here hx rfl (pc0 := 8) (pc' := 16) rfl (hb hby at_8) rfl (XT.i0_ne_t q8) (by decide) (by decide)) ?_
    show own_E p e below Qq T (mkF m 16 #[.val (.int p0), .val (.int p1), .val (.int ((p0 &&& (2147483647 : Int32)) - ((p0 &&& (2147483647 : Int32)) / (3 : Int32)) * (3 : Int32))), .unset, .unset, .unset, .unset] [])
    refine own_st (fun _ => XS.iloadN X.here hx rfl (hb hby at_16) rfl) ?_
    show own_E p e below Qq T (mkF m 17 #[.val (.int p0), .val (.int p1), .val (.int ((p0 &&& (2147483647 : Int32)) - ((p0 &&& (2147483647 : Int32)) / (3 : Int32)) * (3 : Int32))), .unset, .unset, .unset, .unset] [(.int ((p0 &&& (2147483647 : Int32)) - ((p0 &&& (2147483647 : Int32)) / (3 : Int32)) * (3 : Int32)))])
    refine own_st (fun _ => XS.iconst X.here hx rfl (hb hby at_17)) ?_
    show own_E p e below Qq T (mkF m 18 #[.val (.int p0), .val (.int p1), .val (.int ((p0 &&& (2147483647 : Int32)) - ((p0 &&& (2147483647 : Int32)) / (3 : Int32)) * (3 : Int32))), .unset, .unset, .unset, .unset] [(.int (1 : Int32)), (.int ((p0 &&& (2147483647 : Int32)) - ((p0 &&& (2147483647 : Int32)) / (3 : Int32)) * (3 : Int32)))])
    by_cases q18 : ((p0 &&& (2147483647 : Int32)) - ((p0 &&& (2147483647 : Int32)) / (3 : Int32)) * (3 : Int32)) = (1 : Int32)
    · replace hF := hF.trans (if_pos q18)
      refine own_st (fun _ => XS.icmpNo X.here hx rfl (hb hby at_18) rfl (XT.ii_ne_f q18)) ?_
      show own_E p e below Qq T (mkF m 21 #[.val (.int p0), .val (.int p1), .val (.int ((p0 &&& (2147483647 : Int32)) - ((p0 &&& (2147483647 : Int32)) / (3 : Int32)) * (3 : Int32))), .unset, .unset, .unset, .unset] [])
      refine own_st (fun _ => XS.bipush X.here hx rfl (hb hby at_21)) ?_
      show own_E p e below Qq T (mkF m 23 #[.val (.int p0), .val (.int p1), .val (.int ((p0 &&& (2147483647 : Int32)) - ((p0 &&& (2147483647 : Int32)) / (3 : Int32)) * (3 : Int32))), .unset, .unset, .unset, .unset] [(.int (114 : Int32))])
      refine own_st (fun _ => XS.goto X.here hx rfl (pc0 := 23) (pc' := 28) rfl (hb hby at_23) (by decide) (by decide)) ?_
      show own_E p e below Qq T (mkF m 28 #[.val (.int p0), .val (.int p1), .val (.int ((p0 &&& (2147483647 : Int32)) - ((p0 &&& (2147483647 : Int32)) / (3 : Int32)) * (3 : Int32))), .unset, .unset, .unset, .unset] [(.int (114 : Int32))])
      exact B28 _ _ p0 p1 ((p0 &&& (2147483647 : Int32)) - ((p0 &&& (2147483647 : Int32)) / (3 : Int32)) * (3 : Int32)) (114 : Int32) X eT N hF
    · replace hF := hF.trans (if_neg q18)
      refine own_st (fun _ => XS.icmpYes X.here hx rfl (pc0 := 18) (pc' := 26) rfl (hb hby at_18) rfl (XT.ii_ne_t q18) (by decide) (by decide)) ?_
      show own_E p e below Qq T (mkF m 26 #[.val (.int p0), .val (.int p1), .val (.int ((p0 &&& (2147483647 : Int32)) - ((p0 &&& (2147483647 : Int32)) / (3 : Int32)) * (3 : Int32))), .unset, .unset, .unset, .unset] [])
      refine own_st (fun _ => XS.bipush X.here hx rfl (hb hby at_26)) ?_
      show own_E p e below Qq T (mkF m 28 #[.val (.int p0), .val (.int p1), .val (.int ((p0 &&& (2147483647 : Int32)) - ((p0 &&& (2147483647 : Int32)) / (3 : Int32)) * (3 : Int32))), .unset, .unset, .unset, .unset] [(.int (72 : Int32))])
      exact B28 _ _ p0 p1 ((p0 &&& (2147483647 : Int32)) - ((p0 &&& (2147483647 : Int32)) / (3 : Int32)) * (3 : Int32)) (72 : Int32) X eT N hF
theorem own_stat0 {args : Array Value} {s : State} (hn : narrow_1.value args s none s [] = some true) : ∃ x, (Term.static "org/jutewire/codec/HessianVersion" "V1" "Lorg/jutewire/codec/HessianVersion;").eval args s none [] s = some (.ref x) := exa_v (and_e hn).2
theorem own_stat1 {args : Array Value} {s : State} (hn : narrow_1.value args s none s [] = some true) : ∃ x, (Term.static "org/jutewire/codec/HessianVersion" "V2" "Lorg/jutewire/codec/HessianVersion;").eval args s none [] s = some (.ref x) := exa_v (and_e hn).1
theorem own_86 (x0 x1 x2 x3 x4 x5 : Int32) (v1 v2 : Addr) : F0_86 x0 x1 x2 x3 x4 x5 v1 v2 = 1 := by
  rw [F0_86]
  by_cases a : x5 = 99
  · have e : F1_0 x5 v1 v2 = .ref v1 := by rw [a, F1_0, if_neg (by decide), if_pos rfl, F1_36]
    rw [if_pos a, F0_100, if_pos e]; rfl
  · by_cases b : x5 = 114
    · have e : F1_0 x5 v1 v2 = .ref v1 := by rw [b, F1_0, if_neg (by decide), if_neg (by decide), if_pos rfl, F1_36]
      rw [if_neg a, if_pos b, F0_100, if_pos e]; rfl
    · by_cases c : x5 = 72
      · have e : F1_0 x5 v1 v2 = .ref v2 := by rw [c, F1_0, if_pos rfl]
        rw [if_neg a, if_neg b, if_pos c, if_pos e]; rfl
      · have e : F1_0 x5 v1 v2 = .null := by rw [F1_0, if_neg c, if_neg a, if_neg b]
        rw [if_neg a, if_neg b, if_neg c, if_pos e]; rfl
theorem own_28 (x0 x1 x2 x3 : Int32) (v1 v2 : Addr) : F0_28 x0 x1 x2 x3 v1 v2 = 1 := by
  unfold F0_28
  split
  · exact own_86 _ _ _ _ _ _ _ _
  · split
    · exact own_86 _ _ _ _ _ _ _ _
    · split
      · exact own_86 _ _ _ _ _ _ _ _
      · exact own_86 _ _ _ _ _ _ _ _
theorem own_law (p0 p1 : Int32) (v1 v2 : Addr) : F0_0 p0 p1 v1 v2 = 1 := by
  unfold F0_0
  split
  · exact own_28 _ _ _ _ _ _
  · split
    · exact own_28 _ _ _ _ _ _
    · exact own_28 _ _ _ _ _ _
set_option maxRecDepth 65536 in
set_option maxHeartbeats 40000000 in
theorem comes_1 {Post : Tables → Env → Array Value → State → Outcome → State → Prop} (hpost : ∀ tb e args s v u, (limb_1_1.after args s (.returned v) u = true ∧ limb_1_2.after args s (.returned v) u = true ∧ True) → FrameEnd s (.returned v) u (Jvm.fieldLocs frame_1_writes args s ++ Jvm.arrayLocs frame_1_arrays args s ++ Jvm.staticLocs frame_1_statics s) 0 0 → Post tb e args s (.returned v) u) :
    ArmFor flags0 classFile x code maxLocals ret World_1 tables_1 room_1 Calls_1 rest_1 Pre_1 Post := by
  intro l hfl _ _ p e ha hc hk s m args below hf hA hF happ hP
  obtain ⟨hcalls, hrest, hpre⟩ := hP
  obtain ⟨-, -, -, hnamed, -, -, -, hat⟩ := (Spec.applies_iff hf).mp happ
  obtain ⟨hg, hn⟩ := and_e (Cond.before_iff.mp (show (Jvm.Cond.and given_1 narrow_1).before args s = true from hpre))
  obtain ⟨g0, hg⟩ := and_e hg
  obtain ⟨w0, w1, rfl⟩ : ∃ w0 w1 : Value, args = #[w0, w1] := by
    have hs : args.size = 2 := by simpa [Cond.value, given_1] using g0
    obtain ⟨L⟩ := args
    match L, hs with
    | [w0, w1], _ => exact ⟨w0, w1, rfl⟩
  have hw := fun d (hd : d ∈ tables_1) => atoms_spec (ws := Jvm.Cond.code x code maxLocals ret :: tables_1) hat d (List.mem_cons_of_mem _ hd)
  obtain ⟨g1, hg⟩ := and_e hg
  have g2 := hg
  obtain ⟨i0, e0⟩ := is_v g1
  obtain rfl : w0 = (.int i0) := Option.some.inj e0
  obtain ⟨i1, e1⟩ := is_v g2
  obtain rfl : w1 = (.int i1) := Option.some.inj e1
  obtain ⟨j0, f0⟩ := own_stat0 hn
  have S0 := Sta.start f0 (Or.inr ⟨(hw _ (List.mem_of_getElem? (i := 3) rfl)), (hw _ (List.mem_of_getElem? (i := 9) rfl))⟩)
  obtain ⟨j1, f1⟩ := own_stat1 hn
  have S1 := Sta.start f1 (Or.inr ⟨(hw _ (List.mem_of_getElem? (i := 3) rfl)), (hw _ (List.mem_of_getElem? (i := 6) rfl))⟩)
  obtain ⟨n, o, h1, h2, h3, _, L, rfl, ⟨rfl, N, _⟩, hq⟩ := rm0 l s _ hw i0 i1 j0 j1 s.heap s.heap.size S0 S1 (Nat.le_refl _) tables_1 p e ha hc hk s m _ below hf ((Spec.applies_iff_loose hf).mp happ).1 ⟨rfl, State.Warmed39.refl s, rfl⟩ trivial
  refine ⟨n, _, h1, h2, h3, hpost _ _ _ _ _ _ ⟨Cond.after_iff.mpr rfl, Cond.after_iff.mpr (eq_i res_at (Term.int_eval (1)) (by rw [own_law i0 i1 j0 j1]) rfl), trivial⟩ ⟨hq.1, hq.2.1, (hq.2.2.sift fun y hy => Or.inr (N y hy)).mono (by decide) (by decide)⟩⟩
theorem main_1_1 : Claimed_1_1 := comes_1 fun _ _ _ _ _ _ h hF => ⟨h.1, hF⟩
theorem main_1_2 : Claimed_1_2 := comes_1 fun _ _ _ _ _ _ h hF => ⟨h.2.1, hF⟩
end Jvm.Pilot.@@N@@
namespace Jvm.Pilot.@@N@@
open Jvm Jvm.ClassFile Sem Op Lib Jvm.Free Jvm.Stand Jvm.Pilot.@@N@@.Jvm.D
/-! MADE BY PROGRAM (witnessworld.py) out of the Statement's table words and the real class files: 12 classes; the members and pool entries that the words name. The judged class is class 1, her method 1. -/
namespace start1
open Jvm.ClassFile
def u (s : String) : CpInfo := .utf8 (stringToUtf16 s)
/-- a pool by its gaps: so many unusable entries, then the entry; so many at the end -/
def gap : Nat → List CpInfo → List CpInfo
  | 0, r => r
  | n + 1, r => .unusable :: gap n r
def poolList (es : List (Nat × CpInfo)) (last : Nat) : List CpInfo := es.foldr (fun e r => gap e.1 (e.2 :: r)) (gap last [])
def pool (es : List (Nat × CpInfo)) (last : Nat) : Array CpInfo := ⟨poolList es last⟩
def fileOf (pool : Array CpInfo) (this : Nat) (attrs : Array Attribute := #[]) (ms : Array MethodInfo := #[]) (fl : Nat := 33) (sup : Nat := 0) (ifs : Array Nat := #[]) (fds : Array FieldInfo := #[]) : ClassFile where
  minorVersion := 0
  majorVersion := 65
  constantPool := pool
  accessFlags := fl
  thisClass := this
  superClass := sup
  interfaces := ifs
  fields := fds
  methods := ms
  attributes := attrs
def plain (name : String) (sup : Option ClassId) : Class where
  name := name
  kind := .ordinary
  loader := none
  accessFlags := 33
  super := sup
  interfaces := #[]
  cf := none
  fields := #[]
  methods := #[]
  instanceTypes := #[]
  staticTypes := #[]
  resolved := #[]
  callSites := []
  init := .initialized
  statics := none
  mirror := none

def pool0 : Array CpInfo := pool [(5, u "<init>"), (0, u "()V"), (1, .class_ 10), (1, u "java/lang/Object")] 113

def k0m0 : Method := { name := "<init>", desc := "()V", sig := { parameters := [], returnType := none }, accessFlags := 1, code := none }
/-- java/lang/Object -/
def k0 : Class := { plain "java/lang/Object" none with
  accessFlags := 33
  interfaces := #[]
  cf := some (fileOf pool0 8 #[] #[{ accessFlags := 1, nameIndex := 5, descriptorIndex := 6, attributes := #[] }] 33 0 #[] #[])
  fields := #[]
  methods := #[k0m0]
  instanceTypes := #[]
  staticTypes := #[]
  resolved := Array.replicate 124 none
  statics := none }

def pool1 : Array CpInfo := pool [(2, .class_ 4), (1, u "java/lang/Object"), (0, u "<init>"), (0, u "()V"), (0, .integer 2147483647), (0, .fieldref 9 10), (0, .class_ 11), (0, .nameAndType 12 13), (0, u "org/jutewire/codec/HessianVersion"), (0, u "V1"), (0, u "Lorg/jutewire/codec/HessianVersion;"), (0, .fieldref 9 15), (0, .nameAndType 16 13), (0, u "V2"), (0, .methodref 9 18), (0, .nameAndType 19 20), (0, u "ofFirstOctet"), (0, u "(I)Lorg/jutewire/codec/HessianVersion;"), (0, .class_ 22), (0, u "org/jutewire/codec/HessianVersionOfFirstOctetPinLaw"), (2, u "law"), (0, u "(II)Z")] 3

def k1m0 : Method := { name := "<init>", desc := "()V", sig := { parameters := [], returnType := none }, accessFlags := 1, code := none }
def k1c1 : Code := { maxStack := 2, maxLocals := 7, code := code, exceptionTable := #[], attributes := #[] }
def k1m1 : Method := { name := "law", desc := "(II)Z", sig := { parameters := [.int, .int], returnType := some .boolean }, accessFlags := 9, code := some k1c1 }
/-- org/jutewire/codec/HessianVersionOfFirstOctetPinLaw -/
def k1 : Class := { plain "org/jutewire/codec/HessianVersionOfFirstOctetPinLaw" (some 0) with
  accessFlags := 49
  interfaces := #[]
  cf := some (fileOf pool1 21 #[] #[{ accessFlags := 1, nameIndex := 5, descriptorIndex := 6, attributes := #[] }, { accessFlags := 9, nameIndex := 25, descriptorIndex := 26, attributes := #[] }] 49 2 #[] #[])
  fields := #[]
  methods := #[k1m0, k1m1]
  instanceTypes := #[]
  staticTypes := #[]
  resolved := Array.replicate 30 none
  statics := none }

def pool2 : Array CpInfo := pool [(1, .class_ 2), (0, u "java/lang/constant/Constable"), (0, .class_ 4), (0, u "java/lang/Object")] 6

/-- java/lang/constant/Constable -/
def k2 : Class := { plain "java/lang/constant/Constable" (some 0) with
  accessFlags := 1537
  interfaces := #[]
  cf := some (fileOf pool2 1 #[] #[] 1537 3 #[] #[])
  fields := #[]
  methods := #[]
  instanceTypes := #[]
  staticTypes := #[]
  resolved := Array.replicate 11 none
  statics := none }

def pool3 : Array CpInfo := pool [(1, .class_ 2), (0, u "java/lang/Comparable"), (0, .class_ 4), (0, u "java/lang/Object")] 7

/-- java/lang/Comparable -/
def k3 : Class := { plain "java/lang/Comparable" (some 0) with
  accessFlags := 1537
  interfaces := #[]
  cf := some (fileOf pool3 1 #[] #[] 1537 3 #[] #[])
  fields := #[]
  methods := #[]
  instanceTypes := #[]
  staticTypes := #[]
  resolved := Array.replicate 12 none
  statics := none }

def pool4 : Array CpInfo := pool [(1, .class_ 2), (0, u "java/io/Serializable"), (0, .class_ 4), (0, u "java/lang/Object")] 2

/-- java/io/Serializable -/
def k4 : Class := { plain "java/io/Serializable" (some 0) with
  accessFlags := 1537
  interfaces := #[]
  cf := some (fileOf pool4 1 #[] #[] 1537 3 #[] #[])
  fields := #[]
  methods := #[]
  instanceTypes := #[]
  staticTypes := #[]
  resolved := Array.replicate 7 none
  statics := none }

def pool5 : Array CpInfo := pool [(2, .class_ 4), (1, u "java/lang/Enum"), (0, u "name"), (0, u "Ljava/lang/String;"), (2, u "ordinal"), (0, u "I"), (1, .class_ 14), (1, u "java/lang/Object"), (4, u "hash"), (86, .class_ 108), (1, u "java/lang/Enum$EnumDesc"), (2, .class_ 112), (0, u "java/lang/constant/Constable"), (0, .class_ 114), (0, u "java/lang/Comparable"), (0, .class_ 116), (0, u "java/io/Serializable")] 87

/-- java/lang/Enum -/
def k5 : Class := { plain "java/lang/Enum" (some 0) with
  accessFlags := 1057
  interfaces := #[2, 3, 4]
  cf := some (fileOf pool5 2 #[.nestMembers #[106]] #[] 1057 12 #[111, 113, 115] #[{ accessFlags := 18, nameIndex := 5, descriptorIndex := 6, attributes := #[] }, { accessFlags := 18, nameIndex := 9, descriptorIndex := 10, attributes := #[] }, { accessFlags := 2, nameIndex := 19, descriptorIndex := 10, attributes := #[] }])
  fields := #[{ name := "name", type := (.object "java/lang/String"), accessFlags := 18, slot := 0, constantValue := 0 }, { name := "ordinal", type := .int, accessFlags := 18, slot := 1, constantValue := 0 }, { name := "hash", type := .int, accessFlags := 2, slot := 2, constantValue := 0 }]
  methods := #[]
  instanceTypes := #[(.object "java/lang/String"), .int, .int]
  staticTypes := #[]
  resolved := Array.replicate 204 none
  statics := none }

def pool6 : Array CpInfo := pool [(1, .class_ 2), (0, u "org/jutewire/codec/HessianVersion"), (0, .fieldref 1 4), (0, .nameAndType 5 6), (0, u "V1"), (0, u "Lorg/jutewire/codec/HessianVersion;"), (0, .fieldref 1 8), (0, .nameAndType 9 6), (0, u "V2"), (2, u "$VALUES"), (0, u "[Lorg/jutewire/codec/HessianVersion;"), (6, .class_ 22), (1, u "java/lang/Enum"), (14, u "ofFirstOctet"), (0, u "(I)Lorg/jutewire/codec/HessianVersion;")] 65

def k6c0 : Code := { maxStack := 1, maxLocals := 1, code := prog_61_method_5_code, exceptionTable := #[], attributes := #[] }
def k6m0 : Method := { name := "ofFirstOctet", desc := "(I)Lorg/jutewire/codec/HessianVersion;", sig := { parameters := [.int], returnType := some (.object "org/jutewire/codec/HessianVersion") }, accessFlags := 9, code := some k6c0 }
/-- org/jutewire/codec/HessianVersion -/
def k6 : Class := { plain "org/jutewire/codec/HessianVersion" (some 5) with
  accessFlags := 16433
  interfaces := #[]
  cf := some (fileOf pool6 1 #[] #[{ accessFlags := 9, nameIndex := 37, descriptorIndex := 38, attributes := #[] }] 16433 20 #[] #[{ accessFlags := 16409, nameIndex := 5, descriptorIndex := 6, attributes := #[] }, { accessFlags := 16409, nameIndex := 9, descriptorIndex := 6, attributes := #[] }, { accessFlags := 4122, nameIndex := 12, descriptorIndex := 13, attributes := #[] }])
  fields := #[{ name := "V1", type := (.object "org/jutewire/codec/HessianVersion"), accessFlags := 16409, slot := 0, constantValue := 0 }, { name := "V2", type := (.object "org/jutewire/codec/HessianVersion"), accessFlags := 16409, slot := 1, constantValue := 0 }, { name := "$VALUES", type := (.array (.object "org/jutewire/codec/HessianVersion")), accessFlags := 4122, slot := 2, constantValue := 0 }]
  methods := #[k6m0]
  instanceTypes := #[(.object "java/lang/String"), .int, .int]
  staticTypes := #[(.object "org/jutewire/codec/HessianVersion"), (.object "org/jutewire/codec/HessianVersion"), (.array (.object "org/jutewire/codec/HessianVersion"))]
  resolved := Array.replicate 104 none
  statics := some 0 }

def pool7 : Array CpInfo := pool [(1, u "java/lang/Cloneable"), (0, .class_ 1), (0, u "java/lang/Object"), (0, .class_ 3)] 3

/-- java/lang/Cloneable -/
def k7 : Class := { plain "java/lang/Cloneable" (some 0) with
  accessFlags := 1537
  interfaces := #[]
  cf := some (fileOf pool7 2 #[] #[] 1537 4 #[] #[])
  fields := #[]
  methods := #[]
  instanceTypes := #[]
  staticTypes := #[]
  resolved := Array.replicate 8 none
  statics := none }

/-- the primitive byte -/
def k8 : Class := { plain "byte" none with kind := .primitive 'B', accessFlags := 0x411 }
/-- [B -/
def k9 : Class := { plain "[B" (some 0) with kind := .array 8 .byte, interfaces := #[7, 4], accessFlags := 1041 }

/-- the primitive int -/
def k10 : Class := { plain "int" none with kind := .primitive 'I', accessFlags := 0x411 }
/-- [I -/
def k11 : Class := { plain "[I" (some 0) with kind := .array 10 .int, interfaces := #[7, 4], accessFlags := 1041 }

def heap : Heap := #[{ cls := 6, slots := #[.ref 1, .ref 2, .null], vm := .statics 6 },
  { cls := 6, slots := #[.null, .int 0, .int 0], vm := .none },
  { cls := 6, slots := #[.null, .int 1, .int 0], vm := .none }]
def classes : Array Class := #[k0, k1, k2, k3, k4, k5, k6, k7, k8, k9, k10, k11]
def interned : List (Array UInt16 × Addr) := []
def slotsUsed : Nat := 9
def theMethod : MethodId := ⟨1, 1⟩
def args0 : Array Value := #[.int 5, .int 5]
def aboutOver (below : List Frame) : State where
  vm := { classes := classes, interned := interned.toArray }
  heap := heap
  slotsUsed := slotsUsed
  threads := #[{ frames := .invoking theMethod args0 :: below }]
def below0 : List Frame := [.native { method := ⟨0, 0⟩, args := #[] }]
def about1 : State := aboutOver below0
def p0 : Program := .bare "" "" ""
def e0 : Env := launch0.env 0 0 0
theorem w_frames : about1.frames = Frame.invoking theMethod args0 :: below0 := rfl
set_option maxRecDepth 65536 in
theorem w_args : argsFit about1.vm theMethod args0 = true := by decide +kernel
set_option maxRecDepth 65536 in
theorem w_heap : heapFits about1 = true := by decide +kernel
set_option maxRecDepth 65536 in
theorem w_runnable : about1.curStatus? = some .runnable := by decide +kernel
set_option maxRecDepth 65536 in
theorem w_alone : about1.alone = true := by decide +kernel
set_option maxRecDepth 65536 in
theorem w_named : about1.methodNamed? x = some theMethod := by decide +kernel
set_option maxRecDepth 65536 in
theorem w_hears : about1.hears theMethod below0 = true := by decide +kernel
set_option maxRecDepth 65536 in
theorem w_ripe : about1.ripe theMethod args0 below0 = true := by decide +kernel
theorem w_running : about1.status = .running := rfl
set_option maxRecDepth 65536 in
theorem w_room : about1.hasRoom e0.platform room_1 = true :=
  launch0.hasRoom_least _ room_1 (by decide +kernel) (by decide +kernel) (by decide +kernel) (by decide +kernel) (by decide +kernel) (by decide +kernel)
theorem allAtoms_all (ts : List Jvm.Cond) (a : Array Jvm.Value) (st : Jvm.State) : (allAtoms ts).before a st = ts.all (fun c => c.before a st) := by
  induction ts with
  | nil => rfl
  | cons c t ih =>
    show (Jvm.Cond.and c (allAtoms t)).before a st = _
    rw [Jvm.Cond.before_and, ih, List.all_cons]
def words1 : List Jvm.Cond := Jvm.Cond.code x code maxLocals ret :: tables_1
/-- a 'code' word, met by the world's own term for the bytes: nothing is compared byte by byte -/
theorem code_word {y : MethodName} {bytes : ByteArray} {mx : Nat} {rt : Option FieldType} {a : Array Value} {s : State} {m : MethodId} {meth : Method} {c : Code} (h1 : s.methodNamed? y = some m) (h2 : s.vm.method? m = some meth) (h3 : meth.code = some c) (h4 : c.code = bytes)
    (h5 : (c.maxLocals == mx && c.exceptionTable.isEmpty && decide (c.maxStack ≤ mostOperands) && decide (meth.sig.returnType = rt) && !meth.locks && decide (parseMethodDescriptor y.desc = some meth.sig)) = true) : (Jvm.Cond.code y bytes mx rt).before a s = true := by
  simp only [Bool.and_eq_true, beq_iff_eq, Bool.not_eq_true', decide_eq_true_eq] at h5
  obtain ⟨⟨⟨⟨⟨g1, g2⟩, g3⟩, g4⟩, g5⟩, g6⟩ := h5
  simp [Cond.before, Cond.holds, Cond.value, h1, h2, h3, h4, g1, g2, g3, g4, g5, g6]
def isCode : Jvm.Cond → Bool
  | .code _ _ _ _ => true
  | _ => false
theorem all_split {L : List Jvm.Cond} {P : Jvm.Cond → Bool} (h1 : L.all (fun c => isCode c || P c) = true) (h2 : ∀ c ∈ L.filter isCode, P c = true) : L.all P = true := by
  refine List.all_eq_true.mpr fun c hc => ?_
  have h := List.all_eq_true.mp h1 c hc
  rcases Bool.eq_false_or_eq_true (isCode c) with hi | hi
  · exact h2 c (List.mem_filter.mpr ⟨hc, hi⟩)
  · simpa [hi] using h
set_option maxRecDepth 65536 in
theorem w_c0 : (Jvm.Cond.code x code maxLocals ret).before args0 about1 = true := code_word (m := ⟨1, 1⟩) (meth := k1m1) (c := k1c1) (by decide +kernel) rfl rfl rfl (by decide +kernel)
set_option maxRecDepth 65536 in
theorem w_c1 : (Jvm.Cond.code ({ cls := "org/jutewire/codec/HessianVersion", name := "ofFirstOctet", desc := "(I)Lorg/jutewire/codec/HessianVersion;" } : Jvm.MethodName) prog_61_method_5_code (1 : Nat) (Option.some (Jvm.ClassFile.FieldType.object "org/jutewire/codec/HessianVersion"))).before args0 about1 = true := code_word (m := ⟨6, 0⟩) (meth := k6m0) (c := k6c0) (by decide +kernel) rfl rfl rfl (by decide +kernel)
def codes1 : List Jvm.Cond := [Jvm.Cond.code x code maxLocals ret, Jvm.Cond.code ({ cls := "org/jutewire/codec/HessianVersion", name := "ofFirstOctet", desc := "(I)Lorg/jutewire/codec/HessianVersion;" } : Jvm.MethodName) prog_61_method_5_code (1 : Nat) (Option.some (Jvm.ClassFile.FieldType.object "org/jutewire/codec/HessianVersion"))]
set_option maxRecDepth 65536 in
theorem codes_eq : words1.filter isCode = codes1 := rfl
theorem w_codes : ∀ c ∈ words1.filter isCode, c.before args0 about1 = true := by
  rw [codes_eq]
  intro c hc
  simp only [codes1, List.mem_cons, List.not_mem_nil, or_false] at hc
  rcases hc with rfl | rfl
  · exact w_c0
  · exact w_c1
set_option maxRecDepth 65536 in
theorem w_t1 : words1.all (fun c => isCode c || c.before args0 about1) = true := by decide +kernel
theorem w_tables : (allAtoms (Jvm.Cond.code x code maxLocals ret :: tables_1)).before args0 about1 = true := by
  rw [allAtoms_all]
  show words1.all (fun c => c.before args0 about1) = true
  refine all_split ?_ w_codes
  rw [w_t1]
set_option maxRecDepth 65536 in
theorem w_case : (Jvm.Cond.and given_1 narrow_1).before args0 about1 = true := by decide +kernel
theorem w_applies : (headSpec (Jvm.Cond.code x code maxLocals ret :: tables_1) room_1).applies x e0.platform about1 = true :=
  (Spec.applies_iff w_frames).mpr ⟨w_running, w_runnable, w_alone, w_named, w_hears, w_ripe, w_room, w_tables⟩
theorem atStart : AtStart classFile x code maxLocals ret World_1 tables_1 room_1 Calls_1 rest_1 Pre_1 launch0 p0 e0 about1 theMethod args0 below0 :=
  ⟨lists_1, trivial, launch0.admits_env _ _ _, launch0.least_env, fairChoices_fair.cas, fairChoices_fair.clock, w_frames, w_args, w_heap, w_applies, trivial, trivial, w_case⟩
end start1
theorem witness_1 : WitnessClaimed_1 := ⟨start1.p0, start1.e0, start1.about1, start1.theMethod, start1.args0, start1.below0, start1.atStart⟩
end Jvm.Pilot.@@N@@
